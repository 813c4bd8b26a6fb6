import JvmDerived
import JvmDerived.Pilot.@@N@@Statement
import JvmDerived.Pilot.@@N@@Code
set_option linter.unusedVariables false
set_option linter.unusedSimpArgs false
namespace Jvm.RoadKit
open Sem ClassFile Op Lib Jvm.Stand Jvm.Free Jvm.LawKit
section New
variable {p : Program} {l : Launch} {e : Env} {R : Room} {s : State} {m : MethodId} {args : Array Value} {below : List Frame} {meth : Method} {c : Code} {T : State} {locs : List Loc} {cells slots : Nat}
theorem retI (X : Stand p l e R s m args below meth c T locs cells slots) (hx : p.tables.exec = Jvm.exec) {pc : Nat} {Ls : Array Slot} {z : Int32} {rest : List Value} (hret : meth.sig.returnType = some .int) (hd : decode c.code pc = .ok (.ireturn, 1)) {fs : List Frame}
    (hl : ∀ (f : JFrame) (acts : List Action), f.method = m → f.locked = none → f.entered = [] → (doReturn e (T.setTop f) acts (some (.int z))).1 = T.setFrames fs) : Steps p.tables e below (T.setTop (mkF m pc Ls (.int z :: rest))) (T.setFrames fs) := by
  have hm' : T.vm.method? m = some meth := X.method'
  have hn : narrow .int (.int z) = .int z := rfl
  show Steps p.tables e below (T.setTop { method := m, pc := pc, locals := Ls, stack := _ :: rest, locked := none }) _
  jvm_step X.here [X.here.top, hx, hd, hm', hret, hn]
  first | (intro acts; rw [hl _ acts rfl rfl rfl]) | rw [hl _ _ rfl rfl rfl]
  exact Steps.refl _
end New
end Jvm.RoadKit
namespace Jvm.Pilot.@@N@@
open Jvm Jvm.ClassFile Sem Op Lib Jvm.Free Jvm.Stand Jvm.LawKit Jvm.RoadKit Bundle Jvm.Pilot.@@N@@.Jvm.D
theorem own_tlt {a b : Int32} {x y : Int} (ha : a.toInt = x) (hb : b.toInt = y) (h : x < y) : if_icmp.holds .lt a b = true ∧ if_icmp.holds .ge a b = false ∧ if_icmp.holds .gt b a = true ∧ if_icmp.holds .le b a = false := tlt (Int32.lt_iff_toInt_lt.mpr (by rw [ha, hb]; exact h))
theorem own_flt {a b : Int32} {x y : Int} (ha : a.toInt = x) (hb : b.toInt = y) (h : ¬ x < y) : if_icmp.holds .lt a b = false ∧ if_icmp.holds .ge a b = true ∧ if_icmp.holds .gt b a = false ∧ if_icmp.holds .le b a = true := flt (fun q => h (by rw [← ha, ← hb]; exact Int32.lt_iff_toInt_lt.mp q))
theorem own_teq {a b : Int32} {x y : Int} (ha : a.toInt = x) (hb : b.toInt = y) (h : x = y) : if_icmp.holds .eq a b = true ∧ if_icmp.holds .ne a b = false := teq (Int32.toInt_inj.mp (by rw [ha, hb]; exact h))
theorem own_feq {a b : Int32} {x y : Int} (ha : a.toInt = x) (hb : b.toInt = y) (h : ¬ x = y) : if_icmp.holds .eq a b = false ∧ if_icmp.holds .ne a b = true := feq (fun q => h (by rw [← ha, ← hb, q]))
theorem own_if {cd : ClassFile.Cond} {x : Int32} {b : Bool} (h : if_icmp.holds cd x 0 = b) : ifCond.holds cd x = b := (if0 cd x).trans h
abbrev kc0 := jdk_43_method_13_code
abbrev kc1 := jdk_42_method_66_code
abbrev kc2 := jdk_42_method_152_code
abbrev kc3 := jdk_42_method_54_code
abbrev kc4 := jdk_41_method_11_code
abbrev kc5 := jdk_42_method_155_code
abbrev kc6 := jdk_42_method_154_code
abbrev kc7 := jdk_43_method_2_code
abbrev kc8 := jdk_42_method_56_code
abbrev kc9 := method_3_code
abbrev kc10 := method_4_code
abbrev kc11 := jdk_42_method_149_code
abbrev kc12 := jdk_42_method_3_code
abbrev kc13 := jdk_52_method_21_code
abbrev kc14 := jdk_52_method_16_code
abbrev kc15 := jdk_52_method_15_code
abbrev kc16 := method_5_code
abbrev kc17 := prog_80_method_4_code
set_option maxRecDepth 65536
set_option maxHeartbeats 40000000
theorem ow {Z : State} {a0 : Array Value} (hw : ∀ d ∈ tables_1, d.before a0 Z = true) (i : Nat) {d : Jvm.Cond} (q : tables_1[i]? = some d) : d.before a0 Z = true := hw d (List.mem_of_getElem? q)
abbrev oP (p : Program) (e : Env) (b : List Frame) (A B : State) : Prop := ∀ t, Steps p.tables e b A t → Steps p.tables e b B t
abbrev yn0 : MethodName := ⟨"java/lang/StringLatin1", "equals", "([B[B)Z"⟩
abbrev yn1 : MethodName := ⟨"java/lang/String", "equals", "(Ljava/lang/Object;)Z"⟩
abbrev yn2 : MethodName := ⟨"java/lang/String", "coder", "()B"⟩
abbrev yn3 : MethodName := ⟨"java/lang/String", "length", "()I"⟩
abbrev yn4 : MethodName := ⟨"jdk/internal/util/Preconditions", "checkIndex", "(IILjava/util/function/BiFunction;)I"⟩
abbrev yn5 : MethodName := ⟨"java/lang/String", "checkIndex", "(II)V"⟩
abbrev yn6 : MethodName := ⟨"java/lang/String", "isLatin1", "()Z"⟩
abbrev yn7 : MethodName := ⟨"java/lang/StringLatin1", "charAt", "([BI)C"⟩
abbrev yn8 : MethodName := ⟨"java/lang/String", "charAt", "(I)C"⟩
abbrev yn9 : MethodName := ⟨"com/example/attestbridge/attestbridge/sync/PermissionNamedPinLaw", "drawn", "(III)C"⟩
abbrev yn10 : MethodName := ⟨"com/example/attestbridge/attestbridge/sync/PermissionNamedPinLaw", "pick", "(Ljava/lang/String;IIIZI)C"⟩
abbrev yn11 : MethodName := ⟨"java/lang/String", "<init>", "([CIILjava/lang/Void;)V"⟩
abbrev yn12 : MethodName := ⟨"java/lang/String", "<init>", "([C)V"⟩
abbrev yn13 : MethodName := ⟨"java/lang/StringUTF16", "compress", "([CI[BII)I"⟩
abbrev yn14 : MethodName := ⟨"java/lang/StringUTF16", "compress", "([CII)[B"⟩
abbrev yn15 : MethodName := ⟨"java/lang/StringUTF16", "coderFromArrayLen", "([BI)B"⟩
abbrev yn16 : MethodName := ⟨"com/example/attestbridge/attestbridge/sync/PermissionNamedPinLaw", "make", "(ICCCCCCC)Ljava/lang/String;"⟩
abbrev yn17 : MethodName := ⟨"com/example/attestbridge/attestbridge/sync/Permission", "named", "(Ljava/lang/String;)Lcom/example/attestbridge/attestbridge/sync/Permission;"⟩
def own_EL : List (String × Nat) := [("com/example/attestbridge/attestbridge/sync/PermissionNamedPinLaw", 7), ("com/example/attestbridge/attestbridge/sync/PermissionNamedPinLaw", 9), ("com/example/attestbridge/attestbridge/sync/PermissionNamedPinLaw", 11), ("com/example/attestbridge/attestbridge/sync/PermissionNamedPinLaw", 13), ("java/lang/String", 7)]
theorem own_EW {Z : State} {a0 : Array Value} (hw : ∀ d ∈ tables_1, d.before a0 Z = true) : EW Z a0 own_EL := (EW.cons (text := "create") (ow hw 0 rfl) (by decide) (EW.cons (text := "read") (ow hw 98 rfl) (by decide) (EW.cons (text := "update") (ow hw 99 rfl) (by decide) (EW.cons (text := "delete") (ow hw 92 rfl) (by decide) (EW.cons (text := "") (ow hw 104 rfl) (by decide) EW.nil)))))
theorem own_wS {Z : State} {a0 : Array Value} (hw : ∀ d ∈ tables_1, d.before a0 Z = true) : ∀ a ∈ Bundle.stringAtoms, a.before a0 Z = true := by
  intro a ha
  simp only [Bundle.stringAtoms, List.mem_cons, List.not_mem_nil, or_false] at ha
  rcases ha with rfl | rfl | rfl | rfl | rfl | rfl | rfl
  · exact (ow hw 1 rfl)
  · exact (ow hw 2 rfl)
  · exact (ow hw 3 rfl)
  · exact (ow hw 4 rfl)
  · exact (ow hw 5 rfl)
  · exact (ow hw 6 rfl)
  · exact (ow hw 7 rfl)
def own_st (Z : State) (h : Heap) (vcs : Int32) (vf : Value) : Prop := Sta Z h "java/lang/String" "COMPACT_STRINGS" "Z" (.int vcs) ∧ ¬ vcs.toInt = 0 ∧ Sta Z h "jdk/internal/util/Preconditions" "SIOOBE_FORMATTER" "Ljava/util/function/BiFunction;" vf ∧ vf.isRef = true
theorem own_st_ext {Z : State} {h h' : Heap} {vcs : Int32} {vf : Value} (F : own_st Z h vcs vf) (E : Ext h h') : own_st Z h' vcs vf := ⟨F.1.ext E, F.2.1, F.2.2.1.ext E, F.2.2.2⟩
theorem own_st_wr {Z : State} {h h' : Heap} {a : Addr} {sl : Nat} {v : Value} {vcs : Int32} {vf : Value} (F : own_st Z h vcs vf) (W : Wr h h' a sl v) : own_st Z h' vcs vf := ⟨F.1.wr W, F.2.1, F.2.2.1.wr W, F.2.2.2⟩
theorem own_sta_keep {Z : State} {h h' : Heap} {ws : List Addr} {C n d : String} {v : Value} (F : Sta Z h C n d v) (K : Keep h h' ws) (hs : ∀ x ∈ ws, ∀ cell : Cell, h[x]? = some cell → cell.vm.isStatics = false) : Sta Z h' C n d v := by
  obtain ⟨cf, i, k, f, st, cell, h1, h2, h3, h4, h5, h6, h7⟩ := F
  refine ⟨cf, i, k, f, st, cell, h1, h2, h3, h4, K.2.1 st cell h5 (fun hm => ?_), h6, h7⟩
  have q := hs st hm cell h5
  rw [q] at h6; cases h6
theorem own_st_keep {Z : State} {h h' : Heap} {ws : List Addr} {vcs : Int32} {vf : Value} (F : own_st Z h vcs vf) (K : Keep h h' ws) (hs : ∀ x ∈ ws, ∀ cell : Cell, h[x]? = some cell → cell.vm.isStatics = false) : own_st Z h' vcs vf := ⟨own_sta_keep F.1 K hs, F.2.1, own_sta_keep F.2.2.1 K hs, F.2.2.2⟩
theorem own_narc (x : Int32) (h1 : 0 ≤ x.toInt) (h2 : x.toInt < 65536) : nar .char x = x := by
  have e : nar .char x = x.toUInt32.toUInt16.toUInt32.toInt32 := rfl
  have q := c_i2c x
  rw [e]; apply Int32.toInt_inj.mp; omega
theorem own_b2 (c : Int32) (h1 : 0 ≤ c.toInt) (h2 : c.toInt ≤ 255) : (nar .byte c.toInt8.toInt32).toInt % 256 = c.toInt := by
  have e : nar .byte c.toInt8.toInt32 = c.toInt8.toInt32.toInt8.toInt32 := rfl
  have q := c_i2b c; have q2 := c_i2b c.toInt8.toInt32
  rw [e]; omega
theorem own_narcZ (x : Int32) : (nar .char x).toInt = x.toInt % 65536 := by
  have e : nar .char x = x.toUInt32.toUInt16.toUInt32.toInt32 := rfl
  have q := c_i2c x
  rw [e]; omega
theorem own_nat {j : Int32} {n : Nat} (h : j.toInt = (n : Int)) : j.toNatClampNeg = n := by
  unfold Int32.toNatClampNeg; rw [h]; rfl
theorem own_fld_inj {Z : State} {h : Heap} {a : Addr} {C n d : String} {v w : Value} (F : Fld Z h a C n d v) (G : Fld Z h a C n d w) : v = w := Classical.byContradiction fun q => F.ne G q rfl
theorem own_arv_inj {Z : State} {h : Heap} {a : Addr} {k k' : ClassId} {ty ty' : FieldType} {n n' : Int32} {vs vs' : List Value} {d d' : Value} (A : Arv Z h a k ty n vs d) (B : Arv Z h a k' ty' n' vs' d') : n.toNatClampNeg = n'.toNatClampNeg ∧ ∀ i, i < n.toNatClampNeg → vs.getD i d = vs'.getD i d' := by
  obtain ⟨c, A1, -, A3, -, A5, -⟩ := A
  obtain ⟨c', B1, -, B3, -, B5, -⟩ := B
  obtain rfl : c = c' := Option.some.inj (A1.1.symm.trans B1.1)
  refine ⟨A3.symm.trans B3, fun i hi => ?_⟩
  have hi' : i < c.slots.size := by rw [A3]; exact hi
  exact Option.some.inj ((A5 i hi').symm.trans (B5 i hi'))
theorem own_same {Z : State} {h : Heap} {oa la ob lb : Addr} {C n d : String} (e : oa = la) (F : Fld Z h oa C n d (.ref ob)) (G : Fld Z h la C n d (.ref lb)) : ob = lb := by
  subst e
  have q := own_fld_inj F G
  exact Value.ref.inj q
theorem own_ne_len {Z : State} {h : Heap} {oa la ob lb : Addr} {C n d : String} {k k' : ClassId} {ty ty' : FieldType} {z z' : Int32} {vs vs' : List Value} {e e' : Value} (F : Fld Z h oa C n d (.ref ob)) (G : Fld Z h la C n d (.ref lb)) (A : Arv Z h ob k ty z vs e) (B : Arv Z h lb k' ty' z' vs' e') (hn : z.toNatClampNeg ≠ z'.toNatClampNeg) : oa ≠ la := fun q => by
  have w := own_same q F G
  subst w
  exact hn (own_arv_inj A B).1
theorem own_ne_cod {Z : State} {h : Heap} {oa la : Addr} {C n d : String} (F : Fld Z h oa C n d (.int 1)) (G : Fld Z h la C n d (.int 0)) : oa ≠ la := F.ne G (fun q => absurd (Value.int.inj q) (by decide))
theorem own_byte {Z : State} {h : Heap} {a : Addr} {k : ClassId} {n b : Int32} {vs : List Value} {d : Value} (A : Arv Z h a k .byte n vs d) (i : Nat) (hi : i < n.toNatClampNeg) (e : vs.getD i d = .int b) : -128 ≤ b.toInt ∧ b.toInt ≤ 127 := by
  obtain ⟨c, A1, -, A3, -, A5, A6⟩ := A
  have q := A6 i (by rw [A3]; exact hi)
  rw [e] at q
  have q2 : (-128 : Int32) ≤ b ∧ b ≤ (127 : Int32) := by simpa [fits] using q
  have q3 := Int32.le_iff_toInt_le.mp q2.1; have q4 := Int32.le_iff_toInt_le.mp q2.2
  have k1 : (-128 : Int32).toInt = -128 := (by decide); have k2 : (127 : Int32).toInt = 127 := (by decide)
  omega
def own_pm (Z : State) (h : Heap) (pA : Addr) (kA : ClassId) (pp ww bb : Nat → Addr) (kk : Nat → ClassId) : Prop := Sta Z h "com/example/attestbridge/attestbridge/sync/Permission" "ALL" "[Lcom/example/attestbridge/attestbridge/sync/Permission;" (.ref pA) ∧ Sta Z h "com/example/attestbridge/attestbridge/sync/Permission" "CREATE" "Lcom/example/attestbridge/attestbridge/sync/Permission;" (.ref (pp 0)) ∧ Sta Z h "com/example/attestbridge/attestbridge/sync/Permission" "READ" "Lcom/example/attestbridge/attestbridge/sync/Permission;" (.ref (pp 1)) ∧ Sta Z h "com/example/attestbridge/attestbridge/sync/Permission" "UPDATE" "Lcom/example/attestbridge/attestbridge/sync/Permission;" (.ref (pp 2)) ∧ Sta Z h "com/example/attestbridge/attestbridge/sync/Permission" "DELETE" "Lcom/example/attestbridge/attestbridge/sync/Permission;" (.ref (pp 3)) ∧ Arv Z h pA kA (.object "com/example/attestbridge/attestbridge/sync/Permission") (4 : Int32) [(.ref (pp 0)), (.ref (pp 1)), (.ref (pp 2)), (.ref (pp 3))] .null ∧ Exa Z h (pp 0) "com/example/attestbridge/attestbridge/sync/Permission" ∧ Fld Z h (pp 0) "com/example/attestbridge/attestbridge/sync/Permission" "word" "Ljava/lang/String;" (.ref (ww 0)) ∧ Exa Z h (ww 0) "java/lang/String" ∧ Fld Z h (ww 0) "java/lang/String" "coder" "B" (.int 0) ∧ Fld Z h (ww 0) "java/lang/String" "value" "[B" (.ref (bb 0)) ∧ Arv Z h (bb 0) (kk 0) .byte (6 : Int32) [(.int 99), (.int 114), (.int 101), (.int 97), (.int 116), (.int 101)] (.int 0) ∧ Exa Z h (pp 1) "com/example/attestbridge/attestbridge/sync/Permission" ∧ Fld Z h (pp 1) "com/example/attestbridge/attestbridge/sync/Permission" "word" "Ljava/lang/String;" (.ref (ww 1)) ∧ Exa Z h (ww 1) "java/lang/String" ∧ Fld Z h (ww 1) "java/lang/String" "coder" "B" (.int 0) ∧ Fld Z h (ww 1) "java/lang/String" "value" "[B" (.ref (bb 1)) ∧ Arv Z h (bb 1) (kk 1) .byte (4 : Int32) [(.int 114), (.int 101), (.int 97), (.int 100)] (.int 0) ∧ Exa Z h (pp 2) "com/example/attestbridge/attestbridge/sync/Permission" ∧ Fld Z h (pp 2) "com/example/attestbridge/attestbridge/sync/Permission" "word" "Ljava/lang/String;" (.ref (ww 2)) ∧ Exa Z h (ww 2) "java/lang/String" ∧ Fld Z h (ww 2) "java/lang/String" "coder" "B" (.int 0) ∧ Fld Z h (ww 2) "java/lang/String" "value" "[B" (.ref (bb 2)) ∧ Arv Z h (bb 2) (kk 2) .byte (6 : Int32) [(.int 117), (.int 112), (.int 100), (.int 97), (.int 116), (.int 101)] (.int 0) ∧ Exa Z h (pp 3) "com/example/attestbridge/attestbridge/sync/Permission" ∧ Fld Z h (pp 3) "com/example/attestbridge/attestbridge/sync/Permission" "word" "Ljava/lang/String;" (.ref (ww 3)) ∧ Exa Z h (ww 3) "java/lang/String" ∧ Fld Z h (ww 3) "java/lang/String" "coder" "B" (.int 0) ∧ Fld Z h (ww 3) "java/lang/String" "value" "[B" (.ref (bb 3)) ∧ Arv Z h (bb 3) (kk 3) .byte (6 : Int32) [(.int 100), (.int 101), (.int 108), (.int 101), (.int 116), (.int 101)] (.int 0)
theorem own_pm_ext {Z : State} {h h' : Heap} {pA : Addr} {kA : ClassId} {pp ww bb : Nat → Addr} {kk : Nat → ClassId} (F : own_pm Z h pA kA pp ww bb kk) (E : Ext h h') : own_pm Z h' pA kA pp ww bb kk := ⟨F.1.ext E, F.2.1.ext E, F.2.2.1.ext E, F.2.2.2.1.ext E, F.2.2.2.2.1.ext E, F.2.2.2.2.2.1.ext E, F.2.2.2.2.2.2.1.ext E, F.2.2.2.2.2.2.2.1.ext E, F.2.2.2.2.2.2.2.2.1.ext E, F.2.2.2.2.2.2.2.2.2.1.ext E, F.2.2.2.2.2.2.2.2.2.2.1.ext E, F.2.2.2.2.2.2.2.2.2.2.2.1.ext E, F.2.2.2.2.2.2.2.2.2.2.2.2.1.ext E, F.2.2.2.2.2.2.2.2.2.2.2.2.2.1.ext E, F.2.2.2.2.2.2.2.2.2.2.2.2.2.2.1.ext E, F.2.2.2.2.2.2.2.2.2.2.2.2.2.2.2.1.ext E, F.2.2.2.2.2.2.2.2.2.2.2.2.2.2.2.2.1.ext E, F.2.2.2.2.2.2.2.2.2.2.2.2.2.2.2.2.2.1.ext E, F.2.2.2.2.2.2.2.2.2.2.2.2.2.2.2.2.2.2.1.ext E, F.2.2.2.2.2.2.2.2.2.2.2.2.2.2.2.2.2.2.2.1.ext E, F.2.2.2.2.2.2.2.2.2.2.2.2.2.2.2.2.2.2.2.2.1.ext E, F.2.2.2.2.2.2.2.2.2.2.2.2.2.2.2.2.2.2.2.2.2.1.ext E, F.2.2.2.2.2.2.2.2.2.2.2.2.2.2.2.2.2.2.2.2.2.2.1.ext E, F.2.2.2.2.2.2.2.2.2.2.2.2.2.2.2.2.2.2.2.2.2.2.2.1.ext E, F.2.2.2.2.2.2.2.2.2.2.2.2.2.2.2.2.2.2.2.2.2.2.2.2.1.ext E, F.2.2.2.2.2.2.2.2.2.2.2.2.2.2.2.2.2.2.2.2.2.2.2.2.2.1.ext E, F.2.2.2.2.2.2.2.2.2.2.2.2.2.2.2.2.2.2.2.2.2.2.2.2.2.2.1.ext E, F.2.2.2.2.2.2.2.2.2.2.2.2.2.2.2.2.2.2.2.2.2.2.2.2.2.2.2.1.ext E, F.2.2.2.2.2.2.2.2.2.2.2.2.2.2.2.2.2.2.2.2.2.2.2.2.2.2.2.2.1.ext E, F.2.2.2.2.2.2.2.2.2.2.2.2.2.2.2.2.2.2.2.2.2.2.2.2.2.2.2.2.2.ext E⟩
theorem own_pm_keep {Z : State} {h h' : Heap} {pA : Addr} {kA : ClassId} {pp ww bb : Nat → Addr} {kk : Nat → ClassId} (F : own_pm Z h pA kA pp ww bb kk) (K : Keep h h' []) : own_pm Z h' pA kA pp ww bb kk := ⟨own_sta_keep F.1 K (fun _ q => nomatch q), own_sta_keep F.2.1 K (fun _ q => nomatch q), own_sta_keep F.2.2.1 K (fun _ q => nomatch q), own_sta_keep F.2.2.2.1 K (fun _ q => nomatch q), own_sta_keep F.2.2.2.2.1 K (fun _ q => nomatch q), F.2.2.2.2.2.1.keep K nin0, F.2.2.2.2.2.2.1.keep K, F.2.2.2.2.2.2.2.1.keep K nin0, F.2.2.2.2.2.2.2.2.1.keep K, F.2.2.2.2.2.2.2.2.2.1.keep K nin0, F.2.2.2.2.2.2.2.2.2.2.1.keep K nin0, F.2.2.2.2.2.2.2.2.2.2.2.1.keep K nin0, F.2.2.2.2.2.2.2.2.2.2.2.2.1.keep K, F.2.2.2.2.2.2.2.2.2.2.2.2.2.1.keep K nin0, F.2.2.2.2.2.2.2.2.2.2.2.2.2.2.1.keep K, F.2.2.2.2.2.2.2.2.2.2.2.2.2.2.2.1.keep K nin0, F.2.2.2.2.2.2.2.2.2.2.2.2.2.2.2.2.1.keep K nin0, F.2.2.2.2.2.2.2.2.2.2.2.2.2.2.2.2.2.1.keep K nin0, F.2.2.2.2.2.2.2.2.2.2.2.2.2.2.2.2.2.2.1.keep K, F.2.2.2.2.2.2.2.2.2.2.2.2.2.2.2.2.2.2.2.1.keep K nin0, F.2.2.2.2.2.2.2.2.2.2.2.2.2.2.2.2.2.2.2.2.1.keep K, F.2.2.2.2.2.2.2.2.2.2.2.2.2.2.2.2.2.2.2.2.2.1.keep K nin0, F.2.2.2.2.2.2.2.2.2.2.2.2.2.2.2.2.2.2.2.2.2.2.1.keep K nin0, F.2.2.2.2.2.2.2.2.2.2.2.2.2.2.2.2.2.2.2.2.2.2.2.1.keep K nin0, F.2.2.2.2.2.2.2.2.2.2.2.2.2.2.2.2.2.2.2.2.2.2.2.2.1.keep K, F.2.2.2.2.2.2.2.2.2.2.2.2.2.2.2.2.2.2.2.2.2.2.2.2.2.1.keep K nin0, F.2.2.2.2.2.2.2.2.2.2.2.2.2.2.2.2.2.2.2.2.2.2.2.2.2.2.1.keep K, F.2.2.2.2.2.2.2.2.2.2.2.2.2.2.2.2.2.2.2.2.2.2.2.2.2.2.2.1.keep K nin0, F.2.2.2.2.2.2.2.2.2.2.2.2.2.2.2.2.2.2.2.2.2.2.2.2.2.2.2.2.1.keep K nin0, F.2.2.2.2.2.2.2.2.2.2.2.2.2.2.2.2.2.2.2.2.2.2.2.2.2.2.2.2.2.keep K nin0⟩
theorem own_pm0 {s : State} {args : Array Value} (hfit : Fit s) (hn : narrow_1.value args s none s [] = some true) (hw : ∀ d ∈ tables_1, d.before args s = true) : ∃ (pA : Addr) (kA : ClassId) (pp ww bb : Nat → Addr) (kk : Nat → ClassId), own_pm s s.heap pA kA pp ww bb kk := by
  have r0 := hn
  obtain ⟨n0, r1⟩ := and_e r0
  obtain ⟨n1, r2⟩ := and_e r1
  obtain ⟨n2, r3⟩ := and_e r2
  obtain ⟨n3, r4⟩ := and_e r3
  obtain ⟨n4, r5⟩ := and_e r4
  obtain ⟨n5, r6⟩ := and_e r5
  obtain ⟨n6, r7⟩ := and_e r6
  obtain ⟨n7, r8⟩ := and_e r7
  obtain ⟨n8, r9⟩ := and_e r8
  obtain ⟨n9, r10⟩ := and_e r9
  obtain ⟨n10, r11⟩ := and_e r10
  obtain ⟨n11, r12⟩ := and_e r11
  obtain ⟨n12, r13⟩ := and_e r12
  obtain ⟨n13, r14⟩ := and_e r13
  obtain ⟨n14, r15⟩ := and_e r14
  obtain ⟨n15, r16⟩ := and_e r15
  obtain ⟨n16, r17⟩ := and_e r16
  obtain ⟨n17, r18⟩ := and_e r17
  obtain ⟨n18, r19⟩ := and_e r18
  obtain ⟨n19, r20⟩ := and_e r19
  obtain ⟨n20, r21⟩ := and_e r20
  obtain ⟨n21, r22⟩ := and_e r21
  obtain ⟨n22, r23⟩ := and_e r22
  obtain ⟨n23, r24⟩ := and_e r23
  obtain ⟨n24, r25⟩ := and_e r24
  obtain ⟨n25, r26⟩ := and_e r25
  obtain ⟨n26, r27⟩ := and_e r26
  obtain ⟨n27, r28⟩ := and_e r27
  obtain ⟨n28, r29⟩ := and_e r28
  obtain ⟨n29, r30⟩ := and_e r29
  obtain ⟨n30, r31⟩ := and_e r30
  obtain ⟨n31, r32⟩ := and_e r31
  obtain ⟨n32, r33⟩ := and_e r32
  obtain ⟨n33, r34⟩ := and_e r33
  obtain ⟨n34, r35⟩ := and_e r34
  obtain ⟨n35, r36⟩ := and_e r35
  obtain ⟨n36, r37⟩ := and_e r36
  obtain ⟨n37, r38⟩ := and_e r37
  obtain ⟨n38, r39⟩ := and_e r38
  obtain ⟨n39, r40⟩ := and_e r39
  obtain ⟨n40, r41⟩ := and_e r40
  obtain ⟨n41, r42⟩ := and_e r41
  obtain ⟨n42, r43⟩ := and_e r42
  obtain ⟨n43, r44⟩ := and_e r43
  obtain ⟨n44, r45⟩ := and_e r44
  obtain ⟨n45, r46⟩ := and_e r45
  obtain ⟨n46, r47⟩ := and_e r46
  have n47 := r47
  obtain ⟨pA, epA⟩ := arr_v n0
  obtain ⟨clpA, ArpA⟩ := Arr.start epA n0
  have hlpA := Cond.eq_int (Cond.before_iff.mpr n1) rfl
  have hapA : s.arrayAt? pA = some clpA := Arr.fin (Vm.Alike.refl _) ArpA
  have h31pA : clpA.slots.size < 2 ^ 31 := Jvm.Free.SBG.length_lt epA hapA hlpA
  have hzpA : clpA.slots.size.toInt32 = (4 : Int32) := by
    have q := (len_f epA hapA h31pA).symm.trans hlpA
    simpa using q
  obtain ⟨p0, ep0⟩ := exa_v n2
  have xp0 := Exa.start ep0 n2
  have el0 := (elem_in (Cond.eq_refs (Cond.before_iff.mpr n3) ep0 rfl) epA rfl ArpA.1).2
  obtain ⟨w0, ew0⟩ := exa_v n4
  have xw0 := Exa.start ew0 n4
  have fw0 : Fld s s.heap p0 "com/example/attestbridge/attestbridge/sync/Permission" "word" "Ljava/lang/String;" (.ref w0) := Fld.start (by rw [← fld_at ep0]; exact ew0)
  have fc0 : Fld s s.heap w0 "java/lang/String" "coder" "B" (.int 0) := Fld.start (by rw [← fld_at ew0]; exact Cond.eq_int (Cond.before_iff.mpr n14) rfl)
  obtain ⟨b0, eb0⟩ := arr_v n15
  have fv0 : Fld s s.heap w0 "java/lang/String" "value" "[B" (.ref b0) := Fld.start (by rw [← fld_at ew0]; exact eb0)
  obtain ⟨clb0, Arb0⟩ := Arr.start eb0 n15
  have hlb0 := Cond.eq_int (Cond.before_iff.mpr n16) rfl
  have hab0 : s.arrayAt? b0 = some clb0 := Arr.fin (Vm.Alike.refl _) Arb0
  have h31b0 : clb0.slots.size < 2 ^ 31 := Jvm.Free.SBG.length_lt eb0 hab0 hlb0
  have hzb0 : clb0.slots.size.toInt32 = (6 : Int32) := by
    have q := (len_f eb0 hab0 h31b0).symm.trans hlb0
    simpa using q
  obtain ⟨p1, ep1⟩ := exa_v n5
  have xp1 := Exa.start ep1 n5
  have el1 := (elem_in (Cond.eq_refs (Cond.before_iff.mpr n6) ep1 rfl) epA rfl ArpA.1).2
  obtain ⟨w1, ew1⟩ := exa_v n7
  have xw1 := Exa.start ew1 n7
  have fw1 : Fld s s.heap p1 "com/example/attestbridge/attestbridge/sync/Permission" "word" "Ljava/lang/String;" (.ref w1) := Fld.start (by rw [← fld_at ep1]; exact ew1)
  have fc1 : Fld s s.heap w1 "java/lang/String" "coder" "B" (.int 0) := Fld.start (by rw [← fld_at ew1]; exact Cond.eq_int (Cond.before_iff.mpr n17) rfl)
  obtain ⟨b1, eb1⟩ := arr_v n18
  have fv1 : Fld s s.heap w1 "java/lang/String" "value" "[B" (.ref b1) := Fld.start (by rw [← fld_at ew1]; exact eb1)
  obtain ⟨clb1, Arb1⟩ := Arr.start eb1 n18
  have hlb1 := Cond.eq_int (Cond.before_iff.mpr n19) rfl
  have hab1 : s.arrayAt? b1 = some clb1 := Arr.fin (Vm.Alike.refl _) Arb1
  have h31b1 : clb1.slots.size < 2 ^ 31 := Jvm.Free.SBG.length_lt eb1 hab1 hlb1
  have hzb1 : clb1.slots.size.toInt32 = (4 : Int32) := by
    have q := (len_f eb1 hab1 h31b1).symm.trans hlb1
    simpa using q
  obtain ⟨p2, ep2⟩ := exa_v n8
  have xp2 := Exa.start ep2 n8
  have el2 := (elem_in (Cond.eq_refs (Cond.before_iff.mpr n9) ep2 rfl) epA rfl ArpA.1).2
  obtain ⟨w2, ew2⟩ := exa_v n10
  have xw2 := Exa.start ew2 n10
  have fw2 : Fld s s.heap p2 "com/example/attestbridge/attestbridge/sync/Permission" "word" "Ljava/lang/String;" (.ref w2) := Fld.start (by rw [← fld_at ep2]; exact ew2)
  have fc2 : Fld s s.heap w2 "java/lang/String" "coder" "B" (.int 0) := Fld.start (by rw [← fld_at ew2]; exact Cond.eq_int (Cond.before_iff.mpr n20) rfl)
  obtain ⟨b2, eb2⟩ := arr_v n21
  have fv2 : Fld s s.heap w2 "java/lang/String" "value" "[B" (.ref b2) := Fld.start (by rw [← fld_at ew2]; exact eb2)
  obtain ⟨clb2, Arb2⟩ := Arr.start eb2 n21
  have hlb2 := Cond.eq_int (Cond.before_iff.mpr n22) rfl
  have hab2 : s.arrayAt? b2 = some clb2 := Arr.fin (Vm.Alike.refl _) Arb2
  have h31b2 : clb2.slots.size < 2 ^ 31 := Jvm.Free.SBG.length_lt eb2 hab2 hlb2
  have hzb2 : clb2.slots.size.toInt32 = (6 : Int32) := by
    have q := (len_f eb2 hab2 h31b2).symm.trans hlb2
    simpa using q
  obtain ⟨p3, ep3⟩ := exa_v n11
  have xp3 := Exa.start ep3 n11
  have el3 := (elem_in (Cond.eq_refs (Cond.before_iff.mpr n12) ep3 rfl) epA rfl ArpA.1).2
  obtain ⟨w3, ew3⟩ := exa_v n13
  have xw3 := Exa.start ew3 n13
  have fw3 : Fld s s.heap p3 "com/example/attestbridge/attestbridge/sync/Permission" "word" "Ljava/lang/String;" (.ref w3) := Fld.start (by rw [← fld_at ep3]; exact ew3)
  have fc3 : Fld s s.heap w3 "java/lang/String" "coder" "B" (.int 0) := Fld.start (by rw [← fld_at ew3]; exact Cond.eq_int (Cond.before_iff.mpr n23) rfl)
  obtain ⟨b3, eb3⟩ := arr_v n24
  have fv3 : Fld s s.heap w3 "java/lang/String" "value" "[B" (.ref b3) := Fld.start (by rw [← fld_at ew3]; exact eb3)
  obtain ⟨clb3, Arb3⟩ := Arr.start eb3 n24
  have hlb3 := Cond.eq_int (Cond.before_iff.mpr n25) rfl
  have hab3 : s.arrayAt? b3 = some clb3 := Arr.fin (Vm.Alike.refl _) Arb3
  have h31b3 : clb3.slots.size < 2 ^ 31 := Jvm.Free.SBG.length_lt eb3 hab3 hlb3
  have hzb3 : clb3.slots.size.toInt32 = (6 : Int32) := by
    have q := (len_f eb3 hab3 h31b3).symm.trans hlb3
    simpa using q
  have z0_0 := (elem_in (Cond.eq_int (Cond.before_iff.mpr n30) rfl) eb0 rfl Arb0.1).2
  have z0_1 := (elem_in (Cond.eq_int (Cond.before_iff.mpr n31) rfl) eb0 rfl Arb0.1).2
  have z0_2 := (elem_in (Cond.eq_int (Cond.before_iff.mpr n32) rfl) eb0 rfl Arb0.1).2
  have z0_3 := (elem_in (Cond.eq_int (Cond.before_iff.mpr n33) rfl) eb0 rfl Arb0.1).2
  have z0_4 := (elem_in (Cond.eq_int (Cond.before_iff.mpr n34) rfl) eb0 rfl Arb0.1).2
  have z0_5 := (elem_in (Cond.eq_int (Cond.before_iff.mpr n35) rfl) eb0 rfl Arb0.1).2
  have z1_0 := (elem_in (Cond.eq_int (Cond.before_iff.mpr n26) rfl) eb1 rfl Arb1.1).2
  have z1_1 := (elem_in (Cond.eq_int (Cond.before_iff.mpr n27) rfl) eb1 rfl Arb1.1).2
  have z1_2 := (elem_in (Cond.eq_int (Cond.before_iff.mpr n28) rfl) eb1 rfl Arb1.1).2
  have z1_3 := (elem_in (Cond.eq_int (Cond.before_iff.mpr n29) rfl) eb1 rfl Arb1.1).2
  have z2_0 := (elem_in (Cond.eq_int (Cond.before_iff.mpr n36) rfl) eb2 rfl Arb2.1).2
  have z2_1 := (elem_in (Cond.eq_int (Cond.before_iff.mpr n37) rfl) eb2 rfl Arb2.1).2
  have z2_2 := (elem_in (Cond.eq_int (Cond.before_iff.mpr n38) rfl) eb2 rfl Arb2.1).2
  have z2_3 := (elem_in (Cond.eq_int (Cond.before_iff.mpr n39) rfl) eb2 rfl Arb2.1).2
  have z2_4 := (elem_in (Cond.eq_int (Cond.before_iff.mpr n40) rfl) eb2 rfl Arb2.1).2
  have z2_5 := (elem_in (Cond.eq_int (Cond.before_iff.mpr n41) rfl) eb2 rfl Arb2.1).2
  have z3_0 := (elem_in (Cond.eq_int (Cond.before_iff.mpr n42) rfl) eb3 rfl Arb3.1).2
  have z3_1 := (elem_in (Cond.eq_int (Cond.before_iff.mpr n43) rfl) eb3 rfl Arb3.1).2
  have z3_2 := (elem_in (Cond.eq_int (Cond.before_iff.mpr n44) rfl) eb3 rfl Arb3.1).2
  have z3_3 := (elem_in (Cond.eq_int (Cond.before_iff.mpr n45) rfl) eb3 rfl Arb3.1).2
  have z3_4 := (elem_in (Cond.eq_int (Cond.before_iff.mpr n46) rfl) eb3 rfl Arb3.1).2
  have z3_5 := (elem_in (Cond.eq_int (Cond.before_iff.mpr n47) rfl) eb3 rfl Arb3.1).2
  exact ⟨pA, clpA.cls, (fun i => match i with | 0 => p0 | 1 => p1 | 2 => p2 | _ => p3), (fun i => match i with | 0 => w0 | 1 => w1 | 2 => w2 | _ => w3), (fun i => match i with | 0 => b0 | 1 => b1 | 2 => b2 | _ => b3), (fun i => match i with | 0 => clb0.cls | 1 => clb1.cls | 2 => clb2.cls | _ => clb3.cls), Sta.start epA (Or.inr ⟨(ow hw 77 rfl), (ow hw 80 rfl)⟩), Sta.start ep0 (Or.inr ⟨(ow hw 77 rfl), (ow hw 81 rfl)⟩), Sta.start ep1 (Or.inr ⟨(ow hw 77 rfl), (ow hw 89 rfl)⟩), Sta.start ep2 (Or.inr ⟨(ow hw 77 rfl), (ow hw 90 rfl)⟩), Sta.start ep3 (Or.inr ⟨(ow hw 77 rfl), (ow hw 91 rfl)⟩), Arv.start hfit ArpA h31pA hzpA (by decide) rfl ⟨el0, el1, el2, el3, trivial⟩, xp0, fw0, xw0, fc0, fv0, Arv.start hfit Arb0 h31b0 hzb0 (by decide) rfl ⟨z0_0, z0_1, z0_2, z0_3, z0_4, z0_5, trivial⟩, xp1, fw1, xw1, fc1, fv1, Arv.start hfit Arb1 h31b1 hzb1 (by decide) rfl ⟨z1_0, z1_1, z1_2, z1_3, trivial⟩, xp2, fw2, xw2, fc2, fv2, Arv.start hfit Arb2 h31b2 hzb2 (by decide) rfl ⟨z2_0, z2_1, z2_2, z2_3, z2_4, z2_5, trivial⟩, xp3, fw3, xw3, fc3, fv3, Arv.start hfit Arb3 h31b3 hzb3 (by decide) rfl ⟨z3_0, z3_1, z3_2, z3_3, z3_4, z3_5, trivial⟩⟩
theorem own_intN {Z : State} {h : Heap} {a : Addr} {k : ClassId} {n : Int32} {vs : List Value} {d : Value} (A : Arv Z h a k .byte n vs d) (i : Nat) (hi : (i : Int) < n.toInt) : ∃ b : Int32, vs.getD i d = .int b := by
  obtain ⟨c, A1, -, A3, -, A5, A6⟩ := A
  have hn : i < n.toNatClampNeg := by unfold Int32.toNatClampNeg; omega
  have q := A6 i (by rw [A3]; exact hn)
  cases e : vs.getD i d <;> rw [e] at q <;> simp [fits] at q ⊢
theorem own_intJ {Z : State} {h : Heap} {a : Addr} {k : ClassId} {n j : Int32} {vs : List Value} {d : Value} (A : Arv Z h a k .byte n vs d) (h0 : 0 ≤ j.toInt) (hi : j.toInt < n.toInt) : ∃ b : Int32, vs.getD j.toNatClampNeg d = .int b := own_intN A _ (by unfold Int32.toNatClampNeg; omega)
theorem own_clamp {z : Int32} {n : Nat} (h : z.toNatClampNeg = n) (hn : 0 < n) : z.toInt = n := by unfold Int32.toNatClampNeg at h; omega
theorem own_bd {vs : List Value} {i : Nat} {d : Value} {b x : Int32} (g : vs.getD i d = .int b) (h : b.toInt = x.toInt) : vs.getD i d = .int x := by rw [g, Int32.toInt_inj.mp h]
theorem own_bi {vs : List Value} {i : Nat} {d : Value} {b x : Int32} (g : vs.getD i d = .int b) (h : vs.getD i d = .int x) : b.toInt = x.toInt := by rw [Value.int.inj (g.symm.trans h)]
def own_e4 (zn : Int32) (vs : List Value) (d0 d1 d2 d3 : Int32) : Prop := zn.toInt = 4 ∧ vs.getD 0 (.int 0) = .int d0 ∧ vs.getD 1 (.int 0) = .int d1 ∧ vs.getD 2 (.int 0) = .int d2 ∧ vs.getD 3 (.int 0) = .int d3
def own_e6 (zn : Int32) (vs : List Value) (d0 d1 d2 d3 d4 d5 : Int32) : Prop := zn.toInt = 6 ∧ vs.getD 0 (.int 0) = .int d0 ∧ vs.getD 1 (.int 0) = .int d1 ∧ vs.getD 2 (.int 0) = .int d2 ∧ vs.getD 3 (.int 0) = .int d3 ∧ vs.getD 4 (.int 0) = .int d4 ∧ vs.getD 5 (.int 0) = .int d5
def own_w0 (zn : Int32) (vs : List Value) : Prop := own_e6 zn vs (99 : Int32) (114 : Int32) (101 : Int32) (97 : Int32) (116 : Int32) (101 : Int32)
def own_w1 (zn : Int32) (vs : List Value) : Prop := own_e4 zn vs (114 : Int32) (101 : Int32) (97 : Int32) (100 : Int32)
def own_w2 (zn : Int32) (vs : List Value) : Prop := own_e6 zn vs (117 : Int32) (112 : Int32) (100 : Int32) (97 : Int32) (116 : Int32) (101 : Int32)
def own_w3 (zn : Int32) (vs : List Value) : Prop := own_e6 zn vs (100 : Int32) (101 : Int32) (108 : Int32) (101 : Int32) (116 : Int32) (101 : Int32)
theorem d19_0 : decode kc0 0 = .ok (.aload_n 0, 1) := by decide +kernel
theorem d19_1 : decode kc0 1 = .ok (.arraylength, 1) := by decide +kernel
theorem d19_2 : decode kc0 2 = .ok (.aload_n 1, 1) := by decide +kernel
theorem d19_3 : decode kc0 3 = .ok (.arraylength, 1) := by decide +kernel
theorem d19_4 : decode kc0 4 = .ok (.if_icmp .ne 30, 3) := by decide +kernel
theorem d19_7 : decode kc0 7 = .ok (.iconst 0, 1) := by decide +kernel
theorem d19_8 : decode kc0 8 = .ok (.istore_n 2, 1) := by decide +kernel
theorem d19_9 : decode kc0 9 = .ok (.iload_n 2, 1) := by decide +kernel
theorem d19_10 : decode kc0 10 = .ok (.aload_n 0, 1) := by decide +kernel
theorem d19_11 : decode kc0 11 = .ok (.arraylength, 1) := by decide +kernel
theorem d19_12 : decode kc0 12 = .ok (.if_icmp .ge 20, 3) := by decide +kernel
theorem d19_15 : decode kc0 15 = .ok (.aload_n 0, 1) := by decide +kernel
theorem d19_16 : decode kc0 16 = .ok (.iload_n 2, 1) := by decide +kernel
theorem d19_17 : decode kc0 17 = .ok (.baload, 1) := by decide +kernel
theorem d19_18 : decode kc0 18 = .ok (.aload_n 1, 1) := by decide +kernel
theorem d19_19 : decode kc0 19 = .ok (.iload_n 2, 1) := by decide +kernel
theorem d19_20 : decode kc0 20 = .ok (.baload, 1) := by decide +kernel
theorem d19_21 : decode kc0 21 = .ok (.if_icmp .eq 5, 3) := by decide +kernel
theorem d19_24 : decode kc0 24 = .ok (.iconst 0, 1) := by decide +kernel
theorem d19_25 : decode kc0 25 = .ok (.ireturn, 1) := by decide +kernel
theorem d19_26 : decode kc0 26 = .ok (.iinc 2 1, 3) := by decide +kernel
theorem d19_29 : decode kc0 29 = .ok (.goto (-20), 3) := by decide +kernel
theorem d19_32 : decode kc0 32 = .ok (.iconst 1, 1) := by decide +kernel
theorem d19_33 : decode kc0 33 = .ok (.ireturn, 1) := by decide +kernel
theorem d19_34 : decode kc0 34 = .ok (.iconst 0, 1) := by decide +kernel
theorem d19_35 : decode kc0 35 = .ok (.ireturn, 1) := by decide +kernel
theorem pn_0 : plainName "java/lang/StringLatin1" = true := by first | (simp [plainName, overriddenIn]; done) | decide +kernel
theorem ef_rm_lA4 (m : MethodId) (x0 : Addr) (x1 : Addr) : entryFrame m #[(.ref x0), (.ref x1)] 3 = mkF m 0 #[.val (.ref x0), .val (.ref x1), .unset] [] := by first | (simp [entryFrame, mkF, argsToLocals, Value.category]; done) | rfl
def Q_lA4 (Z : State) (ob : Addr) (lb : Addr) (kd : ClassId) (kn : ClassId) (zn : Int32) (vs : List Value) (d0 : Int32) (d1 : Int32) (d2 : Int32) (d3 : Int32) (h0 : Heap) (n0 : Nat) (v : Option Value) (h : Heap) (L : List Loc) : Prop := ∃ z : Int32, v = some (.int z) ∧ ((z = (1 : Int32) ∧ own_e4 zn vs d0 d1 d2 d3) ∨ (z = (0 : Int32) ∧ ¬ own_e4 zn vs d0 d1 d2 d3)) ∧ Fr n0 L ∧ h = h0
theorem rm_lA4 (l : Launch) (Z : State) (a0 : Array Value) (hw : ∀ d ∈ tables_1, d.before a0 Z = true) (ws : List Jvm.Cond) (ob : Addr) (lb : Addr) (kd : ClassId) (kn : ClassId) (zn : Int32) (vs : List Value) (d0 : Int32) (d1 : Int32) (d2 : Int32) (d3 : Int32) (h0 : Heap) (n0 : Nat) (Z0 : n0 ≤ h0.size) (Vd : Arv Z h0 ob kd .byte (4 : Int32) [(.int d0), (.int d1), (.int d2), (.int d3)] (.int 0)) (Vn : Arv Z h0 lb kn .byte zn vs (.int 0)) :
    MetFree l yn0 (head1 (Jvm.Cond.code yn0 kc0 3 (some .boolean) :: ws) ⟨0, 0, 0, 0⟩) (fun a U => a = #[(.ref ob), (.ref lb)] ∧ Z.Warmed39 U.vm ∧ U.heap = h0) (fun _ _ _ _ _ => True) (fun _ U o U' => ∃ v L, o = .returned v ∧ Q_lA4 Z ob lb kd kn zn vs d0 d1 d2 d3 h0 n0 v U'.heap L ∧ FrameEnd U o U' L 0 0) := by
  refine MetFree.of_bodySF (plainFor_of_name pn_0) hisR ?_
  intro p e s m args below meth c s₁ Bd hml0 hP hK
  obtain ⟨rfl, hZ, hh⟩ := hP
  have hx := Bd.exec
  have hby := Bd.bytes
  have hml : c.maxLocals = 3 := hml0
  have hown : s.vm.findClass "java/lang/StringLatin1" = some m.cls := findClass_of_methodNamed Bd.named
  have hnm := (name_of_methodNamed Bd.named Bd.method).1
  have X0 : Stand p l e ⟨0, 0, 0, 0⟩ s m #[(.ref ob), (.ref lb)] below meth c s₁ [] 0 0 := Stand.of_body Bd
  have e0 : s₁.heap = h0 := by rw [← hh, Bd.state]; rfl
  have N0 := Fr.nil n0
  obtain ⟨SS, hSS⟩ : ∃ S, S = s₁.setTop (entryFrame m #[(.ref ob), (.ref lb)] 3) := ⟨_, rfl⟩
  have pre0 : oP p e below (s₁.setTop (mkF m 0 #[.val (.ref ob), .val (.ref lb), .unset] [])) (SS) := by
    rw [hSS]; exact fun t k => castTop (ef_rm_lA4 m ob lb) k
  obtain ⟨cl1, Ar1, q1, S1, M1, H1, G1⟩ := id Vd
  obtain ⟨cl2, Ar2, q2, S2, M2, H2, G2⟩ := id Vn
  have pre4 : oP p e below (s₁.setTop (mkF m 4 #[.val (.ref ob), .val (.ref lb), .unset] [(.int zn), (.int 4)])) (SS) := fun t kt => by
    refine pre0 _ ?_
    refine XS.aloadN X0.here hx rfl (hb hby d19_0) rfl rfl ?_
    refine X0.arraylength hx (by rw [e0]; exact Ar1.1) (State.isArrayOf_alike hZ.alike Ar1.2.1) (g := (mkF m 1 #[.val (.ref ob), .val (.ref lb), .unset] [(.ref ob)])) rfl rfl (hb hby d19_1) _ ?_
    rw [len_of S1 M1]
    refine XS.aloadN X0.here hx rfl (hb hby d19_2) rfl rfl ?_
    refine X0.arraylength hx (by rw [e0]; exact Ar2.1) (State.isArrayOf_alike hZ.alike Ar2.2.1) (g := (mkF m 3 #[.val (.ref ob), .val (.ref lb), .unset] [(.ref lb), (.int 4)])) rfl rfl (hb hby d19_3) _ ?_
    rw [len_of S2 M2]
    exact kt
  by_cases hc4_3 : (4 : Int) = zn.toInt
  · obtain ⟨b0, g0⟩ := own_intN Vn 0 (by omega)
    obtain ⟨b1, g1⟩ := own_intN Vn 1 (by omega)
    obtain ⟨b2, g2⟩ := own_intN Vn 2 (by omega)
    obtain ⟨b3, g3⟩ := own_intN Vn 3 (by omega)
    obtain ⟨cl5, Ar5, q5, S5, M5, H5, G5⟩ := id Vd
    have hc12_6 : (0 : Int) < (4 : Int) := by decide
    obtain ⟨cl7, Ar7, q7, S7, M7, H7, G7⟩ := id Vd
    have hin7 : ¬ ((0 : Int32) < 0 ∨ cl7.slots.size ≤ ((0 : Int32)).toNatClampNeg) := inb_of S7 ⟨by decide, by decide⟩
    have hat7 : cl7.slots[((0 : Int32)).toNatClampNeg]? = some (.int d0) := Has.at H7 hin7 rfl
    obtain ⟨cl8, Ar8, q8, S8, M8, H8, G8⟩ := id Vn
    have hin8 : ¬ ((0 : Int32) < 0 ∨ cl8.slots.size ≤ ((0 : Int32)).toNatClampNeg) := inb_of S8 ⟨by decide, by rw [Int32.lt_iff_toInt_lt]; have kj : ((0 : Int32)).toInt = (0 : Int) := (by decide); omega⟩
    have hat8 : cl8.slots[((0 : Int32)).toNatClampNeg]? = some (.int b0) := Has.at H8 hin8 g0
    have pre10 : oP p e below (s₁.setTop (mkF m 21 #[.val (.ref ob), .val (.ref lb), .val (.int 0)] [(.int b0), (.int d0)])) (SS) := fun t kt => by
      refine pre4 _ ?_
      refine XS.icmpNo X0.here hx rfl (hb hby d19_4) rfl (own_teq (a := (4 : Int32)) (b := zn) (by decide) rfl hc4_3).2 ?_
      refine XS.iconst X0.here hx rfl (hb hby d19_7) ?_
      refine XS.istoreN X0.here hx rfl (hb hby d19_8) rfl (l' := #[.val (.ref ob), .val (.ref lb), .val (.int 0)]) rfl ?_
      refine XS.iloadN X0.here hx rfl (hb hby d19_9) rfl ?_
      refine XS.aloadN X0.here hx rfl (hb hby d19_10) rfl rfl ?_
      refine X0.arraylength hx (by rw [e0]; exact Ar5.1) (State.isArrayOf_alike hZ.alike Ar5.2.1) (g := (mkF m 11 #[.val (.ref ob), .val (.ref lb), .val (.int 0)] [(.ref ob), (.int 0)])) rfl rfl (hb hby d19_11) _ ?_
      rw [len_of S5 M5]
      refine XS.icmpNo X0.here hx rfl (hb hby d19_12) rfl (own_tlt (a := (0 : Int32)) (b := (4 : Int32)) (by decide) (by decide) hc12_6).2.1 ?_
      refine XS.aloadN X0.here hx rfl (hb hby d19_15) rfl rfl ?_
      refine XS.iloadN X0.here hx rfl (hb hby d19_16) rfl ?_
      refine X0.baloadBytes hx (j := (0 : Int32)) (v := (.int d0)) (by rw [e0]; exact Ar7.1) (State.isArrayOf_alike hZ.alike Ar7.2.1) Ar7.2.2 hin7 hat7 (g := (mkF m 17 #[.val (.ref ob), .val (.ref lb), .val (.int 0)] [(.int 0), (.ref ob)])) rfl rfl (hb hby d19_17) _ ?_
      refine XS.aloadN X0.here hx rfl (hb hby d19_18) rfl rfl ?_
      refine XS.iloadN X0.here hx rfl (hb hby d19_19) rfl ?_
      refine X0.baloadBytes hx (j := (0 : Int32)) (v := (.int b0)) (by rw [e0]; exact Ar8.1) (State.isArrayOf_alike hZ.alike Ar8.2.1) Ar8.2.2 hin8 hat8 (g := (mkF m 20 #[.val (.ref ob), .val (.ref lb), .val (.int 0)] [(.int 0), (.ref lb), (.int d0)])) rfl rfl (hb hby d19_20) _ ?_
      exact kt
    by_cases hc21_9 : d0.toInt = b0.toInt
    · obtain ⟨cl11, Ar11, q11, S11, M11, H11, G11⟩ := id Vd
      have hc12_12 : (1 : Int) < (4 : Int) := by decide
      obtain ⟨cl13, Ar13, q13, S13, M13, H13, G13⟩ := id Vd
      have hin13 : ¬ ((1 : Int32) < 0 ∨ cl13.slots.size ≤ ((1 : Int32)).toNatClampNeg) := inb_of S13 ⟨by decide, by decide⟩
      have hat13 : cl13.slots[((1 : Int32)).toNatClampNeg]? = some (.int d1) := Has.at H13 hin13 rfl
      obtain ⟨cl14, Ar14, q14, S14, M14, H14, G14⟩ := id Vn
      have hin14 : ¬ ((1 : Int32) < 0 ∨ cl14.slots.size ≤ ((1 : Int32)).toNatClampNeg) := inb_of S14 ⟨by decide, by rw [Int32.lt_iff_toInt_lt]; have kj : ((1 : Int32)).toInt = (1 : Int) := (by decide); omega⟩
      have hat14 : cl14.slots[((1 : Int32)).toNatClampNeg]? = some (.int b1) := Has.at H14 hin14 g1
      have pre16 : oP p e below (s₁.setTop (mkF m 21 #[.val (.ref ob), .val (.ref lb), .val (.int 1)] [(.int b1), (.int d1)])) (SS) := fun t kt => by
        refine pre10 _ ?_
        refine XS.icmpYes X0.here hx rfl (pc0 := 21) (pc' := 26) rfl (hb hby d19_21) rfl (own_teq (a := d0) (b := b0) rfl rfl hc21_9).1 (by decide) (by decide) ?_
        refine XS.iinc X0.here hx rfl (hb hby d19_26) rfl (l' := #[.val (.ref ob), .val (.ref lb), .val (.int 1)]) rfl ?_
        show Steps p.tables e below (s₁.setTop (mkF m 29 #[.val (.ref ob), .val (.ref lb), .val (.int 1)] [])) _
        refine XS.goto X0.here hx rfl (pc0 := 29) (pc' := 9) rfl (hb hby d19_29) (by decide) (by decide) ?_
        refine XS.iloadN X0.here hx rfl (hb hby d19_9) rfl ?_
        refine XS.aloadN X0.here hx rfl (hb hby d19_10) rfl rfl ?_
        refine X0.arraylength hx (by rw [e0]; exact Ar11.1) (State.isArrayOf_alike hZ.alike Ar11.2.1) (g := (mkF m 11 #[.val (.ref ob), .val (.ref lb), .val (.int 1)] [(.ref ob), (.int 1)])) rfl rfl (hb hby d19_11) _ ?_
        rw [len_of S11 M11]
        refine XS.icmpNo X0.here hx rfl (hb hby d19_12) rfl (own_tlt (a := (1 : Int32)) (b := (4 : Int32)) (by decide) (by decide) hc12_12).2.1 ?_
        refine XS.aloadN X0.here hx rfl (hb hby d19_15) rfl rfl ?_
        refine XS.iloadN X0.here hx rfl (hb hby d19_16) rfl ?_
        refine X0.baloadBytes hx (j := (1 : Int32)) (v := (.int d1)) (by rw [e0]; exact Ar13.1) (State.isArrayOf_alike hZ.alike Ar13.2.1) Ar13.2.2 hin13 hat13 (g := (mkF m 17 #[.val (.ref ob), .val (.ref lb), .val (.int 1)] [(.int 1), (.ref ob)])) rfl rfl (hb hby d19_17) _ ?_
        refine XS.aloadN X0.here hx rfl (hb hby d19_18) rfl rfl ?_
        refine XS.iloadN X0.here hx rfl (hb hby d19_19) rfl ?_
        refine X0.baloadBytes hx (j := (1 : Int32)) (v := (.int b1)) (by rw [e0]; exact Ar14.1) (State.isArrayOf_alike hZ.alike Ar14.2.1) Ar14.2.2 hin14 hat14 (g := (mkF m 20 #[.val (.ref ob), .val (.ref lb), .val (.int 1)] [(.int 1), (.ref lb), (.int d1)])) rfl rfl (hb hby d19_20) _ ?_
        exact kt
      by_cases hc21_15 : d1.toInt = b1.toInt
      · obtain ⟨cl17, Ar17, q17, S17, M17, H17, G17⟩ := id Vd
        have hc12_18 : (2 : Int) < (4 : Int) := by decide
        obtain ⟨cl19, Ar19, q19, S19, M19, H19, G19⟩ := id Vd
        have hin19 : ¬ ((2 : Int32) < 0 ∨ cl19.slots.size ≤ ((2 : Int32)).toNatClampNeg) := inb_of S19 ⟨by decide, by decide⟩
        have hat19 : cl19.slots[((2 : Int32)).toNatClampNeg]? = some (.int d2) := Has.at H19 hin19 rfl
        obtain ⟨cl20, Ar20, q20, S20, M20, H20, G20⟩ := id Vn
        have hin20 : ¬ ((2 : Int32) < 0 ∨ cl20.slots.size ≤ ((2 : Int32)).toNatClampNeg) := inb_of S20 ⟨by decide, by rw [Int32.lt_iff_toInt_lt]; have kj : ((2 : Int32)).toInt = (2 : Int) := (by decide); omega⟩
        have hat20 : cl20.slots[((2 : Int32)).toNatClampNeg]? = some (.int b2) := Has.at H20 hin20 g2
        have pre22 : oP p e below (s₁.setTop (mkF m 21 #[.val (.ref ob), .val (.ref lb), .val (.int 2)] [(.int b2), (.int d2)])) (SS) := fun t kt => by
          refine pre16 _ ?_
          refine XS.icmpYes X0.here hx rfl (pc0 := 21) (pc' := 26) rfl (hb hby d19_21) rfl (own_teq (a := d1) (b := b1) rfl rfl hc21_15).1 (by decide) (by decide) ?_
          refine XS.iinc X0.here hx rfl (hb hby d19_26) rfl (l' := #[.val (.ref ob), .val (.ref lb), .val (.int 2)]) rfl ?_
          refine XS.goto X0.here hx rfl (pc0 := 29) (pc' := 9) rfl (hb hby d19_29) (by decide) (by decide) ?_
          refine XS.iloadN X0.here hx rfl (hb hby d19_9) rfl ?_
          refine XS.aloadN X0.here hx rfl (hb hby d19_10) rfl rfl ?_
          refine X0.arraylength hx (by rw [e0]; exact Ar17.1) (State.isArrayOf_alike hZ.alike Ar17.2.1) (g := (mkF m 11 #[.val (.ref ob), .val (.ref lb), .val (.int 2)] [(.ref ob), (.int 2)])) rfl rfl (hb hby d19_11) _ ?_
          rw [len_of S17 M17]
          refine XS.icmpNo X0.here hx rfl (hb hby d19_12) rfl (own_tlt (a := (2 : Int32)) (b := (4 : Int32)) (by decide) (by decide) hc12_18).2.1 ?_
          refine XS.aloadN X0.here hx rfl (hb hby d19_15) rfl rfl ?_
          refine XS.iloadN X0.here hx rfl (hb hby d19_16) rfl ?_
          show Steps p.tables e below (s₁.setTop (mkF m 17 #[.val (.ref ob), .val (.ref lb), .val (.int 2)] [(.int 2), (.ref ob)])) _
          refine X0.baloadBytes hx (j := (2 : Int32)) (v := (.int d2)) (by rw [e0]; exact Ar19.1) (State.isArrayOf_alike hZ.alike Ar19.2.1) Ar19.2.2 hin19 hat19 (g := (mkF m 17 #[.val (.ref ob), .val (.ref lb), .val (.int 2)] [(.int 2), (.ref ob)])) rfl rfl (hb hby d19_17) _ ?_
          refine XS.aloadN X0.here hx rfl (hb hby d19_18) rfl rfl ?_
          refine XS.iloadN X0.here hx rfl (hb hby d19_19) rfl ?_
          refine X0.baloadBytes hx (j := (2 : Int32)) (v := (.int b2)) (by rw [e0]; exact Ar20.1) (State.isArrayOf_alike hZ.alike Ar20.2.1) Ar20.2.2 hin20 hat20 (g := (mkF m 20 #[.val (.ref ob), .val (.ref lb), .val (.int 2)] [(.int 2), (.ref lb), (.int d2)])) rfl rfl (hb hby d19_20) _ ?_
          exact kt
        by_cases hc21_21 : d2.toInt = b2.toInt
        · obtain ⟨cl23, Ar23, q23, S23, M23, H23, G23⟩ := id Vd
          have hc12_24 : (3 : Int) < (4 : Int) := by decide
          obtain ⟨cl25, Ar25, q25, S25, M25, H25, G25⟩ := id Vd
          have hin25 : ¬ ((3 : Int32) < 0 ∨ cl25.slots.size ≤ ((3 : Int32)).toNatClampNeg) := inb_of S25 ⟨by decide, by decide⟩
          have hat25 : cl25.slots[((3 : Int32)).toNatClampNeg]? = some (.int d3) := Has.at H25 hin25 rfl
          obtain ⟨cl26, Ar26, q26, S26, M26, H26, G26⟩ := id Vn
          have hin26 : ¬ ((3 : Int32) < 0 ∨ cl26.slots.size ≤ ((3 : Int32)).toNatClampNeg) := inb_of S26 ⟨by decide, by rw [Int32.lt_iff_toInt_lt]; have kj : ((3 : Int32)).toInt = (3 : Int) := (by decide); omega⟩
          have hat26 : cl26.slots[((3 : Int32)).toNatClampNeg]? = some (.int b3) := Has.at H26 hin26 g3
          have pre28 : oP p e below (s₁.setTop (mkF m 21 #[.val (.ref ob), .val (.ref lb), .val (.int 3)] [(.int b3), (.int d3)])) (SS) := fun t kt => by
            refine pre22 _ ?_
            refine XS.icmpYes X0.here hx rfl (pc0 := 21) (pc' := 26) rfl (hb hby d19_21) rfl (own_teq (a := d2) (b := b2) rfl rfl hc21_21).1 (by decide) (by decide) ?_
            refine XS.iinc X0.here hx rfl (hb hby d19_26) rfl (l' := #[.val (.ref ob), .val (.ref lb), .val (.int 3)]) rfl ?_
            refine XS.goto X0.here hx rfl (pc0 := 29) (pc' := 9) rfl (hb hby d19_29) (by decide) (by decide) ?_
            refine XS.iloadN X0.here hx rfl (hb hby d19_9) rfl ?_
            refine XS.aloadN X0.here hx rfl (hb hby d19_10) rfl rfl ?_
            refine X0.arraylength hx (by rw [e0]; exact Ar23.1) (State.isArrayOf_alike hZ.alike Ar23.2.1) (g := (mkF m 11 #[.val (.ref ob), .val (.ref lb), .val (.int 3)] [(.ref ob), (.int 3)])) rfl rfl (hb hby d19_11) _ ?_
            rw [len_of S23 M23]
            refine XS.icmpNo X0.here hx rfl (hb hby d19_12) rfl (own_tlt (a := (3 : Int32)) (b := (4 : Int32)) (by decide) (by decide) hc12_24).2.1 ?_
            refine XS.aloadN X0.here hx rfl (hb hby d19_15) rfl rfl ?_
            refine XS.iloadN X0.here hx rfl (hb hby d19_16) rfl ?_
            refine X0.baloadBytes hx (j := (3 : Int32)) (v := (.int d3)) (by rw [e0]; exact Ar25.1) (State.isArrayOf_alike hZ.alike Ar25.2.1) Ar25.2.2 hin25 hat25 (g := (mkF m 17 #[.val (.ref ob), .val (.ref lb), .val (.int 3)] [(.int 3), (.ref ob)])) rfl rfl (hb hby d19_17) _ ?_
            refine XS.aloadN X0.here hx rfl (hb hby d19_18) rfl rfl ?_
            refine XS.iloadN X0.here hx rfl (hb hby d19_19) rfl ?_
            refine X0.baloadBytes hx (j := (3 : Int32)) (v := (.int b3)) (by rw [e0]; exact Ar26.1) (State.isArrayOf_alike hZ.alike Ar26.2.1) Ar26.2.2 hin26 hat26 (g := (mkF m 20 #[.val (.ref ob), .val (.ref lb), .val (.int 3)] [(.int 3), (.ref lb), (.int d3)])) rfl rfl (hb hby d19_20) _ ?_
            exact kt
          by_cases hc21_27 : d3.toInt = b3.toInt
          · obtain ⟨cl29, Ar29, q29, S29, M29, H29, G29⟩ := id Vd
            have hc12_30 : ¬ ((4 : Int) < (4 : Int)) := by decide
            subst hSS
            obtain ⟨fs, hr, q1, q2, q3, q4⟩ := X0.leave (v := some (.int 1)) (fun h => by rw [Bd.returns] at h; cases h)
            refine ⟨_, _, pre28 _ ?_, q1, q2, _, _, rfl, ?_, ⟨_, rfl⟩, q3, q4.mono (by decide) (by decide)⟩
            · refine XS.icmpYes X0.here hx rfl (pc0 := 21) (pc' := 26) rfl (hb hby d19_21) rfl (own_teq (a := d3) (b := b3) rfl rfl hc21_27).1 (by decide) (by decide) ?_
              refine XS.iinc X0.here hx rfl (hb hby d19_26) rfl (l' := #[.val (.ref ob), .val (.ref lb), .val (.int 4)]) rfl ?_
              refine XS.goto X0.here hx rfl (pc0 := 29) (pc' := 9) rfl (hb hby d19_29) (by decide) (by decide) ?_
              show Steps p.tables e below (s₁.setTop (mkF m 9 #[.val (.ref ob), .val (.ref lb), .val (.int 4)] [])) _
              refine XS.iloadN X0.here hx rfl (hb hby d19_9) rfl ?_
              refine XS.aloadN X0.here hx rfl (hb hby d19_10) rfl rfl ?_
              refine X0.arraylength hx (by rw [e0]; exact Ar29.1) (State.isArrayOf_alike hZ.alike Ar29.2.1) (g := (mkF m 11 #[.val (.ref ob), .val (.ref lb), .val (.int 4)] [(.ref ob), (.int 4)])) rfl rfl (hb hby d19_11) _ ?_
              rw [len_of S29 M29]
              refine XS.icmpYes X0.here hx rfl (pc0 := 12) (pc' := 32) rfl (hb hby d19_12) rfl (own_flt (a := (4 : Int32)) (b := (4 : Int32)) (by decide) (by decide) hc12_30).2.1 (by decide) (by decide) ?_
              refine XS.iconst X0.here hx rfl (hb hby d19_32) ?_
              exact retN X0 hx (t := .boolean) Bd.returns (by simp) (hb hby d19_33) hr
            · show Q_lA4 Z _ _ _ _ _ _ _ _ _ _ h0 n0 _ s₁.heap _
              rw [e0]
              exact ⟨_, rfl, Or.inl ⟨rfl, by omega, own_bd g0 (by omega), own_bd g1 (by omega), own_bd g2 (by omega), own_bd g3 (by omega)⟩, N0, rfl⟩
          · subst hSS
            obtain ⟨fs, hr, q1, q2, q3, q4⟩ := X0.leave (v := some (.int 0)) (fun h => by rw [Bd.returns] at h; cases h)
            refine ⟨_, _, pre28 _ ?_, q1, q2, _, _, rfl, ?_, ⟨_, rfl⟩, q3, q4.mono (by decide) (by decide)⟩
            · refine XS.icmpNo X0.here hx rfl (hb hby d19_21) rfl (own_feq (a := d3) (b := b3) rfl rfl hc21_27).1 ?_
              refine XS.iconst X0.here hx rfl (hb hby d19_24) ?_
              exact retN X0 hx (t := .boolean) Bd.returns (by simp) (hb hby d19_25) hr
            · show Q_lA4 Z _ _ _ _ _ _ _ _ _ _ h0 n0 _ s₁.heap _
              rw [e0]
              exact ⟨_, rfl, Or.inr ⟨rfl, fun q => by have := own_bi g3 q.2.2.2.2; omega⟩, N0, rfl⟩
        · subst hSS
          obtain ⟨fs, hr, q1, q2, q3, q4⟩ := X0.leave (v := some (.int 0)) (fun h => by rw [Bd.returns] at h; cases h)
          refine ⟨_, _, pre22 _ ?_, q1, q2, _, _, rfl, ?_, ⟨_, rfl⟩, q3, q4.mono (by decide) (by decide)⟩
          · refine XS.icmpNo X0.here hx rfl (hb hby d19_21) rfl (own_feq (a := d2) (b := b2) rfl rfl hc21_21).1 ?_
            refine XS.iconst X0.here hx rfl (hb hby d19_24) ?_
            exact retN X0 hx (t := .boolean) Bd.returns (by simp) (hb hby d19_25) hr
          · show Q_lA4 Z _ _ _ _ _ _ _ _ _ _ h0 n0 _ s₁.heap _
            rw [e0]
            exact ⟨_, rfl, Or.inr ⟨rfl, fun q => by have := own_bi g2 q.2.2.2.1; omega⟩, N0, rfl⟩
      · subst hSS
        obtain ⟨fs, hr, q1, q2, q3, q4⟩ := X0.leave (v := some (.int 0)) (fun h => by rw [Bd.returns] at h; cases h)
        refine ⟨_, _, pre16 _ ?_, q1, q2, _, _, rfl, ?_, ⟨_, rfl⟩, q3, q4.mono (by decide) (by decide)⟩
        · refine XS.icmpNo X0.here hx rfl (hb hby d19_21) rfl (own_feq (a := d1) (b := b1) rfl rfl hc21_15).1 ?_
          refine XS.iconst X0.here hx rfl (hb hby d19_24) ?_
          exact retN X0 hx (t := .boolean) Bd.returns (by simp) (hb hby d19_25) hr
        · show Q_lA4 Z _ _ _ _ _ _ _ _ _ _ h0 n0 _ s₁.heap _
          rw [e0]
          exact ⟨_, rfl, Or.inr ⟨rfl, fun q => by have := own_bi g1 q.2.2.1; omega⟩, N0, rfl⟩
    · subst hSS
      obtain ⟨fs, hr, q1, q2, q3, q4⟩ := X0.leave (v := some (.int 0)) (fun h => by rw [Bd.returns] at h; cases h)
      refine ⟨_, _, pre10 _ ?_, q1, q2, _, _, rfl, ?_, ⟨_, rfl⟩, q3, q4.mono (by decide) (by decide)⟩
      · refine XS.icmpNo X0.here hx rfl (hb hby d19_21) rfl (own_feq (a := d0) (b := b0) rfl rfl hc21_9).1 ?_
        refine XS.iconst X0.here hx rfl (hb hby d19_24) ?_
        show Steps p.tables e below (s₁.setTop (mkF m 25 #[.val (.ref ob), .val (.ref lb), .val (.int 0)] [(.int 0)])) _
        exact retN X0 hx (t := .boolean) Bd.returns (by simp) (hb hby d19_25) hr
      · show Q_lA4 Z _ _ _ _ _ _ _ _ _ _ h0 n0 _ s₁.heap _
        rw [e0]
        exact ⟨_, rfl, Or.inr ⟨rfl, fun q => by have := own_bi g0 q.2.1; omega⟩, N0, rfl⟩
  · subst hSS
    obtain ⟨fs, hr, q1, q2, q3, q4⟩ := X0.leave (v := some (.int 0)) (fun h => by rw [Bd.returns] at h; cases h)
    refine ⟨_, _, pre4 _ ?_, q1, q2, _, _, rfl, ?_, ⟨_, rfl⟩, q3, q4.mono (by decide) (by decide)⟩
    · refine XS.icmpYes X0.here hx rfl (pc0 := 4) (pc' := 34) rfl (hb hby d19_4) rfl (own_feq (a := (4 : Int32)) (b := zn) (by decide) rfl hc4_3).2 (by decide) (by decide) ?_
      refine XS.iconst X0.here hx rfl (hb hby d19_34) ?_
      exact retN X0 hx (t := .boolean) Bd.returns (by simp) (hb hby d19_35) hr
    · show Q_lA4 Z _ _ _ _ _ _ _ _ _ _ h0 n0 _ s₁.heap _
      rw [e0]
      exact ⟨_, rfl, Or.inr ⟨rfl, fun q => by have := q.1; omega⟩, N0, rfl⟩
theorem d18_0 : decode kc1 0 = .ok (.aload_n 0, 1) := by decide +kernel
theorem d18_1 : decode kc1 1 = .ok (.aload_n 1, 1) := by decide +kernel
theorem d18_2 : decode kc1 2 = .ok (.if_acmp .ne 5, 3) := by decide +kernel
theorem d18_5 : decode kc1 5 = .ok (.iconst 1, 1) := by decide +kernel
theorem d18_6 : decode kc1 6 = .ok (.ireturn, 1) := by decide +kernel
theorem d18_7 : decode kc1 7 = .ok (.aload_n 1, 1) := by decide +kernel
theorem d18_8 : decode kc1 8 = .ok (.instanceof 10, 3) := by decide +kernel
theorem d18_11 : decode kc1 11 = .ok (.ifCond .eq 43, 3) := by decide +kernel
theorem d18_14 : decode kc1 14 = .ok (.aload_n 1, 1) := by decide +kernel
theorem d18_15 : decode kc1 15 = .ok (.checkcast 10, 3) := by decide +kernel
theorem d18_18 : decode kc1 18 = .ok (.astore_n 2, 1) := by decide +kernel
theorem d18_19 : decode kc1 19 = .ok (.getstatic 38, 3) := by decide +kernel
theorem d18_22 : decode kc1 22 = .ok (.ifCond .eq 14, 3) := by decide +kernel
theorem d18_25 : decode kc1 25 = .ok (.aload_n 0, 1) := by decide +kernel
theorem d18_26 : decode kc1 26 = .ok (.getfield 15, 3) := by decide +kernel
theorem d18_29 : decode kc1 29 = .ok (.aload_n 2, 1) := by decide +kernel
theorem d18_30 : decode kc1 30 = .ok (.getfield 15, 3) := by decide +kernel
theorem d18_33 : decode kc1 33 = .ok (.if_icmp .ne 21, 3) := by decide +kernel
theorem d18_36 : decode kc1 36 = .ok (.aload_n 0, 1) := by decide +kernel
theorem d18_37 : decode kc1 37 = .ok (.getfield 9, 3) := by decide +kernel
theorem d18_40 : decode kc1 40 = .ok (.aload_n 2, 1) := by decide +kernel
theorem d18_41 : decode kc1 41 = .ok (.getfield 9, 3) := by decide +kernel
theorem d18_44 : decode kc1 44 = .ok (.invokestatic 541, 3) := by decide +kernel
theorem d18_47 : decode kc1 47 = .ok (.ifCond .eq 7, 3) := by decide +kernel
theorem d18_50 : decode kc1 50 = .ok (.iconst 1, 1) := by decide +kernel
theorem d18_51 : decode kc1 51 = .ok (.goto 4, 3) := by decide +kernel
theorem d18_54 : decode kc1 54 = .ok (.iconst 0, 1) := by decide +kernel
theorem d18_55 : decode kc1 55 = .ok (.ireturn, 1) := by decide +kernel
theorem pn_1 : plainName "java/lang/String" = true := by first | (simp [plainName, overriddenIn]; done) | decide +kernel
theorem ef_rm_qA4 (m : MethodId) (x0 : Addr) (x1 : Addr) : entryFrame m #[(.ref x0), (.ref x1)] 3 = mkF m 0 #[.val (.ref x0), .val (.ref x1), .unset] [] := by first | (simp [entryFrame, mkF, argsToLocals, Value.category]; done) | rfl
theorem pd_0 : parseMethodDescriptor "([B[B)Z" = some ⟨[(.array .byte), (.array .byte)], some .boolean⟩ := by decide +kernel
def Q_qA4 (Z : State) (oa : Addr) (la : Addr) (vcs : Int32) (vf : Value) (ob : Addr) (lb : Addr) (kd : ClassId) (kn : ClassId) (zn : Int32) (vs : List Value) (d0 : Int32) (d1 : Int32) (d2 : Int32) (d3 : Int32) (h0 : Heap) (n0 : Nat) (v : Option Value) (h : Heap) (L : List Loc) : Prop := ∃ z : Int32, v = some (.int z) ∧ ((z = (1 : Int32) ∧ own_e4 zn vs d0 d1 d2 d3) ∨ (z = (0 : Int32) ∧ ¬ own_e4 zn vs d0 d1 d2 d3)) ∧ Fr n0 L ∧ h = h0
theorem rm_qA4 (l : Launch) (Z : State) (a0 : Array Value) (hw : ∀ d ∈ tables_1, d.before a0 Z = true) (ws : List Jvm.Cond) (oa : Addr) (la : Addr) (vcs : Int32) (vf : Value) (ob : Addr) (lb : Addr) (kd : ClassId) (kn : ClassId) (zn : Int32) (vs : List Value) (d0 : Int32) (d1 : Int32) (d2 : Int32) (d3 : Int32) (h0 : Heap) (n0 : Nat) (Z0 : n0 ≤ h0.size) (Os : own_st Z h0 vcs vf) (Ed : Exa Z h0 oa "java/lang/String") (Cd : Fld Z h0 oa "java/lang/String" "coder" "B" (.int 0)) (Ud : Fld Z h0 oa "java/lang/String" "value" "[B" (.ref ob)) (Vd : Arv Z h0 ob kd .byte (4 : Int32) [(.int d0), (.int d1), (.int d2), (.int d3)] (.int 0)) (En : Exa Z h0 la "java/lang/String") (Cn : Fld Z h0 la "java/lang/String" "coder" "B" (.int 0)) (Un : Fld Z h0 la "java/lang/String" "value" "[B" (.ref lb)) (Vn : Arv Z h0 lb kn .byte zn vs (.int 0)) :
    MetFree l yn1 (head1 (Jvm.Cond.code yn1 kc1 3 (some .boolean) :: ws) ⟨1, 0, 0, 14⟩) (fun a U => a = #[(.ref oa), (.ref la)] ∧ Z.Warmed39 U.vm ∧ U.heap = h0) (fun _ _ _ _ _ => True) (fun _ U o U' => ∃ v L, o = .returned v ∧ Q_qA4 Z oa la vcs vf ob lb kd kn zn vs d0 d1 d2 d3 h0 n0 v U'.heap L ∧ FrameEnd U o U' L 0 0) := by
  refine MetFree.of_bodySF (plainFor_of_name pn_1) hisR ?_
  intro p e s m args below meth c s₁ Bd hml0 hP hK
  obtain ⟨rfl, hZ, hh⟩ := hP
  have hx := Bd.exec
  have hby := Bd.bytes
  have hml : c.maxLocals = 3 := hml0
  have hown : s.vm.findClass "java/lang/String" = some m.cls := findClass_of_methodNamed Bd.named
  have hnm := (name_of_methodNamed Bd.named Bd.method).1
  have X0 : Stand p l e ⟨1, 0, 0, 14⟩ s m #[(.ref oa), (.ref la)] below meth c s₁ [] 0 0 := Stand.of_body Bd
  have e0 : s₁.heap = h0 := by rw [← hh, Bd.state]; rfl
  have N0 := Fr.nil n0
  obtain ⟨SS, hSS⟩ : ∃ S, S = s₁.setTop (entryFrame m #[(.ref oa), (.ref la)] 3) := ⟨_, rfl⟩
  have pre0 : oP p e below (s₁.setTop (mkF m 0 #[.val (.ref oa), .val (.ref la), .unset] [])) (SS) := by
    rw [hSS]; exact fun t k => castTop (ef_rm_qA4 m oa la) k
  have pre1 : oP p e below (s₁.setTop (mkF m 2 #[.val (.ref oa), .val (.ref la), .unset] [(.ref la), (.ref oa)])) (SS) := fun t kt => by
    refine pre0 _ ?_
    refine XS.aloadN X0.here hx rfl (hb hby d18_0) rfl rfl ?_
    refine XS.aloadN X0.here hx rfl (hb hby d18_1) rfl rfl ?_
    exact kt
  by_cases hab : oa = la
  · have hsm := own_arv_inj Vn (show Arv Z h0 lb kd .byte (4 : Int32) [(.int d0), (.int d1), (.int d2), (.int d3)] (.int 0) by rw [own_same hab.symm Un Ud]; exact Vd)
    have hsl : zn.toInt = 4 := own_clamp (n := 4) hsm.1 (by decide)
    have hlt : ∀ i, i < 4 → i < zn.toNatClampNeg := fun i hi => by rw [hsm.1]; exact hi
    subst hSS
    obtain ⟨fs, hr, q1, q2, q3, q4⟩ := X0.leave (v := some (.int 1)) (fun h => by rw [Bd.returns] at h; cases h)
    refine ⟨_, _, pre1 _ ?_, q1, q2, _, _, rfl, ?_, ⟨_, rfl⟩, q3, q4.mono (by decide) (by decide)⟩
    · refine Jvm.RoadKit.acmp (g := (mkF m 2 #[.val (.ref oa), .val (.ref la), .unset] [(.ref la), (.ref oa)])) X0 hx rfl rfl rfl (pc0 := 2) (pc' := 5) (same := true) rfl (hb hby d18_2) rfl (decide_eq_true (congrArg Value.ref hab)) (by decide) (by decide) ?_
      refine XS.iconst X0.here hx rfl (hb hby d18_5) ?_
      exact retN X0 hx (t := .boolean) Bd.returns (by simp) (hb hby d18_6) hr
    · show Q_qA4 Z _ _ _ _ _ _ _ _ _ _ _ _ _ _ h0 n0 _ s₁.heap _
      rw [e0]
      exact ⟨_, rfl, Or.inl ⟨rfl, hsl, hsm.2 0 (hlt 0 (by decide)), hsm.2 1 (hlt 1 (by decide)), hsm.2 2 (hlt 2 (by decide)), hsm.2 3 (hlt 3 (by decide))⟩, N0, rfl⟩
  · have own_nab := True.intro
    obtain ⟨T2, X2, e2, st2⟩ := instY X0 hx hZ hown (ow hw 94 rfl) e0 (Ins.self En) (g := (mkF m 8 #[.val (.ref oa), .val (.ref la), .unset] [(.ref la)])) rfl rfl (hb hby d18_8)
    have hc11_3 : ¬ ((1 : Int) = (0 : Int)) := by decide
    obtain ⟨T4, X4, e4, st4⟩ := castY X2 hx hZ hown (ow hw 94 rfl) e2 (Ins.self En) (g := (mkF m 15 #[.val (.ref oa), .val (.ref la), .unset] [(.ref la)])) rfl rfl (hb hby d18_15)
    obtain ⟨T5, X5, e5, st5⟩ := getS2 X4 hx hZ hown (host := "") (Or.inl (ow hw 19 rfl)) Via.refl e4 Os.1 (g := (mkF m 19 #[.val (.ref oa), .val (.ref la), .val (.ref la)] [])) rfl (hb hby d18_19)
    have hc22_6 : ¬ (vcs.toInt = (0 : Int)) := by (have q := Os.2.1; omega)
    obtain ⟨T7, X7, e7, st7⟩ := getF X5 hx hZ hown (host := "") (Or.inl (ow hw 20 rfl)) Via.refl e5 Cd (g := (mkF m 26 #[.val (.ref oa), .val (.ref la), .val (.ref la)] [(.ref oa)])) rfl rfl (hb hby d18_26)
    obtain ⟨T8, X8, e8, st8⟩ := getF X7 hx hZ hown (host := "") (Or.inl (ow hw 20 rfl)) Via.refl e7 Cn (g := (mkF m 30 #[.val (.ref oa), .val (.ref la), .val (.ref la)] [(.ref la), (.int 0)])) rfl rfl (hb hby d18_30)
    have hc33_9 : (0 : Int) = (0 : Int) := by decide
    obtain ⟨T10, X10, e10, st10⟩ := getF X8 hx hZ hown (host := "") (Or.inl (ow hw 13 rfl)) Via.refl e8 Ud (g := (mkF m 37 #[.val (.ref oa), .val (.ref la), .val (.ref la)] [(.ref oa)])) rfl rfl (hb hby d18_37)
    obtain ⟨T11, X11, e11, st11⟩ := getF X10 hx hZ hown (host := "") (Or.inl (ow hw 13 rfl)) Via.refl e10 Un (g := (mkF m 41 #[.val (.ref oa), .val (.ref la), .val (.ref la)] [(.ref la), (.ref ob)])) rfl rfl (hb hby d18_41)
    obtain ⟨_, _, ⟨T12, L12, k12, n12⟩, -, X12, ⟨Lc12, hQ12, l12, y12, z12⟩, st12⟩ := Jvm.LawKit.callS X11 hx (y := yn0) hown (mvT hZ (ow hw 95 rfl)) (mvT hZ (ow hw 96 rfl)) (mvT hZ (ow hw 37 rfl)) (mvT hZ (ow hw 97 rfl)) (by decide) (backOf (W := 0) (rm_lA4 l Z a0 hw [] ob lb kd kn zn vs d0 d1 d2 d3 h0 n0 Z0 Vd Vn) hZ (ow hw 97 rfl) (ow hw 37 rfl) (by decide) (by decide)) (g := (mkF m 44 #[.val (.ref oa), .val (.ref la), .val (.ref la)] [(.ref lb), (.ref ob)])) rfl (by rw [hml]; rfl) (argsL := [(.ref ob), (.ref lb)]) (rest := []) (lenOf pd_0 rfl) rfl (by exact Nat.le_of_eq rfl) (hb hby d18_44) (fun _ _ => ⟨rfl, e11, (by decide : 0 + 0 ≤ _), (by decide : 0 + 0 ≤ _)⟩)
    dsimp only [Pt.U, Pt.locs, Pt.cells, Pt.slots] at X12 l12 y12 z12 st12 hQ12
    rw [l12, y12, z12] at X12
    obtain ⟨zq, rfl, hzq, N12q, e12⟩ := hQ12
    have N12 := Fr.app N0 N12q
    have pre13 : oP p e below (T12.setTop (mkF m 47 #[.val (.ref oa), .val (.ref la), .val (.ref la)] [(.int zq)])) (SS) := fun t kt => by
      refine pre1 _ ?_
      refine Jvm.RoadKit.acmp (g := (mkF m 2 #[.val (.ref oa), .val (.ref la), .unset] [(.ref la), (.ref oa)])) X0 hx rfl rfl rfl (pc0 := 2) (pc' := 7) (same := false) rfl (hb hby d18_2) rfl (decide_eq_false fun q => hab (Value.ref.inj q)) (by decide) (by decide) ?_
      refine XS.aloadN X0.here hx rfl (hb hby d18_7) rfl rfl ?_
      refine st2 _ ?_
      refine XS.ifNo X2.here hx rfl (hb hby d18_11) rfl (own_if (own_feq (a := (1 : Int32)) (b := (0 : Int32)) (by decide) (by decide) hc11_3).1) ?_
      refine XS.aloadN X2.here hx rfl (hb hby d18_14) rfl rfl ?_
      refine st4 _ ?_
      refine XS.astoreN X4.here hx rfl (hb hby d18_18) rfl rfl (l' := #[.val (.ref oa), .val (.ref la), .val (.ref la)]) rfl ?_
      refine st5 _ ?_
      refine XS.ifNo X5.here hx rfl (hb hby d18_22) rfl (own_if (own_feq (a := vcs) (b := (0 : Int32)) rfl (by decide) hc22_6).1) ?_
      refine XS.aloadN X5.here hx rfl (hb hby d18_25) rfl rfl ?_
      refine st7 _ ?_
      refine XS.aloadN X7.here hx rfl (hb hby d18_29) rfl rfl ?_
      refine st8 _ ?_
      refine XS.icmpNo X8.here hx rfl (hb hby d18_33) rfl (own_teq (a := (0 : Int32)) (b := (0 : Int32)) (by decide) (by decide) hc33_9).2 ?_
      refine XS.aloadN X8.here hx rfl (hb hby d18_36) rfl rfl ?_
      refine st10 _ ?_
      refine XS.aloadN X10.here hx rfl (hb hby d18_40) rfl rfl ?_
      show Steps p.tables e below (T10.setTop (mkF m 41 #[.val (.ref oa), .val (.ref la), .val (.ref la)] [(.ref la), (.ref ob)])) _
      refine st11 _ ?_
      refine st12 _ ?_
      exact kt
    rcases hzq with ⟨rfl, hd⟩ | ⟨rfl, hd⟩
    · have pre14 : oP p e below (T12.setTop (mkF m 47 #[.val (.ref oa), .val (.ref la), .val (.ref la)] [(.int 1)])) (SS) := pre13
      have hc47_15 : ¬ ((1 : Int) = (0 : Int)) := by decide
      subst hSS
      obtain ⟨fs, hr, q1, q2, q3, q4⟩ := X12.leave (v := some (.int 1)) (fun h => by rw [Bd.returns] at h; cases h)
      refine ⟨_, _, pre14 _ ?_, q1, q2, _, _, rfl, ?_, ⟨_, rfl⟩, q3, q4.mono (by decide) (by decide)⟩
      · refine XS.ifNo X12.here hx rfl (hb hby d18_47) rfl (own_if (own_feq (a := (1 : Int32)) (b := (0 : Int32)) (by decide) (by decide) hc47_15).1) ?_
        refine XS.iconst X12.here hx rfl (hb hby d18_50) ?_
        refine XS.goto X12.here hx rfl (pc0 := 51) (pc' := 55) rfl (hb hby d18_51) (by decide) (by decide) ?_
        exact retN X12 hx (t := .boolean) Bd.returns (by simp) (hb hby d18_55) hr
      · show Q_qA4 Z _ _ _ _ _ _ _ _ _ _ _ _ _ _ h0 n0 _ T12.heap _
        rw [e12]
        exact ⟨_, rfl, Or.inl ⟨rfl, hd⟩, N12, rfl⟩
    · have pre16 : oP p e below (T12.setTop (mkF m 47 #[.val (.ref oa), .val (.ref la), .val (.ref la)] [(.int 0)])) (SS) := pre13
      have hc47_17 : (0 : Int) = (0 : Int) := by decide
      subst hSS
      obtain ⟨fs, hr, q1, q2, q3, q4⟩ := X12.leave (v := some (.int 0)) (fun h => by rw [Bd.returns] at h; cases h)
      refine ⟨_, _, pre16 _ ?_, q1, q2, _, _, rfl, ?_, ⟨_, rfl⟩, q3, q4.mono (by decide) (by decide)⟩
      · refine XS.ifYes X12.here hx rfl (pc0 := 47) (pc' := 54) rfl (hb hby d18_47) rfl (own_if (own_teq (a := (0 : Int32)) (b := (0 : Int32)) (by decide) (by decide) hc47_17).1) (by decide) (by decide) ?_
        refine XS.iconst X12.here hx rfl (hb hby d18_54) ?_
        exact retN X12 hx (t := .boolean) Bd.returns (by simp) (hb hby d18_55) hr
      · show Q_qA4 Z _ _ _ _ _ _ _ _ _ _ _ _ _ _ h0 n0 _ T12.heap _
        rw [e12]
        exact ⟨_, rfl, Or.inr ⟨rfl, hd⟩, N12, rfl⟩
theorem ef_rm_lB4 (m : MethodId) (x0 : Addr) (x1 : Addr) : entryFrame m #[(.ref x0), (.ref x1)] 3 = mkF m 0 #[.val (.ref x0), .val (.ref x1), .unset] [] := by first | (simp [entryFrame, mkF, argsToLocals, Value.category]; done) | rfl
def Q_lB4 (Z : State) (ob : Addr) (lb : Addr) (kd : ClassId) (kn : ClassId) (zn : Int32) (vs : List Value) (d0 : Int32) (d1 : Int32) (d2 : Int32) (d3 : Int32) (h0 : Heap) (n0 : Nat) (v : Option Value) (h : Heap) (L : List Loc) : Prop := ∃ z : Int32, v = some (.int z) ∧ ((z = (1 : Int32) ∧ own_e4 zn vs d0 d1 d2 d3) ∨ (z = (0 : Int32) ∧ ¬ own_e4 zn vs d0 d1 d2 d3)) ∧ Fr n0 L ∧ h = h0
theorem rm_lB4 (l : Launch) (Z : State) (a0 : Array Value) (hw : ∀ d ∈ tables_1, d.before a0 Z = true) (ws : List Jvm.Cond) (ob : Addr) (lb : Addr) (kd : ClassId) (kn : ClassId) (zn : Int32) (vs : List Value) (d0 : Int32) (d1 : Int32) (d2 : Int32) (d3 : Int32) (h0 : Heap) (n0 : Nat) (Z0 : n0 ≤ h0.size) (Vd : Arv Z h0 lb kd .byte (4 : Int32) [(.int d0), (.int d1), (.int d2), (.int d3)] (.int 0)) (Vn : Arv Z h0 ob kn .byte zn vs (.int 0)) :
    MetFree l yn0 (head1 (Jvm.Cond.code yn0 kc0 3 (some .boolean) :: ws) ⟨0, 0, 0, 0⟩) (fun a U => a = #[(.ref ob), (.ref lb)] ∧ Z.Warmed39 U.vm ∧ U.heap = h0) (fun _ _ _ _ _ => True) (fun _ U o U' => ∃ v L, o = .returned v ∧ Q_lB4 Z ob lb kd kn zn vs d0 d1 d2 d3 h0 n0 v U'.heap L ∧ FrameEnd U o U' L 0 0) := by
  refine MetFree.of_bodySF (plainFor_of_name pn_0) hisR ?_
  intro p e s m args below meth c s₁ Bd hml0 hP hK
  obtain ⟨rfl, hZ, hh⟩ := hP
  have hx := Bd.exec
  have hby := Bd.bytes
  have hml : c.maxLocals = 3 := hml0
  have hown : s.vm.findClass "java/lang/StringLatin1" = some m.cls := findClass_of_methodNamed Bd.named
  have hnm := (name_of_methodNamed Bd.named Bd.method).1
  have X0 : Stand p l e ⟨0, 0, 0, 0⟩ s m #[(.ref ob), (.ref lb)] below meth c s₁ [] 0 0 := Stand.of_body Bd
  have e0 : s₁.heap = h0 := by rw [← hh, Bd.state]; rfl
  have N0 := Fr.nil n0
  obtain ⟨SS, hSS⟩ : ∃ S, S = s₁.setTop (entryFrame m #[(.ref ob), (.ref lb)] 3) := ⟨_, rfl⟩
  have pre0 : oP p e below (s₁.setTop (mkF m 0 #[.val (.ref ob), .val (.ref lb), .unset] [])) (SS) := by
    rw [hSS]; exact fun t k => castTop (ef_rm_lB4 m ob lb) k
  obtain ⟨cl1, Ar1, q1, S1, M1, H1, G1⟩ := id Vn
  obtain ⟨cl2, Ar2, q2, S2, M2, H2, G2⟩ := id Vd
  have pre4 : oP p e below (s₁.setTop (mkF m 4 #[.val (.ref ob), .val (.ref lb), .unset] [(.int 4), (.int zn)])) (SS) := fun t kt => by
    refine pre0 _ ?_
    refine XS.aloadN X0.here hx rfl (hb hby d19_0) rfl rfl ?_
    refine X0.arraylength hx (by rw [e0]; exact Ar1.1) (State.isArrayOf_alike hZ.alike Ar1.2.1) (g := (mkF m 1 #[.val (.ref ob), .val (.ref lb), .unset] [(.ref ob)])) rfl rfl (hb hby d19_1) _ ?_
    rw [len_of S1 M1]
    refine XS.aloadN X0.here hx rfl (hb hby d19_2) rfl rfl ?_
    refine X0.arraylength hx (by rw [e0]; exact Ar2.1) (State.isArrayOf_alike hZ.alike Ar2.2.1) (g := (mkF m 3 #[.val (.ref ob), .val (.ref lb), .unset] [(.ref lb), (.int zn)])) rfl rfl (hb hby d19_3) _ ?_
    rw [len_of S2 M2]
    exact kt
  by_cases hc4_3 : zn.toInt = (4 : Int)
  · obtain ⟨b0, g0⟩ := own_intN Vn 0 (by omega)
    obtain ⟨b1, g1⟩ := own_intN Vn 1 (by omega)
    obtain ⟨b2, g2⟩ := own_intN Vn 2 (by omega)
    obtain ⟨b3, g3⟩ := own_intN Vn 3 (by omega)
    obtain ⟨cl5, Ar5, q5, S5, M5, H5, G5⟩ := id Vn
    have hc12_6 : (0 : Int) < zn.toInt := by omega
    obtain ⟨cl7, Ar7, q7, S7, M7, H7, G7⟩ := id Vn
    have hin7 : ¬ ((0 : Int32) < 0 ∨ cl7.slots.size ≤ ((0 : Int32)).toNatClampNeg) := inb_of S7 ⟨by decide, by rw [Int32.lt_iff_toInt_lt]; have kj : ((0 : Int32)).toInt = (0 : Int) := (by decide); omega⟩
    have hat7 : cl7.slots[((0 : Int32)).toNatClampNeg]? = some (.int b0) := Has.at H7 hin7 g0
    obtain ⟨cl8, Ar8, q8, S8, M8, H8, G8⟩ := id Vd
    have hin8 : ¬ ((0 : Int32) < 0 ∨ cl8.slots.size ≤ ((0 : Int32)).toNatClampNeg) := inb_of S8 ⟨by decide, by decide⟩
    have hat8 : cl8.slots[((0 : Int32)).toNatClampNeg]? = some (.int d0) := Has.at H8 hin8 rfl
    have pre10 : oP p e below (s₁.setTop (mkF m 21 #[.val (.ref ob), .val (.ref lb), .val (.int 0)] [(.int d0), (.int b0)])) (SS) := fun t kt => by
      refine pre4 _ ?_
      refine XS.icmpNo X0.here hx rfl (hb hby d19_4) rfl (own_teq (a := zn) (b := (4 : Int32)) rfl (by decide) hc4_3).2 ?_
      refine XS.iconst X0.here hx rfl (hb hby d19_7) ?_
      refine XS.istoreN X0.here hx rfl (hb hby d19_8) rfl (l' := #[.val (.ref ob), .val (.ref lb), .val (.int 0)]) rfl ?_
      refine XS.iloadN X0.here hx rfl (hb hby d19_9) rfl ?_
      refine XS.aloadN X0.here hx rfl (hb hby d19_10) rfl rfl ?_
      refine X0.arraylength hx (by rw [e0]; exact Ar5.1) (State.isArrayOf_alike hZ.alike Ar5.2.1) (g := (mkF m 11 #[.val (.ref ob), .val (.ref lb), .val (.int 0)] [(.ref ob), (.int 0)])) rfl rfl (hb hby d19_11) _ ?_
      rw [len_of S5 M5]
      refine XS.icmpNo X0.here hx rfl (hb hby d19_12) rfl (own_tlt (a := (0 : Int32)) (b := zn) (by decide) rfl hc12_6).2.1 ?_
      refine XS.aloadN X0.here hx rfl (hb hby d19_15) rfl rfl ?_
      refine XS.iloadN X0.here hx rfl (hb hby d19_16) rfl ?_
      refine X0.baloadBytes hx (j := (0 : Int32)) (v := (.int b0)) (by rw [e0]; exact Ar7.1) (State.isArrayOf_alike hZ.alike Ar7.2.1) Ar7.2.2 hin7 hat7 (g := (mkF m 17 #[.val (.ref ob), .val (.ref lb), .val (.int 0)] [(.int 0), (.ref ob)])) rfl rfl (hb hby d19_17) _ ?_
      refine XS.aloadN X0.here hx rfl (hb hby d19_18) rfl rfl ?_
      refine XS.iloadN X0.here hx rfl (hb hby d19_19) rfl ?_
      refine X0.baloadBytes hx (j := (0 : Int32)) (v := (.int d0)) (by rw [e0]; exact Ar8.1) (State.isArrayOf_alike hZ.alike Ar8.2.1) Ar8.2.2 hin8 hat8 (g := (mkF m 20 #[.val (.ref ob), .val (.ref lb), .val (.int 0)] [(.int 0), (.ref lb), (.int b0)])) rfl rfl (hb hby d19_20) _ ?_
      exact kt
    by_cases hc21_9 : b0.toInt = d0.toInt
    · obtain ⟨cl11, Ar11, q11, S11, M11, H11, G11⟩ := id Vn
      have hc12_12 : (1 : Int) < zn.toInt := by omega
      obtain ⟨cl13, Ar13, q13, S13, M13, H13, G13⟩ := id Vn
      have hin13 : ¬ ((1 : Int32) < 0 ∨ cl13.slots.size ≤ ((1 : Int32)).toNatClampNeg) := inb_of S13 ⟨by decide, by rw [Int32.lt_iff_toInt_lt]; have kj : ((1 : Int32)).toInt = (1 : Int) := (by decide); omega⟩
      have hat13 : cl13.slots[((1 : Int32)).toNatClampNeg]? = some (.int b1) := Has.at H13 hin13 g1
      obtain ⟨cl14, Ar14, q14, S14, M14, H14, G14⟩ := id Vd
      have hin14 : ¬ ((1 : Int32) < 0 ∨ cl14.slots.size ≤ ((1 : Int32)).toNatClampNeg) := inb_of S14 ⟨by decide, by decide⟩
      have hat14 : cl14.slots[((1 : Int32)).toNatClampNeg]? = some (.int d1) := Has.at H14 hin14 rfl
      have pre16 : oP p e below (s₁.setTop (mkF m 21 #[.val (.ref ob), .val (.ref lb), .val (.int 1)] [(.int d1), (.int b1)])) (SS) := fun t kt => by
        refine pre10 _ ?_
        refine XS.icmpYes X0.here hx rfl (pc0 := 21) (pc' := 26) rfl (hb hby d19_21) rfl (own_teq (a := b0) (b := d0) rfl rfl hc21_9).1 (by decide) (by decide) ?_
        refine XS.iinc X0.here hx rfl (hb hby d19_26) rfl (l' := #[.val (.ref ob), .val (.ref lb), .val (.int 1)]) rfl ?_
        show Steps p.tables e below (s₁.setTop (mkF m 29 #[.val (.ref ob), .val (.ref lb), .val (.int 1)] [])) _
        refine XS.goto X0.here hx rfl (pc0 := 29) (pc' := 9) rfl (hb hby d19_29) (by decide) (by decide) ?_
        refine XS.iloadN X0.here hx rfl (hb hby d19_9) rfl ?_
        refine XS.aloadN X0.here hx rfl (hb hby d19_10) rfl rfl ?_
        refine X0.arraylength hx (by rw [e0]; exact Ar11.1) (State.isArrayOf_alike hZ.alike Ar11.2.1) (g := (mkF m 11 #[.val (.ref ob), .val (.ref lb), .val (.int 1)] [(.ref ob), (.int 1)])) rfl rfl (hb hby d19_11) _ ?_
        rw [len_of S11 M11]
        refine XS.icmpNo X0.here hx rfl (hb hby d19_12) rfl (own_tlt (a := (1 : Int32)) (b := zn) (by decide) rfl hc12_12).2.1 ?_
        refine XS.aloadN X0.here hx rfl (hb hby d19_15) rfl rfl ?_
        refine XS.iloadN X0.here hx rfl (hb hby d19_16) rfl ?_
        refine X0.baloadBytes hx (j := (1 : Int32)) (v := (.int b1)) (by rw [e0]; exact Ar13.1) (State.isArrayOf_alike hZ.alike Ar13.2.1) Ar13.2.2 hin13 hat13 (g := (mkF m 17 #[.val (.ref ob), .val (.ref lb), .val (.int 1)] [(.int 1), (.ref ob)])) rfl rfl (hb hby d19_17) _ ?_
        refine XS.aloadN X0.here hx rfl (hb hby d19_18) rfl rfl ?_
        refine XS.iloadN X0.here hx rfl (hb hby d19_19) rfl ?_
        refine X0.baloadBytes hx (j := (1 : Int32)) (v := (.int d1)) (by rw [e0]; exact Ar14.1) (State.isArrayOf_alike hZ.alike Ar14.2.1) Ar14.2.2 hin14 hat14 (g := (mkF m 20 #[.val (.ref ob), .val (.ref lb), .val (.int 1)] [(.int 1), (.ref lb), (.int b1)])) rfl rfl (hb hby d19_20) _ ?_
        exact kt
      by_cases hc21_15 : b1.toInt = d1.toInt
      · obtain ⟨cl17, Ar17, q17, S17, M17, H17, G17⟩ := id Vn
        have hc12_18 : (2 : Int) < zn.toInt := by omega
        obtain ⟨cl19, Ar19, q19, S19, M19, H19, G19⟩ := id Vn
        have hin19 : ¬ ((2 : Int32) < 0 ∨ cl19.slots.size ≤ ((2 : Int32)).toNatClampNeg) := inb_of S19 ⟨by decide, by rw [Int32.lt_iff_toInt_lt]; have kj : ((2 : Int32)).toInt = (2 : Int) := (by decide); omega⟩
        have hat19 : cl19.slots[((2 : Int32)).toNatClampNeg]? = some (.int b2) := Has.at H19 hin19 g2
        obtain ⟨cl20, Ar20, q20, S20, M20, H20, G20⟩ := id Vd
        have hin20 : ¬ ((2 : Int32) < 0 ∨ cl20.slots.size ≤ ((2 : Int32)).toNatClampNeg) := inb_of S20 ⟨by decide, by decide⟩
        have hat20 : cl20.slots[((2 : Int32)).toNatClampNeg]? = some (.int d2) := Has.at H20 hin20 rfl
        have pre22 : oP p e below (s₁.setTop (mkF m 21 #[.val (.ref ob), .val (.ref lb), .val (.int 2)] [(.int d2), (.int b2)])) (SS) := fun t kt => by
          refine pre16 _ ?_
          refine XS.icmpYes X0.here hx rfl (pc0 := 21) (pc' := 26) rfl (hb hby d19_21) rfl (own_teq (a := b1) (b := d1) rfl rfl hc21_15).1 (by decide) (by decide) ?_
          refine XS.iinc X0.here hx rfl (hb hby d19_26) rfl (l' := #[.val (.ref ob), .val (.ref lb), .val (.int 2)]) rfl ?_
          refine XS.goto X0.here hx rfl (pc0 := 29) (pc' := 9) rfl (hb hby d19_29) (by decide) (by decide) ?_
          refine XS.iloadN X0.here hx rfl (hb hby d19_9) rfl ?_
          refine XS.aloadN X0.here hx rfl (hb hby d19_10) rfl rfl ?_
          refine X0.arraylength hx (by rw [e0]; exact Ar17.1) (State.isArrayOf_alike hZ.alike Ar17.2.1) (g := (mkF m 11 #[.val (.ref ob), .val (.ref lb), .val (.int 2)] [(.ref ob), (.int 2)])) rfl rfl (hb hby d19_11) _ ?_
          rw [len_of S17 M17]
          refine XS.icmpNo X0.here hx rfl (hb hby d19_12) rfl (own_tlt (a := (2 : Int32)) (b := zn) (by decide) rfl hc12_18).2.1 ?_
          refine XS.aloadN X0.here hx rfl (hb hby d19_15) rfl rfl ?_
          refine XS.iloadN X0.here hx rfl (hb hby d19_16) rfl ?_
          show Steps p.tables e below (s₁.setTop (mkF m 17 #[.val (.ref ob), .val (.ref lb), .val (.int 2)] [(.int 2), (.ref ob)])) _
          refine X0.baloadBytes hx (j := (2 : Int32)) (v := (.int b2)) (by rw [e0]; exact Ar19.1) (State.isArrayOf_alike hZ.alike Ar19.2.1) Ar19.2.2 hin19 hat19 (g := (mkF m 17 #[.val (.ref ob), .val (.ref lb), .val (.int 2)] [(.int 2), (.ref ob)])) rfl rfl (hb hby d19_17) _ ?_
          refine XS.aloadN X0.here hx rfl (hb hby d19_18) rfl rfl ?_
          refine XS.iloadN X0.here hx rfl (hb hby d19_19) rfl ?_
          refine X0.baloadBytes hx (j := (2 : Int32)) (v := (.int d2)) (by rw [e0]; exact Ar20.1) (State.isArrayOf_alike hZ.alike Ar20.2.1) Ar20.2.2 hin20 hat20 (g := (mkF m 20 #[.val (.ref ob), .val (.ref lb), .val (.int 2)] [(.int 2), (.ref lb), (.int b2)])) rfl rfl (hb hby d19_20) _ ?_
          exact kt
        by_cases hc21_21 : b2.toInt = d2.toInt
        · obtain ⟨cl23, Ar23, q23, S23, M23, H23, G23⟩ := id Vn
          have hc12_24 : (3 : Int) < zn.toInt := by omega
          obtain ⟨cl25, Ar25, q25, S25, M25, H25, G25⟩ := id Vn
          have hin25 : ¬ ((3 : Int32) < 0 ∨ cl25.slots.size ≤ ((3 : Int32)).toNatClampNeg) := inb_of S25 ⟨by decide, by rw [Int32.lt_iff_toInt_lt]; have kj : ((3 : Int32)).toInt = (3 : Int) := (by decide); omega⟩
          have hat25 : cl25.slots[((3 : Int32)).toNatClampNeg]? = some (.int b3) := Has.at H25 hin25 g3
          obtain ⟨cl26, Ar26, q26, S26, M26, H26, G26⟩ := id Vd
          have hin26 : ¬ ((3 : Int32) < 0 ∨ cl26.slots.size ≤ ((3 : Int32)).toNatClampNeg) := inb_of S26 ⟨by decide, by decide⟩
          have hat26 : cl26.slots[((3 : Int32)).toNatClampNeg]? = some (.int d3) := Has.at H26 hin26 rfl
          have pre28 : oP p e below (s₁.setTop (mkF m 21 #[.val (.ref ob), .val (.ref lb), .val (.int 3)] [(.int d3), (.int b3)])) (SS) := fun t kt => by
            refine pre22 _ ?_
            refine XS.icmpYes X0.here hx rfl (pc0 := 21) (pc' := 26) rfl (hb hby d19_21) rfl (own_teq (a := b2) (b := d2) rfl rfl hc21_21).1 (by decide) (by decide) ?_
            refine XS.iinc X0.here hx rfl (hb hby d19_26) rfl (l' := #[.val (.ref ob), .val (.ref lb), .val (.int 3)]) rfl ?_
            refine XS.goto X0.here hx rfl (pc0 := 29) (pc' := 9) rfl (hb hby d19_29) (by decide) (by decide) ?_
            refine XS.iloadN X0.here hx rfl (hb hby d19_9) rfl ?_
            refine XS.aloadN X0.here hx rfl (hb hby d19_10) rfl rfl ?_
            refine X0.arraylength hx (by rw [e0]; exact Ar23.1) (State.isArrayOf_alike hZ.alike Ar23.2.1) (g := (mkF m 11 #[.val (.ref ob), .val (.ref lb), .val (.int 3)] [(.ref ob), (.int 3)])) rfl rfl (hb hby d19_11) _ ?_
            rw [len_of S23 M23]
            refine XS.icmpNo X0.here hx rfl (hb hby d19_12) rfl (own_tlt (a := (3 : Int32)) (b := zn) (by decide) rfl hc12_24).2.1 ?_
            refine XS.aloadN X0.here hx rfl (hb hby d19_15) rfl rfl ?_
            refine XS.iloadN X0.here hx rfl (hb hby d19_16) rfl ?_
            refine X0.baloadBytes hx (j := (3 : Int32)) (v := (.int b3)) (by rw [e0]; exact Ar25.1) (State.isArrayOf_alike hZ.alike Ar25.2.1) Ar25.2.2 hin25 hat25 (g := (mkF m 17 #[.val (.ref ob), .val (.ref lb), .val (.int 3)] [(.int 3), (.ref ob)])) rfl rfl (hb hby d19_17) _ ?_
            refine XS.aloadN X0.here hx rfl (hb hby d19_18) rfl rfl ?_
            refine XS.iloadN X0.here hx rfl (hb hby d19_19) rfl ?_
            refine X0.baloadBytes hx (j := (3 : Int32)) (v := (.int d3)) (by rw [e0]; exact Ar26.1) (State.isArrayOf_alike hZ.alike Ar26.2.1) Ar26.2.2 hin26 hat26 (g := (mkF m 20 #[.val (.ref ob), .val (.ref lb), .val (.int 3)] [(.int 3), (.ref lb), (.int b3)])) rfl rfl (hb hby d19_20) _ ?_
            exact kt
          by_cases hc21_27 : b3.toInt = d3.toInt
          · obtain ⟨cl29, Ar29, q29, S29, M29, H29, G29⟩ := id Vn
            have hc12_30 : ¬ ((4 : Int) < zn.toInt) := by omega
            subst hSS
            obtain ⟨fs, hr, q1, q2, q3, q4⟩ := X0.leave (v := some (.int 1)) (fun h => by rw [Bd.returns] at h; cases h)
            refine ⟨_, _, pre28 _ ?_, q1, q2, _, _, rfl, ?_, ⟨_, rfl⟩, q3, q4.mono (by decide) (by decide)⟩
            · refine XS.icmpYes X0.here hx rfl (pc0 := 21) (pc' := 26) rfl (hb hby d19_21) rfl (own_teq (a := b3) (b := d3) rfl rfl hc21_27).1 (by decide) (by decide) ?_
              refine XS.iinc X0.here hx rfl (hb hby d19_26) rfl (l' := #[.val (.ref ob), .val (.ref lb), .val (.int 4)]) rfl ?_
              refine XS.goto X0.here hx rfl (pc0 := 29) (pc' := 9) rfl (hb hby d19_29) (by decide) (by decide) ?_
              show Steps p.tables e below (s₁.setTop (mkF m 9 #[.val (.ref ob), .val (.ref lb), .val (.int 4)] [])) _
              refine XS.iloadN X0.here hx rfl (hb hby d19_9) rfl ?_
              refine XS.aloadN X0.here hx rfl (hb hby d19_10) rfl rfl ?_
              refine X0.arraylength hx (by rw [e0]; exact Ar29.1) (State.isArrayOf_alike hZ.alike Ar29.2.1) (g := (mkF m 11 #[.val (.ref ob), .val (.ref lb), .val (.int 4)] [(.ref ob), (.int 4)])) rfl rfl (hb hby d19_11) _ ?_
              rw [len_of S29 M29]
              refine XS.icmpYes X0.here hx rfl (pc0 := 12) (pc' := 32) rfl (hb hby d19_12) rfl (own_flt (a := (4 : Int32)) (b := zn) (by decide) rfl hc12_30).2.1 (by decide) (by decide) ?_
              refine XS.iconst X0.here hx rfl (hb hby d19_32) ?_
              exact retN X0 hx (t := .boolean) Bd.returns (by simp) (hb hby d19_33) hr
            · show Q_lB4 Z _ _ _ _ _ _ _ _ _ _ h0 n0 _ s₁.heap _
              rw [e0]
              exact ⟨_, rfl, Or.inl ⟨rfl, by omega, own_bd g0 (by omega), own_bd g1 (by omega), own_bd g2 (by omega), own_bd g3 (by omega)⟩, N0, rfl⟩
          · subst hSS
            obtain ⟨fs, hr, q1, q2, q3, q4⟩ := X0.leave (v := some (.int 0)) (fun h => by rw [Bd.returns] at h; cases h)
            refine ⟨_, _, pre28 _ ?_, q1, q2, _, _, rfl, ?_, ⟨_, rfl⟩, q3, q4.mono (by decide) (by decide)⟩
            · refine XS.icmpNo X0.here hx rfl (hb hby d19_21) rfl (own_feq (a := b3) (b := d3) rfl rfl hc21_27).1 ?_
              refine XS.iconst X0.here hx rfl (hb hby d19_24) ?_
              exact retN X0 hx (t := .boolean) Bd.returns (by simp) (hb hby d19_25) hr
            · show Q_lB4 Z _ _ _ _ _ _ _ _ _ _ h0 n0 _ s₁.heap _
              rw [e0]
              exact ⟨_, rfl, Or.inr ⟨rfl, fun q => by have := own_bi g3 q.2.2.2.2; omega⟩, N0, rfl⟩
        · subst hSS
          obtain ⟨fs, hr, q1, q2, q3, q4⟩ := X0.leave (v := some (.int 0)) (fun h => by rw [Bd.returns] at h; cases h)
          refine ⟨_, _, pre22 _ ?_, q1, q2, _, _, rfl, ?_, ⟨_, rfl⟩, q3, q4.mono (by decide) (by decide)⟩
          · refine XS.icmpNo X0.here hx rfl (hb hby d19_21) rfl (own_feq (a := b2) (b := d2) rfl rfl hc21_21).1 ?_
            refine XS.iconst X0.here hx rfl (hb hby d19_24) ?_
            exact retN X0 hx (t := .boolean) Bd.returns (by simp) (hb hby d19_25) hr
          · show Q_lB4 Z _ _ _ _ _ _ _ _ _ _ h0 n0 _ s₁.heap _
            rw [e0]
            exact ⟨_, rfl, Or.inr ⟨rfl, fun q => by have := own_bi g2 q.2.2.2.1; omega⟩, N0, rfl⟩
      · subst hSS
        obtain ⟨fs, hr, q1, q2, q3, q4⟩ := X0.leave (v := some (.int 0)) (fun h => by rw [Bd.returns] at h; cases h)
        refine ⟨_, _, pre16 _ ?_, q1, q2, _, _, rfl, ?_, ⟨_, rfl⟩, q3, q4.mono (by decide) (by decide)⟩
        · refine XS.icmpNo X0.here hx rfl (hb hby d19_21) rfl (own_feq (a := b1) (b := d1) rfl rfl hc21_15).1 ?_
          refine XS.iconst X0.here hx rfl (hb hby d19_24) ?_
          exact retN X0 hx (t := .boolean) Bd.returns (by simp) (hb hby d19_25) hr
        · show Q_lB4 Z _ _ _ _ _ _ _ _ _ _ h0 n0 _ s₁.heap _
          rw [e0]
          exact ⟨_, rfl, Or.inr ⟨rfl, fun q => by have := own_bi g1 q.2.2.1; omega⟩, N0, rfl⟩
    · subst hSS
      obtain ⟨fs, hr, q1, q2, q3, q4⟩ := X0.leave (v := some (.int 0)) (fun h => by rw [Bd.returns] at h; cases h)
      refine ⟨_, _, pre10 _ ?_, q1, q2, _, _, rfl, ?_, ⟨_, rfl⟩, q3, q4.mono (by decide) (by decide)⟩
      · refine XS.icmpNo X0.here hx rfl (hb hby d19_21) rfl (own_feq (a := b0) (b := d0) rfl rfl hc21_9).1 ?_
        refine XS.iconst X0.here hx rfl (hb hby d19_24) ?_
        show Steps p.tables e below (s₁.setTop (mkF m 25 #[.val (.ref ob), .val (.ref lb), .val (.int 0)] [(.int 0)])) _
        exact retN X0 hx (t := .boolean) Bd.returns (by simp) (hb hby d19_25) hr
      · show Q_lB4 Z _ _ _ _ _ _ _ _ _ _ h0 n0 _ s₁.heap _
        rw [e0]
        exact ⟨_, rfl, Or.inr ⟨rfl, fun q => by have := own_bi g0 q.2.1; omega⟩, N0, rfl⟩
  · subst hSS
    obtain ⟨fs, hr, q1, q2, q3, q4⟩ := X0.leave (v := some (.int 0)) (fun h => by rw [Bd.returns] at h; cases h)
    refine ⟨_, _, pre4 _ ?_, q1, q2, _, _, rfl, ?_, ⟨_, rfl⟩, q3, q4.mono (by decide) (by decide)⟩
    · refine XS.icmpYes X0.here hx rfl (pc0 := 4) (pc' := 34) rfl (hb hby d19_4) rfl (own_feq (a := zn) (b := (4 : Int32)) rfl (by decide) hc4_3).2 (by decide) (by decide) ?_
      refine XS.iconst X0.here hx rfl (hb hby d19_34) ?_
      exact retN X0 hx (t := .boolean) Bd.returns (by simp) (hb hby d19_35) hr
    · show Q_lB4 Z _ _ _ _ _ _ _ _ _ _ h0 n0 _ s₁.heap _
      rw [e0]
      exact ⟨_, rfl, Or.inr ⟨rfl, fun q => by have := q.1; omega⟩, N0, rfl⟩
theorem ef_rm_qB4 (m : MethodId) (x0 : Addr) (x1 : Addr) : entryFrame m #[(.ref x0), (.ref x1)] 3 = mkF m 0 #[.val (.ref x0), .val (.ref x1), .unset] [] := by first | (simp [entryFrame, mkF, argsToLocals, Value.category]; done) | rfl
def Q_qB4 (Z : State) (oa : Addr) (la : Addr) (vcs : Int32) (vf : Value) (ob : Addr) (lb : Addr) (kd : ClassId) (kn : ClassId) (zn : Int32) (vs : List Value) (d0 : Int32) (d1 : Int32) (d2 : Int32) (d3 : Int32) (h0 : Heap) (n0 : Nat) (v : Option Value) (h : Heap) (L : List Loc) : Prop := ∃ z : Int32, v = some (.int z) ∧ ((z = (1 : Int32) ∧ own_e4 zn vs d0 d1 d2 d3) ∨ (z = (0 : Int32) ∧ ¬ own_e4 zn vs d0 d1 d2 d3)) ∧ Fr n0 L ∧ h = h0
theorem rm_qB4 (l : Launch) (Z : State) (a0 : Array Value) (hw : ∀ d ∈ tables_1, d.before a0 Z = true) (ws : List Jvm.Cond) (oa : Addr) (la : Addr) (vcs : Int32) (vf : Value) (ob : Addr) (lb : Addr) (kd : ClassId) (kn : ClassId) (zn : Int32) (vs : List Value) (d0 : Int32) (d1 : Int32) (d2 : Int32) (d3 : Int32) (h0 : Heap) (n0 : Nat) (Z0 : n0 ≤ h0.size) (Os : own_st Z h0 vcs vf) (Ed : Exa Z h0 la "java/lang/String") (Cd : Fld Z h0 la "java/lang/String" "coder" "B" (.int 0)) (Ud : Fld Z h0 la "java/lang/String" "value" "[B" (.ref lb)) (Vd : Arv Z h0 lb kd .byte (4 : Int32) [(.int d0), (.int d1), (.int d2), (.int d3)] (.int 0)) (En : Exa Z h0 oa "java/lang/String") (Cn : Fld Z h0 oa "java/lang/String" "coder" "B" (.int 0)) (Un : Fld Z h0 oa "java/lang/String" "value" "[B" (.ref ob)) (Vn : Arv Z h0 ob kn .byte zn vs (.int 0)) :
    MetFree l yn1 (head1 (Jvm.Cond.code yn1 kc1 3 (some .boolean) :: ws) ⟨1, 0, 0, 14⟩) (fun a U => a = #[(.ref oa), (.ref la)] ∧ Z.Warmed39 U.vm ∧ U.heap = h0) (fun _ _ _ _ _ => True) (fun _ U o U' => ∃ v L, o = .returned v ∧ Q_qB4 Z oa la vcs vf ob lb kd kn zn vs d0 d1 d2 d3 h0 n0 v U'.heap L ∧ FrameEnd U o U' L 0 0) := by
  refine MetFree.of_bodySF (plainFor_of_name pn_1) hisR ?_
  intro p e s m args below meth c s₁ Bd hml0 hP hK
  obtain ⟨rfl, hZ, hh⟩ := hP
  have hx := Bd.exec
  have hby := Bd.bytes
  have hml : c.maxLocals = 3 := hml0
  have hown : s.vm.findClass "java/lang/String" = some m.cls := findClass_of_methodNamed Bd.named
  have hnm := (name_of_methodNamed Bd.named Bd.method).1
  have X0 : Stand p l e ⟨1, 0, 0, 14⟩ s m #[(.ref oa), (.ref la)] below meth c s₁ [] 0 0 := Stand.of_body Bd
  have e0 : s₁.heap = h0 := by rw [← hh, Bd.state]; rfl
  have N0 := Fr.nil n0
  obtain ⟨SS, hSS⟩ : ∃ S, S = s₁.setTop (entryFrame m #[(.ref oa), (.ref la)] 3) := ⟨_, rfl⟩
  have pre0 : oP p e below (s₁.setTop (mkF m 0 #[.val (.ref oa), .val (.ref la), .unset] [])) (SS) := by
    rw [hSS]; exact fun t k => castTop (ef_rm_qB4 m oa la) k
  have pre1 : oP p e below (s₁.setTop (mkF m 2 #[.val (.ref oa), .val (.ref la), .unset] [(.ref la), (.ref oa)])) (SS) := fun t kt => by
    refine pre0 _ ?_
    refine XS.aloadN X0.here hx rfl (hb hby d18_0) rfl rfl ?_
    refine XS.aloadN X0.here hx rfl (hb hby d18_1) rfl rfl ?_
    exact kt
  by_cases hab : oa = la
  · have hsm := own_arv_inj Vn (show Arv Z h0 ob kd .byte (4 : Int32) [(.int d0), (.int d1), (.int d2), (.int d3)] (.int 0) by rw [own_same hab Un Ud]; exact Vd)
    have hsl : zn.toInt = 4 := own_clamp (n := 4) hsm.1 (by decide)
    have hlt : ∀ i, i < 4 → i < zn.toNatClampNeg := fun i hi => by rw [hsm.1]; exact hi
    subst hSS
    obtain ⟨fs, hr, q1, q2, q3, q4⟩ := X0.leave (v := some (.int 1)) (fun h => by rw [Bd.returns] at h; cases h)
    refine ⟨_, _, pre1 _ ?_, q1, q2, _, _, rfl, ?_, ⟨_, rfl⟩, q3, q4.mono (by decide) (by decide)⟩
    · refine Jvm.RoadKit.acmp (g := (mkF m 2 #[.val (.ref oa), .val (.ref la), .unset] [(.ref la), (.ref oa)])) X0 hx rfl rfl rfl (pc0 := 2) (pc' := 5) (same := true) rfl (hb hby d18_2) rfl (decide_eq_true (congrArg Value.ref hab)) (by decide) (by decide) ?_
      refine XS.iconst X0.here hx rfl (hb hby d18_5) ?_
      exact retN X0 hx (t := .boolean) Bd.returns (by simp) (hb hby d18_6) hr
    · show Q_qB4 Z _ _ _ _ _ _ _ _ _ _ _ _ _ _ h0 n0 _ s₁.heap _
      rw [e0]
      exact ⟨_, rfl, Or.inl ⟨rfl, hsl, hsm.2 0 (hlt 0 (by decide)), hsm.2 1 (hlt 1 (by decide)), hsm.2 2 (hlt 2 (by decide)), hsm.2 3 (hlt 3 (by decide))⟩, N0, rfl⟩
  · have own_nab := True.intro
    obtain ⟨T2, X2, e2, st2⟩ := instY X0 hx hZ hown (ow hw 94 rfl) e0 (Ins.self Ed) (g := (mkF m 8 #[.val (.ref oa), .val (.ref la), .unset] [(.ref la)])) rfl rfl (hb hby d18_8)
    have hc11_3 : ¬ ((1 : Int) = (0 : Int)) := by decide
    obtain ⟨T4, X4, e4, st4⟩ := castY X2 hx hZ hown (ow hw 94 rfl) e2 (Ins.self Ed) (g := (mkF m 15 #[.val (.ref oa), .val (.ref la), .unset] [(.ref la)])) rfl rfl (hb hby d18_15)
    obtain ⟨T5, X5, e5, st5⟩ := getS2 X4 hx hZ hown (host := "") (Or.inl (ow hw 19 rfl)) Via.refl e4 Os.1 (g := (mkF m 19 #[.val (.ref oa), .val (.ref la), .val (.ref la)] [])) rfl (hb hby d18_19)
    have hc22_6 : ¬ (vcs.toInt = (0 : Int)) := by (have q := Os.2.1; omega)
    obtain ⟨T7, X7, e7, st7⟩ := getF X5 hx hZ hown (host := "") (Or.inl (ow hw 20 rfl)) Via.refl e5 Cn (g := (mkF m 26 #[.val (.ref oa), .val (.ref la), .val (.ref la)] [(.ref oa)])) rfl rfl (hb hby d18_26)
    obtain ⟨T8, X8, e8, st8⟩ := getF X7 hx hZ hown (host := "") (Or.inl (ow hw 20 rfl)) Via.refl e7 Cd (g := (mkF m 30 #[.val (.ref oa), .val (.ref la), .val (.ref la)] [(.ref la), (.int 0)])) rfl rfl (hb hby d18_30)
    have hc33_9 : (0 : Int) = (0 : Int) := by decide
    obtain ⟨T10, X10, e10, st10⟩ := getF X8 hx hZ hown (host := "") (Or.inl (ow hw 13 rfl)) Via.refl e8 Un (g := (mkF m 37 #[.val (.ref oa), .val (.ref la), .val (.ref la)] [(.ref oa)])) rfl rfl (hb hby d18_37)
    obtain ⟨T11, X11, e11, st11⟩ := getF X10 hx hZ hown (host := "") (Or.inl (ow hw 13 rfl)) Via.refl e10 Ud (g := (mkF m 41 #[.val (.ref oa), .val (.ref la), .val (.ref la)] [(.ref la), (.ref ob)])) rfl rfl (hb hby d18_41)
    obtain ⟨_, _, ⟨T12, L12, k12, n12⟩, -, X12, ⟨Lc12, hQ12, l12, y12, z12⟩, st12⟩ := Jvm.LawKit.callS X11 hx (y := yn0) hown (mvT hZ (ow hw 95 rfl)) (mvT hZ (ow hw 96 rfl)) (mvT hZ (ow hw 37 rfl)) (mvT hZ (ow hw 97 rfl)) (by decide) (backOf (W := 0) (rm_lB4 l Z a0 hw [] ob lb kd kn zn vs d0 d1 d2 d3 h0 n0 Z0 Vd Vn) hZ (ow hw 97 rfl) (ow hw 37 rfl) (by decide) (by decide)) (g := (mkF m 44 #[.val (.ref oa), .val (.ref la), .val (.ref la)] [(.ref lb), (.ref ob)])) rfl (by rw [hml]; rfl) (argsL := [(.ref ob), (.ref lb)]) (rest := []) (lenOf pd_0 rfl) rfl (by exact Nat.le_of_eq rfl) (hb hby d18_44) (fun _ _ => ⟨rfl, e11, (by decide : 0 + 0 ≤ _), (by decide : 0 + 0 ≤ _)⟩)
    dsimp only [Pt.U, Pt.locs, Pt.cells, Pt.slots] at X12 l12 y12 z12 st12 hQ12
    rw [l12, y12, z12] at X12
    obtain ⟨zq, rfl, hzq, N12q, e12⟩ := hQ12
    have N12 := Fr.app N0 N12q
    have pre13 : oP p e below (T12.setTop (mkF m 47 #[.val (.ref oa), .val (.ref la), .val (.ref la)] [(.int zq)])) (SS) := fun t kt => by
      refine pre1 _ ?_
      refine Jvm.RoadKit.acmp (g := (mkF m 2 #[.val (.ref oa), .val (.ref la), .unset] [(.ref la), (.ref oa)])) X0 hx rfl rfl rfl (pc0 := 2) (pc' := 7) (same := false) rfl (hb hby d18_2) rfl (decide_eq_false fun q => hab (Value.ref.inj q)) (by decide) (by decide) ?_
      refine XS.aloadN X0.here hx rfl (hb hby d18_7) rfl rfl ?_
      refine st2 _ ?_
      refine XS.ifNo X2.here hx rfl (hb hby d18_11) rfl (own_if (own_feq (a := (1 : Int32)) (b := (0 : Int32)) (by decide) (by decide) hc11_3).1) ?_
      refine XS.aloadN X2.here hx rfl (hb hby d18_14) rfl rfl ?_
      refine st4 _ ?_
      refine XS.astoreN X4.here hx rfl (hb hby d18_18) rfl rfl (l' := #[.val (.ref oa), .val (.ref la), .val (.ref la)]) rfl ?_
      refine st5 _ ?_
      refine XS.ifNo X5.here hx rfl (hb hby d18_22) rfl (own_if (own_feq (a := vcs) (b := (0 : Int32)) rfl (by decide) hc22_6).1) ?_
      refine XS.aloadN X5.here hx rfl (hb hby d18_25) rfl rfl ?_
      refine st7 _ ?_
      refine XS.aloadN X7.here hx rfl (hb hby d18_29) rfl rfl ?_
      refine st8 _ ?_
      refine XS.icmpNo X8.here hx rfl (hb hby d18_33) rfl (own_teq (a := (0 : Int32)) (b := (0 : Int32)) (by decide) (by decide) hc33_9).2 ?_
      refine XS.aloadN X8.here hx rfl (hb hby d18_36) rfl rfl ?_
      refine st10 _ ?_
      refine XS.aloadN X10.here hx rfl (hb hby d18_40) rfl rfl ?_
      show Steps p.tables e below (T10.setTop (mkF m 41 #[.val (.ref oa), .val (.ref la), .val (.ref la)] [(.ref la), (.ref ob)])) _
      refine st11 _ ?_
      refine st12 _ ?_
      exact kt
    rcases hzq with ⟨rfl, hd⟩ | ⟨rfl, hd⟩
    · have pre14 : oP p e below (T12.setTop (mkF m 47 #[.val (.ref oa), .val (.ref la), .val (.ref la)] [(.int 1)])) (SS) := pre13
      have hc47_15 : ¬ ((1 : Int) = (0 : Int)) := by decide
      subst hSS
      obtain ⟨fs, hr, q1, q2, q3, q4⟩ := X12.leave (v := some (.int 1)) (fun h => by rw [Bd.returns] at h; cases h)
      refine ⟨_, _, pre14 _ ?_, q1, q2, _, _, rfl, ?_, ⟨_, rfl⟩, q3, q4.mono (by decide) (by decide)⟩
      · refine XS.ifNo X12.here hx rfl (hb hby d18_47) rfl (own_if (own_feq (a := (1 : Int32)) (b := (0 : Int32)) (by decide) (by decide) hc47_15).1) ?_
        refine XS.iconst X12.here hx rfl (hb hby d18_50) ?_
        refine XS.goto X12.here hx rfl (pc0 := 51) (pc' := 55) rfl (hb hby d18_51) (by decide) (by decide) ?_
        exact retN X12 hx (t := .boolean) Bd.returns (by simp) (hb hby d18_55) hr
      · show Q_qB4 Z _ _ _ _ _ _ _ _ _ _ _ _ _ _ h0 n0 _ T12.heap _
        rw [e12]
        exact ⟨_, rfl, Or.inl ⟨rfl, hd⟩, N12, rfl⟩
    · have pre16 : oP p e below (T12.setTop (mkF m 47 #[.val (.ref oa), .val (.ref la), .val (.ref la)] [(.int 0)])) (SS) := pre13
      have hc47_17 : (0 : Int) = (0 : Int) := by decide
      subst hSS
      obtain ⟨fs, hr, q1, q2, q3, q4⟩ := X12.leave (v := some (.int 0)) (fun h => by rw [Bd.returns] at h; cases h)
      refine ⟨_, _, pre16 _ ?_, q1, q2, _, _, rfl, ?_, ⟨_, rfl⟩, q3, q4.mono (by decide) (by decide)⟩
      · refine XS.ifYes X12.here hx rfl (pc0 := 47) (pc' := 54) rfl (hb hby d18_47) rfl (own_if (own_teq (a := (0 : Int32)) (b := (0 : Int32)) (by decide) (by decide) hc47_17).1) (by decide) (by decide) ?_
        refine XS.iconst X12.here hx rfl (hb hby d18_54) ?_
        exact retN X12 hx (t := .boolean) Bd.returns (by simp) (hb hby d18_55) hr
      · show Q_qB4 Z _ _ _ _ _ _ _ _ _ _ _ _ _ _ h0 n0 _ T12.heap _
        rw [e12]
        exact ⟨_, rfl, Or.inr ⟨rfl, hd⟩, N12, rfl⟩
theorem ef_rm_lA6 (m : MethodId) (x0 : Addr) (x1 : Addr) : entryFrame m #[(.ref x0), (.ref x1)] 3 = mkF m 0 #[.val (.ref x0), .val (.ref x1), .unset] [] := by first | (simp [entryFrame, mkF, argsToLocals, Value.category]; done) | rfl
def Q_lA6 (Z : State) (ob : Addr) (lb : Addr) (kd : ClassId) (kn : ClassId) (zn : Int32) (vs : List Value) (d0 : Int32) (d1 : Int32) (d2 : Int32) (d3 : Int32) (d4 : Int32) (d5 : Int32) (h0 : Heap) (n0 : Nat) (v : Option Value) (h : Heap) (L : List Loc) : Prop := ∃ z : Int32, v = some (.int z) ∧ ((z = (1 : Int32) ∧ own_e6 zn vs d0 d1 d2 d3 d4 d5) ∨ (z = (0 : Int32) ∧ ¬ own_e6 zn vs d0 d1 d2 d3 d4 d5)) ∧ Fr n0 L ∧ h = h0
theorem rm_lA6 (l : Launch) (Z : State) (a0 : Array Value) (hw : ∀ d ∈ tables_1, d.before a0 Z = true) (ws : List Jvm.Cond) (ob : Addr) (lb : Addr) (kd : ClassId) (kn : ClassId) (zn : Int32) (vs : List Value) (d0 : Int32) (d1 : Int32) (d2 : Int32) (d3 : Int32) (d4 : Int32) (d5 : Int32) (h0 : Heap) (n0 : Nat) (Z0 : n0 ≤ h0.size) (Vd : Arv Z h0 ob kd .byte (6 : Int32) [(.int d0), (.int d1), (.int d2), (.int d3), (.int d4), (.int d5)] (.int 0)) (Vn : Arv Z h0 lb kn .byte zn vs (.int 0)) :
    MetFree l yn0 (head1 (Jvm.Cond.code yn0 kc0 3 (some .boolean) :: ws) ⟨0, 0, 0, 0⟩) (fun a U => a = #[(.ref ob), (.ref lb)] ∧ Z.Warmed39 U.vm ∧ U.heap = h0) (fun _ _ _ _ _ => True) (fun _ U o U' => ∃ v L, o = .returned v ∧ Q_lA6 Z ob lb kd kn zn vs d0 d1 d2 d3 d4 d5 h0 n0 v U'.heap L ∧ FrameEnd U o U' L 0 0) := by
  refine MetFree.of_bodySF (plainFor_of_name pn_0) hisR ?_
  intro p e s m args below meth c s₁ Bd hml0 hP hK
  obtain ⟨rfl, hZ, hh⟩ := hP
  have hx := Bd.exec
  have hby := Bd.bytes
  have hml : c.maxLocals = 3 := hml0
  have hown : s.vm.findClass "java/lang/StringLatin1" = some m.cls := findClass_of_methodNamed Bd.named
  have hnm := (name_of_methodNamed Bd.named Bd.method).1
  have X0 : Stand p l e ⟨0, 0, 0, 0⟩ s m #[(.ref ob), (.ref lb)] below meth c s₁ [] 0 0 := Stand.of_body Bd
  have e0 : s₁.heap = h0 := by rw [← hh, Bd.state]; rfl
  have N0 := Fr.nil n0
  obtain ⟨SS, hSS⟩ : ∃ S, S = s₁.setTop (entryFrame m #[(.ref ob), (.ref lb)] 3) := ⟨_, rfl⟩
  have pre0 : oP p e below (s₁.setTop (mkF m 0 #[.val (.ref ob), .val (.ref lb), .unset] [])) (SS) := by
    rw [hSS]; exact fun t k => castTop (ef_rm_lA6 m ob lb) k
  obtain ⟨cl1, Ar1, q1, S1, M1, H1, G1⟩ := id Vd
  obtain ⟨cl2, Ar2, q2, S2, M2, H2, G2⟩ := id Vn
  have pre4 : oP p e below (s₁.setTop (mkF m 4 #[.val (.ref ob), .val (.ref lb), .unset] [(.int zn), (.int 6)])) (SS) := fun t kt => by
    refine pre0 _ ?_
    refine XS.aloadN X0.here hx rfl (hb hby d19_0) rfl rfl ?_
    refine X0.arraylength hx (by rw [e0]; exact Ar1.1) (State.isArrayOf_alike hZ.alike Ar1.2.1) (g := (mkF m 1 #[.val (.ref ob), .val (.ref lb), .unset] [(.ref ob)])) rfl rfl (hb hby d19_1) _ ?_
    rw [len_of S1 M1]
    refine XS.aloadN X0.here hx rfl (hb hby d19_2) rfl rfl ?_
    refine X0.arraylength hx (by rw [e0]; exact Ar2.1) (State.isArrayOf_alike hZ.alike Ar2.2.1) (g := (mkF m 3 #[.val (.ref ob), .val (.ref lb), .unset] [(.ref lb), (.int 6)])) rfl rfl (hb hby d19_3) _ ?_
    rw [len_of S2 M2]
    exact kt
  by_cases hc4_3 : (6 : Int) = zn.toInt
  · obtain ⟨b0, g0⟩ := own_intN Vn 0 (by omega)
    obtain ⟨b1, g1⟩ := own_intN Vn 1 (by omega)
    obtain ⟨b2, g2⟩ := own_intN Vn 2 (by omega)
    obtain ⟨b3, g3⟩ := own_intN Vn 3 (by omega)
    obtain ⟨b4, g4⟩ := own_intN Vn 4 (by omega)
    obtain ⟨b5, g5⟩ := own_intN Vn 5 (by omega)
    obtain ⟨cl5, Ar5, q5, S5, M5, H5, G5⟩ := id Vd
    have hc12_6 : (0 : Int) < (6 : Int) := by decide
    obtain ⟨cl7, Ar7, q7, S7, M7, H7, G7⟩ := id Vd
    have hin7 : ¬ ((0 : Int32) < 0 ∨ cl7.slots.size ≤ ((0 : Int32)).toNatClampNeg) := inb_of S7 ⟨by decide, by decide⟩
    have hat7 : cl7.slots[((0 : Int32)).toNatClampNeg]? = some (.int d0) := Has.at H7 hin7 rfl
    obtain ⟨cl8, Ar8, q8, S8, M8, H8, G8⟩ := id Vn
    have hin8 : ¬ ((0 : Int32) < 0 ∨ cl8.slots.size ≤ ((0 : Int32)).toNatClampNeg) := inb_of S8 ⟨by decide, by rw [Int32.lt_iff_toInt_lt]; have kj : ((0 : Int32)).toInt = (0 : Int) := (by decide); omega⟩
    have hat8 : cl8.slots[((0 : Int32)).toNatClampNeg]? = some (.int b0) := Has.at H8 hin8 g0
    have pre10 : oP p e below (s₁.setTop (mkF m 21 #[.val (.ref ob), .val (.ref lb), .val (.int 0)] [(.int b0), (.int d0)])) (SS) := fun t kt => by
      refine pre4 _ ?_
      refine XS.icmpNo X0.here hx rfl (hb hby d19_4) rfl (own_teq (a := (6 : Int32)) (b := zn) (by decide) rfl hc4_3).2 ?_
      refine XS.iconst X0.here hx rfl (hb hby d19_7) ?_
      refine XS.istoreN X0.here hx rfl (hb hby d19_8) rfl (l' := #[.val (.ref ob), .val (.ref lb), .val (.int 0)]) rfl ?_
      refine XS.iloadN X0.here hx rfl (hb hby d19_9) rfl ?_
      refine XS.aloadN X0.here hx rfl (hb hby d19_10) rfl rfl ?_
      refine X0.arraylength hx (by rw [e0]; exact Ar5.1) (State.isArrayOf_alike hZ.alike Ar5.2.1) (g := (mkF m 11 #[.val (.ref ob), .val (.ref lb), .val (.int 0)] [(.ref ob), (.int 0)])) rfl rfl (hb hby d19_11) _ ?_
      rw [len_of S5 M5]
      refine XS.icmpNo X0.here hx rfl (hb hby d19_12) rfl (own_tlt (a := (0 : Int32)) (b := (6 : Int32)) (by decide) (by decide) hc12_6).2.1 ?_
      refine XS.aloadN X0.here hx rfl (hb hby d19_15) rfl rfl ?_
      refine XS.iloadN X0.here hx rfl (hb hby d19_16) rfl ?_
      refine X0.baloadBytes hx (j := (0 : Int32)) (v := (.int d0)) (by rw [e0]; exact Ar7.1) (State.isArrayOf_alike hZ.alike Ar7.2.1) Ar7.2.2 hin7 hat7 (g := (mkF m 17 #[.val (.ref ob), .val (.ref lb), .val (.int 0)] [(.int 0), (.ref ob)])) rfl rfl (hb hby d19_17) _ ?_
      refine XS.aloadN X0.here hx rfl (hb hby d19_18) rfl rfl ?_
      refine XS.iloadN X0.here hx rfl (hb hby d19_19) rfl ?_
      refine X0.baloadBytes hx (j := (0 : Int32)) (v := (.int b0)) (by rw [e0]; exact Ar8.1) (State.isArrayOf_alike hZ.alike Ar8.2.1) Ar8.2.2 hin8 hat8 (g := (mkF m 20 #[.val (.ref ob), .val (.ref lb), .val (.int 0)] [(.int 0), (.ref lb), (.int d0)])) rfl rfl (hb hby d19_20) _ ?_
      exact kt
    by_cases hc21_9 : d0.toInt = b0.toInt
    · obtain ⟨cl11, Ar11, q11, S11, M11, H11, G11⟩ := id Vd
      have hc12_12 : (1 : Int) < (6 : Int) := by decide
      obtain ⟨cl13, Ar13, q13, S13, M13, H13, G13⟩ := id Vd
      have hin13 : ¬ ((1 : Int32) < 0 ∨ cl13.slots.size ≤ ((1 : Int32)).toNatClampNeg) := inb_of S13 ⟨by decide, by decide⟩
      have hat13 : cl13.slots[((1 : Int32)).toNatClampNeg]? = some (.int d1) := Has.at H13 hin13 rfl
      obtain ⟨cl14, Ar14, q14, S14, M14, H14, G14⟩ := id Vn
      have hin14 : ¬ ((1 : Int32) < 0 ∨ cl14.slots.size ≤ ((1 : Int32)).toNatClampNeg) := inb_of S14 ⟨by decide, by rw [Int32.lt_iff_toInt_lt]; have kj : ((1 : Int32)).toInt = (1 : Int) := (by decide); omega⟩
      have hat14 : cl14.slots[((1 : Int32)).toNatClampNeg]? = some (.int b1) := Has.at H14 hin14 g1
      have pre16 : oP p e below (s₁.setTop (mkF m 21 #[.val (.ref ob), .val (.ref lb), .val (.int 1)] [(.int b1), (.int d1)])) (SS) := fun t kt => by
        refine pre10 _ ?_
        refine XS.icmpYes X0.here hx rfl (pc0 := 21) (pc' := 26) rfl (hb hby d19_21) rfl (own_teq (a := d0) (b := b0) rfl rfl hc21_9).1 (by decide) (by decide) ?_
        refine XS.iinc X0.here hx rfl (hb hby d19_26) rfl (l' := #[.val (.ref ob), .val (.ref lb), .val (.int 1)]) rfl ?_
        show Steps p.tables e below (s₁.setTop (mkF m 29 #[.val (.ref ob), .val (.ref lb), .val (.int 1)] [])) _
        refine XS.goto X0.here hx rfl (pc0 := 29) (pc' := 9) rfl (hb hby d19_29) (by decide) (by decide) ?_
        refine XS.iloadN X0.here hx rfl (hb hby d19_9) rfl ?_
        refine XS.aloadN X0.here hx rfl (hb hby d19_10) rfl rfl ?_
        refine X0.arraylength hx (by rw [e0]; exact Ar11.1) (State.isArrayOf_alike hZ.alike Ar11.2.1) (g := (mkF m 11 #[.val (.ref ob), .val (.ref lb), .val (.int 1)] [(.ref ob), (.int 1)])) rfl rfl (hb hby d19_11) _ ?_
        rw [len_of S11 M11]
        refine XS.icmpNo X0.here hx rfl (hb hby d19_12) rfl (own_tlt (a := (1 : Int32)) (b := (6 : Int32)) (by decide) (by decide) hc12_12).2.1 ?_
        refine XS.aloadN X0.here hx rfl (hb hby d19_15) rfl rfl ?_
        refine XS.iloadN X0.here hx rfl (hb hby d19_16) rfl ?_
        refine X0.baloadBytes hx (j := (1 : Int32)) (v := (.int d1)) (by rw [e0]; exact Ar13.1) (State.isArrayOf_alike hZ.alike Ar13.2.1) Ar13.2.2 hin13 hat13 (g := (mkF m 17 #[.val (.ref ob), .val (.ref lb), .val (.int 1)] [(.int 1), (.ref ob)])) rfl rfl (hb hby d19_17) _ ?_
        refine XS.aloadN X0.here hx rfl (hb hby d19_18) rfl rfl ?_
        refine XS.iloadN X0.here hx rfl (hb hby d19_19) rfl ?_
        refine X0.baloadBytes hx (j := (1 : Int32)) (v := (.int b1)) (by rw [e0]; exact Ar14.1) (State.isArrayOf_alike hZ.alike Ar14.2.1) Ar14.2.2 hin14 hat14 (g := (mkF m 20 #[.val (.ref ob), .val (.ref lb), .val (.int 1)] [(.int 1), (.ref lb), (.int d1)])) rfl rfl (hb hby d19_20) _ ?_
        exact kt
      by_cases hc21_15 : d1.toInt = b1.toInt
      · obtain ⟨cl17, Ar17, q17, S17, M17, H17, G17⟩ := id Vd
        have hc12_18 : (2 : Int) < (6 : Int) := by decide
        obtain ⟨cl19, Ar19, q19, S19, M19, H19, G19⟩ := id Vd
        have hin19 : ¬ ((2 : Int32) < 0 ∨ cl19.slots.size ≤ ((2 : Int32)).toNatClampNeg) := inb_of S19 ⟨by decide, by decide⟩
        have hat19 : cl19.slots[((2 : Int32)).toNatClampNeg]? = some (.int d2) := Has.at H19 hin19 rfl
        obtain ⟨cl20, Ar20, q20, S20, M20, H20, G20⟩ := id Vn
        have hin20 : ¬ ((2 : Int32) < 0 ∨ cl20.slots.size ≤ ((2 : Int32)).toNatClampNeg) := inb_of S20 ⟨by decide, by rw [Int32.lt_iff_toInt_lt]; have kj : ((2 : Int32)).toInt = (2 : Int) := (by decide); omega⟩
        have hat20 : cl20.slots[((2 : Int32)).toNatClampNeg]? = some (.int b2) := Has.at H20 hin20 g2
        have pre22 : oP p e below (s₁.setTop (mkF m 21 #[.val (.ref ob), .val (.ref lb), .val (.int 2)] [(.int b2), (.int d2)])) (SS) := fun t kt => by
          refine pre16 _ ?_
          refine XS.icmpYes X0.here hx rfl (pc0 := 21) (pc' := 26) rfl (hb hby d19_21) rfl (own_teq (a := d1) (b := b1) rfl rfl hc21_15).1 (by decide) (by decide) ?_
          refine XS.iinc X0.here hx rfl (hb hby d19_26) rfl (l' := #[.val (.ref ob), .val (.ref lb), .val (.int 2)]) rfl ?_
          refine XS.goto X0.here hx rfl (pc0 := 29) (pc' := 9) rfl (hb hby d19_29) (by decide) (by decide) ?_
          refine XS.iloadN X0.here hx rfl (hb hby d19_9) rfl ?_
          refine XS.aloadN X0.here hx rfl (hb hby d19_10) rfl rfl ?_
          refine X0.arraylength hx (by rw [e0]; exact Ar17.1) (State.isArrayOf_alike hZ.alike Ar17.2.1) (g := (mkF m 11 #[.val (.ref ob), .val (.ref lb), .val (.int 2)] [(.ref ob), (.int 2)])) rfl rfl (hb hby d19_11) _ ?_
          rw [len_of S17 M17]
          refine XS.icmpNo X0.here hx rfl (hb hby d19_12) rfl (own_tlt (a := (2 : Int32)) (b := (6 : Int32)) (by decide) (by decide) hc12_18).2.1 ?_
          refine XS.aloadN X0.here hx rfl (hb hby d19_15) rfl rfl ?_
          refine XS.iloadN X0.here hx rfl (hb hby d19_16) rfl ?_
          show Steps p.tables e below (s₁.setTop (mkF m 17 #[.val (.ref ob), .val (.ref lb), .val (.int 2)] [(.int 2), (.ref ob)])) _
          refine X0.baloadBytes hx (j := (2 : Int32)) (v := (.int d2)) (by rw [e0]; exact Ar19.1) (State.isArrayOf_alike hZ.alike Ar19.2.1) Ar19.2.2 hin19 hat19 (g := (mkF m 17 #[.val (.ref ob), .val (.ref lb), .val (.int 2)] [(.int 2), (.ref ob)])) rfl rfl (hb hby d19_17) _ ?_
          refine XS.aloadN X0.here hx rfl (hb hby d19_18) rfl rfl ?_
          refine XS.iloadN X0.here hx rfl (hb hby d19_19) rfl ?_
          refine X0.baloadBytes hx (j := (2 : Int32)) (v := (.int b2)) (by rw [e0]; exact Ar20.1) (State.isArrayOf_alike hZ.alike Ar20.2.1) Ar20.2.2 hin20 hat20 (g := (mkF m 20 #[.val (.ref ob), .val (.ref lb), .val (.int 2)] [(.int 2), (.ref lb), (.int d2)])) rfl rfl (hb hby d19_20) _ ?_
          exact kt
        by_cases hc21_21 : d2.toInt = b2.toInt
        · obtain ⟨cl23, Ar23, q23, S23, M23, H23, G23⟩ := id Vd
          have hc12_24 : (3 : Int) < (6 : Int) := by decide
          obtain ⟨cl25, Ar25, q25, S25, M25, H25, G25⟩ := id Vd
          have hin25 : ¬ ((3 : Int32) < 0 ∨ cl25.slots.size ≤ ((3 : Int32)).toNatClampNeg) := inb_of S25 ⟨by decide, by decide⟩
          have hat25 : cl25.slots[((3 : Int32)).toNatClampNeg]? = some (.int d3) := Has.at H25 hin25 rfl
          obtain ⟨cl26, Ar26, q26, S26, M26, H26, G26⟩ := id Vn
          have hin26 : ¬ ((3 : Int32) < 0 ∨ cl26.slots.size ≤ ((3 : Int32)).toNatClampNeg) := inb_of S26 ⟨by decide, by rw [Int32.lt_iff_toInt_lt]; have kj : ((3 : Int32)).toInt = (3 : Int) := (by decide); omega⟩
          have hat26 : cl26.slots[((3 : Int32)).toNatClampNeg]? = some (.int b3) := Has.at H26 hin26 g3
          have pre28 : oP p e below (s₁.setTop (mkF m 21 #[.val (.ref ob), .val (.ref lb), .val (.int 3)] [(.int b3), (.int d3)])) (SS) := fun t kt => by
            refine pre22 _ ?_
            refine XS.icmpYes X0.here hx rfl (pc0 := 21) (pc' := 26) rfl (hb hby d19_21) rfl (own_teq (a := d2) (b := b2) rfl rfl hc21_21).1 (by decide) (by decide) ?_
            refine XS.iinc X0.here hx rfl (hb hby d19_26) rfl (l' := #[.val (.ref ob), .val (.ref lb), .val (.int 3)]) rfl ?_
            refine XS.goto X0.here hx rfl (pc0 := 29) (pc' := 9) rfl (hb hby d19_29) (by decide) (by decide) ?_
            refine XS.iloadN X0.here hx rfl (hb hby d19_9) rfl ?_
            refine XS.aloadN X0.here hx rfl (hb hby d19_10) rfl rfl ?_
            refine X0.arraylength hx (by rw [e0]; exact Ar23.1) (State.isArrayOf_alike hZ.alike Ar23.2.1) (g := (mkF m 11 #[.val (.ref ob), .val (.ref lb), .val (.int 3)] [(.ref ob), (.int 3)])) rfl rfl (hb hby d19_11) _ ?_
            rw [len_of S23 M23]
            refine XS.icmpNo X0.here hx rfl (hb hby d19_12) rfl (own_tlt (a := (3 : Int32)) (b := (6 : Int32)) (by decide) (by decide) hc12_24).2.1 ?_
            refine XS.aloadN X0.here hx rfl (hb hby d19_15) rfl rfl ?_
            refine XS.iloadN X0.here hx rfl (hb hby d19_16) rfl ?_
            refine X0.baloadBytes hx (j := (3 : Int32)) (v := (.int d3)) (by rw [e0]; exact Ar25.1) (State.isArrayOf_alike hZ.alike Ar25.2.1) Ar25.2.2 hin25 hat25 (g := (mkF m 17 #[.val (.ref ob), .val (.ref lb), .val (.int 3)] [(.int 3), (.ref ob)])) rfl rfl (hb hby d19_17) _ ?_
            refine XS.aloadN X0.here hx rfl (hb hby d19_18) rfl rfl ?_
            refine XS.iloadN X0.here hx rfl (hb hby d19_19) rfl ?_
            refine X0.baloadBytes hx (j := (3 : Int32)) (v := (.int b3)) (by rw [e0]; exact Ar26.1) (State.isArrayOf_alike hZ.alike Ar26.2.1) Ar26.2.2 hin26 hat26 (g := (mkF m 20 #[.val (.ref ob), .val (.ref lb), .val (.int 3)] [(.int 3), (.ref lb), (.int d3)])) rfl rfl (hb hby d19_20) _ ?_
            exact kt
          by_cases hc21_27 : d3.toInt = b3.toInt
          · obtain ⟨cl29, Ar29, q29, S29, M29, H29, G29⟩ := id Vd
            have hc12_30 : (4 : Int) < (6 : Int) := by decide
            obtain ⟨cl31, Ar31, q31, S31, M31, H31, G31⟩ := id Vd
            have hin31 : ¬ ((4 : Int32) < 0 ∨ cl31.slots.size ≤ ((4 : Int32)).toNatClampNeg) := inb_of S31 ⟨by decide, by decide⟩
            have hat31 : cl31.slots[((4 : Int32)).toNatClampNeg]? = some (.int d4) := Has.at H31 hin31 rfl
            obtain ⟨cl32, Ar32, q32, S32, M32, H32, G32⟩ := id Vn
            have hin32 : ¬ ((4 : Int32) < 0 ∨ cl32.slots.size ≤ ((4 : Int32)).toNatClampNeg) := inb_of S32 ⟨by decide, by rw [Int32.lt_iff_toInt_lt]; have kj : ((4 : Int32)).toInt = (4 : Int) := (by decide); omega⟩
            have hat32 : cl32.slots[((4 : Int32)).toNatClampNeg]? = some (.int b4) := Has.at H32 hin32 g4
            have pre34 : oP p e below (s₁.setTop (mkF m 21 #[.val (.ref ob), .val (.ref lb), .val (.int 4)] [(.int b4), (.int d4)])) (SS) := fun t kt => by
              refine pre28 _ ?_
              refine XS.icmpYes X0.here hx rfl (pc0 := 21) (pc' := 26) rfl (hb hby d19_21) rfl (own_teq (a := d3) (b := b3) rfl rfl hc21_27).1 (by decide) (by decide) ?_
              refine XS.iinc X0.here hx rfl (hb hby d19_26) rfl (l' := #[.val (.ref ob), .val (.ref lb), .val (.int 4)]) rfl ?_
              refine XS.goto X0.here hx rfl (pc0 := 29) (pc' := 9) rfl (hb hby d19_29) (by decide) (by decide) ?_
              show Steps p.tables e below (s₁.setTop (mkF m 9 #[.val (.ref ob), .val (.ref lb), .val (.int 4)] [])) _
              refine XS.iloadN X0.here hx rfl (hb hby d19_9) rfl ?_
              refine XS.aloadN X0.here hx rfl (hb hby d19_10) rfl rfl ?_
              refine X0.arraylength hx (by rw [e0]; exact Ar29.1) (State.isArrayOf_alike hZ.alike Ar29.2.1) (g := (mkF m 11 #[.val (.ref ob), .val (.ref lb), .val (.int 4)] [(.ref ob), (.int 4)])) rfl rfl (hb hby d19_11) _ ?_
              rw [len_of S29 M29]
              refine XS.icmpNo X0.here hx rfl (hb hby d19_12) rfl (own_tlt (a := (4 : Int32)) (b := (6 : Int32)) (by decide) (by decide) hc12_30).2.1 ?_
              refine XS.aloadN X0.here hx rfl (hb hby d19_15) rfl rfl ?_
              refine XS.iloadN X0.here hx rfl (hb hby d19_16) rfl ?_
              refine X0.baloadBytes hx (j := (4 : Int32)) (v := (.int d4)) (by rw [e0]; exact Ar31.1) (State.isArrayOf_alike hZ.alike Ar31.2.1) Ar31.2.2 hin31 hat31 (g := (mkF m 17 #[.val (.ref ob), .val (.ref lb), .val (.int 4)] [(.int 4), (.ref ob)])) rfl rfl (hb hby d19_17) _ ?_
              refine XS.aloadN X0.here hx rfl (hb hby d19_18) rfl rfl ?_
              refine XS.iloadN X0.here hx rfl (hb hby d19_19) rfl ?_
              refine X0.baloadBytes hx (j := (4 : Int32)) (v := (.int b4)) (by rw [e0]; exact Ar32.1) (State.isArrayOf_alike hZ.alike Ar32.2.1) Ar32.2.2 hin32 hat32 (g := (mkF m 20 #[.val (.ref ob), .val (.ref lb), .val (.int 4)] [(.int 4), (.ref lb), (.int d4)])) rfl rfl (hb hby d19_20) _ ?_
              exact kt
            by_cases hc21_33 : d4.toInt = b4.toInt
            · obtain ⟨cl35, Ar35, q35, S35, M35, H35, G35⟩ := id Vd
              have hc12_36 : (5 : Int) < (6 : Int) := by decide
              obtain ⟨cl37, Ar37, q37, S37, M37, H37, G37⟩ := id Vd
              have hin37 : ¬ ((5 : Int32) < 0 ∨ cl37.slots.size ≤ ((5 : Int32)).toNatClampNeg) := inb_of S37 ⟨by decide, by decide⟩
              have hat37 : cl37.slots[((5 : Int32)).toNatClampNeg]? = some (.int d5) := Has.at H37 hin37 rfl
              obtain ⟨cl38, Ar38, q38, S38, M38, H38, G38⟩ := id Vn
              have hin38 : ¬ ((5 : Int32) < 0 ∨ cl38.slots.size ≤ ((5 : Int32)).toNatClampNeg) := inb_of S38 ⟨by decide, by rw [Int32.lt_iff_toInt_lt]; have kj : ((5 : Int32)).toInt = (5 : Int) := (by decide); omega⟩
              have hat38 : cl38.slots[((5 : Int32)).toNatClampNeg]? = some (.int b5) := Has.at H38 hin38 g5
              have pre40 : oP p e below (s₁.setTop (mkF m 21 #[.val (.ref ob), .val (.ref lb), .val (.int 5)] [(.int b5), (.int d5)])) (SS) := fun t kt => by
                refine pre34 _ ?_
                refine XS.icmpYes X0.here hx rfl (pc0 := 21) (pc' := 26) rfl (hb hby d19_21) rfl (own_teq (a := d4) (b := b4) rfl rfl hc21_33).1 (by decide) (by decide) ?_
                refine XS.iinc X0.here hx rfl (hb hby d19_26) rfl (l' := #[.val (.ref ob), .val (.ref lb), .val (.int 5)]) rfl ?_
                refine XS.goto X0.here hx rfl (pc0 := 29) (pc' := 9) rfl (hb hby d19_29) (by decide) (by decide) ?_
                refine XS.iloadN X0.here hx rfl (hb hby d19_9) rfl ?_
                refine XS.aloadN X0.here hx rfl (hb hby d19_10) rfl rfl ?_
                refine X0.arraylength hx (by rw [e0]; exact Ar35.1) (State.isArrayOf_alike hZ.alike Ar35.2.1) (g := (mkF m 11 #[.val (.ref ob), .val (.ref lb), .val (.int 5)] [(.ref ob), (.int 5)])) rfl rfl (hb hby d19_11) _ ?_
                rw [len_of S35 M35]
                refine XS.icmpNo X0.here hx rfl (hb hby d19_12) rfl (own_tlt (a := (5 : Int32)) (b := (6 : Int32)) (by decide) (by decide) hc12_36).2.1 ?_
                refine XS.aloadN X0.here hx rfl (hb hby d19_15) rfl rfl ?_
                refine XS.iloadN X0.here hx rfl (hb hby d19_16) rfl ?_
                refine X0.baloadBytes hx (j := (5 : Int32)) (v := (.int d5)) (by rw [e0]; exact Ar37.1) (State.isArrayOf_alike hZ.alike Ar37.2.1) Ar37.2.2 hin37 hat37 (g := (mkF m 17 #[.val (.ref ob), .val (.ref lb), .val (.int 5)] [(.int 5), (.ref ob)])) rfl rfl (hb hby d19_17) _ ?_
                show Steps p.tables e below (s₁.setTop (mkF m 18 #[.val (.ref ob), .val (.ref lb), .val (.int 5)] [(.int d5)])) _
                refine XS.aloadN X0.here hx rfl (hb hby d19_18) rfl rfl ?_
                refine XS.iloadN X0.here hx rfl (hb hby d19_19) rfl ?_
                refine X0.baloadBytes hx (j := (5 : Int32)) (v := (.int b5)) (by rw [e0]; exact Ar38.1) (State.isArrayOf_alike hZ.alike Ar38.2.1) Ar38.2.2 hin38 hat38 (g := (mkF m 20 #[.val (.ref ob), .val (.ref lb), .val (.int 5)] [(.int 5), (.ref lb), (.int d5)])) rfl rfl (hb hby d19_20) _ ?_
                exact kt
              by_cases hc21_39 : d5.toInt = b5.toInt
              · obtain ⟨cl41, Ar41, q41, S41, M41, H41, G41⟩ := id Vd
                have hc12_42 : ¬ ((6 : Int) < (6 : Int)) := by decide
                subst hSS
                obtain ⟨fs, hr, q1, q2, q3, q4⟩ := X0.leave (v := some (.int 1)) (fun h => by rw [Bd.returns] at h; cases h)
                refine ⟨_, _, pre40 _ ?_, q1, q2, _, _, rfl, ?_, ⟨_, rfl⟩, q3, q4.mono (by decide) (by decide)⟩
                · refine XS.icmpYes X0.here hx rfl (pc0 := 21) (pc' := 26) rfl (hb hby d19_21) rfl (own_teq (a := d5) (b := b5) rfl rfl hc21_39).1 (by decide) (by decide) ?_
                  refine XS.iinc X0.here hx rfl (hb hby d19_26) rfl (l' := #[.val (.ref ob), .val (.ref lb), .val (.int 6)]) rfl ?_
                  refine XS.goto X0.here hx rfl (pc0 := 29) (pc' := 9) rfl (hb hby d19_29) (by decide) (by decide) ?_
                  refine XS.iloadN X0.here hx rfl (hb hby d19_9) rfl ?_
                  refine XS.aloadN X0.here hx rfl (hb hby d19_10) rfl rfl ?_
                  refine X0.arraylength hx (by rw [e0]; exact Ar41.1) (State.isArrayOf_alike hZ.alike Ar41.2.1) (g := (mkF m 11 #[.val (.ref ob), .val (.ref lb), .val (.int 6)] [(.ref ob), (.int 6)])) rfl rfl (hb hby d19_11) _ ?_
                  rw [len_of S41 M41]
                  refine XS.icmpYes X0.here hx rfl (pc0 := 12) (pc' := 32) rfl (hb hby d19_12) rfl (own_flt (a := (6 : Int32)) (b := (6 : Int32)) (by decide) (by decide) hc12_42).2.1 (by decide) (by decide) ?_
                  refine XS.iconst X0.here hx rfl (hb hby d19_32) ?_
                  exact retN X0 hx (t := .boolean) Bd.returns (by simp) (hb hby d19_33) hr
                · show Q_lA6 Z _ _ _ _ _ _ _ _ _ _ _ _ h0 n0 _ s₁.heap _
                  rw [e0]
                  exact ⟨_, rfl, Or.inl ⟨rfl, by omega, own_bd g0 (by omega), own_bd g1 (by omega), own_bd g2 (by omega), own_bd g3 (by omega), own_bd g4 (by omega), own_bd g5 (by omega)⟩, N0, rfl⟩
              · subst hSS
                obtain ⟨fs, hr, q1, q2, q3, q4⟩ := X0.leave (v := some (.int 0)) (fun h => by rw [Bd.returns] at h; cases h)
                refine ⟨_, _, pre40 _ ?_, q1, q2, _, _, rfl, ?_, ⟨_, rfl⟩, q3, q4.mono (by decide) (by decide)⟩
                · refine XS.icmpNo X0.here hx rfl (hb hby d19_21) rfl (own_feq (a := d5) (b := b5) rfl rfl hc21_39).1 ?_
                  refine XS.iconst X0.here hx rfl (hb hby d19_24) ?_
                  exact retN X0 hx (t := .boolean) Bd.returns (by simp) (hb hby d19_25) hr
                · show Q_lA6 Z _ _ _ _ _ _ _ _ _ _ _ _ h0 n0 _ s₁.heap _
                  rw [e0]
                  exact ⟨_, rfl, Or.inr ⟨rfl, fun q => by have := own_bi g5 q.2.2.2.2.2.2; omega⟩, N0, rfl⟩
            · subst hSS
              obtain ⟨fs, hr, q1, q2, q3, q4⟩ := X0.leave (v := some (.int 0)) (fun h => by rw [Bd.returns] at h; cases h)
              refine ⟨_, _, pre34 _ ?_, q1, q2, _, _, rfl, ?_, ⟨_, rfl⟩, q3, q4.mono (by decide) (by decide)⟩
              · refine XS.icmpNo X0.here hx rfl (hb hby d19_21) rfl (own_feq (a := d4) (b := b4) rfl rfl hc21_33).1 ?_
                refine XS.iconst X0.here hx rfl (hb hby d19_24) ?_
                exact retN X0 hx (t := .boolean) Bd.returns (by simp) (hb hby d19_25) hr
              · show Q_lA6 Z _ _ _ _ _ _ _ _ _ _ _ _ h0 n0 _ s₁.heap _
                rw [e0]
                exact ⟨_, rfl, Or.inr ⟨rfl, fun q => by have := own_bi g4 q.2.2.2.2.2.1; omega⟩, N0, rfl⟩
          · subst hSS
            obtain ⟨fs, hr, q1, q2, q3, q4⟩ := X0.leave (v := some (.int 0)) (fun h => by rw [Bd.returns] at h; cases h)
            refine ⟨_, _, pre28 _ ?_, q1, q2, _, _, rfl, ?_, ⟨_, rfl⟩, q3, q4.mono (by decide) (by decide)⟩
            · refine XS.icmpNo X0.here hx rfl (hb hby d19_21) rfl (own_feq (a := d3) (b := b3) rfl rfl hc21_27).1 ?_
              refine XS.iconst X0.here hx rfl (hb hby d19_24) ?_
              exact retN X0 hx (t := .boolean) Bd.returns (by simp) (hb hby d19_25) hr
            · show Q_lA6 Z _ _ _ _ _ _ _ _ _ _ _ _ h0 n0 _ s₁.heap _
              rw [e0]
              exact ⟨_, rfl, Or.inr ⟨rfl, fun q => by have := own_bi g3 q.2.2.2.2.1; omega⟩, N0, rfl⟩
        · subst hSS
          obtain ⟨fs, hr, q1, q2, q3, q4⟩ := X0.leave (v := some (.int 0)) (fun h => by rw [Bd.returns] at h; cases h)
          refine ⟨_, _, pre22 _ ?_, q1, q2, _, _, rfl, ?_, ⟨_, rfl⟩, q3, q4.mono (by decide) (by decide)⟩
          · refine XS.icmpNo X0.here hx rfl (hb hby d19_21) rfl (own_feq (a := d2) (b := b2) rfl rfl hc21_21).1 ?_
            refine XS.iconst X0.here hx rfl (hb hby d19_24) ?_
            exact retN X0 hx (t := .boolean) Bd.returns (by simp) (hb hby d19_25) hr
          · show Q_lA6 Z _ _ _ _ _ _ _ _ _ _ _ _ h0 n0 _ s₁.heap _
            rw [e0]
            exact ⟨_, rfl, Or.inr ⟨rfl, fun q => by have := own_bi g2 q.2.2.2.1; omega⟩, N0, rfl⟩
      · subst hSS
        obtain ⟨fs, hr, q1, q2, q3, q4⟩ := X0.leave (v := some (.int 0)) (fun h => by rw [Bd.returns] at h; cases h)
        refine ⟨_, _, pre16 _ ?_, q1, q2, _, _, rfl, ?_, ⟨_, rfl⟩, q3, q4.mono (by decide) (by decide)⟩
        · refine XS.icmpNo X0.here hx rfl (hb hby d19_21) rfl (own_feq (a := d1) (b := b1) rfl rfl hc21_15).1 ?_
          refine XS.iconst X0.here hx rfl (hb hby d19_24) ?_
          exact retN X0 hx (t := .boolean) Bd.returns (by simp) (hb hby d19_25) hr
        · show Q_lA6 Z _ _ _ _ _ _ _ _ _ _ _ _ h0 n0 _ s₁.heap _
          rw [e0]
          exact ⟨_, rfl, Or.inr ⟨rfl, fun q => by have := own_bi g1 q.2.2.1; omega⟩, N0, rfl⟩
    · subst hSS
      obtain ⟨fs, hr, q1, q2, q3, q4⟩ := X0.leave (v := some (.int 0)) (fun h => by rw [Bd.returns] at h; cases h)
      refine ⟨_, _, pre10 _ ?_, q1, q2, _, _, rfl, ?_, ⟨_, rfl⟩, q3, q4.mono (by decide) (by decide)⟩
      · refine XS.icmpNo X0.here hx rfl (hb hby d19_21) rfl (own_feq (a := d0) (b := b0) rfl rfl hc21_9).1 ?_
        refine XS.iconst X0.here hx rfl (hb hby d19_24) ?_
        show Steps p.tables e below (s₁.setTop (mkF m 25 #[.val (.ref ob), .val (.ref lb), .val (.int 0)] [(.int 0)])) _
        exact retN X0 hx (t := .boolean) Bd.returns (by simp) (hb hby d19_25) hr
      · show Q_lA6 Z _ _ _ _ _ _ _ _ _ _ _ _ h0 n0 _ s₁.heap _
        rw [e0]
        exact ⟨_, rfl, Or.inr ⟨rfl, fun q => by have := own_bi g0 q.2.1; omega⟩, N0, rfl⟩
  · subst hSS
    obtain ⟨fs, hr, q1, q2, q3, q4⟩ := X0.leave (v := some (.int 0)) (fun h => by rw [Bd.returns] at h; cases h)
    refine ⟨_, _, pre4 _ ?_, q1, q2, _, _, rfl, ?_, ⟨_, rfl⟩, q3, q4.mono (by decide) (by decide)⟩
    · refine XS.icmpYes X0.here hx rfl (pc0 := 4) (pc' := 34) rfl (hb hby d19_4) rfl (own_feq (a := (6 : Int32)) (b := zn) (by decide) rfl hc4_3).2 (by decide) (by decide) ?_
      refine XS.iconst X0.here hx rfl (hb hby d19_34) ?_
      exact retN X0 hx (t := .boolean) Bd.returns (by simp) (hb hby d19_35) hr
    · show Q_lA6 Z _ _ _ _ _ _ _ _ _ _ _ _ h0 n0 _ s₁.heap _
      rw [e0]
      exact ⟨_, rfl, Or.inr ⟨rfl, fun q => by have := q.1; omega⟩, N0, rfl⟩
theorem ef_rm_qA6 (m : MethodId) (x0 : Addr) (x1 : Addr) : entryFrame m #[(.ref x0), (.ref x1)] 3 = mkF m 0 #[.val (.ref x0), .val (.ref x1), .unset] [] := by first | (simp [entryFrame, mkF, argsToLocals, Value.category]; done) | rfl
def Q_qA6 (Z : State) (oa : Addr) (la : Addr) (vcs : Int32) (vf : Value) (ob : Addr) (lb : Addr) (kd : ClassId) (kn : ClassId) (zn : Int32) (vs : List Value) (d0 : Int32) (d1 : Int32) (d2 : Int32) (d3 : Int32) (d4 : Int32) (d5 : Int32) (h0 : Heap) (n0 : Nat) (v : Option Value) (h : Heap) (L : List Loc) : Prop := ∃ z : Int32, v = some (.int z) ∧ ((z = (1 : Int32) ∧ own_e6 zn vs d0 d1 d2 d3 d4 d5) ∨ (z = (0 : Int32) ∧ ¬ own_e6 zn vs d0 d1 d2 d3 d4 d5)) ∧ Fr n0 L ∧ h = h0
theorem rm_qA6 (l : Launch) (Z : State) (a0 : Array Value) (hw : ∀ d ∈ tables_1, d.before a0 Z = true) (ws : List Jvm.Cond) (oa : Addr) (la : Addr) (vcs : Int32) (vf : Value) (ob : Addr) (lb : Addr) (kd : ClassId) (kn : ClassId) (zn : Int32) (vs : List Value) (d0 : Int32) (d1 : Int32) (d2 : Int32) (d3 : Int32) (d4 : Int32) (d5 : Int32) (h0 : Heap) (n0 : Nat) (Z0 : n0 ≤ h0.size) (Os : own_st Z h0 vcs vf) (Ed : Exa Z h0 oa "java/lang/String") (Cd : Fld Z h0 oa "java/lang/String" "coder" "B" (.int 0)) (Ud : Fld Z h0 oa "java/lang/String" "value" "[B" (.ref ob)) (Vd : Arv Z h0 ob kd .byte (6 : Int32) [(.int d0), (.int d1), (.int d2), (.int d3), (.int d4), (.int d5)] (.int 0)) (En : Exa Z h0 la "java/lang/String") (Cn : Fld Z h0 la "java/lang/String" "coder" "B" (.int 0)) (Un : Fld Z h0 la "java/lang/String" "value" "[B" (.ref lb)) (Vn : Arv Z h0 lb kn .byte zn vs (.int 0)) :
    MetFree l yn1 (head1 (Jvm.Cond.code yn1 kc1 3 (some .boolean) :: ws) ⟨1, 0, 0, 14⟩) (fun a U => a = #[(.ref oa), (.ref la)] ∧ Z.Warmed39 U.vm ∧ U.heap = h0) (fun _ _ _ _ _ => True) (fun _ U o U' => ∃ v L, o = .returned v ∧ Q_qA6 Z oa la vcs vf ob lb kd kn zn vs d0 d1 d2 d3 d4 d5 h0 n0 v U'.heap L ∧ FrameEnd U o U' L 0 0) := by
  refine MetFree.of_bodySF (plainFor_of_name pn_1) hisR ?_
  intro p e s m args below meth c s₁ Bd hml0 hP hK
  obtain ⟨rfl, hZ, hh⟩ := hP
  have hx := Bd.exec
  have hby := Bd.bytes
  have hml : c.maxLocals = 3 := hml0
  have hown : s.vm.findClass "java/lang/String" = some m.cls := findClass_of_methodNamed Bd.named
  have hnm := (name_of_methodNamed Bd.named Bd.method).1
  have X0 : Stand p l e ⟨1, 0, 0, 14⟩ s m #[(.ref oa), (.ref la)] below meth c s₁ [] 0 0 := Stand.of_body Bd
  have e0 : s₁.heap = h0 := by rw [← hh, Bd.state]; rfl
  have N0 := Fr.nil n0
  obtain ⟨SS, hSS⟩ : ∃ S, S = s₁.setTop (entryFrame m #[(.ref oa), (.ref la)] 3) := ⟨_, rfl⟩
  have pre0 : oP p e below (s₁.setTop (mkF m 0 #[.val (.ref oa), .val (.ref la), .unset] [])) (SS) := by
    rw [hSS]; exact fun t k => castTop (ef_rm_qA6 m oa la) k
  have pre1 : oP p e below (s₁.setTop (mkF m 2 #[.val (.ref oa), .val (.ref la), .unset] [(.ref la), (.ref oa)])) (SS) := fun t kt => by
    refine pre0 _ ?_
    refine XS.aloadN X0.here hx rfl (hb hby d18_0) rfl rfl ?_
    refine XS.aloadN X0.here hx rfl (hb hby d18_1) rfl rfl ?_
    exact kt
  by_cases hab : oa = la
  · have hsm := own_arv_inj Vn (show Arv Z h0 lb kd .byte (6 : Int32) [(.int d0), (.int d1), (.int d2), (.int d3), (.int d4), (.int d5)] (.int 0) by rw [own_same hab.symm Un Ud]; exact Vd)
    have hsl : zn.toInt = 6 := own_clamp (n := 6) hsm.1 (by decide)
    have hlt : ∀ i, i < 6 → i < zn.toNatClampNeg := fun i hi => by rw [hsm.1]; exact hi
    subst hSS
    obtain ⟨fs, hr, q1, q2, q3, q4⟩ := X0.leave (v := some (.int 1)) (fun h => by rw [Bd.returns] at h; cases h)
    refine ⟨_, _, pre1 _ ?_, q1, q2, _, _, rfl, ?_, ⟨_, rfl⟩, q3, q4.mono (by decide) (by decide)⟩
    · refine Jvm.RoadKit.acmp (g := (mkF m 2 #[.val (.ref oa), .val (.ref la), .unset] [(.ref la), (.ref oa)])) X0 hx rfl rfl rfl (pc0 := 2) (pc' := 5) (same := true) rfl (hb hby d18_2) rfl (decide_eq_true (congrArg Value.ref hab)) (by decide) (by decide) ?_
      refine XS.iconst X0.here hx rfl (hb hby d18_5) ?_
      exact retN X0 hx (t := .boolean) Bd.returns (by simp) (hb hby d18_6) hr
    · show Q_qA6 Z _ _ _ _ _ _ _ _ _ _ _ _ _ _ _ _ h0 n0 _ s₁.heap _
      rw [e0]
      exact ⟨_, rfl, Or.inl ⟨rfl, hsl, hsm.2 0 (hlt 0 (by decide)), hsm.2 1 (hlt 1 (by decide)), hsm.2 2 (hlt 2 (by decide)), hsm.2 3 (hlt 3 (by decide)), hsm.2 4 (hlt 4 (by decide)), hsm.2 5 (hlt 5 (by decide))⟩, N0, rfl⟩
  · have own_nab := True.intro
    obtain ⟨T2, X2, e2, st2⟩ := instY X0 hx hZ hown (ow hw 94 rfl) e0 (Ins.self En) (g := (mkF m 8 #[.val (.ref oa), .val (.ref la), .unset] [(.ref la)])) rfl rfl (hb hby d18_8)
    have hc11_3 : ¬ ((1 : Int) = (0 : Int)) := by decide
    obtain ⟨T4, X4, e4, st4⟩ := castY X2 hx hZ hown (ow hw 94 rfl) e2 (Ins.self En) (g := (mkF m 15 #[.val (.ref oa), .val (.ref la), .unset] [(.ref la)])) rfl rfl (hb hby d18_15)
    obtain ⟨T5, X5, e5, st5⟩ := getS2 X4 hx hZ hown (host := "") (Or.inl (ow hw 19 rfl)) Via.refl e4 Os.1 (g := (mkF m 19 #[.val (.ref oa), .val (.ref la), .val (.ref la)] [])) rfl (hb hby d18_19)
    have hc22_6 : ¬ (vcs.toInt = (0 : Int)) := by (have q := Os.2.1; omega)
    obtain ⟨T7, X7, e7, st7⟩ := getF X5 hx hZ hown (host := "") (Or.inl (ow hw 20 rfl)) Via.refl e5 Cd (g := (mkF m 26 #[.val (.ref oa), .val (.ref la), .val (.ref la)] [(.ref oa)])) rfl rfl (hb hby d18_26)
    obtain ⟨T8, X8, e8, st8⟩ := getF X7 hx hZ hown (host := "") (Or.inl (ow hw 20 rfl)) Via.refl e7 Cn (g := (mkF m 30 #[.val (.ref oa), .val (.ref la), .val (.ref la)] [(.ref la), (.int 0)])) rfl rfl (hb hby d18_30)
    have hc33_9 : (0 : Int) = (0 : Int) := by decide
    obtain ⟨T10, X10, e10, st10⟩ := getF X8 hx hZ hown (host := "") (Or.inl (ow hw 13 rfl)) Via.refl e8 Ud (g := (mkF m 37 #[.val (.ref oa), .val (.ref la), .val (.ref la)] [(.ref oa)])) rfl rfl (hb hby d18_37)
    obtain ⟨T11, X11, e11, st11⟩ := getF X10 hx hZ hown (host := "") (Or.inl (ow hw 13 rfl)) Via.refl e10 Un (g := (mkF m 41 #[.val (.ref oa), .val (.ref la), .val (.ref la)] [(.ref la), (.ref ob)])) rfl rfl (hb hby d18_41)
    obtain ⟨_, _, ⟨T12, L12, k12, n12⟩, -, X12, ⟨Lc12, hQ12, l12, y12, z12⟩, st12⟩ := Jvm.LawKit.callS X11 hx (y := yn0) hown (mvT hZ (ow hw 95 rfl)) (mvT hZ (ow hw 96 rfl)) (mvT hZ (ow hw 37 rfl)) (mvT hZ (ow hw 97 rfl)) (by decide) (backOf (W := 0) (rm_lA6 l Z a0 hw [] ob lb kd kn zn vs d0 d1 d2 d3 d4 d5 h0 n0 Z0 Vd Vn) hZ (ow hw 97 rfl) (ow hw 37 rfl) (by decide) (by decide)) (g := (mkF m 44 #[.val (.ref oa), .val (.ref la), .val (.ref la)] [(.ref lb), (.ref ob)])) rfl (by rw [hml]; rfl) (argsL := [(.ref ob), (.ref lb)]) (rest := []) (lenOf pd_0 rfl) rfl (by exact Nat.le_of_eq rfl) (hb hby d18_44) (fun _ _ => ⟨rfl, e11, (by decide : 0 + 0 ≤ _), (by decide : 0 + 0 ≤ _)⟩)
    dsimp only [Pt.U, Pt.locs, Pt.cells, Pt.slots] at X12 l12 y12 z12 st12 hQ12
    rw [l12, y12, z12] at X12
    obtain ⟨zq, rfl, hzq, N12q, e12⟩ := hQ12
    have N12 := Fr.app N0 N12q
    have pre13 : oP p e below (T12.setTop (mkF m 47 #[.val (.ref oa), .val (.ref la), .val (.ref la)] [(.int zq)])) (SS) := fun t kt => by
      refine pre1 _ ?_
      refine Jvm.RoadKit.acmp (g := (mkF m 2 #[.val (.ref oa), .val (.ref la), .unset] [(.ref la), (.ref oa)])) X0 hx rfl rfl rfl (pc0 := 2) (pc' := 7) (same := false) rfl (hb hby d18_2) rfl (decide_eq_false fun q => hab (Value.ref.inj q)) (by decide) (by decide) ?_
      refine XS.aloadN X0.here hx rfl (hb hby d18_7) rfl rfl ?_
      refine st2 _ ?_
      refine XS.ifNo X2.here hx rfl (hb hby d18_11) rfl (own_if (own_feq (a := (1 : Int32)) (b := (0 : Int32)) (by decide) (by decide) hc11_3).1) ?_
      refine XS.aloadN X2.here hx rfl (hb hby d18_14) rfl rfl ?_
      refine st4 _ ?_
      refine XS.astoreN X4.here hx rfl (hb hby d18_18) rfl rfl (l' := #[.val (.ref oa), .val (.ref la), .val (.ref la)]) rfl ?_
      refine st5 _ ?_
      refine XS.ifNo X5.here hx rfl (hb hby d18_22) rfl (own_if (own_feq (a := vcs) (b := (0 : Int32)) rfl (by decide) hc22_6).1) ?_
      refine XS.aloadN X5.here hx rfl (hb hby d18_25) rfl rfl ?_
      refine st7 _ ?_
      refine XS.aloadN X7.here hx rfl (hb hby d18_29) rfl rfl ?_
      refine st8 _ ?_
      refine XS.icmpNo X8.here hx rfl (hb hby d18_33) rfl (own_teq (a := (0 : Int32)) (b := (0 : Int32)) (by decide) (by decide) hc33_9).2 ?_
      refine XS.aloadN X8.here hx rfl (hb hby d18_36) rfl rfl ?_
      refine st10 _ ?_
      refine XS.aloadN X10.here hx rfl (hb hby d18_40) rfl rfl ?_
      show Steps p.tables e below (T10.setTop (mkF m 41 #[.val (.ref oa), .val (.ref la), .val (.ref la)] [(.ref la), (.ref ob)])) _
      refine st11 _ ?_
      refine st12 _ ?_
      exact kt
    rcases hzq with ⟨rfl, hd⟩ | ⟨rfl, hd⟩
    · have pre14 : oP p e below (T12.setTop (mkF m 47 #[.val (.ref oa), .val (.ref la), .val (.ref la)] [(.int 1)])) (SS) := pre13
      have hc47_15 : ¬ ((1 : Int) = (0 : Int)) := by decide
      subst hSS
      obtain ⟨fs, hr, q1, q2, q3, q4⟩ := X12.leave (v := some (.int 1)) (fun h => by rw [Bd.returns] at h; cases h)
      refine ⟨_, _, pre14 _ ?_, q1, q2, _, _, rfl, ?_, ⟨_, rfl⟩, q3, q4.mono (by decide) (by decide)⟩
      · refine XS.ifNo X12.here hx rfl (hb hby d18_47) rfl (own_if (own_feq (a := (1 : Int32)) (b := (0 : Int32)) (by decide) (by decide) hc47_15).1) ?_
        refine XS.iconst X12.here hx rfl (hb hby d18_50) ?_
        refine XS.goto X12.here hx rfl (pc0 := 51) (pc' := 55) rfl (hb hby d18_51) (by decide) (by decide) ?_
        exact retN X12 hx (t := .boolean) Bd.returns (by simp) (hb hby d18_55) hr
      · show Q_qA6 Z _ _ _ _ _ _ _ _ _ _ _ _ _ _ _ _ h0 n0 _ T12.heap _
        rw [e12]
        exact ⟨_, rfl, Or.inl ⟨rfl, hd⟩, N12, rfl⟩
    · have pre16 : oP p e below (T12.setTop (mkF m 47 #[.val (.ref oa), .val (.ref la), .val (.ref la)] [(.int 0)])) (SS) := pre13
      have hc47_17 : (0 : Int) = (0 : Int) := by decide
      subst hSS
      obtain ⟨fs, hr, q1, q2, q3, q4⟩ := X12.leave (v := some (.int 0)) (fun h => by rw [Bd.returns] at h; cases h)
      refine ⟨_, _, pre16 _ ?_, q1, q2, _, _, rfl, ?_, ⟨_, rfl⟩, q3, q4.mono (by decide) (by decide)⟩
      · refine XS.ifYes X12.here hx rfl (pc0 := 47) (pc' := 54) rfl (hb hby d18_47) rfl (own_if (own_teq (a := (0 : Int32)) (b := (0 : Int32)) (by decide) (by decide) hc47_17).1) (by decide) (by decide) ?_
        refine XS.iconst X12.here hx rfl (hb hby d18_54) ?_
        exact retN X12 hx (t := .boolean) Bd.returns (by simp) (hb hby d18_55) hr
      · show Q_qA6 Z _ _ _ _ _ _ _ _ _ _ _ _ _ _ _ _ h0 n0 _ T12.heap _
        rw [e12]
        exact ⟨_, rfl, Or.inr ⟨rfl, hd⟩, N12, rfl⟩
theorem ef_rm_lB6 (m : MethodId) (x0 : Addr) (x1 : Addr) : entryFrame m #[(.ref x0), (.ref x1)] 3 = mkF m 0 #[.val (.ref x0), .val (.ref x1), .unset] [] := by first | (simp [entryFrame, mkF, argsToLocals, Value.category]; done) | rfl
def Q_lB6 (Z : State) (ob : Addr) (lb : Addr) (kd : ClassId) (kn : ClassId) (zn : Int32) (vs : List Value) (d0 : Int32) (d1 : Int32) (d2 : Int32) (d3 : Int32) (d4 : Int32) (d5 : Int32) (h0 : Heap) (n0 : Nat) (v : Option Value) (h : Heap) (L : List Loc) : Prop := ∃ z : Int32, v = some (.int z) ∧ ((z = (1 : Int32) ∧ own_e6 zn vs d0 d1 d2 d3 d4 d5) ∨ (z = (0 : Int32) ∧ ¬ own_e6 zn vs d0 d1 d2 d3 d4 d5)) ∧ Fr n0 L ∧ h = h0
theorem rm_lB6 (l : Launch) (Z : State) (a0 : Array Value) (hw : ∀ d ∈ tables_1, d.before a0 Z = true) (ws : List Jvm.Cond) (ob : Addr) (lb : Addr) (kd : ClassId) (kn : ClassId) (zn : Int32) (vs : List Value) (d0 : Int32) (d1 : Int32) (d2 : Int32) (d3 : Int32) (d4 : Int32) (d5 : Int32) (h0 : Heap) (n0 : Nat) (Z0 : n0 ≤ h0.size) (Vd : Arv Z h0 lb kd .byte (6 : Int32) [(.int d0), (.int d1), (.int d2), (.int d3), (.int d4), (.int d5)] (.int 0)) (Vn : Arv Z h0 ob kn .byte zn vs (.int 0)) :
    MetFree l yn0 (head1 (Jvm.Cond.code yn0 kc0 3 (some .boolean) :: ws) ⟨0, 0, 0, 0⟩) (fun a U => a = #[(.ref ob), (.ref lb)] ∧ Z.Warmed39 U.vm ∧ U.heap = h0) (fun _ _ _ _ _ => True) (fun _ U o U' => ∃ v L, o = .returned v ∧ Q_lB6 Z ob lb kd kn zn vs d0 d1 d2 d3 d4 d5 h0 n0 v U'.heap L ∧ FrameEnd U o U' L 0 0) := by
  refine MetFree.of_bodySF (plainFor_of_name pn_0) hisR ?_
  intro p e s m args below meth c s₁ Bd hml0 hP hK
  obtain ⟨rfl, hZ, hh⟩ := hP
  have hx := Bd.exec
  have hby := Bd.bytes
  have hml : c.maxLocals = 3 := hml0
  have hown : s.vm.findClass "java/lang/StringLatin1" = some m.cls := findClass_of_methodNamed Bd.named
  have hnm := (name_of_methodNamed Bd.named Bd.method).1
  have X0 : Stand p l e ⟨0, 0, 0, 0⟩ s m #[(.ref ob), (.ref lb)] below meth c s₁ [] 0 0 := Stand.of_body Bd
  have e0 : s₁.heap = h0 := by rw [← hh, Bd.state]; rfl
  have N0 := Fr.nil n0
  obtain ⟨SS, hSS⟩ : ∃ S, S = s₁.setTop (entryFrame m #[(.ref ob), (.ref lb)] 3) := ⟨_, rfl⟩
  have pre0 : oP p e below (s₁.setTop (mkF m 0 #[.val (.ref ob), .val (.ref lb), .unset] [])) (SS) := by
    rw [hSS]; exact fun t k => castTop (ef_rm_lB6 m ob lb) k
  obtain ⟨cl1, Ar1, q1, S1, M1, H1, G1⟩ := id Vn
  obtain ⟨cl2, Ar2, q2, S2, M2, H2, G2⟩ := id Vd
  have pre4 : oP p e below (s₁.setTop (mkF m 4 #[.val (.ref ob), .val (.ref lb), .unset] [(.int 6), (.int zn)])) (SS) := fun t kt => by
    refine pre0 _ ?_
    refine XS.aloadN X0.here hx rfl (hb hby d19_0) rfl rfl ?_
    refine X0.arraylength hx (by rw [e0]; exact Ar1.1) (State.isArrayOf_alike hZ.alike Ar1.2.1) (g := (mkF m 1 #[.val (.ref ob), .val (.ref lb), .unset] [(.ref ob)])) rfl rfl (hb hby d19_1) _ ?_
    rw [len_of S1 M1]
    refine XS.aloadN X0.here hx rfl (hb hby d19_2) rfl rfl ?_
    refine X0.arraylength hx (by rw [e0]; exact Ar2.1) (State.isArrayOf_alike hZ.alike Ar2.2.1) (g := (mkF m 3 #[.val (.ref ob), .val (.ref lb), .unset] [(.ref lb), (.int zn)])) rfl rfl (hb hby d19_3) _ ?_
    rw [len_of S2 M2]
    exact kt
  by_cases hc4_3 : zn.toInt = (6 : Int)
  · obtain ⟨b0, g0⟩ := own_intN Vn 0 (by omega)
    obtain ⟨b1, g1⟩ := own_intN Vn 1 (by omega)
    obtain ⟨b2, g2⟩ := own_intN Vn 2 (by omega)
    obtain ⟨b3, g3⟩ := own_intN Vn 3 (by omega)
    obtain ⟨b4, g4⟩ := own_intN Vn 4 (by omega)
    obtain ⟨b5, g5⟩ := own_intN Vn 5 (by omega)
    obtain ⟨cl5, Ar5, q5, S5, M5, H5, G5⟩ := id Vn
    have hc12_6 : (0 : Int) < zn.toInt := by omega
    obtain ⟨cl7, Ar7, q7, S7, M7, H7, G7⟩ := id Vn
    have hin7 : ¬ ((0 : Int32) < 0 ∨ cl7.slots.size ≤ ((0 : Int32)).toNatClampNeg) := inb_of S7 ⟨by decide, by rw [Int32.lt_iff_toInt_lt]; have kj : ((0 : Int32)).toInt = (0 : Int) := (by decide); omega⟩
    have hat7 : cl7.slots[((0 : Int32)).toNatClampNeg]? = some (.int b0) := Has.at H7 hin7 g0
    obtain ⟨cl8, Ar8, q8, S8, M8, H8, G8⟩ := id Vd
    have hin8 : ¬ ((0 : Int32) < 0 ∨ cl8.slots.size ≤ ((0 : Int32)).toNatClampNeg) := inb_of S8 ⟨by decide, by decide⟩
    have hat8 : cl8.slots[((0 : Int32)).toNatClampNeg]? = some (.int d0) := Has.at H8 hin8 rfl
    have pre10 : oP p e below (s₁.setTop (mkF m 21 #[.val (.ref ob), .val (.ref lb), .val (.int 0)] [(.int d0), (.int b0)])) (SS) := fun t kt => by
      refine pre4 _ ?_
      refine XS.icmpNo X0.here hx rfl (hb hby d19_4) rfl (own_teq (a := zn) (b := (6 : Int32)) rfl (by decide) hc4_3).2 ?_
      refine XS.iconst X0.here hx rfl (hb hby d19_7) ?_
      refine XS.istoreN X0.here hx rfl (hb hby d19_8) rfl (l' := #[.val (.ref ob), .val (.ref lb), .val (.int 0)]) rfl ?_
      refine XS.iloadN X0.here hx rfl (hb hby d19_9) rfl ?_
      refine XS.aloadN X0.here hx rfl (hb hby d19_10) rfl rfl ?_
      refine X0.arraylength hx (by rw [e0]; exact Ar5.1) (State.isArrayOf_alike hZ.alike Ar5.2.1) (g := (mkF m 11 #[.val (.ref ob), .val (.ref lb), .val (.int 0)] [(.ref ob), (.int 0)])) rfl rfl (hb hby d19_11) _ ?_
      rw [len_of S5 M5]
      refine XS.icmpNo X0.here hx rfl (hb hby d19_12) rfl (own_tlt (a := (0 : Int32)) (b := zn) (by decide) rfl hc12_6).2.1 ?_
      refine XS.aloadN X0.here hx rfl (hb hby d19_15) rfl rfl ?_
      refine XS.iloadN X0.here hx rfl (hb hby d19_16) rfl ?_
      refine X0.baloadBytes hx (j := (0 : Int32)) (v := (.int b0)) (by rw [e0]; exact Ar7.1) (State.isArrayOf_alike hZ.alike Ar7.2.1) Ar7.2.2 hin7 hat7 (g := (mkF m 17 #[.val (.ref ob), .val (.ref lb), .val (.int 0)] [(.int 0), (.ref ob)])) rfl rfl (hb hby d19_17) _ ?_
      refine XS.aloadN X0.here hx rfl (hb hby d19_18) rfl rfl ?_
      refine XS.iloadN X0.here hx rfl (hb hby d19_19) rfl ?_
      refine X0.baloadBytes hx (j := (0 : Int32)) (v := (.int d0)) (by rw [e0]; exact Ar8.1) (State.isArrayOf_alike hZ.alike Ar8.2.1) Ar8.2.2 hin8 hat8 (g := (mkF m 20 #[.val (.ref ob), .val (.ref lb), .val (.int 0)] [(.int 0), (.ref lb), (.int b0)])) rfl rfl (hb hby d19_20) _ ?_
      exact kt
    by_cases hc21_9 : b0.toInt = d0.toInt
    · obtain ⟨cl11, Ar11, q11, S11, M11, H11, G11⟩ := id Vn
      have hc12_12 : (1 : Int) < zn.toInt := by omega
      obtain ⟨cl13, Ar13, q13, S13, M13, H13, G13⟩ := id Vn
      have hin13 : ¬ ((1 : Int32) < 0 ∨ cl13.slots.size ≤ ((1 : Int32)).toNatClampNeg) := inb_of S13 ⟨by decide, by rw [Int32.lt_iff_toInt_lt]; have kj : ((1 : Int32)).toInt = (1 : Int) := (by decide); omega⟩
      have hat13 : cl13.slots[((1 : Int32)).toNatClampNeg]? = some (.int b1) := Has.at H13 hin13 g1
      obtain ⟨cl14, Ar14, q14, S14, M14, H14, G14⟩ := id Vd
      have hin14 : ¬ ((1 : Int32) < 0 ∨ cl14.slots.size ≤ ((1 : Int32)).toNatClampNeg) := inb_of S14 ⟨by decide, by decide⟩
      have hat14 : cl14.slots[((1 : Int32)).toNatClampNeg]? = some (.int d1) := Has.at H14 hin14 rfl
      have pre16 : oP p e below (s₁.setTop (mkF m 21 #[.val (.ref ob), .val (.ref lb), .val (.int 1)] [(.int d1), (.int b1)])) (SS) := fun t kt => by
        refine pre10 _ ?_
        refine XS.icmpYes X0.here hx rfl (pc0 := 21) (pc' := 26) rfl (hb hby d19_21) rfl (own_teq (a := b0) (b := d0) rfl rfl hc21_9).1 (by decide) (by decide) ?_
        refine XS.iinc X0.here hx rfl (hb hby d19_26) rfl (l' := #[.val (.ref ob), .val (.ref lb), .val (.int 1)]) rfl ?_
        show Steps p.tables e below (s₁.setTop (mkF m 29 #[.val (.ref ob), .val (.ref lb), .val (.int 1)] [])) _
        refine XS.goto X0.here hx rfl (pc0 := 29) (pc' := 9) rfl (hb hby d19_29) (by decide) (by decide) ?_
        refine XS.iloadN X0.here hx rfl (hb hby d19_9) rfl ?_
        refine XS.aloadN X0.here hx rfl (hb hby d19_10) rfl rfl ?_
        refine X0.arraylength hx (by rw [e0]; exact Ar11.1) (State.isArrayOf_alike hZ.alike Ar11.2.1) (g := (mkF m 11 #[.val (.ref ob), .val (.ref lb), .val (.int 1)] [(.ref ob), (.int 1)])) rfl rfl (hb hby d19_11) _ ?_
        rw [len_of S11 M11]
        refine XS.icmpNo X0.here hx rfl (hb hby d19_12) rfl (own_tlt (a := (1 : Int32)) (b := zn) (by decide) rfl hc12_12).2.1 ?_
        refine XS.aloadN X0.here hx rfl (hb hby d19_15) rfl rfl ?_
        refine XS.iloadN X0.here hx rfl (hb hby d19_16) rfl ?_
        refine X0.baloadBytes hx (j := (1 : Int32)) (v := (.int b1)) (by rw [e0]; exact Ar13.1) (State.isArrayOf_alike hZ.alike Ar13.2.1) Ar13.2.2 hin13 hat13 (g := (mkF m 17 #[.val (.ref ob), .val (.ref lb), .val (.int 1)] [(.int 1), (.ref ob)])) rfl rfl (hb hby d19_17) _ ?_
        refine XS.aloadN X0.here hx rfl (hb hby d19_18) rfl rfl ?_
        refine XS.iloadN X0.here hx rfl (hb hby d19_19) rfl ?_
        refine X0.baloadBytes hx (j := (1 : Int32)) (v := (.int d1)) (by rw [e0]; exact Ar14.1) (State.isArrayOf_alike hZ.alike Ar14.2.1) Ar14.2.2 hin14 hat14 (g := (mkF m 20 #[.val (.ref ob), .val (.ref lb), .val (.int 1)] [(.int 1), (.ref lb), (.int b1)])) rfl rfl (hb hby d19_20) _ ?_
        exact kt
      by_cases hc21_15 : b1.toInt = d1.toInt
      · obtain ⟨cl17, Ar17, q17, S17, M17, H17, G17⟩ := id Vn
        have hc12_18 : (2 : Int) < zn.toInt := by omega
        obtain ⟨cl19, Ar19, q19, S19, M19, H19, G19⟩ := id Vn
        have hin19 : ¬ ((2 : Int32) < 0 ∨ cl19.slots.size ≤ ((2 : Int32)).toNatClampNeg) := inb_of S19 ⟨by decide, by rw [Int32.lt_iff_toInt_lt]; have kj : ((2 : Int32)).toInt = (2 : Int) := (by decide); omega⟩
        have hat19 : cl19.slots[((2 : Int32)).toNatClampNeg]? = some (.int b2) := Has.at H19 hin19 g2
        obtain ⟨cl20, Ar20, q20, S20, M20, H20, G20⟩ := id Vd
        have hin20 : ¬ ((2 : Int32) < 0 ∨ cl20.slots.size ≤ ((2 : Int32)).toNatClampNeg) := inb_of S20 ⟨by decide, by decide⟩
        have hat20 : cl20.slots[((2 : Int32)).toNatClampNeg]? = some (.int d2) := Has.at H20 hin20 rfl
        have pre22 : oP p e below (s₁.setTop (mkF m 21 #[.val (.ref ob), .val (.ref lb), .val (.int 2)] [(.int d2), (.int b2)])) (SS) := fun t kt => by
          refine pre16 _ ?_
          refine XS.icmpYes X0.here hx rfl (pc0 := 21) (pc' := 26) rfl (hb hby d19_21) rfl (own_teq (a := b1) (b := d1) rfl rfl hc21_15).1 (by decide) (by decide) ?_
          refine XS.iinc X0.here hx rfl (hb hby d19_26) rfl (l' := #[.val (.ref ob), .val (.ref lb), .val (.int 2)]) rfl ?_
          refine XS.goto X0.here hx rfl (pc0 := 29) (pc' := 9) rfl (hb hby d19_29) (by decide) (by decide) ?_
          refine XS.iloadN X0.here hx rfl (hb hby d19_9) rfl ?_
          refine XS.aloadN X0.here hx rfl (hb hby d19_10) rfl rfl ?_
          refine X0.arraylength hx (by rw [e0]; exact Ar17.1) (State.isArrayOf_alike hZ.alike Ar17.2.1) (g := (mkF m 11 #[.val (.ref ob), .val (.ref lb), .val (.int 2)] [(.ref ob), (.int 2)])) rfl rfl (hb hby d19_11) _ ?_
          rw [len_of S17 M17]
          refine XS.icmpNo X0.here hx rfl (hb hby d19_12) rfl (own_tlt (a := (2 : Int32)) (b := zn) (by decide) rfl hc12_18).2.1 ?_
          refine XS.aloadN X0.here hx rfl (hb hby d19_15) rfl rfl ?_
          refine XS.iloadN X0.here hx rfl (hb hby d19_16) rfl ?_
          show Steps p.tables e below (s₁.setTop (mkF m 17 #[.val (.ref ob), .val (.ref lb), .val (.int 2)] [(.int 2), (.ref ob)])) _
          refine X0.baloadBytes hx (j := (2 : Int32)) (v := (.int b2)) (by rw [e0]; exact Ar19.1) (State.isArrayOf_alike hZ.alike Ar19.2.1) Ar19.2.2 hin19 hat19 (g := (mkF m 17 #[.val (.ref ob), .val (.ref lb), .val (.int 2)] [(.int 2), (.ref ob)])) rfl rfl (hb hby d19_17) _ ?_
          refine XS.aloadN X0.here hx rfl (hb hby d19_18) rfl rfl ?_
          refine XS.iloadN X0.here hx rfl (hb hby d19_19) rfl ?_
          refine X0.baloadBytes hx (j := (2 : Int32)) (v := (.int d2)) (by rw [e0]; exact Ar20.1) (State.isArrayOf_alike hZ.alike Ar20.2.1) Ar20.2.2 hin20 hat20 (g := (mkF m 20 #[.val (.ref ob), .val (.ref lb), .val (.int 2)] [(.int 2), (.ref lb), (.int b2)])) rfl rfl (hb hby d19_20) _ ?_
          exact kt
        by_cases hc21_21 : b2.toInt = d2.toInt
        · obtain ⟨cl23, Ar23, q23, S23, M23, H23, G23⟩ := id Vn
          have hc12_24 : (3 : Int) < zn.toInt := by omega
          obtain ⟨cl25, Ar25, q25, S25, M25, H25, G25⟩ := id Vn
          have hin25 : ¬ ((3 : Int32) < 0 ∨ cl25.slots.size ≤ ((3 : Int32)).toNatClampNeg) := inb_of S25 ⟨by decide, by rw [Int32.lt_iff_toInt_lt]; have kj : ((3 : Int32)).toInt = (3 : Int) := (by decide); omega⟩
          have hat25 : cl25.slots[((3 : Int32)).toNatClampNeg]? = some (.int b3) := Has.at H25 hin25 g3
          obtain ⟨cl26, Ar26, q26, S26, M26, H26, G26⟩ := id Vd
          have hin26 : ¬ ((3 : Int32) < 0 ∨ cl26.slots.size ≤ ((3 : Int32)).toNatClampNeg) := inb_of S26 ⟨by decide, by decide⟩
          have hat26 : cl26.slots[((3 : Int32)).toNatClampNeg]? = some (.int d3) := Has.at H26 hin26 rfl
          have pre28 : oP p e below (s₁.setTop (mkF m 21 #[.val (.ref ob), .val (.ref lb), .val (.int 3)] [(.int d3), (.int b3)])) (SS) := fun t kt => by
            refine pre22 _ ?_
            refine XS.icmpYes X0.here hx rfl (pc0 := 21) (pc' := 26) rfl (hb hby d19_21) rfl (own_teq (a := b2) (b := d2) rfl rfl hc21_21).1 (by decide) (by decide) ?_
            refine XS.iinc X0.here hx rfl (hb hby d19_26) rfl (l' := #[.val (.ref ob), .val (.ref lb), .val (.int 3)]) rfl ?_
            refine XS.goto X0.here hx rfl (pc0 := 29) (pc' := 9) rfl (hb hby d19_29) (by decide) (by decide) ?_
            refine XS.iloadN X0.here hx rfl (hb hby d19_9) rfl ?_
            refine XS.aloadN X0.here hx rfl (hb hby d19_10) rfl rfl ?_
            refine X0.arraylength hx (by rw [e0]; exact Ar23.1) (State.isArrayOf_alike hZ.alike Ar23.2.1) (g := (mkF m 11 #[.val (.ref ob), .val (.ref lb), .val (.int 3)] [(.ref ob), (.int 3)])) rfl rfl (hb hby d19_11) _ ?_
            rw [len_of S23 M23]
            refine XS.icmpNo X0.here hx rfl (hb hby d19_12) rfl (own_tlt (a := (3 : Int32)) (b := zn) (by decide) rfl hc12_24).2.1 ?_
            refine XS.aloadN X0.here hx rfl (hb hby d19_15) rfl rfl ?_
            refine XS.iloadN X0.here hx rfl (hb hby d19_16) rfl ?_
            refine X0.baloadBytes hx (j := (3 : Int32)) (v := (.int b3)) (by rw [e0]; exact Ar25.1) (State.isArrayOf_alike hZ.alike Ar25.2.1) Ar25.2.2 hin25 hat25 (g := (mkF m 17 #[.val (.ref ob), .val (.ref lb), .val (.int 3)] [(.int 3), (.ref ob)])) rfl rfl (hb hby d19_17) _ ?_
            refine XS.aloadN X0.here hx rfl (hb hby d19_18) rfl rfl ?_
            refine XS.iloadN X0.here hx rfl (hb hby d19_19) rfl ?_
            refine X0.baloadBytes hx (j := (3 : Int32)) (v := (.int d3)) (by rw [e0]; exact Ar26.1) (State.isArrayOf_alike hZ.alike Ar26.2.1) Ar26.2.2 hin26 hat26 (g := (mkF m 20 #[.val (.ref ob), .val (.ref lb), .val (.int 3)] [(.int 3), (.ref lb), (.int b3)])) rfl rfl (hb hby d19_20) _ ?_
            exact kt
          by_cases hc21_27 : b3.toInt = d3.toInt
          · obtain ⟨cl29, Ar29, q29, S29, M29, H29, G29⟩ := id Vn
            have hc12_30 : (4 : Int) < zn.toInt := by omega
            obtain ⟨cl31, Ar31, q31, S31, M31, H31, G31⟩ := id Vn
            have hin31 : ¬ ((4 : Int32) < 0 ∨ cl31.slots.size ≤ ((4 : Int32)).toNatClampNeg) := inb_of S31 ⟨by decide, by rw [Int32.lt_iff_toInt_lt]; have kj : ((4 : Int32)).toInt = (4 : Int) := (by decide); omega⟩
            have hat31 : cl31.slots[((4 : Int32)).toNatClampNeg]? = some (.int b4) := Has.at H31 hin31 g4
            obtain ⟨cl32, Ar32, q32, S32, M32, H32, G32⟩ := id Vd
            have hin32 : ¬ ((4 : Int32) < 0 ∨ cl32.slots.size ≤ ((4 : Int32)).toNatClampNeg) := inb_of S32 ⟨by decide, by decide⟩
            have hat32 : cl32.slots[((4 : Int32)).toNatClampNeg]? = some (.int d4) := Has.at H32 hin32 rfl
            have pre34 : oP p e below (s₁.setTop (mkF m 21 #[.val (.ref ob), .val (.ref lb), .val (.int 4)] [(.int d4), (.int b4)])) (SS) := fun t kt => by
              refine pre28 _ ?_
              refine XS.icmpYes X0.here hx rfl (pc0 := 21) (pc' := 26) rfl (hb hby d19_21) rfl (own_teq (a := b3) (b := d3) rfl rfl hc21_27).1 (by decide) (by decide) ?_
              refine XS.iinc X0.here hx rfl (hb hby d19_26) rfl (l' := #[.val (.ref ob), .val (.ref lb), .val (.int 4)]) rfl ?_
              refine XS.goto X0.here hx rfl (pc0 := 29) (pc' := 9) rfl (hb hby d19_29) (by decide) (by decide) ?_
              show Steps p.tables e below (s₁.setTop (mkF m 9 #[.val (.ref ob), .val (.ref lb), .val (.int 4)] [])) _
              refine XS.iloadN X0.here hx rfl (hb hby d19_9) rfl ?_
              refine XS.aloadN X0.here hx rfl (hb hby d19_10) rfl rfl ?_
              refine X0.arraylength hx (by rw [e0]; exact Ar29.1) (State.isArrayOf_alike hZ.alike Ar29.2.1) (g := (mkF m 11 #[.val (.ref ob), .val (.ref lb), .val (.int 4)] [(.ref ob), (.int 4)])) rfl rfl (hb hby d19_11) _ ?_
              rw [len_of S29 M29]
              refine XS.icmpNo X0.here hx rfl (hb hby d19_12) rfl (own_tlt (a := (4 : Int32)) (b := zn) (by decide) rfl hc12_30).2.1 ?_
              refine XS.aloadN X0.here hx rfl (hb hby d19_15) rfl rfl ?_
              refine XS.iloadN X0.here hx rfl (hb hby d19_16) rfl ?_
              refine X0.baloadBytes hx (j := (4 : Int32)) (v := (.int b4)) (by rw [e0]; exact Ar31.1) (State.isArrayOf_alike hZ.alike Ar31.2.1) Ar31.2.2 hin31 hat31 (g := (mkF m 17 #[.val (.ref ob), .val (.ref lb), .val (.int 4)] [(.int 4), (.ref ob)])) rfl rfl (hb hby d19_17) _ ?_
              refine XS.aloadN X0.here hx rfl (hb hby d19_18) rfl rfl ?_
              refine XS.iloadN X0.here hx rfl (hb hby d19_19) rfl ?_
              refine X0.baloadBytes hx (j := (4 : Int32)) (v := (.int d4)) (by rw [e0]; exact Ar32.1) (State.isArrayOf_alike hZ.alike Ar32.2.1) Ar32.2.2 hin32 hat32 (g := (mkF m 20 #[.val (.ref ob), .val (.ref lb), .val (.int 4)] [(.int 4), (.ref lb), (.int b4)])) rfl rfl (hb hby d19_20) _ ?_
              exact kt
            by_cases hc21_33 : b4.toInt = d4.toInt
            · obtain ⟨cl35, Ar35, q35, S35, M35, H35, G35⟩ := id Vn
              have hc12_36 : (5 : Int) < zn.toInt := by omega
              obtain ⟨cl37, Ar37, q37, S37, M37, H37, G37⟩ := id Vn
              have hin37 : ¬ ((5 : Int32) < 0 ∨ cl37.slots.size ≤ ((5 : Int32)).toNatClampNeg) := inb_of S37 ⟨by decide, by rw [Int32.lt_iff_toInt_lt]; have kj : ((5 : Int32)).toInt = (5 : Int) := (by decide); omega⟩
              have hat37 : cl37.slots[((5 : Int32)).toNatClampNeg]? = some (.int b5) := Has.at H37 hin37 g5
              obtain ⟨cl38, Ar38, q38, S38, M38, H38, G38⟩ := id Vd
              have hin38 : ¬ ((5 : Int32) < 0 ∨ cl38.slots.size ≤ ((5 : Int32)).toNatClampNeg) := inb_of S38 ⟨by decide, by decide⟩
              have hat38 : cl38.slots[((5 : Int32)).toNatClampNeg]? = some (.int d5) := Has.at H38 hin38 rfl
              have pre40 : oP p e below (s₁.setTop (mkF m 21 #[.val (.ref ob), .val (.ref lb), .val (.int 5)] [(.int d5), (.int b5)])) (SS) := fun t kt => by
                refine pre34 _ ?_
                refine XS.icmpYes X0.here hx rfl (pc0 := 21) (pc' := 26) rfl (hb hby d19_21) rfl (own_teq (a := b4) (b := d4) rfl rfl hc21_33).1 (by decide) (by decide) ?_
                refine XS.iinc X0.here hx rfl (hb hby d19_26) rfl (l' := #[.val (.ref ob), .val (.ref lb), .val (.int 5)]) rfl ?_
                refine XS.goto X0.here hx rfl (pc0 := 29) (pc' := 9) rfl (hb hby d19_29) (by decide) (by decide) ?_
                refine XS.iloadN X0.here hx rfl (hb hby d19_9) rfl ?_
                refine XS.aloadN X0.here hx rfl (hb hby d19_10) rfl rfl ?_
                refine X0.arraylength hx (by rw [e0]; exact Ar35.1) (State.isArrayOf_alike hZ.alike Ar35.2.1) (g := (mkF m 11 #[.val (.ref ob), .val (.ref lb), .val (.int 5)] [(.ref ob), (.int 5)])) rfl rfl (hb hby d19_11) _ ?_
                rw [len_of S35 M35]
                refine XS.icmpNo X0.here hx rfl (hb hby d19_12) rfl (own_tlt (a := (5 : Int32)) (b := zn) (by decide) rfl hc12_36).2.1 ?_
                refine XS.aloadN X0.here hx rfl (hb hby d19_15) rfl rfl ?_
                refine XS.iloadN X0.here hx rfl (hb hby d19_16) rfl ?_
                refine X0.baloadBytes hx (j := (5 : Int32)) (v := (.int b5)) (by rw [e0]; exact Ar37.1) (State.isArrayOf_alike hZ.alike Ar37.2.1) Ar37.2.2 hin37 hat37 (g := (mkF m 17 #[.val (.ref ob), .val (.ref lb), .val (.int 5)] [(.int 5), (.ref ob)])) rfl rfl (hb hby d19_17) _ ?_
                show Steps p.tables e below (s₁.setTop (mkF m 18 #[.val (.ref ob), .val (.ref lb), .val (.int 5)] [(.int b5)])) _
                refine XS.aloadN X0.here hx rfl (hb hby d19_18) rfl rfl ?_
                refine XS.iloadN X0.here hx rfl (hb hby d19_19) rfl ?_
                refine X0.baloadBytes hx (j := (5 : Int32)) (v := (.int d5)) (by rw [e0]; exact Ar38.1) (State.isArrayOf_alike hZ.alike Ar38.2.1) Ar38.2.2 hin38 hat38 (g := (mkF m 20 #[.val (.ref ob), .val (.ref lb), .val (.int 5)] [(.int 5), (.ref lb), (.int b5)])) rfl rfl (hb hby d19_20) _ ?_
                exact kt
              by_cases hc21_39 : b5.toInt = d5.toInt
              · obtain ⟨cl41, Ar41, q41, S41, M41, H41, G41⟩ := id Vn
                have hc12_42 : ¬ ((6 : Int) < zn.toInt) := by omega
                subst hSS
                obtain ⟨fs, hr, q1, q2, q3, q4⟩ := X0.leave (v := some (.int 1)) (fun h => by rw [Bd.returns] at h; cases h)
                refine ⟨_, _, pre40 _ ?_, q1, q2, _, _, rfl, ?_, ⟨_, rfl⟩, q3, q4.mono (by decide) (by decide)⟩
                · refine XS.icmpYes X0.here hx rfl (pc0 := 21) (pc' := 26) rfl (hb hby d19_21) rfl (own_teq (a := b5) (b := d5) rfl rfl hc21_39).1 (by decide) (by decide) ?_
                  refine XS.iinc X0.here hx rfl (hb hby d19_26) rfl (l' := #[.val (.ref ob), .val (.ref lb), .val (.int 6)]) rfl ?_
                  refine XS.goto X0.here hx rfl (pc0 := 29) (pc' := 9) rfl (hb hby d19_29) (by decide) (by decide) ?_
                  refine XS.iloadN X0.here hx rfl (hb hby d19_9) rfl ?_
                  refine XS.aloadN X0.here hx rfl (hb hby d19_10) rfl rfl ?_
                  refine X0.arraylength hx (by rw [e0]; exact Ar41.1) (State.isArrayOf_alike hZ.alike Ar41.2.1) (g := (mkF m 11 #[.val (.ref ob), .val (.ref lb), .val (.int 6)] [(.ref ob), (.int 6)])) rfl rfl (hb hby d19_11) _ ?_
                  rw [len_of S41 M41]
                  refine XS.icmpYes X0.here hx rfl (pc0 := 12) (pc' := 32) rfl (hb hby d19_12) rfl (own_flt (a := (6 : Int32)) (b := zn) (by decide) rfl hc12_42).2.1 (by decide) (by decide) ?_
                  refine XS.iconst X0.here hx rfl (hb hby d19_32) ?_
                  exact retN X0 hx (t := .boolean) Bd.returns (by simp) (hb hby d19_33) hr
                · show Q_lB6 Z _ _ _ _ _ _ _ _ _ _ _ _ h0 n0 _ s₁.heap _
                  rw [e0]
                  exact ⟨_, rfl, Or.inl ⟨rfl, by omega, own_bd g0 (by omega), own_bd g1 (by omega), own_bd g2 (by omega), own_bd g3 (by omega), own_bd g4 (by omega), own_bd g5 (by omega)⟩, N0, rfl⟩
              · subst hSS
                obtain ⟨fs, hr, q1, q2, q3, q4⟩ := X0.leave (v := some (.int 0)) (fun h => by rw [Bd.returns] at h; cases h)
                refine ⟨_, _, pre40 _ ?_, q1, q2, _, _, rfl, ?_, ⟨_, rfl⟩, q3, q4.mono (by decide) (by decide)⟩
                · refine XS.icmpNo X0.here hx rfl (hb hby d19_21) rfl (own_feq (a := b5) (b := d5) rfl rfl hc21_39).1 ?_
                  refine XS.iconst X0.here hx rfl (hb hby d19_24) ?_
                  exact retN X0 hx (t := .boolean) Bd.returns (by simp) (hb hby d19_25) hr
                · show Q_lB6 Z _ _ _ _ _ _ _ _ _ _ _ _ h0 n0 _ s₁.heap _
                  rw [e0]
                  exact ⟨_, rfl, Or.inr ⟨rfl, fun q => by have := own_bi g5 q.2.2.2.2.2.2; omega⟩, N0, rfl⟩
            · subst hSS
              obtain ⟨fs, hr, q1, q2, q3, q4⟩ := X0.leave (v := some (.int 0)) (fun h => by rw [Bd.returns] at h; cases h)
              refine ⟨_, _, pre34 _ ?_, q1, q2, _, _, rfl, ?_, ⟨_, rfl⟩, q3, q4.mono (by decide) (by decide)⟩
              · refine XS.icmpNo X0.here hx rfl (hb hby d19_21) rfl (own_feq (a := b4) (b := d4) rfl rfl hc21_33).1 ?_
                refine XS.iconst X0.here hx rfl (hb hby d19_24) ?_
                exact retN X0 hx (t := .boolean) Bd.returns (by simp) (hb hby d19_25) hr
              · show Q_lB6 Z _ _ _ _ _ _ _ _ _ _ _ _ h0 n0 _ s₁.heap _
                rw [e0]
                exact ⟨_, rfl, Or.inr ⟨rfl, fun q => by have := own_bi g4 q.2.2.2.2.2.1; omega⟩, N0, rfl⟩
          · subst hSS
            obtain ⟨fs, hr, q1, q2, q3, q4⟩ := X0.leave (v := some (.int 0)) (fun h => by rw [Bd.returns] at h; cases h)
            refine ⟨_, _, pre28 _ ?_, q1, q2, _, _, rfl, ?_, ⟨_, rfl⟩, q3, q4.mono (by decide) (by decide)⟩
            · refine XS.icmpNo X0.here hx rfl (hb hby d19_21) rfl (own_feq (a := b3) (b := d3) rfl rfl hc21_27).1 ?_
              refine XS.iconst X0.here hx rfl (hb hby d19_24) ?_
              exact retN X0 hx (t := .boolean) Bd.returns (by simp) (hb hby d19_25) hr
            · show Q_lB6 Z _ _ _ _ _ _ _ _ _ _ _ _ h0 n0 _ s₁.heap _
              rw [e0]
              exact ⟨_, rfl, Or.inr ⟨rfl, fun q => by have := own_bi g3 q.2.2.2.2.1; omega⟩, N0, rfl⟩
        · subst hSS
          obtain ⟨fs, hr, q1, q2, q3, q4⟩ := X0.leave (v := some (.int 0)) (fun h => by rw [Bd.returns] at h; cases h)
          refine ⟨_, _, pre22 _ ?_, q1, q2, _, _, rfl, ?_, ⟨_, rfl⟩, q3, q4.mono (by decide) (by decide)⟩
          · refine XS.icmpNo X0.here hx rfl (hb hby d19_21) rfl (own_feq (a := b2) (b := d2) rfl rfl hc21_21).1 ?_
            refine XS.iconst X0.here hx rfl (hb hby d19_24) ?_
            exact retN X0 hx (t := .boolean) Bd.returns (by simp) (hb hby d19_25) hr
          · show Q_lB6 Z _ _ _ _ _ _ _ _ _ _ _ _ h0 n0 _ s₁.heap _
            rw [e0]
            exact ⟨_, rfl, Or.inr ⟨rfl, fun q => by have := own_bi g2 q.2.2.2.1; omega⟩, N0, rfl⟩
      · subst hSS
        obtain ⟨fs, hr, q1, q2, q3, q4⟩ := X0.leave (v := some (.int 0)) (fun h => by rw [Bd.returns] at h; cases h)
        refine ⟨_, _, pre16 _ ?_, q1, q2, _, _, rfl, ?_, ⟨_, rfl⟩, q3, q4.mono (by decide) (by decide)⟩
        · refine XS.icmpNo X0.here hx rfl (hb hby d19_21) rfl (own_feq (a := b1) (b := d1) rfl rfl hc21_15).1 ?_
          refine XS.iconst X0.here hx rfl (hb hby d19_24) ?_
          exact retN X0 hx (t := .boolean) Bd.returns (by simp) (hb hby d19_25) hr
        · show Q_lB6 Z _ _ _ _ _ _ _ _ _ _ _ _ h0 n0 _ s₁.heap _
          rw [e0]
          exact ⟨_, rfl, Or.inr ⟨rfl, fun q => by have := own_bi g1 q.2.2.1; omega⟩, N0, rfl⟩
    · subst hSS
      obtain ⟨fs, hr, q1, q2, q3, q4⟩ := X0.leave (v := some (.int 0)) (fun h => by rw [Bd.returns] at h; cases h)
      refine ⟨_, _, pre10 _ ?_, q1, q2, _, _, rfl, ?_, ⟨_, rfl⟩, q3, q4.mono (by decide) (by decide)⟩
      · refine XS.icmpNo X0.here hx rfl (hb hby d19_21) rfl (own_feq (a := b0) (b := d0) rfl rfl hc21_9).1 ?_
        refine XS.iconst X0.here hx rfl (hb hby d19_24) ?_
        show Steps p.tables e below (s₁.setTop (mkF m 25 #[.val (.ref ob), .val (.ref lb), .val (.int 0)] [(.int 0)])) _
        exact retN X0 hx (t := .boolean) Bd.returns (by simp) (hb hby d19_25) hr
      · show Q_lB6 Z _ _ _ _ _ _ _ _ _ _ _ _ h0 n0 _ s₁.heap _
        rw [e0]
        exact ⟨_, rfl, Or.inr ⟨rfl, fun q => by have := own_bi g0 q.2.1; omega⟩, N0, rfl⟩
  · subst hSS
    obtain ⟨fs, hr, q1, q2, q3, q4⟩ := X0.leave (v := some (.int 0)) (fun h => by rw [Bd.returns] at h; cases h)
    refine ⟨_, _, pre4 _ ?_, q1, q2, _, _, rfl, ?_, ⟨_, rfl⟩, q3, q4.mono (by decide) (by decide)⟩
    · refine XS.icmpYes X0.here hx rfl (pc0 := 4) (pc' := 34) rfl (hb hby d19_4) rfl (own_feq (a := zn) (b := (6 : Int32)) rfl (by decide) hc4_3).2 (by decide) (by decide) ?_
      refine XS.iconst X0.here hx rfl (hb hby d19_34) ?_
      exact retN X0 hx (t := .boolean) Bd.returns (by simp) (hb hby d19_35) hr
    · show Q_lB6 Z _ _ _ _ _ _ _ _ _ _ _ _ h0 n0 _ s₁.heap _
      rw [e0]
      exact ⟨_, rfl, Or.inr ⟨rfl, fun q => by have := q.1; omega⟩, N0, rfl⟩
theorem ef_rm_qB6 (m : MethodId) (x0 : Addr) (x1 : Addr) : entryFrame m #[(.ref x0), (.ref x1)] 3 = mkF m 0 #[.val (.ref x0), .val (.ref x1), .unset] [] := by first | (simp [entryFrame, mkF, argsToLocals, Value.category]; done) | rfl
def Q_qB6 (Z : State) (oa : Addr) (la : Addr) (vcs : Int32) (vf : Value) (ob : Addr) (lb : Addr) (kd : ClassId) (kn : ClassId) (zn : Int32) (vs : List Value) (d0 : Int32) (d1 : Int32) (d2 : Int32) (d3 : Int32) (d4 : Int32) (d5 : Int32) (h0 : Heap) (n0 : Nat) (v : Option Value) (h : Heap) (L : List Loc) : Prop := ∃ z : Int32, v = some (.int z) ∧ ((z = (1 : Int32) ∧ own_e6 zn vs d0 d1 d2 d3 d4 d5) ∨ (z = (0 : Int32) ∧ ¬ own_e6 zn vs d0 d1 d2 d3 d4 d5)) ∧ Fr n0 L ∧ h = h0
theorem rm_qB6 (l : Launch) (Z : State) (a0 : Array Value) (hw : ∀ d ∈ tables_1, d.before a0 Z = true) (ws : List Jvm.Cond) (oa : Addr) (la : Addr) (vcs : Int32) (vf : Value) (ob : Addr) (lb : Addr) (kd : ClassId) (kn : ClassId) (zn : Int32) (vs : List Value) (d0 : Int32) (d1 : Int32) (d2 : Int32) (d3 : Int32) (d4 : Int32) (d5 : Int32) (h0 : Heap) (n0 : Nat) (Z0 : n0 ≤ h0.size) (Os : own_st Z h0 vcs vf) (Ed : Exa Z h0 la "java/lang/String") (Cd : Fld Z h0 la "java/lang/String" "coder" "B" (.int 0)) (Ud : Fld Z h0 la "java/lang/String" "value" "[B" (.ref lb)) (Vd : Arv Z h0 lb kd .byte (6 : Int32) [(.int d0), (.int d1), (.int d2), (.int d3), (.int d4), (.int d5)] (.int 0)) (En : Exa Z h0 oa "java/lang/String") (Cn : Fld Z h0 oa "java/lang/String" "coder" "B" (.int 0)) (Un : Fld Z h0 oa "java/lang/String" "value" "[B" (.ref ob)) (Vn : Arv Z h0 ob kn .byte zn vs (.int 0)) :
    MetFree l yn1 (head1 (Jvm.Cond.code yn1 kc1 3 (some .boolean) :: ws) ⟨1, 0, 0, 14⟩) (fun a U => a = #[(.ref oa), (.ref la)] ∧ Z.Warmed39 U.vm ∧ U.heap = h0) (fun _ _ _ _ _ => True) (fun _ U o U' => ∃ v L, o = .returned v ∧ Q_qB6 Z oa la vcs vf ob lb kd kn zn vs d0 d1 d2 d3 d4 d5 h0 n0 v U'.heap L ∧ FrameEnd U o U' L 0 0) := by
  refine MetFree.of_bodySF (plainFor_of_name pn_1) hisR ?_
  intro p e s m args below meth c s₁ Bd hml0 hP hK
  obtain ⟨rfl, hZ, hh⟩ := hP
  have hx := Bd.exec
  have hby := Bd.bytes
  have hml : c.maxLocals = 3 := hml0
  have hown : s.vm.findClass "java/lang/String" = some m.cls := findClass_of_methodNamed Bd.named
  have hnm := (name_of_methodNamed Bd.named Bd.method).1
  have X0 : Stand p l e ⟨1, 0, 0, 14⟩ s m #[(.ref oa), (.ref la)] below meth c s₁ [] 0 0 := Stand.of_body Bd
  have e0 : s₁.heap = h0 := by rw [← hh, Bd.state]; rfl
  have N0 := Fr.nil n0
  obtain ⟨SS, hSS⟩ : ∃ S, S = s₁.setTop (entryFrame m #[(.ref oa), (.ref la)] 3) := ⟨_, rfl⟩
  have pre0 : oP p e below (s₁.setTop (mkF m 0 #[.val (.ref oa), .val (.ref la), .unset] [])) (SS) := by
    rw [hSS]; exact fun t k => castTop (ef_rm_qB6 m oa la) k
  have pre1 : oP p e below (s₁.setTop (mkF m 2 #[.val (.ref oa), .val (.ref la), .unset] [(.ref la), (.ref oa)])) (SS) := fun t kt => by
    refine pre0 _ ?_
    refine XS.aloadN X0.here hx rfl (hb hby d18_0) rfl rfl ?_
    refine XS.aloadN X0.here hx rfl (hb hby d18_1) rfl rfl ?_
    exact kt
  by_cases hab : oa = la
  · have hsm := own_arv_inj Vn (show Arv Z h0 ob kd .byte (6 : Int32) [(.int d0), (.int d1), (.int d2), (.int d3), (.int d4), (.int d5)] (.int 0) by rw [own_same hab Un Ud]; exact Vd)
    have hsl : zn.toInt = 6 := own_clamp (n := 6) hsm.1 (by decide)
    have hlt : ∀ i, i < 6 → i < zn.toNatClampNeg := fun i hi => by rw [hsm.1]; exact hi
    subst hSS
    obtain ⟨fs, hr, q1, q2, q3, q4⟩ := X0.leave (v := some (.int 1)) (fun h => by rw [Bd.returns] at h; cases h)
    refine ⟨_, _, pre1 _ ?_, q1, q2, _, _, rfl, ?_, ⟨_, rfl⟩, q3, q4.mono (by decide) (by decide)⟩
    · refine Jvm.RoadKit.acmp (g := (mkF m 2 #[.val (.ref oa), .val (.ref la), .unset] [(.ref la), (.ref oa)])) X0 hx rfl rfl rfl (pc0 := 2) (pc' := 5) (same := true) rfl (hb hby d18_2) rfl (decide_eq_true (congrArg Value.ref hab)) (by decide) (by decide) ?_
      refine XS.iconst X0.here hx rfl (hb hby d18_5) ?_
      exact retN X0 hx (t := .boolean) Bd.returns (by simp) (hb hby d18_6) hr
    · show Q_qB6 Z _ _ _ _ _ _ _ _ _ _ _ _ _ _ _ _ h0 n0 _ s₁.heap _
      rw [e0]
      exact ⟨_, rfl, Or.inl ⟨rfl, hsl, hsm.2 0 (hlt 0 (by decide)), hsm.2 1 (hlt 1 (by decide)), hsm.2 2 (hlt 2 (by decide)), hsm.2 3 (hlt 3 (by decide)), hsm.2 4 (hlt 4 (by decide)), hsm.2 5 (hlt 5 (by decide))⟩, N0, rfl⟩
  · have own_nab := True.intro
    obtain ⟨T2, X2, e2, st2⟩ := instY X0 hx hZ hown (ow hw 94 rfl) e0 (Ins.self Ed) (g := (mkF m 8 #[.val (.ref oa), .val (.ref la), .unset] [(.ref la)])) rfl rfl (hb hby d18_8)
    have hc11_3 : ¬ ((1 : Int) = (0 : Int)) := by decide
    obtain ⟨T4, X4, e4, st4⟩ := castY X2 hx hZ hown (ow hw 94 rfl) e2 (Ins.self Ed) (g := (mkF m 15 #[.val (.ref oa), .val (.ref la), .unset] [(.ref la)])) rfl rfl (hb hby d18_15)
    obtain ⟨T5, X5, e5, st5⟩ := getS2 X4 hx hZ hown (host := "") (Or.inl (ow hw 19 rfl)) Via.refl e4 Os.1 (g := (mkF m 19 #[.val (.ref oa), .val (.ref la), .val (.ref la)] [])) rfl (hb hby d18_19)
    have hc22_6 : ¬ (vcs.toInt = (0 : Int)) := by (have q := Os.2.1; omega)
    obtain ⟨T7, X7, e7, st7⟩ := getF X5 hx hZ hown (host := "") (Or.inl (ow hw 20 rfl)) Via.refl e5 Cn (g := (mkF m 26 #[.val (.ref oa), .val (.ref la), .val (.ref la)] [(.ref oa)])) rfl rfl (hb hby d18_26)
    obtain ⟨T8, X8, e8, st8⟩ := getF X7 hx hZ hown (host := "") (Or.inl (ow hw 20 rfl)) Via.refl e7 Cd (g := (mkF m 30 #[.val (.ref oa), .val (.ref la), .val (.ref la)] [(.ref la), (.int 0)])) rfl rfl (hb hby d18_30)
    have hc33_9 : (0 : Int) = (0 : Int) := by decide
    obtain ⟨T10, X10, e10, st10⟩ := getF X8 hx hZ hown (host := "") (Or.inl (ow hw 13 rfl)) Via.refl e8 Un (g := (mkF m 37 #[.val (.ref oa), .val (.ref la), .val (.ref la)] [(.ref oa)])) rfl rfl (hb hby d18_37)
    obtain ⟨T11, X11, e11, st11⟩ := getF X10 hx hZ hown (host := "") (Or.inl (ow hw 13 rfl)) Via.refl e10 Ud (g := (mkF m 41 #[.val (.ref oa), .val (.ref la), .val (.ref la)] [(.ref la), (.ref ob)])) rfl rfl (hb hby d18_41)
    obtain ⟨_, _, ⟨T12, L12, k12, n12⟩, -, X12, ⟨Lc12, hQ12, l12, y12, z12⟩, st12⟩ := Jvm.LawKit.callS X11 hx (y := yn0) hown (mvT hZ (ow hw 95 rfl)) (mvT hZ (ow hw 96 rfl)) (mvT hZ (ow hw 37 rfl)) (mvT hZ (ow hw 97 rfl)) (by decide) (backOf (W := 0) (rm_lB6 l Z a0 hw [] ob lb kd kn zn vs d0 d1 d2 d3 d4 d5 h0 n0 Z0 Vd Vn) hZ (ow hw 97 rfl) (ow hw 37 rfl) (by decide) (by decide)) (g := (mkF m 44 #[.val (.ref oa), .val (.ref la), .val (.ref la)] [(.ref lb), (.ref ob)])) rfl (by rw [hml]; rfl) (argsL := [(.ref ob), (.ref lb)]) (rest := []) (lenOf pd_0 rfl) rfl (by exact Nat.le_of_eq rfl) (hb hby d18_44) (fun _ _ => ⟨rfl, e11, (by decide : 0 + 0 ≤ _), (by decide : 0 + 0 ≤ _)⟩)
    dsimp only [Pt.U, Pt.locs, Pt.cells, Pt.slots] at X12 l12 y12 z12 st12 hQ12
    rw [l12, y12, z12] at X12
    obtain ⟨zq, rfl, hzq, N12q, e12⟩ := hQ12
    have N12 := Fr.app N0 N12q
    have pre13 : oP p e below (T12.setTop (mkF m 47 #[.val (.ref oa), .val (.ref la), .val (.ref la)] [(.int zq)])) (SS) := fun t kt => by
      refine pre1 _ ?_
      refine Jvm.RoadKit.acmp (g := (mkF m 2 #[.val (.ref oa), .val (.ref la), .unset] [(.ref la), (.ref oa)])) X0 hx rfl rfl rfl (pc0 := 2) (pc' := 7) (same := false) rfl (hb hby d18_2) rfl (decide_eq_false fun q => hab (Value.ref.inj q)) (by decide) (by decide) ?_
      refine XS.aloadN X0.here hx rfl (hb hby d18_7) rfl rfl ?_
      refine st2 _ ?_
      refine XS.ifNo X2.here hx rfl (hb hby d18_11) rfl (own_if (own_feq (a := (1 : Int32)) (b := (0 : Int32)) (by decide) (by decide) hc11_3).1) ?_
      refine XS.aloadN X2.here hx rfl (hb hby d18_14) rfl rfl ?_
      refine st4 _ ?_
      refine XS.astoreN X4.here hx rfl (hb hby d18_18) rfl rfl (l' := #[.val (.ref oa), .val (.ref la), .val (.ref la)]) rfl ?_
      refine st5 _ ?_
      refine XS.ifNo X5.here hx rfl (hb hby d18_22) rfl (own_if (own_feq (a := vcs) (b := (0 : Int32)) rfl (by decide) hc22_6).1) ?_
      refine XS.aloadN X5.here hx rfl (hb hby d18_25) rfl rfl ?_
      refine st7 _ ?_
      refine XS.aloadN X7.here hx rfl (hb hby d18_29) rfl rfl ?_
      refine st8 _ ?_
      refine XS.icmpNo X8.here hx rfl (hb hby d18_33) rfl (own_teq (a := (0 : Int32)) (b := (0 : Int32)) (by decide) (by decide) hc33_9).2 ?_
      refine XS.aloadN X8.here hx rfl (hb hby d18_36) rfl rfl ?_
      refine st10 _ ?_
      refine XS.aloadN X10.here hx rfl (hb hby d18_40) rfl rfl ?_
      show Steps p.tables e below (T10.setTop (mkF m 41 #[.val (.ref oa), .val (.ref la), .val (.ref la)] [(.ref la), (.ref ob)])) _
      refine st11 _ ?_
      refine st12 _ ?_
      exact kt
    rcases hzq with ⟨rfl, hd⟩ | ⟨rfl, hd⟩
    · have pre14 : oP p e below (T12.setTop (mkF m 47 #[.val (.ref oa), .val (.ref la), .val (.ref la)] [(.int 1)])) (SS) := pre13
      have hc47_15 : ¬ ((1 : Int) = (0 : Int)) := by decide
      subst hSS
      obtain ⟨fs, hr, q1, q2, q3, q4⟩ := X12.leave (v := some (.int 1)) (fun h => by rw [Bd.returns] at h; cases h)
      refine ⟨_, _, pre14 _ ?_, q1, q2, _, _, rfl, ?_, ⟨_, rfl⟩, q3, q4.mono (by decide) (by decide)⟩
      · refine XS.ifNo X12.here hx rfl (hb hby d18_47) rfl (own_if (own_feq (a := (1 : Int32)) (b := (0 : Int32)) (by decide) (by decide) hc47_15).1) ?_
        refine XS.iconst X12.here hx rfl (hb hby d18_50) ?_
        refine XS.goto X12.here hx rfl (pc0 := 51) (pc' := 55) rfl (hb hby d18_51) (by decide) (by decide) ?_
        exact retN X12 hx (t := .boolean) Bd.returns (by simp) (hb hby d18_55) hr
      · show Q_qB6 Z _ _ _ _ _ _ _ _ _ _ _ _ _ _ _ _ h0 n0 _ T12.heap _
        rw [e12]
        exact ⟨_, rfl, Or.inl ⟨rfl, hd⟩, N12, rfl⟩
    · have pre16 : oP p e below (T12.setTop (mkF m 47 #[.val (.ref oa), .val (.ref la), .val (.ref la)] [(.int 0)])) (SS) := pre13
      have hc47_17 : (0 : Int) = (0 : Int) := by decide
      subst hSS
      obtain ⟨fs, hr, q1, q2, q3, q4⟩ := X12.leave (v := some (.int 0)) (fun h => by rw [Bd.returns] at h; cases h)
      refine ⟨_, _, pre16 _ ?_, q1, q2, _, _, rfl, ?_, ⟨_, rfl⟩, q3, q4.mono (by decide) (by decide)⟩
      · refine XS.ifYes X12.here hx rfl (pc0 := 47) (pc' := 54) rfl (hb hby d18_47) rfl (own_if (own_teq (a := (0 : Int32)) (b := (0 : Int32)) (by decide) (by decide) hc47_17).1) (by decide) (by decide) ?_
        refine XS.iconst X12.here hx rfl (hb hby d18_54) ?_
        exact retN X12 hx (t := .boolean) Bd.returns (by simp) (hb hby d18_55) hr
      · show Q_qB6 Z _ _ _ _ _ _ _ _ _ _ _ _ _ _ _ _ h0 n0 _ T12.heap _
        rw [e12]
        exact ⟨_, rfl, Or.inr ⟨rfl, hd⟩, N12, rfl⟩
theorem ef_rm_qN (m : MethodId) (x0 : Addr) : entryFrame m #[(.ref x0), .null] 3 = mkF m 0 #[.val (.ref x0), .val .null, .unset] [] := by first | (simp [entryFrame, mkF, argsToLocals, Value.category]; done) | rfl
def Q_qN (Z : State) (oa : Addr) (h0 : Heap) (n0 : Nat) (v : Option Value) (h : Heap) (L : List Loc) : Prop := ∃ z : Int32, v = some (.int z) ∧ (z = (0 : Int32)) ∧ Fr n0 L ∧ h = h0
theorem rm_qN (l : Launch) (Z : State) (a0 : Array Value) (hw : ∀ d ∈ tables_1, d.before a0 Z = true) (ws : List Jvm.Cond) (oa : Addr) (h0 : Heap) (n0 : Nat) (Z0 : n0 ≤ h0.size) :
    MetFree l yn1 (head1 (Jvm.Cond.code yn1 kc1 3 (some .boolean) :: ws) ⟨0, 0, 0, 0⟩) (fun a U => a = #[(.ref oa), .null] ∧ Z.Warmed39 U.vm ∧ U.heap = h0) (fun _ _ _ _ _ => True) (fun _ U o U' => ∃ v L, o = .returned v ∧ Q_qN Z oa h0 n0 v U'.heap L ∧ FrameEnd U o U' L 0 0) := by
  refine MetFree.of_bodySF (plainFor_of_name pn_1) hisR ?_
  intro p e s m args below meth c s₁ Bd hml0 hP hK
  obtain ⟨rfl, hZ, hh⟩ := hP
  have hx := Bd.exec
  have hby := Bd.bytes
  have hml : c.maxLocals = 3 := hml0
  have hown : s.vm.findClass "java/lang/String" = some m.cls := findClass_of_methodNamed Bd.named
  have hnm := (name_of_methodNamed Bd.named Bd.method).1
  have X0 : Stand p l e ⟨0, 0, 0, 0⟩ s m #[(.ref oa), .null] below meth c s₁ [] 0 0 := Stand.of_body Bd
  have e0 : s₁.heap = h0 := by rw [← hh, Bd.state]; rfl
  have N0 := Fr.nil n0
  obtain ⟨SS, hSS⟩ : ∃ S, S = s₁.setTop (entryFrame m #[(.ref oa), .null] 3) := ⟨_, rfl⟩
  have pre0 : oP p e below (s₁.setTop (mkF m 0 #[.val (.ref oa), .val .null, .unset] [])) (SS) := by
    rw [hSS]; exact fun t k => castTop (ef_rm_qN m oa) k
  have hc11_1 : (0 : Int) = (0 : Int) := by decide
  subst hSS
  obtain ⟨fs, hr, q1, q2, q3, q4⟩ := X0.leave (v := some (.int 0)) (fun h => by rw [Bd.returns] at h; cases h)
  refine ⟨_, _, pre0 _ ?_, q1, q2, _, _, rfl, ?_, ⟨_, rfl⟩, q3, q4.mono (by decide) (by decide)⟩
  · refine XS.aloadN X0.here hx rfl (hb hby d18_0) rfl rfl ?_
    refine XS.aloadN X0.here hx rfl (hb hby d18_1) rfl rfl ?_
    refine Jvm.RoadKit.acmp (g := (mkF m 2 #[.val (.ref oa), .val .null, .unset] [.null, (.ref oa)])) X0 hx rfl rfl rfl (pc0 := 2) (pc' := 7) (same := false) rfl (hb hby d18_2) rfl (decide_eq_false nofun) (by decide) (by decide) ?_
    refine XS.aloadN X0.here hx rfl (hb hby d18_7) rfl rfl ?_
    refine X0.instanceofNull hx (g := (mkF m 8 #[.val (.ref oa), .val .null, .unset] [.null])) rfl rfl (hb hby d18_8) _ ?_
    refine XS.ifYes X0.here hx rfl (pc0 := 11) (pc' := 54) rfl (hb hby d18_11) rfl (own_if (own_teq (a := (0 : Int32)) (b := (0 : Int32)) (by decide) (by decide) hc11_1).1) (by decide) (by decide) ?_
    refine XS.iconst X0.here hx rfl (hb hby d18_54) ?_
    exact retN X0 hx (t := .boolean) Bd.returns (by simp) (hb hby d18_55) hr
  · show Q_qN Z _ h0 n0 _ s₁.heap _
    rw [e0]
    exact ⟨_, rfl, rfl, N0, rfl⟩
theorem d2_0 : decode kc2 0 = .ok (.getstatic 38, 3) := by decide +kernel
theorem d2_3 : decode kc2 3 = .ok (.ifCond .eq 10, 3) := by decide +kernel
theorem d2_6 : decode kc2 6 = .ok (.aload_n 0, 1) := by decide +kernel
theorem d2_7 : decode kc2 7 = .ok (.getfield 15, 3) := by decide +kernel
theorem d2_10 : decode kc2 10 = .ok (.goto 4, 3) := by decide +kernel
theorem d2_14 : decode kc2 14 = .ok (.ireturn, 1) := by decide +kernel
theorem ef_rm_cod0 (m : MethodId) (x0 : Addr) : entryFrame m #[(.ref x0)] 1 = mkF m 0 #[.val (.ref x0)] [] := by first | (simp [entryFrame, mkF, argsToLocals, Value.category]; done) | rfl
def Q_cod0 (Z : State) (oa : Addr) (vcs : Int32) (vf : Value) (h0 : Heap) (n0 : Nat) (v : Option Value) (h : Heap) (L : List Loc) : Prop := ∃ z : Int32, v = some (.int z) ∧ (z = (0 : Int32)) ∧ Fr n0 L ∧ h = h0
theorem rm_cod0 (l : Launch) (Z : State) (a0 : Array Value) (hw : ∀ d ∈ tables_1, d.before a0 Z = true) (ws : List Jvm.Cond) (oa : Addr) (vcs : Int32) (vf : Value) (h0 : Heap) (n0 : Nat) (Z0 : n0 ≤ h0.size) (Os : own_st Z h0 vcs vf) (Fc : Fld Z h0 oa "java/lang/String" "coder" "B" (.int 0)) :
    MetFree l yn2 (head1 (Jvm.Cond.code yn2 kc2 1 (some .byte) :: ws) ⟨0, 0, 0, 0⟩) (fun a U => a = #[(.ref oa)] ∧ Z.Warmed39 U.vm ∧ U.heap = h0) (fun _ _ _ _ _ => True) (fun _ U o U' => ∃ v L, o = .returned v ∧ Q_cod0 Z oa vcs vf h0 n0 v U'.heap L ∧ FrameEnd U o U' L 0 0) := by
  refine MetFree.of_bodySF (plainFor_of_name pn_1) hisR ?_
  intro p e s m args below meth c s₁ Bd hml0 hP hK
  obtain ⟨rfl, hZ, hh⟩ := hP
  have hx := Bd.exec
  have hby := Bd.bytes
  have hml : c.maxLocals = 1 := hml0
  have hown : s.vm.findClass "java/lang/String" = some m.cls := findClass_of_methodNamed Bd.named
  have hnm := (name_of_methodNamed Bd.named Bd.method).1
  have X0 : Stand p l e ⟨0, 0, 0, 0⟩ s m #[(.ref oa)] below meth c s₁ [] 0 0 := Stand.of_body Bd
  have e0 : s₁.heap = h0 := by rw [← hh, Bd.state]; rfl
  have N0 := Fr.nil n0
  obtain ⟨SS, hSS⟩ : ∃ S, S = s₁.setTop (entryFrame m #[(.ref oa)] 1) := ⟨_, rfl⟩
  have pre0 : oP p e below (s₁.setTop (mkF m 0 #[.val (.ref oa)] [])) (SS) := by
    rw [hSS]; exact fun t k => castTop (ef_rm_cod0 m oa) k
  obtain ⟨T1, X1, e1, st1⟩ := getS2 X0 hx hZ hown (host := "") (Or.inl (ow hw 19 rfl)) Via.refl e0 Os.1 (g := (mkF m 0 #[.val (.ref oa)] [])) rfl (hb hby d2_0)
  have hc3_2 : ¬ (vcs.toInt = (0 : Int)) := by (have q := Os.2.1; omega)
  obtain ⟨T3, X3, e3, st3⟩ := getF X1 hx hZ hown (host := "") (Or.inl (ow hw 20 rfl)) Via.refl e1 Fc (g := (mkF m 7 #[.val (.ref oa)] [(.ref oa)])) rfl rfl (hb hby d2_7)
  subst hSS
  obtain ⟨fs, hr, q1, q2, q3, q4⟩ := X3.leave (v := some (.int 0)) (fun h => by rw [Bd.returns] at h; cases h)
  refine ⟨_, _, pre0 _ ?_, q1, q2, _, _, rfl, ?_, ⟨_, rfl⟩, q3, q4.mono (by decide) (by decide)⟩
  · refine st1 _ ?_
    refine XS.ifNo X1.here hx rfl (hb hby d2_3) rfl (own_if (own_feq (a := vcs) (b := (0 : Int32)) rfl (by decide) hc3_2).1) ?_
    refine XS.aloadN X1.here hx rfl (hb hby d2_6) rfl rfl ?_
    refine st3 _ ?_
    refine XS.goto X3.here hx rfl (pc0 := 10) (pc' := 14) rfl (hb hby d2_10) (by decide) (by decide) ?_
    exact retN X3 hx (t := .byte) Bd.returns (by simp) (hb hby d2_14) hr
  · show Q_cod0 Z _ _ _ h0 n0 _ T3.heap _
    rw [e3]
    exact ⟨_, rfl, rfl, N0, rfl⟩
theorem d1_0 : decode kc3 0 = .ok (.aload_n 0, 1) := by decide +kernel
theorem d1_1 : decode kc3 1 = .ok (.getfield 9, 3) := by decide +kernel
theorem d1_4 : decode kc3 4 = .ok (.arraylength, 1) := by decide +kernel
theorem d1_5 : decode kc3 5 = .ok (.aload_n 0, 1) := by decide +kernel
theorem d1_6 : decode kc3 6 = .ok (.invokevirtual 335, 3) := by decide +kernel
theorem d1_9 : decode kc3 9 = .ok (.ishr, 1) := by decide +kernel
theorem d1_10 : decode kc3 10 = .ok (.ireturn, 1) := by decide +kernel
theorem ef_rm_lg (m : MethodId) (x0 : Addr) : entryFrame m #[(.ref x0)] 1 = mkF m 0 #[.val (.ref x0)] [] := by first | (simp [entryFrame, mkF, argsToLocals, Value.category]; done) | rfl
theorem pd_1 : parseMethodDescriptor "()B" = some ⟨[], some .byte⟩ := by decide +kernel
def Q_lg (Z : State) (oa : Addr) (vcs : Int32) (vf : Value) (ob : Addr) (kb : ClassId) (zl : Int32) (vs : List Value) (h0 : Heap) (n0 : Nat) (v : Option Value) (h : Heap) (L : List Loc) : Prop := ∃ z : Int32, v = some (.int z) ∧ (z.toInt = zl.toInt) ∧ Fr n0 L ∧ h = h0
theorem rm_lg (l : Launch) (Z : State) (a0 : Array Value) (hw : ∀ d ∈ tables_1, d.before a0 Z = true) (ws : List Jvm.Cond) (oa : Addr) (vcs : Int32) (vf : Value) (ob : Addr) (kb : ClassId) (zl : Int32) (vs : List Value) (h0 : Heap) (n0 : Nat) (Z0 : n0 ≤ h0.size) (Os : own_st Z h0 vcs vf) (Es : Exa Z h0 oa "java/lang/String") (Fc : Fld Z h0 oa "java/lang/String" "coder" "B" (.int 0)) (Fv : Fld Z h0 oa "java/lang/String" "value" "[B" (.ref ob)) (Vb : Arv Z h0 ob kb .byte zl vs (.int 0)) :
    MetFree l yn3 (head1 (Jvm.Cond.code yn3 kc3 1 (some .int) :: ws) ⟨1, 0, 0, 13⟩) (fun a U => a = #[(.ref oa)] ∧ Z.Warmed39 U.vm ∧ U.heap = h0) (fun _ _ _ _ _ => True) (fun _ U o U' => ∃ v L, o = .returned v ∧ Q_lg Z oa vcs vf ob kb zl vs h0 n0 v U'.heap L ∧ FrameEnd U o U' L 0 0) := by
  refine MetFree.of_bodySF (plainFor_of_name pn_1) hisR ?_
  intro p e s m args below meth c s₁ Bd hml0 hP hK
  obtain ⟨rfl, hZ, hh⟩ := hP
  have hx := Bd.exec
  have hby := Bd.bytes
  have hml : c.maxLocals = 1 := hml0
  have hown : s.vm.findClass "java/lang/String" = some m.cls := findClass_of_methodNamed Bd.named
  have hnm := (name_of_methodNamed Bd.named Bd.method).1
  have X0 : Stand p l e ⟨1, 0, 0, 13⟩ s m #[(.ref oa)] below meth c s₁ [] 0 0 := Stand.of_body Bd
  have e0 : s₁.heap = h0 := by rw [← hh, Bd.state]; rfl
  have N0 := Fr.nil n0
  obtain ⟨SS, hSS⟩ : ∃ S, S = s₁.setTop (entryFrame m #[(.ref oa)] 1) := ⟨_, rfl⟩
  have pre0 : oP p e below (s₁.setTop (mkF m 0 #[.val (.ref oa)] [])) (SS) := by
    rw [hSS]; exact fun t k => castTop (ef_rm_lg m oa) k
  obtain ⟨T1, X1, e1, st1⟩ := getF X0 hx hZ hown (host := "") (Or.inl (ow hw 13 rfl)) Via.refl e0 Fv (g := (mkF m 1 #[.val (.ref oa)] [(.ref oa)])) rfl rfl (hb hby d1_1)
  obtain ⟨cl2, Ar2, q2, S2, M2, H2, G2⟩ := id Vb
  obtain ⟨cq3, kq3, q3a, q3b, q3c⟩ := isOf hZ e1 Es
  obtain ⟨_, _, ⟨T3, L3, k3, n3⟩, -, X3, ⟨Lc3, hQ3, l3, y3, z3⟩, st3⟩ := X1.virtualBack hx (y := yn2) (z := yn2) hown (mvT hZ (ow hw 14 rfl)) (mvT hZ (ow hw 15 rfl)) (notFace_of_selects (args := #[]) (mvT hZ (ow hw 17 rfl))) (mvT hZ (ow hw 17 rfl)) (mvT hZ (ow hw 16 rfl)) (by decide) (backOf (W := 1) (rm_cod0 l Z a0 hw [] oa vcs vf h0 n0 Z0 Os Fc) hZ (ow hw 18 rfl) (ow hw 1 rfl) (by decide) (by decide)) q3a q3c (g := (mkF m 6 #[.val (.ref oa)] [(.ref oa), (.int zl)])) rfl (by rw [hml]; rfl) (Steps.refl _) (argsL := []) (rest := [(.int zl)]) (lenOf pd_1 rfl) rfl (by exact Nat.le_of_eq rfl) (hb hby d1_6) (fun _ _ => ⟨rfl, e1, (by decide : 0 + 0 ≤ _), (by decide : 0 + 0 ≤ _)⟩)
  dsimp only [Pt.U, Pt.locs, Pt.cells, Pt.slots] at X3 l3 y3 z3 st3 hQ3
  rw [l3, y3, z3] at X3
  obtain ⟨zc, rfl, hzc, N3q, e3⟩ := hQ3
  have N3 := Fr.app N0 N3q
  have pre4 : oP p e below (T3.setTop (mkF m 9 #[.val (.ref oa)] [(.int zc), (.int zl)])) (SS) := fun t kt => by
    refine pre0 _ ?_
    refine XS.aloadN X0.here hx rfl (hb hby d1_0) rfl rfl ?_
    refine st1 _ ?_
    refine X1.arraylength hx (by rw [e1]; exact Ar2.1) (State.isArrayOf_alike hZ.alike Ar2.2.1) (g := (mkF m 4 #[.val (.ref oa)] [(.ref ob)])) rfl rfl (hb hby d1_4) _ ?_
    rw [len_of S2 M2]
    refine XS.aloadN X1.here hx rfl (hb hby d1_5) rfl rfl ?_
    refine st3.trans ?_
    exact kt
  subst hzc
  have pre5 : oP p e below (T3.setTop (mkF m 9 #[.val (.ref oa)] [(.int 0), (.int zl)])) (SS) := pre4
  subst hSS
  obtain ⟨fs, hr, q1, q2, q3, q4⟩ := X3.leave (v := some (.int (zl >>> ((0 : Int32) &&& 31)))) (fun h => by rw [Bd.returns] at h; cases h)
  refine ⟨_, _, pre5 _ ?_, q1, q2, _, _, rfl, ?_, ⟨_, rfl⟩, q3, q4.mono (by decide) (by decide)⟩
  · refine XS.ishr X3.here hx rfl (hb hby d1_9) rfl ?_
    exact retI X3 hx Bd.returns (hb hby d1_10) hr
  · show Q_lg Z _ _ _ _ _ _ _ h0 n0 _ T3.heap _
    rw [e3]
    exact ⟨_, rfl, by have := rng32 zl; have : ((zl >>> ((0 : Int32) &&& 31))).toInt = zl.toInt / 1 := c_ishr zl (0 : Int32) 0 (by decide); omega, N3, rfl⟩
theorem d8_0 : decode kc4 0 = .ok (.iload_n 0, 1) := by decide +kernel
theorem d8_1 : decode kc4 1 = .ok (.ifCond .lt 8, 3) := by decide +kernel
theorem d8_4 : decode kc4 4 = .ok (.iload_n 0, 1) := by decide +kernel
theorem d8_5 : decode kc4 5 = .ok (.iload_n 1, 1) := by decide +kernel
theorem d8_6 : decode kc4 6 = .ok (.if_icmp .lt 10, 3) := by decide +kernel
theorem d8_16 : decode kc4 16 = .ok (.iload_n 0, 1) := by decide +kernel
theorem d8_17 : decode kc4 17 = .ok (.ireturn, 1) := by decide +kernel
theorem pn_2 : plainName "jdk/internal/util/Preconditions" = true := by first | (simp [plainName, overriddenIn]; done) | decide +kernel
theorem ef_rm_pckN (m : MethodId) (x0 : Int32) (x1 : Int32) : entryFrame m #[(.int x0), (.int x1), .null] 3 = mkF m 0 #[.val (.int x0), .val (.int x1), .val .null] [] := by first | (simp [entryFrame, mkF, argsToLocals, Value.category]; done) | rfl
def Q_pckN (Z : State) (vi : Int32) (vn : Int32) (h0 : Heap) (n0 : Nat) (v : Option Value) (h : Heap) (L : List Loc) : Prop := ∃ z : Int32, v = some (.int z) ∧ (True) ∧ Fr n0 L ∧ h = h0
theorem rm_pckN (l : Launch) (Z : State) (a0 : Array Value) (hw : ∀ d ∈ tables_1, d.before a0 Z = true) (ws : List Jvm.Cond) (vi : Int32) (vn : Int32) (h0 : Heap) (n0 : Nat) (Z0 : n0 ≤ h0.size) (i1 : 0 ≤ vi.toInt) (i2 : vi.toInt < vn.toInt) :
    MetFree l yn4 (head1 (Jvm.Cond.code yn4 kc4 3 (some .int) :: ws) ⟨0, 0, 0, 0⟩) (fun a U => a = #[(.int vi), (.int vn), .null] ∧ Z.Warmed39 U.vm ∧ U.heap = h0) (fun _ _ _ _ _ => True) (fun _ U o U' => ∃ v L, o = .returned v ∧ Q_pckN Z vi vn h0 n0 v U'.heap L ∧ FrameEnd U o U' L 0 0) := by
  refine MetFree.of_bodySF (plainFor_of_name pn_2) hisR ?_
  intro p e s m args below meth c s₁ Bd hml0 hP hK
  obtain ⟨rfl, hZ, hh⟩ := hP
  have hx := Bd.exec
  have hby := Bd.bytes
  have hml : c.maxLocals = 3 := hml0
  have hown : s.vm.findClass "jdk/internal/util/Preconditions" = some m.cls := findClass_of_methodNamed Bd.named
  have hnm := (name_of_methodNamed Bd.named Bd.method).1
  have X0 : Stand p l e ⟨0, 0, 0, 0⟩ s m #[(.int vi), (.int vn), .null] below meth c s₁ [] 0 0 := Stand.of_body Bd
  have e0 : s₁.heap = h0 := by rw [← hh, Bd.state]; rfl
  have N0 := Fr.nil n0
  obtain ⟨SS, hSS⟩ : ∃ S, S = s₁.setTop (entryFrame m #[(.int vi), (.int vn), .null] 3) := ⟨_, rfl⟩
  have pre0 : oP p e below (s₁.setTop (mkF m 0 #[.val (.int vi), .val (.int vn), .val .null] [])) (SS) := by
    rw [hSS]; exact fun t k => castTop (ef_rm_pckN m vi vn) k
  have hc1_1 : ¬ (vi.toInt < (0 : Int)) := by omega
  have hc6_2 : vi.toInt < vn.toInt := by omega
  subst hSS
  obtain ⟨fs, hr, q1, q2, q3, q4⟩ := X0.leave (v := some (.int vi)) (fun h => by rw [Bd.returns] at h; cases h)
  refine ⟨_, _, pre0 _ ?_, q1, q2, _, _, rfl, ?_, ⟨_, rfl⟩, q3, q4.mono (by decide) (by decide)⟩
  · refine XS.iloadN X0.here hx rfl (hb hby d8_0) rfl ?_
    refine XS.ifNo X0.here hx rfl (hb hby d8_1) rfl (own_if (own_flt (a := vi) (b := (0 : Int32)) rfl (by decide) hc1_1).1) ?_
    refine XS.iloadN X0.here hx rfl (hb hby d8_4) rfl ?_
    refine XS.iloadN X0.here hx rfl (hb hby d8_5) rfl ?_
    refine XS.icmpYes X0.here hx rfl (pc0 := 6) (pc' := 16) rfl (hb hby d8_6) rfl (own_tlt (a := vi) (b := vn) rfl rfl hc6_2).1 (by decide) (by decide) ?_
    refine XS.iloadN X0.here hx rfl (hb hby d8_16) rfl ?_
    exact retI X0 hx Bd.returns (hb hby d8_17) hr
  · show Q_pckN Z _ _ h0 n0 _ s₁.heap _
    rw [e0]
    exact ⟨_, rfl, trivial, N0, rfl⟩
theorem ef_rm_pckR (m : MethodId) (x0 : Int32) (x1 : Int32) (x2 : Addr) : entryFrame m #[(.int x0), (.int x1), (.ref x2)] 3 = mkF m 0 #[.val (.int x0), .val (.int x1), .val (.ref x2)] [] := by first | (simp [entryFrame, mkF, argsToLocals, Value.category]; done) | rfl
def Q_pckR (Z : State) (vi : Int32) (vn : Int32) (wf : Addr) (h0 : Heap) (n0 : Nat) (v : Option Value) (h : Heap) (L : List Loc) : Prop := ∃ z : Int32, v = some (.int z) ∧ (True) ∧ Fr n0 L ∧ h = h0
theorem rm_pckR (l : Launch) (Z : State) (a0 : Array Value) (hw : ∀ d ∈ tables_1, d.before a0 Z = true) (ws : List Jvm.Cond) (vi : Int32) (vn : Int32) (wf : Addr) (h0 : Heap) (n0 : Nat) (Z0 : n0 ≤ h0.size) (i1 : 0 ≤ vi.toInt) (i2 : vi.toInt < vn.toInt) :
    MetFree l yn4 (head1 (Jvm.Cond.code yn4 kc4 3 (some .int) :: ws) ⟨0, 0, 0, 0⟩) (fun a U => a = #[(.int vi), (.int vn), (.ref wf)] ∧ Z.Warmed39 U.vm ∧ U.heap = h0) (fun _ _ _ _ _ => True) (fun _ U o U' => ∃ v L, o = .returned v ∧ Q_pckR Z vi vn wf h0 n0 v U'.heap L ∧ FrameEnd U o U' L 0 0) := by
  refine MetFree.of_bodySF (plainFor_of_name pn_2) hisR ?_
  intro p e s m args below meth c s₁ Bd hml0 hP hK
  obtain ⟨rfl, hZ, hh⟩ := hP
  have hx := Bd.exec
  have hby := Bd.bytes
  have hml : c.maxLocals = 3 := hml0
  have hown : s.vm.findClass "jdk/internal/util/Preconditions" = some m.cls := findClass_of_methodNamed Bd.named
  have hnm := (name_of_methodNamed Bd.named Bd.method).1
  have X0 : Stand p l e ⟨0, 0, 0, 0⟩ s m #[(.int vi), (.int vn), (.ref wf)] below meth c s₁ [] 0 0 := Stand.of_body Bd
  have e0 : s₁.heap = h0 := by rw [← hh, Bd.state]; rfl
  have N0 := Fr.nil n0
  obtain ⟨SS, hSS⟩ : ∃ S, S = s₁.setTop (entryFrame m #[(.int vi), (.int vn), (.ref wf)] 3) := ⟨_, rfl⟩
  have pre0 : oP p e below (s₁.setTop (mkF m 0 #[.val (.int vi), .val (.int vn), .val (.ref wf)] [])) (SS) := by
    rw [hSS]; exact fun t k => castTop (ef_rm_pckR m vi vn wf) k
  have hc1_1 : ¬ (vi.toInt < (0 : Int)) := by omega
  have hc6_2 : vi.toInt < vn.toInt := by omega
  subst hSS
  obtain ⟨fs, hr, q1, q2, q3, q4⟩ := X0.leave (v := some (.int vi)) (fun h => by rw [Bd.returns] at h; cases h)
  refine ⟨_, _, pre0 _ ?_, q1, q2, _, _, rfl, ?_, ⟨_, rfl⟩, q3, q4.mono (by decide) (by decide)⟩
  · refine XS.iloadN X0.here hx rfl (hb hby d8_0) rfl ?_
    refine XS.ifNo X0.here hx rfl (hb hby d8_1) rfl (own_if (own_flt (a := vi) (b := (0 : Int32)) rfl (by decide) hc1_1).1) ?_
    refine XS.iloadN X0.here hx rfl (hb hby d8_4) rfl ?_
    refine XS.iloadN X0.here hx rfl (hb hby d8_5) rfl ?_
    refine XS.icmpYes X0.here hx rfl (pc0 := 6) (pc' := 16) rfl (hb hby d8_6) rfl (own_tlt (a := vi) (b := vn) rfl rfl hc6_2).1 (by decide) (by decide) ?_
    refine XS.iloadN X0.here hx rfl (hb hby d8_16) rfl ?_
    exact retI X0 hx Bd.returns (hb hby d8_17) hr
  · show Q_pckR Z _ _ _ h0 n0 _ s₁.heap _
    rw [e0]
    exact ⟨_, rfl, trivial, N0, rfl⟩
theorem d7_0 : decode kc5 0 = .ok (.iload_n 0, 1) := by decide +kernel
theorem d7_1 : decode kc5 1 = .ok (.iload_n 1, 1) := by decide +kernel
theorem d7_2 : decode kc5 2 = .ok (.getstatic 1053, 3) := by decide +kernel
theorem d7_5 : decode kc5 5 = .ok (.invokestatic 1059, 3) := by decide +kernel
theorem d7_8 : decode kc5 8 = .ok (.pop, 1) := by decide +kernel
theorem d7_9 : decode kc5 9 = .ok (.return_, 1) := by decide +kernel
theorem ef_rm7 (m : MethodId) (x0 : Int32) (x1 : Int32) : entryFrame m #[(.int x0), (.int x1)] 2 = mkF m 0 #[.val (.int x0), .val (.int x1)] [] := by first | (simp [entryFrame, mkF, argsToLocals, Value.category]; done) | rfl
theorem pd_2 : parseMethodDescriptor "(IILjava/util/function/BiFunction;)I" = some ⟨[.int, .int, (.object "java/util/function/BiFunction")], some .int⟩ := by decide +kernel
def Q7 (Z : State) (vi : Int32) (vn : Int32) (vcs : Int32) (vf : Value) (h0 : Heap) (n0 : Nat) (v : Option Value) (h : Heap) (L : List Loc) : Prop := v = none ∧ Fr n0 L ∧ h = h0
theorem rm7 (l : Launch) (Z : State) (a0 : Array Value) (hw : ∀ d ∈ tables_1, d.before a0 Z = true) (ws : List Jvm.Cond) (vi : Int32) (vn : Int32) (vcs : Int32) (vf : Value) (h0 : Heap) (n0 : Nat) (Z0 : n0 ≤ h0.size) (Os : own_st Z h0 vcs vf) (i1 : 0 ≤ vi.toInt) (i2 : vi.toInt < vn.toInt) :
    MetFree l yn5 (head1 (Jvm.Cond.code yn5 kc5 2 none :: ws) ⟨1, 0, 0, 14⟩) (fun a U => a = #[(.int vi), (.int vn)] ∧ Z.Warmed39 U.vm ∧ U.heap = h0) (fun _ _ _ _ _ => True) (fun _ U o U' => ∃ v L, o = .returned v ∧ Q7 Z vi vn vcs vf h0 n0 v U'.heap L ∧ FrameEnd U o U' L 0 0) := by
  refine MetFree.of_bodySF (plainFor_of_name pn_1) hisR ?_
  intro p e s m args below meth c s₁ Bd hml0 hP hK
  obtain ⟨rfl, hZ, hh⟩ := hP
  have hx := Bd.exec
  have hby := Bd.bytes
  have hml : c.maxLocals = 2 := hml0
  have hown : s.vm.findClass "java/lang/String" = some m.cls := findClass_of_methodNamed Bd.named
  have hnm := (name_of_methodNamed Bd.named Bd.method).1
  have X0 : Stand p l e ⟨1, 0, 0, 14⟩ s m #[(.int vi), (.int vn)] below meth c s₁ [] 0 0 := Stand.of_body Bd
  have e0 : s₁.heap = h0 := by rw [← hh, Bd.state]; rfl
  have N0 := Fr.nil n0
  obtain ⟨SS, hSS⟩ : ∃ S, S = s₁.setTop (entryFrame m #[(.int vi), (.int vn)] 2) := ⟨_, rfl⟩
  have pre0 : oP p e below (s₁.setTop (mkF m 0 #[.val (.int vi), .val (.int vn)] [])) (SS) := by
    rw [hSS]; exact fun t k => castTop (ef_rm7 m vi vn) k
  obtain ⟨T1, X1, e1, st1⟩ := getS2 X0 hx hZ hown (host := "") (Or.inl (ow hw 42 rfl)) Via.refl e0 Os.2.2.1 (g := (mkF m 2 #[.val (.int vi), .val (.int vn)] [(.int vn), (.int vi)])) rfl (hb hby d7_2)
  have pre2 : oP p e below (T1.setTop (mkF m 5 #[.val (.int vi), .val (.int vn)] [vf, (.int vn), (.int vi)])) (SS) := fun t kt => by
    refine pre0 _ ?_
    refine XS.iloadN X0.here hx rfl (hb hby d7_0) rfl ?_
    refine XS.iloadN X0.here hx rfl (hb hby d7_1) rfl ?_
    refine st1 _ ?_
    exact kt
  rcases ref_cases (Os.2.2.2) with rfl | ⟨wf, rfl⟩
  · have pre3 : oP p e below (T1.setTop (mkF m 5 #[.val (.int vi), .val (.int vn)] [.null, (.int vn), (.int vi)])) (SS) := pre2
    obtain ⟨_, _, ⟨T4, L4, k4, n4⟩, -, X4, ⟨Lc4, hQ4, l4, y4, z4⟩, st4⟩ := Jvm.LawKit.callS X1 hx (y := yn4) hown (mvT hZ (ow hw 44 rfl)) (mvT hZ (ow hw 45 rfl)) (mvT hZ (ow hw 43 rfl)) (mvT hZ (ow hw 46 rfl)) (by decide) (backOf (W := 0) (rm_pckN l Z a0 hw [] vi vn h0 n0 Z0 i1 i2) hZ (ow hw 46 rfl) (ow hw 43 rfl) (by decide) (by decide)) (g := (mkF m 5 #[.val (.int vi), .val (.int vn)] [.null, (.int vn), (.int vi)])) rfl (by rw [hml]; rfl) (argsL := [(.int vi), (.int vn), .null]) (rest := []) (lenOf pd_2 rfl) rfl (by exact Nat.le_of_eq rfl) (hb hby d7_5) (fun _ _ => ⟨rfl, e1, (by decide : 0 + 0 ≤ _), (by decide : 0 + 0 ≤ _)⟩)
    dsimp only [Pt.U, Pt.locs, Pt.cells, Pt.slots] at X4 l4 y4 z4 st4 hQ4
    rw [l4, y4, z4] at X4
    obtain ⟨zk, rfl, hzk, N4q, e4⟩ := hQ4
    have N4 := Fr.app N0 N4q
    subst hSS
    obtain ⟨fs, hr, q1, q2, q3, q4⟩ := X4.leave (v := none) (fun _ => rfl)
    refine ⟨_, _, pre3 _ ?_, q1, q2, _, _, rfl, ?_, ⟨_, rfl⟩, q3, q4.mono (by decide) (by decide)⟩
    · refine st4 _ ?_
      refine XS.pop X4.here hx rfl (hb hby d7_8) rfl rfl ?_
      exact X4.returnOut hx Bd.returns (hb hby d7_9) hr
    · show Q7 Z _ _ _ _ h0 n0 _ T4.heap _
      rw [e4]
      exact ⟨rfl, N4, rfl⟩
  · have pre5 : oP p e below (T1.setTop (mkF m 5 #[.val (.int vi), .val (.int vn)] [(.ref wf), (.int vn), (.int vi)])) (SS) := pre2
    obtain ⟨_, _, ⟨T6, L6, k6, n6⟩, -, X6, ⟨Lc6, hQ6, l6, y6, z6⟩, st6⟩ := Jvm.LawKit.callS X1 hx (y := yn4) hown (mvT hZ (ow hw 44 rfl)) (mvT hZ (ow hw 45 rfl)) (mvT hZ (ow hw 43 rfl)) (mvT hZ (ow hw 46 rfl)) (by decide) (backOf (W := 0) (rm_pckR l Z a0 hw [] vi vn wf h0 n0 Z0 i1 i2) hZ (ow hw 46 rfl) (ow hw 43 rfl) (by decide) (by decide)) (g := (mkF m 5 #[.val (.int vi), .val (.int vn)] [(.ref wf), (.int vn), (.int vi)])) rfl (by rw [hml]; rfl) (argsL := [(.int vi), (.int vn), (.ref wf)]) (rest := []) (lenOf pd_2 rfl) rfl (by exact Nat.le_of_eq rfl) (hb hby d7_5) (fun _ _ => ⟨rfl, e1, (by decide : 0 + 0 ≤ _), (by decide : 0 + 0 ≤ _)⟩)
    dsimp only [Pt.U, Pt.locs, Pt.cells, Pt.slots] at X6 l6 y6 z6 st6 hQ6
    rw [l6, y6, z6] at X6
    obtain ⟨zk, rfl, hzk, N6q, e6⟩ := hQ6
    have N6 := Fr.app N0 N6q
    subst hSS
    obtain ⟨fs, hr, q1, q2, q3, q4⟩ := X6.leave (v := none) (fun _ => rfl)
    refine ⟨_, _, pre5 _ ?_, q1, q2, _, _, rfl, ?_, ⟨_, rfl⟩, q3, q4.mono (by decide) (by decide)⟩
    · refine st6 _ ?_
      refine XS.pop X6.here hx rfl (hb hby d7_8) rfl rfl ?_
      exact X6.returnOut hx Bd.returns (hb hby d7_9) hr
    · show Q7 Z _ _ _ _ h0 n0 _ T6.heap _
      rw [e6]
      exact ⟨rfl, N6, rfl⟩
theorem d5_0 : decode kc6 0 = .ok (.getstatic 38, 3) := by decide +kernel
theorem d5_3 : decode kc6 3 = .ok (.ifCond .eq 14, 3) := by decide +kernel
theorem d5_6 : decode kc6 6 = .ok (.aload_n 0, 1) := by decide +kernel
theorem d5_7 : decode kc6 7 = .ok (.getfield 15, 3) := by decide +kernel
theorem d5_10 : decode kc6 10 = .ok (.ifCond .ne 7, 3) := by decide +kernel
theorem d5_13 : decode kc6 13 = .ok (.iconst 1, 1) := by decide +kernel
theorem d5_14 : decode kc6 14 = .ok (.goto 4, 3) := by decide +kernel
theorem d5_18 : decode kc6 18 = .ok (.ireturn, 1) := by decide +kernel
theorem ef_rm_lat0 (m : MethodId) (x0 : Addr) : entryFrame m #[(.ref x0)] 1 = mkF m 0 #[.val (.ref x0)] [] := by first | (simp [entryFrame, mkF, argsToLocals, Value.category]; done) | rfl
def Q_lat0 (Z : State) (oa : Addr) (vcs : Int32) (vf : Value) (h0 : Heap) (n0 : Nat) (v : Option Value) (h : Heap) (L : List Loc) : Prop := ∃ z : Int32, v = some (.int z) ∧ (z = (1 : Int32)) ∧ Fr n0 L ∧ h = h0
theorem rm_lat0 (l : Launch) (Z : State) (a0 : Array Value) (hw : ∀ d ∈ tables_1, d.before a0 Z = true) (ws : List Jvm.Cond) (oa : Addr) (vcs : Int32) (vf : Value) (h0 : Heap) (n0 : Nat) (Z0 : n0 ≤ h0.size) (Os : own_st Z h0 vcs vf) (Fc : Fld Z h0 oa "java/lang/String" "coder" "B" (.int 0)) :
    MetFree l yn6 (head1 (Jvm.Cond.code yn6 kc6 1 (some .boolean) :: ws) ⟨0, 0, 0, 0⟩) (fun a U => a = #[(.ref oa)] ∧ Z.Warmed39 U.vm ∧ U.heap = h0) (fun _ _ _ _ _ => True) (fun _ U o U' => ∃ v L, o = .returned v ∧ Q_lat0 Z oa vcs vf h0 n0 v U'.heap L ∧ FrameEnd U o U' L 0 0) := by
  refine MetFree.of_bodySF (plainFor_of_name pn_1) hisR ?_
  intro p e s m args below meth c s₁ Bd hml0 hP hK
  obtain ⟨rfl, hZ, hh⟩ := hP
  have hx := Bd.exec
  have hby := Bd.bytes
  have hml : c.maxLocals = 1 := hml0
  have hown : s.vm.findClass "java/lang/String" = some m.cls := findClass_of_methodNamed Bd.named
  have hnm := (name_of_methodNamed Bd.named Bd.method).1
  have X0 : Stand p l e ⟨0, 0, 0, 0⟩ s m #[(.ref oa)] below meth c s₁ [] 0 0 := Stand.of_body Bd
  have e0 : s₁.heap = h0 := by rw [← hh, Bd.state]; rfl
  have N0 := Fr.nil n0
  obtain ⟨SS, hSS⟩ : ∃ S, S = s₁.setTop (entryFrame m #[(.ref oa)] 1) := ⟨_, rfl⟩
  have pre0 : oP p e below (s₁.setTop (mkF m 0 #[.val (.ref oa)] [])) (SS) := by
    rw [hSS]; exact fun t k => castTop (ef_rm_lat0 m oa) k
  obtain ⟨T1, X1, e1, st1⟩ := getS2 X0 hx hZ hown (host := "") (Or.inl (ow hw 19 rfl)) Via.refl e0 Os.1 (g := (mkF m 0 #[.val (.ref oa)] [])) rfl (hb hby d5_0)
  have hc3_2 : ¬ (vcs.toInt = (0 : Int)) := by (have q := Os.2.1; omega)
  obtain ⟨T3, X3, e3, st3⟩ := getF X1 hx hZ hown (host := "") (Or.inl (ow hw 20 rfl)) Via.refl e1 Fc (g := (mkF m 7 #[.val (.ref oa)] [(.ref oa)])) rfl rfl (hb hby d5_7)
  have hc10_4 : (0 : Int) = (0 : Int) := by decide
  subst hSS
  obtain ⟨fs, hr, q1, q2, q3, q4⟩ := X3.leave (v := some (.int 1)) (fun h => by rw [Bd.returns] at h; cases h)
  refine ⟨_, _, pre0 _ ?_, q1, q2, _, _, rfl, ?_, ⟨_, rfl⟩, q3, q4.mono (by decide) (by decide)⟩
  · refine st1 _ ?_
    refine XS.ifNo X1.here hx rfl (hb hby d5_3) rfl (own_if (own_feq (a := vcs) (b := (0 : Int32)) rfl (by decide) hc3_2).1) ?_
    refine XS.aloadN X1.here hx rfl (hb hby d5_6) rfl rfl ?_
    refine st3 _ ?_
    refine XS.ifNo X3.here hx rfl (hb hby d5_10) rfl (own_if (own_teq (a := (0 : Int32)) (b := (0 : Int32)) (by decide) (by decide) hc10_4).2) ?_
    refine XS.iconst X3.here hx rfl (hb hby d5_13) ?_
    refine XS.goto X3.here hx rfl (pc0 := 14) (pc' := 18) rfl (hb hby d5_14) (by decide) (by decide) ?_
    exact retN X3 hx (t := .boolean) Bd.returns (by simp) (hb hby d5_18) hr
  · show Q_lat0 Z _ _ _ h0 n0 _ T3.heap _
    rw [e3]
    exact ⟨_, rfl, rfl, N0, rfl⟩
theorem d6_0 : decode kc7 0 = .ok (.iload_n 1, 1) := by decide +kernel
theorem d6_1 : decode kc7 1 = .ok (.aload_n 0, 1) := by decide +kernel
theorem d6_2 : decode kc7 2 = .ok (.arraylength, 1) := by decide +kernel
theorem d6_3 : decode kc7 3 = .ok (.invokestatic 9, 3) := by decide +kernel
theorem d6_6 : decode kc7 6 = .ok (.aload_n 0, 1) := by decide +kernel
theorem d6_7 : decode kc7 7 = .ok (.iload_n 1, 1) := by decide +kernel
theorem d6_8 : decode kc7 8 = .ok (.baload, 1) := by decide +kernel
theorem d6_9 : decode kc7 9 = .ok (.sipush 255, 3) := by decide +kernel
theorem d6_12 : decode kc7 12 = .ok (.iand, 1) := by decide +kernel
theorem d6_13 : decode kc7 13 = .ok (.i2c, 1) := by decide +kernel
theorem d6_14 : decode kc7 14 = .ok (.ireturn, 1) := by decide +kernel
theorem ef_rm_l1ch (m : MethodId) (x0 : Addr) (x1 : Int32) : entryFrame m #[(.ref x0), (.int x1)] 2 = mkF m 0 #[.val (.ref x0), .val (.int x1)] [] := by first | (simp [entryFrame, mkF, argsToLocals, Value.category]; done) | rfl
theorem pd_3 : parseMethodDescriptor "(II)V" = some ⟨[.int, .int], none⟩ := by decide +kernel
def Q_l1ch (Z : State) (ob : Addr) (vi : Int32) (vcs : Int32) (vf : Value) (kb : ClassId) (zl : Int32) (vs : List Value) (b : Int32) (h0 : Heap) (n0 : Nat) (v : Option Value) (h : Heap) (L : List Loc) : Prop := ∃ z : Int32, v = some (.int z) ∧ (z.toInt = b.toInt % 256) ∧ Fr n0 L ∧ h = h0
theorem rm_l1ch (l : Launch) (Z : State) (a0 : Array Value) (hw : ∀ d ∈ tables_1, d.before a0 Z = true) (ws : List Jvm.Cond) (ob : Addr) (vi : Int32) (vcs : Int32) (vf : Value) (kb : ClassId) (zl : Int32) (vs : List Value) (b : Int32) (h0 : Heap) (n0 : Nat) (Z0 : n0 ≤ h0.size) (Os : own_st Z h0 vcs vf) (Vb : Arv Z h0 ob kb .byte zl vs (.int 0)) (i1 : 0 ≤ vi.toInt) (i2 : vi.toInt < zl.toInt) (gb : vs.getD vi.toNatClampNeg (.int 0) = .int b) :
    MetFree l yn7 (head1 (Jvm.Cond.code yn7 kc7 2 (some .char) :: ws) ⟨2, 0, 0, 27⟩) (fun a U => a = #[(.ref ob), (.int vi)] ∧ Z.Warmed39 U.vm ∧ U.heap = h0) (fun _ _ _ _ _ => True) (fun _ U o U' => ∃ v L, o = .returned v ∧ Q_l1ch Z ob vi vcs vf kb zl vs b h0 n0 v U'.heap L ∧ FrameEnd U o U' L 0 0) := by
  refine MetFree.of_bodySF (plainFor_of_name pn_0) hisR ?_
  intro p e s m args below meth c s₁ Bd hml0 hP hK
  obtain ⟨rfl, hZ, hh⟩ := hP
  have hx := Bd.exec
  have hby := Bd.bytes
  have hml : c.maxLocals = 2 := hml0
  have hown : s.vm.findClass "java/lang/StringLatin1" = some m.cls := findClass_of_methodNamed Bd.named
  have hnm := (name_of_methodNamed Bd.named Bd.method).1
  have X0 : Stand p l e ⟨2, 0, 0, 27⟩ s m #[(.ref ob), (.int vi)] below meth c s₁ [] 0 0 := Stand.of_body Bd
  have e0 : s₁.heap = h0 := by rw [← hh, Bd.state]; rfl
  have N0 := Fr.nil n0
  obtain ⟨SS, hSS⟩ : ∃ S, S = s₁.setTop (entryFrame m #[(.ref ob), (.int vi)] 2) := ⟨_, rfl⟩
  have pre0 : oP p e below (s₁.setTop (mkF m 0 #[.val (.ref ob), .val (.int vi)] [])) (SS) := by
    rw [hSS]; exact fun t k => castTop (ef_rm_l1ch m ob vi) k
  obtain ⟨cl1, Ar1, q1, S1, M1, H1, G1⟩ := id Vb
  obtain ⟨_, _, ⟨T2, L2, k2, n2⟩, -, X2, ⟨Lc2, hQ2, l2, y2, z2⟩, st2⟩ := Jvm.LawKit.callS X0 hx (y := yn5) hown (mvT hZ (ow hw 39 rfl)) (mvT hZ (ow hw 40 rfl)) (mvT hZ (ow hw 1 rfl)) (mvT hZ (ow hw 41 rfl)) (by decide) (backOf (W := 0) (rm7 l Z a0 hw [] vi zl vcs vf h0 n0 Z0 Os i1 i2) hZ (ow hw 41 rfl) (ow hw 1 rfl) (by decide) (by decide)) (g := (mkF m 3 #[.val (.ref ob), .val (.int vi)] [(.int zl), (.int vi)])) rfl (by rw [hml]; rfl) (argsL := [(.int vi), (.int zl)]) (rest := []) (lenOf pd_3 rfl) rfl (by exact Nat.le_of_eq rfl) (hb hby d6_3) (fun _ _ => ⟨rfl, e0, (by decide : 0 + 0 ≤ _), (by decide : 0 + 0 ≤ _)⟩)
  dsimp only [Pt.U, Pt.locs, Pt.cells, Pt.slots] at X2 l2 y2 z2 st2 hQ2
  rw [l2, y2, z2] at X2
  obtain ⟨rfl, N2q, e2⟩ := hQ2
  have N2 := Fr.app N0 N2q
  obtain ⟨cl3, Ar3, q3, S3, M3, H3, G3⟩ := id Vb
  have hin3 : ¬ (vi < 0 ∨ cl3.slots.size ≤ (vi).toNatClampNeg) := inb_of S3 ⟨by rw [Int32.lt_iff_toInt_lt]; have k0 : (0 : Int32).toInt = 0 := (by decide); omega, by rw [Int32.lt_iff_toInt_lt]; omega⟩
  have hat3 : cl3.slots[(vi).toNatClampNeg]? = some (.int b) := Has.at H3 hin3 gb
  subst hSS
  obtain ⟨fs, hr, q1, q2, q3, q4⟩ := X2.leave (v := some (.int (nar .char ((b &&& (255 : Int32)).toUInt32.toUInt16.toUInt32.toInt32)))) (fun h => by rw [Bd.returns] at h; cases h)
  refine ⟨_, _, pre0 _ ?_, q1, q2, _, _, rfl, ?_, ⟨_, rfl⟩, q3, q4.mono (by decide) (by decide)⟩
  · refine XS.iloadN X0.here hx rfl (hb hby d6_0) rfl ?_
    refine XS.aloadN X0.here hx rfl (hb hby d6_1) rfl rfl ?_
    refine X0.arraylength hx (by rw [e0]; exact Ar1.1) (State.isArrayOf_alike hZ.alike Ar1.2.1) (g := (mkF m 2 #[.val (.ref ob), .val (.int vi)] [(.ref ob), (.int vi)])) rfl rfl (hb hby d6_2) _ ?_
    rw [len_of S1 M1]
    refine st2 _ ?_
    refine XS.aloadN X2.here hx rfl (hb hby d6_6) rfl rfl ?_
    refine XS.iloadN X2.here hx rfl (hb hby d6_7) rfl ?_
    refine X2.baloadBytes hx (j := vi) (v := (.int b)) (by rw [e2]; exact Ar3.1) (State.isArrayOf_alike hZ.alike Ar3.2.1) Ar3.2.2 hin3 hat3 (g := (mkF m 8 #[.val (.ref ob), .val (.int vi)] [(.int vi), (.ref ob)])) rfl rfl (hb hby d6_8) _ ?_
    refine XS.sipush X2.here hx rfl (hb hby d6_9) ?_
    refine XS.iand X2.here hx rfl (hb hby d6_12) rfl ?_
    refine XS.i2c X2.here hx rfl (hb hby d6_13) rfl ?_
    exact retN X2 hx (t := .char) Bd.returns (by simp) (hb hby d6_14) hr
  · show Q_l1ch Z _ _ _ _ _ _ _ _ h0 n0 _ T2.heap _
    rw [e2]
    exact ⟨_, rfl, by rw [own_narcZ]; have := rng32 b; have : ((b &&& (255 : Int32))).toInt = b.toInt % 256 := c_mask b (255 : Int32) 8 (by decide) (by decide); (first | (have : (((b &&& (255 : Int32)).toUInt32.toUInt16.toUInt32.toInt32)).toInt = (b &&& (255 : Int32)).toInt := (by have := c_i2c (b &&& (255 : Int32)); omega)) | (have := c_i2c (b &&& (255 : Int32)))); omega, N2, rfl⟩
theorem d4_0 : decode kc8 0 = .ok (.aload_n 0, 1) := by decide +kernel
theorem d4_1 : decode kc8 1 = .ok (.invokevirtual 492, 3) := by decide +kernel
theorem d4_4 : decode kc8 4 = .ok (.ifCond .eq 12, 3) := by decide +kernel
theorem d4_7 : decode kc8 7 = .ok (.aload_n 0, 1) := by decide +kernel
theorem d4_8 : decode kc8 8 = .ok (.getfield 9, 3) := by decide +kernel
theorem d4_11 : decode kc8 11 = .ok (.iload_n 1, 1) := by decide +kernel
theorem d4_12 : decode kc8 12 = .ok (.invokestatic 495, 3) := by decide +kernel
theorem d4_15 : decode kc8 15 = .ok (.ireturn, 1) := by decide +kernel
theorem ef_rm_ch1 (m : MethodId) (x0 : Addr) (x1 : Int32) : entryFrame m #[(.ref x0), (.int x1)] 2 = mkF m 0 #[.val (.ref x0), .val (.int x1)] [] := by first | (simp [entryFrame, mkF, argsToLocals, Value.category]; done) | rfl
theorem pd_4 : parseMethodDescriptor "()Z" = some ⟨[], some .boolean⟩ := by decide +kernel
theorem pd_5 : parseMethodDescriptor "([BI)C" = some ⟨[(.array .byte), .int], some .char⟩ := by decide +kernel
def Q_ch1 (Z : State) (oa : Addr) (vi : Int32) (vcs : Int32) (vf : Value) (ob : Addr) (kb : ClassId) (zl : Int32) (vs : List Value) (b : Int32) (h0 : Heap) (n0 : Nat) (v : Option Value) (h : Heap) (L : List Loc) : Prop := ∃ z : Int32, v = some (.int z) ∧ (z.toInt = b.toInt % 256) ∧ Fr n0 L ∧ h = h0
theorem rm_ch1 (l : Launch) (Z : State) (a0 : Array Value) (hw : ∀ d ∈ tables_1, d.before a0 Z = true) (ws : List Jvm.Cond) (oa : Addr) (vi : Int32) (vcs : Int32) (vf : Value) (ob : Addr) (kb : ClassId) (zl : Int32) (vs : List Value) (b : Int32) (h0 : Heap) (n0 : Nat) (Z0 : n0 ≤ h0.size) (Os : own_st Z h0 vcs vf) (Es : Exa Z h0 oa "java/lang/String") (Fc : Fld Z h0 oa "java/lang/String" "coder" "B" (.int 0)) (Fv : Fld Z h0 oa "java/lang/String" "value" "[B" (.ref ob)) (Vb : Arv Z h0 ob kb .byte zl vs (.int 0)) (i1 : 0 ≤ vi.toInt) (i2 : vi.toInt < zl.toInt) (gb : vs.getD vi.toNatClampNeg (.int 0) = .int b) :
    MetFree l yn8 (head1 (Jvm.Cond.code yn8 kc8 2 (some .char) :: ws) ⟨3, 0, 0, 40⟩) (fun a U => a = #[(.ref oa), (.int vi)] ∧ Z.Warmed39 U.vm ∧ U.heap = h0) (fun _ _ _ _ _ => True) (fun _ U o U' => ∃ v L, o = .returned v ∧ Q_ch1 Z oa vi vcs vf ob kb zl vs b h0 n0 v U'.heap L ∧ FrameEnd U o U' L 0 0) := by
  refine MetFree.of_bodySF (plainFor_of_name pn_1) hisR ?_
  intro p e s m args below meth c s₁ Bd hml0 hP hK
  obtain ⟨rfl, hZ, hh⟩ := hP
  have hx := Bd.exec
  have hby := Bd.bytes
  have hml : c.maxLocals = 2 := hml0
  have hown : s.vm.findClass "java/lang/String" = some m.cls := findClass_of_methodNamed Bd.named
  have hnm := (name_of_methodNamed Bd.named Bd.method).1
  have X0 : Stand p l e ⟨3, 0, 0, 40⟩ s m #[(.ref oa), (.int vi)] below meth c s₁ [] 0 0 := Stand.of_body Bd
  have e0 : s₁.heap = h0 := by rw [← hh, Bd.state]; rfl
  have N0 := Fr.nil n0
  obtain ⟨SS, hSS⟩ : ∃ S, S = s₁.setTop (entryFrame m #[(.ref oa), (.int vi)] 2) := ⟨_, rfl⟩
  have pre0 : oP p e below (s₁.setTop (mkF m 0 #[.val (.ref oa), .val (.int vi)] [])) (SS) := by
    rw [hSS]; exact fun t k => castTop (ef_rm_ch1 m oa vi) k
  obtain ⟨cq1, kq1, q1a, q1b, q1c⟩ := isOf hZ e0 Es
  obtain ⟨_, _, ⟨T1, L1, k1, n1⟩, -, X1, ⟨Lc1, hQ1, l1, y1, z1⟩, st1⟩ := X0.virtualBack hx (y := yn6) (z := yn6) hown (mvT hZ (ow hw 30 rfl)) (mvT hZ (ow hw 31 rfl)) (notFace_of_selects (args := #[]) (mvT hZ (ow hw 33 rfl))) (mvT hZ (ow hw 33 rfl)) (mvT hZ (ow hw 32 rfl)) (by decide) (backOf (W := 0) (rm_lat0 l Z a0 hw [] oa vcs vf h0 n0 Z0 Os Fc) hZ (ow hw 34 rfl) (ow hw 1 rfl) (by decide) (by decide)) q1a q1c (g := (mkF m 1 #[.val (.ref oa), .val (.int vi)] [(.ref oa)])) rfl (by rw [hml]; rfl) (Steps.refl _) (argsL := []) (rest := []) (lenOf pd_4 rfl) rfl (by exact Nat.le_of_eq rfl) (hb hby d4_1) (fun _ _ => ⟨rfl, e0, (by decide : 0 + 0 ≤ _), (by decide : 0 + 0 ≤ _)⟩)
  dsimp only [Pt.U, Pt.locs, Pt.cells, Pt.slots] at X1 l1 y1 z1 st1 hQ1
  rw [l1, y1, z1] at X1
  obtain ⟨zl1, rfl, hzl1, N1q, e1⟩ := hQ1
  have N1 := Fr.app N0 N1q
  have pre2 : oP p e below (T1.setTop (mkF m 4 #[.val (.ref oa), .val (.int vi)] [(.int zl1)])) (SS) := fun t kt => by
    refine pre0 _ ?_
    refine XS.aloadN X0.here hx rfl (hb hby d4_0) rfl rfl ?_
    refine st1.trans ?_
    exact kt
  subst hzl1
  have pre3 : oP p e below (T1.setTop (mkF m 4 #[.val (.ref oa), .val (.int vi)] [(.int 1)])) (SS) := pre2
  have hc4_4 : ¬ ((1 : Int) = (0 : Int)) := by decide
  obtain ⟨T5, X5, e5, st5⟩ := getF X1 hx hZ hown (host := "") (Or.inl (ow hw 13 rfl)) Via.refl e1 Fv (g := (mkF m 8 #[.val (.ref oa), .val (.int vi)] [(.ref oa)])) rfl rfl (hb hby d4_8)
  obtain ⟨_, _, ⟨T6, L6, k6, n6⟩, -, X6, ⟨Lc6, hQ6, l6, y6, z6⟩, st6⟩ := Jvm.LawKit.callS X5 hx (y := yn7) hown (mvT hZ (ow hw 35 rfl)) (mvT hZ (ow hw 36 rfl)) (mvT hZ (ow hw 37 rfl)) (mvT hZ (ow hw 38 rfl)) (by decide) (backOf (W := 0) (rm_l1ch l Z a0 hw [] ob vi vcs vf kb zl vs b h0 n0 Z0 Os Vb i1 i2 gb) hZ (ow hw 38 rfl) (ow hw 37 rfl) (by decide) (by decide)) (g := (mkF m 12 #[.val (.ref oa), .val (.int vi)] [(.int vi), (.ref ob)])) rfl (by rw [hml]; rfl) (argsL := [(.ref ob), (.int vi)]) (rest := []) (lenOf pd_5 rfl) rfl (by exact Nat.le_of_eq rfl) (hb hby d4_12) (fun _ _ => ⟨rfl, e5, (by decide : 0 + 0 ≤ _), (by decide : 0 + 0 ≤ _)⟩)
  dsimp only [Pt.U, Pt.locs, Pt.cells, Pt.slots] at X6 l6 y6 z6 st6 hQ6
  rw [l6, y6, z6] at X6
  obtain ⟨zr, rfl, hzr, N6q, e6⟩ := hQ6
  have N6 := Fr.app N1 N6q
  subst hSS
  obtain ⟨fs, hr, q1, q2, q3, q4⟩ := X6.leave (v := some (.int (nar .char zr))) (fun h => by rw [Bd.returns] at h; cases h)
  refine ⟨_, _, pre3 _ ?_, q1, q2, _, _, rfl, ?_, ⟨_, rfl⟩, q3, q4.mono (by decide) (by decide)⟩
  · refine XS.ifNo X1.here hx rfl (hb hby d4_4) rfl (own_if (own_feq (a := (1 : Int32)) (b := (0 : Int32)) (by decide) (by decide) hc4_4).1) ?_
    refine XS.aloadN X1.here hx rfl (hb hby d4_7) rfl rfl ?_
    refine st5 _ ?_
    refine XS.iloadN X5.here hx rfl (hb hby d4_11) rfl ?_
    refine st6 _ ?_
    exact retN X6 hx (t := .char) Bd.returns (by simp) (hb hby d4_15) hr
  · show Q_ch1 Z _ _ _ _ _ _ _ _ _ h0 n0 _ T6.heap _
    rw [e6]
    exact ⟨_, rfl, by rw [own_narcZ, hzr]; omega, N6, rfl⟩
theorem d9_0 : decode kc9 0 = .ok (.iload_n 0, 1) := by decide +kernel
theorem d9_1 : decode kc9 1 = .ok (.iconst 4, 1) := by decide +kernel
theorem d9_2 : decode kc9 2 = .ok (.if_icmp .ge 15, 3) := by decide +kernel
theorem d9_5 : decode kc9 5 = .ok (.iload_n 1, 1) := by decide +kernel
theorem d9_6 : decode kc9 6 = .ok (.bipush 8, 2) := by decide +kernel
theorem d9_8 : decode kc9 8 = .ok (.iload_n 0, 1) := by decide +kernel
theorem d9_9 : decode kc9 9 = .ok (.imul, 1) := by decide +kernel
theorem d9_10 : decode kc9 10 = .ok (.iushr, 1) := by decide +kernel
theorem d9_11 : decode kc9 11 = .ok (.sipush 255, 3) := by decide +kernel
theorem d9_14 : decode kc9 14 = .ok (.iand, 1) := by decide +kernel
theorem d9_15 : decode kc9 15 = .ok (.i2c, 1) := by decide +kernel
theorem d9_16 : decode kc9 16 = .ok (.ireturn, 1) := by decide +kernel
theorem d9_17 : decode kc9 17 = .ok (.iload_n 2, 1) := by decide +kernel
theorem d9_18 : decode kc9 18 = .ok (.bipush 8, 2) := by decide +kernel
theorem d9_20 : decode kc9 20 = .ok (.iload_n 0, 1) := by decide +kernel
theorem d9_21 : decode kc9 21 = .ok (.iconst 4, 1) := by decide +kernel
theorem d9_22 : decode kc9 22 = .ok (.isub, 1) := by decide +kernel
theorem d9_23 : decode kc9 23 = .ok (.imul, 1) := by decide +kernel
theorem d9_24 : decode kc9 24 = .ok (.iushr, 1) := by decide +kernel
theorem d9_25 : decode kc9 25 = .ok (.sipush 255, 3) := by decide +kernel
theorem d9_28 : decode kc9 28 = .ok (.iand, 1) := by decide +kernel
theorem d9_29 : decode kc9 29 = .ok (.i2c, 1) := by decide +kernel
theorem d9_30 : decode kc9 30 = .ok (.ireturn, 1) := by decide +kernel
theorem pn_3 : plainName "com/example/attestbridge/attestbridge/sync/PermissionNamedPinLaw" = true := by first | (simp [plainName, overriddenIn]; done) | decide +kernel
theorem ef_rm9 (m : MethodId) (x0 : Int32) (x1 : Int32) (x2 : Int32) : entryFrame m #[(.int x0), (.int x1), (.int x2)] 3 = mkF m 0 #[.val (.int x0), .val (.int x1), .val (.int x2)] [] := by first | (simp [entryFrame, mkF, argsToLocals, Value.category]; done) | rfl
def Q9 (Z : State) (vi : Int32) (va : Int32) (vb : Int32) (h0 : Heap) (n0 : Nat) (v : Option Value) (h : Heap) (L : List Loc) : Prop := ∃ z : Int32, v = some (.int z) ∧ (0 ≤ z.toInt ∧ z.toInt ≤ 255) ∧ Fr n0 L ∧ h = h0
theorem rm9 (l : Launch) (Z : State) (a0 : Array Value) (hw : ∀ d ∈ tables_1, d.before a0 Z = true) (ws : List Jvm.Cond) (vi : Int32) (va : Int32) (vb : Int32) (h0 : Heap) (n0 : Nat) (Z0 : n0 ≤ h0.size) :
    MetFree l yn9 (head1 (Jvm.Cond.code yn9 kc9 3 (some .char) :: ws) ⟨0, 0, 0, 0⟩) (fun a U => a = #[(.int vi), (.int va), (.int vb)] ∧ Z.Warmed39 U.vm ∧ U.heap = h0) (fun _ _ _ _ _ => True) (fun _ U o U' => ∃ v L, o = .returned v ∧ Q9 Z vi va vb h0 n0 v U'.heap L ∧ FrameEnd U o U' L 0 0) := by
  refine MetFree.of_bodySF (plainFor_of_name pn_3) hisR ?_
  intro p e s m args below meth c s₁ Bd hml0 hP hK
  obtain ⟨rfl, hZ, hh⟩ := hP
  have hx := Bd.exec
  have hby := Bd.bytes
  have hml : c.maxLocals = 3 := hml0
  have hown : s.vm.findClass "com/example/attestbridge/attestbridge/sync/PermissionNamedPinLaw" = some m.cls := findClass_of_methodNamed Bd.named
  have hnm := (name_of_methodNamed Bd.named Bd.method).1
  have X0 : Stand p l e ⟨0, 0, 0, 0⟩ s m #[(.int vi), (.int va), (.int vb)] below meth c s₁ [] 0 0 := Stand.of_body Bd
  have e0 : s₁.heap = h0 := by rw [← hh, Bd.state]; rfl
  have N0 := Fr.nil n0
  obtain ⟨SS, hSS⟩ : ∃ S, S = s₁.setTop (entryFrame m #[(.int vi), (.int va), (.int vb)] 3) := ⟨_, rfl⟩
  have pre0 : oP p e below (s₁.setTop (mkF m 0 #[.val (.int vi), .val (.int va), .val (.int vb)] [])) (SS) := by
    rw [hSS]; exact fun t k => castTop (ef_rm9 m vi va vb) k
  have pre2 : oP p e below (s₁.setTop (mkF m 2 #[.val (.int vi), .val (.int va), .val (.int vb)] [(.int 4), (.int vi)])) (SS) := fun t kt => by
    refine pre0 _ ?_
    refine XS.iloadN X0.here hx rfl (hb hby d9_0) rfl ?_
    refine XS.iconst X0.here hx rfl (hb hby d9_1) ?_
    exact kt
  by_cases hc2_1 : vi.toInt < (4 : Int)
  · have pre3 : oP p e below (s₁.setTop (mkF m 15 #[.val (.int vi), .val (.int va), .val (.int vb)] [(.int (((va.toUInt32 >>> (((8 : Int32) * vi) &&& 31).toUInt32).toInt32) &&& (255 : Int32)))])) (SS) := fun t kt => by
      refine pre2 _ ?_
      refine XS.icmpNo X0.here hx rfl (hb hby d9_2) rfl (own_tlt (a := vi) (b := (4 : Int32)) rfl (by decide) hc2_1).2.1 ?_
      refine XS.iloadN X0.here hx rfl (hb hby d9_5) rfl ?_
      refine XS.bipush X0.here hx rfl (hb hby d9_6) ?_
      refine XS.iloadN X0.here hx rfl (hb hby d9_8) rfl ?_
      refine XS.imul X0.here hx rfl (hb hby d9_9) rfl ?_
      refine XS.iushr X0.here hx rfl (hb hby d9_10) rfl ?_
      refine XS.sipush X0.here hx rfl (hb hby d9_11) ?_
      refine XS.iand X0.here hx rfl (hb hby d9_14) rfl ?_
      exact kt
    obtain ⟨vk15, hvk15⟩ : ∃ z : Int32, z = (((va.toUInt32 >>> (((8 : Int32) * vi) &&& 31).toUInt32).toInt32) &&& (255 : Int32)) := ⟨_, rfl⟩
    have jvk15 : 0 ≤ vk15.toInt ∧ vk15.toInt ≤ 255 := by rw [hvk15]; have q : (((va.toUInt32 >>> (((8 : Int32) * vi) &&& 31).toUInt32).toInt32) &&& (255 : Int32)).toInt = (((va.toUInt32 >>> (((8 : Int32) * vi) &&& 31).toUInt32).toInt32)).toInt % 256 := c_mask _ 255 8 (by decide) (by decide); omega
    have pre4 : oP p e below (s₁.setTop (mkF m 15 #[.val (.int vi), .val (.int va), .val (.int vb)] [(.int vk15)])) (SS) := by rw [hvk15]; exact pre3
    subst hSS
    obtain ⟨fs, hr, q1, q2, q3, q4⟩ := X0.leave (v := some (.int (nar .char (vk15.toUInt32.toUInt16.toUInt32.toInt32)))) (fun h => by rw [Bd.returns] at h; cases h)
    refine ⟨_, _, pre4 _ ?_, q1, q2, _, _, rfl, ?_, ⟨_, rfl⟩, q3, q4.mono (by decide) (by decide)⟩
    · refine XS.i2c X0.here hx rfl (hb hby d9_15) rfl ?_
      exact retN X0 hx (t := .char) Bd.returns (by simp) (hb hby d9_16) hr
    · show Q9 Z _ _ _ h0 n0 _ s₁.heap _
      rw [e0]
      exact ⟨_, rfl, by rw [own_narcZ]; have := rng32 vk15; (first | (have : ((vk15.toUInt32.toUInt16.toUInt32.toInt32)).toInt = vk15.toInt := (by have := c_i2c vk15; omega)) | (have := c_i2c vk15)); omega, N0, rfl⟩
  · have pre5 : oP p e below (s₁.setTop (mkF m 29 #[.val (.int vi), .val (.int va), .val (.int vb)] [(.int (((vb.toUInt32 >>> (((8 : Int32) * (vi - (4 : Int32))) &&& 31).toUInt32).toInt32) &&& (255 : Int32)))])) (SS) := fun t kt => by
      refine pre2 _ ?_
      refine XS.icmpYes X0.here hx rfl (pc0 := 2) (pc' := 17) rfl (hb hby d9_2) rfl (own_flt (a := vi) (b := (4 : Int32)) rfl (by decide) hc2_1).2.1 (by decide) (by decide) ?_
      refine XS.iloadN X0.here hx rfl (hb hby d9_17) rfl ?_
      refine XS.bipush X0.here hx rfl (hb hby d9_18) ?_
      refine XS.iloadN X0.here hx rfl (hb hby d9_20) rfl ?_
      refine XS.iconst X0.here hx rfl (hb hby d9_21) ?_
      refine XS.isub X0.here hx rfl (hb hby d9_22) rfl ?_
      refine XS.imul X0.here hx rfl (hb hby d9_23) rfl ?_
      refine XS.iushr X0.here hx rfl (hb hby d9_24) rfl ?_
      refine XS.sipush X0.here hx rfl (hb hby d9_25) ?_
      refine XS.iand X0.here hx rfl (hb hby d9_28) rfl ?_
      exact kt
    obtain ⟨vk29, hvk29⟩ : ∃ z : Int32, z = (((vb.toUInt32 >>> (((8 : Int32) * (vi - (4 : Int32))) &&& 31).toUInt32).toInt32) &&& (255 : Int32)) := ⟨_, rfl⟩
    have jvk29 : 0 ≤ vk29.toInt ∧ vk29.toInt ≤ 255 := by rw [hvk29]; have q : (((vb.toUInt32 >>> (((8 : Int32) * (vi - (4 : Int32))) &&& 31).toUInt32).toInt32) &&& (255 : Int32)).toInt = (((vb.toUInt32 >>> (((8 : Int32) * (vi - (4 : Int32))) &&& 31).toUInt32).toInt32)).toInt % 256 := c_mask _ 255 8 (by decide) (by decide); omega
    have pre6 : oP p e below (s₁.setTop (mkF m 29 #[.val (.int vi), .val (.int va), .val (.int vb)] [(.int vk29)])) (SS) := by rw [hvk29]; exact pre5
    subst hSS
    obtain ⟨fs, hr, q1, q2, q3, q4⟩ := X0.leave (v := some (.int (nar .char (vk29.toUInt32.toUInt16.toUInt32.toInt32)))) (fun h => by rw [Bd.returns] at h; cases h)
    refine ⟨_, _, pre6 _ ?_, q1, q2, _, _, rfl, ?_, ⟨_, rfl⟩, q3, q4.mono (by decide) (by decide)⟩
    · refine XS.i2c X0.here hx rfl (hb hby d9_29) rfl ?_
      exact retN X0 hx (t := .char) Bd.returns (by simp) (hb hby d9_30) hr
    · show Q9 Z _ _ _ h0 n0 _ s₁.heap _
      rw [e0]
      exact ⟨_, rfl, by rw [own_narcZ]; have := rng32 vk29; (first | (have : ((vk29.toUInt32.toUInt16.toUInt32.toInt32)).toInt = vk29.toInt := (by have := c_i2c vk29; omega)) | (have := c_i2c vk29)); omega, N0, rfl⟩
theorem d3_0 : decode kc10 0 = .ok (.iload_n 1, 1) := by decide +kernel
theorem d3_1 : decode kc10 1 = .ok (.aload_n 0, 1) := by decide +kernel
theorem d3_2 : decode kc10 2 = .ok (.invokevirtual 15, 3) := by decide +kernel
theorem d3_5 : decode kc10 5 = .ok (.if_icmp .ge 20, 3) := by decide +kernel
theorem d3_8 : decode kc10 8 = .ok (.iload 4, 2) := by decide +kernel
theorem d3_10 : decode kc10 10 = .ok (.ifCond .eq 9, 3) := by decide +kernel
theorem d3_13 : decode kc10 13 = .ok (.iload 5, 2) := by decide +kernel
theorem d3_15 : decode kc10 15 = .ok (.iload_n 1, 1) := by decide +kernel
theorem d3_16 : decode kc10 16 = .ok (.if_icmp .eq 9, 3) := by decide +kernel
theorem d3_19 : decode kc10 19 = .ok (.aload_n 0, 1) := by decide +kernel
theorem d3_20 : decode kc10 20 = .ok (.iload_n 1, 1) := by decide +kernel
theorem d3_21 : decode kc10 21 = .ok (.invokevirtual 54, 3) := by decide +kernel
theorem d3_24 : decode kc10 24 = .ok (.ireturn, 1) := by decide +kernel
theorem d3_25 : decode kc10 25 = .ok (.iload_n 1, 1) := by decide +kernel
theorem d3_26 : decode kc10 26 = .ok (.iload_n 2, 1) := by decide +kernel
theorem d3_27 : decode kc10 27 = .ok (.iload_n 3, 1) := by decide +kernel
theorem d3_28 : decode kc10 28 = .ok (.invokestatic 58, 3) := by decide +kernel
theorem d3_31 : decode kc10 31 = .ok (.ireturn, 1) := by decide +kernel
theorem ef_rm_pick (m : MethodId) (x0 : Addr) (x1 : Int32) (x2 : Int32) (x3 : Int32) (x4 : Int32) (x5 : Int32) : entryFrame m #[(.ref x0), (.int x1), (.int x2), (.int x3), (.int x4), (.int x5)] 6 = mkF m 0 #[.val (.ref x0), .val (.int x1), .val (.int x2), .val (.int x3), .val (.int x4), .val (.int x5)] [] := by first | (simp [entryFrame, mkF, argsToLocals, Value.category]; done) | rfl
theorem pd_6 : parseMethodDescriptor "()I" = some ⟨[], some .int⟩ := by decide +kernel
theorem pd_7 : parseMethodDescriptor "(I)C" = some ⟨[.int], some .char⟩ := by decide +kernel
theorem pd_8 : parseMethodDescriptor "(III)C" = some ⟨[.int, .int, .int], some .char⟩ := by decide +kernel
def Q_pick (Z : State) (oa : Addr) (vi : Int32) (va : Int32) (vb : Int32) (vm : Int32) (vp : Int32) (vcs : Int32) (vf : Value) (ob : Addr) (kb : ClassId) (zl : Int32) (vs : List Value) (h0 : Heap) (n0 : Nat) (v : Option Value) (h : Heap) (L : List Loc) : Prop := ∃ z : Int32, v = some (.int z) ∧ (0 ≤ z.toInt ∧ z.toInt ≤ 255) ∧ Fr n0 L ∧ h = h0
theorem rm_pick (l : Launch) (Z : State) (a0 : Array Value) (hw : ∀ d ∈ tables_1, d.before a0 Z = true) (ws : List Jvm.Cond) (oa : Addr) (vi : Int32) (va : Int32) (vb : Int32) (vm : Int32) (vp : Int32) (vcs : Int32) (vf : Value) (ob : Addr) (kb : ClassId) (zl : Int32) (vs : List Value) (h0 : Heap) (n0 : Nat) (Z0 : n0 ≤ h0.size) (Os : own_st Z h0 vcs vf) (Es : Exa Z h0 oa "java/lang/String") (Fc : Fld Z h0 oa "java/lang/String" "coder" "B" (.int 0)) (Fv : Fld Z h0 oa "java/lang/String" "value" "[B" (.ref ob)) (Vb : Arv Z h0 ob kb .byte zl vs (.int 0)) (i1 : 0 ≤ vi.toInt) :
    MetFree l yn10 (head1 (Jvm.Cond.code yn10 kc10 6 (some .char) :: ws) ⟨4, 0, 0, 53⟩) (fun a U => a = #[(.ref oa), (.int vi), (.int va), (.int vb), (.int vm), (.int vp)] ∧ Z.Warmed39 U.vm ∧ U.heap = h0) (fun _ _ _ _ _ => True) (fun _ U o U' => ∃ v L, o = .returned v ∧ Q_pick Z oa vi va vb vm vp vcs vf ob kb zl vs h0 n0 v U'.heap L ∧ FrameEnd U o U' L 0 0) := by
  refine MetFree.of_bodySF (plainFor_of_name pn_3) hisR ?_
  intro p e s m args below meth c s₁ Bd hml0 hP hK
  obtain ⟨rfl, hZ, hh⟩ := hP
  have hx := Bd.exec
  have hby := Bd.bytes
  have hml : c.maxLocals = 6 := hml0
  have hown : s.vm.findClass "com/example/attestbridge/attestbridge/sync/PermissionNamedPinLaw" = some m.cls := findClass_of_methodNamed Bd.named
  have hnm := (name_of_methodNamed Bd.named Bd.method).1
  have X0 : Stand p l e ⟨4, 0, 0, 53⟩ s m #[(.ref oa), (.int vi), (.int va), (.int vb), (.int vm), (.int vp)] below meth c s₁ [] 0 0 := Stand.of_body Bd
  have e0 : s₁.heap = h0 := by rw [← hh, Bd.state]; rfl
  have N0 := Fr.nil n0
  obtain ⟨SS, hSS⟩ : ∃ S, S = s₁.setTop (entryFrame m #[(.ref oa), (.int vi), (.int va), (.int vb), (.int vm), (.int vp)] 6) := ⟨_, rfl⟩
  have pre0 : oP p e below (s₁.setTop (mkF m 0 #[.val (.ref oa), .val (.int vi), .val (.int va), .val (.int vb), .val (.int vm), .val (.int vp)] [])) (SS) := by
    rw [hSS]; exact fun t k => castTop (ef_rm_pick m oa vi va vb vm vp) k
  obtain ⟨cq1, kq1, q1a, q1b, q1c⟩ := isOf hZ e0 Es
  obtain ⟨_, _, ⟨T1, L1, k1, n1⟩, -, X1, ⟨Lc1, hQ1, l1, y1, z1⟩, st1⟩ := X0.virtualBack hx (y := yn3) (z := yn3) hown (mvT hZ (ow hw 8 rfl)) (mvT hZ (ow hw 9 rfl)) (notFace_of_selects (args := #[]) (mvT hZ (ow hw 11 rfl))) (mvT hZ (ow hw 11 rfl)) (mvT hZ (ow hw 10 rfl)) (by decide) (backOf (W := 1) (rm_lg l Z a0 hw [] oa vcs vf ob kb zl vs h0 n0 Z0 Os Es Fc Fv Vb) hZ (ow hw 12 rfl) (ow hw 1 rfl) (by decide) (by decide)) q1a q1c (g := (mkF m 2 #[.val (.ref oa), .val (.int vi), .val (.int va), .val (.int vb), .val (.int vm), .val (.int vp)] [(.ref oa), (.int vi)])) rfl (by rw [hml]; rfl) (Steps.refl _) (argsL := []) (rest := [(.int vi)]) (lenOf pd_6 rfl) rfl (by exact Nat.le_of_eq rfl) (hb hby d3_2) (fun _ _ => ⟨rfl, e0, (by decide : 0 + 0 ≤ _), (by decide : 0 + 0 ≤ _)⟩)
  dsimp only [Pt.U, Pt.locs, Pt.cells, Pt.slots] at X1 l1 y1 z1 st1 hQ1
  rw [l1, y1, z1] at X1
  obtain ⟨zk, rfl, hzk, N1q, e1⟩ := hQ1
  have N1 := Fr.app N0 N1q
  have pre3 : oP p e below (T1.setTop (mkF m 5 #[.val (.ref oa), .val (.int vi), .val (.int va), .val (.int vb), .val (.int vm), .val (.int vp)] [(.int zk), (.int vi)])) (SS) := fun t kt => by
    refine pre0 _ ?_
    refine XS.iloadN X0.here hx rfl (hb hby d3_0) rfl ?_
    refine XS.aloadN X0.here hx rfl (hb hby d3_1) rfl rfl ?_
    refine st1.trans ?_
    exact kt
  by_cases hc5_2 : vi.toInt < zk.toInt
  · have pre5 : oP p e below (T1.setTop (mkF m 10 #[.val (.ref oa), .val (.int vi), .val (.int va), .val (.int vb), .val (.int vm), .val (.int vp)] [(.int vm)])) (SS) := fun t kt => by
      refine pre3 _ ?_
      refine XS.icmpNo X1.here hx rfl (hb hby d3_5) rfl (own_tlt (a := vi) (b := zk) rfl rfl hc5_2).2.1 ?_
      refine XS.iload X1.here hx rfl (hb hby d3_8) rfl ?_
      exact kt
    by_cases hc10_4 : vm.toInt = (0 : Int)
    · obtain ⟨bq, gq⟩ := own_intJ Vb i1 (show vi.toInt < zl.toInt by omega)
      obtain ⟨cq6, kq6, q6a, q6b, q6c⟩ := isOf hZ e1 Es
      obtain ⟨_, _, ⟨T6, L6, k6, n6⟩, -, X6, ⟨Lc6, hQ6, l6, y6, z6⟩, st6⟩ := X1.virtualBack hx (y := yn8) (z := yn8) hown (mvT hZ (ow hw 25 rfl)) (mvT hZ (ow hw 26 rfl)) (notFace_of_selects (args := #[]) (mvT hZ (ow hw 28 rfl))) (mvT hZ (ow hw 28 rfl)) (mvT hZ (ow hw 27 rfl)) (by decide) (backOf (W := 0) (rm_ch1 l Z a0 hw [] oa vi vcs vf ob kb zl vs bq h0 n0 Z0 Os Es Fc Fv Vb i1 (by omega) gq) hZ (ow hw 29 rfl) (ow hw 1 rfl) (by decide) (by decide)) q6a q6c (g := (mkF m 21 #[.val (.ref oa), .val (.int vi), .val (.int va), .val (.int vb), .val (.int vm), .val (.int vp)] [(.int vi), (.ref oa)])) rfl (by rw [hml]; rfl) (Steps.refl _) (argsL := [(.int vi)]) (rest := []) (lenOf pd_7 rfl) rfl (by exact Nat.le_of_eq rfl) (hb hby d3_21) (fun _ _ => ⟨rfl, e1, (by decide : 0 + 0 ≤ _), (by decide : 0 + 0 ≤ _)⟩)
      dsimp only [Pt.U, Pt.locs, Pt.cells, Pt.slots] at X6 l6 y6 z6 st6 hQ6
      rw [l6, y6, z6] at X6
      obtain ⟨zr, rfl, hzr, N6q, e6⟩ := hQ6
      have N6 := Fr.app N1 N6q
      subst hSS
      obtain ⟨fs, hr, q1, q2, q3, q4⟩ := X6.leave (v := some (.int (nar .char zr))) (fun h => by rw [Bd.returns] at h; cases h)
      refine ⟨_, _, pre5 _ ?_, q1, q2, _, _, rfl, ?_, ⟨_, rfl⟩, q3, q4.mono (by decide) (by decide)⟩
      · refine XS.ifYes X1.here hx rfl (pc0 := 10) (pc' := 19) rfl (hb hby d3_10) rfl (own_if (own_teq (a := vm) (b := (0 : Int32)) rfl (by decide) hc10_4).1) (by decide) (by decide) ?_
        refine XS.aloadN X1.here hx rfl (hb hby d3_19) rfl rfl ?_
        refine XS.iloadN X1.here hx rfl (hb hby d3_20) rfl ?_
        refine st6.trans ?_
        exact retN X6 hx (t := .char) Bd.returns (by simp) (hb hby d3_24) hr
      · show Q_pick Z _ _ _ _ _ _ _ _ _ _ _ _ h0 n0 _ T6.heap _
        rw [e6]
        exact ⟨_, rfl, by rw [own_narcZ]; omega, N6, rfl⟩
    · have pre8 : oP p e below (T1.setTop (mkF m 16 #[.val (.ref oa), .val (.int vi), .val (.int va), .val (.int vb), .val (.int vm), .val (.int vp)] [(.int vi), (.int vp)])) (SS) := fun t kt => by
        refine pre5 _ ?_
        refine XS.ifNo X1.here hx rfl (hb hby d3_10) rfl (own_if (own_feq (a := vm) (b := (0 : Int32)) rfl (by decide) hc10_4).1) ?_
        refine XS.iload X1.here hx rfl (hb hby d3_13) rfl ?_
        refine XS.iloadN X1.here hx rfl (hb hby d3_15) rfl ?_
        exact kt
      by_cases hc16_7 : vp.toInt = vi.toInt
      · obtain ⟨_, _, ⟨T9, L9, k9, n9⟩, -, X9, ⟨Lc9, hQ9, l9, y9, z9⟩, st9⟩ := Jvm.LawKit.callS X1 hx (y := yn9) hown (mvT hZ (ow hw 47 rfl)) (mvT hZ (ow hw 48 rfl)) (mvT hZ (ow hw 23 rfl)) (mvT hZ (ow hw 49 rfl)) (by decide) (backOf (W := 0) (rm9 l Z a0 hw [] vi va vb h0 n0 Z0 ) hZ (ow hw 49 rfl) (ow hw 23 rfl) (by decide) (by decide)) (g := (mkF m 28 #[.val (.ref oa), .val (.int vi), .val (.int va), .val (.int vb), .val (.int vm), .val (.int vp)] [(.int vb), (.int va), (.int vi)])) rfl (by rw [hml]; rfl) (argsL := [(.int vi), (.int va), (.int vb)]) (rest := []) (lenOf pd_8 rfl) rfl (by exact Nat.le_of_eq rfl) (hb hby d3_28) (fun _ _ => ⟨rfl, e1, (by decide : 0 + 0 ≤ _), (by decide : 0 + 0 ≤ _)⟩)
        dsimp only [Pt.U, Pt.locs, Pt.cells, Pt.slots] at X9 l9 y9 z9 st9 hQ9
        rw [l9, y9, z9] at X9
        obtain ⟨zr, rfl, hzr, N9q, e9⟩ := hQ9
        have N9 := Fr.app N1 N9q
        subst hSS
        obtain ⟨fs, hr, q1, q2, q3, q4⟩ := X9.leave (v := some (.int (nar .char zr))) (fun h => by rw [Bd.returns] at h; cases h)
        refine ⟨_, _, pre8 _ ?_, q1, q2, _, _, rfl, ?_, ⟨_, rfl⟩, q3, q4.mono (by decide) (by decide)⟩
        · refine XS.icmpYes X1.here hx rfl (pc0 := 16) (pc' := 25) rfl (hb hby d3_16) rfl (own_teq (a := vp) (b := vi) rfl rfl hc16_7).1 (by decide) (by decide) ?_
          refine XS.iloadN X1.here hx rfl (hb hby d3_25) rfl ?_
          refine XS.iloadN X1.here hx rfl (hb hby d3_26) rfl ?_
          refine XS.iloadN X1.here hx rfl (hb hby d3_27) rfl ?_
          refine st9 _ ?_
          exact retN X9 hx (t := .char) Bd.returns (by simp) (hb hby d3_31) hr
        · show Q_pick Z _ _ _ _ _ _ _ _ _ _ _ _ h0 n0 _ T9.heap _
          rw [e9]
          exact ⟨_, rfl, by rw [own_narcZ]; omega, N9, rfl⟩
      · obtain ⟨bq, gq⟩ := own_intJ Vb i1 (show vi.toInt < zl.toInt by omega)
        obtain ⟨cq10, kq10, q10a, q10b, q10c⟩ := isOf hZ e1 Es
        obtain ⟨_, _, ⟨T10, L10, k10, n10⟩, -, X10, ⟨Lc10, hQ10, l10, y10, z10⟩, st10⟩ := X1.virtualBack hx (y := yn8) (z := yn8) hown (mvT hZ (ow hw 25 rfl)) (mvT hZ (ow hw 26 rfl)) (notFace_of_selects (args := #[]) (mvT hZ (ow hw 28 rfl))) (mvT hZ (ow hw 28 rfl)) (mvT hZ (ow hw 27 rfl)) (by decide) (backOf (W := 0) (rm_ch1 l Z a0 hw [] oa vi vcs vf ob kb zl vs bq h0 n0 Z0 Os Es Fc Fv Vb i1 (by omega) gq) hZ (ow hw 29 rfl) (ow hw 1 rfl) (by decide) (by decide)) q10a q10c (g := (mkF m 21 #[.val (.ref oa), .val (.int vi), .val (.int va), .val (.int vb), .val (.int vm), .val (.int vp)] [(.int vi), (.ref oa)])) rfl (by rw [hml]; rfl) (Steps.refl _) (argsL := [(.int vi)]) (rest := []) (lenOf pd_7 rfl) rfl (by exact Nat.le_of_eq rfl) (hb hby d3_21) (fun _ _ => ⟨rfl, e1, (by decide : 0 + 0 ≤ _), (by decide : 0 + 0 ≤ _)⟩)
        dsimp only [Pt.U, Pt.locs, Pt.cells, Pt.slots] at X10 l10 y10 z10 st10 hQ10
        rw [l10, y10, z10] at X10
        obtain ⟨zr, rfl, hzr, N10q, e10⟩ := hQ10
        have N10 := Fr.app N1 N10q
        subst hSS
        obtain ⟨fs, hr, q1, q2, q3, q4⟩ := X10.leave (v := some (.int (nar .char zr))) (fun h => by rw [Bd.returns] at h; cases h)
        refine ⟨_, _, pre8 _ ?_, q1, q2, _, _, rfl, ?_, ⟨_, rfl⟩, q3, q4.mono (by decide) (by decide)⟩
        · refine XS.icmpNo X1.here hx rfl (hb hby d3_16) rfl (own_feq (a := vp) (b := vi) rfl rfl hc16_7).1 ?_
          refine XS.aloadN X1.here hx rfl (hb hby d3_19) rfl rfl ?_
          refine XS.iloadN X1.here hx rfl (hb hby d3_20) rfl ?_
          refine st10.trans ?_
          exact retN X10 hx (t := .char) Bd.returns (by simp) (hb hby d3_24) hr
        · show Q_pick Z _ _ _ _ _ _ _ _ _ _ _ _ h0 n0 _ T10.heap _
          rw [e10]
          exact ⟨_, rfl, by rw [own_narcZ]; omega, N10, rfl⟩
  · obtain ⟨_, _, ⟨T11, L11, k11, n11⟩, -, X11, ⟨Lc11, hQ11, l11, y11, z11⟩, st11⟩ := Jvm.LawKit.callS X1 hx (y := yn9) hown (mvT hZ (ow hw 47 rfl)) (mvT hZ (ow hw 48 rfl)) (mvT hZ (ow hw 23 rfl)) (mvT hZ (ow hw 49 rfl)) (by decide) (backOf (W := 0) (rm9 l Z a0 hw [] vi va vb h0 n0 Z0 ) hZ (ow hw 49 rfl) (ow hw 23 rfl) (by decide) (by decide)) (g := (mkF m 28 #[.val (.ref oa), .val (.int vi), .val (.int va), .val (.int vb), .val (.int vm), .val (.int vp)] [(.int vb), (.int va), (.int vi)])) rfl (by rw [hml]; rfl) (argsL := [(.int vi), (.int va), (.int vb)]) (rest := []) (lenOf pd_8 rfl) rfl (by exact Nat.le_of_eq rfl) (hb hby d3_28) (fun _ _ => ⟨rfl, e1, (by decide : 0 + 0 ≤ _), (by decide : 0 + 0 ≤ _)⟩)
    dsimp only [Pt.U, Pt.locs, Pt.cells, Pt.slots] at X11 l11 y11 z11 st11 hQ11
    rw [l11, y11, z11] at X11
    obtain ⟨zr, rfl, hzr, N11q, e11⟩ := hQ11
    have N11 := Fr.app N1 N11q
    subst hSS
    obtain ⟨fs, hr, q1, q2, q3, q4⟩ := X11.leave (v := some (.int (nar .char zr))) (fun h => by rw [Bd.returns] at h; cases h)
    refine ⟨_, _, pre3 _ ?_, q1, q2, _, _, rfl, ?_, ⟨_, rfl⟩, q3, q4.mono (by decide) (by decide)⟩
    · refine XS.icmpYes X1.here hx rfl (pc0 := 5) (pc' := 25) rfl (hb hby d3_5) rfl (own_flt (a := vi) (b := zk) rfl rfl hc5_2).2.1 (by decide) (by decide) ?_
      refine XS.iloadN X1.here hx rfl (hb hby d3_25) rfl ?_
      refine XS.iloadN X1.here hx rfl (hb hby d3_26) rfl ?_
      refine XS.iloadN X1.here hx rfl (hb hby d3_27) rfl ?_
      refine st11 _ ?_
      exact retN X11 hx (t := .char) Bd.returns (by simp) (hb hby d3_31) hr
    · show Q_pick Z _ _ _ _ _ _ _ _ _ _ _ _ h0 n0 _ T11.heap _
      rw [e11]
      exact ⟨_, rfl, by rw [own_narcZ]; omega, N11, rfl⟩
theorem own_safe_null {Z : State} {vm : Vm} {h : Heap} {oa : Addr} {EL : List (String × Nat)} (hal : Z.vm.Alike vm) (E : Exa Z h oa "java/lang/String") (F : Fld Z h oa "java/lang/String" "value" "[B" .null) : Safe Z EL vm h oa := fun B => by
  obtain ⟨p, -, u, a, -, q, -, F', hy⟩ := B
  obtain ⟨cS, ⟨⟨s1, s2, s3, ⟨cv, kv, iv, s4, s4'⟩, ⟨cc, kc, ic, s5, s5'⟩, s6, s7, s8, s9, s10, s11, s12, s13, s14, s15, s16⟩, hfS, hcS⟩, ⟨kS, k1, k2, k3⟩, hB, hbyt⟩ := F'
  rcases hy with rfl | rfl
  · obtain ⟨kv', z4⟩ := ff_back (U := Wst Z vm h) hal s4
    have G : Fld Z h q.sa "java/lang/String" "value" "[B" (.ref q.sd) := ⟨q.sC, cv, kv', iv, q.fSV, s1, z4, s6, s2, s3, by rw [← hal.assignable]; exact s4', s8⟩
    exact (F.ne G (by simp)) rfl
  · have hB' : vm.findClass "[B" = some q.SA.cls := hB
    have hBZ : Z.vm.findClass "[B" = some q.SA.cls := by rw [← hal.findClass]; exact hB'
    obtain ⟨cell, k, e1, e2, -⟩ := E
    cases e1.symm.trans (show h[q.sd]? = some q.SA from s10)
    exact ids_ne e2 hBZ (by decide) rfl
theorem d12_0 : decode kc11 0 = .ok (.aload_n 0, 1) := by decide +kernel
theorem d12_1 : decode kc11 1 = .ok (.invokespecial 1, 3) := by decide +kernel
theorem d12_4 : decode kc11 4 = .ok (.iload_n 3, 1) := by decide +kernel
theorem d12_5 : decode kc11 5 = .ok (.ifCond .ne 22, 3) := by decide +kernel
theorem d12_8 : decode kc11 8 = .ok (.aload_n 0, 1) := by decide +kernel
theorem d12_9 : decode kc11 9 = .ok (.ldc 7, 2) := by decide +kernel
theorem d12_11 : decode kc11 11 = .ok (.getfield 9, 3) := by decide +kernel
theorem d12_14 : decode kc11 14 = .ok (.putfield 9, 3) := by decide +kernel
theorem d12_17 : decode kc11 17 = .ok (.aload_n 0, 1) := by decide +kernel
theorem d12_18 : decode kc11 18 = .ok (.ldc 7, 2) := by decide +kernel
theorem d12_20 : decode kc11 20 = .ok (.getfield 15, 3) := by decide +kernel
theorem d12_23 : decode kc11 23 = .ok (.putfield 15, 3) := by decide +kernel
theorem d12_26 : decode kc11 26 = .ok (.return_, 1) := by decide +kernel
theorem ef_rm_iv0 (m : MethodId) (x0 : Addr) (x1 : Addr) : entryFrame m #[(.ref x0), (.ref x1), (.int 0), (.int 0), .null] 6 = mkF m 0 #[.val (.ref x0), .val (.ref x1), .val (.int 0), .val (.int 0), .val .null, .unset] [] := by first | (simp [entryFrame, mkF, argsToLocals, Value.category]; done) | rfl
def Q_iv0 (Z : State) (oa : Addr) (oc : Addr) (vcs : Int32) (vf : Value) (kC : ClassId) (h0 : Heap) (n0 : Nat) (v : Option Value) (h : Heap) (L : List Loc) : Prop := v = none ∧ Fr n0 L ∧ Keep h0 h [oa] ∧ Exa Z h oa "java/lang/String" ∧ ∃ (ob : Addr) (kb : ClassId), Fld Z h oa "java/lang/String" "coder" "B" (.int 0) ∧ Fld Z h oa "java/lang/String" "value" "[B" (.ref ob) ∧ Arv Z h ob kb .byte (0 : Int32) [] (.int 0)
theorem rm_iv0 (l : Launch) (Z : State) (a0 : Array Value) (hw : ∀ d ∈ tables_1, d.before a0 Z = true) (ws : List Jvm.Cond) (oa : Addr) (oc : Addr) (vcs : Int32) (vf : Value) (kC : ClassId) (h0 : Heap) (n0 : Nat) (Z0 : n0 ≤ h0.size) (Os : own_st Z h0 vcs vf) (Es : Exa Z h0 oa "java/lang/String") (Fc : Fld Z h0 oa "java/lang/String" "coder" "B" (.int 0)) (Fv : Fld Z h0 oa "java/lang/String" "value" "[B" .null) (ga : n0 ≤ oa) (nac : oa ≠ oc) (Vc : Arv Z h0 oc kC .char (0 : Int32) [] (.int 0)) :
    MetFree l yn11 (head1 (Jvm.Cond.code yn11 kc11 6 none :: ws) ⟨1, 4, 8, 12⟩) (fun a U => a = #[(.ref oa), (.ref oc), (.int 0), (.int 0), .null] ∧ Z.Warmed39 U.vm ∧ U.heap = h0 ∧ CHv Z own_EL U.vm h0) (fun _ _ _ _ _ => True) (fun _ U o U' => ∃ v L, o = .returned v ∧ Q_iv0 Z oa oc vcs vf kC h0 n0 v U'.heap L ∧ CHr Z own_EL U.vm U.heap U'.vm U'.heap ∧ ReturnedEndW U o U' L 4 8) := by
  refine MetFree.of_bodySF (plainFor_of_name pn_1) hisR ?_
  intro p e s m args below meth c s₁ Bd hml0 hP hK
  obtain ⟨rfl, hZ, hh, hC⟩ := hP
  have hx := Bd.exec
  have hby := Bd.bytes
  have hml : c.maxLocals = 6 := hml0
  have hown : s.vm.findClass "java/lang/String" = some m.cls := findClass_of_methodNamed Bd.named
  have hnm := (name_of_methodNamed Bd.named Bd.method).1
  have X0 : Stand p l e ⟨1, 4, 8, 12⟩ (s.setVm s.vm) m #[(.ref oa), (.ref oc), (.int 0), (.int 0), .null] below meth c s₁ [] 0 0 := Stand.of_body Bd
  have e0 : s₁.heap = h0 := by rw [← hh, Bd.state]; rfl
  have N0 := Fr.nil n0
  have hEL := own_EW hw
  have wS := own_wS hw
  have CR0 : CHr Z own_EL s.vm h0 s.vm h0 := CHr.refl hC
  have hS0 : s.Since s.vm h0.size := (State.WarmedH.refl s).since _
  have hk0 : h0.size ≤ h0.size := Nat.le_refl _
  obtain ⟨SS, hSS⟩ : ∃ S, S = s₁.setTop (entryFrame m #[(.ref oa), (.ref oc), (.int 0), (.int 0), .null] 6) := ⟨_, rfl⟩
  have pre0 : oP p e below (s₁.setTop (mkF m 0 #[.val (.ref oa), .val (.ref oc), .val (.int 0), .val (.int 0), .val .null, .unset] [])) (SS) := by
    rw [hSS]; exact fun t k => castTop (ef_rm_iv0 m oa oc) k
  have Ua0 := own_safe_null (EL := own_EL) hZ.alike Es Fv
  have pre1 : oP p e below (s₁.setTop (mkF m 1 #[.val (.ref oa), .val (.ref oc), .val (.int 0), .val (.int 0), .val .null, .unset] [(.ref oa)])) (SS) := fun t kt => by
    refine pre0 _ ?_
    refine XS.aloadN X0.here hx rfl (hb hby d12_0) rfl rfl ?_
    exact kt
  obtain ⟨T2, X2, e2, st2⟩ := initO X0 hx hZ hown (ow hw 62 rfl) (ow hw 63 rfl) (ow hw 64 rfl) e0 (g := (mkF m 1 #[.val (.ref oa), .val (.ref oc), .val (.int 0), .val (.int 0), .val .null, .unset] [(.ref oa)])) rfl (by rw [hml]; rfl) rfl (hb hby d12_1) (by decide) (W := 0) (by exact Nat.le_of_eq rfl) (by decide)
  have hc5_3 : (0 : Int) = (0 : Int) := by decide
  have pre4 : oP p e below (T2.setTop (mkF m 9 #[.val (.ref oa), .val (.ref oc), .val (.int 0), .val (.int 0), .val .null, .unset] [(.ref oa)])) (SS) := fun t kt => by
    refine pre1 _ ?_
    refine st2 _ ?_
    refine XS.iloadN X2.here hx rfl (hb hby d12_4) rfl ?_
    refine XS.ifNo X2.here hx rfl (hb hby d12_5) rfl (own_if (own_teq (a := (0 : Int32)) (b := (0 : Int32)) (by decide) (by decide) hc5_3).2) ?_
    refine XS.aloadN X2.here hx rfl (hb hby d12_8) rfl rfl ?_
    exact kt
  obtain ⟨la5, T5, h5, k15, lb5, kb5, X5, e5, E5, hS5, hk5, hZ, hown, A5, Fc5, Fv5, V5, lt5, lu5, CRn5, Lt5, Sf5, st5⟩ := ldcCH X2 hx hZ hown (text := "") (ow hw 104 rfl) wS e2 hS0 hk0 hEL (List.mem_of_getElem? (i := 4) rfl) CR0.1 (vs := []) (z := (0 : Int32)) ⟨by decide, by rfl⟩ (by decide) rfl (g := (mkF m 9 #[.val (.ref oa), .val (.ref oc), .val (.int 0), .val (.int 0), .val .null, .unset] [(.ref oa)])) rfl (hb hby d12_9) (n := 0) (by decide) (by decide) (by decide) (by decide)
  have sf6 := CRn5.safe Es.lt Ua0
  have CR7 := CR0.trans CRn5
  have Zs8 : n0 ≤ h5.size := Nat.le_trans Z0 E5.1
  have ne_oa_la5 := (Sf5 _ sf6).1
  have ne_oa_lb5 := (Sf5 _ sf6).2
  obtain ⟨T9, X9, e9, st9⟩ := getF X5 hx hZ hown (host := "") (Or.inl (ow hw 13 rfl)) Via.refl e5 Fv5 (g := (mkF m 11 #[.val (.ref oa), .val (.ref oc), .val (.int 0), .val (.int 0), .val .null, .unset] [(.ref la5), (.ref oa)])) rfl rfl (hb hby d12_11)
  have f10 := (Fv.ext E5)
  have f11 := (Es.ext E5)
  obtain ⟨T12, h12, X12, e12, W12, st12⟩ := putF X9 hx hZ hown (host := "") (Or.inl (ow hw 13 rfl)) Via.refl e9 f10 f11 (Or.inr ⟨(ow hw 4 rfl), rfl, hnm⟩) (ow hw 2 rfl) (ty := (.array .byte)) (by decide) rfl rfl (g := (mkF m 14 #[.val (.ref oa), .val (.ref oc), .val (.int 0), .val (.int 0), .val .null, .unset] [(.ref lb5), (.ref oa)])) rfl rfl (hb hby d12_14)
  have N12 := Fr.snoc X12 N0 ga
  have sf13 := (Safe.wr W12 sf6 CR7.1 sf6)
  have CR14 := (CR7.trans (CHr.wr W12 sf6 CR7.1))
  have hk15 := Nat.le_trans hk5 (Nat.le_of_eq W12.size.symm)
  have Zs16 : n0 ≤ h12.size := by rw [W12.size]; exact Zs8
  have Fw12 := f10.same W12
  have pre17 : oP p e below (T12.setTop (mkF m 18 #[.val (.ref oa), .val (.ref oc), .val (.int 0), .val (.int 0), .val .null, .unset] [(.ref oa)])) (SS) := fun t kt => by
    refine pre4 _ ?_
    refine st5 _ ?_
    refine st9 _ ?_
    refine st12 _ ?_
    refine XS.aloadN X12.here hx rfl (hb hby d12_17) rfl rfl ?_
    exact kt
  have f18 := (f11.wr W12)
  have f19 := ((Vc.ext E5).other W12 (Ne.symm nac))
  have f20 := (A5.wr W12)
  have f21 := (V5.other W12 (Ne.symm ne_oa_lb5))
  obtain ⟨la22, T22, h22, k122, lb22, kb22, X22, e22, E22, hS22, hk22, hZ, hown, A22, Fc22, Fv22, V22, lt22, lu22, CRn22, Lt22, Sf22, st22⟩ := ldcCH X12 hx hZ hown (text := "") (ow hw 104 rfl) wS e12 hS5 hk15 hEL (List.mem_of_getElem? (i := 4) rfl) CR14.1 (vs := []) (z := (0 : Int32)) ⟨by decide, by rfl⟩ (by decide) rfl (g := (mkF m 18 #[.val (.ref oa), .val (.ref oc), .val (.int 0), .val (.int 0), .val .null, .unset] [(.ref oa)])) rfl (hb hby d12_18) (n := 0) (by decide) (by decide) (by decide) (by decide)
  have sf23 := CRn22.safe f18.lt sf13
  have CR24 := CR14.trans CRn22
  have Zs25 : n0 ≤ h22.size := Nat.le_trans Zs16 E22.1
  have ne_oa_la22 := (Sf22 _ sf23).1
  have ne_oa_lb22 := (Sf22 _ sf23).2
  obtain ⟨T26, X26, e26, st26⟩ := getF X22 hx hZ hown (host := "") (Or.inl (ow hw 20 rfl)) Via.refl e22 Fc22 (g := (mkF m 20 #[.val (.ref oa), .val (.ref oc), .val (.int 0), .val (.int 0), .val .null, .unset] [(.ref la22), (.ref oa)])) rfl rfl (hb hby d12_20)
  have f27 := (((Fc.ext E5).other W12 (Or.inr (slot_ne (Or.inr (ow hw 5 rfl)) (Or.inr (ow hw 4 rfl)) (by decide) (t := .byte) (t' := (.array .byte)) (by decide) (by decide)))).ext E22)
  have f28 := (f18.ext E22)
  obtain ⟨T29, h29, X29, e29, W29, st29⟩ := putFN X26 hx hZ hown (ow hw 20 rfl) Via.refl e26 f27 f28 (Or.inr ⟨(ow hw 5 rfl), rfl, hnm⟩) (ow hw 2 rfl) (ty := .byte) (v' := (.int 0)) (by decide) rfl rfl (g := (mkF m 23 #[.val (.ref oa), .val (.ref oc), .val (.int 0), .val (.int 0), .val .null, .unset] [(.int 0), (.ref oa)])) rfl rfl (hb hby d12_23)
  have N29 := Fr.snoc X29 N12 ga
  have sf30 := (Safe.wr W29 sf23 CR24.1 sf23)
  have CR31 := (CR24.trans (CHr.wr W29 sf23 CR24.1))
  have hk32 := Nat.le_trans hk22 (Nat.le_of_eq W29.size.symm)
  have Zs33 : n0 ≤ h29.size := by rw [W29.size]; exact Zs25
  have Fw29 := f27.same W29
  subst hSS
  obtain ⟨fs, hr, hrun, hended, hREW⟩ := X29.leaveW hS22 (by rw [e29]; exact hk32) (v := none) (fun _ => rfl)
  refine ⟨_, _, pre17 _ ?_, hrun, hended, _, _, rfl, ?_, ?_, ⟨hREW.1, hREW.2.1, hREW.2.2.1, hREW.2.2.2.mono (by decide) (by decide)⟩⟩
  · refine st22 _ ?_
    refine st26 _ ?_
    refine st29 _ ?_
    exact X29.returnOut hx Bd.returns (hb hby d12_26) hr
  · show Q_iv0 Z _ _ _ _ _ h0 n0 _ T29.heap _
    rw [e29]
    have f34 := (((((Keep.refl h0 [oa]).ext E5).wr W12 (Or.inl (List.mem_of_getElem? (i := 0) rfl))).ext E22).wr W29 (Or.inl (List.mem_of_getElem? (i := 0) rfl)))
    have f35 := (f28.wr W29)
    have f36 := ((Fw12.ext E22).other W29 (Or.inr (slot_ne (Or.inr (ow hw 4 rfl)) (Or.inr (ow hw 5 rfl)) (by decide) (t := (.array .byte)) (t' := .byte) (by decide) (by decide))))
    have f37 := ((f21.ext E22).other W29 (Ne.symm ne_oa_lb5))
    exact ⟨rfl, N29, f34, f35, lb5, _, Fw29, f36, f37⟩
  · show CHr Z own_EL s.vm s.heap T29.vm T29.heap
    rw [hh, e29]
    exact CR31.trans (CHv.at X29 hZ hEL CR31.1)
theorem d11_0 : decode kc12 0 = .ok (.aload_n 0, 1) := by decide +kernel
theorem d11_1 : decode kc12 1 = .ok (.aload_n 1, 1) := by decide +kernel
theorem d11_2 : decode kc12 2 = .ok (.iconst 0, 1) := by decide +kernel
theorem d11_3 : decode kc12 3 = .ok (.aload_n 1, 1) := by decide +kernel
theorem d11_4 : decode kc12 4 = .ok (.arraylength, 1) := by decide +kernel
theorem d11_5 : decode kc12 5 = .ok (.aconst_null, 1) := by decide +kernel
theorem d11_6 : decode kc12 6 = .ok (.invokespecial 27, 3) := by decide +kernel
theorem d11_9 : decode kc12 9 = .ok (.return_, 1) := by decide +kernel
theorem ef_rm_mk0 (m : MethodId) (x0 : Addr) (x1 : Addr) : entryFrame m #[(.ref x0), (.ref x1)] 2 = mkF m 0 #[.val (.ref x0), .val (.ref x1)] [] := by first | (simp [entryFrame, mkF, argsToLocals, Value.category]; done) | rfl
theorem pd_9 : parseMethodDescriptor "([CIILjava/lang/Void;)V" = some ⟨[(.array .char), .int, .int, (.object "java/lang/Void")], none⟩ := by decide +kernel
def Q_mk0 (Z : State) (oa : Addr) (oc : Addr) (vcs : Int32) (vf : Value) (kC : ClassId) (h0 : Heap) (n0 : Nat) (v : Option Value) (h : Heap) (L : List Loc) : Prop := v = none ∧ Fr n0 L ∧ Keep h0 h [oa] ∧ Exa Z h oa "java/lang/String" ∧ ∃ (ob : Addr) (kb : ClassId), Fld Z h oa "java/lang/String" "coder" "B" (.int 0) ∧ Fld Z h oa "java/lang/String" "value" "[B" (.ref ob) ∧ Arv Z h ob kb .byte (0 : Int32) [] (.int 0)
theorem rm_mk0 (l : Launch) (Z : State) (a0 : Array Value) (hw : ∀ d ∈ tables_1, d.before a0 Z = true) (ws : List Jvm.Cond) (oa : Addr) (oc : Addr) (vcs : Int32) (vf : Value) (kC : ClassId) (h0 : Heap) (n0 : Nat) (Z0 : n0 ≤ h0.size) (Os : own_st Z h0 vcs vf) (Es : Exa Z h0 oa "java/lang/String") (Fc : Fld Z h0 oa "java/lang/String" "coder" "B" (.int 0)) (Fv : Fld Z h0 oa "java/lang/String" "value" "[B" .null) (ga : n0 ≤ oa) (nac : oa ≠ oc) (Vc : Arv Z h0 oc kC .char (0 : Int32) [] (.int 0)) :
    MetFree l yn12 (head1 (Jvm.Cond.code yn12 kc12 2 none :: ws) ⟨2, 4, 8, 29⟩) (fun a U => a = #[(.ref oa), (.ref oc)] ∧ Z.Warmed39 U.vm ∧ U.heap = h0 ∧ CHv Z own_EL U.vm h0) (fun _ _ _ _ _ => True) (fun _ U o U' => ∃ v L, o = .returned v ∧ Q_mk0 Z oa oc vcs vf kC h0 n0 v U'.heap L ∧ CHr Z own_EL U.vm U.heap U'.vm U'.heap ∧ ReturnedEndW U o U' L 4 8) := by
  refine MetFree.of_bodySF (plainFor_of_name pn_1) hisR ?_
  intro p e s m args below meth c s₁ Bd hml0 hP hK
  obtain ⟨rfl, hZ, hh, hC⟩ := hP
  have hx := Bd.exec
  have hby := Bd.bytes
  have hml : c.maxLocals = 2 := hml0
  have hown : s.vm.findClass "java/lang/String" = some m.cls := findClass_of_methodNamed Bd.named
  have hnm := (name_of_methodNamed Bd.named Bd.method).1
  have X0 : Stand p l e ⟨2, 4, 8, 29⟩ (s.setVm s.vm) m #[(.ref oa), (.ref oc)] below meth c s₁ [] 0 0 := Stand.of_body Bd
  have e0 : s₁.heap = h0 := by rw [← hh, Bd.state]; rfl
  have N0 := Fr.nil n0
  have hEL := own_EW hw
  have wS := own_wS hw
  have CR0 : CHr Z own_EL s.vm h0 s.vm h0 := CHr.refl hC
  have hS0 : s.Since s.vm h0.size := (State.WarmedH.refl s).since _
  have hk0 : h0.size ≤ h0.size := Nat.le_refl _
  obtain ⟨SS, hSS⟩ : ∃ S, S = s₁.setTop (entryFrame m #[(.ref oa), (.ref oc)] 2) := ⟨_, rfl⟩
  have pre0 : oP p e below (s₁.setTop (mkF m 0 #[.val (.ref oa), .val (.ref oc)] [])) (SS) := by
    rw [hSS]; exact fun t k => castTop (ef_rm_mk0 m oa oc) k
  have Ua0 := own_safe_null (EL := own_EL) hZ.alike Es Fv
  obtain ⟨cl1, Ar1, q1, S1, M1, H1, G1⟩ := id Vc
  have pre2 : oP p e below (s₁.setTop (mkF m 6 #[.val (.ref oa), .val (.ref oc)] [.null, (.int 0), (.int 0), (.ref oc), (.ref oa)])) (SS) := fun t kt => by
    refine pre0 _ ?_
    refine XS.aloadN X0.here hx rfl (hb hby d11_0) rfl rfl ?_
    refine XS.aloadN X0.here hx rfl (hb hby d11_1) rfl rfl ?_
    refine XS.iconst X0.here hx rfl (hb hby d11_2) ?_
    refine XS.aloadN X0.here hx rfl (hb hby d11_3) rfl rfl ?_
    refine X0.arraylength hx (by rw [e0]; exact Ar1.1) (State.isArrayOf_alike hZ.alike Ar1.2.1) (g := (mkF m 4 #[.val (.ref oa), .val (.ref oc)] [(.ref oc), (.int 0), (.ref oc), (.ref oa)])) rfl rfl (hb hby d11_4) _ ?_
    rw [len_of S1 M1]
    refine XS.aconstNull X0.here hx rfl (hb hby d11_5) ?_
    exact kt
  obtain ⟨_, _, ⟨T3, L3, k3, n3⟩, -, Xp3, hSp3, hgp3, ⟨Lc3, hQ3, l3, y3, z3, CRn3⟩, st3⟩ := X0.specialBackS hx (y := yn11) rfl hown (mvT hZ (ow hw 58 rfl)) (mvT hZ (ow hw 59 rfl)) (mvT hZ (ow hw 61 rfl)) (by decide) (backOfSH (W := 0) (rm_iv0 l Z a0 hw [] oa oc vcs vf kC h0 n0 Z0 Os Es Fc Fv ga nac Vc) hZ (ow hw 61 rfl) (ow hw 1 rfl) (by decide) (by decide) hEL CR0.1) (g := (mkF m 6 #[.val (.ref oa), .val (.ref oc)] [.null, (.int 0), (.int 0), (.ref oc), (.ref oa)])) rfl (by rw [hml]; rfl) (Steps.refl _) (a := oa) (argsL := [(.ref oc), (.int 0), (.int 0), .null]) (rest := []) (lenOf pd_9 rfl) rfl (by exact Nat.le_of_eq rfl) (hb hby d11_6) (fun _ _ => ⟨rfl, e0, (by decide : 0 + 4 ≤ _), (by decide : 0 + 8 ≤ _)⟩)
  dsimp only [Pt.U, Pt.locs, Pt.cells, Pt.slots] at Xp3 hSp3 hgp3 l3 y3 z3 st3 hQ3 CRn3
  rw [l3, y3, z3] at Xp3
  obtain ⟨X3, hS3, hZ, hown⟩ := rebS hS0 (n1 := s₁.heap.size) (by rw [e0]; exact hk0) Xp3 hSp3 hgp3 hZ hown
  have sf4 := CRn3.safe Es.lt Ua0
  have CR5 := CR0.trans CRn3
  obtain ⟨rfl, N3q, K3, A3, ob, kb, Fc3, Fv3, Vb3⟩ := hQ3
  have N3 := Fr.app N0 N3q
  have Zs6 : n0 ≤ T3.heap.size := Nat.le_trans Z0 K3.1
  subst hSS
  obtain ⟨fs, hr, hrun, hended, hREW⟩ := X3.leaveW hS3 (Nat.le_refl T3.heap.size) (v := none) (fun _ => rfl)
  refine ⟨_, _, pre2 _ ?_, hrun, hended, _, _, rfl, ?_, ?_, ⟨hREW.1, hREW.2.1, hREW.2.2.1, hREW.2.2.2.mono (by decide) (by decide)⟩⟩
  · refine st3.trans ?_
    exact X3.returnOut hx Bd.returns (hb hby d11_9) hr
  · show Q_mk0 Z _ _ _ _ _ h0 n0 _ T3.heap _
    have f7 := ((Keep.refl h0 [oa]).trans K3 (allS (P := fun x => x ∈ [oa] ∨ h0.size ≤ x) (Or.inl (List.mem_of_getElem? (i := 0) rfl)) all0))
    exact ⟨rfl, N3, f7, A3, ob, _, Fc3, Fv3, Vb3⟩
  · show CHr Z own_EL s.vm s.heap T3.vm T3.heap
    rw [hh]
    exact CR5.trans (CHv.at X3 hZ hEL CR5.1)
theorem d15_0 : decode kc13 0 = .ok (.iconst 0, 1) := by decide +kernel
theorem d15_1 : decode kc13 1 = .ok (.istore 5, 2) := by decide +kernel
theorem d15_3 : decode kc13 3 = .ok (.iload 5, 2) := by decide +kernel
theorem d15_5 : decode kc13 5 = .ok (.iload 4, 2) := by decide +kernel
theorem d15_7 : decode kc13 7 = .ok (.if_icmp .ge 37, 3) := by decide +kernel
theorem d15_10 : decode kc13 10 = .ok (.aload_n 0, 1) := by decide +kernel
theorem d15_11 : decode kc13 11 = .ok (.iload_n 1, 1) := by decide +kernel
theorem d15_12 : decode kc13 12 = .ok (.caload, 1) := by decide +kernel
theorem d15_13 : decode kc13 13 = .ok (.istore 6, 2) := by decide +kernel
theorem d15_15 : decode kc13 15 = .ok (.iload 6, 2) := by decide +kernel
theorem d15_17 : decode kc13 17 = .ok (.sipush 255, 3) := by decide +kernel
theorem d15_20 : decode kc13 20 = .ok (.if_icmp .le 6, 3) := by decide +kernel
theorem d15_26 : decode kc13 26 = .ok (.aload_n 2, 1) := by decide +kernel
theorem d15_27 : decode kc13 27 = .ok (.iload_n 3, 1) := by decide +kernel
theorem d15_28 : decode kc13 28 = .ok (.iload 6, 2) := by decide +kernel
theorem d15_30 : decode kc13 30 = .ok (.i2b, 1) := by decide +kernel
theorem d15_31 : decode kc13 31 = .ok (.bastore, 1) := by decide +kernel
theorem d15_32 : decode kc13 32 = .ok (.iinc 1 1, 3) := by decide +kernel
theorem d15_35 : decode kc13 35 = .ok (.iinc 3 1, 3) := by decide +kernel
theorem d15_38 : decode kc13 38 = .ok (.iinc 5 1, 3) := by decide +kernel
theorem d15_41 : decode kc13 41 = .ok (.goto (-38), 3) := by decide +kernel
theorem d15_44 : decode kc13 44 = .ok (.iload 4, 2) := by decide +kernel
theorem d15_46 : decode kc13 46 = .ok (.ireturn, 1) := by decide +kernel
theorem pn_4 : plainName "java/lang/StringUTF16" = true := by first | (simp [plainName, overriddenIn]; done) | decide +kernel
theorem ef_rm_cp1 (m : MethodId) (x0 : Addr) (x2 : Addr) : entryFrame m #[(.ref x0), (.int 0), (.ref x2), (.int 0), (.int 1)] 7 = mkF m 0 #[.val (.ref x0), .val (.int 0), .val (.ref x2), .val (.int 0), .val (.int 1), .unset, .unset] [] := by first | (simp [entryFrame, mkF, argsToLocals, Value.category]; done) | rfl
def Q_cp1 (Z : State) (oc : Addr) (ob : Addr) (kC : ClassId) (c0 : Int32) (kb : ClassId) (h0 : Heap) (n0 : Nat) (v : Option Value) (h : Heap) (L : List Loc) : Prop := ∃ bb0 : Int32, v = some (.int 1) ∧ Fr n0 L ∧ Keep h0 h [ob] ∧ Arv Z h ob kb .byte (1 : Int32) [(.int bb0)] (.int 0) ∧ bb0.toInt % 256 = c0.toInt
theorem rm_cp1 (l : Launch) (Z : State) (a0 : Array Value) (hw : ∀ d ∈ tables_1, d.before a0 Z = true) (ws : List Jvm.Cond) (oc : Addr) (ob : Addr) (kC : ClassId) (c0 : Int32) (kb : ClassId) (h0 : Heap) (n0 : Nat) (Z0 : n0 ≤ h0.size) (Vc : Arv Z h0 oc kC .char (1 : Int32) [(.int c0)] (.int 0)) (uc0 : 0 ≤ c0.toInt) (vc0 : c0.toInt ≤ 255) (Vb : Arv Z h0 ob kb .byte (1 : Int32) [(.int 0)] (.int 0)) (gb : n0 ≤ ob) (ncb : oc ≠ ob) :
    MetFree l yn13 (head1 (Jvm.Cond.code yn13 kc13 7 (some .int) :: ws) ⟨0, 0, 0, 0⟩) (fun a U => a = #[(.ref oc), (.int 0), (.ref ob), (.int 0), (.int 1)] ∧ Z.Warmed39 U.vm ∧ U.heap = h0) (fun _ _ _ _ _ => True) (fun _ U o U' => ∃ v L, o = .returned v ∧ Q_cp1 Z oc ob kC c0 kb h0 n0 v U'.heap L ∧ FrameEnd U o U' L 0 0) := by
  refine MetFree.of_bodySF (plainFor_of_name pn_4) hisR ?_
  intro p e s m args below meth c s₁ Bd hml0 hP hK
  obtain ⟨rfl, hZ, hh⟩ := hP
  have hx := Bd.exec
  have hby := Bd.bytes
  have hml : c.maxLocals = 7 := hml0
  have hown : s.vm.findClass "java/lang/StringUTF16" = some m.cls := findClass_of_methodNamed Bd.named
  have hnm := (name_of_methodNamed Bd.named Bd.method).1
  have X0 : Stand p l e ⟨0, 0, 0, 0⟩ s m #[(.ref oc), (.int 0), (.ref ob), (.int 0), (.int 1)] below meth c s₁ [] 0 0 := Stand.of_body Bd
  have e0 : s₁.heap = h0 := by rw [← hh, Bd.state]; rfl
  have N0 := Fr.nil n0
  obtain ⟨SS, hSS⟩ : ∃ S, S = s₁.setTop (entryFrame m #[(.ref oc), (.int 0), (.ref ob), (.int 0), (.int 1)] 7) := ⟨_, rfl⟩
  have pre0 : oP p e below (s₁.setTop (mkF m 0 #[.val (.ref oc), .val (.int 0), .val (.ref ob), .val (.int 0), .val (.int 1), .unset, .unset] [])) (SS) := by
    rw [hSS]; exact fun t k => castTop (ef_rm_cp1 m oc ob) k
  have hc7_1 : (0 : Int) < (1 : Int) := by decide
  obtain ⟨cl2, Ar2, q2, S2, M2, H2, G2⟩ := id Vc
  have hin2 : ¬ ((0 : Int32) < 0 ∨ cl2.slots.size ≤ ((0 : Int32)).toNatClampNeg) := inb_of S2 ⟨by decide, by decide⟩
  have hat2 : cl2.slots[((0 : Int32)).toNatClampNeg]? = some (.int c0) := Has.at H2 hin2 rfl
  have hc20_3 : ¬ ((255 : Int) < c0.toInt) := by omega
  obtain ⟨cl4, Ar4, q4, S4, M4, H4, G4⟩ := id Vb
  have hin4 : ¬ ((0 : Int32) < 0 ∨ cl4.slots.size ≤ ((0 : Int32)).toNatClampNeg) := inb_of S4 ⟨by decide, by decide⟩
  obtain ⟨T5, h5, X5, e5, W5, st5⟩ := stB X0 hx hZ e0 Ar4 (j := (0 : Int32)) hin4 (g := (mkF m 31 #[.val (.ref oc), .val (.int 0), .val (.ref ob), .val (.int 0), .val (.int 1), .val (.int 0), .val (.int c0)] [(.int (c0.toInt8.toInt32)), (.int 0), (.ref ob)])) rfl rfl (hb hby d15_31)
  have N5 := Fr.snoc X5 N0 gb
  have Zs6 : n0 ≤ h5.size := by rw [W5.size]; exact Z0
  have V5 : Arv Z h5 ob kb .byte (1 : Int32) [(.int (nar .byte (c0.toInt8.toInt32)))] (.int 0) := Arv.set Ar4 q4 S4 M4 H4 G4 (fits_nar_byte _) W5 0 rfl (Nat.le_of_ble_eq_true rfl)
  have hc7_7 : ¬ ((1 : Int) < (1 : Int)) := by decide
  subst hSS
  obtain ⟨fs, hr, q1, q2, q3, q4⟩ := X5.leave (v := some (.int 1)) (fun h => by rw [Bd.returns] at h; cases h)
  refine ⟨_, _, pre0 _ ?_, q1, q2, _, _, rfl, ?_, ⟨_, rfl⟩, q3, q4.mono (by decide) (by decide)⟩
  · refine XS.iconst X0.here hx rfl (hb hby d15_0) ?_
    refine XS.istore X0.here hx rfl (hb hby d15_1) rfl (l' := #[.val (.ref oc), .val (.int 0), .val (.ref ob), .val (.int 0), .val (.int 1), .val (.int 0), .unset]) rfl ?_
    refine XS.iload X0.here hx rfl (hb hby d15_3) rfl ?_
    refine XS.iload X0.here hx rfl (hb hby d15_5) rfl ?_
    refine XS.icmpNo X0.here hx rfl (hb hby d15_7) rfl (own_tlt (a := (0 : Int32)) (b := (1 : Int32)) (by decide) (by decide) hc7_1).2.1 ?_
    refine XS.aloadN X0.here hx rfl (hb hby d15_10) rfl rfl ?_
    refine XS.iloadN X0.here hx rfl (hb hby d15_11) rfl ?_
    refine X0.caload hx (j := (0 : Int32)) (v := (.int c0)) (by rw [e0]; exact Ar2.1) (State.isArrayOf_alike hZ.alike Ar2.2.1) Ar2.2.2 hin2 hat2 (g := (mkF m 12 #[.val (.ref oc), .val (.int 0), .val (.ref ob), .val (.int 0), .val (.int 1), .val (.int 0), .unset] [(.int 0), (.ref oc)])) rfl rfl (hb hby d15_12) _ ?_
    refine XS.istore X0.here hx rfl (hb hby d15_13) rfl (l' := #[.val (.ref oc), .val (.int 0), .val (.ref ob), .val (.int 0), .val (.int 1), .val (.int 0), .val (.int c0)]) rfl ?_
    refine XS.iload X0.here hx rfl (hb hby d15_15) rfl ?_
    refine XS.sipush X0.here hx rfl (hb hby d15_17) ?_
    refine XS.icmpYes X0.here hx rfl (pc0 := 20) (pc' := 26) rfl (hb hby d15_20) rfl (own_flt (a := (255 : Int32)) (b := c0) (by decide) rfl hc20_3).2.2.2 (by decide) (by decide) ?_
    refine XS.aloadN X0.here hx rfl (hb hby d15_26) rfl rfl ?_
    refine XS.iloadN X0.here hx rfl (hb hby d15_27) rfl ?_
    refine XS.iload X0.here hx rfl (hb hby d15_28) rfl ?_
    refine XS.i2b X0.here hx rfl (hb hby d15_30) rfl ?_
    refine st5 _ ?_
    refine XS.iinc X5.here hx rfl (hb hby d15_32) rfl (l' := #[.val (.ref oc), .val (.int 1), .val (.ref ob), .val (.int 0), .val (.int 1), .val (.int 0), .val (.int c0)]) rfl ?_
    refine XS.iinc X5.here hx rfl (hb hby d15_35) rfl (l' := #[.val (.ref oc), .val (.int 1), .val (.ref ob), .val (.int 1), .val (.int 1), .val (.int 0), .val (.int c0)]) rfl ?_
    show Steps p.tables e below (T5.setTop (mkF m 38 #[.val (.ref oc), .val (.int 1), .val (.ref ob), .val (.int 1), .val (.int 1), .val (.int 0), .val (.int c0)] [])) _
    refine XS.iinc X5.here hx rfl (hb hby d15_38) rfl (l' := #[.val (.ref oc), .val (.int 1), .val (.ref ob), .val (.int 1), .val (.int 1), .val (.int 1), .val (.int c0)]) rfl ?_
    refine XS.goto X5.here hx rfl (pc0 := 41) (pc' := 3) rfl (hb hby d15_41) (by decide) (by decide) ?_
    refine XS.iload X5.here hx rfl (hb hby d15_3) rfl ?_
    refine XS.iload X5.here hx rfl (hb hby d15_5) rfl ?_
    refine XS.icmpYes X5.here hx rfl (pc0 := 7) (pc' := 44) rfl (hb hby d15_7) rfl (own_flt (a := (1 : Int32)) (b := (1 : Int32)) (by decide) (by decide) hc7_7).2.1 (by decide) (by decide) ?_
    refine XS.iload X5.here hx rfl (hb hby d15_44) rfl ?_
    exact retI X5 hx Bd.returns (hb hby d15_46) hr
  · show Q_cp1 Z _ _ _ _ _ h0 n0 _ T5.heap _
    rw [e5]
    have f8 := ((Keep.refl h0 [ob]).wr W5 (Or.inl (List.mem_of_getElem? (i := 0) rfl)))
    exact ⟨_, rfl, N5, f8, V5, own_b2 c0 uc0 vc0⟩
theorem d14_0 : decode kc14 0 = .ok (.iload_n 2, 1) := by decide +kernel
theorem d14_1 : decode kc14 1 = .ok (.newarray .byte, 2) := by decide +kernel
theorem d14_3 : decode kc14 3 = .ok (.astore_n 3, 1) := by decide +kernel
theorem d14_4 : decode kc14 4 = .ok (.aload_n 0, 1) := by decide +kernel
theorem d14_5 : decode kc14 5 = .ok (.iload_n 1, 1) := by decide +kernel
theorem d14_6 : decode kc14 6 = .ok (.aload_n 3, 1) := by decide +kernel
theorem d14_7 : decode kc14 7 = .ok (.iconst 0, 1) := by decide +kernel
theorem d14_8 : decode kc14 8 = .ok (.iload_n 2, 1) := by decide +kernel
theorem d14_9 : decode kc14 9 = .ok (.invokestatic 115, 3) := by decide +kernel
theorem d14_12 : decode kc14 12 = .ok (.istore 4, 2) := by decide +kernel
theorem d14_14 : decode kc14 14 = .ok (.iload 4, 2) := by decide +kernel
theorem d14_16 : decode kc14 16 = .ok (.iload_n 2, 1) := by decide +kernel
theorem d14_17 : decode kc14 17 = .ok (.if_icmp .eq 40, 3) := by decide +kernel
theorem d14_57 : decode kc14 57 = .ok (.aload_n 3, 1) := by decide +kernel
theorem d14_58 : decode kc14 58 = .ok (.areturn, 1) := by decide +kernel
theorem ef_rm_cm1 (m : MethodId) (x0 : Addr) : entryFrame m #[(.ref x0), (.int 0), (.int 1)] 6 = mkF m 0 #[.val (.ref x0), .val (.int 0), .val (.int 1), .unset, .unset, .unset] [] := by first | (simp [entryFrame, mkF, argsToLocals, Value.category]; done) | rfl
theorem pd_10 : parseMethodDescriptor "([CI[BII)I" = some ⟨[(.array .char), .int, (.array .byte), .int, .int], some .int⟩ := by decide +kernel
def Q_cm1 (Z : State) (oc : Addr) (kC : ClassId) (c0 : Int32) (h0 : Heap) (n0 : Nat) (v : Option Value) (h : Heap) (L : List Loc) : Prop := ∃ (ob : Addr) (kb : ClassId) (bb0 : Int32), v = some (.ref ob) ∧ Fr n0 L ∧ Keep h0 h [] ∧ n0 ≤ ob ∧ h0.size ≤ ob ∧ Arv Z h ob kb .byte (1 : Int32) [(.int bb0)] (.int 0) ∧ bb0.toInt % 256 = c0.toInt
theorem rm_cm1 (l : Launch) (Z : State) (a0 : Array Value) (hw : ∀ d ∈ tables_1, d.before a0 Z = true) (ws : List Jvm.Cond) (oc : Addr) (kC : ClassId) (c0 : Int32) (h0 : Heap) (n0 : Nat) (Z0 : n0 ≤ h0.size) (Vc : Arv Z h0 oc kC .char (1 : Int32) [(.int c0)] (.int 0)) (uc0 : 0 ≤ c0.toInt) (vc0 : c0.toInt ≤ 255) :
    MetFree l yn14 (head1 (Jvm.Cond.code yn14 kc14 6 (some (.array .byte)) :: ws) ⟨1, 1, 1, 18⟩) (fun a U => a = #[(.ref oc), (.int 0), (.int 1)] ∧ Z.Warmed39 U.vm ∧ U.heap = h0) (fun _ _ _ _ _ => True) (fun _ U o U' => ∃ v L, o = .returned v ∧ Q_cm1 Z oc kC c0 h0 n0 v U'.heap L ∧ FrameEnd U o U' L 1 1) := by
  refine MetFree.of_bodySF (plainFor_of_name pn_4) hisR ?_
  intro p e s m args below meth c s₁ Bd hml0 hP hK
  obtain ⟨rfl, hZ, hh⟩ := hP
  have hx := Bd.exec
  have hby := Bd.bytes
  have hml : c.maxLocals = 6 := hml0
  have hown : s.vm.findClass "java/lang/StringUTF16" = some m.cls := findClass_of_methodNamed Bd.named
  have hnm := (name_of_methodNamed Bd.named Bd.method).1
  have X0 : Stand p l e ⟨1, 1, 1, 18⟩ s m #[(.ref oc), (.int 0), (.int 1)] below meth c s₁ [] 0 0 := Stand.of_body Bd
  have e0 : s₁.heap = h0 := by rw [← hh, Bd.state]; rfl
  have N0 := Fr.nil n0
  obtain ⟨SS, hSS⟩ : ∃ S, S = s₁.setTop (entryFrame m #[(.ref oc), (.int 0), (.int 1)] 6) := ⟨_, rfl⟩
  have pre0 : oP p e below (s₁.setTop (mkF m 0 #[.val (.ref oc), .val (.int 0), .val (.int 1), .unset, .unset, .unset] [])) (SS) := by
    rw [hSS]; exact fun t k => castTop (ef_rm_cm1 m oc) k
  obtain ⟨T1, h1, k1, X1, e1, E1, A1, st1⟩ := newP X0 hx hZ (ow hw 3 rfl) e0 (g := (mkF m 1 #[.val (.ref oc), .val (.int 0), .val (.int 1), .unset, .unset, .unset] [(.int 1)])) rfl (hb hby d14_1) rfl (by decide) (cap := 1) (by decide) (by decide) (by decide) (by decide)
  obtain ⟨b1, g1⟩ : ∃ z, z = h0.size := ⟨_, rfl⟩
  have ne_oc_b1 : oc ≠ b1 := Nat.ne_of_lt (Nat.lt_of_lt_of_le Vc.lt (Nat.le_of_eq g1.symm))
  have g_b1 : n0 ≤ b1 := Nat.le_trans Z0 (Nat.le_of_eq g1.symm)
  have sz_b1 : h0.size ≤ b1 := Nat.le_trans (Keep.refl h0 []).1 (Nat.le_of_eq g1.symm)
  rw [← g1] at A1 st1
  have Zs2 : n0 ≤ h1.size := Nat.le_trans Z0 E1.1
  have V1 : Arv Z h1 b1 k1 .byte (1 : Int32) [(.int 0)] (.int 0) := (Arv.new A1 (by decide)).pad (pad_rep [] (.int 0) 1)
  have f4 := (Vc.ext E1)
  obtain ⟨_, _, ⟨T3, L3, k3, n3⟩, -, X3, ⟨Lc3, hQ3, l3, y3, z3⟩, st3⟩ := Jvm.LawKit.callS X1 hx (y := yn13) hown (mvT hZ (ow hw 69 rfl)) (mvT hZ (ow hw 70 rfl)) (mvT hZ (ow hw 67 rfl)) (mvT hZ (ow hw 71 rfl)) (by decide) (backOf (W := 0) (rm_cp1 l Z a0 hw [] oc b1 kC c0 k1 h1 n0 Zs2 f4 uc0 vc0 V1 g_b1 ne_oc_b1) hZ (ow hw 71 rfl) (ow hw 67 rfl) (by decide) (by decide)) (g := (mkF m 9 #[.val (.ref oc), .val (.int 0), .val (.int 1), .val (.ref b1), .unset, .unset] [(.int 1), (.int 0), (.ref b1), (.int 0), (.ref oc)])) rfl (by rw [hml]; rfl) (argsL := [(.ref oc), (.int 0), (.ref b1), (.int 0), (.int 1)]) (rest := []) (lenOf pd_10 rfl) rfl (by exact Nat.le_of_eq rfl) (hb hby d14_9) (fun _ _ => ⟨rfl, e1, (by decide : 1 + 0 ≤ _), (by decide : 1 + 0 ≤ _)⟩)
  dsimp only [Pt.U, Pt.locs, Pt.cells, Pt.slots] at X3 l3 y3 z3 st3 hQ3
  rw [l3, y3, z3] at X3
  obtain ⟨bb0, rfl, N3q, K3, Vb3, qbb0⟩ := hQ3
  have N3 := Fr.app N0 N3q
  have Zs5 : n0 ≤ T3.heap.size := Nat.le_trans Zs2 K3.1
  have hc17_6 : (1 : Int) = (1 : Int) := by decide
  subst hSS
  obtain ⟨fs, hr, q1, q2, q3, q4⟩ := X3.leave (v := some (.ref b1)) (fun h => by rw [Bd.returns] at h; cases h)
  refine ⟨_, _, pre0 _ ?_, q1, q2, _, _, rfl, ?_, ⟨_, rfl⟩, q3, q4.mono (by decide) (by decide)⟩
  · refine XS.iloadN X0.here hx rfl (hb hby d14_0) rfl ?_
    refine st1 _ ?_
    refine XS.astoreN X1.here hx rfl (hb hby d14_3) rfl rfl (l' := #[.val (.ref oc), .val (.int 0), .val (.int 1), .val (.ref b1), .unset, .unset]) rfl ?_
    refine XS.aloadN X1.here hx rfl (hb hby d14_4) rfl rfl ?_
    refine XS.iloadN X1.here hx rfl (hb hby d14_5) rfl ?_
    refine XS.aloadN X1.here hx rfl (hb hby d14_6) rfl rfl ?_
    refine XS.iconst X1.here hx rfl (hb hby d14_7) ?_
    refine XS.iloadN X1.here hx rfl (hb hby d14_8) rfl ?_
    refine st3 _ ?_
    refine XS.istore X3.here hx rfl (hb hby d14_12) rfl (l' := #[.val (.ref oc), .val (.int 0), .val (.int 1), .val (.ref b1), .val (.int 1), .unset]) rfl ?_
    refine XS.iload X3.here hx rfl (hb hby d14_14) rfl ?_
    refine XS.iloadN X3.here hx rfl (hb hby d14_16) rfl ?_
    refine XS.icmpYes X3.here hx rfl (pc0 := 17) (pc' := 57) rfl (hb hby d14_17) rfl (own_teq (a := (1 : Int32)) (b := (1 : Int32)) (by decide) (by decide) hc17_6).1 (by decide) (by decide) ?_
    refine XS.aloadN X3.here hx rfl (hb hby d14_57) rfl rfl ?_
    jvm_step X3.here [X3.here.top, hx, (hb hby d14_58), X3.method', Bd.returns, Value.isRef, FieldType.isReference]
    first | (intro acts; rw [hr _ acts rfl rfl rfl]) | rw [hr _ _ rfl rfl rfl]
    exact Steps.refl _
  · show Q_cm1 Z _ _ _ h0 n0 _ T3.heap _
    have f7 := (((Keep.refl h0 []).ext E1).trans K3 (allS (P := fun x => x ∈ [] ∨ h0.size ≤ x) (Or.inr sz_b1) all0))
    exact ⟨b1, _, bb0, rfl, N3, f7, g_b1, sz_b1, Vb3, qbb0⟩
theorem d16_0 : decode kc15 0 = .ok (.iload_n 1, 1) := by decide +kernel
theorem d16_1 : decode kc15 1 = .ok (.aload_n 0, 1) := by decide +kernel
theorem d16_2 : decode kc15 2 = .ok (.arraylength, 1) := by decide +kernel
theorem d16_3 : decode kc15 3 = .ok (.isub, 1) := by decide +kernel
theorem d16_4 : decode kc15 4 = .ok (.bipush 31, 2) := by decide +kernel
theorem d16_6 : decode kc15 6 = .ok (.iushr, 1) := by decide +kernel
theorem d16_7 : decode kc15 7 = .ok (.i2b, 1) := by decide +kernel
theorem d16_8 : decode kc15 8 = .ok (.ireturn, 1) := by decide +kernel
theorem ef_rm_cf1_0 (m : MethodId) (x0 : Addr) : entryFrame m #[(.ref x0), (.int 1)] 2 = mkF m 0 #[.val (.ref x0), .val (.int 1)] [] := by first | (simp [entryFrame, mkF, argsToLocals, Value.category]; done) | rfl
def Q_cf1_0 (Z : State) (ob : Addr) (kb : ClassId) (vs : List Value) (h0 : Heap) (n0 : Nat) (v : Option Value) (h : Heap) (L : List Loc) : Prop := ∃ z : Int32, v = some (.int z) ∧ (z = (0 : Int32)) ∧ Fr n0 L ∧ h = h0
theorem rm_cf1_0 (l : Launch) (Z : State) (a0 : Array Value) (hw : ∀ d ∈ tables_1, d.before a0 Z = true) (ws : List Jvm.Cond) (ob : Addr) (kb : ClassId) (vs : List Value) (h0 : Heap) (n0 : Nat) (Z0 : n0 ≤ h0.size) (Vb : Arv Z h0 ob kb .byte (1 : Int32) vs (.int 0)) :
    MetFree l yn15 (head1 (Jvm.Cond.code yn15 kc15 2 (some .byte) :: ws) ⟨0, 0, 0, 0⟩) (fun a U => a = #[(.ref ob), (.int 1)] ∧ Z.Warmed39 U.vm ∧ U.heap = h0) (fun _ _ _ _ _ => True) (fun _ U o U' => ∃ v L, o = .returned v ∧ Q_cf1_0 Z ob kb vs h0 n0 v U'.heap L ∧ FrameEnd U o U' L 0 0) := by
  refine MetFree.of_bodySF (plainFor_of_name pn_4) hisR ?_
  intro p e s m args below meth c s₁ Bd hml0 hP hK
  obtain ⟨rfl, hZ, hh⟩ := hP
  have hx := Bd.exec
  have hby := Bd.bytes
  have hml : c.maxLocals = 2 := hml0
  have hown : s.vm.findClass "java/lang/StringUTF16" = some m.cls := findClass_of_methodNamed Bd.named
  have hnm := (name_of_methodNamed Bd.named Bd.method).1
  have X0 : Stand p l e ⟨0, 0, 0, 0⟩ s m #[(.ref ob), (.int 1)] below meth c s₁ [] 0 0 := Stand.of_body Bd
  have e0 : s₁.heap = h0 := by rw [← hh, Bd.state]; rfl
  have N0 := Fr.nil n0
  obtain ⟨SS, hSS⟩ : ∃ S, S = s₁.setTop (entryFrame m #[(.ref ob), (.int 1)] 2) := ⟨_, rfl⟩
  have pre0 : oP p e below (s₁.setTop (mkF m 0 #[.val (.ref ob), .val (.int 1)] [])) (SS) := by
    rw [hSS]; exact fun t k => castTop (ef_rm_cf1_0 m ob) k
  obtain ⟨cl1, Ar1, q1, S1, M1, H1, G1⟩ := id Vb
  subst hSS
  obtain ⟨fs, hr, q1, q2, q3, q4⟩ := X0.leave (v := some (.int 0)) (fun h => by rw [Bd.returns] at h; cases h)
  refine ⟨_, _, pre0 _ ?_, q1, q2, _, _, rfl, ?_, ⟨_, rfl⟩, q3, q4.mono (by decide) (by decide)⟩
  · refine XS.iloadN X0.here hx rfl (hb hby d16_0) rfl ?_
    refine XS.aloadN X0.here hx rfl (hb hby d16_1) rfl rfl ?_
    refine X0.arraylength hx (by rw [e0]; exact Ar1.1) (State.isArrayOf_alike hZ.alike Ar1.2.1) (g := (mkF m 2 #[.val (.ref ob), .val (.int 1)] [(.ref ob), (.int 1)])) rfl rfl (hb hby d16_2) _ ?_
    rw [len_of S1 M1]
    refine XS.isub X0.here hx rfl (hb hby d16_3) rfl ?_
    refine XS.bipush X0.here hx rfl (hb hby d16_4) ?_
    refine XS.iushr X0.here hx rfl (hb hby d16_6) rfl ?_
    refine XS.i2b X0.here hx rfl (hb hby d16_7) rfl ?_
    exact retN X0 hx (t := .byte) Bd.returns (by simp) (hb hby d16_8) hr
  · show Q_cf1_0 Z _ _ _ h0 n0 _ s₁.heap _
    rw [e0]
    exact ⟨_, rfl, rfl, N0, rfl⟩
theorem d12_27 : decode kc11 27 = .ok (.getstatic 38, 3) := by decide +kernel
theorem d12_30 : decode kc11 30 = .ok (.ifCond .eq 28, 3) := by decide +kernel
theorem d12_33 : decode kc11 33 = .ok (.aload_n 1, 1) := by decide +kernel
theorem d12_34 : decode kc11 34 = .ok (.iload_n 2, 1) := by decide +kernel
theorem d12_35 : decode kc11 35 = .ok (.iload_n 3, 1) := by decide +kernel
theorem d12_36 : decode kc11 36 = .ok (.invokestatic 177, 3) := by decide +kernel
theorem d12_39 : decode kc11 39 = .ok (.astore 5, 2) := by decide +kernel
theorem d12_41 : decode kc11 41 = .ok (.aload_n 0, 1) := by decide +kernel
theorem d12_42 : decode kc11 42 = .ok (.aload 5, 2) := by decide +kernel
theorem d12_44 : decode kc11 44 = .ok (.iload_n 3, 1) := by decide +kernel
theorem d12_45 : decode kc11 45 = .ok (.invokestatic 47, 3) := by decide +kernel
theorem d12_48 : decode kc11 48 = .ok (.putfield 15, 3) := by decide +kernel
theorem d12_51 : decode kc11 51 = .ok (.aload_n 0, 1) := by decide +kernel
theorem d12_52 : decode kc11 52 = .ok (.aload 5, 2) := by decide +kernel
theorem d12_54 : decode kc11 54 = .ok (.putfield 9, 3) := by decide +kernel
theorem d12_57 : decode kc11 57 = .ok (.return_, 1) := by decide +kernel
theorem ef_rm_iv1 (m : MethodId) (x0 : Addr) (x1 : Addr) : entryFrame m #[(.ref x0), (.ref x1), (.int 0), (.int 1), .null] 6 = mkF m 0 #[.val (.ref x0), .val (.ref x1), .val (.int 0), .val (.int 1), .val .null, .unset] [] := by first | (simp [entryFrame, mkF, argsToLocals, Value.category]; done) | rfl
theorem pd_11 : parseMethodDescriptor "([CII)[B" = some ⟨[(.array .char), .int, .int], some (.array .byte)⟩ := by decide +kernel
theorem pd_12 : parseMethodDescriptor "([BI)B" = some ⟨[(.array .byte), .int], some .byte⟩ := by decide +kernel
def Q_iv1 (Z : State) (oa : Addr) (oc : Addr) (vcs : Int32) (vf : Value) (kC : ClassId) (c0 : Int32) (h0 : Heap) (n0 : Nat) (v : Option Value) (h : Heap) (L : List Loc) : Prop := v = none ∧ Fr n0 L ∧ Keep h0 h [oa] ∧ Exa Z h oa "java/lang/String" ∧ ∃ (ob : Addr) (kb : ClassId) (bb0 : Int32), n0 ≤ ob ∧ h0.size ≤ ob ∧ Fld Z h oa "java/lang/String" "coder" "B" (.int 0) ∧ Fld Z h oa "java/lang/String" "value" "[B" (.ref ob) ∧ Arv Z h ob kb .byte (1 : Int32) [(.int bb0)] (.int 0) ∧ bb0.toInt % 256 = c0.toInt
theorem rm_iv1 (l : Launch) (Z : State) (a0 : Array Value) (hw : ∀ d ∈ tables_1, d.before a0 Z = true) (ws : List Jvm.Cond) (oa : Addr) (oc : Addr) (vcs : Int32) (vf : Value) (kC : ClassId) (c0 : Int32) (h0 : Heap) (n0 : Nat) (Z0 : n0 ≤ h0.size) (Os : own_st Z h0 vcs vf) (Es : Exa Z h0 oa "java/lang/String") (Fc : Fld Z h0 oa "java/lang/String" "coder" "B" (.int 0)) (Fv : Fld Z h0 oa "java/lang/String" "value" "[B" .null) (ga : n0 ≤ oa) (nac : oa ≠ oc) (Vc : Arv Z h0 oc kC .char (1 : Int32) [(.int c0)] (.int 0)) (uc0 : 0 ≤ c0.toInt) (vc0 : c0.toInt ≤ 255) :
    MetFree l yn11 (head1 (Jvm.Cond.code yn11 kc11 6 none :: ws) ⟨2, 1, 1, 35⟩) (fun a U => a = #[(.ref oa), (.ref oc), (.int 0), (.int 1), .null] ∧ Z.Warmed39 U.vm ∧ U.heap = h0) (fun _ _ _ _ _ => True) (fun _ U o U' => ∃ v L, o = .returned v ∧ Q_iv1 Z oa oc vcs vf kC c0 h0 n0 v U'.heap L ∧ FrameEnd U o U' L 1 1) := by
  refine MetFree.of_bodySF (plainFor_of_name pn_1) hisR ?_
  intro p e s m args below meth c s₁ Bd hml0 hP hK
  obtain ⟨rfl, hZ, hh⟩ := hP
  have hx := Bd.exec
  have hby := Bd.bytes
  have hml : c.maxLocals = 6 := hml0
  have hown : s.vm.findClass "java/lang/String" = some m.cls := findClass_of_methodNamed Bd.named
  have hnm := (name_of_methodNamed Bd.named Bd.method).1
  have X0 : Stand p l e ⟨2, 1, 1, 35⟩ s m #[(.ref oa), (.ref oc), (.int 0), (.int 1), .null] below meth c s₁ [] 0 0 := Stand.of_body Bd
  have e0 : s₁.heap = h0 := by rw [← hh, Bd.state]; rfl
  have N0 := Fr.nil n0
  obtain ⟨SS, hSS⟩ : ∃ S, S = s₁.setTop (entryFrame m #[(.ref oa), (.ref oc), (.int 0), (.int 1), .null] 6) := ⟨_, rfl⟩
  have pre0 : oP p e below (s₁.setTop (mkF m 0 #[.val (.ref oa), .val (.ref oc), .val (.int 0), .val (.int 1), .val .null, .unset] [])) (SS) := by
    rw [hSS]; exact fun t k => castTop (ef_rm_iv1 m oa oc) k
  obtain ⟨T1, X1, e1, st1⟩ := initO X0 hx hZ hown (ow hw 62 rfl) (ow hw 63 rfl) (ow hw 64 rfl) e0 (g := (mkF m 1 #[.val (.ref oa), .val (.ref oc), .val (.int 0), .val (.int 1), .val .null, .unset] [(.ref oa)])) rfl (by rw [hml]; rfl) rfl (hb hby d12_1) (by decide) (W := 0) (by exact Nat.le_of_eq rfl) (by decide)
  have hc5_2 : ¬ ((1 : Int) = (0 : Int)) := by decide
  obtain ⟨T3, X3, e3, st3⟩ := getS2 X1 hx hZ hown (host := "") (Or.inl (ow hw 19 rfl)) Via.refl e1 Os.1 (g := (mkF m 27 #[.val (.ref oa), .val (.ref oc), .val (.int 0), .val (.int 1), .val .null, .unset] [])) rfl (hb hby d12_27)
  have hc30_4 : ¬ (vcs.toInt = (0 : Int)) := by (have q := Os.2.1; omega)
  obtain ⟨_, _, ⟨T5, L5, k5, n5⟩, -, X5, ⟨Lc5, hQ5, l5, y5, z5⟩, st5⟩ := Jvm.LawKit.callS X3 hx (y := yn14) hown (mvT hZ (ow hw 65 rfl)) (mvT hZ (ow hw 66 rfl)) (mvT hZ (ow hw 67 rfl)) (mvT hZ (ow hw 68 rfl)) (by decide) (backOf (W := 0) (rm_cm1 l Z a0 hw [] oc kC c0 h0 n0 Z0 Vc uc0 vc0) hZ (ow hw 68 rfl) (ow hw 67 rfl) (by decide) (by decide)) (g := (mkF m 36 #[.val (.ref oa), .val (.ref oc), .val (.int 0), .val (.int 1), .val .null, .unset] [(.int 1), (.int 0), (.ref oc)])) rfl (by rw [hml]; rfl) (argsL := [(.ref oc), (.int 0), (.int 1)]) (rest := []) (lenOf pd_11 rfl) rfl (by exact Nat.le_of_eq rfl) (hb hby d12_36) (fun _ _ => ⟨rfl, e3, (by decide : 0 + 1 ≤ _), (by decide : 0 + 1 ≤ _)⟩)
  dsimp only [Pt.U, Pt.locs, Pt.cells, Pt.slots] at X5 l5 y5 z5 st5 hQ5
  rw [l5, y5, z5] at X5
  obtain ⟨ob, kb, bb0, rfl, N5q, K5, gb, szb, Vb5, qbb0⟩ := hQ5
  have N5 := Fr.app N0 N5q
  have Zs6 : n0 ≤ T5.heap.size := Nat.le_trans Z0 K5.1
  have ne_oa_ob : oa ≠ ob := Nat.ne_of_lt (Nat.lt_of_lt_of_le Es.lt szb)
  have ne_oc_ob : oc ≠ ob := Nat.ne_of_lt (Nat.lt_of_lt_of_le Vc.lt szb)
  have sz_ob : h0.size ≤ ob := Nat.le_trans (Keep.refl h0 [oa]).1 szb
  obtain ⟨_, _, ⟨T7, L7, k7, n7⟩, -, X7, ⟨Lc7, hQ7, l7, y7, z7⟩, st7⟩ := Jvm.LawKit.callS X5 hx (y := yn15) hown (mvT hZ (ow hw 72 rfl)) (mvT hZ (ow hw 73 rfl)) (mvT hZ (ow hw 67 rfl)) (mvT hZ (ow hw 74 rfl)) (by decide) (backOf (W := 1) (rm_cf1_0 l Z a0 hw [] ob kb [(.int bb0)] T5.heap n0 Zs6 Vb5) hZ (ow hw 74 rfl) (ow hw 67 rfl) (by decide) (by decide)) (g := (mkF m 45 #[.val (.ref oa), .val (.ref oc), .val (.int 0), .val (.int 1), .val .null, .val (.ref ob)] [(.int 1), (.ref ob), (.ref oa)])) rfl (by rw [hml]; rfl) (argsL := [(.ref ob), (.int 1)]) (rest := [(.ref oa)]) (lenOf pd_12 rfl) rfl (by exact Nat.le_of_eq rfl) (hb hby d12_45) (fun _ _ => ⟨rfl, rfl, (by decide : 1 + 0 ≤ _), (by decide : 1 + 0 ≤ _)⟩)
  dsimp only [Pt.U, Pt.locs, Pt.cells, Pt.slots] at X7 l7 y7 z7 st7 hQ7
  rw [l7, y7, z7] at X7
  obtain ⟨zf, rfl, hzf, N7q, e7⟩ := hQ7
  have N7 := Fr.app N5 N7q
  have pre8 : oP p e below (T7.setTop (mkF m 48 #[.val (.ref oa), .val (.ref oc), .val (.int 0), .val (.int 1), .val .null, .val (.ref ob)] [(.int zf), (.ref oa)])) (SS) := fun t kt => by
    refine pre0 _ ?_
    refine XS.aloadN X0.here hx rfl (hb hby d12_0) rfl rfl ?_
    refine st1 _ ?_
    refine XS.iloadN X1.here hx rfl (hb hby d12_4) rfl ?_
    refine XS.ifYes X1.here hx rfl (pc0 := 5) (pc' := 27) rfl (hb hby d12_5) rfl (own_if (own_feq (a := (1 : Int32)) (b := (0 : Int32)) (by decide) (by decide) hc5_2).2) (by decide) (by decide) ?_
    refine st3 _ ?_
    refine XS.ifNo X3.here hx rfl (hb hby d12_30) rfl (own_if (own_feq (a := vcs) (b := (0 : Int32)) rfl (by decide) hc30_4).1) ?_
    refine XS.aloadN X3.here hx rfl (hb hby d12_33) rfl rfl ?_
    refine XS.iloadN X3.here hx rfl (hb hby d12_34) rfl ?_
    refine XS.iloadN X3.here hx rfl (hb hby d12_35) rfl ?_
    refine st5 _ ?_
    refine XS.astore X5.here hx rfl (hb hby d12_39) rfl rfl (l' := #[.val (.ref oa), .val (.ref oc), .val (.int 0), .val (.int 1), .val .null, .val (.ref ob)]) rfl ?_
    refine XS.aloadN X5.here hx rfl (hb hby d12_41) rfl rfl ?_
    refine XS.aload X5.here hx rfl (hb hby d12_42) rfl rfl ?_
    refine XS.iloadN X5.here hx rfl (hb hby d12_44) rfl ?_
    refine st7 _ ?_
    exact kt
  subst hzf
  have pre9 : oP p e below (T7.setTop (mkF m 48 #[.val (.ref oa), .val (.ref oc), .val (.int 0), .val (.int 1), .val .null, .val (.ref ob)] [(.int 0), (.ref oa)])) (SS) := pre8
  have f10 := (Fc.keep K5 nin0)
  have f11 := (Es.keep K5)
  obtain ⟨T12, h12, X12, e12, W12, st12⟩ := putFN X7 hx hZ hown (ow hw 20 rfl) Via.refl e7 f10 f11 (Or.inr ⟨(ow hw 5 rfl), rfl, hnm⟩) (ow hw 2 rfl) (ty := .byte) (v' := (.int 0)) (by decide) rfl rfl (g := (mkF m 48 #[.val (.ref oa), .val (.ref oc), .val (.int 0), .val (.int 1), .val .null, .val (.ref ob)] [(.int 0), (.ref oa)])) rfl rfl (hb hby d12_48)
  have N12 := Fr.snoc X12 N7 ga
  have Zs13 : n0 ≤ h12.size := by rw [W12.size]; exact Zs6
  have Fw12 := f10.same W12
  have f14 := ((Fv.keep K5 nin0).other W12 (Or.inr (slot_ne (Or.inr (ow hw 4 rfl)) (Or.inr (ow hw 5 rfl)) (by decide) (t := (.array .byte)) (t' := .byte) (by decide) (by decide))))
  have f15 := (f11.wr W12)
  obtain ⟨T16, h16, X16, e16, W16, st16⟩ := putF X12 hx hZ hown (host := "") (Or.inl (ow hw 13 rfl)) Via.refl e12 f14 f15 (Or.inr ⟨(ow hw 4 rfl), rfl, hnm⟩) (ow hw 2 rfl) (ty := (.array .byte)) (by decide) rfl rfl (g := (mkF m 54 #[.val (.ref oa), .val (.ref oc), .val (.int 0), .val (.int 1), .val .null, .val (.ref ob)] [(.ref ob), (.ref oa)])) rfl rfl (hb hby d12_54)
  have N16 := Fr.snoc X16 N12 ga
  have Zs17 : n0 ≤ h16.size := by rw [W16.size]; exact Zs13
  have Fw16 := f14.same W16
  subst hSS
  obtain ⟨fs, hr, q1, q2, q3, q4⟩ := X16.leave (v := none) (fun _ => rfl)
  refine ⟨_, _, pre9 _ ?_, q1, q2, _, _, rfl, ?_, ⟨_, rfl⟩, q3, q4.mono (by decide) (by decide)⟩
  · refine st12 _ ?_
    refine XS.aloadN X12.here hx rfl (hb hby d12_51) rfl rfl ?_
    refine XS.aload X12.here hx rfl (hb hby d12_52) rfl rfl ?_
    refine st16 _ ?_
    show Steps p.tables e below (T16.setTop (mkF m 57 #[.val (.ref oa), .val (.ref oc), .val (.int 0), .val (.int 1), .val .null, .val (.ref ob)] [])) _
    exact X16.returnOut hx Bd.returns (hb hby d12_57) hr
  · show Q_iv1 Z _ _ _ _ _ _ h0 n0 _ T16.heap _
    rw [e16]
    have f18 := ((((Keep.refl h0 [oa]).trans K5 all0).wr W12 (Or.inl (List.mem_of_getElem? (i := 0) rfl))).wr W16 (Or.inl (List.mem_of_getElem? (i := 0) rfl)))
    have f19 := (f15.wr W16)
    have f20 := (Fw12.other W16 (Or.inr (slot_ne (Or.inr (ow hw 5 rfl)) (Or.inr (ow hw 4 rfl)) (by decide) (t := .byte) (t' := (.array .byte)) (by decide) (by decide))))
    have f21 := ((Vb5.other W12 (Ne.symm ne_oa_ob)).other W16 (Ne.symm ne_oa_ob))
    exact ⟨rfl, N16, f18, f19, ob, kb, bb0, gb, sz_ob, f20, Fw16, f21, qbb0⟩
theorem ef_rm_mk1 (m : MethodId) (x0 : Addr) (x1 : Addr) : entryFrame m #[(.ref x0), (.ref x1)] 2 = mkF m 0 #[.val (.ref x0), .val (.ref x1)] [] := by first | (simp [entryFrame, mkF, argsToLocals, Value.category]; done) | rfl
def Q_mk1 (Z : State) (oa : Addr) (oc : Addr) (vcs : Int32) (vf : Value) (kC : ClassId) (c0 : Int32) (h0 : Heap) (n0 : Nat) (v : Option Value) (h : Heap) (L : List Loc) : Prop := v = none ∧ Fr n0 L ∧ Keep h0 h [oa] ∧ Exa Z h oa "java/lang/String" ∧ ∃ (ob : Addr) (kb : ClassId) (bb0 : Int32), n0 ≤ ob ∧ h0.size ≤ ob ∧ Fld Z h oa "java/lang/String" "coder" "B" (.int 0) ∧ Fld Z h oa "java/lang/String" "value" "[B" (.ref ob) ∧ Arv Z h ob kb .byte (1 : Int32) [(.int bb0)] (.int 0) ∧ bb0.toInt % 256 = c0.toInt
theorem rm_mk1 (l : Launch) (Z : State) (a0 : Array Value) (hw : ∀ d ∈ tables_1, d.before a0 Z = true) (ws : List Jvm.Cond) (oa : Addr) (oc : Addr) (vcs : Int32) (vf : Value) (kC : ClassId) (c0 : Int32) (h0 : Heap) (n0 : Nat) (Z0 : n0 ≤ h0.size) (Os : own_st Z h0 vcs vf) (Es : Exa Z h0 oa "java/lang/String") (Fc : Fld Z h0 oa "java/lang/String" "coder" "B" (.int 0)) (Fv : Fld Z h0 oa "java/lang/String" "value" "[B" .null) (ga : n0 ≤ oa) (nac : oa ≠ oc) (Vc : Arv Z h0 oc kC .char (1 : Int32) [(.int c0)] (.int 0)) (uc0 : 0 ≤ c0.toInt) (vc0 : c0.toInt ≤ 255) :
    MetFree l yn12 (head1 (Jvm.Cond.code yn12 kc12 2 none :: ws) ⟨3, 1, 1, 52⟩) (fun a U => a = #[(.ref oa), (.ref oc)] ∧ Z.Warmed39 U.vm ∧ U.heap = h0) (fun _ _ _ _ _ => True) (fun _ U o U' => ∃ v L, o = .returned v ∧ Q_mk1 Z oa oc vcs vf kC c0 h0 n0 v U'.heap L ∧ FrameEnd U o U' L 1 1) := by
  refine MetFree.of_bodySF (plainFor_of_name pn_1) hisR ?_
  intro p e s m args below meth c s₁ Bd hml0 hP hK
  obtain ⟨rfl, hZ, hh⟩ := hP
  have hx := Bd.exec
  have hby := Bd.bytes
  have hml : c.maxLocals = 2 := hml0
  have hown : s.vm.findClass "java/lang/String" = some m.cls := findClass_of_methodNamed Bd.named
  have hnm := (name_of_methodNamed Bd.named Bd.method).1
  have X0 : Stand p l e ⟨3, 1, 1, 52⟩ s m #[(.ref oa), (.ref oc)] below meth c s₁ [] 0 0 := Stand.of_body Bd
  have e0 : s₁.heap = h0 := by rw [← hh, Bd.state]; rfl
  have N0 := Fr.nil n0
  obtain ⟨SS, hSS⟩ : ∃ S, S = s₁.setTop (entryFrame m #[(.ref oa), (.ref oc)] 2) := ⟨_, rfl⟩
  have pre0 : oP p e below (s₁.setTop (mkF m 0 #[.val (.ref oa), .val (.ref oc)] [])) (SS) := by
    rw [hSS]; exact fun t k => castTop (ef_rm_mk1 m oa oc) k
  obtain ⟨cl1, Ar1, q1, S1, M1, H1, G1⟩ := id Vc
  obtain ⟨_, _, ⟨T2, L2, k2, n2⟩, -, X2, ⟨Lc2, hQ2, l2, y2, z2⟩, st2⟩ := X0.specialBack hx (y := yn11) rfl hown (mvT hZ (ow hw 58 rfl)) (mvT hZ (ow hw 59 rfl)) (mvT hZ (ow hw 61 rfl)) (by decide) (backOf (W := 0) (rm_iv1 l Z a0 hw [] oa oc vcs vf kC c0 h0 n0 Z0 Os Es Fc Fv ga nac Vc uc0 vc0) hZ (ow hw 61 rfl) (ow hw 1 rfl) (by decide) (by decide)) (g := (mkF m 6 #[.val (.ref oa), .val (.ref oc)] [.null, (.int 1), (.int 0), (.ref oc), (.ref oa)])) rfl (by rw [hml]; rfl) (Steps.refl _) (a := oa) (argsL := [(.ref oc), (.int 0), (.int 1), .null]) (rest := []) (lenOf pd_9 rfl) rfl (by exact Nat.le_of_eq rfl) (hb hby d11_6) (fun _ _ => ⟨rfl, e0, (by decide : 0 + 1 ≤ _), (by decide : 0 + 1 ≤ _)⟩)
  dsimp only [Pt.U, Pt.locs, Pt.cells, Pt.slots] at X2 l2 y2 z2 st2 hQ2
  rw [l2, y2, z2] at X2
  obtain ⟨rfl, N2q, K2, A2, ob, kb, bb0, gb, szb, Fc2, Fv2, Vb2, qbb0⟩ := hQ2
  have N2 := Fr.app N0 N2q
  have Zs3 : n0 ≤ T2.heap.size := Nat.le_trans Z0 K2.1
  have ne_oa_ob : oa ≠ ob := Nat.ne_of_lt (Nat.lt_of_lt_of_le Es.lt szb)
  have ne_oc_ob : oc ≠ ob := Nat.ne_of_lt (Nat.lt_of_lt_of_le Vc.lt szb)
  have sz_ob : h0.size ≤ ob := Nat.le_trans (Keep.refl h0 [oa]).1 szb
  subst hSS
  obtain ⟨fs, hr, q1, q2, q3, q4⟩ := X2.leave (v := none) (fun _ => rfl)
  refine ⟨_, _, pre0 _ ?_, q1, q2, _, _, rfl, ?_, ⟨_, rfl⟩, q3, q4.mono (by decide) (by decide)⟩
  · refine XS.aloadN X0.here hx rfl (hb hby d11_0) rfl rfl ?_
    refine XS.aloadN X0.here hx rfl (hb hby d11_1) rfl rfl ?_
    refine XS.iconst X0.here hx rfl (hb hby d11_2) ?_
    refine XS.aloadN X0.here hx rfl (hb hby d11_3) rfl rfl ?_
    refine X0.arraylength hx (by rw [e0]; exact Ar1.1) (State.isArrayOf_alike hZ.alike Ar1.2.1) (g := (mkF m 4 #[.val (.ref oa), .val (.ref oc)] [(.ref oc), (.int 0), (.ref oc), (.ref oa)])) rfl rfl (hb hby d11_4) _ ?_
    rw [len_of S1 M1]
    refine XS.aconstNull X0.here hx rfl (hb hby d11_5) ?_
    refine st2.trans ?_
    exact X2.returnOut hx Bd.returns (hb hby d11_9) hr
  · show Q_mk1 Z _ _ _ _ _ _ h0 n0 _ T2.heap _
    have f4 := ((Keep.refl h0 [oa]).trans K2 (allS (P := fun x => x ∈ [oa] ∨ h0.size ≤ x) (Or.inl (List.mem_of_getElem? (i := 0) rfl)) all0))
    exact ⟨rfl, N2, f4, A2, ob, kb, bb0, gb, sz_ob, Fc2, Fv2, Vb2, qbb0⟩
theorem ef_rm_cp2 (m : MethodId) (x0 : Addr) (x2 : Addr) : entryFrame m #[(.ref x0), (.int 0), (.ref x2), (.int 0), (.int 2)] 7 = mkF m 0 #[.val (.ref x0), .val (.int 0), .val (.ref x2), .val (.int 0), .val (.int 2), .unset, .unset] [] := by first | (simp [entryFrame, mkF, argsToLocals, Value.category]; done) | rfl
def Q_cp2 (Z : State) (oc : Addr) (ob : Addr) (kC : ClassId) (c0 : Int32) (c1 : Int32) (kb : ClassId) (h0 : Heap) (n0 : Nat) (v : Option Value) (h : Heap) (L : List Loc) : Prop := ∃ bb0 bb1 : Int32, v = some (.int 2) ∧ Fr n0 L ∧ Keep h0 h [ob] ∧ Arv Z h ob kb .byte (2 : Int32) [(.int bb0), (.int bb1)] (.int 0) ∧ bb0.toInt % 256 = c0.toInt ∧ bb1.toInt % 256 = c1.toInt
theorem rm_cp2 (l : Launch) (Z : State) (a0 : Array Value) (hw : ∀ d ∈ tables_1, d.before a0 Z = true) (ws : List Jvm.Cond) (oc : Addr) (ob : Addr) (kC : ClassId) (c0 : Int32) (c1 : Int32) (kb : ClassId) (h0 : Heap) (n0 : Nat) (Z0 : n0 ≤ h0.size) (Vc : Arv Z h0 oc kC .char (2 : Int32) [(.int c0), (.int c1)] (.int 0)) (uc0 : 0 ≤ c0.toInt) (uc1 : 0 ≤ c1.toInt) (vc0 : c0.toInt ≤ 255) (vc1 : c1.toInt ≤ 255) (Vb : Arv Z h0 ob kb .byte (2 : Int32) [(.int 0), (.int 0)] (.int 0)) (gb : n0 ≤ ob) (ncb : oc ≠ ob) :
    MetFree l yn13 (head1 (Jvm.Cond.code yn13 kc13 7 (some .int) :: ws) ⟨0, 0, 0, 0⟩) (fun a U => a = #[(.ref oc), (.int 0), (.ref ob), (.int 0), (.int 2)] ∧ Z.Warmed39 U.vm ∧ U.heap = h0) (fun _ _ _ _ _ => True) (fun _ U o U' => ∃ v L, o = .returned v ∧ Q_cp2 Z oc ob kC c0 c1 kb h0 n0 v U'.heap L ∧ FrameEnd U o U' L 0 0) := by
  refine MetFree.of_bodySF (plainFor_of_name pn_4) hisR ?_
  intro p e s m args below meth c s₁ Bd hml0 hP hK
  obtain ⟨rfl, hZ, hh⟩ := hP
  have hx := Bd.exec
  have hby := Bd.bytes
  have hml : c.maxLocals = 7 := hml0
  have hown : s.vm.findClass "java/lang/StringUTF16" = some m.cls := findClass_of_methodNamed Bd.named
  have hnm := (name_of_methodNamed Bd.named Bd.method).1
  have X0 : Stand p l e ⟨0, 0, 0, 0⟩ s m #[(.ref oc), (.int 0), (.ref ob), (.int 0), (.int 2)] below meth c s₁ [] 0 0 := Stand.of_body Bd
  have e0 : s₁.heap = h0 := by rw [← hh, Bd.state]; rfl
  have N0 := Fr.nil n0
  obtain ⟨SS, hSS⟩ : ∃ S, S = s₁.setTop (entryFrame m #[(.ref oc), (.int 0), (.ref ob), (.int 0), (.int 2)] 7) := ⟨_, rfl⟩
  have pre0 : oP p e below (s₁.setTop (mkF m 0 #[.val (.ref oc), .val (.int 0), .val (.ref ob), .val (.int 0), .val (.int 2), .unset, .unset] [])) (SS) := by
    rw [hSS]; exact fun t k => castTop (ef_rm_cp2 m oc ob) k
  have hc7_1 : (0 : Int) < (2 : Int) := by decide
  obtain ⟨cl2, Ar2, q2, S2, M2, H2, G2⟩ := id Vc
  have hin2 : ¬ ((0 : Int32) < 0 ∨ cl2.slots.size ≤ ((0 : Int32)).toNatClampNeg) := inb_of S2 ⟨by decide, by decide⟩
  have hat2 : cl2.slots[((0 : Int32)).toNatClampNeg]? = some (.int c0) := Has.at H2 hin2 rfl
  have hc20_3 : ¬ ((255 : Int) < c0.toInt) := by omega
  obtain ⟨cl4, Ar4, q4, S4, M4, H4, G4⟩ := id Vb
  have hin4 : ¬ ((0 : Int32) < 0 ∨ cl4.slots.size ≤ ((0 : Int32)).toNatClampNeg) := inb_of S4 ⟨by decide, by decide⟩
  obtain ⟨T5, h5, X5, e5, W5, st5⟩ := stB X0 hx hZ e0 Ar4 (j := (0 : Int32)) hin4 (g := (mkF m 31 #[.val (.ref oc), .val (.int 0), .val (.ref ob), .val (.int 0), .val (.int 2), .val (.int 0), .val (.int c0)] [(.int (c0.toInt8.toInt32)), (.int 0), (.ref ob)])) rfl rfl (hb hby d15_31)
  have N5 := Fr.snoc X5 N0 gb
  have Zs6 : n0 ≤ h5.size := by rw [W5.size]; exact Z0
  have V5 : Arv Z h5 ob kb .byte (2 : Int32) [(.int (nar .byte (c0.toInt8.toInt32))), (.int 0)] (.int 0) := Arv.set Ar4 q4 S4 M4 H4 G4 (fits_nar_byte _) W5 0 rfl (Nat.le_of_ble_eq_true rfl)
  have hc7_7 : (1 : Int) < (2 : Int) := by decide
  have f8 := (Vc.other W5 ncb)
  obtain ⟨cl9, Ar9, q9, S9, M9, H9, G9⟩ := id f8
  have hin9 : ¬ ((1 : Int32) < 0 ∨ cl9.slots.size ≤ ((1 : Int32)).toNatClampNeg) := inb_of S9 ⟨by decide, by decide⟩
  have hat9 : cl9.slots[((1 : Int32)).toNatClampNeg]? = some (.int c1) := Has.at H9 hin9 rfl
  have hc20_10 : ¬ ((255 : Int) < c1.toInt) := by omega
  obtain ⟨cl11, Ar11, q11, S11, M11, H11, G11⟩ := id V5
  have hin11 : ¬ ((1 : Int32) < 0 ∨ cl11.slots.size ≤ ((1 : Int32)).toNatClampNeg) := inb_of S11 ⟨by decide, by decide⟩
  obtain ⟨T12, h12, X12, e12, W12, st12⟩ := stB X5 hx hZ e5 Ar11 (j := (1 : Int32)) hin11 (g := (mkF m 31 #[.val (.ref oc), .val (.int 1), .val (.ref ob), .val (.int 1), .val (.int 2), .val (.int 1), .val (.int c1)] [(.int (c1.toInt8.toInt32)), (.int 1), (.ref ob)])) rfl rfl (hb hby d15_31)
  have N12 := Fr.snoc X12 N5 gb
  have Zs13 : n0 ≤ h12.size := by rw [W12.size]; exact Zs6
  have V12 : Arv Z h12 ob kb .byte (2 : Int32) [(.int (nar .byte (c0.toInt8.toInt32))), (.int (nar .byte (c1.toInt8.toInt32)))] (.int 0) := Arv.set Ar11 q11 S11 M11 H11 G11 (fits_nar_byte _) W12 1 rfl (Nat.le_of_ble_eq_true rfl)
  have hc7_14 : ¬ ((2 : Int) < (2 : Int)) := by decide
  subst hSS
  obtain ⟨fs, hr, q1, q2, q3, q4⟩ := X12.leave (v := some (.int 2)) (fun h => by rw [Bd.returns] at h; cases h)
  refine ⟨_, _, pre0 _ ?_, q1, q2, _, _, rfl, ?_, ⟨_, rfl⟩, q3, q4.mono (by decide) (by decide)⟩
  · refine XS.iconst X0.here hx rfl (hb hby d15_0) ?_
    refine XS.istore X0.here hx rfl (hb hby d15_1) rfl (l' := #[.val (.ref oc), .val (.int 0), .val (.ref ob), .val (.int 0), .val (.int 2), .val (.int 0), .unset]) rfl ?_
    refine XS.iload X0.here hx rfl (hb hby d15_3) rfl ?_
    refine XS.iload X0.here hx rfl (hb hby d15_5) rfl ?_
    refine XS.icmpNo X0.here hx rfl (hb hby d15_7) rfl (own_tlt (a := (0 : Int32)) (b := (2 : Int32)) (by decide) (by decide) hc7_1).2.1 ?_
    refine XS.aloadN X0.here hx rfl (hb hby d15_10) rfl rfl ?_
    refine XS.iloadN X0.here hx rfl (hb hby d15_11) rfl ?_
    refine X0.caload hx (j := (0 : Int32)) (v := (.int c0)) (by rw [e0]; exact Ar2.1) (State.isArrayOf_alike hZ.alike Ar2.2.1) Ar2.2.2 hin2 hat2 (g := (mkF m 12 #[.val (.ref oc), .val (.int 0), .val (.ref ob), .val (.int 0), .val (.int 2), .val (.int 0), .unset] [(.int 0), (.ref oc)])) rfl rfl (hb hby d15_12) _ ?_
    refine XS.istore X0.here hx rfl (hb hby d15_13) rfl (l' := #[.val (.ref oc), .val (.int 0), .val (.ref ob), .val (.int 0), .val (.int 2), .val (.int 0), .val (.int c0)]) rfl ?_
    refine XS.iload X0.here hx rfl (hb hby d15_15) rfl ?_
    refine XS.sipush X0.here hx rfl (hb hby d15_17) ?_
    refine XS.icmpYes X0.here hx rfl (pc0 := 20) (pc' := 26) rfl (hb hby d15_20) rfl (own_flt (a := (255 : Int32)) (b := c0) (by decide) rfl hc20_3).2.2.2 (by decide) (by decide) ?_
    refine XS.aloadN X0.here hx rfl (hb hby d15_26) rfl rfl ?_
    refine XS.iloadN X0.here hx rfl (hb hby d15_27) rfl ?_
    refine XS.iload X0.here hx rfl (hb hby d15_28) rfl ?_
    refine XS.i2b X0.here hx rfl (hb hby d15_30) rfl ?_
    refine st5 _ ?_
    refine XS.iinc X5.here hx rfl (hb hby d15_32) rfl (l' := #[.val (.ref oc), .val (.int 1), .val (.ref ob), .val (.int 0), .val (.int 2), .val (.int 0), .val (.int c0)]) rfl ?_
    refine XS.iinc X5.here hx rfl (hb hby d15_35) rfl (l' := #[.val (.ref oc), .val (.int 1), .val (.ref ob), .val (.int 1), .val (.int 2), .val (.int 0), .val (.int c0)]) rfl ?_
    show Steps p.tables e below (T5.setTop (mkF m 38 #[.val (.ref oc), .val (.int 1), .val (.ref ob), .val (.int 1), .val (.int 2), .val (.int 0), .val (.int c0)] [])) _
    refine XS.iinc X5.here hx rfl (hb hby d15_38) rfl (l' := #[.val (.ref oc), .val (.int 1), .val (.ref ob), .val (.int 1), .val (.int 2), .val (.int 1), .val (.int c0)]) rfl ?_
    refine XS.goto X5.here hx rfl (pc0 := 41) (pc' := 3) rfl (hb hby d15_41) (by decide) (by decide) ?_
    refine XS.iload X5.here hx rfl (hb hby d15_3) rfl ?_
    refine XS.iload X5.here hx rfl (hb hby d15_5) rfl ?_
    refine XS.icmpNo X5.here hx rfl (hb hby d15_7) rfl (own_tlt (a := (1 : Int32)) (b := (2 : Int32)) (by decide) (by decide) hc7_7).2.1 ?_
    refine XS.aloadN X5.here hx rfl (hb hby d15_10) rfl rfl ?_
    refine XS.iloadN X5.here hx rfl (hb hby d15_11) rfl ?_
    refine X5.caload hx (j := (1 : Int32)) (v := (.int c1)) (by rw [e5]; exact Ar9.1) (State.isArrayOf_alike hZ.alike Ar9.2.1) Ar9.2.2 hin9 hat9 (g := (mkF m 12 #[.val (.ref oc), .val (.int 1), .val (.ref ob), .val (.int 1), .val (.int 2), .val (.int 1), .val (.int c0)] [(.int 1), (.ref oc)])) rfl rfl (hb hby d15_12) _ ?_
    refine XS.istore X5.here hx rfl (hb hby d15_13) rfl (l' := #[.val (.ref oc), .val (.int 1), .val (.ref ob), .val (.int 1), .val (.int 2), .val (.int 1), .val (.int c1)]) rfl ?_
    refine XS.iload X5.here hx rfl (hb hby d15_15) rfl ?_
    refine XS.sipush X5.here hx rfl (hb hby d15_17) ?_
    refine XS.icmpYes X5.here hx rfl (pc0 := 20) (pc' := 26) rfl (hb hby d15_20) rfl (own_flt (a := (255 : Int32)) (b := c1) (by decide) rfl hc20_10).2.2.2 (by decide) (by decide) ?_
    refine XS.aloadN X5.here hx rfl (hb hby d15_26) rfl rfl ?_
    refine XS.iloadN X5.here hx rfl (hb hby d15_27) rfl ?_
    refine XS.iload X5.here hx rfl (hb hby d15_28) rfl ?_
    refine XS.i2b X5.here hx rfl (hb hby d15_30) rfl ?_
    refine st12 _ ?_
    refine XS.iinc X12.here hx rfl (hb hby d15_32) rfl (l' := #[.val (.ref oc), .val (.int 2), .val (.ref ob), .val (.int 1), .val (.int 2), .val (.int 1), .val (.int c1)]) rfl ?_
    refine XS.iinc X12.here hx rfl (hb hby d15_35) rfl (l' := #[.val (.ref oc), .val (.int 2), .val (.ref ob), .val (.int 2), .val (.int 2), .val (.int 1), .val (.int c1)]) rfl ?_
    refine XS.iinc X12.here hx rfl (hb hby d15_38) rfl (l' := #[.val (.ref oc), .val (.int 2), .val (.ref ob), .val (.int 2), .val (.int 2), .val (.int 2), .val (.int c1)]) rfl ?_
    show Steps p.tables e below (T12.setTop (mkF m 41 #[.val (.ref oc), .val (.int 2), .val (.ref ob), .val (.int 2), .val (.int 2), .val (.int 2), .val (.int c1)] [])) _
    refine XS.goto X12.here hx rfl (pc0 := 41) (pc' := 3) rfl (hb hby d15_41) (by decide) (by decide) ?_
    refine XS.iload X12.here hx rfl (hb hby d15_3) rfl ?_
    refine XS.iload X12.here hx rfl (hb hby d15_5) rfl ?_
    refine XS.icmpYes X12.here hx rfl (pc0 := 7) (pc' := 44) rfl (hb hby d15_7) rfl (own_flt (a := (2 : Int32)) (b := (2 : Int32)) (by decide) (by decide) hc7_14).2.1 (by decide) (by decide) ?_
    refine XS.iload X12.here hx rfl (hb hby d15_44) rfl ?_
    exact retI X12 hx Bd.returns (hb hby d15_46) hr
  · show Q_cp2 Z _ _ _ _ _ _ h0 n0 _ T12.heap _
    rw [e12]
    have f15 := (((Keep.refl h0 [ob]).wr W5 (Or.inl (List.mem_of_getElem? (i := 0) rfl))).wr W12 (Or.inl (List.mem_of_getElem? (i := 0) rfl)))
    exact ⟨_, _, rfl, N12, f15, V12, own_b2 c0 uc0 vc0, own_b2 c1 uc1 vc1⟩
theorem ef_rm_cm2 (m : MethodId) (x0 : Addr) : entryFrame m #[(.ref x0), (.int 0), (.int 2)] 6 = mkF m 0 #[.val (.ref x0), .val (.int 0), .val (.int 2), .unset, .unset, .unset] [] := by first | (simp [entryFrame, mkF, argsToLocals, Value.category]; done) | rfl
def Q_cm2 (Z : State) (oc : Addr) (kC : ClassId) (c0 : Int32) (c1 : Int32) (h0 : Heap) (n0 : Nat) (v : Option Value) (h : Heap) (L : List Loc) : Prop := ∃ (ob : Addr) (kb : ClassId) (bb0 bb1 : Int32), v = some (.ref ob) ∧ Fr n0 L ∧ Keep h0 h [] ∧ n0 ≤ ob ∧ h0.size ≤ ob ∧ Arv Z h ob kb .byte (2 : Int32) [(.int bb0), (.int bb1)] (.int 0) ∧ bb0.toInt % 256 = c0.toInt ∧ bb1.toInt % 256 = c1.toInt
theorem rm_cm2 (l : Launch) (Z : State) (a0 : Array Value) (hw : ∀ d ∈ tables_1, d.before a0 Z = true) (ws : List Jvm.Cond) (oc : Addr) (kC : ClassId) (c0 : Int32) (c1 : Int32) (h0 : Heap) (n0 : Nat) (Z0 : n0 ≤ h0.size) (Vc : Arv Z h0 oc kC .char (2 : Int32) [(.int c0), (.int c1)] (.int 0)) (uc0 : 0 ≤ c0.toInt) (uc1 : 0 ≤ c1.toInt) (vc0 : c0.toInt ≤ 255) (vc1 : c1.toInt ≤ 255) :
    MetFree l yn14 (head1 (Jvm.Cond.code yn14 kc14 6 (some (.array .byte)) :: ws) ⟨1, 1, 2, 18⟩) (fun a U => a = #[(.ref oc), (.int 0), (.int 2)] ∧ Z.Warmed39 U.vm ∧ U.heap = h0) (fun _ _ _ _ _ => True) (fun _ U o U' => ∃ v L, o = .returned v ∧ Q_cm2 Z oc kC c0 c1 h0 n0 v U'.heap L ∧ FrameEnd U o U' L 1 2) := by
  refine MetFree.of_bodySF (plainFor_of_name pn_4) hisR ?_
  intro p e s m args below meth c s₁ Bd hml0 hP hK
  obtain ⟨rfl, hZ, hh⟩ := hP
  have hx := Bd.exec
  have hby := Bd.bytes
  have hml : c.maxLocals = 6 := hml0
  have hown : s.vm.findClass "java/lang/StringUTF16" = some m.cls := findClass_of_methodNamed Bd.named
  have hnm := (name_of_methodNamed Bd.named Bd.method).1
  have X0 : Stand p l e ⟨1, 1, 2, 18⟩ s m #[(.ref oc), (.int 0), (.int 2)] below meth c s₁ [] 0 0 := Stand.of_body Bd
  have e0 : s₁.heap = h0 := by rw [← hh, Bd.state]; rfl
  have N0 := Fr.nil n0
  obtain ⟨SS, hSS⟩ : ∃ S, S = s₁.setTop (entryFrame m #[(.ref oc), (.int 0), (.int 2)] 6) := ⟨_, rfl⟩
  have pre0 : oP p e below (s₁.setTop (mkF m 0 #[.val (.ref oc), .val (.int 0), .val (.int 2), .unset, .unset, .unset] [])) (SS) := by
    rw [hSS]; exact fun t k => castTop (ef_rm_cm2 m oc) k
  obtain ⟨T1, h1, k1, X1, e1, E1, A1, st1⟩ := newP X0 hx hZ (ow hw 3 rfl) e0 (g := (mkF m 1 #[.val (.ref oc), .val (.int 0), .val (.int 2), .unset, .unset, .unset] [(.int 2)])) rfl (hb hby d14_1) rfl (by decide) (cap := 2) (by decide) (by decide) (by decide) (by decide)
  obtain ⟨b1, g1⟩ : ∃ z, z = h0.size := ⟨_, rfl⟩
  have ne_oc_b1 : oc ≠ b1 := Nat.ne_of_lt (Nat.lt_of_lt_of_le Vc.lt (Nat.le_of_eq g1.symm))
  have g_b1 : n0 ≤ b1 := Nat.le_trans Z0 (Nat.le_of_eq g1.symm)
  have sz_b1 : h0.size ≤ b1 := Nat.le_trans (Keep.refl h0 []).1 (Nat.le_of_eq g1.symm)
  rw [← g1] at A1 st1
  have Zs2 : n0 ≤ h1.size := Nat.le_trans Z0 E1.1
  have V1 : Arv Z h1 b1 k1 .byte (2 : Int32) [(.int 0), (.int 0)] (.int 0) := (Arv.new A1 (by decide)).pad (pad_rep [] (.int 0) 2)
  have f4 := (Vc.ext E1)
  obtain ⟨_, _, ⟨T3, L3, k3, n3⟩, -, X3, ⟨Lc3, hQ3, l3, y3, z3⟩, st3⟩ := Jvm.LawKit.callS X1 hx (y := yn13) hown (mvT hZ (ow hw 69 rfl)) (mvT hZ (ow hw 70 rfl)) (mvT hZ (ow hw 67 rfl)) (mvT hZ (ow hw 71 rfl)) (by decide) (backOf (W := 0) (rm_cp2 l Z a0 hw [] oc b1 kC c0 c1 k1 h1 n0 Zs2 f4 uc0 uc1 vc0 vc1 V1 g_b1 ne_oc_b1) hZ (ow hw 71 rfl) (ow hw 67 rfl) (by decide) (by decide)) (g := (mkF m 9 #[.val (.ref oc), .val (.int 0), .val (.int 2), .val (.ref b1), .unset, .unset] [(.int 2), (.int 0), (.ref b1), (.int 0), (.ref oc)])) rfl (by rw [hml]; rfl) (argsL := [(.ref oc), (.int 0), (.ref b1), (.int 0), (.int 2)]) (rest := []) (lenOf pd_10 rfl) rfl (by exact Nat.le_of_eq rfl) (hb hby d14_9) (fun _ _ => ⟨rfl, e1, (by decide : 1 + 0 ≤ _), (by decide : 2 + 0 ≤ _)⟩)
  dsimp only [Pt.U, Pt.locs, Pt.cells, Pt.slots] at X3 l3 y3 z3 st3 hQ3
  rw [l3, y3, z3] at X3
  obtain ⟨bb0, bb1, rfl, N3q, K3, Vb3, qbb0, qbb1⟩ := hQ3
  have N3 := Fr.app N0 N3q
  have Zs5 : n0 ≤ T3.heap.size := Nat.le_trans Zs2 K3.1
  have hc17_6 : (2 : Int) = (2 : Int) := by decide
  subst hSS
  obtain ⟨fs, hr, q1, q2, q3, q4⟩ := X3.leave (v := some (.ref b1)) (fun h => by rw [Bd.returns] at h; cases h)
  refine ⟨_, _, pre0 _ ?_, q1, q2, _, _, rfl, ?_, ⟨_, rfl⟩, q3, q4.mono (by decide) (by decide)⟩
  · refine XS.iloadN X0.here hx rfl (hb hby d14_0) rfl ?_
    refine st1 _ ?_
    refine XS.astoreN X1.here hx rfl (hb hby d14_3) rfl rfl (l' := #[.val (.ref oc), .val (.int 0), .val (.int 2), .val (.ref b1), .unset, .unset]) rfl ?_
    refine XS.aloadN X1.here hx rfl (hb hby d14_4) rfl rfl ?_
    refine XS.iloadN X1.here hx rfl (hb hby d14_5) rfl ?_
    refine XS.aloadN X1.here hx rfl (hb hby d14_6) rfl rfl ?_
    refine XS.iconst X1.here hx rfl (hb hby d14_7) ?_
    refine XS.iloadN X1.here hx rfl (hb hby d14_8) rfl ?_
    refine st3 _ ?_
    refine XS.istore X3.here hx rfl (hb hby d14_12) rfl (l' := #[.val (.ref oc), .val (.int 0), .val (.int 2), .val (.ref b1), .val (.int 2), .unset]) rfl ?_
    refine XS.iload X3.here hx rfl (hb hby d14_14) rfl ?_
    refine XS.iloadN X3.here hx rfl (hb hby d14_16) rfl ?_
    refine XS.icmpYes X3.here hx rfl (pc0 := 17) (pc' := 57) rfl (hb hby d14_17) rfl (own_teq (a := (2 : Int32)) (b := (2 : Int32)) (by decide) (by decide) hc17_6).1 (by decide) (by decide) ?_
    refine XS.aloadN X3.here hx rfl (hb hby d14_57) rfl rfl ?_
    jvm_step X3.here [X3.here.top, hx, (hb hby d14_58), X3.method', Bd.returns, Value.isRef, FieldType.isReference]
    first | (intro acts; rw [hr _ acts rfl rfl rfl]) | rw [hr _ _ rfl rfl rfl]
    exact Steps.refl _
  · show Q_cm2 Z _ _ _ _ h0 n0 _ T3.heap _
    have f7 := (((Keep.refl h0 []).ext E1).trans K3 (allS (P := fun x => x ∈ [] ∨ h0.size ≤ x) (Or.inr sz_b1) all0))
    exact ⟨b1, _, bb0, bb1, rfl, N3, f7, g_b1, sz_b1, Vb3, qbb0, qbb1⟩
theorem ef_rm_cf2_0 (m : MethodId) (x0 : Addr) : entryFrame m #[(.ref x0), (.int 2)] 2 = mkF m 0 #[.val (.ref x0), .val (.int 2)] [] := by first | (simp [entryFrame, mkF, argsToLocals, Value.category]; done) | rfl
def Q_cf2_0 (Z : State) (ob : Addr) (kb : ClassId) (vs : List Value) (h0 : Heap) (n0 : Nat) (v : Option Value) (h : Heap) (L : List Loc) : Prop := ∃ z : Int32, v = some (.int z) ∧ (z = (0 : Int32)) ∧ Fr n0 L ∧ h = h0
theorem rm_cf2_0 (l : Launch) (Z : State) (a0 : Array Value) (hw : ∀ d ∈ tables_1, d.before a0 Z = true) (ws : List Jvm.Cond) (ob : Addr) (kb : ClassId) (vs : List Value) (h0 : Heap) (n0 : Nat) (Z0 : n0 ≤ h0.size) (Vb : Arv Z h0 ob kb .byte (2 : Int32) vs (.int 0)) :
    MetFree l yn15 (head1 (Jvm.Cond.code yn15 kc15 2 (some .byte) :: ws) ⟨0, 0, 0, 0⟩) (fun a U => a = #[(.ref ob), (.int 2)] ∧ Z.Warmed39 U.vm ∧ U.heap = h0) (fun _ _ _ _ _ => True) (fun _ U o U' => ∃ v L, o = .returned v ∧ Q_cf2_0 Z ob kb vs h0 n0 v U'.heap L ∧ FrameEnd U o U' L 0 0) := by
  refine MetFree.of_bodySF (plainFor_of_name pn_4) hisR ?_
  intro p e s m args below meth c s₁ Bd hml0 hP hK
  obtain ⟨rfl, hZ, hh⟩ := hP
  have hx := Bd.exec
  have hby := Bd.bytes
  have hml : c.maxLocals = 2 := hml0
  have hown : s.vm.findClass "java/lang/StringUTF16" = some m.cls := findClass_of_methodNamed Bd.named
  have hnm := (name_of_methodNamed Bd.named Bd.method).1
  have X0 : Stand p l e ⟨0, 0, 0, 0⟩ s m #[(.ref ob), (.int 2)] below meth c s₁ [] 0 0 := Stand.of_body Bd
  have e0 : s₁.heap = h0 := by rw [← hh, Bd.state]; rfl
  have N0 := Fr.nil n0
  obtain ⟨SS, hSS⟩ : ∃ S, S = s₁.setTop (entryFrame m #[(.ref ob), (.int 2)] 2) := ⟨_, rfl⟩
  have pre0 : oP p e below (s₁.setTop (mkF m 0 #[.val (.ref ob), .val (.int 2)] [])) (SS) := by
    rw [hSS]; exact fun t k => castTop (ef_rm_cf2_0 m ob) k
  obtain ⟨cl1, Ar1, q1, S1, M1, H1, G1⟩ := id Vb
  subst hSS
  obtain ⟨fs, hr, q1, q2, q3, q4⟩ := X0.leave (v := some (.int 0)) (fun h => by rw [Bd.returns] at h; cases h)
  refine ⟨_, _, pre0 _ ?_, q1, q2, _, _, rfl, ?_, ⟨_, rfl⟩, q3, q4.mono (by decide) (by decide)⟩
  · refine XS.iloadN X0.here hx rfl (hb hby d16_0) rfl ?_
    refine XS.aloadN X0.here hx rfl (hb hby d16_1) rfl rfl ?_
    refine X0.arraylength hx (by rw [e0]; exact Ar1.1) (State.isArrayOf_alike hZ.alike Ar1.2.1) (g := (mkF m 2 #[.val (.ref ob), .val (.int 2)] [(.ref ob), (.int 2)])) rfl rfl (hb hby d16_2) _ ?_
    rw [len_of S1 M1]
    refine XS.isub X0.here hx rfl (hb hby d16_3) rfl ?_
    refine XS.bipush X0.here hx rfl (hb hby d16_4) ?_
    refine XS.iushr X0.here hx rfl (hb hby d16_6) rfl ?_
    refine XS.i2b X0.here hx rfl (hb hby d16_7) rfl ?_
    exact retN X0 hx (t := .byte) Bd.returns (by simp) (hb hby d16_8) hr
  · show Q_cf2_0 Z _ _ _ h0 n0 _ s₁.heap _
    rw [e0]
    exact ⟨_, rfl, rfl, N0, rfl⟩
theorem ef_rm_iv2 (m : MethodId) (x0 : Addr) (x1 : Addr) : entryFrame m #[(.ref x0), (.ref x1), (.int 0), (.int 2), .null] 6 = mkF m 0 #[.val (.ref x0), .val (.ref x1), .val (.int 0), .val (.int 2), .val .null, .unset] [] := by first | (simp [entryFrame, mkF, argsToLocals, Value.category]; done) | rfl
def Q_iv2 (Z : State) (oa : Addr) (oc : Addr) (vcs : Int32) (vf : Value) (kC : ClassId) (c0 : Int32) (c1 : Int32) (h0 : Heap) (n0 : Nat) (v : Option Value) (h : Heap) (L : List Loc) : Prop := v = none ∧ Fr n0 L ∧ Keep h0 h [oa] ∧ Exa Z h oa "java/lang/String" ∧ ∃ (ob : Addr) (kb : ClassId) (bb0 bb1 : Int32), n0 ≤ ob ∧ h0.size ≤ ob ∧ Fld Z h oa "java/lang/String" "coder" "B" (.int 0) ∧ Fld Z h oa "java/lang/String" "value" "[B" (.ref ob) ∧ Arv Z h ob kb .byte (2 : Int32) [(.int bb0), (.int bb1)] (.int 0) ∧ bb0.toInt % 256 = c0.toInt ∧ bb1.toInt % 256 = c1.toInt
theorem rm_iv2 (l : Launch) (Z : State) (a0 : Array Value) (hw : ∀ d ∈ tables_1, d.before a0 Z = true) (ws : List Jvm.Cond) (oa : Addr) (oc : Addr) (vcs : Int32) (vf : Value) (kC : ClassId) (c0 : Int32) (c1 : Int32) (h0 : Heap) (n0 : Nat) (Z0 : n0 ≤ h0.size) (Os : own_st Z h0 vcs vf) (Es : Exa Z h0 oa "java/lang/String") (Fc : Fld Z h0 oa "java/lang/String" "coder" "B" (.int 0)) (Fv : Fld Z h0 oa "java/lang/String" "value" "[B" .null) (ga : n0 ≤ oa) (nac : oa ≠ oc) (Vc : Arv Z h0 oc kC .char (2 : Int32) [(.int c0), (.int c1)] (.int 0)) (uc0 : 0 ≤ c0.toInt) (uc1 : 0 ≤ c1.toInt) (vc0 : c0.toInt ≤ 255) (vc1 : c1.toInt ≤ 255) :
    MetFree l yn11 (head1 (Jvm.Cond.code yn11 kc11 6 none :: ws) ⟨2, 1, 2, 35⟩) (fun a U => a = #[(.ref oa), (.ref oc), (.int 0), (.int 2), .null] ∧ Z.Warmed39 U.vm ∧ U.heap = h0) (fun _ _ _ _ _ => True) (fun _ U o U' => ∃ v L, o = .returned v ∧ Q_iv2 Z oa oc vcs vf kC c0 c1 h0 n0 v U'.heap L ∧ FrameEnd U o U' L 1 2) := by
  refine MetFree.of_bodySF (plainFor_of_name pn_1) hisR ?_
  intro p e s m args below meth c s₁ Bd hml0 hP hK
  obtain ⟨rfl, hZ, hh⟩ := hP
  have hx := Bd.exec
  have hby := Bd.bytes
  have hml : c.maxLocals = 6 := hml0
  have hown : s.vm.findClass "java/lang/String" = some m.cls := findClass_of_methodNamed Bd.named
  have hnm := (name_of_methodNamed Bd.named Bd.method).1
  have X0 : Stand p l e ⟨2, 1, 2, 35⟩ s m #[(.ref oa), (.ref oc), (.int 0), (.int 2), .null] below meth c s₁ [] 0 0 := Stand.of_body Bd
  have e0 : s₁.heap = h0 := by rw [← hh, Bd.state]; rfl
  have N0 := Fr.nil n0
  obtain ⟨SS, hSS⟩ : ∃ S, S = s₁.setTop (entryFrame m #[(.ref oa), (.ref oc), (.int 0), (.int 2), .null] 6) := ⟨_, rfl⟩
  have pre0 : oP p e below (s₁.setTop (mkF m 0 #[.val (.ref oa), .val (.ref oc), .val (.int 0), .val (.int 2), .val .null, .unset] [])) (SS) := by
    rw [hSS]; exact fun t k => castTop (ef_rm_iv2 m oa oc) k
  obtain ⟨T1, X1, e1, st1⟩ := initO X0 hx hZ hown (ow hw 62 rfl) (ow hw 63 rfl) (ow hw 64 rfl) e0 (g := (mkF m 1 #[.val (.ref oa), .val (.ref oc), .val (.int 0), .val (.int 2), .val .null, .unset] [(.ref oa)])) rfl (by rw [hml]; rfl) rfl (hb hby d12_1) (by decide) (W := 0) (by exact Nat.le_of_eq rfl) (by decide)
  have hc5_2 : ¬ ((2 : Int) = (0 : Int)) := by decide
  obtain ⟨T3, X3, e3, st3⟩ := getS2 X1 hx hZ hown (host := "") (Or.inl (ow hw 19 rfl)) Via.refl e1 Os.1 (g := (mkF m 27 #[.val (.ref oa), .val (.ref oc), .val (.int 0), .val (.int 2), .val .null, .unset] [])) rfl (hb hby d12_27)
  have hc30_4 : ¬ (vcs.toInt = (0 : Int)) := by (have q := Os.2.1; omega)
  obtain ⟨_, _, ⟨T5, L5, k5, n5⟩, -, X5, ⟨Lc5, hQ5, l5, y5, z5⟩, st5⟩ := Jvm.LawKit.callS X3 hx (y := yn14) hown (mvT hZ (ow hw 65 rfl)) (mvT hZ (ow hw 66 rfl)) (mvT hZ (ow hw 67 rfl)) (mvT hZ (ow hw 68 rfl)) (by decide) (backOf (W := 0) (rm_cm2 l Z a0 hw [] oc kC c0 c1 h0 n0 Z0 Vc uc0 uc1 vc0 vc1) hZ (ow hw 68 rfl) (ow hw 67 rfl) (by decide) (by decide)) (g := (mkF m 36 #[.val (.ref oa), .val (.ref oc), .val (.int 0), .val (.int 2), .val .null, .unset] [(.int 2), (.int 0), (.ref oc)])) rfl (by rw [hml]; rfl) (argsL := [(.ref oc), (.int 0), (.int 2)]) (rest := []) (lenOf pd_11 rfl) rfl (by exact Nat.le_of_eq rfl) (hb hby d12_36) (fun _ _ => ⟨rfl, e3, (by decide : 0 + 1 ≤ _), (by decide : 0 + 2 ≤ _)⟩)
  dsimp only [Pt.U, Pt.locs, Pt.cells, Pt.slots] at X5 l5 y5 z5 st5 hQ5
  rw [l5, y5, z5] at X5
  obtain ⟨ob, kb, bb0, bb1, rfl, N5q, K5, gb, szb, Vb5, qbb0, qbb1⟩ := hQ5
  have N5 := Fr.app N0 N5q
  have Zs6 : n0 ≤ T5.heap.size := Nat.le_trans Z0 K5.1
  have ne_oa_ob : oa ≠ ob := Nat.ne_of_lt (Nat.lt_of_lt_of_le Es.lt szb)
  have ne_oc_ob : oc ≠ ob := Nat.ne_of_lt (Nat.lt_of_lt_of_le Vc.lt szb)
  have sz_ob : h0.size ≤ ob := Nat.le_trans (Keep.refl h0 [oa]).1 szb
  obtain ⟨_, _, ⟨T7, L7, k7, n7⟩, -, X7, ⟨Lc7, hQ7, l7, y7, z7⟩, st7⟩ := Jvm.LawKit.callS X5 hx (y := yn15) hown (mvT hZ (ow hw 72 rfl)) (mvT hZ (ow hw 73 rfl)) (mvT hZ (ow hw 67 rfl)) (mvT hZ (ow hw 74 rfl)) (by decide) (backOf (W := 1) (rm_cf2_0 l Z a0 hw [] ob kb [(.int bb0), (.int bb1)] T5.heap n0 Zs6 Vb5) hZ (ow hw 74 rfl) (ow hw 67 rfl) (by decide) (by decide)) (g := (mkF m 45 #[.val (.ref oa), .val (.ref oc), .val (.int 0), .val (.int 2), .val .null, .val (.ref ob)] [(.int 2), (.ref ob), (.ref oa)])) rfl (by rw [hml]; rfl) (argsL := [(.ref ob), (.int 2)]) (rest := [(.ref oa)]) (lenOf pd_12 rfl) rfl (by exact Nat.le_of_eq rfl) (hb hby d12_45) (fun _ _ => ⟨rfl, rfl, (by decide : 1 + 0 ≤ _), (by decide : 2 + 0 ≤ _)⟩)
  dsimp only [Pt.U, Pt.locs, Pt.cells, Pt.slots] at X7 l7 y7 z7 st7 hQ7
  rw [l7, y7, z7] at X7
  obtain ⟨zf, rfl, hzf, N7q, e7⟩ := hQ7
  have N7 := Fr.app N5 N7q
  have pre8 : oP p e below (T7.setTop (mkF m 48 #[.val (.ref oa), .val (.ref oc), .val (.int 0), .val (.int 2), .val .null, .val (.ref ob)] [(.int zf), (.ref oa)])) (SS) := fun t kt => by
    refine pre0 _ ?_
    refine XS.aloadN X0.here hx rfl (hb hby d12_0) rfl rfl ?_
    refine st1 _ ?_
    refine XS.iloadN X1.here hx rfl (hb hby d12_4) rfl ?_
    refine XS.ifYes X1.here hx rfl (pc0 := 5) (pc' := 27) rfl (hb hby d12_5) rfl (own_if (own_feq (a := (2 : Int32)) (b := (0 : Int32)) (by decide) (by decide) hc5_2).2) (by decide) (by decide) ?_
    refine st3 _ ?_
    refine XS.ifNo X3.here hx rfl (hb hby d12_30) rfl (own_if (own_feq (a := vcs) (b := (0 : Int32)) rfl (by decide) hc30_4).1) ?_
    refine XS.aloadN X3.here hx rfl (hb hby d12_33) rfl rfl ?_
    refine XS.iloadN X3.here hx rfl (hb hby d12_34) rfl ?_
    refine XS.iloadN X3.here hx rfl (hb hby d12_35) rfl ?_
    refine st5 _ ?_
    refine XS.astore X5.here hx rfl (hb hby d12_39) rfl rfl (l' := #[.val (.ref oa), .val (.ref oc), .val (.int 0), .val (.int 2), .val .null, .val (.ref ob)]) rfl ?_
    refine XS.aloadN X5.here hx rfl (hb hby d12_41) rfl rfl ?_
    refine XS.aload X5.here hx rfl (hb hby d12_42) rfl rfl ?_
    refine XS.iloadN X5.here hx rfl (hb hby d12_44) rfl ?_
    refine st7 _ ?_
    exact kt
  subst hzf
  have pre9 : oP p e below (T7.setTop (mkF m 48 #[.val (.ref oa), .val (.ref oc), .val (.int 0), .val (.int 2), .val .null, .val (.ref ob)] [(.int 0), (.ref oa)])) (SS) := pre8
  have f10 := (Fc.keep K5 nin0)
  have f11 := (Es.keep K5)
  obtain ⟨T12, h12, X12, e12, W12, st12⟩ := putFN X7 hx hZ hown (ow hw 20 rfl) Via.refl e7 f10 f11 (Or.inr ⟨(ow hw 5 rfl), rfl, hnm⟩) (ow hw 2 rfl) (ty := .byte) (v' := (.int 0)) (by decide) rfl rfl (g := (mkF m 48 #[.val (.ref oa), .val (.ref oc), .val (.int 0), .val (.int 2), .val .null, .val (.ref ob)] [(.int 0), (.ref oa)])) rfl rfl (hb hby d12_48)
  have N12 := Fr.snoc X12 N7 ga
  have Zs13 : n0 ≤ h12.size := by rw [W12.size]; exact Zs6
  have Fw12 := f10.same W12
  have f14 := ((Fv.keep K5 nin0).other W12 (Or.inr (slot_ne (Or.inr (ow hw 4 rfl)) (Or.inr (ow hw 5 rfl)) (by decide) (t := (.array .byte)) (t' := .byte) (by decide) (by decide))))
  have f15 := (f11.wr W12)
  obtain ⟨T16, h16, X16, e16, W16, st16⟩ := putF X12 hx hZ hown (host := "") (Or.inl (ow hw 13 rfl)) Via.refl e12 f14 f15 (Or.inr ⟨(ow hw 4 rfl), rfl, hnm⟩) (ow hw 2 rfl) (ty := (.array .byte)) (by decide) rfl rfl (g := (mkF m 54 #[.val (.ref oa), .val (.ref oc), .val (.int 0), .val (.int 2), .val .null, .val (.ref ob)] [(.ref ob), (.ref oa)])) rfl rfl (hb hby d12_54)
  have N16 := Fr.snoc X16 N12 ga
  have Zs17 : n0 ≤ h16.size := by rw [W16.size]; exact Zs13
  have Fw16 := f14.same W16
  subst hSS
  obtain ⟨fs, hr, q1, q2, q3, q4⟩ := X16.leave (v := none) (fun _ => rfl)
  refine ⟨_, _, pre9 _ ?_, q1, q2, _, _, rfl, ?_, ⟨_, rfl⟩, q3, q4.mono (by decide) (by decide)⟩
  · refine st12 _ ?_
    refine XS.aloadN X12.here hx rfl (hb hby d12_51) rfl rfl ?_
    refine XS.aload X12.here hx rfl (hb hby d12_52) rfl rfl ?_
    refine st16 _ ?_
    show Steps p.tables e below (T16.setTop (mkF m 57 #[.val (.ref oa), .val (.ref oc), .val (.int 0), .val (.int 2), .val .null, .val (.ref ob)] [])) _
    exact X16.returnOut hx Bd.returns (hb hby d12_57) hr
  · show Q_iv2 Z _ _ _ _ _ _ _ h0 n0 _ T16.heap _
    rw [e16]
    have f18 := ((((Keep.refl h0 [oa]).trans K5 all0).wr W12 (Or.inl (List.mem_of_getElem? (i := 0) rfl))).wr W16 (Or.inl (List.mem_of_getElem? (i := 0) rfl)))
    have f19 := (f15.wr W16)
    have f20 := (Fw12.other W16 (Or.inr (slot_ne (Or.inr (ow hw 5 rfl)) (Or.inr (ow hw 4 rfl)) (by decide) (t := .byte) (t' := (.array .byte)) (by decide) (by decide))))
    have f21 := ((Vb5.other W12 (Ne.symm ne_oa_ob)).other W16 (Ne.symm ne_oa_ob))
    exact ⟨rfl, N16, f18, f19, ob, kb, bb0, bb1, gb, sz_ob, f20, Fw16, f21, qbb0, qbb1⟩
theorem ef_rm_mk2 (m : MethodId) (x0 : Addr) (x1 : Addr) : entryFrame m #[(.ref x0), (.ref x1)] 2 = mkF m 0 #[.val (.ref x0), .val (.ref x1)] [] := by first | (simp [entryFrame, mkF, argsToLocals, Value.category]; done) | rfl
def Q_mk2 (Z : State) (oa : Addr) (oc : Addr) (vcs : Int32) (vf : Value) (kC : ClassId) (c0 : Int32) (c1 : Int32) (h0 : Heap) (n0 : Nat) (v : Option Value) (h : Heap) (L : List Loc) : Prop := v = none ∧ Fr n0 L ∧ Keep h0 h [oa] ∧ Exa Z h oa "java/lang/String" ∧ ∃ (ob : Addr) (kb : ClassId) (bb0 bb1 : Int32), n0 ≤ ob ∧ h0.size ≤ ob ∧ Fld Z h oa "java/lang/String" "coder" "B" (.int 0) ∧ Fld Z h oa "java/lang/String" "value" "[B" (.ref ob) ∧ Arv Z h ob kb .byte (2 : Int32) [(.int bb0), (.int bb1)] (.int 0) ∧ bb0.toInt % 256 = c0.toInt ∧ bb1.toInt % 256 = c1.toInt
theorem rm_mk2 (l : Launch) (Z : State) (a0 : Array Value) (hw : ∀ d ∈ tables_1, d.before a0 Z = true) (ws : List Jvm.Cond) (oa : Addr) (oc : Addr) (vcs : Int32) (vf : Value) (kC : ClassId) (c0 : Int32) (c1 : Int32) (h0 : Heap) (n0 : Nat) (Z0 : n0 ≤ h0.size) (Os : own_st Z h0 vcs vf) (Es : Exa Z h0 oa "java/lang/String") (Fc : Fld Z h0 oa "java/lang/String" "coder" "B" (.int 0)) (Fv : Fld Z h0 oa "java/lang/String" "value" "[B" .null) (ga : n0 ≤ oa) (nac : oa ≠ oc) (Vc : Arv Z h0 oc kC .char (2 : Int32) [(.int c0), (.int c1)] (.int 0)) (uc0 : 0 ≤ c0.toInt) (uc1 : 0 ≤ c1.toInt) (vc0 : c0.toInt ≤ 255) (vc1 : c1.toInt ≤ 255) :
    MetFree l yn12 (head1 (Jvm.Cond.code yn12 kc12 2 none :: ws) ⟨3, 1, 2, 52⟩) (fun a U => a = #[(.ref oa), (.ref oc)] ∧ Z.Warmed39 U.vm ∧ U.heap = h0) (fun _ _ _ _ _ => True) (fun _ U o U' => ∃ v L, o = .returned v ∧ Q_mk2 Z oa oc vcs vf kC c0 c1 h0 n0 v U'.heap L ∧ FrameEnd U o U' L 1 2) := by
  refine MetFree.of_bodySF (plainFor_of_name pn_1) hisR ?_
  intro p e s m args below meth c s₁ Bd hml0 hP hK
  obtain ⟨rfl, hZ, hh⟩ := hP
  have hx := Bd.exec
  have hby := Bd.bytes
  have hml : c.maxLocals = 2 := hml0
  have hown : s.vm.findClass "java/lang/String" = some m.cls := findClass_of_methodNamed Bd.named
  have hnm := (name_of_methodNamed Bd.named Bd.method).1
  have X0 : Stand p l e ⟨3, 1, 2, 52⟩ s m #[(.ref oa), (.ref oc)] below meth c s₁ [] 0 0 := Stand.of_body Bd
  have e0 : s₁.heap = h0 := by rw [← hh, Bd.state]; rfl
  have N0 := Fr.nil n0
  obtain ⟨SS, hSS⟩ : ∃ S, S = s₁.setTop (entryFrame m #[(.ref oa), (.ref oc)] 2) := ⟨_, rfl⟩
  have pre0 : oP p e below (s₁.setTop (mkF m 0 #[.val (.ref oa), .val (.ref oc)] [])) (SS) := by
    rw [hSS]; exact fun t k => castTop (ef_rm_mk2 m oa oc) k
  obtain ⟨cl1, Ar1, q1, S1, M1, H1, G1⟩ := id Vc
  obtain ⟨_, _, ⟨T2, L2, k2, n2⟩, -, X2, ⟨Lc2, hQ2, l2, y2, z2⟩, st2⟩ := X0.specialBack hx (y := yn11) rfl hown (mvT hZ (ow hw 58 rfl)) (mvT hZ (ow hw 59 rfl)) (mvT hZ (ow hw 61 rfl)) (by decide) (backOf (W := 0) (rm_iv2 l Z a0 hw [] oa oc vcs vf kC c0 c1 h0 n0 Z0 Os Es Fc Fv ga nac Vc uc0 uc1 vc0 vc1) hZ (ow hw 61 rfl) (ow hw 1 rfl) (by decide) (by decide)) (g := (mkF m 6 #[.val (.ref oa), .val (.ref oc)] [.null, (.int 2), (.int 0), (.ref oc), (.ref oa)])) rfl (by rw [hml]; rfl) (Steps.refl _) (a := oa) (argsL := [(.ref oc), (.int 0), (.int 2), .null]) (rest := []) (lenOf pd_9 rfl) rfl (by exact Nat.le_of_eq rfl) (hb hby d11_6) (fun _ _ => ⟨rfl, e0, (by decide : 0 + 1 ≤ _), (by decide : 0 + 2 ≤ _)⟩)
  dsimp only [Pt.U, Pt.locs, Pt.cells, Pt.slots] at X2 l2 y2 z2 st2 hQ2
  rw [l2, y2, z2] at X2
  obtain ⟨rfl, N2q, K2, A2, ob, kb, bb0, bb1, gb, szb, Fc2, Fv2, Vb2, qbb0, qbb1⟩ := hQ2
  have N2 := Fr.app N0 N2q
  have Zs3 : n0 ≤ T2.heap.size := Nat.le_trans Z0 K2.1
  have ne_oa_ob : oa ≠ ob := Nat.ne_of_lt (Nat.lt_of_lt_of_le Es.lt szb)
  have ne_oc_ob : oc ≠ ob := Nat.ne_of_lt (Nat.lt_of_lt_of_le Vc.lt szb)
  have sz_ob : h0.size ≤ ob := Nat.le_trans (Keep.refl h0 [oa]).1 szb
  subst hSS
  obtain ⟨fs, hr, q1, q2, q3, q4⟩ := X2.leave (v := none) (fun _ => rfl)
  refine ⟨_, _, pre0 _ ?_, q1, q2, _, _, rfl, ?_, ⟨_, rfl⟩, q3, q4.mono (by decide) (by decide)⟩
  · refine XS.aloadN X0.here hx rfl (hb hby d11_0) rfl rfl ?_
    refine XS.aloadN X0.here hx rfl (hb hby d11_1) rfl rfl ?_
    refine XS.iconst X0.here hx rfl (hb hby d11_2) ?_
    refine XS.aloadN X0.here hx rfl (hb hby d11_3) rfl rfl ?_
    refine X0.arraylength hx (by rw [e0]; exact Ar1.1) (State.isArrayOf_alike hZ.alike Ar1.2.1) (g := (mkF m 4 #[.val (.ref oa), .val (.ref oc)] [(.ref oc), (.int 0), (.ref oc), (.ref oa)])) rfl rfl (hb hby d11_4) _ ?_
    rw [len_of S1 M1]
    refine XS.aconstNull X0.here hx rfl (hb hby d11_5) ?_
    refine st2.trans ?_
    exact X2.returnOut hx Bd.returns (hb hby d11_9) hr
  · show Q_mk2 Z _ _ _ _ _ _ _ h0 n0 _ T2.heap _
    have f4 := ((Keep.refl h0 [oa]).trans K2 (allS (P := fun x => x ∈ [oa] ∨ h0.size ≤ x) (Or.inl (List.mem_of_getElem? (i := 0) rfl)) all0))
    exact ⟨rfl, N2, f4, A2, ob, kb, bb0, bb1, gb, sz_ob, Fc2, Fv2, Vb2, qbb0, qbb1⟩
theorem ef_rm_cp3 (m : MethodId) (x0 : Addr) (x2 : Addr) : entryFrame m #[(.ref x0), (.int 0), (.ref x2), (.int 0), (.int 3)] 7 = mkF m 0 #[.val (.ref x0), .val (.int 0), .val (.ref x2), .val (.int 0), .val (.int 3), .unset, .unset] [] := by first | (simp [entryFrame, mkF, argsToLocals, Value.category]; done) | rfl
def Q_cp3 (Z : State) (oc : Addr) (ob : Addr) (kC : ClassId) (c0 : Int32) (c1 : Int32) (c2 : Int32) (kb : ClassId) (h0 : Heap) (n0 : Nat) (v : Option Value) (h : Heap) (L : List Loc) : Prop := ∃ bb0 bb1 bb2 : Int32, v = some (.int 3) ∧ Fr n0 L ∧ Keep h0 h [ob] ∧ Arv Z h ob kb .byte (3 : Int32) [(.int bb0), (.int bb1), (.int bb2)] (.int 0) ∧ bb0.toInt % 256 = c0.toInt ∧ bb1.toInt % 256 = c1.toInt ∧ bb2.toInt % 256 = c2.toInt
theorem rm_cp3 (l : Launch) (Z : State) (a0 : Array Value) (hw : ∀ d ∈ tables_1, d.before a0 Z = true) (ws : List Jvm.Cond) (oc : Addr) (ob : Addr) (kC : ClassId) (c0 : Int32) (c1 : Int32) (c2 : Int32) (kb : ClassId) (h0 : Heap) (n0 : Nat) (Z0 : n0 ≤ h0.size) (Vc : Arv Z h0 oc kC .char (3 : Int32) [(.int c0), (.int c1), (.int c2)] (.int 0)) (uc0 : 0 ≤ c0.toInt) (uc1 : 0 ≤ c1.toInt) (uc2 : 0 ≤ c2.toInt) (vc0 : c0.toInt ≤ 255) (vc1 : c1.toInt ≤ 255) (vc2 : c2.toInt ≤ 255) (Vb : Arv Z h0 ob kb .byte (3 : Int32) [(.int 0), (.int 0), (.int 0)] (.int 0)) (gb : n0 ≤ ob) (ncb : oc ≠ ob) :
    MetFree l yn13 (head1 (Jvm.Cond.code yn13 kc13 7 (some .int) :: ws) ⟨0, 0, 0, 0⟩) (fun a U => a = #[(.ref oc), (.int 0), (.ref ob), (.int 0), (.int 3)] ∧ Z.Warmed39 U.vm ∧ U.heap = h0) (fun _ _ _ _ _ => True) (fun _ U o U' => ∃ v L, o = .returned v ∧ Q_cp3 Z oc ob kC c0 c1 c2 kb h0 n0 v U'.heap L ∧ FrameEnd U o U' L 0 0) := by
  refine MetFree.of_bodySF (plainFor_of_name pn_4) hisR ?_
  intro p e s m args below meth c s₁ Bd hml0 hP hK
  obtain ⟨rfl, hZ, hh⟩ := hP
  have hx := Bd.exec
  have hby := Bd.bytes
  have hml : c.maxLocals = 7 := hml0
  have hown : s.vm.findClass "java/lang/StringUTF16" = some m.cls := findClass_of_methodNamed Bd.named
  have hnm := (name_of_methodNamed Bd.named Bd.method).1
  have X0 : Stand p l e ⟨0, 0, 0, 0⟩ s m #[(.ref oc), (.int 0), (.ref ob), (.int 0), (.int 3)] below meth c s₁ [] 0 0 := Stand.of_body Bd
  have e0 : s₁.heap = h0 := by rw [← hh, Bd.state]; rfl
  have N0 := Fr.nil n0
  obtain ⟨SS, hSS⟩ : ∃ S, S = s₁.setTop (entryFrame m #[(.ref oc), (.int 0), (.ref ob), (.int 0), (.int 3)] 7) := ⟨_, rfl⟩
  have pre0 : oP p e below (s₁.setTop (mkF m 0 #[.val (.ref oc), .val (.int 0), .val (.ref ob), .val (.int 0), .val (.int 3), .unset, .unset] [])) (SS) := by
    rw [hSS]; exact fun t k => castTop (ef_rm_cp3 m oc ob) k
  have hc7_1 : (0 : Int) < (3 : Int) := by decide
  obtain ⟨cl2, Ar2, q2, S2, M2, H2, G2⟩ := id Vc
  have hin2 : ¬ ((0 : Int32) < 0 ∨ cl2.slots.size ≤ ((0 : Int32)).toNatClampNeg) := inb_of S2 ⟨by decide, by decide⟩
  have hat2 : cl2.slots[((0 : Int32)).toNatClampNeg]? = some (.int c0) := Has.at H2 hin2 rfl
  have hc20_3 : ¬ ((255 : Int) < c0.toInt) := by omega
  obtain ⟨cl4, Ar4, q4, S4, M4, H4, G4⟩ := id Vb
  have hin4 : ¬ ((0 : Int32) < 0 ∨ cl4.slots.size ≤ ((0 : Int32)).toNatClampNeg) := inb_of S4 ⟨by decide, by decide⟩
  obtain ⟨T5, h5, X5, e5, W5, st5⟩ := stB X0 hx hZ e0 Ar4 (j := (0 : Int32)) hin4 (g := (mkF m 31 #[.val (.ref oc), .val (.int 0), .val (.ref ob), .val (.int 0), .val (.int 3), .val (.int 0), .val (.int c0)] [(.int (c0.toInt8.toInt32)), (.int 0), (.ref ob)])) rfl rfl (hb hby d15_31)
  have N5 := Fr.snoc X5 N0 gb
  have Zs6 : n0 ≤ h5.size := by rw [W5.size]; exact Z0
  have V5 : Arv Z h5 ob kb .byte (3 : Int32) [(.int (nar .byte (c0.toInt8.toInt32))), (.int 0), (.int 0)] (.int 0) := Arv.set Ar4 q4 S4 M4 H4 G4 (fits_nar_byte _) W5 0 rfl (Nat.le_of_ble_eq_true rfl)
  have hc7_7 : (1 : Int) < (3 : Int) := by decide
  have f8 := (Vc.other W5 ncb)
  obtain ⟨cl9, Ar9, q9, S9, M9, H9, G9⟩ := id f8
  have hin9 : ¬ ((1 : Int32) < 0 ∨ cl9.slots.size ≤ ((1 : Int32)).toNatClampNeg) := inb_of S9 ⟨by decide, by decide⟩
  have hat9 : cl9.slots[((1 : Int32)).toNatClampNeg]? = some (.int c1) := Has.at H9 hin9 rfl
  have hc20_10 : ¬ ((255 : Int) < c1.toInt) := by omega
  obtain ⟨cl11, Ar11, q11, S11, M11, H11, G11⟩ := id V5
  have hin11 : ¬ ((1 : Int32) < 0 ∨ cl11.slots.size ≤ ((1 : Int32)).toNatClampNeg) := inb_of S11 ⟨by decide, by decide⟩
  obtain ⟨T12, h12, X12, e12, W12, st12⟩ := stB X5 hx hZ e5 Ar11 (j := (1 : Int32)) hin11 (g := (mkF m 31 #[.val (.ref oc), .val (.int 1), .val (.ref ob), .val (.int 1), .val (.int 3), .val (.int 1), .val (.int c1)] [(.int (c1.toInt8.toInt32)), (.int 1), (.ref ob)])) rfl rfl (hb hby d15_31)
  have N12 := Fr.snoc X12 N5 gb
  have Zs13 : n0 ≤ h12.size := by rw [W12.size]; exact Zs6
  have V12 : Arv Z h12 ob kb .byte (3 : Int32) [(.int (nar .byte (c0.toInt8.toInt32))), (.int (nar .byte (c1.toInt8.toInt32))), (.int 0)] (.int 0) := Arv.set Ar11 q11 S11 M11 H11 G11 (fits_nar_byte _) W12 1 rfl (Nat.le_of_ble_eq_true rfl)
  have hc7_14 : (2 : Int) < (3 : Int) := by decide
  have f15 := (f8.other W12 ncb)
  obtain ⟨cl16, Ar16, q16, S16, M16, H16, G16⟩ := id f15
  have hin16 : ¬ ((2 : Int32) < 0 ∨ cl16.slots.size ≤ ((2 : Int32)).toNatClampNeg) := inb_of S16 ⟨by decide, by decide⟩
  have hat16 : cl16.slots[((2 : Int32)).toNatClampNeg]? = some (.int c2) := Has.at H16 hin16 rfl
  have hc20_17 : ¬ ((255 : Int) < c2.toInt) := by omega
  obtain ⟨cl18, Ar18, q18, S18, M18, H18, G18⟩ := id V12
  have hin18 : ¬ ((2 : Int32) < 0 ∨ cl18.slots.size ≤ ((2 : Int32)).toNatClampNeg) := inb_of S18 ⟨by decide, by decide⟩
  obtain ⟨T19, h19, X19, e19, W19, st19⟩ := stB X12 hx hZ e12 Ar18 (j := (2 : Int32)) hin18 (g := (mkF m 31 #[.val (.ref oc), .val (.int 2), .val (.ref ob), .val (.int 2), .val (.int 3), .val (.int 2), .val (.int c2)] [(.int (c2.toInt8.toInt32)), (.int 2), (.ref ob)])) rfl rfl (hb hby d15_31)
  have N19 := Fr.snoc X19 N12 gb
  have Zs20 : n0 ≤ h19.size := by rw [W19.size]; exact Zs13
  have V19 : Arv Z h19 ob kb .byte (3 : Int32) [(.int (nar .byte (c0.toInt8.toInt32))), (.int (nar .byte (c1.toInt8.toInt32))), (.int (nar .byte (c2.toInt8.toInt32)))] (.int 0) := Arv.set Ar18 q18 S18 M18 H18 G18 (fits_nar_byte _) W19 2 rfl (Nat.le_of_ble_eq_true rfl)
  have hc7_21 : ¬ ((3 : Int) < (3 : Int)) := by decide
  subst hSS
  obtain ⟨fs, hr, q1, q2, q3, q4⟩ := X19.leave (v := some (.int 3)) (fun h => by rw [Bd.returns] at h; cases h)
  refine ⟨_, _, pre0 _ ?_, q1, q2, _, _, rfl, ?_, ⟨_, rfl⟩, q3, q4.mono (by decide) (by decide)⟩
  · refine XS.iconst X0.here hx rfl (hb hby d15_0) ?_
    refine XS.istore X0.here hx rfl (hb hby d15_1) rfl (l' := #[.val (.ref oc), .val (.int 0), .val (.ref ob), .val (.int 0), .val (.int 3), .val (.int 0), .unset]) rfl ?_
    refine XS.iload X0.here hx rfl (hb hby d15_3) rfl ?_
    refine XS.iload X0.here hx rfl (hb hby d15_5) rfl ?_
    refine XS.icmpNo X0.here hx rfl (hb hby d15_7) rfl (own_tlt (a := (0 : Int32)) (b := (3 : Int32)) (by decide) (by decide) hc7_1).2.1 ?_
    refine XS.aloadN X0.here hx rfl (hb hby d15_10) rfl rfl ?_
    refine XS.iloadN X0.here hx rfl (hb hby d15_11) rfl ?_
    refine X0.caload hx (j := (0 : Int32)) (v := (.int c0)) (by rw [e0]; exact Ar2.1) (State.isArrayOf_alike hZ.alike Ar2.2.1) Ar2.2.2 hin2 hat2 (g := (mkF m 12 #[.val (.ref oc), .val (.int 0), .val (.ref ob), .val (.int 0), .val (.int 3), .val (.int 0), .unset] [(.int 0), (.ref oc)])) rfl rfl (hb hby d15_12) _ ?_
    refine XS.istore X0.here hx rfl (hb hby d15_13) rfl (l' := #[.val (.ref oc), .val (.int 0), .val (.ref ob), .val (.int 0), .val (.int 3), .val (.int 0), .val (.int c0)]) rfl ?_
    refine XS.iload X0.here hx rfl (hb hby d15_15) rfl ?_
    refine XS.sipush X0.here hx rfl (hb hby d15_17) ?_
    refine XS.icmpYes X0.here hx rfl (pc0 := 20) (pc' := 26) rfl (hb hby d15_20) rfl (own_flt (a := (255 : Int32)) (b := c0) (by decide) rfl hc20_3).2.2.2 (by decide) (by decide) ?_
    refine XS.aloadN X0.here hx rfl (hb hby d15_26) rfl rfl ?_
    refine XS.iloadN X0.here hx rfl (hb hby d15_27) rfl ?_
    refine XS.iload X0.here hx rfl (hb hby d15_28) rfl ?_
    refine XS.i2b X0.here hx rfl (hb hby d15_30) rfl ?_
    refine st5 _ ?_
    refine XS.iinc X5.here hx rfl (hb hby d15_32) rfl (l' := #[.val (.ref oc), .val (.int 1), .val (.ref ob), .val (.int 0), .val (.int 3), .val (.int 0), .val (.int c0)]) rfl ?_
    refine XS.iinc X5.here hx rfl (hb hby d15_35) rfl (l' := #[.val (.ref oc), .val (.int 1), .val (.ref ob), .val (.int 1), .val (.int 3), .val (.int 0), .val (.int c0)]) rfl ?_
    show Steps p.tables e below (T5.setTop (mkF m 38 #[.val (.ref oc), .val (.int 1), .val (.ref ob), .val (.int 1), .val (.int 3), .val (.int 0), .val (.int c0)] [])) _
    refine XS.iinc X5.here hx rfl (hb hby d15_38) rfl (l' := #[.val (.ref oc), .val (.int 1), .val (.ref ob), .val (.int 1), .val (.int 3), .val (.int 1), .val (.int c0)]) rfl ?_
    refine XS.goto X5.here hx rfl (pc0 := 41) (pc' := 3) rfl (hb hby d15_41) (by decide) (by decide) ?_
    refine XS.iload X5.here hx rfl (hb hby d15_3) rfl ?_
    refine XS.iload X5.here hx rfl (hb hby d15_5) rfl ?_
    refine XS.icmpNo X5.here hx rfl (hb hby d15_7) rfl (own_tlt (a := (1 : Int32)) (b := (3 : Int32)) (by decide) (by decide) hc7_7).2.1 ?_
    refine XS.aloadN X5.here hx rfl (hb hby d15_10) rfl rfl ?_
    refine XS.iloadN X5.here hx rfl (hb hby d15_11) rfl ?_
    refine X5.caload hx (j := (1 : Int32)) (v := (.int c1)) (by rw [e5]; exact Ar9.1) (State.isArrayOf_alike hZ.alike Ar9.2.1) Ar9.2.2 hin9 hat9 (g := (mkF m 12 #[.val (.ref oc), .val (.int 1), .val (.ref ob), .val (.int 1), .val (.int 3), .val (.int 1), .val (.int c0)] [(.int 1), (.ref oc)])) rfl rfl (hb hby d15_12) _ ?_
    refine XS.istore X5.here hx rfl (hb hby d15_13) rfl (l' := #[.val (.ref oc), .val (.int 1), .val (.ref ob), .val (.int 1), .val (.int 3), .val (.int 1), .val (.int c1)]) rfl ?_
    refine XS.iload X5.here hx rfl (hb hby d15_15) rfl ?_
    refine XS.sipush X5.here hx rfl (hb hby d15_17) ?_
    refine XS.icmpYes X5.here hx rfl (pc0 := 20) (pc' := 26) rfl (hb hby d15_20) rfl (own_flt (a := (255 : Int32)) (b := c1) (by decide) rfl hc20_10).2.2.2 (by decide) (by decide) ?_
    refine XS.aloadN X5.here hx rfl (hb hby d15_26) rfl rfl ?_
    refine XS.iloadN X5.here hx rfl (hb hby d15_27) rfl ?_
    refine XS.iload X5.here hx rfl (hb hby d15_28) rfl ?_
    refine XS.i2b X5.here hx rfl (hb hby d15_30) rfl ?_
    refine st12 _ ?_
    refine XS.iinc X12.here hx rfl (hb hby d15_32) rfl (l' := #[.val (.ref oc), .val (.int 2), .val (.ref ob), .val (.int 1), .val (.int 3), .val (.int 1), .val (.int c1)]) rfl ?_
    refine XS.iinc X12.here hx rfl (hb hby d15_35) rfl (l' := #[.val (.ref oc), .val (.int 2), .val (.ref ob), .val (.int 2), .val (.int 3), .val (.int 1), .val (.int c1)]) rfl ?_
    refine XS.iinc X12.here hx rfl (hb hby d15_38) rfl (l' := #[.val (.ref oc), .val (.int 2), .val (.ref ob), .val (.int 2), .val (.int 3), .val (.int 2), .val (.int c1)]) rfl ?_
    show Steps p.tables e below (T12.setTop (mkF m 41 #[.val (.ref oc), .val (.int 2), .val (.ref ob), .val (.int 2), .val (.int 3), .val (.int 2), .val (.int c1)] [])) _
    refine XS.goto X12.here hx rfl (pc0 := 41) (pc' := 3) rfl (hb hby d15_41) (by decide) (by decide) ?_
    refine XS.iload X12.here hx rfl (hb hby d15_3) rfl ?_
    refine XS.iload X12.here hx rfl (hb hby d15_5) rfl ?_
    refine XS.icmpNo X12.here hx rfl (hb hby d15_7) rfl (own_tlt (a := (2 : Int32)) (b := (3 : Int32)) (by decide) (by decide) hc7_14).2.1 ?_
    refine XS.aloadN X12.here hx rfl (hb hby d15_10) rfl rfl ?_
    refine XS.iloadN X12.here hx rfl (hb hby d15_11) rfl ?_
    refine X12.caload hx (j := (2 : Int32)) (v := (.int c2)) (by rw [e12]; exact Ar16.1) (State.isArrayOf_alike hZ.alike Ar16.2.1) Ar16.2.2 hin16 hat16 (g := (mkF m 12 #[.val (.ref oc), .val (.int 2), .val (.ref ob), .val (.int 2), .val (.int 3), .val (.int 2), .val (.int c1)] [(.int 2), (.ref oc)])) rfl rfl (hb hby d15_12) _ ?_
    refine XS.istore X12.here hx rfl (hb hby d15_13) rfl (l' := #[.val (.ref oc), .val (.int 2), .val (.ref ob), .val (.int 2), .val (.int 3), .val (.int 2), .val (.int c2)]) rfl ?_
    refine XS.iload X12.here hx rfl (hb hby d15_15) rfl ?_
    refine XS.sipush X12.here hx rfl (hb hby d15_17) ?_
    refine XS.icmpYes X12.here hx rfl (pc0 := 20) (pc' := 26) rfl (hb hby d15_20) rfl (own_flt (a := (255 : Int32)) (b := c2) (by decide) rfl hc20_17).2.2.2 (by decide) (by decide) ?_
    refine XS.aloadN X12.here hx rfl (hb hby d15_26) rfl rfl ?_
    refine XS.iloadN X12.here hx rfl (hb hby d15_27) rfl ?_
    refine XS.iload X12.here hx rfl (hb hby d15_28) rfl ?_
    refine XS.i2b X12.here hx rfl (hb hby d15_30) rfl ?_
    refine st19 _ ?_
    refine XS.iinc X19.here hx rfl (hb hby d15_32) rfl (l' := #[.val (.ref oc), .val (.int 3), .val (.ref ob), .val (.int 2), .val (.int 3), .val (.int 2), .val (.int c2)]) rfl ?_
    refine XS.iinc X19.here hx rfl (hb hby d15_35) rfl (l' := #[.val (.ref oc), .val (.int 3), .val (.ref ob), .val (.int 3), .val (.int 3), .val (.int 2), .val (.int c2)]) rfl ?_
    refine XS.iinc X19.here hx rfl (hb hby d15_38) rfl (l' := #[.val (.ref oc), .val (.int 3), .val (.ref ob), .val (.int 3), .val (.int 3), .val (.int 3), .val (.int c2)]) rfl ?_
    refine XS.goto X19.here hx rfl (pc0 := 41) (pc' := 3) rfl (hb hby d15_41) (by decide) (by decide) ?_
    show Steps p.tables e below (T19.setTop (mkF m 3 #[.val (.ref oc), .val (.int 3), .val (.ref ob), .val (.int 3), .val (.int 3), .val (.int 3), .val (.int c2)] [])) _
    refine XS.iload X19.here hx rfl (hb hby d15_3) rfl ?_
    refine XS.iload X19.here hx rfl (hb hby d15_5) rfl ?_
    refine XS.icmpYes X19.here hx rfl (pc0 := 7) (pc' := 44) rfl (hb hby d15_7) rfl (own_flt (a := (3 : Int32)) (b := (3 : Int32)) (by decide) (by decide) hc7_21).2.1 (by decide) (by decide) ?_
    refine XS.iload X19.here hx rfl (hb hby d15_44) rfl ?_
    exact retI X19 hx Bd.returns (hb hby d15_46) hr
  · show Q_cp3 Z _ _ _ _ _ _ _ h0 n0 _ T19.heap _
    rw [e19]
    have f22 := ((((Keep.refl h0 [ob]).wr W5 (Or.inl (List.mem_of_getElem? (i := 0) rfl))).wr W12 (Or.inl (List.mem_of_getElem? (i := 0) rfl))).wr W19 (Or.inl (List.mem_of_getElem? (i := 0) rfl)))
    exact ⟨_, _, _, rfl, N19, f22, V19, own_b2 c0 uc0 vc0, own_b2 c1 uc1 vc1, own_b2 c2 uc2 vc2⟩
theorem ef_rm_cm3 (m : MethodId) (x0 : Addr) : entryFrame m #[(.ref x0), (.int 0), (.int 3)] 6 = mkF m 0 #[.val (.ref x0), .val (.int 0), .val (.int 3), .unset, .unset, .unset] [] := by first | (simp [entryFrame, mkF, argsToLocals, Value.category]; done) | rfl
def Q_cm3 (Z : State) (oc : Addr) (kC : ClassId) (c0 : Int32) (c1 : Int32) (c2 : Int32) (h0 : Heap) (n0 : Nat) (v : Option Value) (h : Heap) (L : List Loc) : Prop := ∃ (ob : Addr) (kb : ClassId) (bb0 bb1 bb2 : Int32), v = some (.ref ob) ∧ Fr n0 L ∧ Keep h0 h [] ∧ n0 ≤ ob ∧ h0.size ≤ ob ∧ Arv Z h ob kb .byte (3 : Int32) [(.int bb0), (.int bb1), (.int bb2)] (.int 0) ∧ bb0.toInt % 256 = c0.toInt ∧ bb1.toInt % 256 = c1.toInt ∧ bb2.toInt % 256 = c2.toInt
theorem rm_cm3 (l : Launch) (Z : State) (a0 : Array Value) (hw : ∀ d ∈ tables_1, d.before a0 Z = true) (ws : List Jvm.Cond) (oc : Addr) (kC : ClassId) (c0 : Int32) (c1 : Int32) (c2 : Int32) (h0 : Heap) (n0 : Nat) (Z0 : n0 ≤ h0.size) (Vc : Arv Z h0 oc kC .char (3 : Int32) [(.int c0), (.int c1), (.int c2)] (.int 0)) (uc0 : 0 ≤ c0.toInt) (uc1 : 0 ≤ c1.toInt) (uc2 : 0 ≤ c2.toInt) (vc0 : c0.toInt ≤ 255) (vc1 : c1.toInt ≤ 255) (vc2 : c2.toInt ≤ 255) :
    MetFree l yn14 (head1 (Jvm.Cond.code yn14 kc14 6 (some (.array .byte)) :: ws) ⟨1, 1, 3, 18⟩) (fun a U => a = #[(.ref oc), (.int 0), (.int 3)] ∧ Z.Warmed39 U.vm ∧ U.heap = h0) (fun _ _ _ _ _ => True) (fun _ U o U' => ∃ v L, o = .returned v ∧ Q_cm3 Z oc kC c0 c1 c2 h0 n0 v U'.heap L ∧ FrameEnd U o U' L 1 3) := by
  refine MetFree.of_bodySF (plainFor_of_name pn_4) hisR ?_
  intro p e s m args below meth c s₁ Bd hml0 hP hK
  obtain ⟨rfl, hZ, hh⟩ := hP
  have hx := Bd.exec
  have hby := Bd.bytes
  have hml : c.maxLocals = 6 := hml0
  have hown : s.vm.findClass "java/lang/StringUTF16" = some m.cls := findClass_of_methodNamed Bd.named
  have hnm := (name_of_methodNamed Bd.named Bd.method).1
  have X0 : Stand p l e ⟨1, 1, 3, 18⟩ s m #[(.ref oc), (.int 0), (.int 3)] below meth c s₁ [] 0 0 := Stand.of_body Bd
  have e0 : s₁.heap = h0 := by rw [← hh, Bd.state]; rfl
  have N0 := Fr.nil n0
  obtain ⟨SS, hSS⟩ : ∃ S, S = s₁.setTop (entryFrame m #[(.ref oc), (.int 0), (.int 3)] 6) := ⟨_, rfl⟩
  have pre0 : oP p e below (s₁.setTop (mkF m 0 #[.val (.ref oc), .val (.int 0), .val (.int 3), .unset, .unset, .unset] [])) (SS) := by
    rw [hSS]; exact fun t k => castTop (ef_rm_cm3 m oc) k
  obtain ⟨T1, h1, k1, X1, e1, E1, A1, st1⟩ := newP X0 hx hZ (ow hw 3 rfl) e0 (g := (mkF m 1 #[.val (.ref oc), .val (.int 0), .val (.int 3), .unset, .unset, .unset] [(.int 3)])) rfl (hb hby d14_1) rfl (by decide) (cap := 3) (by decide) (by decide) (by decide) (by decide)
  obtain ⟨b1, g1⟩ : ∃ z, z = h0.size := ⟨_, rfl⟩
  have ne_oc_b1 : oc ≠ b1 := Nat.ne_of_lt (Nat.lt_of_lt_of_le Vc.lt (Nat.le_of_eq g1.symm))
  have g_b1 : n0 ≤ b1 := Nat.le_trans Z0 (Nat.le_of_eq g1.symm)
  have sz_b1 : h0.size ≤ b1 := Nat.le_trans (Keep.refl h0 []).1 (Nat.le_of_eq g1.symm)
  rw [← g1] at A1 st1
  have Zs2 : n0 ≤ h1.size := Nat.le_trans Z0 E1.1
  have V1 : Arv Z h1 b1 k1 .byte (3 : Int32) [(.int 0), (.int 0), (.int 0)] (.int 0) := (Arv.new A1 (by decide)).pad (pad_rep [] (.int 0) 3)
  have f4 := (Vc.ext E1)
  obtain ⟨_, _, ⟨T3, L3, k3, n3⟩, -, X3, ⟨Lc3, hQ3, l3, y3, z3⟩, st3⟩ := Jvm.LawKit.callS X1 hx (y := yn13) hown (mvT hZ (ow hw 69 rfl)) (mvT hZ (ow hw 70 rfl)) (mvT hZ (ow hw 67 rfl)) (mvT hZ (ow hw 71 rfl)) (by decide) (backOf (W := 0) (rm_cp3 l Z a0 hw [] oc b1 kC c0 c1 c2 k1 h1 n0 Zs2 f4 uc0 uc1 uc2 vc0 vc1 vc2 V1 g_b1 ne_oc_b1) hZ (ow hw 71 rfl) (ow hw 67 rfl) (by decide) (by decide)) (g := (mkF m 9 #[.val (.ref oc), .val (.int 0), .val (.int 3), .val (.ref b1), .unset, .unset] [(.int 3), (.int 0), (.ref b1), (.int 0), (.ref oc)])) rfl (by rw [hml]; rfl) (argsL := [(.ref oc), (.int 0), (.ref b1), (.int 0), (.int 3)]) (rest := []) (lenOf pd_10 rfl) rfl (by exact Nat.le_of_eq rfl) (hb hby d14_9) (fun _ _ => ⟨rfl, e1, (by decide : 1 + 0 ≤ _), (by decide : 3 + 0 ≤ _)⟩)
  dsimp only [Pt.U, Pt.locs, Pt.cells, Pt.slots] at X3 l3 y3 z3 st3 hQ3
  rw [l3, y3, z3] at X3
  obtain ⟨bb0, bb1, bb2, rfl, N3q, K3, Vb3, qbb0, qbb1, qbb2⟩ := hQ3
  have N3 := Fr.app N0 N3q
  have Zs5 : n0 ≤ T3.heap.size := Nat.le_trans Zs2 K3.1
  have hc17_6 : (3 : Int) = (3 : Int) := by decide
  subst hSS
  obtain ⟨fs, hr, q1, q2, q3, q4⟩ := X3.leave (v := some (.ref b1)) (fun h => by rw [Bd.returns] at h; cases h)
  refine ⟨_, _, pre0 _ ?_, q1, q2, _, _, rfl, ?_, ⟨_, rfl⟩, q3, q4.mono (by decide) (by decide)⟩
  · refine XS.iloadN X0.here hx rfl (hb hby d14_0) rfl ?_
    refine st1 _ ?_
    refine XS.astoreN X1.here hx rfl (hb hby d14_3) rfl rfl (l' := #[.val (.ref oc), .val (.int 0), .val (.int 3), .val (.ref b1), .unset, .unset]) rfl ?_
    refine XS.aloadN X1.here hx rfl (hb hby d14_4) rfl rfl ?_
    refine XS.iloadN X1.here hx rfl (hb hby d14_5) rfl ?_
    refine XS.aloadN X1.here hx rfl (hb hby d14_6) rfl rfl ?_
    refine XS.iconst X1.here hx rfl (hb hby d14_7) ?_
    refine XS.iloadN X1.here hx rfl (hb hby d14_8) rfl ?_
    refine st3 _ ?_
    refine XS.istore X3.here hx rfl (hb hby d14_12) rfl (l' := #[.val (.ref oc), .val (.int 0), .val (.int 3), .val (.ref b1), .val (.int 3), .unset]) rfl ?_
    refine XS.iload X3.here hx rfl (hb hby d14_14) rfl ?_
    refine XS.iloadN X3.here hx rfl (hb hby d14_16) rfl ?_
    refine XS.icmpYes X3.here hx rfl (pc0 := 17) (pc' := 57) rfl (hb hby d14_17) rfl (own_teq (a := (3 : Int32)) (b := (3 : Int32)) (by decide) (by decide) hc17_6).1 (by decide) (by decide) ?_
    refine XS.aloadN X3.here hx rfl (hb hby d14_57) rfl rfl ?_
    jvm_step X3.here [X3.here.top, hx, (hb hby d14_58), X3.method', Bd.returns, Value.isRef, FieldType.isReference]
    first | (intro acts; rw [hr _ acts rfl rfl rfl]) | rw [hr _ _ rfl rfl rfl]
    exact Steps.refl _
  · show Q_cm3 Z _ _ _ _ _ h0 n0 _ T3.heap _
    have f7 := (((Keep.refl h0 []).ext E1).trans K3 (allS (P := fun x => x ∈ [] ∨ h0.size ≤ x) (Or.inr sz_b1) all0))
    exact ⟨b1, _, bb0, bb1, bb2, rfl, N3, f7, g_b1, sz_b1, Vb3, qbb0, qbb1, qbb2⟩
theorem ef_rm_cf3_0 (m : MethodId) (x0 : Addr) : entryFrame m #[(.ref x0), (.int 3)] 2 = mkF m 0 #[.val (.ref x0), .val (.int 3)] [] := by first | (simp [entryFrame, mkF, argsToLocals, Value.category]; done) | rfl
def Q_cf3_0 (Z : State) (ob : Addr) (kb : ClassId) (vs : List Value) (h0 : Heap) (n0 : Nat) (v : Option Value) (h : Heap) (L : List Loc) : Prop := ∃ z : Int32, v = some (.int z) ∧ (z = (0 : Int32)) ∧ Fr n0 L ∧ h = h0
theorem rm_cf3_0 (l : Launch) (Z : State) (a0 : Array Value) (hw : ∀ d ∈ tables_1, d.before a0 Z = true) (ws : List Jvm.Cond) (ob : Addr) (kb : ClassId) (vs : List Value) (h0 : Heap) (n0 : Nat) (Z0 : n0 ≤ h0.size) (Vb : Arv Z h0 ob kb .byte (3 : Int32) vs (.int 0)) :
    MetFree l yn15 (head1 (Jvm.Cond.code yn15 kc15 2 (some .byte) :: ws) ⟨0, 0, 0, 0⟩) (fun a U => a = #[(.ref ob), (.int 3)] ∧ Z.Warmed39 U.vm ∧ U.heap = h0) (fun _ _ _ _ _ => True) (fun _ U o U' => ∃ v L, o = .returned v ∧ Q_cf3_0 Z ob kb vs h0 n0 v U'.heap L ∧ FrameEnd U o U' L 0 0) := by
  refine MetFree.of_bodySF (plainFor_of_name pn_4) hisR ?_
  intro p e s m args below meth c s₁ Bd hml0 hP hK
  obtain ⟨rfl, hZ, hh⟩ := hP
  have hx := Bd.exec
  have hby := Bd.bytes
  have hml : c.maxLocals = 2 := hml0
  have hown : s.vm.findClass "java/lang/StringUTF16" = some m.cls := findClass_of_methodNamed Bd.named
  have hnm := (name_of_methodNamed Bd.named Bd.method).1
  have X0 : Stand p l e ⟨0, 0, 0, 0⟩ s m #[(.ref ob), (.int 3)] below meth c s₁ [] 0 0 := Stand.of_body Bd
  have e0 : s₁.heap = h0 := by rw [← hh, Bd.state]; rfl
  have N0 := Fr.nil n0
  obtain ⟨SS, hSS⟩ : ∃ S, S = s₁.setTop (entryFrame m #[(.ref ob), (.int 3)] 2) := ⟨_, rfl⟩
  have pre0 : oP p e below (s₁.setTop (mkF m 0 #[.val (.ref ob), .val (.int 3)] [])) (SS) := by
    rw [hSS]; exact fun t k => castTop (ef_rm_cf3_0 m ob) k
  obtain ⟨cl1, Ar1, q1, S1, M1, H1, G1⟩ := id Vb
  subst hSS
  obtain ⟨fs, hr, q1, q2, q3, q4⟩ := X0.leave (v := some (.int 0)) (fun h => by rw [Bd.returns] at h; cases h)
  refine ⟨_, _, pre0 _ ?_, q1, q2, _, _, rfl, ?_, ⟨_, rfl⟩, q3, q4.mono (by decide) (by decide)⟩
  · refine XS.iloadN X0.here hx rfl (hb hby d16_0) rfl ?_
    refine XS.aloadN X0.here hx rfl (hb hby d16_1) rfl rfl ?_
    refine X0.arraylength hx (by rw [e0]; exact Ar1.1) (State.isArrayOf_alike hZ.alike Ar1.2.1) (g := (mkF m 2 #[.val (.ref ob), .val (.int 3)] [(.ref ob), (.int 3)])) rfl rfl (hb hby d16_2) _ ?_
    rw [len_of S1 M1]
    refine XS.isub X0.here hx rfl (hb hby d16_3) rfl ?_
    refine XS.bipush X0.here hx rfl (hb hby d16_4) ?_
    refine XS.iushr X0.here hx rfl (hb hby d16_6) rfl ?_
    refine XS.i2b X0.here hx rfl (hb hby d16_7) rfl ?_
    exact retN X0 hx (t := .byte) Bd.returns (by simp) (hb hby d16_8) hr
  · show Q_cf3_0 Z _ _ _ h0 n0 _ s₁.heap _
    rw [e0]
    exact ⟨_, rfl, rfl, N0, rfl⟩
theorem ef_rm_iv3 (m : MethodId) (x0 : Addr) (x1 : Addr) : entryFrame m #[(.ref x0), (.ref x1), (.int 0), (.int 3), .null] 6 = mkF m 0 #[.val (.ref x0), .val (.ref x1), .val (.int 0), .val (.int 3), .val .null, .unset] [] := by first | (simp [entryFrame, mkF, argsToLocals, Value.category]; done) | rfl
def Q_iv3 (Z : State) (oa : Addr) (oc : Addr) (vcs : Int32) (vf : Value) (kC : ClassId) (c0 : Int32) (c1 : Int32) (c2 : Int32) (h0 : Heap) (n0 : Nat) (v : Option Value) (h : Heap) (L : List Loc) : Prop := v = none ∧ Fr n0 L ∧ Keep h0 h [oa] ∧ Exa Z h oa "java/lang/String" ∧ ∃ (ob : Addr) (kb : ClassId) (bb0 bb1 bb2 : Int32), n0 ≤ ob ∧ h0.size ≤ ob ∧ Fld Z h oa "java/lang/String" "coder" "B" (.int 0) ∧ Fld Z h oa "java/lang/String" "value" "[B" (.ref ob) ∧ Arv Z h ob kb .byte (3 : Int32) [(.int bb0), (.int bb1), (.int bb2)] (.int 0) ∧ bb0.toInt % 256 = c0.toInt ∧ bb1.toInt % 256 = c1.toInt ∧ bb2.toInt % 256 = c2.toInt
theorem rm_iv3 (l : Launch) (Z : State) (a0 : Array Value) (hw : ∀ d ∈ tables_1, d.before a0 Z = true) (ws : List Jvm.Cond) (oa : Addr) (oc : Addr) (vcs : Int32) (vf : Value) (kC : ClassId) (c0 : Int32) (c1 : Int32) (c2 : Int32) (h0 : Heap) (n0 : Nat) (Z0 : n0 ≤ h0.size) (Os : own_st Z h0 vcs vf) (Es : Exa Z h0 oa "java/lang/String") (Fc : Fld Z h0 oa "java/lang/String" "coder" "B" (.int 0)) (Fv : Fld Z h0 oa "java/lang/String" "value" "[B" .null) (ga : n0 ≤ oa) (nac : oa ≠ oc) (Vc : Arv Z h0 oc kC .char (3 : Int32) [(.int c0), (.int c1), (.int c2)] (.int 0)) (uc0 : 0 ≤ c0.toInt) (uc1 : 0 ≤ c1.toInt) (uc2 : 0 ≤ c2.toInt) (vc0 : c0.toInt ≤ 255) (vc1 : c1.toInt ≤ 255) (vc2 : c2.toInt ≤ 255) :
    MetFree l yn11 (head1 (Jvm.Cond.code yn11 kc11 6 none :: ws) ⟨2, 1, 3, 35⟩) (fun a U => a = #[(.ref oa), (.ref oc), (.int 0), (.int 3), .null] ∧ Z.Warmed39 U.vm ∧ U.heap = h0) (fun _ _ _ _ _ => True) (fun _ U o U' => ∃ v L, o = .returned v ∧ Q_iv3 Z oa oc vcs vf kC c0 c1 c2 h0 n0 v U'.heap L ∧ FrameEnd U o U' L 1 3) := by
  refine MetFree.of_bodySF (plainFor_of_name pn_1) hisR ?_
  intro p e s m args below meth c s₁ Bd hml0 hP hK
  obtain ⟨rfl, hZ, hh⟩ := hP
  have hx := Bd.exec
  have hby := Bd.bytes
  have hml : c.maxLocals = 6 := hml0
  have hown : s.vm.findClass "java/lang/String" = some m.cls := findClass_of_methodNamed Bd.named
  have hnm := (name_of_methodNamed Bd.named Bd.method).1
  have X0 : Stand p l e ⟨2, 1, 3, 35⟩ s m #[(.ref oa), (.ref oc), (.int 0), (.int 3), .null] below meth c s₁ [] 0 0 := Stand.of_body Bd
  have e0 : s₁.heap = h0 := by rw [← hh, Bd.state]; rfl
  have N0 := Fr.nil n0
  obtain ⟨SS, hSS⟩ : ∃ S, S = s₁.setTop (entryFrame m #[(.ref oa), (.ref oc), (.int 0), (.int 3), .null] 6) := ⟨_, rfl⟩
  have pre0 : oP p e below (s₁.setTop (mkF m 0 #[.val (.ref oa), .val (.ref oc), .val (.int 0), .val (.int 3), .val .null, .unset] [])) (SS) := by
    rw [hSS]; exact fun t k => castTop (ef_rm_iv3 m oa oc) k
  obtain ⟨T1, X1, e1, st1⟩ := initO X0 hx hZ hown (ow hw 62 rfl) (ow hw 63 rfl) (ow hw 64 rfl) e0 (g := (mkF m 1 #[.val (.ref oa), .val (.ref oc), .val (.int 0), .val (.int 3), .val .null, .unset] [(.ref oa)])) rfl (by rw [hml]; rfl) rfl (hb hby d12_1) (by decide) (W := 0) (by exact Nat.le_of_eq rfl) (by decide)
  have hc5_2 : ¬ ((3 : Int) = (0 : Int)) := by decide
  obtain ⟨T3, X3, e3, st3⟩ := getS2 X1 hx hZ hown (host := "") (Or.inl (ow hw 19 rfl)) Via.refl e1 Os.1 (g := (mkF m 27 #[.val (.ref oa), .val (.ref oc), .val (.int 0), .val (.int 3), .val .null, .unset] [])) rfl (hb hby d12_27)
  have hc30_4 : ¬ (vcs.toInt = (0 : Int)) := by (have q := Os.2.1; omega)
  obtain ⟨_, _, ⟨T5, L5, k5, n5⟩, -, X5, ⟨Lc5, hQ5, l5, y5, z5⟩, st5⟩ := Jvm.LawKit.callS X3 hx (y := yn14) hown (mvT hZ (ow hw 65 rfl)) (mvT hZ (ow hw 66 rfl)) (mvT hZ (ow hw 67 rfl)) (mvT hZ (ow hw 68 rfl)) (by decide) (backOf (W := 0) (rm_cm3 l Z a0 hw [] oc kC c0 c1 c2 h0 n0 Z0 Vc uc0 uc1 uc2 vc0 vc1 vc2) hZ (ow hw 68 rfl) (ow hw 67 rfl) (by decide) (by decide)) (g := (mkF m 36 #[.val (.ref oa), .val (.ref oc), .val (.int 0), .val (.int 3), .val .null, .unset] [(.int 3), (.int 0), (.ref oc)])) rfl (by rw [hml]; rfl) (argsL := [(.ref oc), (.int 0), (.int 3)]) (rest := []) (lenOf pd_11 rfl) rfl (by exact Nat.le_of_eq rfl) (hb hby d12_36) (fun _ _ => ⟨rfl, e3, (by decide : 0 + 1 ≤ _), (by decide : 0 + 3 ≤ _)⟩)
  dsimp only [Pt.U, Pt.locs, Pt.cells, Pt.slots] at X5 l5 y5 z5 st5 hQ5
  rw [l5, y5, z5] at X5
  obtain ⟨ob, kb, bb0, bb1, bb2, rfl, N5q, K5, gb, szb, Vb5, qbb0, qbb1, qbb2⟩ := hQ5
  have N5 := Fr.app N0 N5q
  have Zs6 : n0 ≤ T5.heap.size := Nat.le_trans Z0 K5.1
  have ne_oa_ob : oa ≠ ob := Nat.ne_of_lt (Nat.lt_of_lt_of_le Es.lt szb)
  have ne_oc_ob : oc ≠ ob := Nat.ne_of_lt (Nat.lt_of_lt_of_le Vc.lt szb)
  have sz_ob : h0.size ≤ ob := Nat.le_trans (Keep.refl h0 [oa]).1 szb
  obtain ⟨_, _, ⟨T7, L7, k7, n7⟩, -, X7, ⟨Lc7, hQ7, l7, y7, z7⟩, st7⟩ := Jvm.LawKit.callS X5 hx (y := yn15) hown (mvT hZ (ow hw 72 rfl)) (mvT hZ (ow hw 73 rfl)) (mvT hZ (ow hw 67 rfl)) (mvT hZ (ow hw 74 rfl)) (by decide) (backOf (W := 1) (rm_cf3_0 l Z a0 hw [] ob kb [(.int bb0), (.int bb1), (.int bb2)] T5.heap n0 Zs6 Vb5) hZ (ow hw 74 rfl) (ow hw 67 rfl) (by decide) (by decide)) (g := (mkF m 45 #[.val (.ref oa), .val (.ref oc), .val (.int 0), .val (.int 3), .val .null, .val (.ref ob)] [(.int 3), (.ref ob), (.ref oa)])) rfl (by rw [hml]; rfl) (argsL := [(.ref ob), (.int 3)]) (rest := [(.ref oa)]) (lenOf pd_12 rfl) rfl (by exact Nat.le_of_eq rfl) (hb hby d12_45) (fun _ _ => ⟨rfl, rfl, (by decide : 1 + 0 ≤ _), (by decide : 3 + 0 ≤ _)⟩)
  dsimp only [Pt.U, Pt.locs, Pt.cells, Pt.slots] at X7 l7 y7 z7 st7 hQ7
  rw [l7, y7, z7] at X7
  obtain ⟨zf, rfl, hzf, N7q, e7⟩ := hQ7
  have N7 := Fr.app N5 N7q
  have pre8 : oP p e below (T7.setTop (mkF m 48 #[.val (.ref oa), .val (.ref oc), .val (.int 0), .val (.int 3), .val .null, .val (.ref ob)] [(.int zf), (.ref oa)])) (SS) := fun t kt => by
    refine pre0 _ ?_
    refine XS.aloadN X0.here hx rfl (hb hby d12_0) rfl rfl ?_
    refine st1 _ ?_
    refine XS.iloadN X1.here hx rfl (hb hby d12_4) rfl ?_
    refine XS.ifYes X1.here hx rfl (pc0 := 5) (pc' := 27) rfl (hb hby d12_5) rfl (own_if (own_feq (a := (3 : Int32)) (b := (0 : Int32)) (by decide) (by decide) hc5_2).2) (by decide) (by decide) ?_
    refine st3 _ ?_
    refine XS.ifNo X3.here hx rfl (hb hby d12_30) rfl (own_if (own_feq (a := vcs) (b := (0 : Int32)) rfl (by decide) hc30_4).1) ?_
    refine XS.aloadN X3.here hx rfl (hb hby d12_33) rfl rfl ?_
    refine XS.iloadN X3.here hx rfl (hb hby d12_34) rfl ?_
    refine XS.iloadN X3.here hx rfl (hb hby d12_35) rfl ?_
    refine st5 _ ?_
    refine XS.astore X5.here hx rfl (hb hby d12_39) rfl rfl (l' := #[.val (.ref oa), .val (.ref oc), .val (.int 0), .val (.int 3), .val .null, .val (.ref ob)]) rfl ?_
    refine XS.aloadN X5.here hx rfl (hb hby d12_41) rfl rfl ?_
    refine XS.aload X5.here hx rfl (hb hby d12_42) rfl rfl ?_
    refine XS.iloadN X5.here hx rfl (hb hby d12_44) rfl ?_
    refine st7 _ ?_
    exact kt
  subst hzf
  have pre9 : oP p e below (T7.setTop (mkF m 48 #[.val (.ref oa), .val (.ref oc), .val (.int 0), .val (.int 3), .val .null, .val (.ref ob)] [(.int 0), (.ref oa)])) (SS) := pre8
  have f10 := (Fc.keep K5 nin0)
  have f11 := (Es.keep K5)
  obtain ⟨T12, h12, X12, e12, W12, st12⟩ := putFN X7 hx hZ hown (ow hw 20 rfl) Via.refl e7 f10 f11 (Or.inr ⟨(ow hw 5 rfl), rfl, hnm⟩) (ow hw 2 rfl) (ty := .byte) (v' := (.int 0)) (by decide) rfl rfl (g := (mkF m 48 #[.val (.ref oa), .val (.ref oc), .val (.int 0), .val (.int 3), .val .null, .val (.ref ob)] [(.int 0), (.ref oa)])) rfl rfl (hb hby d12_48)
  have N12 := Fr.snoc X12 N7 ga
  have Zs13 : n0 ≤ h12.size := by rw [W12.size]; exact Zs6
  have Fw12 := f10.same W12
  have f14 := ((Fv.keep K5 nin0).other W12 (Or.inr (slot_ne (Or.inr (ow hw 4 rfl)) (Or.inr (ow hw 5 rfl)) (by decide) (t := (.array .byte)) (t' := .byte) (by decide) (by decide))))
  have f15 := (f11.wr W12)
  obtain ⟨T16, h16, X16, e16, W16, st16⟩ := putF X12 hx hZ hown (host := "") (Or.inl (ow hw 13 rfl)) Via.refl e12 f14 f15 (Or.inr ⟨(ow hw 4 rfl), rfl, hnm⟩) (ow hw 2 rfl) (ty := (.array .byte)) (by decide) rfl rfl (g := (mkF m 54 #[.val (.ref oa), .val (.ref oc), .val (.int 0), .val (.int 3), .val .null, .val (.ref ob)] [(.ref ob), (.ref oa)])) rfl rfl (hb hby d12_54)
  have N16 := Fr.snoc X16 N12 ga
  have Zs17 : n0 ≤ h16.size := by rw [W16.size]; exact Zs13
  have Fw16 := f14.same W16
  subst hSS
  obtain ⟨fs, hr, q1, q2, q3, q4⟩ := X16.leave (v := none) (fun _ => rfl)
  refine ⟨_, _, pre9 _ ?_, q1, q2, _, _, rfl, ?_, ⟨_, rfl⟩, q3, q4.mono (by decide) (by decide)⟩
  · refine st12 _ ?_
    refine XS.aloadN X12.here hx rfl (hb hby d12_51) rfl rfl ?_
    refine XS.aload X12.here hx rfl (hb hby d12_52) rfl rfl ?_
    refine st16 _ ?_
    show Steps p.tables e below (T16.setTop (mkF m 57 #[.val (.ref oa), .val (.ref oc), .val (.int 0), .val (.int 3), .val .null, .val (.ref ob)] [])) _
    exact X16.returnOut hx Bd.returns (hb hby d12_57) hr
  · show Q_iv3 Z _ _ _ _ _ _ _ _ h0 n0 _ T16.heap _
    rw [e16]
    have f18 := ((((Keep.refl h0 [oa]).trans K5 all0).wr W12 (Or.inl (List.mem_of_getElem? (i := 0) rfl))).wr W16 (Or.inl (List.mem_of_getElem? (i := 0) rfl)))
    have f19 := (f15.wr W16)
    have f20 := (Fw12.other W16 (Or.inr (slot_ne (Or.inr (ow hw 5 rfl)) (Or.inr (ow hw 4 rfl)) (by decide) (t := .byte) (t' := (.array .byte)) (by decide) (by decide))))
    have f21 := ((Vb5.other W12 (Ne.symm ne_oa_ob)).other W16 (Ne.symm ne_oa_ob))
    exact ⟨rfl, N16, f18, f19, ob, kb, bb0, bb1, bb2, gb, sz_ob, f20, Fw16, f21, qbb0, qbb1, qbb2⟩
theorem ef_rm_mk3 (m : MethodId) (x0 : Addr) (x1 : Addr) : entryFrame m #[(.ref x0), (.ref x1)] 2 = mkF m 0 #[.val (.ref x0), .val (.ref x1)] [] := by first | (simp [entryFrame, mkF, argsToLocals, Value.category]; done) | rfl
def Q_mk3 (Z : State) (oa : Addr) (oc : Addr) (vcs : Int32) (vf : Value) (kC : ClassId) (c0 : Int32) (c1 : Int32) (c2 : Int32) (h0 : Heap) (n0 : Nat) (v : Option Value) (h : Heap) (L : List Loc) : Prop := v = none ∧ Fr n0 L ∧ Keep h0 h [oa] ∧ Exa Z h oa "java/lang/String" ∧ ∃ (ob : Addr) (kb : ClassId) (bb0 bb1 bb2 : Int32), n0 ≤ ob ∧ h0.size ≤ ob ∧ Fld Z h oa "java/lang/String" "coder" "B" (.int 0) ∧ Fld Z h oa "java/lang/String" "value" "[B" (.ref ob) ∧ Arv Z h ob kb .byte (3 : Int32) [(.int bb0), (.int bb1), (.int bb2)] (.int 0) ∧ bb0.toInt % 256 = c0.toInt ∧ bb1.toInt % 256 = c1.toInt ∧ bb2.toInt % 256 = c2.toInt
theorem rm_mk3 (l : Launch) (Z : State) (a0 : Array Value) (hw : ∀ d ∈ tables_1, d.before a0 Z = true) (ws : List Jvm.Cond) (oa : Addr) (oc : Addr) (vcs : Int32) (vf : Value) (kC : ClassId) (c0 : Int32) (c1 : Int32) (c2 : Int32) (h0 : Heap) (n0 : Nat) (Z0 : n0 ≤ h0.size) (Os : own_st Z h0 vcs vf) (Es : Exa Z h0 oa "java/lang/String") (Fc : Fld Z h0 oa "java/lang/String" "coder" "B" (.int 0)) (Fv : Fld Z h0 oa "java/lang/String" "value" "[B" .null) (ga : n0 ≤ oa) (nac : oa ≠ oc) (Vc : Arv Z h0 oc kC .char (3 : Int32) [(.int c0), (.int c1), (.int c2)] (.int 0)) (uc0 : 0 ≤ c0.toInt) (uc1 : 0 ≤ c1.toInt) (uc2 : 0 ≤ c2.toInt) (vc0 : c0.toInt ≤ 255) (vc1 : c1.toInt ≤ 255) (vc2 : c2.toInt ≤ 255) :
    MetFree l yn12 (head1 (Jvm.Cond.code yn12 kc12 2 none :: ws) ⟨3, 1, 3, 52⟩) (fun a U => a = #[(.ref oa), (.ref oc)] ∧ Z.Warmed39 U.vm ∧ U.heap = h0) (fun _ _ _ _ _ => True) (fun _ U o U' => ∃ v L, o = .returned v ∧ Q_mk3 Z oa oc vcs vf kC c0 c1 c2 h0 n0 v U'.heap L ∧ FrameEnd U o U' L 1 3) := by
  refine MetFree.of_bodySF (plainFor_of_name pn_1) hisR ?_
  intro p e s m args below meth c s₁ Bd hml0 hP hK
  obtain ⟨rfl, hZ, hh⟩ := hP
  have hx := Bd.exec
  have hby := Bd.bytes
  have hml : c.maxLocals = 2 := hml0
  have hown : s.vm.findClass "java/lang/String" = some m.cls := findClass_of_methodNamed Bd.named
  have hnm := (name_of_methodNamed Bd.named Bd.method).1
  have X0 : Stand p l e ⟨3, 1, 3, 52⟩ s m #[(.ref oa), (.ref oc)] below meth c s₁ [] 0 0 := Stand.of_body Bd
  have e0 : s₁.heap = h0 := by rw [← hh, Bd.state]; rfl
  have N0 := Fr.nil n0
  obtain ⟨SS, hSS⟩ : ∃ S, S = s₁.setTop (entryFrame m #[(.ref oa), (.ref oc)] 2) := ⟨_, rfl⟩
  have pre0 : oP p e below (s₁.setTop (mkF m 0 #[.val (.ref oa), .val (.ref oc)] [])) (SS) := by
    rw [hSS]; exact fun t k => castTop (ef_rm_mk3 m oa oc) k
  obtain ⟨cl1, Ar1, q1, S1, M1, H1, G1⟩ := id Vc
  obtain ⟨_, _, ⟨T2, L2, k2, n2⟩, -, X2, ⟨Lc2, hQ2, l2, y2, z2⟩, st2⟩ := X0.specialBack hx (y := yn11) rfl hown (mvT hZ (ow hw 58 rfl)) (mvT hZ (ow hw 59 rfl)) (mvT hZ (ow hw 61 rfl)) (by decide) (backOf (W := 0) (rm_iv3 l Z a0 hw [] oa oc vcs vf kC c0 c1 c2 h0 n0 Z0 Os Es Fc Fv ga nac Vc uc0 uc1 uc2 vc0 vc1 vc2) hZ (ow hw 61 rfl) (ow hw 1 rfl) (by decide) (by decide)) (g := (mkF m 6 #[.val (.ref oa), .val (.ref oc)] [.null, (.int 3), (.int 0), (.ref oc), (.ref oa)])) rfl (by rw [hml]; rfl) (Steps.refl _) (a := oa) (argsL := [(.ref oc), (.int 0), (.int 3), .null]) (rest := []) (lenOf pd_9 rfl) rfl (by exact Nat.le_of_eq rfl) (hb hby d11_6) (fun _ _ => ⟨rfl, e0, (by decide : 0 + 1 ≤ _), (by decide : 0 + 3 ≤ _)⟩)
  dsimp only [Pt.U, Pt.locs, Pt.cells, Pt.slots] at X2 l2 y2 z2 st2 hQ2
  rw [l2, y2, z2] at X2
  obtain ⟨rfl, N2q, K2, A2, ob, kb, bb0, bb1, bb2, gb, szb, Fc2, Fv2, Vb2, qbb0, qbb1, qbb2⟩ := hQ2
  have N2 := Fr.app N0 N2q
  have Zs3 : n0 ≤ T2.heap.size := Nat.le_trans Z0 K2.1
  have ne_oa_ob : oa ≠ ob := Nat.ne_of_lt (Nat.lt_of_lt_of_le Es.lt szb)
  have ne_oc_ob : oc ≠ ob := Nat.ne_of_lt (Nat.lt_of_lt_of_le Vc.lt szb)
  have sz_ob : h0.size ≤ ob := Nat.le_trans (Keep.refl h0 [oa]).1 szb
  subst hSS
  obtain ⟨fs, hr, q1, q2, q3, q4⟩ := X2.leave (v := none) (fun _ => rfl)
  refine ⟨_, _, pre0 _ ?_, q1, q2, _, _, rfl, ?_, ⟨_, rfl⟩, q3, q4.mono (by decide) (by decide)⟩
  · refine XS.aloadN X0.here hx rfl (hb hby d11_0) rfl rfl ?_
    refine XS.aloadN X0.here hx rfl (hb hby d11_1) rfl rfl ?_
    refine XS.iconst X0.here hx rfl (hb hby d11_2) ?_
    refine XS.aloadN X0.here hx rfl (hb hby d11_3) rfl rfl ?_
    refine X0.arraylength hx (by rw [e0]; exact Ar1.1) (State.isArrayOf_alike hZ.alike Ar1.2.1) (g := (mkF m 4 #[.val (.ref oa), .val (.ref oc)] [(.ref oc), (.int 0), (.ref oc), (.ref oa)])) rfl rfl (hb hby d11_4) _ ?_
    rw [len_of S1 M1]
    refine XS.aconstNull X0.here hx rfl (hb hby d11_5) ?_
    refine st2.trans ?_
    exact X2.returnOut hx Bd.returns (hb hby d11_9) hr
  · show Q_mk3 Z _ _ _ _ _ _ _ _ h0 n0 _ T2.heap _
    have f4 := ((Keep.refl h0 [oa]).trans K2 (allS (P := fun x => x ∈ [oa] ∨ h0.size ≤ x) (Or.inl (List.mem_of_getElem? (i := 0) rfl)) all0))
    exact ⟨rfl, N2, f4, A2, ob, kb, bb0, bb1, bb2, gb, sz_ob, Fc2, Fv2, Vb2, qbb0, qbb1, qbb2⟩
theorem ef_rm_cp4 (m : MethodId) (x0 : Addr) (x2 : Addr) : entryFrame m #[(.ref x0), (.int 0), (.ref x2), (.int 0), (.int 4)] 7 = mkF m 0 #[.val (.ref x0), .val (.int 0), .val (.ref x2), .val (.int 0), .val (.int 4), .unset, .unset] [] := by first | (simp [entryFrame, mkF, argsToLocals, Value.category]; done) | rfl
def Q_cp4 (Z : State) (oc : Addr) (ob : Addr) (kC : ClassId) (c0 : Int32) (c1 : Int32) (c2 : Int32) (c3 : Int32) (kb : ClassId) (h0 : Heap) (n0 : Nat) (v : Option Value) (h : Heap) (L : List Loc) : Prop := ∃ bb0 bb1 bb2 bb3 : Int32, v = some (.int 4) ∧ Fr n0 L ∧ Keep h0 h [ob] ∧ Arv Z h ob kb .byte (4 : Int32) [(.int bb0), (.int bb1), (.int bb2), (.int bb3)] (.int 0) ∧ bb0.toInt % 256 = c0.toInt ∧ bb1.toInt % 256 = c1.toInt ∧ bb2.toInt % 256 = c2.toInt ∧ bb3.toInt % 256 = c3.toInt
theorem rm_cp4 (l : Launch) (Z : State) (a0 : Array Value) (hw : ∀ d ∈ tables_1, d.before a0 Z = true) (ws : List Jvm.Cond) (oc : Addr) (ob : Addr) (kC : ClassId) (c0 : Int32) (c1 : Int32) (c2 : Int32) (c3 : Int32) (kb : ClassId) (h0 : Heap) (n0 : Nat) (Z0 : n0 ≤ h0.size) (Vc : Arv Z h0 oc kC .char (4 : Int32) [(.int c0), (.int c1), (.int c2), (.int c3)] (.int 0)) (uc0 : 0 ≤ c0.toInt) (uc1 : 0 ≤ c1.toInt) (uc2 : 0 ≤ c2.toInt) (uc3 : 0 ≤ c3.toInt) (vc0 : c0.toInt ≤ 255) (vc1 : c1.toInt ≤ 255) (vc2 : c2.toInt ≤ 255) (vc3 : c3.toInt ≤ 255) (Vb : Arv Z h0 ob kb .byte (4 : Int32) [(.int 0), (.int 0), (.int 0), (.int 0)] (.int 0)) (gb : n0 ≤ ob) (ncb : oc ≠ ob) :
    MetFree l yn13 (head1 (Jvm.Cond.code yn13 kc13 7 (some .int) :: ws) ⟨0, 0, 0, 0⟩) (fun a U => a = #[(.ref oc), (.int 0), (.ref ob), (.int 0), (.int 4)] ∧ Z.Warmed39 U.vm ∧ U.heap = h0) (fun _ _ _ _ _ => True) (fun _ U o U' => ∃ v L, o = .returned v ∧ Q_cp4 Z oc ob kC c0 c1 c2 c3 kb h0 n0 v U'.heap L ∧ FrameEnd U o U' L 0 0) := by
  refine MetFree.of_bodySF (plainFor_of_name pn_4) hisR ?_
  intro p e s m args below meth c s₁ Bd hml0 hP hK
  obtain ⟨rfl, hZ, hh⟩ := hP
  have hx := Bd.exec
  have hby := Bd.bytes
  have hml : c.maxLocals = 7 := hml0
  have hown : s.vm.findClass "java/lang/StringUTF16" = some m.cls := findClass_of_methodNamed Bd.named
  have hnm := (name_of_methodNamed Bd.named Bd.method).1
  have X0 : Stand p l e ⟨0, 0, 0, 0⟩ s m #[(.ref oc), (.int 0), (.ref ob), (.int 0), (.int 4)] below meth c s₁ [] 0 0 := Stand.of_body Bd
  have e0 : s₁.heap = h0 := by rw [← hh, Bd.state]; rfl
  have N0 := Fr.nil n0
  obtain ⟨SS, hSS⟩ : ∃ S, S = s₁.setTop (entryFrame m #[(.ref oc), (.int 0), (.ref ob), (.int 0), (.int 4)] 7) := ⟨_, rfl⟩
  have pre0 : oP p e below (s₁.setTop (mkF m 0 #[.val (.ref oc), .val (.int 0), .val (.ref ob), .val (.int 0), .val (.int 4), .unset, .unset] [])) (SS) := by
    rw [hSS]; exact fun t k => castTop (ef_rm_cp4 m oc ob) k
  have hc7_1 : (0 : Int) < (4 : Int) := by decide
  obtain ⟨cl2, Ar2, q2, S2, M2, H2, G2⟩ := id Vc
  have hin2 : ¬ ((0 : Int32) < 0 ∨ cl2.slots.size ≤ ((0 : Int32)).toNatClampNeg) := inb_of S2 ⟨by decide, by decide⟩
  have hat2 : cl2.slots[((0 : Int32)).toNatClampNeg]? = some (.int c0) := Has.at H2 hin2 rfl
  have hc20_3 : ¬ ((255 : Int) < c0.toInt) := by omega
  obtain ⟨cl4, Ar4, q4, S4, M4, H4, G4⟩ := id Vb
  have hin4 : ¬ ((0 : Int32) < 0 ∨ cl4.slots.size ≤ ((0 : Int32)).toNatClampNeg) := inb_of S4 ⟨by decide, by decide⟩
  obtain ⟨T5, h5, X5, e5, W5, st5⟩ := stB X0 hx hZ e0 Ar4 (j := (0 : Int32)) hin4 (g := (mkF m 31 #[.val (.ref oc), .val (.int 0), .val (.ref ob), .val (.int 0), .val (.int 4), .val (.int 0), .val (.int c0)] [(.int (c0.toInt8.toInt32)), (.int 0), (.ref ob)])) rfl rfl (hb hby d15_31)
  have N5 := Fr.snoc X5 N0 gb
  have Zs6 : n0 ≤ h5.size := by rw [W5.size]; exact Z0
  have V5 : Arv Z h5 ob kb .byte (4 : Int32) [(.int (nar .byte (c0.toInt8.toInt32))), (.int 0), (.int 0), (.int 0)] (.int 0) := Arv.set Ar4 q4 S4 M4 H4 G4 (fits_nar_byte _) W5 0 rfl (Nat.le_of_ble_eq_true rfl)
  have hc7_7 : (1 : Int) < (4 : Int) := by decide
  have f8 := (Vc.other W5 ncb)
  obtain ⟨cl9, Ar9, q9, S9, M9, H9, G9⟩ := id f8
  have hin9 : ¬ ((1 : Int32) < 0 ∨ cl9.slots.size ≤ ((1 : Int32)).toNatClampNeg) := inb_of S9 ⟨by decide, by decide⟩
  have hat9 : cl9.slots[((1 : Int32)).toNatClampNeg]? = some (.int c1) := Has.at H9 hin9 rfl
  have hc20_10 : ¬ ((255 : Int) < c1.toInt) := by omega
  obtain ⟨cl11, Ar11, q11, S11, M11, H11, G11⟩ := id V5
  have hin11 : ¬ ((1 : Int32) < 0 ∨ cl11.slots.size ≤ ((1 : Int32)).toNatClampNeg) := inb_of S11 ⟨by decide, by decide⟩
  obtain ⟨T12, h12, X12, e12, W12, st12⟩ := stB X5 hx hZ e5 Ar11 (j := (1 : Int32)) hin11 (g := (mkF m 31 #[.val (.ref oc), .val (.int 1), .val (.ref ob), .val (.int 1), .val (.int 4), .val (.int 1), .val (.int c1)] [(.int (c1.toInt8.toInt32)), (.int 1), (.ref ob)])) rfl rfl (hb hby d15_31)
  have N12 := Fr.snoc X12 N5 gb
  have Zs13 : n0 ≤ h12.size := by rw [W12.size]; exact Zs6
  have V12 : Arv Z h12 ob kb .byte (4 : Int32) [(.int (nar .byte (c0.toInt8.toInt32))), (.int (nar .byte (c1.toInt8.toInt32))), (.int 0), (.int 0)] (.int 0) := Arv.set Ar11 q11 S11 M11 H11 G11 (fits_nar_byte _) W12 1 rfl (Nat.le_of_ble_eq_true rfl)
  have hc7_14 : (2 : Int) < (4 : Int) := by decide
  have f15 := (f8.other W12 ncb)
  obtain ⟨cl16, Ar16, q16, S16, M16, H16, G16⟩ := id f15
  have hin16 : ¬ ((2 : Int32) < 0 ∨ cl16.slots.size ≤ ((2 : Int32)).toNatClampNeg) := inb_of S16 ⟨by decide, by decide⟩
  have hat16 : cl16.slots[((2 : Int32)).toNatClampNeg]? = some (.int c2) := Has.at H16 hin16 rfl
  have hc20_17 : ¬ ((255 : Int) < c2.toInt) := by omega
  obtain ⟨cl18, Ar18, q18, S18, M18, H18, G18⟩ := id V12
  have hin18 : ¬ ((2 : Int32) < 0 ∨ cl18.slots.size ≤ ((2 : Int32)).toNatClampNeg) := inb_of S18 ⟨by decide, by decide⟩
  obtain ⟨T19, h19, X19, e19, W19, st19⟩ := stB X12 hx hZ e12 Ar18 (j := (2 : Int32)) hin18 (g := (mkF m 31 #[.val (.ref oc), .val (.int 2), .val (.ref ob), .val (.int 2), .val (.int 4), .val (.int 2), .val (.int c2)] [(.int (c2.toInt8.toInt32)), (.int 2), (.ref ob)])) rfl rfl (hb hby d15_31)
  have N19 := Fr.snoc X19 N12 gb
  have Zs20 : n0 ≤ h19.size := by rw [W19.size]; exact Zs13
  have V19 : Arv Z h19 ob kb .byte (4 : Int32) [(.int (nar .byte (c0.toInt8.toInt32))), (.int (nar .byte (c1.toInt8.toInt32))), (.int (nar .byte (c2.toInt8.toInt32))), (.int 0)] (.int 0) := Arv.set Ar18 q18 S18 M18 H18 G18 (fits_nar_byte _) W19 2 rfl (Nat.le_of_ble_eq_true rfl)
  have hc7_21 : (3 : Int) < (4 : Int) := by decide
  have f22 := (f15.other W19 ncb)
  obtain ⟨cl23, Ar23, q23, S23, M23, H23, G23⟩ := id f22
  have hin23 : ¬ ((3 : Int32) < 0 ∨ cl23.slots.size ≤ ((3 : Int32)).toNatClampNeg) := inb_of S23 ⟨by decide, by decide⟩
  have hat23 : cl23.slots[((3 : Int32)).toNatClampNeg]? = some (.int c3) := Has.at H23 hin23 rfl
  have hc20_24 : ¬ ((255 : Int) < c3.toInt) := by omega
  obtain ⟨cl25, Ar25, q25, S25, M25, H25, G25⟩ := id V19
  have hin25 : ¬ ((3 : Int32) < 0 ∨ cl25.slots.size ≤ ((3 : Int32)).toNatClampNeg) := inb_of S25 ⟨by decide, by decide⟩
  obtain ⟨T26, h26, X26, e26, W26, st26⟩ := stB X19 hx hZ e19 Ar25 (j := (3 : Int32)) hin25 (g := (mkF m 31 #[.val (.ref oc), .val (.int 3), .val (.ref ob), .val (.int 3), .val (.int 4), .val (.int 3), .val (.int c3)] [(.int (c3.toInt8.toInt32)), (.int 3), (.ref ob)])) rfl rfl (hb hby d15_31)
  have N26 := Fr.snoc X26 N19 gb
  have Zs27 : n0 ≤ h26.size := by rw [W26.size]; exact Zs20
  have V26 : Arv Z h26 ob kb .byte (4 : Int32) [(.int (nar .byte (c0.toInt8.toInt32))), (.int (nar .byte (c1.toInt8.toInt32))), (.int (nar .byte (c2.toInt8.toInt32))), (.int (nar .byte (c3.toInt8.toInt32)))] (.int 0) := Arv.set Ar25 q25 S25 M25 H25 G25 (fits_nar_byte _) W26 3 rfl (Nat.le_of_ble_eq_true rfl)
  have hc7_28 : ¬ ((4 : Int) < (4 : Int)) := by decide
  subst hSS
  obtain ⟨fs, hr, q1, q2, q3, q4⟩ := X26.leave (v := some (.int 4)) (fun h => by rw [Bd.returns] at h; cases h)
  refine ⟨_, _, pre0 _ ?_, q1, q2, _, _, rfl, ?_, ⟨_, rfl⟩, q3, q4.mono (by decide) (by decide)⟩
  · refine XS.iconst X0.here hx rfl (hb hby d15_0) ?_
    refine XS.istore X0.here hx rfl (hb hby d15_1) rfl (l' := #[.val (.ref oc), .val (.int 0), .val (.ref ob), .val (.int 0), .val (.int 4), .val (.int 0), .unset]) rfl ?_
    refine XS.iload X0.here hx rfl (hb hby d15_3) rfl ?_
    refine XS.iload X0.here hx rfl (hb hby d15_5) rfl ?_
    refine XS.icmpNo X0.here hx rfl (hb hby d15_7) rfl (own_tlt (a := (0 : Int32)) (b := (4 : Int32)) (by decide) (by decide) hc7_1).2.1 ?_
    refine XS.aloadN X0.here hx rfl (hb hby d15_10) rfl rfl ?_
    refine XS.iloadN X0.here hx rfl (hb hby d15_11) rfl ?_
    refine X0.caload hx (j := (0 : Int32)) (v := (.int c0)) (by rw [e0]; exact Ar2.1) (State.isArrayOf_alike hZ.alike Ar2.2.1) Ar2.2.2 hin2 hat2 (g := (mkF m 12 #[.val (.ref oc), .val (.int 0), .val (.ref ob), .val (.int 0), .val (.int 4), .val (.int 0), .unset] [(.int 0), (.ref oc)])) rfl rfl (hb hby d15_12) _ ?_
    refine XS.istore X0.here hx rfl (hb hby d15_13) rfl (l' := #[.val (.ref oc), .val (.int 0), .val (.ref ob), .val (.int 0), .val (.int 4), .val (.int 0), .val (.int c0)]) rfl ?_
    refine XS.iload X0.here hx rfl (hb hby d15_15) rfl ?_
    refine XS.sipush X0.here hx rfl (hb hby d15_17) ?_
    refine XS.icmpYes X0.here hx rfl (pc0 := 20) (pc' := 26) rfl (hb hby d15_20) rfl (own_flt (a := (255 : Int32)) (b := c0) (by decide) rfl hc20_3).2.2.2 (by decide) (by decide) ?_
    refine XS.aloadN X0.here hx rfl (hb hby d15_26) rfl rfl ?_
    refine XS.iloadN X0.here hx rfl (hb hby d15_27) rfl ?_
    refine XS.iload X0.here hx rfl (hb hby d15_28) rfl ?_
    refine XS.i2b X0.here hx rfl (hb hby d15_30) rfl ?_
    refine st5 _ ?_
    refine XS.iinc X5.here hx rfl (hb hby d15_32) rfl (l' := #[.val (.ref oc), .val (.int 1), .val (.ref ob), .val (.int 0), .val (.int 4), .val (.int 0), .val (.int c0)]) rfl ?_
    refine XS.iinc X5.here hx rfl (hb hby d15_35) rfl (l' := #[.val (.ref oc), .val (.int 1), .val (.ref ob), .val (.int 1), .val (.int 4), .val (.int 0), .val (.int c0)]) rfl ?_
    show Steps p.tables e below (T5.setTop (mkF m 38 #[.val (.ref oc), .val (.int 1), .val (.ref ob), .val (.int 1), .val (.int 4), .val (.int 0), .val (.int c0)] [])) _
    refine XS.iinc X5.here hx rfl (hb hby d15_38) rfl (l' := #[.val (.ref oc), .val (.int 1), .val (.ref ob), .val (.int 1), .val (.int 4), .val (.int 1), .val (.int c0)]) rfl ?_
    refine XS.goto X5.here hx rfl (pc0 := 41) (pc' := 3) rfl (hb hby d15_41) (by decide) (by decide) ?_
    refine XS.iload X5.here hx rfl (hb hby d15_3) rfl ?_
    refine XS.iload X5.here hx rfl (hb hby d15_5) rfl ?_
    refine XS.icmpNo X5.here hx rfl (hb hby d15_7) rfl (own_tlt (a := (1 : Int32)) (b := (4 : Int32)) (by decide) (by decide) hc7_7).2.1 ?_
    refine XS.aloadN X5.here hx rfl (hb hby d15_10) rfl rfl ?_
    refine XS.iloadN X5.here hx rfl (hb hby d15_11) rfl ?_
    refine X5.caload hx (j := (1 : Int32)) (v := (.int c1)) (by rw [e5]; exact Ar9.1) (State.isArrayOf_alike hZ.alike Ar9.2.1) Ar9.2.2 hin9 hat9 (g := (mkF m 12 #[.val (.ref oc), .val (.int 1), .val (.ref ob), .val (.int 1), .val (.int 4), .val (.int 1), .val (.int c0)] [(.int 1), (.ref oc)])) rfl rfl (hb hby d15_12) _ ?_
    refine XS.istore X5.here hx rfl (hb hby d15_13) rfl (l' := #[.val (.ref oc), .val (.int 1), .val (.ref ob), .val (.int 1), .val (.int 4), .val (.int 1), .val (.int c1)]) rfl ?_
    refine XS.iload X5.here hx rfl (hb hby d15_15) rfl ?_
    refine XS.sipush X5.here hx rfl (hb hby d15_17) ?_
    refine XS.icmpYes X5.here hx rfl (pc0 := 20) (pc' := 26) rfl (hb hby d15_20) rfl (own_flt (a := (255 : Int32)) (b := c1) (by decide) rfl hc20_10).2.2.2 (by decide) (by decide) ?_
    refine XS.aloadN X5.here hx rfl (hb hby d15_26) rfl rfl ?_
    refine XS.iloadN X5.here hx rfl (hb hby d15_27) rfl ?_
    refine XS.iload X5.here hx rfl (hb hby d15_28) rfl ?_
    refine XS.i2b X5.here hx rfl (hb hby d15_30) rfl ?_
    refine st12 _ ?_
    refine XS.iinc X12.here hx rfl (hb hby d15_32) rfl (l' := #[.val (.ref oc), .val (.int 2), .val (.ref ob), .val (.int 1), .val (.int 4), .val (.int 1), .val (.int c1)]) rfl ?_
    refine XS.iinc X12.here hx rfl (hb hby d15_35) rfl (l' := #[.val (.ref oc), .val (.int 2), .val (.ref ob), .val (.int 2), .val (.int 4), .val (.int 1), .val (.int c1)]) rfl ?_
    refine XS.iinc X12.here hx rfl (hb hby d15_38) rfl (l' := #[.val (.ref oc), .val (.int 2), .val (.ref ob), .val (.int 2), .val (.int 4), .val (.int 2), .val (.int c1)]) rfl ?_
    show Steps p.tables e below (T12.setTop (mkF m 41 #[.val (.ref oc), .val (.int 2), .val (.ref ob), .val (.int 2), .val (.int 4), .val (.int 2), .val (.int c1)] [])) _
    refine XS.goto X12.here hx rfl (pc0 := 41) (pc' := 3) rfl (hb hby d15_41) (by decide) (by decide) ?_
    refine XS.iload X12.here hx rfl (hb hby d15_3) rfl ?_
    refine XS.iload X12.here hx rfl (hb hby d15_5) rfl ?_
    refine XS.icmpNo X12.here hx rfl (hb hby d15_7) rfl (own_tlt (a := (2 : Int32)) (b := (4 : Int32)) (by decide) (by decide) hc7_14).2.1 ?_
    refine XS.aloadN X12.here hx rfl (hb hby d15_10) rfl rfl ?_
    refine XS.iloadN X12.here hx rfl (hb hby d15_11) rfl ?_
    refine X12.caload hx (j := (2 : Int32)) (v := (.int c2)) (by rw [e12]; exact Ar16.1) (State.isArrayOf_alike hZ.alike Ar16.2.1) Ar16.2.2 hin16 hat16 (g := (mkF m 12 #[.val (.ref oc), .val (.int 2), .val (.ref ob), .val (.int 2), .val (.int 4), .val (.int 2), .val (.int c1)] [(.int 2), (.ref oc)])) rfl rfl (hb hby d15_12) _ ?_
    refine XS.istore X12.here hx rfl (hb hby d15_13) rfl (l' := #[.val (.ref oc), .val (.int 2), .val (.ref ob), .val (.int 2), .val (.int 4), .val (.int 2), .val (.int c2)]) rfl ?_
    refine XS.iload X12.here hx rfl (hb hby d15_15) rfl ?_
    refine XS.sipush X12.here hx rfl (hb hby d15_17) ?_
    refine XS.icmpYes X12.here hx rfl (pc0 := 20) (pc' := 26) rfl (hb hby d15_20) rfl (own_flt (a := (255 : Int32)) (b := c2) (by decide) rfl hc20_17).2.2.2 (by decide) (by decide) ?_
    refine XS.aloadN X12.here hx rfl (hb hby d15_26) rfl rfl ?_
    refine XS.iloadN X12.here hx rfl (hb hby d15_27) rfl ?_
    refine XS.iload X12.here hx rfl (hb hby d15_28) rfl ?_
    refine XS.i2b X12.here hx rfl (hb hby d15_30) rfl ?_
    refine st19 _ ?_
    refine XS.iinc X19.here hx rfl (hb hby d15_32) rfl (l' := #[.val (.ref oc), .val (.int 3), .val (.ref ob), .val (.int 2), .val (.int 4), .val (.int 2), .val (.int c2)]) rfl ?_
    refine XS.iinc X19.here hx rfl (hb hby d15_35) rfl (l' := #[.val (.ref oc), .val (.int 3), .val (.ref ob), .val (.int 3), .val (.int 4), .val (.int 2), .val (.int c2)]) rfl ?_
    refine XS.iinc X19.here hx rfl (hb hby d15_38) rfl (l' := #[.val (.ref oc), .val (.int 3), .val (.ref ob), .val (.int 3), .val (.int 4), .val (.int 3), .val (.int c2)]) rfl ?_
    refine XS.goto X19.here hx rfl (pc0 := 41) (pc' := 3) rfl (hb hby d15_41) (by decide) (by decide) ?_
    show Steps p.tables e below (T19.setTop (mkF m 3 #[.val (.ref oc), .val (.int 3), .val (.ref ob), .val (.int 3), .val (.int 4), .val (.int 3), .val (.int c2)] [])) _
    refine XS.iload X19.here hx rfl (hb hby d15_3) rfl ?_
    refine XS.iload X19.here hx rfl (hb hby d15_5) rfl ?_
    refine XS.icmpNo X19.here hx rfl (hb hby d15_7) rfl (own_tlt (a := (3 : Int32)) (b := (4 : Int32)) (by decide) (by decide) hc7_21).2.1 ?_
    refine XS.aloadN X19.here hx rfl (hb hby d15_10) rfl rfl ?_
    refine XS.iloadN X19.here hx rfl (hb hby d15_11) rfl ?_
    refine X19.caload hx (j := (3 : Int32)) (v := (.int c3)) (by rw [e19]; exact Ar23.1) (State.isArrayOf_alike hZ.alike Ar23.2.1) Ar23.2.2 hin23 hat23 (g := (mkF m 12 #[.val (.ref oc), .val (.int 3), .val (.ref ob), .val (.int 3), .val (.int 4), .val (.int 3), .val (.int c2)] [(.int 3), (.ref oc)])) rfl rfl (hb hby d15_12) _ ?_
    refine XS.istore X19.here hx rfl (hb hby d15_13) rfl (l' := #[.val (.ref oc), .val (.int 3), .val (.ref ob), .val (.int 3), .val (.int 4), .val (.int 3), .val (.int c3)]) rfl ?_
    refine XS.iload X19.here hx rfl (hb hby d15_15) rfl ?_
    refine XS.sipush X19.here hx rfl (hb hby d15_17) ?_
    refine XS.icmpYes X19.here hx rfl (pc0 := 20) (pc' := 26) rfl (hb hby d15_20) rfl (own_flt (a := (255 : Int32)) (b := c3) (by decide) rfl hc20_24).2.2.2 (by decide) (by decide) ?_
    refine XS.aloadN X19.here hx rfl (hb hby d15_26) rfl rfl ?_
    refine XS.iloadN X19.here hx rfl (hb hby d15_27) rfl ?_
    refine XS.iload X19.here hx rfl (hb hby d15_28) rfl ?_
    refine XS.i2b X19.here hx rfl (hb hby d15_30) rfl ?_
    refine st26 _ ?_
    refine XS.iinc X26.here hx rfl (hb hby d15_32) rfl (l' := #[.val (.ref oc), .val (.int 4), .val (.ref ob), .val (.int 3), .val (.int 4), .val (.int 3), .val (.int c3)]) rfl ?_
    refine XS.iinc X26.here hx rfl (hb hby d15_35) rfl (l' := #[.val (.ref oc), .val (.int 4), .val (.ref ob), .val (.int 4), .val (.int 4), .val (.int 3), .val (.int c3)]) rfl ?_
    refine XS.iinc X26.here hx rfl (hb hby d15_38) rfl (l' := #[.val (.ref oc), .val (.int 4), .val (.ref ob), .val (.int 4), .val (.int 4), .val (.int 4), .val (.int c3)]) rfl ?_
    refine XS.goto X26.here hx rfl (pc0 := 41) (pc' := 3) rfl (hb hby d15_41) (by decide) (by decide) ?_
    refine XS.iload X26.here hx rfl (hb hby d15_3) rfl ?_
    show Steps p.tables e below (T26.setTop (mkF m 5 #[.val (.ref oc), .val (.int 4), .val (.ref ob), .val (.int 4), .val (.int 4), .val (.int 4), .val (.int c3)] [(.int 4)])) _
    refine XS.iload X26.here hx rfl (hb hby d15_5) rfl ?_
    refine XS.icmpYes X26.here hx rfl (pc0 := 7) (pc' := 44) rfl (hb hby d15_7) rfl (own_flt (a := (4 : Int32)) (b := (4 : Int32)) (by decide) (by decide) hc7_28).2.1 (by decide) (by decide) ?_
    refine XS.iload X26.here hx rfl (hb hby d15_44) rfl ?_
    exact retI X26 hx Bd.returns (hb hby d15_46) hr
  · show Q_cp4 Z _ _ _ _ _ _ _ _ h0 n0 _ T26.heap _
    rw [e26]
    have f29 := (((((Keep.refl h0 [ob]).wr W5 (Or.inl (List.mem_of_getElem? (i := 0) rfl))).wr W12 (Or.inl (List.mem_of_getElem? (i := 0) rfl))).wr W19 (Or.inl (List.mem_of_getElem? (i := 0) rfl))).wr W26 (Or.inl (List.mem_of_getElem? (i := 0) rfl)))
    exact ⟨_, _, _, _, rfl, N26, f29, V26, own_b2 c0 uc0 vc0, own_b2 c1 uc1 vc1, own_b2 c2 uc2 vc2, own_b2 c3 uc3 vc3⟩
theorem ef_rm_cm4 (m : MethodId) (x0 : Addr) : entryFrame m #[(.ref x0), (.int 0), (.int 4)] 6 = mkF m 0 #[.val (.ref x0), .val (.int 0), .val (.int 4), .unset, .unset, .unset] [] := by first | (simp [entryFrame, mkF, argsToLocals, Value.category]; done) | rfl
def Q_cm4 (Z : State) (oc : Addr) (kC : ClassId) (c0 : Int32) (c1 : Int32) (c2 : Int32) (c3 : Int32) (h0 : Heap) (n0 : Nat) (v : Option Value) (h : Heap) (L : List Loc) : Prop := ∃ (ob : Addr) (kb : ClassId) (bb0 bb1 bb2 bb3 : Int32), v = some (.ref ob) ∧ Fr n0 L ∧ Keep h0 h [] ∧ n0 ≤ ob ∧ h0.size ≤ ob ∧ Arv Z h ob kb .byte (4 : Int32) [(.int bb0), (.int bb1), (.int bb2), (.int bb3)] (.int 0) ∧ bb0.toInt % 256 = c0.toInt ∧ bb1.toInt % 256 = c1.toInt ∧ bb2.toInt % 256 = c2.toInt ∧ bb3.toInt % 256 = c3.toInt
theorem rm_cm4 (l : Launch) (Z : State) (a0 : Array Value) (hw : ∀ d ∈ tables_1, d.before a0 Z = true) (ws : List Jvm.Cond) (oc : Addr) (kC : ClassId) (c0 : Int32) (c1 : Int32) (c2 : Int32) (c3 : Int32) (h0 : Heap) (n0 : Nat) (Z0 : n0 ≤ h0.size) (Vc : Arv Z h0 oc kC .char (4 : Int32) [(.int c0), (.int c1), (.int c2), (.int c3)] (.int 0)) (uc0 : 0 ≤ c0.toInt) (uc1 : 0 ≤ c1.toInt) (uc2 : 0 ≤ c2.toInt) (uc3 : 0 ≤ c3.toInt) (vc0 : c0.toInt ≤ 255) (vc1 : c1.toInt ≤ 255) (vc2 : c2.toInt ≤ 255) (vc3 : c3.toInt ≤ 255) :
    MetFree l yn14 (head1 (Jvm.Cond.code yn14 kc14 6 (some (.array .byte)) :: ws) ⟨1, 1, 4, 18⟩) (fun a U => a = #[(.ref oc), (.int 0), (.int 4)] ∧ Z.Warmed39 U.vm ∧ U.heap = h0) (fun _ _ _ _ _ => True) (fun _ U o U' => ∃ v L, o = .returned v ∧ Q_cm4 Z oc kC c0 c1 c2 c3 h0 n0 v U'.heap L ∧ FrameEnd U o U' L 1 4) := by
  refine MetFree.of_bodySF (plainFor_of_name pn_4) hisR ?_
  intro p e s m args below meth c s₁ Bd hml0 hP hK
  obtain ⟨rfl, hZ, hh⟩ := hP
  have hx := Bd.exec
  have hby := Bd.bytes
  have hml : c.maxLocals = 6 := hml0
  have hown : s.vm.findClass "java/lang/StringUTF16" = some m.cls := findClass_of_methodNamed Bd.named
  have hnm := (name_of_methodNamed Bd.named Bd.method).1
  have X0 : Stand p l e ⟨1, 1, 4, 18⟩ s m #[(.ref oc), (.int 0), (.int 4)] below meth c s₁ [] 0 0 := Stand.of_body Bd
  have e0 : s₁.heap = h0 := by rw [← hh, Bd.state]; rfl
  have N0 := Fr.nil n0
  obtain ⟨SS, hSS⟩ : ∃ S, S = s₁.setTop (entryFrame m #[(.ref oc), (.int 0), (.int 4)] 6) := ⟨_, rfl⟩
  have pre0 : oP p e below (s₁.setTop (mkF m 0 #[.val (.ref oc), .val (.int 0), .val (.int 4), .unset, .unset, .unset] [])) (SS) := by
    rw [hSS]; exact fun t k => castTop (ef_rm_cm4 m oc) k
  obtain ⟨T1, h1, k1, X1, e1, E1, A1, st1⟩ := newP X0 hx hZ (ow hw 3 rfl) e0 (g := (mkF m 1 #[.val (.ref oc), .val (.int 0), .val (.int 4), .unset, .unset, .unset] [(.int 4)])) rfl (hb hby d14_1) rfl (by decide) (cap := 4) (by decide) (by decide) (by decide) (by decide)
  obtain ⟨b1, g1⟩ : ∃ z, z = h0.size := ⟨_, rfl⟩
  have ne_oc_b1 : oc ≠ b1 := Nat.ne_of_lt (Nat.lt_of_lt_of_le Vc.lt (Nat.le_of_eq g1.symm))
  have g_b1 : n0 ≤ b1 := Nat.le_trans Z0 (Nat.le_of_eq g1.symm)
  have sz_b1 : h0.size ≤ b1 := Nat.le_trans (Keep.refl h0 []).1 (Nat.le_of_eq g1.symm)
  rw [← g1] at A1 st1
  have Zs2 : n0 ≤ h1.size := Nat.le_trans Z0 E1.1
  have V1 : Arv Z h1 b1 k1 .byte (4 : Int32) [(.int 0), (.int 0), (.int 0), (.int 0)] (.int 0) := (Arv.new A1 (by decide)).pad (pad_rep [] (.int 0) 4)
  have f4 := (Vc.ext E1)
  obtain ⟨_, _, ⟨T3, L3, k3, n3⟩, -, X3, ⟨Lc3, hQ3, l3, y3, z3⟩, st3⟩ := Jvm.LawKit.callS X1 hx (y := yn13) hown (mvT hZ (ow hw 69 rfl)) (mvT hZ (ow hw 70 rfl)) (mvT hZ (ow hw 67 rfl)) (mvT hZ (ow hw 71 rfl)) (by decide) (backOf (W := 0) (rm_cp4 l Z a0 hw [] oc b1 kC c0 c1 c2 c3 k1 h1 n0 Zs2 f4 uc0 uc1 uc2 uc3 vc0 vc1 vc2 vc3 V1 g_b1 ne_oc_b1) hZ (ow hw 71 rfl) (ow hw 67 rfl) (by decide) (by decide)) (g := (mkF m 9 #[.val (.ref oc), .val (.int 0), .val (.int 4), .val (.ref b1), .unset, .unset] [(.int 4), (.int 0), (.ref b1), (.int 0), (.ref oc)])) rfl (by rw [hml]; rfl) (argsL := [(.ref oc), (.int 0), (.ref b1), (.int 0), (.int 4)]) (rest := []) (lenOf pd_10 rfl) rfl (by exact Nat.le_of_eq rfl) (hb hby d14_9) (fun _ _ => ⟨rfl, e1, (by decide : 1 + 0 ≤ _), (by decide : 4 + 0 ≤ _)⟩)
  dsimp only [Pt.U, Pt.locs, Pt.cells, Pt.slots] at X3 l3 y3 z3 st3 hQ3
  rw [l3, y3, z3] at X3
  obtain ⟨bb0, bb1, bb2, bb3, rfl, N3q, K3, Vb3, qbb0, qbb1, qbb2, qbb3⟩ := hQ3
  have N3 := Fr.app N0 N3q
  have Zs5 : n0 ≤ T3.heap.size := Nat.le_trans Zs2 K3.1
  have hc17_6 : (4 : Int) = (4 : Int) := by decide
  subst hSS
  obtain ⟨fs, hr, q1, q2, q3, q4⟩ := X3.leave (v := some (.ref b1)) (fun h => by rw [Bd.returns] at h; cases h)
  refine ⟨_, _, pre0 _ ?_, q1, q2, _, _, rfl, ?_, ⟨_, rfl⟩, q3, q4.mono (by decide) (by decide)⟩
  · refine XS.iloadN X0.here hx rfl (hb hby d14_0) rfl ?_
    refine st1 _ ?_
    refine XS.astoreN X1.here hx rfl (hb hby d14_3) rfl rfl (l' := #[.val (.ref oc), .val (.int 0), .val (.int 4), .val (.ref b1), .unset, .unset]) rfl ?_
    refine XS.aloadN X1.here hx rfl (hb hby d14_4) rfl rfl ?_
    refine XS.iloadN X1.here hx rfl (hb hby d14_5) rfl ?_
    refine XS.aloadN X1.here hx rfl (hb hby d14_6) rfl rfl ?_
    refine XS.iconst X1.here hx rfl (hb hby d14_7) ?_
    refine XS.iloadN X1.here hx rfl (hb hby d14_8) rfl ?_
    refine st3 _ ?_
    refine XS.istore X3.here hx rfl (hb hby d14_12) rfl (l' := #[.val (.ref oc), .val (.int 0), .val (.int 4), .val (.ref b1), .val (.int 4), .unset]) rfl ?_
    refine XS.iload X3.here hx rfl (hb hby d14_14) rfl ?_
    refine XS.iloadN X3.here hx rfl (hb hby d14_16) rfl ?_
    refine XS.icmpYes X3.here hx rfl (pc0 := 17) (pc' := 57) rfl (hb hby d14_17) rfl (own_teq (a := (4 : Int32)) (b := (4 : Int32)) (by decide) (by decide) hc17_6).1 (by decide) (by decide) ?_
    refine XS.aloadN X3.here hx rfl (hb hby d14_57) rfl rfl ?_
    jvm_step X3.here [X3.here.top, hx, (hb hby d14_58), X3.method', Bd.returns, Value.isRef, FieldType.isReference]
    first | (intro acts; rw [hr _ acts rfl rfl rfl]) | rw [hr _ _ rfl rfl rfl]
    exact Steps.refl _
  · show Q_cm4 Z _ _ _ _ _ _ h0 n0 _ T3.heap _
    have f7 := (((Keep.refl h0 []).ext E1).trans K3 (allS (P := fun x => x ∈ [] ∨ h0.size ≤ x) (Or.inr sz_b1) all0))
    exact ⟨b1, _, bb0, bb1, bb2, bb3, rfl, N3, f7, g_b1, sz_b1, Vb3, qbb0, qbb1, qbb2, qbb3⟩
theorem ef_rm_cf4_0 (m : MethodId) (x0 : Addr) : entryFrame m #[(.ref x0), (.int 4)] 2 = mkF m 0 #[.val (.ref x0), .val (.int 4)] [] := by first | (simp [entryFrame, mkF, argsToLocals, Value.category]; done) | rfl
def Q_cf4_0 (Z : State) (ob : Addr) (kb : ClassId) (vs : List Value) (h0 : Heap) (n0 : Nat) (v : Option Value) (h : Heap) (L : List Loc) : Prop := ∃ z : Int32, v = some (.int z) ∧ (z = (0 : Int32)) ∧ Fr n0 L ∧ h = h0
theorem rm_cf4_0 (l : Launch) (Z : State) (a0 : Array Value) (hw : ∀ d ∈ tables_1, d.before a0 Z = true) (ws : List Jvm.Cond) (ob : Addr) (kb : ClassId) (vs : List Value) (h0 : Heap) (n0 : Nat) (Z0 : n0 ≤ h0.size) (Vb : Arv Z h0 ob kb .byte (4 : Int32) vs (.int 0)) :
    MetFree l yn15 (head1 (Jvm.Cond.code yn15 kc15 2 (some .byte) :: ws) ⟨0, 0, 0, 0⟩) (fun a U => a = #[(.ref ob), (.int 4)] ∧ Z.Warmed39 U.vm ∧ U.heap = h0) (fun _ _ _ _ _ => True) (fun _ U o U' => ∃ v L, o = .returned v ∧ Q_cf4_0 Z ob kb vs h0 n0 v U'.heap L ∧ FrameEnd U o U' L 0 0) := by
  refine MetFree.of_bodySF (plainFor_of_name pn_4) hisR ?_
  intro p e s m args below meth c s₁ Bd hml0 hP hK
  obtain ⟨rfl, hZ, hh⟩ := hP
  have hx := Bd.exec
  have hby := Bd.bytes
  have hml : c.maxLocals = 2 := hml0
  have hown : s.vm.findClass "java/lang/StringUTF16" = some m.cls := findClass_of_methodNamed Bd.named
  have hnm := (name_of_methodNamed Bd.named Bd.method).1
  have X0 : Stand p l e ⟨0, 0, 0, 0⟩ s m #[(.ref ob), (.int 4)] below meth c s₁ [] 0 0 := Stand.of_body Bd
  have e0 : s₁.heap = h0 := by rw [← hh, Bd.state]; rfl
  have N0 := Fr.nil n0
  obtain ⟨SS, hSS⟩ : ∃ S, S = s₁.setTop (entryFrame m #[(.ref ob), (.int 4)] 2) := ⟨_, rfl⟩
  have pre0 : oP p e below (s₁.setTop (mkF m 0 #[.val (.ref ob), .val (.int 4)] [])) (SS) := by
    rw [hSS]; exact fun t k => castTop (ef_rm_cf4_0 m ob) k
  obtain ⟨cl1, Ar1, q1, S1, M1, H1, G1⟩ := id Vb
  subst hSS
  obtain ⟨fs, hr, q1, q2, q3, q4⟩ := X0.leave (v := some (.int 0)) (fun h => by rw [Bd.returns] at h; cases h)
  refine ⟨_, _, pre0 _ ?_, q1, q2, _, _, rfl, ?_, ⟨_, rfl⟩, q3, q4.mono (by decide) (by decide)⟩
  · refine XS.iloadN X0.here hx rfl (hb hby d16_0) rfl ?_
    refine XS.aloadN X0.here hx rfl (hb hby d16_1) rfl rfl ?_
    refine X0.arraylength hx (by rw [e0]; exact Ar1.1) (State.isArrayOf_alike hZ.alike Ar1.2.1) (g := (mkF m 2 #[.val (.ref ob), .val (.int 4)] [(.ref ob), (.int 4)])) rfl rfl (hb hby d16_2) _ ?_
    rw [len_of S1 M1]
    refine XS.isub X0.here hx rfl (hb hby d16_3) rfl ?_
    refine XS.bipush X0.here hx rfl (hb hby d16_4) ?_
    refine XS.iushr X0.here hx rfl (hb hby d16_6) rfl ?_
    refine XS.i2b X0.here hx rfl (hb hby d16_7) rfl ?_
    exact retN X0 hx (t := .byte) Bd.returns (by simp) (hb hby d16_8) hr
  · show Q_cf4_0 Z _ _ _ h0 n0 _ s₁.heap _
    rw [e0]
    exact ⟨_, rfl, rfl, N0, rfl⟩
theorem ef_rm_iv4 (m : MethodId) (x0 : Addr) (x1 : Addr) : entryFrame m #[(.ref x0), (.ref x1), (.int 0), (.int 4), .null] 6 = mkF m 0 #[.val (.ref x0), .val (.ref x1), .val (.int 0), .val (.int 4), .val .null, .unset] [] := by first | (simp [entryFrame, mkF, argsToLocals, Value.category]; done) | rfl
def Q_iv4 (Z : State) (oa : Addr) (oc : Addr) (vcs : Int32) (vf : Value) (kC : ClassId) (c0 : Int32) (c1 : Int32) (c2 : Int32) (c3 : Int32) (h0 : Heap) (n0 : Nat) (v : Option Value) (h : Heap) (L : List Loc) : Prop := v = none ∧ Fr n0 L ∧ Keep h0 h [oa] ∧ Exa Z h oa "java/lang/String" ∧ ∃ (ob : Addr) (kb : ClassId) (bb0 bb1 bb2 bb3 : Int32), n0 ≤ ob ∧ h0.size ≤ ob ∧ Fld Z h oa "java/lang/String" "coder" "B" (.int 0) ∧ Fld Z h oa "java/lang/String" "value" "[B" (.ref ob) ∧ Arv Z h ob kb .byte (4 : Int32) [(.int bb0), (.int bb1), (.int bb2), (.int bb3)] (.int 0) ∧ bb0.toInt % 256 = c0.toInt ∧ bb1.toInt % 256 = c1.toInt ∧ bb2.toInt % 256 = c2.toInt ∧ bb3.toInt % 256 = c3.toInt
theorem rm_iv4 (l : Launch) (Z : State) (a0 : Array Value) (hw : ∀ d ∈ tables_1, d.before a0 Z = true) (ws : List Jvm.Cond) (oa : Addr) (oc : Addr) (vcs : Int32) (vf : Value) (kC : ClassId) (c0 : Int32) (c1 : Int32) (c2 : Int32) (c3 : Int32) (h0 : Heap) (n0 : Nat) (Z0 : n0 ≤ h0.size) (Os : own_st Z h0 vcs vf) (Es : Exa Z h0 oa "java/lang/String") (Fc : Fld Z h0 oa "java/lang/String" "coder" "B" (.int 0)) (Fv : Fld Z h0 oa "java/lang/String" "value" "[B" .null) (ga : n0 ≤ oa) (nac : oa ≠ oc) (Vc : Arv Z h0 oc kC .char (4 : Int32) [(.int c0), (.int c1), (.int c2), (.int c3)] (.int 0)) (uc0 : 0 ≤ c0.toInt) (uc1 : 0 ≤ c1.toInt) (uc2 : 0 ≤ c2.toInt) (uc3 : 0 ≤ c3.toInt) (vc0 : c0.toInt ≤ 255) (vc1 : c1.toInt ≤ 255) (vc2 : c2.toInt ≤ 255) (vc3 : c3.toInt ≤ 255) :
    MetFree l yn11 (head1 (Jvm.Cond.code yn11 kc11 6 none :: ws) ⟨2, 1, 4, 35⟩) (fun a U => a = #[(.ref oa), (.ref oc), (.int 0), (.int 4), .null] ∧ Z.Warmed39 U.vm ∧ U.heap = h0) (fun _ _ _ _ _ => True) (fun _ U o U' => ∃ v L, o = .returned v ∧ Q_iv4 Z oa oc vcs vf kC c0 c1 c2 c3 h0 n0 v U'.heap L ∧ FrameEnd U o U' L 1 4) := by
  refine MetFree.of_bodySF (plainFor_of_name pn_1) hisR ?_
  intro p e s m args below meth c s₁ Bd hml0 hP hK
  obtain ⟨rfl, hZ, hh⟩ := hP
  have hx := Bd.exec
  have hby := Bd.bytes
  have hml : c.maxLocals = 6 := hml0
  have hown : s.vm.findClass "java/lang/String" = some m.cls := findClass_of_methodNamed Bd.named
  have hnm := (name_of_methodNamed Bd.named Bd.method).1
  have X0 : Stand p l e ⟨2, 1, 4, 35⟩ s m #[(.ref oa), (.ref oc), (.int 0), (.int 4), .null] below meth c s₁ [] 0 0 := Stand.of_body Bd
  have e0 : s₁.heap = h0 := by rw [← hh, Bd.state]; rfl
  have N0 := Fr.nil n0
  obtain ⟨SS, hSS⟩ : ∃ S, S = s₁.setTop (entryFrame m #[(.ref oa), (.ref oc), (.int 0), (.int 4), .null] 6) := ⟨_, rfl⟩
  have pre0 : oP p e below (s₁.setTop (mkF m 0 #[.val (.ref oa), .val (.ref oc), .val (.int 0), .val (.int 4), .val .null, .unset] [])) (SS) := by
    rw [hSS]; exact fun t k => castTop (ef_rm_iv4 m oa oc) k
  obtain ⟨T1, X1, e1, st1⟩ := initO X0 hx hZ hown (ow hw 62 rfl) (ow hw 63 rfl) (ow hw 64 rfl) e0 (g := (mkF m 1 #[.val (.ref oa), .val (.ref oc), .val (.int 0), .val (.int 4), .val .null, .unset] [(.ref oa)])) rfl (by rw [hml]; rfl) rfl (hb hby d12_1) (by decide) (W := 0) (by exact Nat.le_of_eq rfl) (by decide)
  have hc5_2 : ¬ ((4 : Int) = (0 : Int)) := by decide
  obtain ⟨T3, X3, e3, st3⟩ := getS2 X1 hx hZ hown (host := "") (Or.inl (ow hw 19 rfl)) Via.refl e1 Os.1 (g := (mkF m 27 #[.val (.ref oa), .val (.ref oc), .val (.int 0), .val (.int 4), .val .null, .unset] [])) rfl (hb hby d12_27)
  have hc30_4 : ¬ (vcs.toInt = (0 : Int)) := by (have q := Os.2.1; omega)
  obtain ⟨_, _, ⟨T5, L5, k5, n5⟩, -, X5, ⟨Lc5, hQ5, l5, y5, z5⟩, st5⟩ := Jvm.LawKit.callS X3 hx (y := yn14) hown (mvT hZ (ow hw 65 rfl)) (mvT hZ (ow hw 66 rfl)) (mvT hZ (ow hw 67 rfl)) (mvT hZ (ow hw 68 rfl)) (by decide) (backOf (W := 0) (rm_cm4 l Z a0 hw [] oc kC c0 c1 c2 c3 h0 n0 Z0 Vc uc0 uc1 uc2 uc3 vc0 vc1 vc2 vc3) hZ (ow hw 68 rfl) (ow hw 67 rfl) (by decide) (by decide)) (g := (mkF m 36 #[.val (.ref oa), .val (.ref oc), .val (.int 0), .val (.int 4), .val .null, .unset] [(.int 4), (.int 0), (.ref oc)])) rfl (by rw [hml]; rfl) (argsL := [(.ref oc), (.int 0), (.int 4)]) (rest := []) (lenOf pd_11 rfl) rfl (by exact Nat.le_of_eq rfl) (hb hby d12_36) (fun _ _ => ⟨rfl, e3, (by decide : 0 + 1 ≤ _), (by decide : 0 + 4 ≤ _)⟩)
  dsimp only [Pt.U, Pt.locs, Pt.cells, Pt.slots] at X5 l5 y5 z5 st5 hQ5
  rw [l5, y5, z5] at X5
  obtain ⟨ob, kb, bb0, bb1, bb2, bb3, rfl, N5q, K5, gb, szb, Vb5, qbb0, qbb1, qbb2, qbb3⟩ := hQ5
  have N5 := Fr.app N0 N5q
  have Zs6 : n0 ≤ T5.heap.size := Nat.le_trans Z0 K5.1
  have ne_oa_ob : oa ≠ ob := Nat.ne_of_lt (Nat.lt_of_lt_of_le Es.lt szb)
  have ne_oc_ob : oc ≠ ob := Nat.ne_of_lt (Nat.lt_of_lt_of_le Vc.lt szb)
  have sz_ob : h0.size ≤ ob := Nat.le_trans (Keep.refl h0 [oa]).1 szb
  obtain ⟨_, _, ⟨T7, L7, k7, n7⟩, -, X7, ⟨Lc7, hQ7, l7, y7, z7⟩, st7⟩ := Jvm.LawKit.callS X5 hx (y := yn15) hown (mvT hZ (ow hw 72 rfl)) (mvT hZ (ow hw 73 rfl)) (mvT hZ (ow hw 67 rfl)) (mvT hZ (ow hw 74 rfl)) (by decide) (backOf (W := 1) (rm_cf4_0 l Z a0 hw [] ob kb [(.int bb0), (.int bb1), (.int bb2), (.int bb3)] T5.heap n0 Zs6 Vb5) hZ (ow hw 74 rfl) (ow hw 67 rfl) (by decide) (by decide)) (g := (mkF m 45 #[.val (.ref oa), .val (.ref oc), .val (.int 0), .val (.int 4), .val .null, .val (.ref ob)] [(.int 4), (.ref ob), (.ref oa)])) rfl (by rw [hml]; rfl) (argsL := [(.ref ob), (.int 4)]) (rest := [(.ref oa)]) (lenOf pd_12 rfl) rfl (by exact Nat.le_of_eq rfl) (hb hby d12_45) (fun _ _ => ⟨rfl, rfl, (by decide : 1 + 0 ≤ _), (by decide : 4 + 0 ≤ _)⟩)
  dsimp only [Pt.U, Pt.locs, Pt.cells, Pt.slots] at X7 l7 y7 z7 st7 hQ7
  rw [l7, y7, z7] at X7
  obtain ⟨zf, rfl, hzf, N7q, e7⟩ := hQ7
  have N7 := Fr.app N5 N7q
  have pre8 : oP p e below (T7.setTop (mkF m 48 #[.val (.ref oa), .val (.ref oc), .val (.int 0), .val (.int 4), .val .null, .val (.ref ob)] [(.int zf), (.ref oa)])) (SS) := fun t kt => by
    refine pre0 _ ?_
    refine XS.aloadN X0.here hx rfl (hb hby d12_0) rfl rfl ?_
    refine st1 _ ?_
    refine XS.iloadN X1.here hx rfl (hb hby d12_4) rfl ?_
    refine XS.ifYes X1.here hx rfl (pc0 := 5) (pc' := 27) rfl (hb hby d12_5) rfl (own_if (own_feq (a := (4 : Int32)) (b := (0 : Int32)) (by decide) (by decide) hc5_2).2) (by decide) (by decide) ?_
    refine st3 _ ?_
    refine XS.ifNo X3.here hx rfl (hb hby d12_30) rfl (own_if (own_feq (a := vcs) (b := (0 : Int32)) rfl (by decide) hc30_4).1) ?_
    refine XS.aloadN X3.here hx rfl (hb hby d12_33) rfl rfl ?_
    refine XS.iloadN X3.here hx rfl (hb hby d12_34) rfl ?_
    refine XS.iloadN X3.here hx rfl (hb hby d12_35) rfl ?_
    refine st5 _ ?_
    refine XS.astore X5.here hx rfl (hb hby d12_39) rfl rfl (l' := #[.val (.ref oa), .val (.ref oc), .val (.int 0), .val (.int 4), .val .null, .val (.ref ob)]) rfl ?_
    refine XS.aloadN X5.here hx rfl (hb hby d12_41) rfl rfl ?_
    refine XS.aload X5.here hx rfl (hb hby d12_42) rfl rfl ?_
    refine XS.iloadN X5.here hx rfl (hb hby d12_44) rfl ?_
    refine st7 _ ?_
    exact kt
  subst hzf
  have pre9 : oP p e below (T7.setTop (mkF m 48 #[.val (.ref oa), .val (.ref oc), .val (.int 0), .val (.int 4), .val .null, .val (.ref ob)] [(.int 0), (.ref oa)])) (SS) := pre8
  have f10 := (Fc.keep K5 nin0)
  have f11 := (Es.keep K5)
  obtain ⟨T12, h12, X12, e12, W12, st12⟩ := putFN X7 hx hZ hown (ow hw 20 rfl) Via.refl e7 f10 f11 (Or.inr ⟨(ow hw 5 rfl), rfl, hnm⟩) (ow hw 2 rfl) (ty := .byte) (v' := (.int 0)) (by decide) rfl rfl (g := (mkF m 48 #[.val (.ref oa), .val (.ref oc), .val (.int 0), .val (.int 4), .val .null, .val (.ref ob)] [(.int 0), (.ref oa)])) rfl rfl (hb hby d12_48)
  have N12 := Fr.snoc X12 N7 ga
  have Zs13 : n0 ≤ h12.size := by rw [W12.size]; exact Zs6
  have Fw12 := f10.same W12
  have f14 := ((Fv.keep K5 nin0).other W12 (Or.inr (slot_ne (Or.inr (ow hw 4 rfl)) (Or.inr (ow hw 5 rfl)) (by decide) (t := (.array .byte)) (t' := .byte) (by decide) (by decide))))
  have f15 := (f11.wr W12)
  obtain ⟨T16, h16, X16, e16, W16, st16⟩ := putF X12 hx hZ hown (host := "") (Or.inl (ow hw 13 rfl)) Via.refl e12 f14 f15 (Or.inr ⟨(ow hw 4 rfl), rfl, hnm⟩) (ow hw 2 rfl) (ty := (.array .byte)) (by decide) rfl rfl (g := (mkF m 54 #[.val (.ref oa), .val (.ref oc), .val (.int 0), .val (.int 4), .val .null, .val (.ref ob)] [(.ref ob), (.ref oa)])) rfl rfl (hb hby d12_54)
  have N16 := Fr.snoc X16 N12 ga
  have Zs17 : n0 ≤ h16.size := by rw [W16.size]; exact Zs13
  have Fw16 := f14.same W16
  subst hSS
  obtain ⟨fs, hr, q1, q2, q3, q4⟩ := X16.leave (v := none) (fun _ => rfl)
  refine ⟨_, _, pre9 _ ?_, q1, q2, _, _, rfl, ?_, ⟨_, rfl⟩, q3, q4.mono (by decide) (by decide)⟩
  · refine st12 _ ?_
    refine XS.aloadN X12.here hx rfl (hb hby d12_51) rfl rfl ?_
    refine XS.aload X12.here hx rfl (hb hby d12_52) rfl rfl ?_
    refine st16 _ ?_
    show Steps p.tables e below (T16.setTop (mkF m 57 #[.val (.ref oa), .val (.ref oc), .val (.int 0), .val (.int 4), .val .null, .val (.ref ob)] [])) _
    exact X16.returnOut hx Bd.returns (hb hby d12_57) hr
  · show Q_iv4 Z _ _ _ _ _ _ _ _ _ h0 n0 _ T16.heap _
    rw [e16]
    have f18 := ((((Keep.refl h0 [oa]).trans K5 all0).wr W12 (Or.inl (List.mem_of_getElem? (i := 0) rfl))).wr W16 (Or.inl (List.mem_of_getElem? (i := 0) rfl)))
    have f19 := (f15.wr W16)
    have f20 := (Fw12.other W16 (Or.inr (slot_ne (Or.inr (ow hw 5 rfl)) (Or.inr (ow hw 4 rfl)) (by decide) (t := .byte) (t' := (.array .byte)) (by decide) (by decide))))
    have f21 := ((Vb5.other W12 (Ne.symm ne_oa_ob)).other W16 (Ne.symm ne_oa_ob))
    exact ⟨rfl, N16, f18, f19, ob, kb, bb0, bb1, bb2, bb3, gb, sz_ob, f20, Fw16, f21, qbb0, qbb1, qbb2, qbb3⟩
theorem ef_rm_mk4 (m : MethodId) (x0 : Addr) (x1 : Addr) : entryFrame m #[(.ref x0), (.ref x1)] 2 = mkF m 0 #[.val (.ref x0), .val (.ref x1)] [] := by first | (simp [entryFrame, mkF, argsToLocals, Value.category]; done) | rfl
def Q_mk4 (Z : State) (oa : Addr) (oc : Addr) (vcs : Int32) (vf : Value) (kC : ClassId) (c0 : Int32) (c1 : Int32) (c2 : Int32) (c3 : Int32) (h0 : Heap) (n0 : Nat) (v : Option Value) (h : Heap) (L : List Loc) : Prop := v = none ∧ Fr n0 L ∧ Keep h0 h [oa] ∧ Exa Z h oa "java/lang/String" ∧ ∃ (ob : Addr) (kb : ClassId) (bb0 bb1 bb2 bb3 : Int32), n0 ≤ ob ∧ h0.size ≤ ob ∧ Fld Z h oa "java/lang/String" "coder" "B" (.int 0) ∧ Fld Z h oa "java/lang/String" "value" "[B" (.ref ob) ∧ Arv Z h ob kb .byte (4 : Int32) [(.int bb0), (.int bb1), (.int bb2), (.int bb3)] (.int 0) ∧ bb0.toInt % 256 = c0.toInt ∧ bb1.toInt % 256 = c1.toInt ∧ bb2.toInt % 256 = c2.toInt ∧ bb3.toInt % 256 = c3.toInt
theorem rm_mk4 (l : Launch) (Z : State) (a0 : Array Value) (hw : ∀ d ∈ tables_1, d.before a0 Z = true) (ws : List Jvm.Cond) (oa : Addr) (oc : Addr) (vcs : Int32) (vf : Value) (kC : ClassId) (c0 : Int32) (c1 : Int32) (c2 : Int32) (c3 : Int32) (h0 : Heap) (n0 : Nat) (Z0 : n0 ≤ h0.size) (Os : own_st Z h0 vcs vf) (Es : Exa Z h0 oa "java/lang/String") (Fc : Fld Z h0 oa "java/lang/String" "coder" "B" (.int 0)) (Fv : Fld Z h0 oa "java/lang/String" "value" "[B" .null) (ga : n0 ≤ oa) (nac : oa ≠ oc) (Vc : Arv Z h0 oc kC .char (4 : Int32) [(.int c0), (.int c1), (.int c2), (.int c3)] (.int 0)) (uc0 : 0 ≤ c0.toInt) (uc1 : 0 ≤ c1.toInt) (uc2 : 0 ≤ c2.toInt) (uc3 : 0 ≤ c3.toInt) (vc0 : c0.toInt ≤ 255) (vc1 : c1.toInt ≤ 255) (vc2 : c2.toInt ≤ 255) (vc3 : c3.toInt ≤ 255) :
    MetFree l yn12 (head1 (Jvm.Cond.code yn12 kc12 2 none :: ws) ⟨3, 1, 4, 52⟩) (fun a U => a = #[(.ref oa), (.ref oc)] ∧ Z.Warmed39 U.vm ∧ U.heap = h0) (fun _ _ _ _ _ => True) (fun _ U o U' => ∃ v L, o = .returned v ∧ Q_mk4 Z oa oc vcs vf kC c0 c1 c2 c3 h0 n0 v U'.heap L ∧ FrameEnd U o U' L 1 4) := by
  refine MetFree.of_bodySF (plainFor_of_name pn_1) hisR ?_
  intro p e s m args below meth c s₁ Bd hml0 hP hK
  obtain ⟨rfl, hZ, hh⟩ := hP
  have hx := Bd.exec
  have hby := Bd.bytes
  have hml : c.maxLocals = 2 := hml0
  have hown : s.vm.findClass "java/lang/String" = some m.cls := findClass_of_methodNamed Bd.named
  have hnm := (name_of_methodNamed Bd.named Bd.method).1
  have X0 : Stand p l e ⟨3, 1, 4, 52⟩ s m #[(.ref oa), (.ref oc)] below meth c s₁ [] 0 0 := Stand.of_body Bd
  have e0 : s₁.heap = h0 := by rw [← hh, Bd.state]; rfl
  have N0 := Fr.nil n0
  obtain ⟨SS, hSS⟩ : ∃ S, S = s₁.setTop (entryFrame m #[(.ref oa), (.ref oc)] 2) := ⟨_, rfl⟩
  have pre0 : oP p e below (s₁.setTop (mkF m 0 #[.val (.ref oa), .val (.ref oc)] [])) (SS) := by
    rw [hSS]; exact fun t k => castTop (ef_rm_mk4 m oa oc) k
  obtain ⟨cl1, Ar1, q1, S1, M1, H1, G1⟩ := id Vc
  obtain ⟨_, _, ⟨T2, L2, k2, n2⟩, -, X2, ⟨Lc2, hQ2, l2, y2, z2⟩, st2⟩ := X0.specialBack hx (y := yn11) rfl hown (mvT hZ (ow hw 58 rfl)) (mvT hZ (ow hw 59 rfl)) (mvT hZ (ow hw 61 rfl)) (by decide) (backOf (W := 0) (rm_iv4 l Z a0 hw [] oa oc vcs vf kC c0 c1 c2 c3 h0 n0 Z0 Os Es Fc Fv ga nac Vc uc0 uc1 uc2 uc3 vc0 vc1 vc2 vc3) hZ (ow hw 61 rfl) (ow hw 1 rfl) (by decide) (by decide)) (g := (mkF m 6 #[.val (.ref oa), .val (.ref oc)] [.null, (.int 4), (.int 0), (.ref oc), (.ref oa)])) rfl (by rw [hml]; rfl) (Steps.refl _) (a := oa) (argsL := [(.ref oc), (.int 0), (.int 4), .null]) (rest := []) (lenOf pd_9 rfl) rfl (by exact Nat.le_of_eq rfl) (hb hby d11_6) (fun _ _ => ⟨rfl, e0, (by decide : 0 + 1 ≤ _), (by decide : 0 + 4 ≤ _)⟩)
  dsimp only [Pt.U, Pt.locs, Pt.cells, Pt.slots] at X2 l2 y2 z2 st2 hQ2
  rw [l2, y2, z2] at X2
  obtain ⟨rfl, N2q, K2, A2, ob, kb, bb0, bb1, bb2, bb3, gb, szb, Fc2, Fv2, Vb2, qbb0, qbb1, qbb2, qbb3⟩ := hQ2
  have N2 := Fr.app N0 N2q
  have Zs3 : n0 ≤ T2.heap.size := Nat.le_trans Z0 K2.1
  have ne_oa_ob : oa ≠ ob := Nat.ne_of_lt (Nat.lt_of_lt_of_le Es.lt szb)
  have ne_oc_ob : oc ≠ ob := Nat.ne_of_lt (Nat.lt_of_lt_of_le Vc.lt szb)
  have sz_ob : h0.size ≤ ob := Nat.le_trans (Keep.refl h0 [oa]).1 szb
  subst hSS
  obtain ⟨fs, hr, q1, q2, q3, q4⟩ := X2.leave (v := none) (fun _ => rfl)
  refine ⟨_, _, pre0 _ ?_, q1, q2, _, _, rfl, ?_, ⟨_, rfl⟩, q3, q4.mono (by decide) (by decide)⟩
  · refine XS.aloadN X0.here hx rfl (hb hby d11_0) rfl rfl ?_
    refine XS.aloadN X0.here hx rfl (hb hby d11_1) rfl rfl ?_
    refine XS.iconst X0.here hx rfl (hb hby d11_2) ?_
    refine XS.aloadN X0.here hx rfl (hb hby d11_3) rfl rfl ?_
    refine X0.arraylength hx (by rw [e0]; exact Ar1.1) (State.isArrayOf_alike hZ.alike Ar1.2.1) (g := (mkF m 4 #[.val (.ref oa), .val (.ref oc)] [(.ref oc), (.int 0), (.ref oc), (.ref oa)])) rfl rfl (hb hby d11_4) _ ?_
    rw [len_of S1 M1]
    refine XS.aconstNull X0.here hx rfl (hb hby d11_5) ?_
    refine st2.trans ?_
    exact X2.returnOut hx Bd.returns (hb hby d11_9) hr
  · show Q_mk4 Z _ _ _ _ _ _ _ _ _ h0 n0 _ T2.heap _
    have f4 := ((Keep.refl h0 [oa]).trans K2 (allS (P := fun x => x ∈ [oa] ∨ h0.size ≤ x) (Or.inl (List.mem_of_getElem? (i := 0) rfl)) all0))
    exact ⟨rfl, N2, f4, A2, ob, kb, bb0, bb1, bb2, bb3, gb, sz_ob, Fc2, Fv2, Vb2, qbb0, qbb1, qbb2, qbb3⟩
theorem ef_rm_cp5 (m : MethodId) (x0 : Addr) (x2 : Addr) : entryFrame m #[(.ref x0), (.int 0), (.ref x2), (.int 0), (.int 5)] 7 = mkF m 0 #[.val (.ref x0), .val (.int 0), .val (.ref x2), .val (.int 0), .val (.int 5), .unset, .unset] [] := by first | (simp [entryFrame, mkF, argsToLocals, Value.category]; done) | rfl
def Q_cp5 (Z : State) (oc : Addr) (ob : Addr) (kC : ClassId) (c0 : Int32) (c1 : Int32) (c2 : Int32) (c3 : Int32) (c4 : Int32) (kb : ClassId) (h0 : Heap) (n0 : Nat) (v : Option Value) (h : Heap) (L : List Loc) : Prop := ∃ bb0 bb1 bb2 bb3 bb4 : Int32, v = some (.int 5) ∧ Fr n0 L ∧ Keep h0 h [ob] ∧ Arv Z h ob kb .byte (5 : Int32) [(.int bb0), (.int bb1), (.int bb2), (.int bb3), (.int bb4)] (.int 0) ∧ bb0.toInt % 256 = c0.toInt ∧ bb1.toInt % 256 = c1.toInt ∧ bb2.toInt % 256 = c2.toInt ∧ bb3.toInt % 256 = c3.toInt ∧ bb4.toInt % 256 = c4.toInt
theorem rm_cp5 (l : Launch) (Z : State) (a0 : Array Value) (hw : ∀ d ∈ tables_1, d.before a0 Z = true) (ws : List Jvm.Cond) (oc : Addr) (ob : Addr) (kC : ClassId) (c0 : Int32) (c1 : Int32) (c2 : Int32) (c3 : Int32) (c4 : Int32) (kb : ClassId) (h0 : Heap) (n0 : Nat) (Z0 : n0 ≤ h0.size) (Vc : Arv Z h0 oc kC .char (5 : Int32) [(.int c0), (.int c1), (.int c2), (.int c3), (.int c4)] (.int 0)) (uc0 : 0 ≤ c0.toInt) (uc1 : 0 ≤ c1.toInt) (uc2 : 0 ≤ c2.toInt) (uc3 : 0 ≤ c3.toInt) (uc4 : 0 ≤ c4.toInt) (vc0 : c0.toInt ≤ 255) (vc1 : c1.toInt ≤ 255) (vc2 : c2.toInt ≤ 255) (vc3 : c3.toInt ≤ 255) (vc4 : c4.toInt ≤ 255) (Vb : Arv Z h0 ob kb .byte (5 : Int32) [(.int 0), (.int 0), (.int 0), (.int 0), (.int 0)] (.int 0)) (gb : n0 ≤ ob) (ncb : oc ≠ ob) :
    MetFree l yn13 (head1 (Jvm.Cond.code yn13 kc13 7 (some .int) :: ws) ⟨0, 0, 0, 0⟩) (fun a U => a = #[(.ref oc), (.int 0), (.ref ob), (.int 0), (.int 5)] ∧ Z.Warmed39 U.vm ∧ U.heap = h0) (fun _ _ _ _ _ => True) (fun _ U o U' => ∃ v L, o = .returned v ∧ Q_cp5 Z oc ob kC c0 c1 c2 c3 c4 kb h0 n0 v U'.heap L ∧ FrameEnd U o U' L 0 0) := by
  refine MetFree.of_bodySF (plainFor_of_name pn_4) hisR ?_
  intro p e s m args below meth c s₁ Bd hml0 hP hK
  obtain ⟨rfl, hZ, hh⟩ := hP
  have hx := Bd.exec
  have hby := Bd.bytes
  have hml : c.maxLocals = 7 := hml0
  have hown : s.vm.findClass "java/lang/StringUTF16" = some m.cls := findClass_of_methodNamed Bd.named
  have hnm := (name_of_methodNamed Bd.named Bd.method).1
  have X0 : Stand p l e ⟨0, 0, 0, 0⟩ s m #[(.ref oc), (.int 0), (.ref ob), (.int 0), (.int 5)] below meth c s₁ [] 0 0 := Stand.of_body Bd
  have e0 : s₁.heap = h0 := by rw [← hh, Bd.state]; rfl
  have N0 := Fr.nil n0
  obtain ⟨SS, hSS⟩ : ∃ S, S = s₁.setTop (entryFrame m #[(.ref oc), (.int 0), (.ref ob), (.int 0), (.int 5)] 7) := ⟨_, rfl⟩
  have pre0 : oP p e below (s₁.setTop (mkF m 0 #[.val (.ref oc), .val (.int 0), .val (.ref ob), .val (.int 0), .val (.int 5), .unset, .unset] [])) (SS) := by
    rw [hSS]; exact fun t k => castTop (ef_rm_cp5 m oc ob) k
  have hc7_1 : (0 : Int) < (5 : Int) := by decide
  obtain ⟨cl2, Ar2, q2, S2, M2, H2, G2⟩ := id Vc
  have hin2 : ¬ ((0 : Int32) < 0 ∨ cl2.slots.size ≤ ((0 : Int32)).toNatClampNeg) := inb_of S2 ⟨by decide, by decide⟩
  have hat2 : cl2.slots[((0 : Int32)).toNatClampNeg]? = some (.int c0) := Has.at H2 hin2 rfl
  have hc20_3 : ¬ ((255 : Int) < c0.toInt) := by omega
  obtain ⟨cl4, Ar4, q4, S4, M4, H4, G4⟩ := id Vb
  have hin4 : ¬ ((0 : Int32) < 0 ∨ cl4.slots.size ≤ ((0 : Int32)).toNatClampNeg) := inb_of S4 ⟨by decide, by decide⟩
  obtain ⟨T5, h5, X5, e5, W5, st5⟩ := stB X0 hx hZ e0 Ar4 (j := (0 : Int32)) hin4 (g := (mkF m 31 #[.val (.ref oc), .val (.int 0), .val (.ref ob), .val (.int 0), .val (.int 5), .val (.int 0), .val (.int c0)] [(.int (c0.toInt8.toInt32)), (.int 0), (.ref ob)])) rfl rfl (hb hby d15_31)
  have N5 := Fr.snoc X5 N0 gb
  have Zs6 : n0 ≤ h5.size := by rw [W5.size]; exact Z0
  have V5 : Arv Z h5 ob kb .byte (5 : Int32) [(.int (nar .byte (c0.toInt8.toInt32))), (.int 0), (.int 0), (.int 0), (.int 0)] (.int 0) := Arv.set Ar4 q4 S4 M4 H4 G4 (fits_nar_byte _) W5 0 rfl (Nat.le_of_ble_eq_true rfl)
  have hc7_7 : (1 : Int) < (5 : Int) := by decide
  have f8 := (Vc.other W5 ncb)
  obtain ⟨cl9, Ar9, q9, S9, M9, H9, G9⟩ := id f8
  have hin9 : ¬ ((1 : Int32) < 0 ∨ cl9.slots.size ≤ ((1 : Int32)).toNatClampNeg) := inb_of S9 ⟨by decide, by decide⟩
  have hat9 : cl9.slots[((1 : Int32)).toNatClampNeg]? = some (.int c1) := Has.at H9 hin9 rfl
  have hc20_10 : ¬ ((255 : Int) < c1.toInt) := by omega
  obtain ⟨cl11, Ar11, q11, S11, M11, H11, G11⟩ := id V5
  have hin11 : ¬ ((1 : Int32) < 0 ∨ cl11.slots.size ≤ ((1 : Int32)).toNatClampNeg) := inb_of S11 ⟨by decide, by decide⟩
  obtain ⟨T12, h12, X12, e12, W12, st12⟩ := stB X5 hx hZ e5 Ar11 (j := (1 : Int32)) hin11 (g := (mkF m 31 #[.val (.ref oc), .val (.int 1), .val (.ref ob), .val (.int 1), .val (.int 5), .val (.int 1), .val (.int c1)] [(.int (c1.toInt8.toInt32)), (.int 1), (.ref ob)])) rfl rfl (hb hby d15_31)
  have N12 := Fr.snoc X12 N5 gb
  have Zs13 : n0 ≤ h12.size := by rw [W12.size]; exact Zs6
  have V12 : Arv Z h12 ob kb .byte (5 : Int32) [(.int (nar .byte (c0.toInt8.toInt32))), (.int (nar .byte (c1.toInt8.toInt32))), (.int 0), (.int 0), (.int 0)] (.int 0) := Arv.set Ar11 q11 S11 M11 H11 G11 (fits_nar_byte _) W12 1 rfl (Nat.le_of_ble_eq_true rfl)
  have hc7_14 : (2 : Int) < (5 : Int) := by decide
  have f15 := (f8.other W12 ncb)
  obtain ⟨cl16, Ar16, q16, S16, M16, H16, G16⟩ := id f15
  have hin16 : ¬ ((2 : Int32) < 0 ∨ cl16.slots.size ≤ ((2 : Int32)).toNatClampNeg) := inb_of S16 ⟨by decide, by decide⟩
  have hat16 : cl16.slots[((2 : Int32)).toNatClampNeg]? = some (.int c2) := Has.at H16 hin16 rfl
  have hc20_17 : ¬ ((255 : Int) < c2.toInt) := by omega
  obtain ⟨cl18, Ar18, q18, S18, M18, H18, G18⟩ := id V12
  have hin18 : ¬ ((2 : Int32) < 0 ∨ cl18.slots.size ≤ ((2 : Int32)).toNatClampNeg) := inb_of S18 ⟨by decide, by decide⟩
  obtain ⟨T19, h19, X19, e19, W19, st19⟩ := stB X12 hx hZ e12 Ar18 (j := (2 : Int32)) hin18 (g := (mkF m 31 #[.val (.ref oc), .val (.int 2), .val (.ref ob), .val (.int 2), .val (.int 5), .val (.int 2), .val (.int c2)] [(.int (c2.toInt8.toInt32)), (.int 2), (.ref ob)])) rfl rfl (hb hby d15_31)
  have N19 := Fr.snoc X19 N12 gb
  have Zs20 : n0 ≤ h19.size := by rw [W19.size]; exact Zs13
  have V19 : Arv Z h19 ob kb .byte (5 : Int32) [(.int (nar .byte (c0.toInt8.toInt32))), (.int (nar .byte (c1.toInt8.toInt32))), (.int (nar .byte (c2.toInt8.toInt32))), (.int 0), (.int 0)] (.int 0) := Arv.set Ar18 q18 S18 M18 H18 G18 (fits_nar_byte _) W19 2 rfl (Nat.le_of_ble_eq_true rfl)
  have hc7_21 : (3 : Int) < (5 : Int) := by decide
  have f22 := (f15.other W19 ncb)
  obtain ⟨cl23, Ar23, q23, S23, M23, H23, G23⟩ := id f22
  have hin23 : ¬ ((3 : Int32) < 0 ∨ cl23.slots.size ≤ ((3 : Int32)).toNatClampNeg) := inb_of S23 ⟨by decide, by decide⟩
  have hat23 : cl23.slots[((3 : Int32)).toNatClampNeg]? = some (.int c3) := Has.at H23 hin23 rfl
  have hc20_24 : ¬ ((255 : Int) < c3.toInt) := by omega
  obtain ⟨cl25, Ar25, q25, S25, M25, H25, G25⟩ := id V19
  have hin25 : ¬ ((3 : Int32) < 0 ∨ cl25.slots.size ≤ ((3 : Int32)).toNatClampNeg) := inb_of S25 ⟨by decide, by decide⟩
  obtain ⟨T26, h26, X26, e26, W26, st26⟩ := stB X19 hx hZ e19 Ar25 (j := (3 : Int32)) hin25 (g := (mkF m 31 #[.val (.ref oc), .val (.int 3), .val (.ref ob), .val (.int 3), .val (.int 5), .val (.int 3), .val (.int c3)] [(.int (c3.toInt8.toInt32)), (.int 3), (.ref ob)])) rfl rfl (hb hby d15_31)
  have N26 := Fr.snoc X26 N19 gb
  have Zs27 : n0 ≤ h26.size := by rw [W26.size]; exact Zs20
  have V26 : Arv Z h26 ob kb .byte (5 : Int32) [(.int (nar .byte (c0.toInt8.toInt32))), (.int (nar .byte (c1.toInt8.toInt32))), (.int (nar .byte (c2.toInt8.toInt32))), (.int (nar .byte (c3.toInt8.toInt32))), (.int 0)] (.int 0) := Arv.set Ar25 q25 S25 M25 H25 G25 (fits_nar_byte _) W26 3 rfl (Nat.le_of_ble_eq_true rfl)
  have hc7_28 : (4 : Int) < (5 : Int) := by decide
  have f29 := (f22.other W26 ncb)
  obtain ⟨cl30, Ar30, q30, S30, M30, H30, G30⟩ := id f29
  have hin30 : ¬ ((4 : Int32) < 0 ∨ cl30.slots.size ≤ ((4 : Int32)).toNatClampNeg) := inb_of S30 ⟨by decide, by decide⟩
  have hat30 : cl30.slots[((4 : Int32)).toNatClampNeg]? = some (.int c4) := Has.at H30 hin30 rfl
  have hc20_31 : ¬ ((255 : Int) < c4.toInt) := by omega
  obtain ⟨cl32, Ar32, q32, S32, M32, H32, G32⟩ := id V26
  have hin32 : ¬ ((4 : Int32) < 0 ∨ cl32.slots.size ≤ ((4 : Int32)).toNatClampNeg) := inb_of S32 ⟨by decide, by decide⟩
  obtain ⟨T33, h33, X33, e33, W33, st33⟩ := stB X26 hx hZ e26 Ar32 (j := (4 : Int32)) hin32 (g := (mkF m 31 #[.val (.ref oc), .val (.int 4), .val (.ref ob), .val (.int 4), .val (.int 5), .val (.int 4), .val (.int c4)] [(.int (c4.toInt8.toInt32)), (.int 4), (.ref ob)])) rfl rfl (hb hby d15_31)
  have N33 := Fr.snoc X33 N26 gb
  have Zs34 : n0 ≤ h33.size := by rw [W33.size]; exact Zs27
  have V33 : Arv Z h33 ob kb .byte (5 : Int32) [(.int (nar .byte (c0.toInt8.toInt32))), (.int (nar .byte (c1.toInt8.toInt32))), (.int (nar .byte (c2.toInt8.toInt32))), (.int (nar .byte (c3.toInt8.toInt32))), (.int (nar .byte (c4.toInt8.toInt32)))] (.int 0) := Arv.set Ar32 q32 S32 M32 H32 G32 (fits_nar_byte _) W33 4 rfl (Nat.le_of_ble_eq_true rfl)
  have hc7_35 : ¬ ((5 : Int) < (5 : Int)) := by decide
  subst hSS
  obtain ⟨fs, hr, q1, q2, q3, q4⟩ := X33.leave (v := some (.int 5)) (fun h => by rw [Bd.returns] at h; cases h)
  refine ⟨_, _, pre0 _ ?_, q1, q2, _, _, rfl, ?_, ⟨_, rfl⟩, q3, q4.mono (by decide) (by decide)⟩
  · refine XS.iconst X0.here hx rfl (hb hby d15_0) ?_
    refine XS.istore X0.here hx rfl (hb hby d15_1) rfl (l' := #[.val (.ref oc), .val (.int 0), .val (.ref ob), .val (.int 0), .val (.int 5), .val (.int 0), .unset]) rfl ?_
    refine XS.iload X0.here hx rfl (hb hby d15_3) rfl ?_
    refine XS.iload X0.here hx rfl (hb hby d15_5) rfl ?_
    refine XS.icmpNo X0.here hx rfl (hb hby d15_7) rfl (own_tlt (a := (0 : Int32)) (b := (5 : Int32)) (by decide) (by decide) hc7_1).2.1 ?_
    refine XS.aloadN X0.here hx rfl (hb hby d15_10) rfl rfl ?_
    refine XS.iloadN X0.here hx rfl (hb hby d15_11) rfl ?_
    refine X0.caload hx (j := (0 : Int32)) (v := (.int c0)) (by rw [e0]; exact Ar2.1) (State.isArrayOf_alike hZ.alike Ar2.2.1) Ar2.2.2 hin2 hat2 (g := (mkF m 12 #[.val (.ref oc), .val (.int 0), .val (.ref ob), .val (.int 0), .val (.int 5), .val (.int 0), .unset] [(.int 0), (.ref oc)])) rfl rfl (hb hby d15_12) _ ?_
    refine XS.istore X0.here hx rfl (hb hby d15_13) rfl (l' := #[.val (.ref oc), .val (.int 0), .val (.ref ob), .val (.int 0), .val (.int 5), .val (.int 0), .val (.int c0)]) rfl ?_
    refine XS.iload X0.here hx rfl (hb hby d15_15) rfl ?_
    refine XS.sipush X0.here hx rfl (hb hby d15_17) ?_
    refine XS.icmpYes X0.here hx rfl (pc0 := 20) (pc' := 26) rfl (hb hby d15_20) rfl (own_flt (a := (255 : Int32)) (b := c0) (by decide) rfl hc20_3).2.2.2 (by decide) (by decide) ?_
    refine XS.aloadN X0.here hx rfl (hb hby d15_26) rfl rfl ?_
    refine XS.iloadN X0.here hx rfl (hb hby d15_27) rfl ?_
    refine XS.iload X0.here hx rfl (hb hby d15_28) rfl ?_
    refine XS.i2b X0.here hx rfl (hb hby d15_30) rfl ?_
    refine st5 _ ?_
    refine XS.iinc X5.here hx rfl (hb hby d15_32) rfl (l' := #[.val (.ref oc), .val (.int 1), .val (.ref ob), .val (.int 0), .val (.int 5), .val (.int 0), .val (.int c0)]) rfl ?_
    refine XS.iinc X5.here hx rfl (hb hby d15_35) rfl (l' := #[.val (.ref oc), .val (.int 1), .val (.ref ob), .val (.int 1), .val (.int 5), .val (.int 0), .val (.int c0)]) rfl ?_
    show Steps p.tables e below (T5.setTop (mkF m 38 #[.val (.ref oc), .val (.int 1), .val (.ref ob), .val (.int 1), .val (.int 5), .val (.int 0), .val (.int c0)] [])) _
    refine XS.iinc X5.here hx rfl (hb hby d15_38) rfl (l' := #[.val (.ref oc), .val (.int 1), .val (.ref ob), .val (.int 1), .val (.int 5), .val (.int 1), .val (.int c0)]) rfl ?_
    refine XS.goto X5.here hx rfl (pc0 := 41) (pc' := 3) rfl (hb hby d15_41) (by decide) (by decide) ?_
    refine XS.iload X5.here hx rfl (hb hby d15_3) rfl ?_
    refine XS.iload X5.here hx rfl (hb hby d15_5) rfl ?_
    refine XS.icmpNo X5.here hx rfl (hb hby d15_7) rfl (own_tlt (a := (1 : Int32)) (b := (5 : Int32)) (by decide) (by decide) hc7_7).2.1 ?_
    refine XS.aloadN X5.here hx rfl (hb hby d15_10) rfl rfl ?_
    refine XS.iloadN X5.here hx rfl (hb hby d15_11) rfl ?_
    refine X5.caload hx (j := (1 : Int32)) (v := (.int c1)) (by rw [e5]; exact Ar9.1) (State.isArrayOf_alike hZ.alike Ar9.2.1) Ar9.2.2 hin9 hat9 (g := (mkF m 12 #[.val (.ref oc), .val (.int 1), .val (.ref ob), .val (.int 1), .val (.int 5), .val (.int 1), .val (.int c0)] [(.int 1), (.ref oc)])) rfl rfl (hb hby d15_12) _ ?_
    refine XS.istore X5.here hx rfl (hb hby d15_13) rfl (l' := #[.val (.ref oc), .val (.int 1), .val (.ref ob), .val (.int 1), .val (.int 5), .val (.int 1), .val (.int c1)]) rfl ?_
    refine XS.iload X5.here hx rfl (hb hby d15_15) rfl ?_
    refine XS.sipush X5.here hx rfl (hb hby d15_17) ?_
    refine XS.icmpYes X5.here hx rfl (pc0 := 20) (pc' := 26) rfl (hb hby d15_20) rfl (own_flt (a := (255 : Int32)) (b := c1) (by decide) rfl hc20_10).2.2.2 (by decide) (by decide) ?_
    refine XS.aloadN X5.here hx rfl (hb hby d15_26) rfl rfl ?_
    refine XS.iloadN X5.here hx rfl (hb hby d15_27) rfl ?_
    refine XS.iload X5.here hx rfl (hb hby d15_28) rfl ?_
    refine XS.i2b X5.here hx rfl (hb hby d15_30) rfl ?_
    refine st12 _ ?_
    refine XS.iinc X12.here hx rfl (hb hby d15_32) rfl (l' := #[.val (.ref oc), .val (.int 2), .val (.ref ob), .val (.int 1), .val (.int 5), .val (.int 1), .val (.int c1)]) rfl ?_
    refine XS.iinc X12.here hx rfl (hb hby d15_35) rfl (l' := #[.val (.ref oc), .val (.int 2), .val (.ref ob), .val (.int 2), .val (.int 5), .val (.int 1), .val (.int c1)]) rfl ?_
    refine XS.iinc X12.here hx rfl (hb hby d15_38) rfl (l' := #[.val (.ref oc), .val (.int 2), .val (.ref ob), .val (.int 2), .val (.int 5), .val (.int 2), .val (.int c1)]) rfl ?_
    show Steps p.tables e below (T12.setTop (mkF m 41 #[.val (.ref oc), .val (.int 2), .val (.ref ob), .val (.int 2), .val (.int 5), .val (.int 2), .val (.int c1)] [])) _
    refine XS.goto X12.here hx rfl (pc0 := 41) (pc' := 3) rfl (hb hby d15_41) (by decide) (by decide) ?_
    refine XS.iload X12.here hx rfl (hb hby d15_3) rfl ?_
    refine XS.iload X12.here hx rfl (hb hby d15_5) rfl ?_
    refine XS.icmpNo X12.here hx rfl (hb hby d15_7) rfl (own_tlt (a := (2 : Int32)) (b := (5 : Int32)) (by decide) (by decide) hc7_14).2.1 ?_
    refine XS.aloadN X12.here hx rfl (hb hby d15_10) rfl rfl ?_
    refine XS.iloadN X12.here hx rfl (hb hby d15_11) rfl ?_
    refine X12.caload hx (j := (2 : Int32)) (v := (.int c2)) (by rw [e12]; exact Ar16.1) (State.isArrayOf_alike hZ.alike Ar16.2.1) Ar16.2.2 hin16 hat16 (g := (mkF m 12 #[.val (.ref oc), .val (.int 2), .val (.ref ob), .val (.int 2), .val (.int 5), .val (.int 2), .val (.int c1)] [(.int 2), (.ref oc)])) rfl rfl (hb hby d15_12) _ ?_
    refine XS.istore X12.here hx rfl (hb hby d15_13) rfl (l' := #[.val (.ref oc), .val (.int 2), .val (.ref ob), .val (.int 2), .val (.int 5), .val (.int 2), .val (.int c2)]) rfl ?_
    refine XS.iload X12.here hx rfl (hb hby d15_15) rfl ?_
    refine XS.sipush X12.here hx rfl (hb hby d15_17) ?_
    refine XS.icmpYes X12.here hx rfl (pc0 := 20) (pc' := 26) rfl (hb hby d15_20) rfl (own_flt (a := (255 : Int32)) (b := c2) (by decide) rfl hc20_17).2.2.2 (by decide) (by decide) ?_
    refine XS.aloadN X12.here hx rfl (hb hby d15_26) rfl rfl ?_
    refine XS.iloadN X12.here hx rfl (hb hby d15_27) rfl ?_
    refine XS.iload X12.here hx rfl (hb hby d15_28) rfl ?_
    refine XS.i2b X12.here hx rfl (hb hby d15_30) rfl ?_
    refine st19 _ ?_
    refine XS.iinc X19.here hx rfl (hb hby d15_32) rfl (l' := #[.val (.ref oc), .val (.int 3), .val (.ref ob), .val (.int 2), .val (.int 5), .val (.int 2), .val (.int c2)]) rfl ?_
    refine XS.iinc X19.here hx rfl (hb hby d15_35) rfl (l' := #[.val (.ref oc), .val (.int 3), .val (.ref ob), .val (.int 3), .val (.int 5), .val (.int 2), .val (.int c2)]) rfl ?_
    refine XS.iinc X19.here hx rfl (hb hby d15_38) rfl (l' := #[.val (.ref oc), .val (.int 3), .val (.ref ob), .val (.int 3), .val (.int 5), .val (.int 3), .val (.int c2)]) rfl ?_
    refine XS.goto X19.here hx rfl (pc0 := 41) (pc' := 3) rfl (hb hby d15_41) (by decide) (by decide) ?_
    show Steps p.tables e below (T19.setTop (mkF m 3 #[.val (.ref oc), .val (.int 3), .val (.ref ob), .val (.int 3), .val (.int 5), .val (.int 3), .val (.int c2)] [])) _
    refine XS.iload X19.here hx rfl (hb hby d15_3) rfl ?_
    refine XS.iload X19.here hx rfl (hb hby d15_5) rfl ?_
    refine XS.icmpNo X19.here hx rfl (hb hby d15_7) rfl (own_tlt (a := (3 : Int32)) (b := (5 : Int32)) (by decide) (by decide) hc7_21).2.1 ?_
    refine XS.aloadN X19.here hx rfl (hb hby d15_10) rfl rfl ?_
    refine XS.iloadN X19.here hx rfl (hb hby d15_11) rfl ?_
    refine X19.caload hx (j := (3 : Int32)) (v := (.int c3)) (by rw [e19]; exact Ar23.1) (State.isArrayOf_alike hZ.alike Ar23.2.1) Ar23.2.2 hin23 hat23 (g := (mkF m 12 #[.val (.ref oc), .val (.int 3), .val (.ref ob), .val (.int 3), .val (.int 5), .val (.int 3), .val (.int c2)] [(.int 3), (.ref oc)])) rfl rfl (hb hby d15_12) _ ?_
    refine XS.istore X19.here hx rfl (hb hby d15_13) rfl (l' := #[.val (.ref oc), .val (.int 3), .val (.ref ob), .val (.int 3), .val (.int 5), .val (.int 3), .val (.int c3)]) rfl ?_
    refine XS.iload X19.here hx rfl (hb hby d15_15) rfl ?_
    refine XS.sipush X19.here hx rfl (hb hby d15_17) ?_
    refine XS.icmpYes X19.here hx rfl (pc0 := 20) (pc' := 26) rfl (hb hby d15_20) rfl (own_flt (a := (255 : Int32)) (b := c3) (by decide) rfl hc20_24).2.2.2 (by decide) (by decide) ?_
    refine XS.aloadN X19.here hx rfl (hb hby d15_26) rfl rfl ?_
    refine XS.iloadN X19.here hx rfl (hb hby d15_27) rfl ?_
    refine XS.iload X19.here hx rfl (hb hby d15_28) rfl ?_
    refine XS.i2b X19.here hx rfl (hb hby d15_30) rfl ?_
    refine st26 _ ?_
    refine XS.iinc X26.here hx rfl (hb hby d15_32) rfl (l' := #[.val (.ref oc), .val (.int 4), .val (.ref ob), .val (.int 3), .val (.int 5), .val (.int 3), .val (.int c3)]) rfl ?_
    refine XS.iinc X26.here hx rfl (hb hby d15_35) rfl (l' := #[.val (.ref oc), .val (.int 4), .val (.ref ob), .val (.int 4), .val (.int 5), .val (.int 3), .val (.int c3)]) rfl ?_
    refine XS.iinc X26.here hx rfl (hb hby d15_38) rfl (l' := #[.val (.ref oc), .val (.int 4), .val (.ref ob), .val (.int 4), .val (.int 5), .val (.int 4), .val (.int c3)]) rfl ?_
    refine XS.goto X26.here hx rfl (pc0 := 41) (pc' := 3) rfl (hb hby d15_41) (by decide) (by decide) ?_
    refine XS.iload X26.here hx rfl (hb hby d15_3) rfl ?_
    show Steps p.tables e below (T26.setTop (mkF m 5 #[.val (.ref oc), .val (.int 4), .val (.ref ob), .val (.int 4), .val (.int 5), .val (.int 4), .val (.int c3)] [(.int 4)])) _
    refine XS.iload X26.here hx rfl (hb hby d15_5) rfl ?_
    refine XS.icmpNo X26.here hx rfl (hb hby d15_7) rfl (own_tlt (a := (4 : Int32)) (b := (5 : Int32)) (by decide) (by decide) hc7_28).2.1 ?_
    refine XS.aloadN X26.here hx rfl (hb hby d15_10) rfl rfl ?_
    refine XS.iloadN X26.here hx rfl (hb hby d15_11) rfl ?_
    refine X26.caload hx (j := (4 : Int32)) (v := (.int c4)) (by rw [e26]; exact Ar30.1) (State.isArrayOf_alike hZ.alike Ar30.2.1) Ar30.2.2 hin30 hat30 (g := (mkF m 12 #[.val (.ref oc), .val (.int 4), .val (.ref ob), .val (.int 4), .val (.int 5), .val (.int 4), .val (.int c3)] [(.int 4), (.ref oc)])) rfl rfl (hb hby d15_12) _ ?_
    refine XS.istore X26.here hx rfl (hb hby d15_13) rfl (l' := #[.val (.ref oc), .val (.int 4), .val (.ref ob), .val (.int 4), .val (.int 5), .val (.int 4), .val (.int c4)]) rfl ?_
    refine XS.iload X26.here hx rfl (hb hby d15_15) rfl ?_
    refine XS.sipush X26.here hx rfl (hb hby d15_17) ?_
    refine XS.icmpYes X26.here hx rfl (pc0 := 20) (pc' := 26) rfl (hb hby d15_20) rfl (own_flt (a := (255 : Int32)) (b := c4) (by decide) rfl hc20_31).2.2.2 (by decide) (by decide) ?_
    refine XS.aloadN X26.here hx rfl (hb hby d15_26) rfl rfl ?_
    refine XS.iloadN X26.here hx rfl (hb hby d15_27) rfl ?_
    refine XS.iload X26.here hx rfl (hb hby d15_28) rfl ?_
    refine XS.i2b X26.here hx rfl (hb hby d15_30) rfl ?_
    refine st33 _ ?_
    refine XS.iinc X33.here hx rfl (hb hby d15_32) rfl (l' := #[.val (.ref oc), .val (.int 5), .val (.ref ob), .val (.int 4), .val (.int 5), .val (.int 4), .val (.int c4)]) rfl ?_
    refine XS.iinc X33.here hx rfl (hb hby d15_35) rfl (l' := #[.val (.ref oc), .val (.int 5), .val (.ref ob), .val (.int 5), .val (.int 5), .val (.int 4), .val (.int c4)]) rfl ?_
    refine XS.iinc X33.here hx rfl (hb hby d15_38) rfl (l' := #[.val (.ref oc), .val (.int 5), .val (.ref ob), .val (.int 5), .val (.int 5), .val (.int 5), .val (.int c4)]) rfl ?_
    refine XS.goto X33.here hx rfl (pc0 := 41) (pc' := 3) rfl (hb hby d15_41) (by decide) (by decide) ?_
    refine XS.iload X33.here hx rfl (hb hby d15_3) rfl ?_
    refine XS.iload X33.here hx rfl (hb hby d15_5) rfl ?_
    show Steps p.tables e below (T33.setTop (mkF m 7 #[.val (.ref oc), .val (.int 5), .val (.ref ob), .val (.int 5), .val (.int 5), .val (.int 5), .val (.int c4)] [(.int 5), (.int 5)])) _
    refine XS.icmpYes X33.here hx rfl (pc0 := 7) (pc' := 44) rfl (hb hby d15_7) rfl (own_flt (a := (5 : Int32)) (b := (5 : Int32)) (by decide) (by decide) hc7_35).2.1 (by decide) (by decide) ?_
    refine XS.iload X33.here hx rfl (hb hby d15_44) rfl ?_
    exact retI X33 hx Bd.returns (hb hby d15_46) hr
  · show Q_cp5 Z _ _ _ _ _ _ _ _ _ h0 n0 _ T33.heap _
    rw [e33]
    have f36 := ((((((Keep.refl h0 [ob]).wr W5 (Or.inl (List.mem_of_getElem? (i := 0) rfl))).wr W12 (Or.inl (List.mem_of_getElem? (i := 0) rfl))).wr W19 (Or.inl (List.mem_of_getElem? (i := 0) rfl))).wr W26 (Or.inl (List.mem_of_getElem? (i := 0) rfl))).wr W33 (Or.inl (List.mem_of_getElem? (i := 0) rfl)))
    exact ⟨_, _, _, _, _, rfl, N33, f36, V33, own_b2 c0 uc0 vc0, own_b2 c1 uc1 vc1, own_b2 c2 uc2 vc2, own_b2 c3 uc3 vc3, own_b2 c4 uc4 vc4⟩
theorem ef_rm_cm5 (m : MethodId) (x0 : Addr) : entryFrame m #[(.ref x0), (.int 0), (.int 5)] 6 = mkF m 0 #[.val (.ref x0), .val (.int 0), .val (.int 5), .unset, .unset, .unset] [] := by first | (simp [entryFrame, mkF, argsToLocals, Value.category]; done) | rfl
def Q_cm5 (Z : State) (oc : Addr) (kC : ClassId) (c0 : Int32) (c1 : Int32) (c2 : Int32) (c3 : Int32) (c4 : Int32) (h0 : Heap) (n0 : Nat) (v : Option Value) (h : Heap) (L : List Loc) : Prop := ∃ (ob : Addr) (kb : ClassId) (bb0 bb1 bb2 bb3 bb4 : Int32), v = some (.ref ob) ∧ Fr n0 L ∧ Keep h0 h [] ∧ n0 ≤ ob ∧ h0.size ≤ ob ∧ Arv Z h ob kb .byte (5 : Int32) [(.int bb0), (.int bb1), (.int bb2), (.int bb3), (.int bb4)] (.int 0) ∧ bb0.toInt % 256 = c0.toInt ∧ bb1.toInt % 256 = c1.toInt ∧ bb2.toInt % 256 = c2.toInt ∧ bb3.toInt % 256 = c3.toInt ∧ bb4.toInt % 256 = c4.toInt
theorem rm_cm5 (l : Launch) (Z : State) (a0 : Array Value) (hw : ∀ d ∈ tables_1, d.before a0 Z = true) (ws : List Jvm.Cond) (oc : Addr) (kC : ClassId) (c0 : Int32) (c1 : Int32) (c2 : Int32) (c3 : Int32) (c4 : Int32) (h0 : Heap) (n0 : Nat) (Z0 : n0 ≤ h0.size) (Vc : Arv Z h0 oc kC .char (5 : Int32) [(.int c0), (.int c1), (.int c2), (.int c3), (.int c4)] (.int 0)) (uc0 : 0 ≤ c0.toInt) (uc1 : 0 ≤ c1.toInt) (uc2 : 0 ≤ c2.toInt) (uc3 : 0 ≤ c3.toInt) (uc4 : 0 ≤ c4.toInt) (vc0 : c0.toInt ≤ 255) (vc1 : c1.toInt ≤ 255) (vc2 : c2.toInt ≤ 255) (vc3 : c3.toInt ≤ 255) (vc4 : c4.toInt ≤ 255) :
    MetFree l yn14 (head1 (Jvm.Cond.code yn14 kc14 6 (some (.array .byte)) :: ws) ⟨1, 1, 5, 18⟩) (fun a U => a = #[(.ref oc), (.int 0), (.int 5)] ∧ Z.Warmed39 U.vm ∧ U.heap = h0) (fun _ _ _ _ _ => True) (fun _ U o U' => ∃ v L, o = .returned v ∧ Q_cm5 Z oc kC c0 c1 c2 c3 c4 h0 n0 v U'.heap L ∧ FrameEnd U o U' L 1 5) := by
  refine MetFree.of_bodySF (plainFor_of_name pn_4) hisR ?_
  intro p e s m args below meth c s₁ Bd hml0 hP hK
  obtain ⟨rfl, hZ, hh⟩ := hP
  have hx := Bd.exec
  have hby := Bd.bytes
  have hml : c.maxLocals = 6 := hml0
  have hown : s.vm.findClass "java/lang/StringUTF16" = some m.cls := findClass_of_methodNamed Bd.named
  have hnm := (name_of_methodNamed Bd.named Bd.method).1
  have X0 : Stand p l e ⟨1, 1, 5, 18⟩ s m #[(.ref oc), (.int 0), (.int 5)] below meth c s₁ [] 0 0 := Stand.of_body Bd
  have e0 : s₁.heap = h0 := by rw [← hh, Bd.state]; rfl
  have N0 := Fr.nil n0
  obtain ⟨SS, hSS⟩ : ∃ S, S = s₁.setTop (entryFrame m #[(.ref oc), (.int 0), (.int 5)] 6) := ⟨_, rfl⟩
  have pre0 : oP p e below (s₁.setTop (mkF m 0 #[.val (.ref oc), .val (.int 0), .val (.int 5), .unset, .unset, .unset] [])) (SS) := by
    rw [hSS]; exact fun t k => castTop (ef_rm_cm5 m oc) k
  obtain ⟨T1, h1, k1, X1, e1, E1, A1, st1⟩ := newP X0 hx hZ (ow hw 3 rfl) e0 (g := (mkF m 1 #[.val (.ref oc), .val (.int 0), .val (.int 5), .unset, .unset, .unset] [(.int 5)])) rfl (hb hby d14_1) rfl (by decide) (cap := 5) (by decide) (by decide) (by decide) (by decide)
  obtain ⟨b1, g1⟩ : ∃ z, z = h0.size := ⟨_, rfl⟩
  have ne_oc_b1 : oc ≠ b1 := Nat.ne_of_lt (Nat.lt_of_lt_of_le Vc.lt (Nat.le_of_eq g1.symm))
  have g_b1 : n0 ≤ b1 := Nat.le_trans Z0 (Nat.le_of_eq g1.symm)
  have sz_b1 : h0.size ≤ b1 := Nat.le_trans (Keep.refl h0 []).1 (Nat.le_of_eq g1.symm)
  rw [← g1] at A1 st1
  have Zs2 : n0 ≤ h1.size := Nat.le_trans Z0 E1.1
  have V1 : Arv Z h1 b1 k1 .byte (5 : Int32) [(.int 0), (.int 0), (.int 0), (.int 0), (.int 0)] (.int 0) := (Arv.new A1 (by decide)).pad (pad_rep [] (.int 0) 5)
  have f4 := (Vc.ext E1)
  obtain ⟨_, _, ⟨T3, L3, k3, n3⟩, -, X3, ⟨Lc3, hQ3, l3, y3, z3⟩, st3⟩ := Jvm.LawKit.callS X1 hx (y := yn13) hown (mvT hZ (ow hw 69 rfl)) (mvT hZ (ow hw 70 rfl)) (mvT hZ (ow hw 67 rfl)) (mvT hZ (ow hw 71 rfl)) (by decide) (backOf (W := 0) (rm_cp5 l Z a0 hw [] oc b1 kC c0 c1 c2 c3 c4 k1 h1 n0 Zs2 f4 uc0 uc1 uc2 uc3 uc4 vc0 vc1 vc2 vc3 vc4 V1 g_b1 ne_oc_b1) hZ (ow hw 71 rfl) (ow hw 67 rfl) (by decide) (by decide)) (g := (mkF m 9 #[.val (.ref oc), .val (.int 0), .val (.int 5), .val (.ref b1), .unset, .unset] [(.int 5), (.int 0), (.ref b1), (.int 0), (.ref oc)])) rfl (by rw [hml]; rfl) (argsL := [(.ref oc), (.int 0), (.ref b1), (.int 0), (.int 5)]) (rest := []) (lenOf pd_10 rfl) rfl (by exact Nat.le_of_eq rfl) (hb hby d14_9) (fun _ _ => ⟨rfl, e1, (by decide : 1 + 0 ≤ _), (by decide : 5 + 0 ≤ _)⟩)
  dsimp only [Pt.U, Pt.locs, Pt.cells, Pt.slots] at X3 l3 y3 z3 st3 hQ3
  rw [l3, y3, z3] at X3
  obtain ⟨bb0, bb1, bb2, bb3, bb4, rfl, N3q, K3, Vb3, qbb0, qbb1, qbb2, qbb3, qbb4⟩ := hQ3
  have N3 := Fr.app N0 N3q
  have Zs5 : n0 ≤ T3.heap.size := Nat.le_trans Zs2 K3.1
  have hc17_6 : (5 : Int) = (5 : Int) := by decide
  subst hSS
  obtain ⟨fs, hr, q1, q2, q3, q4⟩ := X3.leave (v := some (.ref b1)) (fun h => by rw [Bd.returns] at h; cases h)
  refine ⟨_, _, pre0 _ ?_, q1, q2, _, _, rfl, ?_, ⟨_, rfl⟩, q3, q4.mono (by decide) (by decide)⟩
  · refine XS.iloadN X0.here hx rfl (hb hby d14_0) rfl ?_
    refine st1 _ ?_
    refine XS.astoreN X1.here hx rfl (hb hby d14_3) rfl rfl (l' := #[.val (.ref oc), .val (.int 0), .val (.int 5), .val (.ref b1), .unset, .unset]) rfl ?_
    refine XS.aloadN X1.here hx rfl (hb hby d14_4) rfl rfl ?_
    refine XS.iloadN X1.here hx rfl (hb hby d14_5) rfl ?_
    refine XS.aloadN X1.here hx rfl (hb hby d14_6) rfl rfl ?_
    refine XS.iconst X1.here hx rfl (hb hby d14_7) ?_
    refine XS.iloadN X1.here hx rfl (hb hby d14_8) rfl ?_
    refine st3 _ ?_
    refine XS.istore X3.here hx rfl (hb hby d14_12) rfl (l' := #[.val (.ref oc), .val (.int 0), .val (.int 5), .val (.ref b1), .val (.int 5), .unset]) rfl ?_
    refine XS.iload X3.here hx rfl (hb hby d14_14) rfl ?_
    refine XS.iloadN X3.here hx rfl (hb hby d14_16) rfl ?_
    refine XS.icmpYes X3.here hx rfl (pc0 := 17) (pc' := 57) rfl (hb hby d14_17) rfl (own_teq (a := (5 : Int32)) (b := (5 : Int32)) (by decide) (by decide) hc17_6).1 (by decide) (by decide) ?_
    refine XS.aloadN X3.here hx rfl (hb hby d14_57) rfl rfl ?_
    jvm_step X3.here [X3.here.top, hx, (hb hby d14_58), X3.method', Bd.returns, Value.isRef, FieldType.isReference]
    first | (intro acts; rw [hr _ acts rfl rfl rfl]) | rw [hr _ _ rfl rfl rfl]
    exact Steps.refl _
  · show Q_cm5 Z _ _ _ _ _ _ _ h0 n0 _ T3.heap _
    have f7 := (((Keep.refl h0 []).ext E1).trans K3 (allS (P := fun x => x ∈ [] ∨ h0.size ≤ x) (Or.inr sz_b1) all0))
    exact ⟨b1, _, bb0, bb1, bb2, bb3, bb4, rfl, N3, f7, g_b1, sz_b1, Vb3, qbb0, qbb1, qbb2, qbb3, qbb4⟩
theorem ef_rm_cf5_0 (m : MethodId) (x0 : Addr) : entryFrame m #[(.ref x0), (.int 5)] 2 = mkF m 0 #[.val (.ref x0), .val (.int 5)] [] := by first | (simp [entryFrame, mkF, argsToLocals, Value.category]; done) | rfl
def Q_cf5_0 (Z : State) (ob : Addr) (kb : ClassId) (vs : List Value) (h0 : Heap) (n0 : Nat) (v : Option Value) (h : Heap) (L : List Loc) : Prop := ∃ z : Int32, v = some (.int z) ∧ (z = (0 : Int32)) ∧ Fr n0 L ∧ h = h0
theorem rm_cf5_0 (l : Launch) (Z : State) (a0 : Array Value) (hw : ∀ d ∈ tables_1, d.before a0 Z = true) (ws : List Jvm.Cond) (ob : Addr) (kb : ClassId) (vs : List Value) (h0 : Heap) (n0 : Nat) (Z0 : n0 ≤ h0.size) (Vb : Arv Z h0 ob kb .byte (5 : Int32) vs (.int 0)) :
    MetFree l yn15 (head1 (Jvm.Cond.code yn15 kc15 2 (some .byte) :: ws) ⟨0, 0, 0, 0⟩) (fun a U => a = #[(.ref ob), (.int 5)] ∧ Z.Warmed39 U.vm ∧ U.heap = h0) (fun _ _ _ _ _ => True) (fun _ U o U' => ∃ v L, o = .returned v ∧ Q_cf5_0 Z ob kb vs h0 n0 v U'.heap L ∧ FrameEnd U o U' L 0 0) := by
  refine MetFree.of_bodySF (plainFor_of_name pn_4) hisR ?_
  intro p e s m args below meth c s₁ Bd hml0 hP hK
  obtain ⟨rfl, hZ, hh⟩ := hP
  have hx := Bd.exec
  have hby := Bd.bytes
  have hml : c.maxLocals = 2 := hml0
  have hown : s.vm.findClass "java/lang/StringUTF16" = some m.cls := findClass_of_methodNamed Bd.named
  have hnm := (name_of_methodNamed Bd.named Bd.method).1
  have X0 : Stand p l e ⟨0, 0, 0, 0⟩ s m #[(.ref ob), (.int 5)] below meth c s₁ [] 0 0 := Stand.of_body Bd
  have e0 : s₁.heap = h0 := by rw [← hh, Bd.state]; rfl
  have N0 := Fr.nil n0
  obtain ⟨SS, hSS⟩ : ∃ S, S = s₁.setTop (entryFrame m #[(.ref ob), (.int 5)] 2) := ⟨_, rfl⟩
  have pre0 : oP p e below (s₁.setTop (mkF m 0 #[.val (.ref ob), .val (.int 5)] [])) (SS) := by
    rw [hSS]; exact fun t k => castTop (ef_rm_cf5_0 m ob) k
  obtain ⟨cl1, Ar1, q1, S1, M1, H1, G1⟩ := id Vb
  subst hSS
  obtain ⟨fs, hr, q1, q2, q3, q4⟩ := X0.leave (v := some (.int 0)) (fun h => by rw [Bd.returns] at h; cases h)
  refine ⟨_, _, pre0 _ ?_, q1, q2, _, _, rfl, ?_, ⟨_, rfl⟩, q3, q4.mono (by decide) (by decide)⟩
  · refine XS.iloadN X0.here hx rfl (hb hby d16_0) rfl ?_
    refine XS.aloadN X0.here hx rfl (hb hby d16_1) rfl rfl ?_
    refine X0.arraylength hx (by rw [e0]; exact Ar1.1) (State.isArrayOf_alike hZ.alike Ar1.2.1) (g := (mkF m 2 #[.val (.ref ob), .val (.int 5)] [(.ref ob), (.int 5)])) rfl rfl (hb hby d16_2) _ ?_
    rw [len_of S1 M1]
    refine XS.isub X0.here hx rfl (hb hby d16_3) rfl ?_
    refine XS.bipush X0.here hx rfl (hb hby d16_4) ?_
    refine XS.iushr X0.here hx rfl (hb hby d16_6) rfl ?_
    refine XS.i2b X0.here hx rfl (hb hby d16_7) rfl ?_
    exact retN X0 hx (t := .byte) Bd.returns (by simp) (hb hby d16_8) hr
  · show Q_cf5_0 Z _ _ _ h0 n0 _ s₁.heap _
    rw [e0]
    exact ⟨_, rfl, rfl, N0, rfl⟩
theorem ef_rm_iv5 (m : MethodId) (x0 : Addr) (x1 : Addr) : entryFrame m #[(.ref x0), (.ref x1), (.int 0), (.int 5), .null] 6 = mkF m 0 #[.val (.ref x0), .val (.ref x1), .val (.int 0), .val (.int 5), .val .null, .unset] [] := by first | (simp [entryFrame, mkF, argsToLocals, Value.category]; done) | rfl
def Q_iv5 (Z : State) (oa : Addr) (oc : Addr) (vcs : Int32) (vf : Value) (kC : ClassId) (c0 : Int32) (c1 : Int32) (c2 : Int32) (c3 : Int32) (c4 : Int32) (h0 : Heap) (n0 : Nat) (v : Option Value) (h : Heap) (L : List Loc) : Prop := v = none ∧ Fr n0 L ∧ Keep h0 h [oa] ∧ Exa Z h oa "java/lang/String" ∧ ∃ (ob : Addr) (kb : ClassId) (bb0 bb1 bb2 bb3 bb4 : Int32), n0 ≤ ob ∧ h0.size ≤ ob ∧ Fld Z h oa "java/lang/String" "coder" "B" (.int 0) ∧ Fld Z h oa "java/lang/String" "value" "[B" (.ref ob) ∧ Arv Z h ob kb .byte (5 : Int32) [(.int bb0), (.int bb1), (.int bb2), (.int bb3), (.int bb4)] (.int 0) ∧ bb0.toInt % 256 = c0.toInt ∧ bb1.toInt % 256 = c1.toInt ∧ bb2.toInt % 256 = c2.toInt ∧ bb3.toInt % 256 = c3.toInt ∧ bb4.toInt % 256 = c4.toInt
theorem rm_iv5 (l : Launch) (Z : State) (a0 : Array Value) (hw : ∀ d ∈ tables_1, d.before a0 Z = true) (ws : List Jvm.Cond) (oa : Addr) (oc : Addr) (vcs : Int32) (vf : Value) (kC : ClassId) (c0 : Int32) (c1 : Int32) (c2 : Int32) (c3 : Int32) (c4 : Int32) (h0 : Heap) (n0 : Nat) (Z0 : n0 ≤ h0.size) (Os : own_st Z h0 vcs vf) (Es : Exa Z h0 oa "java/lang/String") (Fc : Fld Z h0 oa "java/lang/String" "coder" "B" (.int 0)) (Fv : Fld Z h0 oa "java/lang/String" "value" "[B" .null) (ga : n0 ≤ oa) (nac : oa ≠ oc) (Vc : Arv Z h0 oc kC .char (5 : Int32) [(.int c0), (.int c1), (.int c2), (.int c3), (.int c4)] (.int 0)) (uc0 : 0 ≤ c0.toInt) (uc1 : 0 ≤ c1.toInt) (uc2 : 0 ≤ c2.toInt) (uc3 : 0 ≤ c3.toInt) (uc4 : 0 ≤ c4.toInt) (vc0 : c0.toInt ≤ 255) (vc1 : c1.toInt ≤ 255) (vc2 : c2.toInt ≤ 255) (vc3 : c3.toInt ≤ 255) (vc4 : c4.toInt ≤ 255) :
    MetFree l yn11 (head1 (Jvm.Cond.code yn11 kc11 6 none :: ws) ⟨2, 1, 5, 35⟩) (fun a U => a = #[(.ref oa), (.ref oc), (.int 0), (.int 5), .null] ∧ Z.Warmed39 U.vm ∧ U.heap = h0) (fun _ _ _ _ _ => True) (fun _ U o U' => ∃ v L, o = .returned v ∧ Q_iv5 Z oa oc vcs vf kC c0 c1 c2 c3 c4 h0 n0 v U'.heap L ∧ FrameEnd U o U' L 1 5) := by
  refine MetFree.of_bodySF (plainFor_of_name pn_1) hisR ?_
  intro p e s m args below meth c s₁ Bd hml0 hP hK
  obtain ⟨rfl, hZ, hh⟩ := hP
  have hx := Bd.exec
  have hby := Bd.bytes
  have hml : c.maxLocals = 6 := hml0
  have hown : s.vm.findClass "java/lang/String" = some m.cls := findClass_of_methodNamed Bd.named
  have hnm := (name_of_methodNamed Bd.named Bd.method).1
  have X0 : Stand p l e ⟨2, 1, 5, 35⟩ s m #[(.ref oa), (.ref oc), (.int 0), (.int 5), .null] below meth c s₁ [] 0 0 := Stand.of_body Bd
  have e0 : s₁.heap = h0 := by rw [← hh, Bd.state]; rfl
  have N0 := Fr.nil n0
  obtain ⟨SS, hSS⟩ : ∃ S, S = s₁.setTop (entryFrame m #[(.ref oa), (.ref oc), (.int 0), (.int 5), .null] 6) := ⟨_, rfl⟩
  have pre0 : oP p e below (s₁.setTop (mkF m 0 #[.val (.ref oa), .val (.ref oc), .val (.int 0), .val (.int 5), .val .null, .unset] [])) (SS) := by
    rw [hSS]; exact fun t k => castTop (ef_rm_iv5 m oa oc) k
  obtain ⟨T1, X1, e1, st1⟩ := initO X0 hx hZ hown (ow hw 62 rfl) (ow hw 63 rfl) (ow hw 64 rfl) e0 (g := (mkF m 1 #[.val (.ref oa), .val (.ref oc), .val (.int 0), .val (.int 5), .val .null, .unset] [(.ref oa)])) rfl (by rw [hml]; rfl) rfl (hb hby d12_1) (by decide) (W := 0) (by exact Nat.le_of_eq rfl) (by decide)
  have hc5_2 : ¬ ((5 : Int) = (0 : Int)) := by decide
  obtain ⟨T3, X3, e3, st3⟩ := getS2 X1 hx hZ hown (host := "") (Or.inl (ow hw 19 rfl)) Via.refl e1 Os.1 (g := (mkF m 27 #[.val (.ref oa), .val (.ref oc), .val (.int 0), .val (.int 5), .val .null, .unset] [])) rfl (hb hby d12_27)
  have hc30_4 : ¬ (vcs.toInt = (0 : Int)) := by (have q := Os.2.1; omega)
  obtain ⟨_, _, ⟨T5, L5, k5, n5⟩, -, X5, ⟨Lc5, hQ5, l5, y5, z5⟩, st5⟩ := Jvm.LawKit.callS X3 hx (y := yn14) hown (mvT hZ (ow hw 65 rfl)) (mvT hZ (ow hw 66 rfl)) (mvT hZ (ow hw 67 rfl)) (mvT hZ (ow hw 68 rfl)) (by decide) (backOf (W := 0) (rm_cm5 l Z a0 hw [] oc kC c0 c1 c2 c3 c4 h0 n0 Z0 Vc uc0 uc1 uc2 uc3 uc4 vc0 vc1 vc2 vc3 vc4) hZ (ow hw 68 rfl) (ow hw 67 rfl) (by decide) (by decide)) (g := (mkF m 36 #[.val (.ref oa), .val (.ref oc), .val (.int 0), .val (.int 5), .val .null, .unset] [(.int 5), (.int 0), (.ref oc)])) rfl (by rw [hml]; rfl) (argsL := [(.ref oc), (.int 0), (.int 5)]) (rest := []) (lenOf pd_11 rfl) rfl (by exact Nat.le_of_eq rfl) (hb hby d12_36) (fun _ _ => ⟨rfl, e3, (by decide : 0 + 1 ≤ _), (by decide : 0 + 5 ≤ _)⟩)
  dsimp only [Pt.U, Pt.locs, Pt.cells, Pt.slots] at X5 l5 y5 z5 st5 hQ5
  rw [l5, y5, z5] at X5
  obtain ⟨ob, kb, bb0, bb1, bb2, bb3, bb4, rfl, N5q, K5, gb, szb, Vb5, qbb0, qbb1, qbb2, qbb3, qbb4⟩ := hQ5
  have N5 := Fr.app N0 N5q
  have Zs6 : n0 ≤ T5.heap.size := Nat.le_trans Z0 K5.1
  have ne_oa_ob : oa ≠ ob := Nat.ne_of_lt (Nat.lt_of_lt_of_le Es.lt szb)
  have ne_oc_ob : oc ≠ ob := Nat.ne_of_lt (Nat.lt_of_lt_of_le Vc.lt szb)
  have sz_ob : h0.size ≤ ob := Nat.le_trans (Keep.refl h0 [oa]).1 szb
  obtain ⟨_, _, ⟨T7, L7, k7, n7⟩, -, X7, ⟨Lc7, hQ7, l7, y7, z7⟩, st7⟩ := Jvm.LawKit.callS X5 hx (y := yn15) hown (mvT hZ (ow hw 72 rfl)) (mvT hZ (ow hw 73 rfl)) (mvT hZ (ow hw 67 rfl)) (mvT hZ (ow hw 74 rfl)) (by decide) (backOf (W := 1) (rm_cf5_0 l Z a0 hw [] ob kb [(.int bb0), (.int bb1), (.int bb2), (.int bb3), (.int bb4)] T5.heap n0 Zs6 Vb5) hZ (ow hw 74 rfl) (ow hw 67 rfl) (by decide) (by decide)) (g := (mkF m 45 #[.val (.ref oa), .val (.ref oc), .val (.int 0), .val (.int 5), .val .null, .val (.ref ob)] [(.int 5), (.ref ob), (.ref oa)])) rfl (by rw [hml]; rfl) (argsL := [(.ref ob), (.int 5)]) (rest := [(.ref oa)]) (lenOf pd_12 rfl) rfl (by exact Nat.le_of_eq rfl) (hb hby d12_45) (fun _ _ => ⟨rfl, rfl, (by decide : 1 + 0 ≤ _), (by decide : 5 + 0 ≤ _)⟩)
  dsimp only [Pt.U, Pt.locs, Pt.cells, Pt.slots] at X7 l7 y7 z7 st7 hQ7
  rw [l7, y7, z7] at X7
  obtain ⟨zf, rfl, hzf, N7q, e7⟩ := hQ7
  have N7 := Fr.app N5 N7q
  have pre8 : oP p e below (T7.setTop (mkF m 48 #[.val (.ref oa), .val (.ref oc), .val (.int 0), .val (.int 5), .val .null, .val (.ref ob)] [(.int zf), (.ref oa)])) (SS) := fun t kt => by
    refine pre0 _ ?_
    refine XS.aloadN X0.here hx rfl (hb hby d12_0) rfl rfl ?_
    refine st1 _ ?_
    refine XS.iloadN X1.here hx rfl (hb hby d12_4) rfl ?_
    refine XS.ifYes X1.here hx rfl (pc0 := 5) (pc' := 27) rfl (hb hby d12_5) rfl (own_if (own_feq (a := (5 : Int32)) (b := (0 : Int32)) (by decide) (by decide) hc5_2).2) (by decide) (by decide) ?_
    refine st3 _ ?_
    refine XS.ifNo X3.here hx rfl (hb hby d12_30) rfl (own_if (own_feq (a := vcs) (b := (0 : Int32)) rfl (by decide) hc30_4).1) ?_
    refine XS.aloadN X3.here hx rfl (hb hby d12_33) rfl rfl ?_
    refine XS.iloadN X3.here hx rfl (hb hby d12_34) rfl ?_
    refine XS.iloadN X3.here hx rfl (hb hby d12_35) rfl ?_
    refine st5 _ ?_
    refine XS.astore X5.here hx rfl (hb hby d12_39) rfl rfl (l' := #[.val (.ref oa), .val (.ref oc), .val (.int 0), .val (.int 5), .val .null, .val (.ref ob)]) rfl ?_
    refine XS.aloadN X5.here hx rfl (hb hby d12_41) rfl rfl ?_
    refine XS.aload X5.here hx rfl (hb hby d12_42) rfl rfl ?_
    refine XS.iloadN X5.here hx rfl (hb hby d12_44) rfl ?_
    refine st7 _ ?_
    exact kt
  subst hzf
  have pre9 : oP p e below (T7.setTop (mkF m 48 #[.val (.ref oa), .val (.ref oc), .val (.int 0), .val (.int 5), .val .null, .val (.ref ob)] [(.int 0), (.ref oa)])) (SS) := pre8
  have f10 := (Fc.keep K5 nin0)
  have f11 := (Es.keep K5)
  obtain ⟨T12, h12, X12, e12, W12, st12⟩ := putFN X7 hx hZ hown (ow hw 20 rfl) Via.refl e7 f10 f11 (Or.inr ⟨(ow hw 5 rfl), rfl, hnm⟩) (ow hw 2 rfl) (ty := .byte) (v' := (.int 0)) (by decide) rfl rfl (g := (mkF m 48 #[.val (.ref oa), .val (.ref oc), .val (.int 0), .val (.int 5), .val .null, .val (.ref ob)] [(.int 0), (.ref oa)])) rfl rfl (hb hby d12_48)
  have N12 := Fr.snoc X12 N7 ga
  have Zs13 : n0 ≤ h12.size := by rw [W12.size]; exact Zs6
  have Fw12 := f10.same W12
  have f14 := ((Fv.keep K5 nin0).other W12 (Or.inr (slot_ne (Or.inr (ow hw 4 rfl)) (Or.inr (ow hw 5 rfl)) (by decide) (t := (.array .byte)) (t' := .byte) (by decide) (by decide))))
  have f15 := (f11.wr W12)
  obtain ⟨T16, h16, X16, e16, W16, st16⟩ := putF X12 hx hZ hown (host := "") (Or.inl (ow hw 13 rfl)) Via.refl e12 f14 f15 (Or.inr ⟨(ow hw 4 rfl), rfl, hnm⟩) (ow hw 2 rfl) (ty := (.array .byte)) (by decide) rfl rfl (g := (mkF m 54 #[.val (.ref oa), .val (.ref oc), .val (.int 0), .val (.int 5), .val .null, .val (.ref ob)] [(.ref ob), (.ref oa)])) rfl rfl (hb hby d12_54)
  have N16 := Fr.snoc X16 N12 ga
  have Zs17 : n0 ≤ h16.size := by rw [W16.size]; exact Zs13
  have Fw16 := f14.same W16
  subst hSS
  obtain ⟨fs, hr, q1, q2, q3, q4⟩ := X16.leave (v := none) (fun _ => rfl)
  refine ⟨_, _, pre9 _ ?_, q1, q2, _, _, rfl, ?_, ⟨_, rfl⟩, q3, q4.mono (by decide) (by decide)⟩
  · refine st12 _ ?_
    refine XS.aloadN X12.here hx rfl (hb hby d12_51) rfl rfl ?_
    refine XS.aload X12.here hx rfl (hb hby d12_52) rfl rfl ?_
    refine st16 _ ?_
    show Steps p.tables e below (T16.setTop (mkF m 57 #[.val (.ref oa), .val (.ref oc), .val (.int 0), .val (.int 5), .val .null, .val (.ref ob)] [])) _
    exact X16.returnOut hx Bd.returns (hb hby d12_57) hr
  · show Q_iv5 Z _ _ _ _ _ _ _ _ _ _ h0 n0 _ T16.heap _
    rw [e16]
    have f18 := ((((Keep.refl h0 [oa]).trans K5 all0).wr W12 (Or.inl (List.mem_of_getElem? (i := 0) rfl))).wr W16 (Or.inl (List.mem_of_getElem? (i := 0) rfl)))
    have f19 := (f15.wr W16)
    have f20 := (Fw12.other W16 (Or.inr (slot_ne (Or.inr (ow hw 5 rfl)) (Or.inr (ow hw 4 rfl)) (by decide) (t := .byte) (t' := (.array .byte)) (by decide) (by decide))))
    have f21 := ((Vb5.other W12 (Ne.symm ne_oa_ob)).other W16 (Ne.symm ne_oa_ob))
    exact ⟨rfl, N16, f18, f19, ob, kb, bb0, bb1, bb2, bb3, bb4, gb, sz_ob, f20, Fw16, f21, qbb0, qbb1, qbb2, qbb3, qbb4⟩
theorem ef_rm_mk5 (m : MethodId) (x0 : Addr) (x1 : Addr) : entryFrame m #[(.ref x0), (.ref x1)] 2 = mkF m 0 #[.val (.ref x0), .val (.ref x1)] [] := by first | (simp [entryFrame, mkF, argsToLocals, Value.category]; done) | rfl
def Q_mk5 (Z : State) (oa : Addr) (oc : Addr) (vcs : Int32) (vf : Value) (kC : ClassId) (c0 : Int32) (c1 : Int32) (c2 : Int32) (c3 : Int32) (c4 : Int32) (h0 : Heap) (n0 : Nat) (v : Option Value) (h : Heap) (L : List Loc) : Prop := v = none ∧ Fr n0 L ∧ Keep h0 h [oa] ∧ Exa Z h oa "java/lang/String" ∧ ∃ (ob : Addr) (kb : ClassId) (bb0 bb1 bb2 bb3 bb4 : Int32), n0 ≤ ob ∧ h0.size ≤ ob ∧ Fld Z h oa "java/lang/String" "coder" "B" (.int 0) ∧ Fld Z h oa "java/lang/String" "value" "[B" (.ref ob) ∧ Arv Z h ob kb .byte (5 : Int32) [(.int bb0), (.int bb1), (.int bb2), (.int bb3), (.int bb4)] (.int 0) ∧ bb0.toInt % 256 = c0.toInt ∧ bb1.toInt % 256 = c1.toInt ∧ bb2.toInt % 256 = c2.toInt ∧ bb3.toInt % 256 = c3.toInt ∧ bb4.toInt % 256 = c4.toInt
theorem rm_mk5 (l : Launch) (Z : State) (a0 : Array Value) (hw : ∀ d ∈ tables_1, d.before a0 Z = true) (ws : List Jvm.Cond) (oa : Addr) (oc : Addr) (vcs : Int32) (vf : Value) (kC : ClassId) (c0 : Int32) (c1 : Int32) (c2 : Int32) (c3 : Int32) (c4 : Int32) (h0 : Heap) (n0 : Nat) (Z0 : n0 ≤ h0.size) (Os : own_st Z h0 vcs vf) (Es : Exa Z h0 oa "java/lang/String") (Fc : Fld Z h0 oa "java/lang/String" "coder" "B" (.int 0)) (Fv : Fld Z h0 oa "java/lang/String" "value" "[B" .null) (ga : n0 ≤ oa) (nac : oa ≠ oc) (Vc : Arv Z h0 oc kC .char (5 : Int32) [(.int c0), (.int c1), (.int c2), (.int c3), (.int c4)] (.int 0)) (uc0 : 0 ≤ c0.toInt) (uc1 : 0 ≤ c1.toInt) (uc2 : 0 ≤ c2.toInt) (uc3 : 0 ≤ c3.toInt) (uc4 : 0 ≤ c4.toInt) (vc0 : c0.toInt ≤ 255) (vc1 : c1.toInt ≤ 255) (vc2 : c2.toInt ≤ 255) (vc3 : c3.toInt ≤ 255) (vc4 : c4.toInt ≤ 255) :
    MetFree l yn12 (head1 (Jvm.Cond.code yn12 kc12 2 none :: ws) ⟨3, 1, 5, 52⟩) (fun a U => a = #[(.ref oa), (.ref oc)] ∧ Z.Warmed39 U.vm ∧ U.heap = h0) (fun _ _ _ _ _ => True) (fun _ U o U' => ∃ v L, o = .returned v ∧ Q_mk5 Z oa oc vcs vf kC c0 c1 c2 c3 c4 h0 n0 v U'.heap L ∧ FrameEnd U o U' L 1 5) := by
  refine MetFree.of_bodySF (plainFor_of_name pn_1) hisR ?_
  intro p e s m args below meth c s₁ Bd hml0 hP hK
  obtain ⟨rfl, hZ, hh⟩ := hP
  have hx := Bd.exec
  have hby := Bd.bytes
  have hml : c.maxLocals = 2 := hml0
  have hown : s.vm.findClass "java/lang/String" = some m.cls := findClass_of_methodNamed Bd.named
  have hnm := (name_of_methodNamed Bd.named Bd.method).1
  have X0 : Stand p l e ⟨3, 1, 5, 52⟩ s m #[(.ref oa), (.ref oc)] below meth c s₁ [] 0 0 := Stand.of_body Bd
  have e0 : s₁.heap = h0 := by rw [← hh, Bd.state]; rfl
  have N0 := Fr.nil n0
  obtain ⟨SS, hSS⟩ : ∃ S, S = s₁.setTop (entryFrame m #[(.ref oa), (.ref oc)] 2) := ⟨_, rfl⟩
  have pre0 : oP p e below (s₁.setTop (mkF m 0 #[.val (.ref oa), .val (.ref oc)] [])) (SS) := by
    rw [hSS]; exact fun t k => castTop (ef_rm_mk5 m oa oc) k
  obtain ⟨cl1, Ar1, q1, S1, M1, H1, G1⟩ := id Vc
  obtain ⟨_, _, ⟨T2, L2, k2, n2⟩, -, X2, ⟨Lc2, hQ2, l2, y2, z2⟩, st2⟩ := X0.specialBack hx (y := yn11) rfl hown (mvT hZ (ow hw 58 rfl)) (mvT hZ (ow hw 59 rfl)) (mvT hZ (ow hw 61 rfl)) (by decide) (backOf (W := 0) (rm_iv5 l Z a0 hw [] oa oc vcs vf kC c0 c1 c2 c3 c4 h0 n0 Z0 Os Es Fc Fv ga nac Vc uc0 uc1 uc2 uc3 uc4 vc0 vc1 vc2 vc3 vc4) hZ (ow hw 61 rfl) (ow hw 1 rfl) (by decide) (by decide)) (g := (mkF m 6 #[.val (.ref oa), .val (.ref oc)] [.null, (.int 5), (.int 0), (.ref oc), (.ref oa)])) rfl (by rw [hml]; rfl) (Steps.refl _) (a := oa) (argsL := [(.ref oc), (.int 0), (.int 5), .null]) (rest := []) (lenOf pd_9 rfl) rfl (by exact Nat.le_of_eq rfl) (hb hby d11_6) (fun _ _ => ⟨rfl, e0, (by decide : 0 + 1 ≤ _), (by decide : 0 + 5 ≤ _)⟩)
  dsimp only [Pt.U, Pt.locs, Pt.cells, Pt.slots] at X2 l2 y2 z2 st2 hQ2
  rw [l2, y2, z2] at X2
  obtain ⟨rfl, N2q, K2, A2, ob, kb, bb0, bb1, bb2, bb3, bb4, gb, szb, Fc2, Fv2, Vb2, qbb0, qbb1, qbb2, qbb3, qbb4⟩ := hQ2
  have N2 := Fr.app N0 N2q
  have Zs3 : n0 ≤ T2.heap.size := Nat.le_trans Z0 K2.1
  have ne_oa_ob : oa ≠ ob := Nat.ne_of_lt (Nat.lt_of_lt_of_le Es.lt szb)
  have ne_oc_ob : oc ≠ ob := Nat.ne_of_lt (Nat.lt_of_lt_of_le Vc.lt szb)
  have sz_ob : h0.size ≤ ob := Nat.le_trans (Keep.refl h0 [oa]).1 szb
  subst hSS
  obtain ⟨fs, hr, q1, q2, q3, q4⟩ := X2.leave (v := none) (fun _ => rfl)
  refine ⟨_, _, pre0 _ ?_, q1, q2, _, _, rfl, ?_, ⟨_, rfl⟩, q3, q4.mono (by decide) (by decide)⟩
  · refine XS.aloadN X0.here hx rfl (hb hby d11_0) rfl rfl ?_
    refine XS.aloadN X0.here hx rfl (hb hby d11_1) rfl rfl ?_
    refine XS.iconst X0.here hx rfl (hb hby d11_2) ?_
    refine XS.aloadN X0.here hx rfl (hb hby d11_3) rfl rfl ?_
    refine X0.arraylength hx (by rw [e0]; exact Ar1.1) (State.isArrayOf_alike hZ.alike Ar1.2.1) (g := (mkF m 4 #[.val (.ref oa), .val (.ref oc)] [(.ref oc), (.int 0), (.ref oc), (.ref oa)])) rfl rfl (hb hby d11_4) _ ?_
    rw [len_of S1 M1]
    refine XS.aconstNull X0.here hx rfl (hb hby d11_5) ?_
    refine st2.trans ?_
    exact X2.returnOut hx Bd.returns (hb hby d11_9) hr
  · show Q_mk5 Z _ _ _ _ _ _ _ _ _ _ h0 n0 _ T2.heap _
    have f4 := ((Keep.refl h0 [oa]).trans K2 (allS (P := fun x => x ∈ [oa] ∨ h0.size ≤ x) (Or.inl (List.mem_of_getElem? (i := 0) rfl)) all0))
    exact ⟨rfl, N2, f4, A2, ob, kb, bb0, bb1, bb2, bb3, bb4, gb, sz_ob, Fc2, Fv2, Vb2, qbb0, qbb1, qbb2, qbb3, qbb4⟩
theorem ef_rm_cp6 (m : MethodId) (x0 : Addr) (x2 : Addr) : entryFrame m #[(.ref x0), (.int 0), (.ref x2), (.int 0), (.int 6)] 7 = mkF m 0 #[.val (.ref x0), .val (.int 0), .val (.ref x2), .val (.int 0), .val (.int 6), .unset, .unset] [] := by first | (simp [entryFrame, mkF, argsToLocals, Value.category]; done) | rfl
def Q_cp6 (Z : State) (oc : Addr) (ob : Addr) (kC : ClassId) (c0 : Int32) (c1 : Int32) (c2 : Int32) (c3 : Int32) (c4 : Int32) (c5 : Int32) (kb : ClassId) (h0 : Heap) (n0 : Nat) (v : Option Value) (h : Heap) (L : List Loc) : Prop := ∃ bb0 bb1 bb2 bb3 bb4 bb5 : Int32, v = some (.int 6) ∧ Fr n0 L ∧ Keep h0 h [ob] ∧ Arv Z h ob kb .byte (6 : Int32) [(.int bb0), (.int bb1), (.int bb2), (.int bb3), (.int bb4), (.int bb5)] (.int 0) ∧ bb0.toInt % 256 = c0.toInt ∧ bb1.toInt % 256 = c1.toInt ∧ bb2.toInt % 256 = c2.toInt ∧ bb3.toInt % 256 = c3.toInt ∧ bb4.toInt % 256 = c4.toInt ∧ bb5.toInt % 256 = c5.toInt
theorem rm_cp6 (l : Launch) (Z : State) (a0 : Array Value) (hw : ∀ d ∈ tables_1, d.before a0 Z = true) (ws : List Jvm.Cond) (oc : Addr) (ob : Addr) (kC : ClassId) (c0 : Int32) (c1 : Int32) (c2 : Int32) (c3 : Int32) (c4 : Int32) (c5 : Int32) (kb : ClassId) (h0 : Heap) (n0 : Nat) (Z0 : n0 ≤ h0.size) (Vc : Arv Z h0 oc kC .char (6 : Int32) [(.int c0), (.int c1), (.int c2), (.int c3), (.int c4), (.int c5)] (.int 0)) (uc0 : 0 ≤ c0.toInt) (uc1 : 0 ≤ c1.toInt) (uc2 : 0 ≤ c2.toInt) (uc3 : 0 ≤ c3.toInt) (uc4 : 0 ≤ c4.toInt) (uc5 : 0 ≤ c5.toInt) (vc0 : c0.toInt ≤ 255) (vc1 : c1.toInt ≤ 255) (vc2 : c2.toInt ≤ 255) (vc3 : c3.toInt ≤ 255) (vc4 : c4.toInt ≤ 255) (vc5 : c5.toInt ≤ 255) (Vb : Arv Z h0 ob kb .byte (6 : Int32) [(.int 0), (.int 0), (.int 0), (.int 0), (.int 0), (.int 0)] (.int 0)) (gb : n0 ≤ ob) (ncb : oc ≠ ob) :
    MetFree l yn13 (head1 (Jvm.Cond.code yn13 kc13 7 (some .int) :: ws) ⟨0, 0, 0, 0⟩) (fun a U => a = #[(.ref oc), (.int 0), (.ref ob), (.int 0), (.int 6)] ∧ Z.Warmed39 U.vm ∧ U.heap = h0) (fun _ _ _ _ _ => True) (fun _ U o U' => ∃ v L, o = .returned v ∧ Q_cp6 Z oc ob kC c0 c1 c2 c3 c4 c5 kb h0 n0 v U'.heap L ∧ FrameEnd U o U' L 0 0) := by
  refine MetFree.of_bodySF (plainFor_of_name pn_4) hisR ?_
  intro p e s m args below meth c s₁ Bd hml0 hP hK
  obtain ⟨rfl, hZ, hh⟩ := hP
  have hx := Bd.exec
  have hby := Bd.bytes
  have hml : c.maxLocals = 7 := hml0
  have hown : s.vm.findClass "java/lang/StringUTF16" = some m.cls := findClass_of_methodNamed Bd.named
  have hnm := (name_of_methodNamed Bd.named Bd.method).1
  have X0 : Stand p l e ⟨0, 0, 0, 0⟩ s m #[(.ref oc), (.int 0), (.ref ob), (.int 0), (.int 6)] below meth c s₁ [] 0 0 := Stand.of_body Bd
  have e0 : s₁.heap = h0 := by rw [← hh, Bd.state]; rfl
  have N0 := Fr.nil n0
  obtain ⟨SS, hSS⟩ : ∃ S, S = s₁.setTop (entryFrame m #[(.ref oc), (.int 0), (.ref ob), (.int 0), (.int 6)] 7) := ⟨_, rfl⟩
  have pre0 : oP p e below (s₁.setTop (mkF m 0 #[.val (.ref oc), .val (.int 0), .val (.ref ob), .val (.int 0), .val (.int 6), .unset, .unset] [])) (SS) := by
    rw [hSS]; exact fun t k => castTop (ef_rm_cp6 m oc ob) k
  have hc7_1 : (0 : Int) < (6 : Int) := by decide
  obtain ⟨cl2, Ar2, q2, S2, M2, H2, G2⟩ := id Vc
  have hin2 : ¬ ((0 : Int32) < 0 ∨ cl2.slots.size ≤ ((0 : Int32)).toNatClampNeg) := inb_of S2 ⟨by decide, by decide⟩
  have hat2 : cl2.slots[((0 : Int32)).toNatClampNeg]? = some (.int c0) := Has.at H2 hin2 rfl
  have hc20_3 : ¬ ((255 : Int) < c0.toInt) := by omega
  obtain ⟨cl4, Ar4, q4, S4, M4, H4, G4⟩ := id Vb
  have hin4 : ¬ ((0 : Int32) < 0 ∨ cl4.slots.size ≤ ((0 : Int32)).toNatClampNeg) := inb_of S4 ⟨by decide, by decide⟩
  obtain ⟨T5, h5, X5, e5, W5, st5⟩ := stB X0 hx hZ e0 Ar4 (j := (0 : Int32)) hin4 (g := (mkF m 31 #[.val (.ref oc), .val (.int 0), .val (.ref ob), .val (.int 0), .val (.int 6), .val (.int 0), .val (.int c0)] [(.int (c0.toInt8.toInt32)), (.int 0), (.ref ob)])) rfl rfl (hb hby d15_31)
  have N5 := Fr.snoc X5 N0 gb
  have Zs6 : n0 ≤ h5.size := by rw [W5.size]; exact Z0
  have V5 : Arv Z h5 ob kb .byte (6 : Int32) [(.int (nar .byte (c0.toInt8.toInt32))), (.int 0), (.int 0), (.int 0), (.int 0), (.int 0)] (.int 0) := Arv.set Ar4 q4 S4 M4 H4 G4 (fits_nar_byte _) W5 0 rfl (Nat.le_of_ble_eq_true rfl)
  have hc7_7 : (1 : Int) < (6 : Int) := by decide
  have f8 := (Vc.other W5 ncb)
  obtain ⟨cl9, Ar9, q9, S9, M9, H9, G9⟩ := id f8
  have hin9 : ¬ ((1 : Int32) < 0 ∨ cl9.slots.size ≤ ((1 : Int32)).toNatClampNeg) := inb_of S9 ⟨by decide, by decide⟩
  have hat9 : cl9.slots[((1 : Int32)).toNatClampNeg]? = some (.int c1) := Has.at H9 hin9 rfl
  have hc20_10 : ¬ ((255 : Int) < c1.toInt) := by omega
  obtain ⟨cl11, Ar11, q11, S11, M11, H11, G11⟩ := id V5
  have hin11 : ¬ ((1 : Int32) < 0 ∨ cl11.slots.size ≤ ((1 : Int32)).toNatClampNeg) := inb_of S11 ⟨by decide, by decide⟩
  obtain ⟨T12, h12, X12, e12, W12, st12⟩ := stB X5 hx hZ e5 Ar11 (j := (1 : Int32)) hin11 (g := (mkF m 31 #[.val (.ref oc), .val (.int 1), .val (.ref ob), .val (.int 1), .val (.int 6), .val (.int 1), .val (.int c1)] [(.int (c1.toInt8.toInt32)), (.int 1), (.ref ob)])) rfl rfl (hb hby d15_31)
  have N12 := Fr.snoc X12 N5 gb
  have Zs13 : n0 ≤ h12.size := by rw [W12.size]; exact Zs6
  have V12 : Arv Z h12 ob kb .byte (6 : Int32) [(.int (nar .byte (c0.toInt8.toInt32))), (.int (nar .byte (c1.toInt8.toInt32))), (.int 0), (.int 0), (.int 0), (.int 0)] (.int 0) := Arv.set Ar11 q11 S11 M11 H11 G11 (fits_nar_byte _) W12 1 rfl (Nat.le_of_ble_eq_true rfl)
  have hc7_14 : (2 : Int) < (6 : Int) := by decide
  have f15 := (f8.other W12 ncb)
  obtain ⟨cl16, Ar16, q16, S16, M16, H16, G16⟩ := id f15
  have hin16 : ¬ ((2 : Int32) < 0 ∨ cl16.slots.size ≤ ((2 : Int32)).toNatClampNeg) := inb_of S16 ⟨by decide, by decide⟩
  have hat16 : cl16.slots[((2 : Int32)).toNatClampNeg]? = some (.int c2) := Has.at H16 hin16 rfl
  have hc20_17 : ¬ ((255 : Int) < c2.toInt) := by omega
  obtain ⟨cl18, Ar18, q18, S18, M18, H18, G18⟩ := id V12
  have hin18 : ¬ ((2 : Int32) < 0 ∨ cl18.slots.size ≤ ((2 : Int32)).toNatClampNeg) := inb_of S18 ⟨by decide, by decide⟩
  obtain ⟨T19, h19, X19, e19, W19, st19⟩ := stB X12 hx hZ e12 Ar18 (j := (2 : Int32)) hin18 (g := (mkF m 31 #[.val (.ref oc), .val (.int 2), .val (.ref ob), .val (.int 2), .val (.int 6), .val (.int 2), .val (.int c2)] [(.int (c2.toInt8.toInt32)), (.int 2), (.ref ob)])) rfl rfl (hb hby d15_31)
  have N19 := Fr.snoc X19 N12 gb
  have Zs20 : n0 ≤ h19.size := by rw [W19.size]; exact Zs13
  have V19 : Arv Z h19 ob kb .byte (6 : Int32) [(.int (nar .byte (c0.toInt8.toInt32))), (.int (nar .byte (c1.toInt8.toInt32))), (.int (nar .byte (c2.toInt8.toInt32))), (.int 0), (.int 0), (.int 0)] (.int 0) := Arv.set Ar18 q18 S18 M18 H18 G18 (fits_nar_byte _) W19 2 rfl (Nat.le_of_ble_eq_true rfl)
  have hc7_21 : (3 : Int) < (6 : Int) := by decide
  have f22 := (f15.other W19 ncb)
  obtain ⟨cl23, Ar23, q23, S23, M23, H23, G23⟩ := id f22
  have hin23 : ¬ ((3 : Int32) < 0 ∨ cl23.slots.size ≤ ((3 : Int32)).toNatClampNeg) := inb_of S23 ⟨by decide, by decide⟩
  have hat23 : cl23.slots[((3 : Int32)).toNatClampNeg]? = some (.int c3) := Has.at H23 hin23 rfl
  have hc20_24 : ¬ ((255 : Int) < c3.toInt) := by omega
  obtain ⟨cl25, Ar25, q25, S25, M25, H25, G25⟩ := id V19
  have hin25 : ¬ ((3 : Int32) < 0 ∨ cl25.slots.size ≤ ((3 : Int32)).toNatClampNeg) := inb_of S25 ⟨by decide, by decide⟩
  obtain ⟨T26, h26, X26, e26, W26, st26⟩ := stB X19 hx hZ e19 Ar25 (j := (3 : Int32)) hin25 (g := (mkF m 31 #[.val (.ref oc), .val (.int 3), .val (.ref ob), .val (.int 3), .val (.int 6), .val (.int 3), .val (.int c3)] [(.int (c3.toInt8.toInt32)), (.int 3), (.ref ob)])) rfl rfl (hb hby d15_31)
  have N26 := Fr.snoc X26 N19 gb
  have Zs27 : n0 ≤ h26.size := by rw [W26.size]; exact Zs20
  have V26 : Arv Z h26 ob kb .byte (6 : Int32) [(.int (nar .byte (c0.toInt8.toInt32))), (.int (nar .byte (c1.toInt8.toInt32))), (.int (nar .byte (c2.toInt8.toInt32))), (.int (nar .byte (c3.toInt8.toInt32))), (.int 0), (.int 0)] (.int 0) := Arv.set Ar25 q25 S25 M25 H25 G25 (fits_nar_byte _) W26 3 rfl (Nat.le_of_ble_eq_true rfl)
  have hc7_28 : (4 : Int) < (6 : Int) := by decide
  have f29 := (f22.other W26 ncb)
  obtain ⟨cl30, Ar30, q30, S30, M30, H30, G30⟩ := id f29
  have hin30 : ¬ ((4 : Int32) < 0 ∨ cl30.slots.size ≤ ((4 : Int32)).toNatClampNeg) := inb_of S30 ⟨by decide, by decide⟩
  have hat30 : cl30.slots[((4 : Int32)).toNatClampNeg]? = some (.int c4) := Has.at H30 hin30 rfl
  have hc20_31 : ¬ ((255 : Int) < c4.toInt) := by omega
  obtain ⟨cl32, Ar32, q32, S32, M32, H32, G32⟩ := id V26
  have hin32 : ¬ ((4 : Int32) < 0 ∨ cl32.slots.size ≤ ((4 : Int32)).toNatClampNeg) := inb_of S32 ⟨by decide, by decide⟩
  obtain ⟨T33, h33, X33, e33, W33, st33⟩ := stB X26 hx hZ e26 Ar32 (j := (4 : Int32)) hin32 (g := (mkF m 31 #[.val (.ref oc), .val (.int 4), .val (.ref ob), .val (.int 4), .val (.int 6), .val (.int 4), .val (.int c4)] [(.int (c4.toInt8.toInt32)), (.int 4), (.ref ob)])) rfl rfl (hb hby d15_31)
  have N33 := Fr.snoc X33 N26 gb
  have Zs34 : n0 ≤ h33.size := by rw [W33.size]; exact Zs27
  have V33 : Arv Z h33 ob kb .byte (6 : Int32) [(.int (nar .byte (c0.toInt8.toInt32))), (.int (nar .byte (c1.toInt8.toInt32))), (.int (nar .byte (c2.toInt8.toInt32))), (.int (nar .byte (c3.toInt8.toInt32))), (.int (nar .byte (c4.toInt8.toInt32))), (.int 0)] (.int 0) := Arv.set Ar32 q32 S32 M32 H32 G32 (fits_nar_byte _) W33 4 rfl (Nat.le_of_ble_eq_true rfl)
  have hc7_35 : (5 : Int) < (6 : Int) := by decide
  have f36 := (f29.other W33 ncb)
  obtain ⟨cl37, Ar37, q37, S37, M37, H37, G37⟩ := id f36
  have hin37 : ¬ ((5 : Int32) < 0 ∨ cl37.slots.size ≤ ((5 : Int32)).toNatClampNeg) := inb_of S37 ⟨by decide, by decide⟩
  have hat37 : cl37.slots[((5 : Int32)).toNatClampNeg]? = some (.int c5) := Has.at H37 hin37 rfl
  have hc20_38 : ¬ ((255 : Int) < c5.toInt) := by omega
  obtain ⟨cl39, Ar39, q39, S39, M39, H39, G39⟩ := id V33
  have hin39 : ¬ ((5 : Int32) < 0 ∨ cl39.slots.size ≤ ((5 : Int32)).toNatClampNeg) := inb_of S39 ⟨by decide, by decide⟩
  obtain ⟨T40, h40, X40, e40, W40, st40⟩ := stB X33 hx hZ e33 Ar39 (j := (5 : Int32)) hin39 (g := (mkF m 31 #[.val (.ref oc), .val (.int 5), .val (.ref ob), .val (.int 5), .val (.int 6), .val (.int 5), .val (.int c5)] [(.int (c5.toInt8.toInt32)), (.int 5), (.ref ob)])) rfl rfl (hb hby d15_31)
  have N40 := Fr.snoc X40 N33 gb
  have Zs41 : n0 ≤ h40.size := by rw [W40.size]; exact Zs34
  have V40 : Arv Z h40 ob kb .byte (6 : Int32) [(.int (nar .byte (c0.toInt8.toInt32))), (.int (nar .byte (c1.toInt8.toInt32))), (.int (nar .byte (c2.toInt8.toInt32))), (.int (nar .byte (c3.toInt8.toInt32))), (.int (nar .byte (c4.toInt8.toInt32))), (.int (nar .byte (c5.toInt8.toInt32)))] (.int 0) := Arv.set Ar39 q39 S39 M39 H39 G39 (fits_nar_byte _) W40 5 rfl (Nat.le_of_ble_eq_true rfl)
  have hc7_42 : ¬ ((6 : Int) < (6 : Int)) := by decide
  subst hSS
  obtain ⟨fs, hr, q1, q2, q3, q4⟩ := X40.leave (v := some (.int 6)) (fun h => by rw [Bd.returns] at h; cases h)
  refine ⟨_, _, pre0 _ ?_, q1, q2, _, _, rfl, ?_, ⟨_, rfl⟩, q3, q4.mono (by decide) (by decide)⟩
  · refine XS.iconst X0.here hx rfl (hb hby d15_0) ?_
    refine XS.istore X0.here hx rfl (hb hby d15_1) rfl (l' := #[.val (.ref oc), .val (.int 0), .val (.ref ob), .val (.int 0), .val (.int 6), .val (.int 0), .unset]) rfl ?_
    refine XS.iload X0.here hx rfl (hb hby d15_3) rfl ?_
    refine XS.iload X0.here hx rfl (hb hby d15_5) rfl ?_
    refine XS.icmpNo X0.here hx rfl (hb hby d15_7) rfl (own_tlt (a := (0 : Int32)) (b := (6 : Int32)) (by decide) (by decide) hc7_1).2.1 ?_
    refine XS.aloadN X0.here hx rfl (hb hby d15_10) rfl rfl ?_
    refine XS.iloadN X0.here hx rfl (hb hby d15_11) rfl ?_
    refine X0.caload hx (j := (0 : Int32)) (v := (.int c0)) (by rw [e0]; exact Ar2.1) (State.isArrayOf_alike hZ.alike Ar2.2.1) Ar2.2.2 hin2 hat2 (g := (mkF m 12 #[.val (.ref oc), .val (.int 0), .val (.ref ob), .val (.int 0), .val (.int 6), .val (.int 0), .unset] [(.int 0), (.ref oc)])) rfl rfl (hb hby d15_12) _ ?_
    refine XS.istore X0.here hx rfl (hb hby d15_13) rfl (l' := #[.val (.ref oc), .val (.int 0), .val (.ref ob), .val (.int 0), .val (.int 6), .val (.int 0), .val (.int c0)]) rfl ?_
    refine XS.iload X0.here hx rfl (hb hby d15_15) rfl ?_
    refine XS.sipush X0.here hx rfl (hb hby d15_17) ?_
    refine XS.icmpYes X0.here hx rfl (pc0 := 20) (pc' := 26) rfl (hb hby d15_20) rfl (own_flt (a := (255 : Int32)) (b := c0) (by decide) rfl hc20_3).2.2.2 (by decide) (by decide) ?_
    refine XS.aloadN X0.here hx rfl (hb hby d15_26) rfl rfl ?_
    refine XS.iloadN X0.here hx rfl (hb hby d15_27) rfl ?_
    refine XS.iload X0.here hx rfl (hb hby d15_28) rfl ?_
    refine XS.i2b X0.here hx rfl (hb hby d15_30) rfl ?_
    refine st5 _ ?_
    refine XS.iinc X5.here hx rfl (hb hby d15_32) rfl (l' := #[.val (.ref oc), .val (.int 1), .val (.ref ob), .val (.int 0), .val (.int 6), .val (.int 0), .val (.int c0)]) rfl ?_
    refine XS.iinc X5.here hx rfl (hb hby d15_35) rfl (l' := #[.val (.ref oc), .val (.int 1), .val (.ref ob), .val (.int 1), .val (.int 6), .val (.int 0), .val (.int c0)]) rfl ?_
    show Steps p.tables e below (T5.setTop (mkF m 38 #[.val (.ref oc), .val (.int 1), .val (.ref ob), .val (.int 1), .val (.int 6), .val (.int 0), .val (.int c0)] [])) _
    refine XS.iinc X5.here hx rfl (hb hby d15_38) rfl (l' := #[.val (.ref oc), .val (.int 1), .val (.ref ob), .val (.int 1), .val (.int 6), .val (.int 1), .val (.int c0)]) rfl ?_
    refine XS.goto X5.here hx rfl (pc0 := 41) (pc' := 3) rfl (hb hby d15_41) (by decide) (by decide) ?_
    refine XS.iload X5.here hx rfl (hb hby d15_3) rfl ?_
    refine XS.iload X5.here hx rfl (hb hby d15_5) rfl ?_
    refine XS.icmpNo X5.here hx rfl (hb hby d15_7) rfl (own_tlt (a := (1 : Int32)) (b := (6 : Int32)) (by decide) (by decide) hc7_7).2.1 ?_
    refine XS.aloadN X5.here hx rfl (hb hby d15_10) rfl rfl ?_
    refine XS.iloadN X5.here hx rfl (hb hby d15_11) rfl ?_
    refine X5.caload hx (j := (1 : Int32)) (v := (.int c1)) (by rw [e5]; exact Ar9.1) (State.isArrayOf_alike hZ.alike Ar9.2.1) Ar9.2.2 hin9 hat9 (g := (mkF m 12 #[.val (.ref oc), .val (.int 1), .val (.ref ob), .val (.int 1), .val (.int 6), .val (.int 1), .val (.int c0)] [(.int 1), (.ref oc)])) rfl rfl (hb hby d15_12) _ ?_
    refine XS.istore X5.here hx rfl (hb hby d15_13) rfl (l' := #[.val (.ref oc), .val (.int 1), .val (.ref ob), .val (.int 1), .val (.int 6), .val (.int 1), .val (.int c1)]) rfl ?_
    refine XS.iload X5.here hx rfl (hb hby d15_15) rfl ?_
    refine XS.sipush X5.here hx rfl (hb hby d15_17) ?_
    refine XS.icmpYes X5.here hx rfl (pc0 := 20) (pc' := 26) rfl (hb hby d15_20) rfl (own_flt (a := (255 : Int32)) (b := c1) (by decide) rfl hc20_10).2.2.2 (by decide) (by decide) ?_
    refine XS.aloadN X5.here hx rfl (hb hby d15_26) rfl rfl ?_
    refine XS.iloadN X5.here hx rfl (hb hby d15_27) rfl ?_
    refine XS.iload X5.here hx rfl (hb hby d15_28) rfl ?_
    refine XS.i2b X5.here hx rfl (hb hby d15_30) rfl ?_
    refine st12 _ ?_
    refine XS.iinc X12.here hx rfl (hb hby d15_32) rfl (l' := #[.val (.ref oc), .val (.int 2), .val (.ref ob), .val (.int 1), .val (.int 6), .val (.int 1), .val (.int c1)]) rfl ?_
    refine XS.iinc X12.here hx rfl (hb hby d15_35) rfl (l' := #[.val (.ref oc), .val (.int 2), .val (.ref ob), .val (.int 2), .val (.int 6), .val (.int 1), .val (.int c1)]) rfl ?_
    refine XS.iinc X12.here hx rfl (hb hby d15_38) rfl (l' := #[.val (.ref oc), .val (.int 2), .val (.ref ob), .val (.int 2), .val (.int 6), .val (.int 2), .val (.int c1)]) rfl ?_
    show Steps p.tables e below (T12.setTop (mkF m 41 #[.val (.ref oc), .val (.int 2), .val (.ref ob), .val (.int 2), .val (.int 6), .val (.int 2), .val (.int c1)] [])) _
    refine XS.goto X12.here hx rfl (pc0 := 41) (pc' := 3) rfl (hb hby d15_41) (by decide) (by decide) ?_
    refine XS.iload X12.here hx rfl (hb hby d15_3) rfl ?_
    refine XS.iload X12.here hx rfl (hb hby d15_5) rfl ?_
    refine XS.icmpNo X12.here hx rfl (hb hby d15_7) rfl (own_tlt (a := (2 : Int32)) (b := (6 : Int32)) (by decide) (by decide) hc7_14).2.1 ?_
    refine XS.aloadN X12.here hx rfl (hb hby d15_10) rfl rfl ?_
    refine XS.iloadN X12.here hx rfl (hb hby d15_11) rfl ?_
    refine X12.caload hx (j := (2 : Int32)) (v := (.int c2)) (by rw [e12]; exact Ar16.1) (State.isArrayOf_alike hZ.alike Ar16.2.1) Ar16.2.2 hin16 hat16 (g := (mkF m 12 #[.val (.ref oc), .val (.int 2), .val (.ref ob), .val (.int 2), .val (.int 6), .val (.int 2), .val (.int c1)] [(.int 2), (.ref oc)])) rfl rfl (hb hby d15_12) _ ?_
    refine XS.istore X12.here hx rfl (hb hby d15_13) rfl (l' := #[.val (.ref oc), .val (.int 2), .val (.ref ob), .val (.int 2), .val (.int 6), .val (.int 2), .val (.int c2)]) rfl ?_
    refine XS.iload X12.here hx rfl (hb hby d15_15) rfl ?_
    refine XS.sipush X12.here hx rfl (hb hby d15_17) ?_
    refine XS.icmpYes X12.here hx rfl (pc0 := 20) (pc' := 26) rfl (hb hby d15_20) rfl (own_flt (a := (255 : Int32)) (b := c2) (by decide) rfl hc20_17).2.2.2 (by decide) (by decide) ?_
    refine XS.aloadN X12.here hx rfl (hb hby d15_26) rfl rfl ?_
    refine XS.iloadN X12.here hx rfl (hb hby d15_27) rfl ?_
    refine XS.iload X12.here hx rfl (hb hby d15_28) rfl ?_
    refine XS.i2b X12.here hx rfl (hb hby d15_30) rfl ?_
    refine st19 _ ?_
    refine XS.iinc X19.here hx rfl (hb hby d15_32) rfl (l' := #[.val (.ref oc), .val (.int 3), .val (.ref ob), .val (.int 2), .val (.int 6), .val (.int 2), .val (.int c2)]) rfl ?_
    refine XS.iinc X19.here hx rfl (hb hby d15_35) rfl (l' := #[.val (.ref oc), .val (.int 3), .val (.ref ob), .val (.int 3), .val (.int 6), .val (.int 2), .val (.int c2)]) rfl ?_
    refine XS.iinc X19.here hx rfl (hb hby d15_38) rfl (l' := #[.val (.ref oc), .val (.int 3), .val (.ref ob), .val (.int 3), .val (.int 6), .val (.int 3), .val (.int c2)]) rfl ?_
    refine XS.goto X19.here hx rfl (pc0 := 41) (pc' := 3) rfl (hb hby d15_41) (by decide) (by decide) ?_
    show Steps p.tables e below (T19.setTop (mkF m 3 #[.val (.ref oc), .val (.int 3), .val (.ref ob), .val (.int 3), .val (.int 6), .val (.int 3), .val (.int c2)] [])) _
    refine XS.iload X19.here hx rfl (hb hby d15_3) rfl ?_
    refine XS.iload X19.here hx rfl (hb hby d15_5) rfl ?_
    refine XS.icmpNo X19.here hx rfl (hb hby d15_7) rfl (own_tlt (a := (3 : Int32)) (b := (6 : Int32)) (by decide) (by decide) hc7_21).2.1 ?_
    refine XS.aloadN X19.here hx rfl (hb hby d15_10) rfl rfl ?_
    refine XS.iloadN X19.here hx rfl (hb hby d15_11) rfl ?_
    refine X19.caload hx (j := (3 : Int32)) (v := (.int c3)) (by rw [e19]; exact Ar23.1) (State.isArrayOf_alike hZ.alike Ar23.2.1) Ar23.2.2 hin23 hat23 (g := (mkF m 12 #[.val (.ref oc), .val (.int 3), .val (.ref ob), .val (.int 3), .val (.int 6), .val (.int 3), .val (.int c2)] [(.int 3), (.ref oc)])) rfl rfl (hb hby d15_12) _ ?_
    refine XS.istore X19.here hx rfl (hb hby d15_13) rfl (l' := #[.val (.ref oc), .val (.int 3), .val (.ref ob), .val (.int 3), .val (.int 6), .val (.int 3), .val (.int c3)]) rfl ?_
    refine XS.iload X19.here hx rfl (hb hby d15_15) rfl ?_
    refine XS.sipush X19.here hx rfl (hb hby d15_17) ?_
    refine XS.icmpYes X19.here hx rfl (pc0 := 20) (pc' := 26) rfl (hb hby d15_20) rfl (own_flt (a := (255 : Int32)) (b := c3) (by decide) rfl hc20_24).2.2.2 (by decide) (by decide) ?_
    refine XS.aloadN X19.here hx rfl (hb hby d15_26) rfl rfl ?_
    refine XS.iloadN X19.here hx rfl (hb hby d15_27) rfl ?_
    refine XS.iload X19.here hx rfl (hb hby d15_28) rfl ?_
    refine XS.i2b X19.here hx rfl (hb hby d15_30) rfl ?_
    refine st26 _ ?_
    refine XS.iinc X26.here hx rfl (hb hby d15_32) rfl (l' := #[.val (.ref oc), .val (.int 4), .val (.ref ob), .val (.int 3), .val (.int 6), .val (.int 3), .val (.int c3)]) rfl ?_
    refine XS.iinc X26.here hx rfl (hb hby d15_35) rfl (l' := #[.val (.ref oc), .val (.int 4), .val (.ref ob), .val (.int 4), .val (.int 6), .val (.int 3), .val (.int c3)]) rfl ?_
    refine XS.iinc X26.here hx rfl (hb hby d15_38) rfl (l' := #[.val (.ref oc), .val (.int 4), .val (.ref ob), .val (.int 4), .val (.int 6), .val (.int 4), .val (.int c3)]) rfl ?_
    refine XS.goto X26.here hx rfl (pc0 := 41) (pc' := 3) rfl (hb hby d15_41) (by decide) (by decide) ?_
    refine XS.iload X26.here hx rfl (hb hby d15_3) rfl ?_
    show Steps p.tables e below (T26.setTop (mkF m 5 #[.val (.ref oc), .val (.int 4), .val (.ref ob), .val (.int 4), .val (.int 6), .val (.int 4), .val (.int c3)] [(.int 4)])) _
    refine XS.iload X26.here hx rfl (hb hby d15_5) rfl ?_
    refine XS.icmpNo X26.here hx rfl (hb hby d15_7) rfl (own_tlt (a := (4 : Int32)) (b := (6 : Int32)) (by decide) (by decide) hc7_28).2.1 ?_
    refine XS.aloadN X26.here hx rfl (hb hby d15_10) rfl rfl ?_
    refine XS.iloadN X26.here hx rfl (hb hby d15_11) rfl ?_
    refine X26.caload hx (j := (4 : Int32)) (v := (.int c4)) (by rw [e26]; exact Ar30.1) (State.isArrayOf_alike hZ.alike Ar30.2.1) Ar30.2.2 hin30 hat30 (g := (mkF m 12 #[.val (.ref oc), .val (.int 4), .val (.ref ob), .val (.int 4), .val (.int 6), .val (.int 4), .val (.int c3)] [(.int 4), (.ref oc)])) rfl rfl (hb hby d15_12) _ ?_
    refine XS.istore X26.here hx rfl (hb hby d15_13) rfl (l' := #[.val (.ref oc), .val (.int 4), .val (.ref ob), .val (.int 4), .val (.int 6), .val (.int 4), .val (.int c4)]) rfl ?_
    refine XS.iload X26.here hx rfl (hb hby d15_15) rfl ?_
    refine XS.sipush X26.here hx rfl (hb hby d15_17) ?_
    refine XS.icmpYes X26.here hx rfl (pc0 := 20) (pc' := 26) rfl (hb hby d15_20) rfl (own_flt (a := (255 : Int32)) (b := c4) (by decide) rfl hc20_31).2.2.2 (by decide) (by decide) ?_
    refine XS.aloadN X26.here hx rfl (hb hby d15_26) rfl rfl ?_
    refine XS.iloadN X26.here hx rfl (hb hby d15_27) rfl ?_
    refine XS.iload X26.here hx rfl (hb hby d15_28) rfl ?_
    refine XS.i2b X26.here hx rfl (hb hby d15_30) rfl ?_
    refine st33 _ ?_
    refine XS.iinc X33.here hx rfl (hb hby d15_32) rfl (l' := #[.val (.ref oc), .val (.int 5), .val (.ref ob), .val (.int 4), .val (.int 6), .val (.int 4), .val (.int c4)]) rfl ?_
    refine XS.iinc X33.here hx rfl (hb hby d15_35) rfl (l' := #[.val (.ref oc), .val (.int 5), .val (.ref ob), .val (.int 5), .val (.int 6), .val (.int 4), .val (.int c4)]) rfl ?_
    refine XS.iinc X33.here hx rfl (hb hby d15_38) rfl (l' := #[.val (.ref oc), .val (.int 5), .val (.ref ob), .val (.int 5), .val (.int 6), .val (.int 5), .val (.int c4)]) rfl ?_
    refine XS.goto X33.here hx rfl (pc0 := 41) (pc' := 3) rfl (hb hby d15_41) (by decide) (by decide) ?_
    refine XS.iload X33.here hx rfl (hb hby d15_3) rfl ?_
    refine XS.iload X33.here hx rfl (hb hby d15_5) rfl ?_
    show Steps p.tables e below (T33.setTop (mkF m 7 #[.val (.ref oc), .val (.int 5), .val (.ref ob), .val (.int 5), .val (.int 6), .val (.int 5), .val (.int c4)] [(.int 6), (.int 5)])) _
    refine XS.icmpNo X33.here hx rfl (hb hby d15_7) rfl (own_tlt (a := (5 : Int32)) (b := (6 : Int32)) (by decide) (by decide) hc7_35).2.1 ?_
    refine XS.aloadN X33.here hx rfl (hb hby d15_10) rfl rfl ?_
    refine XS.iloadN X33.here hx rfl (hb hby d15_11) rfl ?_
    refine X33.caload hx (j := (5 : Int32)) (v := (.int c5)) (by rw [e33]; exact Ar37.1) (State.isArrayOf_alike hZ.alike Ar37.2.1) Ar37.2.2 hin37 hat37 (g := (mkF m 12 #[.val (.ref oc), .val (.int 5), .val (.ref ob), .val (.int 5), .val (.int 6), .val (.int 5), .val (.int c4)] [(.int 5), (.ref oc)])) rfl rfl (hb hby d15_12) _ ?_
    refine XS.istore X33.here hx rfl (hb hby d15_13) rfl (l' := #[.val (.ref oc), .val (.int 5), .val (.ref ob), .val (.int 5), .val (.int 6), .val (.int 5), .val (.int c5)]) rfl ?_
    refine XS.iload X33.here hx rfl (hb hby d15_15) rfl ?_
    refine XS.sipush X33.here hx rfl (hb hby d15_17) ?_
    refine XS.icmpYes X33.here hx rfl (pc0 := 20) (pc' := 26) rfl (hb hby d15_20) rfl (own_flt (a := (255 : Int32)) (b := c5) (by decide) rfl hc20_38).2.2.2 (by decide) (by decide) ?_
    refine XS.aloadN X33.here hx rfl (hb hby d15_26) rfl rfl ?_
    refine XS.iloadN X33.here hx rfl (hb hby d15_27) rfl ?_
    refine XS.iload X33.here hx rfl (hb hby d15_28) rfl ?_
    refine XS.i2b X33.here hx rfl (hb hby d15_30) rfl ?_
    refine st40 _ ?_
    refine XS.iinc X40.here hx rfl (hb hby d15_32) rfl (l' := #[.val (.ref oc), .val (.int 6), .val (.ref ob), .val (.int 5), .val (.int 6), .val (.int 5), .val (.int c5)]) rfl ?_
    refine XS.iinc X40.here hx rfl (hb hby d15_35) rfl (l' := #[.val (.ref oc), .val (.int 6), .val (.ref ob), .val (.int 6), .val (.int 6), .val (.int 5), .val (.int c5)]) rfl ?_
    refine XS.iinc X40.here hx rfl (hb hby d15_38) rfl (l' := #[.val (.ref oc), .val (.int 6), .val (.ref ob), .val (.int 6), .val (.int 6), .val (.int 6), .val (.int c5)]) rfl ?_
    refine XS.goto X40.here hx rfl (pc0 := 41) (pc' := 3) rfl (hb hby d15_41) (by decide) (by decide) ?_
    refine XS.iload X40.here hx rfl (hb hby d15_3) rfl ?_
    refine XS.iload X40.here hx rfl (hb hby d15_5) rfl ?_
    refine XS.icmpYes X40.here hx rfl (pc0 := 7) (pc' := 44) rfl (hb hby d15_7) rfl (own_flt (a := (6 : Int32)) (b := (6 : Int32)) (by decide) (by decide) hc7_42).2.1 (by decide) (by decide) ?_
    show Steps p.tables e below (T40.setTop (mkF m 44 #[.val (.ref oc), .val (.int 6), .val (.ref ob), .val (.int 6), .val (.int 6), .val (.int 6), .val (.int c5)] [])) _
    refine XS.iload X40.here hx rfl (hb hby d15_44) rfl ?_
    exact retI X40 hx Bd.returns (hb hby d15_46) hr
  · show Q_cp6 Z _ _ _ _ _ _ _ _ _ _ h0 n0 _ T40.heap _
    rw [e40]
    have f43 := (((((((Keep.refl h0 [ob]).wr W5 (Or.inl (List.mem_of_getElem? (i := 0) rfl))).wr W12 (Or.inl (List.mem_of_getElem? (i := 0) rfl))).wr W19 (Or.inl (List.mem_of_getElem? (i := 0) rfl))).wr W26 (Or.inl (List.mem_of_getElem? (i := 0) rfl))).wr W33 (Or.inl (List.mem_of_getElem? (i := 0) rfl))).wr W40 (Or.inl (List.mem_of_getElem? (i := 0) rfl)))
    exact ⟨_, _, _, _, _, _, rfl, N40, f43, V40, own_b2 c0 uc0 vc0, own_b2 c1 uc1 vc1, own_b2 c2 uc2 vc2, own_b2 c3 uc3 vc3, own_b2 c4 uc4 vc4, own_b2 c5 uc5 vc5⟩
theorem ef_rm_cm6 (m : MethodId) (x0 : Addr) : entryFrame m #[(.ref x0), (.int 0), (.int 6)] 6 = mkF m 0 #[.val (.ref x0), .val (.int 0), .val (.int 6), .unset, .unset, .unset] [] := by first | (simp [entryFrame, mkF, argsToLocals, Value.category]; done) | rfl
def Q_cm6 (Z : State) (oc : Addr) (kC : ClassId) (c0 : Int32) (c1 : Int32) (c2 : Int32) (c3 : Int32) (c4 : Int32) (c5 : Int32) (h0 : Heap) (n0 : Nat) (v : Option Value) (h : Heap) (L : List Loc) : Prop := ∃ (ob : Addr) (kb : ClassId) (bb0 bb1 bb2 bb3 bb4 bb5 : Int32), v = some (.ref ob) ∧ Fr n0 L ∧ Keep h0 h [] ∧ n0 ≤ ob ∧ h0.size ≤ ob ∧ Arv Z h ob kb .byte (6 : Int32) [(.int bb0), (.int bb1), (.int bb2), (.int bb3), (.int bb4), (.int bb5)] (.int 0) ∧ bb0.toInt % 256 = c0.toInt ∧ bb1.toInt % 256 = c1.toInt ∧ bb2.toInt % 256 = c2.toInt ∧ bb3.toInt % 256 = c3.toInt ∧ bb4.toInt % 256 = c4.toInt ∧ bb5.toInt % 256 = c5.toInt
theorem rm_cm6 (l : Launch) (Z : State) (a0 : Array Value) (hw : ∀ d ∈ tables_1, d.before a0 Z = true) (ws : List Jvm.Cond) (oc : Addr) (kC : ClassId) (c0 : Int32) (c1 : Int32) (c2 : Int32) (c3 : Int32) (c4 : Int32) (c5 : Int32) (h0 : Heap) (n0 : Nat) (Z0 : n0 ≤ h0.size) (Vc : Arv Z h0 oc kC .char (6 : Int32) [(.int c0), (.int c1), (.int c2), (.int c3), (.int c4), (.int c5)] (.int 0)) (uc0 : 0 ≤ c0.toInt) (uc1 : 0 ≤ c1.toInt) (uc2 : 0 ≤ c2.toInt) (uc3 : 0 ≤ c3.toInt) (uc4 : 0 ≤ c4.toInt) (uc5 : 0 ≤ c5.toInt) (vc0 : c0.toInt ≤ 255) (vc1 : c1.toInt ≤ 255) (vc2 : c2.toInt ≤ 255) (vc3 : c3.toInt ≤ 255) (vc4 : c4.toInt ≤ 255) (vc5 : c5.toInt ≤ 255) :
    MetFree l yn14 (head1 (Jvm.Cond.code yn14 kc14 6 (some (.array .byte)) :: ws) ⟨1, 1, 6, 18⟩) (fun a U => a = #[(.ref oc), (.int 0), (.int 6)] ∧ Z.Warmed39 U.vm ∧ U.heap = h0) (fun _ _ _ _ _ => True) (fun _ U o U' => ∃ v L, o = .returned v ∧ Q_cm6 Z oc kC c0 c1 c2 c3 c4 c5 h0 n0 v U'.heap L ∧ FrameEnd U o U' L 1 6) := by
  refine MetFree.of_bodySF (plainFor_of_name pn_4) hisR ?_
  intro p e s m args below meth c s₁ Bd hml0 hP hK
  obtain ⟨rfl, hZ, hh⟩ := hP
  have hx := Bd.exec
  have hby := Bd.bytes
  have hml : c.maxLocals = 6 := hml0
  have hown : s.vm.findClass "java/lang/StringUTF16" = some m.cls := findClass_of_methodNamed Bd.named
  have hnm := (name_of_methodNamed Bd.named Bd.method).1
  have X0 : Stand p l e ⟨1, 1, 6, 18⟩ s m #[(.ref oc), (.int 0), (.int 6)] below meth c s₁ [] 0 0 := Stand.of_body Bd
  have e0 : s₁.heap = h0 := by rw [← hh, Bd.state]; rfl
  have N0 := Fr.nil n0
  obtain ⟨SS, hSS⟩ : ∃ S, S = s₁.setTop (entryFrame m #[(.ref oc), (.int 0), (.int 6)] 6) := ⟨_, rfl⟩
  have pre0 : oP p e below (s₁.setTop (mkF m 0 #[.val (.ref oc), .val (.int 0), .val (.int 6), .unset, .unset, .unset] [])) (SS) := by
    rw [hSS]; exact fun t k => castTop (ef_rm_cm6 m oc) k
  obtain ⟨T1, h1, k1, X1, e1, E1, A1, st1⟩ := newP X0 hx hZ (ow hw 3 rfl) e0 (g := (mkF m 1 #[.val (.ref oc), .val (.int 0), .val (.int 6), .unset, .unset, .unset] [(.int 6)])) rfl (hb hby d14_1) rfl (by decide) (cap := 6) (by decide) (by decide) (by decide) (by decide)
  obtain ⟨b1, g1⟩ : ∃ z, z = h0.size := ⟨_, rfl⟩
  have ne_oc_b1 : oc ≠ b1 := Nat.ne_of_lt (Nat.lt_of_lt_of_le Vc.lt (Nat.le_of_eq g1.symm))
  have g_b1 : n0 ≤ b1 := Nat.le_trans Z0 (Nat.le_of_eq g1.symm)
  have sz_b1 : h0.size ≤ b1 := Nat.le_trans (Keep.refl h0 []).1 (Nat.le_of_eq g1.symm)
  rw [← g1] at A1 st1
  have Zs2 : n0 ≤ h1.size := Nat.le_trans Z0 E1.1
  have V1 : Arv Z h1 b1 k1 .byte (6 : Int32) [(.int 0), (.int 0), (.int 0), (.int 0), (.int 0), (.int 0)] (.int 0) := (Arv.new A1 (by decide)).pad (pad_rep [] (.int 0) 6)
  have f4 := (Vc.ext E1)
  obtain ⟨_, _, ⟨T3, L3, k3, n3⟩, -, X3, ⟨Lc3, hQ3, l3, y3, z3⟩, st3⟩ := Jvm.LawKit.callS X1 hx (y := yn13) hown (mvT hZ (ow hw 69 rfl)) (mvT hZ (ow hw 70 rfl)) (mvT hZ (ow hw 67 rfl)) (mvT hZ (ow hw 71 rfl)) (by decide) (backOf (W := 0) (rm_cp6 l Z a0 hw [] oc b1 kC c0 c1 c2 c3 c4 c5 k1 h1 n0 Zs2 f4 uc0 uc1 uc2 uc3 uc4 uc5 vc0 vc1 vc2 vc3 vc4 vc5 V1 g_b1 ne_oc_b1) hZ (ow hw 71 rfl) (ow hw 67 rfl) (by decide) (by decide)) (g := (mkF m 9 #[.val (.ref oc), .val (.int 0), .val (.int 6), .val (.ref b1), .unset, .unset] [(.int 6), (.int 0), (.ref b1), (.int 0), (.ref oc)])) rfl (by rw [hml]; rfl) (argsL := [(.ref oc), (.int 0), (.ref b1), (.int 0), (.int 6)]) (rest := []) (lenOf pd_10 rfl) rfl (by exact Nat.le_of_eq rfl) (hb hby d14_9) (fun _ _ => ⟨rfl, e1, (by decide : 1 + 0 ≤ _), (by decide : 6 + 0 ≤ _)⟩)
  dsimp only [Pt.U, Pt.locs, Pt.cells, Pt.slots] at X3 l3 y3 z3 st3 hQ3
  rw [l3, y3, z3] at X3
  obtain ⟨bb0, bb1, bb2, bb3, bb4, bb5, rfl, N3q, K3, Vb3, qbb0, qbb1, qbb2, qbb3, qbb4, qbb5⟩ := hQ3
  have N3 := Fr.app N0 N3q
  have Zs5 : n0 ≤ T3.heap.size := Nat.le_trans Zs2 K3.1
  have hc17_6 : (6 : Int) = (6 : Int) := by decide
  subst hSS
  obtain ⟨fs, hr, q1, q2, q3, q4⟩ := X3.leave (v := some (.ref b1)) (fun h => by rw [Bd.returns] at h; cases h)
  refine ⟨_, _, pre0 _ ?_, q1, q2, _, _, rfl, ?_, ⟨_, rfl⟩, q3, q4.mono (by decide) (by decide)⟩
  · refine XS.iloadN X0.here hx rfl (hb hby d14_0) rfl ?_
    refine st1 _ ?_
    refine XS.astoreN X1.here hx rfl (hb hby d14_3) rfl rfl (l' := #[.val (.ref oc), .val (.int 0), .val (.int 6), .val (.ref b1), .unset, .unset]) rfl ?_
    refine XS.aloadN X1.here hx rfl (hb hby d14_4) rfl rfl ?_
    refine XS.iloadN X1.here hx rfl (hb hby d14_5) rfl ?_
    refine XS.aloadN X1.here hx rfl (hb hby d14_6) rfl rfl ?_
    refine XS.iconst X1.here hx rfl (hb hby d14_7) ?_
    refine XS.iloadN X1.here hx rfl (hb hby d14_8) rfl ?_
    refine st3 _ ?_
    refine XS.istore X3.here hx rfl (hb hby d14_12) rfl (l' := #[.val (.ref oc), .val (.int 0), .val (.int 6), .val (.ref b1), .val (.int 6), .unset]) rfl ?_
    refine XS.iload X3.here hx rfl (hb hby d14_14) rfl ?_
    refine XS.iloadN X3.here hx rfl (hb hby d14_16) rfl ?_
    refine XS.icmpYes X3.here hx rfl (pc0 := 17) (pc' := 57) rfl (hb hby d14_17) rfl (own_teq (a := (6 : Int32)) (b := (6 : Int32)) (by decide) (by decide) hc17_6).1 (by decide) (by decide) ?_
    refine XS.aloadN X3.here hx rfl (hb hby d14_57) rfl rfl ?_
    jvm_step X3.here [X3.here.top, hx, (hb hby d14_58), X3.method', Bd.returns, Value.isRef, FieldType.isReference]
    first | (intro acts; rw [hr _ acts rfl rfl rfl]) | rw [hr _ _ rfl rfl rfl]
    exact Steps.refl _
  · show Q_cm6 Z _ _ _ _ _ _ _ _ h0 n0 _ T3.heap _
    have f7 := (((Keep.refl h0 []).ext E1).trans K3 (allS (P := fun x => x ∈ [] ∨ h0.size ≤ x) (Or.inr sz_b1) all0))
    exact ⟨b1, _, bb0, bb1, bb2, bb3, bb4, bb5, rfl, N3, f7, g_b1, sz_b1, Vb3, qbb0, qbb1, qbb2, qbb3, qbb4, qbb5⟩
theorem ef_rm_cf6_0 (m : MethodId) (x0 : Addr) : entryFrame m #[(.ref x0), (.int 6)] 2 = mkF m 0 #[.val (.ref x0), .val (.int 6)] [] := by first | (simp [entryFrame, mkF, argsToLocals, Value.category]; done) | rfl
def Q_cf6_0 (Z : State) (ob : Addr) (kb : ClassId) (vs : List Value) (h0 : Heap) (n0 : Nat) (v : Option Value) (h : Heap) (L : List Loc) : Prop := ∃ z : Int32, v = some (.int z) ∧ (z = (0 : Int32)) ∧ Fr n0 L ∧ h = h0
theorem rm_cf6_0 (l : Launch) (Z : State) (a0 : Array Value) (hw : ∀ d ∈ tables_1, d.before a0 Z = true) (ws : List Jvm.Cond) (ob : Addr) (kb : ClassId) (vs : List Value) (h0 : Heap) (n0 : Nat) (Z0 : n0 ≤ h0.size) (Vb : Arv Z h0 ob kb .byte (6 : Int32) vs (.int 0)) :
    MetFree l yn15 (head1 (Jvm.Cond.code yn15 kc15 2 (some .byte) :: ws) ⟨0, 0, 0, 0⟩) (fun a U => a = #[(.ref ob), (.int 6)] ∧ Z.Warmed39 U.vm ∧ U.heap = h0) (fun _ _ _ _ _ => True) (fun _ U o U' => ∃ v L, o = .returned v ∧ Q_cf6_0 Z ob kb vs h0 n0 v U'.heap L ∧ FrameEnd U o U' L 0 0) := by
  refine MetFree.of_bodySF (plainFor_of_name pn_4) hisR ?_
  intro p e s m args below meth c s₁ Bd hml0 hP hK
  obtain ⟨rfl, hZ, hh⟩ := hP
  have hx := Bd.exec
  have hby := Bd.bytes
  have hml : c.maxLocals = 2 := hml0
  have hown : s.vm.findClass "java/lang/StringUTF16" = some m.cls := findClass_of_methodNamed Bd.named
  have hnm := (name_of_methodNamed Bd.named Bd.method).1
  have X0 : Stand p l e ⟨0, 0, 0, 0⟩ s m #[(.ref ob), (.int 6)] below meth c s₁ [] 0 0 := Stand.of_body Bd
  have e0 : s₁.heap = h0 := by rw [← hh, Bd.state]; rfl
  have N0 := Fr.nil n0
  obtain ⟨SS, hSS⟩ : ∃ S, S = s₁.setTop (entryFrame m #[(.ref ob), (.int 6)] 2) := ⟨_, rfl⟩
  have pre0 : oP p e below (s₁.setTop (mkF m 0 #[.val (.ref ob), .val (.int 6)] [])) (SS) := by
    rw [hSS]; exact fun t k => castTop (ef_rm_cf6_0 m ob) k
  obtain ⟨cl1, Ar1, q1, S1, M1, H1, G1⟩ := id Vb
  subst hSS
  obtain ⟨fs, hr, q1, q2, q3, q4⟩ := X0.leave (v := some (.int 0)) (fun h => by rw [Bd.returns] at h; cases h)
  refine ⟨_, _, pre0 _ ?_, q1, q2, _, _, rfl, ?_, ⟨_, rfl⟩, q3, q4.mono (by decide) (by decide)⟩
  · refine XS.iloadN X0.here hx rfl (hb hby d16_0) rfl ?_
    refine XS.aloadN X0.here hx rfl (hb hby d16_1) rfl rfl ?_
    refine X0.arraylength hx (by rw [e0]; exact Ar1.1) (State.isArrayOf_alike hZ.alike Ar1.2.1) (g := (mkF m 2 #[.val (.ref ob), .val (.int 6)] [(.ref ob), (.int 6)])) rfl rfl (hb hby d16_2) _ ?_
    rw [len_of S1 M1]
    refine XS.isub X0.here hx rfl (hb hby d16_3) rfl ?_
    refine XS.bipush X0.here hx rfl (hb hby d16_4) ?_
    refine XS.iushr X0.here hx rfl (hb hby d16_6) rfl ?_
    refine XS.i2b X0.here hx rfl (hb hby d16_7) rfl ?_
    exact retN X0 hx (t := .byte) Bd.returns (by simp) (hb hby d16_8) hr
  · show Q_cf6_0 Z _ _ _ h0 n0 _ s₁.heap _
    rw [e0]
    exact ⟨_, rfl, rfl, N0, rfl⟩
theorem ef_rm_iv6 (m : MethodId) (x0 : Addr) (x1 : Addr) : entryFrame m #[(.ref x0), (.ref x1), (.int 0), (.int 6), .null] 6 = mkF m 0 #[.val (.ref x0), .val (.ref x1), .val (.int 0), .val (.int 6), .val .null, .unset] [] := by first | (simp [entryFrame, mkF, argsToLocals, Value.category]; done) | rfl
def Q_iv6 (Z : State) (oa : Addr) (oc : Addr) (vcs : Int32) (vf : Value) (kC : ClassId) (c0 : Int32) (c1 : Int32) (c2 : Int32) (c3 : Int32) (c4 : Int32) (c5 : Int32) (h0 : Heap) (n0 : Nat) (v : Option Value) (h : Heap) (L : List Loc) : Prop := v = none ∧ Fr n0 L ∧ Keep h0 h [oa] ∧ Exa Z h oa "java/lang/String" ∧ ∃ (ob : Addr) (kb : ClassId) (bb0 bb1 bb2 bb3 bb4 bb5 : Int32), n0 ≤ ob ∧ h0.size ≤ ob ∧ Fld Z h oa "java/lang/String" "coder" "B" (.int 0) ∧ Fld Z h oa "java/lang/String" "value" "[B" (.ref ob) ∧ Arv Z h ob kb .byte (6 : Int32) [(.int bb0), (.int bb1), (.int bb2), (.int bb3), (.int bb4), (.int bb5)] (.int 0) ∧ bb0.toInt % 256 = c0.toInt ∧ bb1.toInt % 256 = c1.toInt ∧ bb2.toInt % 256 = c2.toInt ∧ bb3.toInt % 256 = c3.toInt ∧ bb4.toInt % 256 = c4.toInt ∧ bb5.toInt % 256 = c5.toInt
theorem rm_iv6 (l : Launch) (Z : State) (a0 : Array Value) (hw : ∀ d ∈ tables_1, d.before a0 Z = true) (ws : List Jvm.Cond) (oa : Addr) (oc : Addr) (vcs : Int32) (vf : Value) (kC : ClassId) (c0 : Int32) (c1 : Int32) (c2 : Int32) (c3 : Int32) (c4 : Int32) (c5 : Int32) (h0 : Heap) (n0 : Nat) (Z0 : n0 ≤ h0.size) (Os : own_st Z h0 vcs vf) (Es : Exa Z h0 oa "java/lang/String") (Fc : Fld Z h0 oa "java/lang/String" "coder" "B" (.int 0)) (Fv : Fld Z h0 oa "java/lang/String" "value" "[B" .null) (ga : n0 ≤ oa) (nac : oa ≠ oc) (Vc : Arv Z h0 oc kC .char (6 : Int32) [(.int c0), (.int c1), (.int c2), (.int c3), (.int c4), (.int c5)] (.int 0)) (uc0 : 0 ≤ c0.toInt) (uc1 : 0 ≤ c1.toInt) (uc2 : 0 ≤ c2.toInt) (uc3 : 0 ≤ c3.toInt) (uc4 : 0 ≤ c4.toInt) (uc5 : 0 ≤ c5.toInt) (vc0 : c0.toInt ≤ 255) (vc1 : c1.toInt ≤ 255) (vc2 : c2.toInt ≤ 255) (vc3 : c3.toInt ≤ 255) (vc4 : c4.toInt ≤ 255) (vc5 : c5.toInt ≤ 255) :
    MetFree l yn11 (head1 (Jvm.Cond.code yn11 kc11 6 none :: ws) ⟨2, 1, 6, 35⟩) (fun a U => a = #[(.ref oa), (.ref oc), (.int 0), (.int 6), .null] ∧ Z.Warmed39 U.vm ∧ U.heap = h0) (fun _ _ _ _ _ => True) (fun _ U o U' => ∃ v L, o = .returned v ∧ Q_iv6 Z oa oc vcs vf kC c0 c1 c2 c3 c4 c5 h0 n0 v U'.heap L ∧ FrameEnd U o U' L 1 6) := by
  refine MetFree.of_bodySF (plainFor_of_name pn_1) hisR ?_
  intro p e s m args below meth c s₁ Bd hml0 hP hK
  obtain ⟨rfl, hZ, hh⟩ := hP
  have hx := Bd.exec
  have hby := Bd.bytes
  have hml : c.maxLocals = 6 := hml0
  have hown : s.vm.findClass "java/lang/String" = some m.cls := findClass_of_methodNamed Bd.named
  have hnm := (name_of_methodNamed Bd.named Bd.method).1
  have X0 : Stand p l e ⟨2, 1, 6, 35⟩ s m #[(.ref oa), (.ref oc), (.int 0), (.int 6), .null] below meth c s₁ [] 0 0 := Stand.of_body Bd
  have e0 : s₁.heap = h0 := by rw [← hh, Bd.state]; rfl
  have N0 := Fr.nil n0
  obtain ⟨SS, hSS⟩ : ∃ S, S = s₁.setTop (entryFrame m #[(.ref oa), (.ref oc), (.int 0), (.int 6), .null] 6) := ⟨_, rfl⟩
  have pre0 : oP p e below (s₁.setTop (mkF m 0 #[.val (.ref oa), .val (.ref oc), .val (.int 0), .val (.int 6), .val .null, .unset] [])) (SS) := by
    rw [hSS]; exact fun t k => castTop (ef_rm_iv6 m oa oc) k
  obtain ⟨T1, X1, e1, st1⟩ := initO X0 hx hZ hown (ow hw 62 rfl) (ow hw 63 rfl) (ow hw 64 rfl) e0 (g := (mkF m 1 #[.val (.ref oa), .val (.ref oc), .val (.int 0), .val (.int 6), .val .null, .unset] [(.ref oa)])) rfl (by rw [hml]; rfl) rfl (hb hby d12_1) (by decide) (W := 0) (by exact Nat.le_of_eq rfl) (by decide)
  have hc5_2 : ¬ ((6 : Int) = (0 : Int)) := by decide
  obtain ⟨T3, X3, e3, st3⟩ := getS2 X1 hx hZ hown (host := "") (Or.inl (ow hw 19 rfl)) Via.refl e1 Os.1 (g := (mkF m 27 #[.val (.ref oa), .val (.ref oc), .val (.int 0), .val (.int 6), .val .null, .unset] [])) rfl (hb hby d12_27)
  have hc30_4 : ¬ (vcs.toInt = (0 : Int)) := by (have q := Os.2.1; omega)
  obtain ⟨_, _, ⟨T5, L5, k5, n5⟩, -, X5, ⟨Lc5, hQ5, l5, y5, z5⟩, st5⟩ := Jvm.LawKit.callS X3 hx (y := yn14) hown (mvT hZ (ow hw 65 rfl)) (mvT hZ (ow hw 66 rfl)) (mvT hZ (ow hw 67 rfl)) (mvT hZ (ow hw 68 rfl)) (by decide) (backOf (W := 0) (rm_cm6 l Z a0 hw [] oc kC c0 c1 c2 c3 c4 c5 h0 n0 Z0 Vc uc0 uc1 uc2 uc3 uc4 uc5 vc0 vc1 vc2 vc3 vc4 vc5) hZ (ow hw 68 rfl) (ow hw 67 rfl) (by decide) (by decide)) (g := (mkF m 36 #[.val (.ref oa), .val (.ref oc), .val (.int 0), .val (.int 6), .val .null, .unset] [(.int 6), (.int 0), (.ref oc)])) rfl (by rw [hml]; rfl) (argsL := [(.ref oc), (.int 0), (.int 6)]) (rest := []) (lenOf pd_11 rfl) rfl (by exact Nat.le_of_eq rfl) (hb hby d12_36) (fun _ _ => ⟨rfl, e3, (by decide : 0 + 1 ≤ _), (by decide : 0 + 6 ≤ _)⟩)
  dsimp only [Pt.U, Pt.locs, Pt.cells, Pt.slots] at X5 l5 y5 z5 st5 hQ5
  rw [l5, y5, z5] at X5
  obtain ⟨ob, kb, bb0, bb1, bb2, bb3, bb4, bb5, rfl, N5q, K5, gb, szb, Vb5, qbb0, qbb1, qbb2, qbb3, qbb4, qbb5⟩ := hQ5
  have N5 := Fr.app N0 N5q
  have Zs6 : n0 ≤ T5.heap.size := Nat.le_trans Z0 K5.1
  have ne_oa_ob : oa ≠ ob := Nat.ne_of_lt (Nat.lt_of_lt_of_le Es.lt szb)
  have ne_oc_ob : oc ≠ ob := Nat.ne_of_lt (Nat.lt_of_lt_of_le Vc.lt szb)
  have sz_ob : h0.size ≤ ob := Nat.le_trans (Keep.refl h0 [oa]).1 szb
  obtain ⟨_, _, ⟨T7, L7, k7, n7⟩, -, X7, ⟨Lc7, hQ7, l7, y7, z7⟩, st7⟩ := Jvm.LawKit.callS X5 hx (y := yn15) hown (mvT hZ (ow hw 72 rfl)) (mvT hZ (ow hw 73 rfl)) (mvT hZ (ow hw 67 rfl)) (mvT hZ (ow hw 74 rfl)) (by decide) (backOf (W := 1) (rm_cf6_0 l Z a0 hw [] ob kb [(.int bb0), (.int bb1), (.int bb2), (.int bb3), (.int bb4), (.int bb5)] T5.heap n0 Zs6 Vb5) hZ (ow hw 74 rfl) (ow hw 67 rfl) (by decide) (by decide)) (g := (mkF m 45 #[.val (.ref oa), .val (.ref oc), .val (.int 0), .val (.int 6), .val .null, .val (.ref ob)] [(.int 6), (.ref ob), (.ref oa)])) rfl (by rw [hml]; rfl) (argsL := [(.ref ob), (.int 6)]) (rest := [(.ref oa)]) (lenOf pd_12 rfl) rfl (by exact Nat.le_of_eq rfl) (hb hby d12_45) (fun _ _ => ⟨rfl, rfl, (by decide : 1 + 0 ≤ _), (by decide : 6 + 0 ≤ _)⟩)
  dsimp only [Pt.U, Pt.locs, Pt.cells, Pt.slots] at X7 l7 y7 z7 st7 hQ7
  rw [l7, y7, z7] at X7
  obtain ⟨zf, rfl, hzf, N7q, e7⟩ := hQ7
  have N7 := Fr.app N5 N7q
  have pre8 : oP p e below (T7.setTop (mkF m 48 #[.val (.ref oa), .val (.ref oc), .val (.int 0), .val (.int 6), .val .null, .val (.ref ob)] [(.int zf), (.ref oa)])) (SS) := fun t kt => by
    refine pre0 _ ?_
    refine XS.aloadN X0.here hx rfl (hb hby d12_0) rfl rfl ?_
    refine st1 _ ?_
    refine XS.iloadN X1.here hx rfl (hb hby d12_4) rfl ?_
    refine XS.ifYes X1.here hx rfl (pc0 := 5) (pc' := 27) rfl (hb hby d12_5) rfl (own_if (own_feq (a := (6 : Int32)) (b := (0 : Int32)) (by decide) (by decide) hc5_2).2) (by decide) (by decide) ?_
    refine st3 _ ?_
    refine XS.ifNo X3.here hx rfl (hb hby d12_30) rfl (own_if (own_feq (a := vcs) (b := (0 : Int32)) rfl (by decide) hc30_4).1) ?_
    refine XS.aloadN X3.here hx rfl (hb hby d12_33) rfl rfl ?_
    refine XS.iloadN X3.here hx rfl (hb hby d12_34) rfl ?_
    refine XS.iloadN X3.here hx rfl (hb hby d12_35) rfl ?_
    refine st5 _ ?_
    refine XS.astore X5.here hx rfl (hb hby d12_39) rfl rfl (l' := #[.val (.ref oa), .val (.ref oc), .val (.int 0), .val (.int 6), .val .null, .val (.ref ob)]) rfl ?_
    refine XS.aloadN X5.here hx rfl (hb hby d12_41) rfl rfl ?_
    refine XS.aload X5.here hx rfl (hb hby d12_42) rfl rfl ?_
    refine XS.iloadN X5.here hx rfl (hb hby d12_44) rfl ?_
    refine st7 _ ?_
    exact kt
  subst hzf
  have pre9 : oP p e below (T7.setTop (mkF m 48 #[.val (.ref oa), .val (.ref oc), .val (.int 0), .val (.int 6), .val .null, .val (.ref ob)] [(.int 0), (.ref oa)])) (SS) := pre8
  have f10 := (Fc.keep K5 nin0)
  have f11 := (Es.keep K5)
  obtain ⟨T12, h12, X12, e12, W12, st12⟩ := putFN X7 hx hZ hown (ow hw 20 rfl) Via.refl e7 f10 f11 (Or.inr ⟨(ow hw 5 rfl), rfl, hnm⟩) (ow hw 2 rfl) (ty := .byte) (v' := (.int 0)) (by decide) rfl rfl (g := (mkF m 48 #[.val (.ref oa), .val (.ref oc), .val (.int 0), .val (.int 6), .val .null, .val (.ref ob)] [(.int 0), (.ref oa)])) rfl rfl (hb hby d12_48)
  have N12 := Fr.snoc X12 N7 ga
  have Zs13 : n0 ≤ h12.size := by rw [W12.size]; exact Zs6
  have Fw12 := f10.same W12
  have f14 := ((Fv.keep K5 nin0).other W12 (Or.inr (slot_ne (Or.inr (ow hw 4 rfl)) (Or.inr (ow hw 5 rfl)) (by decide) (t := (.array .byte)) (t' := .byte) (by decide) (by decide))))
  have f15 := (f11.wr W12)
  obtain ⟨T16, h16, X16, e16, W16, st16⟩ := putF X12 hx hZ hown (host := "") (Or.inl (ow hw 13 rfl)) Via.refl e12 f14 f15 (Or.inr ⟨(ow hw 4 rfl), rfl, hnm⟩) (ow hw 2 rfl) (ty := (.array .byte)) (by decide) rfl rfl (g := (mkF m 54 #[.val (.ref oa), .val (.ref oc), .val (.int 0), .val (.int 6), .val .null, .val (.ref ob)] [(.ref ob), (.ref oa)])) rfl rfl (hb hby d12_54)
  have N16 := Fr.snoc X16 N12 ga
  have Zs17 : n0 ≤ h16.size := by rw [W16.size]; exact Zs13
  have Fw16 := f14.same W16
  subst hSS
  obtain ⟨fs, hr, q1, q2, q3, q4⟩ := X16.leave (v := none) (fun _ => rfl)
  refine ⟨_, _, pre9 _ ?_, q1, q2, _, _, rfl, ?_, ⟨_, rfl⟩, q3, q4.mono (by decide) (by decide)⟩
  · refine st12 _ ?_
    refine XS.aloadN X12.here hx rfl (hb hby d12_51) rfl rfl ?_
    refine XS.aload X12.here hx rfl (hb hby d12_52) rfl rfl ?_
    refine st16 _ ?_
    show Steps p.tables e below (T16.setTop (mkF m 57 #[.val (.ref oa), .val (.ref oc), .val (.int 0), .val (.int 6), .val .null, .val (.ref ob)] [])) _
    exact X16.returnOut hx Bd.returns (hb hby d12_57) hr
  · show Q_iv6 Z _ _ _ _ _ _ _ _ _ _ _ h0 n0 _ T16.heap _
    rw [e16]
    have f18 := ((((Keep.refl h0 [oa]).trans K5 all0).wr W12 (Or.inl (List.mem_of_getElem? (i := 0) rfl))).wr W16 (Or.inl (List.mem_of_getElem? (i := 0) rfl)))
    have f19 := (f15.wr W16)
    have f20 := (Fw12.other W16 (Or.inr (slot_ne (Or.inr (ow hw 5 rfl)) (Or.inr (ow hw 4 rfl)) (by decide) (t := .byte) (t' := (.array .byte)) (by decide) (by decide))))
    have f21 := ((Vb5.other W12 (Ne.symm ne_oa_ob)).other W16 (Ne.symm ne_oa_ob))
    exact ⟨rfl, N16, f18, f19, ob, kb, bb0, bb1, bb2, bb3, bb4, bb5, gb, sz_ob, f20, Fw16, f21, qbb0, qbb1, qbb2, qbb3, qbb4, qbb5⟩
theorem ef_rm_mk6 (m : MethodId) (x0 : Addr) (x1 : Addr) : entryFrame m #[(.ref x0), (.ref x1)] 2 = mkF m 0 #[.val (.ref x0), .val (.ref x1)] [] := by first | (simp [entryFrame, mkF, argsToLocals, Value.category]; done) | rfl
def Q_mk6 (Z : State) (oa : Addr) (oc : Addr) (vcs : Int32) (vf : Value) (kC : ClassId) (c0 : Int32) (c1 : Int32) (c2 : Int32) (c3 : Int32) (c4 : Int32) (c5 : Int32) (h0 : Heap) (n0 : Nat) (v : Option Value) (h : Heap) (L : List Loc) : Prop := v = none ∧ Fr n0 L ∧ Keep h0 h [oa] ∧ Exa Z h oa "java/lang/String" ∧ ∃ (ob : Addr) (kb : ClassId) (bb0 bb1 bb2 bb3 bb4 bb5 : Int32), n0 ≤ ob ∧ h0.size ≤ ob ∧ Fld Z h oa "java/lang/String" "coder" "B" (.int 0) ∧ Fld Z h oa "java/lang/String" "value" "[B" (.ref ob) ∧ Arv Z h ob kb .byte (6 : Int32) [(.int bb0), (.int bb1), (.int bb2), (.int bb3), (.int bb4), (.int bb5)] (.int 0) ∧ bb0.toInt % 256 = c0.toInt ∧ bb1.toInt % 256 = c1.toInt ∧ bb2.toInt % 256 = c2.toInt ∧ bb3.toInt % 256 = c3.toInt ∧ bb4.toInt % 256 = c4.toInt ∧ bb5.toInt % 256 = c5.toInt
theorem rm_mk6 (l : Launch) (Z : State) (a0 : Array Value) (hw : ∀ d ∈ tables_1, d.before a0 Z = true) (ws : List Jvm.Cond) (oa : Addr) (oc : Addr) (vcs : Int32) (vf : Value) (kC : ClassId) (c0 : Int32) (c1 : Int32) (c2 : Int32) (c3 : Int32) (c4 : Int32) (c5 : Int32) (h0 : Heap) (n0 : Nat) (Z0 : n0 ≤ h0.size) (Os : own_st Z h0 vcs vf) (Es : Exa Z h0 oa "java/lang/String") (Fc : Fld Z h0 oa "java/lang/String" "coder" "B" (.int 0)) (Fv : Fld Z h0 oa "java/lang/String" "value" "[B" .null) (ga : n0 ≤ oa) (nac : oa ≠ oc) (Vc : Arv Z h0 oc kC .char (6 : Int32) [(.int c0), (.int c1), (.int c2), (.int c3), (.int c4), (.int c5)] (.int 0)) (uc0 : 0 ≤ c0.toInt) (uc1 : 0 ≤ c1.toInt) (uc2 : 0 ≤ c2.toInt) (uc3 : 0 ≤ c3.toInt) (uc4 : 0 ≤ c4.toInt) (uc5 : 0 ≤ c5.toInt) (vc0 : c0.toInt ≤ 255) (vc1 : c1.toInt ≤ 255) (vc2 : c2.toInt ≤ 255) (vc3 : c3.toInt ≤ 255) (vc4 : c4.toInt ≤ 255) (vc5 : c5.toInt ≤ 255) :
    MetFree l yn12 (head1 (Jvm.Cond.code yn12 kc12 2 none :: ws) ⟨3, 1, 6, 52⟩) (fun a U => a = #[(.ref oa), (.ref oc)] ∧ Z.Warmed39 U.vm ∧ U.heap = h0) (fun _ _ _ _ _ => True) (fun _ U o U' => ∃ v L, o = .returned v ∧ Q_mk6 Z oa oc vcs vf kC c0 c1 c2 c3 c4 c5 h0 n0 v U'.heap L ∧ FrameEnd U o U' L 1 6) := by
  refine MetFree.of_bodySF (plainFor_of_name pn_1) hisR ?_
  intro p e s m args below meth c s₁ Bd hml0 hP hK
  obtain ⟨rfl, hZ, hh⟩ := hP
  have hx := Bd.exec
  have hby := Bd.bytes
  have hml : c.maxLocals = 2 := hml0
  have hown : s.vm.findClass "java/lang/String" = some m.cls := findClass_of_methodNamed Bd.named
  have hnm := (name_of_methodNamed Bd.named Bd.method).1
  have X0 : Stand p l e ⟨3, 1, 6, 52⟩ s m #[(.ref oa), (.ref oc)] below meth c s₁ [] 0 0 := Stand.of_body Bd
  have e0 : s₁.heap = h0 := by rw [← hh, Bd.state]; rfl
  have N0 := Fr.nil n0
  obtain ⟨SS, hSS⟩ : ∃ S, S = s₁.setTop (entryFrame m #[(.ref oa), (.ref oc)] 2) := ⟨_, rfl⟩
  have pre0 : oP p e below (s₁.setTop (mkF m 0 #[.val (.ref oa), .val (.ref oc)] [])) (SS) := by
    rw [hSS]; exact fun t k => castTop (ef_rm_mk6 m oa oc) k
  obtain ⟨cl1, Ar1, q1, S1, M1, H1, G1⟩ := id Vc
  obtain ⟨_, _, ⟨T2, L2, k2, n2⟩, -, X2, ⟨Lc2, hQ2, l2, y2, z2⟩, st2⟩ := X0.specialBack hx (y := yn11) rfl hown (mvT hZ (ow hw 58 rfl)) (mvT hZ (ow hw 59 rfl)) (mvT hZ (ow hw 61 rfl)) (by decide) (backOf (W := 0) (rm_iv6 l Z a0 hw [] oa oc vcs vf kC c0 c1 c2 c3 c4 c5 h0 n0 Z0 Os Es Fc Fv ga nac Vc uc0 uc1 uc2 uc3 uc4 uc5 vc0 vc1 vc2 vc3 vc4 vc5) hZ (ow hw 61 rfl) (ow hw 1 rfl) (by decide) (by decide)) (g := (mkF m 6 #[.val (.ref oa), .val (.ref oc)] [.null, (.int 6), (.int 0), (.ref oc), (.ref oa)])) rfl (by rw [hml]; rfl) (Steps.refl _) (a := oa) (argsL := [(.ref oc), (.int 0), (.int 6), .null]) (rest := []) (lenOf pd_9 rfl) rfl (by exact Nat.le_of_eq rfl) (hb hby d11_6) (fun _ _ => ⟨rfl, e0, (by decide : 0 + 1 ≤ _), (by decide : 0 + 6 ≤ _)⟩)
  dsimp only [Pt.U, Pt.locs, Pt.cells, Pt.slots] at X2 l2 y2 z2 st2 hQ2
  rw [l2, y2, z2] at X2
  obtain ⟨rfl, N2q, K2, A2, ob, kb, bb0, bb1, bb2, bb3, bb4, bb5, gb, szb, Fc2, Fv2, Vb2, qbb0, qbb1, qbb2, qbb3, qbb4, qbb5⟩ := hQ2
  have N2 := Fr.app N0 N2q
  have Zs3 : n0 ≤ T2.heap.size := Nat.le_trans Z0 K2.1
  have ne_oa_ob : oa ≠ ob := Nat.ne_of_lt (Nat.lt_of_lt_of_le Es.lt szb)
  have ne_oc_ob : oc ≠ ob := Nat.ne_of_lt (Nat.lt_of_lt_of_le Vc.lt szb)
  have sz_ob : h0.size ≤ ob := Nat.le_trans (Keep.refl h0 [oa]).1 szb
  subst hSS
  obtain ⟨fs, hr, q1, q2, q3, q4⟩ := X2.leave (v := none) (fun _ => rfl)
  refine ⟨_, _, pre0 _ ?_, q1, q2, _, _, rfl, ?_, ⟨_, rfl⟩, q3, q4.mono (by decide) (by decide)⟩
  · refine XS.aloadN X0.here hx rfl (hb hby d11_0) rfl rfl ?_
    refine XS.aloadN X0.here hx rfl (hb hby d11_1) rfl rfl ?_
    refine XS.iconst X0.here hx rfl (hb hby d11_2) ?_
    refine XS.aloadN X0.here hx rfl (hb hby d11_3) rfl rfl ?_
    refine X0.arraylength hx (by rw [e0]; exact Ar1.1) (State.isArrayOf_alike hZ.alike Ar1.2.1) (g := (mkF m 4 #[.val (.ref oa), .val (.ref oc)] [(.ref oc), (.int 0), (.ref oc), (.ref oa)])) rfl rfl (hb hby d11_4) _ ?_
    rw [len_of S1 M1]
    refine XS.aconstNull X0.here hx rfl (hb hby d11_5) ?_
    refine st2.trans ?_
    exact X2.returnOut hx Bd.returns (hb hby d11_9) hr
  · show Q_mk6 Z _ _ _ _ _ _ _ _ _ _ _ h0 n0 _ T2.heap _
    have f4 := ((Keep.refl h0 [oa]).trans K2 (allS (P := fun x => x ∈ [oa] ∨ h0.size ≤ x) (Or.inl (List.mem_of_getElem? (i := 0) rfl)) all0))
    exact ⟨rfl, N2, f4, A2, ob, kb, bb0, bb1, bb2, bb3, bb4, bb5, gb, sz_ob, Fc2, Fv2, Vb2, qbb0, qbb1, qbb2, qbb3, qbb4, qbb5⟩
theorem ef_rm_cp7 (m : MethodId) (x0 : Addr) (x2 : Addr) : entryFrame m #[(.ref x0), (.int 0), (.ref x2), (.int 0), (.int 7)] 7 = mkF m 0 #[.val (.ref x0), .val (.int 0), .val (.ref x2), .val (.int 0), .val (.int 7), .unset, .unset] [] := by first | (simp [entryFrame, mkF, argsToLocals, Value.category]; done) | rfl
def Q_cp7 (Z : State) (oc : Addr) (ob : Addr) (kC : ClassId) (c0 : Int32) (c1 : Int32) (c2 : Int32) (c3 : Int32) (c4 : Int32) (c5 : Int32) (c6 : Int32) (kb : ClassId) (h0 : Heap) (n0 : Nat) (v : Option Value) (h : Heap) (L : List Loc) : Prop := ∃ bb0 bb1 bb2 bb3 bb4 bb5 bb6 : Int32, v = some (.int 7) ∧ Fr n0 L ∧ Keep h0 h [ob] ∧ Arv Z h ob kb .byte (7 : Int32) [(.int bb0), (.int bb1), (.int bb2), (.int bb3), (.int bb4), (.int bb5), (.int bb6)] (.int 0) ∧ bb0.toInt % 256 = c0.toInt ∧ bb1.toInt % 256 = c1.toInt ∧ bb2.toInt % 256 = c2.toInt ∧ bb3.toInt % 256 = c3.toInt ∧ bb4.toInt % 256 = c4.toInt ∧ bb5.toInt % 256 = c5.toInt ∧ bb6.toInt % 256 = c6.toInt
theorem rm_cp7 (l : Launch) (Z : State) (a0 : Array Value) (hw : ∀ d ∈ tables_1, d.before a0 Z = true) (ws : List Jvm.Cond) (oc : Addr) (ob : Addr) (kC : ClassId) (c0 : Int32) (c1 : Int32) (c2 : Int32) (c3 : Int32) (c4 : Int32) (c5 : Int32) (c6 : Int32) (kb : ClassId) (h0 : Heap) (n0 : Nat) (Z0 : n0 ≤ h0.size) (Vc : Arv Z h0 oc kC .char (7 : Int32) [(.int c0), (.int c1), (.int c2), (.int c3), (.int c4), (.int c5), (.int c6)] (.int 0)) (uc0 : 0 ≤ c0.toInt) (uc1 : 0 ≤ c1.toInt) (uc2 : 0 ≤ c2.toInt) (uc3 : 0 ≤ c3.toInt) (uc4 : 0 ≤ c4.toInt) (uc5 : 0 ≤ c5.toInt) (uc6 : 0 ≤ c6.toInt) (vc0 : c0.toInt ≤ 255) (vc1 : c1.toInt ≤ 255) (vc2 : c2.toInt ≤ 255) (vc3 : c3.toInt ≤ 255) (vc4 : c4.toInt ≤ 255) (vc5 : c5.toInt ≤ 255) (vc6 : c6.toInt ≤ 255) (Vb : Arv Z h0 ob kb .byte (7 : Int32) [(.int 0), (.int 0), (.int 0), (.int 0), (.int 0), (.int 0), (.int 0)] (.int 0)) (gb : n0 ≤ ob) (ncb : oc ≠ ob) :
    MetFree l yn13 (head1 (Jvm.Cond.code yn13 kc13 7 (some .int) :: ws) ⟨0, 0, 0, 0⟩) (fun a U => a = #[(.ref oc), (.int 0), (.ref ob), (.int 0), (.int 7)] ∧ Z.Warmed39 U.vm ∧ U.heap = h0) (fun _ _ _ _ _ => True) (fun _ U o U' => ∃ v L, o = .returned v ∧ Q_cp7 Z oc ob kC c0 c1 c2 c3 c4 c5 c6 kb h0 n0 v U'.heap L ∧ FrameEnd U o U' L 0 0) := by
  refine MetFree.of_bodySF (plainFor_of_name pn_4) hisR ?_
  intro p e s m args below meth c s₁ Bd hml0 hP hK
  obtain ⟨rfl, hZ, hh⟩ := hP
  have hx := Bd.exec
  have hby := Bd.bytes
  have hml : c.maxLocals = 7 := hml0
  have hown : s.vm.findClass "java/lang/StringUTF16" = some m.cls := findClass_of_methodNamed Bd.named
  have hnm := (name_of_methodNamed Bd.named Bd.method).1
  have X0 : Stand p l e ⟨0, 0, 0, 0⟩ s m #[(.ref oc), (.int 0), (.ref ob), (.int 0), (.int 7)] below meth c s₁ [] 0 0 := Stand.of_body Bd
  have e0 : s₁.heap = h0 := by rw [← hh, Bd.state]; rfl
  have N0 := Fr.nil n0
  obtain ⟨SS, hSS⟩ : ∃ S, S = s₁.setTop (entryFrame m #[(.ref oc), (.int 0), (.ref ob), (.int 0), (.int 7)] 7) := ⟨_, rfl⟩
  have pre0 : oP p e below (s₁.setTop (mkF m 0 #[.val (.ref oc), .val (.int 0), .val (.ref ob), .val (.int 0), .val (.int 7), .unset, .unset] [])) (SS) := by
    rw [hSS]; exact fun t k => castTop (ef_rm_cp7 m oc ob) k
  have hc7_1 : (0 : Int) < (7 : Int) := by decide
  obtain ⟨cl2, Ar2, q2, S2, M2, H2, G2⟩ := id Vc
  have hin2 : ¬ ((0 : Int32) < 0 ∨ cl2.slots.size ≤ ((0 : Int32)).toNatClampNeg) := inb_of S2 ⟨by decide, by decide⟩
  have hat2 : cl2.slots[((0 : Int32)).toNatClampNeg]? = some (.int c0) := Has.at H2 hin2 rfl
  have hc20_3 : ¬ ((255 : Int) < c0.toInt) := by omega
  obtain ⟨cl4, Ar4, q4, S4, M4, H4, G4⟩ := id Vb
  have hin4 : ¬ ((0 : Int32) < 0 ∨ cl4.slots.size ≤ ((0 : Int32)).toNatClampNeg) := inb_of S4 ⟨by decide, by decide⟩
  obtain ⟨T5, h5, X5, e5, W5, st5⟩ := stB X0 hx hZ e0 Ar4 (j := (0 : Int32)) hin4 (g := (mkF m 31 #[.val (.ref oc), .val (.int 0), .val (.ref ob), .val (.int 0), .val (.int 7), .val (.int 0), .val (.int c0)] [(.int (c0.toInt8.toInt32)), (.int 0), (.ref ob)])) rfl rfl (hb hby d15_31)
  have N5 := Fr.snoc X5 N0 gb
  have Zs6 : n0 ≤ h5.size := by rw [W5.size]; exact Z0
  have V5 : Arv Z h5 ob kb .byte (7 : Int32) [(.int (nar .byte (c0.toInt8.toInt32))), (.int 0), (.int 0), (.int 0), (.int 0), (.int 0), (.int 0)] (.int 0) := Arv.set Ar4 q4 S4 M4 H4 G4 (fits_nar_byte _) W5 0 rfl (Nat.le_of_ble_eq_true rfl)
  have hc7_7 : (1 : Int) < (7 : Int) := by decide
  have f8 := (Vc.other W5 ncb)
  obtain ⟨cl9, Ar9, q9, S9, M9, H9, G9⟩ := id f8
  have hin9 : ¬ ((1 : Int32) < 0 ∨ cl9.slots.size ≤ ((1 : Int32)).toNatClampNeg) := inb_of S9 ⟨by decide, by decide⟩
  have hat9 : cl9.slots[((1 : Int32)).toNatClampNeg]? = some (.int c1) := Has.at H9 hin9 rfl
  have hc20_10 : ¬ ((255 : Int) < c1.toInt) := by omega
  obtain ⟨cl11, Ar11, q11, S11, M11, H11, G11⟩ := id V5
  have hin11 : ¬ ((1 : Int32) < 0 ∨ cl11.slots.size ≤ ((1 : Int32)).toNatClampNeg) := inb_of S11 ⟨by decide, by decide⟩
  obtain ⟨T12, h12, X12, e12, W12, st12⟩ := stB X5 hx hZ e5 Ar11 (j := (1 : Int32)) hin11 (g := (mkF m 31 #[.val (.ref oc), .val (.int 1), .val (.ref ob), .val (.int 1), .val (.int 7), .val (.int 1), .val (.int c1)] [(.int (c1.toInt8.toInt32)), (.int 1), (.ref ob)])) rfl rfl (hb hby d15_31)
  have N12 := Fr.snoc X12 N5 gb
  have Zs13 : n0 ≤ h12.size := by rw [W12.size]; exact Zs6
  have V12 : Arv Z h12 ob kb .byte (7 : Int32) [(.int (nar .byte (c0.toInt8.toInt32))), (.int (nar .byte (c1.toInt8.toInt32))), (.int 0), (.int 0), (.int 0), (.int 0), (.int 0)] (.int 0) := Arv.set Ar11 q11 S11 M11 H11 G11 (fits_nar_byte _) W12 1 rfl (Nat.le_of_ble_eq_true rfl)
  have hc7_14 : (2 : Int) < (7 : Int) := by decide
  have f15 := (f8.other W12 ncb)
  obtain ⟨cl16, Ar16, q16, S16, M16, H16, G16⟩ := id f15
  have hin16 : ¬ ((2 : Int32) < 0 ∨ cl16.slots.size ≤ ((2 : Int32)).toNatClampNeg) := inb_of S16 ⟨by decide, by decide⟩
  have hat16 : cl16.slots[((2 : Int32)).toNatClampNeg]? = some (.int c2) := Has.at H16 hin16 rfl
  have hc20_17 : ¬ ((255 : Int) < c2.toInt) := by omega
  obtain ⟨cl18, Ar18, q18, S18, M18, H18, G18⟩ := id V12
  have hin18 : ¬ ((2 : Int32) < 0 ∨ cl18.slots.size ≤ ((2 : Int32)).toNatClampNeg) := inb_of S18 ⟨by decide, by decide⟩
  obtain ⟨T19, h19, X19, e19, W19, st19⟩ := stB X12 hx hZ e12 Ar18 (j := (2 : Int32)) hin18 (g := (mkF m 31 #[.val (.ref oc), .val (.int 2), .val (.ref ob), .val (.int 2), .val (.int 7), .val (.int 2), .val (.int c2)] [(.int (c2.toInt8.toInt32)), (.int 2), (.ref ob)])) rfl rfl (hb hby d15_31)
  have N19 := Fr.snoc X19 N12 gb
  have Zs20 : n0 ≤ h19.size := by rw [W19.size]; exact Zs13
  have V19 : Arv Z h19 ob kb .byte (7 : Int32) [(.int (nar .byte (c0.toInt8.toInt32))), (.int (nar .byte (c1.toInt8.toInt32))), (.int (nar .byte (c2.toInt8.toInt32))), (.int 0), (.int 0), (.int 0), (.int 0)] (.int 0) := Arv.set Ar18 q18 S18 M18 H18 G18 (fits_nar_byte _) W19 2 rfl (Nat.le_of_ble_eq_true rfl)
  have hc7_21 : (3 : Int) < (7 : Int) := by decide
  have f22 := (f15.other W19 ncb)
  obtain ⟨cl23, Ar23, q23, S23, M23, H23, G23⟩ := id f22
  have hin23 : ¬ ((3 : Int32) < 0 ∨ cl23.slots.size ≤ ((3 : Int32)).toNatClampNeg) := inb_of S23 ⟨by decide, by decide⟩
  have hat23 : cl23.slots[((3 : Int32)).toNatClampNeg]? = some (.int c3) := Has.at H23 hin23 rfl
  have hc20_24 : ¬ ((255 : Int) < c3.toInt) := by omega
  obtain ⟨cl25, Ar25, q25, S25, M25, H25, G25⟩ := id V19
  have hin25 : ¬ ((3 : Int32) < 0 ∨ cl25.slots.size ≤ ((3 : Int32)).toNatClampNeg) := inb_of S25 ⟨by decide, by decide⟩
  obtain ⟨T26, h26, X26, e26, W26, st26⟩ := stB X19 hx hZ e19 Ar25 (j := (3 : Int32)) hin25 (g := (mkF m 31 #[.val (.ref oc), .val (.int 3), .val (.ref ob), .val (.int 3), .val (.int 7), .val (.int 3), .val (.int c3)] [(.int (c3.toInt8.toInt32)), (.int 3), (.ref ob)])) rfl rfl (hb hby d15_31)
  have N26 := Fr.snoc X26 N19 gb
  have Zs27 : n0 ≤ h26.size := by rw [W26.size]; exact Zs20
  have V26 : Arv Z h26 ob kb .byte (7 : Int32) [(.int (nar .byte (c0.toInt8.toInt32))), (.int (nar .byte (c1.toInt8.toInt32))), (.int (nar .byte (c2.toInt8.toInt32))), (.int (nar .byte (c3.toInt8.toInt32))), (.int 0), (.int 0), (.int 0)] (.int 0) := Arv.set Ar25 q25 S25 M25 H25 G25 (fits_nar_byte _) W26 3 rfl (Nat.le_of_ble_eq_true rfl)
  have hc7_28 : (4 : Int) < (7 : Int) := by decide
  have f29 := (f22.other W26 ncb)
  obtain ⟨cl30, Ar30, q30, S30, M30, H30, G30⟩ := id f29
  have hin30 : ¬ ((4 : Int32) < 0 ∨ cl30.slots.size ≤ ((4 : Int32)).toNatClampNeg) := inb_of S30 ⟨by decide, by decide⟩
  have hat30 : cl30.slots[((4 : Int32)).toNatClampNeg]? = some (.int c4) := Has.at H30 hin30 rfl
  have hc20_31 : ¬ ((255 : Int) < c4.toInt) := by omega
  obtain ⟨cl32, Ar32, q32, S32, M32, H32, G32⟩ := id V26
  have hin32 : ¬ ((4 : Int32) < 0 ∨ cl32.slots.size ≤ ((4 : Int32)).toNatClampNeg) := inb_of S32 ⟨by decide, by decide⟩
  obtain ⟨T33, h33, X33, e33, W33, st33⟩ := stB X26 hx hZ e26 Ar32 (j := (4 : Int32)) hin32 (g := (mkF m 31 #[.val (.ref oc), .val (.int 4), .val (.ref ob), .val (.int 4), .val (.int 7), .val (.int 4), .val (.int c4)] [(.int (c4.toInt8.toInt32)), (.int 4), (.ref ob)])) rfl rfl (hb hby d15_31)
  have N33 := Fr.snoc X33 N26 gb
  have Zs34 : n0 ≤ h33.size := by rw [W33.size]; exact Zs27
  have V33 : Arv Z h33 ob kb .byte (7 : Int32) [(.int (nar .byte (c0.toInt8.toInt32))), (.int (nar .byte (c1.toInt8.toInt32))), (.int (nar .byte (c2.toInt8.toInt32))), (.int (nar .byte (c3.toInt8.toInt32))), (.int (nar .byte (c4.toInt8.toInt32))), (.int 0), (.int 0)] (.int 0) := Arv.set Ar32 q32 S32 M32 H32 G32 (fits_nar_byte _) W33 4 rfl (Nat.le_of_ble_eq_true rfl)
  have hc7_35 : (5 : Int) < (7 : Int) := by decide
  have f36 := (f29.other W33 ncb)
  obtain ⟨cl37, Ar37, q37, S37, M37, H37, G37⟩ := id f36
  have hin37 : ¬ ((5 : Int32) < 0 ∨ cl37.slots.size ≤ ((5 : Int32)).toNatClampNeg) := inb_of S37 ⟨by decide, by decide⟩
  have hat37 : cl37.slots[((5 : Int32)).toNatClampNeg]? = some (.int c5) := Has.at H37 hin37 rfl
  have hc20_38 : ¬ ((255 : Int) < c5.toInt) := by omega
  obtain ⟨cl39, Ar39, q39, S39, M39, H39, G39⟩ := id V33
  have hin39 : ¬ ((5 : Int32) < 0 ∨ cl39.slots.size ≤ ((5 : Int32)).toNatClampNeg) := inb_of S39 ⟨by decide, by decide⟩
  obtain ⟨T40, h40, X40, e40, W40, st40⟩ := stB X33 hx hZ e33 Ar39 (j := (5 : Int32)) hin39 (g := (mkF m 31 #[.val (.ref oc), .val (.int 5), .val (.ref ob), .val (.int 5), .val (.int 7), .val (.int 5), .val (.int c5)] [(.int (c5.toInt8.toInt32)), (.int 5), (.ref ob)])) rfl rfl (hb hby d15_31)
  have N40 := Fr.snoc X40 N33 gb
  have Zs41 : n0 ≤ h40.size := by rw [W40.size]; exact Zs34
  have V40 : Arv Z h40 ob kb .byte (7 : Int32) [(.int (nar .byte (c0.toInt8.toInt32))), (.int (nar .byte (c1.toInt8.toInt32))), (.int (nar .byte (c2.toInt8.toInt32))), (.int (nar .byte (c3.toInt8.toInt32))), (.int (nar .byte (c4.toInt8.toInt32))), (.int (nar .byte (c5.toInt8.toInt32))), (.int 0)] (.int 0) := Arv.set Ar39 q39 S39 M39 H39 G39 (fits_nar_byte _) W40 5 rfl (Nat.le_of_ble_eq_true rfl)
  have hc7_42 : (6 : Int) < (7 : Int) := by decide
  have f43 := (f36.other W40 ncb)
  obtain ⟨cl44, Ar44, q44, S44, M44, H44, G44⟩ := id f43
  have hin44 : ¬ ((6 : Int32) < 0 ∨ cl44.slots.size ≤ ((6 : Int32)).toNatClampNeg) := inb_of S44 ⟨by decide, by decide⟩
  have hat44 : cl44.slots[((6 : Int32)).toNatClampNeg]? = some (.int c6) := Has.at H44 hin44 rfl
  have hc20_45 : ¬ ((255 : Int) < c6.toInt) := by omega
  obtain ⟨cl46, Ar46, q46, S46, M46, H46, G46⟩ := id V40
  have hin46 : ¬ ((6 : Int32) < 0 ∨ cl46.slots.size ≤ ((6 : Int32)).toNatClampNeg) := inb_of S46 ⟨by decide, by decide⟩
  obtain ⟨T47, h47, X47, e47, W47, st47⟩ := stB X40 hx hZ e40 Ar46 (j := (6 : Int32)) hin46 (g := (mkF m 31 #[.val (.ref oc), .val (.int 6), .val (.ref ob), .val (.int 6), .val (.int 7), .val (.int 6), .val (.int c6)] [(.int (c6.toInt8.toInt32)), (.int 6), (.ref ob)])) rfl rfl (hb hby d15_31)
  have N47 := Fr.snoc X47 N40 gb
  have Zs48 : n0 ≤ h47.size := by rw [W47.size]; exact Zs41
  have V47 : Arv Z h47 ob kb .byte (7 : Int32) [(.int (nar .byte (c0.toInt8.toInt32))), (.int (nar .byte (c1.toInt8.toInt32))), (.int (nar .byte (c2.toInt8.toInt32))), (.int (nar .byte (c3.toInt8.toInt32))), (.int (nar .byte (c4.toInt8.toInt32))), (.int (nar .byte (c5.toInt8.toInt32))), (.int (nar .byte (c6.toInt8.toInt32)))] (.int 0) := Arv.set Ar46 q46 S46 M46 H46 G46 (fits_nar_byte _) W47 6 rfl (Nat.le_of_ble_eq_true rfl)
  have hc7_49 : ¬ ((7 : Int) < (7 : Int)) := by decide
  subst hSS
  obtain ⟨fs, hr, q1, q2, q3, q4⟩ := X47.leave (v := some (.int 7)) (fun h => by rw [Bd.returns] at h; cases h)
  refine ⟨_, _, pre0 _ ?_, q1, q2, _, _, rfl, ?_, ⟨_, rfl⟩, q3, q4.mono (by decide) (by decide)⟩
  · refine XS.iconst X0.here hx rfl (hb hby d15_0) ?_
    refine XS.istore X0.here hx rfl (hb hby d15_1) rfl (l' := #[.val (.ref oc), .val (.int 0), .val (.ref ob), .val (.int 0), .val (.int 7), .val (.int 0), .unset]) rfl ?_
    refine XS.iload X0.here hx rfl (hb hby d15_3) rfl ?_
    refine XS.iload X0.here hx rfl (hb hby d15_5) rfl ?_
    refine XS.icmpNo X0.here hx rfl (hb hby d15_7) rfl (own_tlt (a := (0 : Int32)) (b := (7 : Int32)) (by decide) (by decide) hc7_1).2.1 ?_
    refine XS.aloadN X0.here hx rfl (hb hby d15_10) rfl rfl ?_
    refine XS.iloadN X0.here hx rfl (hb hby d15_11) rfl ?_
    refine X0.caload hx (j := (0 : Int32)) (v := (.int c0)) (by rw [e0]; exact Ar2.1) (State.isArrayOf_alike hZ.alike Ar2.2.1) Ar2.2.2 hin2 hat2 (g := (mkF m 12 #[.val (.ref oc), .val (.int 0), .val (.ref ob), .val (.int 0), .val (.int 7), .val (.int 0), .unset] [(.int 0), (.ref oc)])) rfl rfl (hb hby d15_12) _ ?_
    refine XS.istore X0.here hx rfl (hb hby d15_13) rfl (l' := #[.val (.ref oc), .val (.int 0), .val (.ref ob), .val (.int 0), .val (.int 7), .val (.int 0), .val (.int c0)]) rfl ?_
    refine XS.iload X0.here hx rfl (hb hby d15_15) rfl ?_
    refine XS.sipush X0.here hx rfl (hb hby d15_17) ?_
    refine XS.icmpYes X0.here hx rfl (pc0 := 20) (pc' := 26) rfl (hb hby d15_20) rfl (own_flt (a := (255 : Int32)) (b := c0) (by decide) rfl hc20_3).2.2.2 (by decide) (by decide) ?_
    refine XS.aloadN X0.here hx rfl (hb hby d15_26) rfl rfl ?_
    refine XS.iloadN X0.here hx rfl (hb hby d15_27) rfl ?_
    refine XS.iload X0.here hx rfl (hb hby d15_28) rfl ?_
    refine XS.i2b X0.here hx rfl (hb hby d15_30) rfl ?_
    refine st5 _ ?_
    refine XS.iinc X5.here hx rfl (hb hby d15_32) rfl (l' := #[.val (.ref oc), .val (.int 1), .val (.ref ob), .val (.int 0), .val (.int 7), .val (.int 0), .val (.int c0)]) rfl ?_
    refine XS.iinc X5.here hx rfl (hb hby d15_35) rfl (l' := #[.val (.ref oc), .val (.int 1), .val (.ref ob), .val (.int 1), .val (.int 7), .val (.int 0), .val (.int c0)]) rfl ?_
    show Steps p.tables e below (T5.setTop (mkF m 38 #[.val (.ref oc), .val (.int 1), .val (.ref ob), .val (.int 1), .val (.int 7), .val (.int 0), .val (.int c0)] [])) _
    refine XS.iinc X5.here hx rfl (hb hby d15_38) rfl (l' := #[.val (.ref oc), .val (.int 1), .val (.ref ob), .val (.int 1), .val (.int 7), .val (.int 1), .val (.int c0)]) rfl ?_
    refine XS.goto X5.here hx rfl (pc0 := 41) (pc' := 3) rfl (hb hby d15_41) (by decide) (by decide) ?_
    refine XS.iload X5.here hx rfl (hb hby d15_3) rfl ?_
    refine XS.iload X5.here hx rfl (hb hby d15_5) rfl ?_
    refine XS.icmpNo X5.here hx rfl (hb hby d15_7) rfl (own_tlt (a := (1 : Int32)) (b := (7 : Int32)) (by decide) (by decide) hc7_7).2.1 ?_
    refine XS.aloadN X5.here hx rfl (hb hby d15_10) rfl rfl ?_
    refine XS.iloadN X5.here hx rfl (hb hby d15_11) rfl ?_
    refine X5.caload hx (j := (1 : Int32)) (v := (.int c1)) (by rw [e5]; exact Ar9.1) (State.isArrayOf_alike hZ.alike Ar9.2.1) Ar9.2.2 hin9 hat9 (g := (mkF m 12 #[.val (.ref oc), .val (.int 1), .val (.ref ob), .val (.int 1), .val (.int 7), .val (.int 1), .val (.int c0)] [(.int 1), (.ref oc)])) rfl rfl (hb hby d15_12) _ ?_
    refine XS.istore X5.here hx rfl (hb hby d15_13) rfl (l' := #[.val (.ref oc), .val (.int 1), .val (.ref ob), .val (.int 1), .val (.int 7), .val (.int 1), .val (.int c1)]) rfl ?_
    refine XS.iload X5.here hx rfl (hb hby d15_15) rfl ?_
    refine XS.sipush X5.here hx rfl (hb hby d15_17) ?_
    refine XS.icmpYes X5.here hx rfl (pc0 := 20) (pc' := 26) rfl (hb hby d15_20) rfl (own_flt (a := (255 : Int32)) (b := c1) (by decide) rfl hc20_10).2.2.2 (by decide) (by decide) ?_
    refine XS.aloadN X5.here hx rfl (hb hby d15_26) rfl rfl ?_
    refine XS.iloadN X5.here hx rfl (hb hby d15_27) rfl ?_
    refine XS.iload X5.here hx rfl (hb hby d15_28) rfl ?_
    refine XS.i2b X5.here hx rfl (hb hby d15_30) rfl ?_
    refine st12 _ ?_
    refine XS.iinc X12.here hx rfl (hb hby d15_32) rfl (l' := #[.val (.ref oc), .val (.int 2), .val (.ref ob), .val (.int 1), .val (.int 7), .val (.int 1), .val (.int c1)]) rfl ?_
    refine XS.iinc X12.here hx rfl (hb hby d15_35) rfl (l' := #[.val (.ref oc), .val (.int 2), .val (.ref ob), .val (.int 2), .val (.int 7), .val (.int 1), .val (.int c1)]) rfl ?_
    refine XS.iinc X12.here hx rfl (hb hby d15_38) rfl (l' := #[.val (.ref oc), .val (.int 2), .val (.ref ob), .val (.int 2), .val (.int 7), .val (.int 2), .val (.int c1)]) rfl ?_
    show Steps p.tables e below (T12.setTop (mkF m 41 #[.val (.ref oc), .val (.int 2), .val (.ref ob), .val (.int 2), .val (.int 7), .val (.int 2), .val (.int c1)] [])) _
    refine XS.goto X12.here hx rfl (pc0 := 41) (pc' := 3) rfl (hb hby d15_41) (by decide) (by decide) ?_
    refine XS.iload X12.here hx rfl (hb hby d15_3) rfl ?_
    refine XS.iload X12.here hx rfl (hb hby d15_5) rfl ?_
    refine XS.icmpNo X12.here hx rfl (hb hby d15_7) rfl (own_tlt (a := (2 : Int32)) (b := (7 : Int32)) (by decide) (by decide) hc7_14).2.1 ?_
    refine XS.aloadN X12.here hx rfl (hb hby d15_10) rfl rfl ?_
    refine XS.iloadN X12.here hx rfl (hb hby d15_11) rfl ?_
    refine X12.caload hx (j := (2 : Int32)) (v := (.int c2)) (by rw [e12]; exact Ar16.1) (State.isArrayOf_alike hZ.alike Ar16.2.1) Ar16.2.2 hin16 hat16 (g := (mkF m 12 #[.val (.ref oc), .val (.int 2), .val (.ref ob), .val (.int 2), .val (.int 7), .val (.int 2), .val (.int c1)] [(.int 2), (.ref oc)])) rfl rfl (hb hby d15_12) _ ?_
    refine XS.istore X12.here hx rfl (hb hby d15_13) rfl (l' := #[.val (.ref oc), .val (.int 2), .val (.ref ob), .val (.int 2), .val (.int 7), .val (.int 2), .val (.int c2)]) rfl ?_
    refine XS.iload X12.here hx rfl (hb hby d15_15) rfl ?_
    refine XS.sipush X12.here hx rfl (hb hby d15_17) ?_
    refine XS.icmpYes X12.here hx rfl (pc0 := 20) (pc' := 26) rfl (hb hby d15_20) rfl (own_flt (a := (255 : Int32)) (b := c2) (by decide) rfl hc20_17).2.2.2 (by decide) (by decide) ?_
    refine XS.aloadN X12.here hx rfl (hb hby d15_26) rfl rfl ?_
    refine XS.iloadN X12.here hx rfl (hb hby d15_27) rfl ?_
    refine XS.iload X12.here hx rfl (hb hby d15_28) rfl ?_
    refine XS.i2b X12.here hx rfl (hb hby d15_30) rfl ?_
    refine st19 _ ?_
    refine XS.iinc X19.here hx rfl (hb hby d15_32) rfl (l' := #[.val (.ref oc), .val (.int 3), .val (.ref ob), .val (.int 2), .val (.int 7), .val (.int 2), .val (.int c2)]) rfl ?_
    refine XS.iinc X19.here hx rfl (hb hby d15_35) rfl (l' := #[.val (.ref oc), .val (.int 3), .val (.ref ob), .val (.int 3), .val (.int 7), .val (.int 2), .val (.int c2)]) rfl ?_
    refine XS.iinc X19.here hx rfl (hb hby d15_38) rfl (l' := #[.val (.ref oc), .val (.int 3), .val (.ref ob), .val (.int 3), .val (.int 7), .val (.int 3), .val (.int c2)]) rfl ?_
    refine XS.goto X19.here hx rfl (pc0 := 41) (pc' := 3) rfl (hb hby d15_41) (by decide) (by decide) ?_
    show Steps p.tables e below (T19.setTop (mkF m 3 #[.val (.ref oc), .val (.int 3), .val (.ref ob), .val (.int 3), .val (.int 7), .val (.int 3), .val (.int c2)] [])) _
    refine XS.iload X19.here hx rfl (hb hby d15_3) rfl ?_
    refine XS.iload X19.here hx rfl (hb hby d15_5) rfl ?_
    refine XS.icmpNo X19.here hx rfl (hb hby d15_7) rfl (own_tlt (a := (3 : Int32)) (b := (7 : Int32)) (by decide) (by decide) hc7_21).2.1 ?_
    refine XS.aloadN X19.here hx rfl (hb hby d15_10) rfl rfl ?_
    refine XS.iloadN X19.here hx rfl (hb hby d15_11) rfl ?_
    refine X19.caload hx (j := (3 : Int32)) (v := (.int c3)) (by rw [e19]; exact Ar23.1) (State.isArrayOf_alike hZ.alike Ar23.2.1) Ar23.2.2 hin23 hat23 (g := (mkF m 12 #[.val (.ref oc), .val (.int 3), .val (.ref ob), .val (.int 3), .val (.int 7), .val (.int 3), .val (.int c2)] [(.int 3), (.ref oc)])) rfl rfl (hb hby d15_12) _ ?_
    refine XS.istore X19.here hx rfl (hb hby d15_13) rfl (l' := #[.val (.ref oc), .val (.int 3), .val (.ref ob), .val (.int 3), .val (.int 7), .val (.int 3), .val (.int c3)]) rfl ?_
    refine XS.iload X19.here hx rfl (hb hby d15_15) rfl ?_
    refine XS.sipush X19.here hx rfl (hb hby d15_17) ?_
    refine XS.icmpYes X19.here hx rfl (pc0 := 20) (pc' := 26) rfl (hb hby d15_20) rfl (own_flt (a := (255 : Int32)) (b := c3) (by decide) rfl hc20_24).2.2.2 (by decide) (by decide) ?_
    refine XS.aloadN X19.here hx rfl (hb hby d15_26) rfl rfl ?_
    refine XS.iloadN X19.here hx rfl (hb hby d15_27) rfl ?_
    refine XS.iload X19.here hx rfl (hb hby d15_28) rfl ?_
    refine XS.i2b X19.here hx rfl (hb hby d15_30) rfl ?_
    refine st26 _ ?_
    refine XS.iinc X26.here hx rfl (hb hby d15_32) rfl (l' := #[.val (.ref oc), .val (.int 4), .val (.ref ob), .val (.int 3), .val (.int 7), .val (.int 3), .val (.int c3)]) rfl ?_
    refine XS.iinc X26.here hx rfl (hb hby d15_35) rfl (l' := #[.val (.ref oc), .val (.int 4), .val (.ref ob), .val (.int 4), .val (.int 7), .val (.int 3), .val (.int c3)]) rfl ?_
    refine XS.iinc X26.here hx rfl (hb hby d15_38) rfl (l' := #[.val (.ref oc), .val (.int 4), .val (.ref ob), .val (.int 4), .val (.int 7), .val (.int 4), .val (.int c3)]) rfl ?_
    refine XS.goto X26.here hx rfl (pc0 := 41) (pc' := 3) rfl (hb hby d15_41) (by decide) (by decide) ?_
    refine XS.iload X26.here hx rfl (hb hby d15_3) rfl ?_
    show Steps p.tables e below (T26.setTop (mkF m 5 #[.val (.ref oc), .val (.int 4), .val (.ref ob), .val (.int 4), .val (.int 7), .val (.int 4), .val (.int c3)] [(.int 4)])) _
    refine XS.iload X26.here hx rfl (hb hby d15_5) rfl ?_
    refine XS.icmpNo X26.here hx rfl (hb hby d15_7) rfl (own_tlt (a := (4 : Int32)) (b := (7 : Int32)) (by decide) (by decide) hc7_28).2.1 ?_
    refine XS.aloadN X26.here hx rfl (hb hby d15_10) rfl rfl ?_
    refine XS.iloadN X26.here hx rfl (hb hby d15_11) rfl ?_
    refine X26.caload hx (j := (4 : Int32)) (v := (.int c4)) (by rw [e26]; exact Ar30.1) (State.isArrayOf_alike hZ.alike Ar30.2.1) Ar30.2.2 hin30 hat30 (g := (mkF m 12 #[.val (.ref oc), .val (.int 4), .val (.ref ob), .val (.int 4), .val (.int 7), .val (.int 4), .val (.int c3)] [(.int 4), (.ref oc)])) rfl rfl (hb hby d15_12) _ ?_
    refine XS.istore X26.here hx rfl (hb hby d15_13) rfl (l' := #[.val (.ref oc), .val (.int 4), .val (.ref ob), .val (.int 4), .val (.int 7), .val (.int 4), .val (.int c4)]) rfl ?_
    refine XS.iload X26.here hx rfl (hb hby d15_15) rfl ?_
    refine XS.sipush X26.here hx rfl (hb hby d15_17) ?_
    refine XS.icmpYes X26.here hx rfl (pc0 := 20) (pc' := 26) rfl (hb hby d15_20) rfl (own_flt (a := (255 : Int32)) (b := c4) (by decide) rfl hc20_31).2.2.2 (by decide) (by decide) ?_
    refine XS.aloadN X26.here hx rfl (hb hby d15_26) rfl rfl ?_
    refine XS.iloadN X26.here hx rfl (hb hby d15_27) rfl ?_
    refine XS.iload X26.here hx rfl (hb hby d15_28) rfl ?_
    refine XS.i2b X26.here hx rfl (hb hby d15_30) rfl ?_
    refine st33 _ ?_
    refine XS.iinc X33.here hx rfl (hb hby d15_32) rfl (l' := #[.val (.ref oc), .val (.int 5), .val (.ref ob), .val (.int 4), .val (.int 7), .val (.int 4), .val (.int c4)]) rfl ?_
    refine XS.iinc X33.here hx rfl (hb hby d15_35) rfl (l' := #[.val (.ref oc), .val (.int 5), .val (.ref ob), .val (.int 5), .val (.int 7), .val (.int 4), .val (.int c4)]) rfl ?_
    refine XS.iinc X33.here hx rfl (hb hby d15_38) rfl (l' := #[.val (.ref oc), .val (.int 5), .val (.ref ob), .val (.int 5), .val (.int 7), .val (.int 5), .val (.int c4)]) rfl ?_
    refine XS.goto X33.here hx rfl (pc0 := 41) (pc' := 3) rfl (hb hby d15_41) (by decide) (by decide) ?_
    refine XS.iload X33.here hx rfl (hb hby d15_3) rfl ?_
    refine XS.iload X33.here hx rfl (hb hby d15_5) rfl ?_
    show Steps p.tables e below (T33.setTop (mkF m 7 #[.val (.ref oc), .val (.int 5), .val (.ref ob), .val (.int 5), .val (.int 7), .val (.int 5), .val (.int c4)] [(.int 7), (.int 5)])) _
    refine XS.icmpNo X33.here hx rfl (hb hby d15_7) rfl (own_tlt (a := (5 : Int32)) (b := (7 : Int32)) (by decide) (by decide) hc7_35).2.1 ?_
    refine XS.aloadN X33.here hx rfl (hb hby d15_10) rfl rfl ?_
    refine XS.iloadN X33.here hx rfl (hb hby d15_11) rfl ?_
    refine X33.caload hx (j := (5 : Int32)) (v := (.int c5)) (by rw [e33]; exact Ar37.1) (State.isArrayOf_alike hZ.alike Ar37.2.1) Ar37.2.2 hin37 hat37 (g := (mkF m 12 #[.val (.ref oc), .val (.int 5), .val (.ref ob), .val (.int 5), .val (.int 7), .val (.int 5), .val (.int c4)] [(.int 5), (.ref oc)])) rfl rfl (hb hby d15_12) _ ?_
    refine XS.istore X33.here hx rfl (hb hby d15_13) rfl (l' := #[.val (.ref oc), .val (.int 5), .val (.ref ob), .val (.int 5), .val (.int 7), .val (.int 5), .val (.int c5)]) rfl ?_
    refine XS.iload X33.here hx rfl (hb hby d15_15) rfl ?_
    refine XS.sipush X33.here hx rfl (hb hby d15_17) ?_
    refine XS.icmpYes X33.here hx rfl (pc0 := 20) (pc' := 26) rfl (hb hby d15_20) rfl (own_flt (a := (255 : Int32)) (b := c5) (by decide) rfl hc20_38).2.2.2 (by decide) (by decide) ?_
    refine XS.aloadN X33.here hx rfl (hb hby d15_26) rfl rfl ?_
    refine XS.iloadN X33.here hx rfl (hb hby d15_27) rfl ?_
    refine XS.iload X33.here hx rfl (hb hby d15_28) rfl ?_
    refine XS.i2b X33.here hx rfl (hb hby d15_30) rfl ?_
    refine st40 _ ?_
    refine XS.iinc X40.here hx rfl (hb hby d15_32) rfl (l' := #[.val (.ref oc), .val (.int 6), .val (.ref ob), .val (.int 5), .val (.int 7), .val (.int 5), .val (.int c5)]) rfl ?_
    refine XS.iinc X40.here hx rfl (hb hby d15_35) rfl (l' := #[.val (.ref oc), .val (.int 6), .val (.ref ob), .val (.int 6), .val (.int 7), .val (.int 5), .val (.int c5)]) rfl ?_
    refine XS.iinc X40.here hx rfl (hb hby d15_38) rfl (l' := #[.val (.ref oc), .val (.int 6), .val (.ref ob), .val (.int 6), .val (.int 7), .val (.int 6), .val (.int c5)]) rfl ?_
    refine XS.goto X40.here hx rfl (pc0 := 41) (pc' := 3) rfl (hb hby d15_41) (by decide) (by decide) ?_
    refine XS.iload X40.here hx rfl (hb hby d15_3) rfl ?_
    refine XS.iload X40.here hx rfl (hb hby d15_5) rfl ?_
    refine XS.icmpNo X40.here hx rfl (hb hby d15_7) rfl (own_tlt (a := (6 : Int32)) (b := (7 : Int32)) (by decide) (by decide) hc7_42).2.1 ?_
    show Steps p.tables e below (T40.setTop (mkF m 10 #[.val (.ref oc), .val (.int 6), .val (.ref ob), .val (.int 6), .val (.int 7), .val (.int 6), .val (.int c5)] [])) _
    refine XS.aloadN X40.here hx rfl (hb hby d15_10) rfl rfl ?_
    refine XS.iloadN X40.here hx rfl (hb hby d15_11) rfl ?_
    refine X40.caload hx (j := (6 : Int32)) (v := (.int c6)) (by rw [e40]; exact Ar44.1) (State.isArrayOf_alike hZ.alike Ar44.2.1) Ar44.2.2 hin44 hat44 (g := (mkF m 12 #[.val (.ref oc), .val (.int 6), .val (.ref ob), .val (.int 6), .val (.int 7), .val (.int 6), .val (.int c5)] [(.int 6), (.ref oc)])) rfl rfl (hb hby d15_12) _ ?_
    refine XS.istore X40.here hx rfl (hb hby d15_13) rfl (l' := #[.val (.ref oc), .val (.int 6), .val (.ref ob), .val (.int 6), .val (.int 7), .val (.int 6), .val (.int c6)]) rfl ?_
    refine XS.iload X40.here hx rfl (hb hby d15_15) rfl ?_
    refine XS.sipush X40.here hx rfl (hb hby d15_17) ?_
    refine XS.icmpYes X40.here hx rfl (pc0 := 20) (pc' := 26) rfl (hb hby d15_20) rfl (own_flt (a := (255 : Int32)) (b := c6) (by decide) rfl hc20_45).2.2.2 (by decide) (by decide) ?_
    refine XS.aloadN X40.here hx rfl (hb hby d15_26) rfl rfl ?_
    refine XS.iloadN X40.here hx rfl (hb hby d15_27) rfl ?_
    refine XS.iload X40.here hx rfl (hb hby d15_28) rfl ?_
    refine XS.i2b X40.here hx rfl (hb hby d15_30) rfl ?_
    refine st47 _ ?_
    refine XS.iinc X47.here hx rfl (hb hby d15_32) rfl (l' := #[.val (.ref oc), .val (.int 7), .val (.ref ob), .val (.int 6), .val (.int 7), .val (.int 6), .val (.int c6)]) rfl ?_
    refine XS.iinc X47.here hx rfl (hb hby d15_35) rfl (l' := #[.val (.ref oc), .val (.int 7), .val (.ref ob), .val (.int 7), .val (.int 7), .val (.int 6), .val (.int c6)]) rfl ?_
    refine XS.iinc X47.here hx rfl (hb hby d15_38) rfl (l' := #[.val (.ref oc), .val (.int 7), .val (.ref ob), .val (.int 7), .val (.int 7), .val (.int 7), .val (.int c6)]) rfl ?_
    refine XS.goto X47.here hx rfl (pc0 := 41) (pc' := 3) rfl (hb hby d15_41) (by decide) (by decide) ?_
    refine XS.iload X47.here hx rfl (hb hby d15_3) rfl ?_
    refine XS.iload X47.here hx rfl (hb hby d15_5) rfl ?_
    refine XS.icmpYes X47.here hx rfl (pc0 := 7) (pc' := 44) rfl (hb hby d15_7) rfl (own_flt (a := (7 : Int32)) (b := (7 : Int32)) (by decide) (by decide) hc7_49).2.1 (by decide) (by decide) ?_
    refine XS.iload X47.here hx rfl (hb hby d15_44) rfl ?_
    show Steps p.tables e below (T47.setTop (mkF m 46 #[.val (.ref oc), .val (.int 7), .val (.ref ob), .val (.int 7), .val (.int 7), .val (.int 7), .val (.int c6)] [(.int 7)])) _
    exact retI X47 hx Bd.returns (hb hby d15_46) hr
  · show Q_cp7 Z _ _ _ _ _ _ _ _ _ _ _ h0 n0 _ T47.heap _
    rw [e47]
    have f50 := ((((((((Keep.refl h0 [ob]).wr W5 (Or.inl (List.mem_of_getElem? (i := 0) rfl))).wr W12 (Or.inl (List.mem_of_getElem? (i := 0) rfl))).wr W19 (Or.inl (List.mem_of_getElem? (i := 0) rfl))).wr W26 (Or.inl (List.mem_of_getElem? (i := 0) rfl))).wr W33 (Or.inl (List.mem_of_getElem? (i := 0) rfl))).wr W40 (Or.inl (List.mem_of_getElem? (i := 0) rfl))).wr W47 (Or.inl (List.mem_of_getElem? (i := 0) rfl)))
    exact ⟨_, _, _, _, _, _, _, rfl, N47, f50, V47, own_b2 c0 uc0 vc0, own_b2 c1 uc1 vc1, own_b2 c2 uc2 vc2, own_b2 c3 uc3 vc3, own_b2 c4 uc4 vc4, own_b2 c5 uc5 vc5, own_b2 c6 uc6 vc6⟩
theorem ef_rm_cm7 (m : MethodId) (x0 : Addr) : entryFrame m #[(.ref x0), (.int 0), (.int 7)] 6 = mkF m 0 #[.val (.ref x0), .val (.int 0), .val (.int 7), .unset, .unset, .unset] [] := by first | (simp [entryFrame, mkF, argsToLocals, Value.category]; done) | rfl
def Q_cm7 (Z : State) (oc : Addr) (kC : ClassId) (c0 : Int32) (c1 : Int32) (c2 : Int32) (c3 : Int32) (c4 : Int32) (c5 : Int32) (c6 : Int32) (h0 : Heap) (n0 : Nat) (v : Option Value) (h : Heap) (L : List Loc) : Prop := ∃ (ob : Addr) (kb : ClassId) (bb0 bb1 bb2 bb3 bb4 bb5 bb6 : Int32), v = some (.ref ob) ∧ Fr n0 L ∧ Keep h0 h [] ∧ n0 ≤ ob ∧ h0.size ≤ ob ∧ Arv Z h ob kb .byte (7 : Int32) [(.int bb0), (.int bb1), (.int bb2), (.int bb3), (.int bb4), (.int bb5), (.int bb6)] (.int 0) ∧ bb0.toInt % 256 = c0.toInt ∧ bb1.toInt % 256 = c1.toInt ∧ bb2.toInt % 256 = c2.toInt ∧ bb3.toInt % 256 = c3.toInt ∧ bb4.toInt % 256 = c4.toInt ∧ bb5.toInt % 256 = c5.toInt ∧ bb6.toInt % 256 = c6.toInt
theorem rm_cm7 (l : Launch) (Z : State) (a0 : Array Value) (hw : ∀ d ∈ tables_1, d.before a0 Z = true) (ws : List Jvm.Cond) (oc : Addr) (kC : ClassId) (c0 : Int32) (c1 : Int32) (c2 : Int32) (c3 : Int32) (c4 : Int32) (c5 : Int32) (c6 : Int32) (h0 : Heap) (n0 : Nat) (Z0 : n0 ≤ h0.size) (Vc : Arv Z h0 oc kC .char (7 : Int32) [(.int c0), (.int c1), (.int c2), (.int c3), (.int c4), (.int c5), (.int c6)] (.int 0)) (uc0 : 0 ≤ c0.toInt) (uc1 : 0 ≤ c1.toInt) (uc2 : 0 ≤ c2.toInt) (uc3 : 0 ≤ c3.toInt) (uc4 : 0 ≤ c4.toInt) (uc5 : 0 ≤ c5.toInt) (uc6 : 0 ≤ c6.toInt) (vc0 : c0.toInt ≤ 255) (vc1 : c1.toInt ≤ 255) (vc2 : c2.toInt ≤ 255) (vc3 : c3.toInt ≤ 255) (vc4 : c4.toInt ≤ 255) (vc5 : c5.toInt ≤ 255) (vc6 : c6.toInt ≤ 255) :
    MetFree l yn14 (head1 (Jvm.Cond.code yn14 kc14 6 (some (.array .byte)) :: ws) ⟨1, 1, 7, 18⟩) (fun a U => a = #[(.ref oc), (.int 0), (.int 7)] ∧ Z.Warmed39 U.vm ∧ U.heap = h0) (fun _ _ _ _ _ => True) (fun _ U o U' => ∃ v L, o = .returned v ∧ Q_cm7 Z oc kC c0 c1 c2 c3 c4 c5 c6 h0 n0 v U'.heap L ∧ FrameEnd U o U' L 1 7) := by
  refine MetFree.of_bodySF (plainFor_of_name pn_4) hisR ?_
  intro p e s m args below meth c s₁ Bd hml0 hP hK
  obtain ⟨rfl, hZ, hh⟩ := hP
  have hx := Bd.exec
  have hby := Bd.bytes
  have hml : c.maxLocals = 6 := hml0
  have hown : s.vm.findClass "java/lang/StringUTF16" = some m.cls := findClass_of_methodNamed Bd.named
  have hnm := (name_of_methodNamed Bd.named Bd.method).1
  have X0 : Stand p l e ⟨1, 1, 7, 18⟩ s m #[(.ref oc), (.int 0), (.int 7)] below meth c s₁ [] 0 0 := Stand.of_body Bd
  have e0 : s₁.heap = h0 := by rw [← hh, Bd.state]; rfl
  have N0 := Fr.nil n0
  obtain ⟨SS, hSS⟩ : ∃ S, S = s₁.setTop (entryFrame m #[(.ref oc), (.int 0), (.int 7)] 6) := ⟨_, rfl⟩
  have pre0 : oP p e below (s₁.setTop (mkF m 0 #[.val (.ref oc), .val (.int 0), .val (.int 7), .unset, .unset, .unset] [])) (SS) := by
    rw [hSS]; exact fun t k => castTop (ef_rm_cm7 m oc) k
  obtain ⟨T1, h1, k1, X1, e1, E1, A1, st1⟩ := newP X0 hx hZ (ow hw 3 rfl) e0 (g := (mkF m 1 #[.val (.ref oc), .val (.int 0), .val (.int 7), .unset, .unset, .unset] [(.int 7)])) rfl (hb hby d14_1) rfl (by decide) (cap := 7) (by decide) (by decide) (by decide) (by decide)
  obtain ⟨b1, g1⟩ : ∃ z, z = h0.size := ⟨_, rfl⟩
  have ne_oc_b1 : oc ≠ b1 := Nat.ne_of_lt (Nat.lt_of_lt_of_le Vc.lt (Nat.le_of_eq g1.symm))
  have g_b1 : n0 ≤ b1 := Nat.le_trans Z0 (Nat.le_of_eq g1.symm)
  have sz_b1 : h0.size ≤ b1 := Nat.le_trans (Keep.refl h0 []).1 (Nat.le_of_eq g1.symm)
  rw [← g1] at A1 st1
  have Zs2 : n0 ≤ h1.size := Nat.le_trans Z0 E1.1
  have V1 : Arv Z h1 b1 k1 .byte (7 : Int32) [(.int 0), (.int 0), (.int 0), (.int 0), (.int 0), (.int 0), (.int 0)] (.int 0) := (Arv.new A1 (by decide)).pad (pad_rep [] (.int 0) 7)
  have f4 := (Vc.ext E1)
  obtain ⟨_, _, ⟨T3, L3, k3, n3⟩, -, X3, ⟨Lc3, hQ3, l3, y3, z3⟩, st3⟩ := Jvm.LawKit.callS X1 hx (y := yn13) hown (mvT hZ (ow hw 69 rfl)) (mvT hZ (ow hw 70 rfl)) (mvT hZ (ow hw 67 rfl)) (mvT hZ (ow hw 71 rfl)) (by decide) (backOf (W := 0) (rm_cp7 l Z a0 hw [] oc b1 kC c0 c1 c2 c3 c4 c5 c6 k1 h1 n0 Zs2 f4 uc0 uc1 uc2 uc3 uc4 uc5 uc6 vc0 vc1 vc2 vc3 vc4 vc5 vc6 V1 g_b1 ne_oc_b1) hZ (ow hw 71 rfl) (ow hw 67 rfl) (by decide) (by decide)) (g := (mkF m 9 #[.val (.ref oc), .val (.int 0), .val (.int 7), .val (.ref b1), .unset, .unset] [(.int 7), (.int 0), (.ref b1), (.int 0), (.ref oc)])) rfl (by rw [hml]; rfl) (argsL := [(.ref oc), (.int 0), (.ref b1), (.int 0), (.int 7)]) (rest := []) (lenOf pd_10 rfl) rfl (by exact Nat.le_of_eq rfl) (hb hby d14_9) (fun _ _ => ⟨rfl, e1, (by decide : 1 + 0 ≤ _), (by decide : 7 + 0 ≤ _)⟩)
  dsimp only [Pt.U, Pt.locs, Pt.cells, Pt.slots] at X3 l3 y3 z3 st3 hQ3
  rw [l3, y3, z3] at X3
  obtain ⟨bb0, bb1, bb2, bb3, bb4, bb5, bb6, rfl, N3q, K3, Vb3, qbb0, qbb1, qbb2, qbb3, qbb4, qbb5, qbb6⟩ := hQ3
  have N3 := Fr.app N0 N3q
  have Zs5 : n0 ≤ T3.heap.size := Nat.le_trans Zs2 K3.1
  have hc17_6 : (7 : Int) = (7 : Int) := by decide
  subst hSS
  obtain ⟨fs, hr, q1, q2, q3, q4⟩ := X3.leave (v := some (.ref b1)) (fun h => by rw [Bd.returns] at h; cases h)
  refine ⟨_, _, pre0 _ ?_, q1, q2, _, _, rfl, ?_, ⟨_, rfl⟩, q3, q4.mono (by decide) (by decide)⟩
  · refine XS.iloadN X0.here hx rfl (hb hby d14_0) rfl ?_
    refine st1 _ ?_
    refine XS.astoreN X1.here hx rfl (hb hby d14_3) rfl rfl (l' := #[.val (.ref oc), .val (.int 0), .val (.int 7), .val (.ref b1), .unset, .unset]) rfl ?_
    refine XS.aloadN X1.here hx rfl (hb hby d14_4) rfl rfl ?_
    refine XS.iloadN X1.here hx rfl (hb hby d14_5) rfl ?_
    refine XS.aloadN X1.here hx rfl (hb hby d14_6) rfl rfl ?_
    refine XS.iconst X1.here hx rfl (hb hby d14_7) ?_
    refine XS.iloadN X1.here hx rfl (hb hby d14_8) rfl ?_
    refine st3 _ ?_
    refine XS.istore X3.here hx rfl (hb hby d14_12) rfl (l' := #[.val (.ref oc), .val (.int 0), .val (.int 7), .val (.ref b1), .val (.int 7), .unset]) rfl ?_
    refine XS.iload X3.here hx rfl (hb hby d14_14) rfl ?_
    refine XS.iloadN X3.here hx rfl (hb hby d14_16) rfl ?_
    refine XS.icmpYes X3.here hx rfl (pc0 := 17) (pc' := 57) rfl (hb hby d14_17) rfl (own_teq (a := (7 : Int32)) (b := (7 : Int32)) (by decide) (by decide) hc17_6).1 (by decide) (by decide) ?_
    refine XS.aloadN X3.here hx rfl (hb hby d14_57) rfl rfl ?_
    jvm_step X3.here [X3.here.top, hx, (hb hby d14_58), X3.method', Bd.returns, Value.isRef, FieldType.isReference]
    first | (intro acts; rw [hr _ acts rfl rfl rfl]) | rw [hr _ _ rfl rfl rfl]
    exact Steps.refl _
  · show Q_cm7 Z _ _ _ _ _ _ _ _ _ h0 n0 _ T3.heap _
    have f7 := (((Keep.refl h0 []).ext E1).trans K3 (allS (P := fun x => x ∈ [] ∨ h0.size ≤ x) (Or.inr sz_b1) all0))
    exact ⟨b1, _, bb0, bb1, bb2, bb3, bb4, bb5, bb6, rfl, N3, f7, g_b1, sz_b1, Vb3, qbb0, qbb1, qbb2, qbb3, qbb4, qbb5, qbb6⟩
theorem ef_rm_cf7_0 (m : MethodId) (x0 : Addr) : entryFrame m #[(.ref x0), (.int 7)] 2 = mkF m 0 #[.val (.ref x0), .val (.int 7)] [] := by first | (simp [entryFrame, mkF, argsToLocals, Value.category]; done) | rfl
def Q_cf7_0 (Z : State) (ob : Addr) (kb : ClassId) (vs : List Value) (h0 : Heap) (n0 : Nat) (v : Option Value) (h : Heap) (L : List Loc) : Prop := ∃ z : Int32, v = some (.int z) ∧ (z = (0 : Int32)) ∧ Fr n0 L ∧ h = h0
theorem rm_cf7_0 (l : Launch) (Z : State) (a0 : Array Value) (hw : ∀ d ∈ tables_1, d.before a0 Z = true) (ws : List Jvm.Cond) (ob : Addr) (kb : ClassId) (vs : List Value) (h0 : Heap) (n0 : Nat) (Z0 : n0 ≤ h0.size) (Vb : Arv Z h0 ob kb .byte (7 : Int32) vs (.int 0)) :
    MetFree l yn15 (head1 (Jvm.Cond.code yn15 kc15 2 (some .byte) :: ws) ⟨0, 0, 0, 0⟩) (fun a U => a = #[(.ref ob), (.int 7)] ∧ Z.Warmed39 U.vm ∧ U.heap = h0) (fun _ _ _ _ _ => True) (fun _ U o U' => ∃ v L, o = .returned v ∧ Q_cf7_0 Z ob kb vs h0 n0 v U'.heap L ∧ FrameEnd U o U' L 0 0) := by
  refine MetFree.of_bodySF (plainFor_of_name pn_4) hisR ?_
  intro p e s m args below meth c s₁ Bd hml0 hP hK
  obtain ⟨rfl, hZ, hh⟩ := hP
  have hx := Bd.exec
  have hby := Bd.bytes
  have hml : c.maxLocals = 2 := hml0
  have hown : s.vm.findClass "java/lang/StringUTF16" = some m.cls := findClass_of_methodNamed Bd.named
  have hnm := (name_of_methodNamed Bd.named Bd.method).1
  have X0 : Stand p l e ⟨0, 0, 0, 0⟩ s m #[(.ref ob), (.int 7)] below meth c s₁ [] 0 0 := Stand.of_body Bd
  have e0 : s₁.heap = h0 := by rw [← hh, Bd.state]; rfl
  have N0 := Fr.nil n0
  obtain ⟨SS, hSS⟩ : ∃ S, S = s₁.setTop (entryFrame m #[(.ref ob), (.int 7)] 2) := ⟨_, rfl⟩
  have pre0 : oP p e below (s₁.setTop (mkF m 0 #[.val (.ref ob), .val (.int 7)] [])) (SS) := by
    rw [hSS]; exact fun t k => castTop (ef_rm_cf7_0 m ob) k
  obtain ⟨cl1, Ar1, q1, S1, M1, H1, G1⟩ := id Vb
  subst hSS
  obtain ⟨fs, hr, q1, q2, q3, q4⟩ := X0.leave (v := some (.int 0)) (fun h => by rw [Bd.returns] at h; cases h)
  refine ⟨_, _, pre0 _ ?_, q1, q2, _, _, rfl, ?_, ⟨_, rfl⟩, q3, q4.mono (by decide) (by decide)⟩
  · refine XS.iloadN X0.here hx rfl (hb hby d16_0) rfl ?_
    refine XS.aloadN X0.here hx rfl (hb hby d16_1) rfl rfl ?_
    refine X0.arraylength hx (by rw [e0]; exact Ar1.1) (State.isArrayOf_alike hZ.alike Ar1.2.1) (g := (mkF m 2 #[.val (.ref ob), .val (.int 7)] [(.ref ob), (.int 7)])) rfl rfl (hb hby d16_2) _ ?_
    rw [len_of S1 M1]
    refine XS.isub X0.here hx rfl (hb hby d16_3) rfl ?_
    refine XS.bipush X0.here hx rfl (hb hby d16_4) ?_
    refine XS.iushr X0.here hx rfl (hb hby d16_6) rfl ?_
    refine XS.i2b X0.here hx rfl (hb hby d16_7) rfl ?_
    exact retN X0 hx (t := .byte) Bd.returns (by simp) (hb hby d16_8) hr
  · show Q_cf7_0 Z _ _ _ h0 n0 _ s₁.heap _
    rw [e0]
    exact ⟨_, rfl, rfl, N0, rfl⟩
theorem ef_rm_iv7 (m : MethodId) (x0 : Addr) (x1 : Addr) : entryFrame m #[(.ref x0), (.ref x1), (.int 0), (.int 7), .null] 6 = mkF m 0 #[.val (.ref x0), .val (.ref x1), .val (.int 0), .val (.int 7), .val .null, .unset] [] := by first | (simp [entryFrame, mkF, argsToLocals, Value.category]; done) | rfl
def Q_iv7 (Z : State) (oa : Addr) (oc : Addr) (vcs : Int32) (vf : Value) (kC : ClassId) (c0 : Int32) (c1 : Int32) (c2 : Int32) (c3 : Int32) (c4 : Int32) (c5 : Int32) (c6 : Int32) (h0 : Heap) (n0 : Nat) (v : Option Value) (h : Heap) (L : List Loc) : Prop := v = none ∧ Fr n0 L ∧ Keep h0 h [oa] ∧ Exa Z h oa "java/lang/String" ∧ ∃ (ob : Addr) (kb : ClassId) (bb0 bb1 bb2 bb3 bb4 bb5 bb6 : Int32), n0 ≤ ob ∧ h0.size ≤ ob ∧ Fld Z h oa "java/lang/String" "coder" "B" (.int 0) ∧ Fld Z h oa "java/lang/String" "value" "[B" (.ref ob) ∧ Arv Z h ob kb .byte (7 : Int32) [(.int bb0), (.int bb1), (.int bb2), (.int bb3), (.int bb4), (.int bb5), (.int bb6)] (.int 0) ∧ bb0.toInt % 256 = c0.toInt ∧ bb1.toInt % 256 = c1.toInt ∧ bb2.toInt % 256 = c2.toInt ∧ bb3.toInt % 256 = c3.toInt ∧ bb4.toInt % 256 = c4.toInt ∧ bb5.toInt % 256 = c5.toInt ∧ bb6.toInt % 256 = c6.toInt
theorem rm_iv7 (l : Launch) (Z : State) (a0 : Array Value) (hw : ∀ d ∈ tables_1, d.before a0 Z = true) (ws : List Jvm.Cond) (oa : Addr) (oc : Addr) (vcs : Int32) (vf : Value) (kC : ClassId) (c0 : Int32) (c1 : Int32) (c2 : Int32) (c3 : Int32) (c4 : Int32) (c5 : Int32) (c6 : Int32) (h0 : Heap) (n0 : Nat) (Z0 : n0 ≤ h0.size) (Os : own_st Z h0 vcs vf) (Es : Exa Z h0 oa "java/lang/String") (Fc : Fld Z h0 oa "java/lang/String" "coder" "B" (.int 0)) (Fv : Fld Z h0 oa "java/lang/String" "value" "[B" .null) (ga : n0 ≤ oa) (nac : oa ≠ oc) (Vc : Arv Z h0 oc kC .char (7 : Int32) [(.int c0), (.int c1), (.int c2), (.int c3), (.int c4), (.int c5), (.int c6)] (.int 0)) (uc0 : 0 ≤ c0.toInt) (uc1 : 0 ≤ c1.toInt) (uc2 : 0 ≤ c2.toInt) (uc3 : 0 ≤ c3.toInt) (uc4 : 0 ≤ c4.toInt) (uc5 : 0 ≤ c5.toInt) (uc6 : 0 ≤ c6.toInt) (vc0 : c0.toInt ≤ 255) (vc1 : c1.toInt ≤ 255) (vc2 : c2.toInt ≤ 255) (vc3 : c3.toInt ≤ 255) (vc4 : c4.toInt ≤ 255) (vc5 : c5.toInt ≤ 255) (vc6 : c6.toInt ≤ 255) :
    MetFree l yn11 (head1 (Jvm.Cond.code yn11 kc11 6 none :: ws) ⟨2, 1, 7, 35⟩) (fun a U => a = #[(.ref oa), (.ref oc), (.int 0), (.int 7), .null] ∧ Z.Warmed39 U.vm ∧ U.heap = h0) (fun _ _ _ _ _ => True) (fun _ U o U' => ∃ v L, o = .returned v ∧ Q_iv7 Z oa oc vcs vf kC c0 c1 c2 c3 c4 c5 c6 h0 n0 v U'.heap L ∧ FrameEnd U o U' L 1 7) := by
  refine MetFree.of_bodySF (plainFor_of_name pn_1) hisR ?_
  intro p e s m args below meth c s₁ Bd hml0 hP hK
  obtain ⟨rfl, hZ, hh⟩ := hP
  have hx := Bd.exec
  have hby := Bd.bytes
  have hml : c.maxLocals = 6 := hml0
  have hown : s.vm.findClass "java/lang/String" = some m.cls := findClass_of_methodNamed Bd.named
  have hnm := (name_of_methodNamed Bd.named Bd.method).1
  have X0 : Stand p l e ⟨2, 1, 7, 35⟩ s m #[(.ref oa), (.ref oc), (.int 0), (.int 7), .null] below meth c s₁ [] 0 0 := Stand.of_body Bd
  have e0 : s₁.heap = h0 := by rw [← hh, Bd.state]; rfl
  have N0 := Fr.nil n0
  obtain ⟨SS, hSS⟩ : ∃ S, S = s₁.setTop (entryFrame m #[(.ref oa), (.ref oc), (.int 0), (.int 7), .null] 6) := ⟨_, rfl⟩
  have pre0 : oP p e below (s₁.setTop (mkF m 0 #[.val (.ref oa), .val (.ref oc), .val (.int 0), .val (.int 7), .val .null, .unset] [])) (SS) := by
    rw [hSS]; exact fun t k => castTop (ef_rm_iv7 m oa oc) k
  obtain ⟨T1, X1, e1, st1⟩ := initO X0 hx hZ hown (ow hw 62 rfl) (ow hw 63 rfl) (ow hw 64 rfl) e0 (g := (mkF m 1 #[.val (.ref oa), .val (.ref oc), .val (.int 0), .val (.int 7), .val .null, .unset] [(.ref oa)])) rfl (by rw [hml]; rfl) rfl (hb hby d12_1) (by decide) (W := 0) (by exact Nat.le_of_eq rfl) (by decide)
  have hc5_2 : ¬ ((7 : Int) = (0 : Int)) := by decide
  obtain ⟨T3, X3, e3, st3⟩ := getS2 X1 hx hZ hown (host := "") (Or.inl (ow hw 19 rfl)) Via.refl e1 Os.1 (g := (mkF m 27 #[.val (.ref oa), .val (.ref oc), .val (.int 0), .val (.int 7), .val .null, .unset] [])) rfl (hb hby d12_27)
  have hc30_4 : ¬ (vcs.toInt = (0 : Int)) := by (have q := Os.2.1; omega)
  obtain ⟨_, _, ⟨T5, L5, k5, n5⟩, -, X5, ⟨Lc5, hQ5, l5, y5, z5⟩, st5⟩ := Jvm.LawKit.callS X3 hx (y := yn14) hown (mvT hZ (ow hw 65 rfl)) (mvT hZ (ow hw 66 rfl)) (mvT hZ (ow hw 67 rfl)) (mvT hZ (ow hw 68 rfl)) (by decide) (backOf (W := 0) (rm_cm7 l Z a0 hw [] oc kC c0 c1 c2 c3 c4 c5 c6 h0 n0 Z0 Vc uc0 uc1 uc2 uc3 uc4 uc5 uc6 vc0 vc1 vc2 vc3 vc4 vc5 vc6) hZ (ow hw 68 rfl) (ow hw 67 rfl) (by decide) (by decide)) (g := (mkF m 36 #[.val (.ref oa), .val (.ref oc), .val (.int 0), .val (.int 7), .val .null, .unset] [(.int 7), (.int 0), (.ref oc)])) rfl (by rw [hml]; rfl) (argsL := [(.ref oc), (.int 0), (.int 7)]) (rest := []) (lenOf pd_11 rfl) rfl (by exact Nat.le_of_eq rfl) (hb hby d12_36) (fun _ _ => ⟨rfl, e3, (by decide : 0 + 1 ≤ _), (by decide : 0 + 7 ≤ _)⟩)
  dsimp only [Pt.U, Pt.locs, Pt.cells, Pt.slots] at X5 l5 y5 z5 st5 hQ5
  rw [l5, y5, z5] at X5
  obtain ⟨ob, kb, bb0, bb1, bb2, bb3, bb4, bb5, bb6, rfl, N5q, K5, gb, szb, Vb5, qbb0, qbb1, qbb2, qbb3, qbb4, qbb5, qbb6⟩ := hQ5
  have N5 := Fr.app N0 N5q
  have Zs6 : n0 ≤ T5.heap.size := Nat.le_trans Z0 K5.1
  have ne_oa_ob : oa ≠ ob := Nat.ne_of_lt (Nat.lt_of_lt_of_le Es.lt szb)
  have ne_oc_ob : oc ≠ ob := Nat.ne_of_lt (Nat.lt_of_lt_of_le Vc.lt szb)
  have sz_ob : h0.size ≤ ob := Nat.le_trans (Keep.refl h0 [oa]).1 szb
  obtain ⟨_, _, ⟨T7, L7, k7, n7⟩, -, X7, ⟨Lc7, hQ7, l7, y7, z7⟩, st7⟩ := Jvm.LawKit.callS X5 hx (y := yn15) hown (mvT hZ (ow hw 72 rfl)) (mvT hZ (ow hw 73 rfl)) (mvT hZ (ow hw 67 rfl)) (mvT hZ (ow hw 74 rfl)) (by decide) (backOf (W := 1) (rm_cf7_0 l Z a0 hw [] ob kb [(.int bb0), (.int bb1), (.int bb2), (.int bb3), (.int bb4), (.int bb5), (.int bb6)] T5.heap n0 Zs6 Vb5) hZ (ow hw 74 rfl) (ow hw 67 rfl) (by decide) (by decide)) (g := (mkF m 45 #[.val (.ref oa), .val (.ref oc), .val (.int 0), .val (.int 7), .val .null, .val (.ref ob)] [(.int 7), (.ref ob), (.ref oa)])) rfl (by rw [hml]; rfl) (argsL := [(.ref ob), (.int 7)]) (rest := [(.ref oa)]) (lenOf pd_12 rfl) rfl (by exact Nat.le_of_eq rfl) (hb hby d12_45) (fun _ _ => ⟨rfl, rfl, (by decide : 1 + 0 ≤ _), (by decide : 7 + 0 ≤ _)⟩)
  dsimp only [Pt.U, Pt.locs, Pt.cells, Pt.slots] at X7 l7 y7 z7 st7 hQ7
  rw [l7, y7, z7] at X7
  obtain ⟨zf, rfl, hzf, N7q, e7⟩ := hQ7
  have N7 := Fr.app N5 N7q
  have pre8 : oP p e below (T7.setTop (mkF m 48 #[.val (.ref oa), .val (.ref oc), .val (.int 0), .val (.int 7), .val .null, .val (.ref ob)] [(.int zf), (.ref oa)])) (SS) := fun t kt => by
    refine pre0 _ ?_
    refine XS.aloadN X0.here hx rfl (hb hby d12_0) rfl rfl ?_
    refine st1 _ ?_
    refine XS.iloadN X1.here hx rfl (hb hby d12_4) rfl ?_
    refine XS.ifYes X1.here hx rfl (pc0 := 5) (pc' := 27) rfl (hb hby d12_5) rfl (own_if (own_feq (a := (7 : Int32)) (b := (0 : Int32)) (by decide) (by decide) hc5_2).2) (by decide) (by decide) ?_
    refine st3 _ ?_
    refine XS.ifNo X3.here hx rfl (hb hby d12_30) rfl (own_if (own_feq (a := vcs) (b := (0 : Int32)) rfl (by decide) hc30_4).1) ?_
    refine XS.aloadN X3.here hx rfl (hb hby d12_33) rfl rfl ?_
    refine XS.iloadN X3.here hx rfl (hb hby d12_34) rfl ?_
    refine XS.iloadN X3.here hx rfl (hb hby d12_35) rfl ?_
    refine st5 _ ?_
    refine XS.astore X5.here hx rfl (hb hby d12_39) rfl rfl (l' := #[.val (.ref oa), .val (.ref oc), .val (.int 0), .val (.int 7), .val .null, .val (.ref ob)]) rfl ?_
    refine XS.aloadN X5.here hx rfl (hb hby d12_41) rfl rfl ?_
    refine XS.aload X5.here hx rfl (hb hby d12_42) rfl rfl ?_
    refine XS.iloadN X5.here hx rfl (hb hby d12_44) rfl ?_
    refine st7 _ ?_
    exact kt
  subst hzf
  have pre9 : oP p e below (T7.setTop (mkF m 48 #[.val (.ref oa), .val (.ref oc), .val (.int 0), .val (.int 7), .val .null, .val (.ref ob)] [(.int 0), (.ref oa)])) (SS) := pre8
  have f10 := (Fc.keep K5 nin0)
  have f11 := (Es.keep K5)
  obtain ⟨T12, h12, X12, e12, W12, st12⟩ := putFN X7 hx hZ hown (ow hw 20 rfl) Via.refl e7 f10 f11 (Or.inr ⟨(ow hw 5 rfl), rfl, hnm⟩) (ow hw 2 rfl) (ty := .byte) (v' := (.int 0)) (by decide) rfl rfl (g := (mkF m 48 #[.val (.ref oa), .val (.ref oc), .val (.int 0), .val (.int 7), .val .null, .val (.ref ob)] [(.int 0), (.ref oa)])) rfl rfl (hb hby d12_48)
  have N12 := Fr.snoc X12 N7 ga
  have Zs13 : n0 ≤ h12.size := by rw [W12.size]; exact Zs6
  have Fw12 := f10.same W12
  have f14 := ((Fv.keep K5 nin0).other W12 (Or.inr (slot_ne (Or.inr (ow hw 4 rfl)) (Or.inr (ow hw 5 rfl)) (by decide) (t := (.array .byte)) (t' := .byte) (by decide) (by decide))))
  have f15 := (f11.wr W12)
  obtain ⟨T16, h16, X16, e16, W16, st16⟩ := putF X12 hx hZ hown (host := "") (Or.inl (ow hw 13 rfl)) Via.refl e12 f14 f15 (Or.inr ⟨(ow hw 4 rfl), rfl, hnm⟩) (ow hw 2 rfl) (ty := (.array .byte)) (by decide) rfl rfl (g := (mkF m 54 #[.val (.ref oa), .val (.ref oc), .val (.int 0), .val (.int 7), .val .null, .val (.ref ob)] [(.ref ob), (.ref oa)])) rfl rfl (hb hby d12_54)
  have N16 := Fr.snoc X16 N12 ga
  have Zs17 : n0 ≤ h16.size := by rw [W16.size]; exact Zs13
  have Fw16 := f14.same W16
  subst hSS
  obtain ⟨fs, hr, q1, q2, q3, q4⟩ := X16.leave (v := none) (fun _ => rfl)
  refine ⟨_, _, pre9 _ ?_, q1, q2, _, _, rfl, ?_, ⟨_, rfl⟩, q3, q4.mono (by decide) (by decide)⟩
  · refine st12 _ ?_
    refine XS.aloadN X12.here hx rfl (hb hby d12_51) rfl rfl ?_
    refine XS.aload X12.here hx rfl (hb hby d12_52) rfl rfl ?_
    refine st16 _ ?_
    show Steps p.tables e below (T16.setTop (mkF m 57 #[.val (.ref oa), .val (.ref oc), .val (.int 0), .val (.int 7), .val .null, .val (.ref ob)] [])) _
    exact X16.returnOut hx Bd.returns (hb hby d12_57) hr
  · show Q_iv7 Z _ _ _ _ _ _ _ _ _ _ _ _ h0 n0 _ T16.heap _
    rw [e16]
    have f18 := ((((Keep.refl h0 [oa]).trans K5 all0).wr W12 (Or.inl (List.mem_of_getElem? (i := 0) rfl))).wr W16 (Or.inl (List.mem_of_getElem? (i := 0) rfl)))
    have f19 := (f15.wr W16)
    have f20 := (Fw12.other W16 (Or.inr (slot_ne (Or.inr (ow hw 5 rfl)) (Or.inr (ow hw 4 rfl)) (by decide) (t := .byte) (t' := (.array .byte)) (by decide) (by decide))))
    have f21 := ((Vb5.other W12 (Ne.symm ne_oa_ob)).other W16 (Ne.symm ne_oa_ob))
    exact ⟨rfl, N16, f18, f19, ob, kb, bb0, bb1, bb2, bb3, bb4, bb5, bb6, gb, sz_ob, f20, Fw16, f21, qbb0, qbb1, qbb2, qbb3, qbb4, qbb5, qbb6⟩
theorem ef_rm_mk7 (m : MethodId) (x0 : Addr) (x1 : Addr) : entryFrame m #[(.ref x0), (.ref x1)] 2 = mkF m 0 #[.val (.ref x0), .val (.ref x1)] [] := by first | (simp [entryFrame, mkF, argsToLocals, Value.category]; done) | rfl
def Q_mk7 (Z : State) (oa : Addr) (oc : Addr) (vcs : Int32) (vf : Value) (kC : ClassId) (c0 : Int32) (c1 : Int32) (c2 : Int32) (c3 : Int32) (c4 : Int32) (c5 : Int32) (c6 : Int32) (h0 : Heap) (n0 : Nat) (v : Option Value) (h : Heap) (L : List Loc) : Prop := v = none ∧ Fr n0 L ∧ Keep h0 h [oa] ∧ Exa Z h oa "java/lang/String" ∧ ∃ (ob : Addr) (kb : ClassId) (bb0 bb1 bb2 bb3 bb4 bb5 bb6 : Int32), n0 ≤ ob ∧ h0.size ≤ ob ∧ Fld Z h oa "java/lang/String" "coder" "B" (.int 0) ∧ Fld Z h oa "java/lang/String" "value" "[B" (.ref ob) ∧ Arv Z h ob kb .byte (7 : Int32) [(.int bb0), (.int bb1), (.int bb2), (.int bb3), (.int bb4), (.int bb5), (.int bb6)] (.int 0) ∧ bb0.toInt % 256 = c0.toInt ∧ bb1.toInt % 256 = c1.toInt ∧ bb2.toInt % 256 = c2.toInt ∧ bb3.toInt % 256 = c3.toInt ∧ bb4.toInt % 256 = c4.toInt ∧ bb5.toInt % 256 = c5.toInt ∧ bb6.toInt % 256 = c6.toInt
theorem rm_mk7 (l : Launch) (Z : State) (a0 : Array Value) (hw : ∀ d ∈ tables_1, d.before a0 Z = true) (ws : List Jvm.Cond) (oa : Addr) (oc : Addr) (vcs : Int32) (vf : Value) (kC : ClassId) (c0 : Int32) (c1 : Int32) (c2 : Int32) (c3 : Int32) (c4 : Int32) (c5 : Int32) (c6 : Int32) (h0 : Heap) (n0 : Nat) (Z0 : n0 ≤ h0.size) (Os : own_st Z h0 vcs vf) (Es : Exa Z h0 oa "java/lang/String") (Fc : Fld Z h0 oa "java/lang/String" "coder" "B" (.int 0)) (Fv : Fld Z h0 oa "java/lang/String" "value" "[B" .null) (ga : n0 ≤ oa) (nac : oa ≠ oc) (Vc : Arv Z h0 oc kC .char (7 : Int32) [(.int c0), (.int c1), (.int c2), (.int c3), (.int c4), (.int c5), (.int c6)] (.int 0)) (uc0 : 0 ≤ c0.toInt) (uc1 : 0 ≤ c1.toInt) (uc2 : 0 ≤ c2.toInt) (uc3 : 0 ≤ c3.toInt) (uc4 : 0 ≤ c4.toInt) (uc5 : 0 ≤ c5.toInt) (uc6 : 0 ≤ c6.toInt) (vc0 : c0.toInt ≤ 255) (vc1 : c1.toInt ≤ 255) (vc2 : c2.toInt ≤ 255) (vc3 : c3.toInt ≤ 255) (vc4 : c4.toInt ≤ 255) (vc5 : c5.toInt ≤ 255) (vc6 : c6.toInt ≤ 255) :
    MetFree l yn12 (head1 (Jvm.Cond.code yn12 kc12 2 none :: ws) ⟨3, 1, 7, 52⟩) (fun a U => a = #[(.ref oa), (.ref oc)] ∧ Z.Warmed39 U.vm ∧ U.heap = h0) (fun _ _ _ _ _ => True) (fun _ U o U' => ∃ v L, o = .returned v ∧ Q_mk7 Z oa oc vcs vf kC c0 c1 c2 c3 c4 c5 c6 h0 n0 v U'.heap L ∧ FrameEnd U o U' L 1 7) := by
  refine MetFree.of_bodySF (plainFor_of_name pn_1) hisR ?_
  intro p e s m args below meth c s₁ Bd hml0 hP hK
  obtain ⟨rfl, hZ, hh⟩ := hP
  have hx := Bd.exec
  have hby := Bd.bytes
  have hml : c.maxLocals = 2 := hml0
  have hown : s.vm.findClass "java/lang/String" = some m.cls := findClass_of_methodNamed Bd.named
  have hnm := (name_of_methodNamed Bd.named Bd.method).1
  have X0 : Stand p l e ⟨3, 1, 7, 52⟩ s m #[(.ref oa), (.ref oc)] below meth c s₁ [] 0 0 := Stand.of_body Bd
  have e0 : s₁.heap = h0 := by rw [← hh, Bd.state]; rfl
  have N0 := Fr.nil n0
  obtain ⟨SS, hSS⟩ : ∃ S, S = s₁.setTop (entryFrame m #[(.ref oa), (.ref oc)] 2) := ⟨_, rfl⟩
  have pre0 : oP p e below (s₁.setTop (mkF m 0 #[.val (.ref oa), .val (.ref oc)] [])) (SS) := by
    rw [hSS]; exact fun t k => castTop (ef_rm_mk7 m oa oc) k
  obtain ⟨cl1, Ar1, q1, S1, M1, H1, G1⟩ := id Vc
  obtain ⟨_, _, ⟨T2, L2, k2, n2⟩, -, X2, ⟨Lc2, hQ2, l2, y2, z2⟩, st2⟩ := X0.specialBack hx (y := yn11) rfl hown (mvT hZ (ow hw 58 rfl)) (mvT hZ (ow hw 59 rfl)) (mvT hZ (ow hw 61 rfl)) (by decide) (backOf (W := 0) (rm_iv7 l Z a0 hw [] oa oc vcs vf kC c0 c1 c2 c3 c4 c5 c6 h0 n0 Z0 Os Es Fc Fv ga nac Vc uc0 uc1 uc2 uc3 uc4 uc5 uc6 vc0 vc1 vc2 vc3 vc4 vc5 vc6) hZ (ow hw 61 rfl) (ow hw 1 rfl) (by decide) (by decide)) (g := (mkF m 6 #[.val (.ref oa), .val (.ref oc)] [.null, (.int 7), (.int 0), (.ref oc), (.ref oa)])) rfl (by rw [hml]; rfl) (Steps.refl _) (a := oa) (argsL := [(.ref oc), (.int 0), (.int 7), .null]) (rest := []) (lenOf pd_9 rfl) rfl (by exact Nat.le_of_eq rfl) (hb hby d11_6) (fun _ _ => ⟨rfl, e0, (by decide : 0 + 1 ≤ _), (by decide : 0 + 7 ≤ _)⟩)
  dsimp only [Pt.U, Pt.locs, Pt.cells, Pt.slots] at X2 l2 y2 z2 st2 hQ2
  rw [l2, y2, z2] at X2
  obtain ⟨rfl, N2q, K2, A2, ob, kb, bb0, bb1, bb2, bb3, bb4, bb5, bb6, gb, szb, Fc2, Fv2, Vb2, qbb0, qbb1, qbb2, qbb3, qbb4, qbb5, qbb6⟩ := hQ2
  have N2 := Fr.app N0 N2q
  have Zs3 : n0 ≤ T2.heap.size := Nat.le_trans Z0 K2.1
  have ne_oa_ob : oa ≠ ob := Nat.ne_of_lt (Nat.lt_of_lt_of_le Es.lt szb)
  have ne_oc_ob : oc ≠ ob := Nat.ne_of_lt (Nat.lt_of_lt_of_le Vc.lt szb)
  have sz_ob : h0.size ≤ ob := Nat.le_trans (Keep.refl h0 [oa]).1 szb
  subst hSS
  obtain ⟨fs, hr, q1, q2, q3, q4⟩ := X2.leave (v := none) (fun _ => rfl)
  refine ⟨_, _, pre0 _ ?_, q1, q2, _, _, rfl, ?_, ⟨_, rfl⟩, q3, q4.mono (by decide) (by decide)⟩
  · refine XS.aloadN X0.here hx rfl (hb hby d11_0) rfl rfl ?_
    refine XS.aloadN X0.here hx rfl (hb hby d11_1) rfl rfl ?_
    refine XS.iconst X0.here hx rfl (hb hby d11_2) ?_
    refine XS.aloadN X0.here hx rfl (hb hby d11_3) rfl rfl ?_
    refine X0.arraylength hx (by rw [e0]; exact Ar1.1) (State.isArrayOf_alike hZ.alike Ar1.2.1) (g := (mkF m 4 #[.val (.ref oa), .val (.ref oc)] [(.ref oc), (.int 0), (.ref oc), (.ref oa)])) rfl rfl (hb hby d11_4) _ ?_
    rw [len_of S1 M1]
    refine XS.aconstNull X0.here hx rfl (hb hby d11_5) ?_
    refine st2.trans ?_
    exact X2.returnOut hx Bd.returns (hb hby d11_9) hr
  · show Q_mk7 Z _ _ _ _ _ _ _ _ _ _ _ _ h0 n0 _ T2.heap _
    have f4 := ((Keep.refl h0 [oa]).trans K2 (allS (P := fun x => x ∈ [oa] ∨ h0.size ≤ x) (Or.inl (List.mem_of_getElem? (i := 0) rfl)) all0))
    exact ⟨rfl, N2, f4, A2, ob, kb, bb0, bb1, bb2, bb3, bb4, bb5, bb6, gb, sz_ob, Fc2, Fv2, Vb2, qbb0, qbb1, qbb2, qbb3, qbb4, qbb5, qbb6⟩
theorem d10_0 : decode kc16 0 = .ok (.iload_n 0, 1) := by decide +kernel
theorem d10_1 : decode kc16 1 = .ok (.ifCond .ne 14, 3) := by decide +kernel
theorem d10_4 : decode kc16 4 = .ok (.new 16, 3) := by decide +kernel
theorem d10_7 : decode kc16 7 = .ok (.dup, 1) := by decide +kernel
theorem d10_8 : decode kc16 8 = .ok (.iconst 0, 1) := by decide +kernel
theorem d10_9 : decode kc16 9 = .ok (.newarray .char, 2) := by decide +kernel
theorem d10_11 : decode kc16 11 = .ok (.invokespecial 62, 3) := by decide +kernel
theorem d10_14 : decode kc16 14 = .ok (.areturn, 1) := by decide +kernel
theorem d10_15 : decode kc16 15 = .ok (.iload_n 0, 1) := by decide +kernel
theorem d10_16 : decode kc16 16 = .ok (.iconst 1, 1) := by decide +kernel
theorem d10_17 : decode kc16 17 = .ok (.if_icmp .ne 18, 3) := by decide +kernel
theorem d10_20 : decode kc16 20 = .ok (.new 16, 3) := by decide +kernel
theorem d10_23 : decode kc16 23 = .ok (.dup, 1) := by decide +kernel
theorem d10_24 : decode kc16 24 = .ok (.iconst 1, 1) := by decide +kernel
theorem d10_25 : decode kc16 25 = .ok (.newarray .char, 2) := by decide +kernel
theorem d10_27 : decode kc16 27 = .ok (.dup, 1) := by decide +kernel
theorem d10_28 : decode kc16 28 = .ok (.iconst 0, 1) := by decide +kernel
theorem d10_29 : decode kc16 29 = .ok (.iload_n 1, 1) := by decide +kernel
theorem d10_30 : decode kc16 30 = .ok (.castore, 1) := by decide +kernel
theorem d10_31 : decode kc16 31 = .ok (.invokespecial 62, 3) := by decide +kernel
theorem d10_34 : decode kc16 34 = .ok (.areturn, 1) := by decide +kernel
theorem d10_35 : decode kc16 35 = .ok (.iload_n 0, 1) := by decide +kernel
theorem d10_36 : decode kc16 36 = .ok (.iconst 2, 1) := by decide +kernel
theorem d10_37 : decode kc16 37 = .ok (.if_icmp .ne 22, 3) := by decide +kernel
theorem d10_40 : decode kc16 40 = .ok (.new 16, 3) := by decide +kernel
theorem d10_43 : decode kc16 43 = .ok (.dup, 1) := by decide +kernel
theorem d10_44 : decode kc16 44 = .ok (.iconst 2, 1) := by decide +kernel
theorem d10_45 : decode kc16 45 = .ok (.newarray .char, 2) := by decide +kernel
theorem d10_47 : decode kc16 47 = .ok (.dup, 1) := by decide +kernel
theorem d10_48 : decode kc16 48 = .ok (.iconst 0, 1) := by decide +kernel
theorem d10_49 : decode kc16 49 = .ok (.iload_n 1, 1) := by decide +kernel
theorem d10_50 : decode kc16 50 = .ok (.castore, 1) := by decide +kernel
theorem d10_51 : decode kc16 51 = .ok (.dup, 1) := by decide +kernel
theorem d10_52 : decode kc16 52 = .ok (.iconst 1, 1) := by decide +kernel
theorem d10_53 : decode kc16 53 = .ok (.iload_n 2, 1) := by decide +kernel
theorem d10_54 : decode kc16 54 = .ok (.castore, 1) := by decide +kernel
theorem d10_55 : decode kc16 55 = .ok (.invokespecial 62, 3) := by decide +kernel
theorem d10_58 : decode kc16 58 = .ok (.areturn, 1) := by decide +kernel
theorem d10_59 : decode kc16 59 = .ok (.iload_n 0, 1) := by decide +kernel
theorem d10_60 : decode kc16 60 = .ok (.iconst 3, 1) := by decide +kernel
theorem d10_61 : decode kc16 61 = .ok (.if_icmp .ne 26, 3) := by decide +kernel
theorem d10_64 : decode kc16 64 = .ok (.new 16, 3) := by decide +kernel
theorem d10_67 : decode kc16 67 = .ok (.dup, 1) := by decide +kernel
theorem d10_68 : decode kc16 68 = .ok (.iconst 3, 1) := by decide +kernel
theorem d10_69 : decode kc16 69 = .ok (.newarray .char, 2) := by decide +kernel
theorem d10_71 : decode kc16 71 = .ok (.dup, 1) := by decide +kernel
theorem d10_72 : decode kc16 72 = .ok (.iconst 0, 1) := by decide +kernel
theorem d10_73 : decode kc16 73 = .ok (.iload_n 1, 1) := by decide +kernel
theorem d10_74 : decode kc16 74 = .ok (.castore, 1) := by decide +kernel
theorem d10_75 : decode kc16 75 = .ok (.dup, 1) := by decide +kernel
theorem d10_76 : decode kc16 76 = .ok (.iconst 1, 1) := by decide +kernel
theorem d10_77 : decode kc16 77 = .ok (.iload_n 2, 1) := by decide +kernel
theorem d10_78 : decode kc16 78 = .ok (.castore, 1) := by decide +kernel
theorem d10_79 : decode kc16 79 = .ok (.dup, 1) := by decide +kernel
theorem d10_80 : decode kc16 80 = .ok (.iconst 2, 1) := by decide +kernel
theorem d10_81 : decode kc16 81 = .ok (.iload_n 3, 1) := by decide +kernel
theorem d10_82 : decode kc16 82 = .ok (.castore, 1) := by decide +kernel
theorem d10_83 : decode kc16 83 = .ok (.invokespecial 62, 3) := by decide +kernel
theorem d10_86 : decode kc16 86 = .ok (.areturn, 1) := by decide +kernel
theorem d10_87 : decode kc16 87 = .ok (.iload_n 0, 1) := by decide +kernel
theorem d10_88 : decode kc16 88 = .ok (.iconst 4, 1) := by decide +kernel
theorem d10_89 : decode kc16 89 = .ok (.if_icmp .ne 31, 3) := by decide +kernel
theorem d10_92 : decode kc16 92 = .ok (.new 16, 3) := by decide +kernel
theorem d10_95 : decode kc16 95 = .ok (.dup, 1) := by decide +kernel
theorem d10_96 : decode kc16 96 = .ok (.iconst 4, 1) := by decide +kernel
theorem d10_97 : decode kc16 97 = .ok (.newarray .char, 2) := by decide +kernel
theorem d10_99 : decode kc16 99 = .ok (.dup, 1) := by decide +kernel
theorem d10_100 : decode kc16 100 = .ok (.iconst 0, 1) := by decide +kernel
theorem d10_101 : decode kc16 101 = .ok (.iload_n 1, 1) := by decide +kernel
theorem d10_102 : decode kc16 102 = .ok (.castore, 1) := by decide +kernel
theorem d10_103 : decode kc16 103 = .ok (.dup, 1) := by decide +kernel
theorem d10_104 : decode kc16 104 = .ok (.iconst 1, 1) := by decide +kernel
theorem d10_105 : decode kc16 105 = .ok (.iload_n 2, 1) := by decide +kernel
theorem d10_106 : decode kc16 106 = .ok (.castore, 1) := by decide +kernel
theorem d10_107 : decode kc16 107 = .ok (.dup, 1) := by decide +kernel
theorem d10_108 : decode kc16 108 = .ok (.iconst 2, 1) := by decide +kernel
theorem d10_109 : decode kc16 109 = .ok (.iload_n 3, 1) := by decide +kernel
theorem d10_110 : decode kc16 110 = .ok (.castore, 1) := by decide +kernel
theorem d10_111 : decode kc16 111 = .ok (.dup, 1) := by decide +kernel
theorem d10_112 : decode kc16 112 = .ok (.iconst 3, 1) := by decide +kernel
theorem d10_113 : decode kc16 113 = .ok (.iload 4, 2) := by decide +kernel
theorem d10_115 : decode kc16 115 = .ok (.castore, 1) := by decide +kernel
theorem d10_116 : decode kc16 116 = .ok (.invokespecial 62, 3) := by decide +kernel
theorem d10_119 : decode kc16 119 = .ok (.areturn, 1) := by decide +kernel
theorem d10_120 : decode kc16 120 = .ok (.iload_n 0, 1) := by decide +kernel
theorem d10_121 : decode kc16 121 = .ok (.iconst 5, 1) := by decide +kernel
theorem d10_122 : decode kc16 122 = .ok (.if_icmp .ne 36, 3) := by decide +kernel
theorem d10_125 : decode kc16 125 = .ok (.new 16, 3) := by decide +kernel
theorem d10_128 : decode kc16 128 = .ok (.dup, 1) := by decide +kernel
theorem d10_129 : decode kc16 129 = .ok (.iconst 5, 1) := by decide +kernel
theorem d10_130 : decode kc16 130 = .ok (.newarray .char, 2) := by decide +kernel
theorem d10_132 : decode kc16 132 = .ok (.dup, 1) := by decide +kernel
theorem d10_133 : decode kc16 133 = .ok (.iconst 0, 1) := by decide +kernel
theorem d10_134 : decode kc16 134 = .ok (.iload_n 1, 1) := by decide +kernel
theorem d10_135 : decode kc16 135 = .ok (.castore, 1) := by decide +kernel
theorem d10_136 : decode kc16 136 = .ok (.dup, 1) := by decide +kernel
theorem d10_137 : decode kc16 137 = .ok (.iconst 1, 1) := by decide +kernel
theorem d10_138 : decode kc16 138 = .ok (.iload_n 2, 1) := by decide +kernel
theorem d10_139 : decode kc16 139 = .ok (.castore, 1) := by decide +kernel
theorem d10_140 : decode kc16 140 = .ok (.dup, 1) := by decide +kernel
theorem d10_141 : decode kc16 141 = .ok (.iconst 2, 1) := by decide +kernel
theorem d10_142 : decode kc16 142 = .ok (.iload_n 3, 1) := by decide +kernel
theorem d10_143 : decode kc16 143 = .ok (.castore, 1) := by decide +kernel
theorem d10_144 : decode kc16 144 = .ok (.dup, 1) := by decide +kernel
theorem d10_145 : decode kc16 145 = .ok (.iconst 3, 1) := by decide +kernel
theorem d10_146 : decode kc16 146 = .ok (.iload 4, 2) := by decide +kernel
theorem d10_148 : decode kc16 148 = .ok (.castore, 1) := by decide +kernel
theorem d10_149 : decode kc16 149 = .ok (.dup, 1) := by decide +kernel
theorem d10_150 : decode kc16 150 = .ok (.iconst 4, 1) := by decide +kernel
theorem d10_151 : decode kc16 151 = .ok (.iload 5, 2) := by decide +kernel
theorem d10_153 : decode kc16 153 = .ok (.castore, 1) := by decide +kernel
theorem d10_154 : decode kc16 154 = .ok (.invokespecial 62, 3) := by decide +kernel
theorem d10_157 : decode kc16 157 = .ok (.areturn, 1) := by decide +kernel
theorem d10_158 : decode kc16 158 = .ok (.iload_n 0, 1) := by decide +kernel
theorem d10_159 : decode kc16 159 = .ok (.bipush 6, 2) := by decide +kernel
theorem d10_161 : decode kc16 161 = .ok (.if_icmp .ne 42, 3) := by decide +kernel
theorem d10_164 : decode kc16 164 = .ok (.new 16, 3) := by decide +kernel
theorem d10_167 : decode kc16 167 = .ok (.dup, 1) := by decide +kernel
theorem d10_168 : decode kc16 168 = .ok (.bipush 6, 2) := by decide +kernel
theorem d10_170 : decode kc16 170 = .ok (.newarray .char, 2) := by decide +kernel
theorem d10_172 : decode kc16 172 = .ok (.dup, 1) := by decide +kernel
theorem d10_173 : decode kc16 173 = .ok (.iconst 0, 1) := by decide +kernel
theorem d10_174 : decode kc16 174 = .ok (.iload_n 1, 1) := by decide +kernel
theorem d10_175 : decode kc16 175 = .ok (.castore, 1) := by decide +kernel
theorem d10_176 : decode kc16 176 = .ok (.dup, 1) := by decide +kernel
theorem d10_177 : decode kc16 177 = .ok (.iconst 1, 1) := by decide +kernel
theorem d10_178 : decode kc16 178 = .ok (.iload_n 2, 1) := by decide +kernel
theorem d10_179 : decode kc16 179 = .ok (.castore, 1) := by decide +kernel
theorem d10_180 : decode kc16 180 = .ok (.dup, 1) := by decide +kernel
theorem d10_181 : decode kc16 181 = .ok (.iconst 2, 1) := by decide +kernel
theorem d10_182 : decode kc16 182 = .ok (.iload_n 3, 1) := by decide +kernel
theorem d10_183 : decode kc16 183 = .ok (.castore, 1) := by decide +kernel
theorem d10_184 : decode kc16 184 = .ok (.dup, 1) := by decide +kernel
theorem d10_185 : decode kc16 185 = .ok (.iconst 3, 1) := by decide +kernel
theorem d10_186 : decode kc16 186 = .ok (.iload 4, 2) := by decide +kernel
theorem d10_188 : decode kc16 188 = .ok (.castore, 1) := by decide +kernel
theorem d10_189 : decode kc16 189 = .ok (.dup, 1) := by decide +kernel
theorem d10_190 : decode kc16 190 = .ok (.iconst 4, 1) := by decide +kernel
theorem d10_191 : decode kc16 191 = .ok (.iload 5, 2) := by decide +kernel
theorem d10_193 : decode kc16 193 = .ok (.castore, 1) := by decide +kernel
theorem d10_194 : decode kc16 194 = .ok (.dup, 1) := by decide +kernel
theorem d10_195 : decode kc16 195 = .ok (.iconst 5, 1) := by decide +kernel
theorem d10_196 : decode kc16 196 = .ok (.iload 6, 2) := by decide +kernel
theorem d10_198 : decode kc16 198 = .ok (.castore, 1) := by decide +kernel
theorem d10_199 : decode kc16 199 = .ok (.invokespecial 62, 3) := by decide +kernel
theorem d10_202 : decode kc16 202 = .ok (.areturn, 1) := by decide +kernel
theorem d10_203 : decode kc16 203 = .ok (.new 16, 3) := by decide +kernel
theorem d10_206 : decode kc16 206 = .ok (.dup, 1) := by decide +kernel
theorem d10_207 : decode kc16 207 = .ok (.bipush 7, 2) := by decide +kernel
theorem d10_209 : decode kc16 209 = .ok (.newarray .char, 2) := by decide +kernel
theorem d10_211 : decode kc16 211 = .ok (.dup, 1) := by decide +kernel
theorem d10_212 : decode kc16 212 = .ok (.iconst 0, 1) := by decide +kernel
theorem d10_213 : decode kc16 213 = .ok (.iload_n 1, 1) := by decide +kernel
theorem d10_214 : decode kc16 214 = .ok (.castore, 1) := by decide +kernel
theorem d10_215 : decode kc16 215 = .ok (.dup, 1) := by decide +kernel
theorem d10_216 : decode kc16 216 = .ok (.iconst 1, 1) := by decide +kernel
theorem d10_217 : decode kc16 217 = .ok (.iload_n 2, 1) := by decide +kernel
theorem d10_218 : decode kc16 218 = .ok (.castore, 1) := by decide +kernel
theorem d10_219 : decode kc16 219 = .ok (.dup, 1) := by decide +kernel
theorem d10_220 : decode kc16 220 = .ok (.iconst 2, 1) := by decide +kernel
theorem d10_221 : decode kc16 221 = .ok (.iload_n 3, 1) := by decide +kernel
theorem d10_222 : decode kc16 222 = .ok (.castore, 1) := by decide +kernel
theorem d10_223 : decode kc16 223 = .ok (.dup, 1) := by decide +kernel
theorem d10_224 : decode kc16 224 = .ok (.iconst 3, 1) := by decide +kernel
theorem d10_225 : decode kc16 225 = .ok (.iload 4, 2) := by decide +kernel
theorem d10_227 : decode kc16 227 = .ok (.castore, 1) := by decide +kernel
theorem d10_228 : decode kc16 228 = .ok (.dup, 1) := by decide +kernel
theorem d10_229 : decode kc16 229 = .ok (.iconst 4, 1) := by decide +kernel
theorem d10_230 : decode kc16 230 = .ok (.iload 5, 2) := by decide +kernel
theorem d10_232 : decode kc16 232 = .ok (.castore, 1) := by decide +kernel
theorem d10_233 : decode kc16 233 = .ok (.dup, 1) := by decide +kernel
theorem d10_234 : decode kc16 234 = .ok (.iconst 5, 1) := by decide +kernel
theorem d10_235 : decode kc16 235 = .ok (.iload 6, 2) := by decide +kernel
theorem d10_237 : decode kc16 237 = .ok (.castore, 1) := by decide +kernel
theorem d10_238 : decode kc16 238 = .ok (.dup, 1) := by decide +kernel
theorem d10_239 : decode kc16 239 = .ok (.bipush 6, 2) := by decide +kernel
theorem d10_241 : decode kc16 241 = .ok (.iload 7, 2) := by decide +kernel
theorem d10_243 : decode kc16 243 = .ok (.castore, 1) := by decide +kernel
theorem d10_244 : decode kc16 244 = .ok (.invokespecial 62, 3) := by decide +kernel
theorem d10_247 : decode kc16 247 = .ok (.areturn, 1) := by decide +kernel
theorem ef_rm_make (m : MethodId) (x0 : Int32) (x1 : Int32) (x2 : Int32) (x3 : Int32) (x4 : Int32) (x5 : Int32) (x6 : Int32) (x7 : Int32) : entryFrame m #[(.int x0), (.int x1), (.int x2), (.int x3), (.int x4), (.int x5), (.int x6), (.int x7)] 8 = mkF m 0 #[.val (.int x0), .val (.int x1), .val (.int x2), .val (.int x3), .val (.int x4), .val (.int x5), .val (.int x6), .val (.int x7)] [] := by first | (simp [entryFrame, mkF, argsToLocals, Value.category]; done) | rfl
theorem pd_13 : parseMethodDescriptor "([C)V" = some ⟨[(.array .char)], none⟩ := by decide +kernel
def Q_make (Z : State) (vn : Int32) (c0 : Int32) (c1 : Int32) (c2 : Int32) (c3 : Int32) (c4 : Int32) (c5 : Int32) (c6 : Int32) (vcs : Int32) (vf : Value) (h0 : Heap) (n0 : Nat) (v : Option Value) (h : Heap) (L : List Loc) : Prop := ∃ (sa ob : Addr) (kb : ClassId) (zn : Int32) (vs : List Value), v = some (.ref sa) ∧ Fr n0 L ∧ Keep h0 h [] ∧ Exa Z h sa "java/lang/String" ∧ Fld Z h sa "java/lang/String" "coder" "B" (.int 0) ∧ Fld Z h sa "java/lang/String" "value" "[B" (.ref ob) ∧ Arv Z h ob kb .byte zn vs (.int 0)
theorem rm_make (l : Launch) (Z : State) (a0 : Array Value) (hw : ∀ d ∈ tables_1, d.before a0 Z = true) (ws : List Jvm.Cond) (vn : Int32) (c0 : Int32) (c1 : Int32) (c2 : Int32) (c3 : Int32) (c4 : Int32) (c5 : Int32) (c6 : Int32) (vcs : Int32) (vf : Value) (h0 : Heap) (n0 : Nat) (Z0 : n0 ≤ h0.size) (Os : own_st Z h0 vcs vf) (n1 : 0 ≤ vn.toInt) (n2 : vn.toInt ≤ 7) (uc0 : 0 ≤ c0.toInt) (uc1 : 0 ≤ c1.toInt) (uc2 : 0 ≤ c2.toInt) (uc3 : 0 ≤ c3.toInt) (uc4 : 0 ≤ c4.toInt) (uc5 : 0 ≤ c5.toInt) (uc6 : 0 ≤ c6.toInt) (vc0 : c0.toInt ≤ 255) (vc1 : c1.toInt ≤ 255) (vc2 : c2.toInt ≤ 255) (vc3 : c3.toInt ≤ 255) (vc4 : c4.toInt ≤ 255) (vc5 : c5.toInt ≤ 255) (vc6 : c6.toInt ≤ 255) :
    MetFree l yn16 (head1 (Jvm.Cond.code yn16 kc16 8 (some (.object "java/lang/String")) :: ws) ⟨4, 6, 18, 66⟩) (fun a U => a = #[(.int vn), (.int c0), (.int c1), (.int c2), (.int c3), (.int c4), (.int c5), (.int c6)] ∧ Z.Warmed39 U.vm ∧ U.heap = h0 ∧ CHv Z own_EL U.vm h0) (fun _ _ _ _ _ => True) (fun _ U o U' => ∃ v L, o = .returned v ∧ Q_make Z vn c0 c1 c2 c3 c4 c5 c6 vcs vf h0 n0 v U'.heap L ∧ CHr Z own_EL U.vm U.heap U'.vm U'.heap ∧ ReturnedEndW U o U' L 6 18) := by
  refine MetFree.of_bodySF (plainFor_of_name pn_3) hisR ?_
  intro p e s m args below meth c s₁ Bd hml0 hP hK
  obtain ⟨rfl, hZ, hh, hC⟩ := hP
  have hx := Bd.exec
  have hby := Bd.bytes
  have hml : c.maxLocals = 8 := hml0
  have hown : s.vm.findClass "com/example/attestbridge/attestbridge/sync/PermissionNamedPinLaw" = some m.cls := findClass_of_methodNamed Bd.named
  have hnm := (name_of_methodNamed Bd.named Bd.method).1
  have X0 : Stand p l e ⟨4, 6, 18, 66⟩ (s.setVm s.vm) m #[(.int vn), (.int c0), (.int c1), (.int c2), (.int c3), (.int c4), (.int c5), (.int c6)] below meth c s₁ [] 0 0 := Stand.of_body Bd
  have e0 : s₁.heap = h0 := by rw [← hh, Bd.state]; rfl
  have N0 := Fr.nil n0
  have hEL := own_EW hw
  have wS := own_wS hw
  have CR0 : CHr Z own_EL s.vm h0 s.vm h0 := CHr.refl hC
  have hS0 : s.Since s.vm h0.size := (State.WarmedH.refl s).since _
  have hk0 : h0.size ≤ h0.size := Nat.le_refl _
  obtain ⟨SS, hSS⟩ : ∃ S, S = s₁.setTop (entryFrame m #[(.int vn), (.int c0), (.int c1), (.int c2), (.int c3), (.int c4), (.int c5), (.int c6)] 8) := ⟨_, rfl⟩
  have pre0 : oP p e below (s₁.setTop (mkF m 0 #[.val (.int vn), .val (.int c0), .val (.int c1), .val (.int c2), .val (.int c3), .val (.int c4), .val (.int c5), .val (.int c6)] [])) (SS) := by
    rw [hSS]; exact fun t k => castTop (ef_rm_make m vn c0 c1 c2 c3 c4 c5 c6) k
  have hsp1 : vn = (0 : Int32) ∨ vn = (1 : Int32) ∨ vn = (2 : Int32) ∨ vn = (3 : Int32) ∨ vn = (4 : Int32) ∨ vn = (5 : Int32) ∨ vn = (6 : Int32) ∨ vn = (7 : Int32) := by
    have q : vn.toInt = 0 ∨ vn.toInt = 1 ∨ vn.toInt = 2 ∨ vn.toInt = 3 ∨ vn.toInt = 4 ∨ vn.toInt = 5 ∨ vn.toInt = 6 ∨ vn.toInt = 7 := by omega
    rcases q with q | q | q | q | q | q | q | q
    · exact Or.inl (Int32.toInt_inj.mp (by rw [q]; decide))
    · exact Or.inr (Or.inl (Int32.toInt_inj.mp (by rw [q]; decide)))
    · exact Or.inr (Or.inr (Or.inl (Int32.toInt_inj.mp (by rw [q]; decide))))
    · exact Or.inr (Or.inr (Or.inr (Or.inl (Int32.toInt_inj.mp (by rw [q]; decide)))))
    · exact Or.inr (Or.inr (Or.inr (Or.inr (Or.inl (Int32.toInt_inj.mp (by rw [q]; decide))))))
    · exact Or.inr (Or.inr (Or.inr (Or.inr (Or.inr (Or.inl (Int32.toInt_inj.mp (by rw [q]; decide)))))))
    · exact Or.inr (Or.inr (Or.inr (Or.inr (Or.inr (Or.inr (Or.inl (Int32.toInt_inj.mp (by rw [q]; decide))))))))
    · exact Or.inr (Or.inr (Or.inr (Or.inr (Or.inr (Or.inr (Or.inr (Int32.toInt_inj.mp (by rw [q]; decide))))))))
  rcases hsp1 with rfl | rfl | rfl | rfl | rfl | rfl | rfl | rfl
  · have hc1_2 : (0 : Int) = (0 : Int) := by decide
    obtain ⟨T3, h3, X3, e3, E3, A3, D3, -, st3⟩ := newO X0 hx hZ hown (ow hw 53 rfl) (ow hw 2 rfl) (ow hw 1 rfl) e0 (g := (mkF m 4 #[.val (.int 0), .val (.int c0), .val (.int c1), .val (.int c2), .val (.int c3), .val (.int c4), .val (.int c5), .val (.int c6)] [])) rfl (hb hby d10_4) (by decide) (by decide)
    obtain ⟨b3, g3⟩ : ∃ z, z = h0.size := ⟨_, rfl⟩
    have g_b3 : n0 ≤ b3 := Nat.le_trans Z0 (Nat.le_of_eq g3.symm)
    have sz_b3 : h0.size ≤ b3 := Nat.le_trans (Keep.refl h0 []).1 (Nat.le_of_eq g3.symm)
    have sf4 : Safe Z own_EL s.vm h0 b3 := Safe.new (Nat.le_of_eq g3.symm)
    rw [← g3] at A3 D3 st3
    have sf5 := (Safe.ext E3 CR0.1 sf4)
    have CR6 := (CR0.trans (CHr.ext E3 CR0.1))
    have hk7 := Nat.le_trans hk0 E3.1
    have Zs8 : n0 ≤ h3.size := Nat.le_trans Z0 E3.1
    have F3_value : Fld Z h3 b3 "java/lang/String" "value" "[B" .null := D3 (Or.inr (ow hw 4 rfl)) (ty := (.array .byte)) (by decide)
    have F3_coder : Fld Z h3 b3 "java/lang/String" "coder" "B" (.int 0) := D3 (Or.inr (ow hw 5 rfl)) (ty := .byte) (by decide)
    obtain ⟨T9, h9, k9, X9, e9, E9, A9, st9⟩ := newP X3 hx hZ (ow hw 54 rfl) e3 (g := (mkF m 9 #[.val (.int 0), .val (.int c0), .val (.int c1), .val (.int c2), .val (.int c3), .val (.int c4), .val (.int c5), .val (.int c6)] [(.int 0), (.ref b3), (.ref b3)])) rfl (hb hby d10_9) rfl (by decide) (cap := 0) (by decide) (by decide) (by decide) (by decide)
    obtain ⟨b9, g9⟩ : ∃ z, z = h3.size := ⟨_, rfl⟩
    have ne_b3_b9 : b3 ≠ b9 := Nat.ne_of_lt (Nat.lt_of_lt_of_le A3.lt (Nat.le_of_eq g9.symm))
    have g_b9 : n0 ≤ b9 := Nat.le_trans Zs8 (Nat.le_of_eq g9.symm)
    have f10 := ((Keep.refl h0 []).ext E3)
    have sz_b9 : h0.size ≤ b9 := Nat.le_trans f10.1 (Nat.le_of_eq g9.symm)
    have sf11 : Safe Z own_EL s.vm h3 b9 := Safe.new (Nat.le_of_eq g9.symm)
    rw [← g9] at A9 st9
    have sf12 := (Safe.ext E9 CR6.1 sf5)
    have sf13 := (Safe.ext E9 CR6.1 sf11)
    have CR14 := (CR6.trans (CHr.ext E9 CR6.1))
    have hk15 := Nat.le_trans hk7 E9.1
    have Zs16 : n0 ≤ h9.size := Nat.le_trans Zs8 E9.1
    have V9 : Arv Z h9 b9 k9 .char (0 : Int32) [] (.int 0) := (Arv.new A9 (by decide)).pad (pad_rep [] (.int 0) 0)
    have pre17 : oP p e below (T9.setTop (mkF m 11 #[.val (.int 0), .val (.int c0), .val (.int c1), .val (.int c2), .val (.int c3), .val (.int c4), .val (.int c5), .val (.int c6)] [(.ref b9), (.ref b3), (.ref b3)])) (SS) := fun t kt => by
      refine pre0 _ ?_
      refine XS.iloadN X0.here hx rfl (hb hby d10_0) rfl ?_
      refine XS.ifNo X0.here hx rfl (hb hby d10_1) rfl (own_if (own_teq (a := (0 : Int32)) (b := (0 : Int32)) (by decide) (by decide) hc1_2).2) ?_
      refine st3 _ ?_
      refine XS.dup X3.here hx rfl (hb hby d10_7) rfl rfl ?_
      refine XS.iconst X3.here hx rfl (hb hby d10_8) ?_
      refine st9 _ ?_
      exact kt
    have os18 := (own_st_ext (own_st_ext Os E3) E9)
    have f19 := (A3.ext E9)
    have f20 := (F3_coder.ext E9)
    have f21 := (F3_value.ext E9)
    obtain ⟨_, _, ⟨T22, L22, k22, n22⟩, -, Xp22, hSp22, hgp22, ⟨Lc22, hQ22, l22, y22, z22, CRn22⟩, st22⟩ := X9.specialBackS hx (y := yn12) rfl hown (mvT hZ (ow hw 55 rfl)) (mvT hZ (ow hw 56 rfl)) (mvT hZ (ow hw 57 rfl)) (by decide) (backOfSH (W := 1) (rm_mk0 l Z a0 hw [] b3 b9 vcs vf k9 h9 n0 Zs16 os18 f19 f20 f21 g_b3 ne_b3_b9 V9) hZ (ow hw 57 rfl) (ow hw 1 rfl) (by decide) (by decide) hEL CR14.1) (g := (mkF m 11 #[.val (.int 0), .val (.int c0), .val (.int c1), .val (.int c2), .val (.int c3), .val (.int c4), .val (.int c5), .val (.int c6)] [(.ref b9), (.ref b3), (.ref b3)])) rfl (by rw [hml]; rfl) (Steps.refl _) (a := b3) (argsL := [(.ref b9)]) (rest := [(.ref b3)]) (lenOf pd_13 rfl) rfl (by exact Nat.le_of_eq rfl) (hb hby d10_11) (fun _ _ => ⟨rfl, e9, (by decide : 2 + 4 ≤ _), (by decide : 4 + 8 ≤ _)⟩)
    dsimp only [Pt.U, Pt.locs, Pt.cells, Pt.slots] at Xp22 hSp22 hgp22 l22 y22 z22 st22 hQ22 CRn22
    rw [l22, y22, z22] at Xp22
    obtain ⟨X22, hS22, hZ, hown⟩ := rebS hS0 (n1 := T9.heap.size) (by rw [e9]; exact hk15) Xp22 hSp22 hgp22 hZ hown
    have sf23 := CRn22.safe f19.lt sf12
    have sf24 := CRn22.safe V9.lt sf13
    have CR25 := CR14.trans CRn22
    obtain ⟨rfl, N22q, K22, A22, ob22, kb22, Fc22, Fv22, Vb22⟩ := hQ22
    have N22 := Fr.app N0 N22q
    have Zs26 : n0 ≤ T22.heap.size := Nat.le_trans Zs16 K22.1
    subst hSS
    obtain ⟨fs, hr, hrun, hended, hREW⟩ := X22.leaveW hS22 (Nat.le_refl T22.heap.size) (v := some (.ref b3)) (fun h => by rw [Bd.returns] at h; cases h)
    refine ⟨_, _, pre17 _ ?_, hrun, hended, _, _, rfl, ?_, ?_, ⟨hREW.1, hREW.2.1, hREW.2.2.1, hREW.2.2.2.mono (by decide) (by decide)⟩⟩
    · refine st22.trans ?_
      jvm_step X22.here [X22.here.top, hx, (hb hby d10_14), X22.method', Bd.returns, Value.isRef, FieldType.isReference]
      first | (intro acts; rw [hr _ acts rfl rfl rfl]) | rw [hr _ _ rfl rfl rfl]
      exact Steps.refl _
    · show Q_make Z _ _ _ _ _ _ _ _ _ _ h0 n0 _ T22.heap _
      have f27 := ((f10.ext E9).trans K22 (allS (P := fun x => x ∈ [] ∨ h0.size ≤ x) (Or.inr sz_b3) all0))
      exact ⟨b3, ob22, _, _, _, rfl, N22, f27, A22, Fc22, Fv22, Vb22⟩
    · show CHr Z own_EL s.vm s.heap T22.vm T22.heap
      rw [hh]
      exact CR25.trans (CHv.at X22 hZ hEL CR25.1)
  · have hc1_28 : ¬ ((1 : Int) = (0 : Int)) := by decide
    have hc17_29 : (1 : Int) = (1 : Int) := by decide
    obtain ⟨T30, h30, X30, e30, E30, A30, D30, -, st30⟩ := newO X0 hx hZ hown (ow hw 53 rfl) (ow hw 2 rfl) (ow hw 1 rfl) e0 (g := (mkF m 20 #[.val (.int 1), .val (.int c0), .val (.int c1), .val (.int c2), .val (.int c3), .val (.int c4), .val (.int c5), .val (.int c6)] [])) rfl (hb hby d10_20) (by decide) (by decide)
    obtain ⟨b30, g30⟩ : ∃ z, z = h0.size := ⟨_, rfl⟩
    have g_b30 : n0 ≤ b30 := Nat.le_trans Z0 (Nat.le_of_eq g30.symm)
    have sz_b30 : h0.size ≤ b30 := Nat.le_trans (Keep.refl h0 []).1 (Nat.le_of_eq g30.symm)
    have sf31 : Safe Z own_EL s.vm h0 b30 := Safe.new (Nat.le_of_eq g30.symm)
    rw [← g30] at A30 D30 st30
    have sf32 := (Safe.ext E30 CR0.1 sf31)
    have CR33 := (CR0.trans (CHr.ext E30 CR0.1))
    have hk34 := Nat.le_trans hk0 E30.1
    have Zs35 : n0 ≤ h30.size := Nat.le_trans Z0 E30.1
    have F30_value : Fld Z h30 b30 "java/lang/String" "value" "[B" .null := D30 (Or.inr (ow hw 4 rfl)) (ty := (.array .byte)) (by decide)
    have F30_coder : Fld Z h30 b30 "java/lang/String" "coder" "B" (.int 0) := D30 (Or.inr (ow hw 5 rfl)) (ty := .byte) (by decide)
    obtain ⟨T36, h36, k36, X36, e36, E36, A36, st36⟩ := newP X30 hx hZ (ow hw 54 rfl) e30 (g := (mkF m 25 #[.val (.int 1), .val (.int c0), .val (.int c1), .val (.int c2), .val (.int c3), .val (.int c4), .val (.int c5), .val (.int c6)] [(.int 1), (.ref b30), (.ref b30)])) rfl (hb hby d10_25) rfl (by decide) (cap := 1) (by decide) (by decide) (by decide) (by decide)
    obtain ⟨b36, g36⟩ : ∃ z, z = h30.size := ⟨_, rfl⟩
    have ne_b30_b36 : b30 ≠ b36 := Nat.ne_of_lt (Nat.lt_of_lt_of_le A30.lt (Nat.le_of_eq g36.symm))
    have g_b36 : n0 ≤ b36 := Nat.le_trans Zs35 (Nat.le_of_eq g36.symm)
    have f37 := ((Keep.refl h0 []).ext E30)
    have sz_b36 : h0.size ≤ b36 := Nat.le_trans f37.1 (Nat.le_of_eq g36.symm)
    have sf38 : Safe Z own_EL s.vm h30 b36 := Safe.new (Nat.le_of_eq g36.symm)
    rw [← g36] at A36 st36
    have sf39 := (Safe.ext E36 CR33.1 sf32)
    have sf40 := (Safe.ext E36 CR33.1 sf38)
    have CR41 := (CR33.trans (CHr.ext E36 CR33.1))
    have hk42 := Nat.le_trans hk34 E36.1
    have Zs43 : n0 ≤ h36.size := Nat.le_trans Zs35 E36.1
    have V36 : Arv Z h36 b36 k36 .char (1 : Int32) [(.int 0)] (.int 0) := (Arv.new A36 (by decide)).pad (pad_rep [] (.int 0) 1)
    obtain ⟨cl44, Ar44, q44, S44, M44, H44, G44⟩ := id V36
    have hin44 : ¬ ((0 : Int32) < 0 ∨ cl44.slots.size ≤ ((0 : Int32)).toNatClampNeg) := inb_of S44 ⟨by decide, by decide⟩
    obtain ⟨T45, h45, X45, e45, W45, st45⟩ := stC X36 hx hZ e36 Ar44 (j := (0 : Int32)) hin44 (g := (mkF m 30 #[.val (.int 1), .val (.int c0), .val (.int c1), .val (.int c2), .val (.int c3), .val (.int c4), .val (.int c5), .val (.int c6)] [(.int c0), (.int 0), (.ref b36), (.ref b36), (.ref b30), (.ref b30)])) rfl rfl (hb hby d10_30)
    have N45 := Fr.snoc X45 N0 g_b36
    have sf46 := (Safe.wr W45 sf40 CR41.1 sf39)
    have sf47 := (Safe.wr W45 sf40 CR41.1 sf40)
    have CR48 := (CR41.trans (CHr.wr W45 sf40 CR41.1))
    have hk49 := Nat.le_trans hk42 (Nat.le_of_eq W45.size.symm)
    have Zs50 : n0 ≤ h45.size := by rw [W45.size]; exact Zs43
    have V45 : Arv Z h45 b36 k36 .char (1 : Int32) [(.int (nar .char c0))] (.int 0) := Arv.set Ar44 q44 S44 M44 H44 G44 (fits_nar_char _) W45 0 rfl (Nat.le_of_ble_eq_true rfl)
    have pre51 : oP p e below (T45.setTop (mkF m 31 #[.val (.int 1), .val (.int c0), .val (.int c1), .val (.int c2), .val (.int c3), .val (.int c4), .val (.int c5), .val (.int c6)] [(.ref b36), (.ref b30), (.ref b30)])) (SS) := fun t kt => by
      refine pre0 _ ?_
      refine XS.iloadN X0.here hx rfl (hb hby d10_0) rfl ?_
      refine XS.ifYes X0.here hx rfl (pc0 := 1) (pc' := 15) rfl (hb hby d10_1) rfl (own_if (own_feq (a := (1 : Int32)) (b := (0 : Int32)) (by decide) (by decide) hc1_28).2) (by decide) (by decide) ?_
      refine XS.iloadN X0.here hx rfl (hb hby d10_15) rfl ?_
      refine XS.iconst X0.here hx rfl (hb hby d10_16) ?_
      refine XS.icmpNo X0.here hx rfl (hb hby d10_17) rfl (own_teq (a := (1 : Int32)) (b := (1 : Int32)) (by decide) (by decide) hc17_29).2 ?_
      refine st30 _ ?_
      refine XS.dup X30.here hx rfl (hb hby d10_23) rfl rfl ?_
      refine XS.iconst X30.here hx rfl (hb hby d10_24) ?_
      refine st36 _ ?_
      refine XS.dup X36.here hx rfl (hb hby d10_27) rfl rfl ?_
      refine XS.iconst X36.here hx rfl (hb hby d10_28) ?_
      refine XS.iloadN X36.here hx rfl (hb hby d10_29) rfl ?_
      refine st45 _ ?_
      exact kt
    have hn53 : nar .char c0 = c0 := own_narc c0 (by omega) (by omega)
    have Vx52 : Arv Z h45 b36 k36 .char (1 : Int32) [(.int c0)] (.int 0) := by
      have q := V45
      rw [hn53] at q; exact q
    have f54 := ((A30.ext E36).wr W45)
    have f55 := ((f37.ext E36).wr W45 (Or.inr sz_b36))
    have os56 := (own_st_wr (own_st_ext (own_st_ext Os E30) E36) W45)
    have f57 := ((F30_coder.ext E36).other W45 (Or.inl ne_b30_b36))
    have f58 := ((F30_value.ext E36).other W45 (Or.inl ne_b30_b36))
    obtain ⟨_, _, ⟨T59, L59, k59, n59⟩, -, X59, ⟨Lc59, hQ59, l59, y59, z59⟩, st59⟩ := X45.specialBack hx (y := yn12) rfl hown (mvT hZ (ow hw 55 rfl)) (mvT hZ (ow hw 56 rfl)) (mvT hZ (ow hw 57 rfl)) (by decide) (backOf (W := 1) (rm_mk1 l Z a0 hw [] b30 b36 vcs vf k36 c0 h45 n0 Zs50 os56 f54 f57 f58 g_b30 ne_b30_b36 Vx52 (by omega) (by omega)) hZ (ow hw 57 rfl) (ow hw 1 rfl) (by decide) (by decide)) (g := (mkF m 31 #[.val (.int 1), .val (.int c0), .val (.int c1), .val (.int c2), .val (.int c3), .val (.int c4), .val (.int c5), .val (.int c6)] [(.ref b36), (.ref b30), (.ref b30)])) rfl (by rw [hml]; rfl) (Steps.refl _) (a := b30) (argsL := [(.ref b36)]) (rest := [(.ref b30)]) (lenOf pd_13 rfl) rfl (by exact Nat.le_of_eq rfl) (hb hby d10_31) (fun _ _ => ⟨rfl, e45, (by decide : 2 + 1 ≤ _), (by decide : 5 + 1 ≤ _)⟩)
    dsimp only [Pt.U, Pt.locs, Pt.cells, Pt.slots] at X59 l59 y59 z59 st59 hQ59
    rw [l59, y59, z59] at X59
    obtain ⟨rfl, N59q, K59, A59, ob59, kb59, y59_0, gb59, szb59, Fc59, Fv59, Vb59, qy59_0⟩ := hQ59
    have N59 := Fr.app N45 N59q
    have sf60 := (Safe.keep K59 (sfS sf46 sf0) CR48.1 sf46)
    have sf61 := (Safe.keep K59 (sfS sf46 sf0) CR48.1 sf47)
    have CR62 := (CR48.trans (CHr.keep K59 (sfS sf46 sf0) CR48.1))
    have hk63 := Nat.le_trans hk49 K59.1
    have Zs64 : n0 ≤ T59.heap.size := Nat.le_trans Zs50 K59.1
    have ne_b30_ob59 : b30 ≠ ob59 := Nat.ne_of_lt (Nat.lt_of_lt_of_le f54.lt szb59)
    have ne_b36_ob59 : b36 ≠ ob59 := Nat.ne_of_lt (Nat.lt_of_lt_of_le Vx52.lt szb59)
    have sz_ob59 : h0.size ≤ ob59 := Nat.le_trans f55.1 szb59
    subst hSS
    obtain ⟨fs, hr, hrun, hended, hREW⟩ := X59.leaveW hS0 hk63 (v := some (.ref b30)) (fun h => by rw [Bd.returns] at h; cases h)
    refine ⟨_, _, pre51 _ ?_, hrun, hended, _, _, rfl, ?_, ?_, ⟨hREW.1, hREW.2.1, hREW.2.2.1, hREW.2.2.2.mono (by decide) (by decide)⟩⟩
    · refine st59.trans ?_
      jvm_step X59.here [X59.here.top, hx, (hb hby d10_34), X59.method', Bd.returns, Value.isRef, FieldType.isReference]
      first | (intro acts; rw [hr _ acts rfl rfl rfl]) | rw [hr _ _ rfl rfl rfl]
      exact Steps.refl _
    · show Q_make Z _ _ _ _ _ _ _ _ _ _ h0 n0 _ T59.heap _
      have f65 := (f55.trans K59 (allS (P := fun x => x ∈ [] ∨ h0.size ≤ x) (Or.inr sz_b30) all0))
      exact ⟨b30, ob59, _, _, _, rfl, N59, f65, A59, Fc59, Fv59, Vb59⟩
    · show CHr Z own_EL s.vm s.heap T59.vm T59.heap
      rw [hh]
      exact CR62.trans (CHv.at X59 hZ hEL CR62.1)
  · have hc1_66 : ¬ ((2 : Int) = (0 : Int)) := by decide
    have hc17_67 : ¬ ((2 : Int) = (1 : Int)) := by decide
    have hc37_68 : (2 : Int) = (2 : Int) := by decide
    obtain ⟨T69, h69, X69, e69, E69, A69, D69, -, st69⟩ := newO X0 hx hZ hown (ow hw 53 rfl) (ow hw 2 rfl) (ow hw 1 rfl) e0 (g := (mkF m 40 #[.val (.int 2), .val (.int c0), .val (.int c1), .val (.int c2), .val (.int c3), .val (.int c4), .val (.int c5), .val (.int c6)] [])) rfl (hb hby d10_40) (by decide) (by decide)
    obtain ⟨b69, g69⟩ : ∃ z, z = h0.size := ⟨_, rfl⟩
    have g_b69 : n0 ≤ b69 := Nat.le_trans Z0 (Nat.le_of_eq g69.symm)
    have sz_b69 : h0.size ≤ b69 := Nat.le_trans (Keep.refl h0 []).1 (Nat.le_of_eq g69.symm)
    have sf70 : Safe Z own_EL s.vm h0 b69 := Safe.new (Nat.le_of_eq g69.symm)
    rw [← g69] at A69 D69 st69
    have sf71 := (Safe.ext E69 CR0.1 sf70)
    have CR72 := (CR0.trans (CHr.ext E69 CR0.1))
    have hk73 := Nat.le_trans hk0 E69.1
    have Zs74 : n0 ≤ h69.size := Nat.le_trans Z0 E69.1
    have F69_value : Fld Z h69 b69 "java/lang/String" "value" "[B" .null := D69 (Or.inr (ow hw 4 rfl)) (ty := (.array .byte)) (by decide)
    have F69_coder : Fld Z h69 b69 "java/lang/String" "coder" "B" (.int 0) := D69 (Or.inr (ow hw 5 rfl)) (ty := .byte) (by decide)
    obtain ⟨T75, h75, k75, X75, e75, E75, A75, st75⟩ := newP X69 hx hZ (ow hw 54 rfl) e69 (g := (mkF m 45 #[.val (.int 2), .val (.int c0), .val (.int c1), .val (.int c2), .val (.int c3), .val (.int c4), .val (.int c5), .val (.int c6)] [(.int 2), (.ref b69), (.ref b69)])) rfl (hb hby d10_45) rfl (by decide) (cap := 2) (by decide) (by decide) (by decide) (by decide)
    obtain ⟨b75, g75⟩ : ∃ z, z = h69.size := ⟨_, rfl⟩
    have ne_b69_b75 : b69 ≠ b75 := Nat.ne_of_lt (Nat.lt_of_lt_of_le A69.lt (Nat.le_of_eq g75.symm))
    have g_b75 : n0 ≤ b75 := Nat.le_trans Zs74 (Nat.le_of_eq g75.symm)
    have f76 := ((Keep.refl h0 []).ext E69)
    have sz_b75 : h0.size ≤ b75 := Nat.le_trans f76.1 (Nat.le_of_eq g75.symm)
    have sf77 : Safe Z own_EL s.vm h69 b75 := Safe.new (Nat.le_of_eq g75.symm)
    rw [← g75] at A75 st75
    have sf78 := (Safe.ext E75 CR72.1 sf71)
    have sf79 := (Safe.ext E75 CR72.1 sf77)
    have CR80 := (CR72.trans (CHr.ext E75 CR72.1))
    have hk81 := Nat.le_trans hk73 E75.1
    have Zs82 : n0 ≤ h75.size := Nat.le_trans Zs74 E75.1
    have V75 : Arv Z h75 b75 k75 .char (2 : Int32) [(.int 0), (.int 0)] (.int 0) := (Arv.new A75 (by decide)).pad (pad_rep [] (.int 0) 2)
    obtain ⟨cl83, Ar83, q83, S83, M83, H83, G83⟩ := id V75
    have hin83 : ¬ ((0 : Int32) < 0 ∨ cl83.slots.size ≤ ((0 : Int32)).toNatClampNeg) := inb_of S83 ⟨by decide, by decide⟩
    obtain ⟨T84, h84, X84, e84, W84, st84⟩ := stC X75 hx hZ e75 Ar83 (j := (0 : Int32)) hin83 (g := (mkF m 50 #[.val (.int 2), .val (.int c0), .val (.int c1), .val (.int c2), .val (.int c3), .val (.int c4), .val (.int c5), .val (.int c6)] [(.int c0), (.int 0), (.ref b75), (.ref b75), (.ref b69), (.ref b69)])) rfl rfl (hb hby d10_50)
    have N84 := Fr.snoc X84 N0 g_b75
    have sf85 := (Safe.wr W84 sf79 CR80.1 sf78)
    have sf86 := (Safe.wr W84 sf79 CR80.1 sf79)
    have CR87 := (CR80.trans (CHr.wr W84 sf79 CR80.1))
    have hk88 := Nat.le_trans hk81 (Nat.le_of_eq W84.size.symm)
    have Zs89 : n0 ≤ h84.size := by rw [W84.size]; exact Zs82
    have V84 : Arv Z h84 b75 k75 .char (2 : Int32) [(.int (nar .char c0)), (.int 0)] (.int 0) := Arv.set Ar83 q83 S83 M83 H83 G83 (fits_nar_char _) W84 0 rfl (Nat.le_of_ble_eq_true rfl)
    obtain ⟨cl90, Ar90, q90, S90, M90, H90, G90⟩ := id V84
    have hin90 : ¬ ((1 : Int32) < 0 ∨ cl90.slots.size ≤ ((1 : Int32)).toNatClampNeg) := inb_of S90 ⟨by decide, by decide⟩
    obtain ⟨T91, h91, X91, e91, W91, st91⟩ := stC X84 hx hZ e84 Ar90 (j := (1 : Int32)) hin90 (g := (mkF m 54 #[.val (.int 2), .val (.int c0), .val (.int c1), .val (.int c2), .val (.int c3), .val (.int c4), .val (.int c5), .val (.int c6)] [(.int c1), (.int 1), (.ref b75), (.ref b75), (.ref b69), (.ref b69)])) rfl rfl (hb hby d10_54)
    have N91 := Fr.snoc X91 N84 g_b75
    have sf92 := (Safe.wr W91 sf86 CR87.1 sf85)
    have sf93 := (Safe.wr W91 sf86 CR87.1 sf86)
    have CR94 := (CR87.trans (CHr.wr W91 sf86 CR87.1))
    have hk95 := Nat.le_trans hk88 (Nat.le_of_eq W91.size.symm)
    have Zs96 : n0 ≤ h91.size := by rw [W91.size]; exact Zs89
    have V91 : Arv Z h91 b75 k75 .char (2 : Int32) [(.int (nar .char c0)), (.int (nar .char c1))] (.int 0) := Arv.set Ar90 q90 S90 M90 H90 G90 (fits_nar_char _) W91 1 rfl (Nat.le_of_ble_eq_true rfl)
    have pre97 : oP p e below (T91.setTop (mkF m 55 #[.val (.int 2), .val (.int c0), .val (.int c1), .val (.int c2), .val (.int c3), .val (.int c4), .val (.int c5), .val (.int c6)] [(.ref b75), (.ref b69), (.ref b69)])) (SS) := fun t kt => by
      refine pre0 _ ?_
      refine XS.iloadN X0.here hx rfl (hb hby d10_0) rfl ?_
      refine XS.ifYes X0.here hx rfl (pc0 := 1) (pc' := 15) rfl (hb hby d10_1) rfl (own_if (own_feq (a := (2 : Int32)) (b := (0 : Int32)) (by decide) (by decide) hc1_66).2) (by decide) (by decide) ?_
      refine XS.iloadN X0.here hx rfl (hb hby d10_15) rfl ?_
      refine XS.iconst X0.here hx rfl (hb hby d10_16) ?_
      refine XS.icmpYes X0.here hx rfl (pc0 := 17) (pc' := 35) rfl (hb hby d10_17) rfl (own_feq (a := (2 : Int32)) (b := (1 : Int32)) (by decide) (by decide) hc17_67).2 (by decide) (by decide) ?_
      refine XS.iloadN X0.here hx rfl (hb hby d10_35) rfl ?_
      refine XS.iconst X0.here hx rfl (hb hby d10_36) ?_
      refine XS.icmpNo X0.here hx rfl (hb hby d10_37) rfl (own_teq (a := (2 : Int32)) (b := (2 : Int32)) (by decide) (by decide) hc37_68).2 ?_
      refine st69 _ ?_
      refine XS.dup X69.here hx rfl (hb hby d10_43) rfl rfl ?_
      refine XS.iconst X69.here hx rfl (hb hby d10_44) ?_
      refine st75 _ ?_
      refine XS.dup X75.here hx rfl (hb hby d10_47) rfl rfl ?_
      refine XS.iconst X75.here hx rfl (hb hby d10_48) ?_
      refine XS.iloadN X75.here hx rfl (hb hby d10_49) rfl ?_
      refine st84 _ ?_
      refine XS.dup X84.here hx rfl (hb hby d10_51) rfl rfl ?_
      refine XS.iconst X84.here hx rfl (hb hby d10_52) ?_
      refine XS.iloadN X84.here hx rfl (hb hby d10_53) rfl ?_
      show Steps p.tables e below (T84.setTop (mkF m 54 #[.val (.int 2), .val (.int c0), .val (.int c1), .val (.int c2), .val (.int c3), .val (.int c4), .val (.int c5), .val (.int c6)] [(.int c1), (.int 1), (.ref b75), (.ref b75), (.ref b69), (.ref b69)])) _
      refine st91 _ ?_
      exact kt
    have hn99 : nar .char c0 = c0 := own_narc c0 (by omega) (by omega)
    have hn100 : nar .char c1 = c1 := own_narc c1 (by omega) (by omega)
    have Vx98 : Arv Z h91 b75 k75 .char (2 : Int32) [(.int c0), (.int c1)] (.int 0) := by
      have q := V91
      rw [hn99, hn100] at q; exact q
    have f101 := (((A69.ext E75).wr W84).wr W91)
    have f102 := (((f76.ext E75).wr W84 (Or.inr sz_b75)).wr W91 (Or.inr sz_b75))
    have os103 := (own_st_wr (own_st_wr (own_st_ext (own_st_ext Os E69) E75) W84) W91)
    have f104 := (((F69_coder.ext E75).other W84 (Or.inl ne_b69_b75)).other W91 (Or.inl ne_b69_b75))
    have f105 := (((F69_value.ext E75).other W84 (Or.inl ne_b69_b75)).other W91 (Or.inl ne_b69_b75))
    obtain ⟨_, _, ⟨T106, L106, k106, n106⟩, -, X106, ⟨Lc106, hQ106, l106, y106, z106⟩, st106⟩ := X91.specialBack hx (y := yn12) rfl hown (mvT hZ (ow hw 55 rfl)) (mvT hZ (ow hw 56 rfl)) (mvT hZ (ow hw 57 rfl)) (by decide) (backOf (W := 1) (rm_mk2 l Z a0 hw [] b69 b75 vcs vf k75 c0 c1 h91 n0 Zs96 os103 f101 f104 f105 g_b69 ne_b69_b75 Vx98 (by omega) (by omega) (by omega) (by omega)) hZ (ow hw 57 rfl) (ow hw 1 rfl) (by decide) (by decide)) (g := (mkF m 55 #[.val (.int 2), .val (.int c0), .val (.int c1), .val (.int c2), .val (.int c3), .val (.int c4), .val (.int c5), .val (.int c6)] [(.ref b75), (.ref b69), (.ref b69)])) rfl (by rw [hml]; rfl) (Steps.refl _) (a := b69) (argsL := [(.ref b75)]) (rest := [(.ref b69)]) (lenOf pd_13 rfl) rfl (by exact Nat.le_of_eq rfl) (hb hby d10_55) (fun _ _ => ⟨rfl, e91, (by decide : 2 + 1 ≤ _), (by decide : 6 + 2 ≤ _)⟩)
    dsimp only [Pt.U, Pt.locs, Pt.cells, Pt.slots] at X106 l106 y106 z106 st106 hQ106
    rw [l106, y106, z106] at X106
    obtain ⟨rfl, N106q, K106, A106, ob106, kb106, y106_0, y106_1, gb106, szb106, Fc106, Fv106, Vb106, qy106_0, qy106_1⟩ := hQ106
    have N106 := Fr.app N91 N106q
    have sf107 := (Safe.keep K106 (sfS sf92 sf0) CR94.1 sf92)
    have sf108 := (Safe.keep K106 (sfS sf92 sf0) CR94.1 sf93)
    have CR109 := (CR94.trans (CHr.keep K106 (sfS sf92 sf0) CR94.1))
    have hk110 := Nat.le_trans hk95 K106.1
    have Zs111 : n0 ≤ T106.heap.size := Nat.le_trans Zs96 K106.1
    have ne_b69_ob106 : b69 ≠ ob106 := Nat.ne_of_lt (Nat.lt_of_lt_of_le f101.lt szb106)
    have ne_b75_ob106 : b75 ≠ ob106 := Nat.ne_of_lt (Nat.lt_of_lt_of_le Vx98.lt szb106)
    have sz_ob106 : h0.size ≤ ob106 := Nat.le_trans f102.1 szb106
    subst hSS
    obtain ⟨fs, hr, hrun, hended, hREW⟩ := X106.leaveW hS0 hk110 (v := some (.ref b69)) (fun h => by rw [Bd.returns] at h; cases h)
    refine ⟨_, _, pre97 _ ?_, hrun, hended, _, _, rfl, ?_, ?_, ⟨hREW.1, hREW.2.1, hREW.2.2.1, hREW.2.2.2.mono (by decide) (by decide)⟩⟩
    · refine st106.trans ?_
      jvm_step X106.here [X106.here.top, hx, (hb hby d10_58), X106.method', Bd.returns, Value.isRef, FieldType.isReference]
      first | (intro acts; rw [hr _ acts rfl rfl rfl]) | rw [hr _ _ rfl rfl rfl]
      exact Steps.refl _
    · show Q_make Z _ _ _ _ _ _ _ _ _ _ h0 n0 _ T106.heap _
      have f112 := (f102.trans K106 (allS (P := fun x => x ∈ [] ∨ h0.size ≤ x) (Or.inr sz_b69) all0))
      exact ⟨b69, ob106, _, _, _, rfl, N106, f112, A106, Fc106, Fv106, Vb106⟩
    · show CHr Z own_EL s.vm s.heap T106.vm T106.heap
      rw [hh]
      exact CR109.trans (CHv.at X106 hZ hEL CR109.1)
  · have hc1_113 : ¬ ((3 : Int) = (0 : Int)) := by decide
    have hc17_114 : ¬ ((3 : Int) = (1 : Int)) := by decide
    have hc37_115 : ¬ ((3 : Int) = (2 : Int)) := by decide
    have hc61_116 : (3 : Int) = (3 : Int) := by decide
    obtain ⟨T117, h117, X117, e117, E117, A117, D117, -, st117⟩ := newO X0 hx hZ hown (ow hw 53 rfl) (ow hw 2 rfl) (ow hw 1 rfl) e0 (g := (mkF m 64 #[.val (.int 3), .val (.int c0), .val (.int c1), .val (.int c2), .val (.int c3), .val (.int c4), .val (.int c5), .val (.int c6)] [])) rfl (hb hby d10_64) (by decide) (by decide)
    obtain ⟨b117, g117⟩ : ∃ z, z = h0.size := ⟨_, rfl⟩
    have g_b117 : n0 ≤ b117 := Nat.le_trans Z0 (Nat.le_of_eq g117.symm)
    have sz_b117 : h0.size ≤ b117 := Nat.le_trans (Keep.refl h0 []).1 (Nat.le_of_eq g117.symm)
    have sf118 : Safe Z own_EL s.vm h0 b117 := Safe.new (Nat.le_of_eq g117.symm)
    rw [← g117] at A117 D117 st117
    have sf119 := (Safe.ext E117 CR0.1 sf118)
    have CR120 := (CR0.trans (CHr.ext E117 CR0.1))
    have hk121 := Nat.le_trans hk0 E117.1
    have Zs122 : n0 ≤ h117.size := Nat.le_trans Z0 E117.1
    have F117_value : Fld Z h117 b117 "java/lang/String" "value" "[B" .null := D117 (Or.inr (ow hw 4 rfl)) (ty := (.array .byte)) (by decide)
    have F117_coder : Fld Z h117 b117 "java/lang/String" "coder" "B" (.int 0) := D117 (Or.inr (ow hw 5 rfl)) (ty := .byte) (by decide)
    obtain ⟨T123, h123, k123, X123, e123, E123, A123, st123⟩ := newP X117 hx hZ (ow hw 54 rfl) e117 (g := (mkF m 69 #[.val (.int 3), .val (.int c0), .val (.int c1), .val (.int c2), .val (.int c3), .val (.int c4), .val (.int c5), .val (.int c6)] [(.int 3), (.ref b117), (.ref b117)])) rfl (hb hby d10_69) rfl (by decide) (cap := 3) (by decide) (by decide) (by decide) (by decide)
    obtain ⟨b123, g123⟩ : ∃ z, z = h117.size := ⟨_, rfl⟩
    have ne_b117_b123 : b117 ≠ b123 := Nat.ne_of_lt (Nat.lt_of_lt_of_le A117.lt (Nat.le_of_eq g123.symm))
    have g_b123 : n0 ≤ b123 := Nat.le_trans Zs122 (Nat.le_of_eq g123.symm)
    have f124 := ((Keep.refl h0 []).ext E117)
    have sz_b123 : h0.size ≤ b123 := Nat.le_trans f124.1 (Nat.le_of_eq g123.symm)
    have sf125 : Safe Z own_EL s.vm h117 b123 := Safe.new (Nat.le_of_eq g123.symm)
    rw [← g123] at A123 st123
    have sf126 := (Safe.ext E123 CR120.1 sf119)
    have sf127 := (Safe.ext E123 CR120.1 sf125)
    have CR128 := (CR120.trans (CHr.ext E123 CR120.1))
    have hk129 := Nat.le_trans hk121 E123.1
    have Zs130 : n0 ≤ h123.size := Nat.le_trans Zs122 E123.1
    have V123 : Arv Z h123 b123 k123 .char (3 : Int32) [(.int 0), (.int 0), (.int 0)] (.int 0) := (Arv.new A123 (by decide)).pad (pad_rep [] (.int 0) 3)
    obtain ⟨cl131, Ar131, q131, S131, M131, H131, G131⟩ := id V123
    have hin131 : ¬ ((0 : Int32) < 0 ∨ cl131.slots.size ≤ ((0 : Int32)).toNatClampNeg) := inb_of S131 ⟨by decide, by decide⟩
    obtain ⟨T132, h132, X132, e132, W132, st132⟩ := stC X123 hx hZ e123 Ar131 (j := (0 : Int32)) hin131 (g := (mkF m 74 #[.val (.int 3), .val (.int c0), .val (.int c1), .val (.int c2), .val (.int c3), .val (.int c4), .val (.int c5), .val (.int c6)] [(.int c0), (.int 0), (.ref b123), (.ref b123), (.ref b117), (.ref b117)])) rfl rfl (hb hby d10_74)
    have N132 := Fr.snoc X132 N0 g_b123
    have sf133 := (Safe.wr W132 sf127 CR128.1 sf126)
    have sf134 := (Safe.wr W132 sf127 CR128.1 sf127)
    have CR135 := (CR128.trans (CHr.wr W132 sf127 CR128.1))
    have hk136 := Nat.le_trans hk129 (Nat.le_of_eq W132.size.symm)
    have Zs137 : n0 ≤ h132.size := by rw [W132.size]; exact Zs130
    have V132 : Arv Z h132 b123 k123 .char (3 : Int32) [(.int (nar .char c0)), (.int 0), (.int 0)] (.int 0) := Arv.set Ar131 q131 S131 M131 H131 G131 (fits_nar_char _) W132 0 rfl (Nat.le_of_ble_eq_true rfl)
    obtain ⟨cl138, Ar138, q138, S138, M138, H138, G138⟩ := id V132
    have hin138 : ¬ ((1 : Int32) < 0 ∨ cl138.slots.size ≤ ((1 : Int32)).toNatClampNeg) := inb_of S138 ⟨by decide, by decide⟩
    obtain ⟨T139, h139, X139, e139, W139, st139⟩ := stC X132 hx hZ e132 Ar138 (j := (1 : Int32)) hin138 (g := (mkF m 78 #[.val (.int 3), .val (.int c0), .val (.int c1), .val (.int c2), .val (.int c3), .val (.int c4), .val (.int c5), .val (.int c6)] [(.int c1), (.int 1), (.ref b123), (.ref b123), (.ref b117), (.ref b117)])) rfl rfl (hb hby d10_78)
    have N139 := Fr.snoc X139 N132 g_b123
    have sf140 := (Safe.wr W139 sf134 CR135.1 sf133)
    have sf141 := (Safe.wr W139 sf134 CR135.1 sf134)
    have CR142 := (CR135.trans (CHr.wr W139 sf134 CR135.1))
    have hk143 := Nat.le_trans hk136 (Nat.le_of_eq W139.size.symm)
    have Zs144 : n0 ≤ h139.size := by rw [W139.size]; exact Zs137
    have V139 : Arv Z h139 b123 k123 .char (3 : Int32) [(.int (nar .char c0)), (.int (nar .char c1)), (.int 0)] (.int 0) := Arv.set Ar138 q138 S138 M138 H138 G138 (fits_nar_char _) W139 1 rfl (Nat.le_of_ble_eq_true rfl)
    obtain ⟨cl145, Ar145, q145, S145, M145, H145, G145⟩ := id V139
    have hin145 : ¬ ((2 : Int32) < 0 ∨ cl145.slots.size ≤ ((2 : Int32)).toNatClampNeg) := inb_of S145 ⟨by decide, by decide⟩
    obtain ⟨T146, h146, X146, e146, W146, st146⟩ := stC X139 hx hZ e139 Ar145 (j := (2 : Int32)) hin145 (g := (mkF m 82 #[.val (.int 3), .val (.int c0), .val (.int c1), .val (.int c2), .val (.int c3), .val (.int c4), .val (.int c5), .val (.int c6)] [(.int c2), (.int 2), (.ref b123), (.ref b123), (.ref b117), (.ref b117)])) rfl rfl (hb hby d10_82)
    have N146 := Fr.snoc X146 N139 g_b123
    have sf147 := (Safe.wr W146 sf141 CR142.1 sf140)
    have sf148 := (Safe.wr W146 sf141 CR142.1 sf141)
    have CR149 := (CR142.trans (CHr.wr W146 sf141 CR142.1))
    have hk150 := Nat.le_trans hk143 (Nat.le_of_eq W146.size.symm)
    have Zs151 : n0 ≤ h146.size := by rw [W146.size]; exact Zs144
    have V146 : Arv Z h146 b123 k123 .char (3 : Int32) [(.int (nar .char c0)), (.int (nar .char c1)), (.int (nar .char c2))] (.int 0) := Arv.set Ar145 q145 S145 M145 H145 G145 (fits_nar_char _) W146 2 rfl (Nat.le_of_ble_eq_true rfl)
    have pre152 : oP p e below (T146.setTop (mkF m 83 #[.val (.int 3), .val (.int c0), .val (.int c1), .val (.int c2), .val (.int c3), .val (.int c4), .val (.int c5), .val (.int c6)] [(.ref b123), (.ref b117), (.ref b117)])) (SS) := fun t kt => by
      refine pre0 _ ?_
      refine XS.iloadN X0.here hx rfl (hb hby d10_0) rfl ?_
      refine XS.ifYes X0.here hx rfl (pc0 := 1) (pc' := 15) rfl (hb hby d10_1) rfl (own_if (own_feq (a := (3 : Int32)) (b := (0 : Int32)) (by decide) (by decide) hc1_113).2) (by decide) (by decide) ?_
      refine XS.iloadN X0.here hx rfl (hb hby d10_15) rfl ?_
      refine XS.iconst X0.here hx rfl (hb hby d10_16) ?_
      refine XS.icmpYes X0.here hx rfl (pc0 := 17) (pc' := 35) rfl (hb hby d10_17) rfl (own_feq (a := (3 : Int32)) (b := (1 : Int32)) (by decide) (by decide) hc17_114).2 (by decide) (by decide) ?_
      refine XS.iloadN X0.here hx rfl (hb hby d10_35) rfl ?_
      refine XS.iconst X0.here hx rfl (hb hby d10_36) ?_
      refine XS.icmpYes X0.here hx rfl (pc0 := 37) (pc' := 59) rfl (hb hby d10_37) rfl (own_feq (a := (3 : Int32)) (b := (2 : Int32)) (by decide) (by decide) hc37_115).2 (by decide) (by decide) ?_
      refine XS.iloadN X0.here hx rfl (hb hby d10_59) rfl ?_
      refine XS.iconst X0.here hx rfl (hb hby d10_60) ?_
      refine XS.icmpNo X0.here hx rfl (hb hby d10_61) rfl (own_teq (a := (3 : Int32)) (b := (3 : Int32)) (by decide) (by decide) hc61_116).2 ?_
      refine st117 _ ?_
      refine XS.dup X117.here hx rfl (hb hby d10_67) rfl rfl ?_
      refine XS.iconst X117.here hx rfl (hb hby d10_68) ?_
      refine st123 _ ?_
      refine XS.dup X123.here hx rfl (hb hby d10_71) rfl rfl ?_
      refine XS.iconst X123.here hx rfl (hb hby d10_72) ?_
      refine XS.iloadN X123.here hx rfl (hb hby d10_73) rfl ?_
      refine st132 _ ?_
      show Steps p.tables e below (T132.setTop (mkF m 75 #[.val (.int 3), .val (.int c0), .val (.int c1), .val (.int c2), .val (.int c3), .val (.int c4), .val (.int c5), .val (.int c6)] [(.ref b123), (.ref b117), (.ref b117)])) _
      refine XS.dup X132.here hx rfl (hb hby d10_75) rfl rfl ?_
      refine XS.iconst X132.here hx rfl (hb hby d10_76) ?_
      refine XS.iloadN X132.here hx rfl (hb hby d10_77) rfl ?_
      refine st139 _ ?_
      refine XS.dup X139.here hx rfl (hb hby d10_79) rfl rfl ?_
      refine XS.iconst X139.here hx rfl (hb hby d10_80) ?_
      refine XS.iloadN X139.here hx rfl (hb hby d10_81) rfl ?_
      refine st146 _ ?_
      exact kt
    have hn154 : nar .char c0 = c0 := own_narc c0 (by omega) (by omega)
    have hn155 : nar .char c1 = c1 := own_narc c1 (by omega) (by omega)
    have hn156 : nar .char c2 = c2 := own_narc c2 (by omega) (by omega)
    have Vx153 : Arv Z h146 b123 k123 .char (3 : Int32) [(.int c0), (.int c1), (.int c2)] (.int 0) := by
      have q := V146
      rw [hn154, hn155, hn156] at q; exact q
    have f157 := ((((A117.ext E123).wr W132).wr W139).wr W146)
    have f158 := ((((f124.ext E123).wr W132 (Or.inr sz_b123)).wr W139 (Or.inr sz_b123)).wr W146 (Or.inr sz_b123))
    have os159 := (own_st_wr (own_st_wr (own_st_wr (own_st_ext (own_st_ext Os E117) E123) W132) W139) W146)
    have f160 := ((((F117_coder.ext E123).other W132 (Or.inl ne_b117_b123)).other W139 (Or.inl ne_b117_b123)).other W146 (Or.inl ne_b117_b123))
    have f161 := ((((F117_value.ext E123).other W132 (Or.inl ne_b117_b123)).other W139 (Or.inl ne_b117_b123)).other W146 (Or.inl ne_b117_b123))
    obtain ⟨_, _, ⟨T162, L162, k162, n162⟩, -, X162, ⟨Lc162, hQ162, l162, y162, z162⟩, st162⟩ := X146.specialBack hx (y := yn12) rfl hown (mvT hZ (ow hw 55 rfl)) (mvT hZ (ow hw 56 rfl)) (mvT hZ (ow hw 57 rfl)) (by decide) (backOf (W := 1) (rm_mk3 l Z a0 hw [] b117 b123 vcs vf k123 c0 c1 c2 h146 n0 Zs151 os159 f157 f160 f161 g_b117 ne_b117_b123 Vx153 (by omega) (by omega) (by omega) (by omega) (by omega) (by omega)) hZ (ow hw 57 rfl) (ow hw 1 rfl) (by decide) (by decide)) (g := (mkF m 83 #[.val (.int 3), .val (.int c0), .val (.int c1), .val (.int c2), .val (.int c3), .val (.int c4), .val (.int c5), .val (.int c6)] [(.ref b123), (.ref b117), (.ref b117)])) rfl (by rw [hml]; rfl) (Steps.refl _) (a := b117) (argsL := [(.ref b123)]) (rest := [(.ref b117)]) (lenOf pd_13 rfl) rfl (by exact Nat.le_of_eq rfl) (hb hby d10_83) (fun _ _ => ⟨rfl, e146, (by decide : 2 + 1 ≤ _), (by decide : 7 + 3 ≤ _)⟩)
    dsimp only [Pt.U, Pt.locs, Pt.cells, Pt.slots] at X162 l162 y162 z162 st162 hQ162
    rw [l162, y162, z162] at X162
    obtain ⟨rfl, N162q, K162, A162, ob162, kb162, y162_0, y162_1, y162_2, gb162, szb162, Fc162, Fv162, Vb162, qy162_0, qy162_1, qy162_2⟩ := hQ162
    have N162 := Fr.app N146 N162q
    have sf163 := (Safe.keep K162 (sfS sf147 sf0) CR149.1 sf147)
    have sf164 := (Safe.keep K162 (sfS sf147 sf0) CR149.1 sf148)
    have CR165 := (CR149.trans (CHr.keep K162 (sfS sf147 sf0) CR149.1))
    have hk166 := Nat.le_trans hk150 K162.1
    have Zs167 : n0 ≤ T162.heap.size := Nat.le_trans Zs151 K162.1
    have ne_b117_ob162 : b117 ≠ ob162 := Nat.ne_of_lt (Nat.lt_of_lt_of_le f157.lt szb162)
    have ne_b123_ob162 : b123 ≠ ob162 := Nat.ne_of_lt (Nat.lt_of_lt_of_le Vx153.lt szb162)
    have sz_ob162 : h0.size ≤ ob162 := Nat.le_trans f158.1 szb162
    subst hSS
    obtain ⟨fs, hr, hrun, hended, hREW⟩ := X162.leaveW hS0 hk166 (v := some (.ref b117)) (fun h => by rw [Bd.returns] at h; cases h)
    refine ⟨_, _, pre152 _ ?_, hrun, hended, _, _, rfl, ?_, ?_, ⟨hREW.1, hREW.2.1, hREW.2.2.1, hREW.2.2.2.mono (by decide) (by decide)⟩⟩
    · refine st162.trans ?_
      jvm_step X162.here [X162.here.top, hx, (hb hby d10_86), X162.method', Bd.returns, Value.isRef, FieldType.isReference]
      first | (intro acts; rw [hr _ acts rfl rfl rfl]) | rw [hr _ _ rfl rfl rfl]
      exact Steps.refl _
    · show Q_make Z _ _ _ _ _ _ _ _ _ _ h0 n0 _ T162.heap _
      have f168 := (f158.trans K162 (allS (P := fun x => x ∈ [] ∨ h0.size ≤ x) (Or.inr sz_b117) all0))
      exact ⟨b117, ob162, _, _, _, rfl, N162, f168, A162, Fc162, Fv162, Vb162⟩
    · show CHr Z own_EL s.vm s.heap T162.vm T162.heap
      rw [hh]
      exact CR165.trans (CHv.at X162 hZ hEL CR165.1)
  · have hc1_169 : ¬ ((4 : Int) = (0 : Int)) := by decide
    have hc17_170 : ¬ ((4 : Int) = (1 : Int)) := by decide
    have hc37_171 : ¬ ((4 : Int) = (2 : Int)) := by decide
    have hc61_172 : ¬ ((4 : Int) = (3 : Int)) := by decide
    have hc89_173 : (4 : Int) = (4 : Int) := by decide
    obtain ⟨T174, h174, X174, e174, E174, A174, D174, -, st174⟩ := newO X0 hx hZ hown (ow hw 53 rfl) (ow hw 2 rfl) (ow hw 1 rfl) e0 (g := (mkF m 92 #[.val (.int 4), .val (.int c0), .val (.int c1), .val (.int c2), .val (.int c3), .val (.int c4), .val (.int c5), .val (.int c6)] [])) rfl (hb hby d10_92) (by decide) (by decide)
    obtain ⟨b174, g174⟩ : ∃ z, z = h0.size := ⟨_, rfl⟩
    have g_b174 : n0 ≤ b174 := Nat.le_trans Z0 (Nat.le_of_eq g174.symm)
    have sz_b174 : h0.size ≤ b174 := Nat.le_trans (Keep.refl h0 []).1 (Nat.le_of_eq g174.symm)
    have sf175 : Safe Z own_EL s.vm h0 b174 := Safe.new (Nat.le_of_eq g174.symm)
    rw [← g174] at A174 D174 st174
    have sf176 := (Safe.ext E174 CR0.1 sf175)
    have CR177 := (CR0.trans (CHr.ext E174 CR0.1))
    have hk178 := Nat.le_trans hk0 E174.1
    have Zs179 : n0 ≤ h174.size := Nat.le_trans Z0 E174.1
    have F174_value : Fld Z h174 b174 "java/lang/String" "value" "[B" .null := D174 (Or.inr (ow hw 4 rfl)) (ty := (.array .byte)) (by decide)
    have F174_coder : Fld Z h174 b174 "java/lang/String" "coder" "B" (.int 0) := D174 (Or.inr (ow hw 5 rfl)) (ty := .byte) (by decide)
    obtain ⟨T180, h180, k180, X180, e180, E180, A180, st180⟩ := newP X174 hx hZ (ow hw 54 rfl) e174 (g := (mkF m 97 #[.val (.int 4), .val (.int c0), .val (.int c1), .val (.int c2), .val (.int c3), .val (.int c4), .val (.int c5), .val (.int c6)] [(.int 4), (.ref b174), (.ref b174)])) rfl (hb hby d10_97) rfl (by decide) (cap := 4) (by decide) (by decide) (by decide) (by decide)
    obtain ⟨b180, g180⟩ : ∃ z, z = h174.size := ⟨_, rfl⟩
    have ne_b174_b180 : b174 ≠ b180 := Nat.ne_of_lt (Nat.lt_of_lt_of_le A174.lt (Nat.le_of_eq g180.symm))
    have g_b180 : n0 ≤ b180 := Nat.le_trans Zs179 (Nat.le_of_eq g180.symm)
    have f181 := ((Keep.refl h0 []).ext E174)
    have sz_b180 : h0.size ≤ b180 := Nat.le_trans f181.1 (Nat.le_of_eq g180.symm)
    have sf182 : Safe Z own_EL s.vm h174 b180 := Safe.new (Nat.le_of_eq g180.symm)
    rw [← g180] at A180 st180
    have sf183 := (Safe.ext E180 CR177.1 sf176)
    have sf184 := (Safe.ext E180 CR177.1 sf182)
    have CR185 := (CR177.trans (CHr.ext E180 CR177.1))
    have hk186 := Nat.le_trans hk178 E180.1
    have Zs187 : n0 ≤ h180.size := Nat.le_trans Zs179 E180.1
    have V180 : Arv Z h180 b180 k180 .char (4 : Int32) [(.int 0), (.int 0), (.int 0), (.int 0)] (.int 0) := (Arv.new A180 (by decide)).pad (pad_rep [] (.int 0) 4)
    obtain ⟨cl188, Ar188, q188, S188, M188, H188, G188⟩ := id V180
    have hin188 : ¬ ((0 : Int32) < 0 ∨ cl188.slots.size ≤ ((0 : Int32)).toNatClampNeg) := inb_of S188 ⟨by decide, by decide⟩
    obtain ⟨T189, h189, X189, e189, W189, st189⟩ := stC X180 hx hZ e180 Ar188 (j := (0 : Int32)) hin188 (g := (mkF m 102 #[.val (.int 4), .val (.int c0), .val (.int c1), .val (.int c2), .val (.int c3), .val (.int c4), .val (.int c5), .val (.int c6)] [(.int c0), (.int 0), (.ref b180), (.ref b180), (.ref b174), (.ref b174)])) rfl rfl (hb hby d10_102)
    have N189 := Fr.snoc X189 N0 g_b180
    have sf190 := (Safe.wr W189 sf184 CR185.1 sf183)
    have sf191 := (Safe.wr W189 sf184 CR185.1 sf184)
    have CR192 := (CR185.trans (CHr.wr W189 sf184 CR185.1))
    have hk193 := Nat.le_trans hk186 (Nat.le_of_eq W189.size.symm)
    have Zs194 : n0 ≤ h189.size := by rw [W189.size]; exact Zs187
    have V189 : Arv Z h189 b180 k180 .char (4 : Int32) [(.int (nar .char c0)), (.int 0), (.int 0), (.int 0)] (.int 0) := Arv.set Ar188 q188 S188 M188 H188 G188 (fits_nar_char _) W189 0 rfl (Nat.le_of_ble_eq_true rfl)
    obtain ⟨cl195, Ar195, q195, S195, M195, H195, G195⟩ := id V189
    have hin195 : ¬ ((1 : Int32) < 0 ∨ cl195.slots.size ≤ ((1 : Int32)).toNatClampNeg) := inb_of S195 ⟨by decide, by decide⟩
    obtain ⟨T196, h196, X196, e196, W196, st196⟩ := stC X189 hx hZ e189 Ar195 (j := (1 : Int32)) hin195 (g := (mkF m 106 #[.val (.int 4), .val (.int c0), .val (.int c1), .val (.int c2), .val (.int c3), .val (.int c4), .val (.int c5), .val (.int c6)] [(.int c1), (.int 1), (.ref b180), (.ref b180), (.ref b174), (.ref b174)])) rfl rfl (hb hby d10_106)
    have N196 := Fr.snoc X196 N189 g_b180
    have sf197 := (Safe.wr W196 sf191 CR192.1 sf190)
    have sf198 := (Safe.wr W196 sf191 CR192.1 sf191)
    have CR199 := (CR192.trans (CHr.wr W196 sf191 CR192.1))
    have hk200 := Nat.le_trans hk193 (Nat.le_of_eq W196.size.symm)
    have Zs201 : n0 ≤ h196.size := by rw [W196.size]; exact Zs194
    have V196 : Arv Z h196 b180 k180 .char (4 : Int32) [(.int (nar .char c0)), (.int (nar .char c1)), (.int 0), (.int 0)] (.int 0) := Arv.set Ar195 q195 S195 M195 H195 G195 (fits_nar_char _) W196 1 rfl (Nat.le_of_ble_eq_true rfl)
    obtain ⟨cl202, Ar202, q202, S202, M202, H202, G202⟩ := id V196
    have hin202 : ¬ ((2 : Int32) < 0 ∨ cl202.slots.size ≤ ((2 : Int32)).toNatClampNeg) := inb_of S202 ⟨by decide, by decide⟩
    obtain ⟨T203, h203, X203, e203, W203, st203⟩ := stC X196 hx hZ e196 Ar202 (j := (2 : Int32)) hin202 (g := (mkF m 110 #[.val (.int 4), .val (.int c0), .val (.int c1), .val (.int c2), .val (.int c3), .val (.int c4), .val (.int c5), .val (.int c6)] [(.int c2), (.int 2), (.ref b180), (.ref b180), (.ref b174), (.ref b174)])) rfl rfl (hb hby d10_110)
    have N203 := Fr.snoc X203 N196 g_b180
    have sf204 := (Safe.wr W203 sf198 CR199.1 sf197)
    have sf205 := (Safe.wr W203 sf198 CR199.1 sf198)
    have CR206 := (CR199.trans (CHr.wr W203 sf198 CR199.1))
    have hk207 := Nat.le_trans hk200 (Nat.le_of_eq W203.size.symm)
    have Zs208 : n0 ≤ h203.size := by rw [W203.size]; exact Zs201
    have V203 : Arv Z h203 b180 k180 .char (4 : Int32) [(.int (nar .char c0)), (.int (nar .char c1)), (.int (nar .char c2)), (.int 0)] (.int 0) := Arv.set Ar202 q202 S202 M202 H202 G202 (fits_nar_char _) W203 2 rfl (Nat.le_of_ble_eq_true rfl)
    obtain ⟨cl209, Ar209, q209, S209, M209, H209, G209⟩ := id V203
    have hin209 : ¬ ((3 : Int32) < 0 ∨ cl209.slots.size ≤ ((3 : Int32)).toNatClampNeg) := inb_of S209 ⟨by decide, by decide⟩
    obtain ⟨T210, h210, X210, e210, W210, st210⟩ := stC X203 hx hZ e203 Ar209 (j := (3 : Int32)) hin209 (g := (mkF m 115 #[.val (.int 4), .val (.int c0), .val (.int c1), .val (.int c2), .val (.int c3), .val (.int c4), .val (.int c5), .val (.int c6)] [(.int c3), (.int 3), (.ref b180), (.ref b180), (.ref b174), (.ref b174)])) rfl rfl (hb hby d10_115)
    have N210 := Fr.snoc X210 N203 g_b180
    have sf211 := (Safe.wr W210 sf205 CR206.1 sf204)
    have sf212 := (Safe.wr W210 sf205 CR206.1 sf205)
    have CR213 := (CR206.trans (CHr.wr W210 sf205 CR206.1))
    have hk214 := Nat.le_trans hk207 (Nat.le_of_eq W210.size.symm)
    have Zs215 : n0 ≤ h210.size := by rw [W210.size]; exact Zs208
    have V210 : Arv Z h210 b180 k180 .char (4 : Int32) [(.int (nar .char c0)), (.int (nar .char c1)), (.int (nar .char c2)), (.int (nar .char c3))] (.int 0) := Arv.set Ar209 q209 S209 M209 H209 G209 (fits_nar_char _) W210 3 rfl (Nat.le_of_ble_eq_true rfl)
    have pre216 : oP p e below (T210.setTop (mkF m 116 #[.val (.int 4), .val (.int c0), .val (.int c1), .val (.int c2), .val (.int c3), .val (.int c4), .val (.int c5), .val (.int c6)] [(.ref b180), (.ref b174), (.ref b174)])) (SS) := fun t kt => by
      refine pre0 _ ?_
      refine XS.iloadN X0.here hx rfl (hb hby d10_0) rfl ?_
      refine XS.ifYes X0.here hx rfl (pc0 := 1) (pc' := 15) rfl (hb hby d10_1) rfl (own_if (own_feq (a := (4 : Int32)) (b := (0 : Int32)) (by decide) (by decide) hc1_169).2) (by decide) (by decide) ?_
      refine XS.iloadN X0.here hx rfl (hb hby d10_15) rfl ?_
      refine XS.iconst X0.here hx rfl (hb hby d10_16) ?_
      refine XS.icmpYes X0.here hx rfl (pc0 := 17) (pc' := 35) rfl (hb hby d10_17) rfl (own_feq (a := (4 : Int32)) (b := (1 : Int32)) (by decide) (by decide) hc17_170).2 (by decide) (by decide) ?_
      refine XS.iloadN X0.here hx rfl (hb hby d10_35) rfl ?_
      refine XS.iconst X0.here hx rfl (hb hby d10_36) ?_
      refine XS.icmpYes X0.here hx rfl (pc0 := 37) (pc' := 59) rfl (hb hby d10_37) rfl (own_feq (a := (4 : Int32)) (b := (2 : Int32)) (by decide) (by decide) hc37_171).2 (by decide) (by decide) ?_
      refine XS.iloadN X0.here hx rfl (hb hby d10_59) rfl ?_
      refine XS.iconst X0.here hx rfl (hb hby d10_60) ?_
      refine XS.icmpYes X0.here hx rfl (pc0 := 61) (pc' := 87) rfl (hb hby d10_61) rfl (own_feq (a := (4 : Int32)) (b := (3 : Int32)) (by decide) (by decide) hc61_172).2 (by decide) (by decide) ?_
      refine XS.iloadN X0.here hx rfl (hb hby d10_87) rfl ?_
      refine XS.iconst X0.here hx rfl (hb hby d10_88) ?_
      refine XS.icmpNo X0.here hx rfl (hb hby d10_89) rfl (own_teq (a := (4 : Int32)) (b := (4 : Int32)) (by decide) (by decide) hc89_173).2 ?_
      refine st174 _ ?_
      refine XS.dup X174.here hx rfl (hb hby d10_95) rfl rfl ?_
      refine XS.iconst X174.here hx rfl (hb hby d10_96) ?_
      refine st180 _ ?_
      refine XS.dup X180.here hx rfl (hb hby d10_99) rfl rfl ?_
      show Steps p.tables e below (T180.setTop (mkF m 100 #[.val (.int 4), .val (.int c0), .val (.int c1), .val (.int c2), .val (.int c3), .val (.int c4), .val (.int c5), .val (.int c6)] [(.ref b180), (.ref b180), (.ref b174), (.ref b174)])) _
      refine XS.iconst X180.here hx rfl (hb hby d10_100) ?_
      refine XS.iloadN X180.here hx rfl (hb hby d10_101) rfl ?_
      refine st189 _ ?_
      refine XS.dup X189.here hx rfl (hb hby d10_103) rfl rfl ?_
      refine XS.iconst X189.here hx rfl (hb hby d10_104) ?_
      refine XS.iloadN X189.here hx rfl (hb hby d10_105) rfl ?_
      refine st196 _ ?_
      refine XS.dup X196.here hx rfl (hb hby d10_107) rfl rfl ?_
      refine XS.iconst X196.here hx rfl (hb hby d10_108) ?_
      refine XS.iloadN X196.here hx rfl (hb hby d10_109) rfl ?_
      refine st203 _ ?_
      refine XS.dup X203.here hx rfl (hb hby d10_111) rfl rfl ?_
      refine XS.iconst X203.here hx rfl (hb hby d10_112) ?_
      refine XS.iload X203.here hx rfl (hb hby d10_113) rfl ?_
      refine st210 _ ?_
      exact kt
    have hn218 : nar .char c0 = c0 := own_narc c0 (by omega) (by omega)
    have hn219 : nar .char c1 = c1 := own_narc c1 (by omega) (by omega)
    have hn220 : nar .char c2 = c2 := own_narc c2 (by omega) (by omega)
    have hn221 : nar .char c3 = c3 := own_narc c3 (by omega) (by omega)
    have Vx217 : Arv Z h210 b180 k180 .char (4 : Int32) [(.int c0), (.int c1), (.int c2), (.int c3)] (.int 0) := by
      have q := V210
      rw [hn218, hn219, hn220, hn221] at q; exact q
    have f222 := (((((A174.ext E180).wr W189).wr W196).wr W203).wr W210)
    have f223 := (((((f181.ext E180).wr W189 (Or.inr sz_b180)).wr W196 (Or.inr sz_b180)).wr W203 (Or.inr sz_b180)).wr W210 (Or.inr sz_b180))
    have os224 := (own_st_wr (own_st_wr (own_st_wr (own_st_wr (own_st_ext (own_st_ext Os E174) E180) W189) W196) W203) W210)
    have f225 := (((((F174_coder.ext E180).other W189 (Or.inl ne_b174_b180)).other W196 (Or.inl ne_b174_b180)).other W203 (Or.inl ne_b174_b180)).other W210 (Or.inl ne_b174_b180))
    have f226 := (((((F174_value.ext E180).other W189 (Or.inl ne_b174_b180)).other W196 (Or.inl ne_b174_b180)).other W203 (Or.inl ne_b174_b180)).other W210 (Or.inl ne_b174_b180))
    obtain ⟨_, _, ⟨T227, L227, k227, n227⟩, -, X227, ⟨Lc227, hQ227, l227, y227, z227⟩, st227⟩ := X210.specialBack hx (y := yn12) rfl hown (mvT hZ (ow hw 55 rfl)) (mvT hZ (ow hw 56 rfl)) (mvT hZ (ow hw 57 rfl)) (by decide) (backOf (W := 1) (rm_mk4 l Z a0 hw [] b174 b180 vcs vf k180 c0 c1 c2 c3 h210 n0 Zs215 os224 f222 f225 f226 g_b174 ne_b174_b180 Vx217 (by omega) (by omega) (by omega) (by omega) (by omega) (by omega) (by omega) (by omega)) hZ (ow hw 57 rfl) (ow hw 1 rfl) (by decide) (by decide)) (g := (mkF m 116 #[.val (.int 4), .val (.int c0), .val (.int c1), .val (.int c2), .val (.int c3), .val (.int c4), .val (.int c5), .val (.int c6)] [(.ref b180), (.ref b174), (.ref b174)])) rfl (by rw [hml]; rfl) (Steps.refl _) (a := b174) (argsL := [(.ref b180)]) (rest := [(.ref b174)]) (lenOf pd_13 rfl) rfl (by exact Nat.le_of_eq rfl) (hb hby d10_116) (fun _ _ => ⟨rfl, e210, (by decide : 2 + 1 ≤ _), (by decide : 8 + 4 ≤ _)⟩)
    dsimp only [Pt.U, Pt.locs, Pt.cells, Pt.slots] at X227 l227 y227 z227 st227 hQ227
    rw [l227, y227, z227] at X227
    obtain ⟨rfl, N227q, K227, A227, ob227, kb227, y227_0, y227_1, y227_2, y227_3, gb227, szb227, Fc227, Fv227, Vb227, qy227_0, qy227_1, qy227_2, qy227_3⟩ := hQ227
    have N227 := Fr.app N210 N227q
    have sf228 := (Safe.keep K227 (sfS sf211 sf0) CR213.1 sf211)
    have sf229 := (Safe.keep K227 (sfS sf211 sf0) CR213.1 sf212)
    have CR230 := (CR213.trans (CHr.keep K227 (sfS sf211 sf0) CR213.1))
    have hk231 := Nat.le_trans hk214 K227.1
    have Zs232 : n0 ≤ T227.heap.size := Nat.le_trans Zs215 K227.1
    have ne_b174_ob227 : b174 ≠ ob227 := Nat.ne_of_lt (Nat.lt_of_lt_of_le f222.lt szb227)
    have ne_b180_ob227 : b180 ≠ ob227 := Nat.ne_of_lt (Nat.lt_of_lt_of_le Vx217.lt szb227)
    have sz_ob227 : h0.size ≤ ob227 := Nat.le_trans f223.1 szb227
    subst hSS
    obtain ⟨fs, hr, hrun, hended, hREW⟩ := X227.leaveW hS0 hk231 (v := some (.ref b174)) (fun h => by rw [Bd.returns] at h; cases h)
    refine ⟨_, _, pre216 _ ?_, hrun, hended, _, _, rfl, ?_, ?_, ⟨hREW.1, hREW.2.1, hREW.2.2.1, hREW.2.2.2.mono (by decide) (by decide)⟩⟩
    · refine st227.trans ?_
      jvm_step X227.here [X227.here.top, hx, (hb hby d10_119), X227.method', Bd.returns, Value.isRef, FieldType.isReference]
      first | (intro acts; rw [hr _ acts rfl rfl rfl]) | rw [hr _ _ rfl rfl rfl]
      exact Steps.refl _
    · show Q_make Z _ _ _ _ _ _ _ _ _ _ h0 n0 _ T227.heap _
      have f233 := (f223.trans K227 (allS (P := fun x => x ∈ [] ∨ h0.size ≤ x) (Or.inr sz_b174) all0))
      exact ⟨b174, ob227, _, _, _, rfl, N227, f233, A227, Fc227, Fv227, Vb227⟩
    · show CHr Z own_EL s.vm s.heap T227.vm T227.heap
      rw [hh]
      exact CR230.trans (CHv.at X227 hZ hEL CR230.1)
  · have hc1_234 : ¬ ((5 : Int) = (0 : Int)) := by decide
    have hc17_235 : ¬ ((5 : Int) = (1 : Int)) := by decide
    have hc37_236 : ¬ ((5 : Int) = (2 : Int)) := by decide
    have hc61_237 : ¬ ((5 : Int) = (3 : Int)) := by decide
    have hc89_238 : ¬ ((5 : Int) = (4 : Int)) := by decide
    have hc122_239 : (5 : Int) = (5 : Int) := by decide
    obtain ⟨T240, h240, X240, e240, E240, A240, D240, -, st240⟩ := newO X0 hx hZ hown (ow hw 53 rfl) (ow hw 2 rfl) (ow hw 1 rfl) e0 (g := (mkF m 125 #[.val (.int 5), .val (.int c0), .val (.int c1), .val (.int c2), .val (.int c3), .val (.int c4), .val (.int c5), .val (.int c6)] [])) rfl (hb hby d10_125) (by decide) (by decide)
    obtain ⟨b240, g240⟩ : ∃ z, z = h0.size := ⟨_, rfl⟩
    have g_b240 : n0 ≤ b240 := Nat.le_trans Z0 (Nat.le_of_eq g240.symm)
    have sz_b240 : h0.size ≤ b240 := Nat.le_trans (Keep.refl h0 []).1 (Nat.le_of_eq g240.symm)
    have sf241 : Safe Z own_EL s.vm h0 b240 := Safe.new (Nat.le_of_eq g240.symm)
    rw [← g240] at A240 D240 st240
    have sf242 := (Safe.ext E240 CR0.1 sf241)
    have CR243 := (CR0.trans (CHr.ext E240 CR0.1))
    have hk244 := Nat.le_trans hk0 E240.1
    have Zs245 : n0 ≤ h240.size := Nat.le_trans Z0 E240.1
    have F240_value : Fld Z h240 b240 "java/lang/String" "value" "[B" .null := D240 (Or.inr (ow hw 4 rfl)) (ty := (.array .byte)) (by decide)
    have F240_coder : Fld Z h240 b240 "java/lang/String" "coder" "B" (.int 0) := D240 (Or.inr (ow hw 5 rfl)) (ty := .byte) (by decide)
    obtain ⟨T246, h246, k246, X246, e246, E246, A246, st246⟩ := newP X240 hx hZ (ow hw 54 rfl) e240 (g := (mkF m 130 #[.val (.int 5), .val (.int c0), .val (.int c1), .val (.int c2), .val (.int c3), .val (.int c4), .val (.int c5), .val (.int c6)] [(.int 5), (.ref b240), (.ref b240)])) rfl (hb hby d10_130) rfl (by decide) (cap := 5) (by decide) (by decide) (by decide) (by decide)
    obtain ⟨b246, g246⟩ : ∃ z, z = h240.size := ⟨_, rfl⟩
    have ne_b240_b246 : b240 ≠ b246 := Nat.ne_of_lt (Nat.lt_of_lt_of_le A240.lt (Nat.le_of_eq g246.symm))
    have g_b246 : n0 ≤ b246 := Nat.le_trans Zs245 (Nat.le_of_eq g246.symm)
    have f247 := ((Keep.refl h0 []).ext E240)
    have sz_b246 : h0.size ≤ b246 := Nat.le_trans f247.1 (Nat.le_of_eq g246.symm)
    have sf248 : Safe Z own_EL s.vm h240 b246 := Safe.new (Nat.le_of_eq g246.symm)
    rw [← g246] at A246 st246
    have sf249 := (Safe.ext E246 CR243.1 sf242)
    have sf250 := (Safe.ext E246 CR243.1 sf248)
    have CR251 := (CR243.trans (CHr.ext E246 CR243.1))
    have hk252 := Nat.le_trans hk244 E246.1
    have Zs253 : n0 ≤ h246.size := Nat.le_trans Zs245 E246.1
    have V246 : Arv Z h246 b246 k246 .char (5 : Int32) [(.int 0), (.int 0), (.int 0), (.int 0), (.int 0)] (.int 0) := (Arv.new A246 (by decide)).pad (pad_rep [] (.int 0) 5)
    obtain ⟨cl254, Ar254, q254, S254, M254, H254, G254⟩ := id V246
    have hin254 : ¬ ((0 : Int32) < 0 ∨ cl254.slots.size ≤ ((0 : Int32)).toNatClampNeg) := inb_of S254 ⟨by decide, by decide⟩
    obtain ⟨T255, h255, X255, e255, W255, st255⟩ := stC X246 hx hZ e246 Ar254 (j := (0 : Int32)) hin254 (g := (mkF m 135 #[.val (.int 5), .val (.int c0), .val (.int c1), .val (.int c2), .val (.int c3), .val (.int c4), .val (.int c5), .val (.int c6)] [(.int c0), (.int 0), (.ref b246), (.ref b246), (.ref b240), (.ref b240)])) rfl rfl (hb hby d10_135)
    have N255 := Fr.snoc X255 N0 g_b246
    have sf256 := (Safe.wr W255 sf250 CR251.1 sf249)
    have sf257 := (Safe.wr W255 sf250 CR251.1 sf250)
    have CR258 := (CR251.trans (CHr.wr W255 sf250 CR251.1))
    have hk259 := Nat.le_trans hk252 (Nat.le_of_eq W255.size.symm)
    have Zs260 : n0 ≤ h255.size := by rw [W255.size]; exact Zs253
    have V255 : Arv Z h255 b246 k246 .char (5 : Int32) [(.int (nar .char c0)), (.int 0), (.int 0), (.int 0), (.int 0)] (.int 0) := Arv.set Ar254 q254 S254 M254 H254 G254 (fits_nar_char _) W255 0 rfl (Nat.le_of_ble_eq_true rfl)
    obtain ⟨cl261, Ar261, q261, S261, M261, H261, G261⟩ := id V255
    have hin261 : ¬ ((1 : Int32) < 0 ∨ cl261.slots.size ≤ ((1 : Int32)).toNatClampNeg) := inb_of S261 ⟨by decide, by decide⟩
    obtain ⟨T262, h262, X262, e262, W262, st262⟩ := stC X255 hx hZ e255 Ar261 (j := (1 : Int32)) hin261 (g := (mkF m 139 #[.val (.int 5), .val (.int c0), .val (.int c1), .val (.int c2), .val (.int c3), .val (.int c4), .val (.int c5), .val (.int c6)] [(.int c1), (.int 1), (.ref b246), (.ref b246), (.ref b240), (.ref b240)])) rfl rfl (hb hby d10_139)
    have N262 := Fr.snoc X262 N255 g_b246
    have sf263 := (Safe.wr W262 sf257 CR258.1 sf256)
    have sf264 := (Safe.wr W262 sf257 CR258.1 sf257)
    have CR265 := (CR258.trans (CHr.wr W262 sf257 CR258.1))
    have hk266 := Nat.le_trans hk259 (Nat.le_of_eq W262.size.symm)
    have Zs267 : n0 ≤ h262.size := by rw [W262.size]; exact Zs260
    have V262 : Arv Z h262 b246 k246 .char (5 : Int32) [(.int (nar .char c0)), (.int (nar .char c1)), (.int 0), (.int 0), (.int 0)] (.int 0) := Arv.set Ar261 q261 S261 M261 H261 G261 (fits_nar_char _) W262 1 rfl (Nat.le_of_ble_eq_true rfl)
    obtain ⟨cl268, Ar268, q268, S268, M268, H268, G268⟩ := id V262
    have hin268 : ¬ ((2 : Int32) < 0 ∨ cl268.slots.size ≤ ((2 : Int32)).toNatClampNeg) := inb_of S268 ⟨by decide, by decide⟩
    obtain ⟨T269, h269, X269, e269, W269, st269⟩ := stC X262 hx hZ e262 Ar268 (j := (2 : Int32)) hin268 (g := (mkF m 143 #[.val (.int 5), .val (.int c0), .val (.int c1), .val (.int c2), .val (.int c3), .val (.int c4), .val (.int c5), .val (.int c6)] [(.int c2), (.int 2), (.ref b246), (.ref b246), (.ref b240), (.ref b240)])) rfl rfl (hb hby d10_143)
    have N269 := Fr.snoc X269 N262 g_b246
    have sf270 := (Safe.wr W269 sf264 CR265.1 sf263)
    have sf271 := (Safe.wr W269 sf264 CR265.1 sf264)
    have CR272 := (CR265.trans (CHr.wr W269 sf264 CR265.1))
    have hk273 := Nat.le_trans hk266 (Nat.le_of_eq W269.size.symm)
    have Zs274 : n0 ≤ h269.size := by rw [W269.size]; exact Zs267
    have V269 : Arv Z h269 b246 k246 .char (5 : Int32) [(.int (nar .char c0)), (.int (nar .char c1)), (.int (nar .char c2)), (.int 0), (.int 0)] (.int 0) := Arv.set Ar268 q268 S268 M268 H268 G268 (fits_nar_char _) W269 2 rfl (Nat.le_of_ble_eq_true rfl)
    obtain ⟨cl275, Ar275, q275, S275, M275, H275, G275⟩ := id V269
    have hin275 : ¬ ((3 : Int32) < 0 ∨ cl275.slots.size ≤ ((3 : Int32)).toNatClampNeg) := inb_of S275 ⟨by decide, by decide⟩
    obtain ⟨T276, h276, X276, e276, W276, st276⟩ := stC X269 hx hZ e269 Ar275 (j := (3 : Int32)) hin275 (g := (mkF m 148 #[.val (.int 5), .val (.int c0), .val (.int c1), .val (.int c2), .val (.int c3), .val (.int c4), .val (.int c5), .val (.int c6)] [(.int c3), (.int 3), (.ref b246), (.ref b246), (.ref b240), (.ref b240)])) rfl rfl (hb hby d10_148)
    have N276 := Fr.snoc X276 N269 g_b246
    have sf277 := (Safe.wr W276 sf271 CR272.1 sf270)
    have sf278 := (Safe.wr W276 sf271 CR272.1 sf271)
    have CR279 := (CR272.trans (CHr.wr W276 sf271 CR272.1))
    have hk280 := Nat.le_trans hk273 (Nat.le_of_eq W276.size.symm)
    have Zs281 : n0 ≤ h276.size := by rw [W276.size]; exact Zs274
    have V276 : Arv Z h276 b246 k246 .char (5 : Int32) [(.int (nar .char c0)), (.int (nar .char c1)), (.int (nar .char c2)), (.int (nar .char c3)), (.int 0)] (.int 0) := Arv.set Ar275 q275 S275 M275 H275 G275 (fits_nar_char _) W276 3 rfl (Nat.le_of_ble_eq_true rfl)
    obtain ⟨cl282, Ar282, q282, S282, M282, H282, G282⟩ := id V276
    have hin282 : ¬ ((4 : Int32) < 0 ∨ cl282.slots.size ≤ ((4 : Int32)).toNatClampNeg) := inb_of S282 ⟨by decide, by decide⟩
    obtain ⟨T283, h283, X283, e283, W283, st283⟩ := stC X276 hx hZ e276 Ar282 (j := (4 : Int32)) hin282 (g := (mkF m 153 #[.val (.int 5), .val (.int c0), .val (.int c1), .val (.int c2), .val (.int c3), .val (.int c4), .val (.int c5), .val (.int c6)] [(.int c4), (.int 4), (.ref b246), (.ref b246), (.ref b240), (.ref b240)])) rfl rfl (hb hby d10_153)
    have N283 := Fr.snoc X283 N276 g_b246
    have sf284 := (Safe.wr W283 sf278 CR279.1 sf277)
    have sf285 := (Safe.wr W283 sf278 CR279.1 sf278)
    have CR286 := (CR279.trans (CHr.wr W283 sf278 CR279.1))
    have hk287 := Nat.le_trans hk280 (Nat.le_of_eq W283.size.symm)
    have Zs288 : n0 ≤ h283.size := by rw [W283.size]; exact Zs281
    have V283 : Arv Z h283 b246 k246 .char (5 : Int32) [(.int (nar .char c0)), (.int (nar .char c1)), (.int (nar .char c2)), (.int (nar .char c3)), (.int (nar .char c4))] (.int 0) := Arv.set Ar282 q282 S282 M282 H282 G282 (fits_nar_char _) W283 4 rfl (Nat.le_of_ble_eq_true rfl)
    have pre289 : oP p e below (T283.setTop (mkF m 154 #[.val (.int 5), .val (.int c0), .val (.int c1), .val (.int c2), .val (.int c3), .val (.int c4), .val (.int c5), .val (.int c6)] [(.ref b246), (.ref b240), (.ref b240)])) (SS) := fun t kt => by
      refine pre0 _ ?_
      refine XS.iloadN X0.here hx rfl (hb hby d10_0) rfl ?_
      refine XS.ifYes X0.here hx rfl (pc0 := 1) (pc' := 15) rfl (hb hby d10_1) rfl (own_if (own_feq (a := (5 : Int32)) (b := (0 : Int32)) (by decide) (by decide) hc1_234).2) (by decide) (by decide) ?_
      refine XS.iloadN X0.here hx rfl (hb hby d10_15) rfl ?_
      refine XS.iconst X0.here hx rfl (hb hby d10_16) ?_
      refine XS.icmpYes X0.here hx rfl (pc0 := 17) (pc' := 35) rfl (hb hby d10_17) rfl (own_feq (a := (5 : Int32)) (b := (1 : Int32)) (by decide) (by decide) hc17_235).2 (by decide) (by decide) ?_
      refine XS.iloadN X0.here hx rfl (hb hby d10_35) rfl ?_
      refine XS.iconst X0.here hx rfl (hb hby d10_36) ?_
      refine XS.icmpYes X0.here hx rfl (pc0 := 37) (pc' := 59) rfl (hb hby d10_37) rfl (own_feq (a := (5 : Int32)) (b := (2 : Int32)) (by decide) (by decide) hc37_236).2 (by decide) (by decide) ?_
      refine XS.iloadN X0.here hx rfl (hb hby d10_59) rfl ?_
      refine XS.iconst X0.here hx rfl (hb hby d10_60) ?_
      refine XS.icmpYes X0.here hx rfl (pc0 := 61) (pc' := 87) rfl (hb hby d10_61) rfl (own_feq (a := (5 : Int32)) (b := (3 : Int32)) (by decide) (by decide) hc61_237).2 (by decide) (by decide) ?_
      refine XS.iloadN X0.here hx rfl (hb hby d10_87) rfl ?_
      refine XS.iconst X0.here hx rfl (hb hby d10_88) ?_
      refine XS.icmpYes X0.here hx rfl (pc0 := 89) (pc' := 120) rfl (hb hby d10_89) rfl (own_feq (a := (5 : Int32)) (b := (4 : Int32)) (by decide) (by decide) hc89_238).2 (by decide) (by decide) ?_
      refine XS.iloadN X0.here hx rfl (hb hby d10_120) rfl ?_
      refine XS.iconst X0.here hx rfl (hb hby d10_121) ?_
      refine XS.icmpNo X0.here hx rfl (hb hby d10_122) rfl (own_teq (a := (5 : Int32)) (b := (5 : Int32)) (by decide) (by decide) hc122_239).2 ?_
      refine st240 _ ?_
      refine XS.dup X240.here hx rfl (hb hby d10_128) rfl rfl ?_
      show Steps p.tables e below (T240.setTop (mkF m 129 #[.val (.int 5), .val (.int c0), .val (.int c1), .val (.int c2), .val (.int c3), .val (.int c4), .val (.int c5), .val (.int c6)] [(.ref b240), (.ref b240)])) _
      refine XS.iconst X240.here hx rfl (hb hby d10_129) ?_
      refine st246 _ ?_
      refine XS.dup X246.here hx rfl (hb hby d10_132) rfl rfl ?_
      refine XS.iconst X246.here hx rfl (hb hby d10_133) ?_
      refine XS.iloadN X246.here hx rfl (hb hby d10_134) rfl ?_
      refine st255 _ ?_
      refine XS.dup X255.here hx rfl (hb hby d10_136) rfl rfl ?_
      refine XS.iconst X255.here hx rfl (hb hby d10_137) ?_
      refine XS.iloadN X255.here hx rfl (hb hby d10_138) rfl ?_
      refine st262 _ ?_
      refine XS.dup X262.here hx rfl (hb hby d10_140) rfl rfl ?_
      refine XS.iconst X262.here hx rfl (hb hby d10_141) ?_
      refine XS.iloadN X262.here hx rfl (hb hby d10_142) rfl ?_
      refine st269 _ ?_
      refine XS.dup X269.here hx rfl (hb hby d10_144) rfl rfl ?_
      refine XS.iconst X269.here hx rfl (hb hby d10_145) ?_
      refine XS.iload X269.here hx rfl (hb hby d10_146) rfl ?_
      refine st276 _ ?_
      refine XS.dup X276.here hx rfl (hb hby d10_149) rfl rfl ?_
      refine XS.iconst X276.here hx rfl (hb hby d10_150) ?_
      show Steps p.tables e below (T276.setTop (mkF m 151 #[.val (.int 5), .val (.int c0), .val (.int c1), .val (.int c2), .val (.int c3), .val (.int c4), .val (.int c5), .val (.int c6)] [(.int 4), (.ref b246), (.ref b246), (.ref b240), (.ref b240)])) _
      refine XS.iload X276.here hx rfl (hb hby d10_151) rfl ?_
      refine st283 _ ?_
      exact kt
    have hn291 : nar .char c0 = c0 := own_narc c0 (by omega) (by omega)
    have hn292 : nar .char c1 = c1 := own_narc c1 (by omega) (by omega)
    have hn293 : nar .char c2 = c2 := own_narc c2 (by omega) (by omega)
    have hn294 : nar .char c3 = c3 := own_narc c3 (by omega) (by omega)
    have hn295 : nar .char c4 = c4 := own_narc c4 (by omega) (by omega)
    have Vx290 : Arv Z h283 b246 k246 .char (5 : Int32) [(.int c0), (.int c1), (.int c2), (.int c3), (.int c4)] (.int 0) := by
      have q := V283
      rw [hn291, hn292, hn293, hn294, hn295] at q; exact q
    have f296 := ((((((A240.ext E246).wr W255).wr W262).wr W269).wr W276).wr W283)
    have f297 := ((((((f247.ext E246).wr W255 (Or.inr sz_b246)).wr W262 (Or.inr sz_b246)).wr W269 (Or.inr sz_b246)).wr W276 (Or.inr sz_b246)).wr W283 (Or.inr sz_b246))
    have os298 := (own_st_wr (own_st_wr (own_st_wr (own_st_wr (own_st_wr (own_st_ext (own_st_ext Os E240) E246) W255) W262) W269) W276) W283)
    have f299 := ((((((F240_coder.ext E246).other W255 (Or.inl ne_b240_b246)).other W262 (Or.inl ne_b240_b246)).other W269 (Or.inl ne_b240_b246)).other W276 (Or.inl ne_b240_b246)).other W283 (Or.inl ne_b240_b246))
    have f300 := ((((((F240_value.ext E246).other W255 (Or.inl ne_b240_b246)).other W262 (Or.inl ne_b240_b246)).other W269 (Or.inl ne_b240_b246)).other W276 (Or.inl ne_b240_b246)).other W283 (Or.inl ne_b240_b246))
    obtain ⟨_, _, ⟨T301, L301, k301, n301⟩, -, X301, ⟨Lc301, hQ301, l301, y301, z301⟩, st301⟩ := X283.specialBack hx (y := yn12) rfl hown (mvT hZ (ow hw 55 rfl)) (mvT hZ (ow hw 56 rfl)) (mvT hZ (ow hw 57 rfl)) (by decide) (backOf (W := 1) (rm_mk5 l Z a0 hw [] b240 b246 vcs vf k246 c0 c1 c2 c3 c4 h283 n0 Zs288 os298 f296 f299 f300 g_b240 ne_b240_b246 Vx290 (by omega) (by omega) (by omega) (by omega) (by omega) (by omega) (by omega) (by omega) (by omega) (by omega)) hZ (ow hw 57 rfl) (ow hw 1 rfl) (by decide) (by decide)) (g := (mkF m 154 #[.val (.int 5), .val (.int c0), .val (.int c1), .val (.int c2), .val (.int c3), .val (.int c4), .val (.int c5), .val (.int c6)] [(.ref b246), (.ref b240), (.ref b240)])) rfl (by rw [hml]; rfl) (Steps.refl _) (a := b240) (argsL := [(.ref b246)]) (rest := [(.ref b240)]) (lenOf pd_13 rfl) rfl (by exact Nat.le_of_eq rfl) (hb hby d10_154) (fun _ _ => ⟨rfl, e283, (by decide : 2 + 1 ≤ _), (by decide : 9 + 5 ≤ _)⟩)
    dsimp only [Pt.U, Pt.locs, Pt.cells, Pt.slots] at X301 l301 y301 z301 st301 hQ301
    rw [l301, y301, z301] at X301
    obtain ⟨rfl, N301q, K301, A301, ob301, kb301, y301_0, y301_1, y301_2, y301_3, y301_4, gb301, szb301, Fc301, Fv301, Vb301, qy301_0, qy301_1, qy301_2, qy301_3, qy301_4⟩ := hQ301
    have N301 := Fr.app N283 N301q
    have sf302 := (Safe.keep K301 (sfS sf284 sf0) CR286.1 sf284)
    have sf303 := (Safe.keep K301 (sfS sf284 sf0) CR286.1 sf285)
    have CR304 := (CR286.trans (CHr.keep K301 (sfS sf284 sf0) CR286.1))
    have hk305 := Nat.le_trans hk287 K301.1
    have Zs306 : n0 ≤ T301.heap.size := Nat.le_trans Zs288 K301.1
    have ne_b240_ob301 : b240 ≠ ob301 := Nat.ne_of_lt (Nat.lt_of_lt_of_le f296.lt szb301)
    have ne_b246_ob301 : b246 ≠ ob301 := Nat.ne_of_lt (Nat.lt_of_lt_of_le Vx290.lt szb301)
    have sz_ob301 : h0.size ≤ ob301 := Nat.le_trans f297.1 szb301
    subst hSS
    obtain ⟨fs, hr, hrun, hended, hREW⟩ := X301.leaveW hS0 hk305 (v := some (.ref b240)) (fun h => by rw [Bd.returns] at h; cases h)
    refine ⟨_, _, pre289 _ ?_, hrun, hended, _, _, rfl, ?_, ?_, ⟨hREW.1, hREW.2.1, hREW.2.2.1, hREW.2.2.2.mono (by decide) (by decide)⟩⟩
    · refine st301.trans ?_
      jvm_step X301.here [X301.here.top, hx, (hb hby d10_157), X301.method', Bd.returns, Value.isRef, FieldType.isReference]
      first | (intro acts; rw [hr _ acts rfl rfl rfl]) | rw [hr _ _ rfl rfl rfl]
      exact Steps.refl _
    · show Q_make Z _ _ _ _ _ _ _ _ _ _ h0 n0 _ T301.heap _
      have f307 := (f297.trans K301 (allS (P := fun x => x ∈ [] ∨ h0.size ≤ x) (Or.inr sz_b240) all0))
      exact ⟨b240, ob301, _, _, _, rfl, N301, f307, A301, Fc301, Fv301, Vb301⟩
    · show CHr Z own_EL s.vm s.heap T301.vm T301.heap
      rw [hh]
      exact CR304.trans (CHv.at X301 hZ hEL CR304.1)
  · have hc1_308 : ¬ ((6 : Int) = (0 : Int)) := by decide
    have hc17_309 : ¬ ((6 : Int) = (1 : Int)) := by decide
    have hc37_310 : ¬ ((6 : Int) = (2 : Int)) := by decide
    have hc61_311 : ¬ ((6 : Int) = (3 : Int)) := by decide
    have hc89_312 : ¬ ((6 : Int) = (4 : Int)) := by decide
    have hc122_313 : ¬ ((6 : Int) = (5 : Int)) := by decide
    have hc161_314 : (6 : Int) = (6 : Int) := by decide
    obtain ⟨T315, h315, X315, e315, E315, A315, D315, -, st315⟩ := newO X0 hx hZ hown (ow hw 53 rfl) (ow hw 2 rfl) (ow hw 1 rfl) e0 (g := (mkF m 164 #[.val (.int 6), .val (.int c0), .val (.int c1), .val (.int c2), .val (.int c3), .val (.int c4), .val (.int c5), .val (.int c6)] [])) rfl (hb hby d10_164) (by decide) (by decide)
    obtain ⟨b315, g315⟩ : ∃ z, z = h0.size := ⟨_, rfl⟩
    have g_b315 : n0 ≤ b315 := Nat.le_trans Z0 (Nat.le_of_eq g315.symm)
    have sz_b315 : h0.size ≤ b315 := Nat.le_trans (Keep.refl h0 []).1 (Nat.le_of_eq g315.symm)
    have sf316 : Safe Z own_EL s.vm h0 b315 := Safe.new (Nat.le_of_eq g315.symm)
    rw [← g315] at A315 D315 st315
    have sf317 := (Safe.ext E315 CR0.1 sf316)
    have CR318 := (CR0.trans (CHr.ext E315 CR0.1))
    have hk319 := Nat.le_trans hk0 E315.1
    have Zs320 : n0 ≤ h315.size := Nat.le_trans Z0 E315.1
    have F315_value : Fld Z h315 b315 "java/lang/String" "value" "[B" .null := D315 (Or.inr (ow hw 4 rfl)) (ty := (.array .byte)) (by decide)
    have F315_coder : Fld Z h315 b315 "java/lang/String" "coder" "B" (.int 0) := D315 (Or.inr (ow hw 5 rfl)) (ty := .byte) (by decide)
    obtain ⟨T321, h321, k321, X321, e321, E321, A321, st321⟩ := newP X315 hx hZ (ow hw 54 rfl) e315 (g := (mkF m 170 #[.val (.int 6), .val (.int c0), .val (.int c1), .val (.int c2), .val (.int c3), .val (.int c4), .val (.int c5), .val (.int c6)] [(.int 6), (.ref b315), (.ref b315)])) rfl (hb hby d10_170) rfl (by decide) (cap := 6) (by decide) (by decide) (by decide) (by decide)
    obtain ⟨b321, g321⟩ : ∃ z, z = h315.size := ⟨_, rfl⟩
    have ne_b315_b321 : b315 ≠ b321 := Nat.ne_of_lt (Nat.lt_of_lt_of_le A315.lt (Nat.le_of_eq g321.symm))
    have g_b321 : n0 ≤ b321 := Nat.le_trans Zs320 (Nat.le_of_eq g321.symm)
    have f322 := ((Keep.refl h0 []).ext E315)
    have sz_b321 : h0.size ≤ b321 := Nat.le_trans f322.1 (Nat.le_of_eq g321.symm)
    have sf323 : Safe Z own_EL s.vm h315 b321 := Safe.new (Nat.le_of_eq g321.symm)
    rw [← g321] at A321 st321
    have sf324 := (Safe.ext E321 CR318.1 sf317)
    have sf325 := (Safe.ext E321 CR318.1 sf323)
    have CR326 := (CR318.trans (CHr.ext E321 CR318.1))
    have hk327 := Nat.le_trans hk319 E321.1
    have Zs328 : n0 ≤ h321.size := Nat.le_trans Zs320 E321.1
    have V321 : Arv Z h321 b321 k321 .char (6 : Int32) [(.int 0), (.int 0), (.int 0), (.int 0), (.int 0), (.int 0)] (.int 0) := (Arv.new A321 (by decide)).pad (pad_rep [] (.int 0) 6)
    obtain ⟨cl329, Ar329, q329, S329, M329, H329, G329⟩ := id V321
    have hin329 : ¬ ((0 : Int32) < 0 ∨ cl329.slots.size ≤ ((0 : Int32)).toNatClampNeg) := inb_of S329 ⟨by decide, by decide⟩
    obtain ⟨T330, h330, X330, e330, W330, st330⟩ := stC X321 hx hZ e321 Ar329 (j := (0 : Int32)) hin329 (g := (mkF m 175 #[.val (.int 6), .val (.int c0), .val (.int c1), .val (.int c2), .val (.int c3), .val (.int c4), .val (.int c5), .val (.int c6)] [(.int c0), (.int 0), (.ref b321), (.ref b321), (.ref b315), (.ref b315)])) rfl rfl (hb hby d10_175)
    have N330 := Fr.snoc X330 N0 g_b321
    have sf331 := (Safe.wr W330 sf325 CR326.1 sf324)
    have sf332 := (Safe.wr W330 sf325 CR326.1 sf325)
    have CR333 := (CR326.trans (CHr.wr W330 sf325 CR326.1))
    have hk334 := Nat.le_trans hk327 (Nat.le_of_eq W330.size.symm)
    have Zs335 : n0 ≤ h330.size := by rw [W330.size]; exact Zs328
    have V330 : Arv Z h330 b321 k321 .char (6 : Int32) [(.int (nar .char c0)), (.int 0), (.int 0), (.int 0), (.int 0), (.int 0)] (.int 0) := Arv.set Ar329 q329 S329 M329 H329 G329 (fits_nar_char _) W330 0 rfl (Nat.le_of_ble_eq_true rfl)
    obtain ⟨cl336, Ar336, q336, S336, M336, H336, G336⟩ := id V330
    have hin336 : ¬ ((1 : Int32) < 0 ∨ cl336.slots.size ≤ ((1 : Int32)).toNatClampNeg) := inb_of S336 ⟨by decide, by decide⟩
    obtain ⟨T337, h337, X337, e337, W337, st337⟩ := stC X330 hx hZ e330 Ar336 (j := (1 : Int32)) hin336 (g := (mkF m 179 #[.val (.int 6), .val (.int c0), .val (.int c1), .val (.int c2), .val (.int c3), .val (.int c4), .val (.int c5), .val (.int c6)] [(.int c1), (.int 1), (.ref b321), (.ref b321), (.ref b315), (.ref b315)])) rfl rfl (hb hby d10_179)
    have N337 := Fr.snoc X337 N330 g_b321
    have sf338 := (Safe.wr W337 sf332 CR333.1 sf331)
    have sf339 := (Safe.wr W337 sf332 CR333.1 sf332)
    have CR340 := (CR333.trans (CHr.wr W337 sf332 CR333.1))
    have hk341 := Nat.le_trans hk334 (Nat.le_of_eq W337.size.symm)
    have Zs342 : n0 ≤ h337.size := by rw [W337.size]; exact Zs335
    have V337 : Arv Z h337 b321 k321 .char (6 : Int32) [(.int (nar .char c0)), (.int (nar .char c1)), (.int 0), (.int 0), (.int 0), (.int 0)] (.int 0) := Arv.set Ar336 q336 S336 M336 H336 G336 (fits_nar_char _) W337 1 rfl (Nat.le_of_ble_eq_true rfl)
    obtain ⟨cl343, Ar343, q343, S343, M343, H343, G343⟩ := id V337
    have hin343 : ¬ ((2 : Int32) < 0 ∨ cl343.slots.size ≤ ((2 : Int32)).toNatClampNeg) := inb_of S343 ⟨by decide, by decide⟩
    obtain ⟨T344, h344, X344, e344, W344, st344⟩ := stC X337 hx hZ e337 Ar343 (j := (2 : Int32)) hin343 (g := (mkF m 183 #[.val (.int 6), .val (.int c0), .val (.int c1), .val (.int c2), .val (.int c3), .val (.int c4), .val (.int c5), .val (.int c6)] [(.int c2), (.int 2), (.ref b321), (.ref b321), (.ref b315), (.ref b315)])) rfl rfl (hb hby d10_183)
    have N344 := Fr.snoc X344 N337 g_b321
    have sf345 := (Safe.wr W344 sf339 CR340.1 sf338)
    have sf346 := (Safe.wr W344 sf339 CR340.1 sf339)
    have CR347 := (CR340.trans (CHr.wr W344 sf339 CR340.1))
    have hk348 := Nat.le_trans hk341 (Nat.le_of_eq W344.size.symm)
    have Zs349 : n0 ≤ h344.size := by rw [W344.size]; exact Zs342
    have V344 : Arv Z h344 b321 k321 .char (6 : Int32) [(.int (nar .char c0)), (.int (nar .char c1)), (.int (nar .char c2)), (.int 0), (.int 0), (.int 0)] (.int 0) := Arv.set Ar343 q343 S343 M343 H343 G343 (fits_nar_char _) W344 2 rfl (Nat.le_of_ble_eq_true rfl)
    obtain ⟨cl350, Ar350, q350, S350, M350, H350, G350⟩ := id V344
    have hin350 : ¬ ((3 : Int32) < 0 ∨ cl350.slots.size ≤ ((3 : Int32)).toNatClampNeg) := inb_of S350 ⟨by decide, by decide⟩
    obtain ⟨T351, h351, X351, e351, W351, st351⟩ := stC X344 hx hZ e344 Ar350 (j := (3 : Int32)) hin350 (g := (mkF m 188 #[.val (.int 6), .val (.int c0), .val (.int c1), .val (.int c2), .val (.int c3), .val (.int c4), .val (.int c5), .val (.int c6)] [(.int c3), (.int 3), (.ref b321), (.ref b321), (.ref b315), (.ref b315)])) rfl rfl (hb hby d10_188)
    have N351 := Fr.snoc X351 N344 g_b321
    have sf352 := (Safe.wr W351 sf346 CR347.1 sf345)
    have sf353 := (Safe.wr W351 sf346 CR347.1 sf346)
    have CR354 := (CR347.trans (CHr.wr W351 sf346 CR347.1))
    have hk355 := Nat.le_trans hk348 (Nat.le_of_eq W351.size.symm)
    have Zs356 : n0 ≤ h351.size := by rw [W351.size]; exact Zs349
    have V351 : Arv Z h351 b321 k321 .char (6 : Int32) [(.int (nar .char c0)), (.int (nar .char c1)), (.int (nar .char c2)), (.int (nar .char c3)), (.int 0), (.int 0)] (.int 0) := Arv.set Ar350 q350 S350 M350 H350 G350 (fits_nar_char _) W351 3 rfl (Nat.le_of_ble_eq_true rfl)
    obtain ⟨cl357, Ar357, q357, S357, M357, H357, G357⟩ := id V351
    have hin357 : ¬ ((4 : Int32) < 0 ∨ cl357.slots.size ≤ ((4 : Int32)).toNatClampNeg) := inb_of S357 ⟨by decide, by decide⟩
    obtain ⟨T358, h358, X358, e358, W358, st358⟩ := stC X351 hx hZ e351 Ar357 (j := (4 : Int32)) hin357 (g := (mkF m 193 #[.val (.int 6), .val (.int c0), .val (.int c1), .val (.int c2), .val (.int c3), .val (.int c4), .val (.int c5), .val (.int c6)] [(.int c4), (.int 4), (.ref b321), (.ref b321), (.ref b315), (.ref b315)])) rfl rfl (hb hby d10_193)
    have N358 := Fr.snoc X358 N351 g_b321
    have sf359 := (Safe.wr W358 sf353 CR354.1 sf352)
    have sf360 := (Safe.wr W358 sf353 CR354.1 sf353)
    have CR361 := (CR354.trans (CHr.wr W358 sf353 CR354.1))
    have hk362 := Nat.le_trans hk355 (Nat.le_of_eq W358.size.symm)
    have Zs363 : n0 ≤ h358.size := by rw [W358.size]; exact Zs356
    have V358 : Arv Z h358 b321 k321 .char (6 : Int32) [(.int (nar .char c0)), (.int (nar .char c1)), (.int (nar .char c2)), (.int (nar .char c3)), (.int (nar .char c4)), (.int 0)] (.int 0) := Arv.set Ar357 q357 S357 M357 H357 G357 (fits_nar_char _) W358 4 rfl (Nat.le_of_ble_eq_true rfl)
    obtain ⟨cl364, Ar364, q364, S364, M364, H364, G364⟩ := id V358
    have hin364 : ¬ ((5 : Int32) < 0 ∨ cl364.slots.size ≤ ((5 : Int32)).toNatClampNeg) := inb_of S364 ⟨by decide, by decide⟩
    obtain ⟨T365, h365, X365, e365, W365, st365⟩ := stC X358 hx hZ e358 Ar364 (j := (5 : Int32)) hin364 (g := (mkF m 198 #[.val (.int 6), .val (.int c0), .val (.int c1), .val (.int c2), .val (.int c3), .val (.int c4), .val (.int c5), .val (.int c6)] [(.int c5), (.int 5), (.ref b321), (.ref b321), (.ref b315), (.ref b315)])) rfl rfl (hb hby d10_198)
    have N365 := Fr.snoc X365 N358 g_b321
    have sf366 := (Safe.wr W365 sf360 CR361.1 sf359)
    have sf367 := (Safe.wr W365 sf360 CR361.1 sf360)
    have CR368 := (CR361.trans (CHr.wr W365 sf360 CR361.1))
    have hk369 := Nat.le_trans hk362 (Nat.le_of_eq W365.size.symm)
    have Zs370 : n0 ≤ h365.size := by rw [W365.size]; exact Zs363
    have V365 : Arv Z h365 b321 k321 .char (6 : Int32) [(.int (nar .char c0)), (.int (nar .char c1)), (.int (nar .char c2)), (.int (nar .char c3)), (.int (nar .char c4)), (.int (nar .char c5))] (.int 0) := Arv.set Ar364 q364 S364 M364 H364 G364 (fits_nar_char _) W365 5 rfl (Nat.le_of_ble_eq_true rfl)
    have pre371 : oP p e below (T365.setTop (mkF m 199 #[.val (.int 6), .val (.int c0), .val (.int c1), .val (.int c2), .val (.int c3), .val (.int c4), .val (.int c5), .val (.int c6)] [(.ref b321), (.ref b315), (.ref b315)])) (SS) := fun t kt => by
      refine pre0 _ ?_
      refine XS.iloadN X0.here hx rfl (hb hby d10_0) rfl ?_
      refine XS.ifYes X0.here hx rfl (pc0 := 1) (pc' := 15) rfl (hb hby d10_1) rfl (own_if (own_feq (a := (6 : Int32)) (b := (0 : Int32)) (by decide) (by decide) hc1_308).2) (by decide) (by decide) ?_
      refine XS.iloadN X0.here hx rfl (hb hby d10_15) rfl ?_
      refine XS.iconst X0.here hx rfl (hb hby d10_16) ?_
      refine XS.icmpYes X0.here hx rfl (pc0 := 17) (pc' := 35) rfl (hb hby d10_17) rfl (own_feq (a := (6 : Int32)) (b := (1 : Int32)) (by decide) (by decide) hc17_309).2 (by decide) (by decide) ?_
      refine XS.iloadN X0.here hx rfl (hb hby d10_35) rfl ?_
      refine XS.iconst X0.here hx rfl (hb hby d10_36) ?_
      refine XS.icmpYes X0.here hx rfl (pc0 := 37) (pc' := 59) rfl (hb hby d10_37) rfl (own_feq (a := (6 : Int32)) (b := (2 : Int32)) (by decide) (by decide) hc37_310).2 (by decide) (by decide) ?_
      refine XS.iloadN X0.here hx rfl (hb hby d10_59) rfl ?_
      refine XS.iconst X0.here hx rfl (hb hby d10_60) ?_
      refine XS.icmpYes X0.here hx rfl (pc0 := 61) (pc' := 87) rfl (hb hby d10_61) rfl (own_feq (a := (6 : Int32)) (b := (3 : Int32)) (by decide) (by decide) hc61_311).2 (by decide) (by decide) ?_
      refine XS.iloadN X0.here hx rfl (hb hby d10_87) rfl ?_
      refine XS.iconst X0.here hx rfl (hb hby d10_88) ?_
      refine XS.icmpYes X0.here hx rfl (pc0 := 89) (pc' := 120) rfl (hb hby d10_89) rfl (own_feq (a := (6 : Int32)) (b := (4 : Int32)) (by decide) (by decide) hc89_312).2 (by decide) (by decide) ?_
      refine XS.iloadN X0.here hx rfl (hb hby d10_120) rfl ?_
      refine XS.iconst X0.here hx rfl (hb hby d10_121) ?_
      refine XS.icmpYes X0.here hx rfl (pc0 := 122) (pc' := 158) rfl (hb hby d10_122) rfl (own_feq (a := (6 : Int32)) (b := (5 : Int32)) (by decide) (by decide) hc122_313).2 (by decide) (by decide) ?_
      refine XS.iloadN X0.here hx rfl (hb hby d10_158) rfl ?_
      refine XS.bipush X0.here hx rfl (hb hby d10_159) ?_
      show Steps p.tables e below (s₁.setTop (mkF m 161 #[.val (.int 6), .val (.int c0), .val (.int c1), .val (.int c2), .val (.int c3), .val (.int c4), .val (.int c5), .val (.int c6)] [(.int 6), (.int 6)])) _
      refine XS.icmpNo X0.here hx rfl (hb hby d10_161) rfl (own_teq (a := (6 : Int32)) (b := (6 : Int32)) (by decide) (by decide) hc161_314).2 ?_
      refine st315 _ ?_
      refine XS.dup X315.here hx rfl (hb hby d10_167) rfl rfl ?_
      refine XS.bipush X315.here hx rfl (hb hby d10_168) ?_
      refine st321 _ ?_
      refine XS.dup X321.here hx rfl (hb hby d10_172) rfl rfl ?_
      refine XS.iconst X321.here hx rfl (hb hby d10_173) ?_
      refine XS.iloadN X321.here hx rfl (hb hby d10_174) rfl ?_
      refine st330 _ ?_
      refine XS.dup X330.here hx rfl (hb hby d10_176) rfl rfl ?_
      refine XS.iconst X330.here hx rfl (hb hby d10_177) ?_
      refine XS.iloadN X330.here hx rfl (hb hby d10_178) rfl ?_
      refine st337 _ ?_
      refine XS.dup X337.here hx rfl (hb hby d10_180) rfl rfl ?_
      refine XS.iconst X337.here hx rfl (hb hby d10_181) ?_
      refine XS.iloadN X337.here hx rfl (hb hby d10_182) rfl ?_
      refine st344 _ ?_
      refine XS.dup X344.here hx rfl (hb hby d10_184) rfl rfl ?_
      refine XS.iconst X344.here hx rfl (hb hby d10_185) ?_
      refine XS.iload X344.here hx rfl (hb hby d10_186) rfl ?_
      show Steps p.tables e below (T344.setTop (mkF m 188 #[.val (.int 6), .val (.int c0), .val (.int c1), .val (.int c2), .val (.int c3), .val (.int c4), .val (.int c5), .val (.int c6)] [(.int c3), (.int 3), (.ref b321), (.ref b321), (.ref b315), (.ref b315)])) _
      refine st351 _ ?_
      refine XS.dup X351.here hx rfl (hb hby d10_189) rfl rfl ?_
      refine XS.iconst X351.here hx rfl (hb hby d10_190) ?_
      refine XS.iload X351.here hx rfl (hb hby d10_191) rfl ?_
      refine st358 _ ?_
      refine XS.dup X358.here hx rfl (hb hby d10_194) rfl rfl ?_
      refine XS.iconst X358.here hx rfl (hb hby d10_195) ?_
      refine XS.iload X358.here hx rfl (hb hby d10_196) rfl ?_
      refine st365 _ ?_
      exact kt
    have hn373 : nar .char c0 = c0 := own_narc c0 (by omega) (by omega)
    have hn374 : nar .char c1 = c1 := own_narc c1 (by omega) (by omega)
    have hn375 : nar .char c2 = c2 := own_narc c2 (by omega) (by omega)
    have hn376 : nar .char c3 = c3 := own_narc c3 (by omega) (by omega)
    have hn377 : nar .char c4 = c4 := own_narc c4 (by omega) (by omega)
    have hn378 : nar .char c5 = c5 := own_narc c5 (by omega) (by omega)
    have Vx372 : Arv Z h365 b321 k321 .char (6 : Int32) [(.int c0), (.int c1), (.int c2), (.int c3), (.int c4), (.int c5)] (.int 0) := by
      have q := V365
      rw [hn373, hn374, hn375, hn376, hn377, hn378] at q; exact q
    have f379 := (((((((A315.ext E321).wr W330).wr W337).wr W344).wr W351).wr W358).wr W365)
    have f380 := (((((((f322.ext E321).wr W330 (Or.inr sz_b321)).wr W337 (Or.inr sz_b321)).wr W344 (Or.inr sz_b321)).wr W351 (Or.inr sz_b321)).wr W358 (Or.inr sz_b321)).wr W365 (Or.inr sz_b321))
    have os381 := (own_st_wr (own_st_wr (own_st_wr (own_st_wr (own_st_wr (own_st_wr (own_st_ext (own_st_ext Os E315) E321) W330) W337) W344) W351) W358) W365)
    have f382 := (((((((F315_coder.ext E321).other W330 (Or.inl ne_b315_b321)).other W337 (Or.inl ne_b315_b321)).other W344 (Or.inl ne_b315_b321)).other W351 (Or.inl ne_b315_b321)).other W358 (Or.inl ne_b315_b321)).other W365 (Or.inl ne_b315_b321))
    have f383 := (((((((F315_value.ext E321).other W330 (Or.inl ne_b315_b321)).other W337 (Or.inl ne_b315_b321)).other W344 (Or.inl ne_b315_b321)).other W351 (Or.inl ne_b315_b321)).other W358 (Or.inl ne_b315_b321)).other W365 (Or.inl ne_b315_b321))
    obtain ⟨_, _, ⟨T384, L384, k384, n384⟩, -, X384, ⟨Lc384, hQ384, l384, y384, z384⟩, st384⟩ := X365.specialBack hx (y := yn12) rfl hown (mvT hZ (ow hw 55 rfl)) (mvT hZ (ow hw 56 rfl)) (mvT hZ (ow hw 57 rfl)) (by decide) (backOf (W := 1) (rm_mk6 l Z a0 hw [] b315 b321 vcs vf k321 c0 c1 c2 c3 c4 c5 h365 n0 Zs370 os381 f379 f382 f383 g_b315 ne_b315_b321 Vx372 (by omega) (by omega) (by omega) (by omega) (by omega) (by omega) (by omega) (by omega) (by omega) (by omega) (by omega) (by omega)) hZ (ow hw 57 rfl) (ow hw 1 rfl) (by decide) (by decide)) (g := (mkF m 199 #[.val (.int 6), .val (.int c0), .val (.int c1), .val (.int c2), .val (.int c3), .val (.int c4), .val (.int c5), .val (.int c6)] [(.ref b321), (.ref b315), (.ref b315)])) rfl (by rw [hml]; rfl) (Steps.refl _) (a := b315) (argsL := [(.ref b321)]) (rest := [(.ref b315)]) (lenOf pd_13 rfl) rfl (by exact Nat.le_of_eq rfl) (hb hby d10_199) (fun _ _ => ⟨rfl, e365, (by decide : 2 + 1 ≤ _), (by decide : 10 + 6 ≤ _)⟩)
    dsimp only [Pt.U, Pt.locs, Pt.cells, Pt.slots] at X384 l384 y384 z384 st384 hQ384
    rw [l384, y384, z384] at X384
    obtain ⟨rfl, N384q, K384, A384, ob384, kb384, y384_0, y384_1, y384_2, y384_3, y384_4, y384_5, gb384, szb384, Fc384, Fv384, Vb384, qy384_0, qy384_1, qy384_2, qy384_3, qy384_4, qy384_5⟩ := hQ384
    have N384 := Fr.app N365 N384q
    have sf385 := (Safe.keep K384 (sfS sf366 sf0) CR368.1 sf366)
    have sf386 := (Safe.keep K384 (sfS sf366 sf0) CR368.1 sf367)
    have CR387 := (CR368.trans (CHr.keep K384 (sfS sf366 sf0) CR368.1))
    have hk388 := Nat.le_trans hk369 K384.1
    have Zs389 : n0 ≤ T384.heap.size := Nat.le_trans Zs370 K384.1
    have ne_b315_ob384 : b315 ≠ ob384 := Nat.ne_of_lt (Nat.lt_of_lt_of_le f379.lt szb384)
    have ne_b321_ob384 : b321 ≠ ob384 := Nat.ne_of_lt (Nat.lt_of_lt_of_le Vx372.lt szb384)
    have sz_ob384 : h0.size ≤ ob384 := Nat.le_trans f380.1 szb384
    subst hSS
    obtain ⟨fs, hr, hrun, hended, hREW⟩ := X384.leaveW hS0 hk388 (v := some (.ref b315)) (fun h => by rw [Bd.returns] at h; cases h)
    refine ⟨_, _, pre371 _ ?_, hrun, hended, _, _, rfl, ?_, ?_, ⟨hREW.1, hREW.2.1, hREW.2.2.1, hREW.2.2.2.mono (by decide) (by decide)⟩⟩
    · refine st384.trans ?_
      jvm_step X384.here [X384.here.top, hx, (hb hby d10_202), X384.method', Bd.returns, Value.isRef, FieldType.isReference]
      first | (intro acts; rw [hr _ acts rfl rfl rfl]) | rw [hr _ _ rfl rfl rfl]
      exact Steps.refl _
    · show Q_make Z _ _ _ _ _ _ _ _ _ _ h0 n0 _ T384.heap _
      have f390 := (f380.trans K384 (allS (P := fun x => x ∈ [] ∨ h0.size ≤ x) (Or.inr sz_b315) all0))
      exact ⟨b315, ob384, _, _, _, rfl, N384, f390, A384, Fc384, Fv384, Vb384⟩
    · show CHr Z own_EL s.vm s.heap T384.vm T384.heap
      rw [hh]
      exact CR387.trans (CHv.at X384 hZ hEL CR387.1)
  · have hc1_391 : ¬ ((7 : Int) = (0 : Int)) := by decide
    have hc17_392 : ¬ ((7 : Int) = (1 : Int)) := by decide
    have hc37_393 : ¬ ((7 : Int) = (2 : Int)) := by decide
    have hc61_394 : ¬ ((7 : Int) = (3 : Int)) := by decide
    have hc89_395 : ¬ ((7 : Int) = (4 : Int)) := by decide
    have hc122_396 : ¬ ((7 : Int) = (5 : Int)) := by decide
    have hc161_397 : ¬ ((7 : Int) = (6 : Int)) := by decide
    obtain ⟨T398, h398, X398, e398, E398, A398, D398, -, st398⟩ := newO X0 hx hZ hown (ow hw 53 rfl) (ow hw 2 rfl) (ow hw 1 rfl) e0 (g := (mkF m 203 #[.val (.int 7), .val (.int c0), .val (.int c1), .val (.int c2), .val (.int c3), .val (.int c4), .val (.int c5), .val (.int c6)] [])) rfl (hb hby d10_203) (by decide) (by decide)
    obtain ⟨b398, g398⟩ : ∃ z, z = h0.size := ⟨_, rfl⟩
    have g_b398 : n0 ≤ b398 := Nat.le_trans Z0 (Nat.le_of_eq g398.symm)
    have sz_b398 : h0.size ≤ b398 := Nat.le_trans (Keep.refl h0 []).1 (Nat.le_of_eq g398.symm)
    have sf399 : Safe Z own_EL s.vm h0 b398 := Safe.new (Nat.le_of_eq g398.symm)
    rw [← g398] at A398 D398 st398
    have sf400 := (Safe.ext E398 CR0.1 sf399)
    have CR401 := (CR0.trans (CHr.ext E398 CR0.1))
    have hk402 := Nat.le_trans hk0 E398.1
    have Zs403 : n0 ≤ h398.size := Nat.le_trans Z0 E398.1
    have F398_value : Fld Z h398 b398 "java/lang/String" "value" "[B" .null := D398 (Or.inr (ow hw 4 rfl)) (ty := (.array .byte)) (by decide)
    have F398_coder : Fld Z h398 b398 "java/lang/String" "coder" "B" (.int 0) := D398 (Or.inr (ow hw 5 rfl)) (ty := .byte) (by decide)
    obtain ⟨T404, h404, k404, X404, e404, E404, A404, st404⟩ := newP X398 hx hZ (ow hw 54 rfl) e398 (g := (mkF m 209 #[.val (.int 7), .val (.int c0), .val (.int c1), .val (.int c2), .val (.int c3), .val (.int c4), .val (.int c5), .val (.int c6)] [(.int 7), (.ref b398), (.ref b398)])) rfl (hb hby d10_209) rfl (by decide) (cap := 7) (by decide) (by decide) (by decide) (by decide)
    obtain ⟨b404, g404⟩ : ∃ z, z = h398.size := ⟨_, rfl⟩
    have ne_b398_b404 : b398 ≠ b404 := Nat.ne_of_lt (Nat.lt_of_lt_of_le A398.lt (Nat.le_of_eq g404.symm))
    have g_b404 : n0 ≤ b404 := Nat.le_trans Zs403 (Nat.le_of_eq g404.symm)
    have f405 := ((Keep.refl h0 []).ext E398)
    have sz_b404 : h0.size ≤ b404 := Nat.le_trans f405.1 (Nat.le_of_eq g404.symm)
    have sf406 : Safe Z own_EL s.vm h398 b404 := Safe.new (Nat.le_of_eq g404.symm)
    rw [← g404] at A404 st404
    have sf407 := (Safe.ext E404 CR401.1 sf400)
    have sf408 := (Safe.ext E404 CR401.1 sf406)
    have CR409 := (CR401.trans (CHr.ext E404 CR401.1))
    have hk410 := Nat.le_trans hk402 E404.1
    have Zs411 : n0 ≤ h404.size := Nat.le_trans Zs403 E404.1
    have V404 : Arv Z h404 b404 k404 .char (7 : Int32) [(.int 0), (.int 0), (.int 0), (.int 0), (.int 0), (.int 0), (.int 0)] (.int 0) := (Arv.new A404 (by decide)).pad (pad_rep [] (.int 0) 7)
    obtain ⟨cl412, Ar412, q412, S412, M412, H412, G412⟩ := id V404
    have hin412 : ¬ ((0 : Int32) < 0 ∨ cl412.slots.size ≤ ((0 : Int32)).toNatClampNeg) := inb_of S412 ⟨by decide, by decide⟩
    obtain ⟨T413, h413, X413, e413, W413, st413⟩ := stC X404 hx hZ e404 Ar412 (j := (0 : Int32)) hin412 (g := (mkF m 214 #[.val (.int 7), .val (.int c0), .val (.int c1), .val (.int c2), .val (.int c3), .val (.int c4), .val (.int c5), .val (.int c6)] [(.int c0), (.int 0), (.ref b404), (.ref b404), (.ref b398), (.ref b398)])) rfl rfl (hb hby d10_214)
    have N413 := Fr.snoc X413 N0 g_b404
    have sf414 := (Safe.wr W413 sf408 CR409.1 sf407)
    have sf415 := (Safe.wr W413 sf408 CR409.1 sf408)
    have CR416 := (CR409.trans (CHr.wr W413 sf408 CR409.1))
    have hk417 := Nat.le_trans hk410 (Nat.le_of_eq W413.size.symm)
    have Zs418 : n0 ≤ h413.size := by rw [W413.size]; exact Zs411
    have V413 : Arv Z h413 b404 k404 .char (7 : Int32) [(.int (nar .char c0)), (.int 0), (.int 0), (.int 0), (.int 0), (.int 0), (.int 0)] (.int 0) := Arv.set Ar412 q412 S412 M412 H412 G412 (fits_nar_char _) W413 0 rfl (Nat.le_of_ble_eq_true rfl)
    obtain ⟨cl419, Ar419, q419, S419, M419, H419, G419⟩ := id V413
    have hin419 : ¬ ((1 : Int32) < 0 ∨ cl419.slots.size ≤ ((1 : Int32)).toNatClampNeg) := inb_of S419 ⟨by decide, by decide⟩
    obtain ⟨T420, h420, X420, e420, W420, st420⟩ := stC X413 hx hZ e413 Ar419 (j := (1 : Int32)) hin419 (g := (mkF m 218 #[.val (.int 7), .val (.int c0), .val (.int c1), .val (.int c2), .val (.int c3), .val (.int c4), .val (.int c5), .val (.int c6)] [(.int c1), (.int 1), (.ref b404), (.ref b404), (.ref b398), (.ref b398)])) rfl rfl (hb hby d10_218)
    have N420 := Fr.snoc X420 N413 g_b404
    have sf421 := (Safe.wr W420 sf415 CR416.1 sf414)
    have sf422 := (Safe.wr W420 sf415 CR416.1 sf415)
    have CR423 := (CR416.trans (CHr.wr W420 sf415 CR416.1))
    have hk424 := Nat.le_trans hk417 (Nat.le_of_eq W420.size.symm)
    have Zs425 : n0 ≤ h420.size := by rw [W420.size]; exact Zs418
    have V420 : Arv Z h420 b404 k404 .char (7 : Int32) [(.int (nar .char c0)), (.int (nar .char c1)), (.int 0), (.int 0), (.int 0), (.int 0), (.int 0)] (.int 0) := Arv.set Ar419 q419 S419 M419 H419 G419 (fits_nar_char _) W420 1 rfl (Nat.le_of_ble_eq_true rfl)
    obtain ⟨cl426, Ar426, q426, S426, M426, H426, G426⟩ := id V420
    have hin426 : ¬ ((2 : Int32) < 0 ∨ cl426.slots.size ≤ ((2 : Int32)).toNatClampNeg) := inb_of S426 ⟨by decide, by decide⟩
    obtain ⟨T427, h427, X427, e427, W427, st427⟩ := stC X420 hx hZ e420 Ar426 (j := (2 : Int32)) hin426 (g := (mkF m 222 #[.val (.int 7), .val (.int c0), .val (.int c1), .val (.int c2), .val (.int c3), .val (.int c4), .val (.int c5), .val (.int c6)] [(.int c2), (.int 2), (.ref b404), (.ref b404), (.ref b398), (.ref b398)])) rfl rfl (hb hby d10_222)
    have N427 := Fr.snoc X427 N420 g_b404
    have sf428 := (Safe.wr W427 sf422 CR423.1 sf421)
    have sf429 := (Safe.wr W427 sf422 CR423.1 sf422)
    have CR430 := (CR423.trans (CHr.wr W427 sf422 CR423.1))
    have hk431 := Nat.le_trans hk424 (Nat.le_of_eq W427.size.symm)
    have Zs432 : n0 ≤ h427.size := by rw [W427.size]; exact Zs425
    have V427 : Arv Z h427 b404 k404 .char (7 : Int32) [(.int (nar .char c0)), (.int (nar .char c1)), (.int (nar .char c2)), (.int 0), (.int 0), (.int 0), (.int 0)] (.int 0) := Arv.set Ar426 q426 S426 M426 H426 G426 (fits_nar_char _) W427 2 rfl (Nat.le_of_ble_eq_true rfl)
    obtain ⟨cl433, Ar433, q433, S433, M433, H433, G433⟩ := id V427
    have hin433 : ¬ ((3 : Int32) < 0 ∨ cl433.slots.size ≤ ((3 : Int32)).toNatClampNeg) := inb_of S433 ⟨by decide, by decide⟩
    obtain ⟨T434, h434, X434, e434, W434, st434⟩ := stC X427 hx hZ e427 Ar433 (j := (3 : Int32)) hin433 (g := (mkF m 227 #[.val (.int 7), .val (.int c0), .val (.int c1), .val (.int c2), .val (.int c3), .val (.int c4), .val (.int c5), .val (.int c6)] [(.int c3), (.int 3), (.ref b404), (.ref b404), (.ref b398), (.ref b398)])) rfl rfl (hb hby d10_227)
    have N434 := Fr.snoc X434 N427 g_b404
    have sf435 := (Safe.wr W434 sf429 CR430.1 sf428)
    have sf436 := (Safe.wr W434 sf429 CR430.1 sf429)
    have CR437 := (CR430.trans (CHr.wr W434 sf429 CR430.1))
    have hk438 := Nat.le_trans hk431 (Nat.le_of_eq W434.size.symm)
    have Zs439 : n0 ≤ h434.size := by rw [W434.size]; exact Zs432
    have V434 : Arv Z h434 b404 k404 .char (7 : Int32) [(.int (nar .char c0)), (.int (nar .char c1)), (.int (nar .char c2)), (.int (nar .char c3)), (.int 0), (.int 0), (.int 0)] (.int 0) := Arv.set Ar433 q433 S433 M433 H433 G433 (fits_nar_char _) W434 3 rfl (Nat.le_of_ble_eq_true rfl)
    obtain ⟨cl440, Ar440, q440, S440, M440, H440, G440⟩ := id V434
    have hin440 : ¬ ((4 : Int32) < 0 ∨ cl440.slots.size ≤ ((4 : Int32)).toNatClampNeg) := inb_of S440 ⟨by decide, by decide⟩
    obtain ⟨T441, h441, X441, e441, W441, st441⟩ := stC X434 hx hZ e434 Ar440 (j := (4 : Int32)) hin440 (g := (mkF m 232 #[.val (.int 7), .val (.int c0), .val (.int c1), .val (.int c2), .val (.int c3), .val (.int c4), .val (.int c5), .val (.int c6)] [(.int c4), (.int 4), (.ref b404), (.ref b404), (.ref b398), (.ref b398)])) rfl rfl (hb hby d10_232)
    have N441 := Fr.snoc X441 N434 g_b404
    have sf442 := (Safe.wr W441 sf436 CR437.1 sf435)
    have sf443 := (Safe.wr W441 sf436 CR437.1 sf436)
    have CR444 := (CR437.trans (CHr.wr W441 sf436 CR437.1))
    have hk445 := Nat.le_trans hk438 (Nat.le_of_eq W441.size.symm)
    have Zs446 : n0 ≤ h441.size := by rw [W441.size]; exact Zs439
    have V441 : Arv Z h441 b404 k404 .char (7 : Int32) [(.int (nar .char c0)), (.int (nar .char c1)), (.int (nar .char c2)), (.int (nar .char c3)), (.int (nar .char c4)), (.int 0), (.int 0)] (.int 0) := Arv.set Ar440 q440 S440 M440 H440 G440 (fits_nar_char _) W441 4 rfl (Nat.le_of_ble_eq_true rfl)
    obtain ⟨cl447, Ar447, q447, S447, M447, H447, G447⟩ := id V441
    have hin447 : ¬ ((5 : Int32) < 0 ∨ cl447.slots.size ≤ ((5 : Int32)).toNatClampNeg) := inb_of S447 ⟨by decide, by decide⟩
    obtain ⟨T448, h448, X448, e448, W448, st448⟩ := stC X441 hx hZ e441 Ar447 (j := (5 : Int32)) hin447 (g := (mkF m 237 #[.val (.int 7), .val (.int c0), .val (.int c1), .val (.int c2), .val (.int c3), .val (.int c4), .val (.int c5), .val (.int c6)] [(.int c5), (.int 5), (.ref b404), (.ref b404), (.ref b398), (.ref b398)])) rfl rfl (hb hby d10_237)
    have N448 := Fr.snoc X448 N441 g_b404
    have sf449 := (Safe.wr W448 sf443 CR444.1 sf442)
    have sf450 := (Safe.wr W448 sf443 CR444.1 sf443)
    have CR451 := (CR444.trans (CHr.wr W448 sf443 CR444.1))
    have hk452 := Nat.le_trans hk445 (Nat.le_of_eq W448.size.symm)
    have Zs453 : n0 ≤ h448.size := by rw [W448.size]; exact Zs446
    have V448 : Arv Z h448 b404 k404 .char (7 : Int32) [(.int (nar .char c0)), (.int (nar .char c1)), (.int (nar .char c2)), (.int (nar .char c3)), (.int (nar .char c4)), (.int (nar .char c5)), (.int 0)] (.int 0) := Arv.set Ar447 q447 S447 M447 H447 G447 (fits_nar_char _) W448 5 rfl (Nat.le_of_ble_eq_true rfl)
    obtain ⟨cl454, Ar454, q454, S454, M454, H454, G454⟩ := id V448
    have hin454 : ¬ ((6 : Int32) < 0 ∨ cl454.slots.size ≤ ((6 : Int32)).toNatClampNeg) := inb_of S454 ⟨by decide, by decide⟩
    obtain ⟨T455, h455, X455, e455, W455, st455⟩ := stC X448 hx hZ e448 Ar454 (j := (6 : Int32)) hin454 (g := (mkF m 243 #[.val (.int 7), .val (.int c0), .val (.int c1), .val (.int c2), .val (.int c3), .val (.int c4), .val (.int c5), .val (.int c6)] [(.int c6), (.int 6), (.ref b404), (.ref b404), (.ref b398), (.ref b398)])) rfl rfl (hb hby d10_243)
    have N455 := Fr.snoc X455 N448 g_b404
    have sf456 := (Safe.wr W455 sf450 CR451.1 sf449)
    have sf457 := (Safe.wr W455 sf450 CR451.1 sf450)
    have CR458 := (CR451.trans (CHr.wr W455 sf450 CR451.1))
    have hk459 := Nat.le_trans hk452 (Nat.le_of_eq W455.size.symm)
    have Zs460 : n0 ≤ h455.size := by rw [W455.size]; exact Zs453
    have V455 : Arv Z h455 b404 k404 .char (7 : Int32) [(.int (nar .char c0)), (.int (nar .char c1)), (.int (nar .char c2)), (.int (nar .char c3)), (.int (nar .char c4)), (.int (nar .char c5)), (.int (nar .char c6))] (.int 0) := Arv.set Ar454 q454 S454 M454 H454 G454 (fits_nar_char _) W455 6 rfl (Nat.le_of_ble_eq_true rfl)
    have pre461 : oP p e below (T455.setTop (mkF m 244 #[.val (.int 7), .val (.int c0), .val (.int c1), .val (.int c2), .val (.int c3), .val (.int c4), .val (.int c5), .val (.int c6)] [(.ref b404), (.ref b398), (.ref b398)])) (SS) := fun t kt => by
      refine pre0 _ ?_
      refine XS.iloadN X0.here hx rfl (hb hby d10_0) rfl ?_
      refine XS.ifYes X0.here hx rfl (pc0 := 1) (pc' := 15) rfl (hb hby d10_1) rfl (own_if (own_feq (a := (7 : Int32)) (b := (0 : Int32)) (by decide) (by decide) hc1_391).2) (by decide) (by decide) ?_
      refine XS.iloadN X0.here hx rfl (hb hby d10_15) rfl ?_
      refine XS.iconst X0.here hx rfl (hb hby d10_16) ?_
      refine XS.icmpYes X0.here hx rfl (pc0 := 17) (pc' := 35) rfl (hb hby d10_17) rfl (own_feq (a := (7 : Int32)) (b := (1 : Int32)) (by decide) (by decide) hc17_392).2 (by decide) (by decide) ?_
      refine XS.iloadN X0.here hx rfl (hb hby d10_35) rfl ?_
      refine XS.iconst X0.here hx rfl (hb hby d10_36) ?_
      refine XS.icmpYes X0.here hx rfl (pc0 := 37) (pc' := 59) rfl (hb hby d10_37) rfl (own_feq (a := (7 : Int32)) (b := (2 : Int32)) (by decide) (by decide) hc37_393).2 (by decide) (by decide) ?_
      refine XS.iloadN X0.here hx rfl (hb hby d10_59) rfl ?_
      refine XS.iconst X0.here hx rfl (hb hby d10_60) ?_
      refine XS.icmpYes X0.here hx rfl (pc0 := 61) (pc' := 87) rfl (hb hby d10_61) rfl (own_feq (a := (7 : Int32)) (b := (3 : Int32)) (by decide) (by decide) hc61_394).2 (by decide) (by decide) ?_
      refine XS.iloadN X0.here hx rfl (hb hby d10_87) rfl ?_
      refine XS.iconst X0.here hx rfl (hb hby d10_88) ?_
      refine XS.icmpYes X0.here hx rfl (pc0 := 89) (pc' := 120) rfl (hb hby d10_89) rfl (own_feq (a := (7 : Int32)) (b := (4 : Int32)) (by decide) (by decide) hc89_395).2 (by decide) (by decide) ?_
      refine XS.iloadN X0.here hx rfl (hb hby d10_120) rfl ?_
      refine XS.iconst X0.here hx rfl (hb hby d10_121) ?_
      refine XS.icmpYes X0.here hx rfl (pc0 := 122) (pc' := 158) rfl (hb hby d10_122) rfl (own_feq (a := (7 : Int32)) (b := (5 : Int32)) (by decide) (by decide) hc122_396).2 (by decide) (by decide) ?_
      refine XS.iloadN X0.here hx rfl (hb hby d10_158) rfl ?_
      refine XS.bipush X0.here hx rfl (hb hby d10_159) ?_
      show Steps p.tables e below (s₁.setTop (mkF m 161 #[.val (.int 7), .val (.int c0), .val (.int c1), .val (.int c2), .val (.int c3), .val (.int c4), .val (.int c5), .val (.int c6)] [(.int 6), (.int 7)])) _
      refine XS.icmpYes X0.here hx rfl (pc0 := 161) (pc' := 203) rfl (hb hby d10_161) rfl (own_feq (a := (7 : Int32)) (b := (6 : Int32)) (by decide) (by decide) hc161_397).2 (by decide) (by decide) ?_
      refine st398 _ ?_
      refine XS.dup X398.here hx rfl (hb hby d10_206) rfl rfl ?_
      refine XS.bipush X398.here hx rfl (hb hby d10_207) ?_
      refine st404 _ ?_
      refine XS.dup X404.here hx rfl (hb hby d10_211) rfl rfl ?_
      refine XS.iconst X404.here hx rfl (hb hby d10_212) ?_
      refine XS.iloadN X404.here hx rfl (hb hby d10_213) rfl ?_
      refine st413 _ ?_
      refine XS.dup X413.here hx rfl (hb hby d10_215) rfl rfl ?_
      refine XS.iconst X413.here hx rfl (hb hby d10_216) ?_
      refine XS.iloadN X413.here hx rfl (hb hby d10_217) rfl ?_
      refine st420 _ ?_
      refine XS.dup X420.here hx rfl (hb hby d10_219) rfl rfl ?_
      refine XS.iconst X420.here hx rfl (hb hby d10_220) ?_
      refine XS.iloadN X420.here hx rfl (hb hby d10_221) rfl ?_
      refine st427 _ ?_
      refine XS.dup X427.here hx rfl (hb hby d10_223) rfl rfl ?_
      refine XS.iconst X427.here hx rfl (hb hby d10_224) ?_
      refine XS.iload X427.here hx rfl (hb hby d10_225) rfl ?_
      show Steps p.tables e below (T427.setTop (mkF m 227 #[.val (.int 7), .val (.int c0), .val (.int c1), .val (.int c2), .val (.int c3), .val (.int c4), .val (.int c5), .val (.int c6)] [(.int c3), (.int 3), (.ref b404), (.ref b404), (.ref b398), (.ref b398)])) _
      refine st434 _ ?_
      refine XS.dup X434.here hx rfl (hb hby d10_228) rfl rfl ?_
      refine XS.iconst X434.here hx rfl (hb hby d10_229) ?_
      refine XS.iload X434.here hx rfl (hb hby d10_230) rfl ?_
      refine st441 _ ?_
      refine XS.dup X441.here hx rfl (hb hby d10_233) rfl rfl ?_
      refine XS.iconst X441.here hx rfl (hb hby d10_234) ?_
      refine XS.iload X441.here hx rfl (hb hby d10_235) rfl ?_
      refine st448 _ ?_
      refine XS.dup X448.here hx rfl (hb hby d10_238) rfl rfl ?_
      refine XS.bipush X448.here hx rfl (hb hby d10_239) ?_
      refine XS.iload X448.here hx rfl (hb hby d10_241) rfl ?_
      refine st455 _ ?_
      exact kt
    have hn463 : nar .char c0 = c0 := own_narc c0 (by omega) (by omega)
    have hn464 : nar .char c1 = c1 := own_narc c1 (by omega) (by omega)
    have hn465 : nar .char c2 = c2 := own_narc c2 (by omega) (by omega)
    have hn466 : nar .char c3 = c3 := own_narc c3 (by omega) (by omega)
    have hn467 : nar .char c4 = c4 := own_narc c4 (by omega) (by omega)
    have hn468 : nar .char c5 = c5 := own_narc c5 (by omega) (by omega)
    have hn469 : nar .char c6 = c6 := own_narc c6 (by omega) (by omega)
    have Vx462 : Arv Z h455 b404 k404 .char (7 : Int32) [(.int c0), (.int c1), (.int c2), (.int c3), (.int c4), (.int c5), (.int c6)] (.int 0) := by
      have q := V455
      rw [hn463, hn464, hn465, hn466, hn467, hn468, hn469] at q; exact q
    have f470 := ((((((((A398.ext E404).wr W413).wr W420).wr W427).wr W434).wr W441).wr W448).wr W455)
    have f471 := ((((((((f405.ext E404).wr W413 (Or.inr sz_b404)).wr W420 (Or.inr sz_b404)).wr W427 (Or.inr sz_b404)).wr W434 (Or.inr sz_b404)).wr W441 (Or.inr sz_b404)).wr W448 (Or.inr sz_b404)).wr W455 (Or.inr sz_b404))
    have os472 := (own_st_wr (own_st_wr (own_st_wr (own_st_wr (own_st_wr (own_st_wr (own_st_wr (own_st_ext (own_st_ext Os E398) E404) W413) W420) W427) W434) W441) W448) W455)
    have f473 := ((((((((F398_coder.ext E404).other W413 (Or.inl ne_b398_b404)).other W420 (Or.inl ne_b398_b404)).other W427 (Or.inl ne_b398_b404)).other W434 (Or.inl ne_b398_b404)).other W441 (Or.inl ne_b398_b404)).other W448 (Or.inl ne_b398_b404)).other W455 (Or.inl ne_b398_b404))
    have f474 := ((((((((F398_value.ext E404).other W413 (Or.inl ne_b398_b404)).other W420 (Or.inl ne_b398_b404)).other W427 (Or.inl ne_b398_b404)).other W434 (Or.inl ne_b398_b404)).other W441 (Or.inl ne_b398_b404)).other W448 (Or.inl ne_b398_b404)).other W455 (Or.inl ne_b398_b404))
    obtain ⟨_, _, ⟨T475, L475, k475, n475⟩, -, X475, ⟨Lc475, hQ475, l475, y475, z475⟩, st475⟩ := X455.specialBack hx (y := yn12) rfl hown (mvT hZ (ow hw 55 rfl)) (mvT hZ (ow hw 56 rfl)) (mvT hZ (ow hw 57 rfl)) (by decide) (backOf (W := 1) (rm_mk7 l Z a0 hw [] b398 b404 vcs vf k404 c0 c1 c2 c3 c4 c5 c6 h455 n0 Zs460 os472 f470 f473 f474 g_b398 ne_b398_b404 Vx462 (by omega) (by omega) (by omega) (by omega) (by omega) (by omega) (by omega) (by omega) (by omega) (by omega) (by omega) (by omega) (by omega) (by omega)) hZ (ow hw 57 rfl) (ow hw 1 rfl) (by decide) (by decide)) (g := (mkF m 244 #[.val (.int 7), .val (.int c0), .val (.int c1), .val (.int c2), .val (.int c3), .val (.int c4), .val (.int c5), .val (.int c6)] [(.ref b404), (.ref b398), (.ref b398)])) rfl (by rw [hml]; rfl) (Steps.refl _) (a := b398) (argsL := [(.ref b404)]) (rest := [(.ref b398)]) (lenOf pd_13 rfl) rfl (by exact Nat.le_of_eq rfl) (hb hby d10_244) (fun _ _ => ⟨rfl, e455, (by decide : 2 + 1 ≤ _), (by decide : 11 + 7 ≤ _)⟩)
    dsimp only [Pt.U, Pt.locs, Pt.cells, Pt.slots] at X475 l475 y475 z475 st475 hQ475
    rw [l475, y475, z475] at X475
    obtain ⟨rfl, N475q, K475, A475, ob475, kb475, y475_0, y475_1, y475_2, y475_3, y475_4, y475_5, y475_6, gb475, szb475, Fc475, Fv475, Vb475, qy475_0, qy475_1, qy475_2, qy475_3, qy475_4, qy475_5, qy475_6⟩ := hQ475
    have N475 := Fr.app N455 N475q
    have sf476 := (Safe.keep K475 (sfS sf456 sf0) CR458.1 sf456)
    have sf477 := (Safe.keep K475 (sfS sf456 sf0) CR458.1 sf457)
    have CR478 := (CR458.trans (CHr.keep K475 (sfS sf456 sf0) CR458.1))
    have hk479 := Nat.le_trans hk459 K475.1
    have Zs480 : n0 ≤ T475.heap.size := Nat.le_trans Zs460 K475.1
    have ne_b398_ob475 : b398 ≠ ob475 := Nat.ne_of_lt (Nat.lt_of_lt_of_le f470.lt szb475)
    have ne_b404_ob475 : b404 ≠ ob475 := Nat.ne_of_lt (Nat.lt_of_lt_of_le Vx462.lt szb475)
    have sz_ob475 : h0.size ≤ ob475 := Nat.le_trans f471.1 szb475
    subst hSS
    obtain ⟨fs, hr, hrun, hended, hREW⟩ := X475.leaveW hS0 hk479 (v := some (.ref b398)) (fun h => by rw [Bd.returns] at h; cases h)
    refine ⟨_, _, pre461 _ ?_, hrun, hended, _, _, rfl, ?_, ?_, ⟨hREW.1, hREW.2.1, hREW.2.2.1, hREW.2.2.2.mono (by decide) (by decide)⟩⟩
    · refine st475.trans ?_
      jvm_step X475.here [X475.here.top, hx, (hb hby d10_247), X475.method', Bd.returns, Value.isRef, FieldType.isReference]
      first | (intro acts; rw [hr _ acts rfl rfl rfl]) | rw [hr _ _ rfl rfl rfl]
      exact Steps.refl _
    · show Q_make Z _ _ _ _ _ _ _ _ _ _ h0 n0 _ T475.heap _
      have f481 := (f471.trans K475 (allS (P := fun x => x ∈ [] ∨ h0.size ≤ x) (Or.inr sz_b398) all0))
      exact ⟨b398, ob475, _, _, _, rfl, N475, f481, A475, Fc475, Fv475, Vb475⟩
    · show CHr Z own_EL s.vm s.heap T475.vm T475.heap
      rw [hh]
      exact CR478.trans (CHv.at X475 hZ hEL CR478.1)
theorem d17_0 : decode kc17 0 = .ok (.getstatic 50, 3) := by decide +kernel
theorem d17_3 : decode kc17 3 = .ok (.astore_n 1, 1) := by decide +kernel
theorem d17_4 : decode kc17 4 = .ok (.aload_n 1, 1) := by decide +kernel
theorem d17_5 : decode kc17 5 = .ok (.arraylength, 1) := by decide +kernel
theorem d17_6 : decode kc17 6 = .ok (.istore_n 2, 1) := by decide +kernel
theorem d17_7 : decode kc17 7 = .ok (.iconst 0, 1) := by decide +kernel
theorem d17_8 : decode kc17 8 = .ok (.istore_n 3, 1) := by decide +kernel
theorem d17_9 : decode kc17 9 = .ok (.iload_n 3, 1) := by decide +kernel
theorem d17_10 : decode kc17 10 = .ok (.iload_n 2, 1) := by decide +kernel
theorem d17_11 : decode kc17 11 = .ok (.if_icmp .ge 29, 3) := by decide +kernel
theorem d17_14 : decode kc17 14 = .ok (.aload_n 1, 1) := by decide +kernel
theorem d17_15 : decode kc17 15 = .ok (.iload_n 3, 1) := by decide +kernel
theorem d17_16 : decode kc17 16 = .ok (.aaload, 1) := by decide +kernel
theorem d17_17 : decode kc17 17 = .ok (.astore 4, 2) := by decide +kernel
theorem d17_19 : decode kc17 19 = .ok (.aload 4, 2) := by decide +kernel
theorem d17_21 : decode kc17 21 = .ok (.getfield 35, 3) := by decide +kernel
theorem d17_24 : decode kc17 24 = .ok (.aload_n 0, 1) := by decide +kernel
theorem d17_25 : decode kc17 25 = .ok (.invokevirtual 53, 3) := by decide +kernel
theorem d17_28 : decode kc17 28 = .ok (.ifCond .eq 6, 3) := by decide +kernel
theorem d17_31 : decode kc17 31 = .ok (.aload 4, 2) := by decide +kernel
theorem d17_33 : decode kc17 33 = .ok (.areturn, 1) := by decide +kernel
theorem d17_34 : decode kc17 34 = .ok (.iinc 3 1, 3) := by decide +kernel
theorem d17_37 : decode kc17 37 = .ok (.goto (-28), 3) := by decide +kernel
theorem d17_40 : decode kc17 40 = .ok (.aconst_null, 1) := by decide +kernel
theorem d17_41 : decode kc17 41 = .ok (.areturn, 1) := by decide +kernel
theorem pn_5 : plainName "com/example/attestbridge/attestbridge/sync/Permission" = true := by first | (simp [plainName, overriddenIn]; done) | decide +kernel
theorem ef_rm_named (m : MethodId) (x0 : Addr) : entryFrame m #[(.ref x0)] 5 = mkF m 0 #[.val (.ref x0), .unset, .unset, .unset, .unset] [] := by first | (simp [entryFrame, mkF, argsToLocals, Value.category]; done) | rfl
theorem pd_14 : parseMethodDescriptor "(Ljava/lang/Object;)Z" = some ⟨[(.object "java/lang/Object")], some .boolean⟩ := by decide +kernel
def Q_named (Z : State) (oa : Addr) (vcs : Int32) (vf : Value) (pA : Addr) (kA : ClassId) (pp : Nat → Addr) (ww : Nat → Addr) (bb : Nat → Addr) (kk : Nat → ClassId) (ob : Addr) (kb : ClassId) (zn : Int32) (vs : List Value) (h0 : Heap) (n0 : Nat) (v : Option Value) (h : Heap) (L : List Loc) : Prop := ∃ r : Value, v = some r ∧ ((r = .ref (pp 0) ∧ own_w0 zn vs) ∨ (r = .ref (pp 1) ∧ ¬ own_w0 zn vs ∧ own_w1 zn vs) ∨ (r = .ref (pp 2) ∧ ¬ own_w0 zn vs ∧ ¬ own_w1 zn vs ∧ own_w2 zn vs) ∨ (r = .ref (pp 3) ∧ ¬ own_w0 zn vs ∧ ¬ own_w1 zn vs ∧ ¬ own_w2 zn vs ∧ own_w3 zn vs) ∨ (r = .null ∧ ¬ own_w0 zn vs ∧ ¬ own_w1 zn vs ∧ ¬ own_w2 zn vs ∧ ¬ own_w3 zn vs)) ∧ Fr n0 L ∧ h = h0
theorem rm_named (l : Launch) (Z : State) (a0 : Array Value) (hw : ∀ d ∈ tables_1, d.before a0 Z = true) (ws : List Jvm.Cond) (oa : Addr) (vcs : Int32) (vf : Value) (pA : Addr) (kA : ClassId) (pp : Nat → Addr) (ww : Nat → Addr) (bb : Nat → Addr) (kk : Nat → ClassId) (ob : Addr) (kb : ClassId) (zn : Int32) (vs : List Value) (h0 : Heap) (n0 : Nat) (Z0 : n0 ≤ h0.size) (Os : own_st Z h0 vcs vf) (Pm : own_pm Z h0 pA kA pp ww bb kk) (Es : Exa Z h0 oa "java/lang/String") (Fc : Fld Z h0 oa "java/lang/String" "coder" "B" (.int 0)) (Fv : Fld Z h0 oa "java/lang/String" "value" "[B" (.ref ob)) (Vb : Arv Z h0 ob kb .byte zn vs (.int 0)) :
    MetFree l yn17 (head1 (Jvm.Cond.code yn17 kc17 5 (some (.object "com/example/attestbridge/attestbridge/sync/Permission")) :: ws) ⟨2, 0, 0, 28⟩) (fun a U => a = #[(.ref oa)] ∧ Z.Warmed39 U.vm ∧ U.heap = h0) (fun _ _ _ _ _ => True) (fun _ U o U' => ∃ v L, o = .returned v ∧ Q_named Z oa vcs vf pA kA pp ww bb kk ob kb zn vs h0 n0 v U'.heap L ∧ FrameEnd U o U' L 0 0) := by
  refine MetFree.of_bodySF (plainFor_of_name pn_5) hisR ?_
  intro p e s m args below meth c s₁ Bd hml0 hP hK
  obtain ⟨rfl, hZ, hh⟩ := hP
  have hx := Bd.exec
  have hby := Bd.bytes
  have hml : c.maxLocals = 5 := hml0
  have hown : s.vm.findClass "com/example/attestbridge/attestbridge/sync/Permission" = some m.cls := findClass_of_methodNamed Bd.named
  have hnm := (name_of_methodNamed Bd.named Bd.method).1
  have X0 : Stand p l e ⟨2, 0, 0, 28⟩ s m #[(.ref oa)] below meth c s₁ [] 0 0 := Stand.of_body Bd
  have e0 : s₁.heap = h0 := by rw [← hh, Bd.state]; rfl
  have N0 := Fr.nil n0
  obtain ⟨SS, hSS⟩ : ∃ S, S = s₁.setTop (entryFrame m #[(.ref oa)] 5) := ⟨_, rfl⟩
  have pre0 : oP p e below (s₁.setTop (mkF m 0 #[.val (.ref oa), .unset, .unset, .unset, .unset] [])) (SS) := by
    rw [hSS]; exact fun t k => castTop (ef_rm_named m oa) k
  obtain ⟨T1, X1, e1, st1⟩ := getS2 X0 hx hZ hown (host := "") (Or.inl (ow hw 79 rfl)) Via.refl e0 Pm.1 (g := (mkF m 0 #[.val (.ref oa), .unset, .unset, .unset, .unset] [])) rfl (hb hby d17_0)
  obtain ⟨cl2, Ar2, q2, S2, M2, H2, G2⟩ := id Pm.2.2.2.2.2.1
  have hc11_3 : (0 : Int) < (4 : Int) := by decide
  obtain ⟨cl4, Ar4, q4, S4, M4, H4, G4⟩ := id Pm.2.2.2.2.2.1
  have hin4 : ¬ ((0 : Int32) < 0 ∨ cl4.slots.size ≤ ((0 : Int32)).toNatClampNeg) := inb_of S4 ⟨by decide, by decide⟩
  have hat4 : cl4.slots[((0 : Int32)).toNatClampNeg]? = some (.ref (pp 0)) := Has.at H4 hin4 rfl
  obtain ⟨T5, X5, e5, st5⟩ := getF X1 hx hZ hown (host := "") (Or.inl (ow hw 82 rfl)) Via.refl e1 Pm.2.2.2.2.2.2.2.1 (g := (mkF m 21 #[.val (.ref oa), .val (.ref pA), .val (.int 4), .val (.int 0), .val (.ref (pp 0))] [(.ref (pp 0))])) rfl rfl (hb hby d17_21)
  obtain ⟨cq6, kq6, q6a, q6b, q6c⟩ := isOf hZ e5 Pm.2.2.2.2.2.2.2.2.1
  obtain ⟨_, _, ⟨T6, L6, k6, n6⟩, -, X6, ⟨Lc6, hQ6, l6, y6, z6⟩, st6⟩ := X5.virtualBack hx (y := yn1) (z := yn1) hown (mvT hZ (ow hw 84 rfl)) (mvT hZ (ow hw 85 rfl)) (notFace_of_selects (args := #[]) (mvT hZ (ow hw 87 rfl))) (mvT hZ (ow hw 87 rfl)) (mvT hZ (ow hw 86 rfl)) (by decide) (backOf (W := 0) (rm_qA6 l Z a0 hw [] (ww 0) oa vcs vf (bb 0) ob (kk 0) kb zn vs (99 : Int32) (114 : Int32) (101 : Int32) (97 : Int32) (116 : Int32) (101 : Int32) h0 n0 Z0 Os Pm.2.2.2.2.2.2.2.2.1 Pm.2.2.2.2.2.2.2.2.2.1 Pm.2.2.2.2.2.2.2.2.2.2.1 Pm.2.2.2.2.2.2.2.2.2.2.2.1 Es Fc Fv Vb) hZ (ow hw 88 rfl) (ow hw 1 rfl) (by decide) (by decide)) q6a q6c (g := (mkF m 25 #[.val (.ref oa), .val (.ref pA), .val (.int 4), .val (.int 0), .val (.ref (pp 0))] [(.ref oa), (.ref (ww 0))])) rfl (by rw [hml]; rfl) (Steps.refl _) (argsL := [(.ref oa)]) (rest := []) (lenOf pd_14 rfl) rfl (by exact Nat.le_of_eq rfl) (hb hby d17_25) (fun _ _ => ⟨rfl, e5, (by decide : 0 + 0 ≤ _), (by decide : 0 + 0 ≤ _)⟩)
  dsimp only [Pt.U, Pt.locs, Pt.cells, Pt.slots] at X6 l6 y6 z6 st6 hQ6
  rw [l6, y6, z6] at X6
  obtain ⟨zq0, rfl, hzq0, N6q, e6⟩ := hQ6
  have N6 := Fr.app N0 N6q
  have pre7 : oP p e below (T6.setTop (mkF m 28 #[.val (.ref oa), .val (.ref pA), .val (.int 4), .val (.int 0), .val (.ref (pp 0))] [(.int zq0)])) (SS) := fun t kt => by
    refine pre0 _ ?_
    refine st1 _ ?_
    refine XS.astoreN X1.here hx rfl (hb hby d17_3) rfl rfl (l' := #[.val (.ref oa), .val (.ref pA), .unset, .unset, .unset]) rfl ?_
    refine XS.aloadN X1.here hx rfl (hb hby d17_4) rfl rfl ?_
    refine X1.arraylength hx (by rw [e1]; exact Ar2.1) (State.isArrayOf_alike hZ.alike Ar2.2.1) (g := (mkF m 5 #[.val (.ref oa), .val (.ref pA), .unset, .unset, .unset] [(.ref pA)])) rfl rfl (hb hby d17_5) _ ?_
    rw [len_of S2 M2]
    refine XS.istoreN X1.here hx rfl (hb hby d17_6) rfl (l' := #[.val (.ref oa), .val (.ref pA), .val (.int 4), .unset, .unset]) rfl ?_
    refine XS.iconst X1.here hx rfl (hb hby d17_7) ?_
    refine XS.istoreN X1.here hx rfl (hb hby d17_8) rfl (l' := #[.val (.ref oa), .val (.ref pA), .val (.int 4), .val (.int 0), .unset]) rfl ?_
    refine XS.iloadN X1.here hx rfl (hb hby d17_9) rfl ?_
    refine XS.iloadN X1.here hx rfl (hb hby d17_10) rfl ?_
    refine XS.icmpNo X1.here hx rfl (hb hby d17_11) rfl (own_tlt (a := (0 : Int32)) (b := (4 : Int32)) (by decide) (by decide) hc11_3).2.1 ?_
    refine XS.aloadN X1.here hx rfl (hb hby d17_14) rfl rfl ?_
    refine XS.iloadN X1.here hx rfl (hb hby d17_15) rfl ?_
    refine X1.aaload hx (j := (0 : Int32)) (v := (.ref (pp 0))) (by rw [e1]; exact Ar4.1) (State.isArrayOf_alike hZ.alike Ar4.2.1) rfl Ar4.2.2 hin4 hat4 (g := (mkF m 16 #[.val (.ref oa), .val (.ref pA), .val (.int 4), .val (.int 0), .unset] [(.int 0), (.ref pA)])) rfl rfl (hb hby d17_16) _ ?_
    refine XS.astore X1.here hx rfl (hb hby d17_17) rfl rfl (l' := #[.val (.ref oa), .val (.ref pA), .val (.int 4), .val (.int 0), .val (.ref (pp 0))]) rfl ?_
    refine XS.aload X1.here hx rfl (hb hby d17_19) rfl rfl ?_
    refine st5 _ ?_
    refine XS.aloadN X5.here hx rfl (hb hby d17_24) rfl rfl ?_
    refine st6.trans ?_
    exact kt
  rcases hzq0 with ⟨rfl, hp0⟩ | ⟨rfl, hn0⟩
  · have pre8 : oP p e below (T6.setTop (mkF m 28 #[.val (.ref oa), .val (.ref pA), .val (.int 4), .val (.int 0), .val (.ref (pp 0))] [(.int 1)])) (SS) := pre7
    have hc28_9 : ¬ ((1 : Int) = (0 : Int)) := by decide
    subst hSS
    obtain ⟨fs, hr, q1, q2, q3, q4⟩ := X6.leave (v := some (.ref (pp 0))) (fun h => by rw [Bd.returns] at h; cases h)
    refine ⟨_, _, pre8 _ ?_, q1, q2, _, _, rfl, ?_, ⟨_, rfl⟩, q3, q4.mono (by decide) (by decide)⟩
    · refine XS.ifNo X6.here hx rfl (hb hby d17_28) rfl (own_if (own_feq (a := (1 : Int32)) (b := (0 : Int32)) (by decide) (by decide) hc28_9).1) ?_
      show Steps p.tables e below (T6.setTop (mkF m 31 #[.val (.ref oa), .val (.ref pA), .val (.int 4), .val (.int 0), .val (.ref (pp 0))] [])) _
      refine XS.aload X6.here hx rfl (hb hby d17_31) rfl rfl ?_
      jvm_step X6.here [X6.here.top, hx, (hb hby d17_33), X6.method', Bd.returns, Value.isRef, FieldType.isReference]
      first | (intro acts; rw [hr _ acts rfl rfl rfl]) | rw [hr _ _ rfl rfl rfl]
      exact Steps.refl _
    · show Q_named Z _ _ _ _ _ _ _ _ _ _ _ _ _ h0 n0 _ T6.heap _
      rw [e6]
      exact ⟨_, rfl, Or.inl ⟨rfl, hp0⟩, N6, rfl⟩
  · have pre10 : oP p e below (T6.setTop (mkF m 28 #[.val (.ref oa), .val (.ref pA), .val (.int 4), .val (.int 0), .val (.ref (pp 0))] [(.int 0)])) (SS) := pre7
    have hc28_11 : (0 : Int) = (0 : Int) := by decide
    have hc11_12 : (1 : Int) < (4 : Int) := by decide
    obtain ⟨cl13, Ar13, q13, S13, M13, H13, G13⟩ := id Pm.2.2.2.2.2.1
    have hin13 : ¬ ((1 : Int32) < 0 ∨ cl13.slots.size ≤ ((1 : Int32)).toNatClampNeg) := inb_of S13 ⟨by decide, by decide⟩
    have hat13 : cl13.slots[((1 : Int32)).toNatClampNeg]? = some (.ref (pp 1)) := Has.at H13 hin13 rfl
    obtain ⟨T14, X14, e14, st14⟩ := getF X6 hx hZ hown (host := "") (Or.inl (ow hw 82 rfl)) Via.refl e6 Pm.2.2.2.2.2.2.2.2.2.2.2.2.2.1 (g := (mkF m 21 #[.val (.ref oa), .val (.ref pA), .val (.int 4), .val (.int 1), .val (.ref (pp 1))] [(.ref (pp 1))])) rfl rfl (hb hby d17_21)
    obtain ⟨cq15, kq15, q15a, q15b, q15c⟩ := isOf hZ e14 Pm.2.2.2.2.2.2.2.2.2.2.2.2.2.2.1
    obtain ⟨_, _, ⟨T15, L15, k15, n15⟩, -, X15, ⟨Lc15, hQ15, l15, y15, z15⟩, st15⟩ := X14.virtualBack hx (y := yn1) (z := yn1) hown (mvT hZ (ow hw 84 rfl)) (mvT hZ (ow hw 85 rfl)) (notFace_of_selects (args := #[]) (mvT hZ (ow hw 87 rfl))) (mvT hZ (ow hw 87 rfl)) (mvT hZ (ow hw 86 rfl)) (by decide) (backOf (W := 0) (rm_qA4 l Z a0 hw [] (ww 1) oa vcs vf (bb 1) ob (kk 1) kb zn vs (114 : Int32) (101 : Int32) (97 : Int32) (100 : Int32) h0 n0 Z0 Os Pm.2.2.2.2.2.2.2.2.2.2.2.2.2.2.1 Pm.2.2.2.2.2.2.2.2.2.2.2.2.2.2.2.1 Pm.2.2.2.2.2.2.2.2.2.2.2.2.2.2.2.2.1 Pm.2.2.2.2.2.2.2.2.2.2.2.2.2.2.2.2.2.1 Es Fc Fv Vb) hZ (ow hw 88 rfl) (ow hw 1 rfl) (by decide) (by decide)) q15a q15c (g := (mkF m 25 #[.val (.ref oa), .val (.ref pA), .val (.int 4), .val (.int 1), .val (.ref (pp 1))] [(.ref oa), (.ref (ww 1))])) rfl (by rw [hml]; rfl) (Steps.refl _) (argsL := [(.ref oa)]) (rest := []) (lenOf pd_14 rfl) rfl (by exact Nat.le_of_eq rfl) (hb hby d17_25) (fun _ _ => ⟨rfl, e14, (by decide : 0 + 0 ≤ _), (by decide : 0 + 0 ≤ _)⟩)
    dsimp only [Pt.U, Pt.locs, Pt.cells, Pt.slots] at X15 l15 y15 z15 st15 hQ15
    rw [l15, y15, z15] at X15
    obtain ⟨zq1, rfl, hzq1, N15q, e15⟩ := hQ15
    have N15 := Fr.app N6 N15q
    have pre16 : oP p e below (T15.setTop (mkF m 28 #[.val (.ref oa), .val (.ref pA), .val (.int 4), .val (.int 1), .val (.ref (pp 1))] [(.int zq1)])) (SS) := fun t kt => by
      refine pre10 _ ?_
      refine XS.ifYes X6.here hx rfl (pc0 := 28) (pc' := 34) rfl (hb hby d17_28) rfl (own_if (own_teq (a := (0 : Int32)) (b := (0 : Int32)) (by decide) (by decide) hc28_11).1) (by decide) (by decide) ?_
      show Steps p.tables e below (T6.setTop (mkF m 34 #[.val (.ref oa), .val (.ref pA), .val (.int 4), .val (.int 0), .val (.ref (pp 0))] [])) _
      refine XS.iinc X6.here hx rfl (hb hby d17_34) rfl (l' := #[.val (.ref oa), .val (.ref pA), .val (.int 4), .val (.int 1), .val (.ref (pp 0))]) rfl ?_
      refine XS.goto X6.here hx rfl (pc0 := 37) (pc' := 9) rfl (hb hby d17_37) (by decide) (by decide) ?_
      refine XS.iloadN X6.here hx rfl (hb hby d17_9) rfl ?_
      refine XS.iloadN X6.here hx rfl (hb hby d17_10) rfl ?_
      refine XS.icmpNo X6.here hx rfl (hb hby d17_11) rfl (own_tlt (a := (1 : Int32)) (b := (4 : Int32)) (by decide) (by decide) hc11_12).2.1 ?_
      refine XS.aloadN X6.here hx rfl (hb hby d17_14) rfl rfl ?_
      refine XS.iloadN X6.here hx rfl (hb hby d17_15) rfl ?_
      refine X6.aaload hx (j := (1 : Int32)) (v := (.ref (pp 1))) (by rw [e6]; exact Ar13.1) (State.isArrayOf_alike hZ.alike Ar13.2.1) rfl Ar13.2.2 hin13 hat13 (g := (mkF m 16 #[.val (.ref oa), .val (.ref pA), .val (.int 4), .val (.int 1), .val (.ref (pp 0))] [(.int 1), (.ref pA)])) rfl rfl (hb hby d17_16) _ ?_
      refine XS.astore X6.here hx rfl (hb hby d17_17) rfl rfl (l' := #[.val (.ref oa), .val (.ref pA), .val (.int 4), .val (.int 1), .val (.ref (pp 1))]) rfl ?_
      refine XS.aload X6.here hx rfl (hb hby d17_19) rfl rfl ?_
      refine st14 _ ?_
      refine XS.aloadN X14.here hx rfl (hb hby d17_24) rfl rfl ?_
      refine st15.trans ?_
      exact kt
    rcases hzq1 with ⟨rfl, hp1⟩ | ⟨rfl, hn1⟩
    · have pre17 : oP p e below (T15.setTop (mkF m 28 #[.val (.ref oa), .val (.ref pA), .val (.int 4), .val (.int 1), .val (.ref (pp 1))] [(.int 1)])) (SS) := pre16
      have hc28_18 : ¬ ((1 : Int) = (0 : Int)) := by decide
      subst hSS
      obtain ⟨fs, hr, q1, q2, q3, q4⟩ := X15.leave (v := some (.ref (pp 1))) (fun h => by rw [Bd.returns] at h; cases h)
      refine ⟨_, _, pre17 _ ?_, q1, q2, _, _, rfl, ?_, ⟨_, rfl⟩, q3, q4.mono (by decide) (by decide)⟩
      · refine XS.ifNo X15.here hx rfl (hb hby d17_28) rfl (own_if (own_feq (a := (1 : Int32)) (b := (0 : Int32)) (by decide) (by decide) hc28_18).1) ?_
        refine XS.aload X15.here hx rfl (hb hby d17_31) rfl rfl ?_
        jvm_step X15.here [X15.here.top, hx, (hb hby d17_33), X15.method', Bd.returns, Value.isRef, FieldType.isReference]
        first | (intro acts; rw [hr _ acts rfl rfl rfl]) | rw [hr _ _ rfl rfl rfl]
        exact Steps.refl _
      · show Q_named Z _ _ _ _ _ _ _ _ _ _ _ _ _ h0 n0 _ T15.heap _
        rw [e15]
        exact ⟨_, rfl, Or.inr (Or.inl ⟨rfl, hn0, hp1⟩), N15, rfl⟩
    · have pre19 : oP p e below (T15.setTop (mkF m 28 #[.val (.ref oa), .val (.ref pA), .val (.int 4), .val (.int 1), .val (.ref (pp 1))] [(.int 0)])) (SS) := pre16
      have hc28_20 : (0 : Int) = (0 : Int) := by decide
      have hc11_21 : (2 : Int) < (4 : Int) := by decide
      obtain ⟨cl22, Ar22, q22, S22, M22, H22, G22⟩ := id Pm.2.2.2.2.2.1
      have hin22 : ¬ ((2 : Int32) < 0 ∨ cl22.slots.size ≤ ((2 : Int32)).toNatClampNeg) := inb_of S22 ⟨by decide, by decide⟩
      have hat22 : cl22.slots[((2 : Int32)).toNatClampNeg]? = some (.ref (pp 2)) := Has.at H22 hin22 rfl
      obtain ⟨T23, X23, e23, st23⟩ := getF X15 hx hZ hown (host := "") (Or.inl (ow hw 82 rfl)) Via.refl e15 Pm.2.2.2.2.2.2.2.2.2.2.2.2.2.2.2.2.2.2.2.1 (g := (mkF m 21 #[.val (.ref oa), .val (.ref pA), .val (.int 4), .val (.int 2), .val (.ref (pp 2))] [(.ref (pp 2))])) rfl rfl (hb hby d17_21)
      obtain ⟨cq24, kq24, q24a, q24b, q24c⟩ := isOf hZ e23 Pm.2.2.2.2.2.2.2.2.2.2.2.2.2.2.2.2.2.2.2.2.1
      obtain ⟨_, _, ⟨T24, L24, k24, n24⟩, -, X24, ⟨Lc24, hQ24, l24, y24, z24⟩, st24⟩ := X23.virtualBack hx (y := yn1) (z := yn1) hown (mvT hZ (ow hw 84 rfl)) (mvT hZ (ow hw 85 rfl)) (notFace_of_selects (args := #[]) (mvT hZ (ow hw 87 rfl))) (mvT hZ (ow hw 87 rfl)) (mvT hZ (ow hw 86 rfl)) (by decide) (backOf (W := 0) (rm_qA6 l Z a0 hw [] (ww 2) oa vcs vf (bb 2) ob (kk 2) kb zn vs (117 : Int32) (112 : Int32) (100 : Int32) (97 : Int32) (116 : Int32) (101 : Int32) h0 n0 Z0 Os Pm.2.2.2.2.2.2.2.2.2.2.2.2.2.2.2.2.2.2.2.2.1 Pm.2.2.2.2.2.2.2.2.2.2.2.2.2.2.2.2.2.2.2.2.2.1 Pm.2.2.2.2.2.2.2.2.2.2.2.2.2.2.2.2.2.2.2.2.2.2.1 Pm.2.2.2.2.2.2.2.2.2.2.2.2.2.2.2.2.2.2.2.2.2.2.2.1 Es Fc Fv Vb) hZ (ow hw 88 rfl) (ow hw 1 rfl) (by decide) (by decide)) q24a q24c (g := (mkF m 25 #[.val (.ref oa), .val (.ref pA), .val (.int 4), .val (.int 2), .val (.ref (pp 2))] [(.ref oa), (.ref (ww 2))])) rfl (by rw [hml]; rfl) (Steps.refl _) (argsL := [(.ref oa)]) (rest := []) (lenOf pd_14 rfl) rfl (by exact Nat.le_of_eq rfl) (hb hby d17_25) (fun _ _ => ⟨rfl, e23, (by decide : 0 + 0 ≤ _), (by decide : 0 + 0 ≤ _)⟩)
      dsimp only [Pt.U, Pt.locs, Pt.cells, Pt.slots] at X24 l24 y24 z24 st24 hQ24
      rw [l24, y24, z24] at X24
      obtain ⟨zq2, rfl, hzq2, N24q, e24⟩ := hQ24
      have N24 := Fr.app N15 N24q
      have pre25 : oP p e below (T24.setTop (mkF m 28 #[.val (.ref oa), .val (.ref pA), .val (.int 4), .val (.int 2), .val (.ref (pp 2))] [(.int zq2)])) (SS) := fun t kt => by
        refine pre19 _ ?_
        refine XS.ifYes X15.here hx rfl (pc0 := 28) (pc' := 34) rfl (hb hby d17_28) rfl (own_if (own_teq (a := (0 : Int32)) (b := (0 : Int32)) (by decide) (by decide) hc28_20).1) (by decide) (by decide) ?_
        refine XS.iinc X15.here hx rfl (hb hby d17_34) rfl (l' := #[.val (.ref oa), .val (.ref pA), .val (.int 4), .val (.int 2), .val (.ref (pp 1))]) rfl ?_
        refine XS.goto X15.here hx rfl (pc0 := 37) (pc' := 9) rfl (hb hby d17_37) (by decide) (by decide) ?_
        refine XS.iloadN X15.here hx rfl (hb hby d17_9) rfl ?_
        refine XS.iloadN X15.here hx rfl (hb hby d17_10) rfl ?_
        refine XS.icmpNo X15.here hx rfl (hb hby d17_11) rfl (own_tlt (a := (2 : Int32)) (b := (4 : Int32)) (by decide) (by decide) hc11_21).2.1 ?_
        refine XS.aloadN X15.here hx rfl (hb hby d17_14) rfl rfl ?_
        show Steps p.tables e below (T15.setTop (mkF m 15 #[.val (.ref oa), .val (.ref pA), .val (.int 4), .val (.int 2), .val (.ref (pp 1))] [(.ref pA)])) _
        refine XS.iloadN X15.here hx rfl (hb hby d17_15) rfl ?_
        refine X15.aaload hx (j := (2 : Int32)) (v := (.ref (pp 2))) (by rw [e15]; exact Ar22.1) (State.isArrayOf_alike hZ.alike Ar22.2.1) rfl Ar22.2.2 hin22 hat22 (g := (mkF m 16 #[.val (.ref oa), .val (.ref pA), .val (.int 4), .val (.int 2), .val (.ref (pp 1))] [(.int 2), (.ref pA)])) rfl rfl (hb hby d17_16) _ ?_
        refine XS.astore X15.here hx rfl (hb hby d17_17) rfl rfl (l' := #[.val (.ref oa), .val (.ref pA), .val (.int 4), .val (.int 2), .val (.ref (pp 2))]) rfl ?_
        refine XS.aload X15.here hx rfl (hb hby d17_19) rfl rfl ?_
        refine st23 _ ?_
        refine XS.aloadN X23.here hx rfl (hb hby d17_24) rfl rfl ?_
        refine st24.trans ?_
        exact kt
      rcases hzq2 with ⟨rfl, hp2⟩ | ⟨rfl, hn2⟩
      · have pre26 : oP p e below (T24.setTop (mkF m 28 #[.val (.ref oa), .val (.ref pA), .val (.int 4), .val (.int 2), .val (.ref (pp 2))] [(.int 1)])) (SS) := pre25
        have hc28_27 : ¬ ((1 : Int) = (0 : Int)) := by decide
        subst hSS
        obtain ⟨fs, hr, q1, q2, q3, q4⟩ := X24.leave (v := some (.ref (pp 2))) (fun h => by rw [Bd.returns] at h; cases h)
        refine ⟨_, _, pre26 _ ?_, q1, q2, _, _, rfl, ?_, ⟨_, rfl⟩, q3, q4.mono (by decide) (by decide)⟩
        · refine XS.ifNo X24.here hx rfl (hb hby d17_28) rfl (own_if (own_feq (a := (1 : Int32)) (b := (0 : Int32)) (by decide) (by decide) hc28_27).1) ?_
          refine XS.aload X24.here hx rfl (hb hby d17_31) rfl rfl ?_
          jvm_step X24.here [X24.here.top, hx, (hb hby d17_33), X24.method', Bd.returns, Value.isRef, FieldType.isReference]
          first | (intro acts; rw [hr _ acts rfl rfl rfl]) | rw [hr _ _ rfl rfl rfl]
          exact Steps.refl _
        · show Q_named Z _ _ _ _ _ _ _ _ _ _ _ _ _ h0 n0 _ T24.heap _
          rw [e24]
          exact ⟨_, rfl, Or.inr (Or.inr (Or.inl ⟨rfl, hn0, hn1, hp2⟩)), N24, rfl⟩
      · have pre28 : oP p e below (T24.setTop (mkF m 28 #[.val (.ref oa), .val (.ref pA), .val (.int 4), .val (.int 2), .val (.ref (pp 2))] [(.int 0)])) (SS) := pre25
        have hc28_29 : (0 : Int) = (0 : Int) := by decide
        have hc11_30 : (3 : Int) < (4 : Int) := by decide
        obtain ⟨cl31, Ar31, q31, S31, M31, H31, G31⟩ := id Pm.2.2.2.2.2.1
        have hin31 : ¬ ((3 : Int32) < 0 ∨ cl31.slots.size ≤ ((3 : Int32)).toNatClampNeg) := inb_of S31 ⟨by decide, by decide⟩
        have hat31 : cl31.slots[((3 : Int32)).toNatClampNeg]? = some (.ref (pp 3)) := Has.at H31 hin31 rfl
        obtain ⟨T32, X32, e32, st32⟩ := getF X24 hx hZ hown (host := "") (Or.inl (ow hw 82 rfl)) Via.refl e24 Pm.2.2.2.2.2.2.2.2.2.2.2.2.2.2.2.2.2.2.2.2.2.2.2.2.2.1 (g := (mkF m 21 #[.val (.ref oa), .val (.ref pA), .val (.int 4), .val (.int 3), .val (.ref (pp 3))] [(.ref (pp 3))])) rfl rfl (hb hby d17_21)
        obtain ⟨cq33, kq33, q33a, q33b, q33c⟩ := isOf hZ e32 Pm.2.2.2.2.2.2.2.2.2.2.2.2.2.2.2.2.2.2.2.2.2.2.2.2.2.2.1
        obtain ⟨_, _, ⟨T33, L33, k33, n33⟩, -, X33, ⟨Lc33, hQ33, l33, y33, z33⟩, st33⟩ := X32.virtualBack hx (y := yn1) (z := yn1) hown (mvT hZ (ow hw 84 rfl)) (mvT hZ (ow hw 85 rfl)) (notFace_of_selects (args := #[]) (mvT hZ (ow hw 87 rfl))) (mvT hZ (ow hw 87 rfl)) (mvT hZ (ow hw 86 rfl)) (by decide) (backOf (W := 0) (rm_qA6 l Z a0 hw [] (ww 3) oa vcs vf (bb 3) ob (kk 3) kb zn vs (100 : Int32) (101 : Int32) (108 : Int32) (101 : Int32) (116 : Int32) (101 : Int32) h0 n0 Z0 Os Pm.2.2.2.2.2.2.2.2.2.2.2.2.2.2.2.2.2.2.2.2.2.2.2.2.2.2.1 Pm.2.2.2.2.2.2.2.2.2.2.2.2.2.2.2.2.2.2.2.2.2.2.2.2.2.2.2.1 Pm.2.2.2.2.2.2.2.2.2.2.2.2.2.2.2.2.2.2.2.2.2.2.2.2.2.2.2.2.1 Pm.2.2.2.2.2.2.2.2.2.2.2.2.2.2.2.2.2.2.2.2.2.2.2.2.2.2.2.2.2 Es Fc Fv Vb) hZ (ow hw 88 rfl) (ow hw 1 rfl) (by decide) (by decide)) q33a q33c (g := (mkF m 25 #[.val (.ref oa), .val (.ref pA), .val (.int 4), .val (.int 3), .val (.ref (pp 3))] [(.ref oa), (.ref (ww 3))])) rfl (by rw [hml]; rfl) (Steps.refl _) (argsL := [(.ref oa)]) (rest := []) (lenOf pd_14 rfl) rfl (by exact Nat.le_of_eq rfl) (hb hby d17_25) (fun _ _ => ⟨rfl, e32, (by decide : 0 + 0 ≤ _), (by decide : 0 + 0 ≤ _)⟩)
        dsimp only [Pt.U, Pt.locs, Pt.cells, Pt.slots] at X33 l33 y33 z33 st33 hQ33
        rw [l33, y33, z33] at X33
        obtain ⟨zq3, rfl, hzq3, N33q, e33⟩ := hQ33
        have N33 := Fr.app N24 N33q
        have pre34 : oP p e below (T33.setTop (mkF m 28 #[.val (.ref oa), .val (.ref pA), .val (.int 4), .val (.int 3), .val (.ref (pp 3))] [(.int zq3)])) (SS) := fun t kt => by
          refine pre28 _ ?_
          refine XS.ifYes X24.here hx rfl (pc0 := 28) (pc' := 34) rfl (hb hby d17_28) rfl (own_if (own_teq (a := (0 : Int32)) (b := (0 : Int32)) (by decide) (by decide) hc28_29).1) (by decide) (by decide) ?_
          refine XS.iinc X24.here hx rfl (hb hby d17_34) rfl (l' := #[.val (.ref oa), .val (.ref pA), .val (.int 4), .val (.int 3), .val (.ref (pp 2))]) rfl ?_
          refine XS.goto X24.here hx rfl (pc0 := 37) (pc' := 9) rfl (hb hby d17_37) (by decide) (by decide) ?_
          refine XS.iloadN X24.here hx rfl (hb hby d17_9) rfl ?_
          refine XS.iloadN X24.here hx rfl (hb hby d17_10) rfl ?_
          refine XS.icmpNo X24.here hx rfl (hb hby d17_11) rfl (own_tlt (a := (3 : Int32)) (b := (4 : Int32)) (by decide) (by decide) hc11_30).2.1 ?_
          refine XS.aloadN X24.here hx rfl (hb hby d17_14) rfl rfl ?_
          refine XS.iloadN X24.here hx rfl (hb hby d17_15) rfl ?_
          refine X24.aaload hx (j := (3 : Int32)) (v := (.ref (pp 3))) (by rw [e24]; exact Ar31.1) (State.isArrayOf_alike hZ.alike Ar31.2.1) rfl Ar31.2.2 hin31 hat31 (g := (mkF m 16 #[.val (.ref oa), .val (.ref pA), .val (.int 4), .val (.int 3), .val (.ref (pp 2))] [(.int 3), (.ref pA)])) rfl rfl (hb hby d17_16) _ ?_
          refine XS.astore X24.here hx rfl (hb hby d17_17) rfl rfl (l' := #[.val (.ref oa), .val (.ref pA), .val (.int 4), .val (.int 3), .val (.ref (pp 3))]) rfl ?_
          refine XS.aload X24.here hx rfl (hb hby d17_19) rfl rfl ?_
          refine st32 _ ?_
          refine XS.aloadN X32.here hx rfl (hb hby d17_24) rfl rfl ?_
          show Steps p.tables e below (T32.setTop (mkF m 25 #[.val (.ref oa), .val (.ref pA), .val (.int 4), .val (.int 3), .val (.ref (pp 3))] [(.ref oa), (.ref (ww 3))])) _
          refine st33.trans ?_
          exact kt
        rcases hzq3 with ⟨rfl, hp3⟩ | ⟨rfl, hn3⟩
        · have pre35 : oP p e below (T33.setTop (mkF m 28 #[.val (.ref oa), .val (.ref pA), .val (.int 4), .val (.int 3), .val (.ref (pp 3))] [(.int 1)])) (SS) := pre34
          have hc28_36 : ¬ ((1 : Int) = (0 : Int)) := by decide
          subst hSS
          obtain ⟨fs, hr, q1, q2, q3, q4⟩ := X33.leave (v := some (.ref (pp 3))) (fun h => by rw [Bd.returns] at h; cases h)
          refine ⟨_, _, pre35 _ ?_, q1, q2, _, _, rfl, ?_, ⟨_, rfl⟩, q3, q4.mono (by decide) (by decide)⟩
          · refine XS.ifNo X33.here hx rfl (hb hby d17_28) rfl (own_if (own_feq (a := (1 : Int32)) (b := (0 : Int32)) (by decide) (by decide) hc28_36).1) ?_
            refine XS.aload X33.here hx rfl (hb hby d17_31) rfl rfl ?_
            jvm_step X33.here [X33.here.top, hx, (hb hby d17_33), X33.method', Bd.returns, Value.isRef, FieldType.isReference]
            first | (intro acts; rw [hr _ acts rfl rfl rfl]) | rw [hr _ _ rfl rfl rfl]
            exact Steps.refl _
          · show Q_named Z _ _ _ _ _ _ _ _ _ _ _ _ _ h0 n0 _ T33.heap _
            rw [e33]
            exact ⟨_, rfl, Or.inr (Or.inr (Or.inr (Or.inl ⟨rfl, hn0, hn1, hn2, hp3⟩))), N33, rfl⟩
        · have pre37 : oP p e below (T33.setTop (mkF m 28 #[.val (.ref oa), .val (.ref pA), .val (.int 4), .val (.int 3), .val (.ref (pp 3))] [(.int 0)])) (SS) := pre34
          have hc28_38 : (0 : Int) = (0 : Int) := by decide
          have hc11_39 : ¬ ((4 : Int) < (4 : Int)) := by decide
          subst hSS
          obtain ⟨fs, hr, q1, q2, q3, q4⟩ := X33.leave (v := some .null) (fun h => by rw [Bd.returns] at h; cases h)
          refine ⟨_, _, pre37 _ ?_, q1, q2, _, _, rfl, ?_, ⟨_, rfl⟩, q3, q4.mono (by decide) (by decide)⟩
          · refine XS.ifYes X33.here hx rfl (pc0 := 28) (pc' := 34) rfl (hb hby d17_28) rfl (own_if (own_teq (a := (0 : Int32)) (b := (0 : Int32)) (by decide) (by decide) hc28_38).1) (by decide) (by decide) ?_
            refine XS.iinc X33.here hx rfl (hb hby d17_34) rfl (l' := #[.val (.ref oa), .val (.ref pA), .val (.int 4), .val (.int 4), .val (.ref (pp 3))]) rfl ?_
            refine XS.goto X33.here hx rfl (pc0 := 37) (pc' := 9) rfl (hb hby d17_37) (by decide) (by decide) ?_
            refine XS.iloadN X33.here hx rfl (hb hby d17_9) rfl ?_
            refine XS.iloadN X33.here hx rfl (hb hby d17_10) rfl ?_
            refine XS.icmpYes X33.here hx rfl (pc0 := 11) (pc' := 40) rfl (hb hby d17_11) rfl (own_flt (a := (4 : Int32)) (b := (4 : Int32)) (by decide) (by decide) hc11_39).2.1 (by decide) (by decide) ?_
            refine XS.aconstNull X33.here hx rfl (hb hby d17_40) ?_
            jvm_step X33.here [X33.here.top, hx, (hb hby d17_41), X33.method', Bd.returns, Value.isRef, FieldType.isReference]
            first | (intro acts; rw [hr _ acts rfl rfl rfl]) | rw [hr _ _ rfl rfl rfl]
            exact Steps.refl _
          · show Q_named Z _ _ _ _ _ _ _ _ _ _ _ _ _ h0 n0 _ T33.heap _
            rw [e33]
            exact ⟨_, rfl, Or.inr (Or.inr (Or.inr (Or.inr (⟨rfl, hn0, hn1, hn2, hn3⟩)))), N33, rfl⟩
theorem ef_rm_namedN (m : MethodId)  : entryFrame m #[.null] 5 = mkF m 0 #[.val .null, .unset, .unset, .unset, .unset] [] := by first | (simp [entryFrame, mkF, argsToLocals, Value.category]; done) | rfl
def Q_namedN (Z : State) (vcs : Int32) (vf : Value) (pA : Addr) (kA : ClassId) (pp : Nat → Addr) (ww : Nat → Addr) (bb : Nat → Addr) (kk : Nat → ClassId) (h0 : Heap) (n0 : Nat) (v : Option Value) (h : Heap) (L : List Loc) : Prop := v = some .null ∧ Fr n0 L ∧ h = h0
theorem rm_namedN (l : Launch) (Z : State) (a0 : Array Value) (hw : ∀ d ∈ tables_1, d.before a0 Z = true) (ws : List Jvm.Cond) (vcs : Int32) (vf : Value) (pA : Addr) (kA : ClassId) (pp : Nat → Addr) (ww : Nat → Addr) (bb : Nat → Addr) (kk : Nat → ClassId) (h0 : Heap) (n0 : Nat) (Z0 : n0 ≤ h0.size) (Os : own_st Z h0 vcs vf) (Pm : own_pm Z h0 pA kA pp ww bb kk) :
    MetFree l yn17 (head1 (Jvm.Cond.code yn17 kc17 5 (some (.object "com/example/attestbridge/attestbridge/sync/Permission")) :: ws) ⟨1, 0, 0, 14⟩) (fun a U => a = #[.null] ∧ Z.Warmed39 U.vm ∧ U.heap = h0) (fun _ _ _ _ _ => True) (fun _ U o U' => ∃ v L, o = .returned v ∧ Q_namedN Z vcs vf pA kA pp ww bb kk h0 n0 v U'.heap L ∧ FrameEnd U o U' L 0 0) := by
  refine MetFree.of_bodySF (plainFor_of_name pn_5) hisR ?_
  intro p e s m args below meth c s₁ Bd hml0 hP hK
  obtain ⟨rfl, hZ, hh⟩ := hP
  have hx := Bd.exec
  have hby := Bd.bytes
  have hml : c.maxLocals = 5 := hml0
  have hown : s.vm.findClass "com/example/attestbridge/attestbridge/sync/Permission" = some m.cls := findClass_of_methodNamed Bd.named
  have hnm := (name_of_methodNamed Bd.named Bd.method).1
  have X0 : Stand p l e ⟨1, 0, 0, 14⟩ s m #[.null] below meth c s₁ [] 0 0 := Stand.of_body Bd
  have e0 : s₁.heap = h0 := by rw [← hh, Bd.state]; rfl
  have N0 := Fr.nil n0
  obtain ⟨SS, hSS⟩ : ∃ S, S = s₁.setTop (entryFrame m #[.null] 5) := ⟨_, rfl⟩
  have pre0 : oP p e below (s₁.setTop (mkF m 0 #[.val .null, .unset, .unset, .unset, .unset] [])) (SS) := by
    rw [hSS]; exact fun t k => castTop (ef_rm_namedN m ) k
  obtain ⟨T1, X1, e1, st1⟩ := getS2 X0 hx hZ hown (host := "") (Or.inl (ow hw 79 rfl)) Via.refl e0 Pm.1 (g := (mkF m 0 #[.val .null, .unset, .unset, .unset, .unset] [])) rfl (hb hby d17_0)
  obtain ⟨cl2, Ar2, q2, S2, M2, H2, G2⟩ := id Pm.2.2.2.2.2.1
  have hc11_3 : (0 : Int) < (4 : Int) := by decide
  obtain ⟨cl4, Ar4, q4, S4, M4, H4, G4⟩ := id Pm.2.2.2.2.2.1
  have hin4 : ¬ ((0 : Int32) < 0 ∨ cl4.slots.size ≤ ((0 : Int32)).toNatClampNeg) := inb_of S4 ⟨by decide, by decide⟩
  have hat4 : cl4.slots[((0 : Int32)).toNatClampNeg]? = some (.ref (pp 0)) := Has.at H4 hin4 rfl
  obtain ⟨T5, X5, e5, st5⟩ := getF X1 hx hZ hown (host := "") (Or.inl (ow hw 82 rfl)) Via.refl e1 Pm.2.2.2.2.2.2.2.1 (g := (mkF m 21 #[.val .null, .val (.ref pA), .val (.int 4), .val (.int 0), .val (.ref (pp 0))] [(.ref (pp 0))])) rfl rfl (hb hby d17_21)
  obtain ⟨cq6, kq6, q6a, q6b, q6c⟩ := isOf hZ e5 Pm.2.2.2.2.2.2.2.2.1
  obtain ⟨_, _, ⟨T6, L6, k6, n6⟩, -, X6, ⟨Lc6, hQ6, l6, y6, z6⟩, st6⟩ := X5.virtualBack hx (y := yn1) (z := yn1) hown (mvT hZ (ow hw 84 rfl)) (mvT hZ (ow hw 85 rfl)) (notFace_of_selects (args := #[]) (mvT hZ (ow hw 87 rfl))) (mvT hZ (ow hw 87 rfl)) (mvT hZ (ow hw 86 rfl)) (by decide) (backOf (W := 0) (rm_qN l Z a0 hw [] (ww 0) h0 n0 Z0 ) hZ (ow hw 88 rfl) (ow hw 1 rfl) (by decide) (by decide)) q6a q6c (g := (mkF m 25 #[.val .null, .val (.ref pA), .val (.int 4), .val (.int 0), .val (.ref (pp 0))] [.null, (.ref (ww 0))])) rfl (by rw [hml]; rfl) (Steps.refl _) (argsL := [.null]) (rest := []) (lenOf pd_14 rfl) rfl (by exact Nat.le_of_eq rfl) (hb hby d17_25) (fun _ _ => ⟨rfl, e5, (by decide : 0 + 0 ≤ _), (by decide : 0 + 0 ≤ _)⟩)
  dsimp only [Pt.U, Pt.locs, Pt.cells, Pt.slots] at X6 l6 y6 z6 st6 hQ6
  rw [l6, y6, z6] at X6
  obtain ⟨zq1, rfl, hzq1, N6q, e6⟩ := hQ6
  have N6 := Fr.app N0 N6q
  have pre7 : oP p e below (T6.setTop (mkF m 28 #[.val .null, .val (.ref pA), .val (.int 4), .val (.int 0), .val (.ref (pp 0))] [(.int zq1)])) (SS) := fun t kt => by
    refine pre0 _ ?_
    refine st1 _ ?_
    refine XS.astoreN X1.here hx rfl (hb hby d17_3) rfl rfl (l' := #[.val .null, .val (.ref pA), .unset, .unset, .unset]) rfl ?_
    refine XS.aloadN X1.here hx rfl (hb hby d17_4) rfl rfl ?_
    refine X1.arraylength hx (by rw [e1]; exact Ar2.1) (State.isArrayOf_alike hZ.alike Ar2.2.1) (g := (mkF m 5 #[.val .null, .val (.ref pA), .unset, .unset, .unset] [(.ref pA)])) rfl rfl (hb hby d17_5) _ ?_
    rw [len_of S2 M2]
    refine XS.istoreN X1.here hx rfl (hb hby d17_6) rfl (l' := #[.val .null, .val (.ref pA), .val (.int 4), .unset, .unset]) rfl ?_
    refine XS.iconst X1.here hx rfl (hb hby d17_7) ?_
    refine XS.istoreN X1.here hx rfl (hb hby d17_8) rfl (l' := #[.val .null, .val (.ref pA), .val (.int 4), .val (.int 0), .unset]) rfl ?_
    refine XS.iloadN X1.here hx rfl (hb hby d17_9) rfl ?_
    refine XS.iloadN X1.here hx rfl (hb hby d17_10) rfl ?_
    refine XS.icmpNo X1.here hx rfl (hb hby d17_11) rfl (own_tlt (a := (0 : Int32)) (b := (4 : Int32)) (by decide) (by decide) hc11_3).2.1 ?_
    refine XS.aloadN X1.here hx rfl (hb hby d17_14) rfl rfl ?_
    refine XS.iloadN X1.here hx rfl (hb hby d17_15) rfl ?_
    refine X1.aaload hx (j := (0 : Int32)) (v := (.ref (pp 0))) (by rw [e1]; exact Ar4.1) (State.isArrayOf_alike hZ.alike Ar4.2.1) rfl Ar4.2.2 hin4 hat4 (g := (mkF m 16 #[.val .null, .val (.ref pA), .val (.int 4), .val (.int 0), .unset] [(.int 0), (.ref pA)])) rfl rfl (hb hby d17_16) _ ?_
    refine XS.astore X1.here hx rfl (hb hby d17_17) rfl rfl (l' := #[.val .null, .val (.ref pA), .val (.int 4), .val (.int 0), .val (.ref (pp 0))]) rfl ?_
    refine XS.aload X1.here hx rfl (hb hby d17_19) rfl rfl ?_
    refine st5 _ ?_
    refine XS.aloadN X5.here hx rfl (hb hby d17_24) rfl rfl ?_
    refine st6.trans ?_
    exact kt
  subst hzq1
  have pre8 : oP p e below (T6.setTop (mkF m 28 #[.val .null, .val (.ref pA), .val (.int 4), .val (.int 0), .val (.ref (pp 0))] [(.int 0)])) (SS) := pre7
  have hc28_9 : (0 : Int) = (0 : Int) := by decide
  have hc11_10 : (1 : Int) < (4 : Int) := by decide
  obtain ⟨cl11, Ar11, q11, S11, M11, H11, G11⟩ := id Pm.2.2.2.2.2.1
  have hin11 : ¬ ((1 : Int32) < 0 ∨ cl11.slots.size ≤ ((1 : Int32)).toNatClampNeg) := inb_of S11 ⟨by decide, by decide⟩
  have hat11 : cl11.slots[((1 : Int32)).toNatClampNeg]? = some (.ref (pp 1)) := Has.at H11 hin11 rfl
  obtain ⟨T12, X12, e12, st12⟩ := getF X6 hx hZ hown (host := "") (Or.inl (ow hw 82 rfl)) Via.refl e6 Pm.2.2.2.2.2.2.2.2.2.2.2.2.2.1 (g := (mkF m 21 #[.val .null, .val (.ref pA), .val (.int 4), .val (.int 1), .val (.ref (pp 1))] [(.ref (pp 1))])) rfl rfl (hb hby d17_21)
  obtain ⟨cq13, kq13, q13a, q13b, q13c⟩ := isOf hZ e12 Pm.2.2.2.2.2.2.2.2.2.2.2.2.2.2.1
  obtain ⟨_, _, ⟨T13, L13, k13, n13⟩, -, X13, ⟨Lc13, hQ13, l13, y13, z13⟩, st13⟩ := X12.virtualBack hx (y := yn1) (z := yn1) hown (mvT hZ (ow hw 84 rfl)) (mvT hZ (ow hw 85 rfl)) (notFace_of_selects (args := #[]) (mvT hZ (ow hw 87 rfl))) (mvT hZ (ow hw 87 rfl)) (mvT hZ (ow hw 86 rfl)) (by decide) (backOf (W := 0) (rm_qN l Z a0 hw [] (ww 1) h0 n0 Z0 ) hZ (ow hw 88 rfl) (ow hw 1 rfl) (by decide) (by decide)) q13a q13c (g := (mkF m 25 #[.val .null, .val (.ref pA), .val (.int 4), .val (.int 1), .val (.ref (pp 1))] [.null, (.ref (ww 1))])) rfl (by rw [hml]; rfl) (Steps.refl _) (argsL := [.null]) (rest := []) (lenOf pd_14 rfl) rfl (by exact Nat.le_of_eq rfl) (hb hby d17_25) (fun _ _ => ⟨rfl, e12, (by decide : 0 + 0 ≤ _), (by decide : 0 + 0 ≤ _)⟩)
  dsimp only [Pt.U, Pt.locs, Pt.cells, Pt.slots] at X13 l13 y13 z13 st13 hQ13
  rw [l13, y13, z13] at X13
  obtain ⟨zq2, rfl, hzq2, N13q, e13⟩ := hQ13
  have N13 := Fr.app N6 N13q
  have pre14 : oP p e below (T13.setTop (mkF m 28 #[.val .null, .val (.ref pA), .val (.int 4), .val (.int 1), .val (.ref (pp 1))] [(.int zq2)])) (SS) := fun t kt => by
    refine pre8 _ ?_
    refine XS.ifYes X6.here hx rfl (pc0 := 28) (pc' := 34) rfl (hb hby d17_28) rfl (own_if (own_teq (a := (0 : Int32)) (b := (0 : Int32)) (by decide) (by decide) hc28_9).1) (by decide) (by decide) ?_
    show Steps p.tables e below (T6.setTop (mkF m 34 #[.val .null, .val (.ref pA), .val (.int 4), .val (.int 0), .val (.ref (pp 0))] [])) _
    refine XS.iinc X6.here hx rfl (hb hby d17_34) rfl (l' := #[.val .null, .val (.ref pA), .val (.int 4), .val (.int 1), .val (.ref (pp 0))]) rfl ?_
    refine XS.goto X6.here hx rfl (pc0 := 37) (pc' := 9) rfl (hb hby d17_37) (by decide) (by decide) ?_
    refine XS.iloadN X6.here hx rfl (hb hby d17_9) rfl ?_
    refine XS.iloadN X6.here hx rfl (hb hby d17_10) rfl ?_
    refine XS.icmpNo X6.here hx rfl (hb hby d17_11) rfl (own_tlt (a := (1 : Int32)) (b := (4 : Int32)) (by decide) (by decide) hc11_10).2.1 ?_
    refine XS.aloadN X6.here hx rfl (hb hby d17_14) rfl rfl ?_
    refine XS.iloadN X6.here hx rfl (hb hby d17_15) rfl ?_
    refine X6.aaload hx (j := (1 : Int32)) (v := (.ref (pp 1))) (by rw [e6]; exact Ar11.1) (State.isArrayOf_alike hZ.alike Ar11.2.1) rfl Ar11.2.2 hin11 hat11 (g := (mkF m 16 #[.val .null, .val (.ref pA), .val (.int 4), .val (.int 1), .val (.ref (pp 0))] [(.int 1), (.ref pA)])) rfl rfl (hb hby d17_16) _ ?_
    refine XS.astore X6.here hx rfl (hb hby d17_17) rfl rfl (l' := #[.val .null, .val (.ref pA), .val (.int 4), .val (.int 1), .val (.ref (pp 1))]) rfl ?_
    refine XS.aload X6.here hx rfl (hb hby d17_19) rfl rfl ?_
    refine st12 _ ?_
    refine XS.aloadN X12.here hx rfl (hb hby d17_24) rfl rfl ?_
    refine st13.trans ?_
    exact kt
  subst hzq2
  have pre15 : oP p e below (T13.setTop (mkF m 28 #[.val .null, .val (.ref pA), .val (.int 4), .val (.int 1), .val (.ref (pp 1))] [(.int 0)])) (SS) := pre14
  have hc28_16 : (0 : Int) = (0 : Int) := by decide
  have hc11_17 : (2 : Int) < (4 : Int) := by decide
  obtain ⟨cl18, Ar18, q18, S18, M18, H18, G18⟩ := id Pm.2.2.2.2.2.1
  have hin18 : ¬ ((2 : Int32) < 0 ∨ cl18.slots.size ≤ ((2 : Int32)).toNatClampNeg) := inb_of S18 ⟨by decide, by decide⟩
  have hat18 : cl18.slots[((2 : Int32)).toNatClampNeg]? = some (.ref (pp 2)) := Has.at H18 hin18 rfl
  obtain ⟨T19, X19, e19, st19⟩ := getF X13 hx hZ hown (host := "") (Or.inl (ow hw 82 rfl)) Via.refl e13 Pm.2.2.2.2.2.2.2.2.2.2.2.2.2.2.2.2.2.2.2.1 (g := (mkF m 21 #[.val .null, .val (.ref pA), .val (.int 4), .val (.int 2), .val (.ref (pp 2))] [(.ref (pp 2))])) rfl rfl (hb hby d17_21)
  obtain ⟨cq20, kq20, q20a, q20b, q20c⟩ := isOf hZ e19 Pm.2.2.2.2.2.2.2.2.2.2.2.2.2.2.2.2.2.2.2.2.1
  obtain ⟨_, _, ⟨T20, L20, k20, n20⟩, -, X20, ⟨Lc20, hQ20, l20, y20, z20⟩, st20⟩ := X19.virtualBack hx (y := yn1) (z := yn1) hown (mvT hZ (ow hw 84 rfl)) (mvT hZ (ow hw 85 rfl)) (notFace_of_selects (args := #[]) (mvT hZ (ow hw 87 rfl))) (mvT hZ (ow hw 87 rfl)) (mvT hZ (ow hw 86 rfl)) (by decide) (backOf (W := 0) (rm_qN l Z a0 hw [] (ww 2) h0 n0 Z0 ) hZ (ow hw 88 rfl) (ow hw 1 rfl) (by decide) (by decide)) q20a q20c (g := (mkF m 25 #[.val .null, .val (.ref pA), .val (.int 4), .val (.int 2), .val (.ref (pp 2))] [.null, (.ref (ww 2))])) rfl (by rw [hml]; rfl) (Steps.refl _) (argsL := [.null]) (rest := []) (lenOf pd_14 rfl) rfl (by exact Nat.le_of_eq rfl) (hb hby d17_25) (fun _ _ => ⟨rfl, e19, (by decide : 0 + 0 ≤ _), (by decide : 0 + 0 ≤ _)⟩)
  dsimp only [Pt.U, Pt.locs, Pt.cells, Pt.slots] at X20 l20 y20 z20 st20 hQ20
  rw [l20, y20, z20] at X20
  obtain ⟨zq3, rfl, hzq3, N20q, e20⟩ := hQ20
  have N20 := Fr.app N13 N20q
  have pre21 : oP p e below (T20.setTop (mkF m 28 #[.val .null, .val (.ref pA), .val (.int 4), .val (.int 2), .val (.ref (pp 2))] [(.int zq3)])) (SS) := fun t kt => by
    refine pre15 _ ?_
    refine XS.ifYes X13.here hx rfl (pc0 := 28) (pc' := 34) rfl (hb hby d17_28) rfl (own_if (own_teq (a := (0 : Int32)) (b := (0 : Int32)) (by decide) (by decide) hc28_16).1) (by decide) (by decide) ?_
    refine XS.iinc X13.here hx rfl (hb hby d17_34) rfl (l' := #[.val .null, .val (.ref pA), .val (.int 4), .val (.int 2), .val (.ref (pp 1))]) rfl ?_
    refine XS.goto X13.here hx rfl (pc0 := 37) (pc' := 9) rfl (hb hby d17_37) (by decide) (by decide) ?_
    refine XS.iloadN X13.here hx rfl (hb hby d17_9) rfl ?_
    refine XS.iloadN X13.here hx rfl (hb hby d17_10) rfl ?_
    refine XS.icmpNo X13.here hx rfl (hb hby d17_11) rfl (own_tlt (a := (2 : Int32)) (b := (4 : Int32)) (by decide) (by decide) hc11_17).2.1 ?_
    refine XS.aloadN X13.here hx rfl (hb hby d17_14) rfl rfl ?_
    show Steps p.tables e below (T13.setTop (mkF m 15 #[.val .null, .val (.ref pA), .val (.int 4), .val (.int 2), .val (.ref (pp 1))] [(.ref pA)])) _
    refine XS.iloadN X13.here hx rfl (hb hby d17_15) rfl ?_
    refine X13.aaload hx (j := (2 : Int32)) (v := (.ref (pp 2))) (by rw [e13]; exact Ar18.1) (State.isArrayOf_alike hZ.alike Ar18.2.1) rfl Ar18.2.2 hin18 hat18 (g := (mkF m 16 #[.val .null, .val (.ref pA), .val (.int 4), .val (.int 2), .val (.ref (pp 1))] [(.int 2), (.ref pA)])) rfl rfl (hb hby d17_16) _ ?_
    refine XS.astore X13.here hx rfl (hb hby d17_17) rfl rfl (l' := #[.val .null, .val (.ref pA), .val (.int 4), .val (.int 2), .val (.ref (pp 2))]) rfl ?_
    refine XS.aload X13.here hx rfl (hb hby d17_19) rfl rfl ?_
    refine st19 _ ?_
    refine XS.aloadN X19.here hx rfl (hb hby d17_24) rfl rfl ?_
    refine st20.trans ?_
    exact kt
  subst hzq3
  have pre22 : oP p e below (T20.setTop (mkF m 28 #[.val .null, .val (.ref pA), .val (.int 4), .val (.int 2), .val (.ref (pp 2))] [(.int 0)])) (SS) := pre21
  have hc28_23 : (0 : Int) = (0 : Int) := by decide
  have hc11_24 : (3 : Int) < (4 : Int) := by decide
  obtain ⟨cl25, Ar25, q25, S25, M25, H25, G25⟩ := id Pm.2.2.2.2.2.1
  have hin25 : ¬ ((3 : Int32) < 0 ∨ cl25.slots.size ≤ ((3 : Int32)).toNatClampNeg) := inb_of S25 ⟨by decide, by decide⟩
  have hat25 : cl25.slots[((3 : Int32)).toNatClampNeg]? = some (.ref (pp 3)) := Has.at H25 hin25 rfl
  obtain ⟨T26, X26, e26, st26⟩ := getF X20 hx hZ hown (host := "") (Or.inl (ow hw 82 rfl)) Via.refl e20 Pm.2.2.2.2.2.2.2.2.2.2.2.2.2.2.2.2.2.2.2.2.2.2.2.2.2.1 (g := (mkF m 21 #[.val .null, .val (.ref pA), .val (.int 4), .val (.int 3), .val (.ref (pp 3))] [(.ref (pp 3))])) rfl rfl (hb hby d17_21)
  obtain ⟨cq27, kq27, q27a, q27b, q27c⟩ := isOf hZ e26 Pm.2.2.2.2.2.2.2.2.2.2.2.2.2.2.2.2.2.2.2.2.2.2.2.2.2.2.1
  obtain ⟨_, _, ⟨T27, L27, k27, n27⟩, -, X27, ⟨Lc27, hQ27, l27, y27, z27⟩, st27⟩ := X26.virtualBack hx (y := yn1) (z := yn1) hown (mvT hZ (ow hw 84 rfl)) (mvT hZ (ow hw 85 rfl)) (notFace_of_selects (args := #[]) (mvT hZ (ow hw 87 rfl))) (mvT hZ (ow hw 87 rfl)) (mvT hZ (ow hw 86 rfl)) (by decide) (backOf (W := 0) (rm_qN l Z a0 hw [] (ww 3) h0 n0 Z0 ) hZ (ow hw 88 rfl) (ow hw 1 rfl) (by decide) (by decide)) q27a q27c (g := (mkF m 25 #[.val .null, .val (.ref pA), .val (.int 4), .val (.int 3), .val (.ref (pp 3))] [.null, (.ref (ww 3))])) rfl (by rw [hml]; rfl) (Steps.refl _) (argsL := [.null]) (rest := []) (lenOf pd_14 rfl) rfl (by exact Nat.le_of_eq rfl) (hb hby d17_25) (fun _ _ => ⟨rfl, e26, (by decide : 0 + 0 ≤ _), (by decide : 0 + 0 ≤ _)⟩)
  dsimp only [Pt.U, Pt.locs, Pt.cells, Pt.slots] at X27 l27 y27 z27 st27 hQ27
  rw [l27, y27, z27] at X27
  obtain ⟨zq4, rfl, hzq4, N27q, e27⟩ := hQ27
  have N27 := Fr.app N20 N27q
  have pre28 : oP p e below (T27.setTop (mkF m 28 #[.val .null, .val (.ref pA), .val (.int 4), .val (.int 3), .val (.ref (pp 3))] [(.int zq4)])) (SS) := fun t kt => by
    refine pre22 _ ?_
    refine XS.ifYes X20.here hx rfl (pc0 := 28) (pc' := 34) rfl (hb hby d17_28) rfl (own_if (own_teq (a := (0 : Int32)) (b := (0 : Int32)) (by decide) (by decide) hc28_23).1) (by decide) (by decide) ?_
    refine XS.iinc X20.here hx rfl (hb hby d17_34) rfl (l' := #[.val .null, .val (.ref pA), .val (.int 4), .val (.int 3), .val (.ref (pp 2))]) rfl ?_
    refine XS.goto X20.here hx rfl (pc0 := 37) (pc' := 9) rfl (hb hby d17_37) (by decide) (by decide) ?_
    refine XS.iloadN X20.here hx rfl (hb hby d17_9) rfl ?_
    refine XS.iloadN X20.here hx rfl (hb hby d17_10) rfl ?_
    refine XS.icmpNo X20.here hx rfl (hb hby d17_11) rfl (own_tlt (a := (3 : Int32)) (b := (4 : Int32)) (by decide) (by decide) hc11_24).2.1 ?_
    refine XS.aloadN X20.here hx rfl (hb hby d17_14) rfl rfl ?_
    refine XS.iloadN X20.here hx rfl (hb hby d17_15) rfl ?_
    refine X20.aaload hx (j := (3 : Int32)) (v := (.ref (pp 3))) (by rw [e20]; exact Ar25.1) (State.isArrayOf_alike hZ.alike Ar25.2.1) rfl Ar25.2.2 hin25 hat25 (g := (mkF m 16 #[.val .null, .val (.ref pA), .val (.int 4), .val (.int 3), .val (.ref (pp 2))] [(.int 3), (.ref pA)])) rfl rfl (hb hby d17_16) _ ?_
    refine XS.astore X20.here hx rfl (hb hby d17_17) rfl rfl (l' := #[.val .null, .val (.ref pA), .val (.int 4), .val (.int 3), .val (.ref (pp 3))]) rfl ?_
    refine XS.aload X20.here hx rfl (hb hby d17_19) rfl rfl ?_
    refine st26 _ ?_
    refine XS.aloadN X26.here hx rfl (hb hby d17_24) rfl rfl ?_
    show Steps p.tables e below (T26.setTop (mkF m 25 #[.val .null, .val (.ref pA), .val (.int 4), .val (.int 3), .val (.ref (pp 3))] [.null, (.ref (ww 3))])) _
    refine st27.trans ?_
    exact kt
  subst hzq4
  have pre29 : oP p e below (T27.setTop (mkF m 28 #[.val .null, .val (.ref pA), .val (.int 4), .val (.int 3), .val (.ref (pp 3))] [(.int 0)])) (SS) := pre28
  have hc28_30 : (0 : Int) = (0 : Int) := by decide
  have hc11_31 : ¬ ((4 : Int) < (4 : Int)) := by decide
  subst hSS
  obtain ⟨fs, hr, q1, q2, q3, q4⟩ := X27.leave (v := some .null) (fun h => by rw [Bd.returns] at h; cases h)
  refine ⟨_, _, pre29 _ ?_, q1, q2, _, _, rfl, ?_, ⟨_, rfl⟩, q3, q4.mono (by decide) (by decide)⟩
  · refine XS.ifYes X27.here hx rfl (pc0 := 28) (pc' := 34) rfl (hb hby d17_28) rfl (own_if (own_teq (a := (0 : Int32)) (b := (0 : Int32)) (by decide) (by decide) hc28_30).1) (by decide) (by decide) ?_
    refine XS.iinc X27.here hx rfl (hb hby d17_34) rfl (l' := #[.val .null, .val (.ref pA), .val (.int 4), .val (.int 4), .val (.ref (pp 3))]) rfl ?_
    refine XS.goto X27.here hx rfl (pc0 := 37) (pc' := 9) rfl (hb hby d17_37) (by decide) (by decide) ?_
    refine XS.iloadN X27.here hx rfl (hb hby d17_9) rfl ?_
    refine XS.iloadN X27.here hx rfl (hb hby d17_10) rfl ?_
    refine XS.icmpYes X27.here hx rfl (pc0 := 11) (pc' := 40) rfl (hb hby d17_11) rfl (own_flt (a := (4 : Int32)) (b := (4 : Int32)) (by decide) (by decide) hc11_31).2.1 (by decide) (by decide) ?_
    refine XS.aconstNull X27.here hx rfl (hb hby d17_40) ?_
    jvm_step X27.here [X27.here.top, hx, (hb hby d17_41), X27.method', Bd.returns, Value.isRef, FieldType.isReference]
    first | (intro acts; rw [hr _ acts rfl rfl rfl]) | rw [hr _ _ rfl rfl rfl]
    exact Steps.refl _
  · show Q_namedN Z _ _ _ _ _ _ _ _ h0 n0 _ T27.heap _
    rw [e27]
    exact ⟨rfl, N27, rfl⟩
theorem ef_rm0 (m : MethodId) (x0 : Int32) (x1 : Int32) (x2 : Int32) (x3 : Int32) (x4 : Int32) : entryFrame m #[(.int x0), (.int x1), (.int x2), (.int x3), (.int x4)] maxLocals = mkF m 0 #[.val (.int x0), .val (.int x1), .val (.int x2), .val (.int x3), .val (.int x4), .unset, .unset, .unset, .unset, .unset, .unset, .unset, .unset, .unset, .unset, .unset, .unset, .unset, .unset, .unset] [] := by first | (simp [entryFrame, mkF, argsToLocals, Value.category, maxLocals]; done) | rfl
theorem pd_15 : parseMethodDescriptor "(Ljava/lang/String;IIIZI)C" = some ⟨[(.object "java/lang/String"), .int, .int, .int, .boolean, .int], some .char⟩ := by decide +kernel
theorem pd_16 : parseMethodDescriptor "(ICCCCCCC)Ljava/lang/String;" = some ⟨[.int, .char, .char, .char, .char, .char, .char, .char], some (.object "java/lang/String")⟩ := by decide +kernel
theorem pd_17 : parseMethodDescriptor "(Ljava/lang/String;)Lcom/example/attestbridge/attestbridge/sync/Permission;" = some ⟨[(.object "java/lang/String")], some (.object "com/example/attestbridge/attestbridge/sync/Permission")⟩ := by decide +kernel
def Q0 (Z : State) (ww_ : Int32) (wl : Int32) (wa : Int32) (wb : Int32) (wm : Int32) (vcs : Int32) (vf : Value) (pA : Addr) (kA : ClassId) (pp : Nat → Addr) (ww : Nat → Addr) (bb : Nat → Addr) (kk : Nat → ClassId) (h0 : Heap) (n0 : Nat) (v : Option Value) (h : Heap) (L : List Loc) : Prop := v = some (.int 1) ∧ Fr n0 L
theorem rm0 (l : Launch) (Z : State) (a0 : Array Value) (hw : ∀ d ∈ tables_1, d.before a0 Z = true) (ws : List Jvm.Cond) (ww_ : Int32) (wl : Int32) (wa : Int32) (wb : Int32) (wm : Int32) (vcs : Int32) (vf : Value) (pA : Addr) (kA : ClassId) (pp : Nat → Addr) (ww : Nat → Addr) (bb : Nat → Addr) (kk : Nat → ClassId) (h0 : Heap) (n0 : Nat) (Z0 : n0 ≤ h0.size) (Os : own_st Z h0 vcs vf) (Pm : own_pm Z h0 pA kA pp ww bb kk) :
    MetFree l x (head1 (Jvm.Cond.code x code maxLocals ret :: ws) room_1) (fun a U => a = #[(.int ww_), (.int wl), (.int wa), (.int wb), (.int wm)] ∧ Z.Warmed39 U.vm ∧ U.heap = h0 ∧ CHv Z own_EL U.vm h0) (fun _ _ _ _ _ => True) (fun _ U o U' => ∃ v L, o = .returned v ∧ Q0 Z ww_ wl wa wb wm vcs vf pA kA pp ww bb kk h0 n0 v U'.heap L ∧ CHr Z own_EL U.vm U.heap U'.vm U'.heap ∧ ReturnedEndW U o U' L room_1.cells room_1.slots) := by
  refine MetFree.of_bodySF (plainFor_of_name pn_3) hisR ?_
  intro p e s m args below meth c s₁ Bd hml0 hP hK
  obtain ⟨rfl, hZ, hh, hC⟩ := hP
  have hx := Bd.exec
  have hby := Bd.bytes
  have hml : c.maxLocals = 20 := hml0
  have hown : s.vm.findClass "com/example/attestbridge/attestbridge/sync/PermissionNamedPinLaw" = some m.cls := findClass_of_methodNamed Bd.named
  have hnm := (name_of_methodNamed Bd.named Bd.method).1
  have X0 : Stand p l e room_1 (s.setVm s.vm) m #[(.int ww_), (.int wl), (.int wa), (.int wb), (.int wm)] below meth c s₁ [] 0 0 := Stand.of_body Bd
  have e0 : s₁.heap = h0 := by rw [← hh, Bd.state]; rfl
  have N0 := Fr.nil n0
  have hEL := own_EW hw
  have wS := own_wS hw
  have CR0 : CHr Z own_EL s.vm h0 s.vm h0 := CHr.refl hC
  have hS0 : s.Since s.vm h0.size := (State.WarmedH.refl s).since _
  have hk0 : h0.size ≤ h0.size := Nat.le_refl _
  obtain ⟨SS, hSS⟩ : ∃ S, S = s₁.setTop (entryFrame m #[(.int ww_), (.int wl), (.int wa), (.int wb), (.int wm)] maxLocals) := ⟨_, rfl⟩
  have pre0 : oP p e below (s₁.setTop (mkF m 0 #[.val (.int ww_), .val (.int wl), .val (.int wa), .val (.int wb), .val (.int wm), .unset, .unset, .unset, .unset, .unset, .unset, .unset, .unset, .unset, .unset, .unset, .unset, .unset, .unset, .unset] [])) (SS) := by
    rw [hSS]; exact fun t k => castTop (ef_rm0 m ww_ wl wa wb wm) k
  have pre1 : oP p e below (s₁.setTop (mkF m 3 #[.val (.int ww_), .val (.int wl), .val (.int wa), .val (.int wb), .val (.int wm), .unset, .unset, .unset, .unset, .unset, .unset, .unset, .unset, .unset, .unset, .unset, .unset, .unset, .unset, .unset] [(.int (ww_ &&& (3 : Int32)))])) (SS) := fun t kt => by
    refine pre0 _ ?_
    refine XS.iloadN X0.here hx rfl (hb hby at_0) rfl ?_
    refine XS.iconst X0.here hx rfl (hb hby at_1) ?_
    refine XS.iand X0.here hx rfl (hb hby at_2) rfl ?_
    exact kt
  obtain ⟨vk, hvk⟩ : ∃ z : Int32, z = (ww_ &&& (3 : Int32)) := ⟨_, rfl⟩
  have jvk : 0 ≤ vk.toInt ∧ vk.toInt ≤ 3 := by rw [hvk]; have := rng32 ww_; have : ((ww_ &&& (3 : Int32))).toInt = ww_.toInt % 4 := c_mask ww_ (3 : Int32) 2 (by decide) (by decide); omega
  have pre2 : oP p e below (s₁.setTop (mkF m 3 #[.val (.int ww_), .val (.int wl), .val (.int wa), .val (.int wb), .val (.int wm), .unset, .unset, .unset, .unset, .unset, .unset, .unset, .unset, .unset, .unset, .unset, .unset, .unset, .unset, .unset] [(.int vk)])) (SS) := by rw [hvk]; exact pre1
  have pre3 : oP p e below (s₁.setTop (mkF m 5 #[.val (.int ww_), .val (.int wl), .val (.int wa), .val (.int wb), .val (.int wm), .val (.int vk), .unset, .unset, .unset, .unset, .unset, .unset, .unset, .unset, .unset, .unset, .unset, .unset, .unset, .unset] [])) (SS) := fun t kt => by
    refine pre2 _ ?_
    refine XS.istore X0.here hx rfl (hb hby at_3) rfl (l' := #[.val (.int ww_), .val (.int wl), .val (.int wa), .val (.int wb), .val (.int wm), .val (.int vk), .unset, .unset, .unset, .unset, .unset, .unset, .unset, .unset, .unset, .unset, .unset, .unset, .unset, .unset]) rfl ?_
    exact kt
  obtain ⟨la, Tb, hb_, k1b, lb, kbb, zb, vb, Xb, eb, Eb, hSb, hkb, hZ, hown, Ab, Fcb, Fvb, Vb_, CRb, zb1, zb2, preb⟩ : ∃ (a : Addr) (T1 : State) (h1 : Heap) (k1 : Nat) (b : Addr) (k : ClassId) (zb : Int32) (vb : List Value), Stand p l e room_1 (s.setVm T1.vm) m #[(.int ww_), (.int wl), (.int wa), (.int wb), (.int wm)] below meth c T1 [] 2 28 ∧ T1.heap = h1 ∧ Ext h0 h1 ∧ s.Since T1.vm k1 ∧ k1 ≤ h1.size ∧ Z.Warmed39 (s.setVm T1.vm).vm ∧ (s.setVm T1.vm).vm.findClass "com/example/attestbridge/attestbridge/sync/PermissionNamedPinLaw" = some m.cls ∧ Exa Z h1 a "java/lang/String" ∧ Fld Z h1 a "java/lang/String" "coder" "B" (.int 0) ∧ Fld Z h1 a "java/lang/String" "value" "[B" (.ref b) ∧ Arv Z h1 b k .byte zb vb (.int 0) ∧ CHr Z own_EL s.vm h0 T1.vm h1 ∧ 4 ≤ zb.toInt ∧ zb.toInt ≤ 6 ∧ ∀ t, Steps p.tables e below (T1.setTop (mkF m 39 #[.val (.int ww_), .val (.int wl), .val (.int wa), .val (.int wb), .val (.int wm), .val (.int vk), .unset, .unset, .unset, .unset, .unset, .unset, .unset, .unset, .unset, .unset, .unset, .unset, .unset, .unset] [(.ref a)])) t → Steps p.tables e below (SS) t := by
    have pre5 : oP p e below (s₁.setTop (mkF m 7 #[.val (.int ww_), .val (.int wl), .val (.int wa), .val (.int wb), .val (.int wm), .val (.int vk), .unset, .unset, .unset, .unset, .unset, .unset, .unset, .unset, .unset, .unset, .unset, .unset, .unset, .unset] [(.int vk)])) (SS) := fun t kt => by
      refine pre3 _ ?_
      refine XS.iload X0.here hx rfl (hb hby at_5) rfl ?_
      exact kt
    by_cases hc7_4 : vk.toInt = (0 : Int)
    · have pre6 : oP p e below (s₁.setTop (mkF m 10 #[.val (.int ww_), .val (.int wl), .val (.int wa), .val (.int wb), .val (.int wm), .val (.int vk), .unset, .unset, .unset, .unset, .unset, .unset, .unset, .unset, .unset, .unset, .unset, .unset, .unset, .unset] [])) (SS) := fun t kt => by
        refine pre5 _ ?_
        refine XS.ifNo X0.here hx rfl (hb hby at_7) rfl (own_if (own_teq (a := vk) (b := (0 : Int32)) rfl (by decide) hc7_4).2) ?_
        exact kt
      obtain ⟨la7, T7, h7, k17, lb7, kb7, X7, e7, E7, hS7, hk7, hZ, hown, A7, Fc7, Fv7, V7, lt7, lu7, CRn7, Lt7, Sf7, st7⟩ := ldcCH X0 hx hZ hown (text := "create") (ow hw 0 rfl) wS e0 hS0 hk0 hEL (List.mem_of_getElem? (i := 0) rfl) CR0.1 (vs := [(.int 99), (.int 114), (.int 101), (.int 97), (.int 116), (.int 101)]) (z := (6 : Int32)) ⟨by decide, by rfl⟩ (by decide) rfl (g := (mkF m 10 #[.val (.int ww_), .val (.int wl), .val (.int wa), .val (.int wb), .val (.int wm), .val (.int vk), .unset, .unset, .unset, .unset, .unset, .unset, .unset, .unset, .unset, .unset, .unset, .unset, .unset, .unset] [])) rfl (hb hby at_10) (n := 24) (by decide) (by decide) (by decide) (by decide)
      have CR8 := CR0.trans CRn7
      have Zs9 : n0 ≤ h7.size := Nat.le_trans Z0 E7.1
      have pre10 : oP p e below (T7.setTop (mkF m 39 #[.val (.int ww_), .val (.int wl), .val (.int wa), .val (.int wb), .val (.int wm), .val (.int vk), .unset, .unset, .unset, .unset, .unset, .unset, .unset, .unset, .unset, .unset, .unset, .unset, .unset, .unset] [(.ref la7)])) (SS) := fun t kt => by
        refine pre6 _ ?_
        refine st7 _ ?_
        refine XS.goto X7.here hx rfl (pc0 := 12) (pc' := 39) rfl (hb hby at_12) (by decide) (by decide) ?_
        exact kt
      exact ⟨la7, T7, h7, _, lb7, _, _, _, X7, e7, E7, hS7, hk7, hZ, hown, A7, Fc7, Fv7, V7, CR8, by decide, by decide, pre10⟩
    · have pre12 : oP p e below (s₁.setTop (mkF m 18 #[.val (.int ww_), .val (.int wl), .val (.int wa), .val (.int wb), .val (.int wm), .val (.int vk), .unset, .unset, .unset, .unset, .unset, .unset, .unset, .unset, .unset, .unset, .unset, .unset, .unset, .unset] [(.int 1), (.int vk)])) (SS) := fun t kt => by
        refine pre5 _ ?_
        refine XS.ifYes X0.here hx rfl (pc0 := 7) (pc' := 15) rfl (hb hby at_7) rfl (own_if (own_feq (a := vk) (b := (0 : Int32)) rfl (by decide) hc7_4).2) (by decide) (by decide) ?_
        refine XS.iload X0.here hx rfl (hb hby at_15) rfl ?_
        refine XS.iconst X0.here hx rfl (hb hby at_17) ?_
        exact kt
      by_cases hc18_11 : vk.toInt = (1 : Int)
      · have pre13 : oP p e below (s₁.setTop (mkF m 21 #[.val (.int ww_), .val (.int wl), .val (.int wa), .val (.int wb), .val (.int wm), .val (.int vk), .unset, .unset, .unset, .unset, .unset, .unset, .unset, .unset, .unset, .unset, .unset, .unset, .unset, .unset] [])) (SS) := fun t kt => by
          refine pre12 _ ?_
          refine XS.icmpNo X0.here hx rfl (hb hby at_18) rfl (own_teq (a := vk) (b := (1 : Int32)) rfl (by decide) hc18_11).2 ?_
          exact kt
        obtain ⟨la14, T14, h14, k114, lb14, kb14, X14, e14, E14, hS14, hk14, hZ, hown, A14, Fc14, Fv14, V14, lt14, lu14, CRn14, Lt14, Sf14, st14⟩ := ldcCH X0 hx hZ hown (text := "read") (ow hw 98 rfl) wS e0 hS0 hk0 hEL (List.mem_of_getElem? (i := 1) rfl) CR0.1 (vs := [(.int 114), (.int 101), (.int 97), (.int 100)]) (z := (4 : Int32)) ⟨by decide, by rfl⟩ (by decide) rfl (g := (mkF m 21 #[.val (.int ww_), .val (.int wl), .val (.int wa), .val (.int wb), .val (.int wm), .val (.int vk), .unset, .unset, .unset, .unset, .unset, .unset, .unset, .unset, .unset, .unset, .unset, .unset, .unset, .unset] [])) rfl (hb hby at_21) (n := 24) (by decide) (by decide) (by decide) (by decide)
        have CR15 := CR0.trans CRn14
        have Zs16 : n0 ≤ h14.size := Nat.le_trans Z0 E14.1
        have pre17 : oP p e below (T14.setTop (mkF m 39 #[.val (.int ww_), .val (.int wl), .val (.int wa), .val (.int wb), .val (.int wm), .val (.int vk), .unset, .unset, .unset, .unset, .unset, .unset, .unset, .unset, .unset, .unset, .unset, .unset, .unset, .unset] [(.ref la14)])) (SS) := fun t kt => by
          refine pre13 _ ?_
          refine st14 _ ?_
          refine XS.goto X14.here hx rfl (pc0 := 23) (pc' := 39) rfl (hb hby at_23) (by decide) (by decide) ?_
          exact kt
        exact ⟨la14, T14, h14, _, lb14, _, _, _, X14, e14, E14, hS14, hk14, hZ, hown, A14, Fc14, Fv14, V14, CR15, by decide, by decide, pre17⟩
      · have pre19 : oP p e below (s₁.setTop (mkF m 29 #[.val (.int ww_), .val (.int wl), .val (.int wa), .val (.int wb), .val (.int wm), .val (.int vk), .unset, .unset, .unset, .unset, .unset, .unset, .unset, .unset, .unset, .unset, .unset, .unset, .unset, .unset] [(.int 2), (.int vk)])) (SS) := fun t kt => by
          refine pre12 _ ?_
          refine XS.icmpYes X0.here hx rfl (pc0 := 18) (pc' := 26) rfl (hb hby at_18) rfl (own_feq (a := vk) (b := (1 : Int32)) rfl (by decide) hc18_11).2 (by decide) (by decide) ?_
          refine XS.iload X0.here hx rfl (hb hby at_26) rfl ?_
          refine XS.iconst X0.here hx rfl (hb hby at_28) ?_
          exact kt
        by_cases hc29_18 : vk.toInt = (2 : Int)
        · have pre20 : oP p e below (s₁.setTop (mkF m 32 #[.val (.int ww_), .val (.int wl), .val (.int wa), .val (.int wb), .val (.int wm), .val (.int vk), .unset, .unset, .unset, .unset, .unset, .unset, .unset, .unset, .unset, .unset, .unset, .unset, .unset, .unset] [])) (SS) := fun t kt => by
            refine pre19 _ ?_
            refine XS.icmpNo X0.here hx rfl (hb hby at_29) rfl (own_teq (a := vk) (b := (2 : Int32)) rfl (by decide) hc29_18).2 ?_
            exact kt
          obtain ⟨la21, T21, h21, k121, lb21, kb21, X21, e21, E21, hS21, hk21, hZ, hown, A21, Fc21, Fv21, V21, lt21, lu21, CRn21, Lt21, Sf21, st21⟩ := ldcCH X0 hx hZ hown (text := "update") (ow hw 99 rfl) wS e0 hS0 hk0 hEL (List.mem_of_getElem? (i := 2) rfl) CR0.1 (vs := [(.int 117), (.int 112), (.int 100), (.int 97), (.int 116), (.int 101)]) (z := (6 : Int32)) ⟨by decide, by rfl⟩ (by decide) rfl (g := (mkF m 32 #[.val (.int ww_), .val (.int wl), .val (.int wa), .val (.int wb), .val (.int wm), .val (.int vk), .unset, .unset, .unset, .unset, .unset, .unset, .unset, .unset, .unset, .unset, .unset, .unset, .unset, .unset] [])) rfl (hb hby at_32) (n := 24) (by decide) (by decide) (by decide) (by decide)
          have CR22 := CR0.trans CRn21
          have Zs23 : n0 ≤ h21.size := Nat.le_trans Z0 E21.1
          have pre24 : oP p e below (T21.setTop (mkF m 39 #[.val (.int ww_), .val (.int wl), .val (.int wa), .val (.int wb), .val (.int wm), .val (.int vk), .unset, .unset, .unset, .unset, .unset, .unset, .unset, .unset, .unset, .unset, .unset, .unset, .unset, .unset] [(.ref la21)])) (SS) := fun t kt => by
            refine pre20 _ ?_
            refine st21 _ ?_
            refine XS.goto X21.here hx rfl (pc0 := 34) (pc' := 39) rfl (hb hby at_34) (by decide) (by decide) ?_
            exact kt
          exact ⟨la21, T21, h21, _, lb21, _, _, _, X21, e21, E21, hS21, hk21, hZ, hown, A21, Fc21, Fv21, V21, CR22, by decide, by decide, pre24⟩
        · have pre25 : oP p e below (s₁.setTop (mkF m 37 #[.val (.int ww_), .val (.int wl), .val (.int wa), .val (.int wb), .val (.int wm), .val (.int vk), .unset, .unset, .unset, .unset, .unset, .unset, .unset, .unset, .unset, .unset, .unset, .unset, .unset, .unset] [])) (SS) := fun t kt => by
            refine pre19 _ ?_
            refine XS.icmpYes X0.here hx rfl (pc0 := 29) (pc' := 37) rfl (hb hby at_29) rfl (own_feq (a := vk) (b := (2 : Int32)) rfl (by decide) hc29_18).2 (by decide) (by decide) ?_
            exact kt
          obtain ⟨la26, T26, h26, k126, lb26, kb26, X26, e26, E26, hS26, hk26, hZ, hown, A26, Fc26, Fv26, V26, lt26, lu26, CRn26, Lt26, Sf26, st26⟩ := ldcCH X0 hx hZ hown (text := "delete") (ow hw 92 rfl) wS e0 hS0 hk0 hEL (List.mem_of_getElem? (i := 3) rfl) CR0.1 (vs := [(.int 100), (.int 101), (.int 108), (.int 101), (.int 116), (.int 101)]) (z := (6 : Int32)) ⟨by decide, by rfl⟩ (by decide) rfl (g := (mkF m 37 #[.val (.int ww_), .val (.int wl), .val (.int wa), .val (.int wb), .val (.int wm), .val (.int vk), .unset, .unset, .unset, .unset, .unset, .unset, .unset, .unset, .unset, .unset, .unset, .unset, .unset, .unset] [])) rfl (hb hby at_37) (n := 24) (by decide) (by decide) (by decide) (by decide)
          have CR27 := CR0.trans CRn26
          have Zs28 : n0 ≤ h26.size := Nat.le_trans Z0 E26.1
          have pre29 : oP p e below (T26.setTop (mkF m 39 #[.val (.int ww_), .val (.int wl), .val (.int wa), .val (.int wb), .val (.int wm), .val (.int vk), .unset, .unset, .unset, .unset, .unset, .unset, .unset, .unset, .unset, .unset, .unset, .unset, .unset, .unset] [(.ref la26)])) (SS) := fun t kt => by
            refine pre25 _ ?_
            refine st26 _ ?_
            exact kt
          exact ⟨la26, T26, h26, _, lb26, _, _, _, X26, e26, E26, hS26, hk26, hZ, hown, A26, Fc26, Fv26, V26, CR27, by decide, by decide, pre29⟩
  have Zsb : n0 ≤ hb_.size := Nat.le_trans Z0 Eb.1
  have pre30 : oP p e below (Tb.setTop (mkF m 43 #[.val (.int ww_), .val (.int wl), .val (.int wa), .val (.int wb), .val (.int wm), .val (.int vk), .val (.ref la), .unset, .unset, .unset, .unset, .unset, .unset, .unset, .unset, .unset, .unset, .unset, .unset, .unset] [(.ref la)])) (SS) := fun t kt => by
    refine preb _ ?_
    refine XS.astore Xb.here hx rfl (hb hby at_39) rfl rfl (l' := #[.val (.int ww_), .val (.int wl), .val (.int wa), .val (.int wb), .val (.int wm), .val (.int vk), .val (.ref la), .unset, .unset, .unset, .unset, .unset, .unset, .unset, .unset, .unset, .unset, .unset, .unset, .unset]) rfl ?_
    refine XS.aload Xb.here hx rfl (hb hby at_41) rfl rfl ?_
    exact kt
  have os31 := (own_st_ext Os Eb)
  obtain ⟨cq32, kq32, q32a, q32b, q32c⟩ := isOf hZ eb Ab
  obtain ⟨_, _, ⟨T32, L32, k32, n32⟩, -, X32, ⟨Lc32, hQ32, l32, y32, z32⟩, st32⟩ := Xb.virtualBack hx (y := yn3) (z := yn3) hown (mvT hZ (ow hw 8 rfl)) (mvT hZ (ow hw 9 rfl)) (notFace_of_selects (args := #[]) (mvT hZ (ow hw 11 rfl))) (mvT hZ (ow hw 11 rfl)) (mvT hZ (ow hw 10 rfl)) (by decide) (backOf (W := 0) (rm_lg l Z a0 hw [] la vcs vf lb kbb zb vb hb_ n0 Zsb os31 Ab Fcb Fvb Vb_) hZ (ow hw 12 rfl) (ow hw 1 rfl) (by decide) (by decide)) q32a q32c (g := (mkF m 43 #[.val (.int ww_), .val (.int wl), .val (.int wa), .val (.int wb), .val (.int wm), .val (.int vk), .val (.ref la), .unset, .unset, .unset, .unset, .unset, .unset, .unset, .unset, .unset, .unset, .unset, .unset, .unset] [(.ref la)])) rfl (by rw [hml]; rfl) (Steps.refl _) (argsL := []) (rest := []) (lenOf pd_6 rfl) rfl (by exact Nat.le_of_eq rfl) (hb hby at_43) (fun _ _ => ⟨rfl, eb, (by decide : 2 + 0 ≤ _), (by decide : 28 + 0 ≤ _)⟩)
  dsimp only [Pt.U, Pt.locs, Pt.cells, Pt.slots] at X32 l32 y32 z32 st32 hQ32
  rw [l32, y32, z32] at X32
  obtain ⟨bl, rfl, hbl, N32q, e32⟩ := hQ32
  have N32 := Fr.app N0 N32q
  have pre33 : oP p e below (T32.setTop (mkF m 48 #[.val (.int ww_), .val (.int wl), .val (.int wa), .val (.int wb), .val (.int wm), .val (.int vk), .val (.ref la), .val (.int bl), .unset, .unset, .unset, .unset, .unset, .unset, .unset, .unset, .unset, .unset, .unset, .unset] [])) (SS) := fun t kt => by
    refine pre30 _ ?_
    refine st32.trans ?_
    refine XS.istore X32.here hx rfl (hb hby at_46) rfl (l' := #[.val (.int ww_), .val (.int wl), .val (.int wa), .val (.int wb), .val (.int wm), .val (.int vk), .val (.ref la), .val (.int bl), .unset, .unset, .unset, .unset, .unset, .unset, .unset, .unset, .unset, .unset, .unset, .unset]) rfl ?_
    exact kt
  obtain ⟨vn, hvn, pre38⟩ : ∃ vn : Int32, (0 ≤ vn.toInt ∧ vn.toInt ≤ 7) ∧ ∀ t, Steps p.tables e below (T32.setTop (mkF m 64 #[.val (.int ww_), .val (.int wl), .val (.int wa), .val (.int wb), .val (.int wm), .val (.int vk), .val (.ref la), .val (.int bl), .unset, .unset, .unset, .unset, .unset, .unset, .unset, .unset, .unset, .unset, .unset, .unset] [(.int vn)])) t → Steps p.tables e below (SS) t := by
    have pre35 : oP p e below (T32.setTop (mkF m 52 #[.val (.int ww_), .val (.int wl), .val (.int wa), .val (.int wb), .val (.int wm), .val (.int vk), .val (.ref la), .val (.int bl), .unset, .unset, .unset, .unset, .unset, .unset, .unset, .unset, .unset, .unset, .unset, .unset] [(.int (wl &&& (8 : Int32)))])) (SS) := fun t kt => by
      refine pre33 _ ?_
      refine XS.iloadN X32.here hx rfl (hb hby at_48) rfl ?_
      refine XS.bipush X32.here hx rfl (hb hby at_49) ?_
      refine XS.iand X32.here hx rfl (hb hby at_51) rfl ?_
      exact kt
    by_cases hc52_34 : (wl &&& (8 : Int32)).toInt = (0 : Int)
    · have pre36 : oP p e below (T32.setTop (mkF m 64 #[.val (.int ww_), .val (.int wl), .val (.int wa), .val (.int wb), .val (.int wm), .val (.int vk), .val (.ref la), .val (.int bl), .unset, .unset, .unset, .unset, .unset, .unset, .unset, .unset, .unset, .unset, .unset, .unset] [(.int bl)])) (SS) := fun t kt => by
        refine pre35 _ ?_
        refine XS.ifNo X32.here hx rfl (hb hby at_52) rfl (own_if (own_teq (a := (wl &&& (8 : Int32))) (b := (0 : Int32)) rfl (by decide) hc52_34).2) ?_
        refine XS.iload X32.here hx rfl (hb hby at_55) rfl ?_
        refine XS.goto X32.here hx rfl (pc0 := 57) (pc' := 64) rfl (hb hby at_57) (by decide) (by decide) ?_
        exact kt
      exact ⟨bl, by have := rng32 bl; omega, pre36⟩
    · have pre37 : oP p e below (T32.setTop (mkF m 64 #[.val (.int ww_), .val (.int wl), .val (.int wa), .val (.int wb), .val (.int wm), .val (.int vk), .val (.ref la), .val (.int bl), .unset, .unset, .unset, .unset, .unset, .unset, .unset, .unset, .unset, .unset, .unset, .unset] [(.int (wl &&& (7 : Int32)))])) (SS) := fun t kt => by
        refine pre35 _ ?_
        refine XS.ifYes X32.here hx rfl (pc0 := 52) (pc' := 60) rfl (hb hby at_52) rfl (own_if (own_feq (a := (wl &&& (8 : Int32))) (b := (0 : Int32)) rfl (by decide) hc52_34).2) (by decide) (by decide) ?_
        refine XS.iloadN X32.here hx rfl (hb hby at_60) rfl ?_
        refine XS.bipush X32.here hx rfl (hb hby at_61) ?_
        refine XS.iand X32.here hx rfl (hb hby at_63) rfl ?_
        exact kt
      exact ⟨(wl &&& (7 : Int32)), by have := rng32 wl; have : ((wl &&& (7 : Int32))).toInt = wl.toInt % 8 := c_mask wl (7 : Int32) 3 (by decide) (by decide); omega, pre37⟩
  have pre39 : oP p e below (T32.setTop (mkF m 66 #[.val (.int ww_), .val (.int wl), .val (.int wa), .val (.int wb), .val (.int wm), .val (.int vk), .val (.ref la), .val (.int bl), .val (.int vn), .unset, .unset, .unset, .unset, .unset, .unset, .unset, .unset, .unset, .unset, .unset] [])) (SS) := fun t kt => by
    refine pre38 _ ?_
    refine XS.istore X32.here hx rfl (hb hby at_64) rfl (l' := #[.val (.int ww_), .val (.int wl), .val (.int wa), .val (.int wb), .val (.int wm), .val (.int vk), .val (.ref la), .val (.int bl), .val (.int vn), .unset, .unset, .unset, .unset, .unset, .unset, .unset, .unset, .unset, .unset, .unset]) rfl ?_
    exact kt
  obtain ⟨vmu, hvmu, pre44⟩ : ∃ vmu : Int32, (True) ∧ ∀ t, Steps p.tables e below (T32.setTop (mkF m 78 #[.val (.int ww_), .val (.int wl), .val (.int wa), .val (.int wb), .val (.int wm), .val (.int vk), .val (.ref la), .val (.int bl), .val (.int vn), .unset, .unset, .unset, .unset, .unset, .unset, .unset, .unset, .unset, .unset, .unset] [(.int vmu)])) t → Steps p.tables e below (SS) t := by
    have pre41 : oP p e below (T32.setTop (mkF m 70 #[.val (.int ww_), .val (.int wl), .val (.int wa), .val (.int wb), .val (.int wm), .val (.int vk), .val (.ref la), .val (.int bl), .val (.int vn), .unset, .unset, .unset, .unset, .unset, .unset, .unset, .unset, .unset, .unset, .unset] [(.int (wm &&& (1 : Int32)))])) (SS) := fun t kt => by
      refine pre39 _ ?_
      refine XS.iload X32.here hx rfl (hb hby at_66) rfl ?_
      refine XS.iconst X32.here hx rfl (hb hby at_68) ?_
      refine XS.iand X32.here hx rfl (hb hby at_69) rfl ?_
      exact kt
    by_cases hc70_40 : (wm &&& (1 : Int32)).toInt = (0 : Int)
    · have pre42 : oP p e below (T32.setTop (mkF m 78 #[.val (.int ww_), .val (.int wl), .val (.int wa), .val (.int wb), .val (.int wm), .val (.int vk), .val (.ref la), .val (.int bl), .val (.int vn), .unset, .unset, .unset, .unset, .unset, .unset, .unset, .unset, .unset, .unset, .unset] [(.int 0)])) (SS) := fun t kt => by
        refine pre41 _ ?_
        refine XS.ifYes X32.here hx rfl (pc0 := 70) (pc' := 77) rfl (hb hby at_70) rfl (own_if (own_teq (a := (wm &&& (1 : Int32))) (b := (0 : Int32)) rfl (by decide) hc70_40).1) (by decide) (by decide) ?_
        refine XS.iconst X32.here hx rfl (hb hby at_77) ?_
        exact kt
      exact ⟨(0 : Int32), by trivial, pre42⟩
    · have pre43 : oP p e below (T32.setTop (mkF m 78 #[.val (.int ww_), .val (.int wl), .val (.int wa), .val (.int wb), .val (.int wm), .val (.int vk), .val (.ref la), .val (.int bl), .val (.int vn), .unset, .unset, .unset, .unset, .unset, .unset, .unset, .unset, .unset, .unset, .unset] [(.int 1)])) (SS) := fun t kt => by
        refine pre41 _ ?_
        refine XS.ifNo X32.here hx rfl (hb hby at_70) rfl (own_if (own_feq (a := (wm &&& (1 : Int32))) (b := (0 : Int32)) rfl (by decide) hc70_40).1) ?_
        refine XS.iconst X32.here hx rfl (hb hby at_73) ?_
        refine XS.goto X32.here hx rfl (pc0 := 74) (pc' := 78) rfl (hb hby at_74) (by decide) (by decide) ?_
        exact kt
      exact ⟨(1 : Int32), by trivial, pre43⟩
  have pre45 : oP p e below (T32.setTop (mkF m 87 #[.val (.int ww_), .val (.int wl), .val (.int wa), .val (.int wb), .val (.int wm), .val (.int vk), .val (.ref la), .val (.int bl), .val (.int vn), .val (.int vmu), .unset, .unset, .unset, .unset, .unset, .unset, .unset, .unset, .unset, .unset] [(.int (((wm.toUInt32 >>> ((1 : Int32) &&& 31).toUInt32).toInt32) &&& (7 : Int32)))])) (SS) := fun t kt => by
    refine pre44 _ ?_
    refine XS.istore X32.here hx rfl (hb hby at_78) rfl (l' := #[.val (.int ww_), .val (.int wl), .val (.int wa), .val (.int wb), .val (.int wm), .val (.int vk), .val (.ref la), .val (.int bl), .val (.int vn), .val (.int vmu), .unset, .unset, .unset, .unset, .unset, .unset, .unset, .unset, .unset, .unset]) rfl ?_
    refine XS.iload X32.here hx rfl (hb hby at_80) rfl ?_
    refine XS.iconst X32.here hx rfl (hb hby at_82) ?_
    refine XS.iushr X32.here hx rfl (hb hby at_83) rfl ?_
    refine XS.bipush X32.here hx rfl (hb hby at_84) ?_
    refine XS.iand X32.here hx rfl (hb hby at_86) rfl ?_
    exact kt
  obtain ⟨vp, hvp⟩ : ∃ z : Int32, z = (((wm.toUInt32 >>> ((1 : Int32) &&& 31).toUInt32).toInt32) &&& (7 : Int32)) := ⟨_, rfl⟩
  have pre46 : oP p e below (T32.setTop (mkF m 87 #[.val (.int ww_), .val (.int wl), .val (.int wa), .val (.int wb), .val (.int wm), .val (.int vk), .val (.ref la), .val (.int bl), .val (.int vn), .val (.int vmu), .unset, .unset, .unset, .unset, .unset, .unset, .unset, .unset, .unset, .unset] [(.int vp)])) (SS) := by rw [hvp]; exact pre45
  have pre47 : oP p e below (T32.setTop (mkF m 98 #[.val (.int ww_), .val (.int wl), .val (.int wa), .val (.int wb), .val (.int wm), .val (.int vk), .val (.ref la), .val (.int bl), .val (.int vn), .val (.int vmu), .val (.int vp), .unset, .unset, .unset, .unset, .unset, .unset, .unset, .unset, .unset] [(.int vp), (.int vmu), (.int wb), (.int wa), (.int 0), (.ref la)])) (SS) := fun t kt => by
    refine pre46 _ ?_
    refine XS.istore X32.here hx rfl (hb hby at_87) rfl (l' := #[.val (.int ww_), .val (.int wl), .val (.int wa), .val (.int wb), .val (.int wm), .val (.int vk), .val (.ref la), .val (.int bl), .val (.int vn), .val (.int vmu), .val (.int vp), .unset, .unset, .unset, .unset, .unset, .unset, .unset, .unset, .unset]) rfl ?_
    refine XS.aload X32.here hx rfl (hb hby at_89) rfl rfl ?_
    refine XS.iconst X32.here hx rfl (hb hby at_91) ?_
    refine XS.iloadN X32.here hx rfl (hb hby at_92) rfl ?_
    show Steps p.tables e below (T32.setTop (mkF m 93 #[.val (.int ww_), .val (.int wl), .val (.int wa), .val (.int wb), .val (.int wm), .val (.int vk), .val (.ref la), .val (.int bl), .val (.int vn), .val (.int vmu), .val (.int vp), .unset, .unset, .unset, .unset, .unset, .unset, .unset, .unset, .unset] [(.int wa), (.int 0), (.ref la)])) _
    refine XS.iloadN X32.here hx rfl (hb hby at_93) rfl ?_
    refine XS.iload X32.here hx rfl (hb hby at_94) rfl ?_
    refine XS.iload X32.here hx rfl (hb hby at_96) rfl ?_
    exact kt
  obtain ⟨_, _, ⟨T48, L48, k48, n48⟩, -, X48, ⟨Lc48, hQ48, l48, y48, z48⟩, st48⟩ := Jvm.LawKit.callS X32 hx (y := yn10) hown (mvT hZ (ow hw 21 rfl)) (mvT hZ (ow hw 22 rfl)) (mvT hZ (ow hw 23 rfl)) (mvT hZ (ow hw 24 rfl)) (by decide) (backOf (W := 0) (rm_pick l Z a0 hw [] la (0 : Int32) wa wb vmu vp vcs vf lb kbb zb vb hb_ n0 Zsb os31 Ab Fcb Fvb Vb_ (by decide)) hZ (ow hw 24 rfl) (ow hw 23 rfl) (by decide) (by decide)) (g := (mkF m 98 #[.val (.int ww_), .val (.int wl), .val (.int wa), .val (.int wb), .val (.int wm), .val (.int vk), .val (.ref la), .val (.int bl), .val (.int vn), .val (.int vmu), .val (.int vp), .unset, .unset, .unset, .unset, .unset, .unset, .unset, .unset, .unset] [(.int vp), (.int vmu), (.int wb), (.int wa), (.int 0), (.ref la)])) rfl (by rw [hml]; rfl) (argsL := [(.ref la), (.int 0), (.int wa), (.int wb), (.int vmu), (.int vp)]) (rest := []) (lenOf pd_15 rfl) rfl (by exact Nat.le_of_eq rfl) (hb hby at_98) (fun _ _ => ⟨rfl, e32, (by decide : 2 + 0 ≤ _), (by decide : 28 + 0 ≤ _)⟩)
  dsimp only [Pt.U, Pt.locs, Pt.cells, Pt.slots] at X48 l48 y48 z48 st48 hQ48
  rw [l48, y48, z48] at X48
  obtain ⟨c0, rfl, hc0, N48q, e48⟩ := hQ48
  have N48 := Fr.app N32 N48q
  have pre49 : oP p e below (T48.setTop (mkF m 112 #[.val (.int ww_), .val (.int wl), .val (.int wa), .val (.int wb), .val (.int wm), .val (.int vk), .val (.ref la), .val (.int bl), .val (.int vn), .val (.int vmu), .val (.int vp), .val (.int c0), .unset, .unset, .unset, .unset, .unset, .unset, .unset, .unset] [(.int vp), (.int vmu), (.int wb), (.int wa), (.int 1), (.ref la)])) (SS) := fun t kt => by
    refine pre47 _ ?_
    refine st48 _ ?_
    refine XS.istore X48.here hx rfl (hb hby at_101) rfl (l' := #[.val (.int ww_), .val (.int wl), .val (.int wa), .val (.int wb), .val (.int wm), .val (.int vk), .val (.ref la), .val (.int bl), .val (.int vn), .val (.int vmu), .val (.int vp), .val (.int c0), .unset, .unset, .unset, .unset, .unset, .unset, .unset, .unset]) rfl ?_
    refine XS.aload X48.here hx rfl (hb hby at_103) rfl rfl ?_
    refine XS.iconst X48.here hx rfl (hb hby at_105) ?_
    refine XS.iloadN X48.here hx rfl (hb hby at_106) rfl ?_
    refine XS.iloadN X48.here hx rfl (hb hby at_107) rfl ?_
    refine XS.iload X48.here hx rfl (hb hby at_108) rfl ?_
    refine XS.iload X48.here hx rfl (hb hby at_110) rfl ?_
    exact kt
  obtain ⟨_, _, ⟨T50, L50, k50, n50⟩, -, X50, ⟨Lc50, hQ50, l50, y50, z50⟩, st50⟩ := Jvm.LawKit.callS X48 hx (y := yn10) hown (mvT hZ (ow hw 21 rfl)) (mvT hZ (ow hw 22 rfl)) (mvT hZ (ow hw 23 rfl)) (mvT hZ (ow hw 24 rfl)) (by decide) (backOf (W := 0) (rm_pick l Z a0 hw [] la (1 : Int32) wa wb vmu vp vcs vf lb kbb zb vb hb_ n0 Zsb os31 Ab Fcb Fvb Vb_ (by decide)) hZ (ow hw 24 rfl) (ow hw 23 rfl) (by decide) (by decide)) (g := (mkF m 112 #[.val (.int ww_), .val (.int wl), .val (.int wa), .val (.int wb), .val (.int wm), .val (.int vk), .val (.ref la), .val (.int bl), .val (.int vn), .val (.int vmu), .val (.int vp), .val (.int c0), .unset, .unset, .unset, .unset, .unset, .unset, .unset, .unset] [(.int vp), (.int vmu), (.int wb), (.int wa), (.int 1), (.ref la)])) rfl (by rw [hml]; rfl) (argsL := [(.ref la), (.int 1), (.int wa), (.int wb), (.int vmu), (.int vp)]) (rest := []) (lenOf pd_15 rfl) rfl (by exact Nat.le_of_eq rfl) (hb hby at_112) (fun _ _ => ⟨rfl, e48, (by decide : 2 + 0 ≤ _), (by decide : 28 + 0 ≤ _)⟩)
  dsimp only [Pt.U, Pt.locs, Pt.cells, Pt.slots] at X50 l50 y50 z50 st50 hQ50
  rw [l50, y50, z50] at X50
  obtain ⟨c1, rfl, hc1, N50q, e50⟩ := hQ50
  have N50 := Fr.app N48 N50q
  have pre51 : oP p e below (T50.setTop (mkF m 126 #[.val (.int ww_), .val (.int wl), .val (.int wa), .val (.int wb), .val (.int wm), .val (.int vk), .val (.ref la), .val (.int bl), .val (.int vn), .val (.int vmu), .val (.int vp), .val (.int c0), .val (.int c1), .unset, .unset, .unset, .unset, .unset, .unset, .unset] [(.int vp), (.int vmu), (.int wb), (.int wa), (.int 2), (.ref la)])) (SS) := fun t kt => by
    refine pre49 _ ?_
    refine st50 _ ?_
    refine XS.istore X50.here hx rfl (hb hby at_115) rfl (l' := #[.val (.int ww_), .val (.int wl), .val (.int wa), .val (.int wb), .val (.int wm), .val (.int vk), .val (.ref la), .val (.int bl), .val (.int vn), .val (.int vmu), .val (.int vp), .val (.int c0), .val (.int c1), .unset, .unset, .unset, .unset, .unset, .unset, .unset]) rfl ?_
    refine XS.aload X50.here hx rfl (hb hby at_117) rfl rfl ?_
    refine XS.iconst X50.here hx rfl (hb hby at_119) ?_
    refine XS.iloadN X50.here hx rfl (hb hby at_120) rfl ?_
    refine XS.iloadN X50.here hx rfl (hb hby at_121) rfl ?_
    refine XS.iload X50.here hx rfl (hb hby at_122) rfl ?_
    refine XS.iload X50.here hx rfl (hb hby at_124) rfl ?_
    exact kt
  obtain ⟨_, _, ⟨T52, L52, k52, n52⟩, -, X52, ⟨Lc52, hQ52, l52, y52, z52⟩, st52⟩ := Jvm.LawKit.callS X50 hx (y := yn10) hown (mvT hZ (ow hw 21 rfl)) (mvT hZ (ow hw 22 rfl)) (mvT hZ (ow hw 23 rfl)) (mvT hZ (ow hw 24 rfl)) (by decide) (backOf (W := 0) (rm_pick l Z a0 hw [] la (2 : Int32) wa wb vmu vp vcs vf lb kbb zb vb hb_ n0 Zsb os31 Ab Fcb Fvb Vb_ (by decide)) hZ (ow hw 24 rfl) (ow hw 23 rfl) (by decide) (by decide)) (g := (mkF m 126 #[.val (.int ww_), .val (.int wl), .val (.int wa), .val (.int wb), .val (.int wm), .val (.int vk), .val (.ref la), .val (.int bl), .val (.int vn), .val (.int vmu), .val (.int vp), .val (.int c0), .val (.int c1), .unset, .unset, .unset, .unset, .unset, .unset, .unset] [(.int vp), (.int vmu), (.int wb), (.int wa), (.int 2), (.ref la)])) rfl (by rw [hml]; rfl) (argsL := [(.ref la), (.int 2), (.int wa), (.int wb), (.int vmu), (.int vp)]) (rest := []) (lenOf pd_15 rfl) rfl (by exact Nat.le_of_eq rfl) (hb hby at_126) (fun _ _ => ⟨rfl, e50, (by decide : 2 + 0 ≤ _), (by decide : 28 + 0 ≤ _)⟩)
  dsimp only [Pt.U, Pt.locs, Pt.cells, Pt.slots] at X52 l52 y52 z52 st52 hQ52
  rw [l52, y52, z52] at X52
  obtain ⟨c2, rfl, hc2, N52q, e52⟩ := hQ52
  have N52 := Fr.app N50 N52q
  have pre53 : oP p e below (T52.setTop (mkF m 140 #[.val (.int ww_), .val (.int wl), .val (.int wa), .val (.int wb), .val (.int wm), .val (.int vk), .val (.ref la), .val (.int bl), .val (.int vn), .val (.int vmu), .val (.int vp), .val (.int c0), .val (.int c1), .val (.int c2), .unset, .unset, .unset, .unset, .unset, .unset] [(.int vp), (.int vmu), (.int wb), (.int wa), (.int 3), (.ref la)])) (SS) := fun t kt => by
    refine pre51 _ ?_
    refine st52 _ ?_
    show Steps p.tables e below (T52.setTop (mkF m 129 #[.val (.int ww_), .val (.int wl), .val (.int wa), .val (.int wb), .val (.int wm), .val (.int vk), .val (.ref la), .val (.int bl), .val (.int vn), .val (.int vmu), .val (.int vp), .val (.int c0), .val (.int c1), .unset, .unset, .unset, .unset, .unset, .unset, .unset] [(.int c2)])) _
    refine XS.istore X52.here hx rfl (hb hby at_129) rfl (l' := #[.val (.int ww_), .val (.int wl), .val (.int wa), .val (.int wb), .val (.int wm), .val (.int vk), .val (.ref la), .val (.int bl), .val (.int vn), .val (.int vmu), .val (.int vp), .val (.int c0), .val (.int c1), .val (.int c2), .unset, .unset, .unset, .unset, .unset, .unset]) rfl ?_
    refine XS.aload X52.here hx rfl (hb hby at_131) rfl rfl ?_
    refine XS.iconst X52.here hx rfl (hb hby at_133) ?_
    refine XS.iloadN X52.here hx rfl (hb hby at_134) rfl ?_
    refine XS.iloadN X52.here hx rfl (hb hby at_135) rfl ?_
    refine XS.iload X52.here hx rfl (hb hby at_136) rfl ?_
    refine XS.iload X52.here hx rfl (hb hby at_138) rfl ?_
    exact kt
  obtain ⟨_, _, ⟨T54, L54, k54, n54⟩, -, X54, ⟨Lc54, hQ54, l54, y54, z54⟩, st54⟩ := Jvm.LawKit.callS X52 hx (y := yn10) hown (mvT hZ (ow hw 21 rfl)) (mvT hZ (ow hw 22 rfl)) (mvT hZ (ow hw 23 rfl)) (mvT hZ (ow hw 24 rfl)) (by decide) (backOf (W := 0) (rm_pick l Z a0 hw [] la (3 : Int32) wa wb vmu vp vcs vf lb kbb zb vb hb_ n0 Zsb os31 Ab Fcb Fvb Vb_ (by decide)) hZ (ow hw 24 rfl) (ow hw 23 rfl) (by decide) (by decide)) (g := (mkF m 140 #[.val (.int ww_), .val (.int wl), .val (.int wa), .val (.int wb), .val (.int wm), .val (.int vk), .val (.ref la), .val (.int bl), .val (.int vn), .val (.int vmu), .val (.int vp), .val (.int c0), .val (.int c1), .val (.int c2), .unset, .unset, .unset, .unset, .unset, .unset] [(.int vp), (.int vmu), (.int wb), (.int wa), (.int 3), (.ref la)])) rfl (by rw [hml]; rfl) (argsL := [(.ref la), (.int 3), (.int wa), (.int wb), (.int vmu), (.int vp)]) (rest := []) (lenOf pd_15 rfl) rfl (by exact Nat.le_of_eq rfl) (hb hby at_140) (fun _ _ => ⟨rfl, e52, (by decide : 2 + 0 ≤ _), (by decide : 28 + 0 ≤ _)⟩)
  dsimp only [Pt.U, Pt.locs, Pt.cells, Pt.slots] at X54 l54 y54 z54 st54 hQ54
  rw [l54, y54, z54] at X54
  obtain ⟨c3, rfl, hc3, N54q, e54⟩ := hQ54
  have N54 := Fr.app N52 N54q
  have pre55 : oP p e below (T54.setTop (mkF m 154 #[.val (.int ww_), .val (.int wl), .val (.int wa), .val (.int wb), .val (.int wm), .val (.int vk), .val (.ref la), .val (.int bl), .val (.int vn), .val (.int vmu), .val (.int vp), .val (.int c0), .val (.int c1), .val (.int c2), .val (.int c3), .unset, .unset, .unset, .unset, .unset] [(.int vp), (.int vmu), (.int wb), (.int wa), (.int 4), (.ref la)])) (SS) := fun t kt => by
    refine pre53 _ ?_
    refine st54 _ ?_
    refine XS.istore X54.here hx rfl (hb hby at_143) rfl (l' := #[.val (.int ww_), .val (.int wl), .val (.int wa), .val (.int wb), .val (.int wm), .val (.int vk), .val (.ref la), .val (.int bl), .val (.int vn), .val (.int vmu), .val (.int vp), .val (.int c0), .val (.int c1), .val (.int c2), .val (.int c3), .unset, .unset, .unset, .unset, .unset]) rfl ?_
    refine XS.aload X54.here hx rfl (hb hby at_145) rfl rfl ?_
    refine XS.iconst X54.here hx rfl (hb hby at_147) ?_
    refine XS.iloadN X54.here hx rfl (hb hby at_148) rfl ?_
    refine XS.iloadN X54.here hx rfl (hb hby at_149) rfl ?_
    refine XS.iload X54.here hx rfl (hb hby at_150) rfl ?_
    refine XS.iload X54.here hx rfl (hb hby at_152) rfl ?_
    exact kt
  obtain ⟨_, _, ⟨T56, L56, k56, n56⟩, -, X56, ⟨Lc56, hQ56, l56, y56, z56⟩, st56⟩ := Jvm.LawKit.callS X54 hx (y := yn10) hown (mvT hZ (ow hw 21 rfl)) (mvT hZ (ow hw 22 rfl)) (mvT hZ (ow hw 23 rfl)) (mvT hZ (ow hw 24 rfl)) (by decide) (backOf (W := 0) (rm_pick l Z a0 hw [] la (4 : Int32) wa wb vmu vp vcs vf lb kbb zb vb hb_ n0 Zsb os31 Ab Fcb Fvb Vb_ (by decide)) hZ (ow hw 24 rfl) (ow hw 23 rfl) (by decide) (by decide)) (g := (mkF m 154 #[.val (.int ww_), .val (.int wl), .val (.int wa), .val (.int wb), .val (.int wm), .val (.int vk), .val (.ref la), .val (.int bl), .val (.int vn), .val (.int vmu), .val (.int vp), .val (.int c0), .val (.int c1), .val (.int c2), .val (.int c3), .unset, .unset, .unset, .unset, .unset] [(.int vp), (.int vmu), (.int wb), (.int wa), (.int 4), (.ref la)])) rfl (by rw [hml]; rfl) (argsL := [(.ref la), (.int 4), (.int wa), (.int wb), (.int vmu), (.int vp)]) (rest := []) (lenOf pd_15 rfl) rfl (by exact Nat.le_of_eq rfl) (hb hby at_154) (fun _ _ => ⟨rfl, e54, (by decide : 2 + 0 ≤ _), (by decide : 28 + 0 ≤ _)⟩)
  dsimp only [Pt.U, Pt.locs, Pt.cells, Pt.slots] at X56 l56 y56 z56 st56 hQ56
  rw [l56, y56, z56] at X56
  obtain ⟨c4, rfl, hc4, N56q, e56⟩ := hQ56
  have N56 := Fr.app N54 N56q
  have pre57 : oP p e below (T56.setTop (mkF m 168 #[.val (.int ww_), .val (.int wl), .val (.int wa), .val (.int wb), .val (.int wm), .val (.int vk), .val (.ref la), .val (.int bl), .val (.int vn), .val (.int vmu), .val (.int vp), .val (.int c0), .val (.int c1), .val (.int c2), .val (.int c3), .val (.int c4), .unset, .unset, .unset, .unset] [(.int vp), (.int vmu), (.int wb), (.int wa), (.int 5), (.ref la)])) (SS) := fun t kt => by
    refine pre55 _ ?_
    refine st56 _ ?_
    refine XS.istore X56.here hx rfl (hb hby at_157) rfl (l' := #[.val (.int ww_), .val (.int wl), .val (.int wa), .val (.int wb), .val (.int wm), .val (.int vk), .val (.ref la), .val (.int bl), .val (.int vn), .val (.int vmu), .val (.int vp), .val (.int c0), .val (.int c1), .val (.int c2), .val (.int c3), .val (.int c4), .unset, .unset, .unset, .unset]) rfl ?_
    refine XS.aload X56.here hx rfl (hb hby at_159) rfl rfl ?_
    refine XS.iconst X56.here hx rfl (hb hby at_161) ?_
    refine XS.iloadN X56.here hx rfl (hb hby at_162) rfl ?_
    show Steps p.tables e below (T56.setTop (mkF m 163 #[.val (.int ww_), .val (.int wl), .val (.int wa), .val (.int wb), .val (.int wm), .val (.int vk), .val (.ref la), .val (.int bl), .val (.int vn), .val (.int vmu), .val (.int vp), .val (.int c0), .val (.int c1), .val (.int c2), .val (.int c3), .val (.int c4), .unset, .unset, .unset, .unset] [(.int wa), (.int 5), (.ref la)])) _
    refine XS.iloadN X56.here hx rfl (hb hby at_163) rfl ?_
    refine XS.iload X56.here hx rfl (hb hby at_164) rfl ?_
    refine XS.iload X56.here hx rfl (hb hby at_166) rfl ?_
    exact kt
  obtain ⟨_, _, ⟨T58, L58, k58, n58⟩, -, X58, ⟨Lc58, hQ58, l58, y58, z58⟩, st58⟩ := Jvm.LawKit.callS X56 hx (y := yn10) hown (mvT hZ (ow hw 21 rfl)) (mvT hZ (ow hw 22 rfl)) (mvT hZ (ow hw 23 rfl)) (mvT hZ (ow hw 24 rfl)) (by decide) (backOf (W := 0) (rm_pick l Z a0 hw [] la (5 : Int32) wa wb vmu vp vcs vf lb kbb zb vb hb_ n0 Zsb os31 Ab Fcb Fvb Vb_ (by decide)) hZ (ow hw 24 rfl) (ow hw 23 rfl) (by decide) (by decide)) (g := (mkF m 168 #[.val (.int ww_), .val (.int wl), .val (.int wa), .val (.int wb), .val (.int wm), .val (.int vk), .val (.ref la), .val (.int bl), .val (.int vn), .val (.int vmu), .val (.int vp), .val (.int c0), .val (.int c1), .val (.int c2), .val (.int c3), .val (.int c4), .unset, .unset, .unset, .unset] [(.int vp), (.int vmu), (.int wb), (.int wa), (.int 5), (.ref la)])) rfl (by rw [hml]; rfl) (argsL := [(.ref la), (.int 5), (.int wa), (.int wb), (.int vmu), (.int vp)]) (rest := []) (lenOf pd_15 rfl) rfl (by exact Nat.le_of_eq rfl) (hb hby at_168) (fun _ _ => ⟨rfl, e56, (by decide : 2 + 0 ≤ _), (by decide : 28 + 0 ≤ _)⟩)
  dsimp only [Pt.U, Pt.locs, Pt.cells, Pt.slots] at X58 l58 y58 z58 st58 hQ58
  rw [l58, y58, z58] at X58
  obtain ⟨c5, rfl, hc5, N58q, e58⟩ := hQ58
  have N58 := Fr.app N56 N58q
  have pre59 : oP p e below (T58.setTop (mkF m 183 #[.val (.int ww_), .val (.int wl), .val (.int wa), .val (.int wb), .val (.int wm), .val (.int vk), .val (.ref la), .val (.int bl), .val (.int vn), .val (.int vmu), .val (.int vp), .val (.int c0), .val (.int c1), .val (.int c2), .val (.int c3), .val (.int c4), .val (.int c5), .unset, .unset, .unset] [(.int vp), (.int vmu), (.int wb), (.int wa), (.int 6), (.ref la)])) (SS) := fun t kt => by
    refine pre57 _ ?_
    refine st58 _ ?_
    refine XS.istore X58.here hx rfl (hb hby at_171) rfl (l' := #[.val (.int ww_), .val (.int wl), .val (.int wa), .val (.int wb), .val (.int wm), .val (.int vk), .val (.ref la), .val (.int bl), .val (.int vn), .val (.int vmu), .val (.int vp), .val (.int c0), .val (.int c1), .val (.int c2), .val (.int c3), .val (.int c4), .val (.int c5), .unset, .unset, .unset]) rfl ?_
    refine XS.aload X58.here hx rfl (hb hby at_173) rfl rfl ?_
    refine XS.bipush X58.here hx rfl (hb hby at_175) ?_
    refine XS.iloadN X58.here hx rfl (hb hby at_177) rfl ?_
    refine XS.iloadN X58.here hx rfl (hb hby at_178) rfl ?_
    refine XS.iload X58.here hx rfl (hb hby at_179) rfl ?_
    refine XS.iload X58.here hx rfl (hb hby at_181) rfl ?_
    exact kt
  obtain ⟨_, _, ⟨T60, L60, k60, n60⟩, -, X60, ⟨Lc60, hQ60, l60, y60, z60⟩, st60⟩ := Jvm.LawKit.callS X58 hx (y := yn10) hown (mvT hZ (ow hw 21 rfl)) (mvT hZ (ow hw 22 rfl)) (mvT hZ (ow hw 23 rfl)) (mvT hZ (ow hw 24 rfl)) (by decide) (backOf (W := 0) (rm_pick l Z a0 hw [] la (6 : Int32) wa wb vmu vp vcs vf lb kbb zb vb hb_ n0 Zsb os31 Ab Fcb Fvb Vb_ (by decide)) hZ (ow hw 24 rfl) (ow hw 23 rfl) (by decide) (by decide)) (g := (mkF m 183 #[.val (.int ww_), .val (.int wl), .val (.int wa), .val (.int wb), .val (.int wm), .val (.int vk), .val (.ref la), .val (.int bl), .val (.int vn), .val (.int vmu), .val (.int vp), .val (.int c0), .val (.int c1), .val (.int c2), .val (.int c3), .val (.int c4), .val (.int c5), .unset, .unset, .unset] [(.int vp), (.int vmu), (.int wb), (.int wa), (.int 6), (.ref la)])) rfl (by rw [hml]; rfl) (argsL := [(.ref la), (.int 6), (.int wa), (.int wb), (.int vmu), (.int vp)]) (rest := []) (lenOf pd_15 rfl) rfl (by exact Nat.le_of_eq rfl) (hb hby at_183) (fun _ _ => ⟨rfl, e58, (by decide : 2 + 0 ≤ _), (by decide : 28 + 0 ≤ _)⟩)
  dsimp only [Pt.U, Pt.locs, Pt.cells, Pt.slots] at X60 l60 y60 z60 st60 hQ60
  rw [l60, y60, z60] at X60
  obtain ⟨c6, rfl, hc6, N60q, e60⟩ := hQ60
  have N60 := Fr.app N58 N60q
  have pre61 : oP p e below (T60.setTop (mkF m 204 #[.val (.int ww_), .val (.int wl), .val (.int wa), .val (.int wb), .val (.int wm), .val (.int vk), .val (.ref la), .val (.int bl), .val (.int vn), .val (.int vmu), .val (.int vp), .val (.int c0), .val (.int c1), .val (.int c2), .val (.int c3), .val (.int c4), .val (.int c5), .val (.int c6), .unset, .unset] [(.int c6), (.int c5), (.int c4), (.int c3), (.int c2), (.int c1), (.int c0), (.int vn)])) (SS) := fun t kt => by
    refine pre59 _ ?_
    refine st60 _ ?_
    refine XS.istore X60.here hx rfl (hb hby at_186) rfl (l' := #[.val (.int ww_), .val (.int wl), .val (.int wa), .val (.int wb), .val (.int wm), .val (.int vk), .val (.ref la), .val (.int bl), .val (.int vn), .val (.int vmu), .val (.int vp), .val (.int c0), .val (.int c1), .val (.int c2), .val (.int c3), .val (.int c4), .val (.int c5), .val (.int c6), .unset, .unset]) rfl ?_
    refine XS.iload X60.here hx rfl (hb hby at_188) rfl ?_
    refine XS.iload X60.here hx rfl (hb hby at_190) rfl ?_
    refine XS.iload X60.here hx rfl (hb hby at_192) rfl ?_
    refine XS.iload X60.here hx rfl (hb hby at_194) rfl ?_
    refine XS.iload X60.here hx rfl (hb hby at_196) rfl ?_
    refine XS.iload X60.here hx rfl (hb hby at_198) rfl ?_
    refine XS.iload X60.here hx rfl (hb hby at_200) rfl ?_
    show Steps p.tables e below (T60.setTop (mkF m 202 #[.val (.int ww_), .val (.int wl), .val (.int wa), .val (.int wb), .val (.int wm), .val (.int vk), .val (.ref la), .val (.int bl), .val (.int vn), .val (.int vmu), .val (.int vp), .val (.int c0), .val (.int c1), .val (.int c2), .val (.int c3), .val (.int c4), .val (.int c5), .val (.int c6), .unset, .unset] [(.int c5), (.int c4), (.int c3), (.int c2), (.int c1), (.int c0), (.int vn)])) _
    refine XS.iload X60.here hx rfl (hb hby at_202) rfl ?_
    exact kt
  obtain ⟨_, _, ⟨T62, L62, k62, n62⟩, -, Xp62, hSp62, hgp62, ⟨Lc62, hQ62, l62, y62, z62, CRn62⟩, st62⟩ := callSS X60 hx (y := yn16) hown (mvT hZ (ow hw 50 rfl)) (mvT hZ (ow hw 51 rfl)) (mvT hZ (ow hw 23 rfl)) (mvT hZ (ow hw 52 rfl)) (by decide) (backOfSH (W := 0) (rm_make l Z a0 hw [] vn c0 c1 c2 c3 c4 c5 c6 vcs vf hb_ n0 Zsb os31 hvn.1 hvn.2 hc0.1 hc1.1 hc2.1 hc3.1 hc4.1 hc5.1 hc6.1 hc0.2 hc1.2 hc2.2 hc3.2 hc4.2 hc5.2 hc6.2) hZ (ow hw 52 rfl) (ow hw 23 rfl) (by decide) (by decide) hEL CRb.1) (g := (mkF m 204 #[.val (.int ww_), .val (.int wl), .val (.int wa), .val (.int wb), .val (.int wm), .val (.int vk), .val (.ref la), .val (.int bl), .val (.int vn), .val (.int vmu), .val (.int vp), .val (.int c0), .val (.int c1), .val (.int c2), .val (.int c3), .val (.int c4), .val (.int c5), .val (.int c6), .unset, .unset] [(.int c6), (.int c5), (.int c4), (.int c3), (.int c2), (.int c1), (.int c0), (.int vn)])) rfl (by rw [hml]; rfl) (argsL := [(.int vn), (.int c0), (.int c1), (.int c2), (.int c3), (.int c4), (.int c5), (.int c6)]) (rest := []) (lenOf pd_16 rfl) rfl (by exact Nat.le_of_eq rfl) (hb hby at_204) (fun _ _ => ⟨rfl, e60, (by decide : 2 + 6 ≤ _), (by decide : 28 + 18 ≤ _)⟩)
  dsimp only [Pt.U, Pt.locs, Pt.cells, Pt.slots] at Xp62 hSp62 hgp62 l62 y62 z62 st62 hQ62 CRn62
  rw [l62, y62, z62] at Xp62
  obtain ⟨X62, hS62, hZ, hown⟩ := rebS hSb (n1 := T60.heap.size) (by rw [e60]; exact hkb) Xp62 hSp62 hgp62 hZ hown
  have CR63 := CRb.trans CRn62
  obtain ⟨sa, ob, kb, zn, vs, rfl, N62q, K62, Esa, Fcsa, Fvsa, Vob⟩ := hQ62
  have N62 := Fr.app N60 N62q
  have Zs64 : n0 ≤ T62.heap.size := Nat.le_trans Zsb K62.1
  have pre66 : oP p e below (T62.setTop (mkF m 215 #[.val (.int ww_), .val (.int wl), .val (.int wa), .val (.int wb), .val (.int wm), .val (.int vk), .val (.ref la), .val (.int bl), .val (.int vn), .val (.int vmu), .val (.int vp), .val (.int c0), .val (.int c1), .val (.int c2), .val (.int c3), .val (.int c4), .val (.int c5), .val (.int c6), .val (.ref sa), .unset] [(.int (((wl.toUInt32 >>> ((4 : Int32) &&& 31).toUInt32).toInt32) &&& (15 : Int32)))])) (SS) := fun t kt => by
    refine pre61 _ ?_
    refine st62.trans ?_
    refine XS.astore X62.here hx rfl (hb hby at_207) rfl rfl (l' := #[.val (.int ww_), .val (.int wl), .val (.int wa), .val (.int wb), .val (.int wm), .val (.int vk), .val (.ref la), .val (.int bl), .val (.int vn), .val (.int vmu), .val (.int vp), .val (.int c0), .val (.int c1), .val (.int c2), .val (.int c3), .val (.int c4), .val (.int c5), .val (.int c6), .val (.ref sa), .unset]) rfl ?_
    refine XS.iloadN X62.here hx rfl (hb hby at_209) rfl ?_
    refine XS.iconst X62.here hx rfl (hb hby at_210) ?_
    refine XS.iushr X62.here hx rfl (hb hby at_211) rfl ?_
    refine XS.bipush X62.here hx rfl (hb hby at_212) ?_
    refine XS.iand X62.here hx rfl (hb hby at_214) rfl ?_
    exact kt
  by_cases hc215_65 : (((wl.toUInt32 >>> ((4 : Int32) &&& 31).toUInt32).toInt32) &&& (15 : Int32)).toInt = (0 : Int)
  · have pre67 : oP p e below (T62.setTop (mkF m 300 #[.val (.int ww_), .val (.int wl), .val (.int wa), .val (.int wb), .val (.int wm), .val (.int vk), .val (.ref la), .val (.int bl), .val (.int vn), .val (.int vmu), .val (.int vp), .val (.int c0), .val (.int c1), .val (.int c2), .val (.int c3), .val (.int c4), .val (.int c5), .val (.int c6), .val .null, .val .null] [.null])) (SS) := fun t kt => by
      refine pre66 _ ?_
      refine XS.ifNo X62.here hx rfl (hb hby at_215) rfl (own_if (own_teq (a := (((wl.toUInt32 >>> ((4 : Int32) &&& 31).toUInt32).toInt32) &&& (15 : Int32))) (b := (0 : Int32)) rfl (by decide) hc215_65).2) ?_
      refine XS.aconstNull X62.here hx rfl (hb hby at_218) ?_
      refine XS.astore X62.here hx rfl (hb hby at_219) rfl rfl (l' := #[.val (.int ww_), .val (.int wl), .val (.int wa), .val (.int wb), .val (.int wm), .val (.int vk), .val (.ref la), .val (.int bl), .val (.int vn), .val (.int vmu), .val (.int vp), .val (.int c0), .val (.int c1), .val (.int c2), .val (.int c3), .val (.int c4), .val (.int c5), .val (.int c6), .val .null, .unset]) rfl ?_
      refine XS.aconstNull X62.here hx rfl (hb hby at_221) ?_
      refine XS.astore X62.here hx rfl (hb hby at_222) rfl rfl (l' := #[.val (.int ww_), .val (.int wl), .val (.int wa), .val (.int wb), .val (.int wm), .val (.int vk), .val (.ref la), .val (.int bl), .val (.int vn), .val (.int vmu), .val (.int vp), .val (.int c0), .val (.int c1), .val (.int c2), .val (.int c3), .val (.int c4), .val (.int c5), .val (.int c6), .val .null, .val .null]) rfl ?_
      refine XS.aload X62.here hx rfl (hb hby at_224) rfl rfl ?_
      refine XS.ifnullYes X62.here hx rfl (pc0 := 226) (pc' := 298) rfl (hb hby at_226) rfl (by decide) (by decide) ?_
      refine XS.aload X62.here hx rfl (hb hby at_298) rfl rfl ?_
      exact kt
    have os68 := (own_st_keep os31 K62 ns0)
    have pm69 := (own_pm_keep (own_pm_ext Pm Eb) K62)
    obtain ⟨_, _, ⟨T70, L70, k70, n70⟩, -, X70, ⟨Lc70, hQ70, l70, y70, z70⟩, st70⟩ := Jvm.LawKit.callS X62 hx (y := yn17) hown (mvT hZ (ow hw 75 rfl)) (mvT hZ (ow hw 76 rfl)) (mvT hZ (ow hw 77 rfl)) (mvT hZ (ow hw 78 rfl)) (by decide) (backOf (W := 0) (rm_namedN l Z a0 hw [] vcs vf pA kA pp ww bb kk T62.heap n0 Zs64 os68 pm69) hZ (ow hw 78 rfl) (ow hw 77 rfl) (by decide) (by decide)) (g := (mkF m 300 #[.val (.int ww_), .val (.int wl), .val (.int wa), .val (.int wb), .val (.int wm), .val (.int vk), .val (.ref la), .val (.int bl), .val (.int vn), .val (.int vmu), .val (.int vp), .val (.int c0), .val (.int c1), .val (.int c2), .val (.int c3), .val (.int c4), .val (.int c5), .val (.int c6), .val .null, .val .null] [.null])) rfl (by rw [hml]; rfl) (argsL := [.null]) (rest := []) (lenOf pd_17 rfl) rfl (by exact Nat.le_of_eq rfl) (hb hby at_300) (fun _ _ => ⟨rfl, rfl, (by decide : 8 + 0 ≤ _), (by decide : 46 + 0 ≤ _)⟩)
    dsimp only [Pt.U, Pt.locs, Pt.cells, Pt.slots] at X70 l70 y70 z70 st70 hQ70
    rw [l70, y70, z70] at X70
    obtain ⟨rfl, N70q, e70⟩ := hQ70
    have N70 := Fr.app N62 N70q
    subst hSS
    obtain ⟨fs, hr, hrun, hended, hREW⟩ := X70.leaveW hS62 (by rw [e70]; exact (Nat.le_refl T62.heap.size)) (v := some (.int 1)) (fun h => by rw [Bd.returns] at h; cases h)
    refine ⟨_, _, pre67 _ ?_, hrun, hended, _, _, rfl, ?_, ?_, ⟨hREW.1, hREW.2.1, hREW.2.2.1, hREW.2.2.2.mono (by decide) (by decide)⟩⟩
    · refine st70 _ ?_
      refine XS.aload X70.here hx rfl (hb hby at_303) rfl rfl ?_
      refine Jvm.RoadKit.acmp (g := (mkF m 305 #[.val (.int ww_), .val (.int wl), .val (.int wa), .val (.int wb), .val (.int wm), .val (.int vk), .val (.ref la), .val (.int bl), .val (.int vn), .val (.int vmu), .val (.int vp), .val (.int c0), .val (.int c1), .val (.int c2), .val (.int c3), .val (.int c4), .val (.int c5), .val (.int c6), .val .null, .val .null] [.null, .null])) X70 hx rfl rfl rfl (pc0 := 305) (pc' := 308) (same := true) rfl (hb hby at_305) rfl (decide_eq_true rfl) (by decide) (by decide) ?_
      refine XS.iconst X70.here hx rfl (hb hby at_308) ?_
      show Steps p.tables e below (T70.setTop (mkF m 309 #[.val (.int ww_), .val (.int wl), .val (.int wa), .val (.int wb), .val (.int wm), .val (.int vk), .val (.ref la), .val (.int bl), .val (.int vn), .val (.int vmu), .val (.int vp), .val (.int c0), .val (.int c1), .val (.int c2), .val (.int c3), .val (.int c4), .val (.int c5), .val (.int c6), .val .null, .val .null] [(.int 1)])) _
      refine XS.goto X70.here hx rfl (pc0 := 309) (pc' := 313) rfl (hb hby at_309) (by decide) (by decide) ?_
      exact retN X70 hx (t := .boolean) Bd.returns (by simp) (hb hby at_313) hr
    · show Q0 Z _ _ _ _ _ _ _ _ _ _ _ _ _ h0 n0 _ T70.heap _
      rw [e70]
      exact ⟨rfl, N70⟩
    · show CHr Z own_EL s.vm s.heap T70.vm T70.heap
      rw [hh, e70]
      exact CR63.trans (CHv.at X70 hZ hEL CR63.1)
  · have pre71 : oP p e below (T62.setTop (mkF m 231 #[.val (.int ww_), .val (.int wl), .val (.int wa), .val (.int wb), .val (.int wm), .val (.int vk), .val (.ref la), .val (.int bl), .val (.int vn), .val (.int vmu), .val (.int vp), .val (.int c0), .val (.int c1), .val (.int c2), .val (.int c3), .val (.int c4), .val (.int c5), .val (.int c6), .val (.ref sa), .val .null] [(.ref sa)])) (SS) := fun t kt => by
      refine pre66 _ ?_
      refine XS.ifYes X62.here hx rfl (pc0 := 215) (pc' := 221) rfl (hb hby at_215) rfl (own_if (own_feq (a := (((wl.toUInt32 >>> ((4 : Int32) &&& 31).toUInt32).toInt32) &&& (15 : Int32))) (b := (0 : Int32)) rfl (by decide) hc215_65).2) (by decide) (by decide) ?_
      refine XS.aconstNull X62.here hx rfl (hb hby at_221) ?_
      refine XS.astore X62.here hx rfl (hb hby at_222) rfl rfl (l' := #[.val (.int ww_), .val (.int wl), .val (.int wa), .val (.int wb), .val (.int wm), .val (.int vk), .val (.ref la), .val (.int bl), .val (.int vn), .val (.int vmu), .val (.int vp), .val (.int c0), .val (.int c1), .val (.int c2), .val (.int c3), .val (.int c4), .val (.int c5), .val (.int c6), .val (.ref sa), .val .null]) rfl ?_
      refine XS.aload X62.here hx rfl (hb hby at_224) rfl rfl ?_
      refine XS.ifnullNo X62.here hx rfl (hb hby at_226) rfl ?_
      refine XS.aload X62.here hx rfl (hb hby at_229) rfl rfl ?_
      exact kt
    have f72 := (Ab.keep K62)
    have f73 := (Vb_.keep K62 nin0)
    obtain ⟨la74, T74, h74, k174, lb74, kb74, X74, e74, E74, hS74, hk74, hZ, hown, A74, Fc74, Fv74, V74, lt74, lu74, CRn74, Lt74, Sf74, st74⟩ := ldcCH X62 hx hZ hown (text := "create") (ow hw 0 rfl) wS rfl hS62 (Nat.le_refl T62.heap.size) hEL (List.mem_of_getElem? (i := 0) rfl) CR63.1 (vs := [(.int 99), (.int 114), (.int 101), (.int 97), (.int 116), (.int 101)]) (z := (6 : Int32)) ⟨by decide, by rfl⟩ (by decide) rfl (g := (mkF m 231 #[.val (.int ww_), .val (.int wl), .val (.int wa), .val (.int wb), .val (.int wm), .val (.int vk), .val (.ref la), .val (.int bl), .val (.int vn), .val (.int vmu), .val (.int vp), .val (.int c0), .val (.int c1), .val (.int c2), .val (.int c3), .val (.int c4), .val (.int c5), .val (.int c6), .val (.ref sa), .val .null] [(.ref sa)])) rfl (hb hby at_231) (n := 24) (by decide) (by decide) (by decide) (by decide)
    have CR75 := CR63.trans CRn74
    have Zs76 : n0 ≤ h74.size := Nat.le_trans Zs64 E74.1
    have pre77 : oP p e below (T74.setTop (mkF m 233 #[.val (.int ww_), .val (.int wl), .val (.int wa), .val (.int wb), .val (.int wm), .val (.int vk), .val (.ref la), .val (.int bl), .val (.int vn), .val (.int vmu), .val (.int vp), .val (.int c0), .val (.int c1), .val (.int c2), .val (.int c3), .val (.int c4), .val (.int c5), .val (.int c6), .val (.ref sa), .val .null] [(.ref la74), (.ref sa)])) (SS) := fun t kt => by
      refine pre71 _ ?_
      refine st74 _ ?_
      exact kt
    have os78 := (own_st_ext (own_st_keep os31 K62 ns0) E74)
    have f79 := (Esa.ext E74)
    have f80 := (Fcsa.ext E74)
    have f81 := (Fvsa.ext E74)
    have f82 := (Vob.ext E74)
    obtain ⟨cq83, kq83, q83a, q83b, q83c⟩ := isOf hZ e74 f79
    obtain ⟨_, _, ⟨T83, L83, k83, n83⟩, -, X83, ⟨Lc83, hQ83, l83, y83, z83⟩, st83⟩ := X74.virtualBack hx (y := yn1) (z := yn1) hown (mvT hZ (ow hw 93 rfl)) (mvT hZ (ow hw 85 rfl)) (notFace_of_selects (args := #[]) (mvT hZ (ow hw 87 rfl))) (mvT hZ (ow hw 87 rfl)) (mvT hZ (ow hw 86 rfl)) (by decide) (backOf (W := 0) (rm_qB6 l Z a0 hw [] sa la74 vcs vf ob lb74 kb74 kb zn vs (99 : Int32) (114 : Int32) (101 : Int32) (97 : Int32) (116 : Int32) (101 : Int32) h74 n0 Zs76 os78 A74 Fc74 Fv74 V74 f79 f80 f81 f82) hZ (ow hw 88 rfl) (ow hw 1 rfl) (by decide) (by decide)) q83a q83c (g := (mkF m 233 #[.val (.int ww_), .val (.int wl), .val (.int wa), .val (.int wb), .val (.int wm), .val (.int vk), .val (.ref la), .val (.int bl), .val (.int vn), .val (.int vmu), .val (.int vp), .val (.int c0), .val (.int c1), .val (.int c2), .val (.int c3), .val (.int c4), .val (.int c5), .val (.int c6), .val (.ref sa), .val .null] [(.ref la74), (.ref sa)])) rfl (by rw [hml]; rfl) (Steps.refl _) (argsL := [(.ref la74)]) (rest := []) (lenOf pd_14 rfl) rfl (by exact Nat.le_of_eq rfl) (hb hby at_233) (fun _ _ => ⟨rfl, e74, (by decide : 10 + 0 ≤ _), (by decide : 74 + 0 ≤ _)⟩)
    dsimp only [Pt.U, Pt.locs, Pt.cells, Pt.slots] at X83 l83 y83 z83 st83 hQ83
    rw [l83, y83, z83] at X83
    obtain ⟨zq0, rfl, hzq0, N83q, e83⟩ := hQ83
    have N83 := Fr.app N62 N83q
    have pre84 : oP p e below (T83.setTop (mkF m 236 #[.val (.int ww_), .val (.int wl), .val (.int wa), .val (.int wb), .val (.int wm), .val (.int vk), .val (.ref la), .val (.int bl), .val (.int vn), .val (.int vmu), .val (.int vp), .val (.int c0), .val (.int c1), .val (.int c2), .val (.int c3), .val (.int c4), .val (.int c5), .val (.int c6), .val (.ref sa), .val .null] [(.int zq0)])) (SS) := fun t kt => by
      refine pre77 _ ?_
      refine st83.trans ?_
      exact kt
    rcases hzq0 with ⟨rfl, hp0⟩ | ⟨rfl, hn0⟩
    · have pre85 : oP p e below (T83.setTop (mkF m 236 #[.val (.int ww_), .val (.int wl), .val (.int wa), .val (.int wb), .val (.int wm), .val (.int vk), .val (.ref la), .val (.int bl), .val (.int vn), .val (.int vmu), .val (.int vp), .val (.int c0), .val (.int c1), .val (.int c2), .val (.int c3), .val (.int c4), .val (.int c5), .val (.int c6), .val (.ref sa), .val .null] [(.int 1)])) (SS) := pre84
      have hc236_86 : ¬ ((1 : Int) = (0 : Int)) := by decide
      have pm87 := (own_pm_ext (own_pm_keep (own_pm_ext Pm Eb) K62) E74)
      obtain ⟨T88, X88, e88, st88⟩ := getS2 X83 hx hZ hown (host := "") (Or.inl (ow hw 103 rfl)) Via.refl e83 pm87.2.1 (g := (mkF m 239 #[.val (.int ww_), .val (.int wl), .val (.int wa), .val (.int wb), .val (.int wm), .val (.int vk), .val (.ref la), .val (.int bl), .val (.int vn), .val (.int vmu), .val (.int vp), .val (.int c0), .val (.int c1), .val (.int c2), .val (.int c3), .val (.int c4), .val (.int c5), .val (.int c6), .val (.ref sa), .val .null] [])) rfl (hb hby at_239)
      have pre89 : oP p e below (T88.setTop (mkF m 300 #[.val (.int ww_), .val (.int wl), .val (.int wa), .val (.int wb), .val (.int wm), .val (.int vk), .val (.ref la), .val (.int bl), .val (.int vn), .val (.int vmu), .val (.int vp), .val (.int c0), .val (.int c1), .val (.int c2), .val (.int c3), .val (.int c4), .val (.int c5), .val (.int c6), .val (.ref sa), .val (.ref (pp 0))] [(.ref sa)])) (SS) := fun t kt => by
        refine pre85 _ ?_
        refine XS.ifNo X83.here hx rfl (hb hby at_236) rfl (own_if (own_feq (a := (1 : Int32)) (b := (0 : Int32)) (by decide) (by decide) hc236_86).1) ?_
        refine st88 _ ?_
        refine XS.astore X88.here hx rfl (hb hby at_242) rfl rfl (l' := #[.val (.int ww_), .val (.int wl), .val (.int wa), .val (.int wb), .val (.int wm), .val (.int vk), .val (.ref la), .val (.int bl), .val (.int vn), .val (.int vmu), .val (.int vp), .val (.int c0), .val (.int c1), .val (.int c2), .val (.int c3), .val (.int c4), .val (.int c5), .val (.int c6), .val (.ref sa), .val (.ref (pp 0))]) rfl ?_
        refine XS.goto X88.here hx rfl (pc0 := 244) (pc' := 298) rfl (hb hby at_244) (by decide) (by decide) ?_
        show Steps p.tables e below (T88.setTop (mkF m 298 #[.val (.int ww_), .val (.int wl), .val (.int wa), .val (.int wb), .val (.int wm), .val (.int vk), .val (.ref la), .val (.int bl), .val (.int vn), .val (.int vmu), .val (.int vp), .val (.int c0), .val (.int c1), .val (.int c2), .val (.int c3), .val (.int c4), .val (.int c5), .val (.int c6), .val (.ref sa), .val (.ref (pp 0))] [])) _
        refine XS.aload X88.here hx rfl (hb hby at_298) rfl rfl ?_
        exact kt
      obtain ⟨_, _, ⟨T90, L90, k90, n90⟩, -, X90, ⟨Lc90, hQ90, l90, y90, z90⟩, st90⟩ := Jvm.LawKit.callS X88 hx (y := yn17) hown (mvT hZ (ow hw 75 rfl)) (mvT hZ (ow hw 76 rfl)) (mvT hZ (ow hw 77 rfl)) (mvT hZ (ow hw 78 rfl)) (by decide) (backOf (W := 0) (rm_named l Z a0 hw [] sa vcs vf pA kA pp ww bb kk ob kb zn vs h74 n0 Zs76 os78 pm87 f79 f80 f81 f82) hZ (ow hw 78 rfl) (ow hw 77 rfl) (by decide) (by decide)) (g := (mkF m 300 #[.val (.int ww_), .val (.int wl), .val (.int wa), .val (.int wb), .val (.int wm), .val (.int vk), .val (.ref la), .val (.int bl), .val (.int vn), .val (.int vmu), .val (.int vp), .val (.int c0), .val (.int c1), .val (.int c2), .val (.int c3), .val (.int c4), .val (.int c5), .val (.int c6), .val (.ref sa), .val (.ref (pp 0))] [(.ref sa)])) rfl (by rw [hml]; rfl) (argsL := [(.ref sa)]) (rest := []) (lenOf pd_17 rfl) rfl (by exact Nat.le_of_eq rfl) (hb hby at_300) (fun _ _ => ⟨rfl, e88, (by decide : 10 + 0 ≤ _), (by decide : 74 + 0 ≤ _)⟩)
      dsimp only [Pt.U, Pt.locs, Pt.cells, Pt.slots] at X90 l90 y90 z90 st90 hQ90
      rw [l90, y90, z90] at X90
      obtain ⟨rv, rfl, hrv, N90q, e90⟩ := hQ90
      have N90 := Fr.app N83 N90q
      have pre91 : oP p e below (T90.setTop (mkF m 303 #[.val (.int ww_), .val (.int wl), .val (.int wa), .val (.int wb), .val (.int wm), .val (.int vk), .val (.ref la), .val (.int bl), .val (.int vn), .val (.int vmu), .val (.int vp), .val (.int c0), .val (.int c1), .val (.int c2), .val (.int c3), .val (.int c4), .val (.int c5), .val (.int c6), .val (.ref sa), .val (.ref (pp 0))] [rv])) (SS) := fun t kt => by
        refine pre89 _ ?_
        refine st90 _ ?_
        exact kt
      have erv : rv = (.ref (pp 0)) := by
        rcases hrv with ⟨q, p⟩ | ⟨q, m0, p⟩ | ⟨q, m0, m1, p⟩ | ⟨q, m0, m1, m2, p⟩ | ⟨q, m0, m1, m2, m3⟩
        · exact q
        · exact absurd hp0 m0
        · exact absurd hp0 m0
        · exact absurd hp0 m0
        · exact absurd hp0 m0
      subst erv
      have pre92 : oP p e below (T90.setTop (mkF m 303 #[.val (.int ww_), .val (.int wl), .val (.int wa), .val (.int wb), .val (.int wm), .val (.int vk), .val (.ref la), .val (.int bl), .val (.int vn), .val (.int vmu), .val (.int vp), .val (.int c0), .val (.int c1), .val (.int c2), .val (.int c3), .val (.int c4), .val (.int c5), .val (.int c6), .val (.ref sa), .val (.ref (pp 0))] [(.ref (pp 0))])) (SS) := pre91
      subst hSS
      obtain ⟨fs, hr, hrun, hended, hREW⟩ := X90.leaveW hS74 (by rw [e90]; exact hk74) (v := some (.int 1)) (fun h => by rw [Bd.returns] at h; cases h)
      refine ⟨_, _, pre92 _ ?_, hrun, hended, _, _, rfl, ?_, ?_, ⟨hREW.1, hREW.2.1, hREW.2.2.1, hREW.2.2.2.mono (by decide) (by decide)⟩⟩
      · refine XS.aload X90.here hx rfl (hb hby at_303) rfl rfl ?_
        refine Jvm.RoadKit.acmp (g := (mkF m 305 #[.val (.int ww_), .val (.int wl), .val (.int wa), .val (.int wb), .val (.int wm), .val (.int vk), .val (.ref la), .val (.int bl), .val (.int vn), .val (.int vmu), .val (.int vp), .val (.int c0), .val (.int c1), .val (.int c2), .val (.int c3), .val (.int c4), .val (.int c5), .val (.int c6), .val (.ref sa), .val (.ref (pp 0))] [(.ref (pp 0)), (.ref (pp 0))])) X90 hx rfl rfl rfl (pc0 := 305) (pc' := 308) (same := true) rfl (hb hby at_305) rfl (decide_eq_true rfl) (by decide) (by decide) ?_
        refine XS.iconst X90.here hx rfl (hb hby at_308) ?_
        refine XS.goto X90.here hx rfl (pc0 := 309) (pc' := 313) rfl (hb hby at_309) (by decide) (by decide) ?_
        exact retN X90 hx (t := .boolean) Bd.returns (by simp) (hb hby at_313) hr
      · show Q0 Z _ _ _ _ _ _ _ _ _ _ _ _ _ h0 n0 _ T90.heap _
        rw [e90]
        exact ⟨rfl, N90⟩
      · show CHr Z own_EL s.vm s.heap T90.vm T90.heap
        rw [hh, e90]
        exact CR75.trans (CHv.at X90 hZ hEL CR75.1)
    · have pre93 : oP p e below (T83.setTop (mkF m 236 #[.val (.int ww_), .val (.int wl), .val (.int wa), .val (.int wb), .val (.int wm), .val (.int vk), .val (.ref la), .val (.int bl), .val (.int vn), .val (.int vmu), .val (.int vp), .val (.int c0), .val (.int c1), .val (.int c2), .val (.int c3), .val (.int c4), .val (.int c5), .val (.int c6), .val (.ref sa), .val .null] [(.int 0)])) (SS) := pre84
      have hc236_94 : (0 : Int) = (0 : Int) := by decide
      have pre95 : oP p e below (T83.setTop (mkF m 249 #[.val (.int ww_), .val (.int wl), .val (.int wa), .val (.int wb), .val (.int wm), .val (.int vk), .val (.ref la), .val (.int bl), .val (.int vn), .val (.int vmu), .val (.int vp), .val (.int c0), .val (.int c1), .val (.int c2), .val (.int c3), .val (.int c4), .val (.int c5), .val (.int c6), .val (.ref sa), .val .null] [(.ref sa)])) (SS) := fun t kt => by
        refine pre93 _ ?_
        refine XS.ifYes X83.here hx rfl (pc0 := 236) (pc' := 247) rfl (hb hby at_236) rfl (own_if (own_teq (a := (0 : Int32)) (b := (0 : Int32)) (by decide) (by decide) hc236_94).1) (by decide) (by decide) ?_
        refine XS.aload X83.here hx rfl (hb hby at_247) rfl rfl ?_
        exact kt
      have f96 := (f72.ext E74)
      have f97 := (f73.ext E74)
      obtain ⟨la98, T98, h98, k198, lb98, kb98, X98, e98, E98, hS98, hk98, hZ, hown, A98, Fc98, Fv98, V98, lt98, lu98, CRn98, Lt98, Sf98, st98⟩ := ldcCH X83 hx hZ hown (text := "read") (ow hw 98 rfl) wS e83 hS74 hk74 hEL (List.mem_of_getElem? (i := 1) rfl) CR75.1 (vs := [(.int 114), (.int 101), (.int 97), (.int 100)]) (z := (4 : Int32)) ⟨by decide, by rfl⟩ (by decide) rfl (g := (mkF m 249 #[.val (.int ww_), .val (.int wl), .val (.int wa), .val (.int wb), .val (.int wm), .val (.int vk), .val (.ref la), .val (.int bl), .val (.int vn), .val (.int vmu), .val (.int vp), .val (.int c0), .val (.int c1), .val (.int c2), .val (.int c3), .val (.int c4), .val (.int c5), .val (.int c6), .val (.ref sa), .val .null] [(.ref sa)])) rfl (hb hby at_249) (n := 24) (by decide) (by decide) (by decide) (by decide)
      have CR99 := CR75.trans CRn98
      have Zs100 : n0 ≤ h98.size := Nat.le_trans Zs76 E98.1
      have pre101 : oP p e below (T98.setTop (mkF m 251 #[.val (.int ww_), .val (.int wl), .val (.int wa), .val (.int wb), .val (.int wm), .val (.int vk), .val (.ref la), .val (.int bl), .val (.int vn), .val (.int vmu), .val (.int vp), .val (.int c0), .val (.int c1), .val (.int c2), .val (.int c3), .val (.int c4), .val (.int c5), .val (.int c6), .val (.ref sa), .val .null] [(.ref la98), (.ref sa)])) (SS) := fun t kt => by
        refine pre95 _ ?_
        refine st98 _ ?_
        exact kt
      have os102 := (own_st_ext os78 E98)
      have f103 := (f79.ext E98)
      have f104 := (f80.ext E98)
      have f105 := (f81.ext E98)
      have f106 := (f82.ext E98)
      obtain ⟨cq107, kq107, q107a, q107b, q107c⟩ := isOf hZ e98 f103
      obtain ⟨_, _, ⟨T107, L107, k107, n107⟩, -, X107, ⟨Lc107, hQ107, l107, y107, z107⟩, st107⟩ := X98.virtualBack hx (y := yn1) (z := yn1) hown (mvT hZ (ow hw 93 rfl)) (mvT hZ (ow hw 85 rfl)) (notFace_of_selects (args := #[]) (mvT hZ (ow hw 87 rfl))) (mvT hZ (ow hw 87 rfl)) (mvT hZ (ow hw 86 rfl)) (by decide) (backOf (W := 0) (rm_qB4 l Z a0 hw [] sa la98 vcs vf ob lb98 kb98 kb zn vs (114 : Int32) (101 : Int32) (97 : Int32) (100 : Int32) h98 n0 Zs100 os102 A98 Fc98 Fv98 V98 f103 f104 f105 f106) hZ (ow hw 88 rfl) (ow hw 1 rfl) (by decide) (by decide)) q107a q107c (g := (mkF m 251 #[.val (.int ww_), .val (.int wl), .val (.int wa), .val (.int wb), .val (.int wm), .val (.int vk), .val (.ref la), .val (.int bl), .val (.int vn), .val (.int vmu), .val (.int vp), .val (.int c0), .val (.int c1), .val (.int c2), .val (.int c3), .val (.int c4), .val (.int c5), .val (.int c6), .val (.ref sa), .val .null] [(.ref la98), (.ref sa)])) rfl (by rw [hml]; rfl) (Steps.refl _) (argsL := [(.ref la98)]) (rest := []) (lenOf pd_14 rfl) rfl (by exact Nat.le_of_eq rfl) (hb hby at_251) (fun _ _ => ⟨rfl, e98, (by decide : 12 + 0 ≤ _), (by decide : 102 + 0 ≤ _)⟩)
      dsimp only [Pt.U, Pt.locs, Pt.cells, Pt.slots] at X107 l107 y107 z107 st107 hQ107
      rw [l107, y107, z107] at X107
      obtain ⟨zq1, rfl, hzq1, N107q, e107⟩ := hQ107
      have N107 := Fr.app N83 N107q
      have pre108 : oP p e below (T107.setTop (mkF m 254 #[.val (.int ww_), .val (.int wl), .val (.int wa), .val (.int wb), .val (.int wm), .val (.int vk), .val (.ref la), .val (.int bl), .val (.int vn), .val (.int vmu), .val (.int vp), .val (.int c0), .val (.int c1), .val (.int c2), .val (.int c3), .val (.int c4), .val (.int c5), .val (.int c6), .val (.ref sa), .val .null] [(.int zq1)])) (SS) := fun t kt => by
        refine pre101 _ ?_
        refine st107.trans ?_
        exact kt
      rcases hzq1 with ⟨rfl, hp1⟩ | ⟨rfl, hn1⟩
      · have pre109 : oP p e below (T107.setTop (mkF m 254 #[.val (.int ww_), .val (.int wl), .val (.int wa), .val (.int wb), .val (.int wm), .val (.int vk), .val (.ref la), .val (.int bl), .val (.int vn), .val (.int vmu), .val (.int vp), .val (.int c0), .val (.int c1), .val (.int c2), .val (.int c3), .val (.int c4), .val (.int c5), .val (.int c6), .val (.ref sa), .val .null] [(.int 1)])) (SS) := pre108
        have hc254_110 : ¬ ((1 : Int) = (0 : Int)) := by decide
        have pm111 := (own_pm_ext (own_pm_ext (own_pm_keep (own_pm_ext Pm Eb) K62) E74) E98)
        obtain ⟨T112, X112, e112, st112⟩ := getS2 X107 hx hZ hown (host := "") (Or.inl (ow hw 100 rfl)) Via.refl e107 pm111.2.2.1 (g := (mkF m 257 #[.val (.int ww_), .val (.int wl), .val (.int wa), .val (.int wb), .val (.int wm), .val (.int vk), .val (.ref la), .val (.int bl), .val (.int vn), .val (.int vmu), .val (.int vp), .val (.int c0), .val (.int c1), .val (.int c2), .val (.int c3), .val (.int c4), .val (.int c5), .val (.int c6), .val (.ref sa), .val .null] [])) rfl (hb hby at_257)
        have pre113 : oP p e below (T112.setTop (mkF m 300 #[.val (.int ww_), .val (.int wl), .val (.int wa), .val (.int wb), .val (.int wm), .val (.int vk), .val (.ref la), .val (.int bl), .val (.int vn), .val (.int vmu), .val (.int vp), .val (.int c0), .val (.int c1), .val (.int c2), .val (.int c3), .val (.int c4), .val (.int c5), .val (.int c6), .val (.ref sa), .val (.ref (pp 1))] [(.ref sa)])) (SS) := fun t kt => by
          refine pre109 _ ?_
          show Steps p.tables e below (T107.setTop (mkF m 254 #[.val (.int ww_), .val (.int wl), .val (.int wa), .val (.int wb), .val (.int wm), .val (.int vk), .val (.ref la), .val (.int bl), .val (.int vn), .val (.int vmu), .val (.int vp), .val (.int c0), .val (.int c1), .val (.int c2), .val (.int c3), .val (.int c4), .val (.int c5), .val (.int c6), .val (.ref sa), .val .null] [(.int 1)])) _
          refine XS.ifNo X107.here hx rfl (hb hby at_254) rfl (own_if (own_feq (a := (1 : Int32)) (b := (0 : Int32)) (by decide) (by decide) hc254_110).1) ?_
          refine st112 _ ?_
          refine XS.astore X112.here hx rfl (hb hby at_260) rfl rfl (l' := #[.val (.int ww_), .val (.int wl), .val (.int wa), .val (.int wb), .val (.int wm), .val (.int vk), .val (.ref la), .val (.int bl), .val (.int vn), .val (.int vmu), .val (.int vp), .val (.int c0), .val (.int c1), .val (.int c2), .val (.int c3), .val (.int c4), .val (.int c5), .val (.int c6), .val (.ref sa), .val (.ref (pp 1))]) rfl ?_
          refine XS.goto X112.here hx rfl (pc0 := 262) (pc' := 298) rfl (hb hby at_262) (by decide) (by decide) ?_
          refine XS.aload X112.here hx rfl (hb hby at_298) rfl rfl ?_
          exact kt
        obtain ⟨_, _, ⟨T114, L114, k114, n114⟩, -, X114, ⟨Lc114, hQ114, l114, y114, z114⟩, st114⟩ := Jvm.LawKit.callS X112 hx (y := yn17) hown (mvT hZ (ow hw 75 rfl)) (mvT hZ (ow hw 76 rfl)) (mvT hZ (ow hw 77 rfl)) (mvT hZ (ow hw 78 rfl)) (by decide) (backOf (W := 0) (rm_named l Z a0 hw [] sa vcs vf pA kA pp ww bb kk ob kb zn vs h98 n0 Zs100 os102 pm111 f103 f104 f105 f106) hZ (ow hw 78 rfl) (ow hw 77 rfl) (by decide) (by decide)) (g := (mkF m 300 #[.val (.int ww_), .val (.int wl), .val (.int wa), .val (.int wb), .val (.int wm), .val (.int vk), .val (.ref la), .val (.int bl), .val (.int vn), .val (.int vmu), .val (.int vp), .val (.int c0), .val (.int c1), .val (.int c2), .val (.int c3), .val (.int c4), .val (.int c5), .val (.int c6), .val (.ref sa), .val (.ref (pp 1))] [(.ref sa)])) rfl (by rw [hml]; rfl) (argsL := [(.ref sa)]) (rest := []) (lenOf pd_17 rfl) rfl (by exact Nat.le_of_eq rfl) (hb hby at_300) (fun _ _ => ⟨rfl, e112, (by decide : 12 + 0 ≤ _), (by decide : 102 + 0 ≤ _)⟩)
        dsimp only [Pt.U, Pt.locs, Pt.cells, Pt.slots] at X114 l114 y114 z114 st114 hQ114
        rw [l114, y114, z114] at X114
        obtain ⟨rv, rfl, hrv, N114q, e114⟩ := hQ114
        have N114 := Fr.app N107 N114q
        have pre115 : oP p e below (T114.setTop (mkF m 303 #[.val (.int ww_), .val (.int wl), .val (.int wa), .val (.int wb), .val (.int wm), .val (.int vk), .val (.ref la), .val (.int bl), .val (.int vn), .val (.int vmu), .val (.int vp), .val (.int c0), .val (.int c1), .val (.int c2), .val (.int c3), .val (.int c4), .val (.int c5), .val (.int c6), .val (.ref sa), .val (.ref (pp 1))] [rv])) (SS) := fun t kt => by
          refine pre113 _ ?_
          refine st114 _ ?_
          exact kt
        have erv : rv = (.ref (pp 1)) := by
          rcases hrv with ⟨q, p⟩ | ⟨q, m0, p⟩ | ⟨q, m0, m1, p⟩ | ⟨q, m0, m1, m2, p⟩ | ⟨q, m0, m1, m2, m3⟩
          · exact absurd p hn0
          · exact q
          · exact absurd hp1 m1
          · exact absurd hp1 m1
          · exact absurd hp1 m1
        subst erv
        have pre116 : oP p e below (T114.setTop (mkF m 303 #[.val (.int ww_), .val (.int wl), .val (.int wa), .val (.int wb), .val (.int wm), .val (.int vk), .val (.ref la), .val (.int bl), .val (.int vn), .val (.int vmu), .val (.int vp), .val (.int c0), .val (.int c1), .val (.int c2), .val (.int c3), .val (.int c4), .val (.int c5), .val (.int c6), .val (.ref sa), .val (.ref (pp 1))] [(.ref (pp 1))])) (SS) := pre115
        subst hSS
        obtain ⟨fs, hr, hrun, hended, hREW⟩ := X114.leaveW hS98 (by rw [e114]; exact hk98) (v := some (.int 1)) (fun h => by rw [Bd.returns] at h; cases h)
        refine ⟨_, _, pre116 _ ?_, hrun, hended, _, _, rfl, ?_, ?_, ⟨hREW.1, hREW.2.1, hREW.2.2.1, hREW.2.2.2.mono (by decide) (by decide)⟩⟩
        · refine XS.aload X114.here hx rfl (hb hby at_303) rfl rfl ?_
          refine Jvm.RoadKit.acmp (g := (mkF m 305 #[.val (.int ww_), .val (.int wl), .val (.int wa), .val (.int wb), .val (.int wm), .val (.int vk), .val (.ref la), .val (.int bl), .val (.int vn), .val (.int vmu), .val (.int vp), .val (.int c0), .val (.int c1), .val (.int c2), .val (.int c3), .val (.int c4), .val (.int c5), .val (.int c6), .val (.ref sa), .val (.ref (pp 1))] [(.ref (pp 1)), (.ref (pp 1))])) X114 hx rfl rfl rfl (pc0 := 305) (pc' := 308) (same := true) rfl (hb hby at_305) rfl (decide_eq_true rfl) (by decide) (by decide) ?_
          refine XS.iconst X114.here hx rfl (hb hby at_308) ?_
          refine XS.goto X114.here hx rfl (pc0 := 309) (pc' := 313) rfl (hb hby at_309) (by decide) (by decide) ?_
          exact retN X114 hx (t := .boolean) Bd.returns (by simp) (hb hby at_313) hr
        · show Q0 Z _ _ _ _ _ _ _ _ _ _ _ _ _ h0 n0 _ T114.heap _
          rw [e114]
          exact ⟨rfl, N114⟩
        · show CHr Z own_EL s.vm s.heap T114.vm T114.heap
          rw [hh, e114]
          exact CR99.trans (CHv.at X114 hZ hEL CR99.1)
      · have pre117 : oP p e below (T107.setTop (mkF m 254 #[.val (.int ww_), .val (.int wl), .val (.int wa), .val (.int wb), .val (.int wm), .val (.int vk), .val (.ref la), .val (.int bl), .val (.int vn), .val (.int vmu), .val (.int vp), .val (.int c0), .val (.int c1), .val (.int c2), .val (.int c3), .val (.int c4), .val (.int c5), .val (.int c6), .val (.ref sa), .val .null] [(.int 0)])) (SS) := pre108
        have hc254_118 : (0 : Int) = (0 : Int) := by decide
        have pre119 : oP p e below (T107.setTop (mkF m 267 #[.val (.int ww_), .val (.int wl), .val (.int wa), .val (.int wb), .val (.int wm), .val (.int vk), .val (.ref la), .val (.int bl), .val (.int vn), .val (.int vmu), .val (.int vp), .val (.int c0), .val (.int c1), .val (.int c2), .val (.int c3), .val (.int c4), .val (.int c5), .val (.int c6), .val (.ref sa), .val .null] [(.ref sa)])) (SS) := fun t kt => by
          refine pre117 _ ?_
          show Steps p.tables e below (T107.setTop (mkF m 254 #[.val (.int ww_), .val (.int wl), .val (.int wa), .val (.int wb), .val (.int wm), .val (.int vk), .val (.ref la), .val (.int bl), .val (.int vn), .val (.int vmu), .val (.int vp), .val (.int c0), .val (.int c1), .val (.int c2), .val (.int c3), .val (.int c4), .val (.int c5), .val (.int c6), .val (.ref sa), .val .null] [(.int 0)])) _
          refine XS.ifYes X107.here hx rfl (pc0 := 254) (pc' := 265) rfl (hb hby at_254) rfl (own_if (own_teq (a := (0 : Int32)) (b := (0 : Int32)) (by decide) (by decide) hc254_118).1) (by decide) (by decide) ?_
          refine XS.aload X107.here hx rfl (hb hby at_265) rfl rfl ?_
          exact kt
        have f120 := (f96.ext E98)
        have f121 := (f97.ext E98)
        have f122 := (A74.ext E98)
        have f123 := (V74.ext E98)
        obtain ⟨la124, T124, h124, k1124, lb124, kb124, X124, e124, E124, hS124, hk124, hZ, hown, A124, Fc124, Fv124, V124, lt124, lu124, CRn124, Lt124, Sf124, st124⟩ := ldcCH X107 hx hZ hown (text := "update") (ow hw 99 rfl) wS e107 hS98 hk98 hEL (List.mem_of_getElem? (i := 2) rfl) CR99.1 (vs := [(.int 117), (.int 112), (.int 100), (.int 97), (.int 116), (.int 101)]) (z := (6 : Int32)) ⟨by decide, by rfl⟩ (by decide) rfl (g := (mkF m 267 #[.val (.int ww_), .val (.int wl), .val (.int wa), .val (.int wb), .val (.int wm), .val (.int vk), .val (.ref la), .val (.int bl), .val (.int vn), .val (.int vmu), .val (.int vp), .val (.int c0), .val (.int c1), .val (.int c2), .val (.int c3), .val (.int c4), .val (.int c5), .val (.int c6), .val (.ref sa), .val .null] [(.ref sa)])) rfl (hb hby at_267) (n := 24) (by decide) (by decide) (by decide) (by decide)
        have CR125 := CR99.trans CRn124
        have Zs126 : n0 ≤ h124.size := Nat.le_trans Zs100 E124.1
        have pre127 : oP p e below (T124.setTop (mkF m 269 #[.val (.int ww_), .val (.int wl), .val (.int wa), .val (.int wb), .val (.int wm), .val (.int vk), .val (.ref la), .val (.int bl), .val (.int vn), .val (.int vmu), .val (.int vp), .val (.int c0), .val (.int c1), .val (.int c2), .val (.int c3), .val (.int c4), .val (.int c5), .val (.int c6), .val (.ref sa), .val .null] [(.ref la124), (.ref sa)])) (SS) := fun t kt => by
          refine pre119 _ ?_
          refine st124 _ ?_
          exact kt
        have os128 := (own_st_ext os102 E124)
        have f129 := (f103.ext E124)
        have f130 := (f104.ext E124)
        have f131 := (f105.ext E124)
        have f132 := (f106.ext E124)
        obtain ⟨cq133, kq133, q133a, q133b, q133c⟩ := isOf hZ e124 f129
        obtain ⟨_, _, ⟨T133, L133, k133, n133⟩, -, X133, ⟨Lc133, hQ133, l133, y133, z133⟩, st133⟩ := X124.virtualBack hx (y := yn1) (z := yn1) hown (mvT hZ (ow hw 93 rfl)) (mvT hZ (ow hw 85 rfl)) (notFace_of_selects (args := #[]) (mvT hZ (ow hw 87 rfl))) (mvT hZ (ow hw 87 rfl)) (mvT hZ (ow hw 86 rfl)) (by decide) (backOf (W := 0) (rm_qB6 l Z a0 hw [] sa la124 vcs vf ob lb124 kb124 kb zn vs (117 : Int32) (112 : Int32) (100 : Int32) (97 : Int32) (116 : Int32) (101 : Int32) h124 n0 Zs126 os128 A124 Fc124 Fv124 V124 f129 f130 f131 f132) hZ (ow hw 88 rfl) (ow hw 1 rfl) (by decide) (by decide)) q133a q133c (g := (mkF m 269 #[.val (.int ww_), .val (.int wl), .val (.int wa), .val (.int wb), .val (.int wm), .val (.int vk), .val (.ref la), .val (.int bl), .val (.int vn), .val (.int vmu), .val (.int vp), .val (.int c0), .val (.int c1), .val (.int c2), .val (.int c3), .val (.int c4), .val (.int c5), .val (.int c6), .val (.ref sa), .val .null] [(.ref la124), (.ref sa)])) rfl (by rw [hml]; rfl) (Steps.refl _) (argsL := [(.ref la124)]) (rest := []) (lenOf pd_14 rfl) rfl (by exact Nat.le_of_eq rfl) (hb hby at_269) (fun _ _ => ⟨rfl, e124, (by decide : 14 + 0 ≤ _), (by decide : 130 + 0 ≤ _)⟩)
        dsimp only [Pt.U, Pt.locs, Pt.cells, Pt.slots] at X133 l133 y133 z133 st133 hQ133
        rw [l133, y133, z133] at X133
        obtain ⟨zq2, rfl, hzq2, N133q, e133⟩ := hQ133
        have N133 := Fr.app N107 N133q
        have pre134 : oP p e below (T133.setTop (mkF m 272 #[.val (.int ww_), .val (.int wl), .val (.int wa), .val (.int wb), .val (.int wm), .val (.int vk), .val (.ref la), .val (.int bl), .val (.int vn), .val (.int vmu), .val (.int vp), .val (.int c0), .val (.int c1), .val (.int c2), .val (.int c3), .val (.int c4), .val (.int c5), .val (.int c6), .val (.ref sa), .val .null] [(.int zq2)])) (SS) := fun t kt => by
          refine pre127 _ ?_
          refine st133.trans ?_
          exact kt
        rcases hzq2 with ⟨rfl, hp2⟩ | ⟨rfl, hn2⟩
        · have pre135 : oP p e below (T133.setTop (mkF m 272 #[.val (.int ww_), .val (.int wl), .val (.int wa), .val (.int wb), .val (.int wm), .val (.int vk), .val (.ref la), .val (.int bl), .val (.int vn), .val (.int vmu), .val (.int vp), .val (.int c0), .val (.int c1), .val (.int c2), .val (.int c3), .val (.int c4), .val (.int c5), .val (.int c6), .val (.ref sa), .val .null] [(.int 1)])) (SS) := pre134
          have hc272_136 : ¬ ((1 : Int) = (0 : Int)) := by decide
          have pm137 := (own_pm_ext (own_pm_ext (own_pm_ext (own_pm_keep (own_pm_ext Pm Eb) K62) E74) E98) E124)
          obtain ⟨T138, X138, e138, st138⟩ := getS2 X133 hx hZ hown (host := "") (Or.inl (ow hw 102 rfl)) Via.refl e133 pm137.2.2.2.1 (g := (mkF m 275 #[.val (.int ww_), .val (.int wl), .val (.int wa), .val (.int wb), .val (.int wm), .val (.int vk), .val (.ref la), .val (.int bl), .val (.int vn), .val (.int vmu), .val (.int vp), .val (.int c0), .val (.int c1), .val (.int c2), .val (.int c3), .val (.int c4), .val (.int c5), .val (.int c6), .val (.ref sa), .val .null] [])) rfl (hb hby at_275)
          have pre139 : oP p e below (T138.setTop (mkF m 300 #[.val (.int ww_), .val (.int wl), .val (.int wa), .val (.int wb), .val (.int wm), .val (.int vk), .val (.ref la), .val (.int bl), .val (.int vn), .val (.int vmu), .val (.int vp), .val (.int c0), .val (.int c1), .val (.int c2), .val (.int c3), .val (.int c4), .val (.int c5), .val (.int c6), .val (.ref sa), .val (.ref (pp 2))] [(.ref sa)])) (SS) := fun t kt => by
            refine pre135 _ ?_
            refine XS.ifNo X133.here hx rfl (hb hby at_272) rfl (own_if (own_feq (a := (1 : Int32)) (b := (0 : Int32)) (by decide) (by decide) hc272_136).1) ?_
            refine st138 _ ?_
            refine XS.astore X138.here hx rfl (hb hby at_278) rfl rfl (l' := #[.val (.int ww_), .val (.int wl), .val (.int wa), .val (.int wb), .val (.int wm), .val (.int vk), .val (.ref la), .val (.int bl), .val (.int vn), .val (.int vmu), .val (.int vp), .val (.int c0), .val (.int c1), .val (.int c2), .val (.int c3), .val (.int c4), .val (.int c5), .val (.int c6), .val (.ref sa), .val (.ref (pp 2))]) rfl ?_
            refine XS.goto X138.here hx rfl (pc0 := 280) (pc' := 298) rfl (hb hby at_280) (by decide) (by decide) ?_
            refine XS.aload X138.here hx rfl (hb hby at_298) rfl rfl ?_
            exact kt
          obtain ⟨_, _, ⟨T140, L140, k140, n140⟩, -, X140, ⟨Lc140, hQ140, l140, y140, z140⟩, st140⟩ := Jvm.LawKit.callS X138 hx (y := yn17) hown (mvT hZ (ow hw 75 rfl)) (mvT hZ (ow hw 76 rfl)) (mvT hZ (ow hw 77 rfl)) (mvT hZ (ow hw 78 rfl)) (by decide) (backOf (W := 0) (rm_named l Z a0 hw [] sa vcs vf pA kA pp ww bb kk ob kb zn vs h124 n0 Zs126 os128 pm137 f129 f130 f131 f132) hZ (ow hw 78 rfl) (ow hw 77 rfl) (by decide) (by decide)) (g := (mkF m 300 #[.val (.int ww_), .val (.int wl), .val (.int wa), .val (.int wb), .val (.int wm), .val (.int vk), .val (.ref la), .val (.int bl), .val (.int vn), .val (.int vmu), .val (.int vp), .val (.int c0), .val (.int c1), .val (.int c2), .val (.int c3), .val (.int c4), .val (.int c5), .val (.int c6), .val (.ref sa), .val (.ref (pp 2))] [(.ref sa)])) rfl (by rw [hml]; rfl) (argsL := [(.ref sa)]) (rest := []) (lenOf pd_17 rfl) rfl (by exact Nat.le_of_eq rfl) (hb hby at_300) (fun _ _ => ⟨rfl, e138, (by decide : 14 + 0 ≤ _), (by decide : 130 + 0 ≤ _)⟩)
          dsimp only [Pt.U, Pt.locs, Pt.cells, Pt.slots] at X140 l140 y140 z140 st140 hQ140
          rw [l140, y140, z140] at X140
          obtain ⟨rv, rfl, hrv, N140q, e140⟩ := hQ140
          have N140 := Fr.app N133 N140q
          have pre141 : oP p e below (T140.setTop (mkF m 303 #[.val (.int ww_), .val (.int wl), .val (.int wa), .val (.int wb), .val (.int wm), .val (.int vk), .val (.ref la), .val (.int bl), .val (.int vn), .val (.int vmu), .val (.int vp), .val (.int c0), .val (.int c1), .val (.int c2), .val (.int c3), .val (.int c4), .val (.int c5), .val (.int c6), .val (.ref sa), .val (.ref (pp 2))] [rv])) (SS) := fun t kt => by
            refine pre139 _ ?_
            refine st140 _ ?_
            exact kt
          have erv : rv = (.ref (pp 2)) := by
            rcases hrv with ⟨q, p⟩ | ⟨q, m0, p⟩ | ⟨q, m0, m1, p⟩ | ⟨q, m0, m1, m2, p⟩ | ⟨q, m0, m1, m2, m3⟩
            · exact absurd p hn0
            · exact absurd p hn1
            · exact q
            · exact absurd hp2 m2
            · exact absurd hp2 m2
          subst erv
          have pre142 : oP p e below (T140.setTop (mkF m 303 #[.val (.int ww_), .val (.int wl), .val (.int wa), .val (.int wb), .val (.int wm), .val (.int vk), .val (.ref la), .val (.int bl), .val (.int vn), .val (.int vmu), .val (.int vp), .val (.int c0), .val (.int c1), .val (.int c2), .val (.int c3), .val (.int c4), .val (.int c5), .val (.int c6), .val (.ref sa), .val (.ref (pp 2))] [(.ref (pp 2))])) (SS) := pre141
          subst hSS
          obtain ⟨fs, hr, hrun, hended, hREW⟩ := X140.leaveW hS124 (by rw [e140]; exact hk124) (v := some (.int 1)) (fun h => by rw [Bd.returns] at h; cases h)
          refine ⟨_, _, pre142 _ ?_, hrun, hended, _, _, rfl, ?_, ?_, ⟨hREW.1, hREW.2.1, hREW.2.2.1, hREW.2.2.2.mono (by decide) (by decide)⟩⟩
          · refine XS.aload X140.here hx rfl (hb hby at_303) rfl rfl ?_
            refine Jvm.RoadKit.acmp (g := (mkF m 305 #[.val (.int ww_), .val (.int wl), .val (.int wa), .val (.int wb), .val (.int wm), .val (.int vk), .val (.ref la), .val (.int bl), .val (.int vn), .val (.int vmu), .val (.int vp), .val (.int c0), .val (.int c1), .val (.int c2), .val (.int c3), .val (.int c4), .val (.int c5), .val (.int c6), .val (.ref sa), .val (.ref (pp 2))] [(.ref (pp 2)), (.ref (pp 2))])) X140 hx rfl rfl rfl (pc0 := 305) (pc' := 308) (same := true) rfl (hb hby at_305) rfl (decide_eq_true rfl) (by decide) (by decide) ?_
            refine XS.iconst X140.here hx rfl (hb hby at_308) ?_
            refine XS.goto X140.here hx rfl (pc0 := 309) (pc' := 313) rfl (hb hby at_309) (by decide) (by decide) ?_
            exact retN X140 hx (t := .boolean) Bd.returns (by simp) (hb hby at_313) hr
          · show Q0 Z _ _ _ _ _ _ _ _ _ _ _ _ _ h0 n0 _ T140.heap _
            rw [e140]
            exact ⟨rfl, N140⟩
          · show CHr Z own_EL s.vm s.heap T140.vm T140.heap
            rw [hh, e140]
            exact CR125.trans (CHv.at X140 hZ hEL CR125.1)
        · have pre143 : oP p e below (T133.setTop (mkF m 272 #[.val (.int ww_), .val (.int wl), .val (.int wa), .val (.int wb), .val (.int wm), .val (.int vk), .val (.ref la), .val (.int bl), .val (.int vn), .val (.int vmu), .val (.int vp), .val (.int c0), .val (.int c1), .val (.int c2), .val (.int c3), .val (.int c4), .val (.int c5), .val (.int c6), .val (.ref sa), .val .null] [(.int 0)])) (SS) := pre134
          have hc272_144 : (0 : Int) = (0 : Int) := by decide
          have pre145 : oP p e below (T133.setTop (mkF m 285 #[.val (.int ww_), .val (.int wl), .val (.int wa), .val (.int wb), .val (.int wm), .val (.int vk), .val (.ref la), .val (.int bl), .val (.int vn), .val (.int vmu), .val (.int vp), .val (.int c0), .val (.int c1), .val (.int c2), .val (.int c3), .val (.int c4), .val (.int c5), .val (.int c6), .val (.ref sa), .val .null] [(.ref sa)])) (SS) := fun t kt => by
            refine pre143 _ ?_
            refine XS.ifYes X133.here hx rfl (pc0 := 272) (pc' := 283) rfl (hb hby at_272) rfl (own_if (own_teq (a := (0 : Int32)) (b := (0 : Int32)) (by decide) (by decide) hc272_144).1) (by decide) (by decide) ?_
            refine XS.aload X133.here hx rfl (hb hby at_283) rfl rfl ?_
            exact kt
          have f146 := (f120.ext E124)
          have f147 := (f121.ext E124)
          have f148 := (f122.ext E124)
          have f149 := (f123.ext E124)
          have f150 := (A98.ext E124)
          have f151 := (V98.ext E124)
          obtain ⟨la152, T152, h152, k1152, lb152, kb152, X152, e152, E152, hS152, hk152, hZ, hown, A152, Fc152, Fv152, V152, lt152, lu152, CRn152, Lt152, Sf152, st152⟩ := ldcCH X133 hx hZ hown (text := "delete") (ow hw 92 rfl) wS e133 hS124 hk124 hEL (List.mem_of_getElem? (i := 3) rfl) CR125.1 (vs := [(.int 100), (.int 101), (.int 108), (.int 101), (.int 116), (.int 101)]) (z := (6 : Int32)) ⟨by decide, by rfl⟩ (by decide) rfl (g := (mkF m 285 #[.val (.int ww_), .val (.int wl), .val (.int wa), .val (.int wb), .val (.int wm), .val (.int vk), .val (.ref la), .val (.int bl), .val (.int vn), .val (.int vmu), .val (.int vp), .val (.int c0), .val (.int c1), .val (.int c2), .val (.int c3), .val (.int c4), .val (.int c5), .val (.int c6), .val (.ref sa), .val .null] [(.ref sa)])) rfl (hb hby at_285) (n := 24) (by decide) (by decide) (by decide) (by decide)
          have CR153 := CR125.trans CRn152
          have Zs154 : n0 ≤ h152.size := Nat.le_trans Zs126 E152.1
          have pre155 : oP p e below (T152.setTop (mkF m 287 #[.val (.int ww_), .val (.int wl), .val (.int wa), .val (.int wb), .val (.int wm), .val (.int vk), .val (.ref la), .val (.int bl), .val (.int vn), .val (.int vmu), .val (.int vp), .val (.int c0), .val (.int c1), .val (.int c2), .val (.int c3), .val (.int c4), .val (.int c5), .val (.int c6), .val (.ref sa), .val .null] [(.ref la152), (.ref sa)])) (SS) := fun t kt => by
            refine pre145 _ ?_
            refine st152 _ ?_
            exact kt
          have os156 := (own_st_ext os128 E152)
          have f157 := (f129.ext E152)
          have f158 := (f130.ext E152)
          have f159 := (f131.ext E152)
          have f160 := (f132.ext E152)
          obtain ⟨cq161, kq161, q161a, q161b, q161c⟩ := isOf hZ e152 f157
          obtain ⟨_, _, ⟨T161, L161, k161, n161⟩, -, X161, ⟨Lc161, hQ161, l161, y161, z161⟩, st161⟩ := X152.virtualBack hx (y := yn1) (z := yn1) hown (mvT hZ (ow hw 93 rfl)) (mvT hZ (ow hw 85 rfl)) (notFace_of_selects (args := #[]) (mvT hZ (ow hw 87 rfl))) (mvT hZ (ow hw 87 rfl)) (mvT hZ (ow hw 86 rfl)) (by decide) (backOf (W := 0) (rm_qB6 l Z a0 hw [] sa la152 vcs vf ob lb152 kb152 kb zn vs (100 : Int32) (101 : Int32) (108 : Int32) (101 : Int32) (116 : Int32) (101 : Int32) h152 n0 Zs154 os156 A152 Fc152 Fv152 V152 f157 f158 f159 f160) hZ (ow hw 88 rfl) (ow hw 1 rfl) (by decide) (by decide)) q161a q161c (g := (mkF m 287 #[.val (.int ww_), .val (.int wl), .val (.int wa), .val (.int wb), .val (.int wm), .val (.int vk), .val (.ref la), .val (.int bl), .val (.int vn), .val (.int vmu), .val (.int vp), .val (.int c0), .val (.int c1), .val (.int c2), .val (.int c3), .val (.int c4), .val (.int c5), .val (.int c6), .val (.ref sa), .val .null] [(.ref la152), (.ref sa)])) rfl (by rw [hml]; rfl) (Steps.refl _) (argsL := [(.ref la152)]) (rest := []) (lenOf pd_14 rfl) rfl (by exact Nat.le_of_eq rfl) (hb hby at_287) (fun _ _ => ⟨rfl, e152, (by decide : 16 + 0 ≤ _), (by decide : 158 + 0 ≤ _)⟩)
          dsimp only [Pt.U, Pt.locs, Pt.cells, Pt.slots] at X161 l161 y161 z161 st161 hQ161
          rw [l161, y161, z161] at X161
          obtain ⟨zq3, rfl, hzq3, N161q, e161⟩ := hQ161
          have N161 := Fr.app N133 N161q
          have pre162 : oP p e below (T161.setTop (mkF m 290 #[.val (.int ww_), .val (.int wl), .val (.int wa), .val (.int wb), .val (.int wm), .val (.int vk), .val (.ref la), .val (.int bl), .val (.int vn), .val (.int vmu), .val (.int vp), .val (.int c0), .val (.int c1), .val (.int c2), .val (.int c3), .val (.int c4), .val (.int c5), .val (.int c6), .val (.ref sa), .val .null] [(.int zq3)])) (SS) := fun t kt => by
            refine pre155 _ ?_
            refine st161.trans ?_
            exact kt
          rcases hzq3 with ⟨rfl, hp3⟩ | ⟨rfl, hn3⟩
          · have pre163 : oP p e below (T161.setTop (mkF m 290 #[.val (.int ww_), .val (.int wl), .val (.int wa), .val (.int wb), .val (.int wm), .val (.int vk), .val (.ref la), .val (.int bl), .val (.int vn), .val (.int vmu), .val (.int vp), .val (.int c0), .val (.int c1), .val (.int c2), .val (.int c3), .val (.int c4), .val (.int c5), .val (.int c6), .val (.ref sa), .val .null] [(.int 1)])) (SS) := pre162
            have hc290_164 : ¬ ((1 : Int) = (0 : Int)) := by decide
            have pm165 := (own_pm_ext (own_pm_ext (own_pm_ext (own_pm_ext (own_pm_keep (own_pm_ext Pm Eb) K62) E74) E98) E124) E152)
            obtain ⟨T166, X166, e166, st166⟩ := getS2 X161 hx hZ hown (host := "") (Or.inl (ow hw 101 rfl)) Via.refl e161 pm165.2.2.2.2.1 (g := (mkF m 293 #[.val (.int ww_), .val (.int wl), .val (.int wa), .val (.int wb), .val (.int wm), .val (.int vk), .val (.ref la), .val (.int bl), .val (.int vn), .val (.int vmu), .val (.int vp), .val (.int c0), .val (.int c1), .val (.int c2), .val (.int c3), .val (.int c4), .val (.int c5), .val (.int c6), .val (.ref sa), .val .null] [])) rfl (hb hby at_293)
            have pre167 : oP p e below (T166.setTop (mkF m 300 #[.val (.int ww_), .val (.int wl), .val (.int wa), .val (.int wb), .val (.int wm), .val (.int vk), .val (.ref la), .val (.int bl), .val (.int vn), .val (.int vmu), .val (.int vp), .val (.int c0), .val (.int c1), .val (.int c2), .val (.int c3), .val (.int c4), .val (.int c5), .val (.int c6), .val (.ref sa), .val (.ref (pp 3))] [(.ref sa)])) (SS) := fun t kt => by
              refine pre163 _ ?_
              refine XS.ifNo X161.here hx rfl (hb hby at_290) rfl (own_if (own_feq (a := (1 : Int32)) (b := (0 : Int32)) (by decide) (by decide) hc290_164).1) ?_
              refine st166 _ ?_
              refine XS.astore X166.here hx rfl (hb hby at_296) rfl rfl (l' := #[.val (.int ww_), .val (.int wl), .val (.int wa), .val (.int wb), .val (.int wm), .val (.int vk), .val (.ref la), .val (.int bl), .val (.int vn), .val (.int vmu), .val (.int vp), .val (.int c0), .val (.int c1), .val (.int c2), .val (.int c3), .val (.int c4), .val (.int c5), .val (.int c6), .val (.ref sa), .val (.ref (pp 3))]) rfl ?_
              refine XS.aload X166.here hx rfl (hb hby at_298) rfl rfl ?_
              exact kt
            obtain ⟨_, _, ⟨T168, L168, k168, n168⟩, -, X168, ⟨Lc168, hQ168, l168, y168, z168⟩, st168⟩ := Jvm.LawKit.callS X166 hx (y := yn17) hown (mvT hZ (ow hw 75 rfl)) (mvT hZ (ow hw 76 rfl)) (mvT hZ (ow hw 77 rfl)) (mvT hZ (ow hw 78 rfl)) (by decide) (backOf (W := 0) (rm_named l Z a0 hw [] sa vcs vf pA kA pp ww bb kk ob kb zn vs h152 n0 Zs154 os156 pm165 f157 f158 f159 f160) hZ (ow hw 78 rfl) (ow hw 77 rfl) (by decide) (by decide)) (g := (mkF m 300 #[.val (.int ww_), .val (.int wl), .val (.int wa), .val (.int wb), .val (.int wm), .val (.int vk), .val (.ref la), .val (.int bl), .val (.int vn), .val (.int vmu), .val (.int vp), .val (.int c0), .val (.int c1), .val (.int c2), .val (.int c3), .val (.int c4), .val (.int c5), .val (.int c6), .val (.ref sa), .val (.ref (pp 3))] [(.ref sa)])) rfl (by rw [hml]; rfl) (argsL := [(.ref sa)]) (rest := []) (lenOf pd_17 rfl) rfl (by exact Nat.le_of_eq rfl) (hb hby at_300) (fun _ _ => ⟨rfl, e166, (by decide : 16 + 0 ≤ _), (by decide : 158 + 0 ≤ _)⟩)
            dsimp only [Pt.U, Pt.locs, Pt.cells, Pt.slots] at X168 l168 y168 z168 st168 hQ168
            rw [l168, y168, z168] at X168
            obtain ⟨rv, rfl, hrv, N168q, e168⟩ := hQ168
            have N168 := Fr.app N161 N168q
            have pre169 : oP p e below (T168.setTop (mkF m 303 #[.val (.int ww_), .val (.int wl), .val (.int wa), .val (.int wb), .val (.int wm), .val (.int vk), .val (.ref la), .val (.int bl), .val (.int vn), .val (.int vmu), .val (.int vp), .val (.int c0), .val (.int c1), .val (.int c2), .val (.int c3), .val (.int c4), .val (.int c5), .val (.int c6), .val (.ref sa), .val (.ref (pp 3))] [rv])) (SS) := fun t kt => by
              refine pre167 _ ?_
              refine st168 _ ?_
              exact kt
            have erv : rv = (.ref (pp 3)) := by
              rcases hrv with ⟨q, p⟩ | ⟨q, m0, p⟩ | ⟨q, m0, m1, p⟩ | ⟨q, m0, m1, m2, p⟩ | ⟨q, m0, m1, m2, m3⟩
              · exact absurd p hn0
              · exact absurd p hn1
              · exact absurd p hn2
              · exact q
              · exact absurd hp3 m3
            subst erv
            have pre170 : oP p e below (T168.setTop (mkF m 303 #[.val (.int ww_), .val (.int wl), .val (.int wa), .val (.int wb), .val (.int wm), .val (.int vk), .val (.ref la), .val (.int bl), .val (.int vn), .val (.int vmu), .val (.int vp), .val (.int c0), .val (.int c1), .val (.int c2), .val (.int c3), .val (.int c4), .val (.int c5), .val (.int c6), .val (.ref sa), .val (.ref (pp 3))] [(.ref (pp 3))])) (SS) := pre169
            subst hSS
            obtain ⟨fs, hr, hrun, hended, hREW⟩ := X168.leaveW hS152 (by rw [e168]; exact hk152) (v := some (.int 1)) (fun h => by rw [Bd.returns] at h; cases h)
            refine ⟨_, _, pre170 _ ?_, hrun, hended, _, _, rfl, ?_, ?_, ⟨hREW.1, hREW.2.1, hREW.2.2.1, hREW.2.2.2.mono (by decide) (by decide)⟩⟩
            · refine XS.aload X168.here hx rfl (hb hby at_303) rfl rfl ?_
              refine Jvm.RoadKit.acmp (g := (mkF m 305 #[.val (.int ww_), .val (.int wl), .val (.int wa), .val (.int wb), .val (.int wm), .val (.int vk), .val (.ref la), .val (.int bl), .val (.int vn), .val (.int vmu), .val (.int vp), .val (.int c0), .val (.int c1), .val (.int c2), .val (.int c3), .val (.int c4), .val (.int c5), .val (.int c6), .val (.ref sa), .val (.ref (pp 3))] [(.ref (pp 3)), (.ref (pp 3))])) X168 hx rfl rfl rfl (pc0 := 305) (pc' := 308) (same := true) rfl (hb hby at_305) rfl (decide_eq_true rfl) (by decide) (by decide) ?_
              refine XS.iconst X168.here hx rfl (hb hby at_308) ?_
              refine XS.goto X168.here hx rfl (pc0 := 309) (pc' := 313) rfl (hb hby at_309) (by decide) (by decide) ?_
              exact retN X168 hx (t := .boolean) Bd.returns (by simp) (hb hby at_313) hr
            · show Q0 Z _ _ _ _ _ _ _ _ _ _ _ _ _ h0 n0 _ T168.heap _
              rw [e168]
              exact ⟨rfl, N168⟩
            · show CHr Z own_EL s.vm s.heap T168.vm T168.heap
              rw [hh, e168]
              exact CR153.trans (CHv.at X168 hZ hEL CR153.1)
          · have pre171 : oP p e below (T161.setTop (mkF m 290 #[.val (.int ww_), .val (.int wl), .val (.int wa), .val (.int wb), .val (.int wm), .val (.int vk), .val (.ref la), .val (.int bl), .val (.int vn), .val (.int vmu), .val (.int vp), .val (.int c0), .val (.int c1), .val (.int c2), .val (.int c3), .val (.int c4), .val (.int c5), .val (.int c6), .val (.ref sa), .val .null] [(.int 0)])) (SS) := pre162
            have hc290_172 : (0 : Int) = (0 : Int) := by decide
            have pre173 : oP p e below (T161.setTop (mkF m 300 #[.val (.int ww_), .val (.int wl), .val (.int wa), .val (.int wb), .val (.int wm), .val (.int vk), .val (.ref la), .val (.int bl), .val (.int vn), .val (.int vmu), .val (.int vp), .val (.int c0), .val (.int c1), .val (.int c2), .val (.int c3), .val (.int c4), .val (.int c5), .val (.int c6), .val (.ref sa), .val .null] [(.ref sa)])) (SS) := fun t kt => by
              refine pre171 _ ?_
              refine XS.ifYes X161.here hx rfl (pc0 := 290) (pc' := 298) rfl (hb hby at_290) rfl (own_if (own_teq (a := (0 : Int32)) (b := (0 : Int32)) (by decide) (by decide) hc290_172).1) (by decide) (by decide) ?_
              refine XS.aload X161.here hx rfl (hb hby at_298) rfl rfl ?_
              exact kt
            have pm174 := (own_pm_ext (own_pm_ext (own_pm_ext (own_pm_ext (own_pm_keep (own_pm_ext Pm Eb) K62) E74) E98) E124) E152)
            obtain ⟨_, _, ⟨T175, L175, k175, n175⟩, -, X175, ⟨Lc175, hQ175, l175, y175, z175⟩, st175⟩ := Jvm.LawKit.callS X161 hx (y := yn17) hown (mvT hZ (ow hw 75 rfl)) (mvT hZ (ow hw 76 rfl)) (mvT hZ (ow hw 77 rfl)) (mvT hZ (ow hw 78 rfl)) (by decide) (backOf (W := 0) (rm_named l Z a0 hw [] sa vcs vf pA kA pp ww bb kk ob kb zn vs h152 n0 Zs154 os156 pm174 f157 f158 f159 f160) hZ (ow hw 78 rfl) (ow hw 77 rfl) (by decide) (by decide)) (g := (mkF m 300 #[.val (.int ww_), .val (.int wl), .val (.int wa), .val (.int wb), .val (.int wm), .val (.int vk), .val (.ref la), .val (.int bl), .val (.int vn), .val (.int vmu), .val (.int vp), .val (.int c0), .val (.int c1), .val (.int c2), .val (.int c3), .val (.int c4), .val (.int c5), .val (.int c6), .val (.ref sa), .val .null] [(.ref sa)])) rfl (by rw [hml]; rfl) (argsL := [(.ref sa)]) (rest := []) (lenOf pd_17 rfl) rfl (by exact Nat.le_of_eq rfl) (hb hby at_300) (fun _ _ => ⟨rfl, e161, (by decide : 16 + 0 ≤ _), (by decide : 158 + 0 ≤ _)⟩)
            dsimp only [Pt.U, Pt.locs, Pt.cells, Pt.slots] at X175 l175 y175 z175 st175 hQ175
            rw [l175, y175, z175] at X175
            obtain ⟨rv, rfl, hrv, N175q, e175⟩ := hQ175
            have N175 := Fr.app N161 N175q
            have pre176 : oP p e below (T175.setTop (mkF m 303 #[.val (.int ww_), .val (.int wl), .val (.int wa), .val (.int wb), .val (.int wm), .val (.int vk), .val (.ref la), .val (.int bl), .val (.int vn), .val (.int vmu), .val (.int vp), .val (.int c0), .val (.int c1), .val (.int c2), .val (.int c3), .val (.int c4), .val (.int c5), .val (.int c6), .val (.ref sa), .val .null] [rv])) (SS) := fun t kt => by
              refine pre173 _ ?_
              refine st175 _ ?_
              exact kt
            have erv : rv = .null := by
              rcases hrv with ⟨q, p⟩ | ⟨q, m0, p⟩ | ⟨q, m0, m1, p⟩ | ⟨q, m0, m1, m2, p⟩ | ⟨q, m0, m1, m2, m3⟩
              · exact absurd p hn0
              · exact absurd p hn1
              · exact absurd p hn2
              · exact absurd p hn3
              · exact q
            subst erv
            have pre177 : oP p e below (T175.setTop (mkF m 303 #[.val (.int ww_), .val (.int wl), .val (.int wa), .val (.int wb), .val (.int wm), .val (.int vk), .val (.ref la), .val (.int bl), .val (.int vn), .val (.int vmu), .val (.int vp), .val (.int c0), .val (.int c1), .val (.int c2), .val (.int c3), .val (.int c4), .val (.int c5), .val (.int c6), .val (.ref sa), .val .null] [.null])) (SS) := pre176
            subst hSS
            obtain ⟨fs, hr, hrun, hended, hREW⟩ := X175.leaveW hS152 (by rw [e175]; exact hk152) (v := some (.int 1)) (fun h => by rw [Bd.returns] at h; cases h)
            refine ⟨_, _, pre177 _ ?_, hrun, hended, _, _, rfl, ?_, ?_, ⟨hREW.1, hREW.2.1, hREW.2.2.1, hREW.2.2.2.mono (by decide) (by decide)⟩⟩
            · refine XS.aload X175.here hx rfl (hb hby at_303) rfl rfl ?_
              refine Jvm.RoadKit.acmp (g := (mkF m 305 #[.val (.int ww_), .val (.int wl), .val (.int wa), .val (.int wb), .val (.int wm), .val (.int vk), .val (.ref la), .val (.int bl), .val (.int vn), .val (.int vmu), .val (.int vp), .val (.int c0), .val (.int c1), .val (.int c2), .val (.int c3), .val (.int c4), .val (.int c5), .val (.int c6), .val (.ref sa), .val .null] [.null, .null])) X175 hx rfl rfl rfl (pc0 := 305) (pc' := 308) (same := true) rfl (hb hby at_305) rfl (decide_eq_true rfl) (by decide) (by decide) ?_
              refine XS.iconst X175.here hx rfl (hb hby at_308) ?_
              refine XS.goto X175.here hx rfl (pc0 := 309) (pc' := 313) rfl (hb hby at_309) (by decide) (by decide) ?_
              exact retN X175 hx (t := .boolean) Bd.returns (by simp) (hb hby at_313) hr
            · show Q0 Z _ _ _ _ _ _ _ _ _ _ _ _ _ h0 n0 _ T175.heap _
              rw [e175]
              exact ⟨rfl, N175⟩
            · show CHr Z own_EL s.vm s.heap T175.vm T175.heap
              rw [hh, e175]
              exact CR153.trans (CHv.at X175 hZ hEL CR153.1)
theorem own_st0 {s : State} {a0 : Array Value} (hsets : ∀ d ∈ jdkStatics_1, d.before a0 s = true) : ∃ (vcs : Int32) (vf : Value), own_st s s.heap vcs vf := by
  obtain ⟨vcs, ec⟩ := is_v (Cond.before_iff.mp (hsets _ (List.mem_of_getElem? (i := 1) rfl)))
  obtain ⟨vf, ef, hf⟩ := isR_v (Cond.before_iff.mp (hsets _ (List.mem_of_getElem? (i := 8) rfl)))
  have nz : ¬ vcs.toInt = 0 := fun q => by
    have h1 := not_v (Cond.before_iff.mp (hsets _ (List.mem_of_getElem? (i := 2) rfl)))
    have h2 : vcs = 0 := Int32.toInt_inj.mp (by rw [q]; decide)
    subst h2
    have h3 := eq_i ec (Term.int_eval (0 : Int32)) rfl
    rw [h3] at h1; cases h1
  exact ⟨vcs, vf, Sta.start ec (Or.inl (hsets _ (List.mem_of_getElem? (i := 0) rfl))), nz, Sta.start ef (Or.inl (hsets _ (List.mem_of_getElem? (i := 7) rfl))), hf⟩
theorem comes_1 {Post : Tables → Env → Array Value → State → Outcome → State → Prop} (hpost : ∀ tb e args s v u, (limb_1_1.after args s (.returned v) u = true ∧ limb_1_2.after args s (.returned v) u = true ∧ True) → ReturnedEndW s (.returned v) u (Jvm.fieldLocs frame_1_writes args s ++ Jvm.arrayLocs frame_1_arrays args s ++ Jvm.staticLocs frame_1_statics s) 24 5248 → Post tb e args s (.returned v) u) :
    ArmFor flags0 classFile x code maxLocals ret World_1 tables_1 room_1 Calls_1 rest_1 Pre_1 Post := by
  intro l hfl _ _ p e ha hc hk s m args below hf hA hF happ hP
  obtain ⟨hcalls, hrest, hpre⟩ := hP
  obtain ⟨-, -, -, hnamed, -, -, -, hat⟩ := (Spec.applies_iff hf).mp happ
  obtain ⟨hg, hn⟩ := and_e (Cond.before_iff.mp (show (Jvm.Cond.and given_1 narrow_1).before args s = true from hpre))
  obtain ⟨g0, gr0⟩ := and_e hg
  obtain ⟨ga0, gr1⟩ := and_e gr0
  obtain ⟨ga1, gr2⟩ := and_e gr1
  obtain ⟨ga2, gr3⟩ := and_e gr2
  obtain ⟨ga3, gr4⟩ := and_e gr3
  obtain ⟨w0, w1, w2, w3, w4, rfl⟩ : ∃ w0 w1 w2 w3 w4 : Value, args = #[w0, w1, w2, w3, w4] := by
    have hs : args.size = 5 := by simpa [Cond.value, given_1] using g0
    obtain ⟨L⟩ := args
    match L, hs with
    | [w0, w1, w2, w3, w4], _ => exact ⟨w0, w1, w2, w3, w4, rfl⟩
  have hw := fun d (hd : d ∈ tables_1) => atoms_spec (ws := Jvm.Cond.code x code maxLocals ret :: tables_1) hat d (List.mem_cons_of_mem _ hd)
  have hfit : Fit s := fun {y c} hc i hi => by
    obtain ⟨ha, rfl⟩ := Array.getElem?_eq_some_iff.mp hc
    have q := List.all_eq_true.mp ((Array.all_eq_true_iff_forall_mem.mp hF) _ (Array.getElem_mem ha)) i (List.mem_range.mpr hi)
    simpa [Array.getElem?_eq_getElem hi] using q
  obtain ⟨hsets, hown0⟩ := atoms_of _ (rest_1_c_eq ▸ (show rest_1_c.before _ s = true from hrest))
  have hr0 := Cond.before_iff.mp hown0
  obtain ⟨i0, ei0⟩ := is_v ga0
  obtain rfl : w0 = (.int i0) := Option.some.inj ei0
  obtain ⟨i1, ei1⟩ := is_v ga1
  obtain rfl : w1 = (.int i1) := Option.some.inj ei1
  obtain ⟨i2, ei2⟩ := is_v ga2
  obtain rfl : w2 = (.int i2) := Option.some.inj ei2
  obtain ⟨i3, ei3⟩ := is_v ga3
  obtain rfl : w3 = (.int i3) := Option.some.inj ei3
  obtain ⟨i4, ei4⟩ := is_v gr4
  obtain rfl : w4 = (.int i4) := Option.some.inj ei4
  obtain ⟨vcs, vf, Os⟩ := own_st0 hsets
  obtain ⟨pA, kA, pp, ww, bb, kk, Pm⟩ := own_pm0 hfit hn hw
  have hCH : CHv s own_EL s.vm s.heap := CHv.start (own_EW hw) (fun q hq => hcalls.1 q hq) (hsets _ (List.mem_of_getElem? (i := 2) rfl)) (own_wS hw _ (by simp [Bundle.stringAtoms])) (own_wS hw _ (by simp [Bundle.stringAtoms, Bundle.sN]))
  obtain ⟨n, o, h1, h2, h3, v0, L, rfl, hQ, -, hq⟩ := rm0 l s _ hw tables_1 i0 i1 i2 i3 i4 vcs vf pA kA pp ww bb kk s.heap s.heap.size (Nat.le_refl _) Os Pm p e ha hc hk s m _ below hf ((Spec.applies_iff_loose hf).mp happ).1 ⟨rfl, State.Warmed39.refl s, rfl, hCH⟩ trivial
  obtain ⟨rfl, N⟩ : v0 = some (.int (1 : Int32)) ∧ Fr s.heap.size L := hQ
  refine ⟨n, _, h1, h2, h3, hpost _ _ _ _ _ _ ⟨Cond.after_iff.mpr rfl, Cond.after_iff.mpr (eq_i res_at (Term.int_eval (1)) rfl), trivial⟩ ⟨hq.1, hq.2.1, hq.2.2.1, (hq.2.2.2.sift fun y hy => Or.inr (N y hy)).mono (by decide) (by decide)⟩⟩
theorem main_1_1 : Claimed_1_1 := comes_1 fun _ _ _ _ _ _ h hF => ⟨h.1, hF⟩
theorem main_1_2 : Claimed_1_2 := comes_1 fun _ _ _ _ _ _ h hF => ⟨h.2.1, hF⟩
end Jvm.Pilot.@@N@@
namespace Jvm.Pilot.@@N@@
open Jvm Jvm.ClassFile Sem Op Lib Jvm.Free Jvm.Stand Jvm.Pilot.@@N@@.Jvm.D
/-! MADE BY PROGRAM (witnessworld.py) out of the Statement's table words and the real class files: 22 classes; the members and pool entries that the words name. The judged class is class 1, her method 1. -/
namespace start1
open Jvm.ClassFile
def u (s : String) : CpInfo := .utf8 (stringToUtf16 s)
/-- a pool by its gaps: so many unusable entries, then the entry; so many at the end -/
def gap : Nat → List CpInfo → List CpInfo
  | 0, r => r
  | n + 1, r => .unusable :: gap n r
def poolList (es : List (Nat × CpInfo)) (last : Nat) : List CpInfo := es.foldr (fun e r => gap e.1 (e.2 :: r)) (gap last [])
def pool (es : List (Nat × CpInfo)) (last : Nat) : Array CpInfo := ⟨poolList es last⟩
def fileOf (pool : Array CpInfo) (this : Nat) (attrs : Array Attribute := #[]) (ms : Array MethodInfo := #[]) (fl : Nat := 33) (sup : Nat := 0) (ifs : Array Nat := #[]) (fds : Array FieldInfo := #[]) : ClassFile where
  minorVersion := 0
  majorVersion := 65
  constantPool := pool
  accessFlags := fl
  thisClass := this
  superClass := sup
  interfaces := ifs
  fields := fds
  methods := ms
  attributes := attrs
def plain (name : String) (sup : Option ClassId) : Class where
  name := name
  kind := .ordinary
  loader := none
  accessFlags := 33
  super := sup
  interfaces := #[]
  cf := none
  fields := #[]
  methods := #[]
  instanceTypes := #[]
  staticTypes := #[]
  resolved := #[]
  callSites := []
  init := .initialized
  statics := none
  mirror := none

def pool0 : Array CpInfo := pool [(5, u "<init>"), (0, u "()V"), (1, .class_ 10), (1, u "java/lang/Object")] 113

def k0c0 : Code := { maxStack := 0, maxLocals := 1, code := object_method_1_code, exceptionTable := #[], attributes := #[] }
def k0m0 : Method := { name := "<init>", desc := "()V", sig := { parameters := [], returnType := none }, accessFlags := 1, code := some k0c0 }
/-- java/lang/Object -/
def k0 : Class := { plain "java/lang/Object" none with
  accessFlags := 33
  interfaces := #[]
  cf := some (fileOf pool0 8 #[] #[{ accessFlags := 1, nameIndex := 5, descriptorIndex := 6, attributes := #[] }] 33 0 #[] #[])
  fields := #[]
  methods := #[k0m0]
  instanceTypes := #[]
  staticTypes := #[]
  resolved := Array.replicate 124 none
  statics := none }

def pool1 : Array CpInfo := pool [(2, .class_ 4), (1, u "java/lang/Object"), (0, u "<init>"), (0, u "()V"), (0, .string 8), (0, u "create"), (0, .string 10), (0, u "read"), (0, .string 12), (0, u "update"), (0, .string 14), (0, u "delete"), (0, .methodref 16 17), (0, .class_ 18), (0, .nameAndType 19 20), (0, u "java/lang/String"), (0, u "length"), (0, u "()I"), (0, .methodref 22 23), (0, .class_ 24), (0, .nameAndType 25 26), (0, u "com/example/attestbridge/attestbridge/sync/PermissionNamedPinLaw"), (0, u "pick"), (0, u "(Ljava/lang/String;IIIZI)C"), (0, .methodref 22 28), (0, .nameAndType 29 30), (0, u "make"), (0, u "(ICCCCCCC)Ljava/lang/String;"), (0, .methodref 16 32), (0, .nameAndType 33 34), (0, u "equals"), (0, u "(Ljava/lang/Object;)Z"), (0, .fieldref 36 37), (0, .class_ 38), (0, .nameAndType 39 40), (0, u "com/example/attestbridge/attestbridge/sync/Permission"), (0, u "CREATE"), (0, u "Lcom/example/attestbridge/attestbridge/sync/Permission;"), (0, .fieldref 36 42), (0, .nameAndType 43 40), (0, u "READ"), (0, .fieldref 36 45), (0, .nameAndType 46 40), (0, u "UPDATE"), (0, .fieldref 36 48), (0, .nameAndType 49 40), (0, u "DELETE"), (0, .methodref 36 51), (0, .nameAndType 52 53), (0, u "named"), (0, u "(Ljava/lang/String;)Lcom/example/attestbridge/attestbridge/sync/Permission;"), (0, .methodref 16 55), (0, .nameAndType 56 57), (0, u "charAt"), (0, u "(I)C"), (0, .methodref 22 59), (0, .nameAndType 60 61), (0, u "drawn"), (0, u "(III)C"), (0, .methodref 16 63), (0, .nameAndType 5 64), (0, u "([C)V"), (2, u "law"), (0, u "(IIIII)Z")] 3

def k1m0 : Method := { name := "<init>", desc := "()V", sig := { parameters := [], returnType := none }, accessFlags := 1, code := none }
def k1c1 : Code := { maxStack := 8, maxLocals := 20, code := code, exceptionTable := #[], attributes := #[] }
def k1m1 : Method := { name := "law", desc := "(IIIII)Z", sig := { parameters := [.int, .int, .int, .int, .int], returnType := some .boolean }, accessFlags := 9, code := some k1c1 }
def k1c2 : Code := { maxStack := 4, maxLocals := 3, code := method_3_code, exceptionTable := #[], attributes := #[] }
def k1m2 : Method := { name := "drawn", desc := "(III)C", sig := { parameters := [.int, .int, .int], returnType := some .char }, accessFlags := 10, code := some k1c2 }
def k1c3 : Code := { maxStack := 3, maxLocals := 6, code := method_4_code, exceptionTable := #[], attributes := #[] }
def k1m3 : Method := { name := "pick", desc := "(Ljava/lang/String;IIIZI)C", sig := { parameters := [(.object "java/lang/String"), .int, .int, .int, .boolean, .int], returnType := some .char }, accessFlags := 10, code := some k1c3 }
def k1c4 : Code := { maxStack := 6, maxLocals := 8, code := method_5_code, exceptionTable := #[], attributes := #[] }
def k1m4 : Method := { name := "make", desc := "(ICCCCCCC)Ljava/lang/String;", sig := { parameters := [.int, .char, .char, .char, .char, .char, .char, .char], returnType := some (.object "java/lang/String") }, accessFlags := 10, code := some k1c4 }
/-- com/example/attestbridge/attestbridge/sync/PermissionNamedPinLaw -/
def k1 : Class := { plain "com/example/attestbridge/attestbridge/sync/PermissionNamedPinLaw" (some 0) with
  accessFlags := 49
  interfaces := #[]
  cf := some (fileOf pool1 22 #[] #[{ accessFlags := 1, nameIndex := 5, descriptorIndex := 6, attributes := #[] }, { accessFlags := 9, nameIndex := 67, descriptorIndex := 68, attributes := #[] }, { accessFlags := 10, nameIndex := 60, descriptorIndex := 61, attributes := #[] }, { accessFlags := 10, nameIndex := 25, descriptorIndex := 26, attributes := #[] }, { accessFlags := 10, nameIndex := 29, descriptorIndex := 30, attributes := #[] }] 49 2 #[] #[])
  fields := #[]
  methods := #[k1m0, k1m1, k1m2, k1m3, k1m4]
  instanceTypes := #[]
  staticTypes := #[]
  resolved := Array.replicate 72 none
  statics := none }

def pool2 : Array CpInfo := pool [(1, .class_ 2), (0, u "java/io/Serializable"), (0, .class_ 4), (0, u "java/lang/Object")] 2

/-- java/io/Serializable -/
def k2 : Class := { plain "java/io/Serializable" (some 0) with
  accessFlags := 1537
  interfaces := #[]
  cf := some (fileOf pool2 1 #[] #[] 1537 3 #[] #[])
  fields := #[]
  methods := #[]
  instanceTypes := #[]
  staticTypes := #[]
  resolved := Array.replicate 7 none
  statics := none }

def pool3 : Array CpInfo := pool [(1, .class_ 2), (0, u "java/lang/Comparable"), (0, .class_ 4), (0, u "java/lang/Object")] 7

/-- java/lang/Comparable -/
def k3 : Class := { plain "java/lang/Comparable" (some 0) with
  accessFlags := 1537
  interfaces := #[]
  cf := some (fileOf pool3 1 #[] #[] 1537 3 #[] #[])
  fields := #[]
  methods := #[]
  instanceTypes := #[]
  staticTypes := #[]
  resolved := Array.replicate 12 none
  statics := none }

def pool4 : Array CpInfo := pool [(2, .class_ 4), (1, u "java/lang/CharSequence"), (42, .class_ 48), (0, u "java/lang/CharSequence$1CodePointIterator"), (10, .class_ 60), (0, u "java/lang/CharSequence$1CharIterator"), (5, .class_ 67), (0, u "java/lang/Object")] 63

/-- java/lang/CharSequence -/
def k4 : Class := { plain "java/lang/CharSequence" (some 0) with
  accessFlags := 1537
  interfaces := #[]
  cf := some (fileOf pool4 2 #[.nestMembers #[47, 59]] #[] 1537 66 #[] #[])
  fields := #[]
  methods := #[]
  instanceTypes := #[]
  staticTypes := #[]
  resolved := Array.replicate 131 none
  statics := none }

def pool5 : Array CpInfo := pool [(1, .class_ 2), (0, u "java/lang/constant/Constable"), (0, .class_ 4), (0, u "java/lang/Object")] 6

/-- java/lang/constant/Constable -/
def k5 : Class := { plain "java/lang/constant/Constable" (some 0) with
  accessFlags := 1537
  interfaces := #[]
  cf := some (fileOf pool5 1 #[] #[] 1537 3 #[] #[])
  fields := #[]
  methods := #[]
  instanceTypes := #[]
  staticTypes := #[]
  resolved := Array.replicate 11 none
  statics := none }

def pool6 : Array CpInfo := pool [(1, .class_ 2), (0, u "java/lang/constant/ConstantDesc"), (0, .class_ 4), (0, u "java/lang/Object")] 32

/-- java/lang/constant/ConstantDesc -/
def k6 : Class := { plain "java/lang/constant/ConstantDesc" (some 0) with
  accessFlags := 1537
  interfaces := #[]
  cf := some (fileOf pool6 1 #[] #[] 1537 3 #[] #[])
  fields := #[]
  methods := #[]
  instanceTypes := #[]
  staticTypes := #[]
  resolved := Array.replicate 37 none
  statics := none }

def pool7 : Array CpInfo := pool [(1, .methodref 2 3), (0, .class_ 4), (0, .nameAndType 5 6), (0, u "java/lang/Object"), (0, u "<init>"), (0, u "()V"), (0, .string 8), (0, u ""), (0, .fieldref 10 11), (0, .class_ 12), (0, .nameAndType 13 14), (0, u "java/lang/String"), (0, u "value"), (0, u "[B"), (0, .fieldref 10 16), (0, .nameAndType 17 18), (0, u "coder"), (0, u "B"), (2, u "hash"), (0, u "I"), (2, u "hashIsZero"), (0, u "Z"), (0, .methodref 10 28), (0, .nameAndType 5 29), (0, u "([CIILjava/lang/Void;)V"), (8, .fieldref 10 39), (0, .nameAndType 40 26), (0, u "COMPACT_STRINGS"), (1, .class_ 44), (1, u "java/lang/StringUTF16"), (0, u "compress"), (1, .methodref 42 48), (0, .nameAndType 49 50), (0, u "coderFromArrayLen"), (0, u "([BI)B"), (56, .class_ 109), (1, u "java/lang/StringLatin1"), (32, u "()Z"), (34, .methodref 42 178), (0, .nameAndType 45 179), (0, u "([CII)[B"), (154, u "()I"), (0, .methodref 10 336), (0, .nameAndType 17 337), (0, u "()B"), (25, u "([BI)C"), (27, u "(II)V"), (35, u "(I)C"), (64, .methodref 10 493), (0, .nameAndType 494 142), (0, u "isLatin1"), (0, .methodref 107 496), (0, .nameAndType 497 363), (0, u "charAt"), (3, u "checkIndex"), (5, u "length"), (33, .methodref 107 542), (0, .nameAndType 543 544), (0, u "equals"), (0, u "([B[B)Z"), (28, u "(Ljava/lang/Object;)Z"), (1, .class_ 576), (0, u "java/lang/CharSequence"), (22, u "CASE_INSENSITIVE_ORDER"), (0, u "Ljava/util/Comparator;"), (409, u "([C)V"), (42, .fieldref 1054 1055), (0, .class_ 1056), (0, .nameAndType 1057 1058), (0, u "jdk/internal/util/Preconditions"), (0, u "SIOOBE_FORMATTER"), (0, u "Ljava/util/function/BiFunction;"), (0, .methodref 1054 1060), (0, .nameAndType 501 1061), (0, u "(IILjava/util/function/BiFunction;)I"), (39, u "serialPersistentFields"), (0, u "[Ljava/io/ObjectStreamField;"), (0, .class_ 1104), (0, u "java/lang/String$CaseInsensitiveComparator"), (1, .class_ 1107), (0, u "java/io/Serializable"), (0, .class_ 1109), (0, u "java/lang/Comparable"), (0, .class_ 1111), (0, u "java/lang/constant/Constable"), (0, .class_ 1113), (0, u "java/lang/constant/ConstantDesc"), (2, u "serialVersionUID"), (0, u "J"), (3, u "REPL"), (0, u "C"), (2, u "LATIN1"), (1, u "UTF16")] 323

def k7m0 : Method := { name := "<init>", desc := "()V", sig := { parameters := [], returnType := none }, accessFlags := 1, code := none }
def k7c1 : Code := { maxStack := 5, maxLocals := 2, code := jdk_42_method_3_code, exceptionTable := #[], attributes := #[] }
def k7m1 : Method := { name := "<init>", desc := "([C)V", sig := { parameters := [(.array .char)], returnType := none }, accessFlags := 1, code := some k7c1 }
def k7c2 : Code := { maxStack := 2, maxLocals := 1, code := jdk_42_method_54_code, exceptionTable := #[], attributes := #[] }
def k7m2 : Method := { name := "length", desc := "()I", sig := { parameters := [], returnType := some .int }, accessFlags := 1, code := some k7c2 }
def k7c3 : Code := { maxStack := 2, maxLocals := 2, code := jdk_42_method_56_code, exceptionTable := #[], attributes := #[] }
def k7m3 : Method := { name := "charAt", desc := "(I)C", sig := { parameters := [.int], returnType := some .char }, accessFlags := 1, code := some k7c3 }
def k7c4 : Code := { maxStack := 2, maxLocals := 3, code := jdk_42_method_66_code, exceptionTable := #[], attributes := #[] }
def k7m4 : Method := { name := "equals", desc := "(Ljava/lang/Object;)Z", sig := { parameters := [(.object "java/lang/Object")], returnType := some .boolean }, accessFlags := 1, code := some k7c4 }
def k7c5 : Code := { maxStack := 4, maxLocals := 6, code := jdk_42_method_149_code, exceptionTable := #[], attributes := #[] }
def k7m5 : Method := { name := "<init>", desc := "([CIILjava/lang/Void;)V", sig := { parameters := [(.array .char), .int, .int, (.object "java/lang/Void")], returnType := none }, accessFlags := 2, code := some k7c5 }
def k7c6 : Code := { maxStack := 1, maxLocals := 1, code := jdk_42_method_152_code, exceptionTable := #[], attributes := #[] }
def k7m6 : Method := { name := "coder", desc := "()B", sig := { parameters := [], returnType := some .byte }, accessFlags := 0, code := some k7c6 }
def k7c7 : Code := { maxStack := 1, maxLocals := 1, code := jdk_42_method_154_code, exceptionTable := #[], attributes := #[] }
def k7m7 : Method := { name := "isLatin1", desc := "()Z", sig := { parameters := [], returnType := some .boolean }, accessFlags := 0, code := some k7c7 }
def k7c8 : Code := { maxStack := 3, maxLocals := 2, code := jdk_42_method_155_code, exceptionTable := #[], attributes := #[] }
def k7m8 : Method := { name := "checkIndex", desc := "(II)V", sig := { parameters := [.int, .int], returnType := none }, accessFlags := 8, code := some k7c8 }
/-- java/lang/String -/
def k7 : Class := { plain "java/lang/String" (some 0) with
  accessFlags := 49
  interfaces := #[2, 3, 4, 5, 6]
  cf := some (fileOf pool7 10 #[.nestMembers #[1103]] #[{ accessFlags := 1, nameIndex := 5, descriptorIndex := 6, attributes := #[] }, { accessFlags := 1, nameIndex := 5, descriptorIndex := 1010, attributes := #[] }, { accessFlags := 1, nameIndex := 507, descriptorIndex := 334, attributes := #[] }, { accessFlags := 1, nameIndex := 497, descriptorIndex := 427, attributes := #[] }, { accessFlags := 1, nameIndex := 543, descriptorIndex := 573, attributes := #[] }, { accessFlags := 2, nameIndex := 5, descriptorIndex := 29, attributes := #[] }, { accessFlags := 0, nameIndex := 17, descriptorIndex := 337, attributes := #[] }, { accessFlags := 0, nameIndex := 494, descriptorIndex := 142, attributes := #[] }, { accessFlags := 8, nameIndex := 501, descriptorIndex := 391, attributes := #[] }] 49 2 #[1106, 1108, 575, 1110, 1112] #[{ accessFlags := 18, nameIndex := 13, descriptorIndex := 14, attributes := #[] }, { accessFlags := 18, nameIndex := 17, descriptorIndex := 18, attributes := #[] }, { accessFlags := 2, nameIndex := 21, descriptorIndex := 22, attributes := #[] }, { accessFlags := 2, nameIndex := 25, descriptorIndex := 26, attributes := #[] }, { accessFlags := 26, nameIndex := 1116, descriptorIndex := 1117, attributes := #[] }, { accessFlags := 24, nameIndex := 40, descriptorIndex := 26, attributes := #[] }, { accessFlags := 26, nameIndex := 1101, descriptorIndex := 1102, attributes := #[] }, { accessFlags := 26, nameIndex := 1121, descriptorIndex := 1122, attributes := #[] }, { accessFlags := 25, nameIndex := 599, descriptorIndex := 600, attributes := #[] }, { accessFlags := 24, nameIndex := 1125, descriptorIndex := 18, attributes := #[] }, { accessFlags := 24, nameIndex := 1127, descriptorIndex := 18, attributes := #[] }])
  fields := #[{ name := "value", type := (.array .byte), accessFlags := 18, slot := 0, constantValue := 0 }, { name := "coder", type := .byte, accessFlags := 18, slot := 1, constantValue := 0 }, { name := "hash", type := .int, accessFlags := 2, slot := 2, constantValue := 0 }, { name := "hashIsZero", type := .boolean, accessFlags := 2, slot := 3, constantValue := 0 }, { name := "serialVersionUID", type := .long, accessFlags := 26, slot := 0, constantValue := 0 }, { name := "COMPACT_STRINGS", type := .boolean, accessFlags := 24, slot := 1, constantValue := 0 }, { name := "serialPersistentFields", type := (.array (.object "java/io/ObjectStreamField")), accessFlags := 26, slot := 2, constantValue := 0 }, { name := "REPL", type := .char, accessFlags := 26, slot := 3, constantValue := 0 }, { name := "CASE_INSENSITIVE_ORDER", type := (.object "java/util/Comparator"), accessFlags := 25, slot := 4, constantValue := 0 }, { name := "LATIN1", type := .byte, accessFlags := 24, slot := 5, constantValue := 0 }, { name := "UTF16", type := .byte, accessFlags := 24, slot := 6, constantValue := 0 }]
  methods := #[k7m0, k7m1, k7m2, k7m3, k7m4, k7m5, k7m6, k7m7, k7m8]
  instanceTypes := #[(.array .byte), .byte, .int, .boolean]
  staticTypes := #[.long, .boolean, (.array (.object "java/io/ObjectStreamField")), .char, (.object "java/util/Comparator"), .byte, .byte]
  resolved := Array.replicate 1451 none
  statics := some 0 }

def pool8 : Array CpInfo := pool [(1, .class_ 2), (0, u "java/lang/String"), (1, .class_ 6), (1, u "java/lang/Object"), (0, u "<init>"), (0, u "()V"), (0, .methodref 1 10), (0, .nameAndType 11 12), (0, u "checkIndex"), (0, u "(II)V"), (1, .class_ 16), (1, u "java/lang/StringLatin1"), (36, u "([BI)C"), (67, u "$assertionsDisabled"), (0, u "Z"), (98, .class_ 223), (1, u "java/lang/StringLatin1$LinesSpliterator"), (28, u "charAt"), (28, u "equals"), (0, u "([B[B)Z"), (107, .class_ 391), (0, u "java/lang/StringLatin1$CharsSpliterator")] 3

def k8m0 : Method := { name := "<init>", desc := "()V", sig := { parameters := [], returnType := none }, accessFlags := 0, code := none }
def k8c1 : Code := { maxStack := 2, maxLocals := 2, code := jdk_43_method_2_code, exceptionTable := #[], attributes := #[] }
def k8m1 : Method := { name := "charAt", desc := "([BI)C", sig := { parameters := [(.array .byte), .int], returnType := some .char }, accessFlags := 9, code := some k8c1 }
def k8c2 : Code := { maxStack := 3, maxLocals := 3, code := jdk_43_method_13_code, exceptionTable := #[], attributes := #[] }
def k8m2 : Method := { name := "equals", desc := "([B[B)Z", sig := { parameters := [(.array .byte), (.array .byte)], returnType := some .boolean }, accessFlags := 9, code := some k8c2 }
/-- java/lang/StringLatin1 -/
def k8 : Class := { plain "java/lang/StringLatin1" (some 0) with
  accessFlags := 48
  interfaces := #[]
  cf := some (fileOf pool8 14 #[.nestMembers #[390, 221]] #[{ accessFlags := 0, nameIndex := 7, descriptorIndex := 8, attributes := #[] }, { accessFlags := 9, nameIndex := 252, descriptorIndex := 53, attributes := #[] }, { accessFlags := 9, nameIndex := 281, descriptorIndex := 282, attributes := #[] }] 48 4 #[] #[{ accessFlags := 4120, nameIndex := 121, descriptorIndex := 122, attributes := #[] }])
  fields := #[{ name := "$assertionsDisabled", type := .boolean, accessFlags := 4120, slot := 0, constantValue := 0 }]
  methods := #[k8m0, k8m1, k8m2]
  instanceTypes := #[]
  staticTypes := #[.boolean]
  resolved := Array.replicate 395 none
  statics := none }

def pool9 : Array CpInfo := pool [(2, .class_ 4), (1, u "java/lang/Object"), (0, u "<init>"), (0, u "()V"), (17, .class_ 26), (1, u "jdk/internal/util/Preconditions"), (6, u "checkIndex"), (21, .class_ 56), (0, u "jdk/internal/util/Preconditions$4"), (57, .class_ 115), (0, u "jdk/internal/util/Preconditions$1"), (7, u "SIOOBE_FORMATTER"), (0, u "Ljava/util/function/BiFunction;"), (0, .class_ 126), (0, u "jdk/internal/util/Preconditions$2"), (3, u "AIOOBE_FORMATTER"), (0, .class_ 132), (0, u "jdk/internal/util/Preconditions$3"), (3, u "IOOBE_FORMATTER"), (41, u "(IILjava/util/function/BiFunction;)I")] 15

def k9m0 : Method := { name := "<init>", desc := "()V", sig := { parameters := [], returnType := none }, accessFlags := 1, code := none }
def k9c1 : Code := { maxStack := 3, maxLocals := 3, code := jdk_41_method_11_code, exceptionTable := #[], attributes := #[] }
def k9m1 : Method := { name := "checkIndex", desc := "(IILjava/util/function/BiFunction;)I", sig := { parameters := [.int, .int, (.object "java/util/function/BiFunction")], returnType := some .int }, accessFlags := 9, code := some k9c1 }
/-- jdk/internal/util/Preconditions -/
def k9 : Class := { plain "jdk/internal/util/Preconditions" (some 0) with
  accessFlags := 33
  interfaces := #[]
  cf := some (fileOf pool9 24 #[.nestMembers #[55, 131, 125, 114]] #[{ accessFlags := 1, nameIndex := 5, descriptorIndex := 6, attributes := #[] }, { accessFlags := 9, nameIndex := 33, descriptorIndex := 178, attributes := #[] }] 33 2 #[] #[{ accessFlags := 25, nameIndex := 123, descriptorIndex := 124, attributes := #[] }, { accessFlags := 25, nameIndex := 130, descriptorIndex := 124, attributes := #[] }, { accessFlags := 25, nameIndex := 136, descriptorIndex := 124, attributes := #[] }])
  fields := #[{ name := "SIOOBE_FORMATTER", type := (.object "java/util/function/BiFunction"), accessFlags := 25, slot := 0, constantValue := 0 }, { name := "AIOOBE_FORMATTER", type := (.object "java/util/function/BiFunction"), accessFlags := 25, slot := 1, constantValue := 0 }, { name := "IOOBE_FORMATTER", type := (.object "java/util/function/BiFunction"), accessFlags := 25, slot := 2, constantValue := 0 }]
  methods := #[k9m0, k9m1]
  instanceTypes := #[]
  staticTypes := #[(.object "java/util/function/BiFunction"), (.object "java/util/function/BiFunction"), (.object "java/util/function/BiFunction")]
  resolved := Array.replicate 194 none
  statics := some 1 }

def pool10 : Array CpInfo := pool [(6, .class_ 8), (1, u "java/lang/Object"), (0, u "<init>"), (0, u "()V"), (1, .class_ 14), (1, u "java/lang/StringUTF16"), (31, u "$assertionsDisabled"), (0, u "Z"), (13, u "HI_BYTE_SHIFT"), (0, u "I"), (2, u "LO_BYTE_SHIFT"), (49, .methodref 12 116), (0, .nameAndType 117 118), (0, u "compress"), (0, u "([CI[BII)I"), (3, u "([CII)[B"), (138, u "coderFromArrayLen"), (0, u "([BI)B"), (106, .class_ 371), (1, u "java/lang/StringUTF16$LinesSpliterator"), (58, u "MAX_LENGTH"), (196, .class_ 628), (0, u "java/lang/StringUTF16$CodePointsSpliterator"), (0, .class_ 630), (0, u "java/lang/StringUTF16$CharsSpliterator")] 4

def k10m0 : Method := { name := "<init>", desc := "()V", sig := { parameters := [], returnType := none }, accessFlags := 0, code := none }
def k10c1 : Code := { maxStack := 2, maxLocals := 2, code := jdk_52_method_15_code, exceptionTable := #[], attributes := #[] }
def k10m1 : Method := { name := "coderFromArrayLen", desc := "([BI)B", sig := { parameters := [(.array .byte), .int], returnType := some .byte }, accessFlags := 8, code := some k10c1 }
def k10c2 : Code := { maxStack := 5, maxLocals := 6, code := jdk_52_method_16_code, exceptionTable := #[], attributes := #[] }
def k10m2 : Method := { name := "compress", desc := "([CII)[B", sig := { parameters := [(.array .char), .int, .int], returnType := some (.array .byte) }, accessFlags := 9, code := some k10c2 }
def k10c3 : Code := { maxStack := 3, maxLocals := 7, code := jdk_52_method_21_code, exceptionTable := #[], attributes := #[] }
def k10m3 : Method := { name := "compress", desc := "([CI[BII)I", sig := { parameters := [(.array .char), .int, (.array .byte), .int, .int], returnType := some .int }, accessFlags := 9, code := some k10c3 }
/-- java/lang/StringUTF16 -/
def k10 : Class := { plain "java/lang/StringUTF16" (some 0) with
  accessFlags := 48
  interfaces := #[]
  cf := some (fileOf pool10 12 #[.nestMembers #[627, 629, 369]] #[{ accessFlags := 0, nameIndex := 9, descriptorIndex := 10, attributes := #[] }, { accessFlags := 8, nameIndex := 261, descriptorIndex := 262, attributes := #[] }, { accessFlags := 9, nameIndex := 117, descriptorIndex := 122, attributes := #[] }, { accessFlags := 9, nameIndex := 117, descriptorIndex := 118, attributes := #[] }] 48 6 #[] #[{ accessFlags := 26, nameIndex := 61, descriptorIndex := 62, attributes := #[] }, { accessFlags := 26, nameIndex := 65, descriptorIndex := 62, attributes := #[] }, { accessFlags := 24, nameIndex := 430, descriptorIndex := 62, attributes := #[] }, { accessFlags := 4120, nameIndex := 46, descriptorIndex := 47, attributes := #[] }])
  fields := #[{ name := "HI_BYTE_SHIFT", type := .int, accessFlags := 26, slot := 0, constantValue := 0 }, { name := "LO_BYTE_SHIFT", type := .int, accessFlags := 26, slot := 1, constantValue := 0 }, { name := "MAX_LENGTH", type := .int, accessFlags := 24, slot := 2, constantValue := 0 }, { name := "$assertionsDisabled", type := .boolean, accessFlags := 4120, slot := 3, constantValue := 0 }]
  methods := #[k10m0, k10m1, k10m2, k10m3]
  instanceTypes := #[]
  staticTypes := #[.int, .int, .int, .boolean]
  resolved := Array.replicate 635 none
  statics := none }

def pool11 : Array CpInfo := pool [(2, .class_ 4), (1, u "java/lang/Enum"), (0, u "name"), (0, u "Ljava/lang/String;"), (2, u "ordinal"), (0, u "I"), (1, .class_ 14), (1, u "java/lang/Object"), (4, u "hash"), (86, .class_ 108), (1, u "java/lang/Enum$EnumDesc"), (2, .class_ 112), (0, u "java/lang/constant/Constable"), (0, .class_ 114), (0, u "java/lang/Comparable"), (0, .class_ 116), (0, u "java/io/Serializable")] 87

/-- java/lang/Enum -/
def k11 : Class := { plain "java/lang/Enum" (some 0) with
  accessFlags := 1057
  interfaces := #[5, 3, 2]
  cf := some (fileOf pool11 2 #[.nestMembers #[106]] #[] 1057 12 #[111, 113, 115] #[{ accessFlags := 18, nameIndex := 5, descriptorIndex := 6, attributes := #[] }, { accessFlags := 18, nameIndex := 9, descriptorIndex := 10, attributes := #[] }, { accessFlags := 2, nameIndex := 19, descriptorIndex := 10, attributes := #[] }])
  fields := #[{ name := "name", type := (.object "java/lang/String"), accessFlags := 18, slot := 0, constantValue := 0 }, { name := "ordinal", type := .int, accessFlags := 18, slot := 1, constantValue := 0 }, { name := "hash", type := .int, accessFlags := 2, slot := 2, constantValue := 0 }]
  methods := #[]
  instanceTypes := #[(.object "java/lang/String"), .int, .int]
  staticTypes := #[]
  resolved := Array.replicate 204 none
  statics := none }

def pool12 : Array CpInfo := pool [(1, .class_ 2), (0, u "com/example/attestbridge/attestbridge/sync/Permission"), (2, u "CREATE"), (0, u "Lcom/example/attestbridge/attestbridge/sync/Permission;"), (2, u "READ"), (2, u "UPDATE"), (2, u "DELETE"), (2, u "$VALUES"), (0, u "[Lcom/example/attestbridge/attestbridge/sync/Permission;"), (6, .class_ 28), (1, u "java/lang/Enum"), (6, .fieldref 1 36), (0, .nameAndType 37 38), (0, u "word"), (0, u "Ljava/lang/String;"), (2, u "namesFile"), (0, u "Z"), (2, u "onDirectory"), (0, u "I"), (2, u "onFile"), (0, .fieldref 1 51), (0, .nameAndType 52 19), (0, u "ALL"), (0, .methodref 54 55), (0, .class_ 56), (0, .nameAndType 57 58), (0, u "java/lang/String"), (0, u "equals"), (0, u "(Ljava/lang/Object;)Z"), (26, u "(Ljava/lang/String;)Lcom/example/attestbridge/attestbridge/sync/Permission;"), (3, u "named")] 9

def k12c0 : Code := { maxStack := 2, maxLocals := 5, code := prog_80_method_4_code, exceptionTable := #[], attributes := #[] }
def k12m0 : Method := { name := "named", desc := "(Ljava/lang/String;)Lcom/example/attestbridge/attestbridge/sync/Permission;", sig := { parameters := [(.object "java/lang/String")], returnType := some (.object "com/example/attestbridge/attestbridge/sync/Permission") }, accessFlags := 9, code := some k12c0 }
/-- com/example/attestbridge/attestbridge/sync/Permission -/
def k12 : Class := { plain "com/example/attestbridge/attestbridge/sync/Permission" (some 11) with
  accessFlags := 16433
  interfaces := #[]
  cf := some (fileOf pool12 1 #[] #[{ accessFlags := 9, nameIndex := 89, descriptorIndex := 85, attributes := #[] }] 16433 26 #[] #[{ accessFlags := 16409, nameIndex := 5, descriptorIndex := 6, attributes := #[] }, { accessFlags := 16409, nameIndex := 9, descriptorIndex := 6, attributes := #[] }, { accessFlags := 16409, nameIndex := 12, descriptorIndex := 6, attributes := #[] }, { accessFlags := 16409, nameIndex := 15, descriptorIndex := 6, attributes := #[] }, { accessFlags := 26, nameIndex := 52, descriptorIndex := 19, attributes := #[] }, { accessFlags := 18, nameIndex := 37, descriptorIndex := 38, attributes := #[] }, { accessFlags := 18, nameIndex := 41, descriptorIndex := 42, attributes := #[] }, { accessFlags := 18, nameIndex := 45, descriptorIndex := 46, attributes := #[] }, { accessFlags := 18, nameIndex := 49, descriptorIndex := 46, attributes := #[] }, { accessFlags := 4122, nameIndex := 18, descriptorIndex := 19, attributes := #[] }])
  fields := #[{ name := "CREATE", type := (.object "com/example/attestbridge/attestbridge/sync/Permission"), accessFlags := 16409, slot := 0, constantValue := 0 }, { name := "READ", type := (.object "com/example/attestbridge/attestbridge/sync/Permission"), accessFlags := 16409, slot := 1, constantValue := 0 }, { name := "UPDATE", type := (.object "com/example/attestbridge/attestbridge/sync/Permission"), accessFlags := 16409, slot := 2, constantValue := 0 }, { name := "DELETE", type := (.object "com/example/attestbridge/attestbridge/sync/Permission"), accessFlags := 16409, slot := 3, constantValue := 0 }, { name := "ALL", type := (.array (.object "com/example/attestbridge/attestbridge/sync/Permission")), accessFlags := 26, slot := 4, constantValue := 0 }, { name := "word", type := (.object "java/lang/String"), accessFlags := 18, slot := 3, constantValue := 0 }, { name := "namesFile", type := .boolean, accessFlags := 18, slot := 4, constantValue := 0 }, { name := "onDirectory", type := .int, accessFlags := 18, slot := 5, constantValue := 0 }, { name := "onFile", type := .int, accessFlags := 18, slot := 6, constantValue := 0 }, { name := "$VALUES", type := (.array (.object "com/example/attestbridge/attestbridge/sync/Permission")), accessFlags := 4122, slot := 5, constantValue := 0 }]
  methods := #[k12m0]
  instanceTypes := #[(.object "java/lang/String"), .int, .int, (.object "java/lang/String"), .boolean, .int, .int]
  staticTypes := #[(.object "com/example/attestbridge/attestbridge/sync/Permission"), (.object "com/example/attestbridge/attestbridge/sync/Permission"), (.object "com/example/attestbridge/attestbridge/sync/Permission"), (.object "com/example/attestbridge/attestbridge/sync/Permission"), (.array (.object "com/example/attestbridge/attestbridge/sync/Permission")), (.array (.object "com/example/attestbridge/attestbridge/sync/Permission"))]
  resolved := Array.replicate 99 none
  statics := some 2 }

def pool13 : Array CpInfo := pool [(9, u "<init>"), (6, .class_ 18), (1, u "java/lang/Object"), (0, u "()V"), (1, .class_ 23), (1, u "jdk/internal/util/ArraysSupport"), (0, u "LOG2_ARRAY_LONG_INDEX_SCALE"), (0, u "I"), (2, u "U"), (0, u "Ljdk/internal/misc/Unsafe;"), (8, u "BIG_ENDIAN"), (0, u "Z"), (8, u "LOG2_BYTE_BIT_SIZE"), (4, u "LOG2_ARRAY_INT_INDEX_SCALE"), (54, u "JLA"), (0, u "Ljdk/internal/access/JavaLangAccess;"), (11, u "LOG2_ARRAY_BOOLEAN_INDEX_SCALE"), (9, u "LOG2_ARRAY_BYTE_INDEX_SCALE"), (5, u "LOG2_ARRAY_CHAR_INDEX_SCALE"), (5, u "LOG2_ARRAY_SHORT_INDEX_SCALE"), (18, u "LOG2_ARRAY_FLOAT_INDEX_SCALE"), (24, u "LOG2_ARRAY_DOUBLE_INDEX_SCALE"), (89, u "T_BOOLEAN"), (2, u "T_CHAR"), (1, u "T_FLOAT"), (1, u "T_DOUBLE"), (1, u "T_BYTE"), (1, u "T_SHORT"), (1, u "T_INT"), (1, u "T_LONG"), (1, u "SOFT_MAX_ARRAY_LENGTH")] 83

def k13m0 : Method := { name := "<init>", desc := "()V", sig := { parameters := [], returnType := none }, accessFlags := 2, code := none }
/-- jdk/internal/util/ArraysSupport -/
def k13 : Class := { plain "jdk/internal/util/ArraysSupport" (some 0) with
  accessFlags := 33
  interfaces := #[]
  cf := some (fileOf pool13 21 #[] #[{ accessFlags := 2, nameIndex := 9, descriptorIndex := 19, attributes := #[] }] 33 16 #[] #[{ accessFlags := 24, nameIndex := 28, descriptorIndex := 29, attributes := #[] }, { accessFlags := 26, nameIndex := 38, descriptorIndex := 39, attributes := #[] }, { accessFlags := 25, nameIndex := 121, descriptorIndex := 25, attributes := #[] }, { accessFlags := 25, nameIndex := 131, descriptorIndex := 25, attributes := #[] }, { accessFlags := 25, nameIndex := 137, descriptorIndex := 25, attributes := #[] }, { accessFlags := 25, nameIndex := 143, descriptorIndex := 25, attributes := #[] }, { accessFlags := 25, nameIndex := 53, descriptorIndex := 25, attributes := #[] }, { accessFlags := 25, nameIndex := 24, descriptorIndex := 25, attributes := #[] }, { accessFlags := 25, nameIndex := 162, descriptorIndex := 25, attributes := #[] }, { accessFlags := 25, nameIndex := 187, descriptorIndex := 25, attributes := #[] }, { accessFlags := 26, nameIndex := 48, descriptorIndex := 25, attributes := #[] }, { accessFlags := 25, nameIndex := 277, descriptorIndex := 25, attributes := #[] }, { accessFlags := 25, nameIndex := 280, descriptorIndex := 25, attributes := #[] }, { accessFlags := 25, nameIndex := 282, descriptorIndex := 25, attributes := #[] }, { accessFlags := 25, nameIndex := 284, descriptorIndex := 25, attributes := #[] }, { accessFlags := 25, nameIndex := 286, descriptorIndex := 25, attributes := #[] }, { accessFlags := 25, nameIndex := 288, descriptorIndex := 25, attributes := #[] }, { accessFlags := 25, nameIndex := 290, descriptorIndex := 25, attributes := #[] }, { accessFlags := 25, nameIndex := 292, descriptorIndex := 25, attributes := #[] }, { accessFlags := 26, nameIndex := 108, descriptorIndex := 109, attributes := #[] }, { accessFlags := 25, nameIndex := 294, descriptorIndex := 25, attributes := #[] }])
  fields := #[{ name := "U", type := (.object "jdk/internal/misc/Unsafe"), accessFlags := 24, slot := 0, constantValue := 0 }, { name := "BIG_ENDIAN", type := .boolean, accessFlags := 26, slot := 1, constantValue := 0 }, { name := "LOG2_ARRAY_BOOLEAN_INDEX_SCALE", type := .int, accessFlags := 25, slot := 2, constantValue := 0 }, { name := "LOG2_ARRAY_BYTE_INDEX_SCALE", type := .int, accessFlags := 25, slot := 3, constantValue := 0 }, { name := "LOG2_ARRAY_CHAR_INDEX_SCALE", type := .int, accessFlags := 25, slot := 4, constantValue := 0 }, { name := "LOG2_ARRAY_SHORT_INDEX_SCALE", type := .int, accessFlags := 25, slot := 5, constantValue := 0 }, { name := "LOG2_ARRAY_INT_INDEX_SCALE", type := .int, accessFlags := 25, slot := 6, constantValue := 0 }, { name := "LOG2_ARRAY_LONG_INDEX_SCALE", type := .int, accessFlags := 25, slot := 7, constantValue := 0 }, { name := "LOG2_ARRAY_FLOAT_INDEX_SCALE", type := .int, accessFlags := 25, slot := 8, constantValue := 0 }, { name := "LOG2_ARRAY_DOUBLE_INDEX_SCALE", type := .int, accessFlags := 25, slot := 9, constantValue := 0 }, { name := "LOG2_BYTE_BIT_SIZE", type := .int, accessFlags := 26, slot := 10, constantValue := 0 }, { name := "T_BOOLEAN", type := .int, accessFlags := 25, slot := 11, constantValue := 0 }, { name := "T_CHAR", type := .int, accessFlags := 25, slot := 12, constantValue := 0 }, { name := "T_FLOAT", type := .int, accessFlags := 25, slot := 13, constantValue := 0 }, { name := "T_DOUBLE", type := .int, accessFlags := 25, slot := 14, constantValue := 0 }, { name := "T_BYTE", type := .int, accessFlags := 25, slot := 15, constantValue := 0 }, { name := "T_SHORT", type := .int, accessFlags := 25, slot := 16, constantValue := 0 }, { name := "T_INT", type := .int, accessFlags := 25, slot := 17, constantValue := 0 }, { name := "T_LONG", type := .int, accessFlags := 25, slot := 18, constantValue := 0 }, { name := "JLA", type := (.object "jdk/internal/access/JavaLangAccess"), accessFlags := 26, slot := 19, constantValue := 0 }, { name := "SOFT_MAX_ARRAY_LENGTH", type := .int, accessFlags := 25, slot := 20, constantValue := 0 }]
  methods := #[k13m0]
  instanceTypes := #[]
  staticTypes := #[(.object "jdk/internal/misc/Unsafe"), .boolean, .int, .int, .int, .int, .int, .int, .int, .int, .int, .int, .int, .int, .int, .int, .int, .int, .int, (.object "jdk/internal/access/JavaLangAccess"), .int]
  resolved := Array.replicate 378 none
  statics := none }

def pool14 : Array CpInfo := pool [(1, u "java/lang/Cloneable"), (0, .class_ 1), (0, u "java/lang/Object"), (0, .class_ 3)] 3

/-- java/lang/Cloneable -/
def k14 : Class := { plain "java/lang/Cloneable" (some 0) with
  accessFlags := 1537
  interfaces := #[]
  cf := some (fileOf pool14 2 #[] #[] 1537 4 #[] #[])
  fields := #[]
  methods := #[]
  instanceTypes := #[]
  staticTypes := #[]
  resolved := Array.replicate 8 none
  statics := none }

/-- the primitive byte -/
def k15 : Class := { plain "byte" none with kind := .primitive 'B', accessFlags := 0x411 }
/-- [B -/
def k16 : Class := { plain "[B" (some 0) with kind := .array 15 .byte, interfaces := #[14, 2], accessFlags := 1041 }

/-- the primitive char -/
def k17 : Class := { plain "char" none with kind := .primitive 'C', accessFlags := 0x411 }
/-- [C -/
def k18 : Class := { plain "[C" (some 0) with kind := .array 17 .char, interfaces := #[14, 2], accessFlags := 1041 }

/-- the primitive int -/
def k19 : Class := { plain "int" none with kind := .primitive 'I', accessFlags := 0x411 }
/-- [I -/
def k20 : Class := { plain "[I" (some 0) with kind := .array 19 .int, interfaces := #[14, 2], accessFlags := 1041 }

/-- [Lcom/example/attestbridge/attestbridge/sync/Permission; -/
def k21 : Class := { plain "[Lcom/example/attestbridge/attestbridge/sync/Permission;" (some 0) with kind := .array 12 (.object "com/example/attestbridge/attestbridge/sync/Permission"), interfaces := #[14, 2], accessFlags := 1041 }

def heap : Heap := #[{ cls := 7, slots := #[.long 0, .int 1, .null, .int 0, .null, .int 0, .int 0], vm := .statics 7 },
  { cls := 9, slots := #[.null, .null, .null], vm := .statics 9 },
  { cls := 12, slots := #[.ref 4, .ref 5, .ref 6, .ref 7, .ref 3, .null], vm := .statics 12 },
  { cls := 21, slots := #[.ref 4, .ref 5, .ref 6, .ref 7], vm := .none },
  { cls := 12, slots := #[.null, .int 0, .int 0, .ref 8, .int 0, .int 0, .int 0], vm := .none },
  { cls := 12, slots := #[.null, .int 0, .int 0, .ref 9, .int 0, .int 0, .int 0], vm := .none },
  { cls := 12, slots := #[.null, .int 0, .int 0, .ref 10, .int 0, .int 0, .int 0], vm := .none },
  { cls := 12, slots := #[.null, .int 0, .int 0, .ref 11, .int 0, .int 0, .int 0], vm := .none },
  { cls := 7, slots := #[.ref 12, .int 0, .int 0, .int 0], vm := .none },
  { cls := 7, slots := #[.ref 13, .int 0, .int 0, .int 0], vm := .none },
  { cls := 7, slots := #[.ref 14, .int 0, .int 0, .int 0], vm := .none },
  { cls := 7, slots := #[.ref 15, .int 0, .int 0, .int 0], vm := .none },
  { cls := 16, slots := #[.int 99, .int 114, .int 101, .int 97, .int 116, .int 101], vm := .none },
  { cls := 16, slots := #[.int 114, .int 101, .int 97, .int 100], vm := .none },
  { cls := 16, slots := #[.int 117, .int 112, .int 100, .int 97, .int 116, .int 101], vm := .none },
  { cls := 16, slots := #[.int 100, .int 101, .int 108, .int 101, .int 116, .int 101], vm := .none }]
def classes : Array Class := #[k0, k1, k2, k3, k4, k5, k6, k7, k8, k9, k10, k11, k12, k13, k14, k15, k16, k17, k18, k19, k20, k21]
def interned : List (Array UInt16 × Addr) := []
def slotsUsed : Nat := 86
def theMethod : MethodId := ⟨1, 1⟩
def args0 : Array Value := #[.int 5, .int 6, .int 7, .int 8, .int 9]
def aboutOver (below : List Frame) : State where
  vm := { classes := classes, interned := interned.toArray }
  heap := heap
  slotsUsed := slotsUsed
  threads := #[{ frames := .invoking theMethod args0 :: below }]
def below0 : List Frame := [.native { method := ⟨0, 0⟩, args := #[] }]
def about1 : State := aboutOver below0
def p0 : Program := .bare "" "" ""
def e0 : Env := launch0.env 0 0 0
theorem w_frames : about1.frames = Frame.invoking theMethod args0 :: below0 := rfl
set_option maxRecDepth 65536 in
theorem w_args : argsFit about1.vm theMethod args0 = true := by decide +kernel
set_option maxRecDepth 65536 in
theorem w_heap : heapFits about1 = true := by decide +kernel
set_option maxRecDepth 65536 in
theorem w_runnable : about1.curStatus? = some .runnable := by decide +kernel
set_option maxRecDepth 65536 in
theorem w_alone : about1.alone = true := by decide +kernel
set_option maxRecDepth 65536 in
theorem w_named : about1.methodNamed? x = some theMethod := by decide +kernel
set_option maxRecDepth 65536 in
theorem w_hears : about1.hears theMethod below0 = true := by decide +kernel
set_option maxRecDepth 65536 in
theorem w_ripe : about1.ripe theMethod args0 below0 = true := by decide +kernel
theorem w_running : about1.status = .running := rfl
set_option maxRecDepth 65536 in
theorem w_room : about1.hasRoom e0.platform room_1 = true :=
  launch0.hasRoom_least _ room_1 (by decide +kernel) (by decide +kernel) (by decide +kernel) (by decide +kernel) (by decide +kernel) (by decide +kernel)
theorem allAtoms_all (ts : List Jvm.Cond) (a : Array Jvm.Value) (st : Jvm.State) : (allAtoms ts).before a st = ts.all (fun c => c.before a st) := by
  induction ts with
  | nil => rfl
  | cons c t ih =>
    show (Jvm.Cond.and c (allAtoms t)).before a st = _
    rw [Jvm.Cond.before_and, ih, List.all_cons]
def words1 : List Jvm.Cond := Jvm.Cond.code x code maxLocals ret :: tables_1
/-- a 'code' word, met by the world's own term for the bytes: nothing is compared byte by byte -/
theorem code_word {y : MethodName} {bytes : ByteArray} {mx : Nat} {rt : Option FieldType} {a : Array Value} {s : State} {m : MethodId} {meth : Method} {c : Code} (h1 : s.methodNamed? y = some m) (h2 : s.vm.method? m = some meth) (h3 : meth.code = some c) (h4 : c.code = bytes)
    (h5 : (c.maxLocals == mx && c.exceptionTable.isEmpty && decide (c.maxStack ≤ mostOperands) && decide (meth.sig.returnType = rt) && !meth.locks && decide (parseMethodDescriptor y.desc = some meth.sig)) = true) : (Jvm.Cond.code y bytes mx rt).before a s = true := by
  simp only [Bool.and_eq_true, beq_iff_eq, Bool.not_eq_true', decide_eq_true_eq] at h5
  obtain ⟨⟨⟨⟨⟨g1, g2⟩, g3⟩, g4⟩, g5⟩, g6⟩ := h5
  simp [Cond.before, Cond.holds, Cond.value, h1, h2, h3, h4, g1, g2, g3, g4, g5, g6]
def isCode : Jvm.Cond → Bool
  | .code _ _ _ _ => true
  | _ => false
theorem all_split {L : List Jvm.Cond} {P : Jvm.Cond → Bool} (h1 : L.all (fun c => isCode c || P c) = true) (h2 : ∀ c ∈ L.filter isCode, P c = true) : L.all P = true := by
  refine List.all_eq_true.mpr fun c hc => ?_
  have h := List.all_eq_true.mp h1 c hc
  rcases Bool.eq_false_or_eq_true (isCode c) with hi | hi
  · exact h2 c (List.mem_filter.mpr ⟨hc, hi⟩)
  · simpa [hi] using h
set_option maxRecDepth 65536 in
theorem w_c0 : (Jvm.Cond.code x code maxLocals ret).before args0 about1 = true := code_word (m := ⟨1, 1⟩) (meth := k1m1) (c := k1c1) (by decide +kernel) rfl rfl rfl (by decide +kernel)
set_option maxRecDepth 65536 in
theorem w_c1 : (Jvm.Cond.code ({ cls := "java/lang/String", name := "length", desc := "()I" } : Jvm.MethodName) jdk_42_method_54_code (1 : Nat) (Option.some Jvm.ClassFile.FieldType.int)).before args0 about1 = true := code_word (m := ⟨7, 2⟩) (meth := k7m2) (c := k7c2) (by decide +kernel) rfl rfl rfl (by decide +kernel)
set_option maxRecDepth 65536 in
theorem w_c2 : (Jvm.Cond.code ({ cls := "java/lang/String", name := "coder", desc := "()B" } : Jvm.MethodName) jdk_42_method_152_code (1 : Nat) (Option.some Jvm.ClassFile.FieldType.byte)).before args0 about1 = true := code_word (m := ⟨7, 6⟩) (meth := k7m6) (c := k7c6) (by decide +kernel) rfl rfl rfl (by decide +kernel)
set_option maxRecDepth 65536 in
theorem w_c3 : (Jvm.Cond.code ({ cls := "com/example/attestbridge/attestbridge/sync/PermissionNamedPinLaw", name := "pick", desc := "(Ljava/lang/String;IIIZI)C" } : Jvm.MethodName) method_4_code (6 : Nat) (Option.some Jvm.ClassFile.FieldType.char)).before args0 about1 = true := code_word (m := ⟨1, 3⟩) (meth := k1m3) (c := k1c3) (by decide +kernel) rfl rfl rfl (by decide +kernel)
set_option maxRecDepth 65536 in
theorem w_c4 : (Jvm.Cond.code ({ cls := "java/lang/String", name := "charAt", desc := "(I)C" } : Jvm.MethodName) jdk_42_method_56_code (2 : Nat) (Option.some Jvm.ClassFile.FieldType.char)).before args0 about1 = true := code_word (m := ⟨7, 3⟩) (meth := k7m3) (c := k7c3) (by decide +kernel) rfl rfl rfl (by decide +kernel)
set_option maxRecDepth 65536 in
theorem w_c5 : (Jvm.Cond.code ({ cls := "java/lang/String", name := "isLatin1", desc := "()Z" } : Jvm.MethodName) jdk_42_method_154_code (1 : Nat) (Option.some Jvm.ClassFile.FieldType.boolean)).before args0 about1 = true := code_word (m := ⟨7, 7⟩) (meth := k7m7) (c := k7c7) (by decide +kernel) rfl rfl rfl (by decide +kernel)
set_option maxRecDepth 65536 in
theorem w_c6 : (Jvm.Cond.code ({ cls := "java/lang/StringLatin1", name := "charAt", desc := "([BI)C" } : Jvm.MethodName) jdk_43_method_2_code (2 : Nat) (Option.some Jvm.ClassFile.FieldType.char)).before args0 about1 = true := code_word (m := ⟨8, 1⟩) (meth := k8m1) (c := k8c1) (by decide +kernel) rfl rfl rfl (by decide +kernel)
set_option maxRecDepth 65536 in
theorem w_c7 : (Jvm.Cond.code ({ cls := "java/lang/String", name := "checkIndex", desc := "(II)V" } : Jvm.MethodName) jdk_42_method_155_code (2 : Nat) (Option.none : Option Jvm.ClassFile.FieldType)).before args0 about1 = true := code_word (m := ⟨7, 8⟩) (meth := k7m8) (c := k7c8) (by decide +kernel) rfl rfl rfl (by decide +kernel)
set_option maxRecDepth 65536 in
theorem w_c8 : (Jvm.Cond.code ({ cls := "jdk/internal/util/Preconditions", name := "checkIndex", desc := "(IILjava/util/function/BiFunction;)I" } : Jvm.MethodName) jdk_41_method_11_code (3 : Nat) (Option.some Jvm.ClassFile.FieldType.int)).before args0 about1 = true := code_word (m := ⟨9, 1⟩) (meth := k9m1) (c := k9c1) (by decide +kernel) rfl rfl rfl (by decide +kernel)
set_option maxRecDepth 65536 in
theorem w_c9 : (Jvm.Cond.code ({ cls := "com/example/attestbridge/attestbridge/sync/PermissionNamedPinLaw", name := "drawn", desc := "(III)C" } : Jvm.MethodName) method_3_code (3 : Nat) (Option.some Jvm.ClassFile.FieldType.char)).before args0 about1 = true := code_word (m := ⟨1, 2⟩) (meth := k1m2) (c := k1c2) (by decide +kernel) rfl rfl rfl (by decide +kernel)
set_option maxRecDepth 65536 in
theorem w_c10 : (Jvm.Cond.code ({ cls := "com/example/attestbridge/attestbridge/sync/PermissionNamedPinLaw", name := "make", desc := "(ICCCCCCC)Ljava/lang/String;" } : Jvm.MethodName) method_5_code (8 : Nat) (Option.some (Jvm.ClassFile.FieldType.object "java/lang/String"))).before args0 about1 = true := code_word (m := ⟨1, 4⟩) (meth := k1m4) (c := k1c4) (by decide +kernel) rfl rfl rfl (by decide +kernel)
set_option maxRecDepth 65536 in
theorem w_c11 : (Jvm.Cond.code ({ cls := "java/lang/String", name := "<init>", desc := "([C)V" } : Jvm.MethodName) jdk_42_method_3_code (2 : Nat) (Option.none : Option Jvm.ClassFile.FieldType)).before args0 about1 = true := code_word (m := ⟨7, 1⟩) (meth := k7m1) (c := k7c1) (by decide +kernel) rfl rfl rfl (by decide +kernel)
set_option maxRecDepth 65536 in
theorem w_c12 : (Jvm.Cond.code ({ cls := "java/lang/String", name := "<init>", desc := "([CIILjava/lang/Void;)V" } : Jvm.MethodName) jdk_42_method_149_code (6 : Nat) (Option.none : Option Jvm.ClassFile.FieldType)).before args0 about1 = true := code_word (m := ⟨7, 5⟩) (meth := k7m5) (c := k7c5) (by decide +kernel) rfl rfl rfl (by decide +kernel)
set_option maxRecDepth 65536 in
theorem w_c13 : (Jvm.Cond.code ({ cls := "java/lang/Object", name := "<init>", desc := "()V" } : Jvm.MethodName) object_method_1_code (1 : Nat) (Option.none : Option Jvm.ClassFile.FieldType)).before args0 about1 = true := code_word (m := ⟨0, 0⟩) (meth := k0m0) (c := k0c0) (by decide +kernel) rfl rfl rfl (by decide +kernel)
set_option maxRecDepth 65536 in
theorem w_c14 : (Jvm.Cond.code ({ cls := "java/lang/StringUTF16", name := "compress", desc := "([CII)[B" } : Jvm.MethodName) jdk_52_method_16_code (6 : Nat) (Option.some (Jvm.ClassFile.FieldType.array Jvm.ClassFile.FieldType.byte))).before args0 about1 = true := code_word (m := ⟨10, 2⟩) (meth := k10m2) (c := k10c2) (by decide +kernel) rfl rfl rfl (by decide +kernel)
set_option maxRecDepth 65536 in
theorem w_c15 : (Jvm.Cond.code ({ cls := "java/lang/StringUTF16", name := "compress", desc := "([CI[BII)I" } : Jvm.MethodName) jdk_52_method_21_code (7 : Nat) (Option.some Jvm.ClassFile.FieldType.int)).before args0 about1 = true := code_word (m := ⟨10, 3⟩) (meth := k10m3) (c := k10c3) (by decide +kernel) rfl rfl rfl (by decide +kernel)
set_option maxRecDepth 65536 in
theorem w_c16 : (Jvm.Cond.code ({ cls := "java/lang/StringUTF16", name := "coderFromArrayLen", desc := "([BI)B" } : Jvm.MethodName) jdk_52_method_15_code (2 : Nat) (Option.some Jvm.ClassFile.FieldType.byte)).before args0 about1 = true := code_word (m := ⟨10, 1⟩) (meth := k10m1) (c := k10c1) (by decide +kernel) rfl rfl rfl (by decide +kernel)
set_option maxRecDepth 65536 in
theorem w_c17 : (Jvm.Cond.code ({ cls := "com/example/attestbridge/attestbridge/sync/Permission", name := "named", desc := "(Ljava/lang/String;)Lcom/example/attestbridge/attestbridge/sync/Permission;" } : Jvm.MethodName) prog_80_method_4_code (5 : Nat) (Option.some (Jvm.ClassFile.FieldType.object "com/example/attestbridge/attestbridge/sync/Permission"))).before args0 about1 = true := code_word (m := ⟨12, 0⟩) (meth := k12m0) (c := k12c0) (by decide +kernel) rfl rfl rfl (by decide +kernel)
set_option maxRecDepth 65536 in
theorem w_c18 : (Jvm.Cond.code ({ cls := "java/lang/String", name := "equals", desc := "(Ljava/lang/Object;)Z" } : Jvm.MethodName) jdk_42_method_66_code (3 : Nat) (Option.some Jvm.ClassFile.FieldType.boolean)).before args0 about1 = true := code_word (m := ⟨7, 4⟩) (meth := k7m4) (c := k7c4) (by decide +kernel) rfl rfl rfl (by decide +kernel)
set_option maxRecDepth 65536 in
theorem w_c19 : (Jvm.Cond.code ({ cls := "java/lang/StringLatin1", name := "equals", desc := "([B[B)Z" } : Jvm.MethodName) jdk_43_method_13_code (3 : Nat) (Option.some Jvm.ClassFile.FieldType.boolean)).before args0 about1 = true := code_word (m := ⟨8, 2⟩) (meth := k8m2) (c := k8c2) (by decide +kernel) rfl rfl rfl (by decide +kernel)
def codes1 : List Jvm.Cond := [Jvm.Cond.code x code maxLocals ret, Jvm.Cond.code ({ cls := "java/lang/String", name := "length", desc := "()I" } : Jvm.MethodName) jdk_42_method_54_code (1 : Nat) (Option.some Jvm.ClassFile.FieldType.int), Jvm.Cond.code ({ cls := "java/lang/String", name := "coder", desc := "()B" } : Jvm.MethodName) jdk_42_method_152_code (1 : Nat) (Option.some Jvm.ClassFile.FieldType.byte), Jvm.Cond.code ({ cls := "com/example/attestbridge/attestbridge/sync/PermissionNamedPinLaw", name := "pick", desc := "(Ljava/lang/String;IIIZI)C" } : Jvm.MethodName) method_4_code (6 : Nat) (Option.some Jvm.ClassFile.FieldType.char), Jvm.Cond.code ({ cls := "java/lang/String", name := "charAt", desc := "(I)C" } : Jvm.MethodName) jdk_42_method_56_code (2 : Nat) (Option.some Jvm.ClassFile.FieldType.char), Jvm.Cond.code ({ cls := "java/lang/String", name := "isLatin1", desc := "()Z" } : Jvm.MethodName) jdk_42_method_154_code (1 : Nat) (Option.some Jvm.ClassFile.FieldType.boolean), Jvm.Cond.code ({ cls := "java/lang/StringLatin1", name := "charAt", desc := "([BI)C" } : Jvm.MethodName) jdk_43_method_2_code (2 : Nat) (Option.some Jvm.ClassFile.FieldType.char), Jvm.Cond.code ({ cls := "java/lang/String", name := "checkIndex", desc := "(II)V" } : Jvm.MethodName) jdk_42_method_155_code (2 : Nat) (Option.none : Option Jvm.ClassFile.FieldType), Jvm.Cond.code ({ cls := "jdk/internal/util/Preconditions", name := "checkIndex", desc := "(IILjava/util/function/BiFunction;)I" } : Jvm.MethodName) jdk_41_method_11_code (3 : Nat) (Option.some Jvm.ClassFile.FieldType.int), Jvm.Cond.code ({ cls := "com/example/attestbridge/attestbridge/sync/PermissionNamedPinLaw", name := "drawn", desc := "(III)C" } : Jvm.MethodName) method_3_code (3 : Nat) (Option.some Jvm.ClassFile.FieldType.char), Jvm.Cond.code ({ cls := "com/example/attestbridge/attestbridge/sync/PermissionNamedPinLaw", name := "make", desc := "(ICCCCCCC)Ljava/lang/String;" } : Jvm.MethodName) method_5_code (8 : Nat) (Option.some (Jvm.ClassFile.FieldType.object "java/lang/String")), Jvm.Cond.code ({ cls := "java/lang/String", name := "<init>", desc := "([C)V" } : Jvm.MethodName) jdk_42_method_3_code (2 : Nat) (Option.none : Option Jvm.ClassFile.FieldType), Jvm.Cond.code ({ cls := "java/lang/String", name := "<init>", desc := "([CIILjava/lang/Void;)V" } : Jvm.MethodName) jdk_42_method_149_code (6 : Nat) (Option.none : Option Jvm.ClassFile.FieldType), Jvm.Cond.code ({ cls := "java/lang/Object", name := "<init>", desc := "()V" } : Jvm.MethodName) object_method_1_code (1 : Nat) (Option.none : Option Jvm.ClassFile.FieldType), Jvm.Cond.code ({ cls := "java/lang/StringUTF16", name := "compress", desc := "([CII)[B" } : Jvm.MethodName) jdk_52_method_16_code (6 : Nat) (Option.some (Jvm.ClassFile.FieldType.array Jvm.ClassFile.FieldType.byte)), Jvm.Cond.code ({ cls := "java/lang/StringUTF16", name := "compress", desc := "([CI[BII)I" } : Jvm.MethodName) jdk_52_method_21_code (7 : Nat) (Option.some Jvm.ClassFile.FieldType.int), Jvm.Cond.code ({ cls := "java/lang/StringUTF16", name := "coderFromArrayLen", desc := "([BI)B" } : Jvm.MethodName) jdk_52_method_15_code (2 : Nat) (Option.some Jvm.ClassFile.FieldType.byte), Jvm.Cond.code ({ cls := "com/example/attestbridge/attestbridge/sync/Permission", name := "named", desc := "(Ljava/lang/String;)Lcom/example/attestbridge/attestbridge/sync/Permission;" } : Jvm.MethodName) prog_80_method_4_code (5 : Nat) (Option.some (Jvm.ClassFile.FieldType.object "com/example/attestbridge/attestbridge/sync/Permission")), Jvm.Cond.code ({ cls := "java/lang/String", name := "equals", desc := "(Ljava/lang/Object;)Z" } : Jvm.MethodName) jdk_42_method_66_code (3 : Nat) (Option.some Jvm.ClassFile.FieldType.boolean), Jvm.Cond.code ({ cls := "java/lang/StringLatin1", name := "equals", desc := "([B[B)Z" } : Jvm.MethodName) jdk_43_method_13_code (3 : Nat) (Option.some Jvm.ClassFile.FieldType.boolean)]
set_option maxRecDepth 65536 in
theorem codes_eq : words1.filter isCode = codes1 := rfl
theorem w_codes : ∀ c ∈ words1.filter isCode, c.before args0 about1 = true := by
  rw [codes_eq]
  intro c hc
  simp only [codes1, List.mem_cons, List.not_mem_nil, or_false] at hc
  rcases hc with rfl | rfl | rfl | rfl | rfl | rfl | rfl | rfl | rfl | rfl | rfl | rfl | rfl | rfl | rfl | rfl | rfl | rfl | rfl | rfl
  · exact w_c0
  · exact w_c1
  · exact w_c2
  · exact w_c3
  · exact w_c4
  · exact w_c5
  · exact w_c6
  · exact w_c7
  · exact w_c8
  · exact w_c9
  · exact w_c10
  · exact w_c11
  · exact w_c12
  · exact w_c13
  · exact w_c14
  · exact w_c15
  · exact w_c16
  · exact w_c17
  · exact w_c18
  · exact w_c19
set_option maxRecDepth 65536 in
theorem w_t1 : (words1.take 24).all (fun c => isCode c || c.before args0 about1) = true := by decide +kernel
set_option maxRecDepth 65536 in
theorem w_t2 : ((words1.drop 24).take 24).all (fun c => isCode c || c.before args0 about1) = true := by decide +kernel
set_option maxRecDepth 65536 in
theorem w_t3 : (((words1.drop 24).drop 24).take 24).all (fun c => isCode c || c.before args0 about1) = true := by decide +kernel
set_option maxRecDepth 65536 in
theorem w_t4 : ((((words1.drop 24).drop 24).drop 24).take 24).all (fun c => isCode c || c.before args0 about1) = true := by decide +kernel
set_option maxRecDepth 65536 in
theorem w_t5 : ((((words1.drop 24).drop 24).drop 24).drop 24).all (fun c => isCode c || c.before args0 about1) = true := by decide +kernel
theorem w_tables : (allAtoms (Jvm.Cond.code x code maxLocals ret :: tables_1)).before args0 about1 = true := by
  rw [allAtoms_all]
  show words1.all (fun c => c.before args0 about1) = true
  refine all_split ?_ w_codes
  rw [← List.take_append_drop 24 words1, List.all_append, w_t1, ← List.take_append_drop 24 (words1.drop 24), List.all_append, w_t2, ← List.take_append_drop 24 ((words1.drop 24).drop 24), List.all_append, w_t3, ← List.take_append_drop 24 (((words1.drop 24).drop 24).drop 24), List.all_append, w_t4, w_t5]
  rfl
set_option maxRecDepth 65536 in
theorem w_rest : rest_1_c.before args0 about1 = true := by decide +kernel
set_option maxRecDepth 65536 in
theorem w_case : (Jvm.Cond.and given_1 narrow_1).before args0 about1 = true := by decide +kernel
set_option maxRecDepth 65536 in
theorem w_consts : constsHeld consts_1 about1 := Jvm.Lit.constsHeldB_iff.mp (by decide +kernel)
theorem w_applies : (headSpec (Jvm.Cond.code x code maxLocals ret :: tables_1) room_1).applies x e0.platform about1 = true :=
  (Spec.applies_iff w_frames).mpr ⟨w_running, w_runnable, w_alone, w_named, w_hears, w_ripe, w_room, w_tables⟩
theorem atStart : AtStart classFile x code maxLocals ret World_1 tables_1 room_1 Calls_1 rest_1 Pre_1 launch0 p0 e0 about1 theMethod args0 below0 :=
  ⟨lists_1, trivial, launch0.admits_env _ _ _, launch0.least_env, fairChoices_fair.cas, fairChoices_fair.clock, w_frames, w_args, w_heap, w_applies, ⟨w_consts, trivial⟩, w_rest, w_case⟩
end start1
theorem witness_1 : WitnessClaimed_1 := ⟨start1.p0, start1.e0, start1.about1, start1.theMethod, start1.args0, start1.below0, start1.atStart⟩
end Jvm.Pilot.@@N@@
