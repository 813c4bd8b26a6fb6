import JvmDerived
import JvmDerived.Pilot.@@N@@Statement
import JvmDerived.Pilot.@@N@@Code
set_option linter.unusedVariables false
set_option linter.unusedSimpArgs false
namespace Jvm.RoadKit
open Sem ClassFile Op Lib Jvm.Stand Jvm.Free Jvm.LawKit
section New
variable {p : Program} {l : Launch} {e : Env} {R : Room} {s : State} {m : MethodId} {args : Array Value} {below : List Frame} {meth : Method} {c : Code} {T : State} {locs : List Loc} {cells slots : Nat}
theorem retI (X : Stand p l e R s m args below meth c T locs cells slots) (hx : p.tables.exec = Jvm.exec) {pc : Nat} {Ls : Array Slot} {z : Int32} {rest : List Value} (hret : meth.sig.returnType = some .int) (hd : decode c.code pc = .ok (.ireturn, 1)) {fs : List Frame}
    (hl : ∀ (f : JFrame) (acts : List Action), f.method = m → f.locked = none → f.entered = [] → (doReturn e (T.setTop f) acts (some (.int z))).1 = T.setFrames fs) : Steps p.tables e below (T.setTop (mkF m pc Ls (.int z :: rest))) (T.setFrames fs) := by
  have hm' : T.vm.method? m = some meth := X.method'
  have hn : narrow .int (.int z) = .int z := rfl
  show Steps p.tables e below (T.setTop { method := m, pc := pc, locals := Ls, stack := _ :: rest, locked := none }) _
  jvm_step X.here [X.here.top, hx, hd, hm', hret, hn]
  first | (intro acts; rw [hl _ acts rfl rfl rfl]) | rw [hl _ _ rfl rfl rfl]
  exact Steps.refl _
end New
end Jvm.RoadKit
namespace Jvm.Pilot.@@N@@
open Jvm Jvm.ClassFile Sem Op Lib Jvm.Free Jvm.Stand Jvm.LawKit Jvm.RoadKit Bundle Jvm.Pilot.@@N@@.Jvm.D
theorem own_tlt {a b : Int32} {x y : Int} (ha : a.toInt = x) (hb : b.toInt = y) (h : x < y) : if_icmp.holds .lt a b = true ∧ if_icmp.holds .ge a b = false ∧ if_icmp.holds .gt b a = true ∧ if_icmp.holds .le b a = false := tlt (Int32.lt_iff_toInt_lt.mpr (by rw [ha, hb]; exact h))
theorem own_flt {a b : Int32} {x y : Int} (ha : a.toInt = x) (hb : b.toInt = y) (h : ¬ x < y) : if_icmp.holds .lt a b = false ∧ if_icmp.holds .ge a b = true ∧ if_icmp.holds .gt b a = false ∧ if_icmp.holds .le b a = true := flt (fun q => h (by rw [← ha, ← hb]; exact Int32.lt_iff_toInt_lt.mp q))
theorem own_teq {a b : Int32} {x y : Int} (ha : a.toInt = x) (hb : b.toInt = y) (h : x = y) : if_icmp.holds .eq a b = true ∧ if_icmp.holds .ne a b = false := teq (Int32.toInt_inj.mp (by rw [ha, hb]; exact h))
theorem own_feq {a b : Int32} {x y : Int} (ha : a.toInt = x) (hb : b.toInt = y) (h : ¬ x = y) : if_icmp.holds .eq a b = false ∧ if_icmp.holds .ne a b = true := feq (fun q => h (by rw [← ha, ← hb, q]))
theorem own_if {cd : ClassFile.Cond} {x : Int32} {b : Bool} (h : if_icmp.holds cd x 0 = b) : ifCond.holds cd x = b := (if0 cd x).trans h
set_option maxRecDepth 65536
set_option maxHeartbeats 40000000
theorem ow {Z : State} {a0 : Array Value} (hw : ∀ d ∈ tables_1, d.before a0 Z = true) (i : Nat) {d : Jvm.Cond} (q : tables_1[i]? = some d) : d.before a0 Z = true := hw d (List.mem_of_getElem? q)
abbrev oP (p : Program) (e : Env) (b : List Frame) (A B : State) : Prop := ∀ t, Steps p.tables e b A t → Steps p.tables e b B t
abbrev yn0 : MethodName := ⟨"com/example/path_template_matcher/pathtemplatematcher/PercentEncoding", "isHexDigit", "(C)Z"⟩
abbrev yn1 : MethodName := ⟨"com/example/path_template_matcher/pathtemplatematcher/PercentEncodingEscapeErrorPinLaw", "hex", "(C)Z"⟩
abbrev yn2 : MethodName := ⟨"java/lang/StringUTF16", "getChar", "([BI)C"⟩
abbrev yn3 : MethodName := ⟨"java/lang/StringUTF16", "length", "([B)I"⟩
abbrev yn4 : MethodName := ⟨"java/lang/StringUTF16", "newBytesLength", "(I)I"⟩
abbrev yn5 : MethodName := ⟨"java/lang/StringUTF16", "newBytesFor", "(I)[B"⟩
abbrev yn6 : MethodName := ⟨"java/lang/StringUTF16", "putChar", "([BII)V"⟩
abbrev yn7 : MethodName := ⟨"java/lang/StringUTF16", "toBytes", "([CII)[B"⟩
abbrev yn8 : MethodName := ⟨"java/lang/StringUTF16", "compress", "([CI[BII)I"⟩
abbrev yn9 : MethodName := ⟨"java/lang/StringUTF16", "compress", "([CII)[B"⟩
abbrev yn10 : MethodName := ⟨"java/lang/StringUTF16", "coderFromArrayLen", "([BI)B"⟩
abbrev yn11 : MethodName := ⟨"java/lang/String", "<init>", "([CIILjava/lang/Void;)V"⟩
abbrev yn12 : MethodName := ⟨"java/lang/String", "<init>", "([C)V"⟩
abbrev yn13 : MethodName := ⟨"jdk/internal/util/Preconditions", "checkIndex", "(IILjava/util/function/BiFunction;)I"⟩
abbrev yn14 : MethodName := ⟨"java/lang/String", "checkIndex", "(II)V"⟩
abbrev yn15 : MethodName := ⟨"java/lang/String", "isLatin1", "()Z"⟩
abbrev yn16 : MethodName := ⟨"java/lang/StringLatin1", "charAt", "([BI)C"⟩
abbrev yn17 : MethodName := ⟨"java/lang/StringUTF16", "checkIndex", "(I[B)V"⟩
abbrev yn18 : MethodName := ⟨"java/lang/StringUTF16", "charAt", "([BI)C"⟩
abbrev yn19 : MethodName := ⟨"java/lang/String", "coder", "()B"⟩
abbrev yn20 : MethodName := ⟨"java/lang/String", "length", "()I"⟩
abbrev yn21 : MethodName := ⟨"java/lang/String", "charAt", "(I)C"⟩
abbrev yn22 : MethodName := ⟨"com/example/path_template_matcher/pathtemplatematcher/PercentEncodingEscapeErrorPinLaw", "reference", "([CII)I"⟩
abbrev yn23 : MethodName := ⟨"com/example/path_template_matcher/pathtemplatematcher/PercentEncoding", "escapeError", "(Ljava/lang/String;I)I"⟩
def own_st (Z : State) (h : Heap) (vcs : Int32) (vf : Value) : Prop := Sta Z h "java/lang/String" "COMPACT_STRINGS" "Z" (.int vcs) ∧ ¬ vcs.toInt = 0 ∧ Sta Z h "jdk/internal/util/Preconditions" "SIOOBE_FORMATTER" "Ljava/util/function/BiFunction;" vf ∧ vf.isRef = true ∧ Sta Z h "java/lang/StringUTF16" "$assertionsDisabled" "Z" (.int 1) ∧ Sta Z h "java/lang/StringUTF16" "HI_BYTE_SHIFT" "I" (.int 0) ∧ Sta Z h "java/lang/StringUTF16" "LO_BYTE_SHIFT" "I" (.int 8)
theorem own_st_ext {Z : State} {h h' : Heap} {vcs : Int32} {vf : Value} (F : own_st Z h vcs vf) (E : Ext h h') : own_st Z h' vcs vf := ⟨F.1.ext E, F.2.1, F.2.2.1.ext E, F.2.2.2.1, F.2.2.2.2.1.ext E, F.2.2.2.2.2.1.ext E, F.2.2.2.2.2.2.ext E⟩
theorem own_st_wr {Z : State} {h h' : Heap} {a : Addr} {sl : Nat} {v : Value} {vcs : Int32} {vf : Value} (F : own_st Z h vcs vf) (W : Wr h h' a sl v) : own_st Z h' vcs vf := ⟨F.1.wr W, F.2.1, F.2.2.1.wr W, F.2.2.2.1, F.2.2.2.2.1.wr W, F.2.2.2.2.2.1.wr W, F.2.2.2.2.2.2.wr W⟩
theorem own_sta_keep {Z : State} {h h' : Heap} {ws : List Addr} {C n d : String} {v : Value} (F : Sta Z h C n d v) (K : Keep h h' ws) (hs : ∀ x ∈ ws, ∀ cell : Cell, h[x]? = some cell → cell.vm.isStatics = false) : Sta Z h' C n d v := by
  obtain ⟨cf, i, k, f, st, cell, h1, h2, h3, h4, h5, h6, h7⟩ := F
  refine ⟨cf, i, k, f, st, cell, h1, h2, h3, h4, K.2.1 st cell h5 (fun hm => ?_), h6, h7⟩
  have q := hs st hm cell h5
  rw [q] at h6; cases h6
theorem own_st_keep {Z : State} {h h' : Heap} {ws : List Addr} {vcs : Int32} {vf : Value} (F : own_st Z h vcs vf) (K : Keep h h' ws) (hs : ∀ x ∈ ws, ∀ cell : Cell, h[x]? = some cell → cell.vm.isStatics = false) : own_st Z h' vcs vf := ⟨own_sta_keep F.1 K hs, F.2.1, own_sta_keep F.2.2.1 K hs, F.2.2.2.1, own_sta_keep F.2.2.2.2.1 K hs, own_sta_keep F.2.2.2.2.2.1 K hs, own_sta_keep F.2.2.2.2.2.2 K hs⟩
theorem own_narc (x : Int32) (h1 : 0 ≤ x.toInt) (h2 : x.toInt < 65536) : nar .char x = x := by
  have e : nar .char x = x.toUInt32.toUInt16.toUInt32.toInt32 := rfl
  have q := c_i2c x
  rw [e]; apply Int32.toInt_inj.mp; omega
theorem own_b2 (c : Int32) (h1 : 0 ≤ c.toInt) (h2 : c.toInt ≤ 255) : (nar .byte c.toInt8.toInt32).toInt % 256 = c.toInt := by
  have e : nar .byte c.toInt8.toInt32 = c.toInt8.toInt32.toInt8.toInt32 := rfl
  have q := c_i2b c; have q2 := c_i2b c.toInt8.toInt32
  rw [e]; omega
theorem own_narcZ (x : Int32) : (nar .char x).toInt = x.toInt % 65536 := by
  have e : nar .char x = x.toUInt32.toUInt16.toUInt32.toInt32 := rfl
  have q := c_i2c x
  rw [e]; omega
theorem own_nat {j : Int32} {n : Nat} (h : j.toInt = (n : Int)) : j.toNatClampNeg = n := by
  unfold Int32.toNatClampNeg; rw [h]; rfl
theorem own_or32n (a : Nat) : (a ||| 32) = 64 * (a / 64) + (if a % 64 < 32 then a % 64 + 32 else a % 64) := by
  have h1 : (a ||| 32) / 64 = a / 64 := by
    have e := Nat.shiftRight_or_distrib (a := a) (b := 32) (i := 6)
    simp only [Nat.shiftRight_eq_div_pow] at e
    simpa using e
  have h2 : (a ||| 32) % 64 = (a % 64) ||| 32 := by
    have e := Nat.or_mod_two_pow (a := a) (b := 32) (n := 6)
    simpa using e
  have h3 : ∀ r : Fin 64, (r.1 ||| 32) = (if r.1 < 32 then r.1 + 32 else r.1) := by decide
  have h4 := h3 ⟨a % 64, Nat.mod_lt _ (by decide)⟩
  have h5 : (a % 64 ||| 32) = (if a % 64 < 32 then a % 64 + 32 else a % 64) := h4
  have h6 := Nat.div_add_mod (a ||| 32) 64
  rw [h1, h2, h5] at h6
  exact h6.symm
theorem own_or32 (c : Int32) (h1 : 0 ≤ c.toInt) (h2 : c.toInt < 65536) : ((c ||| (32 : Int32)).toInt = c.toInt ∧ 32 ≤ c.toInt % 64) ∨ ((c ||| (32 : Int32)).toInt = c.toInt + 32 ∧ c.toInt % 64 < 32) := by
  have e0 : c.toInt = (c.toBitVec.toNat : Int) := by
    have q : c.toInt = c.toBitVec.toInt := rfl
    rw [q, BitVec.toInt_eq_toNat_cond] at h1 h2 ⊢
    split at h1 <;> simp_all <;> omega
  have e1 : (c ||| (32 : Int32)).toBitVec.toNat = c.toBitVec.toNat ||| 32 := by
    rw [Int32.toBitVec_or, BitVec.toNat_or]; rfl
  have e2 := own_or32n c.toBitVec.toNat
  have e3 : (c ||| (32 : Int32)).toInt = ((c ||| (32 : Int32)).toBitVec.toNat : Int) := by
    have q : (c ||| (32 : Int32)).toInt = (c ||| (32 : Int32)).toBitVec.toInt := rfl
    rw [q, BitVec.toInt_eq_toNat_of_lt]
    rw [e1, e2]
    split <;> omega
  rw [e3, e1, e2, e0]
  rw [e0] at h2
  split <;> omega
def own_H (c : Int) : Prop := (48 ≤ c ∧ c ≤ 57) ∨ (97 ≤ c ∧ c ≤ 102) ∨ (65 ≤ c ∧ c ≤ 70)
instance (c : Int) : Decidable (own_H c) := by unfold own_H; infer_instance
theorem d24_0 : decode prog_26_method_8_code 0 = .ok (.iload_n 0, 1) := by decide +kernel
theorem d24_1 : decode prog_26_method_8_code 1 = .ok (.bipush 48, 2) := by decide +kernel
theorem d24_3 : decode prog_26_method_8_code 3 = .ok (.if_icmp .lt 9, 3) := by decide +kernel
theorem d24_6 : decode prog_26_method_8_code 6 = .ok (.iload_n 0, 1) := by decide +kernel
theorem d24_7 : decode prog_26_method_8_code 7 = .ok (.bipush 57, 2) := by decide +kernel
theorem d24_9 : decode prog_26_method_8_code 9 = .ok (.if_icmp .le 27, 3) := by decide +kernel
theorem d24_12 : decode prog_26_method_8_code 12 = .ok (.iload_n 0, 1) := by decide +kernel
theorem d24_13 : decode prog_26_method_8_code 13 = .ok (.bipush 97, 2) := by decide +kernel
theorem d24_15 : decode prog_26_method_8_code 15 = .ok (.if_icmp .lt 9, 3) := by decide +kernel
theorem d24_18 : decode prog_26_method_8_code 18 = .ok (.iload_n 0, 1) := by decide +kernel
theorem d24_19 : decode prog_26_method_8_code 19 = .ok (.bipush 102, 2) := by decide +kernel
theorem d24_21 : decode prog_26_method_8_code 21 = .ok (.if_icmp .le 15, 3) := by decide +kernel
theorem d24_24 : decode prog_26_method_8_code 24 = .ok (.iload_n 0, 1) := by decide +kernel
theorem d24_25 : decode prog_26_method_8_code 25 = .ok (.bipush 65, 2) := by decide +kernel
theorem d24_27 : decode prog_26_method_8_code 27 = .ok (.if_icmp .lt 13, 3) := by decide +kernel
theorem d24_30 : decode prog_26_method_8_code 30 = .ok (.iload_n 0, 1) := by decide +kernel
theorem d24_31 : decode prog_26_method_8_code 31 = .ok (.bipush 70, 2) := by decide +kernel
theorem d24_33 : decode prog_26_method_8_code 33 = .ok (.if_icmp .gt 7, 3) := by decide +kernel
theorem d24_36 : decode prog_26_method_8_code 36 = .ok (.iconst 1, 1) := by decide +kernel
theorem d24_37 : decode prog_26_method_8_code 37 = .ok (.goto 4, 3) := by decide +kernel
theorem d24_40 : decode prog_26_method_8_code 40 = .ok (.iconst 0, 1) := by decide +kernel
theorem d24_41 : decode prog_26_method_8_code 41 = .ok (.ireturn, 1) := by decide +kernel
theorem pn_0 : plainName "com/example/path_template_matcher/pathtemplatematcher/PercentEncoding" = true := by first | (simp [plainName, overriddenIn]; done) | decide +kernel
theorem ef_rm24 (m : MethodId) (x0 : Int32) : entryFrame m #[(.int x0)] 1 = mkF m 0 #[.val (.int x0)] [] := by first | (simp [entryFrame, mkF, argsToLocals, Value.category]; done) | rfl
def Q24 (Z : State) (vc : Int32) (h0 : Heap) (n0 : Nat) (v : Option Value) (h : Heap) (L : List Loc) : Prop := ∃ z : Int32, v = some (.int z) ∧ (z.toInt = if own_H vc.toInt then 1 else 0) ∧ Fr n0 L ∧ h = h0
theorem rm24 (l : Launch) (Z : State) (a0 : Array Value) (hw : ∀ d ∈ tables_1, d.before a0 Z = true) (ws : List Jvm.Cond) (vc : Int32) (h0 : Heap) (n0 : Nat) (Z0 : n0 ≤ h0.size) :
    MetFree l yn0 (head1 (Jvm.Cond.code yn0 prog_26_method_8_code 1 (some .boolean) :: ws) ⟨0, 0, 0, 0⟩) (fun a U => a = #[(.int vc)] ∧ Z.Warmed39 U.vm ∧ U.heap = h0) (fun _ _ _ _ _ => True) (fun _ U o U' => ∃ v L, o = .returned v ∧ Q24 Z vc h0 n0 v U'.heap L ∧ FrameEnd U o U' L 0 0) := by
  refine MetFree.of_bodySF (plainFor_of_name pn_0) hisR ?_
  intro p e s m args below meth c s₁ Bd hml0 hP hK
  obtain ⟨rfl, hZ, hh⟩ := hP
  have hx := Bd.exec
  have hby := Bd.bytes
  have hml : c.maxLocals = 1 := hml0
  have hown : s.vm.findClass "com/example/path_template_matcher/pathtemplatematcher/PercentEncoding" = some m.cls := findClass_of_methodNamed Bd.named
  have hnm := (name_of_methodNamed Bd.named Bd.method).1
  have X0 : Stand p l e ⟨0, 0, 0, 0⟩ s m #[(.int vc)] below meth c s₁ [] 0 0 := Stand.of_body Bd
  have e0 : s₁.heap = h0 := by rw [← hh, Bd.state]; rfl
  have N0 := Fr.nil n0
  have pre0 : oP p e below (s₁.setTop (mkF m 0 #[.val (.int vc)] [])) (s₁.setTop (entryFrame m #[(.int vc)] 1)) := fun t k => castTop (ef_rm24 m vc) k
  have pre2 : oP p e below (s₁.setTop (mkF m 3 #[.val (.int vc)] [(.int 48), (.int vc)])) (s₁.setTop (entryFrame m #[(.int vc)] 1)) := fun t kt => by
    refine pre0 _ ?_
    refine XS.iloadN X0.here hx rfl (hb hby d24_0) rfl ?_
    refine XS.bipush X0.here hx rfl (hb hby d24_1) ?_
    exact kt
  by_cases hc3_1 : vc.toInt < (48 : Int)
  · have pre4 : oP p e below (s₁.setTop (mkF m 15 #[.val (.int vc)] [(.int 97), (.int vc)])) (s₁.setTop (entryFrame m #[(.int vc)] 1)) := fun t kt => by
      refine pre2 _ ?_
      show Steps p.tables e below (s₁.setTop (mkF m 3 #[.val (.int vc)] [(.int 48), (.int vc)])) _
      refine XS.icmpYes X0.here hx rfl (pc0 := 3) (pc' := 12) rfl (hb hby d24_3) rfl (own_tlt (a := vc) (b := (48 : Int32)) rfl (by decide) hc3_1).1 (by decide) (by decide) ?_
      refine XS.iloadN X0.here hx rfl (hb hby d24_12) rfl ?_
      refine XS.bipush X0.here hx rfl (hb hby d24_13) ?_
      exact kt
    by_cases hc15_3 : vc.toInt < (97 : Int)
    · have pre6 : oP p e below (s₁.setTop (mkF m 27 #[.val (.int vc)] [(.int 65), (.int vc)])) (s₁.setTop (entryFrame m #[(.int vc)] 1)) := fun t kt => by
        refine pre4 _ ?_
        show Steps p.tables e below (s₁.setTop (mkF m 15 #[.val (.int vc)] [(.int 97), (.int vc)])) _
        refine XS.icmpYes X0.here hx rfl (pc0 := 15) (pc' := 24) rfl (hb hby d24_15) rfl (own_tlt (a := vc) (b := (97 : Int32)) rfl (by decide) hc15_3).1 (by decide) (by decide) ?_
        refine XS.iloadN X0.here hx rfl (hb hby d24_24) rfl ?_
        refine XS.bipush X0.here hx rfl (hb hby d24_25) ?_
        exact kt
      by_cases hc27_5 : vc.toInt < (65 : Int)
      · obtain ⟨fs, hr, q1, q2, q3, q4⟩ := X0.leave (v := some (.int 0)) (fun h => by rw [Bd.returns] at h; cases h)
        refine ⟨_, _, pre6 _ ?_, q1, q2, _, _, rfl, ?_, ⟨_, rfl⟩, q3, q4.mono (by decide) (by decide)⟩
        · show Steps p.tables e below (s₁.setTop (mkF m 27 #[.val (.int vc)] [(.int 65), (.int vc)])) _
          refine XS.icmpYes X0.here hx rfl (pc0 := 27) (pc' := 40) rfl (hb hby d24_27) rfl (own_tlt (a := vc) (b := (65 : Int32)) rfl (by decide) hc27_5).1 (by decide) (by decide) ?_
          refine XS.iconst X0.here hx rfl (hb hby d24_40) ?_
          exact retN X0 hx (t := .boolean) Bd.returns (by simp) (hb hby d24_41) hr
        · show Q24 Z _ h0 n0 _ s₁.heap _
          rw [e0]
          exact ⟨_, rfl, by have hs : ¬ own_H vc.toInt := (by unfold own_H; omega); rw [if_neg hs]; decide, N0, rfl⟩
      · have pre8 : oP p e below (s₁.setTop (mkF m 33 #[.val (.int vc)] [(.int 70), (.int vc)])) (s₁.setTop (entryFrame m #[(.int vc)] 1)) := fun t kt => by
          refine pre6 _ ?_
          show Steps p.tables e below (s₁.setTop (mkF m 27 #[.val (.int vc)] [(.int 65), (.int vc)])) _
          refine XS.icmpNo X0.here hx rfl (hb hby d24_27) rfl (own_flt (a := vc) (b := (65 : Int32)) rfl (by decide) hc27_5).1 ?_
          refine XS.iloadN X0.here hx rfl (hb hby d24_30) rfl ?_
          refine XS.bipush X0.here hx rfl (hb hby d24_31) ?_
          exact kt
        by_cases hc33_7 : (70 : Int) < vc.toInt
        · obtain ⟨fs, hr, q1, q2, q3, q4⟩ := X0.leave (v := some (.int 0)) (fun h => by rw [Bd.returns] at h; cases h)
          refine ⟨_, _, pre8 _ ?_, q1, q2, _, _, rfl, ?_, ⟨_, rfl⟩, q3, q4.mono (by decide) (by decide)⟩
          · show Steps p.tables e below (s₁.setTop (mkF m 33 #[.val (.int vc)] [(.int 70), (.int vc)])) _
            refine XS.icmpYes X0.here hx rfl (pc0 := 33) (pc' := 40) rfl (hb hby d24_33) rfl (own_tlt (a := (70 : Int32)) (b := vc) (by decide) rfl hc33_7).2.2.1 (by decide) (by decide) ?_
            refine XS.iconst X0.here hx rfl (hb hby d24_40) ?_
            exact retN X0 hx (t := .boolean) Bd.returns (by simp) (hb hby d24_41) hr
          · show Q24 Z _ h0 n0 _ s₁.heap _
            rw [e0]
            exact ⟨_, rfl, by have hs : ¬ own_H vc.toInt := (by unfold own_H; omega); rw [if_neg hs]; decide, N0, rfl⟩
        · obtain ⟨fs, hr, q1, q2, q3, q4⟩ := X0.leave (v := some (.int 1)) (fun h => by rw [Bd.returns] at h; cases h)
          refine ⟨_, _, pre8 _ ?_, q1, q2, _, _, rfl, ?_, ⟨_, rfl⟩, q3, q4.mono (by decide) (by decide)⟩
          · show Steps p.tables e below (s₁.setTop (mkF m 33 #[.val (.int vc)] [(.int 70), (.int vc)])) _
            refine XS.icmpNo X0.here hx rfl (hb hby d24_33) rfl (own_flt (a := (70 : Int32)) (b := vc) (by decide) rfl hc33_7).2.2.1 ?_
            refine XS.iconst X0.here hx rfl (hb hby d24_36) ?_
            refine XS.goto X0.here hx rfl (pc0 := 37) (pc' := 41) rfl (hb hby d24_37) (by decide) (by decide) ?_
            exact retN X0 hx (t := .boolean) Bd.returns (by simp) (hb hby d24_41) hr
          · show Q24 Z _ h0 n0 _ s₁.heap _
            rw [e0]
            exact ⟨_, rfl, by have hs : own_H vc.toInt := (by unfold own_H; omega); rw [if_pos hs]; decide, N0, rfl⟩
    · have pre10 : oP p e below (s₁.setTop (mkF m 21 #[.val (.int vc)] [(.int 102), (.int vc)])) (s₁.setTop (entryFrame m #[(.int vc)] 1)) := fun t kt => by
        refine pre4 _ ?_
        show Steps p.tables e below (s₁.setTop (mkF m 15 #[.val (.int vc)] [(.int 97), (.int vc)])) _
        refine XS.icmpNo X0.here hx rfl (hb hby d24_15) rfl (own_flt (a := vc) (b := (97 : Int32)) rfl (by decide) hc15_3).1 ?_
        refine XS.iloadN X0.here hx rfl (hb hby d24_18) rfl ?_
        refine XS.bipush X0.here hx rfl (hb hby d24_19) ?_
        exact kt
      by_cases hc21_9 : (102 : Int) < vc.toInt
      · have pre12 : oP p e below (s₁.setTop (mkF m 27 #[.val (.int vc)] [(.int 65), (.int vc)])) (s₁.setTop (entryFrame m #[(.int vc)] 1)) := fun t kt => by
          refine pre10 _ ?_
          show Steps p.tables e below (s₁.setTop (mkF m 21 #[.val (.int vc)] [(.int 102), (.int vc)])) _
          refine XS.icmpNo X0.here hx rfl (hb hby d24_21) rfl (own_tlt (a := (102 : Int32)) (b := vc) (by decide) rfl hc21_9).2.2.2 ?_
          refine XS.iloadN X0.here hx rfl (hb hby d24_24) rfl ?_
          refine XS.bipush X0.here hx rfl (hb hby d24_25) ?_
          exact kt
        by_cases hc27_11 : vc.toInt < (65 : Int)
        · obtain ⟨fs, hr, q1, q2, q3, q4⟩ := X0.leave (v := some (.int 0)) (fun h => by rw [Bd.returns] at h; cases h)
          refine ⟨_, _, pre12 _ ?_, q1, q2, _, _, rfl, ?_, ⟨_, rfl⟩, q3, q4.mono (by decide) (by decide)⟩
          · show Steps p.tables e below (s₁.setTop (mkF m 27 #[.val (.int vc)] [(.int 65), (.int vc)])) _
            refine XS.icmpYes X0.here hx rfl (pc0 := 27) (pc' := 40) rfl (hb hby d24_27) rfl (own_tlt (a := vc) (b := (65 : Int32)) rfl (by decide) hc27_11).1 (by decide) (by decide) ?_
            refine XS.iconst X0.here hx rfl (hb hby d24_40) ?_
            exact retN X0 hx (t := .boolean) Bd.returns (by simp) (hb hby d24_41) hr
          · show Q24 Z _ h0 n0 _ s₁.heap _
            rw [e0]
            exact ⟨_, rfl, by have hs : ¬ own_H vc.toInt := (by unfold own_H; omega); rw [if_neg hs]; decide, N0, rfl⟩
        · have pre14 : oP p e below (s₁.setTop (mkF m 33 #[.val (.int vc)] [(.int 70), (.int vc)])) (s₁.setTop (entryFrame m #[(.int vc)] 1)) := fun t kt => by
            refine pre12 _ ?_
            show Steps p.tables e below (s₁.setTop (mkF m 27 #[.val (.int vc)] [(.int 65), (.int vc)])) _
            refine XS.icmpNo X0.here hx rfl (hb hby d24_27) rfl (own_flt (a := vc) (b := (65 : Int32)) rfl (by decide) hc27_11).1 ?_
            refine XS.iloadN X0.here hx rfl (hb hby d24_30) rfl ?_
            refine XS.bipush X0.here hx rfl (hb hby d24_31) ?_
            exact kt
          by_cases hc33_13 : (70 : Int) < vc.toInt
          · obtain ⟨fs, hr, q1, q2, q3, q4⟩ := X0.leave (v := some (.int 0)) (fun h => by rw [Bd.returns] at h; cases h)
            refine ⟨_, _, pre14 _ ?_, q1, q2, _, _, rfl, ?_, ⟨_, rfl⟩, q3, q4.mono (by decide) (by decide)⟩
            · show Steps p.tables e below (s₁.setTop (mkF m 33 #[.val (.int vc)] [(.int 70), (.int vc)])) _
              refine XS.icmpYes X0.here hx rfl (pc0 := 33) (pc' := 40) rfl (hb hby d24_33) rfl (own_tlt (a := (70 : Int32)) (b := vc) (by decide) rfl hc33_13).2.2.1 (by decide) (by decide) ?_
              refine XS.iconst X0.here hx rfl (hb hby d24_40) ?_
              exact retN X0 hx (t := .boolean) Bd.returns (by simp) (hb hby d24_41) hr
            · show Q24 Z _ h0 n0 _ s₁.heap _
              rw [e0]
              exact ⟨_, rfl, by have hs : ¬ own_H vc.toInt := (by unfold own_H; omega); rw [if_neg hs]; decide, N0, rfl⟩
          · obtain ⟨fs, hr, q1, q2, q3, q4⟩ := X0.leave (v := some (.int 1)) (fun h => by rw [Bd.returns] at h; cases h)
            refine ⟨_, _, pre14 _ ?_, q1, q2, _, _, rfl, ?_, ⟨_, rfl⟩, q3, q4.mono (by decide) (by decide)⟩
            · show Steps p.tables e below (s₁.setTop (mkF m 33 #[.val (.int vc)] [(.int 70), (.int vc)])) _
              refine XS.icmpNo X0.here hx rfl (hb hby d24_33) rfl (own_flt (a := (70 : Int32)) (b := vc) (by decide) rfl hc33_13).2.2.1 ?_
              refine XS.iconst X0.here hx rfl (hb hby d24_36) ?_
              refine XS.goto X0.here hx rfl (pc0 := 37) (pc' := 41) rfl (hb hby d24_37) (by decide) (by decide) ?_
              exact retN X0 hx (t := .boolean) Bd.returns (by simp) (hb hby d24_41) hr
            · show Q24 Z _ h0 n0 _ s₁.heap _
              rw [e0]
              exact ⟨_, rfl, by have hs : own_H vc.toInt := (by unfold own_H; omega); rw [if_pos hs]; decide, N0, rfl⟩
      · obtain ⟨fs, hr, q1, q2, q3, q4⟩ := X0.leave (v := some (.int 1)) (fun h => by rw [Bd.returns] at h; cases h)
        refine ⟨_, _, pre10 _ ?_, q1, q2, _, _, rfl, ?_, ⟨_, rfl⟩, q3, q4.mono (by decide) (by decide)⟩
        · show Steps p.tables e below (s₁.setTop (mkF m 21 #[.val (.int vc)] [(.int 102), (.int vc)])) _
          refine XS.icmpYes X0.here hx rfl (pc0 := 21) (pc' := 36) rfl (hb hby d24_21) rfl (own_flt (a := (102 : Int32)) (b := vc) (by decide) rfl hc21_9).2.2.2 (by decide) (by decide) ?_
          refine XS.iconst X0.here hx rfl (hb hby d24_36) ?_
          refine XS.goto X0.here hx rfl (pc0 := 37) (pc' := 41) rfl (hb hby d24_37) (by decide) (by decide) ?_
          exact retN X0 hx (t := .boolean) Bd.returns (by simp) (hb hby d24_41) hr
        · show Q24 Z _ h0 n0 _ s₁.heap _
          rw [e0]
          exact ⟨_, rfl, by have hs : own_H vc.toInt := (by unfold own_H; omega); rw [if_pos hs]; decide, N0, rfl⟩
  · have pre16 : oP p e below (s₁.setTop (mkF m 9 #[.val (.int vc)] [(.int 57), (.int vc)])) (s₁.setTop (entryFrame m #[(.int vc)] 1)) := fun t kt => by
      refine pre2 _ ?_
      show Steps p.tables e below (s₁.setTop (mkF m 3 #[.val (.int vc)] [(.int 48), (.int vc)])) _
      refine XS.icmpNo X0.here hx rfl (hb hby d24_3) rfl (own_flt (a := vc) (b := (48 : Int32)) rfl (by decide) hc3_1).1 ?_
      refine XS.iloadN X0.here hx rfl (hb hby d24_6) rfl ?_
      refine XS.bipush X0.here hx rfl (hb hby d24_7) ?_
      exact kt
    by_cases hc9_15 : (57 : Int) < vc.toInt
    · have pre18 : oP p e below (s₁.setTop (mkF m 15 #[.val (.int vc)] [(.int 97), (.int vc)])) (s₁.setTop (entryFrame m #[(.int vc)] 1)) := fun t kt => by
        refine pre16 _ ?_
        show Steps p.tables e below (s₁.setTop (mkF m 9 #[.val (.int vc)] [(.int 57), (.int vc)])) _
        refine XS.icmpNo X0.here hx rfl (hb hby d24_9) rfl (own_tlt (a := (57 : Int32)) (b := vc) (by decide) rfl hc9_15).2.2.2 ?_
        refine XS.iloadN X0.here hx rfl (hb hby d24_12) rfl ?_
        refine XS.bipush X0.here hx rfl (hb hby d24_13) ?_
        exact kt
      by_cases hc15_17 : vc.toInt < (97 : Int)
      · have pre20 : oP p e below (s₁.setTop (mkF m 27 #[.val (.int vc)] [(.int 65), (.int vc)])) (s₁.setTop (entryFrame m #[(.int vc)] 1)) := fun t kt => by
          refine pre18 _ ?_
          show Steps p.tables e below (s₁.setTop (mkF m 15 #[.val (.int vc)] [(.int 97), (.int vc)])) _
          refine XS.icmpYes X0.here hx rfl (pc0 := 15) (pc' := 24) rfl (hb hby d24_15) rfl (own_tlt (a := vc) (b := (97 : Int32)) rfl (by decide) hc15_17).1 (by decide) (by decide) ?_
          refine XS.iloadN X0.here hx rfl (hb hby d24_24) rfl ?_
          refine XS.bipush X0.here hx rfl (hb hby d24_25) ?_
          exact kt
        by_cases hc27_19 : vc.toInt < (65 : Int)
        · obtain ⟨fs, hr, q1, q2, q3, q4⟩ := X0.leave (v := some (.int 0)) (fun h => by rw [Bd.returns] at h; cases h)
          refine ⟨_, _, pre20 _ ?_, q1, q2, _, _, rfl, ?_, ⟨_, rfl⟩, q3, q4.mono (by decide) (by decide)⟩
          · show Steps p.tables e below (s₁.setTop (mkF m 27 #[.val (.int vc)] [(.int 65), (.int vc)])) _
            refine XS.icmpYes X0.here hx rfl (pc0 := 27) (pc' := 40) rfl (hb hby d24_27) rfl (own_tlt (a := vc) (b := (65 : Int32)) rfl (by decide) hc27_19).1 (by decide) (by decide) ?_
            refine XS.iconst X0.here hx rfl (hb hby d24_40) ?_
            exact retN X0 hx (t := .boolean) Bd.returns (by simp) (hb hby d24_41) hr
          · show Q24 Z _ h0 n0 _ s₁.heap _
            rw [e0]
            exact ⟨_, rfl, by have hs : ¬ own_H vc.toInt := (by unfold own_H; omega); rw [if_neg hs]; decide, N0, rfl⟩
        · have pre22 : oP p e below (s₁.setTop (mkF m 33 #[.val (.int vc)] [(.int 70), (.int vc)])) (s₁.setTop (entryFrame m #[(.int vc)] 1)) := fun t kt => by
            refine pre20 _ ?_
            show Steps p.tables e below (s₁.setTop (mkF m 27 #[.val (.int vc)] [(.int 65), (.int vc)])) _
            refine XS.icmpNo X0.here hx rfl (hb hby d24_27) rfl (own_flt (a := vc) (b := (65 : Int32)) rfl (by decide) hc27_19).1 ?_
            refine XS.iloadN X0.here hx rfl (hb hby d24_30) rfl ?_
            refine XS.bipush X0.here hx rfl (hb hby d24_31) ?_
            exact kt
          by_cases hc33_21 : (70 : Int) < vc.toInt
          · obtain ⟨fs, hr, q1, q2, q3, q4⟩ := X0.leave (v := some (.int 0)) (fun h => by rw [Bd.returns] at h; cases h)
            refine ⟨_, _, pre22 _ ?_, q1, q2, _, _, rfl, ?_, ⟨_, rfl⟩, q3, q4.mono (by decide) (by decide)⟩
            · show Steps p.tables e below (s₁.setTop (mkF m 33 #[.val (.int vc)] [(.int 70), (.int vc)])) _
              refine XS.icmpYes X0.here hx rfl (pc0 := 33) (pc' := 40) rfl (hb hby d24_33) rfl (own_tlt (a := (70 : Int32)) (b := vc) (by decide) rfl hc33_21).2.2.1 (by decide) (by decide) ?_
              refine XS.iconst X0.here hx rfl (hb hby d24_40) ?_
              exact retN X0 hx (t := .boolean) Bd.returns (by simp) (hb hby d24_41) hr
            · show Q24 Z _ h0 n0 _ s₁.heap _
              rw [e0]
              exact ⟨_, rfl, by have hs : ¬ own_H vc.toInt := (by unfold own_H; omega); rw [if_neg hs]; decide, N0, rfl⟩
          · obtain ⟨fs, hr, q1, q2, q3, q4⟩ := X0.leave (v := some (.int 1)) (fun h => by rw [Bd.returns] at h; cases h)
            refine ⟨_, _, pre22 _ ?_, q1, q2, _, _, rfl, ?_, ⟨_, rfl⟩, q3, q4.mono (by decide) (by decide)⟩
            · show Steps p.tables e below (s₁.setTop (mkF m 33 #[.val (.int vc)] [(.int 70), (.int vc)])) _
              refine XS.icmpNo X0.here hx rfl (hb hby d24_33) rfl (own_flt (a := (70 : Int32)) (b := vc) (by decide) rfl hc33_21).2.2.1 ?_
              refine XS.iconst X0.here hx rfl (hb hby d24_36) ?_
              refine XS.goto X0.here hx rfl (pc0 := 37) (pc' := 41) rfl (hb hby d24_37) (by decide) (by decide) ?_
              exact retN X0 hx (t := .boolean) Bd.returns (by simp) (hb hby d24_41) hr
            · show Q24 Z _ h0 n0 _ s₁.heap _
              rw [e0]
              exact ⟨_, rfl, by have hs : own_H vc.toInt := (by unfold own_H; omega); rw [if_pos hs]; decide, N0, rfl⟩
      · have pre24 : oP p e below (s₁.setTop (mkF m 21 #[.val (.int vc)] [(.int 102), (.int vc)])) (s₁.setTop (entryFrame m #[(.int vc)] 1)) := fun t kt => by
          refine pre18 _ ?_
          show Steps p.tables e below (s₁.setTop (mkF m 15 #[.val (.int vc)] [(.int 97), (.int vc)])) _
          refine XS.icmpNo X0.here hx rfl (hb hby d24_15) rfl (own_flt (a := vc) (b := (97 : Int32)) rfl (by decide) hc15_17).1 ?_
          refine XS.iloadN X0.here hx rfl (hb hby d24_18) rfl ?_
          refine XS.bipush X0.here hx rfl (hb hby d24_19) ?_
          exact kt
        by_cases hc21_23 : (102 : Int) < vc.toInt
        · have pre26 : oP p e below (s₁.setTop (mkF m 27 #[.val (.int vc)] [(.int 65), (.int vc)])) (s₁.setTop (entryFrame m #[(.int vc)] 1)) := fun t kt => by
            refine pre24 _ ?_
            show Steps p.tables e below (s₁.setTop (mkF m 21 #[.val (.int vc)] [(.int 102), (.int vc)])) _
            refine XS.icmpNo X0.here hx rfl (hb hby d24_21) rfl (own_tlt (a := (102 : Int32)) (b := vc) (by decide) rfl hc21_23).2.2.2 ?_
            refine XS.iloadN X0.here hx rfl (hb hby d24_24) rfl ?_
            refine XS.bipush X0.here hx rfl (hb hby d24_25) ?_
            exact kt
          by_cases hc27_25 : vc.toInt < (65 : Int)
          · obtain ⟨fs, hr, q1, q2, q3, q4⟩ := X0.leave (v := some (.int 0)) (fun h => by rw [Bd.returns] at h; cases h)
            refine ⟨_, _, pre26 _ ?_, q1, q2, _, _, rfl, ?_, ⟨_, rfl⟩, q3, q4.mono (by decide) (by decide)⟩
            · show Steps p.tables e below (s₁.setTop (mkF m 27 #[.val (.int vc)] [(.int 65), (.int vc)])) _
              refine XS.icmpYes X0.here hx rfl (pc0 := 27) (pc' := 40) rfl (hb hby d24_27) rfl (own_tlt (a := vc) (b := (65 : Int32)) rfl (by decide) hc27_25).1 (by decide) (by decide) ?_
              refine XS.iconst X0.here hx rfl (hb hby d24_40) ?_
              exact retN X0 hx (t := .boolean) Bd.returns (by simp) (hb hby d24_41) hr
            · show Q24 Z _ h0 n0 _ s₁.heap _
              rw [e0]
              exact ⟨_, rfl, by have hs : ¬ own_H vc.toInt := (by unfold own_H; omega); rw [if_neg hs]; decide, N0, rfl⟩
          · have pre28 : oP p e below (s₁.setTop (mkF m 33 #[.val (.int vc)] [(.int 70), (.int vc)])) (s₁.setTop (entryFrame m #[(.int vc)] 1)) := fun t kt => by
              refine pre26 _ ?_
              show Steps p.tables e below (s₁.setTop (mkF m 27 #[.val (.int vc)] [(.int 65), (.int vc)])) _
              refine XS.icmpNo X0.here hx rfl (hb hby d24_27) rfl (own_flt (a := vc) (b := (65 : Int32)) rfl (by decide) hc27_25).1 ?_
              refine XS.iloadN X0.here hx rfl (hb hby d24_30) rfl ?_
              refine XS.bipush X0.here hx rfl (hb hby d24_31) ?_
              exact kt
            by_cases hc33_27 : (70 : Int) < vc.toInt
            · obtain ⟨fs, hr, q1, q2, q3, q4⟩ := X0.leave (v := some (.int 0)) (fun h => by rw [Bd.returns] at h; cases h)
              refine ⟨_, _, pre28 _ ?_, q1, q2, _, _, rfl, ?_, ⟨_, rfl⟩, q3, q4.mono (by decide) (by decide)⟩
              · show Steps p.tables e below (s₁.setTop (mkF m 33 #[.val (.int vc)] [(.int 70), (.int vc)])) _
                refine XS.icmpYes X0.here hx rfl (pc0 := 33) (pc' := 40) rfl (hb hby d24_33) rfl (own_tlt (a := (70 : Int32)) (b := vc) (by decide) rfl hc33_27).2.2.1 (by decide) (by decide) ?_
                refine XS.iconst X0.here hx rfl (hb hby d24_40) ?_
                exact retN X0 hx (t := .boolean) Bd.returns (by simp) (hb hby d24_41) hr
              · show Q24 Z _ h0 n0 _ s₁.heap _
                rw [e0]
                exact ⟨_, rfl, by have hs : ¬ own_H vc.toInt := (by unfold own_H; omega); rw [if_neg hs]; decide, N0, rfl⟩
            · obtain ⟨fs, hr, q1, q2, q3, q4⟩ := X0.leave (v := some (.int 1)) (fun h => by rw [Bd.returns] at h; cases h)
              refine ⟨_, _, pre28 _ ?_, q1, q2, _, _, rfl, ?_, ⟨_, rfl⟩, q3, q4.mono (by decide) (by decide)⟩
              · show Steps p.tables e below (s₁.setTop (mkF m 33 #[.val (.int vc)] [(.int 70), (.int vc)])) _
                refine XS.icmpNo X0.here hx rfl (hb hby d24_33) rfl (own_flt (a := (70 : Int32)) (b := vc) (by decide) rfl hc33_27).2.2.1 ?_
                refine XS.iconst X0.here hx rfl (hb hby d24_36) ?_
                refine XS.goto X0.here hx rfl (pc0 := 37) (pc' := 41) rfl (hb hby d24_37) (by decide) (by decide) ?_
                exact retN X0 hx (t := .boolean) Bd.returns (by simp) (hb hby d24_41) hr
              · show Q24 Z _ h0 n0 _ s₁.heap _
                rw [e0]
                exact ⟨_, rfl, by have hs : own_H vc.toInt := (by unfold own_H; omega); rw [if_pos hs]; decide, N0, rfl⟩
        · obtain ⟨fs, hr, q1, q2, q3, q4⟩ := X0.leave (v := some (.int 1)) (fun h => by rw [Bd.returns] at h; cases h)
          refine ⟨_, _, pre24 _ ?_, q1, q2, _, _, rfl, ?_, ⟨_, rfl⟩, q3, q4.mono (by decide) (by decide)⟩
          · show Steps p.tables e below (s₁.setTop (mkF m 21 #[.val (.int vc)] [(.int 102), (.int vc)])) _
            refine XS.icmpYes X0.here hx rfl (pc0 := 21) (pc' := 36) rfl (hb hby d24_21) rfl (own_flt (a := (102 : Int32)) (b := vc) (by decide) rfl hc21_23).2.2.2 (by decide) (by decide) ?_
            refine XS.iconst X0.here hx rfl (hb hby d24_36) ?_
            refine XS.goto X0.here hx rfl (pc0 := 37) (pc' := 41) rfl (hb hby d24_37) (by decide) (by decide) ?_
            exact retN X0 hx (t := .boolean) Bd.returns (by simp) (hb hby d24_41) hr
          · show Q24 Z _ h0 n0 _ s₁.heap _
            rw [e0]
            exact ⟨_, rfl, by have hs : own_H vc.toInt := (by unfold own_H; omega); rw [if_pos hs]; decide, N0, rfl⟩
    · obtain ⟨fs, hr, q1, q2, q3, q4⟩ := X0.leave (v := some (.int 1)) (fun h => by rw [Bd.returns] at h; cases h)
      refine ⟨_, _, pre16 _ ?_, q1, q2, _, _, rfl, ?_, ⟨_, rfl⟩, q3, q4.mono (by decide) (by decide)⟩
      · show Steps p.tables e below (s₁.setTop (mkF m 9 #[.val (.int vc)] [(.int 57), (.int vc)])) _
        refine XS.icmpYes X0.here hx rfl (pc0 := 9) (pc' := 36) rfl (hb hby d24_9) rfl (own_flt (a := (57 : Int32)) (b := vc) (by decide) rfl hc9_15).2.2.2 (by decide) (by decide) ?_
        refine XS.iconst X0.here hx rfl (hb hby d24_36) ?_
        refine XS.goto X0.here hx rfl (pc0 := 37) (pc' := 41) rfl (hb hby d24_37) (by decide) (by decide) ?_
        exact retN X0 hx (t := .boolean) Bd.returns (by simp) (hb hby d24_41) hr
      · show Q24 Z _ h0 n0 _ s₁.heap _
        rw [e0]
        exact ⟨_, rfl, by have hs : own_H vc.toInt := (by unfold own_H; omega); rw [if_pos hs]; decide, N0, rfl⟩
theorem d16_0 : decode method_3_code 0 = .ok (.iload_n 0, 1) := by decide +kernel
theorem d16_1 : decode method_3_code 1 = .ok (.bipush 32, 2) := by decide +kernel
theorem d16_3 : decode method_3_code 3 = .ok (.ior, 1) := by decide +kernel
theorem d16_4 : decode method_3_code 4 = .ok (.istore_n 1, 1) := by decide +kernel
theorem d16_5 : decode method_3_code 5 = .ok (.iload_n 0, 1) := by decide +kernel
theorem d16_6 : decode method_3_code 6 = .ok (.bipush 48, 2) := by decide +kernel
theorem d16_8 : decode method_3_code 8 = .ok (.if_icmp .lt 9, 3) := by decide +kernel
theorem d16_11 : decode method_3_code 11 = .ok (.iload_n 0, 1) := by decide +kernel
theorem d16_12 : decode method_3_code 12 = .ok (.bipush 57, 2) := by decide +kernel
theorem d16_14 : decode method_3_code 14 = .ok (.if_icmp .le 15, 3) := by decide +kernel
theorem d16_17 : decode method_3_code 17 = .ok (.iload_n 1, 1) := by decide +kernel
theorem d16_18 : decode method_3_code 18 = .ok (.bipush 97, 2) := by decide +kernel
theorem d16_20 : decode method_3_code 20 = .ok (.if_icmp .lt 13, 3) := by decide +kernel
theorem d16_23 : decode method_3_code 23 = .ok (.iload_n 1, 1) := by decide +kernel
theorem d16_24 : decode method_3_code 24 = .ok (.bipush 102, 2) := by decide +kernel
theorem d16_26 : decode method_3_code 26 = .ok (.if_icmp .gt 7, 3) := by decide +kernel
theorem d16_29 : decode method_3_code 29 = .ok (.iconst 1, 1) := by decide +kernel
theorem d16_30 : decode method_3_code 30 = .ok (.goto 4, 3) := by decide +kernel
theorem d16_33 : decode method_3_code 33 = .ok (.iconst 0, 1) := by decide +kernel
theorem d16_34 : decode method_3_code 34 = .ok (.ireturn, 1) := by decide +kernel
theorem pn_1 : plainName "com/example/path_template_matcher/pathtemplatematcher/PercentEncodingEscapeErrorPinLaw" = true := by first | (simp [plainName, overriddenIn]; done) | decide +kernel
theorem ef_rm16 (m : MethodId) (x0 : Int32) : entryFrame m #[(.int x0)] 2 = mkF m 0 #[.val (.int x0), .unset] [] := by first | (simp [entryFrame, mkF, argsToLocals, Value.category]; done) | rfl
def Q16 (Z : State) (vc : Int32) (h0 : Heap) (n0 : Nat) (v : Option Value) (h : Heap) (L : List Loc) : Prop := ∃ z : Int32, v = some (.int z) ∧ (z.toInt = if own_H vc.toInt then 1 else 0) ∧ Fr n0 L ∧ h = h0
theorem rm16 (l : Launch) (Z : State) (a0 : Array Value) (hw : ∀ d ∈ tables_1, d.before a0 Z = true) (ws : List Jvm.Cond) (vc : Int32) (h0 : Heap) (n0 : Nat) (Z0 : n0 ≤ h0.size) (c1 : 0 ≤ vc.toInt) (c2 : vc.toInt < 65536) :
    MetFree l yn1 (head1 (Jvm.Cond.code yn1 method_3_code 2 (some .boolean) :: ws) ⟨0, 0, 0, 0⟩) (fun a U => a = #[(.int vc)] ∧ Z.Warmed39 U.vm ∧ U.heap = h0) (fun _ _ _ _ _ => True) (fun _ U o U' => ∃ v L, o = .returned v ∧ Q16 Z vc h0 n0 v U'.heap L ∧ FrameEnd U o U' L 0 0) := by
  refine MetFree.of_bodySF (plainFor_of_name pn_1) hisR ?_
  intro p e s m args below meth c s₁ Bd hml0 hP hK
  obtain ⟨rfl, hZ, hh⟩ := hP
  have hx := Bd.exec
  have hby := Bd.bytes
  have hml : c.maxLocals = 2 := hml0
  have hown : s.vm.findClass "com/example/path_template_matcher/pathtemplatematcher/PercentEncodingEscapeErrorPinLaw" = some m.cls := findClass_of_methodNamed Bd.named
  have hnm := (name_of_methodNamed Bd.named Bd.method).1
  have X0 : Stand p l e ⟨0, 0, 0, 0⟩ s m #[(.int vc)] below meth c s₁ [] 0 0 := Stand.of_body Bd
  have e0 : s₁.heap = h0 := by rw [← hh, Bd.state]; rfl
  have N0 := Fr.nil n0
  have pre0 : oP p e below (s₁.setTop (mkF m 0 #[.val (.int vc), .unset] [])) (s₁.setTop (entryFrame m #[(.int vc)] 2)) := fun t k => castTop (ef_rm16 m vc) k
  have pre1 : oP p e below (s₁.setTop (mkF m 4 #[.val (.int vc), .unset] [(.int (vc ||| (32 : Int32)))])) (s₁.setTop (entryFrame m #[(.int vc)] 2)) := fun t kt => by
    refine pre0 _ ?_
    refine XS.iloadN X0.here hx rfl (hb hby d16_0) rfl ?_
    refine XS.bipush X0.here hx rfl (hb hby d16_1) ?_
    refine XS.ior X0.here hx rfl (hb hby d16_3) rfl ?_
    exact kt
  obtain ⟨lw, hlw⟩ : ∃ z : Int32, z = (vc ||| (32 : Int32)) := ⟨_, rfl⟩
  have jlw : (lw.toInt = vc.toInt ∧ 32 ≤ vc.toInt % 64) ∨ (lw.toInt = vc.toInt + 32 ∧ vc.toInt % 64 < 32) := by rw [hlw]; exact own_or32 vc c1 c2
  have pre2 : oP p e below (s₁.setTop (mkF m 4 #[.val (.int vc), .unset] [(.int lw)])) (s₁.setTop (entryFrame m #[(.int vc)] 2)) := by rw [hlw]; exact pre1
  have pre4 : oP p e below (s₁.setTop (mkF m 8 #[.val (.int vc), .val (.int lw)] [(.int 48), (.int vc)])) (s₁.setTop (entryFrame m #[(.int vc)] 2)) := fun t kt => by
    refine pre2 _ ?_
    refine XS.istoreN X0.here hx rfl (hb hby d16_4) rfl (l' := #[.val (.int vc), .val (.int lw)]) rfl ?_
    refine XS.iloadN X0.here hx rfl (hb hby d16_5) rfl ?_
    refine XS.bipush X0.here hx rfl (hb hby d16_6) ?_
    exact kt
  by_cases hc8_3 : vc.toInt < (48 : Int)
  · have pre6 : oP p e below (s₁.setTop (mkF m 20 #[.val (.int vc), .val (.int lw)] [(.int 97), (.int lw)])) (s₁.setTop (entryFrame m #[(.int vc)] 2)) := fun t kt => by
      refine pre4 _ ?_
      show Steps p.tables e below (s₁.setTop (mkF m 8 #[.val (.int vc), .val (.int lw)] [(.int 48), (.int vc)])) _
      refine XS.icmpYes X0.here hx rfl (pc0 := 8) (pc' := 17) rfl (hb hby d16_8) rfl (own_tlt (a := vc) (b := (48 : Int32)) rfl (by decide) hc8_3).1 (by decide) (by decide) ?_
      refine XS.iloadN X0.here hx rfl (hb hby d16_17) rfl ?_
      refine XS.bipush X0.here hx rfl (hb hby d16_18) ?_
      exact kt
    by_cases hc20_5 : lw.toInt < (97 : Int)
    · obtain ⟨fs, hr, q1, q2, q3, q4⟩ := X0.leave (v := some (.int 0)) (fun h => by rw [Bd.returns] at h; cases h)
      refine ⟨_, _, pre6 _ ?_, q1, q2, _, _, rfl, ?_, ⟨_, rfl⟩, q3, q4.mono (by decide) (by decide)⟩
      · show Steps p.tables e below (s₁.setTop (mkF m 20 #[.val (.int vc), .val (.int lw)] [(.int 97), (.int lw)])) _
        refine XS.icmpYes X0.here hx rfl (pc0 := 20) (pc' := 33) rfl (hb hby d16_20) rfl (own_tlt (a := lw) (b := (97 : Int32)) rfl (by decide) hc20_5).1 (by decide) (by decide) ?_
        refine XS.iconst X0.here hx rfl (hb hby d16_33) ?_
        exact retN X0 hx (t := .boolean) Bd.returns (by simp) (hb hby d16_34) hr
      · show Q16 Z _ h0 n0 _ s₁.heap _
        rw [e0]
        exact ⟨_, rfl, by have hs : ¬ own_H vc.toInt := (by unfold own_H; omega); rw [if_neg hs]; decide, N0, rfl⟩
    · have pre8 : oP p e below (s₁.setTop (mkF m 26 #[.val (.int vc), .val (.int lw)] [(.int 102), (.int lw)])) (s₁.setTop (entryFrame m #[(.int vc)] 2)) := fun t kt => by
        refine pre6 _ ?_
        show Steps p.tables e below (s₁.setTop (mkF m 20 #[.val (.int vc), .val (.int lw)] [(.int 97), (.int lw)])) _
        refine XS.icmpNo X0.here hx rfl (hb hby d16_20) rfl (own_flt (a := lw) (b := (97 : Int32)) rfl (by decide) hc20_5).1 ?_
        refine XS.iloadN X0.here hx rfl (hb hby d16_23) rfl ?_
        refine XS.bipush X0.here hx rfl (hb hby d16_24) ?_
        exact kt
      by_cases hc26_7 : (102 : Int) < lw.toInt
      · obtain ⟨fs, hr, q1, q2, q3, q4⟩ := X0.leave (v := some (.int 0)) (fun h => by rw [Bd.returns] at h; cases h)
        refine ⟨_, _, pre8 _ ?_, q1, q2, _, _, rfl, ?_, ⟨_, rfl⟩, q3, q4.mono (by decide) (by decide)⟩
        · show Steps p.tables e below (s₁.setTop (mkF m 26 #[.val (.int vc), .val (.int lw)] [(.int 102), (.int lw)])) _
          refine XS.icmpYes X0.here hx rfl (pc0 := 26) (pc' := 33) rfl (hb hby d16_26) rfl (own_tlt (a := (102 : Int32)) (b := lw) (by decide) rfl hc26_7).2.2.1 (by decide) (by decide) ?_
          refine XS.iconst X0.here hx rfl (hb hby d16_33) ?_
          exact retN X0 hx (t := .boolean) Bd.returns (by simp) (hb hby d16_34) hr
        · show Q16 Z _ h0 n0 _ s₁.heap _
          rw [e0]
          exact ⟨_, rfl, by have hs : ¬ own_H vc.toInt := (by unfold own_H; omega); rw [if_neg hs]; decide, N0, rfl⟩
      · obtain ⟨fs, hr, q1, q2, q3, q4⟩ := X0.leave (v := some (.int 1)) (fun h => by rw [Bd.returns] at h; cases h)
        refine ⟨_, _, pre8 _ ?_, q1, q2, _, _, rfl, ?_, ⟨_, rfl⟩, q3, q4.mono (by decide) (by decide)⟩
        · show Steps p.tables e below (s₁.setTop (mkF m 26 #[.val (.int vc), .val (.int lw)] [(.int 102), (.int lw)])) _
          refine XS.icmpNo X0.here hx rfl (hb hby d16_26) rfl (own_flt (a := (102 : Int32)) (b := lw) (by decide) rfl hc26_7).2.2.1 ?_
          refine XS.iconst X0.here hx rfl (hb hby d16_29) ?_
          refine XS.goto X0.here hx rfl (pc0 := 30) (pc' := 34) rfl (hb hby d16_30) (by decide) (by decide) ?_
          exact retN X0 hx (t := .boolean) Bd.returns (by simp) (hb hby d16_34) hr
        · show Q16 Z _ h0 n0 _ s₁.heap _
          rw [e0]
          exact ⟨_, rfl, by have hs : own_H vc.toInt := (by unfold own_H; omega); rw [if_pos hs]; decide, N0, rfl⟩
  · have pre10 : oP p e below (s₁.setTop (mkF m 14 #[.val (.int vc), .val (.int lw)] [(.int 57), (.int vc)])) (s₁.setTop (entryFrame m #[(.int vc)] 2)) := fun t kt => by
      refine pre4 _ ?_
      show Steps p.tables e below (s₁.setTop (mkF m 8 #[.val (.int vc), .val (.int lw)] [(.int 48), (.int vc)])) _
      refine XS.icmpNo X0.here hx rfl (hb hby d16_8) rfl (own_flt (a := vc) (b := (48 : Int32)) rfl (by decide) hc8_3).1 ?_
      refine XS.iloadN X0.here hx rfl (hb hby d16_11) rfl ?_
      refine XS.bipush X0.here hx rfl (hb hby d16_12) ?_
      exact kt
    by_cases hc14_9 : (57 : Int) < vc.toInt
    · have pre12 : oP p e below (s₁.setTop (mkF m 20 #[.val (.int vc), .val (.int lw)] [(.int 97), (.int lw)])) (s₁.setTop (entryFrame m #[(.int vc)] 2)) := fun t kt => by
        refine pre10 _ ?_
        show Steps p.tables e below (s₁.setTop (mkF m 14 #[.val (.int vc), .val (.int lw)] [(.int 57), (.int vc)])) _
        refine XS.icmpNo X0.here hx rfl (hb hby d16_14) rfl (own_tlt (a := (57 : Int32)) (b := vc) (by decide) rfl hc14_9).2.2.2 ?_
        refine XS.iloadN X0.here hx rfl (hb hby d16_17) rfl ?_
        refine XS.bipush X0.here hx rfl (hb hby d16_18) ?_
        exact kt
      by_cases hc20_11 : lw.toInt < (97 : Int)
      · obtain ⟨fs, hr, q1, q2, q3, q4⟩ := X0.leave (v := some (.int 0)) (fun h => by rw [Bd.returns] at h; cases h)
        refine ⟨_, _, pre12 _ ?_, q1, q2, _, _, rfl, ?_, ⟨_, rfl⟩, q3, q4.mono (by decide) (by decide)⟩
        · show Steps p.tables e below (s₁.setTop (mkF m 20 #[.val (.int vc), .val (.int lw)] [(.int 97), (.int lw)])) _
          refine XS.icmpYes X0.here hx rfl (pc0 := 20) (pc' := 33) rfl (hb hby d16_20) rfl (own_tlt (a := lw) (b := (97 : Int32)) rfl (by decide) hc20_11).1 (by decide) (by decide) ?_
          refine XS.iconst X0.here hx rfl (hb hby d16_33) ?_
          exact retN X0 hx (t := .boolean) Bd.returns (by simp) (hb hby d16_34) hr
        · show Q16 Z _ h0 n0 _ s₁.heap _
          rw [e0]
          exact ⟨_, rfl, by have hs : ¬ own_H vc.toInt := (by unfold own_H; omega); rw [if_neg hs]; decide, N0, rfl⟩
      · have pre14 : oP p e below (s₁.setTop (mkF m 26 #[.val (.int vc), .val (.int lw)] [(.int 102), (.int lw)])) (s₁.setTop (entryFrame m #[(.int vc)] 2)) := fun t kt => by
          refine pre12 _ ?_
          show Steps p.tables e below (s₁.setTop (mkF m 20 #[.val (.int vc), .val (.int lw)] [(.int 97), (.int lw)])) _
          refine XS.icmpNo X0.here hx rfl (hb hby d16_20) rfl (own_flt (a := lw) (b := (97 : Int32)) rfl (by decide) hc20_11).1 ?_
          refine XS.iloadN X0.here hx rfl (hb hby d16_23) rfl ?_
          refine XS.bipush X0.here hx rfl (hb hby d16_24) ?_
          exact kt
        by_cases hc26_13 : (102 : Int) < lw.toInt
        · obtain ⟨fs, hr, q1, q2, q3, q4⟩ := X0.leave (v := some (.int 0)) (fun h => by rw [Bd.returns] at h; cases h)
          refine ⟨_, _, pre14 _ ?_, q1, q2, _, _, rfl, ?_, ⟨_, rfl⟩, q3, q4.mono (by decide) (by decide)⟩
          · show Steps p.tables e below (s₁.setTop (mkF m 26 #[.val (.int vc), .val (.int lw)] [(.int 102), (.int lw)])) _
            refine XS.icmpYes X0.here hx rfl (pc0 := 26) (pc' := 33) rfl (hb hby d16_26) rfl (own_tlt (a := (102 : Int32)) (b := lw) (by decide) rfl hc26_13).2.2.1 (by decide) (by decide) ?_
            refine XS.iconst X0.here hx rfl (hb hby d16_33) ?_
            exact retN X0 hx (t := .boolean) Bd.returns (by simp) (hb hby d16_34) hr
          · show Q16 Z _ h0 n0 _ s₁.heap _
            rw [e0]
            exact ⟨_, rfl, by have hs : ¬ own_H vc.toInt := (by unfold own_H; omega); rw [if_neg hs]; decide, N0, rfl⟩
        · obtain ⟨fs, hr, q1, q2, q3, q4⟩ := X0.leave (v := some (.int 1)) (fun h => by rw [Bd.returns] at h; cases h)
          refine ⟨_, _, pre14 _ ?_, q1, q2, _, _, rfl, ?_, ⟨_, rfl⟩, q3, q4.mono (by decide) (by decide)⟩
          · show Steps p.tables e below (s₁.setTop (mkF m 26 #[.val (.int vc), .val (.int lw)] [(.int 102), (.int lw)])) _
            refine XS.icmpNo X0.here hx rfl (hb hby d16_26) rfl (own_flt (a := (102 : Int32)) (b := lw) (by decide) rfl hc26_13).2.2.1 ?_
            refine XS.iconst X0.here hx rfl (hb hby d16_29) ?_
            refine XS.goto X0.here hx rfl (pc0 := 30) (pc' := 34) rfl (hb hby d16_30) (by decide) (by decide) ?_
            exact retN X0 hx (t := .boolean) Bd.returns (by simp) (hb hby d16_34) hr
          · show Q16 Z _ h0 n0 _ s₁.heap _
            rw [e0]
            exact ⟨_, rfl, by have hs : own_H vc.toInt := (by unfold own_H; omega); rw [if_pos hs]; decide, N0, rfl⟩
    · obtain ⟨fs, hr, q1, q2, q3, q4⟩ := X0.leave (v := some (.int 1)) (fun h => by rw [Bd.returns] at h; cases h)
      refine ⟨_, _, pre10 _ ?_, q1, q2, _, _, rfl, ?_, ⟨_, rfl⟩, q3, q4.mono (by decide) (by decide)⟩
      · show Steps p.tables e below (s₁.setTop (mkF m 14 #[.val (.int vc), .val (.int lw)] [(.int 57), (.int vc)])) _
        refine XS.icmpYes X0.here hx rfl (pc0 := 14) (pc' := 29) rfl (hb hby d16_14) rfl (own_flt (a := (57 : Int32)) (b := vc) (by decide) rfl hc14_9).2.2.2 (by decide) (by decide) ?_
        refine XS.iconst X0.here hx rfl (hb hby d16_29) ?_
        refine XS.goto X0.here hx rfl (pc0 := 30) (pc' := 34) rfl (hb hby d16_30) (by decide) (by decide) ?_
        exact retN X0 hx (t := .boolean) Bd.returns (by simp) (hb hby d16_34) hr
      · show Q16 Z _ h0 n0 _ s₁.heap _
        rw [e0]
        exact ⟨_, rfl, by have hs : own_H vc.toInt := (by unfold own_H; omega); rw [if_pos hs]; decide, N0, rfl⟩
theorem own_lo (c : Int32) : (nar .byte ((c >>> ((0 : Int32) &&& 31)).toInt8.toInt32)).toInt % 256 = c.toInt % 256 := by
  have e0 : (c >>> ((0 : Int32) &&& 31)).toInt = c.toInt / 1 := c_ishr c 0 0 (by decide)
  obtain ⟨x, hx⟩ : ∃ x, x = c >>> ((0 : Int32) &&& 31) := ⟨_, rfl⟩
  rw [← hx] at e0 ⊢
  have e : nar .byte x.toInt8.toInt32 = x.toInt8.toInt32.toInt8.toInt32 := rfl
  have q := c_i2b x; have q2 := c_i2b x.toInt8.toInt32
  rw [e]; omega
theorem own_hi (c : Int32) (h1 : 0 ≤ c.toInt) (h2 : c.toInt < 65536) : (nar .byte ((c >>> ((8 : Int32) &&& 31)).toInt8.toInt32)).toInt % 256 = c.toInt / 256 := by
  have e0 : (c >>> ((8 : Int32) &&& 31)).toInt = c.toInt / 256 := c_ishr c 8 8 (by decide)
  obtain ⟨x, hx⟩ : ∃ x, x = c >>> ((8 : Int32) &&& 31) := ⟨_, rfl⟩
  rw [← hx] at e0 ⊢
  have e : nar .byte x.toInt8.toInt32 = x.toInt8.toInt32.toInt8.toInt32 := rfl
  have q := c_i2b x; have q2 := c_i2b x.toInt8.toInt32
  rw [e]; omega
theorem own_gc (lo hi : Int32) : (nar .char ((((lo &&& (255 : Int32)) <<< ((0 : Int32) &&& 31)) ||| ((hi &&& (255 : Int32)) <<< ((8 : Int32) &&& 31))).toUInt32.toUInt16.toUInt32.toInt32)).toInt = lo.toInt % 256 + 256 * (hi.toInt % 256) := by
  have a1 : (lo &&& (255 : Int32)).toInt = lo.toInt % 256 := c_mask lo 255 8 (by decide) (by decide)
  have b1 : (hi &&& (255 : Int32)).toInt = hi.toInt % 256 := c_mask hi 255 8 (by decide) (by decide)
  generalize lo &&& (255 : Int32) = l0 at *
  generalize hi &&& (255 : Int32) = h0 at *
  have a2 : ((l0 <<< ((0 : Int32) &&& 31)).toInt - l0.toInt * 1) % 4294967296 = 0 := c_ishl l0 0 0 (by decide)
  have b2 : ((h0 <<< ((8 : Int32) &&& 31)).toInt - h0.toInt * 256) % 4294967296 = 0 := c_ishl h0 8 8 (by decide)
  have a3 := rng32 (l0 <<< ((0 : Int32) &&& 31)); have b3 := rng32 (h0 <<< ((8 : Int32) &&& 31))
  generalize l0 <<< ((0 : Int32) &&& 31) = l1 at *
  generalize h0 <<< ((8 : Int32) &&& 31) = h1 at *
  have a4 : l1.toInt = l0.toInt := by omega
  have b4 : h1.toInt = h0.toInt * 256 := by omega
  have o := c_or' l1 h1 8 (by decide) 256 rfl (by omega) (by omega) (by omega)
  have o2 := rng32 (l1 ||| h1)
  rw [own_narcZ]
  generalize l1 ||| h1 = w at *
  have q := c_i2c w
  omega
theorem d15_0 : decode jdk_52_method_5_code 0 = .ok (.getstatic 44, 3) := by decide +kernel
theorem d15_3 : decode jdk_52_method_5_code 3 = .ok (.ifCond .ne 25, 3) := by decide +kernel
theorem d15_28 : decode jdk_52_method_5_code 28 = .ok (.iload_n 1, 1) := by decide +kernel
theorem d15_29 : decode jdk_52_method_5_code 29 = .ok (.iconst 1, 1) := by decide +kernel
theorem d15_30 : decode jdk_52_method_5_code 30 = .ok (.ishl, 1) := by decide +kernel
theorem d15_31 : decode jdk_52_method_5_code 31 = .ok (.istore_n 1, 1) := by decide +kernel
theorem d15_32 : decode jdk_52_method_5_code 32 = .ok (.aload_n 0, 1) := by decide +kernel
theorem d15_33 : decode jdk_52_method_5_code 33 = .ok (.iload_n 1, 1) := by decide +kernel
theorem d15_34 : decode jdk_52_method_5_code 34 = .ok (.iinc 1 1, 3) := by decide +kernel
theorem d15_37 : decode jdk_52_method_5_code 37 = .ok (.baload, 1) := by decide +kernel
theorem d15_38 : decode jdk_52_method_5_code 38 = .ok (.sipush 255, 3) := by decide +kernel
theorem d15_41 : decode jdk_52_method_5_code 41 = .ok (.iand, 1) := by decide +kernel
theorem d15_42 : decode jdk_52_method_5_code 42 = .ok (.getstatic 59, 3) := by decide +kernel
theorem d15_45 : decode jdk_52_method_5_code 45 = .ok (.ishl, 1) := by decide +kernel
theorem d15_46 : decode jdk_52_method_5_code 46 = .ok (.aload_n 0, 1) := by decide +kernel
theorem d15_47 : decode jdk_52_method_5_code 47 = .ok (.iload_n 1, 1) := by decide +kernel
theorem d15_48 : decode jdk_52_method_5_code 48 = .ok (.baload, 1) := by decide +kernel
theorem d15_49 : decode jdk_52_method_5_code 49 = .ok (.sipush 255, 3) := by decide +kernel
theorem d15_52 : decode jdk_52_method_5_code 52 = .ok (.iand, 1) := by decide +kernel
theorem d15_53 : decode jdk_52_method_5_code 53 = .ok (.getstatic 63, 3) := by decide +kernel
theorem d15_56 : decode jdk_52_method_5_code 56 = .ok (.ishl, 1) := by decide +kernel
theorem d15_57 : decode jdk_52_method_5_code 57 = .ok (.ior, 1) := by decide +kernel
theorem d15_58 : decode jdk_52_method_5_code 58 = .ok (.i2c, 1) := by decide +kernel
theorem d15_59 : decode jdk_52_method_5_code 59 = .ok (.ireturn, 1) := by decide +kernel
theorem pn_2 : plainName "java/lang/StringUTF16" = true := by first | (simp [plainName, overriddenIn]; done) | decide +kernel
theorem ef_rm_gc (m : MethodId) (x0 : Addr) (x1 : Int32) : entryFrame m #[(.ref x0), (.int x1)] 2 = mkF m 0 #[.val (.ref x0), .val (.int x1)] [] := by first | (simp [entryFrame, mkF, argsToLocals, Value.category]; done) | rfl
def Q_gc (Z : State) (ob : Addr) (vi : Int32) (vcs : Int32) (vf : Value) (kb : ClassId) (zl : Int32) (vs : List Value) (lo : Int32) (hi : Int32) (im : Nat) (h0 : Heap) (n0 : Nat) (v : Option Value) (h : Heap) (L : List Loc) : Prop := ∃ z : Int32, v = some (.int z) ∧ (z.toInt = lo.toInt % 256 + 256 * (hi.toInt % 256)) ∧ Fr n0 L ∧ h = h0
theorem rm_gc (l : Launch) (Z : State) (a0 : Array Value) (hw : ∀ d ∈ tables_1, d.before a0 Z = true) (ws : List Jvm.Cond) (ob : Addr) (vi : Int32) (vcs : Int32) (vf : Value) (kb : ClassId) (zl : Int32) (vs : List Value) (lo : Int32) (hi : Int32) (im : Nat) (h0 : Heap) (n0 : Nat) (Z0 : n0 ≤ h0.size) (Os : own_st Z h0 vcs vf) (Vb : Arv Z h0 ob kb .byte zl vs (.int 0)) (i1 : 0 ≤ vi.toInt) (i2 : 2 * vi.toInt + 1 < zl.toInt) (hin : vi.toInt = im) (g0 : vs.getD (2 * im) (.int 0) = .int lo) (g1 : vs.getD (2 * im + 1) (.int 0) = .int hi) :
    MetFree l yn2 (head1 (Jvm.Cond.code yn2 jdk_52_method_5_code 2 (some .char) :: ws) ⟨0, 0, 0, 0⟩) (fun a U => a = #[(.ref ob), (.int vi)] ∧ Z.Warmed39 U.vm ∧ U.heap = h0) (fun _ _ _ _ _ => True) (fun _ U o U' => ∃ v L, o = .returned v ∧ Q_gc Z ob vi vcs vf kb zl vs lo hi im h0 n0 v U'.heap L ∧ FrameEnd U o U' L 0 0) := by
  refine MetFree.of_bodySF (plainFor_of_name pn_2) hisR ?_
  intro p e s m args below meth c s₁ Bd hml0 hP hK
  obtain ⟨rfl, hZ, hh⟩ := hP
  have hx := Bd.exec
  have hby := Bd.bytes
  have hml : c.maxLocals = 2 := hml0
  have hown : s.vm.findClass "java/lang/StringUTF16" = some m.cls := findClass_of_methodNamed Bd.named
  have hnm := (name_of_methodNamed Bd.named Bd.method).1
  have X0 : Stand p l e ⟨0, 0, 0, 0⟩ s m #[(.ref ob), (.int vi)] below meth c s₁ [] 0 0 := Stand.of_body Bd
  have e0 : s₁.heap = h0 := by rw [← hh, Bd.state]; rfl
  have N0 := Fr.nil n0
  have pre0 : oP p e below (s₁.setTop (mkF m 0 #[.val (.ref ob), .val (.int vi)] [])) (s₁.setTop (entryFrame m #[(.ref ob), (.int vi)] 2)) := fun t k => castTop (ef_rm_gc m ob vi) k
  have rzl := rng32 zl
  obtain ⟨T1, X1, e1, st1⟩ := getS2 X0 hx hZ hown (host := "") (Or.inl (ow hw 63 rfl)) Via.refl e0 Os.2.2.2.2.1 (g := (mkF m 0 #[.val (.ref ob), .val (.int vi)] [])) rfl (hb hby d15_0)
  have hc3_2 : ¬ ((1 : Int) = (0 : Int)) := by decide
  obtain ⟨cl3, Ar3, q3, S3, M3, H3, G3⟩ := id Vb
  have hin3 : ¬ ((vi <<< ((1 : Int32) &&& 31)) < 0 ∨ cl3.slots.size ≤ ((vi <<< ((1 : Int32) &&& 31))).toNatClampNeg) := inb_of S3 ⟨by rw [Int32.lt_iff_toInt_lt]; have k0 : (0 : Int32).toInt = 0 := (by decide); have := rng32 vi; (first | (have : ((vi <<< ((1 : Int32) &&& 31))).toInt = vi.toInt * 2 := (by have : (((vi <<< ((1 : Int32) &&& 31))).toInt - vi.toInt * 2) % 4294967296 = 0 := c_ishl vi (1 : Int32) 1 (by decide); have := rng32 (vi <<< ((1 : Int32) &&& 31)); omega)) | (have : (((vi <<< ((1 : Int32) &&& 31))).toInt - vi.toInt * 2) % 4294967296 = 0 := c_ishl vi (1 : Int32) 1 (by decide); have := rng32 (vi <<< ((1 : Int32) &&& 31)))); omega, by rw [Int32.lt_iff_toInt_lt]; have := rng32 vi; (first | (have : ((vi <<< ((1 : Int32) &&& 31))).toInt = vi.toInt * 2 := (by have : (((vi <<< ((1 : Int32) &&& 31))).toInt - vi.toInt * 2) % 4294967296 = 0 := c_ishl vi (1 : Int32) 1 (by decide); have := rng32 (vi <<< ((1 : Int32) &&& 31)); omega)) | (have : (((vi <<< ((1 : Int32) &&& 31))).toInt - vi.toInt * 2) % 4294967296 = 0 := c_ishl vi (1 : Int32) 1 (by decide); have := rng32 (vi <<< ((1 : Int32) &&& 31)))); omega⟩
  have hat3 : cl3.slots[((vi <<< ((1 : Int32) &&& 31))).toNatClampNeg]? = some (.int lo) := Has.at H3 hin3 (by rw [own_nat (j := (vi <<< ((1 : Int32) &&& 31))) (n := 2 * im) (by push_cast; have := rng32 vi; (first | (have : ((vi <<< ((1 : Int32) &&& 31))).toInt = vi.toInt * 2 := (by have : (((vi <<< ((1 : Int32) &&& 31))).toInt - vi.toInt * 2) % 4294967296 = 0 := c_ishl vi (1 : Int32) 1 (by decide); have := rng32 (vi <<< ((1 : Int32) &&& 31)); omega)) | (have : (((vi <<< ((1 : Int32) &&& 31))).toInt - vi.toInt * 2) % 4294967296 = 0 := c_ishl vi (1 : Int32) 1 (by decide); have := rng32 (vi <<< ((1 : Int32) &&& 31)))); omega)]; exact g0)
  obtain ⟨T4, X4, e4, st4⟩ := getS2 X1 hx hZ hown (host := "") (Or.inl (ow hw 64 rfl)) Via.refl e1 Os.2.2.2.2.2.1 (g := (mkF m 42 #[.val (.ref ob), .val (.int ((vi <<< ((1 : Int32) &&& 31)) + (1 : Int32)))] [(.int (lo &&& (255 : Int32)))])) rfl (hb hby d15_42)
  obtain ⟨cl5, Ar5, q5, S5, M5, H5, G5⟩ := id Vb
  have hin5 : ¬ (((vi <<< ((1 : Int32) &&& 31)) + (1 : Int32)) < 0 ∨ cl5.slots.size ≤ (((vi <<< ((1 : Int32) &&& 31)) + (1 : Int32))).toNatClampNeg) := inb_of S5 ⟨by rw [Int32.lt_iff_toInt_lt]; have k0 : (0 : Int32).toInt = 0 := (by decide); have := rng32 vi; (first | (have : ((vi <<< ((1 : Int32) &&& 31))).toInt = vi.toInt * 2 := (by have : (((vi <<< ((1 : Int32) &&& 31))).toInt - vi.toInt * 2) % 4294967296 = 0 := c_ishl vi (1 : Int32) 1 (by decide); have := rng32 (vi <<< ((1 : Int32) &&& 31)); omega)) | (have : (((vi <<< ((1 : Int32) &&& 31))).toInt - vi.toInt * 2) % 4294967296 = 0 := c_ishl vi (1 : Int32) 1 (by decide); have := rng32 (vi <<< ((1 : Int32) &&& 31)))); (first | (have : (((vi <<< ((1 : Int32) &&& 31)) + (1 : Int32))).toInt = (vi <<< ((1 : Int32) &&& 31)).toInt + (1 : Int) := (by have : ((((vi <<< ((1 : Int32) &&& 31)) + (1 : Int32))).toInt - ((vi <<< ((1 : Int32) &&& 31)).toInt + (1 : Int))) % 4294967296 = 0 := c_iadd (vi <<< ((1 : Int32) &&& 31)) (1 : Int32); have := rng32 ((vi <<< ((1 : Int32) &&& 31)) + (1 : Int32)); omega)) | (have : ((((vi <<< ((1 : Int32) &&& 31)) + (1 : Int32))).toInt - ((vi <<< ((1 : Int32) &&& 31)).toInt + (1 : Int))) % 4294967296 = 0 := c_iadd (vi <<< ((1 : Int32) &&& 31)) (1 : Int32); have := rng32 ((vi <<< ((1 : Int32) &&& 31)) + (1 : Int32)))); omega, by rw [Int32.lt_iff_toInt_lt]; have := rng32 vi; (first | (have : ((vi <<< ((1 : Int32) &&& 31))).toInt = vi.toInt * 2 := (by have : (((vi <<< ((1 : Int32) &&& 31))).toInt - vi.toInt * 2) % 4294967296 = 0 := c_ishl vi (1 : Int32) 1 (by decide); have := rng32 (vi <<< ((1 : Int32) &&& 31)); omega)) | (have : (((vi <<< ((1 : Int32) &&& 31))).toInt - vi.toInt * 2) % 4294967296 = 0 := c_ishl vi (1 : Int32) 1 (by decide); have := rng32 (vi <<< ((1 : Int32) &&& 31)))); (first | (have : (((vi <<< ((1 : Int32) &&& 31)) + (1 : Int32))).toInt = (vi <<< ((1 : Int32) &&& 31)).toInt + (1 : Int) := (by have : ((((vi <<< ((1 : Int32) &&& 31)) + (1 : Int32))).toInt - ((vi <<< ((1 : Int32) &&& 31)).toInt + (1 : Int))) % 4294967296 = 0 := c_iadd (vi <<< ((1 : Int32) &&& 31)) (1 : Int32); have := rng32 ((vi <<< ((1 : Int32) &&& 31)) + (1 : Int32)); omega)) | (have : ((((vi <<< ((1 : Int32) &&& 31)) + (1 : Int32))).toInt - ((vi <<< ((1 : Int32) &&& 31)).toInt + (1 : Int))) % 4294967296 = 0 := c_iadd (vi <<< ((1 : Int32) &&& 31)) (1 : Int32); have := rng32 ((vi <<< ((1 : Int32) &&& 31)) + (1 : Int32)))); omega⟩
  have hat5 : cl5.slots[(((vi <<< ((1 : Int32) &&& 31)) + (1 : Int32))).toNatClampNeg]? = some (.int hi) := Has.at H5 hin5 (by rw [own_nat (j := ((vi <<< ((1 : Int32) &&& 31)) + (1 : Int32))) (n := 2 * im + 1) (by push_cast; have := rng32 vi; (first | (have : ((vi <<< ((1 : Int32) &&& 31))).toInt = vi.toInt * 2 := (by have : (((vi <<< ((1 : Int32) &&& 31))).toInt - vi.toInt * 2) % 4294967296 = 0 := c_ishl vi (1 : Int32) 1 (by decide); have := rng32 (vi <<< ((1 : Int32) &&& 31)); omega)) | (have : (((vi <<< ((1 : Int32) &&& 31))).toInt - vi.toInt * 2) % 4294967296 = 0 := c_ishl vi (1 : Int32) 1 (by decide); have := rng32 (vi <<< ((1 : Int32) &&& 31)))); (first | (have : (((vi <<< ((1 : Int32) &&& 31)) + (1 : Int32))).toInt = (vi <<< ((1 : Int32) &&& 31)).toInt + (1 : Int) := (by have : ((((vi <<< ((1 : Int32) &&& 31)) + (1 : Int32))).toInt - ((vi <<< ((1 : Int32) &&& 31)).toInt + (1 : Int))) % 4294967296 = 0 := c_iadd (vi <<< ((1 : Int32) &&& 31)) (1 : Int32); have := rng32 ((vi <<< ((1 : Int32) &&& 31)) + (1 : Int32)); omega)) | (have : ((((vi <<< ((1 : Int32) &&& 31)) + (1 : Int32))).toInt - ((vi <<< ((1 : Int32) &&& 31)).toInt + (1 : Int))) % 4294967296 = 0 := c_iadd (vi <<< ((1 : Int32) &&& 31)) (1 : Int32); have := rng32 ((vi <<< ((1 : Int32) &&& 31)) + (1 : Int32)))); omega)]; exact g1)
  obtain ⟨T6, X6, e6, st6⟩ := getS2 X4 hx hZ hown (host := "") (Or.inl (ow hw 65 rfl)) Via.refl e4 Os.2.2.2.2.2.2 (g := (mkF m 53 #[.val (.ref ob), .val (.int ((vi <<< ((1 : Int32) &&& 31)) + (1 : Int32)))] [(.int (hi &&& (255 : Int32))), (.int ((lo &&& (255 : Int32)) <<< ((0 : Int32) &&& 31)))])) rfl (hb hby d15_53)
  obtain ⟨fs, hr, q1, q2, q3, q4⟩ := X6.leave (v := some (.int (nar .char ((((lo &&& (255 : Int32)) <<< ((0 : Int32) &&& 31)) ||| ((hi &&& (255 : Int32)) <<< ((8 : Int32) &&& 31))).toUInt32.toUInt16.toUInt32.toInt32)))) (fun h => by rw [Bd.returns] at h; cases h)
  refine ⟨_, _, pre0 _ ?_, q1, q2, _, _, rfl, ?_, ⟨_, rfl⟩, q3, q4.mono (by decide) (by decide)⟩
  · refine st1 _ ?_
    refine XS.ifYes X1.here hx rfl (pc0 := 3) (pc' := 28) rfl (hb hby d15_3) rfl (own_if (own_feq (a := (1 : Int32)) (b := (0 : Int32)) (by decide) (by decide) hc3_2).2) (by decide) (by decide) ?_
    refine XS.iloadN X1.here hx rfl (hb hby d15_28) rfl ?_
    refine XS.iconst X1.here hx rfl (hb hby d15_29) ?_
    refine XS.ishl X1.here hx rfl (hb hby d15_30) rfl ?_
    refine XS.istoreN X1.here hx rfl (hb hby d15_31) rfl (l' := #[.val (.ref ob), .val (.int (vi <<< ((1 : Int32) &&& 31)))]) rfl ?_
    refine XS.aloadN X1.here hx rfl (hb hby d15_32) rfl rfl ?_
    refine XS.iloadN X1.here hx rfl (hb hby d15_33) rfl ?_
    refine XS.iinc X1.here hx rfl (hb hby d15_34) rfl (l' := #[.val (.ref ob), .val (.int ((vi <<< ((1 : Int32) &&& 31)) + (1 : Int32)))]) rfl ?_
    refine X1.baloadBytes hx (j := (vi <<< ((1 : Int32) &&& 31))) (v := (.int lo)) (by rw [e1]; exact Ar3.1) (State.isArrayOf_alike hZ.alike Ar3.2.1) Ar3.2.2 hin3 hat3 (g := (mkF m 37 #[.val (.ref ob), .val (.int ((vi <<< ((1 : Int32) &&& 31)) + (1 : Int32)))] [(.int (vi <<< ((1 : Int32) &&& 31))), (.ref ob)])) rfl rfl (hb hby d15_37) _ ?_
    refine XS.sipush X1.here hx rfl (hb hby d15_38) ?_
    refine XS.iand X1.here hx rfl (hb hby d15_41) rfl ?_
    refine st4 _ ?_
    refine XS.ishl X4.here hx rfl (hb hby d15_45) rfl ?_
    refine XS.aloadN X4.here hx rfl (hb hby d15_46) rfl rfl ?_
    refine XS.iloadN X4.here hx rfl (hb hby d15_47) rfl ?_
    refine X4.baloadBytes hx (j := ((vi <<< ((1 : Int32) &&& 31)) + (1 : Int32))) (v := (.int hi)) (by rw [e4]; exact Ar5.1) (State.isArrayOf_alike hZ.alike Ar5.2.1) Ar5.2.2 hin5 hat5 (g := (mkF m 48 #[.val (.ref ob), .val (.int ((vi <<< ((1 : Int32) &&& 31)) + (1 : Int32)))] [(.int ((vi <<< ((1 : Int32) &&& 31)) + (1 : Int32))), (.ref ob), (.int ((lo &&& (255 : Int32)) <<< ((0 : Int32) &&& 31)))])) rfl rfl (hb hby d15_48) _ ?_
    refine XS.sipush X4.here hx rfl (hb hby d15_49) ?_
    refine XS.iand X4.here hx rfl (hb hby d15_52) rfl ?_
    show Steps p.tables e below (T4.setTop (mkF m 53 #[.val (.ref ob), .val (.int ((vi <<< ((1 : Int32) &&& 31)) + (1 : Int32)))] [(.int (hi &&& (255 : Int32))), (.int ((lo &&& (255 : Int32)) <<< ((0 : Int32) &&& 31)))])) _
    refine st6 _ ?_
    refine XS.ishl X6.here hx rfl (hb hby d15_56) rfl ?_
    refine XS.ior X6.here hx rfl (hb hby d15_57) rfl ?_
    refine XS.i2c X6.here hx rfl (hb hby d15_58) rfl ?_
    exact retN X6 hx (t := .char) Bd.returns (by simp) (hb hby d15_59) hr
  · show Q_gc Z _ _ _ _ _ _ _ _ _ _ h0 n0 _ T6.heap _
    rw [e6]
    exact ⟨_, rfl, own_gc lo hi, N0, rfl⟩
theorem d21_0 : decode jdk_52_method_6_code 0 = .ok (.aload_n 0, 1) := by decide +kernel
theorem d21_1 : decode jdk_52_method_6_code 1 = .ok (.arraylength, 1) := by decide +kernel
theorem d21_2 : decode jdk_52_method_6_code 2 = .ok (.iconst 1, 1) := by decide +kernel
theorem d21_3 : decode jdk_52_method_6_code 3 = .ok (.ishr, 1) := by decide +kernel
theorem d21_4 : decode jdk_52_method_6_code 4 = .ok (.ireturn, 1) := by decide +kernel
theorem ef_rm_ulen (m : MethodId) (x0 : Addr) : entryFrame m #[(.ref x0)] 1 = mkF m 0 #[.val (.ref x0)] [] := by first | (simp [entryFrame, mkF, argsToLocals, Value.category]; done) | rfl
def Q_ulen (Z : State) (ob : Addr) (kb : ClassId) (zl : Int32) (vs : List Value) (h0 : Heap) (n0 : Nat) (v : Option Value) (h : Heap) (L : List Loc) : Prop := ∃ z : Int32, v = some (.int z) ∧ (z.toInt = zl.toInt / 2) ∧ Fr n0 L ∧ h = h0
theorem rm_ulen (l : Launch) (Z : State) (a0 : Array Value) (hw : ∀ d ∈ tables_1, d.before a0 Z = true) (ws : List Jvm.Cond) (ob : Addr) (kb : ClassId) (zl : Int32) (vs : List Value) (h0 : Heap) (n0 : Nat) (Z0 : n0 ≤ h0.size) (Vb : Arv Z h0 ob kb .byte zl vs (.int 0)) :
    MetFree l yn3 (head1 (Jvm.Cond.code yn3 jdk_52_method_6_code 1 (some .int) :: ws) ⟨0, 0, 0, 0⟩) (fun a U => a = #[(.ref ob)] ∧ Z.Warmed39 U.vm ∧ U.heap = h0) (fun _ _ _ _ _ => True) (fun _ U o U' => ∃ v L, o = .returned v ∧ Q_ulen Z ob kb zl vs h0 n0 v U'.heap L ∧ FrameEnd U o U' L 0 0) := by
  refine MetFree.of_bodySF (plainFor_of_name pn_2) hisR ?_
  intro p e s m args below meth c s₁ Bd hml0 hP hK
  obtain ⟨rfl, hZ, hh⟩ := hP
  have hx := Bd.exec
  have hby := Bd.bytes
  have hml : c.maxLocals = 1 := hml0
  have hown : s.vm.findClass "java/lang/StringUTF16" = some m.cls := findClass_of_methodNamed Bd.named
  have hnm := (name_of_methodNamed Bd.named Bd.method).1
  have X0 : Stand p l e ⟨0, 0, 0, 0⟩ s m #[(.ref ob)] below meth c s₁ [] 0 0 := Stand.of_body Bd
  have e0 : s₁.heap = h0 := by rw [← hh, Bd.state]; rfl
  have N0 := Fr.nil n0
  have pre0 : oP p e below (s₁.setTop (mkF m 0 #[.val (.ref ob)] [])) (s₁.setTop (entryFrame m #[(.ref ob)] 1)) := fun t k => castTop (ef_rm_ulen m ob) k
  obtain ⟨cl1, Ar1, q1, S1, M1, H1, G1⟩ := id Vb
  obtain ⟨fs, hr, q1, q2, q3, q4⟩ := X0.leave (v := some (.int (zl >>> ((1 : Int32) &&& 31)))) (fun h => by rw [Bd.returns] at h; cases h)
  refine ⟨_, _, pre0 _ ?_, q1, q2, _, _, rfl, ?_, ⟨_, rfl⟩, q3, q4.mono (by decide) (by decide)⟩
  · refine XS.aloadN X0.here hx rfl (hb hby d21_0) rfl rfl ?_
    refine X0.arraylength hx (by rw [e0]; exact Ar1.1) (State.isArrayOf_alike hZ.alike Ar1.2.1) (g := (mkF m 1 #[.val (.ref ob)] [(.ref ob)])) rfl rfl (hb hby d21_1) _ ?_
    rw [len_of S1 M1]
    refine XS.iconst X0.here hx rfl (hb hby d21_2) ?_
    refine XS.ishr X0.here hx rfl (hb hby d21_3) rfl ?_
    exact retI X0 hx Bd.returns (hb hby d21_4) hr
  · show Q_ulen Z _ _ _ _ h0 n0 _ s₁.heap _
    rw [e0]
    exact ⟨_, rfl, by have := rng32 zl; have : ((zl >>> ((1 : Int32) &&& 31))).toInt = zl.toInt / 2 := c_ishr zl (1 : Int32) 1 (by decide); omega, N0, rfl⟩
theorem d13_0 : decode jdk_52_method_3_code 0 = .ok (.iload_n 0, 1) := by decide +kernel
theorem d13_1 : decode jdk_52_method_3_code 1 = .ok (.ifCond .ge 11, 3) := by decide +kernel
theorem d13_12 : decode jdk_52_method_3_code 12 = .ok (.iload_n 0, 1) := by decide +kernel
theorem d13_13 : decode jdk_52_method_3_code 13 = .ok (.ldc 20, 2) := by decide +kernel
theorem d13_15 : decode jdk_52_method_3_code 15 = .ok (.if_icmp .lt 40, 3) := by decide +kernel
theorem d13_55 : decode jdk_52_method_3_code 55 = .ok (.iload_n 0, 1) := by decide +kernel
theorem d13_56 : decode jdk_52_method_3_code 56 = .ok (.iconst 1, 1) := by decide +kernel
theorem d13_57 : decode jdk_52_method_3_code 57 = .ok (.ishl, 1) := by decide +kernel
theorem d13_58 : decode jdk_52_method_3_code 58 = .ok (.ireturn, 1) := by decide +kernel
theorem ef_rm_nbl1 (m : MethodId)  : entryFrame m #[(.int 1)] 1 = mkF m 0 #[.val (.int 1)] [] := by first | (simp [entryFrame, mkF, argsToLocals, Value.category]; done) | rfl
def Q_nbl1 (Z : State)  (h0 : Heap) (n0 : Nat) (v : Option Value) (h : Heap) (L : List Loc) : Prop := ∃ z : Int32, v = some (.int z) ∧ (z = (2 : Int32)) ∧ Fr n0 L ∧ h = h0
theorem rm_nbl1 (l : Launch) (Z : State) (a0 : Array Value) (hw : ∀ d ∈ tables_1, d.before a0 Z = true) (ws : List Jvm.Cond)  (h0 : Heap) (n0 : Nat) (Z0 : n0 ≤ h0.size) :
    MetFree l yn4 (head1 (Jvm.Cond.code yn4 jdk_52_method_3_code 1 (some .int) :: ws) ⟨0, 0, 0, 0⟩) (fun a U => a = #[(.int 1)] ∧ Z.Warmed39 U.vm ∧ U.heap = h0) (fun _ _ _ _ _ => True) (fun _ U o U' => ∃ v L, o = .returned v ∧ Q_nbl1 Z  h0 n0 v U'.heap L ∧ FrameEnd U o U' L 0 0) := by
  refine MetFree.of_bodySF (plainFor_of_name pn_2) hisR ?_
  intro p e s m args below meth c s₁ Bd hml0 hP hK
  obtain ⟨rfl, hZ, hh⟩ := hP
  have hx := Bd.exec
  have hby := Bd.bytes
  have hml : c.maxLocals = 1 := hml0
  have hown : s.vm.findClass "java/lang/StringUTF16" = some m.cls := findClass_of_methodNamed Bd.named
  have hnm := (name_of_methodNamed Bd.named Bd.method).1
  have X0 : Stand p l e ⟨0, 0, 0, 0⟩ s m #[(.int 1)] below meth c s₁ [] 0 0 := Stand.of_body Bd
  have e0 : s₁.heap = h0 := by rw [← hh, Bd.state]; rfl
  have N0 := Fr.nil n0
  have pre0 : oP p e below (s₁.setTop (mkF m 0 #[.val (.int 1)] [])) (s₁.setTop (entryFrame m #[(.int 1)] 1)) := fun t k => castTop (ef_rm_nbl1 m ) k
  have hc1_1 : ¬ ((1 : Int) < (0 : Int)) := by decide
  have hc15_2 : (1 : Int) < (1073741823 : Int) := by decide
  obtain ⟨fs, hr, q1, q2, q3, q4⟩ := X0.leave (v := some (.int 2)) (fun h => by rw [Bd.returns] at h; cases h)
  refine ⟨_, _, pre0 _ ?_, q1, q2, _, _, rfl, ?_, ⟨_, rfl⟩, q3, q4.mono (by decide) (by decide)⟩
  · refine XS.iloadN X0.here hx rfl (hb hby d13_0) rfl ?_
    refine XS.ifYes X0.here hx rfl (pc0 := 1) (pc' := 12) rfl (hb hby d13_1) rfl (own_if (own_flt (a := (1 : Int32)) (b := (0 : Int32)) (by decide) (by decide) hc1_1).2.1) (by decide) (by decide) ?_
    refine XS.iloadN X0.here hx rfl (hb hby d13_12) rfl ?_
    refine X0.ldcInt hx hown (mvT hZ (ow hw 59 rfl)) (g := (mkF m 13 #[.val (.int 1)] [(.int 1)])) rfl (hb hby d13_13) _ ?_
    refine XS.icmpYes X0.here hx rfl (pc0 := 15) (pc' := 55) rfl (hb hby d13_15) rfl (own_tlt (a := (1 : Int32)) (b := (1073741823 : Int32)) (by decide) (by decide) hc15_2).1 (by decide) (by decide) ?_
    refine XS.iloadN X0.here hx rfl (hb hby d13_55) rfl ?_
    refine XS.iconst X0.here hx rfl (hb hby d13_56) ?_
    refine XS.ishl X0.here hx rfl (hb hby d13_57) rfl ?_
    exact retI X0 hx Bd.returns (hb hby d13_58) hr
  · show Q_nbl1 Z  h0 n0 _ s₁.heap _
    rw [e0]
    exact ⟨_, rfl, rfl, N0, rfl⟩
theorem d12_0 : decode jdk_52_method_2_code 0 = .ok (.iload_n 0, 1) := by decide +kernel
theorem d12_1 : decode jdk_52_method_2_code 1 = .ok (.invokestatic 11, 3) := by decide +kernel
theorem d12_4 : decode jdk_52_method_2_code 4 = .ok (.newarray .byte, 2) := by decide +kernel
theorem d12_6 : decode jdk_52_method_2_code 6 = .ok (.areturn, 1) := by decide +kernel
theorem ef_rm_nbf1 (m : MethodId)  : entryFrame m #[(.int 1)] 1 = mkF m 0 #[.val (.int 1)] [] := by first | (simp [entryFrame, mkF, argsToLocals, Value.category]; done) | rfl
theorem pd_0 : parseMethodDescriptor "(I)I" = some ⟨[.int], some .int⟩ := by decide +kernel
def Q_nbf1 (Z : State)  (h0 : Heap) (n0 : Nat) (v : Option Value) (h : Heap) (L : List Loc) : Prop := ∃ (ob : Addr) (kb : ClassId), v = some (.ref ob) ∧ Fr n0 L ∧ Keep h0 h [] ∧ n0 ≤ ob ∧ h0.size ≤ ob ∧ Arv Z h ob kb .byte (2 : Int32) [(.int 0), (.int 0)] (.int 0)
theorem rm_nbf1 (l : Launch) (Z : State) (a0 : Array Value) (hw : ∀ d ∈ tables_1, d.before a0 Z = true) (ws : List Jvm.Cond)  (h0 : Heap) (n0 : Nat) (Z0 : n0 ≤ h0.size) :
    MetFree l yn5 (head1 (Jvm.Cond.code yn5 jdk_52_method_2_code 1 (some (.array .byte)) :: ws) ⟨1, 1, 2, 12⟩) (fun a U => a = #[(.int 1)] ∧ Z.Warmed39 U.vm ∧ U.heap = h0) (fun _ _ _ _ _ => True) (fun _ U o U' => ∃ v L, o = .returned v ∧ Q_nbf1 Z  h0 n0 v U'.heap L ∧ FrameEnd U o U' L 1 2) := by
  refine MetFree.of_bodySF (plainFor_of_name pn_2) hisR ?_
  intro p e s m args below meth c s₁ Bd hml0 hP hK
  obtain ⟨rfl, hZ, hh⟩ := hP
  have hx := Bd.exec
  have hby := Bd.bytes
  have hml : c.maxLocals = 1 := hml0
  have hown : s.vm.findClass "java/lang/StringUTF16" = some m.cls := findClass_of_methodNamed Bd.named
  have hnm := (name_of_methodNamed Bd.named Bd.method).1
  have X0 : Stand p l e ⟨1, 1, 2, 12⟩ s m #[(.int 1)] below meth c s₁ [] 0 0 := Stand.of_body Bd
  have e0 : s₁.heap = h0 := by rw [← hh, Bd.state]; rfl
  have N0 := Fr.nil n0
  have pre0 : oP p e below (s₁.setTop (mkF m 0 #[.val (.int 1)] [])) (s₁.setTop (entryFrame m #[(.int 1)] 1)) := fun t k => castTop (ef_rm_nbf1 m ) k
  obtain ⟨_, _, ⟨T1, L1, k1, n1⟩, -, X1, ⟨Lc1, hQ1, l1, y1, z1⟩, st1⟩ := Jvm.LawKit.callS X0 hx (y := yn4) hown (mvT hZ (ow hw 56 rfl)) (mvT hZ (ow hw 57 rfl)) (mvT hZ (ow hw 19 rfl)) (mvT hZ (ow hw 58 rfl)) (by decide) (backOf (W := 0) (rm_nbl1 l Z a0 hw []  h0 n0 Z0 ) hZ (ow hw 58 rfl) (ow hw 19 rfl) (by decide) (by decide)) (g := (mkF m 1 #[.val (.int 1)] [(.int 1)])) rfl (by rw [hml]; rfl) (argsL := [(.int 1)]) (rest := []) (lenOf pd_0 rfl) rfl (by exact Nat.le_of_eq rfl) (hb hby d12_1) (fun _ _ => ⟨rfl, e0, (by decide : 0 + 0 ≤ _), (by decide : 0 + 0 ≤ _)⟩)
  dsimp only [Pt.U, Pt.locs, Pt.cells, Pt.slots] at X1 l1 y1 z1 st1 hQ1
  rw [l1, y1, z1] at X1
  obtain ⟨zz, rfl, hzz, N1q, e1⟩ := hQ1
  have N1 := Fr.app N0 N1q
  have pre2 : oP p e below (T1.setTop (mkF m 4 #[.val (.int 1)] [(.int zz)])) (s₁.setTop (entryFrame m #[(.int 1)] 1)) := fun t kt => by
    refine pre0 _ ?_
    refine XS.iloadN X0.here hx rfl (hb hby d12_0) rfl ?_
    refine st1 _ ?_
    exact kt
  subst hzz
  have pre3 : oP p e below (T1.setTop (mkF m 4 #[.val (.int 1)] [(.int 2)])) (s₁.setTop (entryFrame m #[(.int 1)] 1)) := pre2
  obtain ⟨T4, h4, k4, X4, e4, E4, A4, st4⟩ := newP X1 hx hZ (ow hw 21 rfl) e1 (g := (mkF m 4 #[.val (.int 1)] [(.int 2)])) rfl (hb hby d12_4) rfl (by decide) (cap := 2) (by decide) (by decide) (by decide) (by decide)
  obtain ⟨b4, g4⟩ : ∃ z, z = h0.size := ⟨_, rfl⟩
  have g_b4 : n0 ≤ b4 := Nat.le_trans Z0 (Nat.le_of_eq g4.symm)
  have sz_b4 : h0.size ≤ b4 := Nat.le_trans (Keep.refl h0 []).1 (Nat.le_of_eq g4.symm)
  rw [← g4] at A4 st4
  have Zs5 : n0 ≤ h4.size := Nat.le_trans Z0 E4.1
  have V4 : Arv Z h4 b4 k4 .byte (2 : Int32) [(.int 0), (.int 0)] (.int 0) := (Arv.new A4 (by decide)).pad (pad_rep [] (.int 0) 2)
  obtain ⟨fs, hr, q1, q2, q3, q4⟩ := X4.leave (v := some (.ref b4)) (fun h => by rw [Bd.returns] at h; cases h)
  refine ⟨_, _, pre3 _ ?_, q1, q2, _, _, rfl, ?_, ⟨_, rfl⟩, q3, q4.mono (by decide) (by decide)⟩
  · refine st4 _ ?_
    jvm_step X4.here [X4.here.top, hx, (hb hby d12_6), X4.method', Bd.returns, Value.isRef, FieldType.isReference]
    first | (intro acts; rw [hr _ acts rfl rfl rfl]) | rw [hr _ _ rfl rfl rfl]
    exact Steps.refl _
  · show Q_nbf1 Z  h0 n0 _ T4.heap _
    rw [e4]
    have f6 := ((Keep.refl h0 []).ext E4)
    exact ⟨b4, _, rfl, N1, f6, g_b4, sz_b4, V4⟩
theorem d14_0 : decode jdk_52_method_4_code 0 = .ok (.getstatic 44, 3) := by decide +kernel
theorem d14_3 : decode jdk_52_method_4_code 3 = .ok (.ifCond .ne 25, 3) := by decide +kernel
theorem d14_28 : decode jdk_52_method_4_code 28 = .ok (.iload_n 1, 1) := by decide +kernel
theorem d14_29 : decode jdk_52_method_4_code 29 = .ok (.iconst 1, 1) := by decide +kernel
theorem d14_30 : decode jdk_52_method_4_code 30 = .ok (.ishl, 1) := by decide +kernel
theorem d14_31 : decode jdk_52_method_4_code 31 = .ok (.istore_n 1, 1) := by decide +kernel
theorem d14_32 : decode jdk_52_method_4_code 32 = .ok (.aload_n 0, 1) := by decide +kernel
theorem d14_33 : decode jdk_52_method_4_code 33 = .ok (.iload_n 1, 1) := by decide +kernel
theorem d14_34 : decode jdk_52_method_4_code 34 = .ok (.iinc 1 1, 3) := by decide +kernel
theorem d14_37 : decode jdk_52_method_4_code 37 = .ok (.iload_n 2, 1) := by decide +kernel
theorem d14_38 : decode jdk_52_method_4_code 38 = .ok (.getstatic 59, 3) := by decide +kernel
theorem d14_41 : decode jdk_52_method_4_code 41 = .ok (.ishr, 1) := by decide +kernel
theorem d14_42 : decode jdk_52_method_4_code 42 = .ok (.i2b, 1) := by decide +kernel
theorem d14_43 : decode jdk_52_method_4_code 43 = .ok (.bastore, 1) := by decide +kernel
theorem d14_44 : decode jdk_52_method_4_code 44 = .ok (.aload_n 0, 1) := by decide +kernel
theorem d14_45 : decode jdk_52_method_4_code 45 = .ok (.iload_n 1, 1) := by decide +kernel
theorem d14_46 : decode jdk_52_method_4_code 46 = .ok (.iload_n 2, 1) := by decide +kernel
theorem d14_47 : decode jdk_52_method_4_code 47 = .ok (.getstatic 63, 3) := by decide +kernel
theorem d14_50 : decode jdk_52_method_4_code 50 = .ok (.ishr, 1) := by decide +kernel
theorem d14_51 : decode jdk_52_method_4_code 51 = .ok (.i2b, 1) := by decide +kernel
theorem d14_52 : decode jdk_52_method_4_code 52 = .ok (.bastore, 1) := by decide +kernel
theorem d14_53 : decode jdk_52_method_4_code 53 = .ok (.return_, 1) := by decide +kernel
theorem ef_rm_pc1_0 (m : MethodId) (x0 : Addr) (x2 : Int32) : entryFrame m #[(.ref x0), (.int 0), (.int x2)] 3 = mkF m 0 #[.val (.ref x0), .val (.int 0), .val (.int x2)] [] := by first | (simp [entryFrame, mkF, argsToLocals, Value.category]; done) | rfl
def Q_pc1_0 (Z : State) (ob : Addr) (vc : Int32) (vcs : Int32) (vf : Value) (kb : ClassId) (u0 : Int32) (u1 : Int32) (h0 : Heap) (n0 : Nat) (v : Option Value) (h : Heap) (L : List Loc) : Prop := ∃ lo hi : Int32, v = none ∧ Fr n0 L ∧ Keep h0 h [ob] ∧ Arv Z h ob kb .byte (2 : Int32) [(.int lo), (.int hi)] (.int 0) ∧ lo.toInt % 256 = vc.toInt % 256 ∧ hi.toInt % 256 = vc.toInt / 256
theorem rm_pc1_0 (l : Launch) (Z : State) (a0 : Array Value) (hw : ∀ d ∈ tables_1, d.before a0 Z = true) (ws : List Jvm.Cond) (ob : Addr) (vc : Int32) (vcs : Int32) (vf : Value) (kb : ClassId) (u0 : Int32) (u1 : Int32) (h0 : Heap) (n0 : Nat) (Z0 : n0 ≤ h0.size) (Os : own_st Z h0 vcs vf) (Vb : Arv Z h0 ob kb .byte (2 : Int32) [(.int u0), (.int u1)] (.int 0)) (gb : n0 ≤ ob) (c1 : 0 ≤ vc.toInt) (c2 : vc.toInt < 65536) :
    MetFree l yn6 (head1 (Jvm.Cond.code yn6 jdk_52_method_4_code 3 none :: ws) ⟨0, 0, 0, 0⟩) (fun a U => a = #[(.ref ob), (.int 0), (.int vc)] ∧ Z.Warmed39 U.vm ∧ U.heap = h0) (fun _ _ _ _ _ => True) (fun _ U o U' => ∃ v L, o = .returned v ∧ Q_pc1_0 Z ob vc vcs vf kb u0 u1 h0 n0 v U'.heap L ∧ FrameEnd U o U' L 0 0) := by
  refine MetFree.of_bodySF (plainFor_of_name pn_2) hisR ?_
  intro p e s m args below meth c s₁ Bd hml0 hP hK
  obtain ⟨rfl, hZ, hh⟩ := hP
  have hx := Bd.exec
  have hby := Bd.bytes
  have hml : c.maxLocals = 3 := hml0
  have hown : s.vm.findClass "java/lang/StringUTF16" = some m.cls := findClass_of_methodNamed Bd.named
  have hnm := (name_of_methodNamed Bd.named Bd.method).1
  have X0 : Stand p l e ⟨0, 0, 0, 0⟩ s m #[(.ref ob), (.int 0), (.int vc)] below meth c s₁ [] 0 0 := Stand.of_body Bd
  have e0 : s₁.heap = h0 := by rw [← hh, Bd.state]; rfl
  have N0 := Fr.nil n0
  have pre0 : oP p e below (s₁.setTop (mkF m 0 #[.val (.ref ob), .val (.int 0), .val (.int vc)] [])) (s₁.setTop (entryFrame m #[(.ref ob), (.int 0), (.int vc)] 3)) := fun t k => castTop (ef_rm_pc1_0 m ob vc) k
  obtain ⟨T1, X1, e1, st1⟩ := getS2 X0 hx hZ hown (host := "") (Or.inl (ow hw 63 rfl)) Via.refl e0 Os.2.2.2.2.1 (g := (mkF m 0 #[.val (.ref ob), .val (.int 0), .val (.int vc)] [])) rfl (hb hby d14_0)
  have hc3_2 : ¬ ((1 : Int) = (0 : Int)) := by decide
  obtain ⟨T3, X3, e3, st3⟩ := getS2 X1 hx hZ hown (host := "") (Or.inl (ow hw 64 rfl)) Via.refl e1 Os.2.2.2.2.2.1 (g := (mkF m 38 #[.val (.ref ob), .val (.int 1), .val (.int vc)] [(.int vc), (.int 0), (.ref ob)])) rfl (hb hby d14_38)
  obtain ⟨cl4, Ar4, q4, S4, M4, H4, G4⟩ := id Vb
  have hin4 : ¬ ((0 : Int32) < 0 ∨ cl4.slots.size ≤ ((0 : Int32)).toNatClampNeg) := inb_of S4 ⟨by decide, by decide⟩
  obtain ⟨T5, h5, X5, e5, W5, st5⟩ := stB X3 hx hZ e3 Ar4 (j := (0 : Int32)) hin4 (g := (mkF m 43 #[.val (.ref ob), .val (.int 1), .val (.int vc)] [(.int ((vc >>> ((0 : Int32) &&& 31)).toInt8.toInt32)), (.int 0), (.ref ob)])) rfl rfl (hb hby d14_43)
  have N5 := Fr.snoc X5 N0 gb
  have Zs6 : n0 ≤ h5.size := by rw [W5.size]; exact Z0
  have V5 : Arv Z h5 ob kb .byte (2 : Int32) [(.int (nar .byte ((vc >>> ((0 : Int32) &&& 31)).toInt8.toInt32))), (.int u1)] (.int 0) := Arv.set Ar4 q4 S4 M4 H4 G4 (fits_nar_byte _) W5 0 rfl (Nat.le_of_ble_eq_true rfl)
  have os7 := (own_st_wr Os W5)
  obtain ⟨T8, X8, e8, st8⟩ := getS2 X5 hx hZ hown (host := "") (Or.inl (ow hw 65 rfl)) Via.refl e5 os7.2.2.2.2.2.2 (g := (mkF m 47 #[.val (.ref ob), .val (.int 1), .val (.int vc)] [(.int vc), (.int 1), (.ref ob)])) rfl (hb hby d14_47)
  obtain ⟨cl9, Ar9, q9, S9, M9, H9, G9⟩ := id V5
  have hin9 : ¬ ((1 : Int32) < 0 ∨ cl9.slots.size ≤ ((1 : Int32)).toNatClampNeg) := inb_of S9 ⟨by decide, by decide⟩
  obtain ⟨T10, h10, X10, e10, W10, st10⟩ := stB X8 hx hZ e8 Ar9 (j := (1 : Int32)) hin9 (g := (mkF m 52 #[.val (.ref ob), .val (.int 1), .val (.int vc)] [(.int ((vc >>> ((8 : Int32) &&& 31)).toInt8.toInt32)), (.int 1), (.ref ob)])) rfl rfl (hb hby d14_52)
  have N10 := Fr.snoc X10 N5 gb
  have Zs11 : n0 ≤ h10.size := by rw [W10.size]; exact Zs6
  have V10 : Arv Z h10 ob kb .byte (2 : Int32) [(.int (nar .byte ((vc >>> ((0 : Int32) &&& 31)).toInt8.toInt32))), (.int (nar .byte ((vc >>> ((8 : Int32) &&& 31)).toInt8.toInt32)))] (.int 0) := Arv.set Ar9 q9 S9 M9 H9 G9 (fits_nar_byte _) W10 1 rfl (Nat.le_of_ble_eq_true rfl)
  obtain ⟨fs, hr, q1, q2, q3, q4⟩ := X10.leave (v := none) (fun _ => rfl)
  refine ⟨_, _, pre0 _ ?_, q1, q2, _, _, rfl, ?_, ⟨_, rfl⟩, q3, q4.mono (by decide) (by decide)⟩
  · refine st1 _ ?_
    refine XS.ifYes X1.here hx rfl (pc0 := 3) (pc' := 28) rfl (hb hby d14_3) rfl (own_if (own_feq (a := (1 : Int32)) (b := (0 : Int32)) (by decide) (by decide) hc3_2).2) (by decide) (by decide) ?_
    refine XS.iloadN X1.here hx rfl (hb hby d14_28) rfl ?_
    refine XS.iconst X1.here hx rfl (hb hby d14_29) ?_
    refine XS.ishl X1.here hx rfl (hb hby d14_30) rfl ?_
    refine XS.istoreN X1.here hx rfl (hb hby d14_31) rfl (l' := #[.val (.ref ob), .val (.int 0), .val (.int vc)]) rfl ?_
    refine XS.aloadN X1.here hx rfl (hb hby d14_32) rfl rfl ?_
    refine XS.iloadN X1.here hx rfl (hb hby d14_33) rfl ?_
    refine XS.iinc X1.here hx rfl (hb hby d14_34) rfl (l' := #[.val (.ref ob), .val (.int 1), .val (.int vc)]) rfl ?_
    refine XS.iloadN X1.here hx rfl (hb hby d14_37) rfl ?_
    refine st3 _ ?_
    refine XS.ishr X3.here hx rfl (hb hby d14_41) rfl ?_
    refine XS.i2b X3.here hx rfl (hb hby d14_42) rfl ?_
    refine st5 _ ?_
    refine XS.aloadN X5.here hx rfl (hb hby d14_44) rfl rfl ?_
    refine XS.iloadN X5.here hx rfl (hb hby d14_45) rfl ?_
    refine XS.iloadN X5.here hx rfl (hb hby d14_46) rfl ?_
    refine st8 _ ?_
    refine XS.ishr X8.here hx rfl (hb hby d14_50) rfl ?_
    show Steps p.tables e below (T8.setTop (mkF m 51 #[.val (.ref ob), .val (.int 1), .val (.int vc)] [(.int (vc >>> ((8 : Int32) &&& 31))), (.int 1), (.ref ob)])) _
    refine XS.i2b X8.here hx rfl (hb hby d14_51) rfl ?_
    refine st10 _ ?_
    exact X10.returnOut hx Bd.returns (hb hby d14_53) hr
  · show Q_pc1_0 Z _ _ _ _ _ _ _ h0 n0 _ T10.heap _
    rw [e10]
    have f12 := (((Keep.refl h0 [ob]).wr W5 (Or.inl (List.mem_of_getElem? (i := 0) rfl))).wr W10 (Or.inl (List.mem_of_getElem? (i := 0) rfl)))
    exact ⟨_, _, rfl, N10, f12, V10, own_lo vc, own_hi vc c1 c2⟩
theorem d11_0 : decode jdk_52_method_14_code 0 = .ok (.iload_n 2, 1) := by decide +kernel
theorem d11_1 : decode jdk_52_method_14_code 1 = .ok (.invokestatic 107, 3) := by decide +kernel
theorem d11_4 : decode jdk_52_method_14_code 4 = .ok (.astore_n 3, 1) := by decide +kernel
theorem d11_5 : decode jdk_52_method_14_code 5 = .ok (.iconst 0, 1) := by decide +kernel
theorem d11_6 : decode jdk_52_method_14_code 6 = .ok (.istore 4, 2) := by decide +kernel
theorem d11_8 : decode jdk_52_method_14_code 8 = .ok (.iload 4, 2) := by decide +kernel
theorem d11_10 : decode jdk_52_method_14_code 10 = .ok (.iload_n 2, 1) := by decide +kernel
theorem d11_11 : decode jdk_52_method_14_code 11 = .ok (.if_icmp .ge 21, 3) := by decide +kernel
theorem d11_14 : decode jdk_52_method_14_code 14 = .ok (.aload_n 3, 1) := by decide +kernel
theorem d11_15 : decode jdk_52_method_14_code 15 = .ok (.iload 4, 2) := by decide +kernel
theorem d11_17 : decode jdk_52_method_14_code 17 = .ok (.aload_n 0, 1) := by decide +kernel
theorem d11_18 : decode jdk_52_method_14_code 18 = .ok (.iload_n 1, 1) := by decide +kernel
theorem d11_19 : decode jdk_52_method_14_code 19 = .ok (.caload, 1) := by decide +kernel
theorem d11_20 : decode jdk_52_method_14_code 20 = .ok (.invokestatic 111, 3) := by decide +kernel
theorem d11_23 : decode jdk_52_method_14_code 23 = .ok (.iinc 1 1, 3) := by decide +kernel
theorem d11_26 : decode jdk_52_method_14_code 26 = .ok (.iinc 4 1, 3) := by decide +kernel
theorem d11_29 : decode jdk_52_method_14_code 29 = .ok (.goto (-21), 3) := by decide +kernel
theorem d11_32 : decode jdk_52_method_14_code 32 = .ok (.aload_n 3, 1) := by decide +kernel
theorem d11_33 : decode jdk_52_method_14_code 33 = .ok (.areturn, 1) := by decide +kernel
theorem ef_rm_tb1 (m : MethodId) (x0 : Addr) : entryFrame m #[(.ref x0), (.int 0), (.int 1)] 5 = mkF m 0 #[.val (.ref x0), .val (.int 0), .val (.int 1), .unset, .unset] [] := by first | (simp [entryFrame, mkF, argsToLocals, Value.category]; done) | rfl
theorem pd_1 : parseMethodDescriptor "(I)[B" = some ⟨[.int], some (.array .byte)⟩ := by decide +kernel
theorem pd_2 : parseMethodDescriptor "([BII)V" = some ⟨[(.array .byte), .int, .int], none⟩ := by decide +kernel
def Q_tb1 (Z : State) (oc : Addr) (vcs : Int32) (vf : Value) (kC : ClassId) (c0 : Int32) (h0 : Heap) (n0 : Nat) (v : Option Value) (h : Heap) (L : List Loc) : Prop := ∃ (ob : Addr) (kb : ClassId) (lo0 hi0 : Int32), v = some (.ref ob) ∧ Fr n0 L ∧ Keep h0 h [] ∧ n0 ≤ ob ∧ h0.size ≤ ob ∧ Arv Z h ob kb .byte (2 : Int32) [(.int lo0), (.int hi0)] (.int 0) ∧ lo0.toInt % 256 = c0.toInt % 256 ∧ hi0.toInt % 256 = c0.toInt / 256
theorem rm_tb1 (l : Launch) (Z : State) (a0 : Array Value) (hw : ∀ d ∈ tables_1, d.before a0 Z = true) (ws : List Jvm.Cond) (oc : Addr) (vcs : Int32) (vf : Value) (kC : ClassId) (c0 : Int32) (h0 : Heap) (n0 : Nat) (Z0 : n0 ≤ h0.size) (Os : own_st Z h0 vcs vf) (Vc : Arv Z h0 oc kC .char (1 : Int32) [(.int c0)] (.int 0)) (uc0 : 0 ≤ c0.toInt) (vc0 : c0.toInt < 65536) :
    MetFree l yn7 (head1 (Jvm.Cond.code yn7 jdk_52_method_14_code 5 (some (.array .byte)) :: ws) ⟨2, 1, 2, 24⟩) (fun a U => a = #[(.ref oc), (.int 0), (.int 1)] ∧ Z.Warmed39 U.vm ∧ U.heap = h0) (fun _ _ _ _ _ => True) (fun _ U o U' => ∃ v L, o = .returned v ∧ Q_tb1 Z oc vcs vf kC c0 h0 n0 v U'.heap L ∧ FrameEnd U o U' L 1 2) := by
  refine MetFree.of_bodySF (plainFor_of_name pn_2) hisR ?_
  intro p e s m args below meth c s₁ Bd hml0 hP hK
  obtain ⟨rfl, hZ, hh⟩ := hP
  have hx := Bd.exec
  have hby := Bd.bytes
  have hml : c.maxLocals = 5 := hml0
  have hown : s.vm.findClass "java/lang/StringUTF16" = some m.cls := findClass_of_methodNamed Bd.named
  have hnm := (name_of_methodNamed Bd.named Bd.method).1
  have X0 : Stand p l e ⟨2, 1, 2, 24⟩ s m #[(.ref oc), (.int 0), (.int 1)] below meth c s₁ [] 0 0 := Stand.of_body Bd
  have e0 : s₁.heap = h0 := by rw [← hh, Bd.state]; rfl
  have N0 := Fr.nil n0
  have pre0 : oP p e below (s₁.setTop (mkF m 0 #[.val (.ref oc), .val (.int 0), .val (.int 1), .unset, .unset] [])) (s₁.setTop (entryFrame m #[(.ref oc), (.int 0), (.int 1)] 5)) := fun t k => castTop (ef_rm_tb1 m oc) k
  obtain ⟨_, _, ⟨T1, L1, k1, n1⟩, -, X1, ⟨Lc1, hQ1, l1, y1, z1⟩, st1⟩ := Jvm.LawKit.callS X0 hx (y := yn5) hown (mvT hZ (ow hw 53 rfl)) (mvT hZ (ow hw 54 rfl)) (mvT hZ (ow hw 19 rfl)) (mvT hZ (ow hw 55 rfl)) (by decide) (backOf (W := 0) (rm_nbf1 l Z a0 hw []  h0 n0 Z0 ) hZ (ow hw 55 rfl) (ow hw 19 rfl) (by decide) (by decide)) (g := (mkF m 1 #[.val (.ref oc), .val (.int 0), .val (.int 1), .unset, .unset] [(.int 1)])) rfl (by rw [hml]; rfl) (argsL := [(.int 1)]) (rest := []) (lenOf pd_1 rfl) rfl (by exact Nat.le_of_eq rfl) (hb hby d11_1) (fun _ _ => ⟨rfl, e0, (by decide : 0 + 1 ≤ _), (by decide : 0 + 2 ≤ _)⟩)
  dsimp only [Pt.U, Pt.locs, Pt.cells, Pt.slots] at X1 l1 y1 z1 st1 hQ1
  rw [l1, y1, z1] at X1
  obtain ⟨ob, kb, rfl, N1q, K1, gb, szb, Vb1⟩ := hQ1
  have N1 := Fr.app N0 N1q
  have Zs2 : n0 ≤ T1.heap.size := Nat.le_trans Z0 K1.1
  have ne_oc_ob : oc ≠ ob := Nat.ne_of_lt (Nat.lt_of_lt_of_le Vc.lt szb)
  have sz_ob : h0.size ≤ ob := Nat.le_trans (Keep.refl h0 []).1 szb
  have hc11_3 : (0 : Int) < (1 : Int) := by decide
  have f4 := (Vc.keep K1 nin0)
  obtain ⟨cl5, Ar5, q5, S5, M5, H5, G5⟩ := id f4
  have hin5 : ¬ ((0 : Int32) < 0 ∨ cl5.slots.size ≤ ((0 : Int32)).toNatClampNeg) := inb_of S5 ⟨by decide, by decide⟩
  have hat5 : cl5.slots[((0 : Int32)).toNatClampNeg]? = some (.int c0) := Has.at H5 hin5 rfl
  have os7 := (own_st_keep Os K1 ns0)
  obtain ⟨_, _, ⟨T6, L6, k6, n6⟩, -, X6, ⟨Lc6, hQ6, l6, y6, z6⟩, st6⟩ := Jvm.LawKit.callS X1 hx (y := yn6) hown (mvT hZ (ow hw 60 rfl)) (mvT hZ (ow hw 61 rfl)) (mvT hZ (ow hw 19 rfl)) (mvT hZ (ow hw 62 rfl)) (by decide) (backOf (W := 0) (rm_pc1_0 l Z a0 hw [] ob c0 vcs vf kb (0 : Int32) (0 : Int32) T1.heap n0 Zs2 os7 Vb1 gb uc0 vc0) hZ (ow hw 62 rfl) (ow hw 19 rfl) (by decide) (by decide)) (g := (mkF m 20 #[.val (.ref oc), .val (.int 0), .val (.int 1), .val (.ref ob), .val (.int 0)] [(.int c0), (.int 0), (.ref ob)])) rfl (by rw [hml]; rfl) (argsL := [(.ref ob), (.int 0), (.int c0)]) (rest := []) (lenOf pd_2 rfl) rfl (by exact Nat.le_of_eq rfl) (hb hby d11_20) (fun _ _ => ⟨rfl, rfl, (by decide : 1 + 0 ≤ _), (by decide : 2 + 0 ≤ _)⟩)
  dsimp only [Pt.U, Pt.locs, Pt.cells, Pt.slots] at X6 l6 y6 z6 st6 hQ6
  rw [l6, y6, z6] at X6
  obtain ⟨lo0, hi0, rfl, N6q, K6, Vb6, ql0, qh0⟩ := hQ6
  have N6 := Fr.app N1 N6q
  have Zs8 : n0 ≤ T6.heap.size := Nat.le_trans Zs2 K6.1
  have hc11_9 : ¬ ((1 : Int) < (1 : Int)) := by decide
  obtain ⟨fs, hr, q1, q2, q3, q4⟩ := X6.leave (v := some (.ref ob)) (fun h => by rw [Bd.returns] at h; cases h)
  refine ⟨_, _, pre0 _ ?_, q1, q2, _, _, rfl, ?_, ⟨_, rfl⟩, q3, q4.mono (by decide) (by decide)⟩
  · refine XS.iloadN X0.here hx rfl (hb hby d11_0) rfl ?_
    refine st1 _ ?_
    refine XS.astoreN X1.here hx rfl (hb hby d11_4) rfl rfl (l' := #[.val (.ref oc), .val (.int 0), .val (.int 1), .val (.ref ob), .unset]) rfl ?_
    refine XS.iconst X1.here hx rfl (hb hby d11_5) ?_
    refine XS.istore X1.here hx rfl (hb hby d11_6) rfl (l' := #[.val (.ref oc), .val (.int 0), .val (.int 1), .val (.ref ob), .val (.int 0)]) rfl ?_
    refine XS.iload X1.here hx rfl (hb hby d11_8) rfl ?_
    refine XS.iloadN X1.here hx rfl (hb hby d11_10) rfl ?_
    refine XS.icmpNo X1.here hx rfl (hb hby d11_11) rfl (own_tlt (a := (0 : Int32)) (b := (1 : Int32)) (by decide) (by decide) hc11_3).2.1 ?_
    refine XS.aloadN X1.here hx rfl (hb hby d11_14) rfl rfl ?_
    refine XS.iload X1.here hx rfl (hb hby d11_15) rfl ?_
    refine XS.aloadN X1.here hx rfl (hb hby d11_17) rfl rfl ?_
    refine XS.iloadN X1.here hx rfl (hb hby d11_18) rfl ?_
    refine X1.caload hx (j := (0 : Int32)) (v := (.int c0)) Ar5.1 (State.isArrayOf_alike hZ.alike Ar5.2.1) Ar5.2.2 hin5 hat5 (g := (mkF m 19 #[.val (.ref oc), .val (.int 0), .val (.int 1), .val (.ref ob), .val (.int 0)] [(.int 0), (.ref oc), (.int 0), (.ref ob)])) rfl rfl (hb hby d11_19) _ ?_
    refine st6 _ ?_
    refine XS.iinc X6.here hx rfl (hb hby d11_23) rfl (l' := #[.val (.ref oc), .val (.int 1), .val (.int 1), .val (.ref ob), .val (.int 0)]) rfl ?_
    refine XS.iinc X6.here hx rfl (hb hby d11_26) rfl (l' := #[.val (.ref oc), .val (.int 1), .val (.int 1), .val (.ref ob), .val (.int 1)]) rfl ?_
    refine XS.goto X6.here hx rfl (pc0 := 29) (pc' := 8) rfl (hb hby d11_29) (by decide) (by decide) ?_
    refine XS.iload X6.here hx rfl (hb hby d11_8) rfl ?_
    refine XS.iloadN X6.here hx rfl (hb hby d11_10) rfl ?_
    show Steps p.tables e below (T6.setTop (mkF m 11 #[.val (.ref oc), .val (.int 1), .val (.int 1), .val (.ref ob), .val (.int 1)] [(.int 1), (.int 1)])) _
    refine XS.icmpYes X6.here hx rfl (pc0 := 11) (pc' := 32) rfl (hb hby d11_11) rfl (own_flt (a := (1 : Int32)) (b := (1 : Int32)) (by decide) (by decide) hc11_9).2.1 (by decide) (by decide) ?_
    refine XS.aloadN X6.here hx rfl (hb hby d11_32) rfl rfl ?_
    jvm_step X6.here [X6.here.top, hx, (hb hby d11_33), X6.method', Bd.returns, Value.isRef, FieldType.isReference]
    first | (intro acts; rw [hr _ acts rfl rfl rfl]) | rw [hr _ _ rfl rfl rfl]
    exact Steps.refl _
  · show Q_tb1 Z _ _ _ _ _ h0 n0 _ T6.heap _
    have f10 := (((Keep.refl h0 []).trans K1 all0).trans K6 (allS (P := fun x => x ∈ [] ∨ h0.size ≤ x) (Or.inr sz_ob) all0))
    exact ⟨ob, kb, lo0, hi0, rfl, N6, f10, gb, sz_ob, Vb6, ql0, qh0⟩
theorem d5_0 : decode jdk_52_method_21_code 0 = .ok (.iconst 0, 1) := by decide +kernel
theorem d5_1 : decode jdk_52_method_21_code 1 = .ok (.istore 5, 2) := by decide +kernel
theorem d5_3 : decode jdk_52_method_21_code 3 = .ok (.iload 5, 2) := by decide +kernel
theorem d5_5 : decode jdk_52_method_21_code 5 = .ok (.iload 4, 2) := by decide +kernel
theorem d5_7 : decode jdk_52_method_21_code 7 = .ok (.if_icmp .ge 37, 3) := by decide +kernel
theorem d5_10 : decode jdk_52_method_21_code 10 = .ok (.aload_n 0, 1) := by decide +kernel
theorem d5_11 : decode jdk_52_method_21_code 11 = .ok (.iload_n 1, 1) := by decide +kernel
theorem d5_12 : decode jdk_52_method_21_code 12 = .ok (.caload, 1) := by decide +kernel
theorem d5_13 : decode jdk_52_method_21_code 13 = .ok (.istore 6, 2) := by decide +kernel
theorem d5_15 : decode jdk_52_method_21_code 15 = .ok (.iload 6, 2) := by decide +kernel
theorem d5_17 : decode jdk_52_method_21_code 17 = .ok (.sipush 255, 3) := by decide +kernel
theorem d5_20 : decode jdk_52_method_21_code 20 = .ok (.if_icmp .le 6, 3) := by decide +kernel
theorem d5_23 : decode jdk_52_method_21_code 23 = .ok (.iload 5, 2) := by decide +kernel
theorem d5_25 : decode jdk_52_method_21_code 25 = .ok (.ireturn, 1) := by decide +kernel
theorem d5_26 : decode jdk_52_method_21_code 26 = .ok (.aload_n 2, 1) := by decide +kernel
theorem d5_27 : decode jdk_52_method_21_code 27 = .ok (.iload_n 3, 1) := by decide +kernel
theorem d5_28 : decode jdk_52_method_21_code 28 = .ok (.iload 6, 2) := by decide +kernel
theorem d5_30 : decode jdk_52_method_21_code 30 = .ok (.i2b, 1) := by decide +kernel
theorem d5_31 : decode jdk_52_method_21_code 31 = .ok (.bastore, 1) := by decide +kernel
theorem d5_32 : decode jdk_52_method_21_code 32 = .ok (.iinc 1 1, 3) := by decide +kernel
theorem d5_35 : decode jdk_52_method_21_code 35 = .ok (.iinc 3 1, 3) := by decide +kernel
theorem d5_38 : decode jdk_52_method_21_code 38 = .ok (.iinc 5 1, 3) := by decide +kernel
theorem d5_41 : decode jdk_52_method_21_code 41 = .ok (.goto (-38), 3) := by decide +kernel
theorem d5_44 : decode jdk_52_method_21_code 44 = .ok (.iload 4, 2) := by decide +kernel
theorem d5_46 : decode jdk_52_method_21_code 46 = .ok (.ireturn, 1) := by decide +kernel
theorem ef_rm_cq1 (m : MethodId) (x0 : Addr) (x2 : Addr) : entryFrame m #[(.ref x0), (.int 0), (.ref x2), (.int 0), (.int 1)] 7 = mkF m 0 #[.val (.ref x0), .val (.int 0), .val (.ref x2), .val (.int 0), .val (.int 1), .unset, .unset] [] := by first | (simp [entryFrame, mkF, argsToLocals, Value.category]; done) | rfl
def Q_cq1 (Z : State) (oc : Addr) (ob : Addr) (kC : ClassId) (c0 : Int32) (kb : ClassId) (h0 : Heap) (n0 : Nat) (v : Option Value) (h : Heap) (L : List Loc) : Prop := Fr n0 L ∧ Keep h0 h [ob] ∧ ((v = some (.int 1) ∧ (c0.toInt ≤ 255) ∧ ∃ bb0 : Int32, Arv Z h ob kb .byte (1 : Int32) [(.int bb0)] (.int 0) ∧ bb0.toInt % 256 = c0.toInt) ∨ (v = some (.int 0) ∧ 255 < c0.toInt ∧ ∃ vs, Arv Z h ob kb .byte (1 : Int32) vs (.int 0)))
theorem rm_cq1 (l : Launch) (Z : State) (a0 : Array Value) (hw : ∀ d ∈ tables_1, d.before a0 Z = true) (ws : List Jvm.Cond) (oc : Addr) (ob : Addr) (kC : ClassId) (c0 : Int32) (kb : ClassId) (h0 : Heap) (n0 : Nat) (Z0 : n0 ≤ h0.size) (Vc : Arv Z h0 oc kC .char (1 : Int32) [(.int c0)] (.int 0)) (uc0 : 0 ≤ c0.toInt) (vc0 : c0.toInt < 65536) (Vb : Arv Z h0 ob kb .byte (1 : Int32) [(.int 0)] (.int 0)) (gb : n0 ≤ ob) (ncb : oc ≠ ob) :
    MetFree l yn8 (head1 (Jvm.Cond.code yn8 jdk_52_method_21_code 7 (some .int) :: ws) ⟨0, 0, 0, 0⟩) (fun a U => a = #[(.ref oc), (.int 0), (.ref ob), (.int 0), (.int 1)] ∧ Z.Warmed39 U.vm ∧ U.heap = h0) (fun _ _ _ _ _ => True) (fun _ U o U' => ∃ v L, o = .returned v ∧ Q_cq1 Z oc ob kC c0 kb h0 n0 v U'.heap L ∧ FrameEnd U o U' L 0 0) := by
  refine MetFree.of_bodySF (plainFor_of_name pn_2) hisR ?_
  intro p e s m args below meth c s₁ Bd hml0 hP hK
  obtain ⟨rfl, hZ, hh⟩ := hP
  have hx := Bd.exec
  have hby := Bd.bytes
  have hml : c.maxLocals = 7 := hml0
  have hown : s.vm.findClass "java/lang/StringUTF16" = some m.cls := findClass_of_methodNamed Bd.named
  have hnm := (name_of_methodNamed Bd.named Bd.method).1
  have X0 : Stand p l e ⟨0, 0, 0, 0⟩ s m #[(.ref oc), (.int 0), (.ref ob), (.int 0), (.int 1)] below meth c s₁ [] 0 0 := Stand.of_body Bd
  have e0 : s₁.heap = h0 := by rw [← hh, Bd.state]; rfl
  have N0 := Fr.nil n0
  have pre0 : oP p e below (s₁.setTop (mkF m 0 #[.val (.ref oc), .val (.int 0), .val (.ref ob), .val (.int 0), .val (.int 1), .unset, .unset] [])) (s₁.setTop (entryFrame m #[(.ref oc), (.int 0), (.ref ob), (.int 0), (.int 1)] 7)) := fun t k => castTop (ef_rm_cq1 m oc ob) k
  have hc7_1 : (0 : Int) < (1 : Int) := by decide
  obtain ⟨cl2, Ar2, q2, S2, M2, H2, G2⟩ := id Vc
  have hin2 : ¬ ((0 : Int32) < 0 ∨ cl2.slots.size ≤ ((0 : Int32)).toNatClampNeg) := inb_of S2 ⟨by decide, by decide⟩
  have hat2 : cl2.slots[((0 : Int32)).toNatClampNeg]? = some (.int c0) := Has.at H2 hin2 rfl
  have pre4 : oP p e below (s₁.setTop (mkF m 20 #[.val (.ref oc), .val (.int 0), .val (.ref ob), .val (.int 0), .val (.int 1), .val (.int 0), .val (.int c0)] [(.int 255), (.int c0)])) (s₁.setTop (entryFrame m #[(.ref oc), (.int 0), (.ref ob), (.int 0), (.int 1)] 7)) := fun t kt => by
    refine pre0 _ ?_
    refine XS.iconst X0.here hx rfl (hb hby d5_0) ?_
    refine XS.istore X0.here hx rfl (hb hby d5_1) rfl (l' := #[.val (.ref oc), .val (.int 0), .val (.ref ob), .val (.int 0), .val (.int 1), .val (.int 0), .unset]) rfl ?_
    refine XS.iload X0.here hx rfl (hb hby d5_3) rfl ?_
    refine XS.iload X0.here hx rfl (hb hby d5_5) rfl ?_
    refine XS.icmpNo X0.here hx rfl (hb hby d5_7) rfl (own_tlt (a := (0 : Int32)) (b := (1 : Int32)) (by decide) (by decide) hc7_1).2.1 ?_
    refine XS.aloadN X0.here hx rfl (hb hby d5_10) rfl rfl ?_
    refine XS.iloadN X0.here hx rfl (hb hby d5_11) rfl ?_
    refine X0.caload hx (j := (0 : Int32)) (v := (.int c0)) (by rw [e0]; exact Ar2.1) (State.isArrayOf_alike hZ.alike Ar2.2.1) Ar2.2.2 hin2 hat2 (g := (mkF m 12 #[.val (.ref oc), .val (.int 0), .val (.ref ob), .val (.int 0), .val (.int 1), .val (.int 0), .unset] [(.int 0), (.ref oc)])) rfl rfl (hb hby d5_12) _ ?_
    refine XS.istore X0.here hx rfl (hb hby d5_13) rfl (l' := #[.val (.ref oc), .val (.int 0), .val (.ref ob), .val (.int 0), .val (.int 1), .val (.int 0), .val (.int c0)]) rfl ?_
    refine XS.iload X0.here hx rfl (hb hby d5_15) rfl ?_
    refine XS.sipush X0.here hx rfl (hb hby d5_17) ?_
    exact kt
  by_cases hc20_3 : (255 : Int) < c0.toInt
  · obtain ⟨fs, hr, q1, q2, q3, q4⟩ := X0.leave (v := some (.int 0)) (fun h => by rw [Bd.returns] at h; cases h)
    refine ⟨_, _, pre4 _ ?_, q1, q2, _, _, rfl, ?_, ⟨_, rfl⟩, q3, q4.mono (by decide) (by decide)⟩
    · show Steps p.tables e below (s₁.setTop (mkF m 20 #[.val (.ref oc), .val (.int 0), .val (.ref ob), .val (.int 0), .val (.int 1), .val (.int 0), .val (.int c0)] [(.int 255), (.int c0)])) _
      refine XS.icmpNo X0.here hx rfl (hb hby d5_20) rfl (own_tlt (a := (255 : Int32)) (b := c0) (by decide) rfl hc20_3).2.2.2 ?_
      refine XS.iload X0.here hx rfl (hb hby d5_23) rfl ?_
      exact retI X0 hx Bd.returns (hb hby d5_25) hr
    · show Q_cq1 Z _ _ _ _ _ h0 n0 _ s₁.heap _
      rw [e0]
      exact ⟨N0, (Keep.refl h0 [ob]), Or.inr (⟨rfl, by omega, _, Vb⟩)⟩
  · obtain ⟨cl5, Ar5, q5, S5, M5, H5, G5⟩ := id Vb
    have hin5 : ¬ ((0 : Int32) < 0 ∨ cl5.slots.size ≤ ((0 : Int32)).toNatClampNeg) := inb_of S5 ⟨by decide, by decide⟩
    obtain ⟨T6, h6, X6, e6, W6, st6⟩ := stB X0 hx hZ e0 Ar5 (j := (0 : Int32)) hin5 (g := (mkF m 31 #[.val (.ref oc), .val (.int 0), .val (.ref ob), .val (.int 0), .val (.int 1), .val (.int 0), .val (.int c0)] [(.int (c0.toInt8.toInt32)), (.int 0), (.ref ob)])) rfl rfl (hb hby d5_31)
    have N6 := Fr.snoc X6 N0 gb
    have Zs7 : n0 ≤ h6.size := by rw [W6.size]; exact Z0
    have V6 : Arv Z h6 ob kb .byte (1 : Int32) [(.int (nar .byte (c0.toInt8.toInt32)))] (.int 0) := Arv.set Ar5 q5 S5 M5 H5 G5 (fits_nar_byte _) W6 0 rfl (Nat.le_of_ble_eq_true rfl)
    have hc7_8 : ¬ ((1 : Int) < (1 : Int)) := by decide
    obtain ⟨fs, hr, q1, q2, q3, q4⟩ := X6.leave (v := some (.int 1)) (fun h => by rw [Bd.returns] at h; cases h)
    refine ⟨_, _, pre4 _ ?_, q1, q2, _, _, rfl, ?_, ⟨_, rfl⟩, q3, q4.mono (by decide) (by decide)⟩
    · show Steps p.tables e below (s₁.setTop (mkF m 20 #[.val (.ref oc), .val (.int 0), .val (.ref ob), .val (.int 0), .val (.int 1), .val (.int 0), .val (.int c0)] [(.int 255), (.int c0)])) _
      refine XS.icmpYes X0.here hx rfl (pc0 := 20) (pc' := 26) rfl (hb hby d5_20) rfl (own_flt (a := (255 : Int32)) (b := c0) (by decide) rfl hc20_3).2.2.2 (by decide) (by decide) ?_
      refine XS.aloadN X0.here hx rfl (hb hby d5_26) rfl rfl ?_
      refine XS.iloadN X0.here hx rfl (hb hby d5_27) rfl ?_
      refine XS.iload X0.here hx rfl (hb hby d5_28) rfl ?_
      refine XS.i2b X0.here hx rfl (hb hby d5_30) rfl ?_
      refine st6 _ ?_
      refine XS.iinc X6.here hx rfl (hb hby d5_32) rfl (l' := #[.val (.ref oc), .val (.int 1), .val (.ref ob), .val (.int 0), .val (.int 1), .val (.int 0), .val (.int c0)]) rfl ?_
      show Steps p.tables e below (T6.setTop (mkF m 35 #[.val (.ref oc), .val (.int 1), .val (.ref ob), .val (.int 0), .val (.int 1), .val (.int 0), .val (.int c0)] [])) _
      refine XS.iinc X6.here hx rfl (hb hby d5_35) rfl (l' := #[.val (.ref oc), .val (.int 1), .val (.ref ob), .val (.int 1), .val (.int 1), .val (.int 0), .val (.int c0)]) rfl ?_
      refine XS.iinc X6.here hx rfl (hb hby d5_38) rfl (l' := #[.val (.ref oc), .val (.int 1), .val (.ref ob), .val (.int 1), .val (.int 1), .val (.int 1), .val (.int c0)]) rfl ?_
      refine XS.goto X6.here hx rfl (pc0 := 41) (pc' := 3) rfl (hb hby d5_41) (by decide) (by decide) ?_
      refine XS.iload X6.here hx rfl (hb hby d5_3) rfl ?_
      refine XS.iload X6.here hx rfl (hb hby d5_5) rfl ?_
      refine XS.icmpYes X6.here hx rfl (pc0 := 7) (pc' := 44) rfl (hb hby d5_7) rfl (own_flt (a := (1 : Int32)) (b := (1 : Int32)) (by decide) (by decide) hc7_8).2.1 (by decide) (by decide) ?_
      refine XS.iload X6.here hx rfl (hb hby d5_44) rfl ?_
      exact retI X6 hx Bd.returns (hb hby d5_46) hr
    · show Q_cq1 Z _ _ _ _ _ h0 n0 _ T6.heap _
      rw [e6]
      have f9 := ((Keep.refl h0 [ob]).wr W6 (Or.inl (List.mem_of_getElem? (i := 0) rfl)))
      exact ⟨N6, f9, Or.inl ⟨rfl, by omega, _, V6, own_b2 c0 uc0 (by omega)⟩⟩
theorem d4_0 : decode jdk_52_method_16_code 0 = .ok (.iload_n 2, 1) := by decide +kernel
theorem d4_1 : decode jdk_52_method_16_code 1 = .ok (.newarray .byte, 2) := by decide +kernel
theorem d4_3 : decode jdk_52_method_16_code 3 = .ok (.astore_n 3, 1) := by decide +kernel
theorem d4_4 : decode jdk_52_method_16_code 4 = .ok (.aload_n 0, 1) := by decide +kernel
theorem d4_5 : decode jdk_52_method_16_code 5 = .ok (.iload_n 1, 1) := by decide +kernel
theorem d4_6 : decode jdk_52_method_16_code 6 = .ok (.aload_n 3, 1) := by decide +kernel
theorem d4_7 : decode jdk_52_method_16_code 7 = .ok (.iconst 0, 1) := by decide +kernel
theorem d4_8 : decode jdk_52_method_16_code 8 = .ok (.iload_n 2, 1) := by decide +kernel
theorem d4_9 : decode jdk_52_method_16_code 9 = .ok (.invokestatic 115, 3) := by decide +kernel
theorem d4_12 : decode jdk_52_method_16_code 12 = .ok (.istore 4, 2) := by decide +kernel
theorem d4_14 : decode jdk_52_method_16_code 14 = .ok (.iload 4, 2) := by decide +kernel
theorem d4_16 : decode jdk_52_method_16_code 16 = .ok (.iload_n 2, 1) := by decide +kernel
theorem d4_17 : decode jdk_52_method_16_code 17 = .ok (.if_icmp .eq 40, 3) := by decide +kernel
theorem d4_20 : decode jdk_52_method_16_code 20 = .ok (.aload_n 0, 1) := by decide +kernel
theorem d4_21 : decode jdk_52_method_16_code 21 = .ok (.iload_n 1, 1) := by decide +kernel
theorem d4_22 : decode jdk_52_method_16_code 22 = .ok (.iload_n 2, 1) := by decide +kernel
theorem d4_23 : decode jdk_52_method_16_code 23 = .ok (.invokestatic 119, 3) := by decide +kernel
theorem d4_26 : decode jdk_52_method_16_code 26 = .ok (.astore 5, 2) := by decide +kernel
theorem d4_28 : decode jdk_52_method_16_code 28 = .ok (.aload 5, 2) := by decide +kernel
theorem d4_30 : decode jdk_52_method_16_code 30 = .ok (.iload 4, 2) := by decide +kernel
theorem d4_32 : decode jdk_52_method_16_code 32 = .ok (.invokestatic 71, 3) := by decide +kernel
theorem d4_35 : decode jdk_52_method_16_code 35 = .ok (.sipush 255, 3) := by decide +kernel
theorem d4_38 : decode jdk_52_method_16_code 38 = .ok (.if_icmp .gt 16, 3) := by decide +kernel
theorem d4_54 : decode jdk_52_method_16_code 54 = .ok (.aload 5, 2) := by decide +kernel
theorem d4_56 : decode jdk_52_method_16_code 56 = .ok (.areturn, 1) := by decide +kernel
theorem d4_57 : decode jdk_52_method_16_code 57 = .ok (.aload_n 3, 1) := by decide +kernel
theorem d4_58 : decode jdk_52_method_16_code 58 = .ok (.areturn, 1) := by decide +kernel
theorem ef_rm_cr1 (m : MethodId) (x0 : Addr) : entryFrame m #[(.ref x0), (.int 0), (.int 1)] 6 = mkF m 0 #[.val (.ref x0), .val (.int 0), .val (.int 1), .unset, .unset, .unset] [] := by first | (simp [entryFrame, mkF, argsToLocals, Value.category]; done) | rfl
theorem pd_3 : parseMethodDescriptor "([CI[BII)I" = some ⟨[(.array .char), .int, (.array .byte), .int, .int], some .int⟩ := by decide +kernel
theorem pd_4 : parseMethodDescriptor "([CII)[B" = some ⟨[(.array .char), .int, .int], some (.array .byte)⟩ := by decide +kernel
theorem pd_5 : parseMethodDescriptor "([BI)C" = some ⟨[(.array .byte), .int], some .char⟩ := by decide +kernel
def Q_cr1 (Z : State) (oc : Addr) (vcs : Int32) (vf : Value) (kC : ClassId) (c0 : Int32) (h0 : Heap) (n0 : Nat) (v : Option Value) (h : Heap) (L : List Loc) : Prop := ∃ (ob : Addr) (kb : ClassId), v = some (.ref ob) ∧ Fr n0 L ∧ Keep h0 h [] ∧ n0 ≤ ob ∧ h0.size ≤ ob ∧ (((c0.toInt ≤ 255) ∧ ∃ bb0 : Int32, Arv Z h ob kb .byte (1 : Int32) [(.int bb0)] (.int 0) ∧ bb0.toInt % 256 = c0.toInt) ∨ (¬ (c0.toInt ≤ 255) ∧ ∃ lo0 hi0 : Int32, Arv Z h ob kb .byte (2 : Int32) [(.int lo0), (.int hi0)] (.int 0) ∧ lo0.toInt % 256 = c0.toInt % 256 ∧ hi0.toInt % 256 = c0.toInt / 256))
theorem rm_cr1 (l : Launch) (Z : State) (a0 : Array Value) (hw : ∀ d ∈ tables_1, d.before a0 Z = true) (ws : List Jvm.Cond) (oc : Addr) (vcs : Int32) (vf : Value) (kC : ClassId) (c0 : Int32) (h0 : Heap) (n0 : Nat) (Z0 : n0 ≤ h0.size) (Os : own_st Z h0 vcs vf) (Vc : Arv Z h0 oc kC .char (1 : Int32) [(.int c0)] (.int 0)) (uc0 : 0 ≤ c0.toInt) (vc0 : c0.toInt < 65536) :
    MetFree l yn9 (head1 (Jvm.Cond.code yn9 jdk_52_method_16_code 6 (some (.array .byte)) :: ws) ⟨3, 2, 3, 40⟩) (fun a U => a = #[(.ref oc), (.int 0), (.int 1)] ∧ Z.Warmed39 U.vm ∧ U.heap = h0) (fun _ _ _ _ _ => True) (fun _ U o U' => ∃ v L, o = .returned v ∧ Q_cr1 Z oc vcs vf kC c0 h0 n0 v U'.heap L ∧ FrameEnd U o U' L 2 3) := by
  refine MetFree.of_bodySF (plainFor_of_name pn_2) hisR ?_
  intro p e s m args below meth c s₁ Bd hml0 hP hK
  obtain ⟨rfl, hZ, hh⟩ := hP
  have hx := Bd.exec
  have hby := Bd.bytes
  have hml : c.maxLocals = 6 := hml0
  have hown : s.vm.findClass "java/lang/StringUTF16" = some m.cls := findClass_of_methodNamed Bd.named
  have hnm := (name_of_methodNamed Bd.named Bd.method).1
  have X0 : Stand p l e ⟨3, 2, 3, 40⟩ s m #[(.ref oc), (.int 0), (.int 1)] below meth c s₁ [] 0 0 := Stand.of_body Bd
  have e0 : s₁.heap = h0 := by rw [← hh, Bd.state]; rfl
  have N0 := Fr.nil n0
  have pre0 : oP p e below (s₁.setTop (mkF m 0 #[.val (.ref oc), .val (.int 0), .val (.int 1), .unset, .unset, .unset] [])) (s₁.setTop (entryFrame m #[(.ref oc), (.int 0), (.int 1)] 6)) := fun t k => castTop (ef_rm_cr1 m oc) k
  obtain ⟨T1, h1, k1, X1, e1, E1, A1, st1⟩ := newP X0 hx hZ (ow hw 21 rfl) e0 (g := (mkF m 1 #[.val (.ref oc), .val (.int 0), .val (.int 1), .unset, .unset, .unset] [(.int 1)])) rfl (hb hby d4_1) rfl (by decide) (cap := 1) (by decide) (by decide) (by decide) (by decide)
  obtain ⟨b1, g1⟩ : ∃ z, z = h0.size := ⟨_, rfl⟩
  have ne_oc_b1 : oc ≠ b1 := Nat.ne_of_lt (Nat.lt_of_lt_of_le Vc.lt (Nat.le_of_eq g1.symm))
  have g_b1 : n0 ≤ b1 := Nat.le_trans Z0 (Nat.le_of_eq g1.symm)
  have sz_b1 : h0.size ≤ b1 := Nat.le_trans (Keep.refl h0 []).1 (Nat.le_of_eq g1.symm)
  rw [← g1] at A1 st1
  have Zs2 : n0 ≤ h1.size := Nat.le_trans Z0 E1.1
  have V1 : Arv Z h1 b1 k1 .byte (1 : Int32) [(.int 0)] (.int 0) := (Arv.new A1 (by decide)).pad (pad_rep [] (.int 0) 1)
  have f4 := (Vc.ext E1)
  obtain ⟨_, _, ⟨T3, L3, k3, n3⟩, -, X3, ⟨Lc3, hQ3, l3, y3, z3⟩, st3⟩ := Jvm.LawKit.callS X1 hx (y := yn8) hown (mvT hZ (ow hw 22 rfl)) (mvT hZ (ow hw 23 rfl)) (mvT hZ (ow hw 19 rfl)) (mvT hZ (ow hw 24 rfl)) (by decide) (backOf (W := 0) (rm_cq1 l Z a0 hw [] oc b1 kC c0 k1 h1 n0 Zs2 f4 uc0 vc0 V1 g_b1 ne_oc_b1) hZ (ow hw 24 rfl) (ow hw 19 rfl) (by decide) (by decide)) (g := (mkF m 9 #[.val (.ref oc), .val (.int 0), .val (.int 1), .val (.ref b1), .unset, .unset] [(.int 1), (.int 0), (.ref b1), (.int 0), (.ref oc)])) rfl (by rw [hml]; rfl) (argsL := [(.ref oc), (.int 0), (.ref b1), (.int 0), (.int 1)]) (rest := []) (lenOf pd_3 rfl) rfl (by exact Nat.le_of_eq rfl) (hb hby d4_9) (fun _ _ => ⟨rfl, e1, (by decide : 1 + 0 ≤ _), (by decide : 1 + 0 ≤ _)⟩)
  dsimp only [Pt.U, Pt.locs, Pt.cells, Pt.slots] at X3 l3 y3 z3 st3 hQ3
  rw [l3, y3, z3] at X3
  obtain ⟨N3q, K3, hO3⟩ := hQ3
  have N3 := Fr.app N0 N3q
  have Zs5 : n0 ≤ T3.heap.size := Nat.le_trans Zs2 K3.1
  rcases hO3 with ⟨rfl, hall, bb0, VbL, qbb0⟩ | ⟨rfl, hbig, vsP, VbP⟩
  · have own_mk1 := True.intro
    have hc17_6 : (1 : Int) = (1 : Int) := by decide
    obtain ⟨fs, hr, q1, q2, q3, q4⟩ := X3.leave (v := some (.ref b1)) (fun h => by rw [Bd.returns] at h; cases h)
    refine ⟨_, _, pre0 _ ?_, q1, q2, _, _, rfl, ?_, ⟨_, rfl⟩, q3, q4.mono (by decide) (by decide)⟩
    · refine XS.iloadN X0.here hx rfl (hb hby d4_0) rfl ?_
      refine st1 _ ?_
      refine XS.astoreN X1.here hx rfl (hb hby d4_3) rfl rfl (l' := #[.val (.ref oc), .val (.int 0), .val (.int 1), .val (.ref b1), .unset, .unset]) rfl ?_
      refine XS.aloadN X1.here hx rfl (hb hby d4_4) rfl rfl ?_
      refine XS.iloadN X1.here hx rfl (hb hby d4_5) rfl ?_
      refine XS.aloadN X1.here hx rfl (hb hby d4_6) rfl rfl ?_
      refine XS.iconst X1.here hx rfl (hb hby d4_7) ?_
      refine XS.iloadN X1.here hx rfl (hb hby d4_8) rfl ?_
      refine st3 _ ?_
      refine XS.istore X3.here hx rfl (hb hby d4_12) rfl (l' := #[.val (.ref oc), .val (.int 0), .val (.int 1), .val (.ref b1), .val (.int 1), .unset]) rfl ?_
      refine XS.iload X3.here hx rfl (hb hby d4_14) rfl ?_
      refine XS.iloadN X3.here hx rfl (hb hby d4_16) rfl ?_
      refine XS.icmpYes X3.here hx rfl (pc0 := 17) (pc' := 57) rfl (hb hby d4_17) rfl (own_teq (a := (1 : Int32)) (b := (1 : Int32)) (by decide) (by decide) hc17_6).1 (by decide) (by decide) ?_
      refine XS.aloadN X3.here hx rfl (hb hby d4_57) rfl rfl ?_
      jvm_step X3.here [X3.here.top, hx, (hb hby d4_58), X3.method', Bd.returns, Value.isRef, FieldType.isReference]
      first | (intro acts; rw [hr _ acts rfl rfl rfl]) | rw [hr _ _ rfl rfl rfl]
      exact Steps.refl _
    · show Q_cr1 Z _ _ _ _ _ h0 n0 _ T3.heap _
      have f7 := (((Keep.refl h0 []).ext E1).trans K3 (allS (P := fun x => x ∈ [] ∨ h0.size ≤ x) (Or.inr sz_b1) all0))
      exact ⟨b1, _, rfl, N3, f7, g_b1, sz_b1, Or.inl ⟨hall, bb0, VbL, qbb0⟩⟩
  · have own_mk0 := True.intro
    have hc17_8 : ¬ ((0 : Int) = (1 : Int)) := by decide
    have f10 := (f4.keep K3 (ninS ne_oc_b1 nin0))
    have f11 := (((Keep.refl h0 []).ext E1).trans K3 (allS (P := fun x => x ∈ [] ∨ h0.size ≤ x) (Or.inr sz_b1) all0))
    have os12 := (own_st_keep (own_st_ext Os E1) K3 (nsS V1.nostat ns0))
    obtain ⟨_, _, ⟨T9, L9, k9, n9⟩, -, X9, ⟨Lc9, hQ9, l9, y9, z9⟩, st9⟩ := Jvm.LawKit.callS X3 hx (y := yn7) hown (mvT hZ (ow hw 50 rfl)) (mvT hZ (ow hw 51 rfl)) (mvT hZ (ow hw 19 rfl)) (mvT hZ (ow hw 52 rfl)) (by decide) (backOf (W := 0) (rm_tb1 l Z a0 hw [] oc vcs vf kC c0 T3.heap n0 Zs5 os12 f10 uc0 vc0) hZ (ow hw 52 rfl) (ow hw 19 rfl) (by decide) (by decide)) (g := (mkF m 23 #[.val (.ref oc), .val (.int 0), .val (.int 1), .val (.ref b1), .val (.int 0), .unset] [(.int 1), (.int 0), (.ref oc)])) rfl (by rw [hml]; rfl) (argsL := [(.ref oc), (.int 0), (.int 1)]) (rest := []) (lenOf pd_4 rfl) rfl (by exact Nat.le_of_eq rfl) (hb hby d4_23) (fun _ _ => ⟨rfl, rfl, (by decide : 1 + 1 ≤ _), (by decide : 1 + 2 ≤ _)⟩)
    dsimp only [Pt.U, Pt.locs, Pt.cells, Pt.slots] at X9 l9 y9 z9 st9 hQ9
    rw [l9, y9, z9] at X9
    obtain ⟨ou, ku, lo0, hi0, rfl, N9q, K9, gu, szu, Vu9, qlo0, qhi0⟩ := hQ9
    have N9 := Fr.app N3 N9q
    have Zs13 : n0 ≤ T9.heap.size := Nat.le_trans Zs5 K9.1
    have ne_oc_ou : oc ≠ ou := Nat.ne_of_lt (Nat.lt_of_lt_of_le f10.lt szu)
    have ne_b1_ou : b1 ≠ ou := Nat.ne_of_lt (Nat.lt_of_lt_of_le VbP.lt szu)
    have sz_ou : h0.size ≤ ou := Nat.le_trans f11.1 szu
    have os15 := (own_st_keep os12 K9 ns0)
    obtain ⟨_, _, ⟨T14, L14, k14, n14⟩, -, X14, ⟨Lc14, hQ14, l14, y14, z14⟩, st14⟩ := Jvm.LawKit.callS X9 hx (y := yn2) hown (mvT hZ (ow hw 66 rfl)) (mvT hZ (ow hw 67 rfl)) (mvT hZ (ow hw 19 rfl)) (mvT hZ (ow hw 68 rfl)) (by decide) (backOf (W := 0) (rm_gc l Z a0 hw [] ou (0 : Int32) vcs vf ku (2 : Int32) [(.int lo0), (.int hi0)] lo0 hi0 0 T9.heap n0 Zs13 os15 Vu9 (by decide) (by decide) (by decide) rfl rfl) hZ (ow hw 68 rfl) (ow hw 19 rfl) (by decide) (by decide)) (g := (mkF m 32 #[.val (.ref oc), .val (.int 0), .val (.int 1), .val (.ref b1), .val (.int 0), .val (.ref ou)] [(.int 0), (.ref ou)])) rfl (by rw [hml]; rfl) (argsL := [(.ref ou), (.int 0)]) (rest := []) (lenOf pd_5 rfl) rfl (by exact Nat.le_of_eq rfl) (hb hby d4_32) (fun _ _ => ⟨rfl, rfl, (by decide : 2 + 0 ≤ _), (by decide : 3 + 0 ≤ _)⟩)
    dsimp only [Pt.U, Pt.locs, Pt.cells, Pt.slots] at X14 l14 y14 z14 st14 hQ14
    rw [l14, y14, z14] at X14
    obtain ⟨zg, rfl, hzg, N14q, e14⟩ := hQ14
    have N14 := Fr.app N9 N14q
    have hc38_16 : (255 : Int) < zg.toInt := by omega
    obtain ⟨fs, hr, q1, q2, q3, q4⟩ := X14.leave (v := some (.ref ou)) (fun h => by rw [Bd.returns] at h; cases h)
    refine ⟨_, _, pre0 _ ?_, q1, q2, _, _, rfl, ?_, ⟨_, rfl⟩, q3, q4.mono (by decide) (by decide)⟩
    · refine XS.iloadN X0.here hx rfl (hb hby d4_0) rfl ?_
      refine st1 _ ?_
      refine XS.astoreN X1.here hx rfl (hb hby d4_3) rfl rfl (l' := #[.val (.ref oc), .val (.int 0), .val (.int 1), .val (.ref b1), .unset, .unset]) rfl ?_
      refine XS.aloadN X1.here hx rfl (hb hby d4_4) rfl rfl ?_
      refine XS.iloadN X1.here hx rfl (hb hby d4_5) rfl ?_
      refine XS.aloadN X1.here hx rfl (hb hby d4_6) rfl rfl ?_
      refine XS.iconst X1.here hx rfl (hb hby d4_7) ?_
      refine XS.iloadN X1.here hx rfl (hb hby d4_8) rfl ?_
      refine st3 _ ?_
      refine XS.istore X3.here hx rfl (hb hby d4_12) rfl (l' := #[.val (.ref oc), .val (.int 0), .val (.int 1), .val (.ref b1), .val (.int 0), .unset]) rfl ?_
      refine XS.iload X3.here hx rfl (hb hby d4_14) rfl ?_
      refine XS.iloadN X3.here hx rfl (hb hby d4_16) rfl ?_
      refine XS.icmpNo X3.here hx rfl (hb hby d4_17) rfl (own_feq (a := (0 : Int32)) (b := (1 : Int32)) (by decide) (by decide) hc17_8).1 ?_
      refine XS.aloadN X3.here hx rfl (hb hby d4_20) rfl rfl ?_
      refine XS.iloadN X3.here hx rfl (hb hby d4_21) rfl ?_
      refine XS.iloadN X3.here hx rfl (hb hby d4_22) rfl ?_
      refine st9 _ ?_
      refine XS.astore X9.here hx rfl (hb hby d4_26) rfl rfl (l' := #[.val (.ref oc), .val (.int 0), .val (.int 1), .val (.ref b1), .val (.int 0), .val (.ref ou)]) rfl ?_
      refine XS.aload X9.here hx rfl (hb hby d4_28) rfl rfl ?_
      show Steps p.tables e below (T9.setTop (mkF m 30 #[.val (.ref oc), .val (.int 0), .val (.int 1), .val (.ref b1), .val (.int 0), .val (.ref ou)] [(.ref ou)])) _
      refine XS.iload X9.here hx rfl (hb hby d4_30) rfl ?_
      refine st14 _ ?_
      refine XS.sipush X14.here hx rfl (hb hby d4_35) ?_
      refine XS.icmpYes X14.here hx rfl (pc0 := 38) (pc' := 54) rfl (hb hby d4_38) rfl (own_tlt (a := (255 : Int32)) (b := zg) (by decide) rfl hc38_16).2.2.1 (by decide) (by decide) ?_
      refine XS.aload X14.here hx rfl (hb hby d4_54) rfl rfl ?_
      jvm_step X14.here [X14.here.top, hx, (hb hby d4_56), X14.method', Bd.returns, Value.isRef, FieldType.isReference]
      first | (intro acts; rw [hr _ acts rfl rfl rfl]) | rw [hr _ _ rfl rfl rfl]
      exact Steps.refl _
    · show Q_cr1 Z _ _ _ _ _ h0 n0 _ T14.heap _
      rw [e14]
      have f17 := (f11.trans K9 all0)
      exact ⟨ou, _, rfl, N14, f17, gu, sz_ou, Or.inr ⟨fun q => by omega, lo0, hi0, Vu9, qlo0, qhi0⟩⟩
theorem d6_0 : decode jdk_52_method_15_code 0 = .ok (.iload_n 1, 1) := by decide +kernel
theorem d6_1 : decode jdk_52_method_15_code 1 = .ok (.aload_n 0, 1) := by decide +kernel
theorem d6_2 : decode jdk_52_method_15_code 2 = .ok (.arraylength, 1) := by decide +kernel
theorem d6_3 : decode jdk_52_method_15_code 3 = .ok (.isub, 1) := by decide +kernel
theorem d6_4 : decode jdk_52_method_15_code 4 = .ok (.bipush 31, 2) := by decide +kernel
theorem d6_6 : decode jdk_52_method_15_code 6 = .ok (.iushr, 1) := by decide +kernel
theorem d6_7 : decode jdk_52_method_15_code 7 = .ok (.i2b, 1) := by decide +kernel
theorem d6_8 : decode jdk_52_method_15_code 8 = .ok (.ireturn, 1) := by decide +kernel
theorem ef_rm_cg1_0 (m : MethodId) (x0 : Addr) : entryFrame m #[(.ref x0), (.int 1)] 2 = mkF m 0 #[.val (.ref x0), .val (.int 1)] [] := by first | (simp [entryFrame, mkF, argsToLocals, Value.category]; done) | rfl
def Q_cg1_0 (Z : State) (ob : Addr) (kb : ClassId) (vs : List Value) (h0 : Heap) (n0 : Nat) (v : Option Value) (h : Heap) (L : List Loc) : Prop := ∃ z : Int32, v = some (.int z) ∧ (z = (0 : Int32)) ∧ Fr n0 L ∧ h = h0
theorem rm_cg1_0 (l : Launch) (Z : State) (a0 : Array Value) (hw : ∀ d ∈ tables_1, d.before a0 Z = true) (ws : List Jvm.Cond) (ob : Addr) (kb : ClassId) (vs : List Value) (h0 : Heap) (n0 : Nat) (Z0 : n0 ≤ h0.size) (Vb : Arv Z h0 ob kb .byte (1 : Int32) vs (.int 0)) :
    MetFree l yn10 (head1 (Jvm.Cond.code yn10 jdk_52_method_15_code 2 (some .byte) :: ws) ⟨0, 0, 0, 0⟩) (fun a U => a = #[(.ref ob), (.int 1)] ∧ Z.Warmed39 U.vm ∧ U.heap = h0) (fun _ _ _ _ _ => True) (fun _ U o U' => ∃ v L, o = .returned v ∧ Q_cg1_0 Z ob kb vs h0 n0 v U'.heap L ∧ FrameEnd U o U' L 0 0) := by
  refine MetFree.of_bodySF (plainFor_of_name pn_2) hisR ?_
  intro p e s m args below meth c s₁ Bd hml0 hP hK
  obtain ⟨rfl, hZ, hh⟩ := hP
  have hx := Bd.exec
  have hby := Bd.bytes
  have hml : c.maxLocals = 2 := hml0
  have hown : s.vm.findClass "java/lang/StringUTF16" = some m.cls := findClass_of_methodNamed Bd.named
  have hnm := (name_of_methodNamed Bd.named Bd.method).1
  have X0 : Stand p l e ⟨0, 0, 0, 0⟩ s m #[(.ref ob), (.int 1)] below meth c s₁ [] 0 0 := Stand.of_body Bd
  have e0 : s₁.heap = h0 := by rw [← hh, Bd.state]; rfl
  have N0 := Fr.nil n0
  have pre0 : oP p e below (s₁.setTop (mkF m 0 #[.val (.ref ob), .val (.int 1)] [])) (s₁.setTop (entryFrame m #[(.ref ob), (.int 1)] 2)) := fun t k => castTop (ef_rm_cg1_0 m ob) k
  obtain ⟨cl1, Ar1, q1, S1, M1, H1, G1⟩ := id Vb
  obtain ⟨fs, hr, q1, q2, q3, q4⟩ := X0.leave (v := some (.int 0)) (fun h => by rw [Bd.returns] at h; cases h)
  refine ⟨_, _, pre0 _ ?_, q1, q2, _, _, rfl, ?_, ⟨_, rfl⟩, q3, q4.mono (by decide) (by decide)⟩
  · refine XS.iloadN X0.here hx rfl (hb hby d6_0) rfl ?_
    refine XS.aloadN X0.here hx rfl (hb hby d6_1) rfl rfl ?_
    refine X0.arraylength hx (by rw [e0]; exact Ar1.1) (State.isArrayOf_alike hZ.alike Ar1.2.1) (g := (mkF m 2 #[.val (.ref ob), .val (.int 1)] [(.ref ob), (.int 1)])) rfl rfl (hb hby d6_2) _ ?_
    rw [len_of S1 M1]
    refine XS.isub X0.here hx rfl (hb hby d6_3) rfl ?_
    refine XS.bipush X0.here hx rfl (hb hby d6_4) ?_
    refine XS.iushr X0.here hx rfl (hb hby d6_6) rfl ?_
    refine XS.i2b X0.here hx rfl (hb hby d6_7) rfl ?_
    exact retN X0 hx (t := .byte) Bd.returns (by simp) (hb hby d6_8) hr
  · show Q_cg1_0 Z _ _ _ h0 n0 _ s₁.heap _
    rw [e0]
    exact ⟨_, rfl, rfl, N0, rfl⟩
theorem ef_rm_cg1_1 (m : MethodId) (x0 : Addr) : entryFrame m #[(.ref x0), (.int 1)] 2 = mkF m 0 #[.val (.ref x0), .val (.int 1)] [] := by first | (simp [entryFrame, mkF, argsToLocals, Value.category]; done) | rfl
def Q_cg1_1 (Z : State) (ob : Addr) (kb : ClassId) (vs : List Value) (h0 : Heap) (n0 : Nat) (v : Option Value) (h : Heap) (L : List Loc) : Prop := ∃ z : Int32, v = some (.int z) ∧ (z = (1 : Int32)) ∧ Fr n0 L ∧ h = h0
theorem rm_cg1_1 (l : Launch) (Z : State) (a0 : Array Value) (hw : ∀ d ∈ tables_1, d.before a0 Z = true) (ws : List Jvm.Cond) (ob : Addr) (kb : ClassId) (vs : List Value) (h0 : Heap) (n0 : Nat) (Z0 : n0 ≤ h0.size) (Vb : Arv Z h0 ob kb .byte (2 : Int32) vs (.int 0)) :
    MetFree l yn10 (head1 (Jvm.Cond.code yn10 jdk_52_method_15_code 2 (some .byte) :: ws) ⟨0, 0, 0, 0⟩) (fun a U => a = #[(.ref ob), (.int 1)] ∧ Z.Warmed39 U.vm ∧ U.heap = h0) (fun _ _ _ _ _ => True) (fun _ U o U' => ∃ v L, o = .returned v ∧ Q_cg1_1 Z ob kb vs h0 n0 v U'.heap L ∧ FrameEnd U o U' L 0 0) := by
  refine MetFree.of_bodySF (plainFor_of_name pn_2) hisR ?_
  intro p e s m args below meth c s₁ Bd hml0 hP hK
  obtain ⟨rfl, hZ, hh⟩ := hP
  have hx := Bd.exec
  have hby := Bd.bytes
  have hml : c.maxLocals = 2 := hml0
  have hown : s.vm.findClass "java/lang/StringUTF16" = some m.cls := findClass_of_methodNamed Bd.named
  have hnm := (name_of_methodNamed Bd.named Bd.method).1
  have X0 : Stand p l e ⟨0, 0, 0, 0⟩ s m #[(.ref ob), (.int 1)] below meth c s₁ [] 0 0 := Stand.of_body Bd
  have e0 : s₁.heap = h0 := by rw [← hh, Bd.state]; rfl
  have N0 := Fr.nil n0
  have pre0 : oP p e below (s₁.setTop (mkF m 0 #[.val (.ref ob), .val (.int 1)] [])) (s₁.setTop (entryFrame m #[(.ref ob), (.int 1)] 2)) := fun t k => castTop (ef_rm_cg1_1 m ob) k
  obtain ⟨cl1, Ar1, q1, S1, M1, H1, G1⟩ := id Vb
  obtain ⟨fs, hr, q1, q2, q3, q4⟩ := X0.leave (v := some (.int 1)) (fun h => by rw [Bd.returns] at h; cases h)
  refine ⟨_, _, pre0 _ ?_, q1, q2, _, _, rfl, ?_, ⟨_, rfl⟩, q3, q4.mono (by decide) (by decide)⟩
  · refine XS.iloadN X0.here hx rfl (hb hby d6_0) rfl ?_
    refine XS.aloadN X0.here hx rfl (hb hby d6_1) rfl rfl ?_
    refine X0.arraylength hx (by rw [e0]; exact Ar1.1) (State.isArrayOf_alike hZ.alike Ar1.2.1) (g := (mkF m 2 #[.val (.ref ob), .val (.int 1)] [(.ref ob), (.int 1)])) rfl rfl (hb hby d6_2) _ ?_
    rw [len_of S1 M1]
    refine XS.isub X0.here hx rfl (hb hby d6_3) rfl ?_
    refine XS.bipush X0.here hx rfl (hb hby d6_4) ?_
    refine XS.iushr X0.here hx rfl (hb hby d6_6) rfl ?_
    refine XS.i2b X0.here hx rfl (hb hby d6_7) rfl ?_
    exact retN X0 hx (t := .byte) Bd.returns (by simp) (hb hby d6_8) hr
  · show Q_cg1_1 Z _ _ _ h0 n0 _ s₁.heap _
    rw [e0]
    exact ⟨_, rfl, rfl, N0, rfl⟩
theorem d2_0 : decode jdk_42_method_149_code 0 = .ok (.aload_n 0, 1) := by decide +kernel
theorem d2_1 : decode jdk_42_method_149_code 1 = .ok (.invokespecial 1, 3) := by decide +kernel
theorem d2_4 : decode jdk_42_method_149_code 4 = .ok (.iload_n 3, 1) := by decide +kernel
theorem d2_5 : decode jdk_42_method_149_code 5 = .ok (.ifCond .ne 22, 3) := by decide +kernel
theorem d2_27 : decode jdk_42_method_149_code 27 = .ok (.getstatic 38, 3) := by decide +kernel
theorem d2_30 : decode jdk_42_method_149_code 30 = .ok (.ifCond .eq 28, 3) := by decide +kernel
theorem d2_33 : decode jdk_42_method_149_code 33 = .ok (.aload_n 1, 1) := by decide +kernel
theorem d2_34 : decode jdk_42_method_149_code 34 = .ok (.iload_n 2, 1) := by decide +kernel
theorem d2_35 : decode jdk_42_method_149_code 35 = .ok (.iload_n 3, 1) := by decide +kernel
theorem d2_36 : decode jdk_42_method_149_code 36 = .ok (.invokestatic 177, 3) := by decide +kernel
theorem d2_39 : decode jdk_42_method_149_code 39 = .ok (.astore 5, 2) := by decide +kernel
theorem d2_41 : decode jdk_42_method_149_code 41 = .ok (.aload_n 0, 1) := by decide +kernel
theorem d2_42 : decode jdk_42_method_149_code 42 = .ok (.aload 5, 2) := by decide +kernel
theorem d2_44 : decode jdk_42_method_149_code 44 = .ok (.iload_n 3, 1) := by decide +kernel
theorem d2_45 : decode jdk_42_method_149_code 45 = .ok (.invokestatic 47, 3) := by decide +kernel
theorem d2_48 : decode jdk_42_method_149_code 48 = .ok (.putfield 15, 3) := by decide +kernel
theorem d2_51 : decode jdk_42_method_149_code 51 = .ok (.aload_n 0, 1) := by decide +kernel
theorem d2_52 : decode jdk_42_method_149_code 52 = .ok (.aload 5, 2) := by decide +kernel
theorem d2_54 : decode jdk_42_method_149_code 54 = .ok (.putfield 9, 3) := by decide +kernel
theorem d2_57 : decode jdk_42_method_149_code 57 = .ok (.return_, 1) := by decide +kernel
theorem pn_3 : plainName "java/lang/String" = true := by first | (simp [plainName, overriddenIn]; done) | decide +kernel
theorem ef_rm_iw1 (m : MethodId) (x0 : Addr) (x1 : Addr) : entryFrame m #[(.ref x0), (.ref x1), (.int 0), (.int 1), .null] 6 = mkF m 0 #[.val (.ref x0), .val (.ref x1), .val (.int 0), .val (.int 1), .val .null, .unset] [] := by first | (simp [entryFrame, mkF, argsToLocals, Value.category]; done) | rfl
theorem pd_6 : parseMethodDescriptor "([BI)B" = some ⟨[(.array .byte), .int], some .byte⟩ := by decide +kernel
def Q_iw1 (Z : State) (oa : Addr) (oc : Addr) (vcs : Int32) (vf : Value) (kC : ClassId) (c0 : Int32) (h0 : Heap) (n0 : Nat) (v : Option Value) (h : Heap) (L : List Loc) : Prop := v = none ∧ Fr n0 L ∧ Keep h0 h [oa] ∧ Exa Z h oa "java/lang/String" ∧ ∃ (ob : Addr) (kb : ClassId), n0 ≤ ob ∧ h0.size ≤ ob ∧ Fld Z h oa "java/lang/String" "value" "[B" (.ref ob) ∧ ((Fld Z h oa "java/lang/String" "coder" "B" (.int 0) ∧ ((c0.toInt ≤ 255) ∧ ∃ bb0 : Int32, Arv Z h ob kb .byte (1 : Int32) [(.int bb0)] (.int 0) ∧ bb0.toInt % 256 = c0.toInt)) ∨ (Fld Z h oa "java/lang/String" "coder" "B" (.int 1) ∧ (¬ (c0.toInt ≤ 255) ∧ ∃ lo0 hi0 : Int32, Arv Z h ob kb .byte (2 : Int32) [(.int lo0), (.int hi0)] (.int 0) ∧ lo0.toInt % 256 = c0.toInt % 256 ∧ hi0.toInt % 256 = c0.toInt / 256)))
theorem rm_iw1 (l : Launch) (Z : State) (a0 : Array Value) (hw : ∀ d ∈ tables_1, d.before a0 Z = true) (ws : List Jvm.Cond) (oa : Addr) (oc : Addr) (vcs : Int32) (vf : Value) (kC : ClassId) (c0 : Int32) (h0 : Heap) (n0 : Nat) (Z0 : n0 ≤ h0.size) (Os : own_st Z h0 vcs vf) (Es : Exa Z h0 oa "java/lang/String") (Fc : Fld Z h0 oa "java/lang/String" "coder" "B" (.int 0)) (Fv : Fld Z h0 oa "java/lang/String" "value" "[B" .null) (ga : n0 ≤ oa) (nac : oa ≠ oc) (Vc : Arv Z h0 oc kC .char (1 : Int32) [(.int c0)] (.int 0)) (uc0 : 0 ≤ c0.toInt) (vc0 : c0.toInt < 65536) :
    MetFree l yn11 (head1 (Jvm.Cond.code yn11 jdk_42_method_149_code 6 none :: ws) ⟨4, 2, 3, 57⟩) (fun a U => a = #[(.ref oa), (.ref oc), (.int 0), (.int 1), .null] ∧ Z.Warmed39 U.vm ∧ U.heap = h0) (fun _ _ _ _ _ => True) (fun _ U o U' => ∃ v L, o = .returned v ∧ Q_iw1 Z oa oc vcs vf kC c0 h0 n0 v U'.heap L ∧ FrameEnd U o U' L 2 3) := by
  refine MetFree.of_bodySF (plainFor_of_name pn_3) hisR ?_
  intro p e s m args below meth c s₁ Bd hml0 hP hK
  obtain ⟨rfl, hZ, hh⟩ := hP
  have hx := Bd.exec
  have hby := Bd.bytes
  have hml : c.maxLocals = 6 := hml0
  have hown : s.vm.findClass "java/lang/String" = some m.cls := findClass_of_methodNamed Bd.named
  have hnm := (name_of_methodNamed Bd.named Bd.method).1
  have X0 : Stand p l e ⟨4, 2, 3, 57⟩ s m #[(.ref oa), (.ref oc), (.int 0), (.int 1), .null] below meth c s₁ [] 0 0 := Stand.of_body Bd
  have e0 : s₁.heap = h0 := by rw [← hh, Bd.state]; rfl
  have N0 := Fr.nil n0
  have pre0 : oP p e below (s₁.setTop (mkF m 0 #[.val (.ref oa), .val (.ref oc), .val (.int 0), .val (.int 1), .val .null, .unset] [])) (s₁.setTop (entryFrame m #[(.ref oa), (.ref oc), (.int 0), (.int 1), .null] 6)) := fun t k => castTop (ef_rm_iw1 m oa oc) k
  obtain ⟨T1, X1, e1, st1⟩ := initO X0 hx hZ hown (ow hw 13 rfl) (ow hw 14 rfl) (ow hw 15 rfl) e0 (g := (mkF m 1 #[.val (.ref oa), .val (.ref oc), .val (.int 0), .val (.int 1), .val .null, .unset] [(.ref oa)])) rfl (by rw [hml]; rfl) rfl (hb hby d2_1) (by decide) (W := 0) (by exact Nat.le_of_eq rfl) (by decide)
  have hc5_2 : ¬ ((1 : Int) = (0 : Int)) := by decide
  obtain ⟨T3, X3, e3, st3⟩ := getS2 X1 hx hZ hown (host := "") (Or.inl (ow hw 16 rfl)) Via.refl e1 Os.1 (g := (mkF m 27 #[.val (.ref oa), .val (.ref oc), .val (.int 0), .val (.int 1), .val .null, .unset] [])) rfl (hb hby d2_27)
  have hc30_4 : ¬ (vcs.toInt = (0 : Int)) := by (have q := Os.2.1; omega)
  obtain ⟨_, _, ⟨T5, L5, k5, n5⟩, -, X5, ⟨Lc5, hQ5, l5, y5, z5⟩, st5⟩ := Jvm.LawKit.callS X3 hx (y := yn9) hown (mvT hZ (ow hw 17 rfl)) (mvT hZ (ow hw 18 rfl)) (mvT hZ (ow hw 19 rfl)) (mvT hZ (ow hw 20 rfl)) (by decide) (backOf (W := 0) (rm_cr1 l Z a0 hw [] oc vcs vf kC c0 h0 n0 Z0 Os Vc uc0 vc0) hZ (ow hw 20 rfl) (ow hw 19 rfl) (by decide) (by decide)) (g := (mkF m 36 #[.val (.ref oa), .val (.ref oc), .val (.int 0), .val (.int 1), .val .null, .unset] [(.int 1), (.int 0), (.ref oc)])) rfl (by rw [hml]; rfl) (argsL := [(.ref oc), (.int 0), (.int 1)]) (rest := []) (lenOf pd_4 rfl) rfl (by exact Nat.le_of_eq rfl) (hb hby d2_36) (fun _ _ => ⟨rfl, e3, (by decide : 0 + 2 ≤ _), (by decide : 0 + 3 ≤ _)⟩)
  dsimp only [Pt.U, Pt.locs, Pt.cells, Pt.slots] at X5 l5 y5 z5 st5 hQ5
  rw [l5, y5, z5] at X5
  obtain ⟨ob, kb, rfl, N5q, K5, gb, szb, hO5⟩ := hQ5
  have N5 := Fr.app N0 N5q
  have Zs6 : n0 ≤ T5.heap.size := Nat.le_trans Z0 K5.1
  have ne_oa_ob : oa ≠ ob := Nat.ne_of_lt (Nat.lt_of_lt_of_le Es.lt szb)
  have ne_oc_ob : oc ≠ ob := Nat.ne_of_lt (Nat.lt_of_lt_of_le Vc.lt szb)
  have sz_ob : h0.size ≤ ob := Nat.le_trans (Keep.refl h0 [oa]).1 szb
  have pre7 : oP p e below (T5.setTop (mkF m 39 #[.val (.ref oa), .val (.ref oc), .val (.int 0), .val (.int 1), .val .null, .unset] [(.ref ob)])) (s₁.setTop (entryFrame m #[(.ref oa), (.ref oc), (.int 0), (.int 1), .null] 6)) := fun t kt => by
    refine pre0 _ ?_
    refine XS.aloadN X0.here hx rfl (hb hby d2_0) rfl rfl ?_
    refine st1 _ ?_
    refine XS.iloadN X1.here hx rfl (hb hby d2_4) rfl ?_
    refine XS.ifYes X1.here hx rfl (pc0 := 5) (pc' := 27) rfl (hb hby d2_5) rfl (own_if (own_feq (a := (1 : Int32)) (b := (0 : Int32)) (by decide) (by decide) hc5_2).2) (by decide) (by decide) ?_
    refine st3 _ ?_
    refine XS.ifNo X3.here hx rfl (hb hby d2_30) rfl (own_if (own_feq (a := vcs) (b := (0 : Int32)) rfl (by decide) hc30_4).1) ?_
    refine XS.aloadN X3.here hx rfl (hb hby d2_33) rfl rfl ?_
    refine XS.iloadN X3.here hx rfl (hb hby d2_34) rfl ?_
    refine XS.iloadN X3.here hx rfl (hb hby d2_35) rfl ?_
    refine st5 _ ?_
    exact kt
  rcases hO5 with ⟨hall, bb0, VbL, qbb0⟩ | ⟨hall, lo0, hi0, VbU, qlo0, qhi0⟩
  · have own_mL := True.intro
    obtain ⟨_, _, ⟨T8, L8, k8, n8⟩, -, X8, ⟨Lc8, hQ8, l8, y8, z8⟩, st8⟩ := Jvm.LawKit.callS X5 hx (y := yn10) hown (mvT hZ (ow hw 25 rfl)) (mvT hZ (ow hw 26 rfl)) (mvT hZ (ow hw 19 rfl)) (mvT hZ (ow hw 27 rfl)) (by decide) (backOf (W := 1) (rm_cg1_0 l Z a0 hw [] ob kb [(.int bb0)] T5.heap n0 Zs6 VbL) hZ (ow hw 27 rfl) (ow hw 19 rfl) (by decide) (by decide)) (g := (mkF m 45 #[.val (.ref oa), .val (.ref oc), .val (.int 0), .val (.int 1), .val .null, .val (.ref ob)] [(.int 1), (.ref ob), (.ref oa)])) rfl (by rw [hml]; rfl) (argsL := [(.ref ob), (.int 1)]) (rest := [(.ref oa)]) (lenOf pd_6 rfl) rfl (by exact Nat.le_of_eq rfl) (hb hby d2_45) (fun _ _ => ⟨rfl, rfl, (by decide : 2 + 0 ≤ _), (by decide : 3 + 0 ≤ _)⟩)
    dsimp only [Pt.U, Pt.locs, Pt.cells, Pt.slots] at X8 l8 y8 z8 st8 hQ8
    rw [l8, y8, z8] at X8
    obtain ⟨zf, rfl, hzf, N8q, e8⟩ := hQ8
    have N8 := Fr.app N5 N8q
    have pre9 : oP p e below (T8.setTop (mkF m 48 #[.val (.ref oa), .val (.ref oc), .val (.int 0), .val (.int 1), .val .null, .val (.ref ob)] [(.int zf), (.ref oa)])) (s₁.setTop (entryFrame m #[(.ref oa), (.ref oc), (.int 0), (.int 1), .null] 6)) := fun t kt => by
      refine pre7 _ ?_
      refine XS.astore X5.here hx rfl (hb hby d2_39) rfl rfl (l' := #[.val (.ref oa), .val (.ref oc), .val (.int 0), .val (.int 1), .val .null, .val (.ref ob)]) rfl ?_
      refine XS.aloadN X5.here hx rfl (hb hby d2_41) rfl rfl ?_
      refine XS.aload X5.here hx rfl (hb hby d2_42) rfl rfl ?_
      refine XS.iloadN X5.here hx rfl (hb hby d2_44) rfl ?_
      refine st8 _ ?_
      exact kt
    subst hzf
    have pre10 : oP p e below (T8.setTop (mkF m 48 #[.val (.ref oa), .val (.ref oc), .val (.int 0), .val (.int 1), .val .null, .val (.ref ob)] [(.int 0), (.ref oa)])) (s₁.setTop (entryFrame m #[(.ref oa), (.ref oc), (.int 0), (.int 1), .null] 6)) := pre9
    have f11 := (Fc.keep K5 nin0)
    have f12 := (Es.keep K5)
    obtain ⟨T13, h13, X13, e13, W13, st13⟩ := putFN X8 hx hZ hown (ow hw 28 rfl) Via.refl e8 f11 f12 (Or.inr ⟨(ow hw 29 rfl), rfl, hnm⟩) (ow hw 4 rfl) (ty := .byte) (v' := (.int 0)) (by decide) rfl rfl (g := (mkF m 48 #[.val (.ref oa), .val (.ref oc), .val (.int 0), .val (.int 1), .val .null, .val (.ref ob)] [(.int 0), (.ref oa)])) rfl rfl (hb hby d2_48)
    have N13 := Fr.snoc X13 N8 ga
    have Zs14 : n0 ≤ h13.size := by rw [W13.size]; exact Zs6
    have Fw13 := f11.same W13
    have f15 := ((Fv.keep K5 nin0).other W13 (Or.inr (slot_ne (Or.inr (ow hw 31 rfl)) (Or.inr (ow hw 29 rfl)) (by decide) (t := (.array .byte)) (t' := .byte) (by decide) (by decide))))
    have f16 := (f12.wr W13)
    obtain ⟨T17, h17, X17, e17, W17, st17⟩ := putF X13 hx hZ hown (host := "") (Or.inl (ow hw 30 rfl)) Via.refl e13 f15 f16 (Or.inr ⟨(ow hw 31 rfl), rfl, hnm⟩) (ow hw 4 rfl) (ty := (.array .byte)) (by decide) rfl rfl (g := (mkF m 54 #[.val (.ref oa), .val (.ref oc), .val (.int 0), .val (.int 1), .val .null, .val (.ref ob)] [(.ref ob), (.ref oa)])) rfl rfl (hb hby d2_54)
    have N17 := Fr.snoc X17 N13 ga
    have Zs18 : n0 ≤ h17.size := by rw [W17.size]; exact Zs14
    have Fw17 := f15.same W17
    obtain ⟨fs, hr, q1, q2, q3, q4⟩ := X17.leave (v := none) (fun _ => rfl)
    refine ⟨_, _, pre10 _ ?_, q1, q2, _, _, rfl, ?_, ⟨_, rfl⟩, q3, q4.mono (by decide) (by decide)⟩
    · refine st13 _ ?_
      refine XS.aloadN X13.here hx rfl (hb hby d2_51) rfl rfl ?_
      refine XS.aload X13.here hx rfl (hb hby d2_52) rfl rfl ?_
      refine st17 _ ?_
      show Steps p.tables e below (T17.setTop (mkF m 57 #[.val (.ref oa), .val (.ref oc), .val (.int 0), .val (.int 1), .val .null, .val (.ref ob)] [])) _
      exact X17.returnOut hx Bd.returns (hb hby d2_57) hr
    · show Q_iw1 Z _ _ _ _ _ _ h0 n0 _ T17.heap _
      rw [e17]
      have f19 := (Fw13.other W17 (Or.inr (slot_ne (Or.inr (ow hw 29 rfl)) (Or.inr (ow hw 31 rfl)) (by decide) (t := .byte) (t' := (.array .byte)) (by decide) (by decide))))
      have f20 := ((VbL.other W13 (Ne.symm ne_oa_ob)).other W17 (Ne.symm ne_oa_ob))
      have f21 := ((((Keep.refl h0 [oa]).trans K5 all0).wr W13 (Or.inl (List.mem_of_getElem? (i := 0) rfl))).wr W17 (Or.inl (List.mem_of_getElem? (i := 0) rfl)))
      have f22 := (f16.wr W17)
      exact ⟨rfl, N17, f21, f22, ob, kb, gb, sz_ob, Fw17, Or.inl ⟨f19, hall, bb0, f20, qbb0⟩⟩
  · have own_mU := True.intro
    obtain ⟨_, _, ⟨T23, L23, k23, n23⟩, -, X23, ⟨Lc23, hQ23, l23, y23, z23⟩, st23⟩ := Jvm.LawKit.callS X5 hx (y := yn10) hown (mvT hZ (ow hw 25 rfl)) (mvT hZ (ow hw 26 rfl)) (mvT hZ (ow hw 19 rfl)) (mvT hZ (ow hw 27 rfl)) (by decide) (backOf (W := 1) (rm_cg1_1 l Z a0 hw [] ob kb [(.int lo0), (.int hi0)] T5.heap n0 Zs6 VbU) hZ (ow hw 27 rfl) (ow hw 19 rfl) (by decide) (by decide)) (g := (mkF m 45 #[.val (.ref oa), .val (.ref oc), .val (.int 0), .val (.int 1), .val .null, .val (.ref ob)] [(.int 1), (.ref ob), (.ref oa)])) rfl (by rw [hml]; rfl) (argsL := [(.ref ob), (.int 1)]) (rest := [(.ref oa)]) (lenOf pd_6 rfl) rfl (by exact Nat.le_of_eq rfl) (hb hby d2_45) (fun _ _ => ⟨rfl, rfl, (by decide : 2 + 0 ≤ _), (by decide : 3 + 0 ≤ _)⟩)
    dsimp only [Pt.U, Pt.locs, Pt.cells, Pt.slots] at X23 l23 y23 z23 st23 hQ23
    rw [l23, y23, z23] at X23
    obtain ⟨zf, rfl, hzf, N23q, e23⟩ := hQ23
    have N23 := Fr.app N5 N23q
    have pre24 : oP p e below (T23.setTop (mkF m 48 #[.val (.ref oa), .val (.ref oc), .val (.int 0), .val (.int 1), .val .null, .val (.ref ob)] [(.int zf), (.ref oa)])) (s₁.setTop (entryFrame m #[(.ref oa), (.ref oc), (.int 0), (.int 1), .null] 6)) := fun t kt => by
      refine pre7 _ ?_
      refine XS.astore X5.here hx rfl (hb hby d2_39) rfl rfl (l' := #[.val (.ref oa), .val (.ref oc), .val (.int 0), .val (.int 1), .val .null, .val (.ref ob)]) rfl ?_
      refine XS.aloadN X5.here hx rfl (hb hby d2_41) rfl rfl ?_
      refine XS.aload X5.here hx rfl (hb hby d2_42) rfl rfl ?_
      refine XS.iloadN X5.here hx rfl (hb hby d2_44) rfl ?_
      refine st23 _ ?_
      exact kt
    subst hzf
    have pre25 : oP p e below (T23.setTop (mkF m 48 #[.val (.ref oa), .val (.ref oc), .val (.int 0), .val (.int 1), .val .null, .val (.ref ob)] [(.int 1), (.ref oa)])) (s₁.setTop (entryFrame m #[(.ref oa), (.ref oc), (.int 0), (.int 1), .null] 6)) := pre24
    have f26 := (Fc.keep K5 nin0)
    have f27 := (Es.keep K5)
    obtain ⟨T28, h28, X28, e28, W28, st28⟩ := putFN X23 hx hZ hown (ow hw 28 rfl) Via.refl e23 f26 f27 (Or.inr ⟨(ow hw 29 rfl), rfl, hnm⟩) (ow hw 4 rfl) (ty := .byte) (v' := (.int 1)) (by decide) rfl rfl (g := (mkF m 48 #[.val (.ref oa), .val (.ref oc), .val (.int 0), .val (.int 1), .val .null, .val (.ref ob)] [(.int 1), (.ref oa)])) rfl rfl (hb hby d2_48)
    have N28 := Fr.snoc X28 N23 ga
    have Zs29 : n0 ≤ h28.size := by rw [W28.size]; exact Zs6
    have Fw28 := f26.same W28
    have f30 := ((Fv.keep K5 nin0).other W28 (Or.inr (slot_ne (Or.inr (ow hw 31 rfl)) (Or.inr (ow hw 29 rfl)) (by decide) (t := (.array .byte)) (t' := .byte) (by decide) (by decide))))
    have f31 := (f27.wr W28)
    obtain ⟨T32, h32, X32, e32, W32, st32⟩ := putF X28 hx hZ hown (host := "") (Or.inl (ow hw 30 rfl)) Via.refl e28 f30 f31 (Or.inr ⟨(ow hw 31 rfl), rfl, hnm⟩) (ow hw 4 rfl) (ty := (.array .byte)) (by decide) rfl rfl (g := (mkF m 54 #[.val (.ref oa), .val (.ref oc), .val (.int 0), .val (.int 1), .val .null, .val (.ref ob)] [(.ref ob), (.ref oa)])) rfl rfl (hb hby d2_54)
    have N32 := Fr.snoc X32 N28 ga
    have Zs33 : n0 ≤ h32.size := by rw [W32.size]; exact Zs29
    have Fw32 := f30.same W32
    obtain ⟨fs, hr, q1, q2, q3, q4⟩ := X32.leave (v := none) (fun _ => rfl)
    refine ⟨_, _, pre25 _ ?_, q1, q2, _, _, rfl, ?_, ⟨_, rfl⟩, q3, q4.mono (by decide) (by decide)⟩
    · refine st28 _ ?_
      refine XS.aloadN X28.here hx rfl (hb hby d2_51) rfl rfl ?_
      refine XS.aload X28.here hx rfl (hb hby d2_52) rfl rfl ?_
      refine st32 _ ?_
      show Steps p.tables e below (T32.setTop (mkF m 57 #[.val (.ref oa), .val (.ref oc), .val (.int 0), .val (.int 1), .val .null, .val (.ref ob)] [])) _
      exact X32.returnOut hx Bd.returns (hb hby d2_57) hr
    · show Q_iw1 Z _ _ _ _ _ _ h0 n0 _ T32.heap _
      rw [e32]
      have f34 := (Fw28.other W32 (Or.inr (slot_ne (Or.inr (ow hw 29 rfl)) (Or.inr (ow hw 31 rfl)) (by decide) (t := .byte) (t' := (.array .byte)) (by decide) (by decide))))
      have f35 := ((VbU.other W28 (Ne.symm ne_oa_ob)).other W32 (Ne.symm ne_oa_ob))
      have f36 := ((((Keep.refl h0 [oa]).trans K5 all0).wr W28 (Or.inl (List.mem_of_getElem? (i := 0) rfl))).wr W32 (Or.inl (List.mem_of_getElem? (i := 0) rfl)))
      have f37 := (f31.wr W32)
      exact ⟨rfl, N32, f36, f37, ob, kb, gb, sz_ob, Fw32, Or.inr ⟨f34, hall, lo0, hi0, f35, qlo0, qhi0⟩⟩
theorem d1_0 : decode jdk_42_method_3_code 0 = .ok (.aload_n 0, 1) := by decide +kernel
theorem d1_1 : decode jdk_42_method_3_code 1 = .ok (.aload_n 1, 1) := by decide +kernel
theorem d1_2 : decode jdk_42_method_3_code 2 = .ok (.iconst 0, 1) := by decide +kernel
theorem d1_3 : decode jdk_42_method_3_code 3 = .ok (.aload_n 1, 1) := by decide +kernel
theorem d1_4 : decode jdk_42_method_3_code 4 = .ok (.arraylength, 1) := by decide +kernel
theorem d1_5 : decode jdk_42_method_3_code 5 = .ok (.aconst_null, 1) := by decide +kernel
theorem d1_6 : decode jdk_42_method_3_code 6 = .ok (.invokespecial 27, 3) := by decide +kernel
theorem d1_9 : decode jdk_42_method_3_code 9 = .ok (.return_, 1) := by decide +kernel
theorem ef_rm_mu1 (m : MethodId) (x0 : Addr) (x1 : Addr) : entryFrame m #[(.ref x0), (.ref x1)] 2 = mkF m 0 #[.val (.ref x0), .val (.ref x1)] [] := by first | (simp [entryFrame, mkF, argsToLocals, Value.category]; done) | rfl
theorem pd_7 : parseMethodDescriptor "([CIILjava/lang/Void;)V" = some ⟨[(.array .char), .int, .int, (.object "java/lang/Void")], none⟩ := by decide +kernel
def Q_mu1 (Z : State) (oa : Addr) (oc : Addr) (vcs : Int32) (vf : Value) (kC : ClassId) (c0 : Int32) (h0 : Heap) (n0 : Nat) (v : Option Value) (h : Heap) (L : List Loc) : Prop := v = none ∧ Fr n0 L ∧ Keep h0 h [oa] ∧ Exa Z h oa "java/lang/String" ∧ ∃ (ob : Addr) (kb : ClassId), n0 ≤ ob ∧ h0.size ≤ ob ∧ Fld Z h oa "java/lang/String" "value" "[B" (.ref ob) ∧ ((Fld Z h oa "java/lang/String" "coder" "B" (.int 0) ∧ ((c0.toInt ≤ 255) ∧ ∃ bb0 : Int32, Arv Z h ob kb .byte (1 : Int32) [(.int bb0)] (.int 0) ∧ bb0.toInt % 256 = c0.toInt)) ∨ (Fld Z h oa "java/lang/String" "coder" "B" (.int 1) ∧ (¬ (c0.toInt ≤ 255) ∧ ∃ lo0 hi0 : Int32, Arv Z h ob kb .byte (2 : Int32) [(.int lo0), (.int hi0)] (.int 0) ∧ lo0.toInt % 256 = c0.toInt % 256 ∧ hi0.toInt % 256 = c0.toInt / 256)))
theorem rm_mu1 (l : Launch) (Z : State) (a0 : Array Value) (hw : ∀ d ∈ tables_1, d.before a0 Z = true) (ws : List Jvm.Cond) (oa : Addr) (oc : Addr) (vcs : Int32) (vf : Value) (kC : ClassId) (c0 : Int32) (h0 : Heap) (n0 : Nat) (Z0 : n0 ≤ h0.size) (Os : own_st Z h0 vcs vf) (Es : Exa Z h0 oa "java/lang/String") (Fc : Fld Z h0 oa "java/lang/String" "coder" "B" (.int 0)) (Fv : Fld Z h0 oa "java/lang/String" "value" "[B" .null) (ga : n0 ≤ oa) (nac : oa ≠ oc) (Vc : Arv Z h0 oc kC .char (1 : Int32) [(.int c0)] (.int 0)) (uc0 : 0 ≤ c0.toInt) (vc0 : c0.toInt < 65536) :
    MetFree l yn12 (head1 (Jvm.Cond.code yn12 jdk_42_method_3_code 2 none :: ws) ⟨5, 2, 3, 74⟩) (fun a U => a = #[(.ref oa), (.ref oc)] ∧ Z.Warmed39 U.vm ∧ U.heap = h0) (fun _ _ _ _ _ => True) (fun _ U o U' => ∃ v L, o = .returned v ∧ Q_mu1 Z oa oc vcs vf kC c0 h0 n0 v U'.heap L ∧ FrameEnd U o U' L 2 3) := by
  refine MetFree.of_bodySF (plainFor_of_name pn_3) hisR ?_
  intro p e s m args below meth c s₁ Bd hml0 hP hK
  obtain ⟨rfl, hZ, hh⟩ := hP
  have hx := Bd.exec
  have hby := Bd.bytes
  have hml : c.maxLocals = 2 := hml0
  have hown : s.vm.findClass "java/lang/String" = some m.cls := findClass_of_methodNamed Bd.named
  have hnm := (name_of_methodNamed Bd.named Bd.method).1
  have X0 : Stand p l e ⟨5, 2, 3, 74⟩ s m #[(.ref oa), (.ref oc)] below meth c s₁ [] 0 0 := Stand.of_body Bd
  have e0 : s₁.heap = h0 := by rw [← hh, Bd.state]; rfl
  have N0 := Fr.nil n0
  have pre0 : oP p e below (s₁.setTop (mkF m 0 #[.val (.ref oa), .val (.ref oc)] [])) (s₁.setTop (entryFrame m #[(.ref oa), (.ref oc)] 2)) := fun t k => castTop (ef_rm_mu1 m oa oc) k
  obtain ⟨cl1, Ar1, q1, S1, M1, H1, G1⟩ := id Vc
  obtain ⟨_, _, ⟨T2, L2, k2, n2⟩, -, X2, ⟨Lc2, hQ2, l2, y2, z2⟩, st2⟩ := X0.specialBack hx (y := yn11) rfl hown (mvT hZ (ow hw 9 rfl)) (mvT hZ (ow hw 10 rfl)) (mvT hZ (ow hw 12 rfl)) (by decide) (backOf (W := 0) (rm_iw1 l Z a0 hw [] oa oc vcs vf kC c0 h0 n0 Z0 Os Es Fc Fv ga nac Vc uc0 vc0) hZ (ow hw 12 rfl) (ow hw 5 rfl) (by decide) (by decide)) (g := (mkF m 6 #[.val (.ref oa), .val (.ref oc)] [.null, (.int 1), (.int 0), (.ref oc), (.ref oa)])) rfl (by rw [hml]; rfl) (Steps.refl _) (a := oa) (argsL := [(.ref oc), (.int 0), (.int 1), .null]) (rest := []) (lenOf pd_7 rfl) rfl (by exact Nat.le_of_eq rfl) (hb hby d1_6) (fun _ _ => ⟨rfl, e0, (by decide : 0 + 2 ≤ _), (by decide : 0 + 3 ≤ _)⟩)
  dsimp only [Pt.U, Pt.locs, Pt.cells, Pt.slots] at X2 l2 y2 z2 st2 hQ2
  rw [l2, y2, z2] at X2
  obtain ⟨rfl, N2q, K2, A2, ob, kb, gb, szb, Fv2, hO2⟩ := hQ2
  have N2 := Fr.app N0 N2q
  have Zs3 : n0 ≤ T2.heap.size := Nat.le_trans Z0 K2.1
  have ne_oa_ob : oa ≠ ob := Nat.ne_of_lt (Nat.lt_of_lt_of_le Es.lt szb)
  have ne_oc_ob : oc ≠ ob := Nat.ne_of_lt (Nat.lt_of_lt_of_le Vc.lt szb)
  have sz_ob : h0.size ≤ ob := Nat.le_trans (Keep.refl h0 [oa]).1 szb
  obtain ⟨fs, hr, q1, q2, q3, q4⟩ := X2.leave (v := none) (fun _ => rfl)
  refine ⟨_, _, pre0 _ ?_, q1, q2, _, _, rfl, ?_, ⟨_, rfl⟩, q3, q4.mono (by decide) (by decide)⟩
  · refine XS.aloadN X0.here hx rfl (hb hby d1_0) rfl rfl ?_
    refine XS.aloadN X0.here hx rfl (hb hby d1_1) rfl rfl ?_
    refine XS.iconst X0.here hx rfl (hb hby d1_2) ?_
    refine XS.aloadN X0.here hx rfl (hb hby d1_3) rfl rfl ?_
    refine X0.arraylength hx (by rw [e0]; exact Ar1.1) (State.isArrayOf_alike hZ.alike Ar1.2.1) (g := (mkF m 4 #[.val (.ref oa), .val (.ref oc)] [(.ref oc), (.int 0), (.ref oc), (.ref oa)])) rfl rfl (hb hby d1_4) _ ?_
    rw [len_of S1 M1]
    refine XS.aconstNull X0.here hx rfl (hb hby d1_5) ?_
    refine st2.trans ?_
    exact X2.returnOut hx Bd.returns (hb hby d1_9) hr
  · show Q_mu1 Z _ _ _ _ _ _ h0 n0 _ T2.heap _
    have f4 := ((Keep.refl h0 [oa]).trans K2 (allS (P := fun x => x ∈ [oa] ∨ h0.size ≤ x) (Or.inl (List.mem_of_getElem? (i := 0) rfl)) all0))
    exact ⟨rfl, N2, f4, A2, ob, kb, gb, sz_ob, Fv2, hO2⟩
theorem ef_rm_nbl2 (m : MethodId)  : entryFrame m #[(.int 2)] 1 = mkF m 0 #[.val (.int 2)] [] := by first | (simp [entryFrame, mkF, argsToLocals, Value.category]; done) | rfl
def Q_nbl2 (Z : State)  (h0 : Heap) (n0 : Nat) (v : Option Value) (h : Heap) (L : List Loc) : Prop := ∃ z : Int32, v = some (.int z) ∧ (z = (4 : Int32)) ∧ Fr n0 L ∧ h = h0
theorem rm_nbl2 (l : Launch) (Z : State) (a0 : Array Value) (hw : ∀ d ∈ tables_1, d.before a0 Z = true) (ws : List Jvm.Cond)  (h0 : Heap) (n0 : Nat) (Z0 : n0 ≤ h0.size) :
    MetFree l yn4 (head1 (Jvm.Cond.code yn4 jdk_52_method_3_code 1 (some .int) :: ws) ⟨0, 0, 0, 0⟩) (fun a U => a = #[(.int 2)] ∧ Z.Warmed39 U.vm ∧ U.heap = h0) (fun _ _ _ _ _ => True) (fun _ U o U' => ∃ v L, o = .returned v ∧ Q_nbl2 Z  h0 n0 v U'.heap L ∧ FrameEnd U o U' L 0 0) := by
  refine MetFree.of_bodySF (plainFor_of_name pn_2) hisR ?_
  intro p e s m args below meth c s₁ Bd hml0 hP hK
  obtain ⟨rfl, hZ, hh⟩ := hP
  have hx := Bd.exec
  have hby := Bd.bytes
  have hml : c.maxLocals = 1 := hml0
  have hown : s.vm.findClass "java/lang/StringUTF16" = some m.cls := findClass_of_methodNamed Bd.named
  have hnm := (name_of_methodNamed Bd.named Bd.method).1
  have X0 : Stand p l e ⟨0, 0, 0, 0⟩ s m #[(.int 2)] below meth c s₁ [] 0 0 := Stand.of_body Bd
  have e0 : s₁.heap = h0 := by rw [← hh, Bd.state]; rfl
  have N0 := Fr.nil n0
  have pre0 : oP p e below (s₁.setTop (mkF m 0 #[.val (.int 2)] [])) (s₁.setTop (entryFrame m #[(.int 2)] 1)) := fun t k => castTop (ef_rm_nbl2 m ) k
  have hc1_1 : ¬ ((2 : Int) < (0 : Int)) := by decide
  have hc15_2 : (2 : Int) < (1073741823 : Int) := by decide
  obtain ⟨fs, hr, q1, q2, q3, q4⟩ := X0.leave (v := some (.int 4)) (fun h => by rw [Bd.returns] at h; cases h)
  refine ⟨_, _, pre0 _ ?_, q1, q2, _, _, rfl, ?_, ⟨_, rfl⟩, q3, q4.mono (by decide) (by decide)⟩
  · refine XS.iloadN X0.here hx rfl (hb hby d13_0) rfl ?_
    refine XS.ifYes X0.here hx rfl (pc0 := 1) (pc' := 12) rfl (hb hby d13_1) rfl (own_if (own_flt (a := (2 : Int32)) (b := (0 : Int32)) (by decide) (by decide) hc1_1).2.1) (by decide) (by decide) ?_
    refine XS.iloadN X0.here hx rfl (hb hby d13_12) rfl ?_
    refine X0.ldcInt hx hown (mvT hZ (ow hw 59 rfl)) (g := (mkF m 13 #[.val (.int 2)] [(.int 2)])) rfl (hb hby d13_13) _ ?_
    refine XS.icmpYes X0.here hx rfl (pc0 := 15) (pc' := 55) rfl (hb hby d13_15) rfl (own_tlt (a := (2 : Int32)) (b := (1073741823 : Int32)) (by decide) (by decide) hc15_2).1 (by decide) (by decide) ?_
    refine XS.iloadN X0.here hx rfl (hb hby d13_55) rfl ?_
    refine XS.iconst X0.here hx rfl (hb hby d13_56) ?_
    refine XS.ishl X0.here hx rfl (hb hby d13_57) rfl ?_
    exact retI X0 hx Bd.returns (hb hby d13_58) hr
  · show Q_nbl2 Z  h0 n0 _ s₁.heap _
    rw [e0]
    exact ⟨_, rfl, rfl, N0, rfl⟩
theorem ef_rm_nbf2 (m : MethodId)  : entryFrame m #[(.int 2)] 1 = mkF m 0 #[.val (.int 2)] [] := by first | (simp [entryFrame, mkF, argsToLocals, Value.category]; done) | rfl
def Q_nbf2 (Z : State)  (h0 : Heap) (n0 : Nat) (v : Option Value) (h : Heap) (L : List Loc) : Prop := ∃ (ob : Addr) (kb : ClassId), v = some (.ref ob) ∧ Fr n0 L ∧ Keep h0 h [] ∧ n0 ≤ ob ∧ h0.size ≤ ob ∧ Arv Z h ob kb .byte (4 : Int32) [(.int 0), (.int 0), (.int 0), (.int 0)] (.int 0)
theorem rm_nbf2 (l : Launch) (Z : State) (a0 : Array Value) (hw : ∀ d ∈ tables_1, d.before a0 Z = true) (ws : List Jvm.Cond)  (h0 : Heap) (n0 : Nat) (Z0 : n0 ≤ h0.size) :
    MetFree l yn5 (head1 (Jvm.Cond.code yn5 jdk_52_method_2_code 1 (some (.array .byte)) :: ws) ⟨1, 1, 4, 12⟩) (fun a U => a = #[(.int 2)] ∧ Z.Warmed39 U.vm ∧ U.heap = h0) (fun _ _ _ _ _ => True) (fun _ U o U' => ∃ v L, o = .returned v ∧ Q_nbf2 Z  h0 n0 v U'.heap L ∧ FrameEnd U o U' L 1 4) := by
  refine MetFree.of_bodySF (plainFor_of_name pn_2) hisR ?_
  intro p e s m args below meth c s₁ Bd hml0 hP hK
  obtain ⟨rfl, hZ, hh⟩ := hP
  have hx := Bd.exec
  have hby := Bd.bytes
  have hml : c.maxLocals = 1 := hml0
  have hown : s.vm.findClass "java/lang/StringUTF16" = some m.cls := findClass_of_methodNamed Bd.named
  have hnm := (name_of_methodNamed Bd.named Bd.method).1
  have X0 : Stand p l e ⟨1, 1, 4, 12⟩ s m #[(.int 2)] below meth c s₁ [] 0 0 := Stand.of_body Bd
  have e0 : s₁.heap = h0 := by rw [← hh, Bd.state]; rfl
  have N0 := Fr.nil n0
  have pre0 : oP p e below (s₁.setTop (mkF m 0 #[.val (.int 2)] [])) (s₁.setTop (entryFrame m #[(.int 2)] 1)) := fun t k => castTop (ef_rm_nbf2 m ) k
  obtain ⟨_, _, ⟨T1, L1, k1, n1⟩, -, X1, ⟨Lc1, hQ1, l1, y1, z1⟩, st1⟩ := Jvm.LawKit.callS X0 hx (y := yn4) hown (mvT hZ (ow hw 56 rfl)) (mvT hZ (ow hw 57 rfl)) (mvT hZ (ow hw 19 rfl)) (mvT hZ (ow hw 58 rfl)) (by decide) (backOf (W := 0) (rm_nbl2 l Z a0 hw []  h0 n0 Z0 ) hZ (ow hw 58 rfl) (ow hw 19 rfl) (by decide) (by decide)) (g := (mkF m 1 #[.val (.int 2)] [(.int 2)])) rfl (by rw [hml]; rfl) (argsL := [(.int 2)]) (rest := []) (lenOf pd_0 rfl) rfl (by exact Nat.le_of_eq rfl) (hb hby d12_1) (fun _ _ => ⟨rfl, e0, (by decide : 0 + 0 ≤ _), (by decide : 0 + 0 ≤ _)⟩)
  dsimp only [Pt.U, Pt.locs, Pt.cells, Pt.slots] at X1 l1 y1 z1 st1 hQ1
  rw [l1, y1, z1] at X1
  obtain ⟨zz, rfl, hzz, N1q, e1⟩ := hQ1
  have N1 := Fr.app N0 N1q
  have pre2 : oP p e below (T1.setTop (mkF m 4 #[.val (.int 2)] [(.int zz)])) (s₁.setTop (entryFrame m #[(.int 2)] 1)) := fun t kt => by
    refine pre0 _ ?_
    refine XS.iloadN X0.here hx rfl (hb hby d12_0) rfl ?_
    refine st1 _ ?_
    exact kt
  subst hzz
  have pre3 : oP p e below (T1.setTop (mkF m 4 #[.val (.int 2)] [(.int 4)])) (s₁.setTop (entryFrame m #[(.int 2)] 1)) := pre2
  obtain ⟨T4, h4, k4, X4, e4, E4, A4, st4⟩ := newP X1 hx hZ (ow hw 21 rfl) e1 (g := (mkF m 4 #[.val (.int 2)] [(.int 4)])) rfl (hb hby d12_4) rfl (by decide) (cap := 4) (by decide) (by decide) (by decide) (by decide)
  obtain ⟨b4, g4⟩ : ∃ z, z = h0.size := ⟨_, rfl⟩
  have g_b4 : n0 ≤ b4 := Nat.le_trans Z0 (Nat.le_of_eq g4.symm)
  have sz_b4 : h0.size ≤ b4 := Nat.le_trans (Keep.refl h0 []).1 (Nat.le_of_eq g4.symm)
  rw [← g4] at A4 st4
  have Zs5 : n0 ≤ h4.size := Nat.le_trans Z0 E4.1
  have V4 : Arv Z h4 b4 k4 .byte (4 : Int32) [(.int 0), (.int 0), (.int 0), (.int 0)] (.int 0) := (Arv.new A4 (by decide)).pad (pad_rep [] (.int 0) 4)
  obtain ⟨fs, hr, q1, q2, q3, q4⟩ := X4.leave (v := some (.ref b4)) (fun h => by rw [Bd.returns] at h; cases h)
  refine ⟨_, _, pre3 _ ?_, q1, q2, _, _, rfl, ?_, ⟨_, rfl⟩, q3, q4.mono (by decide) (by decide)⟩
  · refine st4 _ ?_
    jvm_step X4.here [X4.here.top, hx, (hb hby d12_6), X4.method', Bd.returns, Value.isRef, FieldType.isReference]
    first | (intro acts; rw [hr _ acts rfl rfl rfl]) | rw [hr _ _ rfl rfl rfl]
    exact Steps.refl _
  · show Q_nbf2 Z  h0 n0 _ T4.heap _
    rw [e4]
    have f6 := ((Keep.refl h0 []).ext E4)
    exact ⟨b4, _, rfl, N1, f6, g_b4, sz_b4, V4⟩
theorem ef_rm_pc2_0 (m : MethodId) (x0 : Addr) (x2 : Int32) : entryFrame m #[(.ref x0), (.int 0), (.int x2)] 3 = mkF m 0 #[.val (.ref x0), .val (.int 0), .val (.int x2)] [] := by first | (simp [entryFrame, mkF, argsToLocals, Value.category]; done) | rfl
def Q_pc2_0 (Z : State) (ob : Addr) (vc : Int32) (vcs : Int32) (vf : Value) (kb : ClassId) (u0 : Int32) (u1 : Int32) (u2 : Int32) (u3 : Int32) (h0 : Heap) (n0 : Nat) (v : Option Value) (h : Heap) (L : List Loc) : Prop := ∃ lo hi : Int32, v = none ∧ Fr n0 L ∧ Keep h0 h [ob] ∧ Arv Z h ob kb .byte (4 : Int32) [(.int lo), (.int hi), (.int u2), (.int u3)] (.int 0) ∧ lo.toInt % 256 = vc.toInt % 256 ∧ hi.toInt % 256 = vc.toInt / 256
theorem rm_pc2_0 (l : Launch) (Z : State) (a0 : Array Value) (hw : ∀ d ∈ tables_1, d.before a0 Z = true) (ws : List Jvm.Cond) (ob : Addr) (vc : Int32) (vcs : Int32) (vf : Value) (kb : ClassId) (u0 : Int32) (u1 : Int32) (u2 : Int32) (u3 : Int32) (h0 : Heap) (n0 : Nat) (Z0 : n0 ≤ h0.size) (Os : own_st Z h0 vcs vf) (Vb : Arv Z h0 ob kb .byte (4 : Int32) [(.int u0), (.int u1), (.int u2), (.int u3)] (.int 0)) (gb : n0 ≤ ob) (c1 : 0 ≤ vc.toInt) (c2 : vc.toInt < 65536) :
    MetFree l yn6 (head1 (Jvm.Cond.code yn6 jdk_52_method_4_code 3 none :: ws) ⟨0, 0, 0, 0⟩) (fun a U => a = #[(.ref ob), (.int 0), (.int vc)] ∧ Z.Warmed39 U.vm ∧ U.heap = h0) (fun _ _ _ _ _ => True) (fun _ U o U' => ∃ v L, o = .returned v ∧ Q_pc2_0 Z ob vc vcs vf kb u0 u1 u2 u3 h0 n0 v U'.heap L ∧ FrameEnd U o U' L 0 0) := by
  refine MetFree.of_bodySF (plainFor_of_name pn_2) hisR ?_
  intro p e s m args below meth c s₁ Bd hml0 hP hK
  obtain ⟨rfl, hZ, hh⟩ := hP
  have hx := Bd.exec
  have hby := Bd.bytes
  have hml : c.maxLocals = 3 := hml0
  have hown : s.vm.findClass "java/lang/StringUTF16" = some m.cls := findClass_of_methodNamed Bd.named
  have hnm := (name_of_methodNamed Bd.named Bd.method).1
  have X0 : Stand p l e ⟨0, 0, 0, 0⟩ s m #[(.ref ob), (.int 0), (.int vc)] below meth c s₁ [] 0 0 := Stand.of_body Bd
  have e0 : s₁.heap = h0 := by rw [← hh, Bd.state]; rfl
  have N0 := Fr.nil n0
  have pre0 : oP p e below (s₁.setTop (mkF m 0 #[.val (.ref ob), .val (.int 0), .val (.int vc)] [])) (s₁.setTop (entryFrame m #[(.ref ob), (.int 0), (.int vc)] 3)) := fun t k => castTop (ef_rm_pc2_0 m ob vc) k
  obtain ⟨T1, X1, e1, st1⟩ := getS2 X0 hx hZ hown (host := "") (Or.inl (ow hw 63 rfl)) Via.refl e0 Os.2.2.2.2.1 (g := (mkF m 0 #[.val (.ref ob), .val (.int 0), .val (.int vc)] [])) rfl (hb hby d14_0)
  have hc3_2 : ¬ ((1 : Int) = (0 : Int)) := by decide
  obtain ⟨T3, X3, e3, st3⟩ := getS2 X1 hx hZ hown (host := "") (Or.inl (ow hw 64 rfl)) Via.refl e1 Os.2.2.2.2.2.1 (g := (mkF m 38 #[.val (.ref ob), .val (.int 1), .val (.int vc)] [(.int vc), (.int 0), (.ref ob)])) rfl (hb hby d14_38)
  obtain ⟨cl4, Ar4, q4, S4, M4, H4, G4⟩ := id Vb
  have hin4 : ¬ ((0 : Int32) < 0 ∨ cl4.slots.size ≤ ((0 : Int32)).toNatClampNeg) := inb_of S4 ⟨by decide, by decide⟩
  obtain ⟨T5, h5, X5, e5, W5, st5⟩ := stB X3 hx hZ e3 Ar4 (j := (0 : Int32)) hin4 (g := (mkF m 43 #[.val (.ref ob), .val (.int 1), .val (.int vc)] [(.int ((vc >>> ((0 : Int32) &&& 31)).toInt8.toInt32)), (.int 0), (.ref ob)])) rfl rfl (hb hby d14_43)
  have N5 := Fr.snoc X5 N0 gb
  have Zs6 : n0 ≤ h5.size := by rw [W5.size]; exact Z0
  have V5 : Arv Z h5 ob kb .byte (4 : Int32) [(.int (nar .byte ((vc >>> ((0 : Int32) &&& 31)).toInt8.toInt32))), (.int u1), (.int u2), (.int u3)] (.int 0) := Arv.set Ar4 q4 S4 M4 H4 G4 (fits_nar_byte _) W5 0 rfl (Nat.le_of_ble_eq_true rfl)
  have os7 := (own_st_wr Os W5)
  obtain ⟨T8, X8, e8, st8⟩ := getS2 X5 hx hZ hown (host := "") (Or.inl (ow hw 65 rfl)) Via.refl e5 os7.2.2.2.2.2.2 (g := (mkF m 47 #[.val (.ref ob), .val (.int 1), .val (.int vc)] [(.int vc), (.int 1), (.ref ob)])) rfl (hb hby d14_47)
  obtain ⟨cl9, Ar9, q9, S9, M9, H9, G9⟩ := id V5
  have hin9 : ¬ ((1 : Int32) < 0 ∨ cl9.slots.size ≤ ((1 : Int32)).toNatClampNeg) := inb_of S9 ⟨by decide, by decide⟩
  obtain ⟨T10, h10, X10, e10, W10, st10⟩ := stB X8 hx hZ e8 Ar9 (j := (1 : Int32)) hin9 (g := (mkF m 52 #[.val (.ref ob), .val (.int 1), .val (.int vc)] [(.int ((vc >>> ((8 : Int32) &&& 31)).toInt8.toInt32)), (.int 1), (.ref ob)])) rfl rfl (hb hby d14_52)
  have N10 := Fr.snoc X10 N5 gb
  have Zs11 : n0 ≤ h10.size := by rw [W10.size]; exact Zs6
  have V10 : Arv Z h10 ob kb .byte (4 : Int32) [(.int (nar .byte ((vc >>> ((0 : Int32) &&& 31)).toInt8.toInt32))), (.int (nar .byte ((vc >>> ((8 : Int32) &&& 31)).toInt8.toInt32))), (.int u2), (.int u3)] (.int 0) := Arv.set Ar9 q9 S9 M9 H9 G9 (fits_nar_byte _) W10 1 rfl (Nat.le_of_ble_eq_true rfl)
  obtain ⟨fs, hr, q1, q2, q3, q4⟩ := X10.leave (v := none) (fun _ => rfl)
  refine ⟨_, _, pre0 _ ?_, q1, q2, _, _, rfl, ?_, ⟨_, rfl⟩, q3, q4.mono (by decide) (by decide)⟩
  · refine st1 _ ?_
    refine XS.ifYes X1.here hx rfl (pc0 := 3) (pc' := 28) rfl (hb hby d14_3) rfl (own_if (own_feq (a := (1 : Int32)) (b := (0 : Int32)) (by decide) (by decide) hc3_2).2) (by decide) (by decide) ?_
    refine XS.iloadN X1.here hx rfl (hb hby d14_28) rfl ?_
    refine XS.iconst X1.here hx rfl (hb hby d14_29) ?_
    refine XS.ishl X1.here hx rfl (hb hby d14_30) rfl ?_
    refine XS.istoreN X1.here hx rfl (hb hby d14_31) rfl (l' := #[.val (.ref ob), .val (.int 0), .val (.int vc)]) rfl ?_
    refine XS.aloadN X1.here hx rfl (hb hby d14_32) rfl rfl ?_
    refine XS.iloadN X1.here hx rfl (hb hby d14_33) rfl ?_
    refine XS.iinc X1.here hx rfl (hb hby d14_34) rfl (l' := #[.val (.ref ob), .val (.int 1), .val (.int vc)]) rfl ?_
    refine XS.iloadN X1.here hx rfl (hb hby d14_37) rfl ?_
    refine st3 _ ?_
    refine XS.ishr X3.here hx rfl (hb hby d14_41) rfl ?_
    refine XS.i2b X3.here hx rfl (hb hby d14_42) rfl ?_
    refine st5 _ ?_
    refine XS.aloadN X5.here hx rfl (hb hby d14_44) rfl rfl ?_
    refine XS.iloadN X5.here hx rfl (hb hby d14_45) rfl ?_
    refine XS.iloadN X5.here hx rfl (hb hby d14_46) rfl ?_
    refine st8 _ ?_
    refine XS.ishr X8.here hx rfl (hb hby d14_50) rfl ?_
    show Steps p.tables e below (T8.setTop (mkF m 51 #[.val (.ref ob), .val (.int 1), .val (.int vc)] [(.int (vc >>> ((8 : Int32) &&& 31))), (.int 1), (.ref ob)])) _
    refine XS.i2b X8.here hx rfl (hb hby d14_51) rfl ?_
    refine st10 _ ?_
    exact X10.returnOut hx Bd.returns (hb hby d14_53) hr
  · show Q_pc2_0 Z _ _ _ _ _ _ _ _ _ h0 n0 _ T10.heap _
    rw [e10]
    have f12 := (((Keep.refl h0 [ob]).wr W5 (Or.inl (List.mem_of_getElem? (i := 0) rfl))).wr W10 (Or.inl (List.mem_of_getElem? (i := 0) rfl)))
    exact ⟨_, _, rfl, N10, f12, V10, own_lo vc, own_hi vc c1 c2⟩
theorem ef_rm_pc2_1 (m : MethodId) (x0 : Addr) (x2 : Int32) : entryFrame m #[(.ref x0), (.int 1), (.int x2)] 3 = mkF m 0 #[.val (.ref x0), .val (.int 1), .val (.int x2)] [] := by first | (simp [entryFrame, mkF, argsToLocals, Value.category]; done) | rfl
def Q_pc2_1 (Z : State) (ob : Addr) (vc : Int32) (vcs : Int32) (vf : Value) (kb : ClassId) (u0 : Int32) (u1 : Int32) (u2 : Int32) (u3 : Int32) (h0 : Heap) (n0 : Nat) (v : Option Value) (h : Heap) (L : List Loc) : Prop := ∃ lo hi : Int32, v = none ∧ Fr n0 L ∧ Keep h0 h [ob] ∧ Arv Z h ob kb .byte (4 : Int32) [(.int u0), (.int u1), (.int lo), (.int hi)] (.int 0) ∧ lo.toInt % 256 = vc.toInt % 256 ∧ hi.toInt % 256 = vc.toInt / 256
theorem rm_pc2_1 (l : Launch) (Z : State) (a0 : Array Value) (hw : ∀ d ∈ tables_1, d.before a0 Z = true) (ws : List Jvm.Cond) (ob : Addr) (vc : Int32) (vcs : Int32) (vf : Value) (kb : ClassId) (u0 : Int32) (u1 : Int32) (u2 : Int32) (u3 : Int32) (h0 : Heap) (n0 : Nat) (Z0 : n0 ≤ h0.size) (Os : own_st Z h0 vcs vf) (Vb : Arv Z h0 ob kb .byte (4 : Int32) [(.int u0), (.int u1), (.int u2), (.int u3)] (.int 0)) (gb : n0 ≤ ob) (c1 : 0 ≤ vc.toInt) (c2 : vc.toInt < 65536) :
    MetFree l yn6 (head1 (Jvm.Cond.code yn6 jdk_52_method_4_code 3 none :: ws) ⟨0, 0, 0, 0⟩) (fun a U => a = #[(.ref ob), (.int 1), (.int vc)] ∧ Z.Warmed39 U.vm ∧ U.heap = h0) (fun _ _ _ _ _ => True) (fun _ U o U' => ∃ v L, o = .returned v ∧ Q_pc2_1 Z ob vc vcs vf kb u0 u1 u2 u3 h0 n0 v U'.heap L ∧ FrameEnd U o U' L 0 0) := by
  refine MetFree.of_bodySF (plainFor_of_name pn_2) hisR ?_
  intro p e s m args below meth c s₁ Bd hml0 hP hK
  obtain ⟨rfl, hZ, hh⟩ := hP
  have hx := Bd.exec
  have hby := Bd.bytes
  have hml : c.maxLocals = 3 := hml0
  have hown : s.vm.findClass "java/lang/StringUTF16" = some m.cls := findClass_of_methodNamed Bd.named
  have hnm := (name_of_methodNamed Bd.named Bd.method).1
  have X0 : Stand p l e ⟨0, 0, 0, 0⟩ s m #[(.ref ob), (.int 1), (.int vc)] below meth c s₁ [] 0 0 := Stand.of_body Bd
  have e0 : s₁.heap = h0 := by rw [← hh, Bd.state]; rfl
  have N0 := Fr.nil n0
  have pre0 : oP p e below (s₁.setTop (mkF m 0 #[.val (.ref ob), .val (.int 1), .val (.int vc)] [])) (s₁.setTop (entryFrame m #[(.ref ob), (.int 1), (.int vc)] 3)) := fun t k => castTop (ef_rm_pc2_1 m ob vc) k
  obtain ⟨T1, X1, e1, st1⟩ := getS2 X0 hx hZ hown (host := "") (Or.inl (ow hw 63 rfl)) Via.refl e0 Os.2.2.2.2.1 (g := (mkF m 0 #[.val (.ref ob), .val (.int 1), .val (.int vc)] [])) rfl (hb hby d14_0)
  have hc3_2 : ¬ ((1 : Int) = (0 : Int)) := by decide
  obtain ⟨T3, X3, e3, st3⟩ := getS2 X1 hx hZ hown (host := "") (Or.inl (ow hw 64 rfl)) Via.refl e1 Os.2.2.2.2.2.1 (g := (mkF m 38 #[.val (.ref ob), .val (.int 3), .val (.int vc)] [(.int vc), (.int 2), (.ref ob)])) rfl (hb hby d14_38)
  obtain ⟨cl4, Ar4, q4, S4, M4, H4, G4⟩ := id Vb
  have hin4 : ¬ ((2 : Int32) < 0 ∨ cl4.slots.size ≤ ((2 : Int32)).toNatClampNeg) := inb_of S4 ⟨by decide, by decide⟩
  obtain ⟨T5, h5, X5, e5, W5, st5⟩ := stB X3 hx hZ e3 Ar4 (j := (2 : Int32)) hin4 (g := (mkF m 43 #[.val (.ref ob), .val (.int 3), .val (.int vc)] [(.int ((vc >>> ((0 : Int32) &&& 31)).toInt8.toInt32)), (.int 2), (.ref ob)])) rfl rfl (hb hby d14_43)
  have N5 := Fr.snoc X5 N0 gb
  have Zs6 : n0 ≤ h5.size := by rw [W5.size]; exact Z0
  have V5 : Arv Z h5 ob kb .byte (4 : Int32) [(.int u0), (.int u1), (.int (nar .byte ((vc >>> ((0 : Int32) &&& 31)).toInt8.toInt32))), (.int u3)] (.int 0) := Arv.set Ar4 q4 S4 M4 H4 G4 (fits_nar_byte _) W5 2 rfl (Nat.le_of_ble_eq_true rfl)
  have os7 := (own_st_wr Os W5)
  obtain ⟨T8, X8, e8, st8⟩ := getS2 X5 hx hZ hown (host := "") (Or.inl (ow hw 65 rfl)) Via.refl e5 os7.2.2.2.2.2.2 (g := (mkF m 47 #[.val (.ref ob), .val (.int 3), .val (.int vc)] [(.int vc), (.int 3), (.ref ob)])) rfl (hb hby d14_47)
  obtain ⟨cl9, Ar9, q9, S9, M9, H9, G9⟩ := id V5
  have hin9 : ¬ ((3 : Int32) < 0 ∨ cl9.slots.size ≤ ((3 : Int32)).toNatClampNeg) := inb_of S9 ⟨by decide, by decide⟩
  obtain ⟨T10, h10, X10, e10, W10, st10⟩ := stB X8 hx hZ e8 Ar9 (j := (3 : Int32)) hin9 (g := (mkF m 52 #[.val (.ref ob), .val (.int 3), .val (.int vc)] [(.int ((vc >>> ((8 : Int32) &&& 31)).toInt8.toInt32)), (.int 3), (.ref ob)])) rfl rfl (hb hby d14_52)
  have N10 := Fr.snoc X10 N5 gb
  have Zs11 : n0 ≤ h10.size := by rw [W10.size]; exact Zs6
  have V10 : Arv Z h10 ob kb .byte (4 : Int32) [(.int u0), (.int u1), (.int (nar .byte ((vc >>> ((0 : Int32) &&& 31)).toInt8.toInt32))), (.int (nar .byte ((vc >>> ((8 : Int32) &&& 31)).toInt8.toInt32)))] (.int 0) := Arv.set Ar9 q9 S9 M9 H9 G9 (fits_nar_byte _) W10 3 rfl (Nat.le_of_ble_eq_true rfl)
  obtain ⟨fs, hr, q1, q2, q3, q4⟩ := X10.leave (v := none) (fun _ => rfl)
  refine ⟨_, _, pre0 _ ?_, q1, q2, _, _, rfl, ?_, ⟨_, rfl⟩, q3, q4.mono (by decide) (by decide)⟩
  · refine st1 _ ?_
    refine XS.ifYes X1.here hx rfl (pc0 := 3) (pc' := 28) rfl (hb hby d14_3) rfl (own_if (own_feq (a := (1 : Int32)) (b := (0 : Int32)) (by decide) (by decide) hc3_2).2) (by decide) (by decide) ?_
    refine XS.iloadN X1.here hx rfl (hb hby d14_28) rfl ?_
    refine XS.iconst X1.here hx rfl (hb hby d14_29) ?_
    refine XS.ishl X1.here hx rfl (hb hby d14_30) rfl ?_
    refine XS.istoreN X1.here hx rfl (hb hby d14_31) rfl (l' := #[.val (.ref ob), .val (.int 2), .val (.int vc)]) rfl ?_
    refine XS.aloadN X1.here hx rfl (hb hby d14_32) rfl rfl ?_
    refine XS.iloadN X1.here hx rfl (hb hby d14_33) rfl ?_
    refine XS.iinc X1.here hx rfl (hb hby d14_34) rfl (l' := #[.val (.ref ob), .val (.int 3), .val (.int vc)]) rfl ?_
    refine XS.iloadN X1.here hx rfl (hb hby d14_37) rfl ?_
    refine st3 _ ?_
    refine XS.ishr X3.here hx rfl (hb hby d14_41) rfl ?_
    refine XS.i2b X3.here hx rfl (hb hby d14_42) rfl ?_
    refine st5 _ ?_
    refine XS.aloadN X5.here hx rfl (hb hby d14_44) rfl rfl ?_
    refine XS.iloadN X5.here hx rfl (hb hby d14_45) rfl ?_
    refine XS.iloadN X5.here hx rfl (hb hby d14_46) rfl ?_
    refine st8 _ ?_
    refine XS.ishr X8.here hx rfl (hb hby d14_50) rfl ?_
    show Steps p.tables e below (T8.setTop (mkF m 51 #[.val (.ref ob), .val (.int 3), .val (.int vc)] [(.int (vc >>> ((8 : Int32) &&& 31))), (.int 3), (.ref ob)])) _
    refine XS.i2b X8.here hx rfl (hb hby d14_51) rfl ?_
    refine st10 _ ?_
    exact X10.returnOut hx Bd.returns (hb hby d14_53) hr
  · show Q_pc2_1 Z _ _ _ _ _ _ _ _ _ h0 n0 _ T10.heap _
    rw [e10]
    have f12 := (((Keep.refl h0 [ob]).wr W5 (Or.inl (List.mem_of_getElem? (i := 0) rfl))).wr W10 (Or.inl (List.mem_of_getElem? (i := 0) rfl)))
    exact ⟨_, _, rfl, N10, f12, V10, own_lo vc, own_hi vc c1 c2⟩
theorem ef_rm_tb2 (m : MethodId) (x0 : Addr) : entryFrame m #[(.ref x0), (.int 0), (.int 2)] 5 = mkF m 0 #[.val (.ref x0), .val (.int 0), .val (.int 2), .unset, .unset] [] := by first | (simp [entryFrame, mkF, argsToLocals, Value.category]; done) | rfl
def Q_tb2 (Z : State) (oc : Addr) (vcs : Int32) (vf : Value) (kC : ClassId) (c0 : Int32) (c1 : Int32) (h0 : Heap) (n0 : Nat) (v : Option Value) (h : Heap) (L : List Loc) : Prop := ∃ (ob : Addr) (kb : ClassId) (lo0 hi0 lo1 hi1 : Int32), v = some (.ref ob) ∧ Fr n0 L ∧ Keep h0 h [] ∧ n0 ≤ ob ∧ h0.size ≤ ob ∧ Arv Z h ob kb .byte (4 : Int32) [(.int lo0), (.int hi0), (.int lo1), (.int hi1)] (.int 0) ∧ lo0.toInt % 256 = c0.toInt % 256 ∧ hi0.toInt % 256 = c0.toInt / 256 ∧ lo1.toInt % 256 = c1.toInt % 256 ∧ hi1.toInt % 256 = c1.toInt / 256
theorem rm_tb2 (l : Launch) (Z : State) (a0 : Array Value) (hw : ∀ d ∈ tables_1, d.before a0 Z = true) (ws : List Jvm.Cond) (oc : Addr) (vcs : Int32) (vf : Value) (kC : ClassId) (c0 : Int32) (c1 : Int32) (h0 : Heap) (n0 : Nat) (Z0 : n0 ≤ h0.size) (Os : own_st Z h0 vcs vf) (Vc : Arv Z h0 oc kC .char (2 : Int32) [(.int c0), (.int c1)] (.int 0)) (uc0 : 0 ≤ c0.toInt) (uc1 : 0 ≤ c1.toInt) (vc0 : c0.toInt < 65536) (vc1 : c1.toInt < 65536) :
    MetFree l yn7 (head1 (Jvm.Cond.code yn7 jdk_52_method_14_code 5 (some (.array .byte)) :: ws) ⟨2, 1, 4, 24⟩) (fun a U => a = #[(.ref oc), (.int 0), (.int 2)] ∧ Z.Warmed39 U.vm ∧ U.heap = h0) (fun _ _ _ _ _ => True) (fun _ U o U' => ∃ v L, o = .returned v ∧ Q_tb2 Z oc vcs vf kC c0 c1 h0 n0 v U'.heap L ∧ FrameEnd U o U' L 1 4) := by
  refine MetFree.of_bodySF (plainFor_of_name pn_2) hisR ?_
  intro p e s m args below meth c s₁ Bd hml0 hP hK
  obtain ⟨rfl, hZ, hh⟩ := hP
  have hx := Bd.exec
  have hby := Bd.bytes
  have hml : c.maxLocals = 5 := hml0
  have hown : s.vm.findClass "java/lang/StringUTF16" = some m.cls := findClass_of_methodNamed Bd.named
  have hnm := (name_of_methodNamed Bd.named Bd.method).1
  have X0 : Stand p l e ⟨2, 1, 4, 24⟩ s m #[(.ref oc), (.int 0), (.int 2)] below meth c s₁ [] 0 0 := Stand.of_body Bd
  have e0 : s₁.heap = h0 := by rw [← hh, Bd.state]; rfl
  have N0 := Fr.nil n0
  have pre0 : oP p e below (s₁.setTop (mkF m 0 #[.val (.ref oc), .val (.int 0), .val (.int 2), .unset, .unset] [])) (s₁.setTop (entryFrame m #[(.ref oc), (.int 0), (.int 2)] 5)) := fun t k => castTop (ef_rm_tb2 m oc) k
  obtain ⟨_, _, ⟨T1, L1, k1, n1⟩, -, X1, ⟨Lc1, hQ1, l1, y1, z1⟩, st1⟩ := Jvm.LawKit.callS X0 hx (y := yn5) hown (mvT hZ (ow hw 53 rfl)) (mvT hZ (ow hw 54 rfl)) (mvT hZ (ow hw 19 rfl)) (mvT hZ (ow hw 55 rfl)) (by decide) (backOf (W := 0) (rm_nbf2 l Z a0 hw []  h0 n0 Z0 ) hZ (ow hw 55 rfl) (ow hw 19 rfl) (by decide) (by decide)) (g := (mkF m 1 #[.val (.ref oc), .val (.int 0), .val (.int 2), .unset, .unset] [(.int 2)])) rfl (by rw [hml]; rfl) (argsL := [(.int 2)]) (rest := []) (lenOf pd_1 rfl) rfl (by exact Nat.le_of_eq rfl) (hb hby d11_1) (fun _ _ => ⟨rfl, e0, (by decide : 0 + 1 ≤ _), (by decide : 0 + 4 ≤ _)⟩)
  dsimp only [Pt.U, Pt.locs, Pt.cells, Pt.slots] at X1 l1 y1 z1 st1 hQ1
  rw [l1, y1, z1] at X1
  obtain ⟨ob, kb, rfl, N1q, K1, gb, szb, Vb1⟩ := hQ1
  have N1 := Fr.app N0 N1q
  have Zs2 : n0 ≤ T1.heap.size := Nat.le_trans Z0 K1.1
  have ne_oc_ob : oc ≠ ob := Nat.ne_of_lt (Nat.lt_of_lt_of_le Vc.lt szb)
  have sz_ob : h0.size ≤ ob := Nat.le_trans (Keep.refl h0 []).1 szb
  have hc11_3 : (0 : Int) < (2 : Int) := by decide
  have f4 := (Vc.keep K1 nin0)
  obtain ⟨cl5, Ar5, q5, S5, M5, H5, G5⟩ := id f4
  have hin5 : ¬ ((0 : Int32) < 0 ∨ cl5.slots.size ≤ ((0 : Int32)).toNatClampNeg) := inb_of S5 ⟨by decide, by decide⟩
  have hat5 : cl5.slots[((0 : Int32)).toNatClampNeg]? = some (.int c0) := Has.at H5 hin5 rfl
  have os7 := (own_st_keep Os K1 ns0)
  obtain ⟨_, _, ⟨T6, L6, k6, n6⟩, -, X6, ⟨Lc6, hQ6, l6, y6, z6⟩, st6⟩ := Jvm.LawKit.callS X1 hx (y := yn6) hown (mvT hZ (ow hw 60 rfl)) (mvT hZ (ow hw 61 rfl)) (mvT hZ (ow hw 19 rfl)) (mvT hZ (ow hw 62 rfl)) (by decide) (backOf (W := 0) (rm_pc2_0 l Z a0 hw [] ob c0 vcs vf kb (0 : Int32) (0 : Int32) (0 : Int32) (0 : Int32) T1.heap n0 Zs2 os7 Vb1 gb uc0 vc0) hZ (ow hw 62 rfl) (ow hw 19 rfl) (by decide) (by decide)) (g := (mkF m 20 #[.val (.ref oc), .val (.int 0), .val (.int 2), .val (.ref ob), .val (.int 0)] [(.int c0), (.int 0), (.ref ob)])) rfl (by rw [hml]; rfl) (argsL := [(.ref ob), (.int 0), (.int c0)]) (rest := []) (lenOf pd_2 rfl) rfl (by exact Nat.le_of_eq rfl) (hb hby d11_20) (fun _ _ => ⟨rfl, rfl, (by decide : 1 + 0 ≤ _), (by decide : 4 + 0 ≤ _)⟩)
  dsimp only [Pt.U, Pt.locs, Pt.cells, Pt.slots] at X6 l6 y6 z6 st6 hQ6
  rw [l6, y6, z6] at X6
  obtain ⟨lo0, hi0, rfl, N6q, K6, Vb6, ql0, qh0⟩ := hQ6
  have N6 := Fr.app N1 N6q
  have Zs8 : n0 ≤ T6.heap.size := Nat.le_trans Zs2 K6.1
  have hc11_9 : (1 : Int) < (2 : Int) := by decide
  have f10 := (f4.keep K6 (ninS ne_oc_ob nin0))
  obtain ⟨cl11, Ar11, q11, S11, M11, H11, G11⟩ := id f10
  have hin11 : ¬ ((1 : Int32) < 0 ∨ cl11.slots.size ≤ ((1 : Int32)).toNatClampNeg) := inb_of S11 ⟨by decide, by decide⟩
  have hat11 : cl11.slots[((1 : Int32)).toNatClampNeg]? = some (.int c1) := Has.at H11 hin11 rfl
  have os13 := (own_st_keep os7 K6 (nsS Vb1.nostat ns0))
  obtain ⟨_, _, ⟨T12, L12, k12, n12⟩, -, X12, ⟨Lc12, hQ12, l12, y12, z12⟩, st12⟩ := Jvm.LawKit.callS X6 hx (y := yn6) hown (mvT hZ (ow hw 60 rfl)) (mvT hZ (ow hw 61 rfl)) (mvT hZ (ow hw 19 rfl)) (mvT hZ (ow hw 62 rfl)) (by decide) (backOf (W := 0) (rm_pc2_1 l Z a0 hw [] ob c1 vcs vf kb lo0 hi0 (0 : Int32) (0 : Int32) T6.heap n0 Zs8 os13 Vb6 gb uc1 vc1) hZ (ow hw 62 rfl) (ow hw 19 rfl) (by decide) (by decide)) (g := (mkF m 20 #[.val (.ref oc), .val (.int 1), .val (.int 2), .val (.ref ob), .val (.int 1)] [(.int c1), (.int 1), (.ref ob)])) rfl (by rw [hml]; rfl) (argsL := [(.ref ob), (.int 1), (.int c1)]) (rest := []) (lenOf pd_2 rfl) rfl (by exact Nat.le_of_eq rfl) (hb hby d11_20) (fun _ _ => ⟨rfl, rfl, (by decide : 1 + 0 ≤ _), (by decide : 4 + 0 ≤ _)⟩)
  dsimp only [Pt.U, Pt.locs, Pt.cells, Pt.slots] at X12 l12 y12 z12 st12 hQ12
  rw [l12, y12, z12] at X12
  obtain ⟨lo1, hi1, rfl, N12q, K12, Vb12, ql1, qh1⟩ := hQ12
  have N12 := Fr.app N6 N12q
  have Zs14 : n0 ≤ T12.heap.size := Nat.le_trans Zs8 K12.1
  have hc11_15 : ¬ ((2 : Int) < (2 : Int)) := by decide
  obtain ⟨fs, hr, q1, q2, q3, q4⟩ := X12.leave (v := some (.ref ob)) (fun h => by rw [Bd.returns] at h; cases h)
  refine ⟨_, _, pre0 _ ?_, q1, q2, _, _, rfl, ?_, ⟨_, rfl⟩, q3, q4.mono (by decide) (by decide)⟩
  · refine XS.iloadN X0.here hx rfl (hb hby d11_0) rfl ?_
    refine st1 _ ?_
    refine XS.astoreN X1.here hx rfl (hb hby d11_4) rfl rfl (l' := #[.val (.ref oc), .val (.int 0), .val (.int 2), .val (.ref ob), .unset]) rfl ?_
    refine XS.iconst X1.here hx rfl (hb hby d11_5) ?_
    refine XS.istore X1.here hx rfl (hb hby d11_6) rfl (l' := #[.val (.ref oc), .val (.int 0), .val (.int 2), .val (.ref ob), .val (.int 0)]) rfl ?_
    refine XS.iload X1.here hx rfl (hb hby d11_8) rfl ?_
    refine XS.iloadN X1.here hx rfl (hb hby d11_10) rfl ?_
    refine XS.icmpNo X1.here hx rfl (hb hby d11_11) rfl (own_tlt (a := (0 : Int32)) (b := (2 : Int32)) (by decide) (by decide) hc11_3).2.1 ?_
    refine XS.aloadN X1.here hx rfl (hb hby d11_14) rfl rfl ?_
    refine XS.iload X1.here hx rfl (hb hby d11_15) rfl ?_
    refine XS.aloadN X1.here hx rfl (hb hby d11_17) rfl rfl ?_
    refine XS.iloadN X1.here hx rfl (hb hby d11_18) rfl ?_
    refine X1.caload hx (j := (0 : Int32)) (v := (.int c0)) Ar5.1 (State.isArrayOf_alike hZ.alike Ar5.2.1) Ar5.2.2 hin5 hat5 (g := (mkF m 19 #[.val (.ref oc), .val (.int 0), .val (.int 2), .val (.ref ob), .val (.int 0)] [(.int 0), (.ref oc), (.int 0), (.ref ob)])) rfl rfl (hb hby d11_19) _ ?_
    refine st6 _ ?_
    refine XS.iinc X6.here hx rfl (hb hby d11_23) rfl (l' := #[.val (.ref oc), .val (.int 1), .val (.int 2), .val (.ref ob), .val (.int 0)]) rfl ?_
    refine XS.iinc X6.here hx rfl (hb hby d11_26) rfl (l' := #[.val (.ref oc), .val (.int 1), .val (.int 2), .val (.ref ob), .val (.int 1)]) rfl ?_
    refine XS.goto X6.here hx rfl (pc0 := 29) (pc' := 8) rfl (hb hby d11_29) (by decide) (by decide) ?_
    refine XS.iload X6.here hx rfl (hb hby d11_8) rfl ?_
    refine XS.iloadN X6.here hx rfl (hb hby d11_10) rfl ?_
    show Steps p.tables e below (T6.setTop (mkF m 11 #[.val (.ref oc), .val (.int 1), .val (.int 2), .val (.ref ob), .val (.int 1)] [(.int 2), (.int 1)])) _
    refine XS.icmpNo X6.here hx rfl (hb hby d11_11) rfl (own_tlt (a := (1 : Int32)) (b := (2 : Int32)) (by decide) (by decide) hc11_9).2.1 ?_
    refine XS.aloadN X6.here hx rfl (hb hby d11_14) rfl rfl ?_
    refine XS.iload X6.here hx rfl (hb hby d11_15) rfl ?_
    refine XS.aloadN X6.here hx rfl (hb hby d11_17) rfl rfl ?_
    refine XS.iloadN X6.here hx rfl (hb hby d11_18) rfl ?_
    refine X6.caload hx (j := (1 : Int32)) (v := (.int c1)) Ar11.1 (State.isArrayOf_alike hZ.alike Ar11.2.1) Ar11.2.2 hin11 hat11 (g := (mkF m 19 #[.val (.ref oc), .val (.int 1), .val (.int 2), .val (.ref ob), .val (.int 1)] [(.int 1), (.ref oc), (.int 1), (.ref ob)])) rfl rfl (hb hby d11_19) _ ?_
    refine st12 _ ?_
    refine XS.iinc X12.here hx rfl (hb hby d11_23) rfl (l' := #[.val (.ref oc), .val (.int 2), .val (.int 2), .val (.ref ob), .val (.int 1)]) rfl ?_
    refine XS.iinc X12.here hx rfl (hb hby d11_26) rfl (l' := #[.val (.ref oc), .val (.int 2), .val (.int 2), .val (.ref ob), .val (.int 2)]) rfl ?_
    refine XS.goto X12.here hx rfl (pc0 := 29) (pc' := 8) rfl (hb hby d11_29) (by decide) (by decide) ?_
    refine XS.iload X12.here hx rfl (hb hby d11_8) rfl ?_
    refine XS.iloadN X12.here hx rfl (hb hby d11_10) rfl ?_
    refine XS.icmpYes X12.here hx rfl (pc0 := 11) (pc' := 32) rfl (hb hby d11_11) rfl (own_flt (a := (2 : Int32)) (b := (2 : Int32)) (by decide) (by decide) hc11_15).2.1 (by decide) (by decide) ?_
    refine XS.aloadN X12.here hx rfl (hb hby d11_32) rfl rfl ?_
    jvm_step X12.here [X12.here.top, hx, (hb hby d11_33), X12.method', Bd.returns, Value.isRef, FieldType.isReference]
    first | (intro acts; rw [hr _ acts rfl rfl rfl]) | rw [hr _ _ rfl rfl rfl]
    exact Steps.refl _
  · show Q_tb2 Z _ _ _ _ _ _ h0 n0 _ T12.heap _
    have f16 := ((((Keep.refl h0 []).trans K1 all0).trans K6 (allS (P := fun x => x ∈ [] ∨ h0.size ≤ x) (Or.inr sz_ob) all0)).trans K12 (allS (P := fun x => x ∈ [] ∨ h0.size ≤ x) (Or.inr sz_ob) all0))
    exact ⟨ob, kb, lo0, hi0, lo1, hi1, rfl, N12, f16, gb, sz_ob, Vb12, ql0, qh0, ql1, qh1⟩
theorem ef_rm_cq2 (m : MethodId) (x0 : Addr) (x2 : Addr) : entryFrame m #[(.ref x0), (.int 0), (.ref x2), (.int 0), (.int 2)] 7 = mkF m 0 #[.val (.ref x0), .val (.int 0), .val (.ref x2), .val (.int 0), .val (.int 2), .unset, .unset] [] := by first | (simp [entryFrame, mkF, argsToLocals, Value.category]; done) | rfl
def Q_cq2 (Z : State) (oc : Addr) (ob : Addr) (kC : ClassId) (c0 : Int32) (c1 : Int32) (kb : ClassId) (h0 : Heap) (n0 : Nat) (v : Option Value) (h : Heap) (L : List Loc) : Prop := Fr n0 L ∧ Keep h0 h [ob] ∧ ((v = some (.int 2) ∧ (c0.toInt ≤ 255 ∧ c1.toInt ≤ 255) ∧ ∃ bb0 bb1 : Int32, Arv Z h ob kb .byte (2 : Int32) [(.int bb0), (.int bb1)] (.int 0) ∧ bb0.toInt % 256 = c0.toInt ∧ bb1.toInt % 256 = c1.toInt) ∨ (v = some (.int 0) ∧ 255 < c0.toInt ∧ ∃ vs, Arv Z h ob kb .byte (2 : Int32) vs (.int 0)) ∨ (v = some (.int 1) ∧ 255 < c1.toInt ∧ ∃ vs, Arv Z h ob kb .byte (2 : Int32) vs (.int 0)))
theorem rm_cq2 (l : Launch) (Z : State) (a0 : Array Value) (hw : ∀ d ∈ tables_1, d.before a0 Z = true) (ws : List Jvm.Cond) (oc : Addr) (ob : Addr) (kC : ClassId) (c0 : Int32) (c1 : Int32) (kb : ClassId) (h0 : Heap) (n0 : Nat) (Z0 : n0 ≤ h0.size) (Vc : Arv Z h0 oc kC .char (2 : Int32) [(.int c0), (.int c1)] (.int 0)) (uc0 : 0 ≤ c0.toInt) (uc1 : 0 ≤ c1.toInt) (vc0 : c0.toInt < 65536) (vc1 : c1.toInt < 65536) (Vb : Arv Z h0 ob kb .byte (2 : Int32) [(.int 0), (.int 0)] (.int 0)) (gb : n0 ≤ ob) (ncb : oc ≠ ob) :
    MetFree l yn8 (head1 (Jvm.Cond.code yn8 jdk_52_method_21_code 7 (some .int) :: ws) ⟨0, 0, 0, 0⟩) (fun a U => a = #[(.ref oc), (.int 0), (.ref ob), (.int 0), (.int 2)] ∧ Z.Warmed39 U.vm ∧ U.heap = h0) (fun _ _ _ _ _ => True) (fun _ U o U' => ∃ v L, o = .returned v ∧ Q_cq2 Z oc ob kC c0 c1 kb h0 n0 v U'.heap L ∧ FrameEnd U o U' L 0 0) := by
  refine MetFree.of_bodySF (plainFor_of_name pn_2) hisR ?_
  intro p e s m args below meth c s₁ Bd hml0 hP hK
  obtain ⟨rfl, hZ, hh⟩ := hP
  have hx := Bd.exec
  have hby := Bd.bytes
  have hml : c.maxLocals = 7 := hml0
  have hown : s.vm.findClass "java/lang/StringUTF16" = some m.cls := findClass_of_methodNamed Bd.named
  have hnm := (name_of_methodNamed Bd.named Bd.method).1
  have X0 : Stand p l e ⟨0, 0, 0, 0⟩ s m #[(.ref oc), (.int 0), (.ref ob), (.int 0), (.int 2)] below meth c s₁ [] 0 0 := Stand.of_body Bd
  have e0 : s₁.heap = h0 := by rw [← hh, Bd.state]; rfl
  have N0 := Fr.nil n0
  have pre0 : oP p e below (s₁.setTop (mkF m 0 #[.val (.ref oc), .val (.int 0), .val (.ref ob), .val (.int 0), .val (.int 2), .unset, .unset] [])) (s₁.setTop (entryFrame m #[(.ref oc), (.int 0), (.ref ob), (.int 0), (.int 2)] 7)) := fun t k => castTop (ef_rm_cq2 m oc ob) k
  have hc7_1 : (0 : Int) < (2 : Int) := by decide
  obtain ⟨cl2, Ar2, q2, S2, M2, H2, G2⟩ := id Vc
  have hin2 : ¬ ((0 : Int32) < 0 ∨ cl2.slots.size ≤ ((0 : Int32)).toNatClampNeg) := inb_of S2 ⟨by decide, by decide⟩
  have hat2 : cl2.slots[((0 : Int32)).toNatClampNeg]? = some (.int c0) := Has.at H2 hin2 rfl
  have pre4 : oP p e below (s₁.setTop (mkF m 20 #[.val (.ref oc), .val (.int 0), .val (.ref ob), .val (.int 0), .val (.int 2), .val (.int 0), .val (.int c0)] [(.int 255), (.int c0)])) (s₁.setTop (entryFrame m #[(.ref oc), (.int 0), (.ref ob), (.int 0), (.int 2)] 7)) := fun t kt => by
    refine pre0 _ ?_
    refine XS.iconst X0.here hx rfl (hb hby d5_0) ?_
    refine XS.istore X0.here hx rfl (hb hby d5_1) rfl (l' := #[.val (.ref oc), .val (.int 0), .val (.ref ob), .val (.int 0), .val (.int 2), .val (.int 0), .unset]) rfl ?_
    refine XS.iload X0.here hx rfl (hb hby d5_3) rfl ?_
    refine XS.iload X0.here hx rfl (hb hby d5_5) rfl ?_
    refine XS.icmpNo X0.here hx rfl (hb hby d5_7) rfl (own_tlt (a := (0 : Int32)) (b := (2 : Int32)) (by decide) (by decide) hc7_1).2.1 ?_
    refine XS.aloadN X0.here hx rfl (hb hby d5_10) rfl rfl ?_
    refine XS.iloadN X0.here hx rfl (hb hby d5_11) rfl ?_
    refine X0.caload hx (j := (0 : Int32)) (v := (.int c0)) (by rw [e0]; exact Ar2.1) (State.isArrayOf_alike hZ.alike Ar2.2.1) Ar2.2.2 hin2 hat2 (g := (mkF m 12 #[.val (.ref oc), .val (.int 0), .val (.ref ob), .val (.int 0), .val (.int 2), .val (.int 0), .unset] [(.int 0), (.ref oc)])) rfl rfl (hb hby d5_12) _ ?_
    refine XS.istore X0.here hx rfl (hb hby d5_13) rfl (l' := #[.val (.ref oc), .val (.int 0), .val (.ref ob), .val (.int 0), .val (.int 2), .val (.int 0), .val (.int c0)]) rfl ?_
    refine XS.iload X0.here hx rfl (hb hby d5_15) rfl ?_
    refine XS.sipush X0.here hx rfl (hb hby d5_17) ?_
    exact kt
  by_cases hc20_3 : (255 : Int) < c0.toInt
  · obtain ⟨fs, hr, q1, q2, q3, q4⟩ := X0.leave (v := some (.int 0)) (fun h => by rw [Bd.returns] at h; cases h)
    refine ⟨_, _, pre4 _ ?_, q1, q2, _, _, rfl, ?_, ⟨_, rfl⟩, q3, q4.mono (by decide) (by decide)⟩
    · show Steps p.tables e below (s₁.setTop (mkF m 20 #[.val (.ref oc), .val (.int 0), .val (.ref ob), .val (.int 0), .val (.int 2), .val (.int 0), .val (.int c0)] [(.int 255), (.int c0)])) _
      refine XS.icmpNo X0.here hx rfl (hb hby d5_20) rfl (own_tlt (a := (255 : Int32)) (b := c0) (by decide) rfl hc20_3).2.2.2 ?_
      refine XS.iload X0.here hx rfl (hb hby d5_23) rfl ?_
      exact retI X0 hx Bd.returns (hb hby d5_25) hr
    · show Q_cq2 Z _ _ _ _ _ _ h0 n0 _ s₁.heap _
      rw [e0]
      exact ⟨N0, (Keep.refl h0 [ob]), Or.inr (Or.inl ⟨rfl, by omega, _, Vb⟩)⟩
  · obtain ⟨cl5, Ar5, q5, S5, M5, H5, G5⟩ := id Vb
    have hin5 : ¬ ((0 : Int32) < 0 ∨ cl5.slots.size ≤ ((0 : Int32)).toNatClampNeg) := inb_of S5 ⟨by decide, by decide⟩
    obtain ⟨T6, h6, X6, e6, W6, st6⟩ := stB X0 hx hZ e0 Ar5 (j := (0 : Int32)) hin5 (g := (mkF m 31 #[.val (.ref oc), .val (.int 0), .val (.ref ob), .val (.int 0), .val (.int 2), .val (.int 0), .val (.int c0)] [(.int (c0.toInt8.toInt32)), (.int 0), (.ref ob)])) rfl rfl (hb hby d5_31)
    have N6 := Fr.snoc X6 N0 gb
    have Zs7 : n0 ≤ h6.size := by rw [W6.size]; exact Z0
    have V6 : Arv Z h6 ob kb .byte (2 : Int32) [(.int (nar .byte (c0.toInt8.toInt32))), (.int 0)] (.int 0) := Arv.set Ar5 q5 S5 M5 H5 G5 (fits_nar_byte _) W6 0 rfl (Nat.le_of_ble_eq_true rfl)
    have hc7_8 : (1 : Int) < (2 : Int) := by decide
    have f9 := (Vc.other W6 ncb)
    obtain ⟨cl10, Ar10, q10, S10, M10, H10, G10⟩ := id f9
    have hin10 : ¬ ((1 : Int32) < 0 ∨ cl10.slots.size ≤ ((1 : Int32)).toNatClampNeg) := inb_of S10 ⟨by decide, by decide⟩
    have hat10 : cl10.slots[((1 : Int32)).toNatClampNeg]? = some (.int c1) := Has.at H10 hin10 rfl
    have pre12 : oP p e below (T6.setTop (mkF m 20 #[.val (.ref oc), .val (.int 1), .val (.ref ob), .val (.int 1), .val (.int 2), .val (.int 1), .val (.int c1)] [(.int 255), (.int c1)])) (s₁.setTop (entryFrame m #[(.ref oc), (.int 0), (.ref ob), (.int 0), (.int 2)] 7)) := fun t kt => by
      refine pre4 _ ?_
      show Steps p.tables e below (s₁.setTop (mkF m 20 #[.val (.ref oc), .val (.int 0), .val (.ref ob), .val (.int 0), .val (.int 2), .val (.int 0), .val (.int c0)] [(.int 255), (.int c0)])) _
      refine XS.icmpYes X0.here hx rfl (pc0 := 20) (pc' := 26) rfl (hb hby d5_20) rfl (own_flt (a := (255 : Int32)) (b := c0) (by decide) rfl hc20_3).2.2.2 (by decide) (by decide) ?_
      refine XS.aloadN X0.here hx rfl (hb hby d5_26) rfl rfl ?_
      refine XS.iloadN X0.here hx rfl (hb hby d5_27) rfl ?_
      refine XS.iload X0.here hx rfl (hb hby d5_28) rfl ?_
      refine XS.i2b X0.here hx rfl (hb hby d5_30) rfl ?_
      refine st6 _ ?_
      refine XS.iinc X6.here hx rfl (hb hby d5_32) rfl (l' := #[.val (.ref oc), .val (.int 1), .val (.ref ob), .val (.int 0), .val (.int 2), .val (.int 0), .val (.int c0)]) rfl ?_
      show Steps p.tables e below (T6.setTop (mkF m 35 #[.val (.ref oc), .val (.int 1), .val (.ref ob), .val (.int 0), .val (.int 2), .val (.int 0), .val (.int c0)] [])) _
      refine XS.iinc X6.here hx rfl (hb hby d5_35) rfl (l' := #[.val (.ref oc), .val (.int 1), .val (.ref ob), .val (.int 1), .val (.int 2), .val (.int 0), .val (.int c0)]) rfl ?_
      refine XS.iinc X6.here hx rfl (hb hby d5_38) rfl (l' := #[.val (.ref oc), .val (.int 1), .val (.ref ob), .val (.int 1), .val (.int 2), .val (.int 1), .val (.int c0)]) rfl ?_
      refine XS.goto X6.here hx rfl (pc0 := 41) (pc' := 3) rfl (hb hby d5_41) (by decide) (by decide) ?_
      refine XS.iload X6.here hx rfl (hb hby d5_3) rfl ?_
      refine XS.iload X6.here hx rfl (hb hby d5_5) rfl ?_
      refine XS.icmpNo X6.here hx rfl (hb hby d5_7) rfl (own_tlt (a := (1 : Int32)) (b := (2 : Int32)) (by decide) (by decide) hc7_8).2.1 ?_
      refine XS.aloadN X6.here hx rfl (hb hby d5_10) rfl rfl ?_
      refine XS.iloadN X6.here hx rfl (hb hby d5_11) rfl ?_
      refine X6.caload hx (j := (1 : Int32)) (v := (.int c1)) (by rw [e6]; exact Ar10.1) (State.isArrayOf_alike hZ.alike Ar10.2.1) Ar10.2.2 hin10 hat10 (g := (mkF m 12 #[.val (.ref oc), .val (.int 1), .val (.ref ob), .val (.int 1), .val (.int 2), .val (.int 1), .val (.int c0)] [(.int 1), (.ref oc)])) rfl rfl (hb hby d5_12) _ ?_
      refine XS.istore X6.here hx rfl (hb hby d5_13) rfl (l' := #[.val (.ref oc), .val (.int 1), .val (.ref ob), .val (.int 1), .val (.int 2), .val (.int 1), .val (.int c1)]) rfl ?_
      refine XS.iload X6.here hx rfl (hb hby d5_15) rfl ?_
      refine XS.sipush X6.here hx rfl (hb hby d5_17) ?_
      exact kt
    by_cases hc20_11 : (255 : Int) < c1.toInt
    · obtain ⟨fs, hr, q1, q2, q3, q4⟩ := X6.leave (v := some (.int 1)) (fun h => by rw [Bd.returns] at h; cases h)
      refine ⟨_, _, pre12 _ ?_, q1, q2, _, _, rfl, ?_, ⟨_, rfl⟩, q3, q4.mono (by decide) (by decide)⟩
      · show Steps p.tables e below (T6.setTop (mkF m 20 #[.val (.ref oc), .val (.int 1), .val (.ref ob), .val (.int 1), .val (.int 2), .val (.int 1), .val (.int c1)] [(.int 255), (.int c1)])) _
        refine XS.icmpNo X6.here hx rfl (hb hby d5_20) rfl (own_tlt (a := (255 : Int32)) (b := c1) (by decide) rfl hc20_11).2.2.2 ?_
        refine XS.iload X6.here hx rfl (hb hby d5_23) rfl ?_
        exact retI X6 hx Bd.returns (hb hby d5_25) hr
      · show Q_cq2 Z _ _ _ _ _ _ h0 n0 _ T6.heap _
        rw [e6]
        have f13 := ((Keep.refl h0 [ob]).wr W6 (Or.inl (List.mem_of_getElem? (i := 0) rfl)))
        exact ⟨N6, f13, Or.inr (Or.inr (⟨rfl, by omega, _, V6⟩))⟩
    · obtain ⟨cl14, Ar14, q14, S14, M14, H14, G14⟩ := id V6
      have hin14 : ¬ ((1 : Int32) < 0 ∨ cl14.slots.size ≤ ((1 : Int32)).toNatClampNeg) := inb_of S14 ⟨by decide, by decide⟩
      obtain ⟨T15, h15, X15, e15, W15, st15⟩ := stB X6 hx hZ e6 Ar14 (j := (1 : Int32)) hin14 (g := (mkF m 31 #[.val (.ref oc), .val (.int 1), .val (.ref ob), .val (.int 1), .val (.int 2), .val (.int 1), .val (.int c1)] [(.int (c1.toInt8.toInt32)), (.int 1), (.ref ob)])) rfl rfl (hb hby d5_31)
      have N15 := Fr.snoc X15 N6 gb
      have Zs16 : n0 ≤ h15.size := by rw [W15.size]; exact Zs7
      have V15 : Arv Z h15 ob kb .byte (2 : Int32) [(.int (nar .byte (c0.toInt8.toInt32))), (.int (nar .byte (c1.toInt8.toInt32)))] (.int 0) := Arv.set Ar14 q14 S14 M14 H14 G14 (fits_nar_byte _) W15 1 rfl (Nat.le_of_ble_eq_true rfl)
      have hc7_17 : ¬ ((2 : Int) < (2 : Int)) := by decide
      obtain ⟨fs, hr, q1, q2, q3, q4⟩ := X15.leave (v := some (.int 2)) (fun h => by rw [Bd.returns] at h; cases h)
      refine ⟨_, _, pre12 _ ?_, q1, q2, _, _, rfl, ?_, ⟨_, rfl⟩, q3, q4.mono (by decide) (by decide)⟩
      · show Steps p.tables e below (T6.setTop (mkF m 20 #[.val (.ref oc), .val (.int 1), .val (.ref ob), .val (.int 1), .val (.int 2), .val (.int 1), .val (.int c1)] [(.int 255), (.int c1)])) _
        refine XS.icmpYes X6.here hx rfl (pc0 := 20) (pc' := 26) rfl (hb hby d5_20) rfl (own_flt (a := (255 : Int32)) (b := c1) (by decide) rfl hc20_11).2.2.2 (by decide) (by decide) ?_
        refine XS.aloadN X6.here hx rfl (hb hby d5_26) rfl rfl ?_
        refine XS.iloadN X6.here hx rfl (hb hby d5_27) rfl ?_
        refine XS.iload X6.here hx rfl (hb hby d5_28) rfl ?_
        refine XS.i2b X6.here hx rfl (hb hby d5_30) rfl ?_
        refine st15 _ ?_
        refine XS.iinc X15.here hx rfl (hb hby d5_32) rfl (l' := #[.val (.ref oc), .val (.int 2), .val (.ref ob), .val (.int 1), .val (.int 2), .val (.int 1), .val (.int c1)]) rfl ?_
        show Steps p.tables e below (T15.setTop (mkF m 35 #[.val (.ref oc), .val (.int 2), .val (.ref ob), .val (.int 1), .val (.int 2), .val (.int 1), .val (.int c1)] [])) _
        refine XS.iinc X15.here hx rfl (hb hby d5_35) rfl (l' := #[.val (.ref oc), .val (.int 2), .val (.ref ob), .val (.int 2), .val (.int 2), .val (.int 1), .val (.int c1)]) rfl ?_
        refine XS.iinc X15.here hx rfl (hb hby d5_38) rfl (l' := #[.val (.ref oc), .val (.int 2), .val (.ref ob), .val (.int 2), .val (.int 2), .val (.int 2), .val (.int c1)]) rfl ?_
        refine XS.goto X15.here hx rfl (pc0 := 41) (pc' := 3) rfl (hb hby d5_41) (by decide) (by decide) ?_
        refine XS.iload X15.here hx rfl (hb hby d5_3) rfl ?_
        refine XS.iload X15.here hx rfl (hb hby d5_5) rfl ?_
        refine XS.icmpYes X15.here hx rfl (pc0 := 7) (pc' := 44) rfl (hb hby d5_7) rfl (own_flt (a := (2 : Int32)) (b := (2 : Int32)) (by decide) (by decide) hc7_17).2.1 (by decide) (by decide) ?_
        refine XS.iload X15.here hx rfl (hb hby d5_44) rfl ?_
        exact retI X15 hx Bd.returns (hb hby d5_46) hr
      · show Q_cq2 Z _ _ _ _ _ _ h0 n0 _ T15.heap _
        rw [e15]
        have f18 := (((Keep.refl h0 [ob]).wr W6 (Or.inl (List.mem_of_getElem? (i := 0) rfl))).wr W15 (Or.inl (List.mem_of_getElem? (i := 0) rfl)))
        exact ⟨N15, f18, Or.inl ⟨rfl, ⟨by omega, by omega⟩, _, _, V15, own_b2 c0 uc0 (by omega), own_b2 c1 uc1 (by omega)⟩⟩
theorem ef_rm_cr2 (m : MethodId) (x0 : Addr) : entryFrame m #[(.ref x0), (.int 0), (.int 2)] 6 = mkF m 0 #[.val (.ref x0), .val (.int 0), .val (.int 2), .unset, .unset, .unset] [] := by first | (simp [entryFrame, mkF, argsToLocals, Value.category]; done) | rfl
def Q_cr2 (Z : State) (oc : Addr) (vcs : Int32) (vf : Value) (kC : ClassId) (c0 : Int32) (c1 : Int32) (h0 : Heap) (n0 : Nat) (v : Option Value) (h : Heap) (L : List Loc) : Prop := ∃ (ob : Addr) (kb : ClassId), v = some (.ref ob) ∧ Fr n0 L ∧ Keep h0 h [] ∧ n0 ≤ ob ∧ h0.size ≤ ob ∧ (((c0.toInt ≤ 255 ∧ c1.toInt ≤ 255) ∧ ∃ bb0 bb1 : Int32, Arv Z h ob kb .byte (2 : Int32) [(.int bb0), (.int bb1)] (.int 0) ∧ bb0.toInt % 256 = c0.toInt ∧ bb1.toInt % 256 = c1.toInt) ∨ (¬ (c0.toInt ≤ 255 ∧ c1.toInt ≤ 255) ∧ ∃ lo0 hi0 lo1 hi1 : Int32, Arv Z h ob kb .byte (4 : Int32) [(.int lo0), (.int hi0), (.int lo1), (.int hi1)] (.int 0) ∧ lo0.toInt % 256 = c0.toInt % 256 ∧ hi0.toInt % 256 = c0.toInt / 256 ∧ lo1.toInt % 256 = c1.toInt % 256 ∧ hi1.toInt % 256 = c1.toInt / 256))
theorem rm_cr2 (l : Launch) (Z : State) (a0 : Array Value) (hw : ∀ d ∈ tables_1, d.before a0 Z = true) (ws : List Jvm.Cond) (oc : Addr) (vcs : Int32) (vf : Value) (kC : ClassId) (c0 : Int32) (c1 : Int32) (h0 : Heap) (n0 : Nat) (Z0 : n0 ≤ h0.size) (Os : own_st Z h0 vcs vf) (Vc : Arv Z h0 oc kC .char (2 : Int32) [(.int c0), (.int c1)] (.int 0)) (uc0 : 0 ≤ c0.toInt) (uc1 : 0 ≤ c1.toInt) (vc0 : c0.toInt < 65536) (vc1 : c1.toInt < 65536) :
    MetFree l yn9 (head1 (Jvm.Cond.code yn9 jdk_52_method_16_code 6 (some (.array .byte)) :: ws) ⟨3, 2, 6, 40⟩) (fun a U => a = #[(.ref oc), (.int 0), (.int 2)] ∧ Z.Warmed39 U.vm ∧ U.heap = h0) (fun _ _ _ _ _ => True) (fun _ U o U' => ∃ v L, o = .returned v ∧ Q_cr2 Z oc vcs vf kC c0 c1 h0 n0 v U'.heap L ∧ FrameEnd U o U' L 2 6) := by
  refine MetFree.of_bodySF (plainFor_of_name pn_2) hisR ?_
  intro p e s m args below meth c s₁ Bd hml0 hP hK
  obtain ⟨rfl, hZ, hh⟩ := hP
  have hx := Bd.exec
  have hby := Bd.bytes
  have hml : c.maxLocals = 6 := hml0
  have hown : s.vm.findClass "java/lang/StringUTF16" = some m.cls := findClass_of_methodNamed Bd.named
  have hnm := (name_of_methodNamed Bd.named Bd.method).1
  have X0 : Stand p l e ⟨3, 2, 6, 40⟩ s m #[(.ref oc), (.int 0), (.int 2)] below meth c s₁ [] 0 0 := Stand.of_body Bd
  have e0 : s₁.heap = h0 := by rw [← hh, Bd.state]; rfl
  have N0 := Fr.nil n0
  have pre0 : oP p e below (s₁.setTop (mkF m 0 #[.val (.ref oc), .val (.int 0), .val (.int 2), .unset, .unset, .unset] [])) (s₁.setTop (entryFrame m #[(.ref oc), (.int 0), (.int 2)] 6)) := fun t k => castTop (ef_rm_cr2 m oc) k
  obtain ⟨T1, h1, k1, X1, e1, E1, A1, st1⟩ := newP X0 hx hZ (ow hw 21 rfl) e0 (g := (mkF m 1 #[.val (.ref oc), .val (.int 0), .val (.int 2), .unset, .unset, .unset] [(.int 2)])) rfl (hb hby d4_1) rfl (by decide) (cap := 2) (by decide) (by decide) (by decide) (by decide)
  obtain ⟨b1, g1⟩ : ∃ z, z = h0.size := ⟨_, rfl⟩
  have ne_oc_b1 : oc ≠ b1 := Nat.ne_of_lt (Nat.lt_of_lt_of_le Vc.lt (Nat.le_of_eq g1.symm))
  have g_b1 : n0 ≤ b1 := Nat.le_trans Z0 (Nat.le_of_eq g1.symm)
  have sz_b1 : h0.size ≤ b1 := Nat.le_trans (Keep.refl h0 []).1 (Nat.le_of_eq g1.symm)
  rw [← g1] at A1 st1
  have Zs2 : n0 ≤ h1.size := Nat.le_trans Z0 E1.1
  have V1 : Arv Z h1 b1 k1 .byte (2 : Int32) [(.int 0), (.int 0)] (.int 0) := (Arv.new A1 (by decide)).pad (pad_rep [] (.int 0) 2)
  have f4 := (Vc.ext E1)
  obtain ⟨_, _, ⟨T3, L3, k3, n3⟩, -, X3, ⟨Lc3, hQ3, l3, y3, z3⟩, st3⟩ := Jvm.LawKit.callS X1 hx (y := yn8) hown (mvT hZ (ow hw 22 rfl)) (mvT hZ (ow hw 23 rfl)) (mvT hZ (ow hw 19 rfl)) (mvT hZ (ow hw 24 rfl)) (by decide) (backOf (W := 0) (rm_cq2 l Z a0 hw [] oc b1 kC c0 c1 k1 h1 n0 Zs2 f4 uc0 uc1 vc0 vc1 V1 g_b1 ne_oc_b1) hZ (ow hw 24 rfl) (ow hw 19 rfl) (by decide) (by decide)) (g := (mkF m 9 #[.val (.ref oc), .val (.int 0), .val (.int 2), .val (.ref b1), .unset, .unset] [(.int 2), (.int 0), (.ref b1), (.int 0), (.ref oc)])) rfl (by rw [hml]; rfl) (argsL := [(.ref oc), (.int 0), (.ref b1), (.int 0), (.int 2)]) (rest := []) (lenOf pd_3 rfl) rfl (by exact Nat.le_of_eq rfl) (hb hby d4_9) (fun _ _ => ⟨rfl, e1, (by decide : 1 + 0 ≤ _), (by decide : 2 + 0 ≤ _)⟩)
  dsimp only [Pt.U, Pt.locs, Pt.cells, Pt.slots] at X3 l3 y3 z3 st3 hQ3
  rw [l3, y3, z3] at X3
  obtain ⟨N3q, K3, hO3⟩ := hQ3
  have N3 := Fr.app N0 N3q
  have Zs5 : n0 ≤ T3.heap.size := Nat.le_trans Zs2 K3.1
  rcases hO3 with ⟨rfl, hall, bb0, bb1, VbL, qbb0, qbb1⟩ | ⟨rfl, hbig, vsP, VbP⟩ | ⟨rfl, hbig, vsP, VbP⟩
  · have own_mk2 := True.intro
    have hc17_6 : (2 : Int) = (2 : Int) := by decide
    obtain ⟨fs, hr, q1, q2, q3, q4⟩ := X3.leave (v := some (.ref b1)) (fun h => by rw [Bd.returns] at h; cases h)
    refine ⟨_, _, pre0 _ ?_, q1, q2, _, _, rfl, ?_, ⟨_, rfl⟩, q3, q4.mono (by decide) (by decide)⟩
    · refine XS.iloadN X0.here hx rfl (hb hby d4_0) rfl ?_
      refine st1 _ ?_
      refine XS.astoreN X1.here hx rfl (hb hby d4_3) rfl rfl (l' := #[.val (.ref oc), .val (.int 0), .val (.int 2), .val (.ref b1), .unset, .unset]) rfl ?_
      refine XS.aloadN X1.here hx rfl (hb hby d4_4) rfl rfl ?_
      refine XS.iloadN X1.here hx rfl (hb hby d4_5) rfl ?_
      refine XS.aloadN X1.here hx rfl (hb hby d4_6) rfl rfl ?_
      refine XS.iconst X1.here hx rfl (hb hby d4_7) ?_
      refine XS.iloadN X1.here hx rfl (hb hby d4_8) rfl ?_
      refine st3 _ ?_
      refine XS.istore X3.here hx rfl (hb hby d4_12) rfl (l' := #[.val (.ref oc), .val (.int 0), .val (.int 2), .val (.ref b1), .val (.int 2), .unset]) rfl ?_
      refine XS.iload X3.here hx rfl (hb hby d4_14) rfl ?_
      refine XS.iloadN X3.here hx rfl (hb hby d4_16) rfl ?_
      refine XS.icmpYes X3.here hx rfl (pc0 := 17) (pc' := 57) rfl (hb hby d4_17) rfl (own_teq (a := (2 : Int32)) (b := (2 : Int32)) (by decide) (by decide) hc17_6).1 (by decide) (by decide) ?_
      refine XS.aloadN X3.here hx rfl (hb hby d4_57) rfl rfl ?_
      jvm_step X3.here [X3.here.top, hx, (hb hby d4_58), X3.method', Bd.returns, Value.isRef, FieldType.isReference]
      first | (intro acts; rw [hr _ acts rfl rfl rfl]) | rw [hr _ _ rfl rfl rfl]
      exact Steps.refl _
    · show Q_cr2 Z _ _ _ _ _ _ h0 n0 _ T3.heap _
      have f7 := (((Keep.refl h0 []).ext E1).trans K3 (allS (P := fun x => x ∈ [] ∨ h0.size ≤ x) (Or.inr sz_b1) all0))
      exact ⟨b1, _, rfl, N3, f7, g_b1, sz_b1, Or.inl ⟨hall, bb0, bb1, VbL, qbb0, qbb1⟩⟩
  · have own_mk0 := True.intro
    have hc17_8 : ¬ ((0 : Int) = (2 : Int)) := by decide
    have f10 := (f4.keep K3 (ninS ne_oc_b1 nin0))
    have f11 := (((Keep.refl h0 []).ext E1).trans K3 (allS (P := fun x => x ∈ [] ∨ h0.size ≤ x) (Or.inr sz_b1) all0))
    have os12 := (own_st_keep (own_st_ext Os E1) K3 (nsS V1.nostat ns0))
    obtain ⟨_, _, ⟨T9, L9, k9, n9⟩, -, X9, ⟨Lc9, hQ9, l9, y9, z9⟩, st9⟩ := Jvm.LawKit.callS X3 hx (y := yn7) hown (mvT hZ (ow hw 50 rfl)) (mvT hZ (ow hw 51 rfl)) (mvT hZ (ow hw 19 rfl)) (mvT hZ (ow hw 52 rfl)) (by decide) (backOf (W := 0) (rm_tb2 l Z a0 hw [] oc vcs vf kC c0 c1 T3.heap n0 Zs5 os12 f10 uc0 uc1 vc0 vc1) hZ (ow hw 52 rfl) (ow hw 19 rfl) (by decide) (by decide)) (g := (mkF m 23 #[.val (.ref oc), .val (.int 0), .val (.int 2), .val (.ref b1), .val (.int 0), .unset] [(.int 2), (.int 0), (.ref oc)])) rfl (by rw [hml]; rfl) (argsL := [(.ref oc), (.int 0), (.int 2)]) (rest := []) (lenOf pd_4 rfl) rfl (by exact Nat.le_of_eq rfl) (hb hby d4_23) (fun _ _ => ⟨rfl, rfl, (by decide : 1 + 1 ≤ _), (by decide : 2 + 4 ≤ _)⟩)
    dsimp only [Pt.U, Pt.locs, Pt.cells, Pt.slots] at X9 l9 y9 z9 st9 hQ9
    rw [l9, y9, z9] at X9
    obtain ⟨ou, ku, lo0, hi0, lo1, hi1, rfl, N9q, K9, gu, szu, Vu9, qlo0, qhi0, qlo1, qhi1⟩ := hQ9
    have N9 := Fr.app N3 N9q
    have Zs13 : n0 ≤ T9.heap.size := Nat.le_trans Zs5 K9.1
    have ne_oc_ou : oc ≠ ou := Nat.ne_of_lt (Nat.lt_of_lt_of_le f10.lt szu)
    have ne_b1_ou : b1 ≠ ou := Nat.ne_of_lt (Nat.lt_of_lt_of_le VbP.lt szu)
    have sz_ou : h0.size ≤ ou := Nat.le_trans f11.1 szu
    have os15 := (own_st_keep os12 K9 ns0)
    obtain ⟨_, _, ⟨T14, L14, k14, n14⟩, -, X14, ⟨Lc14, hQ14, l14, y14, z14⟩, st14⟩ := Jvm.LawKit.callS X9 hx (y := yn2) hown (mvT hZ (ow hw 66 rfl)) (mvT hZ (ow hw 67 rfl)) (mvT hZ (ow hw 19 rfl)) (mvT hZ (ow hw 68 rfl)) (by decide) (backOf (W := 0) (rm_gc l Z a0 hw [] ou (0 : Int32) vcs vf ku (4 : Int32) [(.int lo0), (.int hi0), (.int lo1), (.int hi1)] lo0 hi0 0 T9.heap n0 Zs13 os15 Vu9 (by decide) (by decide) (by decide) rfl rfl) hZ (ow hw 68 rfl) (ow hw 19 rfl) (by decide) (by decide)) (g := (mkF m 32 #[.val (.ref oc), .val (.int 0), .val (.int 2), .val (.ref b1), .val (.int 0), .val (.ref ou)] [(.int 0), (.ref ou)])) rfl (by rw [hml]; rfl) (argsL := [(.ref ou), (.int 0)]) (rest := []) (lenOf pd_5 rfl) rfl (by exact Nat.le_of_eq rfl) (hb hby d4_32) (fun _ _ => ⟨rfl, rfl, (by decide : 2 + 0 ≤ _), (by decide : 6 + 0 ≤ _)⟩)
    dsimp only [Pt.U, Pt.locs, Pt.cells, Pt.slots] at X14 l14 y14 z14 st14 hQ14
    rw [l14, y14, z14] at X14
    obtain ⟨zg, rfl, hzg, N14q, e14⟩ := hQ14
    have N14 := Fr.app N9 N14q
    have hc38_16 : (255 : Int) < zg.toInt := by omega
    obtain ⟨fs, hr, q1, q2, q3, q4⟩ := X14.leave (v := some (.ref ou)) (fun h => by rw [Bd.returns] at h; cases h)
    refine ⟨_, _, pre0 _ ?_, q1, q2, _, _, rfl, ?_, ⟨_, rfl⟩, q3, q4.mono (by decide) (by decide)⟩
    · refine XS.iloadN X0.here hx rfl (hb hby d4_0) rfl ?_
      refine st1 _ ?_
      refine XS.astoreN X1.here hx rfl (hb hby d4_3) rfl rfl (l' := #[.val (.ref oc), .val (.int 0), .val (.int 2), .val (.ref b1), .unset, .unset]) rfl ?_
      refine XS.aloadN X1.here hx rfl (hb hby d4_4) rfl rfl ?_
      refine XS.iloadN X1.here hx rfl (hb hby d4_5) rfl ?_
      refine XS.aloadN X1.here hx rfl (hb hby d4_6) rfl rfl ?_
      refine XS.iconst X1.here hx rfl (hb hby d4_7) ?_
      refine XS.iloadN X1.here hx rfl (hb hby d4_8) rfl ?_
      refine st3 _ ?_
      refine XS.istore X3.here hx rfl (hb hby d4_12) rfl (l' := #[.val (.ref oc), .val (.int 0), .val (.int 2), .val (.ref b1), .val (.int 0), .unset]) rfl ?_
      refine XS.iload X3.here hx rfl (hb hby d4_14) rfl ?_
      refine XS.iloadN X3.here hx rfl (hb hby d4_16) rfl ?_
      refine XS.icmpNo X3.here hx rfl (hb hby d4_17) rfl (own_feq (a := (0 : Int32)) (b := (2 : Int32)) (by decide) (by decide) hc17_8).1 ?_
      refine XS.aloadN X3.here hx rfl (hb hby d4_20) rfl rfl ?_
      refine XS.iloadN X3.here hx rfl (hb hby d4_21) rfl ?_
      refine XS.iloadN X3.here hx rfl (hb hby d4_22) rfl ?_
      refine st9 _ ?_
      refine XS.astore X9.here hx rfl (hb hby d4_26) rfl rfl (l' := #[.val (.ref oc), .val (.int 0), .val (.int 2), .val (.ref b1), .val (.int 0), .val (.ref ou)]) rfl ?_
      refine XS.aload X9.here hx rfl (hb hby d4_28) rfl rfl ?_
      show Steps p.tables e below (T9.setTop (mkF m 30 #[.val (.ref oc), .val (.int 0), .val (.int 2), .val (.ref b1), .val (.int 0), .val (.ref ou)] [(.ref ou)])) _
      refine XS.iload X9.here hx rfl (hb hby d4_30) rfl ?_
      refine st14 _ ?_
      refine XS.sipush X14.here hx rfl (hb hby d4_35) ?_
      refine XS.icmpYes X14.here hx rfl (pc0 := 38) (pc' := 54) rfl (hb hby d4_38) rfl (own_tlt (a := (255 : Int32)) (b := zg) (by decide) rfl hc38_16).2.2.1 (by decide) (by decide) ?_
      refine XS.aload X14.here hx rfl (hb hby d4_54) rfl rfl ?_
      jvm_step X14.here [X14.here.top, hx, (hb hby d4_56), X14.method', Bd.returns, Value.isRef, FieldType.isReference]
      first | (intro acts; rw [hr _ acts rfl rfl rfl]) | rw [hr _ _ rfl rfl rfl]
      exact Steps.refl _
    · show Q_cr2 Z _ _ _ _ _ _ h0 n0 _ T14.heap _
      rw [e14]
      have f17 := (f11.trans K9 all0)
      exact ⟨ou, _, rfl, N14, f17, gu, sz_ou, Or.inr ⟨fun q => by omega, lo0, hi0, lo1, hi1, Vu9, qlo0, qhi0, qlo1, qhi1⟩⟩
  · have own_mk1 := True.intro
    have hc17_18 : ¬ ((1 : Int) = (2 : Int)) := by decide
    have f20 := (f4.keep K3 (ninS ne_oc_b1 nin0))
    have f21 := (((Keep.refl h0 []).ext E1).trans K3 (allS (P := fun x => x ∈ [] ∨ h0.size ≤ x) (Or.inr sz_b1) all0))
    have os22 := (own_st_keep (own_st_ext Os E1) K3 (nsS V1.nostat ns0))
    obtain ⟨_, _, ⟨T19, L19, k19, n19⟩, -, X19, ⟨Lc19, hQ19, l19, y19, z19⟩, st19⟩ := Jvm.LawKit.callS X3 hx (y := yn7) hown (mvT hZ (ow hw 50 rfl)) (mvT hZ (ow hw 51 rfl)) (mvT hZ (ow hw 19 rfl)) (mvT hZ (ow hw 52 rfl)) (by decide) (backOf (W := 0) (rm_tb2 l Z a0 hw [] oc vcs vf kC c0 c1 T3.heap n0 Zs5 os22 f20 uc0 uc1 vc0 vc1) hZ (ow hw 52 rfl) (ow hw 19 rfl) (by decide) (by decide)) (g := (mkF m 23 #[.val (.ref oc), .val (.int 0), .val (.int 2), .val (.ref b1), .val (.int 1), .unset] [(.int 2), (.int 0), (.ref oc)])) rfl (by rw [hml]; rfl) (argsL := [(.ref oc), (.int 0), (.int 2)]) (rest := []) (lenOf pd_4 rfl) rfl (by exact Nat.le_of_eq rfl) (hb hby d4_23) (fun _ _ => ⟨rfl, rfl, (by decide : 1 + 1 ≤ _), (by decide : 2 + 4 ≤ _)⟩)
    dsimp only [Pt.U, Pt.locs, Pt.cells, Pt.slots] at X19 l19 y19 z19 st19 hQ19
    rw [l19, y19, z19] at X19
    obtain ⟨ou, ku, lo0, hi0, lo1, hi1, rfl, N19q, K19, gu, szu, Vu19, qlo0, qhi0, qlo1, qhi1⟩ := hQ19
    have N19 := Fr.app N3 N19q
    have Zs23 : n0 ≤ T19.heap.size := Nat.le_trans Zs5 K19.1
    have ne_oc_ou : oc ≠ ou := Nat.ne_of_lt (Nat.lt_of_lt_of_le f20.lt szu)
    have ne_b1_ou : b1 ≠ ou := Nat.ne_of_lt (Nat.lt_of_lt_of_le VbP.lt szu)
    have sz_ou : h0.size ≤ ou := Nat.le_trans f21.1 szu
    have os25 := (own_st_keep os22 K19 ns0)
    obtain ⟨_, _, ⟨T24, L24, k24, n24⟩, -, X24, ⟨Lc24, hQ24, l24, y24, z24⟩, st24⟩ := Jvm.LawKit.callS X19 hx (y := yn2) hown (mvT hZ (ow hw 66 rfl)) (mvT hZ (ow hw 67 rfl)) (mvT hZ (ow hw 19 rfl)) (mvT hZ (ow hw 68 rfl)) (by decide) (backOf (W := 0) (rm_gc l Z a0 hw [] ou (1 : Int32) vcs vf ku (4 : Int32) [(.int lo0), (.int hi0), (.int lo1), (.int hi1)] lo1 hi1 1 T19.heap n0 Zs23 os25 Vu19 (by decide) (by decide) (by decide) rfl rfl) hZ (ow hw 68 rfl) (ow hw 19 rfl) (by decide) (by decide)) (g := (mkF m 32 #[.val (.ref oc), .val (.int 0), .val (.int 2), .val (.ref b1), .val (.int 1), .val (.ref ou)] [(.int 1), (.ref ou)])) rfl (by rw [hml]; rfl) (argsL := [(.ref ou), (.int 1)]) (rest := []) (lenOf pd_5 rfl) rfl (by exact Nat.le_of_eq rfl) (hb hby d4_32) (fun _ _ => ⟨rfl, rfl, (by decide : 2 + 0 ≤ _), (by decide : 6 + 0 ≤ _)⟩)
    dsimp only [Pt.U, Pt.locs, Pt.cells, Pt.slots] at X24 l24 y24 z24 st24 hQ24
    rw [l24, y24, z24] at X24
    obtain ⟨zg, rfl, hzg, N24q, e24⟩ := hQ24
    have N24 := Fr.app N19 N24q
    have hc38_26 : (255 : Int) < zg.toInt := by omega
    obtain ⟨fs, hr, q1, q2, q3, q4⟩ := X24.leave (v := some (.ref ou)) (fun h => by rw [Bd.returns] at h; cases h)
    refine ⟨_, _, pre0 _ ?_, q1, q2, _, _, rfl, ?_, ⟨_, rfl⟩, q3, q4.mono (by decide) (by decide)⟩
    · refine XS.iloadN X0.here hx rfl (hb hby d4_0) rfl ?_
      refine st1 _ ?_
      refine XS.astoreN X1.here hx rfl (hb hby d4_3) rfl rfl (l' := #[.val (.ref oc), .val (.int 0), .val (.int 2), .val (.ref b1), .unset, .unset]) rfl ?_
      refine XS.aloadN X1.here hx rfl (hb hby d4_4) rfl rfl ?_
      refine XS.iloadN X1.here hx rfl (hb hby d4_5) rfl ?_
      refine XS.aloadN X1.here hx rfl (hb hby d4_6) rfl rfl ?_
      refine XS.iconst X1.here hx rfl (hb hby d4_7) ?_
      refine XS.iloadN X1.here hx rfl (hb hby d4_8) rfl ?_
      refine st3 _ ?_
      refine XS.istore X3.here hx rfl (hb hby d4_12) rfl (l' := #[.val (.ref oc), .val (.int 0), .val (.int 2), .val (.ref b1), .val (.int 1), .unset]) rfl ?_
      refine XS.iload X3.here hx rfl (hb hby d4_14) rfl ?_
      refine XS.iloadN X3.here hx rfl (hb hby d4_16) rfl ?_
      refine XS.icmpNo X3.here hx rfl (hb hby d4_17) rfl (own_feq (a := (1 : Int32)) (b := (2 : Int32)) (by decide) (by decide) hc17_18).1 ?_
      refine XS.aloadN X3.here hx rfl (hb hby d4_20) rfl rfl ?_
      refine XS.iloadN X3.here hx rfl (hb hby d4_21) rfl ?_
      refine XS.iloadN X3.here hx rfl (hb hby d4_22) rfl ?_
      refine st19 _ ?_
      refine XS.astore X19.here hx rfl (hb hby d4_26) rfl rfl (l' := #[.val (.ref oc), .val (.int 0), .val (.int 2), .val (.ref b1), .val (.int 1), .val (.ref ou)]) rfl ?_
      refine XS.aload X19.here hx rfl (hb hby d4_28) rfl rfl ?_
      show Steps p.tables e below (T19.setTop (mkF m 30 #[.val (.ref oc), .val (.int 0), .val (.int 2), .val (.ref b1), .val (.int 1), .val (.ref ou)] [(.ref ou)])) _
      refine XS.iload X19.here hx rfl (hb hby d4_30) rfl ?_
      refine st24 _ ?_
      refine XS.sipush X24.here hx rfl (hb hby d4_35) ?_
      refine XS.icmpYes X24.here hx rfl (pc0 := 38) (pc' := 54) rfl (hb hby d4_38) rfl (own_tlt (a := (255 : Int32)) (b := zg) (by decide) rfl hc38_26).2.2.1 (by decide) (by decide) ?_
      refine XS.aload X24.here hx rfl (hb hby d4_54) rfl rfl ?_
      jvm_step X24.here [X24.here.top, hx, (hb hby d4_56), X24.method', Bd.returns, Value.isRef, FieldType.isReference]
      first | (intro acts; rw [hr _ acts rfl rfl rfl]) | rw [hr _ _ rfl rfl rfl]
      exact Steps.refl _
    · show Q_cr2 Z _ _ _ _ _ _ h0 n0 _ T24.heap _
      rw [e24]
      have f27 := (f21.trans K19 all0)
      exact ⟨ou, _, rfl, N24, f27, gu, sz_ou, Or.inr ⟨fun q => by omega, lo0, hi0, lo1, hi1, Vu19, qlo0, qhi0, qlo1, qhi1⟩⟩
theorem ef_rm_cg2_0 (m : MethodId) (x0 : Addr) : entryFrame m #[(.ref x0), (.int 2)] 2 = mkF m 0 #[.val (.ref x0), .val (.int 2)] [] := by first | (simp [entryFrame, mkF, argsToLocals, Value.category]; done) | rfl
def Q_cg2_0 (Z : State) (ob : Addr) (kb : ClassId) (vs : List Value) (h0 : Heap) (n0 : Nat) (v : Option Value) (h : Heap) (L : List Loc) : Prop := ∃ z : Int32, v = some (.int z) ∧ (z = (0 : Int32)) ∧ Fr n0 L ∧ h = h0
theorem rm_cg2_0 (l : Launch) (Z : State) (a0 : Array Value) (hw : ∀ d ∈ tables_1, d.before a0 Z = true) (ws : List Jvm.Cond) (ob : Addr) (kb : ClassId) (vs : List Value) (h0 : Heap) (n0 : Nat) (Z0 : n0 ≤ h0.size) (Vb : Arv Z h0 ob kb .byte (2 : Int32) vs (.int 0)) :
    MetFree l yn10 (head1 (Jvm.Cond.code yn10 jdk_52_method_15_code 2 (some .byte) :: ws) ⟨0, 0, 0, 0⟩) (fun a U => a = #[(.ref ob), (.int 2)] ∧ Z.Warmed39 U.vm ∧ U.heap = h0) (fun _ _ _ _ _ => True) (fun _ U o U' => ∃ v L, o = .returned v ∧ Q_cg2_0 Z ob kb vs h0 n0 v U'.heap L ∧ FrameEnd U o U' L 0 0) := by
  refine MetFree.of_bodySF (plainFor_of_name pn_2) hisR ?_
  intro p e s m args below meth c s₁ Bd hml0 hP hK
  obtain ⟨rfl, hZ, hh⟩ := hP
  have hx := Bd.exec
  have hby := Bd.bytes
  have hml : c.maxLocals = 2 := hml0
  have hown : s.vm.findClass "java/lang/StringUTF16" = some m.cls := findClass_of_methodNamed Bd.named
  have hnm := (name_of_methodNamed Bd.named Bd.method).1
  have X0 : Stand p l e ⟨0, 0, 0, 0⟩ s m #[(.ref ob), (.int 2)] below meth c s₁ [] 0 0 := Stand.of_body Bd
  have e0 : s₁.heap = h0 := by rw [← hh, Bd.state]; rfl
  have N0 := Fr.nil n0
  have pre0 : oP p e below (s₁.setTop (mkF m 0 #[.val (.ref ob), .val (.int 2)] [])) (s₁.setTop (entryFrame m #[(.ref ob), (.int 2)] 2)) := fun t k => castTop (ef_rm_cg2_0 m ob) k
  obtain ⟨cl1, Ar1, q1, S1, M1, H1, G1⟩ := id Vb
  obtain ⟨fs, hr, q1, q2, q3, q4⟩ := X0.leave (v := some (.int 0)) (fun h => by rw [Bd.returns] at h; cases h)
  refine ⟨_, _, pre0 _ ?_, q1, q2, _, _, rfl, ?_, ⟨_, rfl⟩, q3, q4.mono (by decide) (by decide)⟩
  · refine XS.iloadN X0.here hx rfl (hb hby d6_0) rfl ?_
    refine XS.aloadN X0.here hx rfl (hb hby d6_1) rfl rfl ?_
    refine X0.arraylength hx (by rw [e0]; exact Ar1.1) (State.isArrayOf_alike hZ.alike Ar1.2.1) (g := (mkF m 2 #[.val (.ref ob), .val (.int 2)] [(.ref ob), (.int 2)])) rfl rfl (hb hby d6_2) _ ?_
    rw [len_of S1 M1]
    refine XS.isub X0.here hx rfl (hb hby d6_3) rfl ?_
    refine XS.bipush X0.here hx rfl (hb hby d6_4) ?_
    refine XS.iushr X0.here hx rfl (hb hby d6_6) rfl ?_
    refine XS.i2b X0.here hx rfl (hb hby d6_7) rfl ?_
    exact retN X0 hx (t := .byte) Bd.returns (by simp) (hb hby d6_8) hr
  · show Q_cg2_0 Z _ _ _ h0 n0 _ s₁.heap _
    rw [e0]
    exact ⟨_, rfl, rfl, N0, rfl⟩
theorem ef_rm_cg2_1 (m : MethodId) (x0 : Addr) : entryFrame m #[(.ref x0), (.int 2)] 2 = mkF m 0 #[.val (.ref x0), .val (.int 2)] [] := by first | (simp [entryFrame, mkF, argsToLocals, Value.category]; done) | rfl
def Q_cg2_1 (Z : State) (ob : Addr) (kb : ClassId) (vs : List Value) (h0 : Heap) (n0 : Nat) (v : Option Value) (h : Heap) (L : List Loc) : Prop := ∃ z : Int32, v = some (.int z) ∧ (z = (1 : Int32)) ∧ Fr n0 L ∧ h = h0
theorem rm_cg2_1 (l : Launch) (Z : State) (a0 : Array Value) (hw : ∀ d ∈ tables_1, d.before a0 Z = true) (ws : List Jvm.Cond) (ob : Addr) (kb : ClassId) (vs : List Value) (h0 : Heap) (n0 : Nat) (Z0 : n0 ≤ h0.size) (Vb : Arv Z h0 ob kb .byte (4 : Int32) vs (.int 0)) :
    MetFree l yn10 (head1 (Jvm.Cond.code yn10 jdk_52_method_15_code 2 (some .byte) :: ws) ⟨0, 0, 0, 0⟩) (fun a U => a = #[(.ref ob), (.int 2)] ∧ Z.Warmed39 U.vm ∧ U.heap = h0) (fun _ _ _ _ _ => True) (fun _ U o U' => ∃ v L, o = .returned v ∧ Q_cg2_1 Z ob kb vs h0 n0 v U'.heap L ∧ FrameEnd U o U' L 0 0) := by
  refine MetFree.of_bodySF (plainFor_of_name pn_2) hisR ?_
  intro p e s m args below meth c s₁ Bd hml0 hP hK
  obtain ⟨rfl, hZ, hh⟩ := hP
  have hx := Bd.exec
  have hby := Bd.bytes
  have hml : c.maxLocals = 2 := hml0
  have hown : s.vm.findClass "java/lang/StringUTF16" = some m.cls := findClass_of_methodNamed Bd.named
  have hnm := (name_of_methodNamed Bd.named Bd.method).1
  have X0 : Stand p l e ⟨0, 0, 0, 0⟩ s m #[(.ref ob), (.int 2)] below meth c s₁ [] 0 0 := Stand.of_body Bd
  have e0 : s₁.heap = h0 := by rw [← hh, Bd.state]; rfl
  have N0 := Fr.nil n0
  have pre0 : oP p e below (s₁.setTop (mkF m 0 #[.val (.ref ob), .val (.int 2)] [])) (s₁.setTop (entryFrame m #[(.ref ob), (.int 2)] 2)) := fun t k => castTop (ef_rm_cg2_1 m ob) k
  obtain ⟨cl1, Ar1, q1, S1, M1, H1, G1⟩ := id Vb
  obtain ⟨fs, hr, q1, q2, q3, q4⟩ := X0.leave (v := some (.int 1)) (fun h => by rw [Bd.returns] at h; cases h)
  refine ⟨_, _, pre0 _ ?_, q1, q2, _, _, rfl, ?_, ⟨_, rfl⟩, q3, q4.mono (by decide) (by decide)⟩
  · refine XS.iloadN X0.here hx rfl (hb hby d6_0) rfl ?_
    refine XS.aloadN X0.here hx rfl (hb hby d6_1) rfl rfl ?_
    refine X0.arraylength hx (by rw [e0]; exact Ar1.1) (State.isArrayOf_alike hZ.alike Ar1.2.1) (g := (mkF m 2 #[.val (.ref ob), .val (.int 2)] [(.ref ob), (.int 2)])) rfl rfl (hb hby d6_2) _ ?_
    rw [len_of S1 M1]
    refine XS.isub X0.here hx rfl (hb hby d6_3) rfl ?_
    refine XS.bipush X0.here hx rfl (hb hby d6_4) ?_
    refine XS.iushr X0.here hx rfl (hb hby d6_6) rfl ?_
    refine XS.i2b X0.here hx rfl (hb hby d6_7) rfl ?_
    exact retN X0 hx (t := .byte) Bd.returns (by simp) (hb hby d6_8) hr
  · show Q_cg2_1 Z _ _ _ h0 n0 _ s₁.heap _
    rw [e0]
    exact ⟨_, rfl, rfl, N0, rfl⟩
theorem ef_rm_iw2 (m : MethodId) (x0 : Addr) (x1 : Addr) : entryFrame m #[(.ref x0), (.ref x1), (.int 0), (.int 2), .null] 6 = mkF m 0 #[.val (.ref x0), .val (.ref x1), .val (.int 0), .val (.int 2), .val .null, .unset] [] := by first | (simp [entryFrame, mkF, argsToLocals, Value.category]; done) | rfl
def Q_iw2 (Z : State) (oa : Addr) (oc : Addr) (vcs : Int32) (vf : Value) (kC : ClassId) (c0 : Int32) (c1 : Int32) (h0 : Heap) (n0 : Nat) (v : Option Value) (h : Heap) (L : List Loc) : Prop := v = none ∧ Fr n0 L ∧ Keep h0 h [oa] ∧ Exa Z h oa "java/lang/String" ∧ ∃ (ob : Addr) (kb : ClassId), n0 ≤ ob ∧ h0.size ≤ ob ∧ Fld Z h oa "java/lang/String" "value" "[B" (.ref ob) ∧ ((Fld Z h oa "java/lang/String" "coder" "B" (.int 0) ∧ ((c0.toInt ≤ 255 ∧ c1.toInt ≤ 255) ∧ ∃ bb0 bb1 : Int32, Arv Z h ob kb .byte (2 : Int32) [(.int bb0), (.int bb1)] (.int 0) ∧ bb0.toInt % 256 = c0.toInt ∧ bb1.toInt % 256 = c1.toInt)) ∨ (Fld Z h oa "java/lang/String" "coder" "B" (.int 1) ∧ (¬ (c0.toInt ≤ 255 ∧ c1.toInt ≤ 255) ∧ ∃ lo0 hi0 lo1 hi1 : Int32, Arv Z h ob kb .byte (4 : Int32) [(.int lo0), (.int hi0), (.int lo1), (.int hi1)] (.int 0) ∧ lo0.toInt % 256 = c0.toInt % 256 ∧ hi0.toInt % 256 = c0.toInt / 256 ∧ lo1.toInt % 256 = c1.toInt % 256 ∧ hi1.toInt % 256 = c1.toInt / 256)))
theorem rm_iw2 (l : Launch) (Z : State) (a0 : Array Value) (hw : ∀ d ∈ tables_1, d.before a0 Z = true) (ws : List Jvm.Cond) (oa : Addr) (oc : Addr) (vcs : Int32) (vf : Value) (kC : ClassId) (c0 : Int32) (c1 : Int32) (h0 : Heap) (n0 : Nat) (Z0 : n0 ≤ h0.size) (Os : own_st Z h0 vcs vf) (Es : Exa Z h0 oa "java/lang/String") (Fc : Fld Z h0 oa "java/lang/String" "coder" "B" (.int 0)) (Fv : Fld Z h0 oa "java/lang/String" "value" "[B" .null) (ga : n0 ≤ oa) (nac : oa ≠ oc) (Vc : Arv Z h0 oc kC .char (2 : Int32) [(.int c0), (.int c1)] (.int 0)) (uc0 : 0 ≤ c0.toInt) (uc1 : 0 ≤ c1.toInt) (vc0 : c0.toInt < 65536) (vc1 : c1.toInt < 65536) :
    MetFree l yn11 (head1 (Jvm.Cond.code yn11 jdk_42_method_149_code 6 none :: ws) ⟨4, 2, 6, 57⟩) (fun a U => a = #[(.ref oa), (.ref oc), (.int 0), (.int 2), .null] ∧ Z.Warmed39 U.vm ∧ U.heap = h0) (fun _ _ _ _ _ => True) (fun _ U o U' => ∃ v L, o = .returned v ∧ Q_iw2 Z oa oc vcs vf kC c0 c1 h0 n0 v U'.heap L ∧ FrameEnd U o U' L 2 6) := by
  refine MetFree.of_bodySF (plainFor_of_name pn_3) hisR ?_
  intro p e s m args below meth c s₁ Bd hml0 hP hK
  obtain ⟨rfl, hZ, hh⟩ := hP
  have hx := Bd.exec
  have hby := Bd.bytes
  have hml : c.maxLocals = 6 := hml0
  have hown : s.vm.findClass "java/lang/String" = some m.cls := findClass_of_methodNamed Bd.named
  have hnm := (name_of_methodNamed Bd.named Bd.method).1
  have X0 : Stand p l e ⟨4, 2, 6, 57⟩ s m #[(.ref oa), (.ref oc), (.int 0), (.int 2), .null] below meth c s₁ [] 0 0 := Stand.of_body Bd
  have e0 : s₁.heap = h0 := by rw [← hh, Bd.state]; rfl
  have N0 := Fr.nil n0
  have pre0 : oP p e below (s₁.setTop (mkF m 0 #[.val (.ref oa), .val (.ref oc), .val (.int 0), .val (.int 2), .val .null, .unset] [])) (s₁.setTop (entryFrame m #[(.ref oa), (.ref oc), (.int 0), (.int 2), .null] 6)) := fun t k => castTop (ef_rm_iw2 m oa oc) k
  obtain ⟨T1, X1, e1, st1⟩ := initO X0 hx hZ hown (ow hw 13 rfl) (ow hw 14 rfl) (ow hw 15 rfl) e0 (g := (mkF m 1 #[.val (.ref oa), .val (.ref oc), .val (.int 0), .val (.int 2), .val .null, .unset] [(.ref oa)])) rfl (by rw [hml]; rfl) rfl (hb hby d2_1) (by decide) (W := 0) (by exact Nat.le_of_eq rfl) (by decide)
  have hc5_2 : ¬ ((2 : Int) = (0 : Int)) := by decide
  obtain ⟨T3, X3, e3, st3⟩ := getS2 X1 hx hZ hown (host := "") (Or.inl (ow hw 16 rfl)) Via.refl e1 Os.1 (g := (mkF m 27 #[.val (.ref oa), .val (.ref oc), .val (.int 0), .val (.int 2), .val .null, .unset] [])) rfl (hb hby d2_27)
  have hc30_4 : ¬ (vcs.toInt = (0 : Int)) := by (have q := Os.2.1; omega)
  obtain ⟨_, _, ⟨T5, L5, k5, n5⟩, -, X5, ⟨Lc5, hQ5, l5, y5, z5⟩, st5⟩ := Jvm.LawKit.callS X3 hx (y := yn9) hown (mvT hZ (ow hw 17 rfl)) (mvT hZ (ow hw 18 rfl)) (mvT hZ (ow hw 19 rfl)) (mvT hZ (ow hw 20 rfl)) (by decide) (backOf (W := 0) (rm_cr2 l Z a0 hw [] oc vcs vf kC c0 c1 h0 n0 Z0 Os Vc uc0 uc1 vc0 vc1) hZ (ow hw 20 rfl) (ow hw 19 rfl) (by decide) (by decide)) (g := (mkF m 36 #[.val (.ref oa), .val (.ref oc), .val (.int 0), .val (.int 2), .val .null, .unset] [(.int 2), (.int 0), (.ref oc)])) rfl (by rw [hml]; rfl) (argsL := [(.ref oc), (.int 0), (.int 2)]) (rest := []) (lenOf pd_4 rfl) rfl (by exact Nat.le_of_eq rfl) (hb hby d2_36) (fun _ _ => ⟨rfl, e3, (by decide : 0 + 2 ≤ _), (by decide : 0 + 6 ≤ _)⟩)
  dsimp only [Pt.U, Pt.locs, Pt.cells, Pt.slots] at X5 l5 y5 z5 st5 hQ5
  rw [l5, y5, z5] at X5
  obtain ⟨ob, kb, rfl, N5q, K5, gb, szb, hO5⟩ := hQ5
  have N5 := Fr.app N0 N5q
  have Zs6 : n0 ≤ T5.heap.size := Nat.le_trans Z0 K5.1
  have ne_oa_ob : oa ≠ ob := Nat.ne_of_lt (Nat.lt_of_lt_of_le Es.lt szb)
  have ne_oc_ob : oc ≠ ob := Nat.ne_of_lt (Nat.lt_of_lt_of_le Vc.lt szb)
  have sz_ob : h0.size ≤ ob := Nat.le_trans (Keep.refl h0 [oa]).1 szb
  have pre7 : oP p e below (T5.setTop (mkF m 39 #[.val (.ref oa), .val (.ref oc), .val (.int 0), .val (.int 2), .val .null, .unset] [(.ref ob)])) (s₁.setTop (entryFrame m #[(.ref oa), (.ref oc), (.int 0), (.int 2), .null] 6)) := fun t kt => by
    refine pre0 _ ?_
    refine XS.aloadN X0.here hx rfl (hb hby d2_0) rfl rfl ?_
    refine st1 _ ?_
    refine XS.iloadN X1.here hx rfl (hb hby d2_4) rfl ?_
    refine XS.ifYes X1.here hx rfl (pc0 := 5) (pc' := 27) rfl (hb hby d2_5) rfl (own_if (own_feq (a := (2 : Int32)) (b := (0 : Int32)) (by decide) (by decide) hc5_2).2) (by decide) (by decide) ?_
    refine st3 _ ?_
    refine XS.ifNo X3.here hx rfl (hb hby d2_30) rfl (own_if (own_feq (a := vcs) (b := (0 : Int32)) rfl (by decide) hc30_4).1) ?_
    refine XS.aloadN X3.here hx rfl (hb hby d2_33) rfl rfl ?_
    refine XS.iloadN X3.here hx rfl (hb hby d2_34) rfl ?_
    refine XS.iloadN X3.here hx rfl (hb hby d2_35) rfl ?_
    refine st5 _ ?_
    exact kt
  rcases hO5 with ⟨hall, bb0, bb1, VbL, qbb0, qbb1⟩ | ⟨hall, lo0, hi0, lo1, hi1, VbU, qlo0, qhi0, qlo1, qhi1⟩
  · have own_mL := True.intro
    obtain ⟨_, _, ⟨T8, L8, k8, n8⟩, -, X8, ⟨Lc8, hQ8, l8, y8, z8⟩, st8⟩ := Jvm.LawKit.callS X5 hx (y := yn10) hown (mvT hZ (ow hw 25 rfl)) (mvT hZ (ow hw 26 rfl)) (mvT hZ (ow hw 19 rfl)) (mvT hZ (ow hw 27 rfl)) (by decide) (backOf (W := 1) (rm_cg2_0 l Z a0 hw [] ob kb [(.int bb0), (.int bb1)] T5.heap n0 Zs6 VbL) hZ (ow hw 27 rfl) (ow hw 19 rfl) (by decide) (by decide)) (g := (mkF m 45 #[.val (.ref oa), .val (.ref oc), .val (.int 0), .val (.int 2), .val .null, .val (.ref ob)] [(.int 2), (.ref ob), (.ref oa)])) rfl (by rw [hml]; rfl) (argsL := [(.ref ob), (.int 2)]) (rest := [(.ref oa)]) (lenOf pd_6 rfl) rfl (by exact Nat.le_of_eq rfl) (hb hby d2_45) (fun _ _ => ⟨rfl, rfl, (by decide : 2 + 0 ≤ _), (by decide : 6 + 0 ≤ _)⟩)
    dsimp only [Pt.U, Pt.locs, Pt.cells, Pt.slots] at X8 l8 y8 z8 st8 hQ8
    rw [l8, y8, z8] at X8
    obtain ⟨zf, rfl, hzf, N8q, e8⟩ := hQ8
    have N8 := Fr.app N5 N8q
    have pre9 : oP p e below (T8.setTop (mkF m 48 #[.val (.ref oa), .val (.ref oc), .val (.int 0), .val (.int 2), .val .null, .val (.ref ob)] [(.int zf), (.ref oa)])) (s₁.setTop (entryFrame m #[(.ref oa), (.ref oc), (.int 0), (.int 2), .null] 6)) := fun t kt => by
      refine pre7 _ ?_
      refine XS.astore X5.here hx rfl (hb hby d2_39) rfl rfl (l' := #[.val (.ref oa), .val (.ref oc), .val (.int 0), .val (.int 2), .val .null, .val (.ref ob)]) rfl ?_
      refine XS.aloadN X5.here hx rfl (hb hby d2_41) rfl rfl ?_
      refine XS.aload X5.here hx rfl (hb hby d2_42) rfl rfl ?_
      refine XS.iloadN X5.here hx rfl (hb hby d2_44) rfl ?_
      refine st8 _ ?_
      exact kt
    subst hzf
    have pre10 : oP p e below (T8.setTop (mkF m 48 #[.val (.ref oa), .val (.ref oc), .val (.int 0), .val (.int 2), .val .null, .val (.ref ob)] [(.int 0), (.ref oa)])) (s₁.setTop (entryFrame m #[(.ref oa), (.ref oc), (.int 0), (.int 2), .null] 6)) := pre9
    have f11 := (Fc.keep K5 nin0)
    have f12 := (Es.keep K5)
    obtain ⟨T13, h13, X13, e13, W13, st13⟩ := putFN X8 hx hZ hown (ow hw 28 rfl) Via.refl e8 f11 f12 (Or.inr ⟨(ow hw 29 rfl), rfl, hnm⟩) (ow hw 4 rfl) (ty := .byte) (v' := (.int 0)) (by decide) rfl rfl (g := (mkF m 48 #[.val (.ref oa), .val (.ref oc), .val (.int 0), .val (.int 2), .val .null, .val (.ref ob)] [(.int 0), (.ref oa)])) rfl rfl (hb hby d2_48)
    have N13 := Fr.snoc X13 N8 ga
    have Zs14 : n0 ≤ h13.size := by rw [W13.size]; exact Zs6
    have Fw13 := f11.same W13
    have f15 := ((Fv.keep K5 nin0).other W13 (Or.inr (slot_ne (Or.inr (ow hw 31 rfl)) (Or.inr (ow hw 29 rfl)) (by decide) (t := (.array .byte)) (t' := .byte) (by decide) (by decide))))
    have f16 := (f12.wr W13)
    obtain ⟨T17, h17, X17, e17, W17, st17⟩ := putF X13 hx hZ hown (host := "") (Or.inl (ow hw 30 rfl)) Via.refl e13 f15 f16 (Or.inr ⟨(ow hw 31 rfl), rfl, hnm⟩) (ow hw 4 rfl) (ty := (.array .byte)) (by decide) rfl rfl (g := (mkF m 54 #[.val (.ref oa), .val (.ref oc), .val (.int 0), .val (.int 2), .val .null, .val (.ref ob)] [(.ref ob), (.ref oa)])) rfl rfl (hb hby d2_54)
    have N17 := Fr.snoc X17 N13 ga
    have Zs18 : n0 ≤ h17.size := by rw [W17.size]; exact Zs14
    have Fw17 := f15.same W17
    obtain ⟨fs, hr, q1, q2, q3, q4⟩ := X17.leave (v := none) (fun _ => rfl)
    refine ⟨_, _, pre10 _ ?_, q1, q2, _, _, rfl, ?_, ⟨_, rfl⟩, q3, q4.mono (by decide) (by decide)⟩
    · refine st13 _ ?_
      refine XS.aloadN X13.here hx rfl (hb hby d2_51) rfl rfl ?_
      refine XS.aload X13.here hx rfl (hb hby d2_52) rfl rfl ?_
      refine st17 _ ?_
      show Steps p.tables e below (T17.setTop (mkF m 57 #[.val (.ref oa), .val (.ref oc), .val (.int 0), .val (.int 2), .val .null, .val (.ref ob)] [])) _
      exact X17.returnOut hx Bd.returns (hb hby d2_57) hr
    · show Q_iw2 Z _ _ _ _ _ _ _ h0 n0 _ T17.heap _
      rw [e17]
      have f19 := (Fw13.other W17 (Or.inr (slot_ne (Or.inr (ow hw 29 rfl)) (Or.inr (ow hw 31 rfl)) (by decide) (t := .byte) (t' := (.array .byte)) (by decide) (by decide))))
      have f20 := ((VbL.other W13 (Ne.symm ne_oa_ob)).other W17 (Ne.symm ne_oa_ob))
      have f21 := ((((Keep.refl h0 [oa]).trans K5 all0).wr W13 (Or.inl (List.mem_of_getElem? (i := 0) rfl))).wr W17 (Or.inl (List.mem_of_getElem? (i := 0) rfl)))
      have f22 := (f16.wr W17)
      exact ⟨rfl, N17, f21, f22, ob, kb, gb, sz_ob, Fw17, Or.inl ⟨f19, hall, bb0, bb1, f20, qbb0, qbb1⟩⟩
  · have own_mU := True.intro
    obtain ⟨_, _, ⟨T23, L23, k23, n23⟩, -, X23, ⟨Lc23, hQ23, l23, y23, z23⟩, st23⟩ := Jvm.LawKit.callS X5 hx (y := yn10) hown (mvT hZ (ow hw 25 rfl)) (mvT hZ (ow hw 26 rfl)) (mvT hZ (ow hw 19 rfl)) (mvT hZ (ow hw 27 rfl)) (by decide) (backOf (W := 1) (rm_cg2_1 l Z a0 hw [] ob kb [(.int lo0), (.int hi0), (.int lo1), (.int hi1)] T5.heap n0 Zs6 VbU) hZ (ow hw 27 rfl) (ow hw 19 rfl) (by decide) (by decide)) (g := (mkF m 45 #[.val (.ref oa), .val (.ref oc), .val (.int 0), .val (.int 2), .val .null, .val (.ref ob)] [(.int 2), (.ref ob), (.ref oa)])) rfl (by rw [hml]; rfl) (argsL := [(.ref ob), (.int 2)]) (rest := [(.ref oa)]) (lenOf pd_6 rfl) rfl (by exact Nat.le_of_eq rfl) (hb hby d2_45) (fun _ _ => ⟨rfl, rfl, (by decide : 2 + 0 ≤ _), (by decide : 6 + 0 ≤ _)⟩)
    dsimp only [Pt.U, Pt.locs, Pt.cells, Pt.slots] at X23 l23 y23 z23 st23 hQ23
    rw [l23, y23, z23] at X23
    obtain ⟨zf, rfl, hzf, N23q, e23⟩ := hQ23
    have N23 := Fr.app N5 N23q
    have pre24 : oP p e below (T23.setTop (mkF m 48 #[.val (.ref oa), .val (.ref oc), .val (.int 0), .val (.int 2), .val .null, .val (.ref ob)] [(.int zf), (.ref oa)])) (s₁.setTop (entryFrame m #[(.ref oa), (.ref oc), (.int 0), (.int 2), .null] 6)) := fun t kt => by
      refine pre7 _ ?_
      refine XS.astore X5.here hx rfl (hb hby d2_39) rfl rfl (l' := #[.val (.ref oa), .val (.ref oc), .val (.int 0), .val (.int 2), .val .null, .val (.ref ob)]) rfl ?_
      refine XS.aloadN X5.here hx rfl (hb hby d2_41) rfl rfl ?_
      refine XS.aload X5.here hx rfl (hb hby d2_42) rfl rfl ?_
      refine XS.iloadN X5.here hx rfl (hb hby d2_44) rfl ?_
      refine st23 _ ?_
      exact kt
    subst hzf
    have pre25 : oP p e below (T23.setTop (mkF m 48 #[.val (.ref oa), .val (.ref oc), .val (.int 0), .val (.int 2), .val .null, .val (.ref ob)] [(.int 1), (.ref oa)])) (s₁.setTop (entryFrame m #[(.ref oa), (.ref oc), (.int 0), (.int 2), .null] 6)) := pre24
    have f26 := (Fc.keep K5 nin0)
    have f27 := (Es.keep K5)
    obtain ⟨T28, h28, X28, e28, W28, st28⟩ := putFN X23 hx hZ hown (ow hw 28 rfl) Via.refl e23 f26 f27 (Or.inr ⟨(ow hw 29 rfl), rfl, hnm⟩) (ow hw 4 rfl) (ty := .byte) (v' := (.int 1)) (by decide) rfl rfl (g := (mkF m 48 #[.val (.ref oa), .val (.ref oc), .val (.int 0), .val (.int 2), .val .null, .val (.ref ob)] [(.int 1), (.ref oa)])) rfl rfl (hb hby d2_48)
    have N28 := Fr.snoc X28 N23 ga
    have Zs29 : n0 ≤ h28.size := by rw [W28.size]; exact Zs6
    have Fw28 := f26.same W28
    have f30 := ((Fv.keep K5 nin0).other W28 (Or.inr (slot_ne (Or.inr (ow hw 31 rfl)) (Or.inr (ow hw 29 rfl)) (by decide) (t := (.array .byte)) (t' := .byte) (by decide) (by decide))))
    have f31 := (f27.wr W28)
    obtain ⟨T32, h32, X32, e32, W32, st32⟩ := putF X28 hx hZ hown (host := "") (Or.inl (ow hw 30 rfl)) Via.refl e28 f30 f31 (Or.inr ⟨(ow hw 31 rfl), rfl, hnm⟩) (ow hw 4 rfl) (ty := (.array .byte)) (by decide) rfl rfl (g := (mkF m 54 #[.val (.ref oa), .val (.ref oc), .val (.int 0), .val (.int 2), .val .null, .val (.ref ob)] [(.ref ob), (.ref oa)])) rfl rfl (hb hby d2_54)
    have N32 := Fr.snoc X32 N28 ga
    have Zs33 : n0 ≤ h32.size := by rw [W32.size]; exact Zs29
    have Fw32 := f30.same W32
    obtain ⟨fs, hr, q1, q2, q3, q4⟩ := X32.leave (v := none) (fun _ => rfl)
    refine ⟨_, _, pre25 _ ?_, q1, q2, _, _, rfl, ?_, ⟨_, rfl⟩, q3, q4.mono (by decide) (by decide)⟩
    · refine st28 _ ?_
      refine XS.aloadN X28.here hx rfl (hb hby d2_51) rfl rfl ?_
      refine XS.aload X28.here hx rfl (hb hby d2_52) rfl rfl ?_
      refine st32 _ ?_
      show Steps p.tables e below (T32.setTop (mkF m 57 #[.val (.ref oa), .val (.ref oc), .val (.int 0), .val (.int 2), .val .null, .val (.ref ob)] [])) _
      exact X32.returnOut hx Bd.returns (hb hby d2_57) hr
    · show Q_iw2 Z _ _ _ _ _ _ _ h0 n0 _ T32.heap _
      rw [e32]
      have f34 := (Fw28.other W32 (Or.inr (slot_ne (Or.inr (ow hw 29 rfl)) (Or.inr (ow hw 31 rfl)) (by decide) (t := .byte) (t' := (.array .byte)) (by decide) (by decide))))
      have f35 := ((VbU.other W28 (Ne.symm ne_oa_ob)).other W32 (Ne.symm ne_oa_ob))
      have f36 := ((((Keep.refl h0 [oa]).trans K5 all0).wr W28 (Or.inl (List.mem_of_getElem? (i := 0) rfl))).wr W32 (Or.inl (List.mem_of_getElem? (i := 0) rfl)))
      have f37 := (f31.wr W32)
      exact ⟨rfl, N32, f36, f37, ob, kb, gb, sz_ob, Fw32, Or.inr ⟨f34, hall, lo0, hi0, lo1, hi1, f35, qlo0, qhi0, qlo1, qhi1⟩⟩
theorem ef_rm_mu2 (m : MethodId) (x0 : Addr) (x1 : Addr) : entryFrame m #[(.ref x0), (.ref x1)] 2 = mkF m 0 #[.val (.ref x0), .val (.ref x1)] [] := by first | (simp [entryFrame, mkF, argsToLocals, Value.category]; done) | rfl
def Q_mu2 (Z : State) (oa : Addr) (oc : Addr) (vcs : Int32) (vf : Value) (kC : ClassId) (c0 : Int32) (c1 : Int32) (h0 : Heap) (n0 : Nat) (v : Option Value) (h : Heap) (L : List Loc) : Prop := v = none ∧ Fr n0 L ∧ Keep h0 h [oa] ∧ Exa Z h oa "java/lang/String" ∧ ∃ (ob : Addr) (kb : ClassId), n0 ≤ ob ∧ h0.size ≤ ob ∧ Fld Z h oa "java/lang/String" "value" "[B" (.ref ob) ∧ ((Fld Z h oa "java/lang/String" "coder" "B" (.int 0) ∧ ((c0.toInt ≤ 255 ∧ c1.toInt ≤ 255) ∧ ∃ bb0 bb1 : Int32, Arv Z h ob kb .byte (2 : Int32) [(.int bb0), (.int bb1)] (.int 0) ∧ bb0.toInt % 256 = c0.toInt ∧ bb1.toInt % 256 = c1.toInt)) ∨ (Fld Z h oa "java/lang/String" "coder" "B" (.int 1) ∧ (¬ (c0.toInt ≤ 255 ∧ c1.toInt ≤ 255) ∧ ∃ lo0 hi0 lo1 hi1 : Int32, Arv Z h ob kb .byte (4 : Int32) [(.int lo0), (.int hi0), (.int lo1), (.int hi1)] (.int 0) ∧ lo0.toInt % 256 = c0.toInt % 256 ∧ hi0.toInt % 256 = c0.toInt / 256 ∧ lo1.toInt % 256 = c1.toInt % 256 ∧ hi1.toInt % 256 = c1.toInt / 256)))
theorem rm_mu2 (l : Launch) (Z : State) (a0 : Array Value) (hw : ∀ d ∈ tables_1, d.before a0 Z = true) (ws : List Jvm.Cond) (oa : Addr) (oc : Addr) (vcs : Int32) (vf : Value) (kC : ClassId) (c0 : Int32) (c1 : Int32) (h0 : Heap) (n0 : Nat) (Z0 : n0 ≤ h0.size) (Os : own_st Z h0 vcs vf) (Es : Exa Z h0 oa "java/lang/String") (Fc : Fld Z h0 oa "java/lang/String" "coder" "B" (.int 0)) (Fv : Fld Z h0 oa "java/lang/String" "value" "[B" .null) (ga : n0 ≤ oa) (nac : oa ≠ oc) (Vc : Arv Z h0 oc kC .char (2 : Int32) [(.int c0), (.int c1)] (.int 0)) (uc0 : 0 ≤ c0.toInt) (uc1 : 0 ≤ c1.toInt) (vc0 : c0.toInt < 65536) (vc1 : c1.toInt < 65536) :
    MetFree l yn12 (head1 (Jvm.Cond.code yn12 jdk_42_method_3_code 2 none :: ws) ⟨5, 2, 6, 74⟩) (fun a U => a = #[(.ref oa), (.ref oc)] ∧ Z.Warmed39 U.vm ∧ U.heap = h0) (fun _ _ _ _ _ => True) (fun _ U o U' => ∃ v L, o = .returned v ∧ Q_mu2 Z oa oc vcs vf kC c0 c1 h0 n0 v U'.heap L ∧ FrameEnd U o U' L 2 6) := by
  refine MetFree.of_bodySF (plainFor_of_name pn_3) hisR ?_
  intro p e s m args below meth c s₁ Bd hml0 hP hK
  obtain ⟨rfl, hZ, hh⟩ := hP
  have hx := Bd.exec
  have hby := Bd.bytes
  have hml : c.maxLocals = 2 := hml0
  have hown : s.vm.findClass "java/lang/String" = some m.cls := findClass_of_methodNamed Bd.named
  have hnm := (name_of_methodNamed Bd.named Bd.method).1
  have X0 : Stand p l e ⟨5, 2, 6, 74⟩ s m #[(.ref oa), (.ref oc)] below meth c s₁ [] 0 0 := Stand.of_body Bd
  have e0 : s₁.heap = h0 := by rw [← hh, Bd.state]; rfl
  have N0 := Fr.nil n0
  have pre0 : oP p e below (s₁.setTop (mkF m 0 #[.val (.ref oa), .val (.ref oc)] [])) (s₁.setTop (entryFrame m #[(.ref oa), (.ref oc)] 2)) := fun t k => castTop (ef_rm_mu2 m oa oc) k
  obtain ⟨cl1, Ar1, q1, S1, M1, H1, G1⟩ := id Vc
  obtain ⟨_, _, ⟨T2, L2, k2, n2⟩, -, X2, ⟨Lc2, hQ2, l2, y2, z2⟩, st2⟩ := X0.specialBack hx (y := yn11) rfl hown (mvT hZ (ow hw 9 rfl)) (mvT hZ (ow hw 10 rfl)) (mvT hZ (ow hw 12 rfl)) (by decide) (backOf (W := 0) (rm_iw2 l Z a0 hw [] oa oc vcs vf kC c0 c1 h0 n0 Z0 Os Es Fc Fv ga nac Vc uc0 uc1 vc0 vc1) hZ (ow hw 12 rfl) (ow hw 5 rfl) (by decide) (by decide)) (g := (mkF m 6 #[.val (.ref oa), .val (.ref oc)] [.null, (.int 2), (.int 0), (.ref oc), (.ref oa)])) rfl (by rw [hml]; rfl) (Steps.refl _) (a := oa) (argsL := [(.ref oc), (.int 0), (.int 2), .null]) (rest := []) (lenOf pd_7 rfl) rfl (by exact Nat.le_of_eq rfl) (hb hby d1_6) (fun _ _ => ⟨rfl, e0, (by decide : 0 + 2 ≤ _), (by decide : 0 + 6 ≤ _)⟩)
  dsimp only [Pt.U, Pt.locs, Pt.cells, Pt.slots] at X2 l2 y2 z2 st2 hQ2
  rw [l2, y2, z2] at X2
  obtain ⟨rfl, N2q, K2, A2, ob, kb, gb, szb, Fv2, hO2⟩ := hQ2
  have N2 := Fr.app N0 N2q
  have Zs3 : n0 ≤ T2.heap.size := Nat.le_trans Z0 K2.1
  have ne_oa_ob : oa ≠ ob := Nat.ne_of_lt (Nat.lt_of_lt_of_le Es.lt szb)
  have ne_oc_ob : oc ≠ ob := Nat.ne_of_lt (Nat.lt_of_lt_of_le Vc.lt szb)
  have sz_ob : h0.size ≤ ob := Nat.le_trans (Keep.refl h0 [oa]).1 szb
  obtain ⟨fs, hr, q1, q2, q3, q4⟩ := X2.leave (v := none) (fun _ => rfl)
  refine ⟨_, _, pre0 _ ?_, q1, q2, _, _, rfl, ?_, ⟨_, rfl⟩, q3, q4.mono (by decide) (by decide)⟩
  · refine XS.aloadN X0.here hx rfl (hb hby d1_0) rfl rfl ?_
    refine XS.aloadN X0.here hx rfl (hb hby d1_1) rfl rfl ?_
    refine XS.iconst X0.here hx rfl (hb hby d1_2) ?_
    refine XS.aloadN X0.here hx rfl (hb hby d1_3) rfl rfl ?_
    refine X0.arraylength hx (by rw [e0]; exact Ar1.1) (State.isArrayOf_alike hZ.alike Ar1.2.1) (g := (mkF m 4 #[.val (.ref oa), .val (.ref oc)] [(.ref oc), (.int 0), (.ref oc), (.ref oa)])) rfl rfl (hb hby d1_4) _ ?_
    rw [len_of S1 M1]
    refine XS.aconstNull X0.here hx rfl (hb hby d1_5) ?_
    refine st2.trans ?_
    exact X2.returnOut hx Bd.returns (hb hby d1_9) hr
  · show Q_mu2 Z _ _ _ _ _ _ _ h0 n0 _ T2.heap _
    have f4 := ((Keep.refl h0 [oa]).trans K2 (allS (P := fun x => x ∈ [oa] ∨ h0.size ≤ x) (Or.inl (List.mem_of_getElem? (i := 0) rfl)) all0))
    exact ⟨rfl, N2, f4, A2, ob, kb, gb, sz_ob, Fv2, hO2⟩
theorem ef_rm_nbl3 (m : MethodId)  : entryFrame m #[(.int 3)] 1 = mkF m 0 #[.val (.int 3)] [] := by first | (simp [entryFrame, mkF, argsToLocals, Value.category]; done) | rfl
def Q_nbl3 (Z : State)  (h0 : Heap) (n0 : Nat) (v : Option Value) (h : Heap) (L : List Loc) : Prop := ∃ z : Int32, v = some (.int z) ∧ (z = (6 : Int32)) ∧ Fr n0 L ∧ h = h0
theorem rm_nbl3 (l : Launch) (Z : State) (a0 : Array Value) (hw : ∀ d ∈ tables_1, d.before a0 Z = true) (ws : List Jvm.Cond)  (h0 : Heap) (n0 : Nat) (Z0 : n0 ≤ h0.size) :
    MetFree l yn4 (head1 (Jvm.Cond.code yn4 jdk_52_method_3_code 1 (some .int) :: ws) ⟨0, 0, 0, 0⟩) (fun a U => a = #[(.int 3)] ∧ Z.Warmed39 U.vm ∧ U.heap = h0) (fun _ _ _ _ _ => True) (fun _ U o U' => ∃ v L, o = .returned v ∧ Q_nbl3 Z  h0 n0 v U'.heap L ∧ FrameEnd U o U' L 0 0) := by
  refine MetFree.of_bodySF (plainFor_of_name pn_2) hisR ?_
  intro p e s m args below meth c s₁ Bd hml0 hP hK
  obtain ⟨rfl, hZ, hh⟩ := hP
  have hx := Bd.exec
  have hby := Bd.bytes
  have hml : c.maxLocals = 1 := hml0
  have hown : s.vm.findClass "java/lang/StringUTF16" = some m.cls := findClass_of_methodNamed Bd.named
  have hnm := (name_of_methodNamed Bd.named Bd.method).1
  have X0 : Stand p l e ⟨0, 0, 0, 0⟩ s m #[(.int 3)] below meth c s₁ [] 0 0 := Stand.of_body Bd
  have e0 : s₁.heap = h0 := by rw [← hh, Bd.state]; rfl
  have N0 := Fr.nil n0
  have pre0 : oP p e below (s₁.setTop (mkF m 0 #[.val (.int 3)] [])) (s₁.setTop (entryFrame m #[(.int 3)] 1)) := fun t k => castTop (ef_rm_nbl3 m ) k
  have hc1_1 : ¬ ((3 : Int) < (0 : Int)) := by decide
  have hc15_2 : (3 : Int) < (1073741823 : Int) := by decide
  obtain ⟨fs, hr, q1, q2, q3, q4⟩ := X0.leave (v := some (.int 6)) (fun h => by rw [Bd.returns] at h; cases h)
  refine ⟨_, _, pre0 _ ?_, q1, q2, _, _, rfl, ?_, ⟨_, rfl⟩, q3, q4.mono (by decide) (by decide)⟩
  · refine XS.iloadN X0.here hx rfl (hb hby d13_0) rfl ?_
    refine XS.ifYes X0.here hx rfl (pc0 := 1) (pc' := 12) rfl (hb hby d13_1) rfl (own_if (own_flt (a := (3 : Int32)) (b := (0 : Int32)) (by decide) (by decide) hc1_1).2.1) (by decide) (by decide) ?_
    refine XS.iloadN X0.here hx rfl (hb hby d13_12) rfl ?_
    refine X0.ldcInt hx hown (mvT hZ (ow hw 59 rfl)) (g := (mkF m 13 #[.val (.int 3)] [(.int 3)])) rfl (hb hby d13_13) _ ?_
    refine XS.icmpYes X0.here hx rfl (pc0 := 15) (pc' := 55) rfl (hb hby d13_15) rfl (own_tlt (a := (3 : Int32)) (b := (1073741823 : Int32)) (by decide) (by decide) hc15_2).1 (by decide) (by decide) ?_
    refine XS.iloadN X0.here hx rfl (hb hby d13_55) rfl ?_
    refine XS.iconst X0.here hx rfl (hb hby d13_56) ?_
    refine XS.ishl X0.here hx rfl (hb hby d13_57) rfl ?_
    exact retI X0 hx Bd.returns (hb hby d13_58) hr
  · show Q_nbl3 Z  h0 n0 _ s₁.heap _
    rw [e0]
    exact ⟨_, rfl, rfl, N0, rfl⟩
theorem ef_rm_nbf3 (m : MethodId)  : entryFrame m #[(.int 3)] 1 = mkF m 0 #[.val (.int 3)] [] := by first | (simp [entryFrame, mkF, argsToLocals, Value.category]; done) | rfl
def Q_nbf3 (Z : State)  (h0 : Heap) (n0 : Nat) (v : Option Value) (h : Heap) (L : List Loc) : Prop := ∃ (ob : Addr) (kb : ClassId), v = some (.ref ob) ∧ Fr n0 L ∧ Keep h0 h [] ∧ n0 ≤ ob ∧ h0.size ≤ ob ∧ Arv Z h ob kb .byte (6 : Int32) [(.int 0), (.int 0), (.int 0), (.int 0), (.int 0), (.int 0)] (.int 0)
theorem rm_nbf3 (l : Launch) (Z : State) (a0 : Array Value) (hw : ∀ d ∈ tables_1, d.before a0 Z = true) (ws : List Jvm.Cond)  (h0 : Heap) (n0 : Nat) (Z0 : n0 ≤ h0.size) :
    MetFree l yn5 (head1 (Jvm.Cond.code yn5 jdk_52_method_2_code 1 (some (.array .byte)) :: ws) ⟨1, 1, 6, 12⟩) (fun a U => a = #[(.int 3)] ∧ Z.Warmed39 U.vm ∧ U.heap = h0) (fun _ _ _ _ _ => True) (fun _ U o U' => ∃ v L, o = .returned v ∧ Q_nbf3 Z  h0 n0 v U'.heap L ∧ FrameEnd U o U' L 1 6) := by
  refine MetFree.of_bodySF (plainFor_of_name pn_2) hisR ?_
  intro p e s m args below meth c s₁ Bd hml0 hP hK
  obtain ⟨rfl, hZ, hh⟩ := hP
  have hx := Bd.exec
  have hby := Bd.bytes
  have hml : c.maxLocals = 1 := hml0
  have hown : s.vm.findClass "java/lang/StringUTF16" = some m.cls := findClass_of_methodNamed Bd.named
  have hnm := (name_of_methodNamed Bd.named Bd.method).1
  have X0 : Stand p l e ⟨1, 1, 6, 12⟩ s m #[(.int 3)] below meth c s₁ [] 0 0 := Stand.of_body Bd
  have e0 : s₁.heap = h0 := by rw [← hh, Bd.state]; rfl
  have N0 := Fr.nil n0
  have pre0 : oP p e below (s₁.setTop (mkF m 0 #[.val (.int 3)] [])) (s₁.setTop (entryFrame m #[(.int 3)] 1)) := fun t k => castTop (ef_rm_nbf3 m ) k
  obtain ⟨_, _, ⟨T1, L1, k1, n1⟩, -, X1, ⟨Lc1, hQ1, l1, y1, z1⟩, st1⟩ := Jvm.LawKit.callS X0 hx (y := yn4) hown (mvT hZ (ow hw 56 rfl)) (mvT hZ (ow hw 57 rfl)) (mvT hZ (ow hw 19 rfl)) (mvT hZ (ow hw 58 rfl)) (by decide) (backOf (W := 0) (rm_nbl3 l Z a0 hw []  h0 n0 Z0 ) hZ (ow hw 58 rfl) (ow hw 19 rfl) (by decide) (by decide)) (g := (mkF m 1 #[.val (.int 3)] [(.int 3)])) rfl (by rw [hml]; rfl) (argsL := [(.int 3)]) (rest := []) (lenOf pd_0 rfl) rfl (by exact Nat.le_of_eq rfl) (hb hby d12_1) (fun _ _ => ⟨rfl, e0, (by decide : 0 + 0 ≤ _), (by decide : 0 + 0 ≤ _)⟩)
  dsimp only [Pt.U, Pt.locs, Pt.cells, Pt.slots] at X1 l1 y1 z1 st1 hQ1
  rw [l1, y1, z1] at X1
  obtain ⟨zz, rfl, hzz, N1q, e1⟩ := hQ1
  have N1 := Fr.app N0 N1q
  have pre2 : oP p e below (T1.setTop (mkF m 4 #[.val (.int 3)] [(.int zz)])) (s₁.setTop (entryFrame m #[(.int 3)] 1)) := fun t kt => by
    refine pre0 _ ?_
    refine XS.iloadN X0.here hx rfl (hb hby d12_0) rfl ?_
    refine st1 _ ?_
    exact kt
  subst hzz
  have pre3 : oP p e below (T1.setTop (mkF m 4 #[.val (.int 3)] [(.int 6)])) (s₁.setTop (entryFrame m #[(.int 3)] 1)) := pre2
  obtain ⟨T4, h4, k4, X4, e4, E4, A4, st4⟩ := newP X1 hx hZ (ow hw 21 rfl) e1 (g := (mkF m 4 #[.val (.int 3)] [(.int 6)])) rfl (hb hby d12_4) rfl (by decide) (cap := 6) (by decide) (by decide) (by decide) (by decide)
  obtain ⟨b4, g4⟩ : ∃ z, z = h0.size := ⟨_, rfl⟩
  have g_b4 : n0 ≤ b4 := Nat.le_trans Z0 (Nat.le_of_eq g4.symm)
  have sz_b4 : h0.size ≤ b4 := Nat.le_trans (Keep.refl h0 []).1 (Nat.le_of_eq g4.symm)
  rw [← g4] at A4 st4
  have Zs5 : n0 ≤ h4.size := Nat.le_trans Z0 E4.1
  have V4 : Arv Z h4 b4 k4 .byte (6 : Int32) [(.int 0), (.int 0), (.int 0), (.int 0), (.int 0), (.int 0)] (.int 0) := (Arv.new A4 (by decide)).pad (pad_rep [] (.int 0) 6)
  obtain ⟨fs, hr, q1, q2, q3, q4⟩ := X4.leave (v := some (.ref b4)) (fun h => by rw [Bd.returns] at h; cases h)
  refine ⟨_, _, pre3 _ ?_, q1, q2, _, _, rfl, ?_, ⟨_, rfl⟩, q3, q4.mono (by decide) (by decide)⟩
  · refine st4 _ ?_
    jvm_step X4.here [X4.here.top, hx, (hb hby d12_6), X4.method', Bd.returns, Value.isRef, FieldType.isReference]
    first | (intro acts; rw [hr _ acts rfl rfl rfl]) | rw [hr _ _ rfl rfl rfl]
    exact Steps.refl _
  · show Q_nbf3 Z  h0 n0 _ T4.heap _
    rw [e4]
    have f6 := ((Keep.refl h0 []).ext E4)
    exact ⟨b4, _, rfl, N1, f6, g_b4, sz_b4, V4⟩
theorem ef_rm_pc3_0 (m : MethodId) (x0 : Addr) (x2 : Int32) : entryFrame m #[(.ref x0), (.int 0), (.int x2)] 3 = mkF m 0 #[.val (.ref x0), .val (.int 0), .val (.int x2)] [] := by first | (simp [entryFrame, mkF, argsToLocals, Value.category]; done) | rfl
def Q_pc3_0 (Z : State) (ob : Addr) (vc : Int32) (vcs : Int32) (vf : Value) (kb : ClassId) (u0 : Int32) (u1 : Int32) (u2 : Int32) (u3 : Int32) (u4 : Int32) (u5 : Int32) (h0 : Heap) (n0 : Nat) (v : Option Value) (h : Heap) (L : List Loc) : Prop := ∃ lo hi : Int32, v = none ∧ Fr n0 L ∧ Keep h0 h [ob] ∧ Arv Z h ob kb .byte (6 : Int32) [(.int lo), (.int hi), (.int u2), (.int u3), (.int u4), (.int u5)] (.int 0) ∧ lo.toInt % 256 = vc.toInt % 256 ∧ hi.toInt % 256 = vc.toInt / 256
theorem rm_pc3_0 (l : Launch) (Z : State) (a0 : Array Value) (hw : ∀ d ∈ tables_1, d.before a0 Z = true) (ws : List Jvm.Cond) (ob : Addr) (vc : Int32) (vcs : Int32) (vf : Value) (kb : ClassId) (u0 : Int32) (u1 : Int32) (u2 : Int32) (u3 : Int32) (u4 : Int32) (u5 : Int32) (h0 : Heap) (n0 : Nat) (Z0 : n0 ≤ h0.size) (Os : own_st Z h0 vcs vf) (Vb : Arv Z h0 ob kb .byte (6 : Int32) [(.int u0), (.int u1), (.int u2), (.int u3), (.int u4), (.int u5)] (.int 0)) (gb : n0 ≤ ob) (c1 : 0 ≤ vc.toInt) (c2 : vc.toInt < 65536) :
    MetFree l yn6 (head1 (Jvm.Cond.code yn6 jdk_52_method_4_code 3 none :: ws) ⟨0, 0, 0, 0⟩) (fun a U => a = #[(.ref ob), (.int 0), (.int vc)] ∧ Z.Warmed39 U.vm ∧ U.heap = h0) (fun _ _ _ _ _ => True) (fun _ U o U' => ∃ v L, o = .returned v ∧ Q_pc3_0 Z ob vc vcs vf kb u0 u1 u2 u3 u4 u5 h0 n0 v U'.heap L ∧ FrameEnd U o U' L 0 0) := by
  refine MetFree.of_bodySF (plainFor_of_name pn_2) hisR ?_
  intro p e s m args below meth c s₁ Bd hml0 hP hK
  obtain ⟨rfl, hZ, hh⟩ := hP
  have hx := Bd.exec
  have hby := Bd.bytes
  have hml : c.maxLocals = 3 := hml0
  have hown : s.vm.findClass "java/lang/StringUTF16" = some m.cls := findClass_of_methodNamed Bd.named
  have hnm := (name_of_methodNamed Bd.named Bd.method).1
  have X0 : Stand p l e ⟨0, 0, 0, 0⟩ s m #[(.ref ob), (.int 0), (.int vc)] below meth c s₁ [] 0 0 := Stand.of_body Bd
  have e0 : s₁.heap = h0 := by rw [← hh, Bd.state]; rfl
  have N0 := Fr.nil n0
  have pre0 : oP p e below (s₁.setTop (mkF m 0 #[.val (.ref ob), .val (.int 0), .val (.int vc)] [])) (s₁.setTop (entryFrame m #[(.ref ob), (.int 0), (.int vc)] 3)) := fun t k => castTop (ef_rm_pc3_0 m ob vc) k
  obtain ⟨T1, X1, e1, st1⟩ := getS2 X0 hx hZ hown (host := "") (Or.inl (ow hw 63 rfl)) Via.refl e0 Os.2.2.2.2.1 (g := (mkF m 0 #[.val (.ref ob), .val (.int 0), .val (.int vc)] [])) rfl (hb hby d14_0)
  have hc3_2 : ¬ ((1 : Int) = (0 : Int)) := by decide
  obtain ⟨T3, X3, e3, st3⟩ := getS2 X1 hx hZ hown (host := "") (Or.inl (ow hw 64 rfl)) Via.refl e1 Os.2.2.2.2.2.1 (g := (mkF m 38 #[.val (.ref ob), .val (.int 1), .val (.int vc)] [(.int vc), (.int 0), (.ref ob)])) rfl (hb hby d14_38)
  obtain ⟨cl4, Ar4, q4, S4, M4, H4, G4⟩ := id Vb
  have hin4 : ¬ ((0 : Int32) < 0 ∨ cl4.slots.size ≤ ((0 : Int32)).toNatClampNeg) := inb_of S4 ⟨by decide, by decide⟩
  obtain ⟨T5, h5, X5, e5, W5, st5⟩ := stB X3 hx hZ e3 Ar4 (j := (0 : Int32)) hin4 (g := (mkF m 43 #[.val (.ref ob), .val (.int 1), .val (.int vc)] [(.int ((vc >>> ((0 : Int32) &&& 31)).toInt8.toInt32)), (.int 0), (.ref ob)])) rfl rfl (hb hby d14_43)
  have N5 := Fr.snoc X5 N0 gb
  have Zs6 : n0 ≤ h5.size := by rw [W5.size]; exact Z0
  have V5 : Arv Z h5 ob kb .byte (6 : Int32) [(.int (nar .byte ((vc >>> ((0 : Int32) &&& 31)).toInt8.toInt32))), (.int u1), (.int u2), (.int u3), (.int u4), (.int u5)] (.int 0) := Arv.set Ar4 q4 S4 M4 H4 G4 (fits_nar_byte _) W5 0 rfl (Nat.le_of_ble_eq_true rfl)
  have os7 := (own_st_wr Os W5)
  obtain ⟨T8, X8, e8, st8⟩ := getS2 X5 hx hZ hown (host := "") (Or.inl (ow hw 65 rfl)) Via.refl e5 os7.2.2.2.2.2.2 (g := (mkF m 47 #[.val (.ref ob), .val (.int 1), .val (.int vc)] [(.int vc), (.int 1), (.ref ob)])) rfl (hb hby d14_47)
  obtain ⟨cl9, Ar9, q9, S9, M9, H9, G9⟩ := id V5
  have hin9 : ¬ ((1 : Int32) < 0 ∨ cl9.slots.size ≤ ((1 : Int32)).toNatClampNeg) := inb_of S9 ⟨by decide, by decide⟩
  obtain ⟨T10, h10, X10, e10, W10, st10⟩ := stB X8 hx hZ e8 Ar9 (j := (1 : Int32)) hin9 (g := (mkF m 52 #[.val (.ref ob), .val (.int 1), .val (.int vc)] [(.int ((vc >>> ((8 : Int32) &&& 31)).toInt8.toInt32)), (.int 1), (.ref ob)])) rfl rfl (hb hby d14_52)
  have N10 := Fr.snoc X10 N5 gb
  have Zs11 : n0 ≤ h10.size := by rw [W10.size]; exact Zs6
  have V10 : Arv Z h10 ob kb .byte (6 : Int32) [(.int (nar .byte ((vc >>> ((0 : Int32) &&& 31)).toInt8.toInt32))), (.int (nar .byte ((vc >>> ((8 : Int32) &&& 31)).toInt8.toInt32))), (.int u2), (.int u3), (.int u4), (.int u5)] (.int 0) := Arv.set Ar9 q9 S9 M9 H9 G9 (fits_nar_byte _) W10 1 rfl (Nat.le_of_ble_eq_true rfl)
  obtain ⟨fs, hr, q1, q2, q3, q4⟩ := X10.leave (v := none) (fun _ => rfl)
  refine ⟨_, _, pre0 _ ?_, q1, q2, _, _, rfl, ?_, ⟨_, rfl⟩, q3, q4.mono (by decide) (by decide)⟩
  · refine st1 _ ?_
    refine XS.ifYes X1.here hx rfl (pc0 := 3) (pc' := 28) rfl (hb hby d14_3) rfl (own_if (own_feq (a := (1 : Int32)) (b := (0 : Int32)) (by decide) (by decide) hc3_2).2) (by decide) (by decide) ?_
    refine XS.iloadN X1.here hx rfl (hb hby d14_28) rfl ?_
    refine XS.iconst X1.here hx rfl (hb hby d14_29) ?_
    refine XS.ishl X1.here hx rfl (hb hby d14_30) rfl ?_
    refine XS.istoreN X1.here hx rfl (hb hby d14_31) rfl (l' := #[.val (.ref ob), .val (.int 0), .val (.int vc)]) rfl ?_
    refine XS.aloadN X1.here hx rfl (hb hby d14_32) rfl rfl ?_
    refine XS.iloadN X1.here hx rfl (hb hby d14_33) rfl ?_
    refine XS.iinc X1.here hx rfl (hb hby d14_34) rfl (l' := #[.val (.ref ob), .val (.int 1), .val (.int vc)]) rfl ?_
    refine XS.iloadN X1.here hx rfl (hb hby d14_37) rfl ?_
    refine st3 _ ?_
    refine XS.ishr X3.here hx rfl (hb hby d14_41) rfl ?_
    refine XS.i2b X3.here hx rfl (hb hby d14_42) rfl ?_
    refine st5 _ ?_
    refine XS.aloadN X5.here hx rfl (hb hby d14_44) rfl rfl ?_
    refine XS.iloadN X5.here hx rfl (hb hby d14_45) rfl ?_
    refine XS.iloadN X5.here hx rfl (hb hby d14_46) rfl ?_
    refine st8 _ ?_
    refine XS.ishr X8.here hx rfl (hb hby d14_50) rfl ?_
    show Steps p.tables e below (T8.setTop (mkF m 51 #[.val (.ref ob), .val (.int 1), .val (.int vc)] [(.int (vc >>> ((8 : Int32) &&& 31))), (.int 1), (.ref ob)])) _
    refine XS.i2b X8.here hx rfl (hb hby d14_51) rfl ?_
    refine st10 _ ?_
    exact X10.returnOut hx Bd.returns (hb hby d14_53) hr
  · show Q_pc3_0 Z _ _ _ _ _ _ _ _ _ _ _ h0 n0 _ T10.heap _
    rw [e10]
    have f12 := (((Keep.refl h0 [ob]).wr W5 (Or.inl (List.mem_of_getElem? (i := 0) rfl))).wr W10 (Or.inl (List.mem_of_getElem? (i := 0) rfl)))
    exact ⟨_, _, rfl, N10, f12, V10, own_lo vc, own_hi vc c1 c2⟩
theorem ef_rm_pc3_1 (m : MethodId) (x0 : Addr) (x2 : Int32) : entryFrame m #[(.ref x0), (.int 1), (.int x2)] 3 = mkF m 0 #[.val (.ref x0), .val (.int 1), .val (.int x2)] [] := by first | (simp [entryFrame, mkF, argsToLocals, Value.category]; done) | rfl
def Q_pc3_1 (Z : State) (ob : Addr) (vc : Int32) (vcs : Int32) (vf : Value) (kb : ClassId) (u0 : Int32) (u1 : Int32) (u2 : Int32) (u3 : Int32) (u4 : Int32) (u5 : Int32) (h0 : Heap) (n0 : Nat) (v : Option Value) (h : Heap) (L : List Loc) : Prop := ∃ lo hi : Int32, v = none ∧ Fr n0 L ∧ Keep h0 h [ob] ∧ Arv Z h ob kb .byte (6 : Int32) [(.int u0), (.int u1), (.int lo), (.int hi), (.int u4), (.int u5)] (.int 0) ∧ lo.toInt % 256 = vc.toInt % 256 ∧ hi.toInt % 256 = vc.toInt / 256
theorem rm_pc3_1 (l : Launch) (Z : State) (a0 : Array Value) (hw : ∀ d ∈ tables_1, d.before a0 Z = true) (ws : List Jvm.Cond) (ob : Addr) (vc : Int32) (vcs : Int32) (vf : Value) (kb : ClassId) (u0 : Int32) (u1 : Int32) (u2 : Int32) (u3 : Int32) (u4 : Int32) (u5 : Int32) (h0 : Heap) (n0 : Nat) (Z0 : n0 ≤ h0.size) (Os : own_st Z h0 vcs vf) (Vb : Arv Z h0 ob kb .byte (6 : Int32) [(.int u0), (.int u1), (.int u2), (.int u3), (.int u4), (.int u5)] (.int 0)) (gb : n0 ≤ ob) (c1 : 0 ≤ vc.toInt) (c2 : vc.toInt < 65536) :
    MetFree l yn6 (head1 (Jvm.Cond.code yn6 jdk_52_method_4_code 3 none :: ws) ⟨0, 0, 0, 0⟩) (fun a U => a = #[(.ref ob), (.int 1), (.int vc)] ∧ Z.Warmed39 U.vm ∧ U.heap = h0) (fun _ _ _ _ _ => True) (fun _ U o U' => ∃ v L, o = .returned v ∧ Q_pc3_1 Z ob vc vcs vf kb u0 u1 u2 u3 u4 u5 h0 n0 v U'.heap L ∧ FrameEnd U o U' L 0 0) := by
  refine MetFree.of_bodySF (plainFor_of_name pn_2) hisR ?_
  intro p e s m args below meth c s₁ Bd hml0 hP hK
  obtain ⟨rfl, hZ, hh⟩ := hP
  have hx := Bd.exec
  have hby := Bd.bytes
  have hml : c.maxLocals = 3 := hml0
  have hown : s.vm.findClass "java/lang/StringUTF16" = some m.cls := findClass_of_methodNamed Bd.named
  have hnm := (name_of_methodNamed Bd.named Bd.method).1
  have X0 : Stand p l e ⟨0, 0, 0, 0⟩ s m #[(.ref ob), (.int 1), (.int vc)] below meth c s₁ [] 0 0 := Stand.of_body Bd
  have e0 : s₁.heap = h0 := by rw [← hh, Bd.state]; rfl
  have N0 := Fr.nil n0
  have pre0 : oP p e below (s₁.setTop (mkF m 0 #[.val (.ref ob), .val (.int 1), .val (.int vc)] [])) (s₁.setTop (entryFrame m #[(.ref ob), (.int 1), (.int vc)] 3)) := fun t k => castTop (ef_rm_pc3_1 m ob vc) k
  obtain ⟨T1, X1, e1, st1⟩ := getS2 X0 hx hZ hown (host := "") (Or.inl (ow hw 63 rfl)) Via.refl e0 Os.2.2.2.2.1 (g := (mkF m 0 #[.val (.ref ob), .val (.int 1), .val (.int vc)] [])) rfl (hb hby d14_0)
  have hc3_2 : ¬ ((1 : Int) = (0 : Int)) := by decide
  obtain ⟨T3, X3, e3, st3⟩ := getS2 X1 hx hZ hown (host := "") (Or.inl (ow hw 64 rfl)) Via.refl e1 Os.2.2.2.2.2.1 (g := (mkF m 38 #[.val (.ref ob), .val (.int 3), .val (.int vc)] [(.int vc), (.int 2), (.ref ob)])) rfl (hb hby d14_38)
  obtain ⟨cl4, Ar4, q4, S4, M4, H4, G4⟩ := id Vb
  have hin4 : ¬ ((2 : Int32) < 0 ∨ cl4.slots.size ≤ ((2 : Int32)).toNatClampNeg) := inb_of S4 ⟨by decide, by decide⟩
  obtain ⟨T5, h5, X5, e5, W5, st5⟩ := stB X3 hx hZ e3 Ar4 (j := (2 : Int32)) hin4 (g := (mkF m 43 #[.val (.ref ob), .val (.int 3), .val (.int vc)] [(.int ((vc >>> ((0 : Int32) &&& 31)).toInt8.toInt32)), (.int 2), (.ref ob)])) rfl rfl (hb hby d14_43)
  have N5 := Fr.snoc X5 N0 gb
  have Zs6 : n0 ≤ h5.size := by rw [W5.size]; exact Z0
  have V5 : Arv Z h5 ob kb .byte (6 : Int32) [(.int u0), (.int u1), (.int (nar .byte ((vc >>> ((0 : Int32) &&& 31)).toInt8.toInt32))), (.int u3), (.int u4), (.int u5)] (.int 0) := Arv.set Ar4 q4 S4 M4 H4 G4 (fits_nar_byte _) W5 2 rfl (Nat.le_of_ble_eq_true rfl)
  have os7 := (own_st_wr Os W5)
  obtain ⟨T8, X8, e8, st8⟩ := getS2 X5 hx hZ hown (host := "") (Or.inl (ow hw 65 rfl)) Via.refl e5 os7.2.2.2.2.2.2 (g := (mkF m 47 #[.val (.ref ob), .val (.int 3), .val (.int vc)] [(.int vc), (.int 3), (.ref ob)])) rfl (hb hby d14_47)
  obtain ⟨cl9, Ar9, q9, S9, M9, H9, G9⟩ := id V5
  have hin9 : ¬ ((3 : Int32) < 0 ∨ cl9.slots.size ≤ ((3 : Int32)).toNatClampNeg) := inb_of S9 ⟨by decide, by decide⟩
  obtain ⟨T10, h10, X10, e10, W10, st10⟩ := stB X8 hx hZ e8 Ar9 (j := (3 : Int32)) hin9 (g := (mkF m 52 #[.val (.ref ob), .val (.int 3), .val (.int vc)] [(.int ((vc >>> ((8 : Int32) &&& 31)).toInt8.toInt32)), (.int 3), (.ref ob)])) rfl rfl (hb hby d14_52)
  have N10 := Fr.snoc X10 N5 gb
  have Zs11 : n0 ≤ h10.size := by rw [W10.size]; exact Zs6
  have V10 : Arv Z h10 ob kb .byte (6 : Int32) [(.int u0), (.int u1), (.int (nar .byte ((vc >>> ((0 : Int32) &&& 31)).toInt8.toInt32))), (.int (nar .byte ((vc >>> ((8 : Int32) &&& 31)).toInt8.toInt32))), (.int u4), (.int u5)] (.int 0) := Arv.set Ar9 q9 S9 M9 H9 G9 (fits_nar_byte _) W10 3 rfl (Nat.le_of_ble_eq_true rfl)
  obtain ⟨fs, hr, q1, q2, q3, q4⟩ := X10.leave (v := none) (fun _ => rfl)
  refine ⟨_, _, pre0 _ ?_, q1, q2, _, _, rfl, ?_, ⟨_, rfl⟩, q3, q4.mono (by decide) (by decide)⟩
  · refine st1 _ ?_
    refine XS.ifYes X1.here hx rfl (pc0 := 3) (pc' := 28) rfl (hb hby d14_3) rfl (own_if (own_feq (a := (1 : Int32)) (b := (0 : Int32)) (by decide) (by decide) hc3_2).2) (by decide) (by decide) ?_
    refine XS.iloadN X1.here hx rfl (hb hby d14_28) rfl ?_
    refine XS.iconst X1.here hx rfl (hb hby d14_29) ?_
    refine XS.ishl X1.here hx rfl (hb hby d14_30) rfl ?_
    refine XS.istoreN X1.here hx rfl (hb hby d14_31) rfl (l' := #[.val (.ref ob), .val (.int 2), .val (.int vc)]) rfl ?_
    refine XS.aloadN X1.here hx rfl (hb hby d14_32) rfl rfl ?_
    refine XS.iloadN X1.here hx rfl (hb hby d14_33) rfl ?_
    refine XS.iinc X1.here hx rfl (hb hby d14_34) rfl (l' := #[.val (.ref ob), .val (.int 3), .val (.int vc)]) rfl ?_
    refine XS.iloadN X1.here hx rfl (hb hby d14_37) rfl ?_
    refine st3 _ ?_
    refine XS.ishr X3.here hx rfl (hb hby d14_41) rfl ?_
    refine XS.i2b X3.here hx rfl (hb hby d14_42) rfl ?_
    refine st5 _ ?_
    refine XS.aloadN X5.here hx rfl (hb hby d14_44) rfl rfl ?_
    refine XS.iloadN X5.here hx rfl (hb hby d14_45) rfl ?_
    refine XS.iloadN X5.here hx rfl (hb hby d14_46) rfl ?_
    refine st8 _ ?_
    refine XS.ishr X8.here hx rfl (hb hby d14_50) rfl ?_
    show Steps p.tables e below (T8.setTop (mkF m 51 #[.val (.ref ob), .val (.int 3), .val (.int vc)] [(.int (vc >>> ((8 : Int32) &&& 31))), (.int 3), (.ref ob)])) _
    refine XS.i2b X8.here hx rfl (hb hby d14_51) rfl ?_
    refine st10 _ ?_
    exact X10.returnOut hx Bd.returns (hb hby d14_53) hr
  · show Q_pc3_1 Z _ _ _ _ _ _ _ _ _ _ _ h0 n0 _ T10.heap _
    rw [e10]
    have f12 := (((Keep.refl h0 [ob]).wr W5 (Or.inl (List.mem_of_getElem? (i := 0) rfl))).wr W10 (Or.inl (List.mem_of_getElem? (i := 0) rfl)))
    exact ⟨_, _, rfl, N10, f12, V10, own_lo vc, own_hi vc c1 c2⟩
theorem ef_rm_pc3_2 (m : MethodId) (x0 : Addr) (x2 : Int32) : entryFrame m #[(.ref x0), (.int 2), (.int x2)] 3 = mkF m 0 #[.val (.ref x0), .val (.int 2), .val (.int x2)] [] := by first | (simp [entryFrame, mkF, argsToLocals, Value.category]; done) | rfl
def Q_pc3_2 (Z : State) (ob : Addr) (vc : Int32) (vcs : Int32) (vf : Value) (kb : ClassId) (u0 : Int32) (u1 : Int32) (u2 : Int32) (u3 : Int32) (u4 : Int32) (u5 : Int32) (h0 : Heap) (n0 : Nat) (v : Option Value) (h : Heap) (L : List Loc) : Prop := ∃ lo hi : Int32, v = none ∧ Fr n0 L ∧ Keep h0 h [ob] ∧ Arv Z h ob kb .byte (6 : Int32) [(.int u0), (.int u1), (.int u2), (.int u3), (.int lo), (.int hi)] (.int 0) ∧ lo.toInt % 256 = vc.toInt % 256 ∧ hi.toInt % 256 = vc.toInt / 256
theorem rm_pc3_2 (l : Launch) (Z : State) (a0 : Array Value) (hw : ∀ d ∈ tables_1, d.before a0 Z = true) (ws : List Jvm.Cond) (ob : Addr) (vc : Int32) (vcs : Int32) (vf : Value) (kb : ClassId) (u0 : Int32) (u1 : Int32) (u2 : Int32) (u3 : Int32) (u4 : Int32) (u5 : Int32) (h0 : Heap) (n0 : Nat) (Z0 : n0 ≤ h0.size) (Os : own_st Z h0 vcs vf) (Vb : Arv Z h0 ob kb .byte (6 : Int32) [(.int u0), (.int u1), (.int u2), (.int u3), (.int u4), (.int u5)] (.int 0)) (gb : n0 ≤ ob) (c1 : 0 ≤ vc.toInt) (c2 : vc.toInt < 65536) :
    MetFree l yn6 (head1 (Jvm.Cond.code yn6 jdk_52_method_4_code 3 none :: ws) ⟨0, 0, 0, 0⟩) (fun a U => a = #[(.ref ob), (.int 2), (.int vc)] ∧ Z.Warmed39 U.vm ∧ U.heap = h0) (fun _ _ _ _ _ => True) (fun _ U o U' => ∃ v L, o = .returned v ∧ Q_pc3_2 Z ob vc vcs vf kb u0 u1 u2 u3 u4 u5 h0 n0 v U'.heap L ∧ FrameEnd U o U' L 0 0) := by
  refine MetFree.of_bodySF (plainFor_of_name pn_2) hisR ?_
  intro p e s m args below meth c s₁ Bd hml0 hP hK
  obtain ⟨rfl, hZ, hh⟩ := hP
  have hx := Bd.exec
  have hby := Bd.bytes
  have hml : c.maxLocals = 3 := hml0
  have hown : s.vm.findClass "java/lang/StringUTF16" = some m.cls := findClass_of_methodNamed Bd.named
  have hnm := (name_of_methodNamed Bd.named Bd.method).1
  have X0 : Stand p l e ⟨0, 0, 0, 0⟩ s m #[(.ref ob), (.int 2), (.int vc)] below meth c s₁ [] 0 0 := Stand.of_body Bd
  have e0 : s₁.heap = h0 := by rw [← hh, Bd.state]; rfl
  have N0 := Fr.nil n0
  have pre0 : oP p e below (s₁.setTop (mkF m 0 #[.val (.ref ob), .val (.int 2), .val (.int vc)] [])) (s₁.setTop (entryFrame m #[(.ref ob), (.int 2), (.int vc)] 3)) := fun t k => castTop (ef_rm_pc3_2 m ob vc) k
  obtain ⟨T1, X1, e1, st1⟩ := getS2 X0 hx hZ hown (host := "") (Or.inl (ow hw 63 rfl)) Via.refl e0 Os.2.2.2.2.1 (g := (mkF m 0 #[.val (.ref ob), .val (.int 2), .val (.int vc)] [])) rfl (hb hby d14_0)
  have hc3_2 : ¬ ((1 : Int) = (0 : Int)) := by decide
  obtain ⟨T3, X3, e3, st3⟩ := getS2 X1 hx hZ hown (host := "") (Or.inl (ow hw 64 rfl)) Via.refl e1 Os.2.2.2.2.2.1 (g := (mkF m 38 #[.val (.ref ob), .val (.int 5), .val (.int vc)] [(.int vc), (.int 4), (.ref ob)])) rfl (hb hby d14_38)
  obtain ⟨cl4, Ar4, q4, S4, M4, H4, G4⟩ := id Vb
  have hin4 : ¬ ((4 : Int32) < 0 ∨ cl4.slots.size ≤ ((4 : Int32)).toNatClampNeg) := inb_of S4 ⟨by decide, by decide⟩
  obtain ⟨T5, h5, X5, e5, W5, st5⟩ := stB X3 hx hZ e3 Ar4 (j := (4 : Int32)) hin4 (g := (mkF m 43 #[.val (.ref ob), .val (.int 5), .val (.int vc)] [(.int ((vc >>> ((0 : Int32) &&& 31)).toInt8.toInt32)), (.int 4), (.ref ob)])) rfl rfl (hb hby d14_43)
  have N5 := Fr.snoc X5 N0 gb
  have Zs6 : n0 ≤ h5.size := by rw [W5.size]; exact Z0
  have V5 : Arv Z h5 ob kb .byte (6 : Int32) [(.int u0), (.int u1), (.int u2), (.int u3), (.int (nar .byte ((vc >>> ((0 : Int32) &&& 31)).toInt8.toInt32))), (.int u5)] (.int 0) := Arv.set Ar4 q4 S4 M4 H4 G4 (fits_nar_byte _) W5 4 rfl (Nat.le_of_ble_eq_true rfl)
  have os7 := (own_st_wr Os W5)
  obtain ⟨T8, X8, e8, st8⟩ := getS2 X5 hx hZ hown (host := "") (Or.inl (ow hw 65 rfl)) Via.refl e5 os7.2.2.2.2.2.2 (g := (mkF m 47 #[.val (.ref ob), .val (.int 5), .val (.int vc)] [(.int vc), (.int 5), (.ref ob)])) rfl (hb hby d14_47)
  obtain ⟨cl9, Ar9, q9, S9, M9, H9, G9⟩ := id V5
  have hin9 : ¬ ((5 : Int32) < 0 ∨ cl9.slots.size ≤ ((5 : Int32)).toNatClampNeg) := inb_of S9 ⟨by decide, by decide⟩
  obtain ⟨T10, h10, X10, e10, W10, st10⟩ := stB X8 hx hZ e8 Ar9 (j := (5 : Int32)) hin9 (g := (mkF m 52 #[.val (.ref ob), .val (.int 5), .val (.int vc)] [(.int ((vc >>> ((8 : Int32) &&& 31)).toInt8.toInt32)), (.int 5), (.ref ob)])) rfl rfl (hb hby d14_52)
  have N10 := Fr.snoc X10 N5 gb
  have Zs11 : n0 ≤ h10.size := by rw [W10.size]; exact Zs6
  have V10 : Arv Z h10 ob kb .byte (6 : Int32) [(.int u0), (.int u1), (.int u2), (.int u3), (.int (nar .byte ((vc >>> ((0 : Int32) &&& 31)).toInt8.toInt32))), (.int (nar .byte ((vc >>> ((8 : Int32) &&& 31)).toInt8.toInt32)))] (.int 0) := Arv.set Ar9 q9 S9 M9 H9 G9 (fits_nar_byte _) W10 5 rfl (Nat.le_of_ble_eq_true rfl)
  obtain ⟨fs, hr, q1, q2, q3, q4⟩ := X10.leave (v := none) (fun _ => rfl)
  refine ⟨_, _, pre0 _ ?_, q1, q2, _, _, rfl, ?_, ⟨_, rfl⟩, q3, q4.mono (by decide) (by decide)⟩
  · refine st1 _ ?_
    refine XS.ifYes X1.here hx rfl (pc0 := 3) (pc' := 28) rfl (hb hby d14_3) rfl (own_if (own_feq (a := (1 : Int32)) (b := (0 : Int32)) (by decide) (by decide) hc3_2).2) (by decide) (by decide) ?_
    refine XS.iloadN X1.here hx rfl (hb hby d14_28) rfl ?_
    refine XS.iconst X1.here hx rfl (hb hby d14_29) ?_
    refine XS.ishl X1.here hx rfl (hb hby d14_30) rfl ?_
    refine XS.istoreN X1.here hx rfl (hb hby d14_31) rfl (l' := #[.val (.ref ob), .val (.int 4), .val (.int vc)]) rfl ?_
    refine XS.aloadN X1.here hx rfl (hb hby d14_32) rfl rfl ?_
    refine XS.iloadN X1.here hx rfl (hb hby d14_33) rfl ?_
    refine XS.iinc X1.here hx rfl (hb hby d14_34) rfl (l' := #[.val (.ref ob), .val (.int 5), .val (.int vc)]) rfl ?_
    refine XS.iloadN X1.here hx rfl (hb hby d14_37) rfl ?_
    refine st3 _ ?_
    refine XS.ishr X3.here hx rfl (hb hby d14_41) rfl ?_
    refine XS.i2b X3.here hx rfl (hb hby d14_42) rfl ?_
    refine st5 _ ?_
    refine XS.aloadN X5.here hx rfl (hb hby d14_44) rfl rfl ?_
    refine XS.iloadN X5.here hx rfl (hb hby d14_45) rfl ?_
    refine XS.iloadN X5.here hx rfl (hb hby d14_46) rfl ?_
    refine st8 _ ?_
    refine XS.ishr X8.here hx rfl (hb hby d14_50) rfl ?_
    show Steps p.tables e below (T8.setTop (mkF m 51 #[.val (.ref ob), .val (.int 5), .val (.int vc)] [(.int (vc >>> ((8 : Int32) &&& 31))), (.int 5), (.ref ob)])) _
    refine XS.i2b X8.here hx rfl (hb hby d14_51) rfl ?_
    refine st10 _ ?_
    exact X10.returnOut hx Bd.returns (hb hby d14_53) hr
  · show Q_pc3_2 Z _ _ _ _ _ _ _ _ _ _ _ h0 n0 _ T10.heap _
    rw [e10]
    have f12 := (((Keep.refl h0 [ob]).wr W5 (Or.inl (List.mem_of_getElem? (i := 0) rfl))).wr W10 (Or.inl (List.mem_of_getElem? (i := 0) rfl)))
    exact ⟨_, _, rfl, N10, f12, V10, own_lo vc, own_hi vc c1 c2⟩
theorem ef_rm_tb3 (m : MethodId) (x0 : Addr) : entryFrame m #[(.ref x0), (.int 0), (.int 3)] 5 = mkF m 0 #[.val (.ref x0), .val (.int 0), .val (.int 3), .unset, .unset] [] := by first | (simp [entryFrame, mkF, argsToLocals, Value.category]; done) | rfl
def Q_tb3 (Z : State) (oc : Addr) (vcs : Int32) (vf : Value) (kC : ClassId) (c0 : Int32) (c1 : Int32) (c2 : Int32) (h0 : Heap) (n0 : Nat) (v : Option Value) (h : Heap) (L : List Loc) : Prop := ∃ (ob : Addr) (kb : ClassId) (lo0 hi0 lo1 hi1 lo2 hi2 : Int32), v = some (.ref ob) ∧ Fr n0 L ∧ Keep h0 h [] ∧ n0 ≤ ob ∧ h0.size ≤ ob ∧ Arv Z h ob kb .byte (6 : Int32) [(.int lo0), (.int hi0), (.int lo1), (.int hi1), (.int lo2), (.int hi2)] (.int 0) ∧ lo0.toInt % 256 = c0.toInt % 256 ∧ hi0.toInt % 256 = c0.toInt / 256 ∧ lo1.toInt % 256 = c1.toInt % 256 ∧ hi1.toInt % 256 = c1.toInt / 256 ∧ lo2.toInt % 256 = c2.toInt % 256 ∧ hi2.toInt % 256 = c2.toInt / 256
theorem rm_tb3 (l : Launch) (Z : State) (a0 : Array Value) (hw : ∀ d ∈ tables_1, d.before a0 Z = true) (ws : List Jvm.Cond) (oc : Addr) (vcs : Int32) (vf : Value) (kC : ClassId) (c0 : Int32) (c1 : Int32) (c2 : Int32) (h0 : Heap) (n0 : Nat) (Z0 : n0 ≤ h0.size) (Os : own_st Z h0 vcs vf) (Vc : Arv Z h0 oc kC .char (3 : Int32) [(.int c0), (.int c1), (.int c2)] (.int 0)) (uc0 : 0 ≤ c0.toInt) (uc1 : 0 ≤ c1.toInt) (uc2 : 0 ≤ c2.toInt) (vc0 : c0.toInt < 65536) (vc1 : c1.toInt < 65536) (vc2 : c2.toInt < 65536) :
    MetFree l yn7 (head1 (Jvm.Cond.code yn7 jdk_52_method_14_code 5 (some (.array .byte)) :: ws) ⟨2, 1, 6, 24⟩) (fun a U => a = #[(.ref oc), (.int 0), (.int 3)] ∧ Z.Warmed39 U.vm ∧ U.heap = h0) (fun _ _ _ _ _ => True) (fun _ U o U' => ∃ v L, o = .returned v ∧ Q_tb3 Z oc vcs vf kC c0 c1 c2 h0 n0 v U'.heap L ∧ FrameEnd U o U' L 1 6) := by
  refine MetFree.of_bodySF (plainFor_of_name pn_2) hisR ?_
  intro p e s m args below meth c s₁ Bd hml0 hP hK
  obtain ⟨rfl, hZ, hh⟩ := hP
  have hx := Bd.exec
  have hby := Bd.bytes
  have hml : c.maxLocals = 5 := hml0
  have hown : s.vm.findClass "java/lang/StringUTF16" = some m.cls := findClass_of_methodNamed Bd.named
  have hnm := (name_of_methodNamed Bd.named Bd.method).1
  have X0 : Stand p l e ⟨2, 1, 6, 24⟩ s m #[(.ref oc), (.int 0), (.int 3)] below meth c s₁ [] 0 0 := Stand.of_body Bd
  have e0 : s₁.heap = h0 := by rw [← hh, Bd.state]; rfl
  have N0 := Fr.nil n0
  have pre0 : oP p e below (s₁.setTop (mkF m 0 #[.val (.ref oc), .val (.int 0), .val (.int 3), .unset, .unset] [])) (s₁.setTop (entryFrame m #[(.ref oc), (.int 0), (.int 3)] 5)) := fun t k => castTop (ef_rm_tb3 m oc) k
  obtain ⟨_, _, ⟨T1, L1, k1, n1⟩, -, X1, ⟨Lc1, hQ1, l1, y1, z1⟩, st1⟩ := Jvm.LawKit.callS X0 hx (y := yn5) hown (mvT hZ (ow hw 53 rfl)) (mvT hZ (ow hw 54 rfl)) (mvT hZ (ow hw 19 rfl)) (mvT hZ (ow hw 55 rfl)) (by decide) (backOf (W := 0) (rm_nbf3 l Z a0 hw []  h0 n0 Z0 ) hZ (ow hw 55 rfl) (ow hw 19 rfl) (by decide) (by decide)) (g := (mkF m 1 #[.val (.ref oc), .val (.int 0), .val (.int 3), .unset, .unset] [(.int 3)])) rfl (by rw [hml]; rfl) (argsL := [(.int 3)]) (rest := []) (lenOf pd_1 rfl) rfl (by exact Nat.le_of_eq rfl) (hb hby d11_1) (fun _ _ => ⟨rfl, e0, (by decide : 0 + 1 ≤ _), (by decide : 0 + 6 ≤ _)⟩)
  dsimp only [Pt.U, Pt.locs, Pt.cells, Pt.slots] at X1 l1 y1 z1 st1 hQ1
  rw [l1, y1, z1] at X1
  obtain ⟨ob, kb, rfl, N1q, K1, gb, szb, Vb1⟩ := hQ1
  have N1 := Fr.app N0 N1q
  have Zs2 : n0 ≤ T1.heap.size := Nat.le_trans Z0 K1.1
  have ne_oc_ob : oc ≠ ob := Nat.ne_of_lt (Nat.lt_of_lt_of_le Vc.lt szb)
  have sz_ob : h0.size ≤ ob := Nat.le_trans (Keep.refl h0 []).1 szb
  have hc11_3 : (0 : Int) < (3 : Int) := by decide
  have f4 := (Vc.keep K1 nin0)
  obtain ⟨cl5, Ar5, q5, S5, M5, H5, G5⟩ := id f4
  have hin5 : ¬ ((0 : Int32) < 0 ∨ cl5.slots.size ≤ ((0 : Int32)).toNatClampNeg) := inb_of S5 ⟨by decide, by decide⟩
  have hat5 : cl5.slots[((0 : Int32)).toNatClampNeg]? = some (.int c0) := Has.at H5 hin5 rfl
  have os7 := (own_st_keep Os K1 ns0)
  obtain ⟨_, _, ⟨T6, L6, k6, n6⟩, -, X6, ⟨Lc6, hQ6, l6, y6, z6⟩, st6⟩ := Jvm.LawKit.callS X1 hx (y := yn6) hown (mvT hZ (ow hw 60 rfl)) (mvT hZ (ow hw 61 rfl)) (mvT hZ (ow hw 19 rfl)) (mvT hZ (ow hw 62 rfl)) (by decide) (backOf (W := 0) (rm_pc3_0 l Z a0 hw [] ob c0 vcs vf kb (0 : Int32) (0 : Int32) (0 : Int32) (0 : Int32) (0 : Int32) (0 : Int32) T1.heap n0 Zs2 os7 Vb1 gb uc0 vc0) hZ (ow hw 62 rfl) (ow hw 19 rfl) (by decide) (by decide)) (g := (mkF m 20 #[.val (.ref oc), .val (.int 0), .val (.int 3), .val (.ref ob), .val (.int 0)] [(.int c0), (.int 0), (.ref ob)])) rfl (by rw [hml]; rfl) (argsL := [(.ref ob), (.int 0), (.int c0)]) (rest := []) (lenOf pd_2 rfl) rfl (by exact Nat.le_of_eq rfl) (hb hby d11_20) (fun _ _ => ⟨rfl, rfl, (by decide : 1 + 0 ≤ _), (by decide : 6 + 0 ≤ _)⟩)
  dsimp only [Pt.U, Pt.locs, Pt.cells, Pt.slots] at X6 l6 y6 z6 st6 hQ6
  rw [l6, y6, z6] at X6
  obtain ⟨lo0, hi0, rfl, N6q, K6, Vb6, ql0, qh0⟩ := hQ6
  have N6 := Fr.app N1 N6q
  have Zs8 : n0 ≤ T6.heap.size := Nat.le_trans Zs2 K6.1
  have hc11_9 : (1 : Int) < (3 : Int) := by decide
  have f10 := (f4.keep K6 (ninS ne_oc_ob nin0))
  obtain ⟨cl11, Ar11, q11, S11, M11, H11, G11⟩ := id f10
  have hin11 : ¬ ((1 : Int32) < 0 ∨ cl11.slots.size ≤ ((1 : Int32)).toNatClampNeg) := inb_of S11 ⟨by decide, by decide⟩
  have hat11 : cl11.slots[((1 : Int32)).toNatClampNeg]? = some (.int c1) := Has.at H11 hin11 rfl
  have os13 := (own_st_keep os7 K6 (nsS Vb1.nostat ns0))
  obtain ⟨_, _, ⟨T12, L12, k12, n12⟩, -, X12, ⟨Lc12, hQ12, l12, y12, z12⟩, st12⟩ := Jvm.LawKit.callS X6 hx (y := yn6) hown (mvT hZ (ow hw 60 rfl)) (mvT hZ (ow hw 61 rfl)) (mvT hZ (ow hw 19 rfl)) (mvT hZ (ow hw 62 rfl)) (by decide) (backOf (W := 0) (rm_pc3_1 l Z a0 hw [] ob c1 vcs vf kb lo0 hi0 (0 : Int32) (0 : Int32) (0 : Int32) (0 : Int32) T6.heap n0 Zs8 os13 Vb6 gb uc1 vc1) hZ (ow hw 62 rfl) (ow hw 19 rfl) (by decide) (by decide)) (g := (mkF m 20 #[.val (.ref oc), .val (.int 1), .val (.int 3), .val (.ref ob), .val (.int 1)] [(.int c1), (.int 1), (.ref ob)])) rfl (by rw [hml]; rfl) (argsL := [(.ref ob), (.int 1), (.int c1)]) (rest := []) (lenOf pd_2 rfl) rfl (by exact Nat.le_of_eq rfl) (hb hby d11_20) (fun _ _ => ⟨rfl, rfl, (by decide : 1 + 0 ≤ _), (by decide : 6 + 0 ≤ _)⟩)
  dsimp only [Pt.U, Pt.locs, Pt.cells, Pt.slots] at X12 l12 y12 z12 st12 hQ12
  rw [l12, y12, z12] at X12
  obtain ⟨lo1, hi1, rfl, N12q, K12, Vb12, ql1, qh1⟩ := hQ12
  have N12 := Fr.app N6 N12q
  have Zs14 : n0 ≤ T12.heap.size := Nat.le_trans Zs8 K12.1
  have hc11_15 : (2 : Int) < (3 : Int) := by decide
  have f16 := (f10.keep K12 (ninS ne_oc_ob nin0))
  obtain ⟨cl17, Ar17, q17, S17, M17, H17, G17⟩ := id f16
  have hin17 : ¬ ((2 : Int32) < 0 ∨ cl17.slots.size ≤ ((2 : Int32)).toNatClampNeg) := inb_of S17 ⟨by decide, by decide⟩
  have hat17 : cl17.slots[((2 : Int32)).toNatClampNeg]? = some (.int c2) := Has.at H17 hin17 rfl
  have os19 := (own_st_keep os13 K12 (nsS Vb6.nostat ns0))
  obtain ⟨_, _, ⟨T18, L18, k18, n18⟩, -, X18, ⟨Lc18, hQ18, l18, y18, z18⟩, st18⟩ := Jvm.LawKit.callS X12 hx (y := yn6) hown (mvT hZ (ow hw 60 rfl)) (mvT hZ (ow hw 61 rfl)) (mvT hZ (ow hw 19 rfl)) (mvT hZ (ow hw 62 rfl)) (by decide) (backOf (W := 0) (rm_pc3_2 l Z a0 hw [] ob c2 vcs vf kb lo0 hi0 lo1 hi1 (0 : Int32) (0 : Int32) T12.heap n0 Zs14 os19 Vb12 gb uc2 vc2) hZ (ow hw 62 rfl) (ow hw 19 rfl) (by decide) (by decide)) (g := (mkF m 20 #[.val (.ref oc), .val (.int 2), .val (.int 3), .val (.ref ob), .val (.int 2)] [(.int c2), (.int 2), (.ref ob)])) rfl (by rw [hml]; rfl) (argsL := [(.ref ob), (.int 2), (.int c2)]) (rest := []) (lenOf pd_2 rfl) rfl (by exact Nat.le_of_eq rfl) (hb hby d11_20) (fun _ _ => ⟨rfl, rfl, (by decide : 1 + 0 ≤ _), (by decide : 6 + 0 ≤ _)⟩)
  dsimp only [Pt.U, Pt.locs, Pt.cells, Pt.slots] at X18 l18 y18 z18 st18 hQ18
  rw [l18, y18, z18] at X18
  obtain ⟨lo2, hi2, rfl, N18q, K18, Vb18, ql2, qh2⟩ := hQ18
  have N18 := Fr.app N12 N18q
  have Zs20 : n0 ≤ T18.heap.size := Nat.le_trans Zs14 K18.1
  have hc11_21 : ¬ ((3 : Int) < (3 : Int)) := by decide
  obtain ⟨fs, hr, q1, q2, q3, q4⟩ := X18.leave (v := some (.ref ob)) (fun h => by rw [Bd.returns] at h; cases h)
  refine ⟨_, _, pre0 _ ?_, q1, q2, _, _, rfl, ?_, ⟨_, rfl⟩, q3, q4.mono (by decide) (by decide)⟩
  · refine XS.iloadN X0.here hx rfl (hb hby d11_0) rfl ?_
    refine st1 _ ?_
    refine XS.astoreN X1.here hx rfl (hb hby d11_4) rfl rfl (l' := #[.val (.ref oc), .val (.int 0), .val (.int 3), .val (.ref ob), .unset]) rfl ?_
    refine XS.iconst X1.here hx rfl (hb hby d11_5) ?_
    refine XS.istore X1.here hx rfl (hb hby d11_6) rfl (l' := #[.val (.ref oc), .val (.int 0), .val (.int 3), .val (.ref ob), .val (.int 0)]) rfl ?_
    refine XS.iload X1.here hx rfl (hb hby d11_8) rfl ?_
    refine XS.iloadN X1.here hx rfl (hb hby d11_10) rfl ?_
    refine XS.icmpNo X1.here hx rfl (hb hby d11_11) rfl (own_tlt (a := (0 : Int32)) (b := (3 : Int32)) (by decide) (by decide) hc11_3).2.1 ?_
    refine XS.aloadN X1.here hx rfl (hb hby d11_14) rfl rfl ?_
    refine XS.iload X1.here hx rfl (hb hby d11_15) rfl ?_
    refine XS.aloadN X1.here hx rfl (hb hby d11_17) rfl rfl ?_
    refine XS.iloadN X1.here hx rfl (hb hby d11_18) rfl ?_
    refine X1.caload hx (j := (0 : Int32)) (v := (.int c0)) Ar5.1 (State.isArrayOf_alike hZ.alike Ar5.2.1) Ar5.2.2 hin5 hat5 (g := (mkF m 19 #[.val (.ref oc), .val (.int 0), .val (.int 3), .val (.ref ob), .val (.int 0)] [(.int 0), (.ref oc), (.int 0), (.ref ob)])) rfl rfl (hb hby d11_19) _ ?_
    refine st6 _ ?_
    refine XS.iinc X6.here hx rfl (hb hby d11_23) rfl (l' := #[.val (.ref oc), .val (.int 1), .val (.int 3), .val (.ref ob), .val (.int 0)]) rfl ?_
    refine XS.iinc X6.here hx rfl (hb hby d11_26) rfl (l' := #[.val (.ref oc), .val (.int 1), .val (.int 3), .val (.ref ob), .val (.int 1)]) rfl ?_
    refine XS.goto X6.here hx rfl (pc0 := 29) (pc' := 8) rfl (hb hby d11_29) (by decide) (by decide) ?_
    refine XS.iload X6.here hx rfl (hb hby d11_8) rfl ?_
    refine XS.iloadN X6.here hx rfl (hb hby d11_10) rfl ?_
    show Steps p.tables e below (T6.setTop (mkF m 11 #[.val (.ref oc), .val (.int 1), .val (.int 3), .val (.ref ob), .val (.int 1)] [(.int 3), (.int 1)])) _
    refine XS.icmpNo X6.here hx rfl (hb hby d11_11) rfl (own_tlt (a := (1 : Int32)) (b := (3 : Int32)) (by decide) (by decide) hc11_9).2.1 ?_
    refine XS.aloadN X6.here hx rfl (hb hby d11_14) rfl rfl ?_
    refine XS.iload X6.here hx rfl (hb hby d11_15) rfl ?_
    refine XS.aloadN X6.here hx rfl (hb hby d11_17) rfl rfl ?_
    refine XS.iloadN X6.here hx rfl (hb hby d11_18) rfl ?_
    refine X6.caload hx (j := (1 : Int32)) (v := (.int c1)) Ar11.1 (State.isArrayOf_alike hZ.alike Ar11.2.1) Ar11.2.2 hin11 hat11 (g := (mkF m 19 #[.val (.ref oc), .val (.int 1), .val (.int 3), .val (.ref ob), .val (.int 1)] [(.int 1), (.ref oc), (.int 1), (.ref ob)])) rfl rfl (hb hby d11_19) _ ?_
    refine st12 _ ?_
    refine XS.iinc X12.here hx rfl (hb hby d11_23) rfl (l' := #[.val (.ref oc), .val (.int 2), .val (.int 3), .val (.ref ob), .val (.int 1)]) rfl ?_
    refine XS.iinc X12.here hx rfl (hb hby d11_26) rfl (l' := #[.val (.ref oc), .val (.int 2), .val (.int 3), .val (.ref ob), .val (.int 2)]) rfl ?_
    refine XS.goto X12.here hx rfl (pc0 := 29) (pc' := 8) rfl (hb hby d11_29) (by decide) (by decide) ?_
    refine XS.iload X12.here hx rfl (hb hby d11_8) rfl ?_
    refine XS.iloadN X12.here hx rfl (hb hby d11_10) rfl ?_
    refine XS.icmpNo X12.here hx rfl (hb hby d11_11) rfl (own_tlt (a := (2 : Int32)) (b := (3 : Int32)) (by decide) (by decide) hc11_15).2.1 ?_
    refine XS.aloadN X12.here hx rfl (hb hby d11_14) rfl rfl ?_
    refine XS.iload X12.here hx rfl (hb hby d11_15) rfl ?_
    refine XS.aloadN X12.here hx rfl (hb hby d11_17) rfl rfl ?_
    refine XS.iloadN X12.here hx rfl (hb hby d11_18) rfl ?_
    refine X12.caload hx (j := (2 : Int32)) (v := (.int c2)) Ar17.1 (State.isArrayOf_alike hZ.alike Ar17.2.1) Ar17.2.2 hin17 hat17 (g := (mkF m 19 #[.val (.ref oc), .val (.int 2), .val (.int 3), .val (.ref ob), .val (.int 2)] [(.int 2), (.ref oc), (.int 2), (.ref ob)])) rfl rfl (hb hby d11_19) _ ?_
    refine st18 _ ?_
    refine XS.iinc X18.here hx rfl (hb hby d11_23) rfl (l' := #[.val (.ref oc), .val (.int 3), .val (.int 3), .val (.ref ob), .val (.int 2)]) rfl ?_
    show Steps p.tables e below (T18.setTop (mkF m 26 #[.val (.ref oc), .val (.int 3), .val (.int 3), .val (.ref ob), .val (.int 2)] [])) _
    refine XS.iinc X18.here hx rfl (hb hby d11_26) rfl (l' := #[.val (.ref oc), .val (.int 3), .val (.int 3), .val (.ref ob), .val (.int 3)]) rfl ?_
    refine XS.goto X18.here hx rfl (pc0 := 29) (pc' := 8) rfl (hb hby d11_29) (by decide) (by decide) ?_
    refine XS.iload X18.here hx rfl (hb hby d11_8) rfl ?_
    refine XS.iloadN X18.here hx rfl (hb hby d11_10) rfl ?_
    refine XS.icmpYes X18.here hx rfl (pc0 := 11) (pc' := 32) rfl (hb hby d11_11) rfl (own_flt (a := (3 : Int32)) (b := (3 : Int32)) (by decide) (by decide) hc11_21).2.1 (by decide) (by decide) ?_
    refine XS.aloadN X18.here hx rfl (hb hby d11_32) rfl rfl ?_
    jvm_step X18.here [X18.here.top, hx, (hb hby d11_33), X18.method', Bd.returns, Value.isRef, FieldType.isReference]
    first | (intro acts; rw [hr _ acts rfl rfl rfl]) | rw [hr _ _ rfl rfl rfl]
    exact Steps.refl _
  · show Q_tb3 Z _ _ _ _ _ _ _ h0 n0 _ T18.heap _
    have f22 := (((((Keep.refl h0 []).trans K1 all0).trans K6 (allS (P := fun x => x ∈ [] ∨ h0.size ≤ x) (Or.inr sz_ob) all0)).trans K12 (allS (P := fun x => x ∈ [] ∨ h0.size ≤ x) (Or.inr sz_ob) all0)).trans K18 (allS (P := fun x => x ∈ [] ∨ h0.size ≤ x) (Or.inr sz_ob) all0))
    exact ⟨ob, kb, lo0, hi0, lo1, hi1, lo2, hi2, rfl, N18, f22, gb, sz_ob, Vb18, ql0, qh0, ql1, qh1, ql2, qh2⟩
theorem ef_rm_cq3 (m : MethodId) (x0 : Addr) (x2 : Addr) : entryFrame m #[(.ref x0), (.int 0), (.ref x2), (.int 0), (.int 3)] 7 = mkF m 0 #[.val (.ref x0), .val (.int 0), .val (.ref x2), .val (.int 0), .val (.int 3), .unset, .unset] [] := by first | (simp [entryFrame, mkF, argsToLocals, Value.category]; done) | rfl
def Q_cq3 (Z : State) (oc : Addr) (ob : Addr) (kC : ClassId) (c0 : Int32) (c1 : Int32) (c2 : Int32) (kb : ClassId) (h0 : Heap) (n0 : Nat) (v : Option Value) (h : Heap) (L : List Loc) : Prop := Fr n0 L ∧ Keep h0 h [ob] ∧ ((v = some (.int 3) ∧ (c0.toInt ≤ 255 ∧ c1.toInt ≤ 255 ∧ c2.toInt ≤ 255) ∧ ∃ bb0 bb1 bb2 : Int32, Arv Z h ob kb .byte (3 : Int32) [(.int bb0), (.int bb1), (.int bb2)] (.int 0) ∧ bb0.toInt % 256 = c0.toInt ∧ bb1.toInt % 256 = c1.toInt ∧ bb2.toInt % 256 = c2.toInt) ∨ (v = some (.int 0) ∧ 255 < c0.toInt ∧ ∃ vs, Arv Z h ob kb .byte (3 : Int32) vs (.int 0)) ∨ (v = some (.int 1) ∧ 255 < c1.toInt ∧ ∃ vs, Arv Z h ob kb .byte (3 : Int32) vs (.int 0)) ∨ (v = some (.int 2) ∧ 255 < c2.toInt ∧ ∃ vs, Arv Z h ob kb .byte (3 : Int32) vs (.int 0)))
theorem rm_cq3 (l : Launch) (Z : State) (a0 : Array Value) (hw : ∀ d ∈ tables_1, d.before a0 Z = true) (ws : List Jvm.Cond) (oc : Addr) (ob : Addr) (kC : ClassId) (c0 : Int32) (c1 : Int32) (c2 : Int32) (kb : ClassId) (h0 : Heap) (n0 : Nat) (Z0 : n0 ≤ h0.size) (Vc : Arv Z h0 oc kC .char (3 : Int32) [(.int c0), (.int c1), (.int c2)] (.int 0)) (uc0 : 0 ≤ c0.toInt) (uc1 : 0 ≤ c1.toInt) (uc2 : 0 ≤ c2.toInt) (vc0 : c0.toInt < 65536) (vc1 : c1.toInt < 65536) (vc2 : c2.toInt < 65536) (Vb : Arv Z h0 ob kb .byte (3 : Int32) [(.int 0), (.int 0), (.int 0)] (.int 0)) (gb : n0 ≤ ob) (ncb : oc ≠ ob) :
    MetFree l yn8 (head1 (Jvm.Cond.code yn8 jdk_52_method_21_code 7 (some .int) :: ws) ⟨0, 0, 0, 0⟩) (fun a U => a = #[(.ref oc), (.int 0), (.ref ob), (.int 0), (.int 3)] ∧ Z.Warmed39 U.vm ∧ U.heap = h0) (fun _ _ _ _ _ => True) (fun _ U o U' => ∃ v L, o = .returned v ∧ Q_cq3 Z oc ob kC c0 c1 c2 kb h0 n0 v U'.heap L ∧ FrameEnd U o U' L 0 0) := by
  refine MetFree.of_bodySF (plainFor_of_name pn_2) hisR ?_
  intro p e s m args below meth c s₁ Bd hml0 hP hK
  obtain ⟨rfl, hZ, hh⟩ := hP
  have hx := Bd.exec
  have hby := Bd.bytes
  have hml : c.maxLocals = 7 := hml0
  have hown : s.vm.findClass "java/lang/StringUTF16" = some m.cls := findClass_of_methodNamed Bd.named
  have hnm := (name_of_methodNamed Bd.named Bd.method).1
  have X0 : Stand p l e ⟨0, 0, 0, 0⟩ s m #[(.ref oc), (.int 0), (.ref ob), (.int 0), (.int 3)] below meth c s₁ [] 0 0 := Stand.of_body Bd
  have e0 : s₁.heap = h0 := by rw [← hh, Bd.state]; rfl
  have N0 := Fr.nil n0
  have pre0 : oP p e below (s₁.setTop (mkF m 0 #[.val (.ref oc), .val (.int 0), .val (.ref ob), .val (.int 0), .val (.int 3), .unset, .unset] [])) (s₁.setTop (entryFrame m #[(.ref oc), (.int 0), (.ref ob), (.int 0), (.int 3)] 7)) := fun t k => castTop (ef_rm_cq3 m oc ob) k
  have hc7_1 : (0 : Int) < (3 : Int) := by decide
  obtain ⟨cl2, Ar2, q2, S2, M2, H2, G2⟩ := id Vc
  have hin2 : ¬ ((0 : Int32) < 0 ∨ cl2.slots.size ≤ ((0 : Int32)).toNatClampNeg) := inb_of S2 ⟨by decide, by decide⟩
  have hat2 : cl2.slots[((0 : Int32)).toNatClampNeg]? = some (.int c0) := Has.at H2 hin2 rfl
  have pre4 : oP p e below (s₁.setTop (mkF m 20 #[.val (.ref oc), .val (.int 0), .val (.ref ob), .val (.int 0), .val (.int 3), .val (.int 0), .val (.int c0)] [(.int 255), (.int c0)])) (s₁.setTop (entryFrame m #[(.ref oc), (.int 0), (.ref ob), (.int 0), (.int 3)] 7)) := fun t kt => by
    refine pre0 _ ?_
    refine XS.iconst X0.here hx rfl (hb hby d5_0) ?_
    refine XS.istore X0.here hx rfl (hb hby d5_1) rfl (l' := #[.val (.ref oc), .val (.int 0), .val (.ref ob), .val (.int 0), .val (.int 3), .val (.int 0), .unset]) rfl ?_
    refine XS.iload X0.here hx rfl (hb hby d5_3) rfl ?_
    refine XS.iload X0.here hx rfl (hb hby d5_5) rfl ?_
    refine XS.icmpNo X0.here hx rfl (hb hby d5_7) rfl (own_tlt (a := (0 : Int32)) (b := (3 : Int32)) (by decide) (by decide) hc7_1).2.1 ?_
    refine XS.aloadN X0.here hx rfl (hb hby d5_10) rfl rfl ?_
    refine XS.iloadN X0.here hx rfl (hb hby d5_11) rfl ?_
    refine X0.caload hx (j := (0 : Int32)) (v := (.int c0)) (by rw [e0]; exact Ar2.1) (State.isArrayOf_alike hZ.alike Ar2.2.1) Ar2.2.2 hin2 hat2 (g := (mkF m 12 #[.val (.ref oc), .val (.int 0), .val (.ref ob), .val (.int 0), .val (.int 3), .val (.int 0), .unset] [(.int 0), (.ref oc)])) rfl rfl (hb hby d5_12) _ ?_
    refine XS.istore X0.here hx rfl (hb hby d5_13) rfl (l' := #[.val (.ref oc), .val (.int 0), .val (.ref ob), .val (.int 0), .val (.int 3), .val (.int 0), .val (.int c0)]) rfl ?_
    refine XS.iload X0.here hx rfl (hb hby d5_15) rfl ?_
    refine XS.sipush X0.here hx rfl (hb hby d5_17) ?_
    exact kt
  by_cases hc20_3 : (255 : Int) < c0.toInt
  · obtain ⟨fs, hr, q1, q2, q3, q4⟩ := X0.leave (v := some (.int 0)) (fun h => by rw [Bd.returns] at h; cases h)
    refine ⟨_, _, pre4 _ ?_, q1, q2, _, _, rfl, ?_, ⟨_, rfl⟩, q3, q4.mono (by decide) (by decide)⟩
    · show Steps p.tables e below (s₁.setTop (mkF m 20 #[.val (.ref oc), .val (.int 0), .val (.ref ob), .val (.int 0), .val (.int 3), .val (.int 0), .val (.int c0)] [(.int 255), (.int c0)])) _
      refine XS.icmpNo X0.here hx rfl (hb hby d5_20) rfl (own_tlt (a := (255 : Int32)) (b := c0) (by decide) rfl hc20_3).2.2.2 ?_
      refine XS.iload X0.here hx rfl (hb hby d5_23) rfl ?_
      exact retI X0 hx Bd.returns (hb hby d5_25) hr
    · show Q_cq3 Z _ _ _ _ _ _ _ h0 n0 _ s₁.heap _
      rw [e0]
      exact ⟨N0, (Keep.refl h0 [ob]), Or.inr (Or.inl ⟨rfl, by omega, _, Vb⟩)⟩
  · obtain ⟨cl5, Ar5, q5, S5, M5, H5, G5⟩ := id Vb
    have hin5 : ¬ ((0 : Int32) < 0 ∨ cl5.slots.size ≤ ((0 : Int32)).toNatClampNeg) := inb_of S5 ⟨by decide, by decide⟩
    obtain ⟨T6, h6, X6, e6, W6, st6⟩ := stB X0 hx hZ e0 Ar5 (j := (0 : Int32)) hin5 (g := (mkF m 31 #[.val (.ref oc), .val (.int 0), .val (.ref ob), .val (.int 0), .val (.int 3), .val (.int 0), .val (.int c0)] [(.int (c0.toInt8.toInt32)), (.int 0), (.ref ob)])) rfl rfl (hb hby d5_31)
    have N6 := Fr.snoc X6 N0 gb
    have Zs7 : n0 ≤ h6.size := by rw [W6.size]; exact Z0
    have V6 : Arv Z h6 ob kb .byte (3 : Int32) [(.int (nar .byte (c0.toInt8.toInt32))), (.int 0), (.int 0)] (.int 0) := Arv.set Ar5 q5 S5 M5 H5 G5 (fits_nar_byte _) W6 0 rfl (Nat.le_of_ble_eq_true rfl)
    have hc7_8 : (1 : Int) < (3 : Int) := by decide
    have f9 := (Vc.other W6 ncb)
    obtain ⟨cl10, Ar10, q10, S10, M10, H10, G10⟩ := id f9
    have hin10 : ¬ ((1 : Int32) < 0 ∨ cl10.slots.size ≤ ((1 : Int32)).toNatClampNeg) := inb_of S10 ⟨by decide, by decide⟩
    have hat10 : cl10.slots[((1 : Int32)).toNatClampNeg]? = some (.int c1) := Has.at H10 hin10 rfl
    have pre12 : oP p e below (T6.setTop (mkF m 20 #[.val (.ref oc), .val (.int 1), .val (.ref ob), .val (.int 1), .val (.int 3), .val (.int 1), .val (.int c1)] [(.int 255), (.int c1)])) (s₁.setTop (entryFrame m #[(.ref oc), (.int 0), (.ref ob), (.int 0), (.int 3)] 7)) := fun t kt => by
      refine pre4 _ ?_
      show Steps p.tables e below (s₁.setTop (mkF m 20 #[.val (.ref oc), .val (.int 0), .val (.ref ob), .val (.int 0), .val (.int 3), .val (.int 0), .val (.int c0)] [(.int 255), (.int c0)])) _
      refine XS.icmpYes X0.here hx rfl (pc0 := 20) (pc' := 26) rfl (hb hby d5_20) rfl (own_flt (a := (255 : Int32)) (b := c0) (by decide) rfl hc20_3).2.2.2 (by decide) (by decide) ?_
      refine XS.aloadN X0.here hx rfl (hb hby d5_26) rfl rfl ?_
      refine XS.iloadN X0.here hx rfl (hb hby d5_27) rfl ?_
      refine XS.iload X0.here hx rfl (hb hby d5_28) rfl ?_
      refine XS.i2b X0.here hx rfl (hb hby d5_30) rfl ?_
      refine st6 _ ?_
      refine XS.iinc X6.here hx rfl (hb hby d5_32) rfl (l' := #[.val (.ref oc), .val (.int 1), .val (.ref ob), .val (.int 0), .val (.int 3), .val (.int 0), .val (.int c0)]) rfl ?_
      show Steps p.tables e below (T6.setTop (mkF m 35 #[.val (.ref oc), .val (.int 1), .val (.ref ob), .val (.int 0), .val (.int 3), .val (.int 0), .val (.int c0)] [])) _
      refine XS.iinc X6.here hx rfl (hb hby d5_35) rfl (l' := #[.val (.ref oc), .val (.int 1), .val (.ref ob), .val (.int 1), .val (.int 3), .val (.int 0), .val (.int c0)]) rfl ?_
      refine XS.iinc X6.here hx rfl (hb hby d5_38) rfl (l' := #[.val (.ref oc), .val (.int 1), .val (.ref ob), .val (.int 1), .val (.int 3), .val (.int 1), .val (.int c0)]) rfl ?_
      refine XS.goto X6.here hx rfl (pc0 := 41) (pc' := 3) rfl (hb hby d5_41) (by decide) (by decide) ?_
      refine XS.iload X6.here hx rfl (hb hby d5_3) rfl ?_
      refine XS.iload X6.here hx rfl (hb hby d5_5) rfl ?_
      refine XS.icmpNo X6.here hx rfl (hb hby d5_7) rfl (own_tlt (a := (1 : Int32)) (b := (3 : Int32)) (by decide) (by decide) hc7_8).2.1 ?_
      refine XS.aloadN X6.here hx rfl (hb hby d5_10) rfl rfl ?_
      refine XS.iloadN X6.here hx rfl (hb hby d5_11) rfl ?_
      refine X6.caload hx (j := (1 : Int32)) (v := (.int c1)) (by rw [e6]; exact Ar10.1) (State.isArrayOf_alike hZ.alike Ar10.2.1) Ar10.2.2 hin10 hat10 (g := (mkF m 12 #[.val (.ref oc), .val (.int 1), .val (.ref ob), .val (.int 1), .val (.int 3), .val (.int 1), .val (.int c0)] [(.int 1), (.ref oc)])) rfl rfl (hb hby d5_12) _ ?_
      refine XS.istore X6.here hx rfl (hb hby d5_13) rfl (l' := #[.val (.ref oc), .val (.int 1), .val (.ref ob), .val (.int 1), .val (.int 3), .val (.int 1), .val (.int c1)]) rfl ?_
      refine XS.iload X6.here hx rfl (hb hby d5_15) rfl ?_
      refine XS.sipush X6.here hx rfl (hb hby d5_17) ?_
      exact kt
    by_cases hc20_11 : (255 : Int) < c1.toInt
    · obtain ⟨fs, hr, q1, q2, q3, q4⟩ := X6.leave (v := some (.int 1)) (fun h => by rw [Bd.returns] at h; cases h)
      refine ⟨_, _, pre12 _ ?_, q1, q2, _, _, rfl, ?_, ⟨_, rfl⟩, q3, q4.mono (by decide) (by decide)⟩
      · show Steps p.tables e below (T6.setTop (mkF m 20 #[.val (.ref oc), .val (.int 1), .val (.ref ob), .val (.int 1), .val (.int 3), .val (.int 1), .val (.int c1)] [(.int 255), (.int c1)])) _
        refine XS.icmpNo X6.here hx rfl (hb hby d5_20) rfl (own_tlt (a := (255 : Int32)) (b := c1) (by decide) rfl hc20_11).2.2.2 ?_
        refine XS.iload X6.here hx rfl (hb hby d5_23) rfl ?_
        exact retI X6 hx Bd.returns (hb hby d5_25) hr
      · show Q_cq3 Z _ _ _ _ _ _ _ h0 n0 _ T6.heap _
        rw [e6]
        have f13 := ((Keep.refl h0 [ob]).wr W6 (Or.inl (List.mem_of_getElem? (i := 0) rfl)))
        exact ⟨N6, f13, Or.inr (Or.inr (Or.inl ⟨rfl, by omega, _, V6⟩))⟩
    · obtain ⟨cl14, Ar14, q14, S14, M14, H14, G14⟩ := id V6
      have hin14 : ¬ ((1 : Int32) < 0 ∨ cl14.slots.size ≤ ((1 : Int32)).toNatClampNeg) := inb_of S14 ⟨by decide, by decide⟩
      obtain ⟨T15, h15, X15, e15, W15, st15⟩ := stB X6 hx hZ e6 Ar14 (j := (1 : Int32)) hin14 (g := (mkF m 31 #[.val (.ref oc), .val (.int 1), .val (.ref ob), .val (.int 1), .val (.int 3), .val (.int 1), .val (.int c1)] [(.int (c1.toInt8.toInt32)), (.int 1), (.ref ob)])) rfl rfl (hb hby d5_31)
      have N15 := Fr.snoc X15 N6 gb
      have Zs16 : n0 ≤ h15.size := by rw [W15.size]; exact Zs7
      have V15 : Arv Z h15 ob kb .byte (3 : Int32) [(.int (nar .byte (c0.toInt8.toInt32))), (.int (nar .byte (c1.toInt8.toInt32))), (.int 0)] (.int 0) := Arv.set Ar14 q14 S14 M14 H14 G14 (fits_nar_byte _) W15 1 rfl (Nat.le_of_ble_eq_true rfl)
      have hc7_17 : (2 : Int) < (3 : Int) := by decide
      have f18 := (f9.other W15 ncb)
      obtain ⟨cl19, Ar19, q19, S19, M19, H19, G19⟩ := id f18
      have hin19 : ¬ ((2 : Int32) < 0 ∨ cl19.slots.size ≤ ((2 : Int32)).toNatClampNeg) := inb_of S19 ⟨by decide, by decide⟩
      have hat19 : cl19.slots[((2 : Int32)).toNatClampNeg]? = some (.int c2) := Has.at H19 hin19 rfl
      have pre21 : oP p e below (T15.setTop (mkF m 20 #[.val (.ref oc), .val (.int 2), .val (.ref ob), .val (.int 2), .val (.int 3), .val (.int 2), .val (.int c2)] [(.int 255), (.int c2)])) (s₁.setTop (entryFrame m #[(.ref oc), (.int 0), (.ref ob), (.int 0), (.int 3)] 7)) := fun t kt => by
        refine pre12 _ ?_
        show Steps p.tables e below (T6.setTop (mkF m 20 #[.val (.ref oc), .val (.int 1), .val (.ref ob), .val (.int 1), .val (.int 3), .val (.int 1), .val (.int c1)] [(.int 255), (.int c1)])) _
        refine XS.icmpYes X6.here hx rfl (pc0 := 20) (pc' := 26) rfl (hb hby d5_20) rfl (own_flt (a := (255 : Int32)) (b := c1) (by decide) rfl hc20_11).2.2.2 (by decide) (by decide) ?_
        refine XS.aloadN X6.here hx rfl (hb hby d5_26) rfl rfl ?_
        refine XS.iloadN X6.here hx rfl (hb hby d5_27) rfl ?_
        refine XS.iload X6.here hx rfl (hb hby d5_28) rfl ?_
        refine XS.i2b X6.here hx rfl (hb hby d5_30) rfl ?_
        refine st15 _ ?_
        refine XS.iinc X15.here hx rfl (hb hby d5_32) rfl (l' := #[.val (.ref oc), .val (.int 2), .val (.ref ob), .val (.int 1), .val (.int 3), .val (.int 1), .val (.int c1)]) rfl ?_
        show Steps p.tables e below (T15.setTop (mkF m 35 #[.val (.ref oc), .val (.int 2), .val (.ref ob), .val (.int 1), .val (.int 3), .val (.int 1), .val (.int c1)] [])) _
        refine XS.iinc X15.here hx rfl (hb hby d5_35) rfl (l' := #[.val (.ref oc), .val (.int 2), .val (.ref ob), .val (.int 2), .val (.int 3), .val (.int 1), .val (.int c1)]) rfl ?_
        refine XS.iinc X15.here hx rfl (hb hby d5_38) rfl (l' := #[.val (.ref oc), .val (.int 2), .val (.ref ob), .val (.int 2), .val (.int 3), .val (.int 2), .val (.int c1)]) rfl ?_
        refine XS.goto X15.here hx rfl (pc0 := 41) (pc' := 3) rfl (hb hby d5_41) (by decide) (by decide) ?_
        refine XS.iload X15.here hx rfl (hb hby d5_3) rfl ?_
        refine XS.iload X15.here hx rfl (hb hby d5_5) rfl ?_
        refine XS.icmpNo X15.here hx rfl (hb hby d5_7) rfl (own_tlt (a := (2 : Int32)) (b := (3 : Int32)) (by decide) (by decide) hc7_17).2.1 ?_
        refine XS.aloadN X15.here hx rfl (hb hby d5_10) rfl rfl ?_
        refine XS.iloadN X15.here hx rfl (hb hby d5_11) rfl ?_
        refine X15.caload hx (j := (2 : Int32)) (v := (.int c2)) (by rw [e15]; exact Ar19.1) (State.isArrayOf_alike hZ.alike Ar19.2.1) Ar19.2.2 hin19 hat19 (g := (mkF m 12 #[.val (.ref oc), .val (.int 2), .val (.ref ob), .val (.int 2), .val (.int 3), .val (.int 2), .val (.int c1)] [(.int 2), (.ref oc)])) rfl rfl (hb hby d5_12) _ ?_
        refine XS.istore X15.here hx rfl (hb hby d5_13) rfl (l' := #[.val (.ref oc), .val (.int 2), .val (.ref ob), .val (.int 2), .val (.int 3), .val (.int 2), .val (.int c2)]) rfl ?_
        refine XS.iload X15.here hx rfl (hb hby d5_15) rfl ?_
        refine XS.sipush X15.here hx rfl (hb hby d5_17) ?_
        exact kt
      by_cases hc20_20 : (255 : Int) < c2.toInt
      · obtain ⟨fs, hr, q1, q2, q3, q4⟩ := X15.leave (v := some (.int 2)) (fun h => by rw [Bd.returns] at h; cases h)
        refine ⟨_, _, pre21 _ ?_, q1, q2, _, _, rfl, ?_, ⟨_, rfl⟩, q3, q4.mono (by decide) (by decide)⟩
        · show Steps p.tables e below (T15.setTop (mkF m 20 #[.val (.ref oc), .val (.int 2), .val (.ref ob), .val (.int 2), .val (.int 3), .val (.int 2), .val (.int c2)] [(.int 255), (.int c2)])) _
          refine XS.icmpNo X15.here hx rfl (hb hby d5_20) rfl (own_tlt (a := (255 : Int32)) (b := c2) (by decide) rfl hc20_20).2.2.2 ?_
          refine XS.iload X15.here hx rfl (hb hby d5_23) rfl ?_
          exact retI X15 hx Bd.returns (hb hby d5_25) hr
        · show Q_cq3 Z _ _ _ _ _ _ _ h0 n0 _ T15.heap _
          rw [e15]
          have f22 := (((Keep.refl h0 [ob]).wr W6 (Or.inl (List.mem_of_getElem? (i := 0) rfl))).wr W15 (Or.inl (List.mem_of_getElem? (i := 0) rfl)))
          exact ⟨N15, f22, Or.inr (Or.inr (Or.inr (⟨rfl, by omega, _, V15⟩)))⟩
      · obtain ⟨cl23, Ar23, q23, S23, M23, H23, G23⟩ := id V15
        have hin23 : ¬ ((2 : Int32) < 0 ∨ cl23.slots.size ≤ ((2 : Int32)).toNatClampNeg) := inb_of S23 ⟨by decide, by decide⟩
        obtain ⟨T24, h24, X24, e24, W24, st24⟩ := stB X15 hx hZ e15 Ar23 (j := (2 : Int32)) hin23 (g := (mkF m 31 #[.val (.ref oc), .val (.int 2), .val (.ref ob), .val (.int 2), .val (.int 3), .val (.int 2), .val (.int c2)] [(.int (c2.toInt8.toInt32)), (.int 2), (.ref ob)])) rfl rfl (hb hby d5_31)
        have N24 := Fr.snoc X24 N15 gb
        have Zs25 : n0 ≤ h24.size := by rw [W24.size]; exact Zs16
        have V24 : Arv Z h24 ob kb .byte (3 : Int32) [(.int (nar .byte (c0.toInt8.toInt32))), (.int (nar .byte (c1.toInt8.toInt32))), (.int (nar .byte (c2.toInt8.toInt32)))] (.int 0) := Arv.set Ar23 q23 S23 M23 H23 G23 (fits_nar_byte _) W24 2 rfl (Nat.le_of_ble_eq_true rfl)
        have hc7_26 : ¬ ((3 : Int) < (3 : Int)) := by decide
        obtain ⟨fs, hr, q1, q2, q3, q4⟩ := X24.leave (v := some (.int 3)) (fun h => by rw [Bd.returns] at h; cases h)
        refine ⟨_, _, pre21 _ ?_, q1, q2, _, _, rfl, ?_, ⟨_, rfl⟩, q3, q4.mono (by decide) (by decide)⟩
        · show Steps p.tables e below (T15.setTop (mkF m 20 #[.val (.ref oc), .val (.int 2), .val (.ref ob), .val (.int 2), .val (.int 3), .val (.int 2), .val (.int c2)] [(.int 255), (.int c2)])) _
          refine XS.icmpYes X15.here hx rfl (pc0 := 20) (pc' := 26) rfl (hb hby d5_20) rfl (own_flt (a := (255 : Int32)) (b := c2) (by decide) rfl hc20_20).2.2.2 (by decide) (by decide) ?_
          refine XS.aloadN X15.here hx rfl (hb hby d5_26) rfl rfl ?_
          refine XS.iloadN X15.here hx rfl (hb hby d5_27) rfl ?_
          refine XS.iload X15.here hx rfl (hb hby d5_28) rfl ?_
          refine XS.i2b X15.here hx rfl (hb hby d5_30) rfl ?_
          refine st24 _ ?_
          refine XS.iinc X24.here hx rfl (hb hby d5_32) rfl (l' := #[.val (.ref oc), .val (.int 3), .val (.ref ob), .val (.int 2), .val (.int 3), .val (.int 2), .val (.int c2)]) rfl ?_
          show Steps p.tables e below (T24.setTop (mkF m 35 #[.val (.ref oc), .val (.int 3), .val (.ref ob), .val (.int 2), .val (.int 3), .val (.int 2), .val (.int c2)] [])) _
          refine XS.iinc X24.here hx rfl (hb hby d5_35) rfl (l' := #[.val (.ref oc), .val (.int 3), .val (.ref ob), .val (.int 3), .val (.int 3), .val (.int 2), .val (.int c2)]) rfl ?_
          refine XS.iinc X24.here hx rfl (hb hby d5_38) rfl (l' := #[.val (.ref oc), .val (.int 3), .val (.ref ob), .val (.int 3), .val (.int 3), .val (.int 3), .val (.int c2)]) rfl ?_
          refine XS.goto X24.here hx rfl (pc0 := 41) (pc' := 3) rfl (hb hby d5_41) (by decide) (by decide) ?_
          refine XS.iload X24.here hx rfl (hb hby d5_3) rfl ?_
          refine XS.iload X24.here hx rfl (hb hby d5_5) rfl ?_
          refine XS.icmpYes X24.here hx rfl (pc0 := 7) (pc' := 44) rfl (hb hby d5_7) rfl (own_flt (a := (3 : Int32)) (b := (3 : Int32)) (by decide) (by decide) hc7_26).2.1 (by decide) (by decide) ?_
          refine XS.iload X24.here hx rfl (hb hby d5_44) rfl ?_
          exact retI X24 hx Bd.returns (hb hby d5_46) hr
        · show Q_cq3 Z _ _ _ _ _ _ _ h0 n0 _ T24.heap _
          rw [e24]
          have f27 := ((((Keep.refl h0 [ob]).wr W6 (Or.inl (List.mem_of_getElem? (i := 0) rfl))).wr W15 (Or.inl (List.mem_of_getElem? (i := 0) rfl))).wr W24 (Or.inl (List.mem_of_getElem? (i := 0) rfl)))
          exact ⟨N24, f27, Or.inl ⟨rfl, ⟨by omega, by omega, by omega⟩, _, _, _, V24, own_b2 c0 uc0 (by omega), own_b2 c1 uc1 (by omega), own_b2 c2 uc2 (by omega)⟩⟩
theorem ef_rm_cr3 (m : MethodId) (x0 : Addr) : entryFrame m #[(.ref x0), (.int 0), (.int 3)] 6 = mkF m 0 #[.val (.ref x0), .val (.int 0), .val (.int 3), .unset, .unset, .unset] [] := by first | (simp [entryFrame, mkF, argsToLocals, Value.category]; done) | rfl
def Q_cr3 (Z : State) (oc : Addr) (vcs : Int32) (vf : Value) (kC : ClassId) (c0 : Int32) (c1 : Int32) (c2 : Int32) (h0 : Heap) (n0 : Nat) (v : Option Value) (h : Heap) (L : List Loc) : Prop := ∃ (ob : Addr) (kb : ClassId), v = some (.ref ob) ∧ Fr n0 L ∧ Keep h0 h [] ∧ n0 ≤ ob ∧ h0.size ≤ ob ∧ (((c0.toInt ≤ 255 ∧ c1.toInt ≤ 255 ∧ c2.toInt ≤ 255) ∧ ∃ bb0 bb1 bb2 : Int32, Arv Z h ob kb .byte (3 : Int32) [(.int bb0), (.int bb1), (.int bb2)] (.int 0) ∧ bb0.toInt % 256 = c0.toInt ∧ bb1.toInt % 256 = c1.toInt ∧ bb2.toInt % 256 = c2.toInt) ∨ (¬ (c0.toInt ≤ 255 ∧ c1.toInt ≤ 255 ∧ c2.toInt ≤ 255) ∧ ∃ lo0 hi0 lo1 hi1 lo2 hi2 : Int32, Arv Z h ob kb .byte (6 : Int32) [(.int lo0), (.int hi0), (.int lo1), (.int hi1), (.int lo2), (.int hi2)] (.int 0) ∧ lo0.toInt % 256 = c0.toInt % 256 ∧ hi0.toInt % 256 = c0.toInt / 256 ∧ lo1.toInt % 256 = c1.toInt % 256 ∧ hi1.toInt % 256 = c1.toInt / 256 ∧ lo2.toInt % 256 = c2.toInt % 256 ∧ hi2.toInt % 256 = c2.toInt / 256))
theorem rm_cr3 (l : Launch) (Z : State) (a0 : Array Value) (hw : ∀ d ∈ tables_1, d.before a0 Z = true) (ws : List Jvm.Cond) (oc : Addr) (vcs : Int32) (vf : Value) (kC : ClassId) (c0 : Int32) (c1 : Int32) (c2 : Int32) (h0 : Heap) (n0 : Nat) (Z0 : n0 ≤ h0.size) (Os : own_st Z h0 vcs vf) (Vc : Arv Z h0 oc kC .char (3 : Int32) [(.int c0), (.int c1), (.int c2)] (.int 0)) (uc0 : 0 ≤ c0.toInt) (uc1 : 0 ≤ c1.toInt) (uc2 : 0 ≤ c2.toInt) (vc0 : c0.toInt < 65536) (vc1 : c1.toInt < 65536) (vc2 : c2.toInt < 65536) :
    MetFree l yn9 (head1 (Jvm.Cond.code yn9 jdk_52_method_16_code 6 (some (.array .byte)) :: ws) ⟨3, 2, 9, 40⟩) (fun a U => a = #[(.ref oc), (.int 0), (.int 3)] ∧ Z.Warmed39 U.vm ∧ U.heap = h0) (fun _ _ _ _ _ => True) (fun _ U o U' => ∃ v L, o = .returned v ∧ Q_cr3 Z oc vcs vf kC c0 c1 c2 h0 n0 v U'.heap L ∧ FrameEnd U o U' L 2 9) := by
  refine MetFree.of_bodySF (plainFor_of_name pn_2) hisR ?_
  intro p e s m args below meth c s₁ Bd hml0 hP hK
  obtain ⟨rfl, hZ, hh⟩ := hP
  have hx := Bd.exec
  have hby := Bd.bytes
  have hml : c.maxLocals = 6 := hml0
  have hown : s.vm.findClass "java/lang/StringUTF16" = some m.cls := findClass_of_methodNamed Bd.named
  have hnm := (name_of_methodNamed Bd.named Bd.method).1
  have X0 : Stand p l e ⟨3, 2, 9, 40⟩ s m #[(.ref oc), (.int 0), (.int 3)] below meth c s₁ [] 0 0 := Stand.of_body Bd
  have e0 : s₁.heap = h0 := by rw [← hh, Bd.state]; rfl
  have N0 := Fr.nil n0
  have pre0 : oP p e below (s₁.setTop (mkF m 0 #[.val (.ref oc), .val (.int 0), .val (.int 3), .unset, .unset, .unset] [])) (s₁.setTop (entryFrame m #[(.ref oc), (.int 0), (.int 3)] 6)) := fun t k => castTop (ef_rm_cr3 m oc) k
  obtain ⟨T1, h1, k1, X1, e1, E1, A1, st1⟩ := newP X0 hx hZ (ow hw 21 rfl) e0 (g := (mkF m 1 #[.val (.ref oc), .val (.int 0), .val (.int 3), .unset, .unset, .unset] [(.int 3)])) rfl (hb hby d4_1) rfl (by decide) (cap := 3) (by decide) (by decide) (by decide) (by decide)
  obtain ⟨b1, g1⟩ : ∃ z, z = h0.size := ⟨_, rfl⟩
  have ne_oc_b1 : oc ≠ b1 := Nat.ne_of_lt (Nat.lt_of_lt_of_le Vc.lt (Nat.le_of_eq g1.symm))
  have g_b1 : n0 ≤ b1 := Nat.le_trans Z0 (Nat.le_of_eq g1.symm)
  have sz_b1 : h0.size ≤ b1 := Nat.le_trans (Keep.refl h0 []).1 (Nat.le_of_eq g1.symm)
  rw [← g1] at A1 st1
  have Zs2 : n0 ≤ h1.size := Nat.le_trans Z0 E1.1
  have V1 : Arv Z h1 b1 k1 .byte (3 : Int32) [(.int 0), (.int 0), (.int 0)] (.int 0) := (Arv.new A1 (by decide)).pad (pad_rep [] (.int 0) 3)
  have f4 := (Vc.ext E1)
  obtain ⟨_, _, ⟨T3, L3, k3, n3⟩, -, X3, ⟨Lc3, hQ3, l3, y3, z3⟩, st3⟩ := Jvm.LawKit.callS X1 hx (y := yn8) hown (mvT hZ (ow hw 22 rfl)) (mvT hZ (ow hw 23 rfl)) (mvT hZ (ow hw 19 rfl)) (mvT hZ (ow hw 24 rfl)) (by decide) (backOf (W := 0) (rm_cq3 l Z a0 hw [] oc b1 kC c0 c1 c2 k1 h1 n0 Zs2 f4 uc0 uc1 uc2 vc0 vc1 vc2 V1 g_b1 ne_oc_b1) hZ (ow hw 24 rfl) (ow hw 19 rfl) (by decide) (by decide)) (g := (mkF m 9 #[.val (.ref oc), .val (.int 0), .val (.int 3), .val (.ref b1), .unset, .unset] [(.int 3), (.int 0), (.ref b1), (.int 0), (.ref oc)])) rfl (by rw [hml]; rfl) (argsL := [(.ref oc), (.int 0), (.ref b1), (.int 0), (.int 3)]) (rest := []) (lenOf pd_3 rfl) rfl (by exact Nat.le_of_eq rfl) (hb hby d4_9) (fun _ _ => ⟨rfl, e1, (by decide : 1 + 0 ≤ _), (by decide : 3 + 0 ≤ _)⟩)
  dsimp only [Pt.U, Pt.locs, Pt.cells, Pt.slots] at X3 l3 y3 z3 st3 hQ3
  rw [l3, y3, z3] at X3
  obtain ⟨N3q, K3, hO3⟩ := hQ3
  have N3 := Fr.app N0 N3q
  have Zs5 : n0 ≤ T3.heap.size := Nat.le_trans Zs2 K3.1
  rcases hO3 with ⟨rfl, hall, bb0, bb1, bb2, VbL, qbb0, qbb1, qbb2⟩ | ⟨rfl, hbig, vsP, VbP⟩ | ⟨rfl, hbig, vsP, VbP⟩ | ⟨rfl, hbig, vsP, VbP⟩
  · have own_mk3 := True.intro
    have hc17_6 : (3 : Int) = (3 : Int) := by decide
    obtain ⟨fs, hr, q1, q2, q3, q4⟩ := X3.leave (v := some (.ref b1)) (fun h => by rw [Bd.returns] at h; cases h)
    refine ⟨_, _, pre0 _ ?_, q1, q2, _, _, rfl, ?_, ⟨_, rfl⟩, q3, q4.mono (by decide) (by decide)⟩
    · refine XS.iloadN X0.here hx rfl (hb hby d4_0) rfl ?_
      refine st1 _ ?_
      refine XS.astoreN X1.here hx rfl (hb hby d4_3) rfl rfl (l' := #[.val (.ref oc), .val (.int 0), .val (.int 3), .val (.ref b1), .unset, .unset]) rfl ?_
      refine XS.aloadN X1.here hx rfl (hb hby d4_4) rfl rfl ?_
      refine XS.iloadN X1.here hx rfl (hb hby d4_5) rfl ?_
      refine XS.aloadN X1.here hx rfl (hb hby d4_6) rfl rfl ?_
      refine XS.iconst X1.here hx rfl (hb hby d4_7) ?_
      refine XS.iloadN X1.here hx rfl (hb hby d4_8) rfl ?_
      refine st3 _ ?_
      refine XS.istore X3.here hx rfl (hb hby d4_12) rfl (l' := #[.val (.ref oc), .val (.int 0), .val (.int 3), .val (.ref b1), .val (.int 3), .unset]) rfl ?_
      refine XS.iload X3.here hx rfl (hb hby d4_14) rfl ?_
      refine XS.iloadN X3.here hx rfl (hb hby d4_16) rfl ?_
      refine XS.icmpYes X3.here hx rfl (pc0 := 17) (pc' := 57) rfl (hb hby d4_17) rfl (own_teq (a := (3 : Int32)) (b := (3 : Int32)) (by decide) (by decide) hc17_6).1 (by decide) (by decide) ?_
      refine XS.aloadN X3.here hx rfl (hb hby d4_57) rfl rfl ?_
      jvm_step X3.here [X3.here.top, hx, (hb hby d4_58), X3.method', Bd.returns, Value.isRef, FieldType.isReference]
      first | (intro acts; rw [hr _ acts rfl rfl rfl]) | rw [hr _ _ rfl rfl rfl]
      exact Steps.refl _
    · show Q_cr3 Z _ _ _ _ _ _ _ h0 n0 _ T3.heap _
      have f7 := (((Keep.refl h0 []).ext E1).trans K3 (allS (P := fun x => x ∈ [] ∨ h0.size ≤ x) (Or.inr sz_b1) all0))
      exact ⟨b1, _, rfl, N3, f7, g_b1, sz_b1, Or.inl ⟨hall, bb0, bb1, bb2, VbL, qbb0, qbb1, qbb2⟩⟩
  · have own_mk0 := True.intro
    have hc17_8 : ¬ ((0 : Int) = (3 : Int)) := by decide
    have f10 := (f4.keep K3 (ninS ne_oc_b1 nin0))
    have f11 := (((Keep.refl h0 []).ext E1).trans K3 (allS (P := fun x => x ∈ [] ∨ h0.size ≤ x) (Or.inr sz_b1) all0))
    have os12 := (own_st_keep (own_st_ext Os E1) K3 (nsS V1.nostat ns0))
    obtain ⟨_, _, ⟨T9, L9, k9, n9⟩, -, X9, ⟨Lc9, hQ9, l9, y9, z9⟩, st9⟩ := Jvm.LawKit.callS X3 hx (y := yn7) hown (mvT hZ (ow hw 50 rfl)) (mvT hZ (ow hw 51 rfl)) (mvT hZ (ow hw 19 rfl)) (mvT hZ (ow hw 52 rfl)) (by decide) (backOf (W := 0) (rm_tb3 l Z a0 hw [] oc vcs vf kC c0 c1 c2 T3.heap n0 Zs5 os12 f10 uc0 uc1 uc2 vc0 vc1 vc2) hZ (ow hw 52 rfl) (ow hw 19 rfl) (by decide) (by decide)) (g := (mkF m 23 #[.val (.ref oc), .val (.int 0), .val (.int 3), .val (.ref b1), .val (.int 0), .unset] [(.int 3), (.int 0), (.ref oc)])) rfl (by rw [hml]; rfl) (argsL := [(.ref oc), (.int 0), (.int 3)]) (rest := []) (lenOf pd_4 rfl) rfl (by exact Nat.le_of_eq rfl) (hb hby d4_23) (fun _ _ => ⟨rfl, rfl, (by decide : 1 + 1 ≤ _), (by decide : 3 + 6 ≤ _)⟩)
    dsimp only [Pt.U, Pt.locs, Pt.cells, Pt.slots] at X9 l9 y9 z9 st9 hQ9
    rw [l9, y9, z9] at X9
    obtain ⟨ou, ku, lo0, hi0, lo1, hi1, lo2, hi2, rfl, N9q, K9, gu, szu, Vu9, qlo0, qhi0, qlo1, qhi1, qlo2, qhi2⟩ := hQ9
    have N9 := Fr.app N3 N9q
    have Zs13 : n0 ≤ T9.heap.size := Nat.le_trans Zs5 K9.1
    have ne_oc_ou : oc ≠ ou := Nat.ne_of_lt (Nat.lt_of_lt_of_le f10.lt szu)
    have ne_b1_ou : b1 ≠ ou := Nat.ne_of_lt (Nat.lt_of_lt_of_le VbP.lt szu)
    have sz_ou : h0.size ≤ ou := Nat.le_trans f11.1 szu
    have os15 := (own_st_keep os12 K9 ns0)
    obtain ⟨_, _, ⟨T14, L14, k14, n14⟩, -, X14, ⟨Lc14, hQ14, l14, y14, z14⟩, st14⟩ := Jvm.LawKit.callS X9 hx (y := yn2) hown (mvT hZ (ow hw 66 rfl)) (mvT hZ (ow hw 67 rfl)) (mvT hZ (ow hw 19 rfl)) (mvT hZ (ow hw 68 rfl)) (by decide) (backOf (W := 0) (rm_gc l Z a0 hw [] ou (0 : Int32) vcs vf ku (6 : Int32) [(.int lo0), (.int hi0), (.int lo1), (.int hi1), (.int lo2), (.int hi2)] lo0 hi0 0 T9.heap n0 Zs13 os15 Vu9 (by decide) (by decide) (by decide) rfl rfl) hZ (ow hw 68 rfl) (ow hw 19 rfl) (by decide) (by decide)) (g := (mkF m 32 #[.val (.ref oc), .val (.int 0), .val (.int 3), .val (.ref b1), .val (.int 0), .val (.ref ou)] [(.int 0), (.ref ou)])) rfl (by rw [hml]; rfl) (argsL := [(.ref ou), (.int 0)]) (rest := []) (lenOf pd_5 rfl) rfl (by exact Nat.le_of_eq rfl) (hb hby d4_32) (fun _ _ => ⟨rfl, rfl, (by decide : 2 + 0 ≤ _), (by decide : 9 + 0 ≤ _)⟩)
    dsimp only [Pt.U, Pt.locs, Pt.cells, Pt.slots] at X14 l14 y14 z14 st14 hQ14
    rw [l14, y14, z14] at X14
    obtain ⟨zg, rfl, hzg, N14q, e14⟩ := hQ14
    have N14 := Fr.app N9 N14q
    have hc38_16 : (255 : Int) < zg.toInt := by omega
    obtain ⟨fs, hr, q1, q2, q3, q4⟩ := X14.leave (v := some (.ref ou)) (fun h => by rw [Bd.returns] at h; cases h)
    refine ⟨_, _, pre0 _ ?_, q1, q2, _, _, rfl, ?_, ⟨_, rfl⟩, q3, q4.mono (by decide) (by decide)⟩
    · refine XS.iloadN X0.here hx rfl (hb hby d4_0) rfl ?_
      refine st1 _ ?_
      refine XS.astoreN X1.here hx rfl (hb hby d4_3) rfl rfl (l' := #[.val (.ref oc), .val (.int 0), .val (.int 3), .val (.ref b1), .unset, .unset]) rfl ?_
      refine XS.aloadN X1.here hx rfl (hb hby d4_4) rfl rfl ?_
      refine XS.iloadN X1.here hx rfl (hb hby d4_5) rfl ?_
      refine XS.aloadN X1.here hx rfl (hb hby d4_6) rfl rfl ?_
      refine XS.iconst X1.here hx rfl (hb hby d4_7) ?_
      refine XS.iloadN X1.here hx rfl (hb hby d4_8) rfl ?_
      refine st3 _ ?_
      refine XS.istore X3.here hx rfl (hb hby d4_12) rfl (l' := #[.val (.ref oc), .val (.int 0), .val (.int 3), .val (.ref b1), .val (.int 0), .unset]) rfl ?_
      refine XS.iload X3.here hx rfl (hb hby d4_14) rfl ?_
      refine XS.iloadN X3.here hx rfl (hb hby d4_16) rfl ?_
      refine XS.icmpNo X3.here hx rfl (hb hby d4_17) rfl (own_feq (a := (0 : Int32)) (b := (3 : Int32)) (by decide) (by decide) hc17_8).1 ?_
      refine XS.aloadN X3.here hx rfl (hb hby d4_20) rfl rfl ?_
      refine XS.iloadN X3.here hx rfl (hb hby d4_21) rfl ?_
      refine XS.iloadN X3.here hx rfl (hb hby d4_22) rfl ?_
      refine st9 _ ?_
      refine XS.astore X9.here hx rfl (hb hby d4_26) rfl rfl (l' := #[.val (.ref oc), .val (.int 0), .val (.int 3), .val (.ref b1), .val (.int 0), .val (.ref ou)]) rfl ?_
      refine XS.aload X9.here hx rfl (hb hby d4_28) rfl rfl ?_
      show Steps p.tables e below (T9.setTop (mkF m 30 #[.val (.ref oc), .val (.int 0), .val (.int 3), .val (.ref b1), .val (.int 0), .val (.ref ou)] [(.ref ou)])) _
      refine XS.iload X9.here hx rfl (hb hby d4_30) rfl ?_
      refine st14 _ ?_
      refine XS.sipush X14.here hx rfl (hb hby d4_35) ?_
      refine XS.icmpYes X14.here hx rfl (pc0 := 38) (pc' := 54) rfl (hb hby d4_38) rfl (own_tlt (a := (255 : Int32)) (b := zg) (by decide) rfl hc38_16).2.2.1 (by decide) (by decide) ?_
      refine XS.aload X14.here hx rfl (hb hby d4_54) rfl rfl ?_
      jvm_step X14.here [X14.here.top, hx, (hb hby d4_56), X14.method', Bd.returns, Value.isRef, FieldType.isReference]
      first | (intro acts; rw [hr _ acts rfl rfl rfl]) | rw [hr _ _ rfl rfl rfl]
      exact Steps.refl _
    · show Q_cr3 Z _ _ _ _ _ _ _ h0 n0 _ T14.heap _
      rw [e14]
      have f17 := (f11.trans K9 all0)
      exact ⟨ou, _, rfl, N14, f17, gu, sz_ou, Or.inr ⟨fun q => by omega, lo0, hi0, lo1, hi1, lo2, hi2, Vu9, qlo0, qhi0, qlo1, qhi1, qlo2, qhi2⟩⟩
  · have own_mk1 := True.intro
    have hc17_18 : ¬ ((1 : Int) = (3 : Int)) := by decide
    have f20 := (f4.keep K3 (ninS ne_oc_b1 nin0))
    have f21 := (((Keep.refl h0 []).ext E1).trans K3 (allS (P := fun x => x ∈ [] ∨ h0.size ≤ x) (Or.inr sz_b1) all0))
    have os22 := (own_st_keep (own_st_ext Os E1) K3 (nsS V1.nostat ns0))
    obtain ⟨_, _, ⟨T19, L19, k19, n19⟩, -, X19, ⟨Lc19, hQ19, l19, y19, z19⟩, st19⟩ := Jvm.LawKit.callS X3 hx (y := yn7) hown (mvT hZ (ow hw 50 rfl)) (mvT hZ (ow hw 51 rfl)) (mvT hZ (ow hw 19 rfl)) (mvT hZ (ow hw 52 rfl)) (by decide) (backOf (W := 0) (rm_tb3 l Z a0 hw [] oc vcs vf kC c0 c1 c2 T3.heap n0 Zs5 os22 f20 uc0 uc1 uc2 vc0 vc1 vc2) hZ (ow hw 52 rfl) (ow hw 19 rfl) (by decide) (by decide)) (g := (mkF m 23 #[.val (.ref oc), .val (.int 0), .val (.int 3), .val (.ref b1), .val (.int 1), .unset] [(.int 3), (.int 0), (.ref oc)])) rfl (by rw [hml]; rfl) (argsL := [(.ref oc), (.int 0), (.int 3)]) (rest := []) (lenOf pd_4 rfl) rfl (by exact Nat.le_of_eq rfl) (hb hby d4_23) (fun _ _ => ⟨rfl, rfl, (by decide : 1 + 1 ≤ _), (by decide : 3 + 6 ≤ _)⟩)
    dsimp only [Pt.U, Pt.locs, Pt.cells, Pt.slots] at X19 l19 y19 z19 st19 hQ19
    rw [l19, y19, z19] at X19
    obtain ⟨ou, ku, lo0, hi0, lo1, hi1, lo2, hi2, rfl, N19q, K19, gu, szu, Vu19, qlo0, qhi0, qlo1, qhi1, qlo2, qhi2⟩ := hQ19
    have N19 := Fr.app N3 N19q
    have Zs23 : n0 ≤ T19.heap.size := Nat.le_trans Zs5 K19.1
    have ne_oc_ou : oc ≠ ou := Nat.ne_of_lt (Nat.lt_of_lt_of_le f20.lt szu)
    have ne_b1_ou : b1 ≠ ou := Nat.ne_of_lt (Nat.lt_of_lt_of_le VbP.lt szu)
    have sz_ou : h0.size ≤ ou := Nat.le_trans f21.1 szu
    have os25 := (own_st_keep os22 K19 ns0)
    obtain ⟨_, _, ⟨T24, L24, k24, n24⟩, -, X24, ⟨Lc24, hQ24, l24, y24, z24⟩, st24⟩ := Jvm.LawKit.callS X19 hx (y := yn2) hown (mvT hZ (ow hw 66 rfl)) (mvT hZ (ow hw 67 rfl)) (mvT hZ (ow hw 19 rfl)) (mvT hZ (ow hw 68 rfl)) (by decide) (backOf (W := 0) (rm_gc l Z a0 hw [] ou (1 : Int32) vcs vf ku (6 : Int32) [(.int lo0), (.int hi0), (.int lo1), (.int hi1), (.int lo2), (.int hi2)] lo1 hi1 1 T19.heap n0 Zs23 os25 Vu19 (by decide) (by decide) (by decide) rfl rfl) hZ (ow hw 68 rfl) (ow hw 19 rfl) (by decide) (by decide)) (g := (mkF m 32 #[.val (.ref oc), .val (.int 0), .val (.int 3), .val (.ref b1), .val (.int 1), .val (.ref ou)] [(.int 1), (.ref ou)])) rfl (by rw [hml]; rfl) (argsL := [(.ref ou), (.int 1)]) (rest := []) (lenOf pd_5 rfl) rfl (by exact Nat.le_of_eq rfl) (hb hby d4_32) (fun _ _ => ⟨rfl, rfl, (by decide : 2 + 0 ≤ _), (by decide : 9 + 0 ≤ _)⟩)
    dsimp only [Pt.U, Pt.locs, Pt.cells, Pt.slots] at X24 l24 y24 z24 st24 hQ24
    rw [l24, y24, z24] at X24
    obtain ⟨zg, rfl, hzg, N24q, e24⟩ := hQ24
    have N24 := Fr.app N19 N24q
    have hc38_26 : (255 : Int) < zg.toInt := by omega
    obtain ⟨fs, hr, q1, q2, q3, q4⟩ := X24.leave (v := some (.ref ou)) (fun h => by rw [Bd.returns] at h; cases h)
    refine ⟨_, _, pre0 _ ?_, q1, q2, _, _, rfl, ?_, ⟨_, rfl⟩, q3, q4.mono (by decide) (by decide)⟩
    · refine XS.iloadN X0.here hx rfl (hb hby d4_0) rfl ?_
      refine st1 _ ?_
      refine XS.astoreN X1.here hx rfl (hb hby d4_3) rfl rfl (l' := #[.val (.ref oc), .val (.int 0), .val (.int 3), .val (.ref b1), .unset, .unset]) rfl ?_
      refine XS.aloadN X1.here hx rfl (hb hby d4_4) rfl rfl ?_
      refine XS.iloadN X1.here hx rfl (hb hby d4_5) rfl ?_
      refine XS.aloadN X1.here hx rfl (hb hby d4_6) rfl rfl ?_
      refine XS.iconst X1.here hx rfl (hb hby d4_7) ?_
      refine XS.iloadN X1.here hx rfl (hb hby d4_8) rfl ?_
      refine st3 _ ?_
      refine XS.istore X3.here hx rfl (hb hby d4_12) rfl (l' := #[.val (.ref oc), .val (.int 0), .val (.int 3), .val (.ref b1), .val (.int 1), .unset]) rfl ?_
      refine XS.iload X3.here hx rfl (hb hby d4_14) rfl ?_
      refine XS.iloadN X3.here hx rfl (hb hby d4_16) rfl ?_
      refine XS.icmpNo X3.here hx rfl (hb hby d4_17) rfl (own_feq (a := (1 : Int32)) (b := (3 : Int32)) (by decide) (by decide) hc17_18).1 ?_
      refine XS.aloadN X3.here hx rfl (hb hby d4_20) rfl rfl ?_
      refine XS.iloadN X3.here hx rfl (hb hby d4_21) rfl ?_
      refine XS.iloadN X3.here hx rfl (hb hby d4_22) rfl ?_
      refine st19 _ ?_
      refine XS.astore X19.here hx rfl (hb hby d4_26) rfl rfl (l' := #[.val (.ref oc), .val (.int 0), .val (.int 3), .val (.ref b1), .val (.int 1), .val (.ref ou)]) rfl ?_
      refine XS.aload X19.here hx rfl (hb hby d4_28) rfl rfl ?_
      show Steps p.tables e below (T19.setTop (mkF m 30 #[.val (.ref oc), .val (.int 0), .val (.int 3), .val (.ref b1), .val (.int 1), .val (.ref ou)] [(.ref ou)])) _
      refine XS.iload X19.here hx rfl (hb hby d4_30) rfl ?_
      refine st24 _ ?_
      refine XS.sipush X24.here hx rfl (hb hby d4_35) ?_
      refine XS.icmpYes X24.here hx rfl (pc0 := 38) (pc' := 54) rfl (hb hby d4_38) rfl (own_tlt (a := (255 : Int32)) (b := zg) (by decide) rfl hc38_26).2.2.1 (by decide) (by decide) ?_
      refine XS.aload X24.here hx rfl (hb hby d4_54) rfl rfl ?_
      jvm_step X24.here [X24.here.top, hx, (hb hby d4_56), X24.method', Bd.returns, Value.isRef, FieldType.isReference]
      first | (intro acts; rw [hr _ acts rfl rfl rfl]) | rw [hr _ _ rfl rfl rfl]
      exact Steps.refl _
    · show Q_cr3 Z _ _ _ _ _ _ _ h0 n0 _ T24.heap _
      rw [e24]
      have f27 := (f21.trans K19 all0)
      exact ⟨ou, _, rfl, N24, f27, gu, sz_ou, Or.inr ⟨fun q => by omega, lo0, hi0, lo1, hi1, lo2, hi2, Vu19, qlo0, qhi0, qlo1, qhi1, qlo2, qhi2⟩⟩
  · have own_mk2 := True.intro
    have hc17_28 : ¬ ((2 : Int) = (3 : Int)) := by decide
    have f30 := (f4.keep K3 (ninS ne_oc_b1 nin0))
    have f31 := (((Keep.refl h0 []).ext E1).trans K3 (allS (P := fun x => x ∈ [] ∨ h0.size ≤ x) (Or.inr sz_b1) all0))
    have os32 := (own_st_keep (own_st_ext Os E1) K3 (nsS V1.nostat ns0))
    obtain ⟨_, _, ⟨T29, L29, k29, n29⟩, -, X29, ⟨Lc29, hQ29, l29, y29, z29⟩, st29⟩ := Jvm.LawKit.callS X3 hx (y := yn7) hown (mvT hZ (ow hw 50 rfl)) (mvT hZ (ow hw 51 rfl)) (mvT hZ (ow hw 19 rfl)) (mvT hZ (ow hw 52 rfl)) (by decide) (backOf (W := 0) (rm_tb3 l Z a0 hw [] oc vcs vf kC c0 c1 c2 T3.heap n0 Zs5 os32 f30 uc0 uc1 uc2 vc0 vc1 vc2) hZ (ow hw 52 rfl) (ow hw 19 rfl) (by decide) (by decide)) (g := (mkF m 23 #[.val (.ref oc), .val (.int 0), .val (.int 3), .val (.ref b1), .val (.int 2), .unset] [(.int 3), (.int 0), (.ref oc)])) rfl (by rw [hml]; rfl) (argsL := [(.ref oc), (.int 0), (.int 3)]) (rest := []) (lenOf pd_4 rfl) rfl (by exact Nat.le_of_eq rfl) (hb hby d4_23) (fun _ _ => ⟨rfl, rfl, (by decide : 1 + 1 ≤ _), (by decide : 3 + 6 ≤ _)⟩)
    dsimp only [Pt.U, Pt.locs, Pt.cells, Pt.slots] at X29 l29 y29 z29 st29 hQ29
    rw [l29, y29, z29] at X29
    obtain ⟨ou, ku, lo0, hi0, lo1, hi1, lo2, hi2, rfl, N29q, K29, gu, szu, Vu29, qlo0, qhi0, qlo1, qhi1, qlo2, qhi2⟩ := hQ29
    have N29 := Fr.app N3 N29q
    have Zs33 : n0 ≤ T29.heap.size := Nat.le_trans Zs5 K29.1
    have ne_oc_ou : oc ≠ ou := Nat.ne_of_lt (Nat.lt_of_lt_of_le f30.lt szu)
    have ne_b1_ou : b1 ≠ ou := Nat.ne_of_lt (Nat.lt_of_lt_of_le VbP.lt szu)
    have sz_ou : h0.size ≤ ou := Nat.le_trans f31.1 szu
    have os35 := (own_st_keep os32 K29 ns0)
    obtain ⟨_, _, ⟨T34, L34, k34, n34⟩, -, X34, ⟨Lc34, hQ34, l34, y34, z34⟩, st34⟩ := Jvm.LawKit.callS X29 hx (y := yn2) hown (mvT hZ (ow hw 66 rfl)) (mvT hZ (ow hw 67 rfl)) (mvT hZ (ow hw 19 rfl)) (mvT hZ (ow hw 68 rfl)) (by decide) (backOf (W := 0) (rm_gc l Z a0 hw [] ou (2 : Int32) vcs vf ku (6 : Int32) [(.int lo0), (.int hi0), (.int lo1), (.int hi1), (.int lo2), (.int hi2)] lo2 hi2 2 T29.heap n0 Zs33 os35 Vu29 (by decide) (by decide) (by decide) rfl rfl) hZ (ow hw 68 rfl) (ow hw 19 rfl) (by decide) (by decide)) (g := (mkF m 32 #[.val (.ref oc), .val (.int 0), .val (.int 3), .val (.ref b1), .val (.int 2), .val (.ref ou)] [(.int 2), (.ref ou)])) rfl (by rw [hml]; rfl) (argsL := [(.ref ou), (.int 2)]) (rest := []) (lenOf pd_5 rfl) rfl (by exact Nat.le_of_eq rfl) (hb hby d4_32) (fun _ _ => ⟨rfl, rfl, (by decide : 2 + 0 ≤ _), (by decide : 9 + 0 ≤ _)⟩)
    dsimp only [Pt.U, Pt.locs, Pt.cells, Pt.slots] at X34 l34 y34 z34 st34 hQ34
    rw [l34, y34, z34] at X34
    obtain ⟨zg, rfl, hzg, N34q, e34⟩ := hQ34
    have N34 := Fr.app N29 N34q
    have hc38_36 : (255 : Int) < zg.toInt := by omega
    obtain ⟨fs, hr, q1, q2, q3, q4⟩ := X34.leave (v := some (.ref ou)) (fun h => by rw [Bd.returns] at h; cases h)
    refine ⟨_, _, pre0 _ ?_, q1, q2, _, _, rfl, ?_, ⟨_, rfl⟩, q3, q4.mono (by decide) (by decide)⟩
    · refine XS.iloadN X0.here hx rfl (hb hby d4_0) rfl ?_
      refine st1 _ ?_
      refine XS.astoreN X1.here hx rfl (hb hby d4_3) rfl rfl (l' := #[.val (.ref oc), .val (.int 0), .val (.int 3), .val (.ref b1), .unset, .unset]) rfl ?_
      refine XS.aloadN X1.here hx rfl (hb hby d4_4) rfl rfl ?_
      refine XS.iloadN X1.here hx rfl (hb hby d4_5) rfl ?_
      refine XS.aloadN X1.here hx rfl (hb hby d4_6) rfl rfl ?_
      refine XS.iconst X1.here hx rfl (hb hby d4_7) ?_
      refine XS.iloadN X1.here hx rfl (hb hby d4_8) rfl ?_
      refine st3 _ ?_
      refine XS.istore X3.here hx rfl (hb hby d4_12) rfl (l' := #[.val (.ref oc), .val (.int 0), .val (.int 3), .val (.ref b1), .val (.int 2), .unset]) rfl ?_
      refine XS.iload X3.here hx rfl (hb hby d4_14) rfl ?_
      refine XS.iloadN X3.here hx rfl (hb hby d4_16) rfl ?_
      refine XS.icmpNo X3.here hx rfl (hb hby d4_17) rfl (own_feq (a := (2 : Int32)) (b := (3 : Int32)) (by decide) (by decide) hc17_28).1 ?_
      refine XS.aloadN X3.here hx rfl (hb hby d4_20) rfl rfl ?_
      refine XS.iloadN X3.here hx rfl (hb hby d4_21) rfl ?_
      refine XS.iloadN X3.here hx rfl (hb hby d4_22) rfl ?_
      refine st29 _ ?_
      refine XS.astore X29.here hx rfl (hb hby d4_26) rfl rfl (l' := #[.val (.ref oc), .val (.int 0), .val (.int 3), .val (.ref b1), .val (.int 2), .val (.ref ou)]) rfl ?_
      refine XS.aload X29.here hx rfl (hb hby d4_28) rfl rfl ?_
      show Steps p.tables e below (T29.setTop (mkF m 30 #[.val (.ref oc), .val (.int 0), .val (.int 3), .val (.ref b1), .val (.int 2), .val (.ref ou)] [(.ref ou)])) _
      refine XS.iload X29.here hx rfl (hb hby d4_30) rfl ?_
      refine st34 _ ?_
      refine XS.sipush X34.here hx rfl (hb hby d4_35) ?_
      refine XS.icmpYes X34.here hx rfl (pc0 := 38) (pc' := 54) rfl (hb hby d4_38) rfl (own_tlt (a := (255 : Int32)) (b := zg) (by decide) rfl hc38_36).2.2.1 (by decide) (by decide) ?_
      refine XS.aload X34.here hx rfl (hb hby d4_54) rfl rfl ?_
      jvm_step X34.here [X34.here.top, hx, (hb hby d4_56), X34.method', Bd.returns, Value.isRef, FieldType.isReference]
      first | (intro acts; rw [hr _ acts rfl rfl rfl]) | rw [hr _ _ rfl rfl rfl]
      exact Steps.refl _
    · show Q_cr3 Z _ _ _ _ _ _ _ h0 n0 _ T34.heap _
      rw [e34]
      have f37 := (f31.trans K29 all0)
      exact ⟨ou, _, rfl, N34, f37, gu, sz_ou, Or.inr ⟨fun q => by omega, lo0, hi0, lo1, hi1, lo2, hi2, Vu29, qlo0, qhi0, qlo1, qhi1, qlo2, qhi2⟩⟩
theorem ef_rm_cg3_0 (m : MethodId) (x0 : Addr) : entryFrame m #[(.ref x0), (.int 3)] 2 = mkF m 0 #[.val (.ref x0), .val (.int 3)] [] := by first | (simp [entryFrame, mkF, argsToLocals, Value.category]; done) | rfl
def Q_cg3_0 (Z : State) (ob : Addr) (kb : ClassId) (vs : List Value) (h0 : Heap) (n0 : Nat) (v : Option Value) (h : Heap) (L : List Loc) : Prop := ∃ z : Int32, v = some (.int z) ∧ (z = (0 : Int32)) ∧ Fr n0 L ∧ h = h0
theorem rm_cg3_0 (l : Launch) (Z : State) (a0 : Array Value) (hw : ∀ d ∈ tables_1, d.before a0 Z = true) (ws : List Jvm.Cond) (ob : Addr) (kb : ClassId) (vs : List Value) (h0 : Heap) (n0 : Nat) (Z0 : n0 ≤ h0.size) (Vb : Arv Z h0 ob kb .byte (3 : Int32) vs (.int 0)) :
    MetFree l yn10 (head1 (Jvm.Cond.code yn10 jdk_52_method_15_code 2 (some .byte) :: ws) ⟨0, 0, 0, 0⟩) (fun a U => a = #[(.ref ob), (.int 3)] ∧ Z.Warmed39 U.vm ∧ U.heap = h0) (fun _ _ _ _ _ => True) (fun _ U o U' => ∃ v L, o = .returned v ∧ Q_cg3_0 Z ob kb vs h0 n0 v U'.heap L ∧ FrameEnd U o U' L 0 0) := by
  refine MetFree.of_bodySF (plainFor_of_name pn_2) hisR ?_
  intro p e s m args below meth c s₁ Bd hml0 hP hK
  obtain ⟨rfl, hZ, hh⟩ := hP
  have hx := Bd.exec
  have hby := Bd.bytes
  have hml : c.maxLocals = 2 := hml0
  have hown : s.vm.findClass "java/lang/StringUTF16" = some m.cls := findClass_of_methodNamed Bd.named
  have hnm := (name_of_methodNamed Bd.named Bd.method).1
  have X0 : Stand p l e ⟨0, 0, 0, 0⟩ s m #[(.ref ob), (.int 3)] below meth c s₁ [] 0 0 := Stand.of_body Bd
  have e0 : s₁.heap = h0 := by rw [← hh, Bd.state]; rfl
  have N0 := Fr.nil n0
  have pre0 : oP p e below (s₁.setTop (mkF m 0 #[.val (.ref ob), .val (.int 3)] [])) (s₁.setTop (entryFrame m #[(.ref ob), (.int 3)] 2)) := fun t k => castTop (ef_rm_cg3_0 m ob) k
  obtain ⟨cl1, Ar1, q1, S1, M1, H1, G1⟩ := id Vb
  obtain ⟨fs, hr, q1, q2, q3, q4⟩ := X0.leave (v := some (.int 0)) (fun h => by rw [Bd.returns] at h; cases h)
  refine ⟨_, _, pre0 _ ?_, q1, q2, _, _, rfl, ?_, ⟨_, rfl⟩, q3, q4.mono (by decide) (by decide)⟩
  · refine XS.iloadN X0.here hx rfl (hb hby d6_0) rfl ?_
    refine XS.aloadN X0.here hx rfl (hb hby d6_1) rfl rfl ?_
    refine X0.arraylength hx (by rw [e0]; exact Ar1.1) (State.isArrayOf_alike hZ.alike Ar1.2.1) (g := (mkF m 2 #[.val (.ref ob), .val (.int 3)] [(.ref ob), (.int 3)])) rfl rfl (hb hby d6_2) _ ?_
    rw [len_of S1 M1]
    refine XS.isub X0.here hx rfl (hb hby d6_3) rfl ?_
    refine XS.bipush X0.here hx rfl (hb hby d6_4) ?_
    refine XS.iushr X0.here hx rfl (hb hby d6_6) rfl ?_
    refine XS.i2b X0.here hx rfl (hb hby d6_7) rfl ?_
    exact retN X0 hx (t := .byte) Bd.returns (by simp) (hb hby d6_8) hr
  · show Q_cg3_0 Z _ _ _ h0 n0 _ s₁.heap _
    rw [e0]
    exact ⟨_, rfl, rfl, N0, rfl⟩
theorem ef_rm_cg3_1 (m : MethodId) (x0 : Addr) : entryFrame m #[(.ref x0), (.int 3)] 2 = mkF m 0 #[.val (.ref x0), .val (.int 3)] [] := by first | (simp [entryFrame, mkF, argsToLocals, Value.category]; done) | rfl
def Q_cg3_1 (Z : State) (ob : Addr) (kb : ClassId) (vs : List Value) (h0 : Heap) (n0 : Nat) (v : Option Value) (h : Heap) (L : List Loc) : Prop := ∃ z : Int32, v = some (.int z) ∧ (z = (1 : Int32)) ∧ Fr n0 L ∧ h = h0
theorem rm_cg3_1 (l : Launch) (Z : State) (a0 : Array Value) (hw : ∀ d ∈ tables_1, d.before a0 Z = true) (ws : List Jvm.Cond) (ob : Addr) (kb : ClassId) (vs : List Value) (h0 : Heap) (n0 : Nat) (Z0 : n0 ≤ h0.size) (Vb : Arv Z h0 ob kb .byte (6 : Int32) vs (.int 0)) :
    MetFree l yn10 (head1 (Jvm.Cond.code yn10 jdk_52_method_15_code 2 (some .byte) :: ws) ⟨0, 0, 0, 0⟩) (fun a U => a = #[(.ref ob), (.int 3)] ∧ Z.Warmed39 U.vm ∧ U.heap = h0) (fun _ _ _ _ _ => True) (fun _ U o U' => ∃ v L, o = .returned v ∧ Q_cg3_1 Z ob kb vs h0 n0 v U'.heap L ∧ FrameEnd U o U' L 0 0) := by
  refine MetFree.of_bodySF (plainFor_of_name pn_2) hisR ?_
  intro p e s m args below meth c s₁ Bd hml0 hP hK
  obtain ⟨rfl, hZ, hh⟩ := hP
  have hx := Bd.exec
  have hby := Bd.bytes
  have hml : c.maxLocals = 2 := hml0
  have hown : s.vm.findClass "java/lang/StringUTF16" = some m.cls := findClass_of_methodNamed Bd.named
  have hnm := (name_of_methodNamed Bd.named Bd.method).1
  have X0 : Stand p l e ⟨0, 0, 0, 0⟩ s m #[(.ref ob), (.int 3)] below meth c s₁ [] 0 0 := Stand.of_body Bd
  have e0 : s₁.heap = h0 := by rw [← hh, Bd.state]; rfl
  have N0 := Fr.nil n0
  have pre0 : oP p e below (s₁.setTop (mkF m 0 #[.val (.ref ob), .val (.int 3)] [])) (s₁.setTop (entryFrame m #[(.ref ob), (.int 3)] 2)) := fun t k => castTop (ef_rm_cg3_1 m ob) k
  obtain ⟨cl1, Ar1, q1, S1, M1, H1, G1⟩ := id Vb
  obtain ⟨fs, hr, q1, q2, q3, q4⟩ := X0.leave (v := some (.int 1)) (fun h => by rw [Bd.returns] at h; cases h)
  refine ⟨_, _, pre0 _ ?_, q1, q2, _, _, rfl, ?_, ⟨_, rfl⟩, q3, q4.mono (by decide) (by decide)⟩
  · refine XS.iloadN X0.here hx rfl (hb hby d6_0) rfl ?_
    refine XS.aloadN X0.here hx rfl (hb hby d6_1) rfl rfl ?_
    refine X0.arraylength hx (by rw [e0]; exact Ar1.1) (State.isArrayOf_alike hZ.alike Ar1.2.1) (g := (mkF m 2 #[.val (.ref ob), .val (.int 3)] [(.ref ob), (.int 3)])) rfl rfl (hb hby d6_2) _ ?_
    rw [len_of S1 M1]
    refine XS.isub X0.here hx rfl (hb hby d6_3) rfl ?_
    refine XS.bipush X0.here hx rfl (hb hby d6_4) ?_
    refine XS.iushr X0.here hx rfl (hb hby d6_6) rfl ?_
    refine XS.i2b X0.here hx rfl (hb hby d6_7) rfl ?_
    exact retN X0 hx (t := .byte) Bd.returns (by simp) (hb hby d6_8) hr
  · show Q_cg3_1 Z _ _ _ h0 n0 _ s₁.heap _
    rw [e0]
    exact ⟨_, rfl, rfl, N0, rfl⟩
theorem ef_rm_iw3 (m : MethodId) (x0 : Addr) (x1 : Addr) : entryFrame m #[(.ref x0), (.ref x1), (.int 0), (.int 3), .null] 6 = mkF m 0 #[.val (.ref x0), .val (.ref x1), .val (.int 0), .val (.int 3), .val .null, .unset] [] := by first | (simp [entryFrame, mkF, argsToLocals, Value.category]; done) | rfl
def Q_iw3 (Z : State) (oa : Addr) (oc : Addr) (vcs : Int32) (vf : Value) (kC : ClassId) (c0 : Int32) (c1 : Int32) (c2 : Int32) (h0 : Heap) (n0 : Nat) (v : Option Value) (h : Heap) (L : List Loc) : Prop := v = none ∧ Fr n0 L ∧ Keep h0 h [oa] ∧ Exa Z h oa "java/lang/String" ∧ ∃ (ob : Addr) (kb : ClassId), n0 ≤ ob ∧ h0.size ≤ ob ∧ Fld Z h oa "java/lang/String" "value" "[B" (.ref ob) ∧ ((Fld Z h oa "java/lang/String" "coder" "B" (.int 0) ∧ ((c0.toInt ≤ 255 ∧ c1.toInt ≤ 255 ∧ c2.toInt ≤ 255) ∧ ∃ bb0 bb1 bb2 : Int32, Arv Z h ob kb .byte (3 : Int32) [(.int bb0), (.int bb1), (.int bb2)] (.int 0) ∧ bb0.toInt % 256 = c0.toInt ∧ bb1.toInt % 256 = c1.toInt ∧ bb2.toInt % 256 = c2.toInt)) ∨ (Fld Z h oa "java/lang/String" "coder" "B" (.int 1) ∧ (¬ (c0.toInt ≤ 255 ∧ c1.toInt ≤ 255 ∧ c2.toInt ≤ 255) ∧ ∃ lo0 hi0 lo1 hi1 lo2 hi2 : Int32, Arv Z h ob kb .byte (6 : Int32) [(.int lo0), (.int hi0), (.int lo1), (.int hi1), (.int lo2), (.int hi2)] (.int 0) ∧ lo0.toInt % 256 = c0.toInt % 256 ∧ hi0.toInt % 256 = c0.toInt / 256 ∧ lo1.toInt % 256 = c1.toInt % 256 ∧ hi1.toInt % 256 = c1.toInt / 256 ∧ lo2.toInt % 256 = c2.toInt % 256 ∧ hi2.toInt % 256 = c2.toInt / 256)))
theorem rm_iw3 (l : Launch) (Z : State) (a0 : Array Value) (hw : ∀ d ∈ tables_1, d.before a0 Z = true) (ws : List Jvm.Cond) (oa : Addr) (oc : Addr) (vcs : Int32) (vf : Value) (kC : ClassId) (c0 : Int32) (c1 : Int32) (c2 : Int32) (h0 : Heap) (n0 : Nat) (Z0 : n0 ≤ h0.size) (Os : own_st Z h0 vcs vf) (Es : Exa Z h0 oa "java/lang/String") (Fc : Fld Z h0 oa "java/lang/String" "coder" "B" (.int 0)) (Fv : Fld Z h0 oa "java/lang/String" "value" "[B" .null) (ga : n0 ≤ oa) (nac : oa ≠ oc) (Vc : Arv Z h0 oc kC .char (3 : Int32) [(.int c0), (.int c1), (.int c2)] (.int 0)) (uc0 : 0 ≤ c0.toInt) (uc1 : 0 ≤ c1.toInt) (uc2 : 0 ≤ c2.toInt) (vc0 : c0.toInt < 65536) (vc1 : c1.toInt < 65536) (vc2 : c2.toInt < 65536) :
    MetFree l yn11 (head1 (Jvm.Cond.code yn11 jdk_42_method_149_code 6 none :: ws) ⟨4, 2, 9, 57⟩) (fun a U => a = #[(.ref oa), (.ref oc), (.int 0), (.int 3), .null] ∧ Z.Warmed39 U.vm ∧ U.heap = h0) (fun _ _ _ _ _ => True) (fun _ U o U' => ∃ v L, o = .returned v ∧ Q_iw3 Z oa oc vcs vf kC c0 c1 c2 h0 n0 v U'.heap L ∧ FrameEnd U o U' L 2 9) := by
  refine MetFree.of_bodySF (plainFor_of_name pn_3) hisR ?_
  intro p e s m args below meth c s₁ Bd hml0 hP hK
  obtain ⟨rfl, hZ, hh⟩ := hP
  have hx := Bd.exec
  have hby := Bd.bytes
  have hml : c.maxLocals = 6 := hml0
  have hown : s.vm.findClass "java/lang/String" = some m.cls := findClass_of_methodNamed Bd.named
  have hnm := (name_of_methodNamed Bd.named Bd.method).1
  have X0 : Stand p l e ⟨4, 2, 9, 57⟩ s m #[(.ref oa), (.ref oc), (.int 0), (.int 3), .null] below meth c s₁ [] 0 0 := Stand.of_body Bd
  have e0 : s₁.heap = h0 := by rw [← hh, Bd.state]; rfl
  have N0 := Fr.nil n0
  have pre0 : oP p e below (s₁.setTop (mkF m 0 #[.val (.ref oa), .val (.ref oc), .val (.int 0), .val (.int 3), .val .null, .unset] [])) (s₁.setTop (entryFrame m #[(.ref oa), (.ref oc), (.int 0), (.int 3), .null] 6)) := fun t k => castTop (ef_rm_iw3 m oa oc) k
  obtain ⟨T1, X1, e1, st1⟩ := initO X0 hx hZ hown (ow hw 13 rfl) (ow hw 14 rfl) (ow hw 15 rfl) e0 (g := (mkF m 1 #[.val (.ref oa), .val (.ref oc), .val (.int 0), .val (.int 3), .val .null, .unset] [(.ref oa)])) rfl (by rw [hml]; rfl) rfl (hb hby d2_1) (by decide) (W := 0) (by exact Nat.le_of_eq rfl) (by decide)
  have hc5_2 : ¬ ((3 : Int) = (0 : Int)) := by decide
  obtain ⟨T3, X3, e3, st3⟩ := getS2 X1 hx hZ hown (host := "") (Or.inl (ow hw 16 rfl)) Via.refl e1 Os.1 (g := (mkF m 27 #[.val (.ref oa), .val (.ref oc), .val (.int 0), .val (.int 3), .val .null, .unset] [])) rfl (hb hby d2_27)
  have hc30_4 : ¬ (vcs.toInt = (0 : Int)) := by (have q := Os.2.1; omega)
  obtain ⟨_, _, ⟨T5, L5, k5, n5⟩, -, X5, ⟨Lc5, hQ5, l5, y5, z5⟩, st5⟩ := Jvm.LawKit.callS X3 hx (y := yn9) hown (mvT hZ (ow hw 17 rfl)) (mvT hZ (ow hw 18 rfl)) (mvT hZ (ow hw 19 rfl)) (mvT hZ (ow hw 20 rfl)) (by decide) (backOf (W := 0) (rm_cr3 l Z a0 hw [] oc vcs vf kC c0 c1 c2 h0 n0 Z0 Os Vc uc0 uc1 uc2 vc0 vc1 vc2) hZ (ow hw 20 rfl) (ow hw 19 rfl) (by decide) (by decide)) (g := (mkF m 36 #[.val (.ref oa), .val (.ref oc), .val (.int 0), .val (.int 3), .val .null, .unset] [(.int 3), (.int 0), (.ref oc)])) rfl (by rw [hml]; rfl) (argsL := [(.ref oc), (.int 0), (.int 3)]) (rest := []) (lenOf pd_4 rfl) rfl (by exact Nat.le_of_eq rfl) (hb hby d2_36) (fun _ _ => ⟨rfl, e3, (by decide : 0 + 2 ≤ _), (by decide : 0 + 9 ≤ _)⟩)
  dsimp only [Pt.U, Pt.locs, Pt.cells, Pt.slots] at X5 l5 y5 z5 st5 hQ5
  rw [l5, y5, z5] at X5
  obtain ⟨ob, kb, rfl, N5q, K5, gb, szb, hO5⟩ := hQ5
  have N5 := Fr.app N0 N5q
  have Zs6 : n0 ≤ T5.heap.size := Nat.le_trans Z0 K5.1
  have ne_oa_ob : oa ≠ ob := Nat.ne_of_lt (Nat.lt_of_lt_of_le Es.lt szb)
  have ne_oc_ob : oc ≠ ob := Nat.ne_of_lt (Nat.lt_of_lt_of_le Vc.lt szb)
  have sz_ob : h0.size ≤ ob := Nat.le_trans (Keep.refl h0 [oa]).1 szb
  have pre7 : oP p e below (T5.setTop (mkF m 39 #[.val (.ref oa), .val (.ref oc), .val (.int 0), .val (.int 3), .val .null, .unset] [(.ref ob)])) (s₁.setTop (entryFrame m #[(.ref oa), (.ref oc), (.int 0), (.int 3), .null] 6)) := fun t kt => by
    refine pre0 _ ?_
    refine XS.aloadN X0.here hx rfl (hb hby d2_0) rfl rfl ?_
    refine st1 _ ?_
    refine XS.iloadN X1.here hx rfl (hb hby d2_4) rfl ?_
    refine XS.ifYes X1.here hx rfl (pc0 := 5) (pc' := 27) rfl (hb hby d2_5) rfl (own_if (own_feq (a := (3 : Int32)) (b := (0 : Int32)) (by decide) (by decide) hc5_2).2) (by decide) (by decide) ?_
    refine st3 _ ?_
    refine XS.ifNo X3.here hx rfl (hb hby d2_30) rfl (own_if (own_feq (a := vcs) (b := (0 : Int32)) rfl (by decide) hc30_4).1) ?_
    refine XS.aloadN X3.here hx rfl (hb hby d2_33) rfl rfl ?_
    refine XS.iloadN X3.here hx rfl (hb hby d2_34) rfl ?_
    refine XS.iloadN X3.here hx rfl (hb hby d2_35) rfl ?_
    refine st5 _ ?_
    exact kt
  rcases hO5 with ⟨hall, bb0, bb1, bb2, VbL, qbb0, qbb1, qbb2⟩ | ⟨hall, lo0, hi0, lo1, hi1, lo2, hi2, VbU, qlo0, qhi0, qlo1, qhi1, qlo2, qhi2⟩
  · have own_mL := True.intro
    obtain ⟨_, _, ⟨T8, L8, k8, n8⟩, -, X8, ⟨Lc8, hQ8, l8, y8, z8⟩, st8⟩ := Jvm.LawKit.callS X5 hx (y := yn10) hown (mvT hZ (ow hw 25 rfl)) (mvT hZ (ow hw 26 rfl)) (mvT hZ (ow hw 19 rfl)) (mvT hZ (ow hw 27 rfl)) (by decide) (backOf (W := 1) (rm_cg3_0 l Z a0 hw [] ob kb [(.int bb0), (.int bb1), (.int bb2)] T5.heap n0 Zs6 VbL) hZ (ow hw 27 rfl) (ow hw 19 rfl) (by decide) (by decide)) (g := (mkF m 45 #[.val (.ref oa), .val (.ref oc), .val (.int 0), .val (.int 3), .val .null, .val (.ref ob)] [(.int 3), (.ref ob), (.ref oa)])) rfl (by rw [hml]; rfl) (argsL := [(.ref ob), (.int 3)]) (rest := [(.ref oa)]) (lenOf pd_6 rfl) rfl (by exact Nat.le_of_eq rfl) (hb hby d2_45) (fun _ _ => ⟨rfl, rfl, (by decide : 2 + 0 ≤ _), (by decide : 9 + 0 ≤ _)⟩)
    dsimp only [Pt.U, Pt.locs, Pt.cells, Pt.slots] at X8 l8 y8 z8 st8 hQ8
    rw [l8, y8, z8] at X8
    obtain ⟨zf, rfl, hzf, N8q, e8⟩ := hQ8
    have N8 := Fr.app N5 N8q
    have pre9 : oP p e below (T8.setTop (mkF m 48 #[.val (.ref oa), .val (.ref oc), .val (.int 0), .val (.int 3), .val .null, .val (.ref ob)] [(.int zf), (.ref oa)])) (s₁.setTop (entryFrame m #[(.ref oa), (.ref oc), (.int 0), (.int 3), .null] 6)) := fun t kt => by
      refine pre7 _ ?_
      refine XS.astore X5.here hx rfl (hb hby d2_39) rfl rfl (l' := #[.val (.ref oa), .val (.ref oc), .val (.int 0), .val (.int 3), .val .null, .val (.ref ob)]) rfl ?_
      refine XS.aloadN X5.here hx rfl (hb hby d2_41) rfl rfl ?_
      refine XS.aload X5.here hx rfl (hb hby d2_42) rfl rfl ?_
      refine XS.iloadN X5.here hx rfl (hb hby d2_44) rfl ?_
      refine st8 _ ?_
      exact kt
    subst hzf
    have pre10 : oP p e below (T8.setTop (mkF m 48 #[.val (.ref oa), .val (.ref oc), .val (.int 0), .val (.int 3), .val .null, .val (.ref ob)] [(.int 0), (.ref oa)])) (s₁.setTop (entryFrame m #[(.ref oa), (.ref oc), (.int 0), (.int 3), .null] 6)) := pre9
    have f11 := (Fc.keep K5 nin0)
    have f12 := (Es.keep K5)
    obtain ⟨T13, h13, X13, e13, W13, st13⟩ := putFN X8 hx hZ hown (ow hw 28 rfl) Via.refl e8 f11 f12 (Or.inr ⟨(ow hw 29 rfl), rfl, hnm⟩) (ow hw 4 rfl) (ty := .byte) (v' := (.int 0)) (by decide) rfl rfl (g := (mkF m 48 #[.val (.ref oa), .val (.ref oc), .val (.int 0), .val (.int 3), .val .null, .val (.ref ob)] [(.int 0), (.ref oa)])) rfl rfl (hb hby d2_48)
    have N13 := Fr.snoc X13 N8 ga
    have Zs14 : n0 ≤ h13.size := by rw [W13.size]; exact Zs6
    have Fw13 := f11.same W13
    have f15 := ((Fv.keep K5 nin0).other W13 (Or.inr (slot_ne (Or.inr (ow hw 31 rfl)) (Or.inr (ow hw 29 rfl)) (by decide) (t := (.array .byte)) (t' := .byte) (by decide) (by decide))))
    have f16 := (f12.wr W13)
    obtain ⟨T17, h17, X17, e17, W17, st17⟩ := putF X13 hx hZ hown (host := "") (Or.inl (ow hw 30 rfl)) Via.refl e13 f15 f16 (Or.inr ⟨(ow hw 31 rfl), rfl, hnm⟩) (ow hw 4 rfl) (ty := (.array .byte)) (by decide) rfl rfl (g := (mkF m 54 #[.val (.ref oa), .val (.ref oc), .val (.int 0), .val (.int 3), .val .null, .val (.ref ob)] [(.ref ob), (.ref oa)])) rfl rfl (hb hby d2_54)
    have N17 := Fr.snoc X17 N13 ga
    have Zs18 : n0 ≤ h17.size := by rw [W17.size]; exact Zs14
    have Fw17 := f15.same W17
    obtain ⟨fs, hr, q1, q2, q3, q4⟩ := X17.leave (v := none) (fun _ => rfl)
    refine ⟨_, _, pre10 _ ?_, q1, q2, _, _, rfl, ?_, ⟨_, rfl⟩, q3, q4.mono (by decide) (by decide)⟩
    · refine st13 _ ?_
      refine XS.aloadN X13.here hx rfl (hb hby d2_51) rfl rfl ?_
      refine XS.aload X13.here hx rfl (hb hby d2_52) rfl rfl ?_
      refine st17 _ ?_
      show Steps p.tables e below (T17.setTop (mkF m 57 #[.val (.ref oa), .val (.ref oc), .val (.int 0), .val (.int 3), .val .null, .val (.ref ob)] [])) _
      exact X17.returnOut hx Bd.returns (hb hby d2_57) hr
    · show Q_iw3 Z _ _ _ _ _ _ _ _ h0 n0 _ T17.heap _
      rw [e17]
      have f19 := (Fw13.other W17 (Or.inr (slot_ne (Or.inr (ow hw 29 rfl)) (Or.inr (ow hw 31 rfl)) (by decide) (t := .byte) (t' := (.array .byte)) (by decide) (by decide))))
      have f20 := ((VbL.other W13 (Ne.symm ne_oa_ob)).other W17 (Ne.symm ne_oa_ob))
      have f21 := ((((Keep.refl h0 [oa]).trans K5 all0).wr W13 (Or.inl (List.mem_of_getElem? (i := 0) rfl))).wr W17 (Or.inl (List.mem_of_getElem? (i := 0) rfl)))
      have f22 := (f16.wr W17)
      exact ⟨rfl, N17, f21, f22, ob, kb, gb, sz_ob, Fw17, Or.inl ⟨f19, hall, bb0, bb1, bb2, f20, qbb0, qbb1, qbb2⟩⟩
  · have own_mU := True.intro
    obtain ⟨_, _, ⟨T23, L23, k23, n23⟩, -, X23, ⟨Lc23, hQ23, l23, y23, z23⟩, st23⟩ := Jvm.LawKit.callS X5 hx (y := yn10) hown (mvT hZ (ow hw 25 rfl)) (mvT hZ (ow hw 26 rfl)) (mvT hZ (ow hw 19 rfl)) (mvT hZ (ow hw 27 rfl)) (by decide) (backOf (W := 1) (rm_cg3_1 l Z a0 hw [] ob kb [(.int lo0), (.int hi0), (.int lo1), (.int hi1), (.int lo2), (.int hi2)] T5.heap n0 Zs6 VbU) hZ (ow hw 27 rfl) (ow hw 19 rfl) (by decide) (by decide)) (g := (mkF m 45 #[.val (.ref oa), .val (.ref oc), .val (.int 0), .val (.int 3), .val .null, .val (.ref ob)] [(.int 3), (.ref ob), (.ref oa)])) rfl (by rw [hml]; rfl) (argsL := [(.ref ob), (.int 3)]) (rest := [(.ref oa)]) (lenOf pd_6 rfl) rfl (by exact Nat.le_of_eq rfl) (hb hby d2_45) (fun _ _ => ⟨rfl, rfl, (by decide : 2 + 0 ≤ _), (by decide : 9 + 0 ≤ _)⟩)
    dsimp only [Pt.U, Pt.locs, Pt.cells, Pt.slots] at X23 l23 y23 z23 st23 hQ23
    rw [l23, y23, z23] at X23
    obtain ⟨zf, rfl, hzf, N23q, e23⟩ := hQ23
    have N23 := Fr.app N5 N23q
    have pre24 : oP p e below (T23.setTop (mkF m 48 #[.val (.ref oa), .val (.ref oc), .val (.int 0), .val (.int 3), .val .null, .val (.ref ob)] [(.int zf), (.ref oa)])) (s₁.setTop (entryFrame m #[(.ref oa), (.ref oc), (.int 0), (.int 3), .null] 6)) := fun t kt => by
      refine pre7 _ ?_
      refine XS.astore X5.here hx rfl (hb hby d2_39) rfl rfl (l' := #[.val (.ref oa), .val (.ref oc), .val (.int 0), .val (.int 3), .val .null, .val (.ref ob)]) rfl ?_
      refine XS.aloadN X5.here hx rfl (hb hby d2_41) rfl rfl ?_
      refine XS.aload X5.here hx rfl (hb hby d2_42) rfl rfl ?_
      refine XS.iloadN X5.here hx rfl (hb hby d2_44) rfl ?_
      refine st23 _ ?_
      exact kt
    subst hzf
    have pre25 : oP p e below (T23.setTop (mkF m 48 #[.val (.ref oa), .val (.ref oc), .val (.int 0), .val (.int 3), .val .null, .val (.ref ob)] [(.int 1), (.ref oa)])) (s₁.setTop (entryFrame m #[(.ref oa), (.ref oc), (.int 0), (.int 3), .null] 6)) := pre24
    have f26 := (Fc.keep K5 nin0)
    have f27 := (Es.keep K5)
    obtain ⟨T28, h28, X28, e28, W28, st28⟩ := putFN X23 hx hZ hown (ow hw 28 rfl) Via.refl e23 f26 f27 (Or.inr ⟨(ow hw 29 rfl), rfl, hnm⟩) (ow hw 4 rfl) (ty := .byte) (v' := (.int 1)) (by decide) rfl rfl (g := (mkF m 48 #[.val (.ref oa), .val (.ref oc), .val (.int 0), .val (.int 3), .val .null, .val (.ref ob)] [(.int 1), (.ref oa)])) rfl rfl (hb hby d2_48)
    have N28 := Fr.snoc X28 N23 ga
    have Zs29 : n0 ≤ h28.size := by rw [W28.size]; exact Zs6
    have Fw28 := f26.same W28
    have f30 := ((Fv.keep K5 nin0).other W28 (Or.inr (slot_ne (Or.inr (ow hw 31 rfl)) (Or.inr (ow hw 29 rfl)) (by decide) (t := (.array .byte)) (t' := .byte) (by decide) (by decide))))
    have f31 := (f27.wr W28)
    obtain ⟨T32, h32, X32, e32, W32, st32⟩ := putF X28 hx hZ hown (host := "") (Or.inl (ow hw 30 rfl)) Via.refl e28 f30 f31 (Or.inr ⟨(ow hw 31 rfl), rfl, hnm⟩) (ow hw 4 rfl) (ty := (.array .byte)) (by decide) rfl rfl (g := (mkF m 54 #[.val (.ref oa), .val (.ref oc), .val (.int 0), .val (.int 3), .val .null, .val (.ref ob)] [(.ref ob), (.ref oa)])) rfl rfl (hb hby d2_54)
    have N32 := Fr.snoc X32 N28 ga
    have Zs33 : n0 ≤ h32.size := by rw [W32.size]; exact Zs29
    have Fw32 := f30.same W32
    obtain ⟨fs, hr, q1, q2, q3, q4⟩ := X32.leave (v := none) (fun _ => rfl)
    refine ⟨_, _, pre25 _ ?_, q1, q2, _, _, rfl, ?_, ⟨_, rfl⟩, q3, q4.mono (by decide) (by decide)⟩
    · refine st28 _ ?_
      refine XS.aloadN X28.here hx rfl (hb hby d2_51) rfl rfl ?_
      refine XS.aload X28.here hx rfl (hb hby d2_52) rfl rfl ?_
      refine st32 _ ?_
      show Steps p.tables e below (T32.setTop (mkF m 57 #[.val (.ref oa), .val (.ref oc), .val (.int 0), .val (.int 3), .val .null, .val (.ref ob)] [])) _
      exact X32.returnOut hx Bd.returns (hb hby d2_57) hr
    · show Q_iw3 Z _ _ _ _ _ _ _ _ h0 n0 _ T32.heap _
      rw [e32]
      have f34 := (Fw28.other W32 (Or.inr (slot_ne (Or.inr (ow hw 29 rfl)) (Or.inr (ow hw 31 rfl)) (by decide) (t := .byte) (t' := (.array .byte)) (by decide) (by decide))))
      have f35 := ((VbU.other W28 (Ne.symm ne_oa_ob)).other W32 (Ne.symm ne_oa_ob))
      have f36 := ((((Keep.refl h0 [oa]).trans K5 all0).wr W28 (Or.inl (List.mem_of_getElem? (i := 0) rfl))).wr W32 (Or.inl (List.mem_of_getElem? (i := 0) rfl)))
      have f37 := (f31.wr W32)
      exact ⟨rfl, N32, f36, f37, ob, kb, gb, sz_ob, Fw32, Or.inr ⟨f34, hall, lo0, hi0, lo1, hi1, lo2, hi2, f35, qlo0, qhi0, qlo1, qhi1, qlo2, qhi2⟩⟩
theorem ef_rm_mu3 (m : MethodId) (x0 : Addr) (x1 : Addr) : entryFrame m #[(.ref x0), (.ref x1)] 2 = mkF m 0 #[.val (.ref x0), .val (.ref x1)] [] := by first | (simp [entryFrame, mkF, argsToLocals, Value.category]; done) | rfl
def Q_mu3 (Z : State) (oa : Addr) (oc : Addr) (vcs : Int32) (vf : Value) (kC : ClassId) (c0 : Int32) (c1 : Int32) (c2 : Int32) (h0 : Heap) (n0 : Nat) (v : Option Value) (h : Heap) (L : List Loc) : Prop := v = none ∧ Fr n0 L ∧ Keep h0 h [oa] ∧ Exa Z h oa "java/lang/String" ∧ ∃ (ob : Addr) (kb : ClassId), n0 ≤ ob ∧ h0.size ≤ ob ∧ Fld Z h oa "java/lang/String" "value" "[B" (.ref ob) ∧ ((Fld Z h oa "java/lang/String" "coder" "B" (.int 0) ∧ ((c0.toInt ≤ 255 ∧ c1.toInt ≤ 255 ∧ c2.toInt ≤ 255) ∧ ∃ bb0 bb1 bb2 : Int32, Arv Z h ob kb .byte (3 : Int32) [(.int bb0), (.int bb1), (.int bb2)] (.int 0) ∧ bb0.toInt % 256 = c0.toInt ∧ bb1.toInt % 256 = c1.toInt ∧ bb2.toInt % 256 = c2.toInt)) ∨ (Fld Z h oa "java/lang/String" "coder" "B" (.int 1) ∧ (¬ (c0.toInt ≤ 255 ∧ c1.toInt ≤ 255 ∧ c2.toInt ≤ 255) ∧ ∃ lo0 hi0 lo1 hi1 lo2 hi2 : Int32, Arv Z h ob kb .byte (6 : Int32) [(.int lo0), (.int hi0), (.int lo1), (.int hi1), (.int lo2), (.int hi2)] (.int 0) ∧ lo0.toInt % 256 = c0.toInt % 256 ∧ hi0.toInt % 256 = c0.toInt / 256 ∧ lo1.toInt % 256 = c1.toInt % 256 ∧ hi1.toInt % 256 = c1.toInt / 256 ∧ lo2.toInt % 256 = c2.toInt % 256 ∧ hi2.toInt % 256 = c2.toInt / 256)))
theorem rm_mu3 (l : Launch) (Z : State) (a0 : Array Value) (hw : ∀ d ∈ tables_1, d.before a0 Z = true) (ws : List Jvm.Cond) (oa : Addr) (oc : Addr) (vcs : Int32) (vf : Value) (kC : ClassId) (c0 : Int32) (c1 : Int32) (c2 : Int32) (h0 : Heap) (n0 : Nat) (Z0 : n0 ≤ h0.size) (Os : own_st Z h0 vcs vf) (Es : Exa Z h0 oa "java/lang/String") (Fc : Fld Z h0 oa "java/lang/String" "coder" "B" (.int 0)) (Fv : Fld Z h0 oa "java/lang/String" "value" "[B" .null) (ga : n0 ≤ oa) (nac : oa ≠ oc) (Vc : Arv Z h0 oc kC .char (3 : Int32) [(.int c0), (.int c1), (.int c2)] (.int 0)) (uc0 : 0 ≤ c0.toInt) (uc1 : 0 ≤ c1.toInt) (uc2 : 0 ≤ c2.toInt) (vc0 : c0.toInt < 65536) (vc1 : c1.toInt < 65536) (vc2 : c2.toInt < 65536) :
    MetFree l yn12 (head1 (Jvm.Cond.code yn12 jdk_42_method_3_code 2 none :: ws) ⟨5, 2, 9, 74⟩) (fun a U => a = #[(.ref oa), (.ref oc)] ∧ Z.Warmed39 U.vm ∧ U.heap = h0) (fun _ _ _ _ _ => True) (fun _ U o U' => ∃ v L, o = .returned v ∧ Q_mu3 Z oa oc vcs vf kC c0 c1 c2 h0 n0 v U'.heap L ∧ FrameEnd U o U' L 2 9) := by
  refine MetFree.of_bodySF (plainFor_of_name pn_3) hisR ?_
  intro p e s m args below meth c s₁ Bd hml0 hP hK
  obtain ⟨rfl, hZ, hh⟩ := hP
  have hx := Bd.exec
  have hby := Bd.bytes
  have hml : c.maxLocals = 2 := hml0
  have hown : s.vm.findClass "java/lang/String" = some m.cls := findClass_of_methodNamed Bd.named
  have hnm := (name_of_methodNamed Bd.named Bd.method).1
  have X0 : Stand p l e ⟨5, 2, 9, 74⟩ s m #[(.ref oa), (.ref oc)] below meth c s₁ [] 0 0 := Stand.of_body Bd
  have e0 : s₁.heap = h0 := by rw [← hh, Bd.state]; rfl
  have N0 := Fr.nil n0
  have pre0 : oP p e below (s₁.setTop (mkF m 0 #[.val (.ref oa), .val (.ref oc)] [])) (s₁.setTop (entryFrame m #[(.ref oa), (.ref oc)] 2)) := fun t k => castTop (ef_rm_mu3 m oa oc) k
  obtain ⟨cl1, Ar1, q1, S1, M1, H1, G1⟩ := id Vc
  obtain ⟨_, _, ⟨T2, L2, k2, n2⟩, -, X2, ⟨Lc2, hQ2, l2, y2, z2⟩, st2⟩ := X0.specialBack hx (y := yn11) rfl hown (mvT hZ (ow hw 9 rfl)) (mvT hZ (ow hw 10 rfl)) (mvT hZ (ow hw 12 rfl)) (by decide) (backOf (W := 0) (rm_iw3 l Z a0 hw [] oa oc vcs vf kC c0 c1 c2 h0 n0 Z0 Os Es Fc Fv ga nac Vc uc0 uc1 uc2 vc0 vc1 vc2) hZ (ow hw 12 rfl) (ow hw 5 rfl) (by decide) (by decide)) (g := (mkF m 6 #[.val (.ref oa), .val (.ref oc)] [.null, (.int 3), (.int 0), (.ref oc), (.ref oa)])) rfl (by rw [hml]; rfl) (Steps.refl _) (a := oa) (argsL := [(.ref oc), (.int 0), (.int 3), .null]) (rest := []) (lenOf pd_7 rfl) rfl (by exact Nat.le_of_eq rfl) (hb hby d1_6) (fun _ _ => ⟨rfl, e0, (by decide : 0 + 2 ≤ _), (by decide : 0 + 9 ≤ _)⟩)
  dsimp only [Pt.U, Pt.locs, Pt.cells, Pt.slots] at X2 l2 y2 z2 st2 hQ2
  rw [l2, y2, z2] at X2
  obtain ⟨rfl, N2q, K2, A2, ob, kb, gb, szb, Fv2, hO2⟩ := hQ2
  have N2 := Fr.app N0 N2q
  have Zs3 : n0 ≤ T2.heap.size := Nat.le_trans Z0 K2.1
  have ne_oa_ob : oa ≠ ob := Nat.ne_of_lt (Nat.lt_of_lt_of_le Es.lt szb)
  have ne_oc_ob : oc ≠ ob := Nat.ne_of_lt (Nat.lt_of_lt_of_le Vc.lt szb)
  have sz_ob : h0.size ≤ ob := Nat.le_trans (Keep.refl h0 [oa]).1 szb
  obtain ⟨fs, hr, q1, q2, q3, q4⟩ := X2.leave (v := none) (fun _ => rfl)
  refine ⟨_, _, pre0 _ ?_, q1, q2, _, _, rfl, ?_, ⟨_, rfl⟩, q3, q4.mono (by decide) (by decide)⟩
  · refine XS.aloadN X0.here hx rfl (hb hby d1_0) rfl rfl ?_
    refine XS.aloadN X0.here hx rfl (hb hby d1_1) rfl rfl ?_
    refine XS.iconst X0.here hx rfl (hb hby d1_2) ?_
    refine XS.aloadN X0.here hx rfl (hb hby d1_3) rfl rfl ?_
    refine X0.arraylength hx (by rw [e0]; exact Ar1.1) (State.isArrayOf_alike hZ.alike Ar1.2.1) (g := (mkF m 4 #[.val (.ref oa), .val (.ref oc)] [(.ref oc), (.int 0), (.ref oc), (.ref oa)])) rfl rfl (hb hby d1_4) _ ?_
    rw [len_of S1 M1]
    refine XS.aconstNull X0.here hx rfl (hb hby d1_5) ?_
    refine st2.trans ?_
    exact X2.returnOut hx Bd.returns (hb hby d1_9) hr
  · show Q_mu3 Z _ _ _ _ _ _ _ _ h0 n0 _ T2.heap _
    have f4 := ((Keep.refl h0 [oa]).trans K2 (allS (P := fun x => x ∈ [oa] ∨ h0.size ≤ x) (Or.inl (List.mem_of_getElem? (i := 0) rfl)) all0))
    exact ⟨rfl, N2, f4, A2, ob, kb, gb, sz_ob, Fv2, hO2⟩
theorem ef_rm_nbl4 (m : MethodId)  : entryFrame m #[(.int 4)] 1 = mkF m 0 #[.val (.int 4)] [] := by first | (simp [entryFrame, mkF, argsToLocals, Value.category]; done) | rfl
def Q_nbl4 (Z : State)  (h0 : Heap) (n0 : Nat) (v : Option Value) (h : Heap) (L : List Loc) : Prop := ∃ z : Int32, v = some (.int z) ∧ (z = (8 : Int32)) ∧ Fr n0 L ∧ h = h0
theorem rm_nbl4 (l : Launch) (Z : State) (a0 : Array Value) (hw : ∀ d ∈ tables_1, d.before a0 Z = true) (ws : List Jvm.Cond)  (h0 : Heap) (n0 : Nat) (Z0 : n0 ≤ h0.size) :
    MetFree l yn4 (head1 (Jvm.Cond.code yn4 jdk_52_method_3_code 1 (some .int) :: ws) ⟨0, 0, 0, 0⟩) (fun a U => a = #[(.int 4)] ∧ Z.Warmed39 U.vm ∧ U.heap = h0) (fun _ _ _ _ _ => True) (fun _ U o U' => ∃ v L, o = .returned v ∧ Q_nbl4 Z  h0 n0 v U'.heap L ∧ FrameEnd U o U' L 0 0) := by
  refine MetFree.of_bodySF (plainFor_of_name pn_2) hisR ?_
  intro p e s m args below meth c s₁ Bd hml0 hP hK
  obtain ⟨rfl, hZ, hh⟩ := hP
  have hx := Bd.exec
  have hby := Bd.bytes
  have hml : c.maxLocals = 1 := hml0
  have hown : s.vm.findClass "java/lang/StringUTF16" = some m.cls := findClass_of_methodNamed Bd.named
  have hnm := (name_of_methodNamed Bd.named Bd.method).1
  have X0 : Stand p l e ⟨0, 0, 0, 0⟩ s m #[(.int 4)] below meth c s₁ [] 0 0 := Stand.of_body Bd
  have e0 : s₁.heap = h0 := by rw [← hh, Bd.state]; rfl
  have N0 := Fr.nil n0
  have pre0 : oP p e below (s₁.setTop (mkF m 0 #[.val (.int 4)] [])) (s₁.setTop (entryFrame m #[(.int 4)] 1)) := fun t k => castTop (ef_rm_nbl4 m ) k
  have hc1_1 : ¬ ((4 : Int) < (0 : Int)) := by decide
  have hc15_2 : (4 : Int) < (1073741823 : Int) := by decide
  obtain ⟨fs, hr, q1, q2, q3, q4⟩ := X0.leave (v := some (.int 8)) (fun h => by rw [Bd.returns] at h; cases h)
  refine ⟨_, _, pre0 _ ?_, q1, q2, _, _, rfl, ?_, ⟨_, rfl⟩, q3, q4.mono (by decide) (by decide)⟩
  · refine XS.iloadN X0.here hx rfl (hb hby d13_0) rfl ?_
    refine XS.ifYes X0.here hx rfl (pc0 := 1) (pc' := 12) rfl (hb hby d13_1) rfl (own_if (own_flt (a := (4 : Int32)) (b := (0 : Int32)) (by decide) (by decide) hc1_1).2.1) (by decide) (by decide) ?_
    refine XS.iloadN X0.here hx rfl (hb hby d13_12) rfl ?_
    refine X0.ldcInt hx hown (mvT hZ (ow hw 59 rfl)) (g := (mkF m 13 #[.val (.int 4)] [(.int 4)])) rfl (hb hby d13_13) _ ?_
    refine XS.icmpYes X0.here hx rfl (pc0 := 15) (pc' := 55) rfl (hb hby d13_15) rfl (own_tlt (a := (4 : Int32)) (b := (1073741823 : Int32)) (by decide) (by decide) hc15_2).1 (by decide) (by decide) ?_
    refine XS.iloadN X0.here hx rfl (hb hby d13_55) rfl ?_
    refine XS.iconst X0.here hx rfl (hb hby d13_56) ?_
    refine XS.ishl X0.here hx rfl (hb hby d13_57) rfl ?_
    exact retI X0 hx Bd.returns (hb hby d13_58) hr
  · show Q_nbl4 Z  h0 n0 _ s₁.heap _
    rw [e0]
    exact ⟨_, rfl, rfl, N0, rfl⟩
theorem ef_rm_nbf4 (m : MethodId)  : entryFrame m #[(.int 4)] 1 = mkF m 0 #[.val (.int 4)] [] := by first | (simp [entryFrame, mkF, argsToLocals, Value.category]; done) | rfl
def Q_nbf4 (Z : State)  (h0 : Heap) (n0 : Nat) (v : Option Value) (h : Heap) (L : List Loc) : Prop := ∃ (ob : Addr) (kb : ClassId), v = some (.ref ob) ∧ Fr n0 L ∧ Keep h0 h [] ∧ n0 ≤ ob ∧ h0.size ≤ ob ∧ Arv Z h ob kb .byte (8 : Int32) [(.int 0), (.int 0), (.int 0), (.int 0), (.int 0), (.int 0), (.int 0), (.int 0)] (.int 0)
theorem rm_nbf4 (l : Launch) (Z : State) (a0 : Array Value) (hw : ∀ d ∈ tables_1, d.before a0 Z = true) (ws : List Jvm.Cond)  (h0 : Heap) (n0 : Nat) (Z0 : n0 ≤ h0.size) :
    MetFree l yn5 (head1 (Jvm.Cond.code yn5 jdk_52_method_2_code 1 (some (.array .byte)) :: ws) ⟨1, 1, 8, 12⟩) (fun a U => a = #[(.int 4)] ∧ Z.Warmed39 U.vm ∧ U.heap = h0) (fun _ _ _ _ _ => True) (fun _ U o U' => ∃ v L, o = .returned v ∧ Q_nbf4 Z  h0 n0 v U'.heap L ∧ FrameEnd U o U' L 1 8) := by
  refine MetFree.of_bodySF (plainFor_of_name pn_2) hisR ?_
  intro p e s m args below meth c s₁ Bd hml0 hP hK
  obtain ⟨rfl, hZ, hh⟩ := hP
  have hx := Bd.exec
  have hby := Bd.bytes
  have hml : c.maxLocals = 1 := hml0
  have hown : s.vm.findClass "java/lang/StringUTF16" = some m.cls := findClass_of_methodNamed Bd.named
  have hnm := (name_of_methodNamed Bd.named Bd.method).1
  have X0 : Stand p l e ⟨1, 1, 8, 12⟩ s m #[(.int 4)] below meth c s₁ [] 0 0 := Stand.of_body Bd
  have e0 : s₁.heap = h0 := by rw [← hh, Bd.state]; rfl
  have N0 := Fr.nil n0
  have pre0 : oP p e below (s₁.setTop (mkF m 0 #[.val (.int 4)] [])) (s₁.setTop (entryFrame m #[(.int 4)] 1)) := fun t k => castTop (ef_rm_nbf4 m ) k
  obtain ⟨_, _, ⟨T1, L1, k1, n1⟩, -, X1, ⟨Lc1, hQ1, l1, y1, z1⟩, st1⟩ := Jvm.LawKit.callS X0 hx (y := yn4) hown (mvT hZ (ow hw 56 rfl)) (mvT hZ (ow hw 57 rfl)) (mvT hZ (ow hw 19 rfl)) (mvT hZ (ow hw 58 rfl)) (by decide) (backOf (W := 0) (rm_nbl4 l Z a0 hw []  h0 n0 Z0 ) hZ (ow hw 58 rfl) (ow hw 19 rfl) (by decide) (by decide)) (g := (mkF m 1 #[.val (.int 4)] [(.int 4)])) rfl (by rw [hml]; rfl) (argsL := [(.int 4)]) (rest := []) (lenOf pd_0 rfl) rfl (by exact Nat.le_of_eq rfl) (hb hby d12_1) (fun _ _ => ⟨rfl, e0, (by decide : 0 + 0 ≤ _), (by decide : 0 + 0 ≤ _)⟩)
  dsimp only [Pt.U, Pt.locs, Pt.cells, Pt.slots] at X1 l1 y1 z1 st1 hQ1
  rw [l1, y1, z1] at X1
  obtain ⟨zz, rfl, hzz, N1q, e1⟩ := hQ1
  have N1 := Fr.app N0 N1q
  have pre2 : oP p e below (T1.setTop (mkF m 4 #[.val (.int 4)] [(.int zz)])) (s₁.setTop (entryFrame m #[(.int 4)] 1)) := fun t kt => by
    refine pre0 _ ?_
    refine XS.iloadN X0.here hx rfl (hb hby d12_0) rfl ?_
    refine st1 _ ?_
    exact kt
  subst hzz
  have pre3 : oP p e below (T1.setTop (mkF m 4 #[.val (.int 4)] [(.int 8)])) (s₁.setTop (entryFrame m #[(.int 4)] 1)) := pre2
  obtain ⟨T4, h4, k4, X4, e4, E4, A4, st4⟩ := newP X1 hx hZ (ow hw 21 rfl) e1 (g := (mkF m 4 #[.val (.int 4)] [(.int 8)])) rfl (hb hby d12_4) rfl (by decide) (cap := 8) (by decide) (by decide) (by decide) (by decide)
  obtain ⟨b4, g4⟩ : ∃ z, z = h0.size := ⟨_, rfl⟩
  have g_b4 : n0 ≤ b4 := Nat.le_trans Z0 (Nat.le_of_eq g4.symm)
  have sz_b4 : h0.size ≤ b4 := Nat.le_trans (Keep.refl h0 []).1 (Nat.le_of_eq g4.symm)
  rw [← g4] at A4 st4
  have Zs5 : n0 ≤ h4.size := Nat.le_trans Z0 E4.1
  have V4 : Arv Z h4 b4 k4 .byte (8 : Int32) [(.int 0), (.int 0), (.int 0), (.int 0), (.int 0), (.int 0), (.int 0), (.int 0)] (.int 0) := (Arv.new A4 (by decide)).pad (pad_rep [] (.int 0) 8)
  obtain ⟨fs, hr, q1, q2, q3, q4⟩ := X4.leave (v := some (.ref b4)) (fun h => by rw [Bd.returns] at h; cases h)
  refine ⟨_, _, pre3 _ ?_, q1, q2, _, _, rfl, ?_, ⟨_, rfl⟩, q3, q4.mono (by decide) (by decide)⟩
  · refine st4 _ ?_
    jvm_step X4.here [X4.here.top, hx, (hb hby d12_6), X4.method', Bd.returns, Value.isRef, FieldType.isReference]
    first | (intro acts; rw [hr _ acts rfl rfl rfl]) | rw [hr _ _ rfl rfl rfl]
    exact Steps.refl _
  · show Q_nbf4 Z  h0 n0 _ T4.heap _
    rw [e4]
    have f6 := ((Keep.refl h0 []).ext E4)
    exact ⟨b4, _, rfl, N1, f6, g_b4, sz_b4, V4⟩
theorem ef_rm_pc4_0 (m : MethodId) (x0 : Addr) (x2 : Int32) : entryFrame m #[(.ref x0), (.int 0), (.int x2)] 3 = mkF m 0 #[.val (.ref x0), .val (.int 0), .val (.int x2)] [] := by first | (simp [entryFrame, mkF, argsToLocals, Value.category]; done) | rfl
def Q_pc4_0 (Z : State) (ob : Addr) (vc : Int32) (vcs : Int32) (vf : Value) (kb : ClassId) (u0 : Int32) (u1 : Int32) (u2 : Int32) (u3 : Int32) (u4 : Int32) (u5 : Int32) (u6 : Int32) (u7 : Int32) (h0 : Heap) (n0 : Nat) (v : Option Value) (h : Heap) (L : List Loc) : Prop := ∃ lo hi : Int32, v = none ∧ Fr n0 L ∧ Keep h0 h [ob] ∧ Arv Z h ob kb .byte (8 : Int32) [(.int lo), (.int hi), (.int u2), (.int u3), (.int u4), (.int u5), (.int u6), (.int u7)] (.int 0) ∧ lo.toInt % 256 = vc.toInt % 256 ∧ hi.toInt % 256 = vc.toInt / 256
theorem rm_pc4_0 (l : Launch) (Z : State) (a0 : Array Value) (hw : ∀ d ∈ tables_1, d.before a0 Z = true) (ws : List Jvm.Cond) (ob : Addr) (vc : Int32) (vcs : Int32) (vf : Value) (kb : ClassId) (u0 : Int32) (u1 : Int32) (u2 : Int32) (u3 : Int32) (u4 : Int32) (u5 : Int32) (u6 : Int32) (u7 : Int32) (h0 : Heap) (n0 : Nat) (Z0 : n0 ≤ h0.size) (Os : own_st Z h0 vcs vf) (Vb : Arv Z h0 ob kb .byte (8 : Int32) [(.int u0), (.int u1), (.int u2), (.int u3), (.int u4), (.int u5), (.int u6), (.int u7)] (.int 0)) (gb : n0 ≤ ob) (c1 : 0 ≤ vc.toInt) (c2 : vc.toInt < 65536) :
    MetFree l yn6 (head1 (Jvm.Cond.code yn6 jdk_52_method_4_code 3 none :: ws) ⟨0, 0, 0, 0⟩) (fun a U => a = #[(.ref ob), (.int 0), (.int vc)] ∧ Z.Warmed39 U.vm ∧ U.heap = h0) (fun _ _ _ _ _ => True) (fun _ U o U' => ∃ v L, o = .returned v ∧ Q_pc4_0 Z ob vc vcs vf kb u0 u1 u2 u3 u4 u5 u6 u7 h0 n0 v U'.heap L ∧ FrameEnd U o U' L 0 0) := by
  refine MetFree.of_bodySF (plainFor_of_name pn_2) hisR ?_
  intro p e s m args below meth c s₁ Bd hml0 hP hK
  obtain ⟨rfl, hZ, hh⟩ := hP
  have hx := Bd.exec
  have hby := Bd.bytes
  have hml : c.maxLocals = 3 := hml0
  have hown : s.vm.findClass "java/lang/StringUTF16" = some m.cls := findClass_of_methodNamed Bd.named
  have hnm := (name_of_methodNamed Bd.named Bd.method).1
  have X0 : Stand p l e ⟨0, 0, 0, 0⟩ s m #[(.ref ob), (.int 0), (.int vc)] below meth c s₁ [] 0 0 := Stand.of_body Bd
  have e0 : s₁.heap = h0 := by rw [← hh, Bd.state]; rfl
  have N0 := Fr.nil n0
  have pre0 : oP p e below (s₁.setTop (mkF m 0 #[.val (.ref ob), .val (.int 0), .val (.int vc)] [])) (s₁.setTop (entryFrame m #[(.ref ob), (.int 0), (.int vc)] 3)) := fun t k => castTop (ef_rm_pc4_0 m ob vc) k
  obtain ⟨T1, X1, e1, st1⟩ := getS2 X0 hx hZ hown (host := "") (Or.inl (ow hw 63 rfl)) Via.refl e0 Os.2.2.2.2.1 (g := (mkF m 0 #[.val (.ref ob), .val (.int 0), .val (.int vc)] [])) rfl (hb hby d14_0)
  have hc3_2 : ¬ ((1 : Int) = (0 : Int)) := by decide
  obtain ⟨T3, X3, e3, st3⟩ := getS2 X1 hx hZ hown (host := "") (Or.inl (ow hw 64 rfl)) Via.refl e1 Os.2.2.2.2.2.1 (g := (mkF m 38 #[.val (.ref ob), .val (.int 1), .val (.int vc)] [(.int vc), (.int 0), (.ref ob)])) rfl (hb hby d14_38)
  obtain ⟨cl4, Ar4, q4, S4, M4, H4, G4⟩ := id Vb
  have hin4 : ¬ ((0 : Int32) < 0 ∨ cl4.slots.size ≤ ((0 : Int32)).toNatClampNeg) := inb_of S4 ⟨by decide, by decide⟩
  obtain ⟨T5, h5, X5, e5, W5, st5⟩ := stB X3 hx hZ e3 Ar4 (j := (0 : Int32)) hin4 (g := (mkF m 43 #[.val (.ref ob), .val (.int 1), .val (.int vc)] [(.int ((vc >>> ((0 : Int32) &&& 31)).toInt8.toInt32)), (.int 0), (.ref ob)])) rfl rfl (hb hby d14_43)
  have N5 := Fr.snoc X5 N0 gb
  have Zs6 : n0 ≤ h5.size := by rw [W5.size]; exact Z0
  have V5 : Arv Z h5 ob kb .byte (8 : Int32) [(.int (nar .byte ((vc >>> ((0 : Int32) &&& 31)).toInt8.toInt32))), (.int u1), (.int u2), (.int u3), (.int u4), (.int u5), (.int u6), (.int u7)] (.int 0) := Arv.set Ar4 q4 S4 M4 H4 G4 (fits_nar_byte _) W5 0 rfl (Nat.le_of_ble_eq_true rfl)
  have os7 := (own_st_wr Os W5)
  obtain ⟨T8, X8, e8, st8⟩ := getS2 X5 hx hZ hown (host := "") (Or.inl (ow hw 65 rfl)) Via.refl e5 os7.2.2.2.2.2.2 (g := (mkF m 47 #[.val (.ref ob), .val (.int 1), .val (.int vc)] [(.int vc), (.int 1), (.ref ob)])) rfl (hb hby d14_47)
  obtain ⟨cl9, Ar9, q9, S9, M9, H9, G9⟩ := id V5
  have hin9 : ¬ ((1 : Int32) < 0 ∨ cl9.slots.size ≤ ((1 : Int32)).toNatClampNeg) := inb_of S9 ⟨by decide, by decide⟩
  obtain ⟨T10, h10, X10, e10, W10, st10⟩ := stB X8 hx hZ e8 Ar9 (j := (1 : Int32)) hin9 (g := (mkF m 52 #[.val (.ref ob), .val (.int 1), .val (.int vc)] [(.int ((vc >>> ((8 : Int32) &&& 31)).toInt8.toInt32)), (.int 1), (.ref ob)])) rfl rfl (hb hby d14_52)
  have N10 := Fr.snoc X10 N5 gb
  have Zs11 : n0 ≤ h10.size := by rw [W10.size]; exact Zs6
  have V10 : Arv Z h10 ob kb .byte (8 : Int32) [(.int (nar .byte ((vc >>> ((0 : Int32) &&& 31)).toInt8.toInt32))), (.int (nar .byte ((vc >>> ((8 : Int32) &&& 31)).toInt8.toInt32))), (.int u2), (.int u3), (.int u4), (.int u5), (.int u6), (.int u7)] (.int 0) := Arv.set Ar9 q9 S9 M9 H9 G9 (fits_nar_byte _) W10 1 rfl (Nat.le_of_ble_eq_true rfl)
  obtain ⟨fs, hr, q1, q2, q3, q4⟩ := X10.leave (v := none) (fun _ => rfl)
  refine ⟨_, _, pre0 _ ?_, q1, q2, _, _, rfl, ?_, ⟨_, rfl⟩, q3, q4.mono (by decide) (by decide)⟩
  · refine st1 _ ?_
    refine XS.ifYes X1.here hx rfl (pc0 := 3) (pc' := 28) rfl (hb hby d14_3) rfl (own_if (own_feq (a := (1 : Int32)) (b := (0 : Int32)) (by decide) (by decide) hc3_2).2) (by decide) (by decide) ?_
    refine XS.iloadN X1.here hx rfl (hb hby d14_28) rfl ?_
    refine XS.iconst X1.here hx rfl (hb hby d14_29) ?_
    refine XS.ishl X1.here hx rfl (hb hby d14_30) rfl ?_
    refine XS.istoreN X1.here hx rfl (hb hby d14_31) rfl (l' := #[.val (.ref ob), .val (.int 0), .val (.int vc)]) rfl ?_
    refine XS.aloadN X1.here hx rfl (hb hby d14_32) rfl rfl ?_
    refine XS.iloadN X1.here hx rfl (hb hby d14_33) rfl ?_
    refine XS.iinc X1.here hx rfl (hb hby d14_34) rfl (l' := #[.val (.ref ob), .val (.int 1), .val (.int vc)]) rfl ?_
    refine XS.iloadN X1.here hx rfl (hb hby d14_37) rfl ?_
    refine st3 _ ?_
    refine XS.ishr X3.here hx rfl (hb hby d14_41) rfl ?_
    refine XS.i2b X3.here hx rfl (hb hby d14_42) rfl ?_
    refine st5 _ ?_
    refine XS.aloadN X5.here hx rfl (hb hby d14_44) rfl rfl ?_
    refine XS.iloadN X5.here hx rfl (hb hby d14_45) rfl ?_
    refine XS.iloadN X5.here hx rfl (hb hby d14_46) rfl ?_
    refine st8 _ ?_
    refine XS.ishr X8.here hx rfl (hb hby d14_50) rfl ?_
    show Steps p.tables e below (T8.setTop (mkF m 51 #[.val (.ref ob), .val (.int 1), .val (.int vc)] [(.int (vc >>> ((8 : Int32) &&& 31))), (.int 1), (.ref ob)])) _
    refine XS.i2b X8.here hx rfl (hb hby d14_51) rfl ?_
    refine st10 _ ?_
    exact X10.returnOut hx Bd.returns (hb hby d14_53) hr
  · show Q_pc4_0 Z _ _ _ _ _ _ _ _ _ _ _ _ _ h0 n0 _ T10.heap _
    rw [e10]
    have f12 := (((Keep.refl h0 [ob]).wr W5 (Or.inl (List.mem_of_getElem? (i := 0) rfl))).wr W10 (Or.inl (List.mem_of_getElem? (i := 0) rfl)))
    exact ⟨_, _, rfl, N10, f12, V10, own_lo vc, own_hi vc c1 c2⟩
theorem ef_rm_pc4_1 (m : MethodId) (x0 : Addr) (x2 : Int32) : entryFrame m #[(.ref x0), (.int 1), (.int x2)] 3 = mkF m 0 #[.val (.ref x0), .val (.int 1), .val (.int x2)] [] := by first | (simp [entryFrame, mkF, argsToLocals, Value.category]; done) | rfl
def Q_pc4_1 (Z : State) (ob : Addr) (vc : Int32) (vcs : Int32) (vf : Value) (kb : ClassId) (u0 : Int32) (u1 : Int32) (u2 : Int32) (u3 : Int32) (u4 : Int32) (u5 : Int32) (u6 : Int32) (u7 : Int32) (h0 : Heap) (n0 : Nat) (v : Option Value) (h : Heap) (L : List Loc) : Prop := ∃ lo hi : Int32, v = none ∧ Fr n0 L ∧ Keep h0 h [ob] ∧ Arv Z h ob kb .byte (8 : Int32) [(.int u0), (.int u1), (.int lo), (.int hi), (.int u4), (.int u5), (.int u6), (.int u7)] (.int 0) ∧ lo.toInt % 256 = vc.toInt % 256 ∧ hi.toInt % 256 = vc.toInt / 256
theorem rm_pc4_1 (l : Launch) (Z : State) (a0 : Array Value) (hw : ∀ d ∈ tables_1, d.before a0 Z = true) (ws : List Jvm.Cond) (ob : Addr) (vc : Int32) (vcs : Int32) (vf : Value) (kb : ClassId) (u0 : Int32) (u1 : Int32) (u2 : Int32) (u3 : Int32) (u4 : Int32) (u5 : Int32) (u6 : Int32) (u7 : Int32) (h0 : Heap) (n0 : Nat) (Z0 : n0 ≤ h0.size) (Os : own_st Z h0 vcs vf) (Vb : Arv Z h0 ob kb .byte (8 : Int32) [(.int u0), (.int u1), (.int u2), (.int u3), (.int u4), (.int u5), (.int u6), (.int u7)] (.int 0)) (gb : n0 ≤ ob) (c1 : 0 ≤ vc.toInt) (c2 : vc.toInt < 65536) :
    MetFree l yn6 (head1 (Jvm.Cond.code yn6 jdk_52_method_4_code 3 none :: ws) ⟨0, 0, 0, 0⟩) (fun a U => a = #[(.ref ob), (.int 1), (.int vc)] ∧ Z.Warmed39 U.vm ∧ U.heap = h0) (fun _ _ _ _ _ => True) (fun _ U o U' => ∃ v L, o = .returned v ∧ Q_pc4_1 Z ob vc vcs vf kb u0 u1 u2 u3 u4 u5 u6 u7 h0 n0 v U'.heap L ∧ FrameEnd U o U' L 0 0) := by
  refine MetFree.of_bodySF (plainFor_of_name pn_2) hisR ?_
  intro p e s m args below meth c s₁ Bd hml0 hP hK
  obtain ⟨rfl, hZ, hh⟩ := hP
  have hx := Bd.exec
  have hby := Bd.bytes
  have hml : c.maxLocals = 3 := hml0
  have hown : s.vm.findClass "java/lang/StringUTF16" = some m.cls := findClass_of_methodNamed Bd.named
  have hnm := (name_of_methodNamed Bd.named Bd.method).1
  have X0 : Stand p l e ⟨0, 0, 0, 0⟩ s m #[(.ref ob), (.int 1), (.int vc)] below meth c s₁ [] 0 0 := Stand.of_body Bd
  have e0 : s₁.heap = h0 := by rw [← hh, Bd.state]; rfl
  have N0 := Fr.nil n0
  have pre0 : oP p e below (s₁.setTop (mkF m 0 #[.val (.ref ob), .val (.int 1), .val (.int vc)] [])) (s₁.setTop (entryFrame m #[(.ref ob), (.int 1), (.int vc)] 3)) := fun t k => castTop (ef_rm_pc4_1 m ob vc) k
  obtain ⟨T1, X1, e1, st1⟩ := getS2 X0 hx hZ hown (host := "") (Or.inl (ow hw 63 rfl)) Via.refl e0 Os.2.2.2.2.1 (g := (mkF m 0 #[.val (.ref ob), .val (.int 1), .val (.int vc)] [])) rfl (hb hby d14_0)
  have hc3_2 : ¬ ((1 : Int) = (0 : Int)) := by decide
  obtain ⟨T3, X3, e3, st3⟩ := getS2 X1 hx hZ hown (host := "") (Or.inl (ow hw 64 rfl)) Via.refl e1 Os.2.2.2.2.2.1 (g := (mkF m 38 #[.val (.ref ob), .val (.int 3), .val (.int vc)] [(.int vc), (.int 2), (.ref ob)])) rfl (hb hby d14_38)
  obtain ⟨cl4, Ar4, q4, S4, M4, H4, G4⟩ := id Vb
  have hin4 : ¬ ((2 : Int32) < 0 ∨ cl4.slots.size ≤ ((2 : Int32)).toNatClampNeg) := inb_of S4 ⟨by decide, by decide⟩
  obtain ⟨T5, h5, X5, e5, W5, st5⟩ := stB X3 hx hZ e3 Ar4 (j := (2 : Int32)) hin4 (g := (mkF m 43 #[.val (.ref ob), .val (.int 3), .val (.int vc)] [(.int ((vc >>> ((0 : Int32) &&& 31)).toInt8.toInt32)), (.int 2), (.ref ob)])) rfl rfl (hb hby d14_43)
  have N5 := Fr.snoc X5 N0 gb
  have Zs6 : n0 ≤ h5.size := by rw [W5.size]; exact Z0
  have V5 : Arv Z h5 ob kb .byte (8 : Int32) [(.int u0), (.int u1), (.int (nar .byte ((vc >>> ((0 : Int32) &&& 31)).toInt8.toInt32))), (.int u3), (.int u4), (.int u5), (.int u6), (.int u7)] (.int 0) := Arv.set Ar4 q4 S4 M4 H4 G4 (fits_nar_byte _) W5 2 rfl (Nat.le_of_ble_eq_true rfl)
  have os7 := (own_st_wr Os W5)
  obtain ⟨T8, X8, e8, st8⟩ := getS2 X5 hx hZ hown (host := "") (Or.inl (ow hw 65 rfl)) Via.refl e5 os7.2.2.2.2.2.2 (g := (mkF m 47 #[.val (.ref ob), .val (.int 3), .val (.int vc)] [(.int vc), (.int 3), (.ref ob)])) rfl (hb hby d14_47)
  obtain ⟨cl9, Ar9, q9, S9, M9, H9, G9⟩ := id V5
  have hin9 : ¬ ((3 : Int32) < 0 ∨ cl9.slots.size ≤ ((3 : Int32)).toNatClampNeg) := inb_of S9 ⟨by decide, by decide⟩
  obtain ⟨T10, h10, X10, e10, W10, st10⟩ := stB X8 hx hZ e8 Ar9 (j := (3 : Int32)) hin9 (g := (mkF m 52 #[.val (.ref ob), .val (.int 3), .val (.int vc)] [(.int ((vc >>> ((8 : Int32) &&& 31)).toInt8.toInt32)), (.int 3), (.ref ob)])) rfl rfl (hb hby d14_52)
  have N10 := Fr.snoc X10 N5 gb
  have Zs11 : n0 ≤ h10.size := by rw [W10.size]; exact Zs6
  have V10 : Arv Z h10 ob kb .byte (8 : Int32) [(.int u0), (.int u1), (.int (nar .byte ((vc >>> ((0 : Int32) &&& 31)).toInt8.toInt32))), (.int (nar .byte ((vc >>> ((8 : Int32) &&& 31)).toInt8.toInt32))), (.int u4), (.int u5), (.int u6), (.int u7)] (.int 0) := Arv.set Ar9 q9 S9 M9 H9 G9 (fits_nar_byte _) W10 3 rfl (Nat.le_of_ble_eq_true rfl)
  obtain ⟨fs, hr, q1, q2, q3, q4⟩ := X10.leave (v := none) (fun _ => rfl)
  refine ⟨_, _, pre0 _ ?_, q1, q2, _, _, rfl, ?_, ⟨_, rfl⟩, q3, q4.mono (by decide) (by decide)⟩
  · refine st1 _ ?_
    refine XS.ifYes X1.here hx rfl (pc0 := 3) (pc' := 28) rfl (hb hby d14_3) rfl (own_if (own_feq (a := (1 : Int32)) (b := (0 : Int32)) (by decide) (by decide) hc3_2).2) (by decide) (by decide) ?_
    refine XS.iloadN X1.here hx rfl (hb hby d14_28) rfl ?_
    refine XS.iconst X1.here hx rfl (hb hby d14_29) ?_
    refine XS.ishl X1.here hx rfl (hb hby d14_30) rfl ?_
    refine XS.istoreN X1.here hx rfl (hb hby d14_31) rfl (l' := #[.val (.ref ob), .val (.int 2), .val (.int vc)]) rfl ?_
    refine XS.aloadN X1.here hx rfl (hb hby d14_32) rfl rfl ?_
    refine XS.iloadN X1.here hx rfl (hb hby d14_33) rfl ?_
    refine XS.iinc X1.here hx rfl (hb hby d14_34) rfl (l' := #[.val (.ref ob), .val (.int 3), .val (.int vc)]) rfl ?_
    refine XS.iloadN X1.here hx rfl (hb hby d14_37) rfl ?_
    refine st3 _ ?_
    refine XS.ishr X3.here hx rfl (hb hby d14_41) rfl ?_
    refine XS.i2b X3.here hx rfl (hb hby d14_42) rfl ?_
    refine st5 _ ?_
    refine XS.aloadN X5.here hx rfl (hb hby d14_44) rfl rfl ?_
    refine XS.iloadN X5.here hx rfl (hb hby d14_45) rfl ?_
    refine XS.iloadN X5.here hx rfl (hb hby d14_46) rfl ?_
    refine st8 _ ?_
    refine XS.ishr X8.here hx rfl (hb hby d14_50) rfl ?_
    show Steps p.tables e below (T8.setTop (mkF m 51 #[.val (.ref ob), .val (.int 3), .val (.int vc)] [(.int (vc >>> ((8 : Int32) &&& 31))), (.int 3), (.ref ob)])) _
    refine XS.i2b X8.here hx rfl (hb hby d14_51) rfl ?_
    refine st10 _ ?_
    exact X10.returnOut hx Bd.returns (hb hby d14_53) hr
  · show Q_pc4_1 Z _ _ _ _ _ _ _ _ _ _ _ _ _ h0 n0 _ T10.heap _
    rw [e10]
    have f12 := (((Keep.refl h0 [ob]).wr W5 (Or.inl (List.mem_of_getElem? (i := 0) rfl))).wr W10 (Or.inl (List.mem_of_getElem? (i := 0) rfl)))
    exact ⟨_, _, rfl, N10, f12, V10, own_lo vc, own_hi vc c1 c2⟩
theorem ef_rm_pc4_2 (m : MethodId) (x0 : Addr) (x2 : Int32) : entryFrame m #[(.ref x0), (.int 2), (.int x2)] 3 = mkF m 0 #[.val (.ref x0), .val (.int 2), .val (.int x2)] [] := by first | (simp [entryFrame, mkF, argsToLocals, Value.category]; done) | rfl
def Q_pc4_2 (Z : State) (ob : Addr) (vc : Int32) (vcs : Int32) (vf : Value) (kb : ClassId) (u0 : Int32) (u1 : Int32) (u2 : Int32) (u3 : Int32) (u4 : Int32) (u5 : Int32) (u6 : Int32) (u7 : Int32) (h0 : Heap) (n0 : Nat) (v : Option Value) (h : Heap) (L : List Loc) : Prop := ∃ lo hi : Int32, v = none ∧ Fr n0 L ∧ Keep h0 h [ob] ∧ Arv Z h ob kb .byte (8 : Int32) [(.int u0), (.int u1), (.int u2), (.int u3), (.int lo), (.int hi), (.int u6), (.int u7)] (.int 0) ∧ lo.toInt % 256 = vc.toInt % 256 ∧ hi.toInt % 256 = vc.toInt / 256
theorem rm_pc4_2 (l : Launch) (Z : State) (a0 : Array Value) (hw : ∀ d ∈ tables_1, d.before a0 Z = true) (ws : List Jvm.Cond) (ob : Addr) (vc : Int32) (vcs : Int32) (vf : Value) (kb : ClassId) (u0 : Int32) (u1 : Int32) (u2 : Int32) (u3 : Int32) (u4 : Int32) (u5 : Int32) (u6 : Int32) (u7 : Int32) (h0 : Heap) (n0 : Nat) (Z0 : n0 ≤ h0.size) (Os : own_st Z h0 vcs vf) (Vb : Arv Z h0 ob kb .byte (8 : Int32) [(.int u0), (.int u1), (.int u2), (.int u3), (.int u4), (.int u5), (.int u6), (.int u7)] (.int 0)) (gb : n0 ≤ ob) (c1 : 0 ≤ vc.toInt) (c2 : vc.toInt < 65536) :
    MetFree l yn6 (head1 (Jvm.Cond.code yn6 jdk_52_method_4_code 3 none :: ws) ⟨0, 0, 0, 0⟩) (fun a U => a = #[(.ref ob), (.int 2), (.int vc)] ∧ Z.Warmed39 U.vm ∧ U.heap = h0) (fun _ _ _ _ _ => True) (fun _ U o U' => ∃ v L, o = .returned v ∧ Q_pc4_2 Z ob vc vcs vf kb u0 u1 u2 u3 u4 u5 u6 u7 h0 n0 v U'.heap L ∧ FrameEnd U o U' L 0 0) := by
  refine MetFree.of_bodySF (plainFor_of_name pn_2) hisR ?_
  intro p e s m args below meth c s₁ Bd hml0 hP hK
  obtain ⟨rfl, hZ, hh⟩ := hP
  have hx := Bd.exec
  have hby := Bd.bytes
  have hml : c.maxLocals = 3 := hml0
  have hown : s.vm.findClass "java/lang/StringUTF16" = some m.cls := findClass_of_methodNamed Bd.named
  have hnm := (name_of_methodNamed Bd.named Bd.method).1
  have X0 : Stand p l e ⟨0, 0, 0, 0⟩ s m #[(.ref ob), (.int 2), (.int vc)] below meth c s₁ [] 0 0 := Stand.of_body Bd
  have e0 : s₁.heap = h0 := by rw [← hh, Bd.state]; rfl
  have N0 := Fr.nil n0
  have pre0 : oP p e below (s₁.setTop (mkF m 0 #[.val (.ref ob), .val (.int 2), .val (.int vc)] [])) (s₁.setTop (entryFrame m #[(.ref ob), (.int 2), (.int vc)] 3)) := fun t k => castTop (ef_rm_pc4_2 m ob vc) k
  obtain ⟨T1, X1, e1, st1⟩ := getS2 X0 hx hZ hown (host := "") (Or.inl (ow hw 63 rfl)) Via.refl e0 Os.2.2.2.2.1 (g := (mkF m 0 #[.val (.ref ob), .val (.int 2), .val (.int vc)] [])) rfl (hb hby d14_0)
  have hc3_2 : ¬ ((1 : Int) = (0 : Int)) := by decide
  obtain ⟨T3, X3, e3, st3⟩ := getS2 X1 hx hZ hown (host := "") (Or.inl (ow hw 64 rfl)) Via.refl e1 Os.2.2.2.2.2.1 (g := (mkF m 38 #[.val (.ref ob), .val (.int 5), .val (.int vc)] [(.int vc), (.int 4), (.ref ob)])) rfl (hb hby d14_38)
  obtain ⟨cl4, Ar4, q4, S4, M4, H4, G4⟩ := id Vb
  have hin4 : ¬ ((4 : Int32) < 0 ∨ cl4.slots.size ≤ ((4 : Int32)).toNatClampNeg) := inb_of S4 ⟨by decide, by decide⟩
  obtain ⟨T5, h5, X5, e5, W5, st5⟩ := stB X3 hx hZ e3 Ar4 (j := (4 : Int32)) hin4 (g := (mkF m 43 #[.val (.ref ob), .val (.int 5), .val (.int vc)] [(.int ((vc >>> ((0 : Int32) &&& 31)).toInt8.toInt32)), (.int 4), (.ref ob)])) rfl rfl (hb hby d14_43)
  have N5 := Fr.snoc X5 N0 gb
  have Zs6 : n0 ≤ h5.size := by rw [W5.size]; exact Z0
  have V5 : Arv Z h5 ob kb .byte (8 : Int32) [(.int u0), (.int u1), (.int u2), (.int u3), (.int (nar .byte ((vc >>> ((0 : Int32) &&& 31)).toInt8.toInt32))), (.int u5), (.int u6), (.int u7)] (.int 0) := Arv.set Ar4 q4 S4 M4 H4 G4 (fits_nar_byte _) W5 4 rfl (Nat.le_of_ble_eq_true rfl)
  have os7 := (own_st_wr Os W5)
  obtain ⟨T8, X8, e8, st8⟩ := getS2 X5 hx hZ hown (host := "") (Or.inl (ow hw 65 rfl)) Via.refl e5 os7.2.2.2.2.2.2 (g := (mkF m 47 #[.val (.ref ob), .val (.int 5), .val (.int vc)] [(.int vc), (.int 5), (.ref ob)])) rfl (hb hby d14_47)
  obtain ⟨cl9, Ar9, q9, S9, M9, H9, G9⟩ := id V5
  have hin9 : ¬ ((5 : Int32) < 0 ∨ cl9.slots.size ≤ ((5 : Int32)).toNatClampNeg) := inb_of S9 ⟨by decide, by decide⟩
  obtain ⟨T10, h10, X10, e10, W10, st10⟩ := stB X8 hx hZ e8 Ar9 (j := (5 : Int32)) hin9 (g := (mkF m 52 #[.val (.ref ob), .val (.int 5), .val (.int vc)] [(.int ((vc >>> ((8 : Int32) &&& 31)).toInt8.toInt32)), (.int 5), (.ref ob)])) rfl rfl (hb hby d14_52)
  have N10 := Fr.snoc X10 N5 gb
  have Zs11 : n0 ≤ h10.size := by rw [W10.size]; exact Zs6
  have V10 : Arv Z h10 ob kb .byte (8 : Int32) [(.int u0), (.int u1), (.int u2), (.int u3), (.int (nar .byte ((vc >>> ((0 : Int32) &&& 31)).toInt8.toInt32))), (.int (nar .byte ((vc >>> ((8 : Int32) &&& 31)).toInt8.toInt32))), (.int u6), (.int u7)] (.int 0) := Arv.set Ar9 q9 S9 M9 H9 G9 (fits_nar_byte _) W10 5 rfl (Nat.le_of_ble_eq_true rfl)
  obtain ⟨fs, hr, q1, q2, q3, q4⟩ := X10.leave (v := none) (fun _ => rfl)
  refine ⟨_, _, pre0 _ ?_, q1, q2, _, _, rfl, ?_, ⟨_, rfl⟩, q3, q4.mono (by decide) (by decide)⟩
  · refine st1 _ ?_
    refine XS.ifYes X1.here hx rfl (pc0 := 3) (pc' := 28) rfl (hb hby d14_3) rfl (own_if (own_feq (a := (1 : Int32)) (b := (0 : Int32)) (by decide) (by decide) hc3_2).2) (by decide) (by decide) ?_
    refine XS.iloadN X1.here hx rfl (hb hby d14_28) rfl ?_
    refine XS.iconst X1.here hx rfl (hb hby d14_29) ?_
    refine XS.ishl X1.here hx rfl (hb hby d14_30) rfl ?_
    refine XS.istoreN X1.here hx rfl (hb hby d14_31) rfl (l' := #[.val (.ref ob), .val (.int 4), .val (.int vc)]) rfl ?_
    refine XS.aloadN X1.here hx rfl (hb hby d14_32) rfl rfl ?_
    refine XS.iloadN X1.here hx rfl (hb hby d14_33) rfl ?_
    refine XS.iinc X1.here hx rfl (hb hby d14_34) rfl (l' := #[.val (.ref ob), .val (.int 5), .val (.int vc)]) rfl ?_
    refine XS.iloadN X1.here hx rfl (hb hby d14_37) rfl ?_
    refine st3 _ ?_
    refine XS.ishr X3.here hx rfl (hb hby d14_41) rfl ?_
    refine XS.i2b X3.here hx rfl (hb hby d14_42) rfl ?_
    refine st5 _ ?_
    refine XS.aloadN X5.here hx rfl (hb hby d14_44) rfl rfl ?_
    refine XS.iloadN X5.here hx rfl (hb hby d14_45) rfl ?_
    refine XS.iloadN X5.here hx rfl (hb hby d14_46) rfl ?_
    refine st8 _ ?_
    refine XS.ishr X8.here hx rfl (hb hby d14_50) rfl ?_
    show Steps p.tables e below (T8.setTop (mkF m 51 #[.val (.ref ob), .val (.int 5), .val (.int vc)] [(.int (vc >>> ((8 : Int32) &&& 31))), (.int 5), (.ref ob)])) _
    refine XS.i2b X8.here hx rfl (hb hby d14_51) rfl ?_
    refine st10 _ ?_
    exact X10.returnOut hx Bd.returns (hb hby d14_53) hr
  · show Q_pc4_2 Z _ _ _ _ _ _ _ _ _ _ _ _ _ h0 n0 _ T10.heap _
    rw [e10]
    have f12 := (((Keep.refl h0 [ob]).wr W5 (Or.inl (List.mem_of_getElem? (i := 0) rfl))).wr W10 (Or.inl (List.mem_of_getElem? (i := 0) rfl)))
    exact ⟨_, _, rfl, N10, f12, V10, own_lo vc, own_hi vc c1 c2⟩
theorem ef_rm_pc4_3 (m : MethodId) (x0 : Addr) (x2 : Int32) : entryFrame m #[(.ref x0), (.int 3), (.int x2)] 3 = mkF m 0 #[.val (.ref x0), .val (.int 3), .val (.int x2)] [] := by first | (simp [entryFrame, mkF, argsToLocals, Value.category]; done) | rfl
def Q_pc4_3 (Z : State) (ob : Addr) (vc : Int32) (vcs : Int32) (vf : Value) (kb : ClassId) (u0 : Int32) (u1 : Int32) (u2 : Int32) (u3 : Int32) (u4 : Int32) (u5 : Int32) (u6 : Int32) (u7 : Int32) (h0 : Heap) (n0 : Nat) (v : Option Value) (h : Heap) (L : List Loc) : Prop := ∃ lo hi : Int32, v = none ∧ Fr n0 L ∧ Keep h0 h [ob] ∧ Arv Z h ob kb .byte (8 : Int32) [(.int u0), (.int u1), (.int u2), (.int u3), (.int u4), (.int u5), (.int lo), (.int hi)] (.int 0) ∧ lo.toInt % 256 = vc.toInt % 256 ∧ hi.toInt % 256 = vc.toInt / 256
theorem rm_pc4_3 (l : Launch) (Z : State) (a0 : Array Value) (hw : ∀ d ∈ tables_1, d.before a0 Z = true) (ws : List Jvm.Cond) (ob : Addr) (vc : Int32) (vcs : Int32) (vf : Value) (kb : ClassId) (u0 : Int32) (u1 : Int32) (u2 : Int32) (u3 : Int32) (u4 : Int32) (u5 : Int32) (u6 : Int32) (u7 : Int32) (h0 : Heap) (n0 : Nat) (Z0 : n0 ≤ h0.size) (Os : own_st Z h0 vcs vf) (Vb : Arv Z h0 ob kb .byte (8 : Int32) [(.int u0), (.int u1), (.int u2), (.int u3), (.int u4), (.int u5), (.int u6), (.int u7)] (.int 0)) (gb : n0 ≤ ob) (c1 : 0 ≤ vc.toInt) (c2 : vc.toInt < 65536) :
    MetFree l yn6 (head1 (Jvm.Cond.code yn6 jdk_52_method_4_code 3 none :: ws) ⟨0, 0, 0, 0⟩) (fun a U => a = #[(.ref ob), (.int 3), (.int vc)] ∧ Z.Warmed39 U.vm ∧ U.heap = h0) (fun _ _ _ _ _ => True) (fun _ U o U' => ∃ v L, o = .returned v ∧ Q_pc4_3 Z ob vc vcs vf kb u0 u1 u2 u3 u4 u5 u6 u7 h0 n0 v U'.heap L ∧ FrameEnd U o U' L 0 0) := by
  refine MetFree.of_bodySF (plainFor_of_name pn_2) hisR ?_
  intro p e s m args below meth c s₁ Bd hml0 hP hK
  obtain ⟨rfl, hZ, hh⟩ := hP
  have hx := Bd.exec
  have hby := Bd.bytes
  have hml : c.maxLocals = 3 := hml0
  have hown : s.vm.findClass "java/lang/StringUTF16" = some m.cls := findClass_of_methodNamed Bd.named
  have hnm := (name_of_methodNamed Bd.named Bd.method).1
  have X0 : Stand p l e ⟨0, 0, 0, 0⟩ s m #[(.ref ob), (.int 3), (.int vc)] below meth c s₁ [] 0 0 := Stand.of_body Bd
  have e0 : s₁.heap = h0 := by rw [← hh, Bd.state]; rfl
  have N0 := Fr.nil n0
  have pre0 : oP p e below (s₁.setTop (mkF m 0 #[.val (.ref ob), .val (.int 3), .val (.int vc)] [])) (s₁.setTop (entryFrame m #[(.ref ob), (.int 3), (.int vc)] 3)) := fun t k => castTop (ef_rm_pc4_3 m ob vc) k
  obtain ⟨T1, X1, e1, st1⟩ := getS2 X0 hx hZ hown (host := "") (Or.inl (ow hw 63 rfl)) Via.refl e0 Os.2.2.2.2.1 (g := (mkF m 0 #[.val (.ref ob), .val (.int 3), .val (.int vc)] [])) rfl (hb hby d14_0)
  have hc3_2 : ¬ ((1 : Int) = (0 : Int)) := by decide
  obtain ⟨T3, X3, e3, st3⟩ := getS2 X1 hx hZ hown (host := "") (Or.inl (ow hw 64 rfl)) Via.refl e1 Os.2.2.2.2.2.1 (g := (mkF m 38 #[.val (.ref ob), .val (.int 7), .val (.int vc)] [(.int vc), (.int 6), (.ref ob)])) rfl (hb hby d14_38)
  obtain ⟨cl4, Ar4, q4, S4, M4, H4, G4⟩ := id Vb
  have hin4 : ¬ ((6 : Int32) < 0 ∨ cl4.slots.size ≤ ((6 : Int32)).toNatClampNeg) := inb_of S4 ⟨by decide, by decide⟩
  obtain ⟨T5, h5, X5, e5, W5, st5⟩ := stB X3 hx hZ e3 Ar4 (j := (6 : Int32)) hin4 (g := (mkF m 43 #[.val (.ref ob), .val (.int 7), .val (.int vc)] [(.int ((vc >>> ((0 : Int32) &&& 31)).toInt8.toInt32)), (.int 6), (.ref ob)])) rfl rfl (hb hby d14_43)
  have N5 := Fr.snoc X5 N0 gb
  have Zs6 : n0 ≤ h5.size := by rw [W5.size]; exact Z0
  have V5 : Arv Z h5 ob kb .byte (8 : Int32) [(.int u0), (.int u1), (.int u2), (.int u3), (.int u4), (.int u5), (.int (nar .byte ((vc >>> ((0 : Int32) &&& 31)).toInt8.toInt32))), (.int u7)] (.int 0) := Arv.set Ar4 q4 S4 M4 H4 G4 (fits_nar_byte _) W5 6 rfl (Nat.le_of_ble_eq_true rfl)
  have os7 := (own_st_wr Os W5)
  obtain ⟨T8, X8, e8, st8⟩ := getS2 X5 hx hZ hown (host := "") (Or.inl (ow hw 65 rfl)) Via.refl e5 os7.2.2.2.2.2.2 (g := (mkF m 47 #[.val (.ref ob), .val (.int 7), .val (.int vc)] [(.int vc), (.int 7), (.ref ob)])) rfl (hb hby d14_47)
  obtain ⟨cl9, Ar9, q9, S9, M9, H9, G9⟩ := id V5
  have hin9 : ¬ ((7 : Int32) < 0 ∨ cl9.slots.size ≤ ((7 : Int32)).toNatClampNeg) := inb_of S9 ⟨by decide, by decide⟩
  obtain ⟨T10, h10, X10, e10, W10, st10⟩ := stB X8 hx hZ e8 Ar9 (j := (7 : Int32)) hin9 (g := (mkF m 52 #[.val (.ref ob), .val (.int 7), .val (.int vc)] [(.int ((vc >>> ((8 : Int32) &&& 31)).toInt8.toInt32)), (.int 7), (.ref ob)])) rfl rfl (hb hby d14_52)
  have N10 := Fr.snoc X10 N5 gb
  have Zs11 : n0 ≤ h10.size := by rw [W10.size]; exact Zs6
  have V10 : Arv Z h10 ob kb .byte (8 : Int32) [(.int u0), (.int u1), (.int u2), (.int u3), (.int u4), (.int u5), (.int (nar .byte ((vc >>> ((0 : Int32) &&& 31)).toInt8.toInt32))), (.int (nar .byte ((vc >>> ((8 : Int32) &&& 31)).toInt8.toInt32)))] (.int 0) := Arv.set Ar9 q9 S9 M9 H9 G9 (fits_nar_byte _) W10 7 rfl (Nat.le_of_ble_eq_true rfl)
  obtain ⟨fs, hr, q1, q2, q3, q4⟩ := X10.leave (v := none) (fun _ => rfl)
  refine ⟨_, _, pre0 _ ?_, q1, q2, _, _, rfl, ?_, ⟨_, rfl⟩, q3, q4.mono (by decide) (by decide)⟩
  · refine st1 _ ?_
    refine XS.ifYes X1.here hx rfl (pc0 := 3) (pc' := 28) rfl (hb hby d14_3) rfl (own_if (own_feq (a := (1 : Int32)) (b := (0 : Int32)) (by decide) (by decide) hc3_2).2) (by decide) (by decide) ?_
    refine XS.iloadN X1.here hx rfl (hb hby d14_28) rfl ?_
    refine XS.iconst X1.here hx rfl (hb hby d14_29) ?_
    refine XS.ishl X1.here hx rfl (hb hby d14_30) rfl ?_
    refine XS.istoreN X1.here hx rfl (hb hby d14_31) rfl (l' := #[.val (.ref ob), .val (.int 6), .val (.int vc)]) rfl ?_
    refine XS.aloadN X1.here hx rfl (hb hby d14_32) rfl rfl ?_
    refine XS.iloadN X1.here hx rfl (hb hby d14_33) rfl ?_
    refine XS.iinc X1.here hx rfl (hb hby d14_34) rfl (l' := #[.val (.ref ob), .val (.int 7), .val (.int vc)]) rfl ?_
    refine XS.iloadN X1.here hx rfl (hb hby d14_37) rfl ?_
    refine st3 _ ?_
    refine XS.ishr X3.here hx rfl (hb hby d14_41) rfl ?_
    refine XS.i2b X3.here hx rfl (hb hby d14_42) rfl ?_
    refine st5 _ ?_
    refine XS.aloadN X5.here hx rfl (hb hby d14_44) rfl rfl ?_
    refine XS.iloadN X5.here hx rfl (hb hby d14_45) rfl ?_
    refine XS.iloadN X5.here hx rfl (hb hby d14_46) rfl ?_
    refine st8 _ ?_
    refine XS.ishr X8.here hx rfl (hb hby d14_50) rfl ?_
    show Steps p.tables e below (T8.setTop (mkF m 51 #[.val (.ref ob), .val (.int 7), .val (.int vc)] [(.int (vc >>> ((8 : Int32) &&& 31))), (.int 7), (.ref ob)])) _
    refine XS.i2b X8.here hx rfl (hb hby d14_51) rfl ?_
    refine st10 _ ?_
    exact X10.returnOut hx Bd.returns (hb hby d14_53) hr
  · show Q_pc4_3 Z _ _ _ _ _ _ _ _ _ _ _ _ _ h0 n0 _ T10.heap _
    rw [e10]
    have f12 := (((Keep.refl h0 [ob]).wr W5 (Or.inl (List.mem_of_getElem? (i := 0) rfl))).wr W10 (Or.inl (List.mem_of_getElem? (i := 0) rfl)))
    exact ⟨_, _, rfl, N10, f12, V10, own_lo vc, own_hi vc c1 c2⟩
theorem ef_rm_tb4 (m : MethodId) (x0 : Addr) : entryFrame m #[(.ref x0), (.int 0), (.int 4)] 5 = mkF m 0 #[.val (.ref x0), .val (.int 0), .val (.int 4), .unset, .unset] [] := by first | (simp [entryFrame, mkF, argsToLocals, Value.category]; done) | rfl
def Q_tb4 (Z : State) (oc : Addr) (vcs : Int32) (vf : Value) (kC : ClassId) (c0 : Int32) (c1 : Int32) (c2 : Int32) (c3 : Int32) (h0 : Heap) (n0 : Nat) (v : Option Value) (h : Heap) (L : List Loc) : Prop := ∃ (ob : Addr) (kb : ClassId) (lo0 hi0 lo1 hi1 lo2 hi2 lo3 hi3 : Int32), v = some (.ref ob) ∧ Fr n0 L ∧ Keep h0 h [] ∧ n0 ≤ ob ∧ h0.size ≤ ob ∧ Arv Z h ob kb .byte (8 : Int32) [(.int lo0), (.int hi0), (.int lo1), (.int hi1), (.int lo2), (.int hi2), (.int lo3), (.int hi3)] (.int 0) ∧ lo0.toInt % 256 = c0.toInt % 256 ∧ hi0.toInt % 256 = c0.toInt / 256 ∧ lo1.toInt % 256 = c1.toInt % 256 ∧ hi1.toInt % 256 = c1.toInt / 256 ∧ lo2.toInt % 256 = c2.toInt % 256 ∧ hi2.toInt % 256 = c2.toInt / 256 ∧ lo3.toInt % 256 = c3.toInt % 256 ∧ hi3.toInt % 256 = c3.toInt / 256
theorem rm_tb4 (l : Launch) (Z : State) (a0 : Array Value) (hw : ∀ d ∈ tables_1, d.before a0 Z = true) (ws : List Jvm.Cond) (oc : Addr) (vcs : Int32) (vf : Value) (kC : ClassId) (c0 : Int32) (c1 : Int32) (c2 : Int32) (c3 : Int32) (h0 : Heap) (n0 : Nat) (Z0 : n0 ≤ h0.size) (Os : own_st Z h0 vcs vf) (Vc : Arv Z h0 oc kC .char (4 : Int32) [(.int c0), (.int c1), (.int c2), (.int c3)] (.int 0)) (uc0 : 0 ≤ c0.toInt) (uc1 : 0 ≤ c1.toInt) (uc2 : 0 ≤ c2.toInt) (uc3 : 0 ≤ c3.toInt) (vc0 : c0.toInt < 65536) (vc1 : c1.toInt < 65536) (vc2 : c2.toInt < 65536) (vc3 : c3.toInt < 65536) :
    MetFree l yn7 (head1 (Jvm.Cond.code yn7 jdk_52_method_14_code 5 (some (.array .byte)) :: ws) ⟨2, 1, 8, 24⟩) (fun a U => a = #[(.ref oc), (.int 0), (.int 4)] ∧ Z.Warmed39 U.vm ∧ U.heap = h0) (fun _ _ _ _ _ => True) (fun _ U o U' => ∃ v L, o = .returned v ∧ Q_tb4 Z oc vcs vf kC c0 c1 c2 c3 h0 n0 v U'.heap L ∧ FrameEnd U o U' L 1 8) := by
  refine MetFree.of_bodySF (plainFor_of_name pn_2) hisR ?_
  intro p e s m args below meth c s₁ Bd hml0 hP hK
  obtain ⟨rfl, hZ, hh⟩ := hP
  have hx := Bd.exec
  have hby := Bd.bytes
  have hml : c.maxLocals = 5 := hml0
  have hown : s.vm.findClass "java/lang/StringUTF16" = some m.cls := findClass_of_methodNamed Bd.named
  have hnm := (name_of_methodNamed Bd.named Bd.method).1
  have X0 : Stand p l e ⟨2, 1, 8, 24⟩ s m #[(.ref oc), (.int 0), (.int 4)] below meth c s₁ [] 0 0 := Stand.of_body Bd
  have e0 : s₁.heap = h0 := by rw [← hh, Bd.state]; rfl
  have N0 := Fr.nil n0
  have pre0 : oP p e below (s₁.setTop (mkF m 0 #[.val (.ref oc), .val (.int 0), .val (.int 4), .unset, .unset] [])) (s₁.setTop (entryFrame m #[(.ref oc), (.int 0), (.int 4)] 5)) := fun t k => castTop (ef_rm_tb4 m oc) k
  obtain ⟨_, _, ⟨T1, L1, k1, n1⟩, -, X1, ⟨Lc1, hQ1, l1, y1, z1⟩, st1⟩ := Jvm.LawKit.callS X0 hx (y := yn5) hown (mvT hZ (ow hw 53 rfl)) (mvT hZ (ow hw 54 rfl)) (mvT hZ (ow hw 19 rfl)) (mvT hZ (ow hw 55 rfl)) (by decide) (backOf (W := 0) (rm_nbf4 l Z a0 hw []  h0 n0 Z0 ) hZ (ow hw 55 rfl) (ow hw 19 rfl) (by decide) (by decide)) (g := (mkF m 1 #[.val (.ref oc), .val (.int 0), .val (.int 4), .unset, .unset] [(.int 4)])) rfl (by rw [hml]; rfl) (argsL := [(.int 4)]) (rest := []) (lenOf pd_1 rfl) rfl (by exact Nat.le_of_eq rfl) (hb hby d11_1) (fun _ _ => ⟨rfl, e0, (by decide : 0 + 1 ≤ _), (by decide : 0 + 8 ≤ _)⟩)
  dsimp only [Pt.U, Pt.locs, Pt.cells, Pt.slots] at X1 l1 y1 z1 st1 hQ1
  rw [l1, y1, z1] at X1
  obtain ⟨ob, kb, rfl, N1q, K1, gb, szb, Vb1⟩ := hQ1
  have N1 := Fr.app N0 N1q
  have Zs2 : n0 ≤ T1.heap.size := Nat.le_trans Z0 K1.1
  have ne_oc_ob : oc ≠ ob := Nat.ne_of_lt (Nat.lt_of_lt_of_le Vc.lt szb)
  have sz_ob : h0.size ≤ ob := Nat.le_trans (Keep.refl h0 []).1 szb
  have hc11_3 : (0 : Int) < (4 : Int) := by decide
  have f4 := (Vc.keep K1 nin0)
  obtain ⟨cl5, Ar5, q5, S5, M5, H5, G5⟩ := id f4
  have hin5 : ¬ ((0 : Int32) < 0 ∨ cl5.slots.size ≤ ((0 : Int32)).toNatClampNeg) := inb_of S5 ⟨by decide, by decide⟩
  have hat5 : cl5.slots[((0 : Int32)).toNatClampNeg]? = some (.int c0) := Has.at H5 hin5 rfl
  have os7 := (own_st_keep Os K1 ns0)
  obtain ⟨_, _, ⟨T6, L6, k6, n6⟩, -, X6, ⟨Lc6, hQ6, l6, y6, z6⟩, st6⟩ := Jvm.LawKit.callS X1 hx (y := yn6) hown (mvT hZ (ow hw 60 rfl)) (mvT hZ (ow hw 61 rfl)) (mvT hZ (ow hw 19 rfl)) (mvT hZ (ow hw 62 rfl)) (by decide) (backOf (W := 0) (rm_pc4_0 l Z a0 hw [] ob c0 vcs vf kb (0 : Int32) (0 : Int32) (0 : Int32) (0 : Int32) (0 : Int32) (0 : Int32) (0 : Int32) (0 : Int32) T1.heap n0 Zs2 os7 Vb1 gb uc0 vc0) hZ (ow hw 62 rfl) (ow hw 19 rfl) (by decide) (by decide)) (g := (mkF m 20 #[.val (.ref oc), .val (.int 0), .val (.int 4), .val (.ref ob), .val (.int 0)] [(.int c0), (.int 0), (.ref ob)])) rfl (by rw [hml]; rfl) (argsL := [(.ref ob), (.int 0), (.int c0)]) (rest := []) (lenOf pd_2 rfl) rfl (by exact Nat.le_of_eq rfl) (hb hby d11_20) (fun _ _ => ⟨rfl, rfl, (by decide : 1 + 0 ≤ _), (by decide : 8 + 0 ≤ _)⟩)
  dsimp only [Pt.U, Pt.locs, Pt.cells, Pt.slots] at X6 l6 y6 z6 st6 hQ6
  rw [l6, y6, z6] at X6
  obtain ⟨lo0, hi0, rfl, N6q, K6, Vb6, ql0, qh0⟩ := hQ6
  have N6 := Fr.app N1 N6q
  have Zs8 : n0 ≤ T6.heap.size := Nat.le_trans Zs2 K6.1
  have hc11_9 : (1 : Int) < (4 : Int) := by decide
  have f10 := (f4.keep K6 (ninS ne_oc_ob nin0))
  obtain ⟨cl11, Ar11, q11, S11, M11, H11, G11⟩ := id f10
  have hin11 : ¬ ((1 : Int32) < 0 ∨ cl11.slots.size ≤ ((1 : Int32)).toNatClampNeg) := inb_of S11 ⟨by decide, by decide⟩
  have hat11 : cl11.slots[((1 : Int32)).toNatClampNeg]? = some (.int c1) := Has.at H11 hin11 rfl
  have os13 := (own_st_keep os7 K6 (nsS Vb1.nostat ns0))
  obtain ⟨_, _, ⟨T12, L12, k12, n12⟩, -, X12, ⟨Lc12, hQ12, l12, y12, z12⟩, st12⟩ := Jvm.LawKit.callS X6 hx (y := yn6) hown (mvT hZ (ow hw 60 rfl)) (mvT hZ (ow hw 61 rfl)) (mvT hZ (ow hw 19 rfl)) (mvT hZ (ow hw 62 rfl)) (by decide) (backOf (W := 0) (rm_pc4_1 l Z a0 hw [] ob c1 vcs vf kb lo0 hi0 (0 : Int32) (0 : Int32) (0 : Int32) (0 : Int32) (0 : Int32) (0 : Int32) T6.heap n0 Zs8 os13 Vb6 gb uc1 vc1) hZ (ow hw 62 rfl) (ow hw 19 rfl) (by decide) (by decide)) (g := (mkF m 20 #[.val (.ref oc), .val (.int 1), .val (.int 4), .val (.ref ob), .val (.int 1)] [(.int c1), (.int 1), (.ref ob)])) rfl (by rw [hml]; rfl) (argsL := [(.ref ob), (.int 1), (.int c1)]) (rest := []) (lenOf pd_2 rfl) rfl (by exact Nat.le_of_eq rfl) (hb hby d11_20) (fun _ _ => ⟨rfl, rfl, (by decide : 1 + 0 ≤ _), (by decide : 8 + 0 ≤ _)⟩)
  dsimp only [Pt.U, Pt.locs, Pt.cells, Pt.slots] at X12 l12 y12 z12 st12 hQ12
  rw [l12, y12, z12] at X12
  obtain ⟨lo1, hi1, rfl, N12q, K12, Vb12, ql1, qh1⟩ := hQ12
  have N12 := Fr.app N6 N12q
  have Zs14 : n0 ≤ T12.heap.size := Nat.le_trans Zs8 K12.1
  have hc11_15 : (2 : Int) < (4 : Int) := by decide
  have f16 := (f10.keep K12 (ninS ne_oc_ob nin0))
  obtain ⟨cl17, Ar17, q17, S17, M17, H17, G17⟩ := id f16
  have hin17 : ¬ ((2 : Int32) < 0 ∨ cl17.slots.size ≤ ((2 : Int32)).toNatClampNeg) := inb_of S17 ⟨by decide, by decide⟩
  have hat17 : cl17.slots[((2 : Int32)).toNatClampNeg]? = some (.int c2) := Has.at H17 hin17 rfl
  have os19 := (own_st_keep os13 K12 (nsS Vb6.nostat ns0))
  obtain ⟨_, _, ⟨T18, L18, k18, n18⟩, -, X18, ⟨Lc18, hQ18, l18, y18, z18⟩, st18⟩ := Jvm.LawKit.callS X12 hx (y := yn6) hown (mvT hZ (ow hw 60 rfl)) (mvT hZ (ow hw 61 rfl)) (mvT hZ (ow hw 19 rfl)) (mvT hZ (ow hw 62 rfl)) (by decide) (backOf (W := 0) (rm_pc4_2 l Z a0 hw [] ob c2 vcs vf kb lo0 hi0 lo1 hi1 (0 : Int32) (0 : Int32) (0 : Int32) (0 : Int32) T12.heap n0 Zs14 os19 Vb12 gb uc2 vc2) hZ (ow hw 62 rfl) (ow hw 19 rfl) (by decide) (by decide)) (g := (mkF m 20 #[.val (.ref oc), .val (.int 2), .val (.int 4), .val (.ref ob), .val (.int 2)] [(.int c2), (.int 2), (.ref ob)])) rfl (by rw [hml]; rfl) (argsL := [(.ref ob), (.int 2), (.int c2)]) (rest := []) (lenOf pd_2 rfl) rfl (by exact Nat.le_of_eq rfl) (hb hby d11_20) (fun _ _ => ⟨rfl, rfl, (by decide : 1 + 0 ≤ _), (by decide : 8 + 0 ≤ _)⟩)
  dsimp only [Pt.U, Pt.locs, Pt.cells, Pt.slots] at X18 l18 y18 z18 st18 hQ18
  rw [l18, y18, z18] at X18
  obtain ⟨lo2, hi2, rfl, N18q, K18, Vb18, ql2, qh2⟩ := hQ18
  have N18 := Fr.app N12 N18q
  have Zs20 : n0 ≤ T18.heap.size := Nat.le_trans Zs14 K18.1
  have hc11_21 : (3 : Int) < (4 : Int) := by decide
  have f22 := (f16.keep K18 (ninS ne_oc_ob nin0))
  obtain ⟨cl23, Ar23, q23, S23, M23, H23, G23⟩ := id f22
  have hin23 : ¬ ((3 : Int32) < 0 ∨ cl23.slots.size ≤ ((3 : Int32)).toNatClampNeg) := inb_of S23 ⟨by decide, by decide⟩
  have hat23 : cl23.slots[((3 : Int32)).toNatClampNeg]? = some (.int c3) := Has.at H23 hin23 rfl
  have os25 := (own_st_keep os19 K18 (nsS Vb12.nostat ns0))
  obtain ⟨_, _, ⟨T24, L24, k24, n24⟩, -, X24, ⟨Lc24, hQ24, l24, y24, z24⟩, st24⟩ := Jvm.LawKit.callS X18 hx (y := yn6) hown (mvT hZ (ow hw 60 rfl)) (mvT hZ (ow hw 61 rfl)) (mvT hZ (ow hw 19 rfl)) (mvT hZ (ow hw 62 rfl)) (by decide) (backOf (W := 0) (rm_pc4_3 l Z a0 hw [] ob c3 vcs vf kb lo0 hi0 lo1 hi1 lo2 hi2 (0 : Int32) (0 : Int32) T18.heap n0 Zs20 os25 Vb18 gb uc3 vc3) hZ (ow hw 62 rfl) (ow hw 19 rfl) (by decide) (by decide)) (g := (mkF m 20 #[.val (.ref oc), .val (.int 3), .val (.int 4), .val (.ref ob), .val (.int 3)] [(.int c3), (.int 3), (.ref ob)])) rfl (by rw [hml]; rfl) (argsL := [(.ref ob), (.int 3), (.int c3)]) (rest := []) (lenOf pd_2 rfl) rfl (by exact Nat.le_of_eq rfl) (hb hby d11_20) (fun _ _ => ⟨rfl, rfl, (by decide : 1 + 0 ≤ _), (by decide : 8 + 0 ≤ _)⟩)
  dsimp only [Pt.U, Pt.locs, Pt.cells, Pt.slots] at X24 l24 y24 z24 st24 hQ24
  rw [l24, y24, z24] at X24
  obtain ⟨lo3, hi3, rfl, N24q, K24, Vb24, ql3, qh3⟩ := hQ24
  have N24 := Fr.app N18 N24q
  have Zs26 : n0 ≤ T24.heap.size := Nat.le_trans Zs20 K24.1
  have hc11_27 : ¬ ((4 : Int) < (4 : Int)) := by decide
  obtain ⟨fs, hr, q1, q2, q3, q4⟩ := X24.leave (v := some (.ref ob)) (fun h => by rw [Bd.returns] at h; cases h)
  refine ⟨_, _, pre0 _ ?_, q1, q2, _, _, rfl, ?_, ⟨_, rfl⟩, q3, q4.mono (by decide) (by decide)⟩
  · refine XS.iloadN X0.here hx rfl (hb hby d11_0) rfl ?_
    refine st1 _ ?_
    refine XS.astoreN X1.here hx rfl (hb hby d11_4) rfl rfl (l' := #[.val (.ref oc), .val (.int 0), .val (.int 4), .val (.ref ob), .unset]) rfl ?_
    refine XS.iconst X1.here hx rfl (hb hby d11_5) ?_
    refine XS.istore X1.here hx rfl (hb hby d11_6) rfl (l' := #[.val (.ref oc), .val (.int 0), .val (.int 4), .val (.ref ob), .val (.int 0)]) rfl ?_
    refine XS.iload X1.here hx rfl (hb hby d11_8) rfl ?_
    refine XS.iloadN X1.here hx rfl (hb hby d11_10) rfl ?_
    refine XS.icmpNo X1.here hx rfl (hb hby d11_11) rfl (own_tlt (a := (0 : Int32)) (b := (4 : Int32)) (by decide) (by decide) hc11_3).2.1 ?_
    refine XS.aloadN X1.here hx rfl (hb hby d11_14) rfl rfl ?_
    refine XS.iload X1.here hx rfl (hb hby d11_15) rfl ?_
    refine XS.aloadN X1.here hx rfl (hb hby d11_17) rfl rfl ?_
    refine XS.iloadN X1.here hx rfl (hb hby d11_18) rfl ?_
    refine X1.caload hx (j := (0 : Int32)) (v := (.int c0)) Ar5.1 (State.isArrayOf_alike hZ.alike Ar5.2.1) Ar5.2.2 hin5 hat5 (g := (mkF m 19 #[.val (.ref oc), .val (.int 0), .val (.int 4), .val (.ref ob), .val (.int 0)] [(.int 0), (.ref oc), (.int 0), (.ref ob)])) rfl rfl (hb hby d11_19) _ ?_
    refine st6 _ ?_
    refine XS.iinc X6.here hx rfl (hb hby d11_23) rfl (l' := #[.val (.ref oc), .val (.int 1), .val (.int 4), .val (.ref ob), .val (.int 0)]) rfl ?_
    refine XS.iinc X6.here hx rfl (hb hby d11_26) rfl (l' := #[.val (.ref oc), .val (.int 1), .val (.int 4), .val (.ref ob), .val (.int 1)]) rfl ?_
    refine XS.goto X6.here hx rfl (pc0 := 29) (pc' := 8) rfl (hb hby d11_29) (by decide) (by decide) ?_
    refine XS.iload X6.here hx rfl (hb hby d11_8) rfl ?_
    refine XS.iloadN X6.here hx rfl (hb hby d11_10) rfl ?_
    show Steps p.tables e below (T6.setTop (mkF m 11 #[.val (.ref oc), .val (.int 1), .val (.int 4), .val (.ref ob), .val (.int 1)] [(.int 4), (.int 1)])) _
    refine XS.icmpNo X6.here hx rfl (hb hby d11_11) rfl (own_tlt (a := (1 : Int32)) (b := (4 : Int32)) (by decide) (by decide) hc11_9).2.1 ?_
    refine XS.aloadN X6.here hx rfl (hb hby d11_14) rfl rfl ?_
    refine XS.iload X6.here hx rfl (hb hby d11_15) rfl ?_
    refine XS.aloadN X6.here hx rfl (hb hby d11_17) rfl rfl ?_
    refine XS.iloadN X6.here hx rfl (hb hby d11_18) rfl ?_
    refine X6.caload hx (j := (1 : Int32)) (v := (.int c1)) Ar11.1 (State.isArrayOf_alike hZ.alike Ar11.2.1) Ar11.2.2 hin11 hat11 (g := (mkF m 19 #[.val (.ref oc), .val (.int 1), .val (.int 4), .val (.ref ob), .val (.int 1)] [(.int 1), (.ref oc), (.int 1), (.ref ob)])) rfl rfl (hb hby d11_19) _ ?_
    refine st12 _ ?_
    refine XS.iinc X12.here hx rfl (hb hby d11_23) rfl (l' := #[.val (.ref oc), .val (.int 2), .val (.int 4), .val (.ref ob), .val (.int 1)]) rfl ?_
    refine XS.iinc X12.here hx rfl (hb hby d11_26) rfl (l' := #[.val (.ref oc), .val (.int 2), .val (.int 4), .val (.ref ob), .val (.int 2)]) rfl ?_
    refine XS.goto X12.here hx rfl (pc0 := 29) (pc' := 8) rfl (hb hby d11_29) (by decide) (by decide) ?_
    refine XS.iload X12.here hx rfl (hb hby d11_8) rfl ?_
    refine XS.iloadN X12.here hx rfl (hb hby d11_10) rfl ?_
    refine XS.icmpNo X12.here hx rfl (hb hby d11_11) rfl (own_tlt (a := (2 : Int32)) (b := (4 : Int32)) (by decide) (by decide) hc11_15).2.1 ?_
    refine XS.aloadN X12.here hx rfl (hb hby d11_14) rfl rfl ?_
    refine XS.iload X12.here hx rfl (hb hby d11_15) rfl ?_
    refine XS.aloadN X12.here hx rfl (hb hby d11_17) rfl rfl ?_
    refine XS.iloadN X12.here hx rfl (hb hby d11_18) rfl ?_
    refine X12.caload hx (j := (2 : Int32)) (v := (.int c2)) Ar17.1 (State.isArrayOf_alike hZ.alike Ar17.2.1) Ar17.2.2 hin17 hat17 (g := (mkF m 19 #[.val (.ref oc), .val (.int 2), .val (.int 4), .val (.ref ob), .val (.int 2)] [(.int 2), (.ref oc), (.int 2), (.ref ob)])) rfl rfl (hb hby d11_19) _ ?_
    refine st18 _ ?_
    refine XS.iinc X18.here hx rfl (hb hby d11_23) rfl (l' := #[.val (.ref oc), .val (.int 3), .val (.int 4), .val (.ref ob), .val (.int 2)]) rfl ?_
    show Steps p.tables e below (T18.setTop (mkF m 26 #[.val (.ref oc), .val (.int 3), .val (.int 4), .val (.ref ob), .val (.int 2)] [])) _
    refine XS.iinc X18.here hx rfl (hb hby d11_26) rfl (l' := #[.val (.ref oc), .val (.int 3), .val (.int 4), .val (.ref ob), .val (.int 3)]) rfl ?_
    refine XS.goto X18.here hx rfl (pc0 := 29) (pc' := 8) rfl (hb hby d11_29) (by decide) (by decide) ?_
    refine XS.iload X18.here hx rfl (hb hby d11_8) rfl ?_
    refine XS.iloadN X18.here hx rfl (hb hby d11_10) rfl ?_
    refine XS.icmpNo X18.here hx rfl (hb hby d11_11) rfl (own_tlt (a := (3 : Int32)) (b := (4 : Int32)) (by decide) (by decide) hc11_21).2.1 ?_
    refine XS.aloadN X18.here hx rfl (hb hby d11_14) rfl rfl ?_
    refine XS.iload X18.here hx rfl (hb hby d11_15) rfl ?_
    refine XS.aloadN X18.here hx rfl (hb hby d11_17) rfl rfl ?_
    refine XS.iloadN X18.here hx rfl (hb hby d11_18) rfl ?_
    refine X18.caload hx (j := (3 : Int32)) (v := (.int c3)) Ar23.1 (State.isArrayOf_alike hZ.alike Ar23.2.1) Ar23.2.2 hin23 hat23 (g := (mkF m 19 #[.val (.ref oc), .val (.int 3), .val (.int 4), .val (.ref ob), .val (.int 3)] [(.int 3), (.ref oc), (.int 3), (.ref ob)])) rfl rfl (hb hby d11_19) _ ?_
    refine st24 _ ?_
    refine XS.iinc X24.here hx rfl (hb hby d11_23) rfl (l' := #[.val (.ref oc), .val (.int 4), .val (.int 4), .val (.ref ob), .val (.int 3)]) rfl ?_
    refine XS.iinc X24.here hx rfl (hb hby d11_26) rfl (l' := #[.val (.ref oc), .val (.int 4), .val (.int 4), .val (.ref ob), .val (.int 4)]) rfl ?_
    refine XS.goto X24.here hx rfl (pc0 := 29) (pc' := 8) rfl (hb hby d11_29) (by decide) (by decide) ?_
    refine XS.iload X24.here hx rfl (hb hby d11_8) rfl ?_
    refine XS.iloadN X24.here hx rfl (hb hby d11_10) rfl ?_
    refine XS.icmpYes X24.here hx rfl (pc0 := 11) (pc' := 32) rfl (hb hby d11_11) rfl (own_flt (a := (4 : Int32)) (b := (4 : Int32)) (by decide) (by decide) hc11_27).2.1 (by decide) (by decide) ?_
    refine XS.aloadN X24.here hx rfl (hb hby d11_32) rfl rfl ?_
    jvm_step X24.here [X24.here.top, hx, (hb hby d11_33), X24.method', Bd.returns, Value.isRef, FieldType.isReference]
    first | (intro acts; rw [hr _ acts rfl rfl rfl]) | rw [hr _ _ rfl rfl rfl]
    exact Steps.refl _
  · show Q_tb4 Z _ _ _ _ _ _ _ _ h0 n0 _ T24.heap _
    have f28 := ((((((Keep.refl h0 []).trans K1 all0).trans K6 (allS (P := fun x => x ∈ [] ∨ h0.size ≤ x) (Or.inr sz_ob) all0)).trans K12 (allS (P := fun x => x ∈ [] ∨ h0.size ≤ x) (Or.inr sz_ob) all0)).trans K18 (allS (P := fun x => x ∈ [] ∨ h0.size ≤ x) (Or.inr sz_ob) all0)).trans K24 (allS (P := fun x => x ∈ [] ∨ h0.size ≤ x) (Or.inr sz_ob) all0))
    exact ⟨ob, kb, lo0, hi0, lo1, hi1, lo2, hi2, lo3, hi3, rfl, N24, f28, gb, sz_ob, Vb24, ql0, qh0, ql1, qh1, ql2, qh2, ql3, qh3⟩
theorem ef_rm_cq4 (m : MethodId) (x0 : Addr) (x2 : Addr) : entryFrame m #[(.ref x0), (.int 0), (.ref x2), (.int 0), (.int 4)] 7 = mkF m 0 #[.val (.ref x0), .val (.int 0), .val (.ref x2), .val (.int 0), .val (.int 4), .unset, .unset] [] := by first | (simp [entryFrame, mkF, argsToLocals, Value.category]; done) | rfl
def Q_cq4 (Z : State) (oc : Addr) (ob : Addr) (kC : ClassId) (c0 : Int32) (c1 : Int32) (c2 : Int32) (c3 : Int32) (kb : ClassId) (h0 : Heap) (n0 : Nat) (v : Option Value) (h : Heap) (L : List Loc) : Prop := Fr n0 L ∧ Keep h0 h [ob] ∧ ((v = some (.int 4) ∧ (c0.toInt ≤ 255 ∧ c1.toInt ≤ 255 ∧ c2.toInt ≤ 255 ∧ c3.toInt ≤ 255) ∧ ∃ bb0 bb1 bb2 bb3 : Int32, Arv Z h ob kb .byte (4 : Int32) [(.int bb0), (.int bb1), (.int bb2), (.int bb3)] (.int 0) ∧ bb0.toInt % 256 = c0.toInt ∧ bb1.toInt % 256 = c1.toInt ∧ bb2.toInt % 256 = c2.toInt ∧ bb3.toInt % 256 = c3.toInt) ∨ (v = some (.int 0) ∧ 255 < c0.toInt ∧ ∃ vs, Arv Z h ob kb .byte (4 : Int32) vs (.int 0)) ∨ (v = some (.int 1) ∧ 255 < c1.toInt ∧ ∃ vs, Arv Z h ob kb .byte (4 : Int32) vs (.int 0)) ∨ (v = some (.int 2) ∧ 255 < c2.toInt ∧ ∃ vs, Arv Z h ob kb .byte (4 : Int32) vs (.int 0)) ∨ (v = some (.int 3) ∧ 255 < c3.toInt ∧ ∃ vs, Arv Z h ob kb .byte (4 : Int32) vs (.int 0)))
theorem rm_cq4 (l : Launch) (Z : State) (a0 : Array Value) (hw : ∀ d ∈ tables_1, d.before a0 Z = true) (ws : List Jvm.Cond) (oc : Addr) (ob : Addr) (kC : ClassId) (c0 : Int32) (c1 : Int32) (c2 : Int32) (c3 : Int32) (kb : ClassId) (h0 : Heap) (n0 : Nat) (Z0 : n0 ≤ h0.size) (Vc : Arv Z h0 oc kC .char (4 : Int32) [(.int c0), (.int c1), (.int c2), (.int c3)] (.int 0)) (uc0 : 0 ≤ c0.toInt) (uc1 : 0 ≤ c1.toInt) (uc2 : 0 ≤ c2.toInt) (uc3 : 0 ≤ c3.toInt) (vc0 : c0.toInt < 65536) (vc1 : c1.toInt < 65536) (vc2 : c2.toInt < 65536) (vc3 : c3.toInt < 65536) (Vb : Arv Z h0 ob kb .byte (4 : Int32) [(.int 0), (.int 0), (.int 0), (.int 0)] (.int 0)) (gb : n0 ≤ ob) (ncb : oc ≠ ob) :
    MetFree l yn8 (head1 (Jvm.Cond.code yn8 jdk_52_method_21_code 7 (some .int) :: ws) ⟨0, 0, 0, 0⟩) (fun a U => a = #[(.ref oc), (.int 0), (.ref ob), (.int 0), (.int 4)] ∧ Z.Warmed39 U.vm ∧ U.heap = h0) (fun _ _ _ _ _ => True) (fun _ U o U' => ∃ v L, o = .returned v ∧ Q_cq4 Z oc ob kC c0 c1 c2 c3 kb h0 n0 v U'.heap L ∧ FrameEnd U o U' L 0 0) := by
  refine MetFree.of_bodySF (plainFor_of_name pn_2) hisR ?_
  intro p e s m args below meth c s₁ Bd hml0 hP hK
  obtain ⟨rfl, hZ, hh⟩ := hP
  have hx := Bd.exec
  have hby := Bd.bytes
  have hml : c.maxLocals = 7 := hml0
  have hown : s.vm.findClass "java/lang/StringUTF16" = some m.cls := findClass_of_methodNamed Bd.named
  have hnm := (name_of_methodNamed Bd.named Bd.method).1
  have X0 : Stand p l e ⟨0, 0, 0, 0⟩ s m #[(.ref oc), (.int 0), (.ref ob), (.int 0), (.int 4)] below meth c s₁ [] 0 0 := Stand.of_body Bd
  have e0 : s₁.heap = h0 := by rw [← hh, Bd.state]; rfl
  have N0 := Fr.nil n0
  have pre0 : oP p e below (s₁.setTop (mkF m 0 #[.val (.ref oc), .val (.int 0), .val (.ref ob), .val (.int 0), .val (.int 4), .unset, .unset] [])) (s₁.setTop (entryFrame m #[(.ref oc), (.int 0), (.ref ob), (.int 0), (.int 4)] 7)) := fun t k => castTop (ef_rm_cq4 m oc ob) k
  have hc7_1 : (0 : Int) < (4 : Int) := by decide
  obtain ⟨cl2, Ar2, q2, S2, M2, H2, G2⟩ := id Vc
  have hin2 : ¬ ((0 : Int32) < 0 ∨ cl2.slots.size ≤ ((0 : Int32)).toNatClampNeg) := inb_of S2 ⟨by decide, by decide⟩
  have hat2 : cl2.slots[((0 : Int32)).toNatClampNeg]? = some (.int c0) := Has.at H2 hin2 rfl
  have pre4 : oP p e below (s₁.setTop (mkF m 20 #[.val (.ref oc), .val (.int 0), .val (.ref ob), .val (.int 0), .val (.int 4), .val (.int 0), .val (.int c0)] [(.int 255), (.int c0)])) (s₁.setTop (entryFrame m #[(.ref oc), (.int 0), (.ref ob), (.int 0), (.int 4)] 7)) := fun t kt => by
    refine pre0 _ ?_
    refine XS.iconst X0.here hx rfl (hb hby d5_0) ?_
    refine XS.istore X0.here hx rfl (hb hby d5_1) rfl (l' := #[.val (.ref oc), .val (.int 0), .val (.ref ob), .val (.int 0), .val (.int 4), .val (.int 0), .unset]) rfl ?_
    refine XS.iload X0.here hx rfl (hb hby d5_3) rfl ?_
    refine XS.iload X0.here hx rfl (hb hby d5_5) rfl ?_
    refine XS.icmpNo X0.here hx rfl (hb hby d5_7) rfl (own_tlt (a := (0 : Int32)) (b := (4 : Int32)) (by decide) (by decide) hc7_1).2.1 ?_
    refine XS.aloadN X0.here hx rfl (hb hby d5_10) rfl rfl ?_
    refine XS.iloadN X0.here hx rfl (hb hby d5_11) rfl ?_
    refine X0.caload hx (j := (0 : Int32)) (v := (.int c0)) (by rw [e0]; exact Ar2.1) (State.isArrayOf_alike hZ.alike Ar2.2.1) Ar2.2.2 hin2 hat2 (g := (mkF m 12 #[.val (.ref oc), .val (.int 0), .val (.ref ob), .val (.int 0), .val (.int 4), .val (.int 0), .unset] [(.int 0), (.ref oc)])) rfl rfl (hb hby d5_12) _ ?_
    refine XS.istore X0.here hx rfl (hb hby d5_13) rfl (l' := #[.val (.ref oc), .val (.int 0), .val (.ref ob), .val (.int 0), .val (.int 4), .val (.int 0), .val (.int c0)]) rfl ?_
    refine XS.iload X0.here hx rfl (hb hby d5_15) rfl ?_
    refine XS.sipush X0.here hx rfl (hb hby d5_17) ?_
    exact kt
  by_cases hc20_3 : (255 : Int) < c0.toInt
  · obtain ⟨fs, hr, q1, q2, q3, q4⟩ := X0.leave (v := some (.int 0)) (fun h => by rw [Bd.returns] at h; cases h)
    refine ⟨_, _, pre4 _ ?_, q1, q2, _, _, rfl, ?_, ⟨_, rfl⟩, q3, q4.mono (by decide) (by decide)⟩
    · show Steps p.tables e below (s₁.setTop (mkF m 20 #[.val (.ref oc), .val (.int 0), .val (.ref ob), .val (.int 0), .val (.int 4), .val (.int 0), .val (.int c0)] [(.int 255), (.int c0)])) _
      refine XS.icmpNo X0.here hx rfl (hb hby d5_20) rfl (own_tlt (a := (255 : Int32)) (b := c0) (by decide) rfl hc20_3).2.2.2 ?_
      refine XS.iload X0.here hx rfl (hb hby d5_23) rfl ?_
      exact retI X0 hx Bd.returns (hb hby d5_25) hr
    · show Q_cq4 Z _ _ _ _ _ _ _ _ h0 n0 _ s₁.heap _
      rw [e0]
      exact ⟨N0, (Keep.refl h0 [ob]), Or.inr (Or.inl ⟨rfl, by omega, _, Vb⟩)⟩
  · obtain ⟨cl5, Ar5, q5, S5, M5, H5, G5⟩ := id Vb
    have hin5 : ¬ ((0 : Int32) < 0 ∨ cl5.slots.size ≤ ((0 : Int32)).toNatClampNeg) := inb_of S5 ⟨by decide, by decide⟩
    obtain ⟨T6, h6, X6, e6, W6, st6⟩ := stB X0 hx hZ e0 Ar5 (j := (0 : Int32)) hin5 (g := (mkF m 31 #[.val (.ref oc), .val (.int 0), .val (.ref ob), .val (.int 0), .val (.int 4), .val (.int 0), .val (.int c0)] [(.int (c0.toInt8.toInt32)), (.int 0), (.ref ob)])) rfl rfl (hb hby d5_31)
    have N6 := Fr.snoc X6 N0 gb
    have Zs7 : n0 ≤ h6.size := by rw [W6.size]; exact Z0
    have V6 : Arv Z h6 ob kb .byte (4 : Int32) [(.int (nar .byte (c0.toInt8.toInt32))), (.int 0), (.int 0), (.int 0)] (.int 0) := Arv.set Ar5 q5 S5 M5 H5 G5 (fits_nar_byte _) W6 0 rfl (Nat.le_of_ble_eq_true rfl)
    have hc7_8 : (1 : Int) < (4 : Int) := by decide
    have f9 := (Vc.other W6 ncb)
    obtain ⟨cl10, Ar10, q10, S10, M10, H10, G10⟩ := id f9
    have hin10 : ¬ ((1 : Int32) < 0 ∨ cl10.slots.size ≤ ((1 : Int32)).toNatClampNeg) := inb_of S10 ⟨by decide, by decide⟩
    have hat10 : cl10.slots[((1 : Int32)).toNatClampNeg]? = some (.int c1) := Has.at H10 hin10 rfl
    have pre12 : oP p e below (T6.setTop (mkF m 20 #[.val (.ref oc), .val (.int 1), .val (.ref ob), .val (.int 1), .val (.int 4), .val (.int 1), .val (.int c1)] [(.int 255), (.int c1)])) (s₁.setTop (entryFrame m #[(.ref oc), (.int 0), (.ref ob), (.int 0), (.int 4)] 7)) := fun t kt => by
      refine pre4 _ ?_
      show Steps p.tables e below (s₁.setTop (mkF m 20 #[.val (.ref oc), .val (.int 0), .val (.ref ob), .val (.int 0), .val (.int 4), .val (.int 0), .val (.int c0)] [(.int 255), (.int c0)])) _
      refine XS.icmpYes X0.here hx rfl (pc0 := 20) (pc' := 26) rfl (hb hby d5_20) rfl (own_flt (a := (255 : Int32)) (b := c0) (by decide) rfl hc20_3).2.2.2 (by decide) (by decide) ?_
      refine XS.aloadN X0.here hx rfl (hb hby d5_26) rfl rfl ?_
      refine XS.iloadN X0.here hx rfl (hb hby d5_27) rfl ?_
      refine XS.iload X0.here hx rfl (hb hby d5_28) rfl ?_
      refine XS.i2b X0.here hx rfl (hb hby d5_30) rfl ?_
      refine st6 _ ?_
      refine XS.iinc X6.here hx rfl (hb hby d5_32) rfl (l' := #[.val (.ref oc), .val (.int 1), .val (.ref ob), .val (.int 0), .val (.int 4), .val (.int 0), .val (.int c0)]) rfl ?_
      show Steps p.tables e below (T6.setTop (mkF m 35 #[.val (.ref oc), .val (.int 1), .val (.ref ob), .val (.int 0), .val (.int 4), .val (.int 0), .val (.int c0)] [])) _
      refine XS.iinc X6.here hx rfl (hb hby d5_35) rfl (l' := #[.val (.ref oc), .val (.int 1), .val (.ref ob), .val (.int 1), .val (.int 4), .val (.int 0), .val (.int c0)]) rfl ?_
      refine XS.iinc X6.here hx rfl (hb hby d5_38) rfl (l' := #[.val (.ref oc), .val (.int 1), .val (.ref ob), .val (.int 1), .val (.int 4), .val (.int 1), .val (.int c0)]) rfl ?_
      refine XS.goto X6.here hx rfl (pc0 := 41) (pc' := 3) rfl (hb hby d5_41) (by decide) (by decide) ?_
      refine XS.iload X6.here hx rfl (hb hby d5_3) rfl ?_
      refine XS.iload X6.here hx rfl (hb hby d5_5) rfl ?_
      refine XS.icmpNo X6.here hx rfl (hb hby d5_7) rfl (own_tlt (a := (1 : Int32)) (b := (4 : Int32)) (by decide) (by decide) hc7_8).2.1 ?_
      refine XS.aloadN X6.here hx rfl (hb hby d5_10) rfl rfl ?_
      refine XS.iloadN X6.here hx rfl (hb hby d5_11) rfl ?_
      refine X6.caload hx (j := (1 : Int32)) (v := (.int c1)) (by rw [e6]; exact Ar10.1) (State.isArrayOf_alike hZ.alike Ar10.2.1) Ar10.2.2 hin10 hat10 (g := (mkF m 12 #[.val (.ref oc), .val (.int 1), .val (.ref ob), .val (.int 1), .val (.int 4), .val (.int 1), .val (.int c0)] [(.int 1), (.ref oc)])) rfl rfl (hb hby d5_12) _ ?_
      refine XS.istore X6.here hx rfl (hb hby d5_13) rfl (l' := #[.val (.ref oc), .val (.int 1), .val (.ref ob), .val (.int 1), .val (.int 4), .val (.int 1), .val (.int c1)]) rfl ?_
      refine XS.iload X6.here hx rfl (hb hby d5_15) rfl ?_
      refine XS.sipush X6.here hx rfl (hb hby d5_17) ?_
      exact kt
    by_cases hc20_11 : (255 : Int) < c1.toInt
    · obtain ⟨fs, hr, q1, q2, q3, q4⟩ := X6.leave (v := some (.int 1)) (fun h => by rw [Bd.returns] at h; cases h)
      refine ⟨_, _, pre12 _ ?_, q1, q2, _, _, rfl, ?_, ⟨_, rfl⟩, q3, q4.mono (by decide) (by decide)⟩
      · show Steps p.tables e below (T6.setTop (mkF m 20 #[.val (.ref oc), .val (.int 1), .val (.ref ob), .val (.int 1), .val (.int 4), .val (.int 1), .val (.int c1)] [(.int 255), (.int c1)])) _
        refine XS.icmpNo X6.here hx rfl (hb hby d5_20) rfl (own_tlt (a := (255 : Int32)) (b := c1) (by decide) rfl hc20_11).2.2.2 ?_
        refine XS.iload X6.here hx rfl (hb hby d5_23) rfl ?_
        exact retI X6 hx Bd.returns (hb hby d5_25) hr
      · show Q_cq4 Z _ _ _ _ _ _ _ _ h0 n0 _ T6.heap _
        rw [e6]
        have f13 := ((Keep.refl h0 [ob]).wr W6 (Or.inl (List.mem_of_getElem? (i := 0) rfl)))
        exact ⟨N6, f13, Or.inr (Or.inr (Or.inl ⟨rfl, by omega, _, V6⟩))⟩
    · obtain ⟨cl14, Ar14, q14, S14, M14, H14, G14⟩ := id V6
      have hin14 : ¬ ((1 : Int32) < 0 ∨ cl14.slots.size ≤ ((1 : Int32)).toNatClampNeg) := inb_of S14 ⟨by decide, by decide⟩
      obtain ⟨T15, h15, X15, e15, W15, st15⟩ := stB X6 hx hZ e6 Ar14 (j := (1 : Int32)) hin14 (g := (mkF m 31 #[.val (.ref oc), .val (.int 1), .val (.ref ob), .val (.int 1), .val (.int 4), .val (.int 1), .val (.int c1)] [(.int (c1.toInt8.toInt32)), (.int 1), (.ref ob)])) rfl rfl (hb hby d5_31)
      have N15 := Fr.snoc X15 N6 gb
      have Zs16 : n0 ≤ h15.size := by rw [W15.size]; exact Zs7
      have V15 : Arv Z h15 ob kb .byte (4 : Int32) [(.int (nar .byte (c0.toInt8.toInt32))), (.int (nar .byte (c1.toInt8.toInt32))), (.int 0), (.int 0)] (.int 0) := Arv.set Ar14 q14 S14 M14 H14 G14 (fits_nar_byte _) W15 1 rfl (Nat.le_of_ble_eq_true rfl)
      have hc7_17 : (2 : Int) < (4 : Int) := by decide
      have f18 := (f9.other W15 ncb)
      obtain ⟨cl19, Ar19, q19, S19, M19, H19, G19⟩ := id f18
      have hin19 : ¬ ((2 : Int32) < 0 ∨ cl19.slots.size ≤ ((2 : Int32)).toNatClampNeg) := inb_of S19 ⟨by decide, by decide⟩
      have hat19 : cl19.slots[((2 : Int32)).toNatClampNeg]? = some (.int c2) := Has.at H19 hin19 rfl
      have pre21 : oP p e below (T15.setTop (mkF m 20 #[.val (.ref oc), .val (.int 2), .val (.ref ob), .val (.int 2), .val (.int 4), .val (.int 2), .val (.int c2)] [(.int 255), (.int c2)])) (s₁.setTop (entryFrame m #[(.ref oc), (.int 0), (.ref ob), (.int 0), (.int 4)] 7)) := fun t kt => by
        refine pre12 _ ?_
        show Steps p.tables e below (T6.setTop (mkF m 20 #[.val (.ref oc), .val (.int 1), .val (.ref ob), .val (.int 1), .val (.int 4), .val (.int 1), .val (.int c1)] [(.int 255), (.int c1)])) _
        refine XS.icmpYes X6.here hx rfl (pc0 := 20) (pc' := 26) rfl (hb hby d5_20) rfl (own_flt (a := (255 : Int32)) (b := c1) (by decide) rfl hc20_11).2.2.2 (by decide) (by decide) ?_
        refine XS.aloadN X6.here hx rfl (hb hby d5_26) rfl rfl ?_
        refine XS.iloadN X6.here hx rfl (hb hby d5_27) rfl ?_
        refine XS.iload X6.here hx rfl (hb hby d5_28) rfl ?_
        refine XS.i2b X6.here hx rfl (hb hby d5_30) rfl ?_
        refine st15 _ ?_
        refine XS.iinc X15.here hx rfl (hb hby d5_32) rfl (l' := #[.val (.ref oc), .val (.int 2), .val (.ref ob), .val (.int 1), .val (.int 4), .val (.int 1), .val (.int c1)]) rfl ?_
        show Steps p.tables e below (T15.setTop (mkF m 35 #[.val (.ref oc), .val (.int 2), .val (.ref ob), .val (.int 1), .val (.int 4), .val (.int 1), .val (.int c1)] [])) _
        refine XS.iinc X15.here hx rfl (hb hby d5_35) rfl (l' := #[.val (.ref oc), .val (.int 2), .val (.ref ob), .val (.int 2), .val (.int 4), .val (.int 1), .val (.int c1)]) rfl ?_
        refine XS.iinc X15.here hx rfl (hb hby d5_38) rfl (l' := #[.val (.ref oc), .val (.int 2), .val (.ref ob), .val (.int 2), .val (.int 4), .val (.int 2), .val (.int c1)]) rfl ?_
        refine XS.goto X15.here hx rfl (pc0 := 41) (pc' := 3) rfl (hb hby d5_41) (by decide) (by decide) ?_
        refine XS.iload X15.here hx rfl (hb hby d5_3) rfl ?_
        refine XS.iload X15.here hx rfl (hb hby d5_5) rfl ?_
        refine XS.icmpNo X15.here hx rfl (hb hby d5_7) rfl (own_tlt (a := (2 : Int32)) (b := (4 : Int32)) (by decide) (by decide) hc7_17).2.1 ?_
        refine XS.aloadN X15.here hx rfl (hb hby d5_10) rfl rfl ?_
        refine XS.iloadN X15.here hx rfl (hb hby d5_11) rfl ?_
        refine X15.caload hx (j := (2 : Int32)) (v := (.int c2)) (by rw [e15]; exact Ar19.1) (State.isArrayOf_alike hZ.alike Ar19.2.1) Ar19.2.2 hin19 hat19 (g := (mkF m 12 #[.val (.ref oc), .val (.int 2), .val (.ref ob), .val (.int 2), .val (.int 4), .val (.int 2), .val (.int c1)] [(.int 2), (.ref oc)])) rfl rfl (hb hby d5_12) _ ?_
        refine XS.istore X15.here hx rfl (hb hby d5_13) rfl (l' := #[.val (.ref oc), .val (.int 2), .val (.ref ob), .val (.int 2), .val (.int 4), .val (.int 2), .val (.int c2)]) rfl ?_
        refine XS.iload X15.here hx rfl (hb hby d5_15) rfl ?_
        refine XS.sipush X15.here hx rfl (hb hby d5_17) ?_
        exact kt
      by_cases hc20_20 : (255 : Int) < c2.toInt
      · obtain ⟨fs, hr, q1, q2, q3, q4⟩ := X15.leave (v := some (.int 2)) (fun h => by rw [Bd.returns] at h; cases h)
        refine ⟨_, _, pre21 _ ?_, q1, q2, _, _, rfl, ?_, ⟨_, rfl⟩, q3, q4.mono (by decide) (by decide)⟩
        · show Steps p.tables e below (T15.setTop (mkF m 20 #[.val (.ref oc), .val (.int 2), .val (.ref ob), .val (.int 2), .val (.int 4), .val (.int 2), .val (.int c2)] [(.int 255), (.int c2)])) _
          refine XS.icmpNo X15.here hx rfl (hb hby d5_20) rfl (own_tlt (a := (255 : Int32)) (b := c2) (by decide) rfl hc20_20).2.2.2 ?_
          refine XS.iload X15.here hx rfl (hb hby d5_23) rfl ?_
          exact retI X15 hx Bd.returns (hb hby d5_25) hr
        · show Q_cq4 Z _ _ _ _ _ _ _ _ h0 n0 _ T15.heap _
          rw [e15]
          have f22 := (((Keep.refl h0 [ob]).wr W6 (Or.inl (List.mem_of_getElem? (i := 0) rfl))).wr W15 (Or.inl (List.mem_of_getElem? (i := 0) rfl)))
          exact ⟨N15, f22, Or.inr (Or.inr (Or.inr (Or.inl ⟨rfl, by omega, _, V15⟩)))⟩
      · obtain ⟨cl23, Ar23, q23, S23, M23, H23, G23⟩ := id V15
        have hin23 : ¬ ((2 : Int32) < 0 ∨ cl23.slots.size ≤ ((2 : Int32)).toNatClampNeg) := inb_of S23 ⟨by decide, by decide⟩
        obtain ⟨T24, h24, X24, e24, W24, st24⟩ := stB X15 hx hZ e15 Ar23 (j := (2 : Int32)) hin23 (g := (mkF m 31 #[.val (.ref oc), .val (.int 2), .val (.ref ob), .val (.int 2), .val (.int 4), .val (.int 2), .val (.int c2)] [(.int (c2.toInt8.toInt32)), (.int 2), (.ref ob)])) rfl rfl (hb hby d5_31)
        have N24 := Fr.snoc X24 N15 gb
        have Zs25 : n0 ≤ h24.size := by rw [W24.size]; exact Zs16
        have V24 : Arv Z h24 ob kb .byte (4 : Int32) [(.int (nar .byte (c0.toInt8.toInt32))), (.int (nar .byte (c1.toInt8.toInt32))), (.int (nar .byte (c2.toInt8.toInt32))), (.int 0)] (.int 0) := Arv.set Ar23 q23 S23 M23 H23 G23 (fits_nar_byte _) W24 2 rfl (Nat.le_of_ble_eq_true rfl)
        have hc7_26 : (3 : Int) < (4 : Int) := by decide
        have f27 := (f18.other W24 ncb)
        obtain ⟨cl28, Ar28, q28, S28, M28, H28, G28⟩ := id f27
        have hin28 : ¬ ((3 : Int32) < 0 ∨ cl28.slots.size ≤ ((3 : Int32)).toNatClampNeg) := inb_of S28 ⟨by decide, by decide⟩
        have hat28 : cl28.slots[((3 : Int32)).toNatClampNeg]? = some (.int c3) := Has.at H28 hin28 rfl
        have pre30 : oP p e below (T24.setTop (mkF m 20 #[.val (.ref oc), .val (.int 3), .val (.ref ob), .val (.int 3), .val (.int 4), .val (.int 3), .val (.int c3)] [(.int 255), (.int c3)])) (s₁.setTop (entryFrame m #[(.ref oc), (.int 0), (.ref ob), (.int 0), (.int 4)] 7)) := fun t kt => by
          refine pre21 _ ?_
          show Steps p.tables e below (T15.setTop (mkF m 20 #[.val (.ref oc), .val (.int 2), .val (.ref ob), .val (.int 2), .val (.int 4), .val (.int 2), .val (.int c2)] [(.int 255), (.int c2)])) _
          refine XS.icmpYes X15.here hx rfl (pc0 := 20) (pc' := 26) rfl (hb hby d5_20) rfl (own_flt (a := (255 : Int32)) (b := c2) (by decide) rfl hc20_20).2.2.2 (by decide) (by decide) ?_
          refine XS.aloadN X15.here hx rfl (hb hby d5_26) rfl rfl ?_
          refine XS.iloadN X15.here hx rfl (hb hby d5_27) rfl ?_
          refine XS.iload X15.here hx rfl (hb hby d5_28) rfl ?_
          refine XS.i2b X15.here hx rfl (hb hby d5_30) rfl ?_
          refine st24 _ ?_
          refine XS.iinc X24.here hx rfl (hb hby d5_32) rfl (l' := #[.val (.ref oc), .val (.int 3), .val (.ref ob), .val (.int 2), .val (.int 4), .val (.int 2), .val (.int c2)]) rfl ?_
          show Steps p.tables e below (T24.setTop (mkF m 35 #[.val (.ref oc), .val (.int 3), .val (.ref ob), .val (.int 2), .val (.int 4), .val (.int 2), .val (.int c2)] [])) _
          refine XS.iinc X24.here hx rfl (hb hby d5_35) rfl (l' := #[.val (.ref oc), .val (.int 3), .val (.ref ob), .val (.int 3), .val (.int 4), .val (.int 2), .val (.int c2)]) rfl ?_
          refine XS.iinc X24.here hx rfl (hb hby d5_38) rfl (l' := #[.val (.ref oc), .val (.int 3), .val (.ref ob), .val (.int 3), .val (.int 4), .val (.int 3), .val (.int c2)]) rfl ?_
          refine XS.goto X24.here hx rfl (pc0 := 41) (pc' := 3) rfl (hb hby d5_41) (by decide) (by decide) ?_
          refine XS.iload X24.here hx rfl (hb hby d5_3) rfl ?_
          refine XS.iload X24.here hx rfl (hb hby d5_5) rfl ?_
          refine XS.icmpNo X24.here hx rfl (hb hby d5_7) rfl (own_tlt (a := (3 : Int32)) (b := (4 : Int32)) (by decide) (by decide) hc7_26).2.1 ?_
          refine XS.aloadN X24.here hx rfl (hb hby d5_10) rfl rfl ?_
          refine XS.iloadN X24.here hx rfl (hb hby d5_11) rfl ?_
          refine X24.caload hx (j := (3 : Int32)) (v := (.int c3)) (by rw [e24]; exact Ar28.1) (State.isArrayOf_alike hZ.alike Ar28.2.1) Ar28.2.2 hin28 hat28 (g := (mkF m 12 #[.val (.ref oc), .val (.int 3), .val (.ref ob), .val (.int 3), .val (.int 4), .val (.int 3), .val (.int c2)] [(.int 3), (.ref oc)])) rfl rfl (hb hby d5_12) _ ?_
          refine XS.istore X24.here hx rfl (hb hby d5_13) rfl (l' := #[.val (.ref oc), .val (.int 3), .val (.ref ob), .val (.int 3), .val (.int 4), .val (.int 3), .val (.int c3)]) rfl ?_
          refine XS.iload X24.here hx rfl (hb hby d5_15) rfl ?_
          refine XS.sipush X24.here hx rfl (hb hby d5_17) ?_
          exact kt
        by_cases hc20_29 : (255 : Int) < c3.toInt
        · obtain ⟨fs, hr, q1, q2, q3, q4⟩ := X24.leave (v := some (.int 3)) (fun h => by rw [Bd.returns] at h; cases h)
          refine ⟨_, _, pre30 _ ?_, q1, q2, _, _, rfl, ?_, ⟨_, rfl⟩, q3, q4.mono (by decide) (by decide)⟩
          · show Steps p.tables e below (T24.setTop (mkF m 20 #[.val (.ref oc), .val (.int 3), .val (.ref ob), .val (.int 3), .val (.int 4), .val (.int 3), .val (.int c3)] [(.int 255), (.int c3)])) _
            refine XS.icmpNo X24.here hx rfl (hb hby d5_20) rfl (own_tlt (a := (255 : Int32)) (b := c3) (by decide) rfl hc20_29).2.2.2 ?_
            refine XS.iload X24.here hx rfl (hb hby d5_23) rfl ?_
            exact retI X24 hx Bd.returns (hb hby d5_25) hr
          · show Q_cq4 Z _ _ _ _ _ _ _ _ h0 n0 _ T24.heap _
            rw [e24]
            have f31 := ((((Keep.refl h0 [ob]).wr W6 (Or.inl (List.mem_of_getElem? (i := 0) rfl))).wr W15 (Or.inl (List.mem_of_getElem? (i := 0) rfl))).wr W24 (Or.inl (List.mem_of_getElem? (i := 0) rfl)))
            exact ⟨N24, f31, Or.inr (Or.inr (Or.inr (Or.inr (⟨rfl, by omega, _, V24⟩))))⟩
        · obtain ⟨cl32, Ar32, q32, S32, M32, H32, G32⟩ := id V24
          have hin32 : ¬ ((3 : Int32) < 0 ∨ cl32.slots.size ≤ ((3 : Int32)).toNatClampNeg) := inb_of S32 ⟨by decide, by decide⟩
          obtain ⟨T33, h33, X33, e33, W33, st33⟩ := stB X24 hx hZ e24 Ar32 (j := (3 : Int32)) hin32 (g := (mkF m 31 #[.val (.ref oc), .val (.int 3), .val (.ref ob), .val (.int 3), .val (.int 4), .val (.int 3), .val (.int c3)] [(.int (c3.toInt8.toInt32)), (.int 3), (.ref ob)])) rfl rfl (hb hby d5_31)
          have N33 := Fr.snoc X33 N24 gb
          have Zs34 : n0 ≤ h33.size := by rw [W33.size]; exact Zs25
          have V33 : Arv Z h33 ob kb .byte (4 : Int32) [(.int (nar .byte (c0.toInt8.toInt32))), (.int (nar .byte (c1.toInt8.toInt32))), (.int (nar .byte (c2.toInt8.toInt32))), (.int (nar .byte (c3.toInt8.toInt32)))] (.int 0) := Arv.set Ar32 q32 S32 M32 H32 G32 (fits_nar_byte _) W33 3 rfl (Nat.le_of_ble_eq_true rfl)
          have hc7_35 : ¬ ((4 : Int) < (4 : Int)) := by decide
          obtain ⟨fs, hr, q1, q2, q3, q4⟩ := X33.leave (v := some (.int 4)) (fun h => by rw [Bd.returns] at h; cases h)
          refine ⟨_, _, pre30 _ ?_, q1, q2, _, _, rfl, ?_, ⟨_, rfl⟩, q3, q4.mono (by decide) (by decide)⟩
          · show Steps p.tables e below (T24.setTop (mkF m 20 #[.val (.ref oc), .val (.int 3), .val (.ref ob), .val (.int 3), .val (.int 4), .val (.int 3), .val (.int c3)] [(.int 255), (.int c3)])) _
            refine XS.icmpYes X24.here hx rfl (pc0 := 20) (pc' := 26) rfl (hb hby d5_20) rfl (own_flt (a := (255 : Int32)) (b := c3) (by decide) rfl hc20_29).2.2.2 (by decide) (by decide) ?_
            refine XS.aloadN X24.here hx rfl (hb hby d5_26) rfl rfl ?_
            refine XS.iloadN X24.here hx rfl (hb hby d5_27) rfl ?_
            refine XS.iload X24.here hx rfl (hb hby d5_28) rfl ?_
            refine XS.i2b X24.here hx rfl (hb hby d5_30) rfl ?_
            refine st33 _ ?_
            refine XS.iinc X33.here hx rfl (hb hby d5_32) rfl (l' := #[.val (.ref oc), .val (.int 4), .val (.ref ob), .val (.int 3), .val (.int 4), .val (.int 3), .val (.int c3)]) rfl ?_
            show Steps p.tables e below (T33.setTop (mkF m 35 #[.val (.ref oc), .val (.int 4), .val (.ref ob), .val (.int 3), .val (.int 4), .val (.int 3), .val (.int c3)] [])) _
            refine XS.iinc X33.here hx rfl (hb hby d5_35) rfl (l' := #[.val (.ref oc), .val (.int 4), .val (.ref ob), .val (.int 4), .val (.int 4), .val (.int 3), .val (.int c3)]) rfl ?_
            refine XS.iinc X33.here hx rfl (hb hby d5_38) rfl (l' := #[.val (.ref oc), .val (.int 4), .val (.ref ob), .val (.int 4), .val (.int 4), .val (.int 4), .val (.int c3)]) rfl ?_
            refine XS.goto X33.here hx rfl (pc0 := 41) (pc' := 3) rfl (hb hby d5_41) (by decide) (by decide) ?_
            refine XS.iload X33.here hx rfl (hb hby d5_3) rfl ?_
            refine XS.iload X33.here hx rfl (hb hby d5_5) rfl ?_
            refine XS.icmpYes X33.here hx rfl (pc0 := 7) (pc' := 44) rfl (hb hby d5_7) rfl (own_flt (a := (4 : Int32)) (b := (4 : Int32)) (by decide) (by decide) hc7_35).2.1 (by decide) (by decide) ?_
            refine XS.iload X33.here hx rfl (hb hby d5_44) rfl ?_
            exact retI X33 hx Bd.returns (hb hby d5_46) hr
          · show Q_cq4 Z _ _ _ _ _ _ _ _ h0 n0 _ T33.heap _
            rw [e33]
            have f36 := (((((Keep.refl h0 [ob]).wr W6 (Or.inl (List.mem_of_getElem? (i := 0) rfl))).wr W15 (Or.inl (List.mem_of_getElem? (i := 0) rfl))).wr W24 (Or.inl (List.mem_of_getElem? (i := 0) rfl))).wr W33 (Or.inl (List.mem_of_getElem? (i := 0) rfl)))
            exact ⟨N33, f36, Or.inl ⟨rfl, ⟨by omega, by omega, by omega, by omega⟩, _, _, _, _, V33, own_b2 c0 uc0 (by omega), own_b2 c1 uc1 (by omega), own_b2 c2 uc2 (by omega), own_b2 c3 uc3 (by omega)⟩⟩
theorem ef_rm_cr4 (m : MethodId) (x0 : Addr) : entryFrame m #[(.ref x0), (.int 0), (.int 4)] 6 = mkF m 0 #[.val (.ref x0), .val (.int 0), .val (.int 4), .unset, .unset, .unset] [] := by first | (simp [entryFrame, mkF, argsToLocals, Value.category]; done) | rfl
def Q_cr4 (Z : State) (oc : Addr) (vcs : Int32) (vf : Value) (kC : ClassId) (c0 : Int32) (c1 : Int32) (c2 : Int32) (c3 : Int32) (h0 : Heap) (n0 : Nat) (v : Option Value) (h : Heap) (L : List Loc) : Prop := ∃ (ob : Addr) (kb : ClassId), v = some (.ref ob) ∧ Fr n0 L ∧ Keep h0 h [] ∧ n0 ≤ ob ∧ h0.size ≤ ob ∧ (((c0.toInt ≤ 255 ∧ c1.toInt ≤ 255 ∧ c2.toInt ≤ 255 ∧ c3.toInt ≤ 255) ∧ ∃ bb0 bb1 bb2 bb3 : Int32, Arv Z h ob kb .byte (4 : Int32) [(.int bb0), (.int bb1), (.int bb2), (.int bb3)] (.int 0) ∧ bb0.toInt % 256 = c0.toInt ∧ bb1.toInt % 256 = c1.toInt ∧ bb2.toInt % 256 = c2.toInt ∧ bb3.toInt % 256 = c3.toInt) ∨ (¬ (c0.toInt ≤ 255 ∧ c1.toInt ≤ 255 ∧ c2.toInt ≤ 255 ∧ c3.toInt ≤ 255) ∧ ∃ lo0 hi0 lo1 hi1 lo2 hi2 lo3 hi3 : Int32, Arv Z h ob kb .byte (8 : Int32) [(.int lo0), (.int hi0), (.int lo1), (.int hi1), (.int lo2), (.int hi2), (.int lo3), (.int hi3)] (.int 0) ∧ lo0.toInt % 256 = c0.toInt % 256 ∧ hi0.toInt % 256 = c0.toInt / 256 ∧ lo1.toInt % 256 = c1.toInt % 256 ∧ hi1.toInt % 256 = c1.toInt / 256 ∧ lo2.toInt % 256 = c2.toInt % 256 ∧ hi2.toInt % 256 = c2.toInt / 256 ∧ lo3.toInt % 256 = c3.toInt % 256 ∧ hi3.toInt % 256 = c3.toInt / 256))
theorem rm_cr4 (l : Launch) (Z : State) (a0 : Array Value) (hw : ∀ d ∈ tables_1, d.before a0 Z = true) (ws : List Jvm.Cond) (oc : Addr) (vcs : Int32) (vf : Value) (kC : ClassId) (c0 : Int32) (c1 : Int32) (c2 : Int32) (c3 : Int32) (h0 : Heap) (n0 : Nat) (Z0 : n0 ≤ h0.size) (Os : own_st Z h0 vcs vf) (Vc : Arv Z h0 oc kC .char (4 : Int32) [(.int c0), (.int c1), (.int c2), (.int c3)] (.int 0)) (uc0 : 0 ≤ c0.toInt) (uc1 : 0 ≤ c1.toInt) (uc2 : 0 ≤ c2.toInt) (uc3 : 0 ≤ c3.toInt) (vc0 : c0.toInt < 65536) (vc1 : c1.toInt < 65536) (vc2 : c2.toInt < 65536) (vc3 : c3.toInt < 65536) :
    MetFree l yn9 (head1 (Jvm.Cond.code yn9 jdk_52_method_16_code 6 (some (.array .byte)) :: ws) ⟨3, 2, 12, 40⟩) (fun a U => a = #[(.ref oc), (.int 0), (.int 4)] ∧ Z.Warmed39 U.vm ∧ U.heap = h0) (fun _ _ _ _ _ => True) (fun _ U o U' => ∃ v L, o = .returned v ∧ Q_cr4 Z oc vcs vf kC c0 c1 c2 c3 h0 n0 v U'.heap L ∧ FrameEnd U o U' L 2 12) := by
  refine MetFree.of_bodySF (plainFor_of_name pn_2) hisR ?_
  intro p e s m args below meth c s₁ Bd hml0 hP hK
  obtain ⟨rfl, hZ, hh⟩ := hP
  have hx := Bd.exec
  have hby := Bd.bytes
  have hml : c.maxLocals = 6 := hml0
  have hown : s.vm.findClass "java/lang/StringUTF16" = some m.cls := findClass_of_methodNamed Bd.named
  have hnm := (name_of_methodNamed Bd.named Bd.method).1
  have X0 : Stand p l e ⟨3, 2, 12, 40⟩ s m #[(.ref oc), (.int 0), (.int 4)] below meth c s₁ [] 0 0 := Stand.of_body Bd
  have e0 : s₁.heap = h0 := by rw [← hh, Bd.state]; rfl
  have N0 := Fr.nil n0
  have pre0 : oP p e below (s₁.setTop (mkF m 0 #[.val (.ref oc), .val (.int 0), .val (.int 4), .unset, .unset, .unset] [])) (s₁.setTop (entryFrame m #[(.ref oc), (.int 0), (.int 4)] 6)) := fun t k => castTop (ef_rm_cr4 m oc) k
  obtain ⟨T1, h1, k1, X1, e1, E1, A1, st1⟩ := newP X0 hx hZ (ow hw 21 rfl) e0 (g := (mkF m 1 #[.val (.ref oc), .val (.int 0), .val (.int 4), .unset, .unset, .unset] [(.int 4)])) rfl (hb hby d4_1) rfl (by decide) (cap := 4) (by decide) (by decide) (by decide) (by decide)
  obtain ⟨b1, g1⟩ : ∃ z, z = h0.size := ⟨_, rfl⟩
  have ne_oc_b1 : oc ≠ b1 := Nat.ne_of_lt (Nat.lt_of_lt_of_le Vc.lt (Nat.le_of_eq g1.symm))
  have g_b1 : n0 ≤ b1 := Nat.le_trans Z0 (Nat.le_of_eq g1.symm)
  have sz_b1 : h0.size ≤ b1 := Nat.le_trans (Keep.refl h0 []).1 (Nat.le_of_eq g1.symm)
  rw [← g1] at A1 st1
  have Zs2 : n0 ≤ h1.size := Nat.le_trans Z0 E1.1
  have V1 : Arv Z h1 b1 k1 .byte (4 : Int32) [(.int 0), (.int 0), (.int 0), (.int 0)] (.int 0) := (Arv.new A1 (by decide)).pad (pad_rep [] (.int 0) 4)
  have f4 := (Vc.ext E1)
  obtain ⟨_, _, ⟨T3, L3, k3, n3⟩, -, X3, ⟨Lc3, hQ3, l3, y3, z3⟩, st3⟩ := Jvm.LawKit.callS X1 hx (y := yn8) hown (mvT hZ (ow hw 22 rfl)) (mvT hZ (ow hw 23 rfl)) (mvT hZ (ow hw 19 rfl)) (mvT hZ (ow hw 24 rfl)) (by decide) (backOf (W := 0) (rm_cq4 l Z a0 hw [] oc b1 kC c0 c1 c2 c3 k1 h1 n0 Zs2 f4 uc0 uc1 uc2 uc3 vc0 vc1 vc2 vc3 V1 g_b1 ne_oc_b1) hZ (ow hw 24 rfl) (ow hw 19 rfl) (by decide) (by decide)) (g := (mkF m 9 #[.val (.ref oc), .val (.int 0), .val (.int 4), .val (.ref b1), .unset, .unset] [(.int 4), (.int 0), (.ref b1), (.int 0), (.ref oc)])) rfl (by rw [hml]; rfl) (argsL := [(.ref oc), (.int 0), (.ref b1), (.int 0), (.int 4)]) (rest := []) (lenOf pd_3 rfl) rfl (by exact Nat.le_of_eq rfl) (hb hby d4_9) (fun _ _ => ⟨rfl, e1, (by decide : 1 + 0 ≤ _), (by decide : 4 + 0 ≤ _)⟩)
  dsimp only [Pt.U, Pt.locs, Pt.cells, Pt.slots] at X3 l3 y3 z3 st3 hQ3
  rw [l3, y3, z3] at X3
  obtain ⟨N3q, K3, hO3⟩ := hQ3
  have N3 := Fr.app N0 N3q
  have Zs5 : n0 ≤ T3.heap.size := Nat.le_trans Zs2 K3.1
  rcases hO3 with ⟨rfl, hall, bb0, bb1, bb2, bb3, VbL, qbb0, qbb1, qbb2, qbb3⟩ | ⟨rfl, hbig, vsP, VbP⟩ | ⟨rfl, hbig, vsP, VbP⟩ | ⟨rfl, hbig, vsP, VbP⟩ | ⟨rfl, hbig, vsP, VbP⟩
  · have own_mk4 := True.intro
    have hc17_6 : (4 : Int) = (4 : Int) := by decide
    obtain ⟨fs, hr, q1, q2, q3, q4⟩ := X3.leave (v := some (.ref b1)) (fun h => by rw [Bd.returns] at h; cases h)
    refine ⟨_, _, pre0 _ ?_, q1, q2, _, _, rfl, ?_, ⟨_, rfl⟩, q3, q4.mono (by decide) (by decide)⟩
    · refine XS.iloadN X0.here hx rfl (hb hby d4_0) rfl ?_
      refine st1 _ ?_
      refine XS.astoreN X1.here hx rfl (hb hby d4_3) rfl rfl (l' := #[.val (.ref oc), .val (.int 0), .val (.int 4), .val (.ref b1), .unset, .unset]) rfl ?_
      refine XS.aloadN X1.here hx rfl (hb hby d4_4) rfl rfl ?_
      refine XS.iloadN X1.here hx rfl (hb hby d4_5) rfl ?_
      refine XS.aloadN X1.here hx rfl (hb hby d4_6) rfl rfl ?_
      refine XS.iconst X1.here hx rfl (hb hby d4_7) ?_
      refine XS.iloadN X1.here hx rfl (hb hby d4_8) rfl ?_
      refine st3 _ ?_
      refine XS.istore X3.here hx rfl (hb hby d4_12) rfl (l' := #[.val (.ref oc), .val (.int 0), .val (.int 4), .val (.ref b1), .val (.int 4), .unset]) rfl ?_
      refine XS.iload X3.here hx rfl (hb hby d4_14) rfl ?_
      refine XS.iloadN X3.here hx rfl (hb hby d4_16) rfl ?_
      refine XS.icmpYes X3.here hx rfl (pc0 := 17) (pc' := 57) rfl (hb hby d4_17) rfl (own_teq (a := (4 : Int32)) (b := (4 : Int32)) (by decide) (by decide) hc17_6).1 (by decide) (by decide) ?_
      refine XS.aloadN X3.here hx rfl (hb hby d4_57) rfl rfl ?_
      jvm_step X3.here [X3.here.top, hx, (hb hby d4_58), X3.method', Bd.returns, Value.isRef, FieldType.isReference]
      first | (intro acts; rw [hr _ acts rfl rfl rfl]) | rw [hr _ _ rfl rfl rfl]
      exact Steps.refl _
    · show Q_cr4 Z _ _ _ _ _ _ _ _ h0 n0 _ T3.heap _
      have f7 := (((Keep.refl h0 []).ext E1).trans K3 (allS (P := fun x => x ∈ [] ∨ h0.size ≤ x) (Or.inr sz_b1) all0))
      exact ⟨b1, _, rfl, N3, f7, g_b1, sz_b1, Or.inl ⟨hall, bb0, bb1, bb2, bb3, VbL, qbb0, qbb1, qbb2, qbb3⟩⟩
  · have own_mk0 := True.intro
    have hc17_8 : ¬ ((0 : Int) = (4 : Int)) := by decide
    have f10 := (f4.keep K3 (ninS ne_oc_b1 nin0))
    have f11 := (((Keep.refl h0 []).ext E1).trans K3 (allS (P := fun x => x ∈ [] ∨ h0.size ≤ x) (Or.inr sz_b1) all0))
    have os12 := (own_st_keep (own_st_ext Os E1) K3 (nsS V1.nostat ns0))
    obtain ⟨_, _, ⟨T9, L9, k9, n9⟩, -, X9, ⟨Lc9, hQ9, l9, y9, z9⟩, st9⟩ := Jvm.LawKit.callS X3 hx (y := yn7) hown (mvT hZ (ow hw 50 rfl)) (mvT hZ (ow hw 51 rfl)) (mvT hZ (ow hw 19 rfl)) (mvT hZ (ow hw 52 rfl)) (by decide) (backOf (W := 0) (rm_tb4 l Z a0 hw [] oc vcs vf kC c0 c1 c2 c3 T3.heap n0 Zs5 os12 f10 uc0 uc1 uc2 uc3 vc0 vc1 vc2 vc3) hZ (ow hw 52 rfl) (ow hw 19 rfl) (by decide) (by decide)) (g := (mkF m 23 #[.val (.ref oc), .val (.int 0), .val (.int 4), .val (.ref b1), .val (.int 0), .unset] [(.int 4), (.int 0), (.ref oc)])) rfl (by rw [hml]; rfl) (argsL := [(.ref oc), (.int 0), (.int 4)]) (rest := []) (lenOf pd_4 rfl) rfl (by exact Nat.le_of_eq rfl) (hb hby d4_23) (fun _ _ => ⟨rfl, rfl, (by decide : 1 + 1 ≤ _), (by decide : 4 + 8 ≤ _)⟩)
    dsimp only [Pt.U, Pt.locs, Pt.cells, Pt.slots] at X9 l9 y9 z9 st9 hQ9
    rw [l9, y9, z9] at X9
    obtain ⟨ou, ku, lo0, hi0, lo1, hi1, lo2, hi2, lo3, hi3, rfl, N9q, K9, gu, szu, Vu9, qlo0, qhi0, qlo1, qhi1, qlo2, qhi2, qlo3, qhi3⟩ := hQ9
    have N9 := Fr.app N3 N9q
    have Zs13 : n0 ≤ T9.heap.size := Nat.le_trans Zs5 K9.1
    have ne_oc_ou : oc ≠ ou := Nat.ne_of_lt (Nat.lt_of_lt_of_le f10.lt szu)
    have ne_b1_ou : b1 ≠ ou := Nat.ne_of_lt (Nat.lt_of_lt_of_le VbP.lt szu)
    have sz_ou : h0.size ≤ ou := Nat.le_trans f11.1 szu
    have os15 := (own_st_keep os12 K9 ns0)
    obtain ⟨_, _, ⟨T14, L14, k14, n14⟩, -, X14, ⟨Lc14, hQ14, l14, y14, z14⟩, st14⟩ := Jvm.LawKit.callS X9 hx (y := yn2) hown (mvT hZ (ow hw 66 rfl)) (mvT hZ (ow hw 67 rfl)) (mvT hZ (ow hw 19 rfl)) (mvT hZ (ow hw 68 rfl)) (by decide) (backOf (W := 0) (rm_gc l Z a0 hw [] ou (0 : Int32) vcs vf ku (8 : Int32) [(.int lo0), (.int hi0), (.int lo1), (.int hi1), (.int lo2), (.int hi2), (.int lo3), (.int hi3)] lo0 hi0 0 T9.heap n0 Zs13 os15 Vu9 (by decide) (by decide) (by decide) rfl rfl) hZ (ow hw 68 rfl) (ow hw 19 rfl) (by decide) (by decide)) (g := (mkF m 32 #[.val (.ref oc), .val (.int 0), .val (.int 4), .val (.ref b1), .val (.int 0), .val (.ref ou)] [(.int 0), (.ref ou)])) rfl (by rw [hml]; rfl) (argsL := [(.ref ou), (.int 0)]) (rest := []) (lenOf pd_5 rfl) rfl (by exact Nat.le_of_eq rfl) (hb hby d4_32) (fun _ _ => ⟨rfl, rfl, (by decide : 2 + 0 ≤ _), (by decide : 12 + 0 ≤ _)⟩)
    dsimp only [Pt.U, Pt.locs, Pt.cells, Pt.slots] at X14 l14 y14 z14 st14 hQ14
    rw [l14, y14, z14] at X14
    obtain ⟨zg, rfl, hzg, N14q, e14⟩ := hQ14
    have N14 := Fr.app N9 N14q
    have hc38_16 : (255 : Int) < zg.toInt := by omega
    obtain ⟨fs, hr, q1, q2, q3, q4⟩ := X14.leave (v := some (.ref ou)) (fun h => by rw [Bd.returns] at h; cases h)
    refine ⟨_, _, pre0 _ ?_, q1, q2, _, _, rfl, ?_, ⟨_, rfl⟩, q3, q4.mono (by decide) (by decide)⟩
    · refine XS.iloadN X0.here hx rfl (hb hby d4_0) rfl ?_
      refine st1 _ ?_
      refine XS.astoreN X1.here hx rfl (hb hby d4_3) rfl rfl (l' := #[.val (.ref oc), .val (.int 0), .val (.int 4), .val (.ref b1), .unset, .unset]) rfl ?_
      refine XS.aloadN X1.here hx rfl (hb hby d4_4) rfl rfl ?_
      refine XS.iloadN X1.here hx rfl (hb hby d4_5) rfl ?_
      refine XS.aloadN X1.here hx rfl (hb hby d4_6) rfl rfl ?_
      refine XS.iconst X1.here hx rfl (hb hby d4_7) ?_
      refine XS.iloadN X1.here hx rfl (hb hby d4_8) rfl ?_
      refine st3 _ ?_
      refine XS.istore X3.here hx rfl (hb hby d4_12) rfl (l' := #[.val (.ref oc), .val (.int 0), .val (.int 4), .val (.ref b1), .val (.int 0), .unset]) rfl ?_
      refine XS.iload X3.here hx rfl (hb hby d4_14) rfl ?_
      refine XS.iloadN X3.here hx rfl (hb hby d4_16) rfl ?_
      refine XS.icmpNo X3.here hx rfl (hb hby d4_17) rfl (own_feq (a := (0 : Int32)) (b := (4 : Int32)) (by decide) (by decide) hc17_8).1 ?_
      refine XS.aloadN X3.here hx rfl (hb hby d4_20) rfl rfl ?_
      refine XS.iloadN X3.here hx rfl (hb hby d4_21) rfl ?_
      refine XS.iloadN X3.here hx rfl (hb hby d4_22) rfl ?_
      refine st9 _ ?_
      refine XS.astore X9.here hx rfl (hb hby d4_26) rfl rfl (l' := #[.val (.ref oc), .val (.int 0), .val (.int 4), .val (.ref b1), .val (.int 0), .val (.ref ou)]) rfl ?_
      refine XS.aload X9.here hx rfl (hb hby d4_28) rfl rfl ?_
      show Steps p.tables e below (T9.setTop (mkF m 30 #[.val (.ref oc), .val (.int 0), .val (.int 4), .val (.ref b1), .val (.int 0), .val (.ref ou)] [(.ref ou)])) _
      refine XS.iload X9.here hx rfl (hb hby d4_30) rfl ?_
      refine st14 _ ?_
      refine XS.sipush X14.here hx rfl (hb hby d4_35) ?_
      refine XS.icmpYes X14.here hx rfl (pc0 := 38) (pc' := 54) rfl (hb hby d4_38) rfl (own_tlt (a := (255 : Int32)) (b := zg) (by decide) rfl hc38_16).2.2.1 (by decide) (by decide) ?_
      refine XS.aload X14.here hx rfl (hb hby d4_54) rfl rfl ?_
      jvm_step X14.here [X14.here.top, hx, (hb hby d4_56), X14.method', Bd.returns, Value.isRef, FieldType.isReference]
      first | (intro acts; rw [hr _ acts rfl rfl rfl]) | rw [hr _ _ rfl rfl rfl]
      exact Steps.refl _
    · show Q_cr4 Z _ _ _ _ _ _ _ _ h0 n0 _ T14.heap _
      rw [e14]
      have f17 := (f11.trans K9 all0)
      exact ⟨ou, _, rfl, N14, f17, gu, sz_ou, Or.inr ⟨fun q => by omega, lo0, hi0, lo1, hi1, lo2, hi2, lo3, hi3, Vu9, qlo0, qhi0, qlo1, qhi1, qlo2, qhi2, qlo3, qhi3⟩⟩
  · have own_mk1 := True.intro
    have hc17_18 : ¬ ((1 : Int) = (4 : Int)) := by decide
    have f20 := (f4.keep K3 (ninS ne_oc_b1 nin0))
    have f21 := (((Keep.refl h0 []).ext E1).trans K3 (allS (P := fun x => x ∈ [] ∨ h0.size ≤ x) (Or.inr sz_b1) all0))
    have os22 := (own_st_keep (own_st_ext Os E1) K3 (nsS V1.nostat ns0))
    obtain ⟨_, _, ⟨T19, L19, k19, n19⟩, -, X19, ⟨Lc19, hQ19, l19, y19, z19⟩, st19⟩ := Jvm.LawKit.callS X3 hx (y := yn7) hown (mvT hZ (ow hw 50 rfl)) (mvT hZ (ow hw 51 rfl)) (mvT hZ (ow hw 19 rfl)) (mvT hZ (ow hw 52 rfl)) (by decide) (backOf (W := 0) (rm_tb4 l Z a0 hw [] oc vcs vf kC c0 c1 c2 c3 T3.heap n0 Zs5 os22 f20 uc0 uc1 uc2 uc3 vc0 vc1 vc2 vc3) hZ (ow hw 52 rfl) (ow hw 19 rfl) (by decide) (by decide)) (g := (mkF m 23 #[.val (.ref oc), .val (.int 0), .val (.int 4), .val (.ref b1), .val (.int 1), .unset] [(.int 4), (.int 0), (.ref oc)])) rfl (by rw [hml]; rfl) (argsL := [(.ref oc), (.int 0), (.int 4)]) (rest := []) (lenOf pd_4 rfl) rfl (by exact Nat.le_of_eq rfl) (hb hby d4_23) (fun _ _ => ⟨rfl, rfl, (by decide : 1 + 1 ≤ _), (by decide : 4 + 8 ≤ _)⟩)
    dsimp only [Pt.U, Pt.locs, Pt.cells, Pt.slots] at X19 l19 y19 z19 st19 hQ19
    rw [l19, y19, z19] at X19
    obtain ⟨ou, ku, lo0, hi0, lo1, hi1, lo2, hi2, lo3, hi3, rfl, N19q, K19, gu, szu, Vu19, qlo0, qhi0, qlo1, qhi1, qlo2, qhi2, qlo3, qhi3⟩ := hQ19
    have N19 := Fr.app N3 N19q
    have Zs23 : n0 ≤ T19.heap.size := Nat.le_trans Zs5 K19.1
    have ne_oc_ou : oc ≠ ou := Nat.ne_of_lt (Nat.lt_of_lt_of_le f20.lt szu)
    have ne_b1_ou : b1 ≠ ou := Nat.ne_of_lt (Nat.lt_of_lt_of_le VbP.lt szu)
    have sz_ou : h0.size ≤ ou := Nat.le_trans f21.1 szu
    have os25 := (own_st_keep os22 K19 ns0)
    obtain ⟨_, _, ⟨T24, L24, k24, n24⟩, -, X24, ⟨Lc24, hQ24, l24, y24, z24⟩, st24⟩ := Jvm.LawKit.callS X19 hx (y := yn2) hown (mvT hZ (ow hw 66 rfl)) (mvT hZ (ow hw 67 rfl)) (mvT hZ (ow hw 19 rfl)) (mvT hZ (ow hw 68 rfl)) (by decide) (backOf (W := 0) (rm_gc l Z a0 hw [] ou (1 : Int32) vcs vf ku (8 : Int32) [(.int lo0), (.int hi0), (.int lo1), (.int hi1), (.int lo2), (.int hi2), (.int lo3), (.int hi3)] lo1 hi1 1 T19.heap n0 Zs23 os25 Vu19 (by decide) (by decide) (by decide) rfl rfl) hZ (ow hw 68 rfl) (ow hw 19 rfl) (by decide) (by decide)) (g := (mkF m 32 #[.val (.ref oc), .val (.int 0), .val (.int 4), .val (.ref b1), .val (.int 1), .val (.ref ou)] [(.int 1), (.ref ou)])) rfl (by rw [hml]; rfl) (argsL := [(.ref ou), (.int 1)]) (rest := []) (lenOf pd_5 rfl) rfl (by exact Nat.le_of_eq rfl) (hb hby d4_32) (fun _ _ => ⟨rfl, rfl, (by decide : 2 + 0 ≤ _), (by decide : 12 + 0 ≤ _)⟩)
    dsimp only [Pt.U, Pt.locs, Pt.cells, Pt.slots] at X24 l24 y24 z24 st24 hQ24
    rw [l24, y24, z24] at X24
    obtain ⟨zg, rfl, hzg, N24q, e24⟩ := hQ24
    have N24 := Fr.app N19 N24q
    have hc38_26 : (255 : Int) < zg.toInt := by omega
    obtain ⟨fs, hr, q1, q2, q3, q4⟩ := X24.leave (v := some (.ref ou)) (fun h => by rw [Bd.returns] at h; cases h)
    refine ⟨_, _, pre0 _ ?_, q1, q2, _, _, rfl, ?_, ⟨_, rfl⟩, q3, q4.mono (by decide) (by decide)⟩
    · refine XS.iloadN X0.here hx rfl (hb hby d4_0) rfl ?_
      refine st1 _ ?_
      refine XS.astoreN X1.here hx rfl (hb hby d4_3) rfl rfl (l' := #[.val (.ref oc), .val (.int 0), .val (.int 4), .val (.ref b1), .unset, .unset]) rfl ?_
      refine XS.aloadN X1.here hx rfl (hb hby d4_4) rfl rfl ?_
      refine XS.iloadN X1.here hx rfl (hb hby d4_5) rfl ?_
      refine XS.aloadN X1.here hx rfl (hb hby d4_6) rfl rfl ?_
      refine XS.iconst X1.here hx rfl (hb hby d4_7) ?_
      refine XS.iloadN X1.here hx rfl (hb hby d4_8) rfl ?_
      refine st3 _ ?_
      refine XS.istore X3.here hx rfl (hb hby d4_12) rfl (l' := #[.val (.ref oc), .val (.int 0), .val (.int 4), .val (.ref b1), .val (.int 1), .unset]) rfl ?_
      refine XS.iload X3.here hx rfl (hb hby d4_14) rfl ?_
      refine XS.iloadN X3.here hx rfl (hb hby d4_16) rfl ?_
      refine XS.icmpNo X3.here hx rfl (hb hby d4_17) rfl (own_feq (a := (1 : Int32)) (b := (4 : Int32)) (by decide) (by decide) hc17_18).1 ?_
      refine XS.aloadN X3.here hx rfl (hb hby d4_20) rfl rfl ?_
      refine XS.iloadN X3.here hx rfl (hb hby d4_21) rfl ?_
      refine XS.iloadN X3.here hx rfl (hb hby d4_22) rfl ?_
      refine st19 _ ?_
      refine XS.astore X19.here hx rfl (hb hby d4_26) rfl rfl (l' := #[.val (.ref oc), .val (.int 0), .val (.int 4), .val (.ref b1), .val (.int 1), .val (.ref ou)]) rfl ?_
      refine XS.aload X19.here hx rfl (hb hby d4_28) rfl rfl ?_
      show Steps p.tables e below (T19.setTop (mkF m 30 #[.val (.ref oc), .val (.int 0), .val (.int 4), .val (.ref b1), .val (.int 1), .val (.ref ou)] [(.ref ou)])) _
      refine XS.iload X19.here hx rfl (hb hby d4_30) rfl ?_
      refine st24 _ ?_
      refine XS.sipush X24.here hx rfl (hb hby d4_35) ?_
      refine XS.icmpYes X24.here hx rfl (pc0 := 38) (pc' := 54) rfl (hb hby d4_38) rfl (own_tlt (a := (255 : Int32)) (b := zg) (by decide) rfl hc38_26).2.2.1 (by decide) (by decide) ?_
      refine XS.aload X24.here hx rfl (hb hby d4_54) rfl rfl ?_
      jvm_step X24.here [X24.here.top, hx, (hb hby d4_56), X24.method', Bd.returns, Value.isRef, FieldType.isReference]
      first | (intro acts; rw [hr _ acts rfl rfl rfl]) | rw [hr _ _ rfl rfl rfl]
      exact Steps.refl _
    · show Q_cr4 Z _ _ _ _ _ _ _ _ h0 n0 _ T24.heap _
      rw [e24]
      have f27 := (f21.trans K19 all0)
      exact ⟨ou, _, rfl, N24, f27, gu, sz_ou, Or.inr ⟨fun q => by omega, lo0, hi0, lo1, hi1, lo2, hi2, lo3, hi3, Vu19, qlo0, qhi0, qlo1, qhi1, qlo2, qhi2, qlo3, qhi3⟩⟩
  · have own_mk2 := True.intro
    have hc17_28 : ¬ ((2 : Int) = (4 : Int)) := by decide
    have f30 := (f4.keep K3 (ninS ne_oc_b1 nin0))
    have f31 := (((Keep.refl h0 []).ext E1).trans K3 (allS (P := fun x => x ∈ [] ∨ h0.size ≤ x) (Or.inr sz_b1) all0))
    have os32 := (own_st_keep (own_st_ext Os E1) K3 (nsS V1.nostat ns0))
    obtain ⟨_, _, ⟨T29, L29, k29, n29⟩, -, X29, ⟨Lc29, hQ29, l29, y29, z29⟩, st29⟩ := Jvm.LawKit.callS X3 hx (y := yn7) hown (mvT hZ (ow hw 50 rfl)) (mvT hZ (ow hw 51 rfl)) (mvT hZ (ow hw 19 rfl)) (mvT hZ (ow hw 52 rfl)) (by decide) (backOf (W := 0) (rm_tb4 l Z a0 hw [] oc vcs vf kC c0 c1 c2 c3 T3.heap n0 Zs5 os32 f30 uc0 uc1 uc2 uc3 vc0 vc1 vc2 vc3) hZ (ow hw 52 rfl) (ow hw 19 rfl) (by decide) (by decide)) (g := (mkF m 23 #[.val (.ref oc), .val (.int 0), .val (.int 4), .val (.ref b1), .val (.int 2), .unset] [(.int 4), (.int 0), (.ref oc)])) rfl (by rw [hml]; rfl) (argsL := [(.ref oc), (.int 0), (.int 4)]) (rest := []) (lenOf pd_4 rfl) rfl (by exact Nat.le_of_eq rfl) (hb hby d4_23) (fun _ _ => ⟨rfl, rfl, (by decide : 1 + 1 ≤ _), (by decide : 4 + 8 ≤ _)⟩)
    dsimp only [Pt.U, Pt.locs, Pt.cells, Pt.slots] at X29 l29 y29 z29 st29 hQ29
    rw [l29, y29, z29] at X29
    obtain ⟨ou, ku, lo0, hi0, lo1, hi1, lo2, hi2, lo3, hi3, rfl, N29q, K29, gu, szu, Vu29, qlo0, qhi0, qlo1, qhi1, qlo2, qhi2, qlo3, qhi3⟩ := hQ29
    have N29 := Fr.app N3 N29q
    have Zs33 : n0 ≤ T29.heap.size := Nat.le_trans Zs5 K29.1
    have ne_oc_ou : oc ≠ ou := Nat.ne_of_lt (Nat.lt_of_lt_of_le f30.lt szu)
    have ne_b1_ou : b1 ≠ ou := Nat.ne_of_lt (Nat.lt_of_lt_of_le VbP.lt szu)
    have sz_ou : h0.size ≤ ou := Nat.le_trans f31.1 szu
    have os35 := (own_st_keep os32 K29 ns0)
    obtain ⟨_, _, ⟨T34, L34, k34, n34⟩, -, X34, ⟨Lc34, hQ34, l34, y34, z34⟩, st34⟩ := Jvm.LawKit.callS X29 hx (y := yn2) hown (mvT hZ (ow hw 66 rfl)) (mvT hZ (ow hw 67 rfl)) (mvT hZ (ow hw 19 rfl)) (mvT hZ (ow hw 68 rfl)) (by decide) (backOf (W := 0) (rm_gc l Z a0 hw [] ou (2 : Int32) vcs vf ku (8 : Int32) [(.int lo0), (.int hi0), (.int lo1), (.int hi1), (.int lo2), (.int hi2), (.int lo3), (.int hi3)] lo2 hi2 2 T29.heap n0 Zs33 os35 Vu29 (by decide) (by decide) (by decide) rfl rfl) hZ (ow hw 68 rfl) (ow hw 19 rfl) (by decide) (by decide)) (g := (mkF m 32 #[.val (.ref oc), .val (.int 0), .val (.int 4), .val (.ref b1), .val (.int 2), .val (.ref ou)] [(.int 2), (.ref ou)])) rfl (by rw [hml]; rfl) (argsL := [(.ref ou), (.int 2)]) (rest := []) (lenOf pd_5 rfl) rfl (by exact Nat.le_of_eq rfl) (hb hby d4_32) (fun _ _ => ⟨rfl, rfl, (by decide : 2 + 0 ≤ _), (by decide : 12 + 0 ≤ _)⟩)
    dsimp only [Pt.U, Pt.locs, Pt.cells, Pt.slots] at X34 l34 y34 z34 st34 hQ34
    rw [l34, y34, z34] at X34
    obtain ⟨zg, rfl, hzg, N34q, e34⟩ := hQ34
    have N34 := Fr.app N29 N34q
    have hc38_36 : (255 : Int) < zg.toInt := by omega
    obtain ⟨fs, hr, q1, q2, q3, q4⟩ := X34.leave (v := some (.ref ou)) (fun h => by rw [Bd.returns] at h; cases h)
    refine ⟨_, _, pre0 _ ?_, q1, q2, _, _, rfl, ?_, ⟨_, rfl⟩, q3, q4.mono (by decide) (by decide)⟩
    · refine XS.iloadN X0.here hx rfl (hb hby d4_0) rfl ?_
      refine st1 _ ?_
      refine XS.astoreN X1.here hx rfl (hb hby d4_3) rfl rfl (l' := #[.val (.ref oc), .val (.int 0), .val (.int 4), .val (.ref b1), .unset, .unset]) rfl ?_
      refine XS.aloadN X1.here hx rfl (hb hby d4_4) rfl rfl ?_
      refine XS.iloadN X1.here hx rfl (hb hby d4_5) rfl ?_
      refine XS.aloadN X1.here hx rfl (hb hby d4_6) rfl rfl ?_
      refine XS.iconst X1.here hx rfl (hb hby d4_7) ?_
      refine XS.iloadN X1.here hx rfl (hb hby d4_8) rfl ?_
      refine st3 _ ?_
      refine XS.istore X3.here hx rfl (hb hby d4_12) rfl (l' := #[.val (.ref oc), .val (.int 0), .val (.int 4), .val (.ref b1), .val (.int 2), .unset]) rfl ?_
      refine XS.iload X3.here hx rfl (hb hby d4_14) rfl ?_
      refine XS.iloadN X3.here hx rfl (hb hby d4_16) rfl ?_
      refine XS.icmpNo X3.here hx rfl (hb hby d4_17) rfl (own_feq (a := (2 : Int32)) (b := (4 : Int32)) (by decide) (by decide) hc17_28).1 ?_
      refine XS.aloadN X3.here hx rfl (hb hby d4_20) rfl rfl ?_
      refine XS.iloadN X3.here hx rfl (hb hby d4_21) rfl ?_
      refine XS.iloadN X3.here hx rfl (hb hby d4_22) rfl ?_
      refine st29 _ ?_
      refine XS.astore X29.here hx rfl (hb hby d4_26) rfl rfl (l' := #[.val (.ref oc), .val (.int 0), .val (.int 4), .val (.ref b1), .val (.int 2), .val (.ref ou)]) rfl ?_
      refine XS.aload X29.here hx rfl (hb hby d4_28) rfl rfl ?_
      show Steps p.tables e below (T29.setTop (mkF m 30 #[.val (.ref oc), .val (.int 0), .val (.int 4), .val (.ref b1), .val (.int 2), .val (.ref ou)] [(.ref ou)])) _
      refine XS.iload X29.here hx rfl (hb hby d4_30) rfl ?_
      refine st34 _ ?_
      refine XS.sipush X34.here hx rfl (hb hby d4_35) ?_
      refine XS.icmpYes X34.here hx rfl (pc0 := 38) (pc' := 54) rfl (hb hby d4_38) rfl (own_tlt (a := (255 : Int32)) (b := zg) (by decide) rfl hc38_36).2.2.1 (by decide) (by decide) ?_
      refine XS.aload X34.here hx rfl (hb hby d4_54) rfl rfl ?_
      jvm_step X34.here [X34.here.top, hx, (hb hby d4_56), X34.method', Bd.returns, Value.isRef, FieldType.isReference]
      first | (intro acts; rw [hr _ acts rfl rfl rfl]) | rw [hr _ _ rfl rfl rfl]
      exact Steps.refl _
    · show Q_cr4 Z _ _ _ _ _ _ _ _ h0 n0 _ T34.heap _
      rw [e34]
      have f37 := (f31.trans K29 all0)
      exact ⟨ou, _, rfl, N34, f37, gu, sz_ou, Or.inr ⟨fun q => by omega, lo0, hi0, lo1, hi1, lo2, hi2, lo3, hi3, Vu29, qlo0, qhi0, qlo1, qhi1, qlo2, qhi2, qlo3, qhi3⟩⟩
  · have own_mk3 := True.intro
    have hc17_38 : ¬ ((3 : Int) = (4 : Int)) := by decide
    have f40 := (f4.keep K3 (ninS ne_oc_b1 nin0))
    have f41 := (((Keep.refl h0 []).ext E1).trans K3 (allS (P := fun x => x ∈ [] ∨ h0.size ≤ x) (Or.inr sz_b1) all0))
    have os42 := (own_st_keep (own_st_ext Os E1) K3 (nsS V1.nostat ns0))
    obtain ⟨_, _, ⟨T39, L39, k39, n39⟩, -, X39, ⟨Lc39, hQ39, l39, y39, z39⟩, st39⟩ := Jvm.LawKit.callS X3 hx (y := yn7) hown (mvT hZ (ow hw 50 rfl)) (mvT hZ (ow hw 51 rfl)) (mvT hZ (ow hw 19 rfl)) (mvT hZ (ow hw 52 rfl)) (by decide) (backOf (W := 0) (rm_tb4 l Z a0 hw [] oc vcs vf kC c0 c1 c2 c3 T3.heap n0 Zs5 os42 f40 uc0 uc1 uc2 uc3 vc0 vc1 vc2 vc3) hZ (ow hw 52 rfl) (ow hw 19 rfl) (by decide) (by decide)) (g := (mkF m 23 #[.val (.ref oc), .val (.int 0), .val (.int 4), .val (.ref b1), .val (.int 3), .unset] [(.int 4), (.int 0), (.ref oc)])) rfl (by rw [hml]; rfl) (argsL := [(.ref oc), (.int 0), (.int 4)]) (rest := []) (lenOf pd_4 rfl) rfl (by exact Nat.le_of_eq rfl) (hb hby d4_23) (fun _ _ => ⟨rfl, rfl, (by decide : 1 + 1 ≤ _), (by decide : 4 + 8 ≤ _)⟩)
    dsimp only [Pt.U, Pt.locs, Pt.cells, Pt.slots] at X39 l39 y39 z39 st39 hQ39
    rw [l39, y39, z39] at X39
    obtain ⟨ou, ku, lo0, hi0, lo1, hi1, lo2, hi2, lo3, hi3, rfl, N39q, K39, gu, szu, Vu39, qlo0, qhi0, qlo1, qhi1, qlo2, qhi2, qlo3, qhi3⟩ := hQ39
    have N39 := Fr.app N3 N39q
    have Zs43 : n0 ≤ T39.heap.size := Nat.le_trans Zs5 K39.1
    have ne_oc_ou : oc ≠ ou := Nat.ne_of_lt (Nat.lt_of_lt_of_le f40.lt szu)
    have ne_b1_ou : b1 ≠ ou := Nat.ne_of_lt (Nat.lt_of_lt_of_le VbP.lt szu)
    have sz_ou : h0.size ≤ ou := Nat.le_trans f41.1 szu
    have os45 := (own_st_keep os42 K39 ns0)
    obtain ⟨_, _, ⟨T44, L44, k44, n44⟩, -, X44, ⟨Lc44, hQ44, l44, y44, z44⟩, st44⟩ := Jvm.LawKit.callS X39 hx (y := yn2) hown (mvT hZ (ow hw 66 rfl)) (mvT hZ (ow hw 67 rfl)) (mvT hZ (ow hw 19 rfl)) (mvT hZ (ow hw 68 rfl)) (by decide) (backOf (W := 0) (rm_gc l Z a0 hw [] ou (3 : Int32) vcs vf ku (8 : Int32) [(.int lo0), (.int hi0), (.int lo1), (.int hi1), (.int lo2), (.int hi2), (.int lo3), (.int hi3)] lo3 hi3 3 T39.heap n0 Zs43 os45 Vu39 (by decide) (by decide) (by decide) rfl rfl) hZ (ow hw 68 rfl) (ow hw 19 rfl) (by decide) (by decide)) (g := (mkF m 32 #[.val (.ref oc), .val (.int 0), .val (.int 4), .val (.ref b1), .val (.int 3), .val (.ref ou)] [(.int 3), (.ref ou)])) rfl (by rw [hml]; rfl) (argsL := [(.ref ou), (.int 3)]) (rest := []) (lenOf pd_5 rfl) rfl (by exact Nat.le_of_eq rfl) (hb hby d4_32) (fun _ _ => ⟨rfl, rfl, (by decide : 2 + 0 ≤ _), (by decide : 12 + 0 ≤ _)⟩)
    dsimp only [Pt.U, Pt.locs, Pt.cells, Pt.slots] at X44 l44 y44 z44 st44 hQ44
    rw [l44, y44, z44] at X44
    obtain ⟨zg, rfl, hzg, N44q, e44⟩ := hQ44
    have N44 := Fr.app N39 N44q
    have hc38_46 : (255 : Int) < zg.toInt := by omega
    obtain ⟨fs, hr, q1, q2, q3, q4⟩ := X44.leave (v := some (.ref ou)) (fun h => by rw [Bd.returns] at h; cases h)
    refine ⟨_, _, pre0 _ ?_, q1, q2, _, _, rfl, ?_, ⟨_, rfl⟩, q3, q4.mono (by decide) (by decide)⟩
    · refine XS.iloadN X0.here hx rfl (hb hby d4_0) rfl ?_
      refine st1 _ ?_
      refine XS.astoreN X1.here hx rfl (hb hby d4_3) rfl rfl (l' := #[.val (.ref oc), .val (.int 0), .val (.int 4), .val (.ref b1), .unset, .unset]) rfl ?_
      refine XS.aloadN X1.here hx rfl (hb hby d4_4) rfl rfl ?_
      refine XS.iloadN X1.here hx rfl (hb hby d4_5) rfl ?_
      refine XS.aloadN X1.here hx rfl (hb hby d4_6) rfl rfl ?_
      refine XS.iconst X1.here hx rfl (hb hby d4_7) ?_
      refine XS.iloadN X1.here hx rfl (hb hby d4_8) rfl ?_
      refine st3 _ ?_
      refine XS.istore X3.here hx rfl (hb hby d4_12) rfl (l' := #[.val (.ref oc), .val (.int 0), .val (.int 4), .val (.ref b1), .val (.int 3), .unset]) rfl ?_
      refine XS.iload X3.here hx rfl (hb hby d4_14) rfl ?_
      refine XS.iloadN X3.here hx rfl (hb hby d4_16) rfl ?_
      refine XS.icmpNo X3.here hx rfl (hb hby d4_17) rfl (own_feq (a := (3 : Int32)) (b := (4 : Int32)) (by decide) (by decide) hc17_38).1 ?_
      refine XS.aloadN X3.here hx rfl (hb hby d4_20) rfl rfl ?_
      refine XS.iloadN X3.here hx rfl (hb hby d4_21) rfl ?_
      refine XS.iloadN X3.here hx rfl (hb hby d4_22) rfl ?_
      refine st39 _ ?_
      refine XS.astore X39.here hx rfl (hb hby d4_26) rfl rfl (l' := #[.val (.ref oc), .val (.int 0), .val (.int 4), .val (.ref b1), .val (.int 3), .val (.ref ou)]) rfl ?_
      refine XS.aload X39.here hx rfl (hb hby d4_28) rfl rfl ?_
      show Steps p.tables e below (T39.setTop (mkF m 30 #[.val (.ref oc), .val (.int 0), .val (.int 4), .val (.ref b1), .val (.int 3), .val (.ref ou)] [(.ref ou)])) _
      refine XS.iload X39.here hx rfl (hb hby d4_30) rfl ?_
      refine st44 _ ?_
      refine XS.sipush X44.here hx rfl (hb hby d4_35) ?_
      refine XS.icmpYes X44.here hx rfl (pc0 := 38) (pc' := 54) rfl (hb hby d4_38) rfl (own_tlt (a := (255 : Int32)) (b := zg) (by decide) rfl hc38_46).2.2.1 (by decide) (by decide) ?_
      refine XS.aload X44.here hx rfl (hb hby d4_54) rfl rfl ?_
      jvm_step X44.here [X44.here.top, hx, (hb hby d4_56), X44.method', Bd.returns, Value.isRef, FieldType.isReference]
      first | (intro acts; rw [hr _ acts rfl rfl rfl]) | rw [hr _ _ rfl rfl rfl]
      exact Steps.refl _
    · show Q_cr4 Z _ _ _ _ _ _ _ _ h0 n0 _ T44.heap _
      rw [e44]
      have f47 := (f41.trans K39 all0)
      exact ⟨ou, _, rfl, N44, f47, gu, sz_ou, Or.inr ⟨fun q => by omega, lo0, hi0, lo1, hi1, lo2, hi2, lo3, hi3, Vu39, qlo0, qhi0, qlo1, qhi1, qlo2, qhi2, qlo3, qhi3⟩⟩
theorem ef_rm_cg4_0 (m : MethodId) (x0 : Addr) : entryFrame m #[(.ref x0), (.int 4)] 2 = mkF m 0 #[.val (.ref x0), .val (.int 4)] [] := by first | (simp [entryFrame, mkF, argsToLocals, Value.category]; done) | rfl
def Q_cg4_0 (Z : State) (ob : Addr) (kb : ClassId) (vs : List Value) (h0 : Heap) (n0 : Nat) (v : Option Value) (h : Heap) (L : List Loc) : Prop := ∃ z : Int32, v = some (.int z) ∧ (z = (0 : Int32)) ∧ Fr n0 L ∧ h = h0
theorem rm_cg4_0 (l : Launch) (Z : State) (a0 : Array Value) (hw : ∀ d ∈ tables_1, d.before a0 Z = true) (ws : List Jvm.Cond) (ob : Addr) (kb : ClassId) (vs : List Value) (h0 : Heap) (n0 : Nat) (Z0 : n0 ≤ h0.size) (Vb : Arv Z h0 ob kb .byte (4 : Int32) vs (.int 0)) :
    MetFree l yn10 (head1 (Jvm.Cond.code yn10 jdk_52_method_15_code 2 (some .byte) :: ws) ⟨0, 0, 0, 0⟩) (fun a U => a = #[(.ref ob), (.int 4)] ∧ Z.Warmed39 U.vm ∧ U.heap = h0) (fun _ _ _ _ _ => True) (fun _ U o U' => ∃ v L, o = .returned v ∧ Q_cg4_0 Z ob kb vs h0 n0 v U'.heap L ∧ FrameEnd U o U' L 0 0) := by
  refine MetFree.of_bodySF (plainFor_of_name pn_2) hisR ?_
  intro p e s m args below meth c s₁ Bd hml0 hP hK
  obtain ⟨rfl, hZ, hh⟩ := hP
  have hx := Bd.exec
  have hby := Bd.bytes
  have hml : c.maxLocals = 2 := hml0
  have hown : s.vm.findClass "java/lang/StringUTF16" = some m.cls := findClass_of_methodNamed Bd.named
  have hnm := (name_of_methodNamed Bd.named Bd.method).1
  have X0 : Stand p l e ⟨0, 0, 0, 0⟩ s m #[(.ref ob), (.int 4)] below meth c s₁ [] 0 0 := Stand.of_body Bd
  have e0 : s₁.heap = h0 := by rw [← hh, Bd.state]; rfl
  have N0 := Fr.nil n0
  have pre0 : oP p e below (s₁.setTop (mkF m 0 #[.val (.ref ob), .val (.int 4)] [])) (s₁.setTop (entryFrame m #[(.ref ob), (.int 4)] 2)) := fun t k => castTop (ef_rm_cg4_0 m ob) k
  obtain ⟨cl1, Ar1, q1, S1, M1, H1, G1⟩ := id Vb
  obtain ⟨fs, hr, q1, q2, q3, q4⟩ := X0.leave (v := some (.int 0)) (fun h => by rw [Bd.returns] at h; cases h)
  refine ⟨_, _, pre0 _ ?_, q1, q2, _, _, rfl, ?_, ⟨_, rfl⟩, q3, q4.mono (by decide) (by decide)⟩
  · refine XS.iloadN X0.here hx rfl (hb hby d6_0) rfl ?_
    refine XS.aloadN X0.here hx rfl (hb hby d6_1) rfl rfl ?_
    refine X0.arraylength hx (by rw [e0]; exact Ar1.1) (State.isArrayOf_alike hZ.alike Ar1.2.1) (g := (mkF m 2 #[.val (.ref ob), .val (.int 4)] [(.ref ob), (.int 4)])) rfl rfl (hb hby d6_2) _ ?_
    rw [len_of S1 M1]
    refine XS.isub X0.here hx rfl (hb hby d6_3) rfl ?_
    refine XS.bipush X0.here hx rfl (hb hby d6_4) ?_
    refine XS.iushr X0.here hx rfl (hb hby d6_6) rfl ?_
    refine XS.i2b X0.here hx rfl (hb hby d6_7) rfl ?_
    exact retN X0 hx (t := .byte) Bd.returns (by simp) (hb hby d6_8) hr
  · show Q_cg4_0 Z _ _ _ h0 n0 _ s₁.heap _
    rw [e0]
    exact ⟨_, rfl, rfl, N0, rfl⟩
theorem ef_rm_cg4_1 (m : MethodId) (x0 : Addr) : entryFrame m #[(.ref x0), (.int 4)] 2 = mkF m 0 #[.val (.ref x0), .val (.int 4)] [] := by first | (simp [entryFrame, mkF, argsToLocals, Value.category]; done) | rfl
def Q_cg4_1 (Z : State) (ob : Addr) (kb : ClassId) (vs : List Value) (h0 : Heap) (n0 : Nat) (v : Option Value) (h : Heap) (L : List Loc) : Prop := ∃ z : Int32, v = some (.int z) ∧ (z = (1 : Int32)) ∧ Fr n0 L ∧ h = h0
theorem rm_cg4_1 (l : Launch) (Z : State) (a0 : Array Value) (hw : ∀ d ∈ tables_1, d.before a0 Z = true) (ws : List Jvm.Cond) (ob : Addr) (kb : ClassId) (vs : List Value) (h0 : Heap) (n0 : Nat) (Z0 : n0 ≤ h0.size) (Vb : Arv Z h0 ob kb .byte (8 : Int32) vs (.int 0)) :
    MetFree l yn10 (head1 (Jvm.Cond.code yn10 jdk_52_method_15_code 2 (some .byte) :: ws) ⟨0, 0, 0, 0⟩) (fun a U => a = #[(.ref ob), (.int 4)] ∧ Z.Warmed39 U.vm ∧ U.heap = h0) (fun _ _ _ _ _ => True) (fun _ U o U' => ∃ v L, o = .returned v ∧ Q_cg4_1 Z ob kb vs h0 n0 v U'.heap L ∧ FrameEnd U o U' L 0 0) := by
  refine MetFree.of_bodySF (plainFor_of_name pn_2) hisR ?_
  intro p e s m args below meth c s₁ Bd hml0 hP hK
  obtain ⟨rfl, hZ, hh⟩ := hP
  have hx := Bd.exec
  have hby := Bd.bytes
  have hml : c.maxLocals = 2 := hml0
  have hown : s.vm.findClass "java/lang/StringUTF16" = some m.cls := findClass_of_methodNamed Bd.named
  have hnm := (name_of_methodNamed Bd.named Bd.method).1
  have X0 : Stand p l e ⟨0, 0, 0, 0⟩ s m #[(.ref ob), (.int 4)] below meth c s₁ [] 0 0 := Stand.of_body Bd
  have e0 : s₁.heap = h0 := by rw [← hh, Bd.state]; rfl
  have N0 := Fr.nil n0
  have pre0 : oP p e below (s₁.setTop (mkF m 0 #[.val (.ref ob), .val (.int 4)] [])) (s₁.setTop (entryFrame m #[(.ref ob), (.int 4)] 2)) := fun t k => castTop (ef_rm_cg4_1 m ob) k
  obtain ⟨cl1, Ar1, q1, S1, M1, H1, G1⟩ := id Vb
  obtain ⟨fs, hr, q1, q2, q3, q4⟩ := X0.leave (v := some (.int 1)) (fun h => by rw [Bd.returns] at h; cases h)
  refine ⟨_, _, pre0 _ ?_, q1, q2, _, _, rfl, ?_, ⟨_, rfl⟩, q3, q4.mono (by decide) (by decide)⟩
  · refine XS.iloadN X0.here hx rfl (hb hby d6_0) rfl ?_
    refine XS.aloadN X0.here hx rfl (hb hby d6_1) rfl rfl ?_
    refine X0.arraylength hx (by rw [e0]; exact Ar1.1) (State.isArrayOf_alike hZ.alike Ar1.2.1) (g := (mkF m 2 #[.val (.ref ob), .val (.int 4)] [(.ref ob), (.int 4)])) rfl rfl (hb hby d6_2) _ ?_
    rw [len_of S1 M1]
    refine XS.isub X0.here hx rfl (hb hby d6_3) rfl ?_
    refine XS.bipush X0.here hx rfl (hb hby d6_4) ?_
    refine XS.iushr X0.here hx rfl (hb hby d6_6) rfl ?_
    refine XS.i2b X0.here hx rfl (hb hby d6_7) rfl ?_
    exact retN X0 hx (t := .byte) Bd.returns (by simp) (hb hby d6_8) hr
  · show Q_cg4_1 Z _ _ _ h0 n0 _ s₁.heap _
    rw [e0]
    exact ⟨_, rfl, rfl, N0, rfl⟩
theorem ef_rm_iw4 (m : MethodId) (x0 : Addr) (x1 : Addr) : entryFrame m #[(.ref x0), (.ref x1), (.int 0), (.int 4), .null] 6 = mkF m 0 #[.val (.ref x0), .val (.ref x1), .val (.int 0), .val (.int 4), .val .null, .unset] [] := by first | (simp [entryFrame, mkF, argsToLocals, Value.category]; done) | rfl
def Q_iw4 (Z : State) (oa : Addr) (oc : Addr) (vcs : Int32) (vf : Value) (kC : ClassId) (c0 : Int32) (c1 : Int32) (c2 : Int32) (c3 : Int32) (h0 : Heap) (n0 : Nat) (v : Option Value) (h : Heap) (L : List Loc) : Prop := v = none ∧ Fr n0 L ∧ Keep h0 h [oa] ∧ Exa Z h oa "java/lang/String" ∧ ∃ (ob : Addr) (kb : ClassId), n0 ≤ ob ∧ h0.size ≤ ob ∧ Fld Z h oa "java/lang/String" "value" "[B" (.ref ob) ∧ ((Fld Z h oa "java/lang/String" "coder" "B" (.int 0) ∧ ((c0.toInt ≤ 255 ∧ c1.toInt ≤ 255 ∧ c2.toInt ≤ 255 ∧ c3.toInt ≤ 255) ∧ ∃ bb0 bb1 bb2 bb3 : Int32, Arv Z h ob kb .byte (4 : Int32) [(.int bb0), (.int bb1), (.int bb2), (.int bb3)] (.int 0) ∧ bb0.toInt % 256 = c0.toInt ∧ bb1.toInt % 256 = c1.toInt ∧ bb2.toInt % 256 = c2.toInt ∧ bb3.toInt % 256 = c3.toInt)) ∨ (Fld Z h oa "java/lang/String" "coder" "B" (.int 1) ∧ (¬ (c0.toInt ≤ 255 ∧ c1.toInt ≤ 255 ∧ c2.toInt ≤ 255 ∧ c3.toInt ≤ 255) ∧ ∃ lo0 hi0 lo1 hi1 lo2 hi2 lo3 hi3 : Int32, Arv Z h ob kb .byte (8 : Int32) [(.int lo0), (.int hi0), (.int lo1), (.int hi1), (.int lo2), (.int hi2), (.int lo3), (.int hi3)] (.int 0) ∧ lo0.toInt % 256 = c0.toInt % 256 ∧ hi0.toInt % 256 = c0.toInt / 256 ∧ lo1.toInt % 256 = c1.toInt % 256 ∧ hi1.toInt % 256 = c1.toInt / 256 ∧ lo2.toInt % 256 = c2.toInt % 256 ∧ hi2.toInt % 256 = c2.toInt / 256 ∧ lo3.toInt % 256 = c3.toInt % 256 ∧ hi3.toInt % 256 = c3.toInt / 256)))
theorem rm_iw4 (l : Launch) (Z : State) (a0 : Array Value) (hw : ∀ d ∈ tables_1, d.before a0 Z = true) (ws : List Jvm.Cond) (oa : Addr) (oc : Addr) (vcs : Int32) (vf : Value) (kC : ClassId) (c0 : Int32) (c1 : Int32) (c2 : Int32) (c3 : Int32) (h0 : Heap) (n0 : Nat) (Z0 : n0 ≤ h0.size) (Os : own_st Z h0 vcs vf) (Es : Exa Z h0 oa "java/lang/String") (Fc : Fld Z h0 oa "java/lang/String" "coder" "B" (.int 0)) (Fv : Fld Z h0 oa "java/lang/String" "value" "[B" .null) (ga : n0 ≤ oa) (nac : oa ≠ oc) (Vc : Arv Z h0 oc kC .char (4 : Int32) [(.int c0), (.int c1), (.int c2), (.int c3)] (.int 0)) (uc0 : 0 ≤ c0.toInt) (uc1 : 0 ≤ c1.toInt) (uc2 : 0 ≤ c2.toInt) (uc3 : 0 ≤ c3.toInt) (vc0 : c0.toInt < 65536) (vc1 : c1.toInt < 65536) (vc2 : c2.toInt < 65536) (vc3 : c3.toInt < 65536) :
    MetFree l yn11 (head1 (Jvm.Cond.code yn11 jdk_42_method_149_code 6 none :: ws) ⟨4, 2, 12, 57⟩) (fun a U => a = #[(.ref oa), (.ref oc), (.int 0), (.int 4), .null] ∧ Z.Warmed39 U.vm ∧ U.heap = h0) (fun _ _ _ _ _ => True) (fun _ U o U' => ∃ v L, o = .returned v ∧ Q_iw4 Z oa oc vcs vf kC c0 c1 c2 c3 h0 n0 v U'.heap L ∧ FrameEnd U o U' L 2 12) := by
  refine MetFree.of_bodySF (plainFor_of_name pn_3) hisR ?_
  intro p e s m args below meth c s₁ Bd hml0 hP hK
  obtain ⟨rfl, hZ, hh⟩ := hP
  have hx := Bd.exec
  have hby := Bd.bytes
  have hml : c.maxLocals = 6 := hml0
  have hown : s.vm.findClass "java/lang/String" = some m.cls := findClass_of_methodNamed Bd.named
  have hnm := (name_of_methodNamed Bd.named Bd.method).1
  have X0 : Stand p l e ⟨4, 2, 12, 57⟩ s m #[(.ref oa), (.ref oc), (.int 0), (.int 4), .null] below meth c s₁ [] 0 0 := Stand.of_body Bd
  have e0 : s₁.heap = h0 := by rw [← hh, Bd.state]; rfl
  have N0 := Fr.nil n0
  have pre0 : oP p e below (s₁.setTop (mkF m 0 #[.val (.ref oa), .val (.ref oc), .val (.int 0), .val (.int 4), .val .null, .unset] [])) (s₁.setTop (entryFrame m #[(.ref oa), (.ref oc), (.int 0), (.int 4), .null] 6)) := fun t k => castTop (ef_rm_iw4 m oa oc) k
  obtain ⟨T1, X1, e1, st1⟩ := initO X0 hx hZ hown (ow hw 13 rfl) (ow hw 14 rfl) (ow hw 15 rfl) e0 (g := (mkF m 1 #[.val (.ref oa), .val (.ref oc), .val (.int 0), .val (.int 4), .val .null, .unset] [(.ref oa)])) rfl (by rw [hml]; rfl) rfl (hb hby d2_1) (by decide) (W := 0) (by exact Nat.le_of_eq rfl) (by decide)
  have hc5_2 : ¬ ((4 : Int) = (0 : Int)) := by decide
  obtain ⟨T3, X3, e3, st3⟩ := getS2 X1 hx hZ hown (host := "") (Or.inl (ow hw 16 rfl)) Via.refl e1 Os.1 (g := (mkF m 27 #[.val (.ref oa), .val (.ref oc), .val (.int 0), .val (.int 4), .val .null, .unset] [])) rfl (hb hby d2_27)
  have hc30_4 : ¬ (vcs.toInt = (0 : Int)) := by (have q := Os.2.1; omega)
  obtain ⟨_, _, ⟨T5, L5, k5, n5⟩, -, X5, ⟨Lc5, hQ5, l5, y5, z5⟩, st5⟩ := Jvm.LawKit.callS X3 hx (y := yn9) hown (mvT hZ (ow hw 17 rfl)) (mvT hZ (ow hw 18 rfl)) (mvT hZ (ow hw 19 rfl)) (mvT hZ (ow hw 20 rfl)) (by decide) (backOf (W := 0) (rm_cr4 l Z a0 hw [] oc vcs vf kC c0 c1 c2 c3 h0 n0 Z0 Os Vc uc0 uc1 uc2 uc3 vc0 vc1 vc2 vc3) hZ (ow hw 20 rfl) (ow hw 19 rfl) (by decide) (by decide)) (g := (mkF m 36 #[.val (.ref oa), .val (.ref oc), .val (.int 0), .val (.int 4), .val .null, .unset] [(.int 4), (.int 0), (.ref oc)])) rfl (by rw [hml]; rfl) (argsL := [(.ref oc), (.int 0), (.int 4)]) (rest := []) (lenOf pd_4 rfl) rfl (by exact Nat.le_of_eq rfl) (hb hby d2_36) (fun _ _ => ⟨rfl, e3, (by decide : 0 + 2 ≤ _), (by decide : 0 + 12 ≤ _)⟩)
  dsimp only [Pt.U, Pt.locs, Pt.cells, Pt.slots] at X5 l5 y5 z5 st5 hQ5
  rw [l5, y5, z5] at X5
  obtain ⟨ob, kb, rfl, N5q, K5, gb, szb, hO5⟩ := hQ5
  have N5 := Fr.app N0 N5q
  have Zs6 : n0 ≤ T5.heap.size := Nat.le_trans Z0 K5.1
  have ne_oa_ob : oa ≠ ob := Nat.ne_of_lt (Nat.lt_of_lt_of_le Es.lt szb)
  have ne_oc_ob : oc ≠ ob := Nat.ne_of_lt (Nat.lt_of_lt_of_le Vc.lt szb)
  have sz_ob : h0.size ≤ ob := Nat.le_trans (Keep.refl h0 [oa]).1 szb
  have pre7 : oP p e below (T5.setTop (mkF m 39 #[.val (.ref oa), .val (.ref oc), .val (.int 0), .val (.int 4), .val .null, .unset] [(.ref ob)])) (s₁.setTop (entryFrame m #[(.ref oa), (.ref oc), (.int 0), (.int 4), .null] 6)) := fun t kt => by
    refine pre0 _ ?_
    refine XS.aloadN X0.here hx rfl (hb hby d2_0) rfl rfl ?_
    refine st1 _ ?_
    refine XS.iloadN X1.here hx rfl (hb hby d2_4) rfl ?_
    refine XS.ifYes X1.here hx rfl (pc0 := 5) (pc' := 27) rfl (hb hby d2_5) rfl (own_if (own_feq (a := (4 : Int32)) (b := (0 : Int32)) (by decide) (by decide) hc5_2).2) (by decide) (by decide) ?_
    refine st3 _ ?_
    refine XS.ifNo X3.here hx rfl (hb hby d2_30) rfl (own_if (own_feq (a := vcs) (b := (0 : Int32)) rfl (by decide) hc30_4).1) ?_
    refine XS.aloadN X3.here hx rfl (hb hby d2_33) rfl rfl ?_
    refine XS.iloadN X3.here hx rfl (hb hby d2_34) rfl ?_
    refine XS.iloadN X3.here hx rfl (hb hby d2_35) rfl ?_
    refine st5 _ ?_
    exact kt
  rcases hO5 with ⟨hall, bb0, bb1, bb2, bb3, VbL, qbb0, qbb1, qbb2, qbb3⟩ | ⟨hall, lo0, hi0, lo1, hi1, lo2, hi2, lo3, hi3, VbU, qlo0, qhi0, qlo1, qhi1, qlo2, qhi2, qlo3, qhi3⟩
  · have own_mL := True.intro
    obtain ⟨_, _, ⟨T8, L8, k8, n8⟩, -, X8, ⟨Lc8, hQ8, l8, y8, z8⟩, st8⟩ := Jvm.LawKit.callS X5 hx (y := yn10) hown (mvT hZ (ow hw 25 rfl)) (mvT hZ (ow hw 26 rfl)) (mvT hZ (ow hw 19 rfl)) (mvT hZ (ow hw 27 rfl)) (by decide) (backOf (W := 1) (rm_cg4_0 l Z a0 hw [] ob kb [(.int bb0), (.int bb1), (.int bb2), (.int bb3)] T5.heap n0 Zs6 VbL) hZ (ow hw 27 rfl) (ow hw 19 rfl) (by decide) (by decide)) (g := (mkF m 45 #[.val (.ref oa), .val (.ref oc), .val (.int 0), .val (.int 4), .val .null, .val (.ref ob)] [(.int 4), (.ref ob), (.ref oa)])) rfl (by rw [hml]; rfl) (argsL := [(.ref ob), (.int 4)]) (rest := [(.ref oa)]) (lenOf pd_6 rfl) rfl (by exact Nat.le_of_eq rfl) (hb hby d2_45) (fun _ _ => ⟨rfl, rfl, (by decide : 2 + 0 ≤ _), (by decide : 12 + 0 ≤ _)⟩)
    dsimp only [Pt.U, Pt.locs, Pt.cells, Pt.slots] at X8 l8 y8 z8 st8 hQ8
    rw [l8, y8, z8] at X8
    obtain ⟨zf, rfl, hzf, N8q, e8⟩ := hQ8
    have N8 := Fr.app N5 N8q
    have pre9 : oP p e below (T8.setTop (mkF m 48 #[.val (.ref oa), .val (.ref oc), .val (.int 0), .val (.int 4), .val .null, .val (.ref ob)] [(.int zf), (.ref oa)])) (s₁.setTop (entryFrame m #[(.ref oa), (.ref oc), (.int 0), (.int 4), .null] 6)) := fun t kt => by
      refine pre7 _ ?_
      refine XS.astore X5.here hx rfl (hb hby d2_39) rfl rfl (l' := #[.val (.ref oa), .val (.ref oc), .val (.int 0), .val (.int 4), .val .null, .val (.ref ob)]) rfl ?_
      refine XS.aloadN X5.here hx rfl (hb hby d2_41) rfl rfl ?_
      refine XS.aload X5.here hx rfl (hb hby d2_42) rfl rfl ?_
      refine XS.iloadN X5.here hx rfl (hb hby d2_44) rfl ?_
      refine st8 _ ?_
      exact kt
    subst hzf
    have pre10 : oP p e below (T8.setTop (mkF m 48 #[.val (.ref oa), .val (.ref oc), .val (.int 0), .val (.int 4), .val .null, .val (.ref ob)] [(.int 0), (.ref oa)])) (s₁.setTop (entryFrame m #[(.ref oa), (.ref oc), (.int 0), (.int 4), .null] 6)) := pre9
    have f11 := (Fc.keep K5 nin0)
    have f12 := (Es.keep K5)
    obtain ⟨T13, h13, X13, e13, W13, st13⟩ := putFN X8 hx hZ hown (ow hw 28 rfl) Via.refl e8 f11 f12 (Or.inr ⟨(ow hw 29 rfl), rfl, hnm⟩) (ow hw 4 rfl) (ty := .byte) (v' := (.int 0)) (by decide) rfl rfl (g := (mkF m 48 #[.val (.ref oa), .val (.ref oc), .val (.int 0), .val (.int 4), .val .null, .val (.ref ob)] [(.int 0), (.ref oa)])) rfl rfl (hb hby d2_48)
    have N13 := Fr.snoc X13 N8 ga
    have Zs14 : n0 ≤ h13.size := by rw [W13.size]; exact Zs6
    have Fw13 := f11.same W13
    have f15 := ((Fv.keep K5 nin0).other W13 (Or.inr (slot_ne (Or.inr (ow hw 31 rfl)) (Or.inr (ow hw 29 rfl)) (by decide) (t := (.array .byte)) (t' := .byte) (by decide) (by decide))))
    have f16 := (f12.wr W13)
    obtain ⟨T17, h17, X17, e17, W17, st17⟩ := putF X13 hx hZ hown (host := "") (Or.inl (ow hw 30 rfl)) Via.refl e13 f15 f16 (Or.inr ⟨(ow hw 31 rfl), rfl, hnm⟩) (ow hw 4 rfl) (ty := (.array .byte)) (by decide) rfl rfl (g := (mkF m 54 #[.val (.ref oa), .val (.ref oc), .val (.int 0), .val (.int 4), .val .null, .val (.ref ob)] [(.ref ob), (.ref oa)])) rfl rfl (hb hby d2_54)
    have N17 := Fr.snoc X17 N13 ga
    have Zs18 : n0 ≤ h17.size := by rw [W17.size]; exact Zs14
    have Fw17 := f15.same W17
    obtain ⟨fs, hr, q1, q2, q3, q4⟩ := X17.leave (v := none) (fun _ => rfl)
    refine ⟨_, _, pre10 _ ?_, q1, q2, _, _, rfl, ?_, ⟨_, rfl⟩, q3, q4.mono (by decide) (by decide)⟩
    · refine st13 _ ?_
      refine XS.aloadN X13.here hx rfl (hb hby d2_51) rfl rfl ?_
      refine XS.aload X13.here hx rfl (hb hby d2_52) rfl rfl ?_
      refine st17 _ ?_
      show Steps p.tables e below (T17.setTop (mkF m 57 #[.val (.ref oa), .val (.ref oc), .val (.int 0), .val (.int 4), .val .null, .val (.ref ob)] [])) _
      exact X17.returnOut hx Bd.returns (hb hby d2_57) hr
    · show Q_iw4 Z _ _ _ _ _ _ _ _ _ h0 n0 _ T17.heap _
      rw [e17]
      have f19 := (Fw13.other W17 (Or.inr (slot_ne (Or.inr (ow hw 29 rfl)) (Or.inr (ow hw 31 rfl)) (by decide) (t := .byte) (t' := (.array .byte)) (by decide) (by decide))))
      have f20 := ((VbL.other W13 (Ne.symm ne_oa_ob)).other W17 (Ne.symm ne_oa_ob))
      have f21 := ((((Keep.refl h0 [oa]).trans K5 all0).wr W13 (Or.inl (List.mem_of_getElem? (i := 0) rfl))).wr W17 (Or.inl (List.mem_of_getElem? (i := 0) rfl)))
      have f22 := (f16.wr W17)
      exact ⟨rfl, N17, f21, f22, ob, kb, gb, sz_ob, Fw17, Or.inl ⟨f19, hall, bb0, bb1, bb2, bb3, f20, qbb0, qbb1, qbb2, qbb3⟩⟩
  · have own_mU := True.intro
    obtain ⟨_, _, ⟨T23, L23, k23, n23⟩, -, X23, ⟨Lc23, hQ23, l23, y23, z23⟩, st23⟩ := Jvm.LawKit.callS X5 hx (y := yn10) hown (mvT hZ (ow hw 25 rfl)) (mvT hZ (ow hw 26 rfl)) (mvT hZ (ow hw 19 rfl)) (mvT hZ (ow hw 27 rfl)) (by decide) (backOf (W := 1) (rm_cg4_1 l Z a0 hw [] ob kb [(.int lo0), (.int hi0), (.int lo1), (.int hi1), (.int lo2), (.int hi2), (.int lo3), (.int hi3)] T5.heap n0 Zs6 VbU) hZ (ow hw 27 rfl) (ow hw 19 rfl) (by decide) (by decide)) (g := (mkF m 45 #[.val (.ref oa), .val (.ref oc), .val (.int 0), .val (.int 4), .val .null, .val (.ref ob)] [(.int 4), (.ref ob), (.ref oa)])) rfl (by rw [hml]; rfl) (argsL := [(.ref ob), (.int 4)]) (rest := [(.ref oa)]) (lenOf pd_6 rfl) rfl (by exact Nat.le_of_eq rfl) (hb hby d2_45) (fun _ _ => ⟨rfl, rfl, (by decide : 2 + 0 ≤ _), (by decide : 12 + 0 ≤ _)⟩)
    dsimp only [Pt.U, Pt.locs, Pt.cells, Pt.slots] at X23 l23 y23 z23 st23 hQ23
    rw [l23, y23, z23] at X23
    obtain ⟨zf, rfl, hzf, N23q, e23⟩ := hQ23
    have N23 := Fr.app N5 N23q
    have pre24 : oP p e below (T23.setTop (mkF m 48 #[.val (.ref oa), .val (.ref oc), .val (.int 0), .val (.int 4), .val .null, .val (.ref ob)] [(.int zf), (.ref oa)])) (s₁.setTop (entryFrame m #[(.ref oa), (.ref oc), (.int 0), (.int 4), .null] 6)) := fun t kt => by
      refine pre7 _ ?_
      refine XS.astore X5.here hx rfl (hb hby d2_39) rfl rfl (l' := #[.val (.ref oa), .val (.ref oc), .val (.int 0), .val (.int 4), .val .null, .val (.ref ob)]) rfl ?_
      refine XS.aloadN X5.here hx rfl (hb hby d2_41) rfl rfl ?_
      refine XS.aload X5.here hx rfl (hb hby d2_42) rfl rfl ?_
      refine XS.iloadN X5.here hx rfl (hb hby d2_44) rfl ?_
      refine st23 _ ?_
      exact kt
    subst hzf
    have pre25 : oP p e below (T23.setTop (mkF m 48 #[.val (.ref oa), .val (.ref oc), .val (.int 0), .val (.int 4), .val .null, .val (.ref ob)] [(.int 1), (.ref oa)])) (s₁.setTop (entryFrame m #[(.ref oa), (.ref oc), (.int 0), (.int 4), .null] 6)) := pre24
    have f26 := (Fc.keep K5 nin0)
    have f27 := (Es.keep K5)
    obtain ⟨T28, h28, X28, e28, W28, st28⟩ := putFN X23 hx hZ hown (ow hw 28 rfl) Via.refl e23 f26 f27 (Or.inr ⟨(ow hw 29 rfl), rfl, hnm⟩) (ow hw 4 rfl) (ty := .byte) (v' := (.int 1)) (by decide) rfl rfl (g := (mkF m 48 #[.val (.ref oa), .val (.ref oc), .val (.int 0), .val (.int 4), .val .null, .val (.ref ob)] [(.int 1), (.ref oa)])) rfl rfl (hb hby d2_48)
    have N28 := Fr.snoc X28 N23 ga
    have Zs29 : n0 ≤ h28.size := by rw [W28.size]; exact Zs6
    have Fw28 := f26.same W28
    have f30 := ((Fv.keep K5 nin0).other W28 (Or.inr (slot_ne (Or.inr (ow hw 31 rfl)) (Or.inr (ow hw 29 rfl)) (by decide) (t := (.array .byte)) (t' := .byte) (by decide) (by decide))))
    have f31 := (f27.wr W28)
    obtain ⟨T32, h32, X32, e32, W32, st32⟩ := putF X28 hx hZ hown (host := "") (Or.inl (ow hw 30 rfl)) Via.refl e28 f30 f31 (Or.inr ⟨(ow hw 31 rfl), rfl, hnm⟩) (ow hw 4 rfl) (ty := (.array .byte)) (by decide) rfl rfl (g := (mkF m 54 #[.val (.ref oa), .val (.ref oc), .val (.int 0), .val (.int 4), .val .null, .val (.ref ob)] [(.ref ob), (.ref oa)])) rfl rfl (hb hby d2_54)
    have N32 := Fr.snoc X32 N28 ga
    have Zs33 : n0 ≤ h32.size := by rw [W32.size]; exact Zs29
    have Fw32 := f30.same W32
    obtain ⟨fs, hr, q1, q2, q3, q4⟩ := X32.leave (v := none) (fun _ => rfl)
    refine ⟨_, _, pre25 _ ?_, q1, q2, _, _, rfl, ?_, ⟨_, rfl⟩, q3, q4.mono (by decide) (by decide)⟩
    · refine st28 _ ?_
      refine XS.aloadN X28.here hx rfl (hb hby d2_51) rfl rfl ?_
      refine XS.aload X28.here hx rfl (hb hby d2_52) rfl rfl ?_
      refine st32 _ ?_
      show Steps p.tables e below (T32.setTop (mkF m 57 #[.val (.ref oa), .val (.ref oc), .val (.int 0), .val (.int 4), .val .null, .val (.ref ob)] [])) _
      exact X32.returnOut hx Bd.returns (hb hby d2_57) hr
    · show Q_iw4 Z _ _ _ _ _ _ _ _ _ h0 n0 _ T32.heap _
      rw [e32]
      have f34 := (Fw28.other W32 (Or.inr (slot_ne (Or.inr (ow hw 29 rfl)) (Or.inr (ow hw 31 rfl)) (by decide) (t := .byte) (t' := (.array .byte)) (by decide) (by decide))))
      have f35 := ((VbU.other W28 (Ne.symm ne_oa_ob)).other W32 (Ne.symm ne_oa_ob))
      have f36 := ((((Keep.refl h0 [oa]).trans K5 all0).wr W28 (Or.inl (List.mem_of_getElem? (i := 0) rfl))).wr W32 (Or.inl (List.mem_of_getElem? (i := 0) rfl)))
      have f37 := (f31.wr W32)
      exact ⟨rfl, N32, f36, f37, ob, kb, gb, sz_ob, Fw32, Or.inr ⟨f34, hall, lo0, hi0, lo1, hi1, lo2, hi2, lo3, hi3, f35, qlo0, qhi0, qlo1, qhi1, qlo2, qhi2, qlo3, qhi3⟩⟩
theorem ef_rm_mu4 (m : MethodId) (x0 : Addr) (x1 : Addr) : entryFrame m #[(.ref x0), (.ref x1)] 2 = mkF m 0 #[.val (.ref x0), .val (.ref x1)] [] := by first | (simp [entryFrame, mkF, argsToLocals, Value.category]; done) | rfl
def Q_mu4 (Z : State) (oa : Addr) (oc : Addr) (vcs : Int32) (vf : Value) (kC : ClassId) (c0 : Int32) (c1 : Int32) (c2 : Int32) (c3 : Int32) (h0 : Heap) (n0 : Nat) (v : Option Value) (h : Heap) (L : List Loc) : Prop := v = none ∧ Fr n0 L ∧ Keep h0 h [oa] ∧ Exa Z h oa "java/lang/String" ∧ ∃ (ob : Addr) (kb : ClassId), n0 ≤ ob ∧ h0.size ≤ ob ∧ Fld Z h oa "java/lang/String" "value" "[B" (.ref ob) ∧ ((Fld Z h oa "java/lang/String" "coder" "B" (.int 0) ∧ ((c0.toInt ≤ 255 ∧ c1.toInt ≤ 255 ∧ c2.toInt ≤ 255 ∧ c3.toInt ≤ 255) ∧ ∃ bb0 bb1 bb2 bb3 : Int32, Arv Z h ob kb .byte (4 : Int32) [(.int bb0), (.int bb1), (.int bb2), (.int bb3)] (.int 0) ∧ bb0.toInt % 256 = c0.toInt ∧ bb1.toInt % 256 = c1.toInt ∧ bb2.toInt % 256 = c2.toInt ∧ bb3.toInt % 256 = c3.toInt)) ∨ (Fld Z h oa "java/lang/String" "coder" "B" (.int 1) ∧ (¬ (c0.toInt ≤ 255 ∧ c1.toInt ≤ 255 ∧ c2.toInt ≤ 255 ∧ c3.toInt ≤ 255) ∧ ∃ lo0 hi0 lo1 hi1 lo2 hi2 lo3 hi3 : Int32, Arv Z h ob kb .byte (8 : Int32) [(.int lo0), (.int hi0), (.int lo1), (.int hi1), (.int lo2), (.int hi2), (.int lo3), (.int hi3)] (.int 0) ∧ lo0.toInt % 256 = c0.toInt % 256 ∧ hi0.toInt % 256 = c0.toInt / 256 ∧ lo1.toInt % 256 = c1.toInt % 256 ∧ hi1.toInt % 256 = c1.toInt / 256 ∧ lo2.toInt % 256 = c2.toInt % 256 ∧ hi2.toInt % 256 = c2.toInt / 256 ∧ lo3.toInt % 256 = c3.toInt % 256 ∧ hi3.toInt % 256 = c3.toInt / 256)))
theorem rm_mu4 (l : Launch) (Z : State) (a0 : Array Value) (hw : ∀ d ∈ tables_1, d.before a0 Z = true) (ws : List Jvm.Cond) (oa : Addr) (oc : Addr) (vcs : Int32) (vf : Value) (kC : ClassId) (c0 : Int32) (c1 : Int32) (c2 : Int32) (c3 : Int32) (h0 : Heap) (n0 : Nat) (Z0 : n0 ≤ h0.size) (Os : own_st Z h0 vcs vf) (Es : Exa Z h0 oa "java/lang/String") (Fc : Fld Z h0 oa "java/lang/String" "coder" "B" (.int 0)) (Fv : Fld Z h0 oa "java/lang/String" "value" "[B" .null) (ga : n0 ≤ oa) (nac : oa ≠ oc) (Vc : Arv Z h0 oc kC .char (4 : Int32) [(.int c0), (.int c1), (.int c2), (.int c3)] (.int 0)) (uc0 : 0 ≤ c0.toInt) (uc1 : 0 ≤ c1.toInt) (uc2 : 0 ≤ c2.toInt) (uc3 : 0 ≤ c3.toInt) (vc0 : c0.toInt < 65536) (vc1 : c1.toInt < 65536) (vc2 : c2.toInt < 65536) (vc3 : c3.toInt < 65536) :
    MetFree l yn12 (head1 (Jvm.Cond.code yn12 jdk_42_method_3_code 2 none :: ws) ⟨5, 2, 12, 74⟩) (fun a U => a = #[(.ref oa), (.ref oc)] ∧ Z.Warmed39 U.vm ∧ U.heap = h0) (fun _ _ _ _ _ => True) (fun _ U o U' => ∃ v L, o = .returned v ∧ Q_mu4 Z oa oc vcs vf kC c0 c1 c2 c3 h0 n0 v U'.heap L ∧ FrameEnd U o U' L 2 12) := by
  refine MetFree.of_bodySF (plainFor_of_name pn_3) hisR ?_
  intro p e s m args below meth c s₁ Bd hml0 hP hK
  obtain ⟨rfl, hZ, hh⟩ := hP
  have hx := Bd.exec
  have hby := Bd.bytes
  have hml : c.maxLocals = 2 := hml0
  have hown : s.vm.findClass "java/lang/String" = some m.cls := findClass_of_methodNamed Bd.named
  have hnm := (name_of_methodNamed Bd.named Bd.method).1
  have X0 : Stand p l e ⟨5, 2, 12, 74⟩ s m #[(.ref oa), (.ref oc)] below meth c s₁ [] 0 0 := Stand.of_body Bd
  have e0 : s₁.heap = h0 := by rw [← hh, Bd.state]; rfl
  have N0 := Fr.nil n0
  have pre0 : oP p e below (s₁.setTop (mkF m 0 #[.val (.ref oa), .val (.ref oc)] [])) (s₁.setTop (entryFrame m #[(.ref oa), (.ref oc)] 2)) := fun t k => castTop (ef_rm_mu4 m oa oc) k
  obtain ⟨cl1, Ar1, q1, S1, M1, H1, G1⟩ := id Vc
  obtain ⟨_, _, ⟨T2, L2, k2, n2⟩, -, X2, ⟨Lc2, hQ2, l2, y2, z2⟩, st2⟩ := X0.specialBack hx (y := yn11) rfl hown (mvT hZ (ow hw 9 rfl)) (mvT hZ (ow hw 10 rfl)) (mvT hZ (ow hw 12 rfl)) (by decide) (backOf (W := 0) (rm_iw4 l Z a0 hw [] oa oc vcs vf kC c0 c1 c2 c3 h0 n0 Z0 Os Es Fc Fv ga nac Vc uc0 uc1 uc2 uc3 vc0 vc1 vc2 vc3) hZ (ow hw 12 rfl) (ow hw 5 rfl) (by decide) (by decide)) (g := (mkF m 6 #[.val (.ref oa), .val (.ref oc)] [.null, (.int 4), (.int 0), (.ref oc), (.ref oa)])) rfl (by rw [hml]; rfl) (Steps.refl _) (a := oa) (argsL := [(.ref oc), (.int 0), (.int 4), .null]) (rest := []) (lenOf pd_7 rfl) rfl (by exact Nat.le_of_eq rfl) (hb hby d1_6) (fun _ _ => ⟨rfl, e0, (by decide : 0 + 2 ≤ _), (by decide : 0 + 12 ≤ _)⟩)
  dsimp only [Pt.U, Pt.locs, Pt.cells, Pt.slots] at X2 l2 y2 z2 st2 hQ2
  rw [l2, y2, z2] at X2
  obtain ⟨rfl, N2q, K2, A2, ob, kb, gb, szb, Fv2, hO2⟩ := hQ2
  have N2 := Fr.app N0 N2q
  have Zs3 : n0 ≤ T2.heap.size := Nat.le_trans Z0 K2.1
  have ne_oa_ob : oa ≠ ob := Nat.ne_of_lt (Nat.lt_of_lt_of_le Es.lt szb)
  have ne_oc_ob : oc ≠ ob := Nat.ne_of_lt (Nat.lt_of_lt_of_le Vc.lt szb)
  have sz_ob : h0.size ≤ ob := Nat.le_trans (Keep.refl h0 [oa]).1 szb
  obtain ⟨fs, hr, q1, q2, q3, q4⟩ := X2.leave (v := none) (fun _ => rfl)
  refine ⟨_, _, pre0 _ ?_, q1, q2, _, _, rfl, ?_, ⟨_, rfl⟩, q3, q4.mono (by decide) (by decide)⟩
  · refine XS.aloadN X0.here hx rfl (hb hby d1_0) rfl rfl ?_
    refine XS.aloadN X0.here hx rfl (hb hby d1_1) rfl rfl ?_
    refine XS.iconst X0.here hx rfl (hb hby d1_2) ?_
    refine XS.aloadN X0.here hx rfl (hb hby d1_3) rfl rfl ?_
    refine X0.arraylength hx (by rw [e0]; exact Ar1.1) (State.isArrayOf_alike hZ.alike Ar1.2.1) (g := (mkF m 4 #[.val (.ref oa), .val (.ref oc)] [(.ref oc), (.int 0), (.ref oc), (.ref oa)])) rfl rfl (hb hby d1_4) _ ?_
    rw [len_of S1 M1]
    refine XS.aconstNull X0.here hx rfl (hb hby d1_5) ?_
    refine st2.trans ?_
    exact X2.returnOut hx Bd.returns (hb hby d1_9) hr
  · show Q_mu4 Z _ _ _ _ _ _ _ _ _ h0 n0 _ T2.heap _
    have f4 := ((Keep.refl h0 [oa]).trans K2 (allS (P := fun x => x ∈ [oa] ∨ h0.size ≤ x) (Or.inl (List.mem_of_getElem? (i := 0) rfl)) all0))
    exact ⟨rfl, N2, f4, A2, ob, kb, gb, sz_ob, Fv2, hO2⟩
theorem d23_0 : decode jdk_41_method_11_code 0 = .ok (.iload_n 0, 1) := by decide +kernel
theorem d23_1 : decode jdk_41_method_11_code 1 = .ok (.ifCond .lt 8, 3) := by decide +kernel
theorem d23_4 : decode jdk_41_method_11_code 4 = .ok (.iload_n 0, 1) := by decide +kernel
theorem d23_5 : decode jdk_41_method_11_code 5 = .ok (.iload_n 1, 1) := by decide +kernel
theorem d23_6 : decode jdk_41_method_11_code 6 = .ok (.if_icmp .lt 10, 3) := by decide +kernel
theorem d23_16 : decode jdk_41_method_11_code 16 = .ok (.iload_n 0, 1) := by decide +kernel
theorem d23_17 : decode jdk_41_method_11_code 17 = .ok (.ireturn, 1) := by decide +kernel
theorem pn_4 : plainName "jdk/internal/util/Preconditions" = true := by first | (simp [plainName, overriddenIn]; done) | decide +kernel
theorem ef_rm_pckN (m : MethodId) (x0 : Int32) (x1 : Int32) : entryFrame m #[(.int x0), (.int x1), .null] 3 = mkF m 0 #[.val (.int x0), .val (.int x1), .val .null] [] := by first | (simp [entryFrame, mkF, argsToLocals, Value.category]; done) | rfl
def Q_pckN (Z : State) (vi : Int32) (vn : Int32) (h0 : Heap) (n0 : Nat) (v : Option Value) (h : Heap) (L : List Loc) : Prop := ∃ z : Int32, v = some (.int z) ∧ (True) ∧ Fr n0 L ∧ h = h0
theorem rm_pckN (l : Launch) (Z : State) (a0 : Array Value) (hw : ∀ d ∈ tables_1, d.before a0 Z = true) (ws : List Jvm.Cond) (vi : Int32) (vn : Int32) (h0 : Heap) (n0 : Nat) (Z0 : n0 ≤ h0.size) (i1 : 0 ≤ vi.toInt) (i2 : vi.toInt < vn.toInt) :
    MetFree l yn13 (head1 (Jvm.Cond.code yn13 jdk_41_method_11_code 3 (some .int) :: ws) ⟨0, 0, 0, 0⟩) (fun a U => a = #[(.int vi), (.int vn), .null] ∧ Z.Warmed39 U.vm ∧ U.heap = h0) (fun _ _ _ _ _ => True) (fun _ U o U' => ∃ v L, o = .returned v ∧ Q_pckN Z vi vn h0 n0 v U'.heap L ∧ FrameEnd U o U' L 0 0) := by
  refine MetFree.of_bodySF (plainFor_of_name pn_4) hisR ?_
  intro p e s m args below meth c s₁ Bd hml0 hP hK
  obtain ⟨rfl, hZ, hh⟩ := hP
  have hx := Bd.exec
  have hby := Bd.bytes
  have hml : c.maxLocals = 3 := hml0
  have hown : s.vm.findClass "jdk/internal/util/Preconditions" = some m.cls := findClass_of_methodNamed Bd.named
  have hnm := (name_of_methodNamed Bd.named Bd.method).1
  have X0 : Stand p l e ⟨0, 0, 0, 0⟩ s m #[(.int vi), (.int vn), .null] below meth c s₁ [] 0 0 := Stand.of_body Bd
  have e0 : s₁.heap = h0 := by rw [← hh, Bd.state]; rfl
  have N0 := Fr.nil n0
  have pre0 : oP p e below (s₁.setTop (mkF m 0 #[.val (.int vi), .val (.int vn), .val .null] [])) (s₁.setTop (entryFrame m #[(.int vi), (.int vn), .null] 3)) := fun t k => castTop (ef_rm_pckN m vi vn) k
  have hc1_1 : ¬ (vi.toInt < (0 : Int)) := by omega
  have hc6_2 : vi.toInt < vn.toInt := by omega
  obtain ⟨fs, hr, q1, q2, q3, q4⟩ := X0.leave (v := some (.int vi)) (fun h => by rw [Bd.returns] at h; cases h)
  refine ⟨_, _, pre0 _ ?_, q1, q2, _, _, rfl, ?_, ⟨_, rfl⟩, q3, q4.mono (by decide) (by decide)⟩
  · refine XS.iloadN X0.here hx rfl (hb hby d23_0) rfl ?_
    refine XS.ifNo X0.here hx rfl (hb hby d23_1) rfl (own_if (own_flt (a := vi) (b := (0 : Int32)) rfl (by decide) hc1_1).1) ?_
    refine XS.iloadN X0.here hx rfl (hb hby d23_4) rfl ?_
    refine XS.iloadN X0.here hx rfl (hb hby d23_5) rfl ?_
    refine XS.icmpYes X0.here hx rfl (pc0 := 6) (pc' := 16) rfl (hb hby d23_6) rfl (own_tlt (a := vi) (b := vn) rfl rfl hc6_2).1 (by decide) (by decide) ?_
    refine XS.iloadN X0.here hx rfl (hb hby d23_16) rfl ?_
    exact retI X0 hx Bd.returns (hb hby d23_17) hr
  · show Q_pckN Z _ _ h0 n0 _ s₁.heap _
    rw [e0]
    exact ⟨_, rfl, trivial, N0, rfl⟩
theorem ef_rm_pckR (m : MethodId) (x0 : Int32) (x1 : Int32) (x2 : Addr) : entryFrame m #[(.int x0), (.int x1), (.ref x2)] 3 = mkF m 0 #[.val (.int x0), .val (.int x1), .val (.ref x2)] [] := by first | (simp [entryFrame, mkF, argsToLocals, Value.category]; done) | rfl
def Q_pckR (Z : State) (vi : Int32) (vn : Int32) (wf : Addr) (h0 : Heap) (n0 : Nat) (v : Option Value) (h : Heap) (L : List Loc) : Prop := ∃ z : Int32, v = some (.int z) ∧ (True) ∧ Fr n0 L ∧ h = h0
theorem rm_pckR (l : Launch) (Z : State) (a0 : Array Value) (hw : ∀ d ∈ tables_1, d.before a0 Z = true) (ws : List Jvm.Cond) (vi : Int32) (vn : Int32) (wf : Addr) (h0 : Heap) (n0 : Nat) (Z0 : n0 ≤ h0.size) (i1 : 0 ≤ vi.toInt) (i2 : vi.toInt < vn.toInt) :
    MetFree l yn13 (head1 (Jvm.Cond.code yn13 jdk_41_method_11_code 3 (some .int) :: ws) ⟨0, 0, 0, 0⟩) (fun a U => a = #[(.int vi), (.int vn), (.ref wf)] ∧ Z.Warmed39 U.vm ∧ U.heap = h0) (fun _ _ _ _ _ => True) (fun _ U o U' => ∃ v L, o = .returned v ∧ Q_pckR Z vi vn wf h0 n0 v U'.heap L ∧ FrameEnd U o U' L 0 0) := by
  refine MetFree.of_bodySF (plainFor_of_name pn_4) hisR ?_
  intro p e s m args below meth c s₁ Bd hml0 hP hK
  obtain ⟨rfl, hZ, hh⟩ := hP
  have hx := Bd.exec
  have hby := Bd.bytes
  have hml : c.maxLocals = 3 := hml0
  have hown : s.vm.findClass "jdk/internal/util/Preconditions" = some m.cls := findClass_of_methodNamed Bd.named
  have hnm := (name_of_methodNamed Bd.named Bd.method).1
  have X0 : Stand p l e ⟨0, 0, 0, 0⟩ s m #[(.int vi), (.int vn), (.ref wf)] below meth c s₁ [] 0 0 := Stand.of_body Bd
  have e0 : s₁.heap = h0 := by rw [← hh, Bd.state]; rfl
  have N0 := Fr.nil n0
  have pre0 : oP p e below (s₁.setTop (mkF m 0 #[.val (.int vi), .val (.int vn), .val (.ref wf)] [])) (s₁.setTop (entryFrame m #[(.int vi), (.int vn), (.ref wf)] 3)) := fun t k => castTop (ef_rm_pckR m vi vn wf) k
  have hc1_1 : ¬ (vi.toInt < (0 : Int)) := by omega
  have hc6_2 : vi.toInt < vn.toInt := by omega
  obtain ⟨fs, hr, q1, q2, q3, q4⟩ := X0.leave (v := some (.int vi)) (fun h => by rw [Bd.returns] at h; cases h)
  refine ⟨_, _, pre0 _ ?_, q1, q2, _, _, rfl, ?_, ⟨_, rfl⟩, q3, q4.mono (by decide) (by decide)⟩
  · refine XS.iloadN X0.here hx rfl (hb hby d23_0) rfl ?_
    refine XS.ifNo X0.here hx rfl (hb hby d23_1) rfl (own_if (own_flt (a := vi) (b := (0 : Int32)) rfl (by decide) hc1_1).1) ?_
    refine XS.iloadN X0.here hx rfl (hb hby d23_4) rfl ?_
    refine XS.iloadN X0.here hx rfl (hb hby d23_5) rfl ?_
    refine XS.icmpYes X0.here hx rfl (pc0 := 6) (pc' := 16) rfl (hb hby d23_6) rfl (own_tlt (a := vi) (b := vn) rfl rfl hc6_2).1 (by decide) (by decide) ?_
    refine XS.iloadN X0.here hx rfl (hb hby d23_16) rfl ?_
    exact retI X0 hx Bd.returns (hb hby d23_17) hr
  · show Q_pckR Z _ _ _ h0 n0 _ s₁.heap _
    rw [e0]
    exact ⟨_, rfl, trivial, N0, rfl⟩
theorem d22_0 : decode jdk_42_method_155_code 0 = .ok (.iload_n 0, 1) := by decide +kernel
theorem d22_1 : decode jdk_42_method_155_code 1 = .ok (.iload_n 1, 1) := by decide +kernel
theorem d22_2 : decode jdk_42_method_155_code 2 = .ok (.getstatic 1053, 3) := by decide +kernel
theorem d22_5 : decode jdk_42_method_155_code 5 = .ok (.invokestatic 1059, 3) := by decide +kernel
theorem d22_8 : decode jdk_42_method_155_code 8 = .ok (.pop, 1) := by decide +kernel
theorem d22_9 : decode jdk_42_method_155_code 9 = .ok (.return_, 1) := by decide +kernel
theorem ef_rm22 (m : MethodId) (x0 : Int32) (x1 : Int32) : entryFrame m #[(.int x0), (.int x1)] 2 = mkF m 0 #[.val (.int x0), .val (.int x1)] [] := by first | (simp [entryFrame, mkF, argsToLocals, Value.category]; done) | rfl
theorem pd_8 : parseMethodDescriptor "(IILjava/util/function/BiFunction;)I" = some ⟨[.int, .int, (.object "java/util/function/BiFunction")], some .int⟩ := by decide +kernel
def Q22 (Z : State) (vi : Int32) (vn : Int32) (vcs : Int32) (vf : Value) (h0 : Heap) (n0 : Nat) (v : Option Value) (h : Heap) (L : List Loc) : Prop := v = none ∧ Fr n0 L ∧ h = h0
theorem rm22 (l : Launch) (Z : State) (a0 : Array Value) (hw : ∀ d ∈ tables_1, d.before a0 Z = true) (ws : List Jvm.Cond) (vi : Int32) (vn : Int32) (vcs : Int32) (vf : Value) (h0 : Heap) (n0 : Nat) (Z0 : n0 ≤ h0.size) (Os : own_st Z h0 vcs vf) (i1 : 0 ≤ vi.toInt) (i2 : vi.toInt < vn.toInt) :
    MetFree l yn14 (head1 (Jvm.Cond.code yn14 jdk_42_method_155_code 2 none :: ws) ⟨1, 0, 0, 14⟩) (fun a U => a = #[(.int vi), (.int vn)] ∧ Z.Warmed39 U.vm ∧ U.heap = h0) (fun _ _ _ _ _ => True) (fun _ U o U' => ∃ v L, o = .returned v ∧ Q22 Z vi vn vcs vf h0 n0 v U'.heap L ∧ FrameEnd U o U' L 0 0) := by
  refine MetFree.of_bodySF (plainFor_of_name pn_3) hisR ?_
  intro p e s m args below meth c s₁ Bd hml0 hP hK
  obtain ⟨rfl, hZ, hh⟩ := hP
  have hx := Bd.exec
  have hby := Bd.bytes
  have hml : c.maxLocals = 2 := hml0
  have hown : s.vm.findClass "java/lang/String" = some m.cls := findClass_of_methodNamed Bd.named
  have hnm := (name_of_methodNamed Bd.named Bd.method).1
  have X0 : Stand p l e ⟨1, 0, 0, 14⟩ s m #[(.int vi), (.int vn)] below meth c s₁ [] 0 0 := Stand.of_body Bd
  have e0 : s₁.heap = h0 := by rw [← hh, Bd.state]; rfl
  have N0 := Fr.nil n0
  have pre0 : oP p e below (s₁.setTop (mkF m 0 #[.val (.int vi), .val (.int vn)] [])) (s₁.setTop (entryFrame m #[(.int vi), (.int vn)] 2)) := fun t k => castTop (ef_rm22 m vi vn) k
  obtain ⟨T1, X1, e1, st1⟩ := getS2 X0 hx hZ hown (host := "") (Or.inl (ow hw 94 rfl)) Via.refl e0 Os.2.2.1 (g := (mkF m 2 #[.val (.int vi), .val (.int vn)] [(.int vn), (.int vi)])) rfl (hb hby d22_2)
  have pre2 : oP p e below (T1.setTop (mkF m 5 #[.val (.int vi), .val (.int vn)] [vf, (.int vn), (.int vi)])) (s₁.setTop (entryFrame m #[(.int vi), (.int vn)] 2)) := fun t kt => by
    refine pre0 _ ?_
    refine XS.iloadN X0.here hx rfl (hb hby d22_0) rfl ?_
    refine XS.iloadN X0.here hx rfl (hb hby d22_1) rfl ?_
    refine st1 _ ?_
    exact kt
  rcases ref_cases (Os.2.2.2.1) with rfl | ⟨wf, rfl⟩
  · have pre3 : oP p e below (T1.setTop (mkF m 5 #[.val (.int vi), .val (.int vn)] [.null, (.int vn), (.int vi)])) (s₁.setTop (entryFrame m #[(.int vi), (.int vn)] 2)) := pre2
    obtain ⟨_, _, ⟨T4, L4, k4, n4⟩, -, X4, ⟨Lc4, hQ4, l4, y4, z4⟩, st4⟩ := Jvm.LawKit.callS X1 hx (y := yn13) hown (mvT hZ (ow hw 96 rfl)) (mvT hZ (ow hw 97 rfl)) (mvT hZ (ow hw 95 rfl)) (mvT hZ (ow hw 98 rfl)) (by decide) (backOf (W := 0) (rm_pckN l Z a0 hw [] vi vn h0 n0 Z0 i1 i2) hZ (ow hw 98 rfl) (ow hw 95 rfl) (by decide) (by decide)) (g := (mkF m 5 #[.val (.int vi), .val (.int vn)] [.null, (.int vn), (.int vi)])) rfl (by rw [hml]; rfl) (argsL := [(.int vi), (.int vn), .null]) (rest := []) (lenOf pd_8 rfl) rfl (by exact Nat.le_of_eq rfl) (hb hby d22_5) (fun _ _ => ⟨rfl, e1, (by decide : 0 + 0 ≤ _), (by decide : 0 + 0 ≤ _)⟩)
    dsimp only [Pt.U, Pt.locs, Pt.cells, Pt.slots] at X4 l4 y4 z4 st4 hQ4
    rw [l4, y4, z4] at X4
    obtain ⟨zk, rfl, hzk, N4q, e4⟩ := hQ4
    have N4 := Fr.app N0 N4q
    obtain ⟨fs, hr, q1, q2, q3, q4⟩ := X4.leave (v := none) (fun _ => rfl)
    refine ⟨_, _, pre3 _ ?_, q1, q2, _, _, rfl, ?_, ⟨_, rfl⟩, q3, q4.mono (by decide) (by decide)⟩
    · refine st4 _ ?_
      refine XS.pop X4.here hx rfl (hb hby d22_8) rfl rfl ?_
      exact X4.returnOut hx Bd.returns (hb hby d22_9) hr
    · show Q22 Z _ _ _ _ h0 n0 _ T4.heap _
      rw [e4]
      exact ⟨rfl, N4, rfl⟩
  · have pre5 : oP p e below (T1.setTop (mkF m 5 #[.val (.int vi), .val (.int vn)] [(.ref wf), (.int vn), (.int vi)])) (s₁.setTop (entryFrame m #[(.int vi), (.int vn)] 2)) := pre2
    obtain ⟨_, _, ⟨T6, L6, k6, n6⟩, -, X6, ⟨Lc6, hQ6, l6, y6, z6⟩, st6⟩ := Jvm.LawKit.callS X1 hx (y := yn13) hown (mvT hZ (ow hw 96 rfl)) (mvT hZ (ow hw 97 rfl)) (mvT hZ (ow hw 95 rfl)) (mvT hZ (ow hw 98 rfl)) (by decide) (backOf (W := 0) (rm_pckR l Z a0 hw [] vi vn wf h0 n0 Z0 i1 i2) hZ (ow hw 98 rfl) (ow hw 95 rfl) (by decide) (by decide)) (g := (mkF m 5 #[.val (.int vi), .val (.int vn)] [(.ref wf), (.int vn), (.int vi)])) rfl (by rw [hml]; rfl) (argsL := [(.int vi), (.int vn), (.ref wf)]) (rest := []) (lenOf pd_8 rfl) rfl (by exact Nat.le_of_eq rfl) (hb hby d22_5) (fun _ _ => ⟨rfl, e1, (by decide : 0 + 0 ≤ _), (by decide : 0 + 0 ≤ _)⟩)
    dsimp only [Pt.U, Pt.locs, Pt.cells, Pt.slots] at X6 l6 y6 z6 st6 hQ6
    rw [l6, y6, z6] at X6
    obtain ⟨zk, rfl, hzk, N6q, e6⟩ := hQ6
    have N6 := Fr.app N0 N6q
    obtain ⟨fs, hr, q1, q2, q3, q4⟩ := X6.leave (v := none) (fun _ => rfl)
    refine ⟨_, _, pre5 _ ?_, q1, q2, _, _, rfl, ?_, ⟨_, rfl⟩, q3, q4.mono (by decide) (by decide)⟩
    · refine st6 _ ?_
      refine XS.pop X6.here hx rfl (hb hby d22_8) rfl rfl ?_
      exact X6.returnOut hx Bd.returns (hb hby d22_9) hr
    · show Q22 Z _ _ _ _ h0 n0 _ T6.heap _
      rw [e6]
      exact ⟨rfl, N6, rfl⟩
theorem d18_0 : decode jdk_42_method_154_code 0 = .ok (.getstatic 38, 3) := by decide +kernel
theorem d18_3 : decode jdk_42_method_154_code 3 = .ok (.ifCond .eq 14, 3) := by decide +kernel
theorem d18_6 : decode jdk_42_method_154_code 6 = .ok (.aload_n 0, 1) := by decide +kernel
theorem d18_7 : decode jdk_42_method_154_code 7 = .ok (.getfield 15, 3) := by decide +kernel
theorem d18_10 : decode jdk_42_method_154_code 10 = .ok (.ifCond .ne 7, 3) := by decide +kernel
theorem d18_13 : decode jdk_42_method_154_code 13 = .ok (.iconst 1, 1) := by decide +kernel
theorem d18_14 : decode jdk_42_method_154_code 14 = .ok (.goto 4, 3) := by decide +kernel
theorem d18_18 : decode jdk_42_method_154_code 18 = .ok (.ireturn, 1) := by decide +kernel
theorem ef_rm_lat0 (m : MethodId) (x0 : Addr) : entryFrame m #[(.ref x0)] 1 = mkF m 0 #[.val (.ref x0)] [] := by first | (simp [entryFrame, mkF, argsToLocals, Value.category]; done) | rfl
def Q_lat0 (Z : State) (oa : Addr) (vcs : Int32) (vf : Value) (h0 : Heap) (n0 : Nat) (v : Option Value) (h : Heap) (L : List Loc) : Prop := ∃ z : Int32, v = some (.int z) ∧ (z = (1 : Int32)) ∧ Fr n0 L ∧ h = h0
theorem rm_lat0 (l : Launch) (Z : State) (a0 : Array Value) (hw : ∀ d ∈ tables_1, d.before a0 Z = true) (ws : List Jvm.Cond) (oa : Addr) (vcs : Int32) (vf : Value) (h0 : Heap) (n0 : Nat) (Z0 : n0 ≤ h0.size) (Os : own_st Z h0 vcs vf) (Fc : Fld Z h0 oa "java/lang/String" "coder" "B" (.int 0)) :
    MetFree l yn15 (head1 (Jvm.Cond.code yn15 jdk_42_method_154_code 1 (some .boolean) :: ws) ⟨0, 0, 0, 0⟩) (fun a U => a = #[(.ref oa)] ∧ Z.Warmed39 U.vm ∧ U.heap = h0) (fun _ _ _ _ _ => True) (fun _ U o U' => ∃ v L, o = .returned v ∧ Q_lat0 Z oa vcs vf h0 n0 v U'.heap L ∧ FrameEnd U o U' L 0 0) := by
  refine MetFree.of_bodySF (plainFor_of_name pn_3) hisR ?_
  intro p e s m args below meth c s₁ Bd hml0 hP hK
  obtain ⟨rfl, hZ, hh⟩ := hP
  have hx := Bd.exec
  have hby := Bd.bytes
  have hml : c.maxLocals = 1 := hml0
  have hown : s.vm.findClass "java/lang/String" = some m.cls := findClass_of_methodNamed Bd.named
  have hnm := (name_of_methodNamed Bd.named Bd.method).1
  have X0 : Stand p l e ⟨0, 0, 0, 0⟩ s m #[(.ref oa)] below meth c s₁ [] 0 0 := Stand.of_body Bd
  have e0 : s₁.heap = h0 := by rw [← hh, Bd.state]; rfl
  have N0 := Fr.nil n0
  have pre0 : oP p e below (s₁.setTop (mkF m 0 #[.val (.ref oa)] [])) (s₁.setTop (entryFrame m #[(.ref oa)] 1)) := fun t k => castTop (ef_rm_lat0 m oa) k
  obtain ⟨T1, X1, e1, st1⟩ := getS2 X0 hx hZ hown (host := "") (Or.inl (ow hw 16 rfl)) Via.refl e0 Os.1 (g := (mkF m 0 #[.val (.ref oa)] [])) rfl (hb hby d18_0)
  have hc3_2 : ¬ (vcs.toInt = (0 : Int)) := by (have q := Os.2.1; omega)
  obtain ⟨T3, X3, e3, st3⟩ := getF X1 hx hZ hown (host := "") (Or.inl (ow hw 28 rfl)) Via.refl e1 Fc (g := (mkF m 7 #[.val (.ref oa)] [(.ref oa)])) rfl rfl (hb hby d18_7)
  have hc10_4 : (0 : Int) = (0 : Int) := by decide
  obtain ⟨fs, hr, q1, q2, q3, q4⟩ := X3.leave (v := some (.int 1)) (fun h => by rw [Bd.returns] at h; cases h)
  refine ⟨_, _, pre0 _ ?_, q1, q2, _, _, rfl, ?_, ⟨_, rfl⟩, q3, q4.mono (by decide) (by decide)⟩
  · refine st1 _ ?_
    refine XS.ifNo X1.here hx rfl (hb hby d18_3) rfl (own_if (own_feq (a := vcs) (b := (0 : Int32)) rfl (by decide) hc3_2).1) ?_
    refine XS.aloadN X1.here hx rfl (hb hby d18_6) rfl rfl ?_
    refine st3 _ ?_
    refine XS.ifNo X3.here hx rfl (hb hby d18_10) rfl (own_if (own_teq (a := (0 : Int32)) (b := (0 : Int32)) (by decide) (by decide) hc10_4).2) ?_
    refine XS.iconst X3.here hx rfl (hb hby d18_13) ?_
    refine XS.goto X3.here hx rfl (pc0 := 14) (pc' := 18) rfl (hb hby d18_14) (by decide) (by decide) ?_
    exact retN X3 hx (t := .boolean) Bd.returns (by simp) (hb hby d18_18) hr
  · show Q_lat0 Z _ _ _ h0 n0 _ T3.heap _
    rw [e3]
    exact ⟨_, rfl, rfl, N0, rfl⟩
theorem d25_0 : decode jdk_43_method_2_code 0 = .ok (.iload_n 1, 1) := by decide +kernel
theorem d25_1 : decode jdk_43_method_2_code 1 = .ok (.aload_n 0, 1) := by decide +kernel
theorem d25_2 : decode jdk_43_method_2_code 2 = .ok (.arraylength, 1) := by decide +kernel
theorem d25_3 : decode jdk_43_method_2_code 3 = .ok (.invokestatic 9, 3) := by decide +kernel
theorem d25_6 : decode jdk_43_method_2_code 6 = .ok (.aload_n 0, 1) := by decide +kernel
theorem d25_7 : decode jdk_43_method_2_code 7 = .ok (.iload_n 1, 1) := by decide +kernel
theorem d25_8 : decode jdk_43_method_2_code 8 = .ok (.baload, 1) := by decide +kernel
theorem d25_9 : decode jdk_43_method_2_code 9 = .ok (.sipush 255, 3) := by decide +kernel
theorem d25_12 : decode jdk_43_method_2_code 12 = .ok (.iand, 1) := by decide +kernel
theorem d25_13 : decode jdk_43_method_2_code 13 = .ok (.i2c, 1) := by decide +kernel
theorem d25_14 : decode jdk_43_method_2_code 14 = .ok (.ireturn, 1) := by decide +kernel
theorem pn_5 : plainName "java/lang/StringLatin1" = true := by first | (simp [plainName, overriddenIn]; done) | decide +kernel
theorem ef_rm_l1ch (m : MethodId) (x0 : Addr) (x1 : Int32) : entryFrame m #[(.ref x0), (.int x1)] 2 = mkF m 0 #[.val (.ref x0), .val (.int x1)] [] := by first | (simp [entryFrame, mkF, argsToLocals, Value.category]; done) | rfl
theorem pd_9 : parseMethodDescriptor "(II)V" = some ⟨[.int, .int], none⟩ := by decide +kernel
def Q_l1ch (Z : State) (ob : Addr) (vi : Int32) (vcs : Int32) (vf : Value) (kb : ClassId) (zl : Int32) (vs : List Value) (b : Int32) (h0 : Heap) (n0 : Nat) (v : Option Value) (h : Heap) (L : List Loc) : Prop := ∃ z : Int32, v = some (.int z) ∧ (z.toInt = b.toInt % 256) ∧ Fr n0 L ∧ h = h0
theorem rm_l1ch (l : Launch) (Z : State) (a0 : Array Value) (hw : ∀ d ∈ tables_1, d.before a0 Z = true) (ws : List Jvm.Cond) (ob : Addr) (vi : Int32) (vcs : Int32) (vf : Value) (kb : ClassId) (zl : Int32) (vs : List Value) (b : Int32) (h0 : Heap) (n0 : Nat) (Z0 : n0 ≤ h0.size) (Os : own_st Z h0 vcs vf) (Vb : Arv Z h0 ob kb .byte zl vs (.int 0)) (i1 : 0 ≤ vi.toInt) (i2 : vi.toInt < zl.toInt) (gb : vs.getD vi.toNatClampNeg (.int 0) = .int b) :
    MetFree l yn16 (head1 (Jvm.Cond.code yn16 jdk_43_method_2_code 2 (some .char) :: ws) ⟨2, 0, 0, 27⟩) (fun a U => a = #[(.ref ob), (.int vi)] ∧ Z.Warmed39 U.vm ∧ U.heap = h0) (fun _ _ _ _ _ => True) (fun _ U o U' => ∃ v L, o = .returned v ∧ Q_l1ch Z ob vi vcs vf kb zl vs b h0 n0 v U'.heap L ∧ FrameEnd U o U' L 0 0) := by
  refine MetFree.of_bodySF (plainFor_of_name pn_5) hisR ?_
  intro p e s m args below meth c s₁ Bd hml0 hP hK
  obtain ⟨rfl, hZ, hh⟩ := hP
  have hx := Bd.exec
  have hby := Bd.bytes
  have hml : c.maxLocals = 2 := hml0
  have hown : s.vm.findClass "java/lang/StringLatin1" = some m.cls := findClass_of_methodNamed Bd.named
  have hnm := (name_of_methodNamed Bd.named Bd.method).1
  have X0 : Stand p l e ⟨2, 0, 0, 27⟩ s m #[(.ref ob), (.int vi)] below meth c s₁ [] 0 0 := Stand.of_body Bd
  have e0 : s₁.heap = h0 := by rw [← hh, Bd.state]; rfl
  have N0 := Fr.nil n0
  have pre0 : oP p e below (s₁.setTop (mkF m 0 #[.val (.ref ob), .val (.int vi)] [])) (s₁.setTop (entryFrame m #[(.ref ob), (.int vi)] 2)) := fun t k => castTop (ef_rm_l1ch m ob vi) k
  obtain ⟨cl1, Ar1, q1, S1, M1, H1, G1⟩ := id Vb
  obtain ⟨_, _, ⟨T2, L2, k2, n2⟩, -, X2, ⟨Lc2, hQ2, l2, y2, z2⟩, st2⟩ := Jvm.LawKit.callS X0 hx (y := yn14) hown (mvT hZ (ow hw 106 rfl)) (mvT hZ (ow hw 92 rfl)) (mvT hZ (ow hw 5 rfl)) (mvT hZ (ow hw 93 rfl)) (by decide) (backOf (W := 0) (rm22 l Z a0 hw [] vi zl vcs vf h0 n0 Z0 Os i1 i2) hZ (ow hw 93 rfl) (ow hw 5 rfl) (by decide) (by decide)) (g := (mkF m 3 #[.val (.ref ob), .val (.int vi)] [(.int zl), (.int vi)])) rfl (by rw [hml]; rfl) (argsL := [(.int vi), (.int zl)]) (rest := []) (lenOf pd_9 rfl) rfl (by exact Nat.le_of_eq rfl) (hb hby d25_3) (fun _ _ => ⟨rfl, e0, (by decide : 0 + 0 ≤ _), (by decide : 0 + 0 ≤ _)⟩)
  dsimp only [Pt.U, Pt.locs, Pt.cells, Pt.slots] at X2 l2 y2 z2 st2 hQ2
  rw [l2, y2, z2] at X2
  obtain ⟨rfl, N2q, e2⟩ := hQ2
  have N2 := Fr.app N0 N2q
  obtain ⟨cl3, Ar3, q3, S3, M3, H3, G3⟩ := id Vb
  have hin3 : ¬ (vi < 0 ∨ cl3.slots.size ≤ (vi).toNatClampNeg) := inb_of S3 ⟨by rw [Int32.lt_iff_toInt_lt]; have k0 : (0 : Int32).toInt = 0 := (by decide); omega, by rw [Int32.lt_iff_toInt_lt]; omega⟩
  have hat3 : cl3.slots[(vi).toNatClampNeg]? = some (.int b) := Has.at H3 hin3 gb
  obtain ⟨fs, hr, q1, q2, q3, q4⟩ := X2.leave (v := some (.int (nar .char ((b &&& (255 : Int32)).toUInt32.toUInt16.toUInt32.toInt32)))) (fun h => by rw [Bd.returns] at h; cases h)
  refine ⟨_, _, pre0 _ ?_, q1, q2, _, _, rfl, ?_, ⟨_, rfl⟩, q3, q4.mono (by decide) (by decide)⟩
  · refine XS.iloadN X0.here hx rfl (hb hby d25_0) rfl ?_
    refine XS.aloadN X0.here hx rfl (hb hby d25_1) rfl rfl ?_
    refine X0.arraylength hx (by rw [e0]; exact Ar1.1) (State.isArrayOf_alike hZ.alike Ar1.2.1) (g := (mkF m 2 #[.val (.ref ob), .val (.int vi)] [(.ref ob), (.int vi)])) rfl rfl (hb hby d25_2) _ ?_
    rw [len_of S1 M1]
    refine st2 _ ?_
    refine XS.aloadN X2.here hx rfl (hb hby d25_6) rfl rfl ?_
    refine XS.iloadN X2.here hx rfl (hb hby d25_7) rfl ?_
    refine X2.baloadBytes hx (j := vi) (v := (.int b)) (by rw [e2]; exact Ar3.1) (State.isArrayOf_alike hZ.alike Ar3.2.1) Ar3.2.2 hin3 hat3 (g := (mkF m 8 #[.val (.ref ob), .val (.int vi)] [(.int vi), (.ref ob)])) rfl rfl (hb hby d25_8) _ ?_
    refine XS.sipush X2.here hx rfl (hb hby d25_9) ?_
    refine XS.iand X2.here hx rfl (hb hby d25_12) rfl ?_
    refine XS.i2c X2.here hx rfl (hb hby d25_13) rfl ?_
    exact retN X2 hx (t := .char) Bd.returns (by simp) (hb hby d25_14) hr
  · show Q_l1ch Z _ _ _ _ _ _ _ _ h0 n0 _ T2.heap _
    rw [e2]
    exact ⟨_, rfl, by rw [own_narcZ]; have := rng32 b; have : ((b &&& (255 : Int32))).toInt = b.toInt % 256 := c_mask b (255 : Int32) 8 (by decide) (by decide); (first | (have : (((b &&& (255 : Int32)).toUInt32.toUInt16.toUInt32.toInt32)).toInt = (b &&& (255 : Int32)).toInt := (by have := c_i2c (b &&& (255 : Int32)); omega)) | (have := c_i2c (b &&& (255 : Int32)))); omega, N2, rfl⟩
theorem d18_17 : decode jdk_42_method_154_code 17 = .ok (.iconst 0, 1) := by decide +kernel
theorem ef_rm_lat1 (m : MethodId) (x0 : Addr) : entryFrame m #[(.ref x0)] 1 = mkF m 0 #[.val (.ref x0)] [] := by first | (simp [entryFrame, mkF, argsToLocals, Value.category]; done) | rfl
def Q_lat1 (Z : State) (oa : Addr) (vcs : Int32) (vf : Value) (h0 : Heap) (n0 : Nat) (v : Option Value) (h : Heap) (L : List Loc) : Prop := ∃ z : Int32, v = some (.int z) ∧ (z = (0 : Int32)) ∧ Fr n0 L ∧ h = h0
theorem rm_lat1 (l : Launch) (Z : State) (a0 : Array Value) (hw : ∀ d ∈ tables_1, d.before a0 Z = true) (ws : List Jvm.Cond) (oa : Addr) (vcs : Int32) (vf : Value) (h0 : Heap) (n0 : Nat) (Z0 : n0 ≤ h0.size) (Os : own_st Z h0 vcs vf) (Fc : Fld Z h0 oa "java/lang/String" "coder" "B" (.int 1)) :
    MetFree l yn15 (head1 (Jvm.Cond.code yn15 jdk_42_method_154_code 1 (some .boolean) :: ws) ⟨0, 0, 0, 0⟩) (fun a U => a = #[(.ref oa)] ∧ Z.Warmed39 U.vm ∧ U.heap = h0) (fun _ _ _ _ _ => True) (fun _ U o U' => ∃ v L, o = .returned v ∧ Q_lat1 Z oa vcs vf h0 n0 v U'.heap L ∧ FrameEnd U o U' L 0 0) := by
  refine MetFree.of_bodySF (plainFor_of_name pn_3) hisR ?_
  intro p e s m args below meth c s₁ Bd hml0 hP hK
  obtain ⟨rfl, hZ, hh⟩ := hP
  have hx := Bd.exec
  have hby := Bd.bytes
  have hml : c.maxLocals = 1 := hml0
  have hown : s.vm.findClass "java/lang/String" = some m.cls := findClass_of_methodNamed Bd.named
  have hnm := (name_of_methodNamed Bd.named Bd.method).1
  have X0 : Stand p l e ⟨0, 0, 0, 0⟩ s m #[(.ref oa)] below meth c s₁ [] 0 0 := Stand.of_body Bd
  have e0 : s₁.heap = h0 := by rw [← hh, Bd.state]; rfl
  have N0 := Fr.nil n0
  have pre0 : oP p e below (s₁.setTop (mkF m 0 #[.val (.ref oa)] [])) (s₁.setTop (entryFrame m #[(.ref oa)] 1)) := fun t k => castTop (ef_rm_lat1 m oa) k
  obtain ⟨T1, X1, e1, st1⟩ := getS2 X0 hx hZ hown (host := "") (Or.inl (ow hw 16 rfl)) Via.refl e0 Os.1 (g := (mkF m 0 #[.val (.ref oa)] [])) rfl (hb hby d18_0)
  have hc3_2 : ¬ (vcs.toInt = (0 : Int)) := by (have q := Os.2.1; omega)
  obtain ⟨T3, X3, e3, st3⟩ := getF X1 hx hZ hown (host := "") (Or.inl (ow hw 28 rfl)) Via.refl e1 Fc (g := (mkF m 7 #[.val (.ref oa)] [(.ref oa)])) rfl rfl (hb hby d18_7)
  have hc10_4 : ¬ ((1 : Int) = (0 : Int)) := by decide
  obtain ⟨fs, hr, q1, q2, q3, q4⟩ := X3.leave (v := some (.int 0)) (fun h => by rw [Bd.returns] at h; cases h)
  refine ⟨_, _, pre0 _ ?_, q1, q2, _, _, rfl, ?_, ⟨_, rfl⟩, q3, q4.mono (by decide) (by decide)⟩
  · refine st1 _ ?_
    refine XS.ifNo X1.here hx rfl (hb hby d18_3) rfl (own_if (own_feq (a := vcs) (b := (0 : Int32)) rfl (by decide) hc3_2).1) ?_
    refine XS.aloadN X1.here hx rfl (hb hby d18_6) rfl rfl ?_
    refine st3 _ ?_
    refine XS.ifYes X3.here hx rfl (pc0 := 10) (pc' := 17) rfl (hb hby d18_10) rfl (own_if (own_feq (a := (1 : Int32)) (b := (0 : Int32)) (by decide) (by decide) hc10_4).2) (by decide) (by decide) ?_
    refine XS.iconst X3.here hx rfl (hb hby d18_17) ?_
    exact retN X3 hx (t := .boolean) Bd.returns (by simp) (hb hby d18_18) hr
  · show Q_lat1 Z _ _ _ h0 n0 _ T3.heap _
    rw [e3]
    exact ⟨_, rfl, rfl, N0, rfl⟩
theorem d20_0 : decode jdk_52_method_91_code 0 = .ok (.iload_n 0, 1) := by decide +kernel
theorem d20_1 : decode jdk_52_method_91_code 1 = .ok (.aload_n 1, 1) := by decide +kernel
theorem d20_2 : decode jdk_52_method_91_code 2 = .ok (.invokestatic 48, 3) := by decide +kernel
theorem d20_5 : decode jdk_52_method_91_code 5 = .ok (.invokestatic 414, 3) := by decide +kernel
theorem d20_8 : decode jdk_52_method_91_code 8 = .ok (.return_, 1) := by decide +kernel
theorem ef_rm_uck (m : MethodId) (x0 : Int32) (x1 : Addr) : entryFrame m #[(.int x0), (.ref x1)] 2 = mkF m 0 #[.val (.int x0), .val (.ref x1)] [] := by first | (simp [entryFrame, mkF, argsToLocals, Value.category]; done) | rfl
theorem pd_10 : parseMethodDescriptor "([B)I" = some ⟨[(.array .byte)], some .int⟩ := by decide +kernel
def Q_uck (Z : State) (vi : Int32) (ob : Addr) (vcs : Int32) (vf : Value) (kb : ClassId) (zl : Int32) (vs : List Value) (h0 : Heap) (n0 : Nat) (v : Option Value) (h : Heap) (L : List Loc) : Prop := v = none ∧ Fr n0 L ∧ h = h0
theorem rm_uck (l : Launch) (Z : State) (a0 : Array Value) (hw : ∀ d ∈ tables_1, d.before a0 Z = true) (ws : List Jvm.Cond) (vi : Int32) (ob : Addr) (vcs : Int32) (vf : Value) (kb : ClassId) (zl : Int32) (vs : List Value) (h0 : Heap) (n0 : Nat) (Z0 : n0 ≤ h0.size) (Os : own_st Z h0 vcs vf) (Vb : Arv Z h0 ob kb .byte zl vs (.int 0)) (i1 : 0 ≤ vi.toInt) (i2 : 2 * vi.toInt + 1 < zl.toInt) :
    MetFree l yn17 (head1 (Jvm.Cond.code yn17 jdk_52_method_91_code 2 none :: ws) ⟨2, 0, 0, 27⟩) (fun a U => a = #[(.int vi), (.ref ob)] ∧ Z.Warmed39 U.vm ∧ U.heap = h0) (fun _ _ _ _ _ => True) (fun _ U o U' => ∃ v L, o = .returned v ∧ Q_uck Z vi ob vcs vf kb zl vs h0 n0 v U'.heap L ∧ FrameEnd U o U' L 0 0) := by
  refine MetFree.of_bodySF (plainFor_of_name pn_2) hisR ?_
  intro p e s m args below meth c s₁ Bd hml0 hP hK
  obtain ⟨rfl, hZ, hh⟩ := hP
  have hx := Bd.exec
  have hby := Bd.bytes
  have hml : c.maxLocals = 2 := hml0
  have hown : s.vm.findClass "java/lang/StringUTF16" = some m.cls := findClass_of_methodNamed Bd.named
  have hnm := (name_of_methodNamed Bd.named Bd.method).1
  have X0 : Stand p l e ⟨2, 0, 0, 27⟩ s m #[(.int vi), (.ref ob)] below meth c s₁ [] 0 0 := Stand.of_body Bd
  have e0 : s₁.heap = h0 := by rw [← hh, Bd.state]; rfl
  have N0 := Fr.nil n0
  have pre0 : oP p e below (s₁.setTop (mkF m 0 #[.val (.int vi), .val (.ref ob)] [])) (s₁.setTop (entryFrame m #[(.int vi), (.ref ob)] 2)) := fun t k => castTop (ef_rm_uck m vi ob) k
  obtain ⟨_, _, ⟨T1, L1, k1, n1⟩, -, X1, ⟨Lc1, hQ1, l1, y1, z1⟩, st1⟩ := Jvm.LawKit.callS X0 hx (y := yn3) hown (mvT hZ (ow hw 88 rfl)) (mvT hZ (ow hw 89 rfl)) (mvT hZ (ow hw 19 rfl)) (mvT hZ (ow hw 90 rfl)) (by decide) (backOf (W := 1) (rm_ulen l Z a0 hw [] ob kb zl vs h0 n0 Z0 Vb) hZ (ow hw 90 rfl) (ow hw 19 rfl) (by decide) (by decide)) (g := (mkF m 2 #[.val (.int vi), .val (.ref ob)] [(.ref ob), (.int vi)])) rfl (by rw [hml]; rfl) (argsL := [(.ref ob)]) (rest := [(.int vi)]) (lenOf pd_10 rfl) rfl (by exact Nat.le_of_eq rfl) (hb hby d20_2) (fun _ _ => ⟨rfl, e0, (by decide : 0 + 0 ≤ _), (by decide : 0 + 0 ≤ _)⟩)
  dsimp only [Pt.U, Pt.locs, Pt.cells, Pt.slots] at X1 l1 y1 z1 st1 hQ1
  rw [l1, y1, z1] at X1
  obtain ⟨zn, rfl, hzn, N1q, e1⟩ := hQ1
  have N1 := Fr.app N0 N1q
  obtain ⟨_, _, ⟨T2, L2, k2, n2⟩, -, X2, ⟨Lc2, hQ2, l2, y2, z2⟩, st2⟩ := Jvm.LawKit.callS X1 hx (y := yn14) hown (mvT hZ (ow hw 91 rfl)) (mvT hZ (ow hw 92 rfl)) (mvT hZ (ow hw 5 rfl)) (mvT hZ (ow hw 93 rfl)) (by decide) (backOf (W := 0) (rm22 l Z a0 hw [] vi zn vcs vf h0 n0 Z0 Os i1 (by omega)) hZ (ow hw 93 rfl) (ow hw 5 rfl) (by decide) (by decide)) (g := (mkF m 5 #[.val (.int vi), .val (.ref ob)] [(.int zn), (.int vi)])) rfl (by rw [hml]; rfl) (argsL := [(.int vi), (.int zn)]) (rest := []) (lenOf pd_9 rfl) rfl (by exact Nat.le_of_eq rfl) (hb hby d20_5) (fun _ _ => ⟨rfl, e1, (by decide : 0 + 0 ≤ _), (by decide : 0 + 0 ≤ _)⟩)
  dsimp only [Pt.U, Pt.locs, Pt.cells, Pt.slots] at X2 l2 y2 z2 st2 hQ2
  rw [l2, y2, z2] at X2
  obtain ⟨rfl, N2q, e2⟩ := hQ2
  have N2 := Fr.app N1 N2q
  obtain ⟨fs, hr, q1, q2, q3, q4⟩ := X2.leave (v := none) (fun _ => rfl)
  refine ⟨_, _, pre0 _ ?_, q1, q2, _, _, rfl, ?_, ⟨_, rfl⟩, q3, q4.mono (by decide) (by decide)⟩
  · refine XS.iloadN X0.here hx rfl (hb hby d20_0) rfl ?_
    refine XS.aloadN X0.here hx rfl (hb hby d20_1) rfl rfl ?_
    refine st1 _ ?_
    refine st2 _ ?_
    exact X2.returnOut hx Bd.returns (hb hby d20_8) hr
  · show Q_uck Z _ _ _ _ _ _ _ h0 n0 _ T2.heap _
    rw [e2]
    exact ⟨rfl, N2, rfl⟩
theorem d19_0 : decode jdk_52_method_83_code 0 = .ok (.iload_n 1, 1) := by decide +kernel
theorem d19_1 : decode jdk_52_method_83_code 1 = .ok (.aload_n 0, 1) := by decide +kernel
theorem d19_2 : decode jdk_52_method_83_code 2 = .ok (.invokestatic 67, 3) := by decide +kernel
theorem d19_5 : decode jdk_52_method_83_code 5 = .ok (.aload_n 0, 1) := by decide +kernel
theorem d19_6 : decode jdk_52_method_83_code 6 = .ok (.iload_n 1, 1) := by decide +kernel
theorem d19_7 : decode jdk_52_method_83_code 7 = .ok (.invokestatic 71, 3) := by decide +kernel
theorem d19_10 : decode jdk_52_method_83_code 10 = .ok (.ireturn, 1) := by decide +kernel
theorem ef_rm_uch (m : MethodId) (x0 : Addr) (x1 : Int32) : entryFrame m #[(.ref x0), (.int x1)] 2 = mkF m 0 #[.val (.ref x0), .val (.int x1)] [] := by first | (simp [entryFrame, mkF, argsToLocals, Value.category]; done) | rfl
theorem pd_11 : parseMethodDescriptor "(I[B)V" = some ⟨[.int, (.array .byte)], none⟩ := by decide +kernel
def Q_uch (Z : State) (ob : Addr) (vi : Int32) (vcs : Int32) (vf : Value) (kb : ClassId) (zl : Int32) (vs : List Value) (lo : Int32) (hi : Int32) (im : Nat) (h0 : Heap) (n0 : Nat) (v : Option Value) (h : Heap) (L : List Loc) : Prop := ∃ z : Int32, v = some (.int z) ∧ (z.toInt = lo.toInt % 256 + 256 * (hi.toInt % 256)) ∧ Fr n0 L ∧ h = h0
theorem rm_uch (l : Launch) (Z : State) (a0 : Array Value) (hw : ∀ d ∈ tables_1, d.before a0 Z = true) (ws : List Jvm.Cond) (ob : Addr) (vi : Int32) (vcs : Int32) (vf : Value) (kb : ClassId) (zl : Int32) (vs : List Value) (lo : Int32) (hi : Int32) (im : Nat) (h0 : Heap) (n0 : Nat) (Z0 : n0 ≤ h0.size) (Os : own_st Z h0 vcs vf) (Vb : Arv Z h0 ob kb .byte zl vs (.int 0)) (i1 : 0 ≤ vi.toInt) (i2 : 2 * vi.toInt + 1 < zl.toInt) (hin : vi.toInt = im) (g0 : vs.getD (2 * im) (.int 0) = .int lo) (g1 : vs.getD (2 * im + 1) (.int 0) = .int hi) :
    MetFree l yn18 (head1 (Jvm.Cond.code yn18 jdk_52_method_83_code 2 (some .char) :: ws) ⟨3, 0, 0, 40⟩) (fun a U => a = #[(.ref ob), (.int vi)] ∧ Z.Warmed39 U.vm ∧ U.heap = h0) (fun _ _ _ _ _ => True) (fun _ U o U' => ∃ v L, o = .returned v ∧ Q_uch Z ob vi vcs vf kb zl vs lo hi im h0 n0 v U'.heap L ∧ FrameEnd U o U' L 0 0) := by
  refine MetFree.of_bodySF (plainFor_of_name pn_2) hisR ?_
  intro p e s m args below meth c s₁ Bd hml0 hP hK
  obtain ⟨rfl, hZ, hh⟩ := hP
  have hx := Bd.exec
  have hby := Bd.bytes
  have hml : c.maxLocals = 2 := hml0
  have hown : s.vm.findClass "java/lang/StringUTF16" = some m.cls := findClass_of_methodNamed Bd.named
  have hnm := (name_of_methodNamed Bd.named Bd.method).1
  have X0 : Stand p l e ⟨3, 0, 0, 40⟩ s m #[(.ref ob), (.int vi)] below meth c s₁ [] 0 0 := Stand.of_body Bd
  have e0 : s₁.heap = h0 := by rw [← hh, Bd.state]; rfl
  have N0 := Fr.nil n0
  have pre0 : oP p e below (s₁.setTop (mkF m 0 #[.val (.ref ob), .val (.int vi)] [])) (s₁.setTop (entryFrame m #[(.ref ob), (.int vi)] 2)) := fun t k => castTop (ef_rm_uch m ob vi) k
  obtain ⟨_, _, ⟨T1, L1, k1, n1⟩, -, X1, ⟨Lc1, hQ1, l1, y1, z1⟩, st1⟩ := Jvm.LawKit.callS X0 hx (y := yn17) hown (mvT hZ (ow hw 85 rfl)) (mvT hZ (ow hw 86 rfl)) (mvT hZ (ow hw 19 rfl)) (mvT hZ (ow hw 87 rfl)) (by decide) (backOf (W := 0) (rm_uck l Z a0 hw [] vi ob vcs vf kb zl vs h0 n0 Z0 Os Vb i1 i2) hZ (ow hw 87 rfl) (ow hw 19 rfl) (by decide) (by decide)) (g := (mkF m 2 #[.val (.ref ob), .val (.int vi)] [(.ref ob), (.int vi)])) rfl (by rw [hml]; rfl) (argsL := [(.int vi), (.ref ob)]) (rest := []) (lenOf pd_11 rfl) rfl (by exact Nat.le_of_eq rfl) (hb hby d19_2) (fun _ _ => ⟨rfl, e0, (by decide : 0 + 0 ≤ _), (by decide : 0 + 0 ≤ _)⟩)
  dsimp only [Pt.U, Pt.locs, Pt.cells, Pt.slots] at X1 l1 y1 z1 st1 hQ1
  rw [l1, y1, z1] at X1
  obtain ⟨rfl, N1q, e1⟩ := hQ1
  have N1 := Fr.app N0 N1q
  obtain ⟨_, _, ⟨T2, L2, k2, n2⟩, -, X2, ⟨Lc2, hQ2, l2, y2, z2⟩, st2⟩ := Jvm.LawKit.callS X1 hx (y := yn2) hown (mvT hZ (ow hw 66 rfl)) (mvT hZ (ow hw 67 rfl)) (mvT hZ (ow hw 19 rfl)) (mvT hZ (ow hw 68 rfl)) (by decide) (backOf (W := 0) (rm_gc l Z a0 hw [] ob vi vcs vf kb zl vs lo hi im h0 n0 Z0 Os Vb i1 i2 hin g0 g1) hZ (ow hw 68 rfl) (ow hw 19 rfl) (by decide) (by decide)) (g := (mkF m 7 #[.val (.ref ob), .val (.int vi)] [(.int vi), (.ref ob)])) rfl (by rw [hml]; rfl) (argsL := [(.ref ob), (.int vi)]) (rest := []) (lenOf pd_5 rfl) rfl (by exact Nat.le_of_eq rfl) (hb hby d19_7) (fun _ _ => ⟨rfl, e1, (by decide : 0 + 0 ≤ _), (by decide : 0 + 0 ≤ _)⟩)
  dsimp only [Pt.U, Pt.locs, Pt.cells, Pt.slots] at X2 l2 y2 z2 st2 hQ2
  rw [l2, y2, z2] at X2
  obtain ⟨zr, rfl, hzr, N2q, e2⟩ := hQ2
  have N2 := Fr.app N1 N2q
  obtain ⟨fs, hr, q1, q2, q3, q4⟩ := X2.leave (v := some (.int (nar .char zr))) (fun h => by rw [Bd.returns] at h; cases h)
  refine ⟨_, _, pre0 _ ?_, q1, q2, _, _, rfl, ?_, ⟨_, rfl⟩, q3, q4.mono (by decide) (by decide)⟩
  · refine XS.iloadN X0.here hx rfl (hb hby d19_0) rfl ?_
    refine XS.aloadN X0.here hx rfl (hb hby d19_1) rfl rfl ?_
    refine st1 _ ?_
    refine XS.aloadN X1.here hx rfl (hb hby d19_5) rfl rfl ?_
    refine XS.iloadN X1.here hx rfl (hb hby d19_6) rfl ?_
    refine st2 _ ?_
    exact retN X2 hx (t := .char) Bd.returns (by simp) (hb hby d19_10) hr
  · show Q_uch Z _ _ _ _ _ _ _ _ _ _ h0 n0 _ T2.heap _
    rw [e2]
    exact ⟨_, rfl, by rw [own_narcZ, hzr]; omega, N2, rfl⟩
def own_s1 (Z : State) (h : Heap) (oa ob : Addr) (kb : ClassId) (c0 : Int32) : Prop := Exa Z h oa "java/lang/String" ∧ Fld Z h oa "java/lang/String" "value" "[B" (.ref ob) ∧ ((Fld Z h oa "java/lang/String" "coder" "B" (.int 0) ∧ ((c0.toInt ≤ 255) ∧ ∃ bb0 : Int32, Arv Z h ob kb .byte (1 : Int32) [(.int bb0)] (.int 0) ∧ bb0.toInt % 256 = c0.toInt)) ∨ (Fld Z h oa "java/lang/String" "coder" "B" (.int 1) ∧ (¬ (c0.toInt ≤ 255) ∧ ∃ lo0 hi0 : Int32, Arv Z h ob kb .byte (2 : Int32) [(.int lo0), (.int hi0)] (.int 0) ∧ lo0.toInt % 256 = c0.toInt % 256 ∧ hi0.toInt % 256 = c0.toInt / 256)))
theorem d10_0 : decode jdk_42_method_152_code 0 = .ok (.getstatic 38, 3) := by decide +kernel
theorem d10_3 : decode jdk_42_method_152_code 3 = .ok (.ifCond .eq 10, 3) := by decide +kernel
theorem d10_6 : decode jdk_42_method_152_code 6 = .ok (.aload_n 0, 1) := by decide +kernel
theorem d10_7 : decode jdk_42_method_152_code 7 = .ok (.getfield 15, 3) := by decide +kernel
theorem d10_10 : decode jdk_42_method_152_code 10 = .ok (.goto 4, 3) := by decide +kernel
theorem d10_14 : decode jdk_42_method_152_code 14 = .ok (.ireturn, 1) := by decide +kernel
theorem ef_rm_cod0 (m : MethodId) (x0 : Addr) : entryFrame m #[(.ref x0)] 1 = mkF m 0 #[.val (.ref x0)] [] := by first | (simp [entryFrame, mkF, argsToLocals, Value.category]; done) | rfl
def Q_cod0 (Z : State) (oa : Addr) (vcs : Int32) (vf : Value) (h0 : Heap) (n0 : Nat) (v : Option Value) (h : Heap) (L : List Loc) : Prop := ∃ z : Int32, v = some (.int z) ∧ (z = (0 : Int32)) ∧ Fr n0 L ∧ h = h0
theorem rm_cod0 (l : Launch) (Z : State) (a0 : Array Value) (hw : ∀ d ∈ tables_1, d.before a0 Z = true) (ws : List Jvm.Cond) (oa : Addr) (vcs : Int32) (vf : Value) (h0 : Heap) (n0 : Nat) (Z0 : n0 ≤ h0.size) (Os : own_st Z h0 vcs vf) (Fc : Fld Z h0 oa "java/lang/String" "coder" "B" (.int 0)) :
    MetFree l yn19 (head1 (Jvm.Cond.code yn19 jdk_42_method_152_code 1 (some .byte) :: ws) ⟨0, 0, 0, 0⟩) (fun a U => a = #[(.ref oa)] ∧ Z.Warmed39 U.vm ∧ U.heap = h0) (fun _ _ _ _ _ => True) (fun _ U o U' => ∃ v L, o = .returned v ∧ Q_cod0 Z oa vcs vf h0 n0 v U'.heap L ∧ FrameEnd U o U' L 0 0) := by
  refine MetFree.of_bodySF (plainFor_of_name pn_3) hisR ?_
  intro p e s m args below meth c s₁ Bd hml0 hP hK
  obtain ⟨rfl, hZ, hh⟩ := hP
  have hx := Bd.exec
  have hby := Bd.bytes
  have hml : c.maxLocals = 1 := hml0
  have hown : s.vm.findClass "java/lang/String" = some m.cls := findClass_of_methodNamed Bd.named
  have hnm := (name_of_methodNamed Bd.named Bd.method).1
  have X0 : Stand p l e ⟨0, 0, 0, 0⟩ s m #[(.ref oa)] below meth c s₁ [] 0 0 := Stand.of_body Bd
  have e0 : s₁.heap = h0 := by rw [← hh, Bd.state]; rfl
  have N0 := Fr.nil n0
  have pre0 : oP p e below (s₁.setTop (mkF m 0 #[.val (.ref oa)] [])) (s₁.setTop (entryFrame m #[(.ref oa)] 1)) := fun t k => castTop (ef_rm_cod0 m oa) k
  obtain ⟨T1, X1, e1, st1⟩ := getS2 X0 hx hZ hown (host := "") (Or.inl (ow hw 16 rfl)) Via.refl e0 Os.1 (g := (mkF m 0 #[.val (.ref oa)] [])) rfl (hb hby d10_0)
  have hc3_2 : ¬ (vcs.toInt = (0 : Int)) := by (have q := Os.2.1; omega)
  obtain ⟨T3, X3, e3, st3⟩ := getF X1 hx hZ hown (host := "") (Or.inl (ow hw 28 rfl)) Via.refl e1 Fc (g := (mkF m 7 #[.val (.ref oa)] [(.ref oa)])) rfl rfl (hb hby d10_7)
  obtain ⟨fs, hr, q1, q2, q3, q4⟩ := X3.leave (v := some (.int 0)) (fun h => by rw [Bd.returns] at h; cases h)
  refine ⟨_, _, pre0 _ ?_, q1, q2, _, _, rfl, ?_, ⟨_, rfl⟩, q3, q4.mono (by decide) (by decide)⟩
  · refine st1 _ ?_
    refine XS.ifNo X1.here hx rfl (hb hby d10_3) rfl (own_if (own_feq (a := vcs) (b := (0 : Int32)) rfl (by decide) hc3_2).1) ?_
    refine XS.aloadN X1.here hx rfl (hb hby d10_6) rfl rfl ?_
    refine st3 _ ?_
    refine XS.goto X3.here hx rfl (pc0 := 10) (pc' := 14) rfl (hb hby d10_10) (by decide) (by decide) ?_
    exact retN X3 hx (t := .byte) Bd.returns (by simp) (hb hby d10_14) hr
  · show Q_cod0 Z _ _ _ h0 n0 _ T3.heap _
    rw [e3]
    exact ⟨_, rfl, rfl, N0, rfl⟩
theorem ef_rm_cod1 (m : MethodId) (x0 : Addr) : entryFrame m #[(.ref x0)] 1 = mkF m 0 #[.val (.ref x0)] [] := by first | (simp [entryFrame, mkF, argsToLocals, Value.category]; done) | rfl
def Q_cod1 (Z : State) (oa : Addr) (vcs : Int32) (vf : Value) (h0 : Heap) (n0 : Nat) (v : Option Value) (h : Heap) (L : List Loc) : Prop := ∃ z : Int32, v = some (.int z) ∧ (z = (1 : Int32)) ∧ Fr n0 L ∧ h = h0
theorem rm_cod1 (l : Launch) (Z : State) (a0 : Array Value) (hw : ∀ d ∈ tables_1, d.before a0 Z = true) (ws : List Jvm.Cond) (oa : Addr) (vcs : Int32) (vf : Value) (h0 : Heap) (n0 : Nat) (Z0 : n0 ≤ h0.size) (Os : own_st Z h0 vcs vf) (Fc : Fld Z h0 oa "java/lang/String" "coder" "B" (.int 1)) :
    MetFree l yn19 (head1 (Jvm.Cond.code yn19 jdk_42_method_152_code 1 (some .byte) :: ws) ⟨0, 0, 0, 0⟩) (fun a U => a = #[(.ref oa)] ∧ Z.Warmed39 U.vm ∧ U.heap = h0) (fun _ _ _ _ _ => True) (fun _ U o U' => ∃ v L, o = .returned v ∧ Q_cod1 Z oa vcs vf h0 n0 v U'.heap L ∧ FrameEnd U o U' L 0 0) := by
  refine MetFree.of_bodySF (plainFor_of_name pn_3) hisR ?_
  intro p e s m args below meth c s₁ Bd hml0 hP hK
  obtain ⟨rfl, hZ, hh⟩ := hP
  have hx := Bd.exec
  have hby := Bd.bytes
  have hml : c.maxLocals = 1 := hml0
  have hown : s.vm.findClass "java/lang/String" = some m.cls := findClass_of_methodNamed Bd.named
  have hnm := (name_of_methodNamed Bd.named Bd.method).1
  have X0 : Stand p l e ⟨0, 0, 0, 0⟩ s m #[(.ref oa)] below meth c s₁ [] 0 0 := Stand.of_body Bd
  have e0 : s₁.heap = h0 := by rw [← hh, Bd.state]; rfl
  have N0 := Fr.nil n0
  have pre0 : oP p e below (s₁.setTop (mkF m 0 #[.val (.ref oa)] [])) (s₁.setTop (entryFrame m #[(.ref oa)] 1)) := fun t k => castTop (ef_rm_cod1 m oa) k
  obtain ⟨T1, X1, e1, st1⟩ := getS2 X0 hx hZ hown (host := "") (Or.inl (ow hw 16 rfl)) Via.refl e0 Os.1 (g := (mkF m 0 #[.val (.ref oa)] [])) rfl (hb hby d10_0)
  have hc3_2 : ¬ (vcs.toInt = (0 : Int)) := by (have q := Os.2.1; omega)
  obtain ⟨T3, X3, e3, st3⟩ := getF X1 hx hZ hown (host := "") (Or.inl (ow hw 28 rfl)) Via.refl e1 Fc (g := (mkF m 7 #[.val (.ref oa)] [(.ref oa)])) rfl rfl (hb hby d10_7)
  obtain ⟨fs, hr, q1, q2, q3, q4⟩ := X3.leave (v := some (.int 1)) (fun h => by rw [Bd.returns] at h; cases h)
  refine ⟨_, _, pre0 _ ?_, q1, q2, _, _, rfl, ?_, ⟨_, rfl⟩, q3, q4.mono (by decide) (by decide)⟩
  · refine st1 _ ?_
    refine XS.ifNo X1.here hx rfl (hb hby d10_3) rfl (own_if (own_feq (a := vcs) (b := (0 : Int32)) rfl (by decide) hc3_2).1) ?_
    refine XS.aloadN X1.here hx rfl (hb hby d10_6) rfl rfl ?_
    refine st3 _ ?_
    refine XS.goto X3.here hx rfl (pc0 := 10) (pc' := 14) rfl (hb hby d10_10) (by decide) (by decide) ?_
    exact retN X3 hx (t := .byte) Bd.returns (by simp) (hb hby d10_14) hr
  · show Q_cod1 Z _ _ _ h0 n0 _ T3.heap _
    rw [e3]
    exact ⟨_, rfl, rfl, N0, rfl⟩
theorem d9_0 : decode jdk_42_method_54_code 0 = .ok (.aload_n 0, 1) := by decide +kernel
theorem d9_1 : decode jdk_42_method_54_code 1 = .ok (.getfield 9, 3) := by decide +kernel
theorem d9_4 : decode jdk_42_method_54_code 4 = .ok (.arraylength, 1) := by decide +kernel
theorem d9_5 : decode jdk_42_method_54_code 5 = .ok (.aload_n 0, 1) := by decide +kernel
theorem d9_6 : decode jdk_42_method_54_code 6 = .ok (.invokevirtual 335, 3) := by decide +kernel
theorem d9_9 : decode jdk_42_method_54_code 9 = .ok (.ishr, 1) := by decide +kernel
theorem d9_10 : decode jdk_42_method_54_code 10 = .ok (.ireturn, 1) := by decide +kernel
theorem ef_rm_ln1 (m : MethodId) (x0 : Addr) : entryFrame m #[(.ref x0)] 1 = mkF m 0 #[.val (.ref x0)] [] := by first | (simp [entryFrame, mkF, argsToLocals, Value.category]; done) | rfl
theorem pd_12 : parseMethodDescriptor "()B" = some ⟨[], some .byte⟩ := by decide +kernel
def Q_ln1 (Z : State) (oa : Addr) (vcs : Int32) (vf : Value) (ob : Addr) (kb : ClassId) (c0 : Int32) (h0 : Heap) (n0 : Nat) (v : Option Value) (h : Heap) (L : List Loc) : Prop := ∃ z : Int32, v = some (.int z) ∧ (z = (1 : Int32)) ∧ Fr n0 L ∧ h = h0
theorem rm_ln1 (l : Launch) (Z : State) (a0 : Array Value) (hw : ∀ d ∈ tables_1, d.before a0 Z = true) (ws : List Jvm.Cond) (oa : Addr) (vcs : Int32) (vf : Value) (ob : Addr) (kb : ClassId) (c0 : Int32) (h0 : Heap) (n0 : Nat) (Z0 : n0 ≤ h0.size) (Os : own_st Z h0 vcs vf) (Sx : own_s1 Z h0 oa ob kb c0) :
    MetFree l yn20 (head1 (Jvm.Cond.code yn20 jdk_42_method_54_code 1 (some .int) :: ws) ⟨1, 0, 0, 13⟩) (fun a U => a = #[(.ref oa)] ∧ Z.Warmed39 U.vm ∧ U.heap = h0) (fun _ _ _ _ _ => True) (fun _ U o U' => ∃ v L, o = .returned v ∧ Q_ln1 Z oa vcs vf ob kb c0 h0 n0 v U'.heap L ∧ FrameEnd U o U' L 0 0) := by
  refine MetFree.of_bodySF (plainFor_of_name pn_3) hisR ?_
  intro p e s m args below meth c s₁ Bd hml0 hP hK
  obtain ⟨rfl, hZ, hh⟩ := hP
  have hx := Bd.exec
  have hby := Bd.bytes
  have hml : c.maxLocals = 1 := hml0
  have hown : s.vm.findClass "java/lang/String" = some m.cls := findClass_of_methodNamed Bd.named
  have hnm := (name_of_methodNamed Bd.named Bd.method).1
  have X0 : Stand p l e ⟨1, 0, 0, 13⟩ s m #[(.ref oa)] below meth c s₁ [] 0 0 := Stand.of_body Bd
  have e0 : s₁.heap = h0 := by rw [← hh, Bd.state]; rfl
  have N0 := Fr.nil n0
  have pre0 : oP p e below (s₁.setTop (mkF m 0 #[.val (.ref oa)] [])) (s₁.setTop (entryFrame m #[(.ref oa)] 1)) := fun t k => castTop (ef_rm_ln1 m oa) k
  obtain ⟨Es, Fv, hO⟩ := id Sx
  rcases hO with ⟨Fc, hall, bb0, Vb, qbb0⟩ | ⟨Fc, hall, lo0, hi0, Vb, qlo0, qhi0⟩
  · have own_m0 := True.intro
    obtain ⟨T1, X1, e1, st1⟩ := getF X0 hx hZ hown (host := "") (Or.inl (ow hw 30 rfl)) Via.refl e0 Fv (g := (mkF m 1 #[.val (.ref oa)] [(.ref oa)])) rfl rfl (hb hby d9_1)
    obtain ⟨cl2, Ar2, q2, S2, M2, H2, G2⟩ := id Vb
    obtain ⟨cq3, kq3, q3a, q3b, q3c⟩ := isOf hZ e1 Es
    obtain ⟨_, _, ⟨T3, L3, k3, n3⟩, -, X3, ⟨Lc3, hQ3, l3, y3, z3⟩, st3⟩ := X1.virtualBack hx (y := yn19) (z := yn19) hown (mvT hZ (ow hw 45 rfl)) (mvT hZ (ow hw 46 rfl)) (notFace_of_selects (args := #[]) (mvT hZ (ow hw 48 rfl))) (mvT hZ (ow hw 48 rfl)) (mvT hZ (ow hw 47 rfl)) (by decide) (backOf (W := 1) (rm_cod0 l Z a0 hw [] oa vcs vf h0 n0 Z0 Os Fc) hZ (ow hw 49 rfl) (ow hw 5 rfl) (by decide) (by decide)) q3a q3c (g := (mkF m 6 #[.val (.ref oa)] [(.ref oa), (.int 1)])) rfl (by rw [hml]; rfl) (Steps.refl _) (argsL := []) (rest := [(.int 1)]) (lenOf pd_12 rfl) rfl (by exact Nat.le_of_eq rfl) (hb hby d9_6) (fun _ _ => ⟨rfl, e1, (by decide : 0 + 0 ≤ _), (by decide : 0 + 0 ≤ _)⟩)
    dsimp only [Pt.U, Pt.locs, Pt.cells, Pt.slots] at X3 l3 y3 z3 st3 hQ3
    rw [l3, y3, z3] at X3
    obtain ⟨zc, rfl, hzc, N3q, e3⟩ := hQ3
    have N3 := Fr.app N0 N3q
    have pre4 : oP p e below (T3.setTop (mkF m 9 #[.val (.ref oa)] [(.int zc), (.int 1)])) (s₁.setTop (entryFrame m #[(.ref oa)] 1)) := fun t kt => by
      refine pre0 _ ?_
      refine XS.aloadN X0.here hx rfl (hb hby d9_0) rfl rfl ?_
      refine st1 _ ?_
      refine X1.arraylength hx (by rw [e1]; exact Ar2.1) (State.isArrayOf_alike hZ.alike Ar2.2.1) (g := (mkF m 4 #[.val (.ref oa)] [(.ref ob)])) rfl rfl (hb hby d9_4) _ ?_
      rw [len_of S2 M2]
      refine XS.aloadN X1.here hx rfl (hb hby d9_5) rfl rfl ?_
      refine st3.trans ?_
      exact kt
    subst hzc
    have pre5 : oP p e below (T3.setTop (mkF m 9 #[.val (.ref oa)] [(.int 0), (.int 1)])) (s₁.setTop (entryFrame m #[(.ref oa)] 1)) := pre4
    obtain ⟨fs, hr, q1, q2, q3, q4⟩ := X3.leave (v := some (.int 1)) (fun h => by rw [Bd.returns] at h; cases h)
    refine ⟨_, _, pre5 _ ?_, q1, q2, _, _, rfl, ?_, ⟨_, rfl⟩, q3, q4.mono (by decide) (by decide)⟩
    · refine XS.ishr X3.here hx rfl (hb hby d9_9) rfl ?_
      exact retI X3 hx Bd.returns (hb hby d9_10) hr
    · show Q_ln1 Z _ _ _ _ _ _ h0 n0 _ T3.heap _
      rw [e3]
      exact ⟨_, rfl, rfl, N3, rfl⟩
  · have own_m1 := True.intro
    obtain ⟨T6, X6, e6, st6⟩ := getF X0 hx hZ hown (host := "") (Or.inl (ow hw 30 rfl)) Via.refl e0 Fv (g := (mkF m 1 #[.val (.ref oa)] [(.ref oa)])) rfl rfl (hb hby d9_1)
    obtain ⟨cl7, Ar7, q7, S7, M7, H7, G7⟩ := id Vb
    obtain ⟨cq8, kq8, q8a, q8b, q8c⟩ := isOf hZ e6 Es
    obtain ⟨_, _, ⟨T8, L8, k8, n8⟩, -, X8, ⟨Lc8, hQ8, l8, y8, z8⟩, st8⟩ := X6.virtualBack hx (y := yn19) (z := yn19) hown (mvT hZ (ow hw 45 rfl)) (mvT hZ (ow hw 46 rfl)) (notFace_of_selects (args := #[]) (mvT hZ (ow hw 48 rfl))) (mvT hZ (ow hw 48 rfl)) (mvT hZ (ow hw 47 rfl)) (by decide) (backOf (W := 1) (rm_cod1 l Z a0 hw [] oa vcs vf h0 n0 Z0 Os Fc) hZ (ow hw 49 rfl) (ow hw 5 rfl) (by decide) (by decide)) q8a q8c (g := (mkF m 6 #[.val (.ref oa)] [(.ref oa), (.int 2)])) rfl (by rw [hml]; rfl) (Steps.refl _) (argsL := []) (rest := [(.int 2)]) (lenOf pd_12 rfl) rfl (by exact Nat.le_of_eq rfl) (hb hby d9_6) (fun _ _ => ⟨rfl, e6, (by decide : 0 + 0 ≤ _), (by decide : 0 + 0 ≤ _)⟩)
    dsimp only [Pt.U, Pt.locs, Pt.cells, Pt.slots] at X8 l8 y8 z8 st8 hQ8
    rw [l8, y8, z8] at X8
    obtain ⟨zc, rfl, hzc, N8q, e8⟩ := hQ8
    have N8 := Fr.app N0 N8q
    have pre9 : oP p e below (T8.setTop (mkF m 9 #[.val (.ref oa)] [(.int zc), (.int 2)])) (s₁.setTop (entryFrame m #[(.ref oa)] 1)) := fun t kt => by
      refine pre0 _ ?_
      refine XS.aloadN X0.here hx rfl (hb hby d9_0) rfl rfl ?_
      refine st6 _ ?_
      refine X6.arraylength hx (by rw [e6]; exact Ar7.1) (State.isArrayOf_alike hZ.alike Ar7.2.1) (g := (mkF m 4 #[.val (.ref oa)] [(.ref ob)])) rfl rfl (hb hby d9_4) _ ?_
      rw [len_of S7 M7]
      refine XS.aloadN X6.here hx rfl (hb hby d9_5) rfl rfl ?_
      refine st8.trans ?_
      exact kt
    subst hzc
    have pre10 : oP p e below (T8.setTop (mkF m 9 #[.val (.ref oa)] [(.int 1), (.int 2)])) (s₁.setTop (entryFrame m #[(.ref oa)] 1)) := pre9
    obtain ⟨fs, hr, q1, q2, q3, q4⟩ := X8.leave (v := some (.int 1)) (fun h => by rw [Bd.returns] at h; cases h)
    refine ⟨_, _, pre10 _ ?_, q1, q2, _, _, rfl, ?_, ⟨_, rfl⟩, q3, q4.mono (by decide) (by decide)⟩
    · refine XS.ishr X8.here hx rfl (hb hby d9_9) rfl ?_
      exact retI X8 hx Bd.returns (hb hby d9_10) hr
    · show Q_ln1 Z _ _ _ _ _ _ h0 n0 _ T8.heap _
      rw [e8]
      exact ⟨_, rfl, rfl, N8, rfl⟩
def own_s2 (Z : State) (h : Heap) (oa ob : Addr) (kb : ClassId) (c0 c1 : Int32) : Prop := Exa Z h oa "java/lang/String" ∧ Fld Z h oa "java/lang/String" "value" "[B" (.ref ob) ∧ ((Fld Z h oa "java/lang/String" "coder" "B" (.int 0) ∧ ((c0.toInt ≤ 255 ∧ c1.toInt ≤ 255) ∧ ∃ bb0 bb1 : Int32, Arv Z h ob kb .byte (2 : Int32) [(.int bb0), (.int bb1)] (.int 0) ∧ bb0.toInt % 256 = c0.toInt ∧ bb1.toInt % 256 = c1.toInt)) ∨ (Fld Z h oa "java/lang/String" "coder" "B" (.int 1) ∧ (¬ (c0.toInt ≤ 255 ∧ c1.toInt ≤ 255) ∧ ∃ lo0 hi0 lo1 hi1 : Int32, Arv Z h ob kb .byte (4 : Int32) [(.int lo0), (.int hi0), (.int lo1), (.int hi1)] (.int 0) ∧ lo0.toInt % 256 = c0.toInt % 256 ∧ hi0.toInt % 256 = c0.toInt / 256 ∧ lo1.toInt % 256 = c1.toInt % 256 ∧ hi1.toInt % 256 = c1.toInt / 256)))
theorem ef_rm_ln2 (m : MethodId) (x0 : Addr) : entryFrame m #[(.ref x0)] 1 = mkF m 0 #[.val (.ref x0)] [] := by first | (simp [entryFrame, mkF, argsToLocals, Value.category]; done) | rfl
def Q_ln2 (Z : State) (oa : Addr) (vcs : Int32) (vf : Value) (ob : Addr) (kb : ClassId) (c0 : Int32) (c1 : Int32) (h0 : Heap) (n0 : Nat) (v : Option Value) (h : Heap) (L : List Loc) : Prop := ∃ z : Int32, v = some (.int z) ∧ (z = (2 : Int32)) ∧ Fr n0 L ∧ h = h0
theorem rm_ln2 (l : Launch) (Z : State) (a0 : Array Value) (hw : ∀ d ∈ tables_1, d.before a0 Z = true) (ws : List Jvm.Cond) (oa : Addr) (vcs : Int32) (vf : Value) (ob : Addr) (kb : ClassId) (c0 : Int32) (c1 : Int32) (h0 : Heap) (n0 : Nat) (Z0 : n0 ≤ h0.size) (Os : own_st Z h0 vcs vf) (Sx : own_s2 Z h0 oa ob kb c0 c1) :
    MetFree l yn20 (head1 (Jvm.Cond.code yn20 jdk_42_method_54_code 1 (some .int) :: ws) ⟨1, 0, 0, 13⟩) (fun a U => a = #[(.ref oa)] ∧ Z.Warmed39 U.vm ∧ U.heap = h0) (fun _ _ _ _ _ => True) (fun _ U o U' => ∃ v L, o = .returned v ∧ Q_ln2 Z oa vcs vf ob kb c0 c1 h0 n0 v U'.heap L ∧ FrameEnd U o U' L 0 0) := by
  refine MetFree.of_bodySF (plainFor_of_name pn_3) hisR ?_
  intro p e s m args below meth c s₁ Bd hml0 hP hK
  obtain ⟨rfl, hZ, hh⟩ := hP
  have hx := Bd.exec
  have hby := Bd.bytes
  have hml : c.maxLocals = 1 := hml0
  have hown : s.vm.findClass "java/lang/String" = some m.cls := findClass_of_methodNamed Bd.named
  have hnm := (name_of_methodNamed Bd.named Bd.method).1
  have X0 : Stand p l e ⟨1, 0, 0, 13⟩ s m #[(.ref oa)] below meth c s₁ [] 0 0 := Stand.of_body Bd
  have e0 : s₁.heap = h0 := by rw [← hh, Bd.state]; rfl
  have N0 := Fr.nil n0
  have pre0 : oP p e below (s₁.setTop (mkF m 0 #[.val (.ref oa)] [])) (s₁.setTop (entryFrame m #[(.ref oa)] 1)) := fun t k => castTop (ef_rm_ln2 m oa) k
  obtain ⟨Es, Fv, hO⟩ := id Sx
  rcases hO with ⟨Fc, hall, bb0, bb1, Vb, qbb0, qbb1⟩ | ⟨Fc, hall, lo0, hi0, lo1, hi1, Vb, qlo0, qhi0, qlo1, qhi1⟩
  · have own_m0 := True.intro
    obtain ⟨T1, X1, e1, st1⟩ := getF X0 hx hZ hown (host := "") (Or.inl (ow hw 30 rfl)) Via.refl e0 Fv (g := (mkF m 1 #[.val (.ref oa)] [(.ref oa)])) rfl rfl (hb hby d9_1)
    obtain ⟨cl2, Ar2, q2, S2, M2, H2, G2⟩ := id Vb
    obtain ⟨cq3, kq3, q3a, q3b, q3c⟩ := isOf hZ e1 Es
    obtain ⟨_, _, ⟨T3, L3, k3, n3⟩, -, X3, ⟨Lc3, hQ3, l3, y3, z3⟩, st3⟩ := X1.virtualBack hx (y := yn19) (z := yn19) hown (mvT hZ (ow hw 45 rfl)) (mvT hZ (ow hw 46 rfl)) (notFace_of_selects (args := #[]) (mvT hZ (ow hw 48 rfl))) (mvT hZ (ow hw 48 rfl)) (mvT hZ (ow hw 47 rfl)) (by decide) (backOf (W := 1) (rm_cod0 l Z a0 hw [] oa vcs vf h0 n0 Z0 Os Fc) hZ (ow hw 49 rfl) (ow hw 5 rfl) (by decide) (by decide)) q3a q3c (g := (mkF m 6 #[.val (.ref oa)] [(.ref oa), (.int 2)])) rfl (by rw [hml]; rfl) (Steps.refl _) (argsL := []) (rest := [(.int 2)]) (lenOf pd_12 rfl) rfl (by exact Nat.le_of_eq rfl) (hb hby d9_6) (fun _ _ => ⟨rfl, e1, (by decide : 0 + 0 ≤ _), (by decide : 0 + 0 ≤ _)⟩)
    dsimp only [Pt.U, Pt.locs, Pt.cells, Pt.slots] at X3 l3 y3 z3 st3 hQ3
    rw [l3, y3, z3] at X3
    obtain ⟨zc, rfl, hzc, N3q, e3⟩ := hQ3
    have N3 := Fr.app N0 N3q
    have pre4 : oP p e below (T3.setTop (mkF m 9 #[.val (.ref oa)] [(.int zc), (.int 2)])) (s₁.setTop (entryFrame m #[(.ref oa)] 1)) := fun t kt => by
      refine pre0 _ ?_
      refine XS.aloadN X0.here hx rfl (hb hby d9_0) rfl rfl ?_
      refine st1 _ ?_
      refine X1.arraylength hx (by rw [e1]; exact Ar2.1) (State.isArrayOf_alike hZ.alike Ar2.2.1) (g := (mkF m 4 #[.val (.ref oa)] [(.ref ob)])) rfl rfl (hb hby d9_4) _ ?_
      rw [len_of S2 M2]
      refine XS.aloadN X1.here hx rfl (hb hby d9_5) rfl rfl ?_
      refine st3.trans ?_
      exact kt
    subst hzc
    have pre5 : oP p e below (T3.setTop (mkF m 9 #[.val (.ref oa)] [(.int 0), (.int 2)])) (s₁.setTop (entryFrame m #[(.ref oa)] 1)) := pre4
    obtain ⟨fs, hr, q1, q2, q3, q4⟩ := X3.leave (v := some (.int 2)) (fun h => by rw [Bd.returns] at h; cases h)
    refine ⟨_, _, pre5 _ ?_, q1, q2, _, _, rfl, ?_, ⟨_, rfl⟩, q3, q4.mono (by decide) (by decide)⟩
    · refine XS.ishr X3.here hx rfl (hb hby d9_9) rfl ?_
      exact retI X3 hx Bd.returns (hb hby d9_10) hr
    · show Q_ln2 Z _ _ _ _ _ _ _ h0 n0 _ T3.heap _
      rw [e3]
      exact ⟨_, rfl, rfl, N3, rfl⟩
  · have own_m1 := True.intro
    obtain ⟨T6, X6, e6, st6⟩ := getF X0 hx hZ hown (host := "") (Or.inl (ow hw 30 rfl)) Via.refl e0 Fv (g := (mkF m 1 #[.val (.ref oa)] [(.ref oa)])) rfl rfl (hb hby d9_1)
    obtain ⟨cl7, Ar7, q7, S7, M7, H7, G7⟩ := id Vb
    obtain ⟨cq8, kq8, q8a, q8b, q8c⟩ := isOf hZ e6 Es
    obtain ⟨_, _, ⟨T8, L8, k8, n8⟩, -, X8, ⟨Lc8, hQ8, l8, y8, z8⟩, st8⟩ := X6.virtualBack hx (y := yn19) (z := yn19) hown (mvT hZ (ow hw 45 rfl)) (mvT hZ (ow hw 46 rfl)) (notFace_of_selects (args := #[]) (mvT hZ (ow hw 48 rfl))) (mvT hZ (ow hw 48 rfl)) (mvT hZ (ow hw 47 rfl)) (by decide) (backOf (W := 1) (rm_cod1 l Z a0 hw [] oa vcs vf h0 n0 Z0 Os Fc) hZ (ow hw 49 rfl) (ow hw 5 rfl) (by decide) (by decide)) q8a q8c (g := (mkF m 6 #[.val (.ref oa)] [(.ref oa), (.int 4)])) rfl (by rw [hml]; rfl) (Steps.refl _) (argsL := []) (rest := [(.int 4)]) (lenOf pd_12 rfl) rfl (by exact Nat.le_of_eq rfl) (hb hby d9_6) (fun _ _ => ⟨rfl, e6, (by decide : 0 + 0 ≤ _), (by decide : 0 + 0 ≤ _)⟩)
    dsimp only [Pt.U, Pt.locs, Pt.cells, Pt.slots] at X8 l8 y8 z8 st8 hQ8
    rw [l8, y8, z8] at X8
    obtain ⟨zc, rfl, hzc, N8q, e8⟩ := hQ8
    have N8 := Fr.app N0 N8q
    have pre9 : oP p e below (T8.setTop (mkF m 9 #[.val (.ref oa)] [(.int zc), (.int 4)])) (s₁.setTop (entryFrame m #[(.ref oa)] 1)) := fun t kt => by
      refine pre0 _ ?_
      refine XS.aloadN X0.here hx rfl (hb hby d9_0) rfl rfl ?_
      refine st6 _ ?_
      refine X6.arraylength hx (by rw [e6]; exact Ar7.1) (State.isArrayOf_alike hZ.alike Ar7.2.1) (g := (mkF m 4 #[.val (.ref oa)] [(.ref ob)])) rfl rfl (hb hby d9_4) _ ?_
      rw [len_of S7 M7]
      refine XS.aloadN X6.here hx rfl (hb hby d9_5) rfl rfl ?_
      refine st8.trans ?_
      exact kt
    subst hzc
    have pre10 : oP p e below (T8.setTop (mkF m 9 #[.val (.ref oa)] [(.int 1), (.int 4)])) (s₁.setTop (entryFrame m #[(.ref oa)] 1)) := pre9
    obtain ⟨fs, hr, q1, q2, q3, q4⟩ := X8.leave (v := some (.int 2)) (fun h => by rw [Bd.returns] at h; cases h)
    refine ⟨_, _, pre10 _ ?_, q1, q2, _, _, rfl, ?_, ⟨_, rfl⟩, q3, q4.mono (by decide) (by decide)⟩
    · refine XS.ishr X8.here hx rfl (hb hby d9_9) rfl ?_
      exact retI X8 hx Bd.returns (hb hby d9_10) hr
    · show Q_ln2 Z _ _ _ _ _ _ _ h0 n0 _ T8.heap _
      rw [e8]
      exact ⟨_, rfl, rfl, N8, rfl⟩
theorem d17_0 : decode jdk_42_method_56_code 0 = .ok (.aload_n 0, 1) := by decide +kernel
theorem d17_1 : decode jdk_42_method_56_code 1 = .ok (.invokevirtual 492, 3) := by decide +kernel
theorem d17_4 : decode jdk_42_method_56_code 4 = .ok (.ifCond .eq 12, 3) := by decide +kernel
theorem d17_7 : decode jdk_42_method_56_code 7 = .ok (.aload_n 0, 1) := by decide +kernel
theorem d17_8 : decode jdk_42_method_56_code 8 = .ok (.getfield 9, 3) := by decide +kernel
theorem d17_11 : decode jdk_42_method_56_code 11 = .ok (.iload_n 1, 1) := by decide +kernel
theorem d17_12 : decode jdk_42_method_56_code 12 = .ok (.invokestatic 495, 3) := by decide +kernel
theorem d17_15 : decode jdk_42_method_56_code 15 = .ok (.ireturn, 1) := by decide +kernel
theorem d17_16 : decode jdk_42_method_56_code 16 = .ok (.aload_n 0, 1) := by decide +kernel
theorem d17_17 : decode jdk_42_method_56_code 17 = .ok (.getfield 9, 3) := by decide +kernel
theorem d17_20 : decode jdk_42_method_56_code 20 = .ok (.iload_n 1, 1) := by decide +kernel
theorem d17_21 : decode jdk_42_method_56_code 21 = .ok (.invokestatic 498, 3) := by decide +kernel
theorem d17_24 : decode jdk_42_method_56_code 24 = .ok (.ireturn, 1) := by decide +kernel
theorem ef_rm_ca2_1 (m : MethodId) (x0 : Addr) : entryFrame m #[(.ref x0), (.int 1)] 2 = mkF m 0 #[.val (.ref x0), .val (.int 1)] [] := by first | (simp [entryFrame, mkF, argsToLocals, Value.category]; done) | rfl
theorem pd_13 : parseMethodDescriptor "()Z" = some ⟨[], some .boolean⟩ := by decide +kernel
def Q_ca2_1 (Z : State) (oa : Addr) (vcs : Int32) (vf : Value) (ob : Addr) (kb : ClassId) (c0 : Int32) (c1 : Int32) (h0 : Heap) (n0 : Nat) (v : Option Value) (h : Heap) (L : List Loc) : Prop := ∃ z : Int32, v = some (.int z) ∧ (z.toInt = c1.toInt) ∧ Fr n0 L ∧ h = h0
theorem rm_ca2_1 (l : Launch) (Z : State) (a0 : Array Value) (hw : ∀ d ∈ tables_1, d.before a0 Z = true) (ws : List Jvm.Cond) (oa : Addr) (vcs : Int32) (vf : Value) (ob : Addr) (kb : ClassId) (c0 : Int32) (c1 : Int32) (h0 : Heap) (n0 : Nat) (Z0 : n0 ≤ h0.size) (Os : own_st Z h0 vcs vf) (Sx : own_s2 Z h0 oa ob kb c0 c1) :
    MetFree l yn21 (head1 (Jvm.Cond.code yn21 jdk_42_method_56_code 2 (some .char) :: ws) ⟨4, 0, 0, 53⟩) (fun a U => a = #[(.ref oa), (.int 1)] ∧ Z.Warmed39 U.vm ∧ U.heap = h0) (fun _ _ _ _ _ => True) (fun _ U o U' => ∃ v L, o = .returned v ∧ Q_ca2_1 Z oa vcs vf ob kb c0 c1 h0 n0 v U'.heap L ∧ FrameEnd U o U' L 0 0) := by
  refine MetFree.of_bodySF (plainFor_of_name pn_3) hisR ?_
  intro p e s m args below meth c s₁ Bd hml0 hP hK
  obtain ⟨rfl, hZ, hh⟩ := hP
  have hx := Bd.exec
  have hby := Bd.bytes
  have hml : c.maxLocals = 2 := hml0
  have hown : s.vm.findClass "java/lang/String" = some m.cls := findClass_of_methodNamed Bd.named
  have hnm := (name_of_methodNamed Bd.named Bd.method).1
  have X0 : Stand p l e ⟨4, 0, 0, 53⟩ s m #[(.ref oa), (.int 1)] below meth c s₁ [] 0 0 := Stand.of_body Bd
  have e0 : s₁.heap = h0 := by rw [← hh, Bd.state]; rfl
  have N0 := Fr.nil n0
  have pre0 : oP p e below (s₁.setTop (mkF m 0 #[.val (.ref oa), .val (.int 1)] [])) (s₁.setTop (entryFrame m #[(.ref oa), (.int 1)] 2)) := fun t k => castTop (ef_rm_ca2_1 m oa) k
  obtain ⟨Es, Fv, hO⟩ := id Sx
  rcases hO with ⟨Fc, hall, bb0, bb1, Vb, qbb0, qbb1⟩ | ⟨Fc, hall, lo0, hi0, lo1, hi1, Vb, qlo0, qhi0, qlo1, qhi1⟩
  · have own_m0 := True.intro
    obtain ⟨cq1, kq1, q1a, q1b, q1c⟩ := isOf hZ e0 Es
    obtain ⟨_, _, ⟨T1, L1, k1, n1⟩, -, X1, ⟨Lc1, hQ1, l1, y1, z1⟩, st1⟩ := X0.virtualBack hx (y := yn15) (z := yn15) hown (mvT hZ (ow hw 77 rfl)) (mvT hZ (ow hw 78 rfl)) (notFace_of_selects (args := #[]) (mvT hZ (ow hw 80 rfl))) (mvT hZ (ow hw 80 rfl)) (mvT hZ (ow hw 79 rfl)) (by decide) (backOf (W := 0) (rm_lat0 l Z a0 hw [] oa vcs vf h0 n0 Z0 Os Fc) hZ (ow hw 81 rfl) (ow hw 5 rfl) (by decide) (by decide)) q1a q1c (g := (mkF m 1 #[.val (.ref oa), .val (.int 1)] [(.ref oa)])) rfl (by rw [hml]; rfl) (Steps.refl _) (argsL := []) (rest := []) (lenOf pd_13 rfl) rfl (by exact Nat.le_of_eq rfl) (hb hby d17_1) (fun _ _ => ⟨rfl, e0, (by decide : 0 + 0 ≤ _), (by decide : 0 + 0 ≤ _)⟩)
    dsimp only [Pt.U, Pt.locs, Pt.cells, Pt.slots] at X1 l1 y1 z1 st1 hQ1
    rw [l1, y1, z1] at X1
    obtain ⟨zl1, rfl, hzl1, N1q, e1⟩ := hQ1
    have N1 := Fr.app N0 N1q
    have pre2 : oP p e below (T1.setTop (mkF m 4 #[.val (.ref oa), .val (.int 1)] [(.int zl1)])) (s₁.setTop (entryFrame m #[(.ref oa), (.int 1)] 2)) := fun t kt => by
      refine pre0 _ ?_
      refine XS.aloadN X0.here hx rfl (hb hby d17_0) rfl rfl ?_
      refine st1.trans ?_
      exact kt
    subst hzl1
    have pre3 : oP p e below (T1.setTop (mkF m 4 #[.val (.ref oa), .val (.int 1)] [(.int 1)])) (s₁.setTop (entryFrame m #[(.ref oa), (.int 1)] 2)) := pre2
    have hc4_4 : ¬ ((1 : Int) = (0 : Int)) := by decide
    obtain ⟨T5, X5, e5, st5⟩ := getF X1 hx hZ hown (host := "") (Or.inl (ow hw 30 rfl)) Via.refl e1 Fv (g := (mkF m 8 #[.val (.ref oa), .val (.int 1)] [(.ref oa)])) rfl rfl (hb hby d17_8)
    obtain ⟨_, _, ⟨T6, L6, k6, n6⟩, -, X6, ⟨Lc6, hQ6, l6, y6, z6⟩, st6⟩ := Jvm.LawKit.callS X5 hx (y := yn16) hown (mvT hZ (ow hw 102 rfl)) (mvT hZ (ow hw 103 rfl)) (mvT hZ (ow hw 104 rfl)) (mvT hZ (ow hw 105 rfl)) (by decide) (backOf (W := 0) (rm_l1ch l Z a0 hw [] ob (1 : Int32) vcs vf kb (2 : Int32) [(.int bb0), (.int bb1)] bb1 h0 n0 Z0 Os Vb (by decide) (by decide) rfl) hZ (ow hw 105 rfl) (ow hw 104 rfl) (by decide) (by decide)) (g := (mkF m 12 #[.val (.ref oa), .val (.int 1)] [(.int 1), (.ref ob)])) rfl (by rw [hml]; rfl) (argsL := [(.ref ob), (.int 1)]) (rest := []) (lenOf pd_5 rfl) rfl (by exact Nat.le_of_eq rfl) (hb hby d17_12) (fun _ _ => ⟨rfl, e5, (by decide : 0 + 0 ≤ _), (by decide : 0 + 0 ≤ _)⟩)
    dsimp only [Pt.U, Pt.locs, Pt.cells, Pt.slots] at X6 l6 y6 z6 st6 hQ6
    rw [l6, y6, z6] at X6
    obtain ⟨zr, rfl, hzr, N6q, e6⟩ := hQ6
    have N6 := Fr.app N1 N6q
    obtain ⟨fs, hr, q1, q2, q3, q4⟩ := X6.leave (v := some (.int (nar .char zr))) (fun h => by rw [Bd.returns] at h; cases h)
    refine ⟨_, _, pre3 _ ?_, q1, q2, _, _, rfl, ?_, ⟨_, rfl⟩, q3, q4.mono (by decide) (by decide)⟩
    · refine XS.ifNo X1.here hx rfl (hb hby d17_4) rfl (own_if (own_feq (a := (1 : Int32)) (b := (0 : Int32)) (by decide) (by decide) hc4_4).1) ?_
      refine XS.aloadN X1.here hx rfl (hb hby d17_7) rfl rfl ?_
      refine st5 _ ?_
      refine XS.iloadN X5.here hx rfl (hb hby d17_11) rfl ?_
      refine st6 _ ?_
      exact retN X6 hx (t := .char) Bd.returns (by simp) (hb hby d17_15) hr
    · show Q_ca2_1 Z _ _ _ _ _ _ _ h0 n0 _ T6.heap _
      rw [e6]
      exact ⟨_, rfl, by rw [own_narcZ, hzr]; omega, N6, rfl⟩
  · have own_m1 := True.intro
    obtain ⟨cq7, kq7, q7a, q7b, q7c⟩ := isOf hZ e0 Es
    obtain ⟨_, _, ⟨T7, L7, k7, n7⟩, -, X7, ⟨Lc7, hQ7, l7, y7, z7⟩, st7⟩ := X0.virtualBack hx (y := yn15) (z := yn15) hown (mvT hZ (ow hw 77 rfl)) (mvT hZ (ow hw 78 rfl)) (notFace_of_selects (args := #[]) (mvT hZ (ow hw 80 rfl))) (mvT hZ (ow hw 80 rfl)) (mvT hZ (ow hw 79 rfl)) (by decide) (backOf (W := 0) (rm_lat1 l Z a0 hw [] oa vcs vf h0 n0 Z0 Os Fc) hZ (ow hw 81 rfl) (ow hw 5 rfl) (by decide) (by decide)) q7a q7c (g := (mkF m 1 #[.val (.ref oa), .val (.int 1)] [(.ref oa)])) rfl (by rw [hml]; rfl) (Steps.refl _) (argsL := []) (rest := []) (lenOf pd_13 rfl) rfl (by exact Nat.le_of_eq rfl) (hb hby d17_1) (fun _ _ => ⟨rfl, e0, (by decide : 0 + 0 ≤ _), (by decide : 0 + 0 ≤ _)⟩)
    dsimp only [Pt.U, Pt.locs, Pt.cells, Pt.slots] at X7 l7 y7 z7 st7 hQ7
    rw [l7, y7, z7] at X7
    obtain ⟨zl1, rfl, hzl1, N7q, e7⟩ := hQ7
    have N7 := Fr.app N0 N7q
    have pre8 : oP p e below (T7.setTop (mkF m 4 #[.val (.ref oa), .val (.int 1)] [(.int zl1)])) (s₁.setTop (entryFrame m #[(.ref oa), (.int 1)] 2)) := fun t kt => by
      refine pre0 _ ?_
      refine XS.aloadN X0.here hx rfl (hb hby d17_0) rfl rfl ?_
      refine st7.trans ?_
      exact kt
    subst hzl1
    have pre9 : oP p e below (T7.setTop (mkF m 4 #[.val (.ref oa), .val (.int 1)] [(.int 0)])) (s₁.setTop (entryFrame m #[(.ref oa), (.int 1)] 2)) := pre8
    have hc4_10 : (0 : Int) = (0 : Int) := by decide
    obtain ⟨T11, X11, e11, st11⟩ := getF X7 hx hZ hown (host := "") (Or.inl (ow hw 30 rfl)) Via.refl e7 Fv (g := (mkF m 17 #[.val (.ref oa), .val (.int 1)] [(.ref oa)])) rfl rfl (hb hby d17_17)
    obtain ⟨_, _, ⟨T12, L12, k12, n12⟩, -, X12, ⟨Lc12, hQ12, l12, y12, z12⟩, st12⟩ := Jvm.LawKit.callS X11 hx (y := yn18) hown (mvT hZ (ow hw 82 rfl)) (mvT hZ (ow hw 83 rfl)) (mvT hZ (ow hw 19 rfl)) (mvT hZ (ow hw 84 rfl)) (by decide) (backOf (W := 0) (rm_uch l Z a0 hw [] ob (1 : Int32) vcs vf kb (4 : Int32) [(.int lo0), (.int hi0), (.int lo1), (.int hi1)] lo1 hi1 1 h0 n0 Z0 Os Vb (by decide) (by decide) (by decide) rfl rfl) hZ (ow hw 84 rfl) (ow hw 19 rfl) (by decide) (by decide)) (g := (mkF m 21 #[.val (.ref oa), .val (.int 1)] [(.int 1), (.ref ob)])) rfl (by rw [hml]; rfl) (argsL := [(.ref ob), (.int 1)]) (rest := []) (lenOf pd_5 rfl) rfl (by exact Nat.le_of_eq rfl) (hb hby d17_21) (fun _ _ => ⟨rfl, e11, (by decide : 0 + 0 ≤ _), (by decide : 0 + 0 ≤ _)⟩)
    dsimp only [Pt.U, Pt.locs, Pt.cells, Pt.slots] at X12 l12 y12 z12 st12 hQ12
    rw [l12, y12, z12] at X12
    obtain ⟨zr, rfl, hzr, N12q, e12⟩ := hQ12
    have N12 := Fr.app N7 N12q
    obtain ⟨fs, hr, q1, q2, q3, q4⟩ := X12.leave (v := some (.int (nar .char zr))) (fun h => by rw [Bd.returns] at h; cases h)
    refine ⟨_, _, pre9 _ ?_, q1, q2, _, _, rfl, ?_, ⟨_, rfl⟩, q3, q4.mono (by decide) (by decide)⟩
    · refine XS.ifYes X7.here hx rfl (pc0 := 4) (pc' := 16) rfl (hb hby d17_4) rfl (own_if (own_teq (a := (0 : Int32)) (b := (0 : Int32)) (by decide) (by decide) hc4_10).1) (by decide) (by decide) ?_
      refine XS.aloadN X7.here hx rfl (hb hby d17_16) rfl rfl ?_
      refine st11 _ ?_
      refine XS.iloadN X11.here hx rfl (hb hby d17_20) rfl ?_
      refine st12 _ ?_
      exact retN X12 hx (t := .char) Bd.returns (by simp) (hb hby d17_24) hr
    · show Q_ca2_1 Z _ _ _ _ _ _ _ h0 n0 _ T12.heap _
      rw [e12]
      exact ⟨_, rfl, by rw [own_narcZ, hzr]; omega, N12, rfl⟩
def own_s3 (Z : State) (h : Heap) (oa ob : Addr) (kb : ClassId) (c0 c1 c2 : Int32) : Prop := Exa Z h oa "java/lang/String" ∧ Fld Z h oa "java/lang/String" "value" "[B" (.ref ob) ∧ ((Fld Z h oa "java/lang/String" "coder" "B" (.int 0) ∧ ((c0.toInt ≤ 255 ∧ c1.toInt ≤ 255 ∧ c2.toInt ≤ 255) ∧ ∃ bb0 bb1 bb2 : Int32, Arv Z h ob kb .byte (3 : Int32) [(.int bb0), (.int bb1), (.int bb2)] (.int 0) ∧ bb0.toInt % 256 = c0.toInt ∧ bb1.toInt % 256 = c1.toInt ∧ bb2.toInt % 256 = c2.toInt)) ∨ (Fld Z h oa "java/lang/String" "coder" "B" (.int 1) ∧ (¬ (c0.toInt ≤ 255 ∧ c1.toInt ≤ 255 ∧ c2.toInt ≤ 255) ∧ ∃ lo0 hi0 lo1 hi1 lo2 hi2 : Int32, Arv Z h ob kb .byte (6 : Int32) [(.int lo0), (.int hi0), (.int lo1), (.int hi1), (.int lo2), (.int hi2)] (.int 0) ∧ lo0.toInt % 256 = c0.toInt % 256 ∧ hi0.toInt % 256 = c0.toInt / 256 ∧ lo1.toInt % 256 = c1.toInt % 256 ∧ hi1.toInt % 256 = c1.toInt / 256 ∧ lo2.toInt % 256 = c2.toInt % 256 ∧ hi2.toInt % 256 = c2.toInt / 256)))
theorem ef_rm_ln3 (m : MethodId) (x0 : Addr) : entryFrame m #[(.ref x0)] 1 = mkF m 0 #[.val (.ref x0)] [] := by first | (simp [entryFrame, mkF, argsToLocals, Value.category]; done) | rfl
def Q_ln3 (Z : State) (oa : Addr) (vcs : Int32) (vf : Value) (ob : Addr) (kb : ClassId) (c0 : Int32) (c1 : Int32) (c2 : Int32) (h0 : Heap) (n0 : Nat) (v : Option Value) (h : Heap) (L : List Loc) : Prop := ∃ z : Int32, v = some (.int z) ∧ (z = (3 : Int32)) ∧ Fr n0 L ∧ h = h0
theorem rm_ln3 (l : Launch) (Z : State) (a0 : Array Value) (hw : ∀ d ∈ tables_1, d.before a0 Z = true) (ws : List Jvm.Cond) (oa : Addr) (vcs : Int32) (vf : Value) (ob : Addr) (kb : ClassId) (c0 : Int32) (c1 : Int32) (c2 : Int32) (h0 : Heap) (n0 : Nat) (Z0 : n0 ≤ h0.size) (Os : own_st Z h0 vcs vf) (Sx : own_s3 Z h0 oa ob kb c0 c1 c2) :
    MetFree l yn20 (head1 (Jvm.Cond.code yn20 jdk_42_method_54_code 1 (some .int) :: ws) ⟨1, 0, 0, 13⟩) (fun a U => a = #[(.ref oa)] ∧ Z.Warmed39 U.vm ∧ U.heap = h0) (fun _ _ _ _ _ => True) (fun _ U o U' => ∃ v L, o = .returned v ∧ Q_ln3 Z oa vcs vf ob kb c0 c1 c2 h0 n0 v U'.heap L ∧ FrameEnd U o U' L 0 0) := by
  refine MetFree.of_bodySF (plainFor_of_name pn_3) hisR ?_
  intro p e s m args below meth c s₁ Bd hml0 hP hK
  obtain ⟨rfl, hZ, hh⟩ := hP
  have hx := Bd.exec
  have hby := Bd.bytes
  have hml : c.maxLocals = 1 := hml0
  have hown : s.vm.findClass "java/lang/String" = some m.cls := findClass_of_methodNamed Bd.named
  have hnm := (name_of_methodNamed Bd.named Bd.method).1
  have X0 : Stand p l e ⟨1, 0, 0, 13⟩ s m #[(.ref oa)] below meth c s₁ [] 0 0 := Stand.of_body Bd
  have e0 : s₁.heap = h0 := by rw [← hh, Bd.state]; rfl
  have N0 := Fr.nil n0
  have pre0 : oP p e below (s₁.setTop (mkF m 0 #[.val (.ref oa)] [])) (s₁.setTop (entryFrame m #[(.ref oa)] 1)) := fun t k => castTop (ef_rm_ln3 m oa) k
  obtain ⟨Es, Fv, hO⟩ := id Sx
  rcases hO with ⟨Fc, hall, bb0, bb1, bb2, Vb, qbb0, qbb1, qbb2⟩ | ⟨Fc, hall, lo0, hi0, lo1, hi1, lo2, hi2, Vb, qlo0, qhi0, qlo1, qhi1, qlo2, qhi2⟩
  · have own_m0 := True.intro
    obtain ⟨T1, X1, e1, st1⟩ := getF X0 hx hZ hown (host := "") (Or.inl (ow hw 30 rfl)) Via.refl e0 Fv (g := (mkF m 1 #[.val (.ref oa)] [(.ref oa)])) rfl rfl (hb hby d9_1)
    obtain ⟨cl2, Ar2, q2, S2, M2, H2, G2⟩ := id Vb
    obtain ⟨cq3, kq3, q3a, q3b, q3c⟩ := isOf hZ e1 Es
    obtain ⟨_, _, ⟨T3, L3, k3, n3⟩, -, X3, ⟨Lc3, hQ3, l3, y3, z3⟩, st3⟩ := X1.virtualBack hx (y := yn19) (z := yn19) hown (mvT hZ (ow hw 45 rfl)) (mvT hZ (ow hw 46 rfl)) (notFace_of_selects (args := #[]) (mvT hZ (ow hw 48 rfl))) (mvT hZ (ow hw 48 rfl)) (mvT hZ (ow hw 47 rfl)) (by decide) (backOf (W := 1) (rm_cod0 l Z a0 hw [] oa vcs vf h0 n0 Z0 Os Fc) hZ (ow hw 49 rfl) (ow hw 5 rfl) (by decide) (by decide)) q3a q3c (g := (mkF m 6 #[.val (.ref oa)] [(.ref oa), (.int 3)])) rfl (by rw [hml]; rfl) (Steps.refl _) (argsL := []) (rest := [(.int 3)]) (lenOf pd_12 rfl) rfl (by exact Nat.le_of_eq rfl) (hb hby d9_6) (fun _ _ => ⟨rfl, e1, (by decide : 0 + 0 ≤ _), (by decide : 0 + 0 ≤ _)⟩)
    dsimp only [Pt.U, Pt.locs, Pt.cells, Pt.slots] at X3 l3 y3 z3 st3 hQ3
    rw [l3, y3, z3] at X3
    obtain ⟨zc, rfl, hzc, N3q, e3⟩ := hQ3
    have N3 := Fr.app N0 N3q
    have pre4 : oP p e below (T3.setTop (mkF m 9 #[.val (.ref oa)] [(.int zc), (.int 3)])) (s₁.setTop (entryFrame m #[(.ref oa)] 1)) := fun t kt => by
      refine pre0 _ ?_
      refine XS.aloadN X0.here hx rfl (hb hby d9_0) rfl rfl ?_
      refine st1 _ ?_
      refine X1.arraylength hx (by rw [e1]; exact Ar2.1) (State.isArrayOf_alike hZ.alike Ar2.2.1) (g := (mkF m 4 #[.val (.ref oa)] [(.ref ob)])) rfl rfl (hb hby d9_4) _ ?_
      rw [len_of S2 M2]
      refine XS.aloadN X1.here hx rfl (hb hby d9_5) rfl rfl ?_
      refine st3.trans ?_
      exact kt
    subst hzc
    have pre5 : oP p e below (T3.setTop (mkF m 9 #[.val (.ref oa)] [(.int 0), (.int 3)])) (s₁.setTop (entryFrame m #[(.ref oa)] 1)) := pre4
    obtain ⟨fs, hr, q1, q2, q3, q4⟩ := X3.leave (v := some (.int 3)) (fun h => by rw [Bd.returns] at h; cases h)
    refine ⟨_, _, pre5 _ ?_, q1, q2, _, _, rfl, ?_, ⟨_, rfl⟩, q3, q4.mono (by decide) (by decide)⟩
    · refine XS.ishr X3.here hx rfl (hb hby d9_9) rfl ?_
      exact retI X3 hx Bd.returns (hb hby d9_10) hr
    · show Q_ln3 Z _ _ _ _ _ _ _ _ h0 n0 _ T3.heap _
      rw [e3]
      exact ⟨_, rfl, rfl, N3, rfl⟩
  · have own_m1 := True.intro
    obtain ⟨T6, X6, e6, st6⟩ := getF X0 hx hZ hown (host := "") (Or.inl (ow hw 30 rfl)) Via.refl e0 Fv (g := (mkF m 1 #[.val (.ref oa)] [(.ref oa)])) rfl rfl (hb hby d9_1)
    obtain ⟨cl7, Ar7, q7, S7, M7, H7, G7⟩ := id Vb
    obtain ⟨cq8, kq8, q8a, q8b, q8c⟩ := isOf hZ e6 Es
    obtain ⟨_, _, ⟨T8, L8, k8, n8⟩, -, X8, ⟨Lc8, hQ8, l8, y8, z8⟩, st8⟩ := X6.virtualBack hx (y := yn19) (z := yn19) hown (mvT hZ (ow hw 45 rfl)) (mvT hZ (ow hw 46 rfl)) (notFace_of_selects (args := #[]) (mvT hZ (ow hw 48 rfl))) (mvT hZ (ow hw 48 rfl)) (mvT hZ (ow hw 47 rfl)) (by decide) (backOf (W := 1) (rm_cod1 l Z a0 hw [] oa vcs vf h0 n0 Z0 Os Fc) hZ (ow hw 49 rfl) (ow hw 5 rfl) (by decide) (by decide)) q8a q8c (g := (mkF m 6 #[.val (.ref oa)] [(.ref oa), (.int 6)])) rfl (by rw [hml]; rfl) (Steps.refl _) (argsL := []) (rest := [(.int 6)]) (lenOf pd_12 rfl) rfl (by exact Nat.le_of_eq rfl) (hb hby d9_6) (fun _ _ => ⟨rfl, e6, (by decide : 0 + 0 ≤ _), (by decide : 0 + 0 ≤ _)⟩)
    dsimp only [Pt.U, Pt.locs, Pt.cells, Pt.slots] at X8 l8 y8 z8 st8 hQ8
    rw [l8, y8, z8] at X8
    obtain ⟨zc, rfl, hzc, N8q, e8⟩ := hQ8
    have N8 := Fr.app N0 N8q
    have pre9 : oP p e below (T8.setTop (mkF m 9 #[.val (.ref oa)] [(.int zc), (.int 6)])) (s₁.setTop (entryFrame m #[(.ref oa)] 1)) := fun t kt => by
      refine pre0 _ ?_
      refine XS.aloadN X0.here hx rfl (hb hby d9_0) rfl rfl ?_
      refine st6 _ ?_
      refine X6.arraylength hx (by rw [e6]; exact Ar7.1) (State.isArrayOf_alike hZ.alike Ar7.2.1) (g := (mkF m 4 #[.val (.ref oa)] [(.ref ob)])) rfl rfl (hb hby d9_4) _ ?_
      rw [len_of S7 M7]
      refine XS.aloadN X6.here hx rfl (hb hby d9_5) rfl rfl ?_
      refine st8.trans ?_
      exact kt
    subst hzc
    have pre10 : oP p e below (T8.setTop (mkF m 9 #[.val (.ref oa)] [(.int 1), (.int 6)])) (s₁.setTop (entryFrame m #[(.ref oa)] 1)) := pre9
    obtain ⟨fs, hr, q1, q2, q3, q4⟩ := X8.leave (v := some (.int 3)) (fun h => by rw [Bd.returns] at h; cases h)
    refine ⟨_, _, pre10 _ ?_, q1, q2, _, _, rfl, ?_, ⟨_, rfl⟩, q3, q4.mono (by decide) (by decide)⟩
    · refine XS.ishr X8.here hx rfl (hb hby d9_9) rfl ?_
      exact retI X8 hx Bd.returns (hb hby d9_10) hr
    · show Q_ln3 Z _ _ _ _ _ _ _ _ h0 n0 _ T8.heap _
      rw [e8]
      exact ⟨_, rfl, rfl, N8, rfl⟩
theorem ef_rm_ca3_1 (m : MethodId) (x0 : Addr) : entryFrame m #[(.ref x0), (.int 1)] 2 = mkF m 0 #[.val (.ref x0), .val (.int 1)] [] := by first | (simp [entryFrame, mkF, argsToLocals, Value.category]; done) | rfl
def Q_ca3_1 (Z : State) (oa : Addr) (vcs : Int32) (vf : Value) (ob : Addr) (kb : ClassId) (c0 : Int32) (c1 : Int32) (c2 : Int32) (h0 : Heap) (n0 : Nat) (v : Option Value) (h : Heap) (L : List Loc) : Prop := ∃ z : Int32, v = some (.int z) ∧ (z.toInt = c1.toInt) ∧ Fr n0 L ∧ h = h0
theorem rm_ca3_1 (l : Launch) (Z : State) (a0 : Array Value) (hw : ∀ d ∈ tables_1, d.before a0 Z = true) (ws : List Jvm.Cond) (oa : Addr) (vcs : Int32) (vf : Value) (ob : Addr) (kb : ClassId) (c0 : Int32) (c1 : Int32) (c2 : Int32) (h0 : Heap) (n0 : Nat) (Z0 : n0 ≤ h0.size) (Os : own_st Z h0 vcs vf) (Sx : own_s3 Z h0 oa ob kb c0 c1 c2) :
    MetFree l yn21 (head1 (Jvm.Cond.code yn21 jdk_42_method_56_code 2 (some .char) :: ws) ⟨4, 0, 0, 53⟩) (fun a U => a = #[(.ref oa), (.int 1)] ∧ Z.Warmed39 U.vm ∧ U.heap = h0) (fun _ _ _ _ _ => True) (fun _ U o U' => ∃ v L, o = .returned v ∧ Q_ca3_1 Z oa vcs vf ob kb c0 c1 c2 h0 n0 v U'.heap L ∧ FrameEnd U o U' L 0 0) := by
  refine MetFree.of_bodySF (plainFor_of_name pn_3) hisR ?_
  intro p e s m args below meth c s₁ Bd hml0 hP hK
  obtain ⟨rfl, hZ, hh⟩ := hP
  have hx := Bd.exec
  have hby := Bd.bytes
  have hml : c.maxLocals = 2 := hml0
  have hown : s.vm.findClass "java/lang/String" = some m.cls := findClass_of_methodNamed Bd.named
  have hnm := (name_of_methodNamed Bd.named Bd.method).1
  have X0 : Stand p l e ⟨4, 0, 0, 53⟩ s m #[(.ref oa), (.int 1)] below meth c s₁ [] 0 0 := Stand.of_body Bd
  have e0 : s₁.heap = h0 := by rw [← hh, Bd.state]; rfl
  have N0 := Fr.nil n0
  have pre0 : oP p e below (s₁.setTop (mkF m 0 #[.val (.ref oa), .val (.int 1)] [])) (s₁.setTop (entryFrame m #[(.ref oa), (.int 1)] 2)) := fun t k => castTop (ef_rm_ca3_1 m oa) k
  obtain ⟨Es, Fv, hO⟩ := id Sx
  rcases hO with ⟨Fc, hall, bb0, bb1, bb2, Vb, qbb0, qbb1, qbb2⟩ | ⟨Fc, hall, lo0, hi0, lo1, hi1, lo2, hi2, Vb, qlo0, qhi0, qlo1, qhi1, qlo2, qhi2⟩
  · have own_m0 := True.intro
    obtain ⟨cq1, kq1, q1a, q1b, q1c⟩ := isOf hZ e0 Es
    obtain ⟨_, _, ⟨T1, L1, k1, n1⟩, -, X1, ⟨Lc1, hQ1, l1, y1, z1⟩, st1⟩ := X0.virtualBack hx (y := yn15) (z := yn15) hown (mvT hZ (ow hw 77 rfl)) (mvT hZ (ow hw 78 rfl)) (notFace_of_selects (args := #[]) (mvT hZ (ow hw 80 rfl))) (mvT hZ (ow hw 80 rfl)) (mvT hZ (ow hw 79 rfl)) (by decide) (backOf (W := 0) (rm_lat0 l Z a0 hw [] oa vcs vf h0 n0 Z0 Os Fc) hZ (ow hw 81 rfl) (ow hw 5 rfl) (by decide) (by decide)) q1a q1c (g := (mkF m 1 #[.val (.ref oa), .val (.int 1)] [(.ref oa)])) rfl (by rw [hml]; rfl) (Steps.refl _) (argsL := []) (rest := []) (lenOf pd_13 rfl) rfl (by exact Nat.le_of_eq rfl) (hb hby d17_1) (fun _ _ => ⟨rfl, e0, (by decide : 0 + 0 ≤ _), (by decide : 0 + 0 ≤ _)⟩)
    dsimp only [Pt.U, Pt.locs, Pt.cells, Pt.slots] at X1 l1 y1 z1 st1 hQ1
    rw [l1, y1, z1] at X1
    obtain ⟨zl1, rfl, hzl1, N1q, e1⟩ := hQ1
    have N1 := Fr.app N0 N1q
    have pre2 : oP p e below (T1.setTop (mkF m 4 #[.val (.ref oa), .val (.int 1)] [(.int zl1)])) (s₁.setTop (entryFrame m #[(.ref oa), (.int 1)] 2)) := fun t kt => by
      refine pre0 _ ?_
      refine XS.aloadN X0.here hx rfl (hb hby d17_0) rfl rfl ?_
      refine st1.trans ?_
      exact kt
    subst hzl1
    have pre3 : oP p e below (T1.setTop (mkF m 4 #[.val (.ref oa), .val (.int 1)] [(.int 1)])) (s₁.setTop (entryFrame m #[(.ref oa), (.int 1)] 2)) := pre2
    have hc4_4 : ¬ ((1 : Int) = (0 : Int)) := by decide
    obtain ⟨T5, X5, e5, st5⟩ := getF X1 hx hZ hown (host := "") (Or.inl (ow hw 30 rfl)) Via.refl e1 Fv (g := (mkF m 8 #[.val (.ref oa), .val (.int 1)] [(.ref oa)])) rfl rfl (hb hby d17_8)
    obtain ⟨_, _, ⟨T6, L6, k6, n6⟩, -, X6, ⟨Lc6, hQ6, l6, y6, z6⟩, st6⟩ := Jvm.LawKit.callS X5 hx (y := yn16) hown (mvT hZ (ow hw 102 rfl)) (mvT hZ (ow hw 103 rfl)) (mvT hZ (ow hw 104 rfl)) (mvT hZ (ow hw 105 rfl)) (by decide) (backOf (W := 0) (rm_l1ch l Z a0 hw [] ob (1 : Int32) vcs vf kb (3 : Int32) [(.int bb0), (.int bb1), (.int bb2)] bb1 h0 n0 Z0 Os Vb (by decide) (by decide) rfl) hZ (ow hw 105 rfl) (ow hw 104 rfl) (by decide) (by decide)) (g := (mkF m 12 #[.val (.ref oa), .val (.int 1)] [(.int 1), (.ref ob)])) rfl (by rw [hml]; rfl) (argsL := [(.ref ob), (.int 1)]) (rest := []) (lenOf pd_5 rfl) rfl (by exact Nat.le_of_eq rfl) (hb hby d17_12) (fun _ _ => ⟨rfl, e5, (by decide : 0 + 0 ≤ _), (by decide : 0 + 0 ≤ _)⟩)
    dsimp only [Pt.U, Pt.locs, Pt.cells, Pt.slots] at X6 l6 y6 z6 st6 hQ6
    rw [l6, y6, z6] at X6
    obtain ⟨zr, rfl, hzr, N6q, e6⟩ := hQ6
    have N6 := Fr.app N1 N6q
    obtain ⟨fs, hr, q1, q2, q3, q4⟩ := X6.leave (v := some (.int (nar .char zr))) (fun h => by rw [Bd.returns] at h; cases h)
    refine ⟨_, _, pre3 _ ?_, q1, q2, _, _, rfl, ?_, ⟨_, rfl⟩, q3, q4.mono (by decide) (by decide)⟩
    · refine XS.ifNo X1.here hx rfl (hb hby d17_4) rfl (own_if (own_feq (a := (1 : Int32)) (b := (0 : Int32)) (by decide) (by decide) hc4_4).1) ?_
      refine XS.aloadN X1.here hx rfl (hb hby d17_7) rfl rfl ?_
      refine st5 _ ?_
      refine XS.iloadN X5.here hx rfl (hb hby d17_11) rfl ?_
      refine st6 _ ?_
      exact retN X6 hx (t := .char) Bd.returns (by simp) (hb hby d17_15) hr
    · show Q_ca3_1 Z _ _ _ _ _ _ _ _ h0 n0 _ T6.heap _
      rw [e6]
      exact ⟨_, rfl, by rw [own_narcZ, hzr]; omega, N6, rfl⟩
  · have own_m1 := True.intro
    obtain ⟨cq7, kq7, q7a, q7b, q7c⟩ := isOf hZ e0 Es
    obtain ⟨_, _, ⟨T7, L7, k7, n7⟩, -, X7, ⟨Lc7, hQ7, l7, y7, z7⟩, st7⟩ := X0.virtualBack hx (y := yn15) (z := yn15) hown (mvT hZ (ow hw 77 rfl)) (mvT hZ (ow hw 78 rfl)) (notFace_of_selects (args := #[]) (mvT hZ (ow hw 80 rfl))) (mvT hZ (ow hw 80 rfl)) (mvT hZ (ow hw 79 rfl)) (by decide) (backOf (W := 0) (rm_lat1 l Z a0 hw [] oa vcs vf h0 n0 Z0 Os Fc) hZ (ow hw 81 rfl) (ow hw 5 rfl) (by decide) (by decide)) q7a q7c (g := (mkF m 1 #[.val (.ref oa), .val (.int 1)] [(.ref oa)])) rfl (by rw [hml]; rfl) (Steps.refl _) (argsL := []) (rest := []) (lenOf pd_13 rfl) rfl (by exact Nat.le_of_eq rfl) (hb hby d17_1) (fun _ _ => ⟨rfl, e0, (by decide : 0 + 0 ≤ _), (by decide : 0 + 0 ≤ _)⟩)
    dsimp only [Pt.U, Pt.locs, Pt.cells, Pt.slots] at X7 l7 y7 z7 st7 hQ7
    rw [l7, y7, z7] at X7
    obtain ⟨zl1, rfl, hzl1, N7q, e7⟩ := hQ7
    have N7 := Fr.app N0 N7q
    have pre8 : oP p e below (T7.setTop (mkF m 4 #[.val (.ref oa), .val (.int 1)] [(.int zl1)])) (s₁.setTop (entryFrame m #[(.ref oa), (.int 1)] 2)) := fun t kt => by
      refine pre0 _ ?_
      refine XS.aloadN X0.here hx rfl (hb hby d17_0) rfl rfl ?_
      refine st7.trans ?_
      exact kt
    subst hzl1
    have pre9 : oP p e below (T7.setTop (mkF m 4 #[.val (.ref oa), .val (.int 1)] [(.int 0)])) (s₁.setTop (entryFrame m #[(.ref oa), (.int 1)] 2)) := pre8
    have hc4_10 : (0 : Int) = (0 : Int) := by decide
    obtain ⟨T11, X11, e11, st11⟩ := getF X7 hx hZ hown (host := "") (Or.inl (ow hw 30 rfl)) Via.refl e7 Fv (g := (mkF m 17 #[.val (.ref oa), .val (.int 1)] [(.ref oa)])) rfl rfl (hb hby d17_17)
    obtain ⟨_, _, ⟨T12, L12, k12, n12⟩, -, X12, ⟨Lc12, hQ12, l12, y12, z12⟩, st12⟩ := Jvm.LawKit.callS X11 hx (y := yn18) hown (mvT hZ (ow hw 82 rfl)) (mvT hZ (ow hw 83 rfl)) (mvT hZ (ow hw 19 rfl)) (mvT hZ (ow hw 84 rfl)) (by decide) (backOf (W := 0) (rm_uch l Z a0 hw [] ob (1 : Int32) vcs vf kb (6 : Int32) [(.int lo0), (.int hi0), (.int lo1), (.int hi1), (.int lo2), (.int hi2)] lo1 hi1 1 h0 n0 Z0 Os Vb (by decide) (by decide) (by decide) rfl rfl) hZ (ow hw 84 rfl) (ow hw 19 rfl) (by decide) (by decide)) (g := (mkF m 21 #[.val (.ref oa), .val (.int 1)] [(.int 1), (.ref ob)])) rfl (by rw [hml]; rfl) (argsL := [(.ref ob), (.int 1)]) (rest := []) (lenOf pd_5 rfl) rfl (by exact Nat.le_of_eq rfl) (hb hby d17_21) (fun _ _ => ⟨rfl, e11, (by decide : 0 + 0 ≤ _), (by decide : 0 + 0 ≤ _)⟩)
    dsimp only [Pt.U, Pt.locs, Pt.cells, Pt.slots] at X12 l12 y12 z12 st12 hQ12
    rw [l12, y12, z12] at X12
    obtain ⟨zr, rfl, hzr, N12q, e12⟩ := hQ12
    have N12 := Fr.app N7 N12q
    obtain ⟨fs, hr, q1, q2, q3, q4⟩ := X12.leave (v := some (.int (nar .char zr))) (fun h => by rw [Bd.returns] at h; cases h)
    refine ⟨_, _, pre9 _ ?_, q1, q2, _, _, rfl, ?_, ⟨_, rfl⟩, q3, q4.mono (by decide) (by decide)⟩
    · refine XS.ifYes X7.here hx rfl (pc0 := 4) (pc' := 16) rfl (hb hby d17_4) rfl (own_if (own_teq (a := (0 : Int32)) (b := (0 : Int32)) (by decide) (by decide) hc4_10).1) (by decide) (by decide) ?_
      refine XS.aloadN X7.here hx rfl (hb hby d17_16) rfl rfl ?_
      refine st11 _ ?_
      refine XS.iloadN X11.here hx rfl (hb hby d17_20) rfl ?_
      refine st12 _ ?_
      exact retN X12 hx (t := .char) Bd.returns (by simp) (hb hby d17_24) hr
    · show Q_ca3_1 Z _ _ _ _ _ _ _ _ h0 n0 _ T12.heap _
      rw [e12]
      exact ⟨_, rfl, by rw [own_narcZ, hzr]; omega, N12, rfl⟩
theorem ef_rm_ca3_2 (m : MethodId) (x0 : Addr) : entryFrame m #[(.ref x0), (.int 2)] 2 = mkF m 0 #[.val (.ref x0), .val (.int 2)] [] := by first | (simp [entryFrame, mkF, argsToLocals, Value.category]; done) | rfl
def Q_ca3_2 (Z : State) (oa : Addr) (vcs : Int32) (vf : Value) (ob : Addr) (kb : ClassId) (c0 : Int32) (c1 : Int32) (c2 : Int32) (h0 : Heap) (n0 : Nat) (v : Option Value) (h : Heap) (L : List Loc) : Prop := ∃ z : Int32, v = some (.int z) ∧ (z.toInt = c2.toInt) ∧ Fr n0 L ∧ h = h0
theorem rm_ca3_2 (l : Launch) (Z : State) (a0 : Array Value) (hw : ∀ d ∈ tables_1, d.before a0 Z = true) (ws : List Jvm.Cond) (oa : Addr) (vcs : Int32) (vf : Value) (ob : Addr) (kb : ClassId) (c0 : Int32) (c1 : Int32) (c2 : Int32) (h0 : Heap) (n0 : Nat) (Z0 : n0 ≤ h0.size) (Os : own_st Z h0 vcs vf) (Sx : own_s3 Z h0 oa ob kb c0 c1 c2) :
    MetFree l yn21 (head1 (Jvm.Cond.code yn21 jdk_42_method_56_code 2 (some .char) :: ws) ⟨4, 0, 0, 53⟩) (fun a U => a = #[(.ref oa), (.int 2)] ∧ Z.Warmed39 U.vm ∧ U.heap = h0) (fun _ _ _ _ _ => True) (fun _ U o U' => ∃ v L, o = .returned v ∧ Q_ca3_2 Z oa vcs vf ob kb c0 c1 c2 h0 n0 v U'.heap L ∧ FrameEnd U o U' L 0 0) := by
  refine MetFree.of_bodySF (plainFor_of_name pn_3) hisR ?_
  intro p e s m args below meth c s₁ Bd hml0 hP hK
  obtain ⟨rfl, hZ, hh⟩ := hP
  have hx := Bd.exec
  have hby := Bd.bytes
  have hml : c.maxLocals = 2 := hml0
  have hown : s.vm.findClass "java/lang/String" = some m.cls := findClass_of_methodNamed Bd.named
  have hnm := (name_of_methodNamed Bd.named Bd.method).1
  have X0 : Stand p l e ⟨4, 0, 0, 53⟩ s m #[(.ref oa), (.int 2)] below meth c s₁ [] 0 0 := Stand.of_body Bd
  have e0 : s₁.heap = h0 := by rw [← hh, Bd.state]; rfl
  have N0 := Fr.nil n0
  have pre0 : oP p e below (s₁.setTop (mkF m 0 #[.val (.ref oa), .val (.int 2)] [])) (s₁.setTop (entryFrame m #[(.ref oa), (.int 2)] 2)) := fun t k => castTop (ef_rm_ca3_2 m oa) k
  obtain ⟨Es, Fv, hO⟩ := id Sx
  rcases hO with ⟨Fc, hall, bb0, bb1, bb2, Vb, qbb0, qbb1, qbb2⟩ | ⟨Fc, hall, lo0, hi0, lo1, hi1, lo2, hi2, Vb, qlo0, qhi0, qlo1, qhi1, qlo2, qhi2⟩
  · have own_m0 := True.intro
    obtain ⟨cq1, kq1, q1a, q1b, q1c⟩ := isOf hZ e0 Es
    obtain ⟨_, _, ⟨T1, L1, k1, n1⟩, -, X1, ⟨Lc1, hQ1, l1, y1, z1⟩, st1⟩ := X0.virtualBack hx (y := yn15) (z := yn15) hown (mvT hZ (ow hw 77 rfl)) (mvT hZ (ow hw 78 rfl)) (notFace_of_selects (args := #[]) (mvT hZ (ow hw 80 rfl))) (mvT hZ (ow hw 80 rfl)) (mvT hZ (ow hw 79 rfl)) (by decide) (backOf (W := 0) (rm_lat0 l Z a0 hw [] oa vcs vf h0 n0 Z0 Os Fc) hZ (ow hw 81 rfl) (ow hw 5 rfl) (by decide) (by decide)) q1a q1c (g := (mkF m 1 #[.val (.ref oa), .val (.int 2)] [(.ref oa)])) rfl (by rw [hml]; rfl) (Steps.refl _) (argsL := []) (rest := []) (lenOf pd_13 rfl) rfl (by exact Nat.le_of_eq rfl) (hb hby d17_1) (fun _ _ => ⟨rfl, e0, (by decide : 0 + 0 ≤ _), (by decide : 0 + 0 ≤ _)⟩)
    dsimp only [Pt.U, Pt.locs, Pt.cells, Pt.slots] at X1 l1 y1 z1 st1 hQ1
    rw [l1, y1, z1] at X1
    obtain ⟨zl1, rfl, hzl1, N1q, e1⟩ := hQ1
    have N1 := Fr.app N0 N1q
    have pre2 : oP p e below (T1.setTop (mkF m 4 #[.val (.ref oa), .val (.int 2)] [(.int zl1)])) (s₁.setTop (entryFrame m #[(.ref oa), (.int 2)] 2)) := fun t kt => by
      refine pre0 _ ?_
      refine XS.aloadN X0.here hx rfl (hb hby d17_0) rfl rfl ?_
      refine st1.trans ?_
      exact kt
    subst hzl1
    have pre3 : oP p e below (T1.setTop (mkF m 4 #[.val (.ref oa), .val (.int 2)] [(.int 1)])) (s₁.setTop (entryFrame m #[(.ref oa), (.int 2)] 2)) := pre2
    have hc4_4 : ¬ ((1 : Int) = (0 : Int)) := by decide
    obtain ⟨T5, X5, e5, st5⟩ := getF X1 hx hZ hown (host := "") (Or.inl (ow hw 30 rfl)) Via.refl e1 Fv (g := (mkF m 8 #[.val (.ref oa), .val (.int 2)] [(.ref oa)])) rfl rfl (hb hby d17_8)
    obtain ⟨_, _, ⟨T6, L6, k6, n6⟩, -, X6, ⟨Lc6, hQ6, l6, y6, z6⟩, st6⟩ := Jvm.LawKit.callS X5 hx (y := yn16) hown (mvT hZ (ow hw 102 rfl)) (mvT hZ (ow hw 103 rfl)) (mvT hZ (ow hw 104 rfl)) (mvT hZ (ow hw 105 rfl)) (by decide) (backOf (W := 0) (rm_l1ch l Z a0 hw [] ob (2 : Int32) vcs vf kb (3 : Int32) [(.int bb0), (.int bb1), (.int bb2)] bb2 h0 n0 Z0 Os Vb (by decide) (by decide) rfl) hZ (ow hw 105 rfl) (ow hw 104 rfl) (by decide) (by decide)) (g := (mkF m 12 #[.val (.ref oa), .val (.int 2)] [(.int 2), (.ref ob)])) rfl (by rw [hml]; rfl) (argsL := [(.ref ob), (.int 2)]) (rest := []) (lenOf pd_5 rfl) rfl (by exact Nat.le_of_eq rfl) (hb hby d17_12) (fun _ _ => ⟨rfl, e5, (by decide : 0 + 0 ≤ _), (by decide : 0 + 0 ≤ _)⟩)
    dsimp only [Pt.U, Pt.locs, Pt.cells, Pt.slots] at X6 l6 y6 z6 st6 hQ6
    rw [l6, y6, z6] at X6
    obtain ⟨zr, rfl, hzr, N6q, e6⟩ := hQ6
    have N6 := Fr.app N1 N6q
    obtain ⟨fs, hr, q1, q2, q3, q4⟩ := X6.leave (v := some (.int (nar .char zr))) (fun h => by rw [Bd.returns] at h; cases h)
    refine ⟨_, _, pre3 _ ?_, q1, q2, _, _, rfl, ?_, ⟨_, rfl⟩, q3, q4.mono (by decide) (by decide)⟩
    · refine XS.ifNo X1.here hx rfl (hb hby d17_4) rfl (own_if (own_feq (a := (1 : Int32)) (b := (0 : Int32)) (by decide) (by decide) hc4_4).1) ?_
      refine XS.aloadN X1.here hx rfl (hb hby d17_7) rfl rfl ?_
      refine st5 _ ?_
      refine XS.iloadN X5.here hx rfl (hb hby d17_11) rfl ?_
      refine st6 _ ?_
      exact retN X6 hx (t := .char) Bd.returns (by simp) (hb hby d17_15) hr
    · show Q_ca3_2 Z _ _ _ _ _ _ _ _ h0 n0 _ T6.heap _
      rw [e6]
      exact ⟨_, rfl, by rw [own_narcZ, hzr]; omega, N6, rfl⟩
  · have own_m1 := True.intro
    obtain ⟨cq7, kq7, q7a, q7b, q7c⟩ := isOf hZ e0 Es
    obtain ⟨_, _, ⟨T7, L7, k7, n7⟩, -, X7, ⟨Lc7, hQ7, l7, y7, z7⟩, st7⟩ := X0.virtualBack hx (y := yn15) (z := yn15) hown (mvT hZ (ow hw 77 rfl)) (mvT hZ (ow hw 78 rfl)) (notFace_of_selects (args := #[]) (mvT hZ (ow hw 80 rfl))) (mvT hZ (ow hw 80 rfl)) (mvT hZ (ow hw 79 rfl)) (by decide) (backOf (W := 0) (rm_lat1 l Z a0 hw [] oa vcs vf h0 n0 Z0 Os Fc) hZ (ow hw 81 rfl) (ow hw 5 rfl) (by decide) (by decide)) q7a q7c (g := (mkF m 1 #[.val (.ref oa), .val (.int 2)] [(.ref oa)])) rfl (by rw [hml]; rfl) (Steps.refl _) (argsL := []) (rest := []) (lenOf pd_13 rfl) rfl (by exact Nat.le_of_eq rfl) (hb hby d17_1) (fun _ _ => ⟨rfl, e0, (by decide : 0 + 0 ≤ _), (by decide : 0 + 0 ≤ _)⟩)
    dsimp only [Pt.U, Pt.locs, Pt.cells, Pt.slots] at X7 l7 y7 z7 st7 hQ7
    rw [l7, y7, z7] at X7
    obtain ⟨zl1, rfl, hzl1, N7q, e7⟩ := hQ7
    have N7 := Fr.app N0 N7q
    have pre8 : oP p e below (T7.setTop (mkF m 4 #[.val (.ref oa), .val (.int 2)] [(.int zl1)])) (s₁.setTop (entryFrame m #[(.ref oa), (.int 2)] 2)) := fun t kt => by
      refine pre0 _ ?_
      refine XS.aloadN X0.here hx rfl (hb hby d17_0) rfl rfl ?_
      refine st7.trans ?_
      exact kt
    subst hzl1
    have pre9 : oP p e below (T7.setTop (mkF m 4 #[.val (.ref oa), .val (.int 2)] [(.int 0)])) (s₁.setTop (entryFrame m #[(.ref oa), (.int 2)] 2)) := pre8
    have hc4_10 : (0 : Int) = (0 : Int) := by decide
    obtain ⟨T11, X11, e11, st11⟩ := getF X7 hx hZ hown (host := "") (Or.inl (ow hw 30 rfl)) Via.refl e7 Fv (g := (mkF m 17 #[.val (.ref oa), .val (.int 2)] [(.ref oa)])) rfl rfl (hb hby d17_17)
    obtain ⟨_, _, ⟨T12, L12, k12, n12⟩, -, X12, ⟨Lc12, hQ12, l12, y12, z12⟩, st12⟩ := Jvm.LawKit.callS X11 hx (y := yn18) hown (mvT hZ (ow hw 82 rfl)) (mvT hZ (ow hw 83 rfl)) (mvT hZ (ow hw 19 rfl)) (mvT hZ (ow hw 84 rfl)) (by decide) (backOf (W := 0) (rm_uch l Z a0 hw [] ob (2 : Int32) vcs vf kb (6 : Int32) [(.int lo0), (.int hi0), (.int lo1), (.int hi1), (.int lo2), (.int hi2)] lo2 hi2 2 h0 n0 Z0 Os Vb (by decide) (by decide) (by decide) rfl rfl) hZ (ow hw 84 rfl) (ow hw 19 rfl) (by decide) (by decide)) (g := (mkF m 21 #[.val (.ref oa), .val (.int 2)] [(.int 2), (.ref ob)])) rfl (by rw [hml]; rfl) (argsL := [(.ref ob), (.int 2)]) (rest := []) (lenOf pd_5 rfl) rfl (by exact Nat.le_of_eq rfl) (hb hby d17_21) (fun _ _ => ⟨rfl, e11, (by decide : 0 + 0 ≤ _), (by decide : 0 + 0 ≤ _)⟩)
    dsimp only [Pt.U, Pt.locs, Pt.cells, Pt.slots] at X12 l12 y12 z12 st12 hQ12
    rw [l12, y12, z12] at X12
    obtain ⟨zr, rfl, hzr, N12q, e12⟩ := hQ12
    have N12 := Fr.app N7 N12q
    obtain ⟨fs, hr, q1, q2, q3, q4⟩ := X12.leave (v := some (.int (nar .char zr))) (fun h => by rw [Bd.returns] at h; cases h)
    refine ⟨_, _, pre9 _ ?_, q1, q2, _, _, rfl, ?_, ⟨_, rfl⟩, q3, q4.mono (by decide) (by decide)⟩
    · refine XS.ifYes X7.here hx rfl (pc0 := 4) (pc' := 16) rfl (hb hby d17_4) rfl (own_if (own_teq (a := (0 : Int32)) (b := (0 : Int32)) (by decide) (by decide) hc4_10).1) (by decide) (by decide) ?_
      refine XS.aloadN X7.here hx rfl (hb hby d17_16) rfl rfl ?_
      refine st11 _ ?_
      refine XS.iloadN X11.here hx rfl (hb hby d17_20) rfl ?_
      refine st12 _ ?_
      exact retN X12 hx (t := .char) Bd.returns (by simp) (hb hby d17_24) hr
    · show Q_ca3_2 Z _ _ _ _ _ _ _ _ h0 n0 _ T12.heap _
      rw [e12]
      exact ⟨_, rfl, by rw [own_narcZ, hzr]; omega, N12, rfl⟩
def own_s4 (Z : State) (h : Heap) (oa ob : Addr) (kb : ClassId) (c0 c1 c2 c3 : Int32) : Prop := Exa Z h oa "java/lang/String" ∧ Fld Z h oa "java/lang/String" "value" "[B" (.ref ob) ∧ ((Fld Z h oa "java/lang/String" "coder" "B" (.int 0) ∧ ((c0.toInt ≤ 255 ∧ c1.toInt ≤ 255 ∧ c2.toInt ≤ 255 ∧ c3.toInt ≤ 255) ∧ ∃ bb0 bb1 bb2 bb3 : Int32, Arv Z h ob kb .byte (4 : Int32) [(.int bb0), (.int bb1), (.int bb2), (.int bb3)] (.int 0) ∧ bb0.toInt % 256 = c0.toInt ∧ bb1.toInt % 256 = c1.toInt ∧ bb2.toInt % 256 = c2.toInt ∧ bb3.toInt % 256 = c3.toInt)) ∨ (Fld Z h oa "java/lang/String" "coder" "B" (.int 1) ∧ (¬ (c0.toInt ≤ 255 ∧ c1.toInt ≤ 255 ∧ c2.toInt ≤ 255 ∧ c3.toInt ≤ 255) ∧ ∃ lo0 hi0 lo1 hi1 lo2 hi2 lo3 hi3 : Int32, Arv Z h ob kb .byte (8 : Int32) [(.int lo0), (.int hi0), (.int lo1), (.int hi1), (.int lo2), (.int hi2), (.int lo3), (.int hi3)] (.int 0) ∧ lo0.toInt % 256 = c0.toInt % 256 ∧ hi0.toInt % 256 = c0.toInt / 256 ∧ lo1.toInt % 256 = c1.toInt % 256 ∧ hi1.toInt % 256 = c1.toInt / 256 ∧ lo2.toInt % 256 = c2.toInt % 256 ∧ hi2.toInt % 256 = c2.toInt / 256 ∧ lo3.toInt % 256 = c3.toInt % 256 ∧ hi3.toInt % 256 = c3.toInt / 256)))
theorem ef_rm_ln4 (m : MethodId) (x0 : Addr) : entryFrame m #[(.ref x0)] 1 = mkF m 0 #[.val (.ref x0)] [] := by first | (simp [entryFrame, mkF, argsToLocals, Value.category]; done) | rfl
def Q_ln4 (Z : State) (oa : Addr) (vcs : Int32) (vf : Value) (ob : Addr) (kb : ClassId) (c0 : Int32) (c1 : Int32) (c2 : Int32) (c3 : Int32) (h0 : Heap) (n0 : Nat) (v : Option Value) (h : Heap) (L : List Loc) : Prop := ∃ z : Int32, v = some (.int z) ∧ (z = (4 : Int32)) ∧ Fr n0 L ∧ h = h0
theorem rm_ln4 (l : Launch) (Z : State) (a0 : Array Value) (hw : ∀ d ∈ tables_1, d.before a0 Z = true) (ws : List Jvm.Cond) (oa : Addr) (vcs : Int32) (vf : Value) (ob : Addr) (kb : ClassId) (c0 : Int32) (c1 : Int32) (c2 : Int32) (c3 : Int32) (h0 : Heap) (n0 : Nat) (Z0 : n0 ≤ h0.size) (Os : own_st Z h0 vcs vf) (Sx : own_s4 Z h0 oa ob kb c0 c1 c2 c3) :
    MetFree l yn20 (head1 (Jvm.Cond.code yn20 jdk_42_method_54_code 1 (some .int) :: ws) ⟨1, 0, 0, 13⟩) (fun a U => a = #[(.ref oa)] ∧ Z.Warmed39 U.vm ∧ U.heap = h0) (fun _ _ _ _ _ => True) (fun _ U o U' => ∃ v L, o = .returned v ∧ Q_ln4 Z oa vcs vf ob kb c0 c1 c2 c3 h0 n0 v U'.heap L ∧ FrameEnd U o U' L 0 0) := by
  refine MetFree.of_bodySF (plainFor_of_name pn_3) hisR ?_
  intro p e s m args below meth c s₁ Bd hml0 hP hK
  obtain ⟨rfl, hZ, hh⟩ := hP
  have hx := Bd.exec
  have hby := Bd.bytes
  have hml : c.maxLocals = 1 := hml0
  have hown : s.vm.findClass "java/lang/String" = some m.cls := findClass_of_methodNamed Bd.named
  have hnm := (name_of_methodNamed Bd.named Bd.method).1
  have X0 : Stand p l e ⟨1, 0, 0, 13⟩ s m #[(.ref oa)] below meth c s₁ [] 0 0 := Stand.of_body Bd
  have e0 : s₁.heap = h0 := by rw [← hh, Bd.state]; rfl
  have N0 := Fr.nil n0
  have pre0 : oP p e below (s₁.setTop (mkF m 0 #[.val (.ref oa)] [])) (s₁.setTop (entryFrame m #[(.ref oa)] 1)) := fun t k => castTop (ef_rm_ln4 m oa) k
  obtain ⟨Es, Fv, hO⟩ := id Sx
  rcases hO with ⟨Fc, hall, bb0, bb1, bb2, bb3, Vb, qbb0, qbb1, qbb2, qbb3⟩ | ⟨Fc, hall, lo0, hi0, lo1, hi1, lo2, hi2, lo3, hi3, Vb, qlo0, qhi0, qlo1, qhi1, qlo2, qhi2, qlo3, qhi3⟩
  · have own_m0 := True.intro
    obtain ⟨T1, X1, e1, st1⟩ := getF X0 hx hZ hown (host := "") (Or.inl (ow hw 30 rfl)) Via.refl e0 Fv (g := (mkF m 1 #[.val (.ref oa)] [(.ref oa)])) rfl rfl (hb hby d9_1)
    obtain ⟨cl2, Ar2, q2, S2, M2, H2, G2⟩ := id Vb
    obtain ⟨cq3, kq3, q3a, q3b, q3c⟩ := isOf hZ e1 Es
    obtain ⟨_, _, ⟨T3, L3, k3, n3⟩, -, X3, ⟨Lc3, hQ3, l3, y3, z3⟩, st3⟩ := X1.virtualBack hx (y := yn19) (z := yn19) hown (mvT hZ (ow hw 45 rfl)) (mvT hZ (ow hw 46 rfl)) (notFace_of_selects (args := #[]) (mvT hZ (ow hw 48 rfl))) (mvT hZ (ow hw 48 rfl)) (mvT hZ (ow hw 47 rfl)) (by decide) (backOf (W := 1) (rm_cod0 l Z a0 hw [] oa vcs vf h0 n0 Z0 Os Fc) hZ (ow hw 49 rfl) (ow hw 5 rfl) (by decide) (by decide)) q3a q3c (g := (mkF m 6 #[.val (.ref oa)] [(.ref oa), (.int 4)])) rfl (by rw [hml]; rfl) (Steps.refl _) (argsL := []) (rest := [(.int 4)]) (lenOf pd_12 rfl) rfl (by exact Nat.le_of_eq rfl) (hb hby d9_6) (fun _ _ => ⟨rfl, e1, (by decide : 0 + 0 ≤ _), (by decide : 0 + 0 ≤ _)⟩)
    dsimp only [Pt.U, Pt.locs, Pt.cells, Pt.slots] at X3 l3 y3 z3 st3 hQ3
    rw [l3, y3, z3] at X3
    obtain ⟨zc, rfl, hzc, N3q, e3⟩ := hQ3
    have N3 := Fr.app N0 N3q
    have pre4 : oP p e below (T3.setTop (mkF m 9 #[.val (.ref oa)] [(.int zc), (.int 4)])) (s₁.setTop (entryFrame m #[(.ref oa)] 1)) := fun t kt => by
      refine pre0 _ ?_
      refine XS.aloadN X0.here hx rfl (hb hby d9_0) rfl rfl ?_
      refine st1 _ ?_
      refine X1.arraylength hx (by rw [e1]; exact Ar2.1) (State.isArrayOf_alike hZ.alike Ar2.2.1) (g := (mkF m 4 #[.val (.ref oa)] [(.ref ob)])) rfl rfl (hb hby d9_4) _ ?_
      rw [len_of S2 M2]
      refine XS.aloadN X1.here hx rfl (hb hby d9_5) rfl rfl ?_
      refine st3.trans ?_
      exact kt
    subst hzc
    have pre5 : oP p e below (T3.setTop (mkF m 9 #[.val (.ref oa)] [(.int 0), (.int 4)])) (s₁.setTop (entryFrame m #[(.ref oa)] 1)) := pre4
    obtain ⟨fs, hr, q1, q2, q3, q4⟩ := X3.leave (v := some (.int 4)) (fun h => by rw [Bd.returns] at h; cases h)
    refine ⟨_, _, pre5 _ ?_, q1, q2, _, _, rfl, ?_, ⟨_, rfl⟩, q3, q4.mono (by decide) (by decide)⟩
    · refine XS.ishr X3.here hx rfl (hb hby d9_9) rfl ?_
      exact retI X3 hx Bd.returns (hb hby d9_10) hr
    · show Q_ln4 Z _ _ _ _ _ _ _ _ _ h0 n0 _ T3.heap _
      rw [e3]
      exact ⟨_, rfl, rfl, N3, rfl⟩
  · have own_m1 := True.intro
    obtain ⟨T6, X6, e6, st6⟩ := getF X0 hx hZ hown (host := "") (Or.inl (ow hw 30 rfl)) Via.refl e0 Fv (g := (mkF m 1 #[.val (.ref oa)] [(.ref oa)])) rfl rfl (hb hby d9_1)
    obtain ⟨cl7, Ar7, q7, S7, M7, H7, G7⟩ := id Vb
    obtain ⟨cq8, kq8, q8a, q8b, q8c⟩ := isOf hZ e6 Es
    obtain ⟨_, _, ⟨T8, L8, k8, n8⟩, -, X8, ⟨Lc8, hQ8, l8, y8, z8⟩, st8⟩ := X6.virtualBack hx (y := yn19) (z := yn19) hown (mvT hZ (ow hw 45 rfl)) (mvT hZ (ow hw 46 rfl)) (notFace_of_selects (args := #[]) (mvT hZ (ow hw 48 rfl))) (mvT hZ (ow hw 48 rfl)) (mvT hZ (ow hw 47 rfl)) (by decide) (backOf (W := 1) (rm_cod1 l Z a0 hw [] oa vcs vf h0 n0 Z0 Os Fc) hZ (ow hw 49 rfl) (ow hw 5 rfl) (by decide) (by decide)) q8a q8c (g := (mkF m 6 #[.val (.ref oa)] [(.ref oa), (.int 8)])) rfl (by rw [hml]; rfl) (Steps.refl _) (argsL := []) (rest := [(.int 8)]) (lenOf pd_12 rfl) rfl (by exact Nat.le_of_eq rfl) (hb hby d9_6) (fun _ _ => ⟨rfl, e6, (by decide : 0 + 0 ≤ _), (by decide : 0 + 0 ≤ _)⟩)
    dsimp only [Pt.U, Pt.locs, Pt.cells, Pt.slots] at X8 l8 y8 z8 st8 hQ8
    rw [l8, y8, z8] at X8
    obtain ⟨zc, rfl, hzc, N8q, e8⟩ := hQ8
    have N8 := Fr.app N0 N8q
    have pre9 : oP p e below (T8.setTop (mkF m 9 #[.val (.ref oa)] [(.int zc), (.int 8)])) (s₁.setTop (entryFrame m #[(.ref oa)] 1)) := fun t kt => by
      refine pre0 _ ?_
      refine XS.aloadN X0.here hx rfl (hb hby d9_0) rfl rfl ?_
      refine st6 _ ?_
      refine X6.arraylength hx (by rw [e6]; exact Ar7.1) (State.isArrayOf_alike hZ.alike Ar7.2.1) (g := (mkF m 4 #[.val (.ref oa)] [(.ref ob)])) rfl rfl (hb hby d9_4) _ ?_
      rw [len_of S7 M7]
      refine XS.aloadN X6.here hx rfl (hb hby d9_5) rfl rfl ?_
      refine st8.trans ?_
      exact kt
    subst hzc
    have pre10 : oP p e below (T8.setTop (mkF m 9 #[.val (.ref oa)] [(.int 1), (.int 8)])) (s₁.setTop (entryFrame m #[(.ref oa)] 1)) := pre9
    obtain ⟨fs, hr, q1, q2, q3, q4⟩ := X8.leave (v := some (.int 4)) (fun h => by rw [Bd.returns] at h; cases h)
    refine ⟨_, _, pre10 _ ?_, q1, q2, _, _, rfl, ?_, ⟨_, rfl⟩, q3, q4.mono (by decide) (by decide)⟩
    · refine XS.ishr X8.here hx rfl (hb hby d9_9) rfl ?_
      exact retI X8 hx Bd.returns (hb hby d9_10) hr
    · show Q_ln4 Z _ _ _ _ _ _ _ _ _ h0 n0 _ T8.heap _
      rw [e8]
      exact ⟨_, rfl, rfl, N8, rfl⟩
theorem ef_rm_ca4_1 (m : MethodId) (x0 : Addr) : entryFrame m #[(.ref x0), (.int 1)] 2 = mkF m 0 #[.val (.ref x0), .val (.int 1)] [] := by first | (simp [entryFrame, mkF, argsToLocals, Value.category]; done) | rfl
def Q_ca4_1 (Z : State) (oa : Addr) (vcs : Int32) (vf : Value) (ob : Addr) (kb : ClassId) (c0 : Int32) (c1 : Int32) (c2 : Int32) (c3 : Int32) (h0 : Heap) (n0 : Nat) (v : Option Value) (h : Heap) (L : List Loc) : Prop := ∃ z : Int32, v = some (.int z) ∧ (z.toInt = c1.toInt) ∧ Fr n0 L ∧ h = h0
theorem rm_ca4_1 (l : Launch) (Z : State) (a0 : Array Value) (hw : ∀ d ∈ tables_1, d.before a0 Z = true) (ws : List Jvm.Cond) (oa : Addr) (vcs : Int32) (vf : Value) (ob : Addr) (kb : ClassId) (c0 : Int32) (c1 : Int32) (c2 : Int32) (c3 : Int32) (h0 : Heap) (n0 : Nat) (Z0 : n0 ≤ h0.size) (Os : own_st Z h0 vcs vf) (Sx : own_s4 Z h0 oa ob kb c0 c1 c2 c3) :
    MetFree l yn21 (head1 (Jvm.Cond.code yn21 jdk_42_method_56_code 2 (some .char) :: ws) ⟨4, 0, 0, 53⟩) (fun a U => a = #[(.ref oa), (.int 1)] ∧ Z.Warmed39 U.vm ∧ U.heap = h0) (fun _ _ _ _ _ => True) (fun _ U o U' => ∃ v L, o = .returned v ∧ Q_ca4_1 Z oa vcs vf ob kb c0 c1 c2 c3 h0 n0 v U'.heap L ∧ FrameEnd U o U' L 0 0) := by
  refine MetFree.of_bodySF (plainFor_of_name pn_3) hisR ?_
  intro p e s m args below meth c s₁ Bd hml0 hP hK
  obtain ⟨rfl, hZ, hh⟩ := hP
  have hx := Bd.exec
  have hby := Bd.bytes
  have hml : c.maxLocals = 2 := hml0
  have hown : s.vm.findClass "java/lang/String" = some m.cls := findClass_of_methodNamed Bd.named
  have hnm := (name_of_methodNamed Bd.named Bd.method).1
  have X0 : Stand p l e ⟨4, 0, 0, 53⟩ s m #[(.ref oa), (.int 1)] below meth c s₁ [] 0 0 := Stand.of_body Bd
  have e0 : s₁.heap = h0 := by rw [← hh, Bd.state]; rfl
  have N0 := Fr.nil n0
  have pre0 : oP p e below (s₁.setTop (mkF m 0 #[.val (.ref oa), .val (.int 1)] [])) (s₁.setTop (entryFrame m #[(.ref oa), (.int 1)] 2)) := fun t k => castTop (ef_rm_ca4_1 m oa) k
  obtain ⟨Es, Fv, hO⟩ := id Sx
  rcases hO with ⟨Fc, hall, bb0, bb1, bb2, bb3, Vb, qbb0, qbb1, qbb2, qbb3⟩ | ⟨Fc, hall, lo0, hi0, lo1, hi1, lo2, hi2, lo3, hi3, Vb, qlo0, qhi0, qlo1, qhi1, qlo2, qhi2, qlo3, qhi3⟩
  · have own_m0 := True.intro
    obtain ⟨cq1, kq1, q1a, q1b, q1c⟩ := isOf hZ e0 Es
    obtain ⟨_, _, ⟨T1, L1, k1, n1⟩, -, X1, ⟨Lc1, hQ1, l1, y1, z1⟩, st1⟩ := X0.virtualBack hx (y := yn15) (z := yn15) hown (mvT hZ (ow hw 77 rfl)) (mvT hZ (ow hw 78 rfl)) (notFace_of_selects (args := #[]) (mvT hZ (ow hw 80 rfl))) (mvT hZ (ow hw 80 rfl)) (mvT hZ (ow hw 79 rfl)) (by decide) (backOf (W := 0) (rm_lat0 l Z a0 hw [] oa vcs vf h0 n0 Z0 Os Fc) hZ (ow hw 81 rfl) (ow hw 5 rfl) (by decide) (by decide)) q1a q1c (g := (mkF m 1 #[.val (.ref oa), .val (.int 1)] [(.ref oa)])) rfl (by rw [hml]; rfl) (Steps.refl _) (argsL := []) (rest := []) (lenOf pd_13 rfl) rfl (by exact Nat.le_of_eq rfl) (hb hby d17_1) (fun _ _ => ⟨rfl, e0, (by decide : 0 + 0 ≤ _), (by decide : 0 + 0 ≤ _)⟩)
    dsimp only [Pt.U, Pt.locs, Pt.cells, Pt.slots] at X1 l1 y1 z1 st1 hQ1
    rw [l1, y1, z1] at X1
    obtain ⟨zl1, rfl, hzl1, N1q, e1⟩ := hQ1
    have N1 := Fr.app N0 N1q
    have pre2 : oP p e below (T1.setTop (mkF m 4 #[.val (.ref oa), .val (.int 1)] [(.int zl1)])) (s₁.setTop (entryFrame m #[(.ref oa), (.int 1)] 2)) := fun t kt => by
      refine pre0 _ ?_
      refine XS.aloadN X0.here hx rfl (hb hby d17_0) rfl rfl ?_
      refine st1.trans ?_
      exact kt
    subst hzl1
    have pre3 : oP p e below (T1.setTop (mkF m 4 #[.val (.ref oa), .val (.int 1)] [(.int 1)])) (s₁.setTop (entryFrame m #[(.ref oa), (.int 1)] 2)) := pre2
    have hc4_4 : ¬ ((1 : Int) = (0 : Int)) := by decide
    obtain ⟨T5, X5, e5, st5⟩ := getF X1 hx hZ hown (host := "") (Or.inl (ow hw 30 rfl)) Via.refl e1 Fv (g := (mkF m 8 #[.val (.ref oa), .val (.int 1)] [(.ref oa)])) rfl rfl (hb hby d17_8)
    obtain ⟨_, _, ⟨T6, L6, k6, n6⟩, -, X6, ⟨Lc6, hQ6, l6, y6, z6⟩, st6⟩ := Jvm.LawKit.callS X5 hx (y := yn16) hown (mvT hZ (ow hw 102 rfl)) (mvT hZ (ow hw 103 rfl)) (mvT hZ (ow hw 104 rfl)) (mvT hZ (ow hw 105 rfl)) (by decide) (backOf (W := 0) (rm_l1ch l Z a0 hw [] ob (1 : Int32) vcs vf kb (4 : Int32) [(.int bb0), (.int bb1), (.int bb2), (.int bb3)] bb1 h0 n0 Z0 Os Vb (by decide) (by decide) rfl) hZ (ow hw 105 rfl) (ow hw 104 rfl) (by decide) (by decide)) (g := (mkF m 12 #[.val (.ref oa), .val (.int 1)] [(.int 1), (.ref ob)])) rfl (by rw [hml]; rfl) (argsL := [(.ref ob), (.int 1)]) (rest := []) (lenOf pd_5 rfl) rfl (by exact Nat.le_of_eq rfl) (hb hby d17_12) (fun _ _ => ⟨rfl, e5, (by decide : 0 + 0 ≤ _), (by decide : 0 + 0 ≤ _)⟩)
    dsimp only [Pt.U, Pt.locs, Pt.cells, Pt.slots] at X6 l6 y6 z6 st6 hQ6
    rw [l6, y6, z6] at X6
    obtain ⟨zr, rfl, hzr, N6q, e6⟩ := hQ6
    have N6 := Fr.app N1 N6q
    obtain ⟨fs, hr, q1, q2, q3, q4⟩ := X6.leave (v := some (.int (nar .char zr))) (fun h => by rw [Bd.returns] at h; cases h)
    refine ⟨_, _, pre3 _ ?_, q1, q2, _, _, rfl, ?_, ⟨_, rfl⟩, q3, q4.mono (by decide) (by decide)⟩
    · refine XS.ifNo X1.here hx rfl (hb hby d17_4) rfl (own_if (own_feq (a := (1 : Int32)) (b := (0 : Int32)) (by decide) (by decide) hc4_4).1) ?_
      refine XS.aloadN X1.here hx rfl (hb hby d17_7) rfl rfl ?_
      refine st5 _ ?_
      refine XS.iloadN X5.here hx rfl (hb hby d17_11) rfl ?_
      refine st6 _ ?_
      exact retN X6 hx (t := .char) Bd.returns (by simp) (hb hby d17_15) hr
    · show Q_ca4_1 Z _ _ _ _ _ _ _ _ _ h0 n0 _ T6.heap _
      rw [e6]
      exact ⟨_, rfl, by rw [own_narcZ, hzr]; omega, N6, rfl⟩
  · have own_m1 := True.intro
    obtain ⟨cq7, kq7, q7a, q7b, q7c⟩ := isOf hZ e0 Es
    obtain ⟨_, _, ⟨T7, L7, k7, n7⟩, -, X7, ⟨Lc7, hQ7, l7, y7, z7⟩, st7⟩ := X0.virtualBack hx (y := yn15) (z := yn15) hown (mvT hZ (ow hw 77 rfl)) (mvT hZ (ow hw 78 rfl)) (notFace_of_selects (args := #[]) (mvT hZ (ow hw 80 rfl))) (mvT hZ (ow hw 80 rfl)) (mvT hZ (ow hw 79 rfl)) (by decide) (backOf (W := 0) (rm_lat1 l Z a0 hw [] oa vcs vf h0 n0 Z0 Os Fc) hZ (ow hw 81 rfl) (ow hw 5 rfl) (by decide) (by decide)) q7a q7c (g := (mkF m 1 #[.val (.ref oa), .val (.int 1)] [(.ref oa)])) rfl (by rw [hml]; rfl) (Steps.refl _) (argsL := []) (rest := []) (lenOf pd_13 rfl) rfl (by exact Nat.le_of_eq rfl) (hb hby d17_1) (fun _ _ => ⟨rfl, e0, (by decide : 0 + 0 ≤ _), (by decide : 0 + 0 ≤ _)⟩)
    dsimp only [Pt.U, Pt.locs, Pt.cells, Pt.slots] at X7 l7 y7 z7 st7 hQ7
    rw [l7, y7, z7] at X7
    obtain ⟨zl1, rfl, hzl1, N7q, e7⟩ := hQ7
    have N7 := Fr.app N0 N7q
    have pre8 : oP p e below (T7.setTop (mkF m 4 #[.val (.ref oa), .val (.int 1)] [(.int zl1)])) (s₁.setTop (entryFrame m #[(.ref oa), (.int 1)] 2)) := fun t kt => by
      refine pre0 _ ?_
      refine XS.aloadN X0.here hx rfl (hb hby d17_0) rfl rfl ?_
      refine st7.trans ?_
      exact kt
    subst hzl1
    have pre9 : oP p e below (T7.setTop (mkF m 4 #[.val (.ref oa), .val (.int 1)] [(.int 0)])) (s₁.setTop (entryFrame m #[(.ref oa), (.int 1)] 2)) := pre8
    have hc4_10 : (0 : Int) = (0 : Int) := by decide
    obtain ⟨T11, X11, e11, st11⟩ := getF X7 hx hZ hown (host := "") (Or.inl (ow hw 30 rfl)) Via.refl e7 Fv (g := (mkF m 17 #[.val (.ref oa), .val (.int 1)] [(.ref oa)])) rfl rfl (hb hby d17_17)
    obtain ⟨_, _, ⟨T12, L12, k12, n12⟩, -, X12, ⟨Lc12, hQ12, l12, y12, z12⟩, st12⟩ := Jvm.LawKit.callS X11 hx (y := yn18) hown (mvT hZ (ow hw 82 rfl)) (mvT hZ (ow hw 83 rfl)) (mvT hZ (ow hw 19 rfl)) (mvT hZ (ow hw 84 rfl)) (by decide) (backOf (W := 0) (rm_uch l Z a0 hw [] ob (1 : Int32) vcs vf kb (8 : Int32) [(.int lo0), (.int hi0), (.int lo1), (.int hi1), (.int lo2), (.int hi2), (.int lo3), (.int hi3)] lo1 hi1 1 h0 n0 Z0 Os Vb (by decide) (by decide) (by decide) rfl rfl) hZ (ow hw 84 rfl) (ow hw 19 rfl) (by decide) (by decide)) (g := (mkF m 21 #[.val (.ref oa), .val (.int 1)] [(.int 1), (.ref ob)])) rfl (by rw [hml]; rfl) (argsL := [(.ref ob), (.int 1)]) (rest := []) (lenOf pd_5 rfl) rfl (by exact Nat.le_of_eq rfl) (hb hby d17_21) (fun _ _ => ⟨rfl, e11, (by decide : 0 + 0 ≤ _), (by decide : 0 + 0 ≤ _)⟩)
    dsimp only [Pt.U, Pt.locs, Pt.cells, Pt.slots] at X12 l12 y12 z12 st12 hQ12
    rw [l12, y12, z12] at X12
    obtain ⟨zr, rfl, hzr, N12q, e12⟩ := hQ12
    have N12 := Fr.app N7 N12q
    obtain ⟨fs, hr, q1, q2, q3, q4⟩ := X12.leave (v := some (.int (nar .char zr))) (fun h => by rw [Bd.returns] at h; cases h)
    refine ⟨_, _, pre9 _ ?_, q1, q2, _, _, rfl, ?_, ⟨_, rfl⟩, q3, q4.mono (by decide) (by decide)⟩
    · refine XS.ifYes X7.here hx rfl (pc0 := 4) (pc' := 16) rfl (hb hby d17_4) rfl (own_if (own_teq (a := (0 : Int32)) (b := (0 : Int32)) (by decide) (by decide) hc4_10).1) (by decide) (by decide) ?_
      refine XS.aloadN X7.here hx rfl (hb hby d17_16) rfl rfl ?_
      refine st11 _ ?_
      refine XS.iloadN X11.here hx rfl (hb hby d17_20) rfl ?_
      refine st12 _ ?_
      exact retN X12 hx (t := .char) Bd.returns (by simp) (hb hby d17_24) hr
    · show Q_ca4_1 Z _ _ _ _ _ _ _ _ _ h0 n0 _ T12.heap _
      rw [e12]
      exact ⟨_, rfl, by rw [own_narcZ, hzr]; omega, N12, rfl⟩
theorem ef_rm_ca4_2 (m : MethodId) (x0 : Addr) : entryFrame m #[(.ref x0), (.int 2)] 2 = mkF m 0 #[.val (.ref x0), .val (.int 2)] [] := by first | (simp [entryFrame, mkF, argsToLocals, Value.category]; done) | rfl
def Q_ca4_2 (Z : State) (oa : Addr) (vcs : Int32) (vf : Value) (ob : Addr) (kb : ClassId) (c0 : Int32) (c1 : Int32) (c2 : Int32) (c3 : Int32) (h0 : Heap) (n0 : Nat) (v : Option Value) (h : Heap) (L : List Loc) : Prop := ∃ z : Int32, v = some (.int z) ∧ (z.toInt = c2.toInt) ∧ Fr n0 L ∧ h = h0
theorem rm_ca4_2 (l : Launch) (Z : State) (a0 : Array Value) (hw : ∀ d ∈ tables_1, d.before a0 Z = true) (ws : List Jvm.Cond) (oa : Addr) (vcs : Int32) (vf : Value) (ob : Addr) (kb : ClassId) (c0 : Int32) (c1 : Int32) (c2 : Int32) (c3 : Int32) (h0 : Heap) (n0 : Nat) (Z0 : n0 ≤ h0.size) (Os : own_st Z h0 vcs vf) (Sx : own_s4 Z h0 oa ob kb c0 c1 c2 c3) :
    MetFree l yn21 (head1 (Jvm.Cond.code yn21 jdk_42_method_56_code 2 (some .char) :: ws) ⟨4, 0, 0, 53⟩) (fun a U => a = #[(.ref oa), (.int 2)] ∧ Z.Warmed39 U.vm ∧ U.heap = h0) (fun _ _ _ _ _ => True) (fun _ U o U' => ∃ v L, o = .returned v ∧ Q_ca4_2 Z oa vcs vf ob kb c0 c1 c2 c3 h0 n0 v U'.heap L ∧ FrameEnd U o U' L 0 0) := by
  refine MetFree.of_bodySF (plainFor_of_name pn_3) hisR ?_
  intro p e s m args below meth c s₁ Bd hml0 hP hK
  obtain ⟨rfl, hZ, hh⟩ := hP
  have hx := Bd.exec
  have hby := Bd.bytes
  have hml : c.maxLocals = 2 := hml0
  have hown : s.vm.findClass "java/lang/String" = some m.cls := findClass_of_methodNamed Bd.named
  have hnm := (name_of_methodNamed Bd.named Bd.method).1
  have X0 : Stand p l e ⟨4, 0, 0, 53⟩ s m #[(.ref oa), (.int 2)] below meth c s₁ [] 0 0 := Stand.of_body Bd
  have e0 : s₁.heap = h0 := by rw [← hh, Bd.state]; rfl
  have N0 := Fr.nil n0
  have pre0 : oP p e below (s₁.setTop (mkF m 0 #[.val (.ref oa), .val (.int 2)] [])) (s₁.setTop (entryFrame m #[(.ref oa), (.int 2)] 2)) := fun t k => castTop (ef_rm_ca4_2 m oa) k
  obtain ⟨Es, Fv, hO⟩ := id Sx
  rcases hO with ⟨Fc, hall, bb0, bb1, bb2, bb3, Vb, qbb0, qbb1, qbb2, qbb3⟩ | ⟨Fc, hall, lo0, hi0, lo1, hi1, lo2, hi2, lo3, hi3, Vb, qlo0, qhi0, qlo1, qhi1, qlo2, qhi2, qlo3, qhi3⟩
  · have own_m0 := True.intro
    obtain ⟨cq1, kq1, q1a, q1b, q1c⟩ := isOf hZ e0 Es
    obtain ⟨_, _, ⟨T1, L1, k1, n1⟩, -, X1, ⟨Lc1, hQ1, l1, y1, z1⟩, st1⟩ := X0.virtualBack hx (y := yn15) (z := yn15) hown (mvT hZ (ow hw 77 rfl)) (mvT hZ (ow hw 78 rfl)) (notFace_of_selects (args := #[]) (mvT hZ (ow hw 80 rfl))) (mvT hZ (ow hw 80 rfl)) (mvT hZ (ow hw 79 rfl)) (by decide) (backOf (W := 0) (rm_lat0 l Z a0 hw [] oa vcs vf h0 n0 Z0 Os Fc) hZ (ow hw 81 rfl) (ow hw 5 rfl) (by decide) (by decide)) q1a q1c (g := (mkF m 1 #[.val (.ref oa), .val (.int 2)] [(.ref oa)])) rfl (by rw [hml]; rfl) (Steps.refl _) (argsL := []) (rest := []) (lenOf pd_13 rfl) rfl (by exact Nat.le_of_eq rfl) (hb hby d17_1) (fun _ _ => ⟨rfl, e0, (by decide : 0 + 0 ≤ _), (by decide : 0 + 0 ≤ _)⟩)
    dsimp only [Pt.U, Pt.locs, Pt.cells, Pt.slots] at X1 l1 y1 z1 st1 hQ1
    rw [l1, y1, z1] at X1
    obtain ⟨zl1, rfl, hzl1, N1q, e1⟩ := hQ1
    have N1 := Fr.app N0 N1q
    have pre2 : oP p e below (T1.setTop (mkF m 4 #[.val (.ref oa), .val (.int 2)] [(.int zl1)])) (s₁.setTop (entryFrame m #[(.ref oa), (.int 2)] 2)) := fun t kt => by
      refine pre0 _ ?_
      refine XS.aloadN X0.here hx rfl (hb hby d17_0) rfl rfl ?_
      refine st1.trans ?_
      exact kt
    subst hzl1
    have pre3 : oP p e below (T1.setTop (mkF m 4 #[.val (.ref oa), .val (.int 2)] [(.int 1)])) (s₁.setTop (entryFrame m #[(.ref oa), (.int 2)] 2)) := pre2
    have hc4_4 : ¬ ((1 : Int) = (0 : Int)) := by decide
    obtain ⟨T5, X5, e5, st5⟩ := getF X1 hx hZ hown (host := "") (Or.inl (ow hw 30 rfl)) Via.refl e1 Fv (g := (mkF m 8 #[.val (.ref oa), .val (.int 2)] [(.ref oa)])) rfl rfl (hb hby d17_8)
    obtain ⟨_, _, ⟨T6, L6, k6, n6⟩, -, X6, ⟨Lc6, hQ6, l6, y6, z6⟩, st6⟩ := Jvm.LawKit.callS X5 hx (y := yn16) hown (mvT hZ (ow hw 102 rfl)) (mvT hZ (ow hw 103 rfl)) (mvT hZ (ow hw 104 rfl)) (mvT hZ (ow hw 105 rfl)) (by decide) (backOf (W := 0) (rm_l1ch l Z a0 hw [] ob (2 : Int32) vcs vf kb (4 : Int32) [(.int bb0), (.int bb1), (.int bb2), (.int bb3)] bb2 h0 n0 Z0 Os Vb (by decide) (by decide) rfl) hZ (ow hw 105 rfl) (ow hw 104 rfl) (by decide) (by decide)) (g := (mkF m 12 #[.val (.ref oa), .val (.int 2)] [(.int 2), (.ref ob)])) rfl (by rw [hml]; rfl) (argsL := [(.ref ob), (.int 2)]) (rest := []) (lenOf pd_5 rfl) rfl (by exact Nat.le_of_eq rfl) (hb hby d17_12) (fun _ _ => ⟨rfl, e5, (by decide : 0 + 0 ≤ _), (by decide : 0 + 0 ≤ _)⟩)
    dsimp only [Pt.U, Pt.locs, Pt.cells, Pt.slots] at X6 l6 y6 z6 st6 hQ6
    rw [l6, y6, z6] at X6
    obtain ⟨zr, rfl, hzr, N6q, e6⟩ := hQ6
    have N6 := Fr.app N1 N6q
    obtain ⟨fs, hr, q1, q2, q3, q4⟩ := X6.leave (v := some (.int (nar .char zr))) (fun h => by rw [Bd.returns] at h; cases h)
    refine ⟨_, _, pre3 _ ?_, q1, q2, _, _, rfl, ?_, ⟨_, rfl⟩, q3, q4.mono (by decide) (by decide)⟩
    · refine XS.ifNo X1.here hx rfl (hb hby d17_4) rfl (own_if (own_feq (a := (1 : Int32)) (b := (0 : Int32)) (by decide) (by decide) hc4_4).1) ?_
      refine XS.aloadN X1.here hx rfl (hb hby d17_7) rfl rfl ?_
      refine st5 _ ?_
      refine XS.iloadN X5.here hx rfl (hb hby d17_11) rfl ?_
      refine st6 _ ?_
      exact retN X6 hx (t := .char) Bd.returns (by simp) (hb hby d17_15) hr
    · show Q_ca4_2 Z _ _ _ _ _ _ _ _ _ h0 n0 _ T6.heap _
      rw [e6]
      exact ⟨_, rfl, by rw [own_narcZ, hzr]; omega, N6, rfl⟩
  · have own_m1 := True.intro
    obtain ⟨cq7, kq7, q7a, q7b, q7c⟩ := isOf hZ e0 Es
    obtain ⟨_, _, ⟨T7, L7, k7, n7⟩, -, X7, ⟨Lc7, hQ7, l7, y7, z7⟩, st7⟩ := X0.virtualBack hx (y := yn15) (z := yn15) hown (mvT hZ (ow hw 77 rfl)) (mvT hZ (ow hw 78 rfl)) (notFace_of_selects (args := #[]) (mvT hZ (ow hw 80 rfl))) (mvT hZ (ow hw 80 rfl)) (mvT hZ (ow hw 79 rfl)) (by decide) (backOf (W := 0) (rm_lat1 l Z a0 hw [] oa vcs vf h0 n0 Z0 Os Fc) hZ (ow hw 81 rfl) (ow hw 5 rfl) (by decide) (by decide)) q7a q7c (g := (mkF m 1 #[.val (.ref oa), .val (.int 2)] [(.ref oa)])) rfl (by rw [hml]; rfl) (Steps.refl _) (argsL := []) (rest := []) (lenOf pd_13 rfl) rfl (by exact Nat.le_of_eq rfl) (hb hby d17_1) (fun _ _ => ⟨rfl, e0, (by decide : 0 + 0 ≤ _), (by decide : 0 + 0 ≤ _)⟩)
    dsimp only [Pt.U, Pt.locs, Pt.cells, Pt.slots] at X7 l7 y7 z7 st7 hQ7
    rw [l7, y7, z7] at X7
    obtain ⟨zl1, rfl, hzl1, N7q, e7⟩ := hQ7
    have N7 := Fr.app N0 N7q
    have pre8 : oP p e below (T7.setTop (mkF m 4 #[.val (.ref oa), .val (.int 2)] [(.int zl1)])) (s₁.setTop (entryFrame m #[(.ref oa), (.int 2)] 2)) := fun t kt => by
      refine pre0 _ ?_
      refine XS.aloadN X0.here hx rfl (hb hby d17_0) rfl rfl ?_
      refine st7.trans ?_
      exact kt
    subst hzl1
    have pre9 : oP p e below (T7.setTop (mkF m 4 #[.val (.ref oa), .val (.int 2)] [(.int 0)])) (s₁.setTop (entryFrame m #[(.ref oa), (.int 2)] 2)) := pre8
    have hc4_10 : (0 : Int) = (0 : Int) := by decide
    obtain ⟨T11, X11, e11, st11⟩ := getF X7 hx hZ hown (host := "") (Or.inl (ow hw 30 rfl)) Via.refl e7 Fv (g := (mkF m 17 #[.val (.ref oa), .val (.int 2)] [(.ref oa)])) rfl rfl (hb hby d17_17)
    obtain ⟨_, _, ⟨T12, L12, k12, n12⟩, -, X12, ⟨Lc12, hQ12, l12, y12, z12⟩, st12⟩ := Jvm.LawKit.callS X11 hx (y := yn18) hown (mvT hZ (ow hw 82 rfl)) (mvT hZ (ow hw 83 rfl)) (mvT hZ (ow hw 19 rfl)) (mvT hZ (ow hw 84 rfl)) (by decide) (backOf (W := 0) (rm_uch l Z a0 hw [] ob (2 : Int32) vcs vf kb (8 : Int32) [(.int lo0), (.int hi0), (.int lo1), (.int hi1), (.int lo2), (.int hi2), (.int lo3), (.int hi3)] lo2 hi2 2 h0 n0 Z0 Os Vb (by decide) (by decide) (by decide) rfl rfl) hZ (ow hw 84 rfl) (ow hw 19 rfl) (by decide) (by decide)) (g := (mkF m 21 #[.val (.ref oa), .val (.int 2)] [(.int 2), (.ref ob)])) rfl (by rw [hml]; rfl) (argsL := [(.ref ob), (.int 2)]) (rest := []) (lenOf pd_5 rfl) rfl (by exact Nat.le_of_eq rfl) (hb hby d17_21) (fun _ _ => ⟨rfl, e11, (by decide : 0 + 0 ≤ _), (by decide : 0 + 0 ≤ _)⟩)
    dsimp only [Pt.U, Pt.locs, Pt.cells, Pt.slots] at X12 l12 y12 z12 st12 hQ12
    rw [l12, y12, z12] at X12
    obtain ⟨zr, rfl, hzr, N12q, e12⟩ := hQ12
    have N12 := Fr.app N7 N12q
    obtain ⟨fs, hr, q1, q2, q3, q4⟩ := X12.leave (v := some (.int (nar .char zr))) (fun h => by rw [Bd.returns] at h; cases h)
    refine ⟨_, _, pre9 _ ?_, q1, q2, _, _, rfl, ?_, ⟨_, rfl⟩, q3, q4.mono (by decide) (by decide)⟩
    · refine XS.ifYes X7.here hx rfl (pc0 := 4) (pc' := 16) rfl (hb hby d17_4) rfl (own_if (own_teq (a := (0 : Int32)) (b := (0 : Int32)) (by decide) (by decide) hc4_10).1) (by decide) (by decide) ?_
      refine XS.aloadN X7.here hx rfl (hb hby d17_16) rfl rfl ?_
      refine st11 _ ?_
      refine XS.iloadN X11.here hx rfl (hb hby d17_20) rfl ?_
      refine st12 _ ?_
      exact retN X12 hx (t := .char) Bd.returns (by simp) (hb hby d17_24) hr
    · show Q_ca4_2 Z _ _ _ _ _ _ _ _ _ h0 n0 _ T12.heap _
      rw [e12]
      exact ⟨_, rfl, by rw [own_narcZ, hzr]; omega, N12, rfl⟩
theorem ef_rm_ca4_3 (m : MethodId) (x0 : Addr) : entryFrame m #[(.ref x0), (.int 3)] 2 = mkF m 0 #[.val (.ref x0), .val (.int 3)] [] := by first | (simp [entryFrame, mkF, argsToLocals, Value.category]; done) | rfl
def Q_ca4_3 (Z : State) (oa : Addr) (vcs : Int32) (vf : Value) (ob : Addr) (kb : ClassId) (c0 : Int32) (c1 : Int32) (c2 : Int32) (c3 : Int32) (h0 : Heap) (n0 : Nat) (v : Option Value) (h : Heap) (L : List Loc) : Prop := ∃ z : Int32, v = some (.int z) ∧ (z.toInt = c3.toInt) ∧ Fr n0 L ∧ h = h0
theorem rm_ca4_3 (l : Launch) (Z : State) (a0 : Array Value) (hw : ∀ d ∈ tables_1, d.before a0 Z = true) (ws : List Jvm.Cond) (oa : Addr) (vcs : Int32) (vf : Value) (ob : Addr) (kb : ClassId) (c0 : Int32) (c1 : Int32) (c2 : Int32) (c3 : Int32) (h0 : Heap) (n0 : Nat) (Z0 : n0 ≤ h0.size) (Os : own_st Z h0 vcs vf) (Sx : own_s4 Z h0 oa ob kb c0 c1 c2 c3) :
    MetFree l yn21 (head1 (Jvm.Cond.code yn21 jdk_42_method_56_code 2 (some .char) :: ws) ⟨4, 0, 0, 53⟩) (fun a U => a = #[(.ref oa), (.int 3)] ∧ Z.Warmed39 U.vm ∧ U.heap = h0) (fun _ _ _ _ _ => True) (fun _ U o U' => ∃ v L, o = .returned v ∧ Q_ca4_3 Z oa vcs vf ob kb c0 c1 c2 c3 h0 n0 v U'.heap L ∧ FrameEnd U o U' L 0 0) := by
  refine MetFree.of_bodySF (plainFor_of_name pn_3) hisR ?_
  intro p e s m args below meth c s₁ Bd hml0 hP hK
  obtain ⟨rfl, hZ, hh⟩ := hP
  have hx := Bd.exec
  have hby := Bd.bytes
  have hml : c.maxLocals = 2 := hml0
  have hown : s.vm.findClass "java/lang/String" = some m.cls := findClass_of_methodNamed Bd.named
  have hnm := (name_of_methodNamed Bd.named Bd.method).1
  have X0 : Stand p l e ⟨4, 0, 0, 53⟩ s m #[(.ref oa), (.int 3)] below meth c s₁ [] 0 0 := Stand.of_body Bd
  have e0 : s₁.heap = h0 := by rw [← hh, Bd.state]; rfl
  have N0 := Fr.nil n0
  have pre0 : oP p e below (s₁.setTop (mkF m 0 #[.val (.ref oa), .val (.int 3)] [])) (s₁.setTop (entryFrame m #[(.ref oa), (.int 3)] 2)) := fun t k => castTop (ef_rm_ca4_3 m oa) k
  obtain ⟨Es, Fv, hO⟩ := id Sx
  rcases hO with ⟨Fc, hall, bb0, bb1, bb2, bb3, Vb, qbb0, qbb1, qbb2, qbb3⟩ | ⟨Fc, hall, lo0, hi0, lo1, hi1, lo2, hi2, lo3, hi3, Vb, qlo0, qhi0, qlo1, qhi1, qlo2, qhi2, qlo3, qhi3⟩
  · have own_m0 := True.intro
    obtain ⟨cq1, kq1, q1a, q1b, q1c⟩ := isOf hZ e0 Es
    obtain ⟨_, _, ⟨T1, L1, k1, n1⟩, -, X1, ⟨Lc1, hQ1, l1, y1, z1⟩, st1⟩ := X0.virtualBack hx (y := yn15) (z := yn15) hown (mvT hZ (ow hw 77 rfl)) (mvT hZ (ow hw 78 rfl)) (notFace_of_selects (args := #[]) (mvT hZ (ow hw 80 rfl))) (mvT hZ (ow hw 80 rfl)) (mvT hZ (ow hw 79 rfl)) (by decide) (backOf (W := 0) (rm_lat0 l Z a0 hw [] oa vcs vf h0 n0 Z0 Os Fc) hZ (ow hw 81 rfl) (ow hw 5 rfl) (by decide) (by decide)) q1a q1c (g := (mkF m 1 #[.val (.ref oa), .val (.int 3)] [(.ref oa)])) rfl (by rw [hml]; rfl) (Steps.refl _) (argsL := []) (rest := []) (lenOf pd_13 rfl) rfl (by exact Nat.le_of_eq rfl) (hb hby d17_1) (fun _ _ => ⟨rfl, e0, (by decide : 0 + 0 ≤ _), (by decide : 0 + 0 ≤ _)⟩)
    dsimp only [Pt.U, Pt.locs, Pt.cells, Pt.slots] at X1 l1 y1 z1 st1 hQ1
    rw [l1, y1, z1] at X1
    obtain ⟨zl1, rfl, hzl1, N1q, e1⟩ := hQ1
    have N1 := Fr.app N0 N1q
    have pre2 : oP p e below (T1.setTop (mkF m 4 #[.val (.ref oa), .val (.int 3)] [(.int zl1)])) (s₁.setTop (entryFrame m #[(.ref oa), (.int 3)] 2)) := fun t kt => by
      refine pre0 _ ?_
      refine XS.aloadN X0.here hx rfl (hb hby d17_0) rfl rfl ?_
      refine st1.trans ?_
      exact kt
    subst hzl1
    have pre3 : oP p e below (T1.setTop (mkF m 4 #[.val (.ref oa), .val (.int 3)] [(.int 1)])) (s₁.setTop (entryFrame m #[(.ref oa), (.int 3)] 2)) := pre2
    have hc4_4 : ¬ ((1 : Int) = (0 : Int)) := by decide
    obtain ⟨T5, X5, e5, st5⟩ := getF X1 hx hZ hown (host := "") (Or.inl (ow hw 30 rfl)) Via.refl e1 Fv (g := (mkF m 8 #[.val (.ref oa), .val (.int 3)] [(.ref oa)])) rfl rfl (hb hby d17_8)
    obtain ⟨_, _, ⟨T6, L6, k6, n6⟩, -, X6, ⟨Lc6, hQ6, l6, y6, z6⟩, st6⟩ := Jvm.LawKit.callS X5 hx (y := yn16) hown (mvT hZ (ow hw 102 rfl)) (mvT hZ (ow hw 103 rfl)) (mvT hZ (ow hw 104 rfl)) (mvT hZ (ow hw 105 rfl)) (by decide) (backOf (W := 0) (rm_l1ch l Z a0 hw [] ob (3 : Int32) vcs vf kb (4 : Int32) [(.int bb0), (.int bb1), (.int bb2), (.int bb3)] bb3 h0 n0 Z0 Os Vb (by decide) (by decide) rfl) hZ (ow hw 105 rfl) (ow hw 104 rfl) (by decide) (by decide)) (g := (mkF m 12 #[.val (.ref oa), .val (.int 3)] [(.int 3), (.ref ob)])) rfl (by rw [hml]; rfl) (argsL := [(.ref ob), (.int 3)]) (rest := []) (lenOf pd_5 rfl) rfl (by exact Nat.le_of_eq rfl) (hb hby d17_12) (fun _ _ => ⟨rfl, e5, (by decide : 0 + 0 ≤ _), (by decide : 0 + 0 ≤ _)⟩)
    dsimp only [Pt.U, Pt.locs, Pt.cells, Pt.slots] at X6 l6 y6 z6 st6 hQ6
    rw [l6, y6, z6] at X6
    obtain ⟨zr, rfl, hzr, N6q, e6⟩ := hQ6
    have N6 := Fr.app N1 N6q
    obtain ⟨fs, hr, q1, q2, q3, q4⟩ := X6.leave (v := some (.int (nar .char zr))) (fun h => by rw [Bd.returns] at h; cases h)
    refine ⟨_, _, pre3 _ ?_, q1, q2, _, _, rfl, ?_, ⟨_, rfl⟩, q3, q4.mono (by decide) (by decide)⟩
    · refine XS.ifNo X1.here hx rfl (hb hby d17_4) rfl (own_if (own_feq (a := (1 : Int32)) (b := (0 : Int32)) (by decide) (by decide) hc4_4).1) ?_
      refine XS.aloadN X1.here hx rfl (hb hby d17_7) rfl rfl ?_
      refine st5 _ ?_
      refine XS.iloadN X5.here hx rfl (hb hby d17_11) rfl ?_
      refine st6 _ ?_
      exact retN X6 hx (t := .char) Bd.returns (by simp) (hb hby d17_15) hr
    · show Q_ca4_3 Z _ _ _ _ _ _ _ _ _ h0 n0 _ T6.heap _
      rw [e6]
      exact ⟨_, rfl, by rw [own_narcZ, hzr]; omega, N6, rfl⟩
  · have own_m1 := True.intro
    obtain ⟨cq7, kq7, q7a, q7b, q7c⟩ := isOf hZ e0 Es
    obtain ⟨_, _, ⟨T7, L7, k7, n7⟩, -, X7, ⟨Lc7, hQ7, l7, y7, z7⟩, st7⟩ := X0.virtualBack hx (y := yn15) (z := yn15) hown (mvT hZ (ow hw 77 rfl)) (mvT hZ (ow hw 78 rfl)) (notFace_of_selects (args := #[]) (mvT hZ (ow hw 80 rfl))) (mvT hZ (ow hw 80 rfl)) (mvT hZ (ow hw 79 rfl)) (by decide) (backOf (W := 0) (rm_lat1 l Z a0 hw [] oa vcs vf h0 n0 Z0 Os Fc) hZ (ow hw 81 rfl) (ow hw 5 rfl) (by decide) (by decide)) q7a q7c (g := (mkF m 1 #[.val (.ref oa), .val (.int 3)] [(.ref oa)])) rfl (by rw [hml]; rfl) (Steps.refl _) (argsL := []) (rest := []) (lenOf pd_13 rfl) rfl (by exact Nat.le_of_eq rfl) (hb hby d17_1) (fun _ _ => ⟨rfl, e0, (by decide : 0 + 0 ≤ _), (by decide : 0 + 0 ≤ _)⟩)
    dsimp only [Pt.U, Pt.locs, Pt.cells, Pt.slots] at X7 l7 y7 z7 st7 hQ7
    rw [l7, y7, z7] at X7
    obtain ⟨zl1, rfl, hzl1, N7q, e7⟩ := hQ7
    have N7 := Fr.app N0 N7q
    have pre8 : oP p e below (T7.setTop (mkF m 4 #[.val (.ref oa), .val (.int 3)] [(.int zl1)])) (s₁.setTop (entryFrame m #[(.ref oa), (.int 3)] 2)) := fun t kt => by
      refine pre0 _ ?_
      refine XS.aloadN X0.here hx rfl (hb hby d17_0) rfl rfl ?_
      refine st7.trans ?_
      exact kt
    subst hzl1
    have pre9 : oP p e below (T7.setTop (mkF m 4 #[.val (.ref oa), .val (.int 3)] [(.int 0)])) (s₁.setTop (entryFrame m #[(.ref oa), (.int 3)] 2)) := pre8
    have hc4_10 : (0 : Int) = (0 : Int) := by decide
    obtain ⟨T11, X11, e11, st11⟩ := getF X7 hx hZ hown (host := "") (Or.inl (ow hw 30 rfl)) Via.refl e7 Fv (g := (mkF m 17 #[.val (.ref oa), .val (.int 3)] [(.ref oa)])) rfl rfl (hb hby d17_17)
    obtain ⟨_, _, ⟨T12, L12, k12, n12⟩, -, X12, ⟨Lc12, hQ12, l12, y12, z12⟩, st12⟩ := Jvm.LawKit.callS X11 hx (y := yn18) hown (mvT hZ (ow hw 82 rfl)) (mvT hZ (ow hw 83 rfl)) (mvT hZ (ow hw 19 rfl)) (mvT hZ (ow hw 84 rfl)) (by decide) (backOf (W := 0) (rm_uch l Z a0 hw [] ob (3 : Int32) vcs vf kb (8 : Int32) [(.int lo0), (.int hi0), (.int lo1), (.int hi1), (.int lo2), (.int hi2), (.int lo3), (.int hi3)] lo3 hi3 3 h0 n0 Z0 Os Vb (by decide) (by decide) (by decide) rfl rfl) hZ (ow hw 84 rfl) (ow hw 19 rfl) (by decide) (by decide)) (g := (mkF m 21 #[.val (.ref oa), .val (.int 3)] [(.int 3), (.ref ob)])) rfl (by rw [hml]; rfl) (argsL := [(.ref ob), (.int 3)]) (rest := []) (lenOf pd_5 rfl) rfl (by exact Nat.le_of_eq rfl) (hb hby d17_21) (fun _ _ => ⟨rfl, e11, (by decide : 0 + 0 ≤ _), (by decide : 0 + 0 ≤ _)⟩)
    dsimp only [Pt.U, Pt.locs, Pt.cells, Pt.slots] at X12 l12 y12 z12 st12 hQ12
    rw [l12, y12, z12] at X12
    obtain ⟨zr, rfl, hzr, N12q, e12⟩ := hQ12
    have N12 := Fr.app N7 N12q
    obtain ⟨fs, hr, q1, q2, q3, q4⟩ := X12.leave (v := some (.int (nar .char zr))) (fun h => by rw [Bd.returns] at h; cases h)
    refine ⟨_, _, pre9 _ ?_, q1, q2, _, _, rfl, ?_, ⟨_, rfl⟩, q3, q4.mono (by decide) (by decide)⟩
    · refine XS.ifYes X7.here hx rfl (pc0 := 4) (pc' := 16) rfl (hb hby d17_4) rfl (own_if (own_teq (a := (0 : Int32)) (b := (0 : Int32)) (by decide) (by decide) hc4_10).1) (by decide) (by decide) ?_
      refine XS.aloadN X7.here hx rfl (hb hby d17_16) rfl rfl ?_
      refine st11 _ ?_
      refine XS.iloadN X11.here hx rfl (hb hby d17_20) rfl ?_
      refine st12 _ ?_
      exact retN X12 hx (t := .char) Bd.returns (by simp) (hb hby d17_24) hr
    · show Q_ca4_3 Z _ _ _ _ _ _ _ _ _ h0 n0 _ T12.heap _
      rw [e12]
      exact ⟨_, rfl, by rw [own_narcZ, hzr]; omega, N12, rfl⟩
theorem d7_0 : decode method_4_code 0 = .ok (.iload_n 2, 1) := by decide +kernel
theorem d7_1 : decode method_4_code 1 = .ok (.iconst 1, 1) := by decide +kernel
theorem d7_2 : decode method_4_code 2 = .ok (.iadd, 1) := by decide +kernel
theorem d7_3 : decode method_4_code 3 = .ok (.istore_n 3, 1) := by decide +kernel
theorem d7_4 : decode method_4_code 4 = .ok (.iload_n 3, 1) := by decide +kernel
theorem d7_5 : decode method_4_code 5 = .ok (.iload_n 1, 1) := by decide +kernel
theorem d7_6 : decode method_4_code 6 = .ok (.if_icmp .ne 5, 3) := by decide +kernel
theorem d7_9 : decode method_4_code 9 = .ok (.iload_n 3, 1) := by decide +kernel
theorem d7_10 : decode method_4_code 10 = .ok (.ireturn, 1) := by decide +kernel
theorem ef_rm_rf1_0 (m : MethodId) (x0 : Addr) : entryFrame m #[(.ref x0), (.int 1), (.int 0)] 5 = mkF m 0 #[.val (.ref x0), .val (.int 1), .val (.int 0), .unset, .unset] [] := by first | (simp [entryFrame, mkF, argsToLocals, Value.category]; done) | rfl
def Q_rf1_0 (Z : State) (oc : Addr) (kC : ClassId) (c0 : Int32) (h0 : Heap) (n0 : Nat) (v : Option Value) (h : Heap) (L : List Loc) : Prop := ∃ z : Int32, v = some (.int z) ∧ (z.toInt = (1 : Int)) ∧ Fr n0 L ∧ h = h0
theorem rm_rf1_0 (l : Launch) (Z : State) (a0 : Array Value) (hw : ∀ d ∈ tables_1, d.before a0 Z = true) (ws : List Jvm.Cond) (oc : Addr) (kC : ClassId) (c0 : Int32) (h0 : Heap) (n0 : Nat) (Z0 : n0 ≤ h0.size) (Vc : Arv Z h0 oc kC .char (1 : Int32) [(.int c0)] (.int 0)) (uc0 : 0 ≤ c0.toInt) (vc0 : c0.toInt < 65536) :
    MetFree l yn22 (head1 (Jvm.Cond.code yn22 method_4_code 5 (some .int) :: ws) ⟨0, 0, 0, 0⟩) (fun a U => a = #[(.ref oc), (.int 1), (.int 0)] ∧ Z.Warmed39 U.vm ∧ U.heap = h0) (fun _ _ _ _ _ => True) (fun _ U o U' => ∃ v L, o = .returned v ∧ Q_rf1_0 Z oc kC c0 h0 n0 v U'.heap L ∧ FrameEnd U o U' L 0 0) := by
  refine MetFree.of_bodySF (plainFor_of_name pn_1) hisR ?_
  intro p e s m args below meth c s₁ Bd hml0 hP hK
  obtain ⟨rfl, hZ, hh⟩ := hP
  have hx := Bd.exec
  have hby := Bd.bytes
  have hml : c.maxLocals = 5 := hml0
  have hown : s.vm.findClass "com/example/path_template_matcher/pathtemplatematcher/PercentEncodingEscapeErrorPinLaw" = some m.cls := findClass_of_methodNamed Bd.named
  have hnm := (name_of_methodNamed Bd.named Bd.method).1
  have X0 : Stand p l e ⟨0, 0, 0, 0⟩ s m #[(.ref oc), (.int 1), (.int 0)] below meth c s₁ [] 0 0 := Stand.of_body Bd
  have e0 : s₁.heap = h0 := by rw [← hh, Bd.state]; rfl
  have N0 := Fr.nil n0
  have pre0 : oP p e below (s₁.setTop (mkF m 0 #[.val (.ref oc), .val (.int 1), .val (.int 0), .unset, .unset] [])) (s₁.setTop (entryFrame m #[(.ref oc), (.int 1), (.int 0)] 5)) := fun t k => castTop (ef_rm_rf1_0 m oc) k
  have hc6_1 : (1 : Int) = (1 : Int) := by decide
  obtain ⟨fs, hr, q1, q2, q3, q4⟩ := X0.leave (v := some (.int 1)) (fun h => by rw [Bd.returns] at h; cases h)
  refine ⟨_, _, pre0 _ ?_, q1, q2, _, _, rfl, ?_, ⟨_, rfl⟩, q3, q4.mono (by decide) (by decide)⟩
  · refine XS.iloadN X0.here hx rfl (hb hby d7_0) rfl ?_
    refine XS.iconst X0.here hx rfl (hb hby d7_1) ?_
    refine XS.iadd X0.here hx rfl (hb hby d7_2) rfl ?_
    refine XS.istoreN X0.here hx rfl (hb hby d7_3) rfl (l' := #[.val (.ref oc), .val (.int 1), .val (.int 0), .val (.int 1), .unset]) rfl ?_
    refine XS.iloadN X0.here hx rfl (hb hby d7_4) rfl ?_
    refine XS.iloadN X0.here hx rfl (hb hby d7_5) rfl ?_
    refine XS.icmpNo X0.here hx rfl (hb hby d7_6) rfl (own_teq (a := (1 : Int32)) (b := (1 : Int32)) (by decide) (by decide) hc6_1).2 ?_
    refine XS.iloadN X0.here hx rfl (hb hby d7_9) rfl ?_
    exact retI X0 hx Bd.returns (hb hby d7_10) hr
  · show Q_rf1_0 Z _ _ _ h0 n0 _ s₁.heap _
    rw [e0]
    exact ⟨_, rfl, by decide, N0, rfl⟩
theorem d8_0 : decode prog_26_method_5_code 0 = .ok (.iload_n 1, 1) := by decide +kernel
theorem d8_1 : decode prog_26_method_5_code 1 = .ok (.iconst 1, 1) := by decide +kernel
theorem d8_2 : decode prog_26_method_5_code 2 = .ok (.iadd, 1) := by decide +kernel
theorem d8_3 : decode prog_26_method_5_code 3 = .ok (.istore_n 2, 1) := by decide +kernel
theorem d8_4 : decode prog_26_method_5_code 4 = .ok (.iload_n 2, 1) := by decide +kernel
theorem d8_5 : decode prog_26_method_5_code 5 = .ok (.iload_n 1, 1) := by decide +kernel
theorem d8_6 : decode prog_26_method_5_code 6 = .ok (.iconst 2, 1) := by decide +kernel
theorem d8_7 : decode prog_26_method_5_code 7 = .ok (.iadd, 1) := by decide +kernel
theorem d8_8 : decode prog_26_method_5_code 8 = .ok (.if_icmp .gt 30, 3) := by decide +kernel
theorem d8_11 : decode prog_26_method_5_code 11 = .ok (.iload_n 2, 1) := by decide +kernel
theorem d8_12 : decode prog_26_method_5_code 12 = .ok (.aload_n 0, 1) := by decide +kernel
theorem d8_13 : decode prog_26_method_5_code 13 = .ok (.invokevirtual 82, 3) := by decide +kernel
theorem d8_16 : decode prog_26_method_5_code 16 = .ok (.if_icmp .eq 14, 3) := by decide +kernel
theorem d8_30 : decode prog_26_method_5_code 30 = .ok (.iload_n 2, 1) := by decide +kernel
theorem d8_31 : decode prog_26_method_5_code 31 = .ok (.ireturn, 1) := by decide +kernel
theorem ef_rm_ee1_0 (m : MethodId) (x0 : Addr) : entryFrame m #[(.ref x0), (.int 0)] 3 = mkF m 0 #[.val (.ref x0), .val (.int 0), .unset] [] := by first | (simp [entryFrame, mkF, argsToLocals, Value.category]; done) | rfl
theorem pd_14 : parseMethodDescriptor "()I" = some ⟨[], some .int⟩ := by decide +kernel
def Q_ee1_0 (Z : State) (oa : Addr) (vcs : Int32) (vf : Value) (ob : Addr) (kb : ClassId) (c0 : Int32) (h0 : Heap) (n0 : Nat) (v : Option Value) (h : Heap) (L : List Loc) : Prop := ∃ z : Int32, v = some (.int z) ∧ (z.toInt = (1 : Int)) ∧ Fr n0 L ∧ h = h0
theorem rm_ee1_0 (l : Launch) (Z : State) (a0 : Array Value) (hw : ∀ d ∈ tables_1, d.before a0 Z = true) (ws : List Jvm.Cond) (oa : Addr) (vcs : Int32) (vf : Value) (ob : Addr) (kb : ClassId) (c0 : Int32) (h0 : Heap) (n0 : Nat) (Z0 : n0 ≤ h0.size) (Os : own_st Z h0 vcs vf) (Sx : own_s1 Z h0 oa ob kb c0) :
    MetFree l yn23 (head1 (Jvm.Cond.code yn23 prog_26_method_5_code 3 (some .int) :: ws) ⟨2, 0, 0, 26⟩) (fun a U => a = #[(.ref oa), (.int 0)] ∧ Z.Warmed39 U.vm ∧ U.heap = h0) (fun _ _ _ _ _ => True) (fun _ U o U' => ∃ v L, o = .returned v ∧ Q_ee1_0 Z oa vcs vf ob kb c0 h0 n0 v U'.heap L ∧ FrameEnd U o U' L 0 0) := by
  refine MetFree.of_bodySF (plainFor_of_name pn_0) hisR ?_
  intro p e s m args below meth c s₁ Bd hml0 hP hK
  obtain ⟨rfl, hZ, hh⟩ := hP
  have hx := Bd.exec
  have hby := Bd.bytes
  have hml : c.maxLocals = 3 := hml0
  have hown : s.vm.findClass "com/example/path_template_matcher/pathtemplatematcher/PercentEncoding" = some m.cls := findClass_of_methodNamed Bd.named
  have hnm := (name_of_methodNamed Bd.named Bd.method).1
  have X0 : Stand p l e ⟨2, 0, 0, 26⟩ s m #[(.ref oa), (.int 0)] below meth c s₁ [] 0 0 := Stand.of_body Bd
  have e0 : s₁.heap = h0 := by rw [← hh, Bd.state]; rfl
  have N0 := Fr.nil n0
  have pre0 : oP p e below (s₁.setTop (mkF m 0 #[.val (.ref oa), .val (.int 0), .unset] [])) (s₁.setTop (entryFrame m #[(.ref oa), (.int 0)] 3)) := fun t k => castTop (ef_rm_ee1_0 m oa) k
  have hc8_1 : ¬ ((2 : Int) < (1 : Int)) := by decide
  obtain ⟨cq2, kq2, q2a, q2b, q2c⟩ := isOf hZ e0 Sx.1
  obtain ⟨_, _, ⟨T2, L2, k2, n2⟩, -, X2, ⟨Lc2, hQ2, l2, y2, z2⟩, st2⟩ := X0.virtualBack hx (y := yn20) (z := yn20) hown (mvT hZ (ow hw 40 rfl)) (mvT hZ (ow hw 41 rfl)) (notFace_of_selects (args := #[]) (mvT hZ (ow hw 43 rfl))) (mvT hZ (ow hw 43 rfl)) (mvT hZ (ow hw 42 rfl)) (by decide) (backOf (W := 1) (rm_ln1 l Z a0 hw [] oa vcs vf ob kb c0 h0 n0 Z0 Os Sx) hZ (ow hw 44 rfl) (ow hw 5 rfl) (by decide) (by decide)) q2a q2c (g := (mkF m 13 #[.val (.ref oa), .val (.int 0), .val (.int 1)] [(.ref oa), (.int 1)])) rfl (by rw [hml]; rfl) (Steps.refl _) (argsL := []) (rest := [(.int 1)]) (lenOf pd_14 rfl) rfl (by exact Nat.le_of_eq rfl) (hb hby d8_13) (fun _ _ => ⟨rfl, e0, (by decide : 0 + 0 ≤ _), (by decide : 0 + 0 ≤ _)⟩)
  dsimp only [Pt.U, Pt.locs, Pt.cells, Pt.slots] at X2 l2 y2 z2 st2 hQ2
  rw [l2, y2, z2] at X2
  obtain ⟨zl1, rfl, hzl1, N2q, e2⟩ := hQ2
  have N2 := Fr.app N0 N2q
  have pre3 : oP p e below (T2.setTop (mkF m 16 #[.val (.ref oa), .val (.int 0), .val (.int 1)] [(.int zl1), (.int 1)])) (s₁.setTop (entryFrame m #[(.ref oa), (.int 0)] 3)) := fun t kt => by
    refine pre0 _ ?_
    refine XS.iloadN X0.here hx rfl (hb hby d8_0) rfl ?_
    refine XS.iconst X0.here hx rfl (hb hby d8_1) ?_
    refine XS.iadd X0.here hx rfl (hb hby d8_2) rfl ?_
    refine XS.istoreN X0.here hx rfl (hb hby d8_3) rfl (l' := #[.val (.ref oa), .val (.int 0), .val (.int 1)]) rfl ?_
    refine XS.iloadN X0.here hx rfl (hb hby d8_4) rfl ?_
    refine XS.iloadN X0.here hx rfl (hb hby d8_5) rfl ?_
    refine XS.iconst X0.here hx rfl (hb hby d8_6) ?_
    refine XS.iadd X0.here hx rfl (hb hby d8_7) rfl ?_
    refine XS.icmpNo X0.here hx rfl (hb hby d8_8) rfl (own_flt (a := (2 : Int32)) (b := (1 : Int32)) (by decide) (by decide) hc8_1).2.2.1 ?_
    refine XS.iloadN X0.here hx rfl (hb hby d8_11) rfl ?_
    refine XS.aloadN X0.here hx rfl (hb hby d8_12) rfl rfl ?_
    refine st2.trans ?_
    exact kt
  subst hzl1
  have pre4 : oP p e below (T2.setTop (mkF m 16 #[.val (.ref oa), .val (.int 0), .val (.int 1)] [(.int 1), (.int 1)])) (s₁.setTop (entryFrame m #[(.ref oa), (.int 0)] 3)) := pre3
  have hc16_5 : (1 : Int) = (1 : Int) := by decide
  obtain ⟨fs, hr, q1, q2, q3, q4⟩ := X2.leave (v := some (.int 1)) (fun h => by rw [Bd.returns] at h; cases h)
  refine ⟨_, _, pre4 _ ?_, q1, q2, _, _, rfl, ?_, ⟨_, rfl⟩, q3, q4.mono (by decide) (by decide)⟩
  · refine XS.icmpYes X2.here hx rfl (pc0 := 16) (pc' := 30) rfl (hb hby d8_16) rfl (own_teq (a := (1 : Int32)) (b := (1 : Int32)) (by decide) (by decide) hc16_5).1 (by decide) (by decide) ?_
    refine XS.iloadN X2.here hx rfl (hb hby d8_30) rfl ?_
    exact retI X2 hx Bd.returns (hb hby d8_31) hr
  · show Q_ee1_0 Z _ _ _ _ _ _ h0 n0 _ T2.heap _
    rw [e2]
    exact ⟨_, rfl, by decide, N2, rfl⟩
theorem d7_11 : decode method_4_code 11 = .ok (.aload_n 0, 1) := by decide +kernel
theorem d7_12 : decode method_4_code 12 = .ok (.iload_n 3, 1) := by decide +kernel
theorem d7_13 : decode method_4_code 13 = .ok (.caload, 1) := by decide +kernel
theorem d7_14 : decode method_4_code 14 = .ok (.invokestatic 26, 3) := by decide +kernel
theorem d7_17 : decode method_4_code 17 = .ok (.ifCond .ne 5, 3) := by decide +kernel
theorem d7_20 : decode method_4_code 20 = .ok (.iload_n 3, 1) := by decide +kernel
theorem d7_21 : decode method_4_code 21 = .ok (.ireturn, 1) := by decide +kernel
theorem d7_22 : decode method_4_code 22 = .ok (.iload_n 2, 1) := by decide +kernel
theorem d7_23 : decode method_4_code 23 = .ok (.iconst 2, 1) := by decide +kernel
theorem d7_24 : decode method_4_code 24 = .ok (.iadd, 1) := by decide +kernel
theorem d7_25 : decode method_4_code 25 = .ok (.istore 4, 2) := by decide +kernel
theorem d7_27 : decode method_4_code 27 = .ok (.iload 4, 2) := by decide +kernel
theorem d7_29 : decode method_4_code 29 = .ok (.iload_n 1, 1) := by decide +kernel
theorem d7_30 : decode method_4_code 30 = .ok (.if_icmp .ne 6, 3) := by decide +kernel
theorem d7_33 : decode method_4_code 33 = .ok (.iload 4, 2) := by decide +kernel
theorem d7_35 : decode method_4_code 35 = .ok (.ireturn, 1) := by decide +kernel
theorem ef_rm_rf2_0 (m : MethodId) (x0 : Addr) : entryFrame m #[(.ref x0), (.int 2), (.int 0)] 5 = mkF m 0 #[.val (.ref x0), .val (.int 2), .val (.int 0), .unset, .unset] [] := by first | (simp [entryFrame, mkF, argsToLocals, Value.category]; done) | rfl
theorem pd_15 : parseMethodDescriptor "(C)Z" = some ⟨[.char], some .boolean⟩ := by decide +kernel
def Q_rf2_0 (Z : State) (oc : Addr) (kC : ClassId) (c0 : Int32) (c1 : Int32) (h0 : Heap) (n0 : Nat) (v : Option Value) (h : Heap) (L : List Loc) : Prop := ∃ z : Int32, v = some (.int z) ∧ (z.toInt = (if own_H c1.toInt then (2 : Int) else (1 : Int))) ∧ Fr n0 L ∧ h = h0
theorem rm_rf2_0 (l : Launch) (Z : State) (a0 : Array Value) (hw : ∀ d ∈ tables_1, d.before a0 Z = true) (ws : List Jvm.Cond) (oc : Addr) (kC : ClassId) (c0 : Int32) (c1 : Int32) (h0 : Heap) (n0 : Nat) (Z0 : n0 ≤ h0.size) (Vc : Arv Z h0 oc kC .char (2 : Int32) [(.int c0), (.int c1)] (.int 0)) (uc0 : 0 ≤ c0.toInt) (uc1 : 0 ≤ c1.toInt) (vc0 : c0.toInt < 65536) (vc1 : c1.toInt < 65536) :
    MetFree l yn22 (head1 (Jvm.Cond.code yn22 method_4_code 5 (some .int) :: ws) ⟨1, 0, 0, 13⟩) (fun a U => a = #[(.ref oc), (.int 2), (.int 0)] ∧ Z.Warmed39 U.vm ∧ U.heap = h0) (fun _ _ _ _ _ => True) (fun _ U o U' => ∃ v L, o = .returned v ∧ Q_rf2_0 Z oc kC c0 c1 h0 n0 v U'.heap L ∧ FrameEnd U o U' L 0 0) := by
  refine MetFree.of_bodySF (plainFor_of_name pn_1) hisR ?_
  intro p e s m args below meth c s₁ Bd hml0 hP hK
  obtain ⟨rfl, hZ, hh⟩ := hP
  have hx := Bd.exec
  have hby := Bd.bytes
  have hml : c.maxLocals = 5 := hml0
  have hown : s.vm.findClass "com/example/path_template_matcher/pathtemplatematcher/PercentEncodingEscapeErrorPinLaw" = some m.cls := findClass_of_methodNamed Bd.named
  have hnm := (name_of_methodNamed Bd.named Bd.method).1
  have X0 : Stand p l e ⟨1, 0, 0, 13⟩ s m #[(.ref oc), (.int 2), (.int 0)] below meth c s₁ [] 0 0 := Stand.of_body Bd
  have e0 : s₁.heap = h0 := by rw [← hh, Bd.state]; rfl
  have N0 := Fr.nil n0
  have pre0 : oP p e below (s₁.setTop (mkF m 0 #[.val (.ref oc), .val (.int 2), .val (.int 0), .unset, .unset] [])) (s₁.setTop (entryFrame m #[(.ref oc), (.int 2), (.int 0)] 5)) := fun t k => castTop (ef_rm_rf2_0 m oc) k
  have hc6_1 : ¬ ((1 : Int) = (2 : Int)) := by decide
  obtain ⟨cl2, Ar2, q2, S2, M2, H2, G2⟩ := id Vc
  have hin2 : ¬ ((1 : Int32) < 0 ∨ cl2.slots.size ≤ ((1 : Int32)).toNatClampNeg) := inb_of S2 ⟨by decide, by decide⟩
  have hat2 : cl2.slots[((1 : Int32)).toNatClampNeg]? = some (.int c1) := Has.at H2 hin2 rfl
  obtain ⟨_, _, ⟨T3, L3, k3, n3⟩, -, X3, ⟨Lc3, hQ3, l3, y3, z3⟩, st3⟩ := Jvm.LawKit.callS X0 hx (y := yn1) hown (mvT hZ (ow hw 69 rfl)) (mvT hZ (ow hw 70 rfl)) (mvT hZ (ow hw 34 rfl)) (mvT hZ (ow hw 71 rfl)) (by decide) (backOf (W := 0) (rm16 l Z a0 hw [] c1 h0 n0 Z0 uc1 vc1) hZ (ow hw 71 rfl) (ow hw 34 rfl) (by decide) (by decide)) (g := (mkF m 14 #[.val (.ref oc), .val (.int 2), .val (.int 0), .val (.int 1), .unset] [(.int c1)])) rfl (by rw [hml]; rfl) (argsL := [(.int c1)]) (rest := []) (lenOf pd_15 rfl) rfl (by exact Nat.le_of_eq rfl) (hb hby d7_14) (fun _ _ => ⟨rfl, e0, (by decide : 0 + 0 ≤ _), (by decide : 0 + 0 ≤ _)⟩)
  dsimp only [Pt.U, Pt.locs, Pt.cells, Pt.slots] at X3 l3 y3 z3 st3 hQ3
  rw [l3, y3, z3] at X3
  obtain ⟨r1, rfl, hr1, N3q, e3⟩ := hQ3
  have N3 := Fr.app N0 N3q
  have pre4 : oP p e below (T3.setTop (mkF m 17 #[.val (.ref oc), .val (.int 2), .val (.int 0), .val (.int 1), .unset] [(.int r1)])) (s₁.setTop (entryFrame m #[(.ref oc), (.int 2), (.int 0)] 5)) := fun t kt => by
    refine pre0 _ ?_
    refine XS.iloadN X0.here hx rfl (hb hby d7_0) rfl ?_
    refine XS.iconst X0.here hx rfl (hb hby d7_1) ?_
    refine XS.iadd X0.here hx rfl (hb hby d7_2) rfl ?_
    refine XS.istoreN X0.here hx rfl (hb hby d7_3) rfl (l' := #[.val (.ref oc), .val (.int 2), .val (.int 0), .val (.int 1), .unset]) rfl ?_
    refine XS.iloadN X0.here hx rfl (hb hby d7_4) rfl ?_
    refine XS.iloadN X0.here hx rfl (hb hby d7_5) rfl ?_
    refine XS.icmpYes X0.here hx rfl (pc0 := 6) (pc' := 11) rfl (hb hby d7_6) rfl (own_feq (a := (1 : Int32)) (b := (2 : Int32)) (by decide) (by decide) hc6_1).2 (by decide) (by decide) ?_
    refine XS.aloadN X0.here hx rfl (hb hby d7_11) rfl rfl ?_
    refine XS.iloadN X0.here hx rfl (hb hby d7_12) rfl ?_
    refine X0.caload hx (j := (1 : Int32)) (v := (.int c1)) (by rw [e0]; exact Ar2.1) (State.isArrayOf_alike hZ.alike Ar2.2.1) Ar2.2.2 hin2 hat2 (g := (mkF m 13 #[.val (.ref oc), .val (.int 2), .val (.int 0), .val (.int 1), .unset] [(.int 1), (.ref oc)])) rfl rfl (hb hby d7_13) _ ?_
    refine st3 _ ?_
    exact kt
  by_cases hs1 : own_H c1.toInt
  · rw [if_pos hs1] at hr1
    have hc17_5 : ¬ (r1.toInt = (0 : Int)) := by omega
    have hc30_6 : (2 : Int) = (2 : Int) := by decide
    obtain ⟨fs, hr, q1, q2, q3, q4⟩ := X3.leave (v := some (.int 2)) (fun h => by rw [Bd.returns] at h; cases h)
    refine ⟨_, _, pre4 _ ?_, q1, q2, _, _, rfl, ?_, ⟨_, rfl⟩, q3, q4.mono (by decide) (by decide)⟩
    · refine XS.ifYes X3.here hx rfl (pc0 := 17) (pc' := 22) rfl (hb hby d7_17) rfl (own_if (own_feq (a := r1) (b := (0 : Int32)) rfl (by decide) hc17_5).2) (by decide) (by decide) ?_
      refine XS.iloadN X3.here hx rfl (hb hby d7_22) rfl ?_
      refine XS.iconst X3.here hx rfl (hb hby d7_23) ?_
      refine XS.iadd X3.here hx rfl (hb hby d7_24) rfl ?_
      refine XS.istore X3.here hx rfl (hb hby d7_25) rfl (l' := #[.val (.ref oc), .val (.int 2), .val (.int 0), .val (.int 1), .val (.int 2)]) rfl ?_
      refine XS.iload X3.here hx rfl (hb hby d7_27) rfl ?_
      refine XS.iloadN X3.here hx rfl (hb hby d7_29) rfl ?_
      refine XS.icmpNo X3.here hx rfl (hb hby d7_30) rfl (own_teq (a := (2 : Int32)) (b := (2 : Int32)) (by decide) (by decide) hc30_6).2 ?_
      show Steps p.tables e below (T3.setTop (mkF m 33 #[.val (.ref oc), .val (.int 2), .val (.int 0), .val (.int 1), .val (.int 2)] [])) _
      refine XS.iload X3.here hx rfl (hb hby d7_33) rfl ?_
      exact retI X3 hx Bd.returns (hb hby d7_35) hr
    · show Q_rf2_0 Z _ _ _ _ h0 n0 _ T3.heap _
      rw [e3]
      exact ⟨_, rfl, by rw [if_pos hs1]; decide, N3, rfl⟩
  · rw [if_neg hs1] at hr1
    have hc17_7 : r1.toInt = (0 : Int) := by omega
    obtain ⟨fs, hr, q1, q2, q3, q4⟩ := X3.leave (v := some (.int 1)) (fun h => by rw [Bd.returns] at h; cases h)
    refine ⟨_, _, pre4 _ ?_, q1, q2, _, _, rfl, ?_, ⟨_, rfl⟩, q3, q4.mono (by decide) (by decide)⟩
    · refine XS.ifNo X3.here hx rfl (hb hby d7_17) rfl (own_if (own_teq (a := r1) (b := (0 : Int32)) rfl (by decide) hc17_7).2) ?_
      refine XS.iloadN X3.here hx rfl (hb hby d7_20) rfl ?_
      exact retI X3 hx Bd.returns (hb hby d7_21) hr
    · show Q_rf2_0 Z _ _ _ _ h0 n0 _ T3.heap _
      rw [e3]
      exact ⟨_, rfl, by rw [if_neg hs1]; decide, N3, rfl⟩
theorem d8_19 : decode prog_26_method_5_code 19 = .ok (.aload_n 0, 1) := by decide +kernel
theorem d8_20 : decode prog_26_method_5_code 20 = .ok (.iload_n 2, 1) := by decide +kernel
theorem d8_21 : decode prog_26_method_5_code 21 = .ok (.invokevirtual 86, 3) := by decide +kernel
theorem d8_24 : decode prog_26_method_5_code 24 = .ok (.invokestatic 90, 3) := by decide +kernel
theorem d8_27 : decode prog_26_method_5_code 27 = .ok (.ifCond .ne 5, 3) := by decide +kernel
theorem d8_32 : decode prog_26_method_5_code 32 = .ok (.iinc 2 1, 3) := by decide +kernel
theorem d8_35 : decode prog_26_method_5_code 35 = .ok (.goto (-31), 3) := by decide +kernel
theorem ef_rm_ee2_0 (m : MethodId) (x0 : Addr) : entryFrame m #[(.ref x0), (.int 0)] 3 = mkF m 0 #[.val (.ref x0), .val (.int 0), .unset] [] := by first | (simp [entryFrame, mkF, argsToLocals, Value.category]; done) | rfl
theorem pd_16 : parseMethodDescriptor "(I)C" = some ⟨[.int], some .char⟩ := by decide +kernel
def Q_ee2_0 (Z : State) (oa : Addr) (vcs : Int32) (vf : Value) (ob : Addr) (kb : ClassId) (c0 : Int32) (c1 : Int32) (h0 : Heap) (n0 : Nat) (v : Option Value) (h : Heap) (L : List Loc) : Prop := ∃ z : Int32, v = some (.int z) ∧ (z.toInt = (if own_H c1.toInt then (2 : Int) else (1 : Int))) ∧ Fr n0 L ∧ h = h0
theorem rm_ee2_0 (l : Launch) (Z : State) (a0 : Array Value) (hw : ∀ d ∈ tables_1, d.before a0 Z = true) (ws : List Jvm.Cond) (oa : Addr) (vcs : Int32) (vf : Value) (ob : Addr) (kb : ClassId) (c0 : Int32) (c1 : Int32) (h0 : Heap) (n0 : Nat) (Z0 : n0 ≤ h0.size) (Os : own_st Z h0 vcs vf) (Sx : own_s2 Z h0 oa ob kb c0 c1) :
    MetFree l yn23 (head1 (Jvm.Cond.code yn23 prog_26_method_5_code 3 (some .int) :: ws) ⟨5, 0, 0, 66⟩) (fun a U => a = #[(.ref oa), (.int 0)] ∧ Z.Warmed39 U.vm ∧ U.heap = h0) (fun _ _ _ _ _ => True) (fun _ U o U' => ∃ v L, o = .returned v ∧ Q_ee2_0 Z oa vcs vf ob kb c0 c1 h0 n0 v U'.heap L ∧ FrameEnd U o U' L 0 0) := by
  refine MetFree.of_bodySF (plainFor_of_name pn_0) hisR ?_
  intro p e s m args below meth c s₁ Bd hml0 hP hK
  obtain ⟨rfl, hZ, hh⟩ := hP
  have hx := Bd.exec
  have hby := Bd.bytes
  have hml : c.maxLocals = 3 := hml0
  have hown : s.vm.findClass "com/example/path_template_matcher/pathtemplatematcher/PercentEncoding" = some m.cls := findClass_of_methodNamed Bd.named
  have hnm := (name_of_methodNamed Bd.named Bd.method).1
  have X0 : Stand p l e ⟨5, 0, 0, 66⟩ s m #[(.ref oa), (.int 0)] below meth c s₁ [] 0 0 := Stand.of_body Bd
  have e0 : s₁.heap = h0 := by rw [← hh, Bd.state]; rfl
  have N0 := Fr.nil n0
  have pre0 : oP p e below (s₁.setTop (mkF m 0 #[.val (.ref oa), .val (.int 0), .unset] [])) (s₁.setTop (entryFrame m #[(.ref oa), (.int 0)] 3)) := fun t k => castTop (ef_rm_ee2_0 m oa) k
  have hc8_1 : ¬ ((2 : Int) < (1 : Int)) := by decide
  obtain ⟨cq2, kq2, q2a, q2b, q2c⟩ := isOf hZ e0 Sx.1
  obtain ⟨_, _, ⟨T2, L2, k2, n2⟩, -, X2, ⟨Lc2, hQ2, l2, y2, z2⟩, st2⟩ := X0.virtualBack hx (y := yn20) (z := yn20) hown (mvT hZ (ow hw 40 rfl)) (mvT hZ (ow hw 41 rfl)) (notFace_of_selects (args := #[]) (mvT hZ (ow hw 43 rfl))) (mvT hZ (ow hw 43 rfl)) (mvT hZ (ow hw 42 rfl)) (by decide) (backOf (W := 1) (rm_ln2 l Z a0 hw [] oa vcs vf ob kb c0 c1 h0 n0 Z0 Os Sx) hZ (ow hw 44 rfl) (ow hw 5 rfl) (by decide) (by decide)) q2a q2c (g := (mkF m 13 #[.val (.ref oa), .val (.int 0), .val (.int 1)] [(.ref oa), (.int 1)])) rfl (by rw [hml]; rfl) (Steps.refl _) (argsL := []) (rest := [(.int 1)]) (lenOf pd_14 rfl) rfl (by exact Nat.le_of_eq rfl) (hb hby d8_13) (fun _ _ => ⟨rfl, e0, (by decide : 0 + 0 ≤ _), (by decide : 0 + 0 ≤ _)⟩)
  dsimp only [Pt.U, Pt.locs, Pt.cells, Pt.slots] at X2 l2 y2 z2 st2 hQ2
  rw [l2, y2, z2] at X2
  obtain ⟨zl1, rfl, hzl1, N2q, e2⟩ := hQ2
  have N2 := Fr.app N0 N2q
  have pre3 : oP p e below (T2.setTop (mkF m 16 #[.val (.ref oa), .val (.int 0), .val (.int 1)] [(.int zl1), (.int 1)])) (s₁.setTop (entryFrame m #[(.ref oa), (.int 0)] 3)) := fun t kt => by
    refine pre0 _ ?_
    refine XS.iloadN X0.here hx rfl (hb hby d8_0) rfl ?_
    refine XS.iconst X0.here hx rfl (hb hby d8_1) ?_
    refine XS.iadd X0.here hx rfl (hb hby d8_2) rfl ?_
    refine XS.istoreN X0.here hx rfl (hb hby d8_3) rfl (l' := #[.val (.ref oa), .val (.int 0), .val (.int 1)]) rfl ?_
    refine XS.iloadN X0.here hx rfl (hb hby d8_4) rfl ?_
    refine XS.iloadN X0.here hx rfl (hb hby d8_5) rfl ?_
    refine XS.iconst X0.here hx rfl (hb hby d8_6) ?_
    refine XS.iadd X0.here hx rfl (hb hby d8_7) rfl ?_
    refine XS.icmpNo X0.here hx rfl (hb hby d8_8) rfl (own_flt (a := (2 : Int32)) (b := (1 : Int32)) (by decide) (by decide) hc8_1).2.2.1 ?_
    refine XS.iloadN X0.here hx rfl (hb hby d8_11) rfl ?_
    refine XS.aloadN X0.here hx rfl (hb hby d8_12) rfl rfl ?_
    refine st2.trans ?_
    exact kt
  subst hzl1
  have pre4 : oP p e below (T2.setTop (mkF m 16 #[.val (.ref oa), .val (.int 0), .val (.int 1)] [(.int 2), (.int 1)])) (s₁.setTop (entryFrame m #[(.ref oa), (.int 0)] 3)) := pre3
  have hc16_5 : ¬ ((1 : Int) = (2 : Int)) := by decide
  obtain ⟨cq6, kq6, q6a, q6b, q6c⟩ := isOf hZ e2 Sx.1
  obtain ⟨_, _, ⟨T6, L6, k6, n6⟩, -, X6, ⟨Lc6, hQ6, l6, y6, z6⟩, st6⟩ := X2.virtualBack hx (y := yn21) (z := yn21) hown (mvT hZ (ow hw 72 rfl)) (mvT hZ (ow hw 73 rfl)) (notFace_of_selects (args := #[]) (mvT hZ (ow hw 75 rfl))) (mvT hZ (ow hw 75 rfl)) (mvT hZ (ow hw 74 rfl)) (by decide) (backOf (W := 0) (rm_ca2_1 l Z a0 hw [] oa vcs vf ob kb c0 c1 h0 n0 Z0 Os Sx) hZ (ow hw 76 rfl) (ow hw 5 rfl) (by decide) (by decide)) q6a q6c (g := (mkF m 21 #[.val (.ref oa), .val (.int 0), .val (.int 1)] [(.int 1), (.ref oa)])) rfl (by rw [hml]; rfl) (Steps.refl _) (argsL := [(.int 1)]) (rest := []) (lenOf pd_16 rfl) rfl (by exact Nat.le_of_eq rfl) (hb hby d8_21) (fun _ _ => ⟨rfl, e2, (by decide : 0 + 0 ≤ _), (by decide : 0 + 0 ≤ _)⟩)
  dsimp only [Pt.U, Pt.locs, Pt.cells, Pt.slots] at X6 l6 y6 z6 st6 hQ6
  rw [l6, y6, z6] at X6
  obtain ⟨k1, rfl, hk1, N6q, e6⟩ := hQ6
  have N6 := Fr.app N2 N6q
  obtain ⟨_, _, ⟨T7, L7, k7, n7⟩, -, X7, ⟨Lc7, hQ7, l7, y7, z7⟩, st7⟩ := Jvm.LawKit.callS X6 hx (y := yn0) hown (mvT hZ (ow hw 99 rfl)) (mvT hZ (ow hw 100 rfl)) (mvT hZ (ow hw 38 rfl)) (mvT hZ (ow hw 101 rfl)) (by decide) (backOf (W := 0) (rm24 l Z a0 hw [] k1 h0 n0 Z0 ) hZ (ow hw 101 rfl) (ow hw 38 rfl) (by decide) (by decide)) (g := (mkF m 24 #[.val (.ref oa), .val (.int 0), .val (.int 1)] [(.int k1)])) rfl (by rw [hml]; rfl) (argsL := [(.int k1)]) (rest := []) (lenOf pd_15 rfl) rfl (by exact Nat.le_of_eq rfl) (hb hby d8_24) (fun _ _ => ⟨rfl, e6, (by decide : 0 + 0 ≤ _), (by decide : 0 + 0 ≤ _)⟩)
  dsimp only [Pt.U, Pt.locs, Pt.cells, Pt.slots] at X7 l7 y7 z7 st7 hQ7
  rw [l7, y7, z7] at X7
  obtain ⟨r1, rfl, hr1, N7q, e7⟩ := hQ7
  have N7 := Fr.app N6 N7q
  rw [hk1] at hr1
  have pre8 : oP p e below (T7.setTop (mkF m 27 #[.val (.ref oa), .val (.int 0), .val (.int 1)] [(.int r1)])) (s₁.setTop (entryFrame m #[(.ref oa), (.int 0)] 3)) := fun t kt => by
    refine pre4 _ ?_
    refine XS.icmpNo X2.here hx rfl (hb hby d8_16) rfl (own_feq (a := (1 : Int32)) (b := (2 : Int32)) (by decide) (by decide) hc16_5).1 ?_
    refine XS.aloadN X2.here hx rfl (hb hby d8_19) rfl rfl ?_
    refine XS.iloadN X2.here hx rfl (hb hby d8_20) rfl ?_
    refine st6.trans ?_
    refine st7 _ ?_
    exact kt
  by_cases hs1 : own_H c1.toInt
  · rw [if_pos hs1] at hr1
    have hc27_9 : ¬ (r1.toInt = (0 : Int)) := by omega
    have hc8_10 : ¬ ((2 : Int) < (2 : Int)) := by decide
    obtain ⟨cq11, kq11, q11a, q11b, q11c⟩ := isOf hZ e7 Sx.1
    obtain ⟨_, _, ⟨T11, L11, k11, n11⟩, -, X11, ⟨Lc11, hQ11, l11, y11, z11⟩, st11⟩ := X7.virtualBack hx (y := yn20) (z := yn20) hown (mvT hZ (ow hw 40 rfl)) (mvT hZ (ow hw 41 rfl)) (notFace_of_selects (args := #[]) (mvT hZ (ow hw 43 rfl))) (mvT hZ (ow hw 43 rfl)) (mvT hZ (ow hw 42 rfl)) (by decide) (backOf (W := 1) (rm_ln2 l Z a0 hw [] oa vcs vf ob kb c0 c1 h0 n0 Z0 Os Sx) hZ (ow hw 44 rfl) (ow hw 5 rfl) (by decide) (by decide)) q11a q11c (g := (mkF m 13 #[.val (.ref oa), .val (.int 0), .val (.int 2)] [(.ref oa), (.int 2)])) rfl (by rw [hml]; rfl) (Steps.refl _) (argsL := []) (rest := [(.int 2)]) (lenOf pd_14 rfl) rfl (by exact Nat.le_of_eq rfl) (hb hby d8_13) (fun _ _ => ⟨rfl, e7, (by decide : 0 + 0 ≤ _), (by decide : 0 + 0 ≤ _)⟩)
    dsimp only [Pt.U, Pt.locs, Pt.cells, Pt.slots] at X11 l11 y11 z11 st11 hQ11
    rw [l11, y11, z11] at X11
    obtain ⟨zl2, rfl, hzl2, N11q, e11⟩ := hQ11
    have N11 := Fr.app N7 N11q
    have pre12 : oP p e below (T11.setTop (mkF m 16 #[.val (.ref oa), .val (.int 0), .val (.int 2)] [(.int zl2), (.int 2)])) (s₁.setTop (entryFrame m #[(.ref oa), (.int 0)] 3)) := fun t kt => by
      refine pre8 _ ?_
      refine XS.ifYes X7.here hx rfl (pc0 := 27) (pc' := 32) rfl (hb hby d8_27) rfl (own_if (own_feq (a := r1) (b := (0 : Int32)) rfl (by decide) hc27_9).2) (by decide) (by decide) ?_
      refine XS.iinc X7.here hx rfl (hb hby d8_32) rfl (l' := #[.val (.ref oa), .val (.int 0), .val (.int 2)]) rfl ?_
      show Steps p.tables e below (T7.setTop (mkF m 35 #[.val (.ref oa), .val (.int 0), .val (.int 2)] [])) _
      refine XS.goto X7.here hx rfl (pc0 := 35) (pc' := 4) rfl (hb hby d8_35) (by decide) (by decide) ?_
      refine XS.iloadN X7.here hx rfl (hb hby d8_4) rfl ?_
      refine XS.iloadN X7.here hx rfl (hb hby d8_5) rfl ?_
      refine XS.iconst X7.here hx rfl (hb hby d8_6) ?_
      refine XS.iadd X7.here hx rfl (hb hby d8_7) rfl ?_
      refine XS.icmpNo X7.here hx rfl (hb hby d8_8) rfl (own_flt (a := (2 : Int32)) (b := (2 : Int32)) (by decide) (by decide) hc8_10).2.2.1 ?_
      refine XS.iloadN X7.here hx rfl (hb hby d8_11) rfl ?_
      refine XS.aloadN X7.here hx rfl (hb hby d8_12) rfl rfl ?_
      refine st11.trans ?_
      exact kt
    subst hzl2
    have pre13 : oP p e below (T11.setTop (mkF m 16 #[.val (.ref oa), .val (.int 0), .val (.int 2)] [(.int 2), (.int 2)])) (s₁.setTop (entryFrame m #[(.ref oa), (.int 0)] 3)) := pre12
    have hc16_14 : (2 : Int) = (2 : Int) := by decide
    obtain ⟨fs, hr, q1, q2, q3, q4⟩ := X11.leave (v := some (.int 2)) (fun h => by rw [Bd.returns] at h; cases h)
    refine ⟨_, _, pre13 _ ?_, q1, q2, _, _, rfl, ?_, ⟨_, rfl⟩, q3, q4.mono (by decide) (by decide)⟩
    · refine XS.icmpYes X11.here hx rfl (pc0 := 16) (pc' := 30) rfl (hb hby d8_16) rfl (own_teq (a := (2 : Int32)) (b := (2 : Int32)) (by decide) (by decide) hc16_14).1 (by decide) (by decide) ?_
      refine XS.iloadN X11.here hx rfl (hb hby d8_30) rfl ?_
      exact retI X11 hx Bd.returns (hb hby d8_31) hr
    · show Q_ee2_0 Z _ _ _ _ _ _ _ h0 n0 _ T11.heap _
      rw [e11]
      exact ⟨_, rfl, by rw [if_pos hs1]; decide, N11, rfl⟩
  · rw [if_neg hs1] at hr1
    have hc27_15 : r1.toInt = (0 : Int) := by omega
    obtain ⟨fs, hr, q1, q2, q3, q4⟩ := X7.leave (v := some (.int 1)) (fun h => by rw [Bd.returns] at h; cases h)
    refine ⟨_, _, pre8 _ ?_, q1, q2, _, _, rfl, ?_, ⟨_, rfl⟩, q3, q4.mono (by decide) (by decide)⟩
    · refine XS.ifNo X7.here hx rfl (hb hby d8_27) rfl (own_if (own_teq (a := r1) (b := (0 : Int32)) rfl (by decide) hc27_15).2) ?_
      refine XS.iloadN X7.here hx rfl (hb hby d8_30) rfl ?_
      show Steps p.tables e below (T7.setTop (mkF m 31 #[.val (.ref oa), .val (.int 0), .val (.int 1)] [(.int 1)])) _
      exact retI X7 hx Bd.returns (hb hby d8_31) hr
    · show Q_ee2_0 Z _ _ _ _ _ _ _ h0 n0 _ T7.heap _
      rw [e7]
      exact ⟨_, rfl, by rw [if_neg hs1]; decide, N7, rfl⟩
theorem ef_rm_rf2_1 (m : MethodId) (x0 : Addr) : entryFrame m #[(.ref x0), (.int 2), (.int 1)] 5 = mkF m 0 #[.val (.ref x0), .val (.int 2), .val (.int 1), .unset, .unset] [] := by first | (simp [entryFrame, mkF, argsToLocals, Value.category]; done) | rfl
def Q_rf2_1 (Z : State) (oc : Addr) (kC : ClassId) (c0 : Int32) (c1 : Int32) (h0 : Heap) (n0 : Nat) (v : Option Value) (h : Heap) (L : List Loc) : Prop := ∃ z : Int32, v = some (.int z) ∧ (z.toInt = (2 : Int)) ∧ Fr n0 L ∧ h = h0
theorem rm_rf2_1 (l : Launch) (Z : State) (a0 : Array Value) (hw : ∀ d ∈ tables_1, d.before a0 Z = true) (ws : List Jvm.Cond) (oc : Addr) (kC : ClassId) (c0 : Int32) (c1 : Int32) (h0 : Heap) (n0 : Nat) (Z0 : n0 ≤ h0.size) (Vc : Arv Z h0 oc kC .char (2 : Int32) [(.int c0), (.int c1)] (.int 0)) (uc0 : 0 ≤ c0.toInt) (uc1 : 0 ≤ c1.toInt) (vc0 : c0.toInt < 65536) (vc1 : c1.toInt < 65536) :
    MetFree l yn22 (head1 (Jvm.Cond.code yn22 method_4_code 5 (some .int) :: ws) ⟨0, 0, 0, 0⟩) (fun a U => a = #[(.ref oc), (.int 2), (.int 1)] ∧ Z.Warmed39 U.vm ∧ U.heap = h0) (fun _ _ _ _ _ => True) (fun _ U o U' => ∃ v L, o = .returned v ∧ Q_rf2_1 Z oc kC c0 c1 h0 n0 v U'.heap L ∧ FrameEnd U o U' L 0 0) := by
  refine MetFree.of_bodySF (plainFor_of_name pn_1) hisR ?_
  intro p e s m args below meth c s₁ Bd hml0 hP hK
  obtain ⟨rfl, hZ, hh⟩ := hP
  have hx := Bd.exec
  have hby := Bd.bytes
  have hml : c.maxLocals = 5 := hml0
  have hown : s.vm.findClass "com/example/path_template_matcher/pathtemplatematcher/PercentEncodingEscapeErrorPinLaw" = some m.cls := findClass_of_methodNamed Bd.named
  have hnm := (name_of_methodNamed Bd.named Bd.method).1
  have X0 : Stand p l e ⟨0, 0, 0, 0⟩ s m #[(.ref oc), (.int 2), (.int 1)] below meth c s₁ [] 0 0 := Stand.of_body Bd
  have e0 : s₁.heap = h0 := by rw [← hh, Bd.state]; rfl
  have N0 := Fr.nil n0
  have pre0 : oP p e below (s₁.setTop (mkF m 0 #[.val (.ref oc), .val (.int 2), .val (.int 1), .unset, .unset] [])) (s₁.setTop (entryFrame m #[(.ref oc), (.int 2), (.int 1)] 5)) := fun t k => castTop (ef_rm_rf2_1 m oc) k
  have hc6_1 : (2 : Int) = (2 : Int) := by decide
  obtain ⟨fs, hr, q1, q2, q3, q4⟩ := X0.leave (v := some (.int 2)) (fun h => by rw [Bd.returns] at h; cases h)
  refine ⟨_, _, pre0 _ ?_, q1, q2, _, _, rfl, ?_, ⟨_, rfl⟩, q3, q4.mono (by decide) (by decide)⟩
  · refine XS.iloadN X0.here hx rfl (hb hby d7_0) rfl ?_
    refine XS.iconst X0.here hx rfl (hb hby d7_1) ?_
    refine XS.iadd X0.here hx rfl (hb hby d7_2) rfl ?_
    refine XS.istoreN X0.here hx rfl (hb hby d7_3) rfl (l' := #[.val (.ref oc), .val (.int 2), .val (.int 1), .val (.int 2), .unset]) rfl ?_
    refine XS.iloadN X0.here hx rfl (hb hby d7_4) rfl ?_
    refine XS.iloadN X0.here hx rfl (hb hby d7_5) rfl ?_
    refine XS.icmpNo X0.here hx rfl (hb hby d7_6) rfl (own_teq (a := (2 : Int32)) (b := (2 : Int32)) (by decide) (by decide) hc6_1).2 ?_
    refine XS.iloadN X0.here hx rfl (hb hby d7_9) rfl ?_
    exact retI X0 hx Bd.returns (hb hby d7_10) hr
  · show Q_rf2_1 Z _ _ _ _ h0 n0 _ s₁.heap _
    rw [e0]
    exact ⟨_, rfl, by decide, N0, rfl⟩
theorem ef_rm_ee2_1 (m : MethodId) (x0 : Addr) : entryFrame m #[(.ref x0), (.int 1)] 3 = mkF m 0 #[.val (.ref x0), .val (.int 1), .unset] [] := by first | (simp [entryFrame, mkF, argsToLocals, Value.category]; done) | rfl
def Q_ee2_1 (Z : State) (oa : Addr) (vcs : Int32) (vf : Value) (ob : Addr) (kb : ClassId) (c0 : Int32) (c1 : Int32) (h0 : Heap) (n0 : Nat) (v : Option Value) (h : Heap) (L : List Loc) : Prop := ∃ z : Int32, v = some (.int z) ∧ (z.toInt = (2 : Int)) ∧ Fr n0 L ∧ h = h0
theorem rm_ee2_1 (l : Launch) (Z : State) (a0 : Array Value) (hw : ∀ d ∈ tables_1, d.before a0 Z = true) (ws : List Jvm.Cond) (oa : Addr) (vcs : Int32) (vf : Value) (ob : Addr) (kb : ClassId) (c0 : Int32) (c1 : Int32) (h0 : Heap) (n0 : Nat) (Z0 : n0 ≤ h0.size) (Os : own_st Z h0 vcs vf) (Sx : own_s2 Z h0 oa ob kb c0 c1) :
    MetFree l yn23 (head1 (Jvm.Cond.code yn23 prog_26_method_5_code 3 (some .int) :: ws) ⟨2, 0, 0, 26⟩) (fun a U => a = #[(.ref oa), (.int 1)] ∧ Z.Warmed39 U.vm ∧ U.heap = h0) (fun _ _ _ _ _ => True) (fun _ U o U' => ∃ v L, o = .returned v ∧ Q_ee2_1 Z oa vcs vf ob kb c0 c1 h0 n0 v U'.heap L ∧ FrameEnd U o U' L 0 0) := by
  refine MetFree.of_bodySF (plainFor_of_name pn_0) hisR ?_
  intro p e s m args below meth c s₁ Bd hml0 hP hK
  obtain ⟨rfl, hZ, hh⟩ := hP
  have hx := Bd.exec
  have hby := Bd.bytes
  have hml : c.maxLocals = 3 := hml0
  have hown : s.vm.findClass "com/example/path_template_matcher/pathtemplatematcher/PercentEncoding" = some m.cls := findClass_of_methodNamed Bd.named
  have hnm := (name_of_methodNamed Bd.named Bd.method).1
  have X0 : Stand p l e ⟨2, 0, 0, 26⟩ s m #[(.ref oa), (.int 1)] below meth c s₁ [] 0 0 := Stand.of_body Bd
  have e0 : s₁.heap = h0 := by rw [← hh, Bd.state]; rfl
  have N0 := Fr.nil n0
  have pre0 : oP p e below (s₁.setTop (mkF m 0 #[.val (.ref oa), .val (.int 1), .unset] [])) (s₁.setTop (entryFrame m #[(.ref oa), (.int 1)] 3)) := fun t k => castTop (ef_rm_ee2_1 m oa) k
  have hc8_1 : ¬ ((3 : Int) < (2 : Int)) := by decide
  obtain ⟨cq2, kq2, q2a, q2b, q2c⟩ := isOf hZ e0 Sx.1
  obtain ⟨_, _, ⟨T2, L2, k2, n2⟩, -, X2, ⟨Lc2, hQ2, l2, y2, z2⟩, st2⟩ := X0.virtualBack hx (y := yn20) (z := yn20) hown (mvT hZ (ow hw 40 rfl)) (mvT hZ (ow hw 41 rfl)) (notFace_of_selects (args := #[]) (mvT hZ (ow hw 43 rfl))) (mvT hZ (ow hw 43 rfl)) (mvT hZ (ow hw 42 rfl)) (by decide) (backOf (W := 1) (rm_ln2 l Z a0 hw [] oa vcs vf ob kb c0 c1 h0 n0 Z0 Os Sx) hZ (ow hw 44 rfl) (ow hw 5 rfl) (by decide) (by decide)) q2a q2c (g := (mkF m 13 #[.val (.ref oa), .val (.int 1), .val (.int 2)] [(.ref oa), (.int 2)])) rfl (by rw [hml]; rfl) (Steps.refl _) (argsL := []) (rest := [(.int 2)]) (lenOf pd_14 rfl) rfl (by exact Nat.le_of_eq rfl) (hb hby d8_13) (fun _ _ => ⟨rfl, e0, (by decide : 0 + 0 ≤ _), (by decide : 0 + 0 ≤ _)⟩)
  dsimp only [Pt.U, Pt.locs, Pt.cells, Pt.slots] at X2 l2 y2 z2 st2 hQ2
  rw [l2, y2, z2] at X2
  obtain ⟨zl1, rfl, hzl1, N2q, e2⟩ := hQ2
  have N2 := Fr.app N0 N2q
  have pre3 : oP p e below (T2.setTop (mkF m 16 #[.val (.ref oa), .val (.int 1), .val (.int 2)] [(.int zl1), (.int 2)])) (s₁.setTop (entryFrame m #[(.ref oa), (.int 1)] 3)) := fun t kt => by
    refine pre0 _ ?_
    refine XS.iloadN X0.here hx rfl (hb hby d8_0) rfl ?_
    refine XS.iconst X0.here hx rfl (hb hby d8_1) ?_
    refine XS.iadd X0.here hx rfl (hb hby d8_2) rfl ?_
    refine XS.istoreN X0.here hx rfl (hb hby d8_3) rfl (l' := #[.val (.ref oa), .val (.int 1), .val (.int 2)]) rfl ?_
    refine XS.iloadN X0.here hx rfl (hb hby d8_4) rfl ?_
    refine XS.iloadN X0.here hx rfl (hb hby d8_5) rfl ?_
    refine XS.iconst X0.here hx rfl (hb hby d8_6) ?_
    refine XS.iadd X0.here hx rfl (hb hby d8_7) rfl ?_
    refine XS.icmpNo X0.here hx rfl (hb hby d8_8) rfl (own_flt (a := (3 : Int32)) (b := (2 : Int32)) (by decide) (by decide) hc8_1).2.2.1 ?_
    refine XS.iloadN X0.here hx rfl (hb hby d8_11) rfl ?_
    refine XS.aloadN X0.here hx rfl (hb hby d8_12) rfl rfl ?_
    refine st2.trans ?_
    exact kt
  subst hzl1
  have pre4 : oP p e below (T2.setTop (mkF m 16 #[.val (.ref oa), .val (.int 1), .val (.int 2)] [(.int 2), (.int 2)])) (s₁.setTop (entryFrame m #[(.ref oa), (.int 1)] 3)) := pre3
  have hc16_5 : (2 : Int) = (2 : Int) := by decide
  obtain ⟨fs, hr, q1, q2, q3, q4⟩ := X2.leave (v := some (.int 2)) (fun h => by rw [Bd.returns] at h; cases h)
  refine ⟨_, _, pre4 _ ?_, q1, q2, _, _, rfl, ?_, ⟨_, rfl⟩, q3, q4.mono (by decide) (by decide)⟩
  · refine XS.icmpYes X2.here hx rfl (pc0 := 16) (pc' := 30) rfl (hb hby d8_16) rfl (own_teq (a := (2 : Int32)) (b := (2 : Int32)) (by decide) (by decide) hc16_5).1 (by decide) (by decide) ?_
    refine XS.iloadN X2.here hx rfl (hb hby d8_30) rfl ?_
    exact retI X2 hx Bd.returns (hb hby d8_31) hr
  · show Q_ee2_1 Z _ _ _ _ _ _ _ h0 n0 _ T2.heap _
    rw [e2]
    exact ⟨_, rfl, by decide, N2, rfl⟩
theorem d7_36 : decode method_4_code 36 = .ok (.aload_n 0, 1) := by decide +kernel
theorem d7_37 : decode method_4_code 37 = .ok (.iload 4, 2) := by decide +kernel
theorem d7_39 : decode method_4_code 39 = .ok (.caload, 1) := by decide +kernel
theorem d7_40 : decode method_4_code 40 = .ok (.invokestatic 26, 3) := by decide +kernel
theorem d7_43 : decode method_4_code 43 = .ok (.ifCond .ne 6, 3) := by decide +kernel
theorem d7_46 : decode method_4_code 46 = .ok (.iload 4, 2) := by decide +kernel
theorem d7_48 : decode method_4_code 48 = .ok (.ireturn, 1) := by decide +kernel
theorem d7_49 : decode method_4_code 49 = .ok (.iconst (-1), 1) := by decide +kernel
theorem d7_50 : decode method_4_code 50 = .ok (.ireturn, 1) := by decide +kernel
theorem ef_rm_rf3_0 (m : MethodId) (x0 : Addr) : entryFrame m #[(.ref x0), (.int 3), (.int 0)] 5 = mkF m 0 #[.val (.ref x0), .val (.int 3), .val (.int 0), .unset, .unset] [] := by first | (simp [entryFrame, mkF, argsToLocals, Value.category]; done) | rfl
def Q_rf3_0 (Z : State) (oc : Addr) (kC : ClassId) (c0 : Int32) (c1 : Int32) (c2 : Int32) (h0 : Heap) (n0 : Nat) (v : Option Value) (h : Heap) (L : List Loc) : Prop := ∃ z : Int32, v = some (.int z) ∧ (z.toInt = (if own_H c1.toInt then (if own_H c2.toInt then (-1 : Int) else (2 : Int)) else (1 : Int))) ∧ Fr n0 L ∧ h = h0
theorem rm_rf3_0 (l : Launch) (Z : State) (a0 : Array Value) (hw : ∀ d ∈ tables_1, d.before a0 Z = true) (ws : List Jvm.Cond) (oc : Addr) (kC : ClassId) (c0 : Int32) (c1 : Int32) (c2 : Int32) (h0 : Heap) (n0 : Nat) (Z0 : n0 ≤ h0.size) (Vc : Arv Z h0 oc kC .char (3 : Int32) [(.int c0), (.int c1), (.int c2)] (.int 0)) (uc0 : 0 ≤ c0.toInt) (uc1 : 0 ≤ c1.toInt) (uc2 : 0 ≤ c2.toInt) (vc0 : c0.toInt < 65536) (vc1 : c1.toInt < 65536) (vc2 : c2.toInt < 65536) :
    MetFree l yn22 (head1 (Jvm.Cond.code yn22 method_4_code 5 (some .int) :: ws) ⟨1, 0, 0, 13⟩) (fun a U => a = #[(.ref oc), (.int 3), (.int 0)] ∧ Z.Warmed39 U.vm ∧ U.heap = h0) (fun _ _ _ _ _ => True) (fun _ U o U' => ∃ v L, o = .returned v ∧ Q_rf3_0 Z oc kC c0 c1 c2 h0 n0 v U'.heap L ∧ FrameEnd U o U' L 0 0) := by
  refine MetFree.of_bodySF (plainFor_of_name pn_1) hisR ?_
  intro p e s m args below meth c s₁ Bd hml0 hP hK
  obtain ⟨rfl, hZ, hh⟩ := hP
  have hx := Bd.exec
  have hby := Bd.bytes
  have hml : c.maxLocals = 5 := hml0
  have hown : s.vm.findClass "com/example/path_template_matcher/pathtemplatematcher/PercentEncodingEscapeErrorPinLaw" = some m.cls := findClass_of_methodNamed Bd.named
  have hnm := (name_of_methodNamed Bd.named Bd.method).1
  have X0 : Stand p l e ⟨1, 0, 0, 13⟩ s m #[(.ref oc), (.int 3), (.int 0)] below meth c s₁ [] 0 0 := Stand.of_body Bd
  have e0 : s₁.heap = h0 := by rw [← hh, Bd.state]; rfl
  have N0 := Fr.nil n0
  have pre0 : oP p e below (s₁.setTop (mkF m 0 #[.val (.ref oc), .val (.int 3), .val (.int 0), .unset, .unset] [])) (s₁.setTop (entryFrame m #[(.ref oc), (.int 3), (.int 0)] 5)) := fun t k => castTop (ef_rm_rf3_0 m oc) k
  have hc6_1 : ¬ ((1 : Int) = (3 : Int)) := by decide
  obtain ⟨cl2, Ar2, q2, S2, M2, H2, G2⟩ := id Vc
  have hin2 : ¬ ((1 : Int32) < 0 ∨ cl2.slots.size ≤ ((1 : Int32)).toNatClampNeg) := inb_of S2 ⟨by decide, by decide⟩
  have hat2 : cl2.slots[((1 : Int32)).toNatClampNeg]? = some (.int c1) := Has.at H2 hin2 rfl
  obtain ⟨_, _, ⟨T3, L3, k3, n3⟩, -, X3, ⟨Lc3, hQ3, l3, y3, z3⟩, st3⟩ := Jvm.LawKit.callS X0 hx (y := yn1) hown (mvT hZ (ow hw 69 rfl)) (mvT hZ (ow hw 70 rfl)) (mvT hZ (ow hw 34 rfl)) (mvT hZ (ow hw 71 rfl)) (by decide) (backOf (W := 0) (rm16 l Z a0 hw [] c1 h0 n0 Z0 uc1 vc1) hZ (ow hw 71 rfl) (ow hw 34 rfl) (by decide) (by decide)) (g := (mkF m 14 #[.val (.ref oc), .val (.int 3), .val (.int 0), .val (.int 1), .unset] [(.int c1)])) rfl (by rw [hml]; rfl) (argsL := [(.int c1)]) (rest := []) (lenOf pd_15 rfl) rfl (by exact Nat.le_of_eq rfl) (hb hby d7_14) (fun _ _ => ⟨rfl, e0, (by decide : 0 + 0 ≤ _), (by decide : 0 + 0 ≤ _)⟩)
  dsimp only [Pt.U, Pt.locs, Pt.cells, Pt.slots] at X3 l3 y3 z3 st3 hQ3
  rw [l3, y3, z3] at X3
  obtain ⟨r1, rfl, hr1, N3q, e3⟩ := hQ3
  have N3 := Fr.app N0 N3q
  have pre4 : oP p e below (T3.setTop (mkF m 17 #[.val (.ref oc), .val (.int 3), .val (.int 0), .val (.int 1), .unset] [(.int r1)])) (s₁.setTop (entryFrame m #[(.ref oc), (.int 3), (.int 0)] 5)) := fun t kt => by
    refine pre0 _ ?_
    refine XS.iloadN X0.here hx rfl (hb hby d7_0) rfl ?_
    refine XS.iconst X0.here hx rfl (hb hby d7_1) ?_
    refine XS.iadd X0.here hx rfl (hb hby d7_2) rfl ?_
    refine XS.istoreN X0.here hx rfl (hb hby d7_3) rfl (l' := #[.val (.ref oc), .val (.int 3), .val (.int 0), .val (.int 1), .unset]) rfl ?_
    refine XS.iloadN X0.here hx rfl (hb hby d7_4) rfl ?_
    refine XS.iloadN X0.here hx rfl (hb hby d7_5) rfl ?_
    refine XS.icmpYes X0.here hx rfl (pc0 := 6) (pc' := 11) rfl (hb hby d7_6) rfl (own_feq (a := (1 : Int32)) (b := (3 : Int32)) (by decide) (by decide) hc6_1).2 (by decide) (by decide) ?_
    refine XS.aloadN X0.here hx rfl (hb hby d7_11) rfl rfl ?_
    refine XS.iloadN X0.here hx rfl (hb hby d7_12) rfl ?_
    refine X0.caload hx (j := (1 : Int32)) (v := (.int c1)) (by rw [e0]; exact Ar2.1) (State.isArrayOf_alike hZ.alike Ar2.2.1) Ar2.2.2 hin2 hat2 (g := (mkF m 13 #[.val (.ref oc), .val (.int 3), .val (.int 0), .val (.int 1), .unset] [(.int 1), (.ref oc)])) rfl rfl (hb hby d7_13) _ ?_
    refine st3 _ ?_
    exact kt
  by_cases hs1 : own_H c1.toInt
  · rw [if_pos hs1] at hr1
    have hc17_5 : ¬ (r1.toInt = (0 : Int)) := by omega
    have hc30_6 : ¬ ((2 : Int) = (3 : Int)) := by decide
    obtain ⟨cl7, Ar7, q7, S7, M7, H7, G7⟩ := id Vc
    have hin7 : ¬ ((2 : Int32) < 0 ∨ cl7.slots.size ≤ ((2 : Int32)).toNatClampNeg) := inb_of S7 ⟨by decide, by decide⟩
    have hat7 : cl7.slots[((2 : Int32)).toNatClampNeg]? = some (.int c2) := Has.at H7 hin7 rfl
    obtain ⟨_, _, ⟨T8, L8, k8, n8⟩, -, X8, ⟨Lc8, hQ8, l8, y8, z8⟩, st8⟩ := Jvm.LawKit.callS X3 hx (y := yn1) hown (mvT hZ (ow hw 69 rfl)) (mvT hZ (ow hw 70 rfl)) (mvT hZ (ow hw 34 rfl)) (mvT hZ (ow hw 71 rfl)) (by decide) (backOf (W := 0) (rm16 l Z a0 hw [] c2 h0 n0 Z0 uc2 vc2) hZ (ow hw 71 rfl) (ow hw 34 rfl) (by decide) (by decide)) (g := (mkF m 40 #[.val (.ref oc), .val (.int 3), .val (.int 0), .val (.int 1), .val (.int 2)] [(.int c2)])) rfl (by rw [hml]; rfl) (argsL := [(.int c2)]) (rest := []) (lenOf pd_15 rfl) rfl (by exact Nat.le_of_eq rfl) (hb hby d7_40) (fun _ _ => ⟨rfl, e3, (by decide : 0 + 0 ≤ _), (by decide : 0 + 0 ≤ _)⟩)
    dsimp only [Pt.U, Pt.locs, Pt.cells, Pt.slots] at X8 l8 y8 z8 st8 hQ8
    rw [l8, y8, z8] at X8
    obtain ⟨r2, rfl, hr2, N8q, e8⟩ := hQ8
    have N8 := Fr.app N3 N8q
    have pre9 : oP p e below (T8.setTop (mkF m 43 #[.val (.ref oc), .val (.int 3), .val (.int 0), .val (.int 1), .val (.int 2)] [(.int r2)])) (s₁.setTop (entryFrame m #[(.ref oc), (.int 3), (.int 0)] 5)) := fun t kt => by
      refine pre4 _ ?_
      refine XS.ifYes X3.here hx rfl (pc0 := 17) (pc' := 22) rfl (hb hby d7_17) rfl (own_if (own_feq (a := r1) (b := (0 : Int32)) rfl (by decide) hc17_5).2) (by decide) (by decide) ?_
      refine XS.iloadN X3.here hx rfl (hb hby d7_22) rfl ?_
      refine XS.iconst X3.here hx rfl (hb hby d7_23) ?_
      refine XS.iadd X3.here hx rfl (hb hby d7_24) rfl ?_
      refine XS.istore X3.here hx rfl (hb hby d7_25) rfl (l' := #[.val (.ref oc), .val (.int 3), .val (.int 0), .val (.int 1), .val (.int 2)]) rfl ?_
      refine XS.iload X3.here hx rfl (hb hby d7_27) rfl ?_
      refine XS.iloadN X3.here hx rfl (hb hby d7_29) rfl ?_
      refine XS.icmpYes X3.here hx rfl (pc0 := 30) (pc' := 36) rfl (hb hby d7_30) rfl (own_feq (a := (2 : Int32)) (b := (3 : Int32)) (by decide) (by decide) hc30_6).2 (by decide) (by decide) ?_
      show Steps p.tables e below (T3.setTop (mkF m 36 #[.val (.ref oc), .val (.int 3), .val (.int 0), .val (.int 1), .val (.int 2)] [])) _
      refine XS.aloadN X3.here hx rfl (hb hby d7_36) rfl rfl ?_
      refine XS.iload X3.here hx rfl (hb hby d7_37) rfl ?_
      refine X3.caload hx (j := (2 : Int32)) (v := (.int c2)) (by rw [e3]; exact Ar7.1) (State.isArrayOf_alike hZ.alike Ar7.2.1) Ar7.2.2 hin7 hat7 (g := (mkF m 39 #[.val (.ref oc), .val (.int 3), .val (.int 0), .val (.int 1), .val (.int 2)] [(.int 2), (.ref oc)])) rfl rfl (hb hby d7_39) _ ?_
      refine st8 _ ?_
      exact kt
    by_cases hs2 : own_H c2.toInt
    · rw [if_pos hs2] at hr2
      have hc43_10 : ¬ (r2.toInt = (0 : Int)) := by omega
      obtain ⟨fs, hr, q1, q2, q3, q4⟩ := X8.leave (v := some (.int (-1 : Int32))) (fun h => by rw [Bd.returns] at h; cases h)
      refine ⟨_, _, pre9 _ ?_, q1, q2, _, _, rfl, ?_, ⟨_, rfl⟩, q3, q4.mono (by decide) (by decide)⟩
      · refine XS.ifYes X8.here hx rfl (pc0 := 43) (pc' := 49) rfl (hb hby d7_43) rfl (own_if (own_feq (a := r2) (b := (0 : Int32)) rfl (by decide) hc43_10).2) (by decide) (by decide) ?_
        refine XS.iconst X8.here hx rfl (hb hby d7_49) ?_
        exact retI X8 hx Bd.returns (hb hby d7_50) hr
      · show Q_rf3_0 Z _ _ _ _ _ h0 n0 _ T8.heap _
        rw [e8]
        exact ⟨_, rfl, by rw [if_pos hs1, if_pos hs2]; decide, N8, rfl⟩
    · rw [if_neg hs2] at hr2
      have hc43_11 : r2.toInt = (0 : Int) := by omega
      obtain ⟨fs, hr, q1, q2, q3, q4⟩ := X8.leave (v := some (.int 2)) (fun h => by rw [Bd.returns] at h; cases h)
      refine ⟨_, _, pre9 _ ?_, q1, q2, _, _, rfl, ?_, ⟨_, rfl⟩, q3, q4.mono (by decide) (by decide)⟩
      · refine XS.ifNo X8.here hx rfl (hb hby d7_43) rfl (own_if (own_teq (a := r2) (b := (0 : Int32)) rfl (by decide) hc43_11).2) ?_
        refine XS.iload X8.here hx rfl (hb hby d7_46) rfl ?_
        exact retI X8 hx Bd.returns (hb hby d7_48) hr
      · show Q_rf3_0 Z _ _ _ _ _ h0 n0 _ T8.heap _
        rw [e8]
        exact ⟨_, rfl, by rw [if_pos hs1, if_neg hs2]; decide, N8, rfl⟩
  · rw [if_neg hs1] at hr1
    have hc17_12 : r1.toInt = (0 : Int) := by omega
    obtain ⟨fs, hr, q1, q2, q3, q4⟩ := X3.leave (v := some (.int 1)) (fun h => by rw [Bd.returns] at h; cases h)
    refine ⟨_, _, pre4 _ ?_, q1, q2, _, _, rfl, ?_, ⟨_, rfl⟩, q3, q4.mono (by decide) (by decide)⟩
    · refine XS.ifNo X3.here hx rfl (hb hby d7_17) rfl (own_if (own_teq (a := r1) (b := (0 : Int32)) rfl (by decide) hc17_12).2) ?_
      refine XS.iloadN X3.here hx rfl (hb hby d7_20) rfl ?_
      exact retI X3 hx Bd.returns (hb hby d7_21) hr
    · show Q_rf3_0 Z _ _ _ _ _ h0 n0 _ T3.heap _
      rw [e3]
      exact ⟨_, rfl, by rw [if_neg hs1]; decide, N3, rfl⟩
theorem d8_38 : decode prog_26_method_5_code 38 = .ok (.iconst (-1), 1) := by decide +kernel
theorem d8_39 : decode prog_26_method_5_code 39 = .ok (.ireturn, 1) := by decide +kernel
theorem ef_rm_ee3_0 (m : MethodId) (x0 : Addr) : entryFrame m #[(.ref x0), (.int 0)] 3 = mkF m 0 #[.val (.ref x0), .val (.int 0), .unset] [] := by first | (simp [entryFrame, mkF, argsToLocals, Value.category]; done) | rfl
def Q_ee3_0 (Z : State) (oa : Addr) (vcs : Int32) (vf : Value) (ob : Addr) (kb : ClassId) (c0 : Int32) (c1 : Int32) (c2 : Int32) (h0 : Heap) (n0 : Nat) (v : Option Value) (h : Heap) (L : List Loc) : Prop := ∃ z : Int32, v = some (.int z) ∧ (z.toInt = (if own_H c1.toInt then (if own_H c2.toInt then (-1 : Int) else (2 : Int)) else (1 : Int))) ∧ Fr n0 L ∧ h = h0
theorem rm_ee3_0 (l : Launch) (Z : State) (a0 : Array Value) (hw : ∀ d ∈ tables_1, d.before a0 Z = true) (ws : List Jvm.Cond) (oa : Addr) (vcs : Int32) (vf : Value) (ob : Addr) (kb : ClassId) (c0 : Int32) (c1 : Int32) (c2 : Int32) (h0 : Heap) (n0 : Nat) (Z0 : n0 ≤ h0.size) (Os : own_st Z h0 vcs vf) (Sx : own_s3 Z h0 oa ob kb c0 c1 c2) :
    MetFree l yn23 (head1 (Jvm.Cond.code yn23 prog_26_method_5_code 3 (some .int) :: ws) ⟨5, 0, 0, 66⟩) (fun a U => a = #[(.ref oa), (.int 0)] ∧ Z.Warmed39 U.vm ∧ U.heap = h0) (fun _ _ _ _ _ => True) (fun _ U o U' => ∃ v L, o = .returned v ∧ Q_ee3_0 Z oa vcs vf ob kb c0 c1 c2 h0 n0 v U'.heap L ∧ FrameEnd U o U' L 0 0) := by
  refine MetFree.of_bodySF (plainFor_of_name pn_0) hisR ?_
  intro p e s m args below meth c s₁ Bd hml0 hP hK
  obtain ⟨rfl, hZ, hh⟩ := hP
  have hx := Bd.exec
  have hby := Bd.bytes
  have hml : c.maxLocals = 3 := hml0
  have hown : s.vm.findClass "com/example/path_template_matcher/pathtemplatematcher/PercentEncoding" = some m.cls := findClass_of_methodNamed Bd.named
  have hnm := (name_of_methodNamed Bd.named Bd.method).1
  have X0 : Stand p l e ⟨5, 0, 0, 66⟩ s m #[(.ref oa), (.int 0)] below meth c s₁ [] 0 0 := Stand.of_body Bd
  have e0 : s₁.heap = h0 := by rw [← hh, Bd.state]; rfl
  have N0 := Fr.nil n0
  have pre0 : oP p e below (s₁.setTop (mkF m 0 #[.val (.ref oa), .val (.int 0), .unset] [])) (s₁.setTop (entryFrame m #[(.ref oa), (.int 0)] 3)) := fun t k => castTop (ef_rm_ee3_0 m oa) k
  have hc8_1 : ¬ ((2 : Int) < (1 : Int)) := by decide
  obtain ⟨cq2, kq2, q2a, q2b, q2c⟩ := isOf hZ e0 Sx.1
  obtain ⟨_, _, ⟨T2, L2, k2, n2⟩, -, X2, ⟨Lc2, hQ2, l2, y2, z2⟩, st2⟩ := X0.virtualBack hx (y := yn20) (z := yn20) hown (mvT hZ (ow hw 40 rfl)) (mvT hZ (ow hw 41 rfl)) (notFace_of_selects (args := #[]) (mvT hZ (ow hw 43 rfl))) (mvT hZ (ow hw 43 rfl)) (mvT hZ (ow hw 42 rfl)) (by decide) (backOf (W := 1) (rm_ln3 l Z a0 hw [] oa vcs vf ob kb c0 c1 c2 h0 n0 Z0 Os Sx) hZ (ow hw 44 rfl) (ow hw 5 rfl) (by decide) (by decide)) q2a q2c (g := (mkF m 13 #[.val (.ref oa), .val (.int 0), .val (.int 1)] [(.ref oa), (.int 1)])) rfl (by rw [hml]; rfl) (Steps.refl _) (argsL := []) (rest := [(.int 1)]) (lenOf pd_14 rfl) rfl (by exact Nat.le_of_eq rfl) (hb hby d8_13) (fun _ _ => ⟨rfl, e0, (by decide : 0 + 0 ≤ _), (by decide : 0 + 0 ≤ _)⟩)
  dsimp only [Pt.U, Pt.locs, Pt.cells, Pt.slots] at X2 l2 y2 z2 st2 hQ2
  rw [l2, y2, z2] at X2
  obtain ⟨zl1, rfl, hzl1, N2q, e2⟩ := hQ2
  have N2 := Fr.app N0 N2q
  have pre3 : oP p e below (T2.setTop (mkF m 16 #[.val (.ref oa), .val (.int 0), .val (.int 1)] [(.int zl1), (.int 1)])) (s₁.setTop (entryFrame m #[(.ref oa), (.int 0)] 3)) := fun t kt => by
    refine pre0 _ ?_
    refine XS.iloadN X0.here hx rfl (hb hby d8_0) rfl ?_
    refine XS.iconst X0.here hx rfl (hb hby d8_1) ?_
    refine XS.iadd X0.here hx rfl (hb hby d8_2) rfl ?_
    refine XS.istoreN X0.here hx rfl (hb hby d8_3) rfl (l' := #[.val (.ref oa), .val (.int 0), .val (.int 1)]) rfl ?_
    refine XS.iloadN X0.here hx rfl (hb hby d8_4) rfl ?_
    refine XS.iloadN X0.here hx rfl (hb hby d8_5) rfl ?_
    refine XS.iconst X0.here hx rfl (hb hby d8_6) ?_
    refine XS.iadd X0.here hx rfl (hb hby d8_7) rfl ?_
    refine XS.icmpNo X0.here hx rfl (hb hby d8_8) rfl (own_flt (a := (2 : Int32)) (b := (1 : Int32)) (by decide) (by decide) hc8_1).2.2.1 ?_
    refine XS.iloadN X0.here hx rfl (hb hby d8_11) rfl ?_
    refine XS.aloadN X0.here hx rfl (hb hby d8_12) rfl rfl ?_
    refine st2.trans ?_
    exact kt
  subst hzl1
  have pre4 : oP p e below (T2.setTop (mkF m 16 #[.val (.ref oa), .val (.int 0), .val (.int 1)] [(.int 3), (.int 1)])) (s₁.setTop (entryFrame m #[(.ref oa), (.int 0)] 3)) := pre3
  have hc16_5 : ¬ ((1 : Int) = (3 : Int)) := by decide
  obtain ⟨cq6, kq6, q6a, q6b, q6c⟩ := isOf hZ e2 Sx.1
  obtain ⟨_, _, ⟨T6, L6, k6, n6⟩, -, X6, ⟨Lc6, hQ6, l6, y6, z6⟩, st6⟩ := X2.virtualBack hx (y := yn21) (z := yn21) hown (mvT hZ (ow hw 72 rfl)) (mvT hZ (ow hw 73 rfl)) (notFace_of_selects (args := #[]) (mvT hZ (ow hw 75 rfl))) (mvT hZ (ow hw 75 rfl)) (mvT hZ (ow hw 74 rfl)) (by decide) (backOf (W := 0) (rm_ca3_1 l Z a0 hw [] oa vcs vf ob kb c0 c1 c2 h0 n0 Z0 Os Sx) hZ (ow hw 76 rfl) (ow hw 5 rfl) (by decide) (by decide)) q6a q6c (g := (mkF m 21 #[.val (.ref oa), .val (.int 0), .val (.int 1)] [(.int 1), (.ref oa)])) rfl (by rw [hml]; rfl) (Steps.refl _) (argsL := [(.int 1)]) (rest := []) (lenOf pd_16 rfl) rfl (by exact Nat.le_of_eq rfl) (hb hby d8_21) (fun _ _ => ⟨rfl, e2, (by decide : 0 + 0 ≤ _), (by decide : 0 + 0 ≤ _)⟩)
  dsimp only [Pt.U, Pt.locs, Pt.cells, Pt.slots] at X6 l6 y6 z6 st6 hQ6
  rw [l6, y6, z6] at X6
  obtain ⟨k1, rfl, hk1, N6q, e6⟩ := hQ6
  have N6 := Fr.app N2 N6q
  obtain ⟨_, _, ⟨T7, L7, k7, n7⟩, -, X7, ⟨Lc7, hQ7, l7, y7, z7⟩, st7⟩ := Jvm.LawKit.callS X6 hx (y := yn0) hown (mvT hZ (ow hw 99 rfl)) (mvT hZ (ow hw 100 rfl)) (mvT hZ (ow hw 38 rfl)) (mvT hZ (ow hw 101 rfl)) (by decide) (backOf (W := 0) (rm24 l Z a0 hw [] k1 h0 n0 Z0 ) hZ (ow hw 101 rfl) (ow hw 38 rfl) (by decide) (by decide)) (g := (mkF m 24 #[.val (.ref oa), .val (.int 0), .val (.int 1)] [(.int k1)])) rfl (by rw [hml]; rfl) (argsL := [(.int k1)]) (rest := []) (lenOf pd_15 rfl) rfl (by exact Nat.le_of_eq rfl) (hb hby d8_24) (fun _ _ => ⟨rfl, e6, (by decide : 0 + 0 ≤ _), (by decide : 0 + 0 ≤ _)⟩)
  dsimp only [Pt.U, Pt.locs, Pt.cells, Pt.slots] at X7 l7 y7 z7 st7 hQ7
  rw [l7, y7, z7] at X7
  obtain ⟨r1, rfl, hr1, N7q, e7⟩ := hQ7
  have N7 := Fr.app N6 N7q
  rw [hk1] at hr1
  have pre8 : oP p e below (T7.setTop (mkF m 27 #[.val (.ref oa), .val (.int 0), .val (.int 1)] [(.int r1)])) (s₁.setTop (entryFrame m #[(.ref oa), (.int 0)] 3)) := fun t kt => by
    refine pre4 _ ?_
    refine XS.icmpNo X2.here hx rfl (hb hby d8_16) rfl (own_feq (a := (1 : Int32)) (b := (3 : Int32)) (by decide) (by decide) hc16_5).1 ?_
    refine XS.aloadN X2.here hx rfl (hb hby d8_19) rfl rfl ?_
    refine XS.iloadN X2.here hx rfl (hb hby d8_20) rfl ?_
    refine st6.trans ?_
    refine st7 _ ?_
    exact kt
  by_cases hs1 : own_H c1.toInt
  · rw [if_pos hs1] at hr1
    have hc27_9 : ¬ (r1.toInt = (0 : Int)) := by omega
    have hc8_10 : ¬ ((2 : Int) < (2 : Int)) := by decide
    obtain ⟨cq11, kq11, q11a, q11b, q11c⟩ := isOf hZ e7 Sx.1
    obtain ⟨_, _, ⟨T11, L11, k11, n11⟩, -, X11, ⟨Lc11, hQ11, l11, y11, z11⟩, st11⟩ := X7.virtualBack hx (y := yn20) (z := yn20) hown (mvT hZ (ow hw 40 rfl)) (mvT hZ (ow hw 41 rfl)) (notFace_of_selects (args := #[]) (mvT hZ (ow hw 43 rfl))) (mvT hZ (ow hw 43 rfl)) (mvT hZ (ow hw 42 rfl)) (by decide) (backOf (W := 1) (rm_ln3 l Z a0 hw [] oa vcs vf ob kb c0 c1 c2 h0 n0 Z0 Os Sx) hZ (ow hw 44 rfl) (ow hw 5 rfl) (by decide) (by decide)) q11a q11c (g := (mkF m 13 #[.val (.ref oa), .val (.int 0), .val (.int 2)] [(.ref oa), (.int 2)])) rfl (by rw [hml]; rfl) (Steps.refl _) (argsL := []) (rest := [(.int 2)]) (lenOf pd_14 rfl) rfl (by exact Nat.le_of_eq rfl) (hb hby d8_13) (fun _ _ => ⟨rfl, e7, (by decide : 0 + 0 ≤ _), (by decide : 0 + 0 ≤ _)⟩)
    dsimp only [Pt.U, Pt.locs, Pt.cells, Pt.slots] at X11 l11 y11 z11 st11 hQ11
    rw [l11, y11, z11] at X11
    obtain ⟨zl2, rfl, hzl2, N11q, e11⟩ := hQ11
    have N11 := Fr.app N7 N11q
    have pre12 : oP p e below (T11.setTop (mkF m 16 #[.val (.ref oa), .val (.int 0), .val (.int 2)] [(.int zl2), (.int 2)])) (s₁.setTop (entryFrame m #[(.ref oa), (.int 0)] 3)) := fun t kt => by
      refine pre8 _ ?_
      refine XS.ifYes X7.here hx rfl (pc0 := 27) (pc' := 32) rfl (hb hby d8_27) rfl (own_if (own_feq (a := r1) (b := (0 : Int32)) rfl (by decide) hc27_9).2) (by decide) (by decide) ?_
      refine XS.iinc X7.here hx rfl (hb hby d8_32) rfl (l' := #[.val (.ref oa), .val (.int 0), .val (.int 2)]) rfl ?_
      show Steps p.tables e below (T7.setTop (mkF m 35 #[.val (.ref oa), .val (.int 0), .val (.int 2)] [])) _
      refine XS.goto X7.here hx rfl (pc0 := 35) (pc' := 4) rfl (hb hby d8_35) (by decide) (by decide) ?_
      refine XS.iloadN X7.here hx rfl (hb hby d8_4) rfl ?_
      refine XS.iloadN X7.here hx rfl (hb hby d8_5) rfl ?_
      refine XS.iconst X7.here hx rfl (hb hby d8_6) ?_
      refine XS.iadd X7.here hx rfl (hb hby d8_7) rfl ?_
      refine XS.icmpNo X7.here hx rfl (hb hby d8_8) rfl (own_flt (a := (2 : Int32)) (b := (2 : Int32)) (by decide) (by decide) hc8_10).2.2.1 ?_
      refine XS.iloadN X7.here hx rfl (hb hby d8_11) rfl ?_
      refine XS.aloadN X7.here hx rfl (hb hby d8_12) rfl rfl ?_
      refine st11.trans ?_
      exact kt
    subst hzl2
    have pre13 : oP p e below (T11.setTop (mkF m 16 #[.val (.ref oa), .val (.int 0), .val (.int 2)] [(.int 3), (.int 2)])) (s₁.setTop (entryFrame m #[(.ref oa), (.int 0)] 3)) := pre12
    have hc16_14 : ¬ ((2 : Int) = (3 : Int)) := by decide
    obtain ⟨cq15, kq15, q15a, q15b, q15c⟩ := isOf hZ e11 Sx.1
    obtain ⟨_, _, ⟨T15, L15, k15, n15⟩, -, X15, ⟨Lc15, hQ15, l15, y15, z15⟩, st15⟩ := X11.virtualBack hx (y := yn21) (z := yn21) hown (mvT hZ (ow hw 72 rfl)) (mvT hZ (ow hw 73 rfl)) (notFace_of_selects (args := #[]) (mvT hZ (ow hw 75 rfl))) (mvT hZ (ow hw 75 rfl)) (mvT hZ (ow hw 74 rfl)) (by decide) (backOf (W := 0) (rm_ca3_2 l Z a0 hw [] oa vcs vf ob kb c0 c1 c2 h0 n0 Z0 Os Sx) hZ (ow hw 76 rfl) (ow hw 5 rfl) (by decide) (by decide)) q15a q15c (g := (mkF m 21 #[.val (.ref oa), .val (.int 0), .val (.int 2)] [(.int 2), (.ref oa)])) rfl (by rw [hml]; rfl) (Steps.refl _) (argsL := [(.int 2)]) (rest := []) (lenOf pd_16 rfl) rfl (by exact Nat.le_of_eq rfl) (hb hby d8_21) (fun _ _ => ⟨rfl, e11, (by decide : 0 + 0 ≤ _), (by decide : 0 + 0 ≤ _)⟩)
    dsimp only [Pt.U, Pt.locs, Pt.cells, Pt.slots] at X15 l15 y15 z15 st15 hQ15
    rw [l15, y15, z15] at X15
    obtain ⟨k2, rfl, hk2, N15q, e15⟩ := hQ15
    have N15 := Fr.app N11 N15q
    obtain ⟨_, _, ⟨T16, L16, k16, n16⟩, -, X16, ⟨Lc16, hQ16, l16, y16, z16⟩, st16⟩ := Jvm.LawKit.callS X15 hx (y := yn0) hown (mvT hZ (ow hw 99 rfl)) (mvT hZ (ow hw 100 rfl)) (mvT hZ (ow hw 38 rfl)) (mvT hZ (ow hw 101 rfl)) (by decide) (backOf (W := 0) (rm24 l Z a0 hw [] k2 h0 n0 Z0 ) hZ (ow hw 101 rfl) (ow hw 38 rfl) (by decide) (by decide)) (g := (mkF m 24 #[.val (.ref oa), .val (.int 0), .val (.int 2)] [(.int k2)])) rfl (by rw [hml]; rfl) (argsL := [(.int k2)]) (rest := []) (lenOf pd_15 rfl) rfl (by exact Nat.le_of_eq rfl) (hb hby d8_24) (fun _ _ => ⟨rfl, e15, (by decide : 0 + 0 ≤ _), (by decide : 0 + 0 ≤ _)⟩)
    dsimp only [Pt.U, Pt.locs, Pt.cells, Pt.slots] at X16 l16 y16 z16 st16 hQ16
    rw [l16, y16, z16] at X16
    obtain ⟨r2, rfl, hr2, N16q, e16⟩ := hQ16
    have N16 := Fr.app N15 N16q
    rw [hk2] at hr2
    have pre17 : oP p e below (T16.setTop (mkF m 27 #[.val (.ref oa), .val (.int 0), .val (.int 2)] [(.int r2)])) (s₁.setTop (entryFrame m #[(.ref oa), (.int 0)] 3)) := fun t kt => by
      refine pre13 _ ?_
      refine XS.icmpNo X11.here hx rfl (hb hby d8_16) rfl (own_feq (a := (2 : Int32)) (b := (3 : Int32)) (by decide) (by decide) hc16_14).1 ?_
      refine XS.aloadN X11.here hx rfl (hb hby d8_19) rfl rfl ?_
      refine XS.iloadN X11.here hx rfl (hb hby d8_20) rfl ?_
      refine st15.trans ?_
      refine st16 _ ?_
      exact kt
    by_cases hs2 : own_H c2.toInt
    · rw [if_pos hs2] at hr2
      have hc27_18 : ¬ (r2.toInt = (0 : Int)) := by omega
      have hc8_19 : (2 : Int) < (3 : Int) := by decide
      obtain ⟨fs, hr, q1, q2, q3, q4⟩ := X16.leave (v := some (.int (-1 : Int32))) (fun h => by rw [Bd.returns] at h; cases h)
      refine ⟨_, _, pre17 _ ?_, q1, q2, _, _, rfl, ?_, ⟨_, rfl⟩, q3, q4.mono (by decide) (by decide)⟩
      · refine XS.ifYes X16.here hx rfl (pc0 := 27) (pc' := 32) rfl (hb hby d8_27) rfl (own_if (own_feq (a := r2) (b := (0 : Int32)) rfl (by decide) hc27_18).2) (by decide) (by decide) ?_
        refine XS.iinc X16.here hx rfl (hb hby d8_32) rfl (l' := #[.val (.ref oa), .val (.int 0), .val (.int 3)]) rfl ?_
        refine XS.goto X16.here hx rfl (pc0 := 35) (pc' := 4) rfl (hb hby d8_35) (by decide) (by decide) ?_
        refine XS.iloadN X16.here hx rfl (hb hby d8_4) rfl ?_
        refine XS.iloadN X16.here hx rfl (hb hby d8_5) rfl ?_
        refine XS.iconst X16.here hx rfl (hb hby d8_6) ?_
        show Steps p.tables e below (T16.setTop (mkF m 7 #[.val (.ref oa), .val (.int 0), .val (.int 3)] [(.int 2), (.int 0), (.int 3)])) _
        refine XS.iadd X16.here hx rfl (hb hby d8_7) rfl ?_
        refine XS.icmpYes X16.here hx rfl (pc0 := 8) (pc' := 38) rfl (hb hby d8_8) rfl (own_tlt (a := (2 : Int32)) (b := (3 : Int32)) (by decide) (by decide) hc8_19).2.2.1 (by decide) (by decide) ?_
        refine XS.iconst X16.here hx rfl (hb hby d8_38) ?_
        exact retI X16 hx Bd.returns (hb hby d8_39) hr
      · show Q_ee3_0 Z _ _ _ _ _ _ _ _ h0 n0 _ T16.heap _
        rw [e16]
        exact ⟨_, rfl, by rw [if_pos hs1, if_pos hs2]; decide, N16, rfl⟩
    · rw [if_neg hs2] at hr2
      have hc27_20 : r2.toInt = (0 : Int) := by omega
      obtain ⟨fs, hr, q1, q2, q3, q4⟩ := X16.leave (v := some (.int 2)) (fun h => by rw [Bd.returns] at h; cases h)
      refine ⟨_, _, pre17 _ ?_, q1, q2, _, _, rfl, ?_, ⟨_, rfl⟩, q3, q4.mono (by decide) (by decide)⟩
      · refine XS.ifNo X16.here hx rfl (hb hby d8_27) rfl (own_if (own_teq (a := r2) (b := (0 : Int32)) rfl (by decide) hc27_20).2) ?_
        refine XS.iloadN X16.here hx rfl (hb hby d8_30) rfl ?_
        exact retI X16 hx Bd.returns (hb hby d8_31) hr
      · show Q_ee3_0 Z _ _ _ _ _ _ _ _ h0 n0 _ T16.heap _
        rw [e16]
        exact ⟨_, rfl, by rw [if_pos hs1, if_neg hs2]; decide, N16, rfl⟩
  · rw [if_neg hs1] at hr1
    have hc27_21 : r1.toInt = (0 : Int) := by omega
    obtain ⟨fs, hr, q1, q2, q3, q4⟩ := X7.leave (v := some (.int 1)) (fun h => by rw [Bd.returns] at h; cases h)
    refine ⟨_, _, pre8 _ ?_, q1, q2, _, _, rfl, ?_, ⟨_, rfl⟩, q3, q4.mono (by decide) (by decide)⟩
    · refine XS.ifNo X7.here hx rfl (hb hby d8_27) rfl (own_if (own_teq (a := r1) (b := (0 : Int32)) rfl (by decide) hc27_21).2) ?_
      refine XS.iloadN X7.here hx rfl (hb hby d8_30) rfl ?_
      show Steps p.tables e below (T7.setTop (mkF m 31 #[.val (.ref oa), .val (.int 0), .val (.int 1)] [(.int 1)])) _
      exact retI X7 hx Bd.returns (hb hby d8_31) hr
    · show Q_ee3_0 Z _ _ _ _ _ _ _ _ h0 n0 _ T7.heap _
      rw [e7]
      exact ⟨_, rfl, by rw [if_neg hs1]; decide, N7, rfl⟩
theorem ef_rm_rf3_1 (m : MethodId) (x0 : Addr) : entryFrame m #[(.ref x0), (.int 3), (.int 1)] 5 = mkF m 0 #[.val (.ref x0), .val (.int 3), .val (.int 1), .unset, .unset] [] := by first | (simp [entryFrame, mkF, argsToLocals, Value.category]; done) | rfl
def Q_rf3_1 (Z : State) (oc : Addr) (kC : ClassId) (c0 : Int32) (c1 : Int32) (c2 : Int32) (h0 : Heap) (n0 : Nat) (v : Option Value) (h : Heap) (L : List Loc) : Prop := ∃ z : Int32, v = some (.int z) ∧ (z.toInt = (if own_H c2.toInt then (3 : Int) else (2 : Int))) ∧ Fr n0 L ∧ h = h0
theorem rm_rf3_1 (l : Launch) (Z : State) (a0 : Array Value) (hw : ∀ d ∈ tables_1, d.before a0 Z = true) (ws : List Jvm.Cond) (oc : Addr) (kC : ClassId) (c0 : Int32) (c1 : Int32) (c2 : Int32) (h0 : Heap) (n0 : Nat) (Z0 : n0 ≤ h0.size) (Vc : Arv Z h0 oc kC .char (3 : Int32) [(.int c0), (.int c1), (.int c2)] (.int 0)) (uc0 : 0 ≤ c0.toInt) (uc1 : 0 ≤ c1.toInt) (uc2 : 0 ≤ c2.toInt) (vc0 : c0.toInt < 65536) (vc1 : c1.toInt < 65536) (vc2 : c2.toInt < 65536) :
    MetFree l yn22 (head1 (Jvm.Cond.code yn22 method_4_code 5 (some .int) :: ws) ⟨1, 0, 0, 13⟩) (fun a U => a = #[(.ref oc), (.int 3), (.int 1)] ∧ Z.Warmed39 U.vm ∧ U.heap = h0) (fun _ _ _ _ _ => True) (fun _ U o U' => ∃ v L, o = .returned v ∧ Q_rf3_1 Z oc kC c0 c1 c2 h0 n0 v U'.heap L ∧ FrameEnd U o U' L 0 0) := by
  refine MetFree.of_bodySF (plainFor_of_name pn_1) hisR ?_
  intro p e s m args below meth c s₁ Bd hml0 hP hK
  obtain ⟨rfl, hZ, hh⟩ := hP
  have hx := Bd.exec
  have hby := Bd.bytes
  have hml : c.maxLocals = 5 := hml0
  have hown : s.vm.findClass "com/example/path_template_matcher/pathtemplatematcher/PercentEncodingEscapeErrorPinLaw" = some m.cls := findClass_of_methodNamed Bd.named
  have hnm := (name_of_methodNamed Bd.named Bd.method).1
  have X0 : Stand p l e ⟨1, 0, 0, 13⟩ s m #[(.ref oc), (.int 3), (.int 1)] below meth c s₁ [] 0 0 := Stand.of_body Bd
  have e0 : s₁.heap = h0 := by rw [← hh, Bd.state]; rfl
  have N0 := Fr.nil n0
  have pre0 : oP p e below (s₁.setTop (mkF m 0 #[.val (.ref oc), .val (.int 3), .val (.int 1), .unset, .unset] [])) (s₁.setTop (entryFrame m #[(.ref oc), (.int 3), (.int 1)] 5)) := fun t k => castTop (ef_rm_rf3_1 m oc) k
  have hc6_1 : ¬ ((2 : Int) = (3 : Int)) := by decide
  obtain ⟨cl2, Ar2, q2, S2, M2, H2, G2⟩ := id Vc
  have hin2 : ¬ ((2 : Int32) < 0 ∨ cl2.slots.size ≤ ((2 : Int32)).toNatClampNeg) := inb_of S2 ⟨by decide, by decide⟩
  have hat2 : cl2.slots[((2 : Int32)).toNatClampNeg]? = some (.int c2) := Has.at H2 hin2 rfl
  obtain ⟨_, _, ⟨T3, L3, k3, n3⟩, -, X3, ⟨Lc3, hQ3, l3, y3, z3⟩, st3⟩ := Jvm.LawKit.callS X0 hx (y := yn1) hown (mvT hZ (ow hw 69 rfl)) (mvT hZ (ow hw 70 rfl)) (mvT hZ (ow hw 34 rfl)) (mvT hZ (ow hw 71 rfl)) (by decide) (backOf (W := 0) (rm16 l Z a0 hw [] c2 h0 n0 Z0 uc2 vc2) hZ (ow hw 71 rfl) (ow hw 34 rfl) (by decide) (by decide)) (g := (mkF m 14 #[.val (.ref oc), .val (.int 3), .val (.int 1), .val (.int 2), .unset] [(.int c2)])) rfl (by rw [hml]; rfl) (argsL := [(.int c2)]) (rest := []) (lenOf pd_15 rfl) rfl (by exact Nat.le_of_eq rfl) (hb hby d7_14) (fun _ _ => ⟨rfl, e0, (by decide : 0 + 0 ≤ _), (by decide : 0 + 0 ≤ _)⟩)
  dsimp only [Pt.U, Pt.locs, Pt.cells, Pt.slots] at X3 l3 y3 z3 st3 hQ3
  rw [l3, y3, z3] at X3
  obtain ⟨r2, rfl, hr2, N3q, e3⟩ := hQ3
  have N3 := Fr.app N0 N3q
  have pre4 : oP p e below (T3.setTop (mkF m 17 #[.val (.ref oc), .val (.int 3), .val (.int 1), .val (.int 2), .unset] [(.int r2)])) (s₁.setTop (entryFrame m #[(.ref oc), (.int 3), (.int 1)] 5)) := fun t kt => by
    refine pre0 _ ?_
    refine XS.iloadN X0.here hx rfl (hb hby d7_0) rfl ?_
    refine XS.iconst X0.here hx rfl (hb hby d7_1) ?_
    refine XS.iadd X0.here hx rfl (hb hby d7_2) rfl ?_
    refine XS.istoreN X0.here hx rfl (hb hby d7_3) rfl (l' := #[.val (.ref oc), .val (.int 3), .val (.int 1), .val (.int 2), .unset]) rfl ?_
    refine XS.iloadN X0.here hx rfl (hb hby d7_4) rfl ?_
    refine XS.iloadN X0.here hx rfl (hb hby d7_5) rfl ?_
    refine XS.icmpYes X0.here hx rfl (pc0 := 6) (pc' := 11) rfl (hb hby d7_6) rfl (own_feq (a := (2 : Int32)) (b := (3 : Int32)) (by decide) (by decide) hc6_1).2 (by decide) (by decide) ?_
    refine XS.aloadN X0.here hx rfl (hb hby d7_11) rfl rfl ?_
    refine XS.iloadN X0.here hx rfl (hb hby d7_12) rfl ?_
    refine X0.caload hx (j := (2 : Int32)) (v := (.int c2)) (by rw [e0]; exact Ar2.1) (State.isArrayOf_alike hZ.alike Ar2.2.1) Ar2.2.2 hin2 hat2 (g := (mkF m 13 #[.val (.ref oc), .val (.int 3), .val (.int 1), .val (.int 2), .unset] [(.int 2), (.ref oc)])) rfl rfl (hb hby d7_13) _ ?_
    refine st3 _ ?_
    exact kt
  by_cases hs2 : own_H c2.toInt
  · rw [if_pos hs2] at hr2
    have hc17_5 : ¬ (r2.toInt = (0 : Int)) := by omega
    have hc30_6 : (3 : Int) = (3 : Int) := by decide
    obtain ⟨fs, hr, q1, q2, q3, q4⟩ := X3.leave (v := some (.int 3)) (fun h => by rw [Bd.returns] at h; cases h)
    refine ⟨_, _, pre4 _ ?_, q1, q2, _, _, rfl, ?_, ⟨_, rfl⟩, q3, q4.mono (by decide) (by decide)⟩
    · refine XS.ifYes X3.here hx rfl (pc0 := 17) (pc' := 22) rfl (hb hby d7_17) rfl (own_if (own_feq (a := r2) (b := (0 : Int32)) rfl (by decide) hc17_5).2) (by decide) (by decide) ?_
      refine XS.iloadN X3.here hx rfl (hb hby d7_22) rfl ?_
      refine XS.iconst X3.here hx rfl (hb hby d7_23) ?_
      refine XS.iadd X3.here hx rfl (hb hby d7_24) rfl ?_
      refine XS.istore X3.here hx rfl (hb hby d7_25) rfl (l' := #[.val (.ref oc), .val (.int 3), .val (.int 1), .val (.int 2), .val (.int 3)]) rfl ?_
      refine XS.iload X3.here hx rfl (hb hby d7_27) rfl ?_
      refine XS.iloadN X3.here hx rfl (hb hby d7_29) rfl ?_
      refine XS.icmpNo X3.here hx rfl (hb hby d7_30) rfl (own_teq (a := (3 : Int32)) (b := (3 : Int32)) (by decide) (by decide) hc30_6).2 ?_
      show Steps p.tables e below (T3.setTop (mkF m 33 #[.val (.ref oc), .val (.int 3), .val (.int 1), .val (.int 2), .val (.int 3)] [])) _
      refine XS.iload X3.here hx rfl (hb hby d7_33) rfl ?_
      exact retI X3 hx Bd.returns (hb hby d7_35) hr
    · show Q_rf3_1 Z _ _ _ _ _ h0 n0 _ T3.heap _
      rw [e3]
      exact ⟨_, rfl, by rw [if_pos hs2]; decide, N3, rfl⟩
  · rw [if_neg hs2] at hr2
    have hc17_7 : r2.toInt = (0 : Int) := by omega
    obtain ⟨fs, hr, q1, q2, q3, q4⟩ := X3.leave (v := some (.int 2)) (fun h => by rw [Bd.returns] at h; cases h)
    refine ⟨_, _, pre4 _ ?_, q1, q2, _, _, rfl, ?_, ⟨_, rfl⟩, q3, q4.mono (by decide) (by decide)⟩
    · refine XS.ifNo X3.here hx rfl (hb hby d7_17) rfl (own_if (own_teq (a := r2) (b := (0 : Int32)) rfl (by decide) hc17_7).2) ?_
      refine XS.iloadN X3.here hx rfl (hb hby d7_20) rfl ?_
      exact retI X3 hx Bd.returns (hb hby d7_21) hr
    · show Q_rf3_1 Z _ _ _ _ _ h0 n0 _ T3.heap _
      rw [e3]
      exact ⟨_, rfl, by rw [if_neg hs2]; decide, N3, rfl⟩
theorem ef_rm_ee3_1 (m : MethodId) (x0 : Addr) : entryFrame m #[(.ref x0), (.int 1)] 3 = mkF m 0 #[.val (.ref x0), .val (.int 1), .unset] [] := by first | (simp [entryFrame, mkF, argsToLocals, Value.category]; done) | rfl
def Q_ee3_1 (Z : State) (oa : Addr) (vcs : Int32) (vf : Value) (ob : Addr) (kb : ClassId) (c0 : Int32) (c1 : Int32) (c2 : Int32) (h0 : Heap) (n0 : Nat) (v : Option Value) (h : Heap) (L : List Loc) : Prop := ∃ z : Int32, v = some (.int z) ∧ (z.toInt = (if own_H c2.toInt then (3 : Int) else (2 : Int))) ∧ Fr n0 L ∧ h = h0
theorem rm_ee3_1 (l : Launch) (Z : State) (a0 : Array Value) (hw : ∀ d ∈ tables_1, d.before a0 Z = true) (ws : List Jvm.Cond) (oa : Addr) (vcs : Int32) (vf : Value) (ob : Addr) (kb : ClassId) (c0 : Int32) (c1 : Int32) (c2 : Int32) (h0 : Heap) (n0 : Nat) (Z0 : n0 ≤ h0.size) (Os : own_st Z h0 vcs vf) (Sx : own_s3 Z h0 oa ob kb c0 c1 c2) :
    MetFree l yn23 (head1 (Jvm.Cond.code yn23 prog_26_method_5_code 3 (some .int) :: ws) ⟨5, 0, 0, 66⟩) (fun a U => a = #[(.ref oa), (.int 1)] ∧ Z.Warmed39 U.vm ∧ U.heap = h0) (fun _ _ _ _ _ => True) (fun _ U o U' => ∃ v L, o = .returned v ∧ Q_ee3_1 Z oa vcs vf ob kb c0 c1 c2 h0 n0 v U'.heap L ∧ FrameEnd U o U' L 0 0) := by
  refine MetFree.of_bodySF (plainFor_of_name pn_0) hisR ?_
  intro p e s m args below meth c s₁ Bd hml0 hP hK
  obtain ⟨rfl, hZ, hh⟩ := hP
  have hx := Bd.exec
  have hby := Bd.bytes
  have hml : c.maxLocals = 3 := hml0
  have hown : s.vm.findClass "com/example/path_template_matcher/pathtemplatematcher/PercentEncoding" = some m.cls := findClass_of_methodNamed Bd.named
  have hnm := (name_of_methodNamed Bd.named Bd.method).1
  have X0 : Stand p l e ⟨5, 0, 0, 66⟩ s m #[(.ref oa), (.int 1)] below meth c s₁ [] 0 0 := Stand.of_body Bd
  have e0 : s₁.heap = h0 := by rw [← hh, Bd.state]; rfl
  have N0 := Fr.nil n0
  have pre0 : oP p e below (s₁.setTop (mkF m 0 #[.val (.ref oa), .val (.int 1), .unset] [])) (s₁.setTop (entryFrame m #[(.ref oa), (.int 1)] 3)) := fun t k => castTop (ef_rm_ee3_1 m oa) k
  have hc8_1 : ¬ ((3 : Int) < (2 : Int)) := by decide
  obtain ⟨cq2, kq2, q2a, q2b, q2c⟩ := isOf hZ e0 Sx.1
  obtain ⟨_, _, ⟨T2, L2, k2, n2⟩, -, X2, ⟨Lc2, hQ2, l2, y2, z2⟩, st2⟩ := X0.virtualBack hx (y := yn20) (z := yn20) hown (mvT hZ (ow hw 40 rfl)) (mvT hZ (ow hw 41 rfl)) (notFace_of_selects (args := #[]) (mvT hZ (ow hw 43 rfl))) (mvT hZ (ow hw 43 rfl)) (mvT hZ (ow hw 42 rfl)) (by decide) (backOf (W := 1) (rm_ln3 l Z a0 hw [] oa vcs vf ob kb c0 c1 c2 h0 n0 Z0 Os Sx) hZ (ow hw 44 rfl) (ow hw 5 rfl) (by decide) (by decide)) q2a q2c (g := (mkF m 13 #[.val (.ref oa), .val (.int 1), .val (.int 2)] [(.ref oa), (.int 2)])) rfl (by rw [hml]; rfl) (Steps.refl _) (argsL := []) (rest := [(.int 2)]) (lenOf pd_14 rfl) rfl (by exact Nat.le_of_eq rfl) (hb hby d8_13) (fun _ _ => ⟨rfl, e0, (by decide : 0 + 0 ≤ _), (by decide : 0 + 0 ≤ _)⟩)
  dsimp only [Pt.U, Pt.locs, Pt.cells, Pt.slots] at X2 l2 y2 z2 st2 hQ2
  rw [l2, y2, z2] at X2
  obtain ⟨zl1, rfl, hzl1, N2q, e2⟩ := hQ2
  have N2 := Fr.app N0 N2q
  have pre3 : oP p e below (T2.setTop (mkF m 16 #[.val (.ref oa), .val (.int 1), .val (.int 2)] [(.int zl1), (.int 2)])) (s₁.setTop (entryFrame m #[(.ref oa), (.int 1)] 3)) := fun t kt => by
    refine pre0 _ ?_
    refine XS.iloadN X0.here hx rfl (hb hby d8_0) rfl ?_
    refine XS.iconst X0.here hx rfl (hb hby d8_1) ?_
    refine XS.iadd X0.here hx rfl (hb hby d8_2) rfl ?_
    refine XS.istoreN X0.here hx rfl (hb hby d8_3) rfl (l' := #[.val (.ref oa), .val (.int 1), .val (.int 2)]) rfl ?_
    refine XS.iloadN X0.here hx rfl (hb hby d8_4) rfl ?_
    refine XS.iloadN X0.here hx rfl (hb hby d8_5) rfl ?_
    refine XS.iconst X0.here hx rfl (hb hby d8_6) ?_
    refine XS.iadd X0.here hx rfl (hb hby d8_7) rfl ?_
    refine XS.icmpNo X0.here hx rfl (hb hby d8_8) rfl (own_flt (a := (3 : Int32)) (b := (2 : Int32)) (by decide) (by decide) hc8_1).2.2.1 ?_
    refine XS.iloadN X0.here hx rfl (hb hby d8_11) rfl ?_
    refine XS.aloadN X0.here hx rfl (hb hby d8_12) rfl rfl ?_
    refine st2.trans ?_
    exact kt
  subst hzl1
  have pre4 : oP p e below (T2.setTop (mkF m 16 #[.val (.ref oa), .val (.int 1), .val (.int 2)] [(.int 3), (.int 2)])) (s₁.setTop (entryFrame m #[(.ref oa), (.int 1)] 3)) := pre3
  have hc16_5 : ¬ ((2 : Int) = (3 : Int)) := by decide
  obtain ⟨cq6, kq6, q6a, q6b, q6c⟩ := isOf hZ e2 Sx.1
  obtain ⟨_, _, ⟨T6, L6, k6, n6⟩, -, X6, ⟨Lc6, hQ6, l6, y6, z6⟩, st6⟩ := X2.virtualBack hx (y := yn21) (z := yn21) hown (mvT hZ (ow hw 72 rfl)) (mvT hZ (ow hw 73 rfl)) (notFace_of_selects (args := #[]) (mvT hZ (ow hw 75 rfl))) (mvT hZ (ow hw 75 rfl)) (mvT hZ (ow hw 74 rfl)) (by decide) (backOf (W := 0) (rm_ca3_2 l Z a0 hw [] oa vcs vf ob kb c0 c1 c2 h0 n0 Z0 Os Sx) hZ (ow hw 76 rfl) (ow hw 5 rfl) (by decide) (by decide)) q6a q6c (g := (mkF m 21 #[.val (.ref oa), .val (.int 1), .val (.int 2)] [(.int 2), (.ref oa)])) rfl (by rw [hml]; rfl) (Steps.refl _) (argsL := [(.int 2)]) (rest := []) (lenOf pd_16 rfl) rfl (by exact Nat.le_of_eq rfl) (hb hby d8_21) (fun _ _ => ⟨rfl, e2, (by decide : 0 + 0 ≤ _), (by decide : 0 + 0 ≤ _)⟩)
  dsimp only [Pt.U, Pt.locs, Pt.cells, Pt.slots] at X6 l6 y6 z6 st6 hQ6
  rw [l6, y6, z6] at X6
  obtain ⟨k2, rfl, hk2, N6q, e6⟩ := hQ6
  have N6 := Fr.app N2 N6q
  obtain ⟨_, _, ⟨T7, L7, k7, n7⟩, -, X7, ⟨Lc7, hQ7, l7, y7, z7⟩, st7⟩ := Jvm.LawKit.callS X6 hx (y := yn0) hown (mvT hZ (ow hw 99 rfl)) (mvT hZ (ow hw 100 rfl)) (mvT hZ (ow hw 38 rfl)) (mvT hZ (ow hw 101 rfl)) (by decide) (backOf (W := 0) (rm24 l Z a0 hw [] k2 h0 n0 Z0 ) hZ (ow hw 101 rfl) (ow hw 38 rfl) (by decide) (by decide)) (g := (mkF m 24 #[.val (.ref oa), .val (.int 1), .val (.int 2)] [(.int k2)])) rfl (by rw [hml]; rfl) (argsL := [(.int k2)]) (rest := []) (lenOf pd_15 rfl) rfl (by exact Nat.le_of_eq rfl) (hb hby d8_24) (fun _ _ => ⟨rfl, e6, (by decide : 0 + 0 ≤ _), (by decide : 0 + 0 ≤ _)⟩)
  dsimp only [Pt.U, Pt.locs, Pt.cells, Pt.slots] at X7 l7 y7 z7 st7 hQ7
  rw [l7, y7, z7] at X7
  obtain ⟨r2, rfl, hr2, N7q, e7⟩ := hQ7
  have N7 := Fr.app N6 N7q
  rw [hk2] at hr2
  have pre8 : oP p e below (T7.setTop (mkF m 27 #[.val (.ref oa), .val (.int 1), .val (.int 2)] [(.int r2)])) (s₁.setTop (entryFrame m #[(.ref oa), (.int 1)] 3)) := fun t kt => by
    refine pre4 _ ?_
    refine XS.icmpNo X2.here hx rfl (hb hby d8_16) rfl (own_feq (a := (2 : Int32)) (b := (3 : Int32)) (by decide) (by decide) hc16_5).1 ?_
    refine XS.aloadN X2.here hx rfl (hb hby d8_19) rfl rfl ?_
    refine XS.iloadN X2.here hx rfl (hb hby d8_20) rfl ?_
    refine st6.trans ?_
    refine st7 _ ?_
    exact kt
  by_cases hs2 : own_H c2.toInt
  · rw [if_pos hs2] at hr2
    have hc27_9 : ¬ (r2.toInt = (0 : Int)) := by omega
    have hc8_10 : ¬ ((3 : Int) < (3 : Int)) := by decide
    obtain ⟨cq11, kq11, q11a, q11b, q11c⟩ := isOf hZ e7 Sx.1
    obtain ⟨_, _, ⟨T11, L11, k11, n11⟩, -, X11, ⟨Lc11, hQ11, l11, y11, z11⟩, st11⟩ := X7.virtualBack hx (y := yn20) (z := yn20) hown (mvT hZ (ow hw 40 rfl)) (mvT hZ (ow hw 41 rfl)) (notFace_of_selects (args := #[]) (mvT hZ (ow hw 43 rfl))) (mvT hZ (ow hw 43 rfl)) (mvT hZ (ow hw 42 rfl)) (by decide) (backOf (W := 1) (rm_ln3 l Z a0 hw [] oa vcs vf ob kb c0 c1 c2 h0 n0 Z0 Os Sx) hZ (ow hw 44 rfl) (ow hw 5 rfl) (by decide) (by decide)) q11a q11c (g := (mkF m 13 #[.val (.ref oa), .val (.int 1), .val (.int 3)] [(.ref oa), (.int 3)])) rfl (by rw [hml]; rfl) (Steps.refl _) (argsL := []) (rest := [(.int 3)]) (lenOf pd_14 rfl) rfl (by exact Nat.le_of_eq rfl) (hb hby d8_13) (fun _ _ => ⟨rfl, e7, (by decide : 0 + 0 ≤ _), (by decide : 0 + 0 ≤ _)⟩)
    dsimp only [Pt.U, Pt.locs, Pt.cells, Pt.slots] at X11 l11 y11 z11 st11 hQ11
    rw [l11, y11, z11] at X11
    obtain ⟨zl2, rfl, hzl2, N11q, e11⟩ := hQ11
    have N11 := Fr.app N7 N11q
    have pre12 : oP p e below (T11.setTop (mkF m 16 #[.val (.ref oa), .val (.int 1), .val (.int 3)] [(.int zl2), (.int 3)])) (s₁.setTop (entryFrame m #[(.ref oa), (.int 1)] 3)) := fun t kt => by
      refine pre8 _ ?_
      refine XS.ifYes X7.here hx rfl (pc0 := 27) (pc' := 32) rfl (hb hby d8_27) rfl (own_if (own_feq (a := r2) (b := (0 : Int32)) rfl (by decide) hc27_9).2) (by decide) (by decide) ?_
      refine XS.iinc X7.here hx rfl (hb hby d8_32) rfl (l' := #[.val (.ref oa), .val (.int 1), .val (.int 3)]) rfl ?_
      show Steps p.tables e below (T7.setTop (mkF m 35 #[.val (.ref oa), .val (.int 1), .val (.int 3)] [])) _
      refine XS.goto X7.here hx rfl (pc0 := 35) (pc' := 4) rfl (hb hby d8_35) (by decide) (by decide) ?_
      refine XS.iloadN X7.here hx rfl (hb hby d8_4) rfl ?_
      refine XS.iloadN X7.here hx rfl (hb hby d8_5) rfl ?_
      refine XS.iconst X7.here hx rfl (hb hby d8_6) ?_
      refine XS.iadd X7.here hx rfl (hb hby d8_7) rfl ?_
      refine XS.icmpNo X7.here hx rfl (hb hby d8_8) rfl (own_flt (a := (3 : Int32)) (b := (3 : Int32)) (by decide) (by decide) hc8_10).2.2.1 ?_
      refine XS.iloadN X7.here hx rfl (hb hby d8_11) rfl ?_
      refine XS.aloadN X7.here hx rfl (hb hby d8_12) rfl rfl ?_
      refine st11.trans ?_
      exact kt
    subst hzl2
    have pre13 : oP p e below (T11.setTop (mkF m 16 #[.val (.ref oa), .val (.int 1), .val (.int 3)] [(.int 3), (.int 3)])) (s₁.setTop (entryFrame m #[(.ref oa), (.int 1)] 3)) := pre12
    have hc16_14 : (3 : Int) = (3 : Int) := by decide
    obtain ⟨fs, hr, q1, q2, q3, q4⟩ := X11.leave (v := some (.int 3)) (fun h => by rw [Bd.returns] at h; cases h)
    refine ⟨_, _, pre13 _ ?_, q1, q2, _, _, rfl, ?_, ⟨_, rfl⟩, q3, q4.mono (by decide) (by decide)⟩
    · refine XS.icmpYes X11.here hx rfl (pc0 := 16) (pc' := 30) rfl (hb hby d8_16) rfl (own_teq (a := (3 : Int32)) (b := (3 : Int32)) (by decide) (by decide) hc16_14).1 (by decide) (by decide) ?_
      refine XS.iloadN X11.here hx rfl (hb hby d8_30) rfl ?_
      exact retI X11 hx Bd.returns (hb hby d8_31) hr
    · show Q_ee3_1 Z _ _ _ _ _ _ _ _ h0 n0 _ T11.heap _
      rw [e11]
      exact ⟨_, rfl, by rw [if_pos hs2]; decide, N11, rfl⟩
  · rw [if_neg hs2] at hr2
    have hc27_15 : r2.toInt = (0 : Int) := by omega
    obtain ⟨fs, hr, q1, q2, q3, q4⟩ := X7.leave (v := some (.int 2)) (fun h => by rw [Bd.returns] at h; cases h)
    refine ⟨_, _, pre8 _ ?_, q1, q2, _, _, rfl, ?_, ⟨_, rfl⟩, q3, q4.mono (by decide) (by decide)⟩
    · refine XS.ifNo X7.here hx rfl (hb hby d8_27) rfl (own_if (own_teq (a := r2) (b := (0 : Int32)) rfl (by decide) hc27_15).2) ?_
      refine XS.iloadN X7.here hx rfl (hb hby d8_30) rfl ?_
      show Steps p.tables e below (T7.setTop (mkF m 31 #[.val (.ref oa), .val (.int 1), .val (.int 2)] [(.int 2)])) _
      exact retI X7 hx Bd.returns (hb hby d8_31) hr
    · show Q_ee3_1 Z _ _ _ _ _ _ _ _ h0 n0 _ T7.heap _
      rw [e7]
      exact ⟨_, rfl, by rw [if_neg hs2]; decide, N7, rfl⟩
theorem ef_rm_rf3_2 (m : MethodId) (x0 : Addr) : entryFrame m #[(.ref x0), (.int 3), (.int 2)] 5 = mkF m 0 #[.val (.ref x0), .val (.int 3), .val (.int 2), .unset, .unset] [] := by first | (simp [entryFrame, mkF, argsToLocals, Value.category]; done) | rfl
def Q_rf3_2 (Z : State) (oc : Addr) (kC : ClassId) (c0 : Int32) (c1 : Int32) (c2 : Int32) (h0 : Heap) (n0 : Nat) (v : Option Value) (h : Heap) (L : List Loc) : Prop := ∃ z : Int32, v = some (.int z) ∧ (z.toInt = (3 : Int)) ∧ Fr n0 L ∧ h = h0
theorem rm_rf3_2 (l : Launch) (Z : State) (a0 : Array Value) (hw : ∀ d ∈ tables_1, d.before a0 Z = true) (ws : List Jvm.Cond) (oc : Addr) (kC : ClassId) (c0 : Int32) (c1 : Int32) (c2 : Int32) (h0 : Heap) (n0 : Nat) (Z0 : n0 ≤ h0.size) (Vc : Arv Z h0 oc kC .char (3 : Int32) [(.int c0), (.int c1), (.int c2)] (.int 0)) (uc0 : 0 ≤ c0.toInt) (uc1 : 0 ≤ c1.toInt) (uc2 : 0 ≤ c2.toInt) (vc0 : c0.toInt < 65536) (vc1 : c1.toInt < 65536) (vc2 : c2.toInt < 65536) :
    MetFree l yn22 (head1 (Jvm.Cond.code yn22 method_4_code 5 (some .int) :: ws) ⟨0, 0, 0, 0⟩) (fun a U => a = #[(.ref oc), (.int 3), (.int 2)] ∧ Z.Warmed39 U.vm ∧ U.heap = h0) (fun _ _ _ _ _ => True) (fun _ U o U' => ∃ v L, o = .returned v ∧ Q_rf3_2 Z oc kC c0 c1 c2 h0 n0 v U'.heap L ∧ FrameEnd U o U' L 0 0) := by
  refine MetFree.of_bodySF (plainFor_of_name pn_1) hisR ?_
  intro p e s m args below meth c s₁ Bd hml0 hP hK
  obtain ⟨rfl, hZ, hh⟩ := hP
  have hx := Bd.exec
  have hby := Bd.bytes
  have hml : c.maxLocals = 5 := hml0
  have hown : s.vm.findClass "com/example/path_template_matcher/pathtemplatematcher/PercentEncodingEscapeErrorPinLaw" = some m.cls := findClass_of_methodNamed Bd.named
  have hnm := (name_of_methodNamed Bd.named Bd.method).1
  have X0 : Stand p l e ⟨0, 0, 0, 0⟩ s m #[(.ref oc), (.int 3), (.int 2)] below meth c s₁ [] 0 0 := Stand.of_body Bd
  have e0 : s₁.heap = h0 := by rw [← hh, Bd.state]; rfl
  have N0 := Fr.nil n0
  have pre0 : oP p e below (s₁.setTop (mkF m 0 #[.val (.ref oc), .val (.int 3), .val (.int 2), .unset, .unset] [])) (s₁.setTop (entryFrame m #[(.ref oc), (.int 3), (.int 2)] 5)) := fun t k => castTop (ef_rm_rf3_2 m oc) k
  have hc6_1 : (3 : Int) = (3 : Int) := by decide
  obtain ⟨fs, hr, q1, q2, q3, q4⟩ := X0.leave (v := some (.int 3)) (fun h => by rw [Bd.returns] at h; cases h)
  refine ⟨_, _, pre0 _ ?_, q1, q2, _, _, rfl, ?_, ⟨_, rfl⟩, q3, q4.mono (by decide) (by decide)⟩
  · refine XS.iloadN X0.here hx rfl (hb hby d7_0) rfl ?_
    refine XS.iconst X0.here hx rfl (hb hby d7_1) ?_
    refine XS.iadd X0.here hx rfl (hb hby d7_2) rfl ?_
    refine XS.istoreN X0.here hx rfl (hb hby d7_3) rfl (l' := #[.val (.ref oc), .val (.int 3), .val (.int 2), .val (.int 3), .unset]) rfl ?_
    refine XS.iloadN X0.here hx rfl (hb hby d7_4) rfl ?_
    refine XS.iloadN X0.here hx rfl (hb hby d7_5) rfl ?_
    refine XS.icmpNo X0.here hx rfl (hb hby d7_6) rfl (own_teq (a := (3 : Int32)) (b := (3 : Int32)) (by decide) (by decide) hc6_1).2 ?_
    refine XS.iloadN X0.here hx rfl (hb hby d7_9) rfl ?_
    exact retI X0 hx Bd.returns (hb hby d7_10) hr
  · show Q_rf3_2 Z _ _ _ _ _ h0 n0 _ s₁.heap _
    rw [e0]
    exact ⟨_, rfl, by decide, N0, rfl⟩
theorem ef_rm_ee3_2 (m : MethodId) (x0 : Addr) : entryFrame m #[(.ref x0), (.int 2)] 3 = mkF m 0 #[.val (.ref x0), .val (.int 2), .unset] [] := by first | (simp [entryFrame, mkF, argsToLocals, Value.category]; done) | rfl
def Q_ee3_2 (Z : State) (oa : Addr) (vcs : Int32) (vf : Value) (ob : Addr) (kb : ClassId) (c0 : Int32) (c1 : Int32) (c2 : Int32) (h0 : Heap) (n0 : Nat) (v : Option Value) (h : Heap) (L : List Loc) : Prop := ∃ z : Int32, v = some (.int z) ∧ (z.toInt = (3 : Int)) ∧ Fr n0 L ∧ h = h0
theorem rm_ee3_2 (l : Launch) (Z : State) (a0 : Array Value) (hw : ∀ d ∈ tables_1, d.before a0 Z = true) (ws : List Jvm.Cond) (oa : Addr) (vcs : Int32) (vf : Value) (ob : Addr) (kb : ClassId) (c0 : Int32) (c1 : Int32) (c2 : Int32) (h0 : Heap) (n0 : Nat) (Z0 : n0 ≤ h0.size) (Os : own_st Z h0 vcs vf) (Sx : own_s3 Z h0 oa ob kb c0 c1 c2) :
    MetFree l yn23 (head1 (Jvm.Cond.code yn23 prog_26_method_5_code 3 (some .int) :: ws) ⟨2, 0, 0, 26⟩) (fun a U => a = #[(.ref oa), (.int 2)] ∧ Z.Warmed39 U.vm ∧ U.heap = h0) (fun _ _ _ _ _ => True) (fun _ U o U' => ∃ v L, o = .returned v ∧ Q_ee3_2 Z oa vcs vf ob kb c0 c1 c2 h0 n0 v U'.heap L ∧ FrameEnd U o U' L 0 0) := by
  refine MetFree.of_bodySF (plainFor_of_name pn_0) hisR ?_
  intro p e s m args below meth c s₁ Bd hml0 hP hK
  obtain ⟨rfl, hZ, hh⟩ := hP
  have hx := Bd.exec
  have hby := Bd.bytes
  have hml : c.maxLocals = 3 := hml0
  have hown : s.vm.findClass "com/example/path_template_matcher/pathtemplatematcher/PercentEncoding" = some m.cls := findClass_of_methodNamed Bd.named
  have hnm := (name_of_methodNamed Bd.named Bd.method).1
  have X0 : Stand p l e ⟨2, 0, 0, 26⟩ s m #[(.ref oa), (.int 2)] below meth c s₁ [] 0 0 := Stand.of_body Bd
  have e0 : s₁.heap = h0 := by rw [← hh, Bd.state]; rfl
  have N0 := Fr.nil n0
  have pre0 : oP p e below (s₁.setTop (mkF m 0 #[.val (.ref oa), .val (.int 2), .unset] [])) (s₁.setTop (entryFrame m #[(.ref oa), (.int 2)] 3)) := fun t k => castTop (ef_rm_ee3_2 m oa) k
  have hc8_1 : ¬ ((4 : Int) < (3 : Int)) := by decide
  obtain ⟨cq2, kq2, q2a, q2b, q2c⟩ := isOf hZ e0 Sx.1
  obtain ⟨_, _, ⟨T2, L2, k2, n2⟩, -, X2, ⟨Lc2, hQ2, l2, y2, z2⟩, st2⟩ := X0.virtualBack hx (y := yn20) (z := yn20) hown (mvT hZ (ow hw 40 rfl)) (mvT hZ (ow hw 41 rfl)) (notFace_of_selects (args := #[]) (mvT hZ (ow hw 43 rfl))) (mvT hZ (ow hw 43 rfl)) (mvT hZ (ow hw 42 rfl)) (by decide) (backOf (W := 1) (rm_ln3 l Z a0 hw [] oa vcs vf ob kb c0 c1 c2 h0 n0 Z0 Os Sx) hZ (ow hw 44 rfl) (ow hw 5 rfl) (by decide) (by decide)) q2a q2c (g := (mkF m 13 #[.val (.ref oa), .val (.int 2), .val (.int 3)] [(.ref oa), (.int 3)])) rfl (by rw [hml]; rfl) (Steps.refl _) (argsL := []) (rest := [(.int 3)]) (lenOf pd_14 rfl) rfl (by exact Nat.le_of_eq rfl) (hb hby d8_13) (fun _ _ => ⟨rfl, e0, (by decide : 0 + 0 ≤ _), (by decide : 0 + 0 ≤ _)⟩)
  dsimp only [Pt.U, Pt.locs, Pt.cells, Pt.slots] at X2 l2 y2 z2 st2 hQ2
  rw [l2, y2, z2] at X2
  obtain ⟨zl1, rfl, hzl1, N2q, e2⟩ := hQ2
  have N2 := Fr.app N0 N2q
  have pre3 : oP p e below (T2.setTop (mkF m 16 #[.val (.ref oa), .val (.int 2), .val (.int 3)] [(.int zl1), (.int 3)])) (s₁.setTop (entryFrame m #[(.ref oa), (.int 2)] 3)) := fun t kt => by
    refine pre0 _ ?_
    refine XS.iloadN X0.here hx rfl (hb hby d8_0) rfl ?_
    refine XS.iconst X0.here hx rfl (hb hby d8_1) ?_
    refine XS.iadd X0.here hx rfl (hb hby d8_2) rfl ?_
    refine XS.istoreN X0.here hx rfl (hb hby d8_3) rfl (l' := #[.val (.ref oa), .val (.int 2), .val (.int 3)]) rfl ?_
    refine XS.iloadN X0.here hx rfl (hb hby d8_4) rfl ?_
    refine XS.iloadN X0.here hx rfl (hb hby d8_5) rfl ?_
    refine XS.iconst X0.here hx rfl (hb hby d8_6) ?_
    refine XS.iadd X0.here hx rfl (hb hby d8_7) rfl ?_
    refine XS.icmpNo X0.here hx rfl (hb hby d8_8) rfl (own_flt (a := (4 : Int32)) (b := (3 : Int32)) (by decide) (by decide) hc8_1).2.2.1 ?_
    refine XS.iloadN X0.here hx rfl (hb hby d8_11) rfl ?_
    refine XS.aloadN X0.here hx rfl (hb hby d8_12) rfl rfl ?_
    refine st2.trans ?_
    exact kt
  subst hzl1
  have pre4 : oP p e below (T2.setTop (mkF m 16 #[.val (.ref oa), .val (.int 2), .val (.int 3)] [(.int 3), (.int 3)])) (s₁.setTop (entryFrame m #[(.ref oa), (.int 2)] 3)) := pre3
  have hc16_5 : (3 : Int) = (3 : Int) := by decide
  obtain ⟨fs, hr, q1, q2, q3, q4⟩ := X2.leave (v := some (.int 3)) (fun h => by rw [Bd.returns] at h; cases h)
  refine ⟨_, _, pre4 _ ?_, q1, q2, _, _, rfl, ?_, ⟨_, rfl⟩, q3, q4.mono (by decide) (by decide)⟩
  · refine XS.icmpYes X2.here hx rfl (pc0 := 16) (pc' := 30) rfl (hb hby d8_16) rfl (own_teq (a := (3 : Int32)) (b := (3 : Int32)) (by decide) (by decide) hc16_5).1 (by decide) (by decide) ?_
    refine XS.iloadN X2.here hx rfl (hb hby d8_30) rfl ?_
    exact retI X2 hx Bd.returns (hb hby d8_31) hr
  · show Q_ee3_2 Z _ _ _ _ _ _ _ _ h0 n0 _ T2.heap _
    rw [e2]
    exact ⟨_, rfl, by decide, N2, rfl⟩
theorem ef_rm_rf4_0 (m : MethodId) (x0 : Addr) : entryFrame m #[(.ref x0), (.int 4), (.int 0)] 5 = mkF m 0 #[.val (.ref x0), .val (.int 4), .val (.int 0), .unset, .unset] [] := by first | (simp [entryFrame, mkF, argsToLocals, Value.category]; done) | rfl
def Q_rf4_0 (Z : State) (oc : Addr) (kC : ClassId) (c0 : Int32) (c1 : Int32) (c2 : Int32) (c3 : Int32) (h0 : Heap) (n0 : Nat) (v : Option Value) (h : Heap) (L : List Loc) : Prop := ∃ z : Int32, v = some (.int z) ∧ (z.toInt = (if own_H c1.toInt then (if own_H c2.toInt then (-1 : Int) else (2 : Int)) else (1 : Int))) ∧ Fr n0 L ∧ h = h0
theorem rm_rf4_0 (l : Launch) (Z : State) (a0 : Array Value) (hw : ∀ d ∈ tables_1, d.before a0 Z = true) (ws : List Jvm.Cond) (oc : Addr) (kC : ClassId) (c0 : Int32) (c1 : Int32) (c2 : Int32) (c3 : Int32) (h0 : Heap) (n0 : Nat) (Z0 : n0 ≤ h0.size) (Vc : Arv Z h0 oc kC .char (4 : Int32) [(.int c0), (.int c1), (.int c2), (.int c3)] (.int 0)) (uc0 : 0 ≤ c0.toInt) (uc1 : 0 ≤ c1.toInt) (uc2 : 0 ≤ c2.toInt) (uc3 : 0 ≤ c3.toInt) (vc0 : c0.toInt < 65536) (vc1 : c1.toInt < 65536) (vc2 : c2.toInt < 65536) (vc3 : c3.toInt < 65536) :
    MetFree l yn22 (head1 (Jvm.Cond.code yn22 method_4_code 5 (some .int) :: ws) ⟨1, 0, 0, 13⟩) (fun a U => a = #[(.ref oc), (.int 4), (.int 0)] ∧ Z.Warmed39 U.vm ∧ U.heap = h0) (fun _ _ _ _ _ => True) (fun _ U o U' => ∃ v L, o = .returned v ∧ Q_rf4_0 Z oc kC c0 c1 c2 c3 h0 n0 v U'.heap L ∧ FrameEnd U o U' L 0 0) := by
  refine MetFree.of_bodySF (plainFor_of_name pn_1) hisR ?_
  intro p e s m args below meth c s₁ Bd hml0 hP hK
  obtain ⟨rfl, hZ, hh⟩ := hP
  have hx := Bd.exec
  have hby := Bd.bytes
  have hml : c.maxLocals = 5 := hml0
  have hown : s.vm.findClass "com/example/path_template_matcher/pathtemplatematcher/PercentEncodingEscapeErrorPinLaw" = some m.cls := findClass_of_methodNamed Bd.named
  have hnm := (name_of_methodNamed Bd.named Bd.method).1
  have X0 : Stand p l e ⟨1, 0, 0, 13⟩ s m #[(.ref oc), (.int 4), (.int 0)] below meth c s₁ [] 0 0 := Stand.of_body Bd
  have e0 : s₁.heap = h0 := by rw [← hh, Bd.state]; rfl
  have N0 := Fr.nil n0
  have pre0 : oP p e below (s₁.setTop (mkF m 0 #[.val (.ref oc), .val (.int 4), .val (.int 0), .unset, .unset] [])) (s₁.setTop (entryFrame m #[(.ref oc), (.int 4), (.int 0)] 5)) := fun t k => castTop (ef_rm_rf4_0 m oc) k
  have hc6_1 : ¬ ((1 : Int) = (4 : Int)) := by decide
  obtain ⟨cl2, Ar2, q2, S2, M2, H2, G2⟩ := id Vc
  have hin2 : ¬ ((1 : Int32) < 0 ∨ cl2.slots.size ≤ ((1 : Int32)).toNatClampNeg) := inb_of S2 ⟨by decide, by decide⟩
  have hat2 : cl2.slots[((1 : Int32)).toNatClampNeg]? = some (.int c1) := Has.at H2 hin2 rfl
  obtain ⟨_, _, ⟨T3, L3, k3, n3⟩, -, X3, ⟨Lc3, hQ3, l3, y3, z3⟩, st3⟩ := Jvm.LawKit.callS X0 hx (y := yn1) hown (mvT hZ (ow hw 69 rfl)) (mvT hZ (ow hw 70 rfl)) (mvT hZ (ow hw 34 rfl)) (mvT hZ (ow hw 71 rfl)) (by decide) (backOf (W := 0) (rm16 l Z a0 hw [] c1 h0 n0 Z0 uc1 vc1) hZ (ow hw 71 rfl) (ow hw 34 rfl) (by decide) (by decide)) (g := (mkF m 14 #[.val (.ref oc), .val (.int 4), .val (.int 0), .val (.int 1), .unset] [(.int c1)])) rfl (by rw [hml]; rfl) (argsL := [(.int c1)]) (rest := []) (lenOf pd_15 rfl) rfl (by exact Nat.le_of_eq rfl) (hb hby d7_14) (fun _ _ => ⟨rfl, e0, (by decide : 0 + 0 ≤ _), (by decide : 0 + 0 ≤ _)⟩)
  dsimp only [Pt.U, Pt.locs, Pt.cells, Pt.slots] at X3 l3 y3 z3 st3 hQ3
  rw [l3, y3, z3] at X3
  obtain ⟨r1, rfl, hr1, N3q, e3⟩ := hQ3
  have N3 := Fr.app N0 N3q
  have pre4 : oP p e below (T3.setTop (mkF m 17 #[.val (.ref oc), .val (.int 4), .val (.int 0), .val (.int 1), .unset] [(.int r1)])) (s₁.setTop (entryFrame m #[(.ref oc), (.int 4), (.int 0)] 5)) := fun t kt => by
    refine pre0 _ ?_
    refine XS.iloadN X0.here hx rfl (hb hby d7_0) rfl ?_
    refine XS.iconst X0.here hx rfl (hb hby d7_1) ?_
    refine XS.iadd X0.here hx rfl (hb hby d7_2) rfl ?_
    refine XS.istoreN X0.here hx rfl (hb hby d7_3) rfl (l' := #[.val (.ref oc), .val (.int 4), .val (.int 0), .val (.int 1), .unset]) rfl ?_
    refine XS.iloadN X0.here hx rfl (hb hby d7_4) rfl ?_
    refine XS.iloadN X0.here hx rfl (hb hby d7_5) rfl ?_
    refine XS.icmpYes X0.here hx rfl (pc0 := 6) (pc' := 11) rfl (hb hby d7_6) rfl (own_feq (a := (1 : Int32)) (b := (4 : Int32)) (by decide) (by decide) hc6_1).2 (by decide) (by decide) ?_
    refine XS.aloadN X0.here hx rfl (hb hby d7_11) rfl rfl ?_
    refine XS.iloadN X0.here hx rfl (hb hby d7_12) rfl ?_
    refine X0.caload hx (j := (1 : Int32)) (v := (.int c1)) (by rw [e0]; exact Ar2.1) (State.isArrayOf_alike hZ.alike Ar2.2.1) Ar2.2.2 hin2 hat2 (g := (mkF m 13 #[.val (.ref oc), .val (.int 4), .val (.int 0), .val (.int 1), .unset] [(.int 1), (.ref oc)])) rfl rfl (hb hby d7_13) _ ?_
    refine st3 _ ?_
    exact kt
  by_cases hs1 : own_H c1.toInt
  · rw [if_pos hs1] at hr1
    have hc17_5 : ¬ (r1.toInt = (0 : Int)) := by omega
    have hc30_6 : ¬ ((2 : Int) = (4 : Int)) := by decide
    obtain ⟨cl7, Ar7, q7, S7, M7, H7, G7⟩ := id Vc
    have hin7 : ¬ ((2 : Int32) < 0 ∨ cl7.slots.size ≤ ((2 : Int32)).toNatClampNeg) := inb_of S7 ⟨by decide, by decide⟩
    have hat7 : cl7.slots[((2 : Int32)).toNatClampNeg]? = some (.int c2) := Has.at H7 hin7 rfl
    obtain ⟨_, _, ⟨T8, L8, k8, n8⟩, -, X8, ⟨Lc8, hQ8, l8, y8, z8⟩, st8⟩ := Jvm.LawKit.callS X3 hx (y := yn1) hown (mvT hZ (ow hw 69 rfl)) (mvT hZ (ow hw 70 rfl)) (mvT hZ (ow hw 34 rfl)) (mvT hZ (ow hw 71 rfl)) (by decide) (backOf (W := 0) (rm16 l Z a0 hw [] c2 h0 n0 Z0 uc2 vc2) hZ (ow hw 71 rfl) (ow hw 34 rfl) (by decide) (by decide)) (g := (mkF m 40 #[.val (.ref oc), .val (.int 4), .val (.int 0), .val (.int 1), .val (.int 2)] [(.int c2)])) rfl (by rw [hml]; rfl) (argsL := [(.int c2)]) (rest := []) (lenOf pd_15 rfl) rfl (by exact Nat.le_of_eq rfl) (hb hby d7_40) (fun _ _ => ⟨rfl, e3, (by decide : 0 + 0 ≤ _), (by decide : 0 + 0 ≤ _)⟩)
    dsimp only [Pt.U, Pt.locs, Pt.cells, Pt.slots] at X8 l8 y8 z8 st8 hQ8
    rw [l8, y8, z8] at X8
    obtain ⟨r2, rfl, hr2, N8q, e8⟩ := hQ8
    have N8 := Fr.app N3 N8q
    have pre9 : oP p e below (T8.setTop (mkF m 43 #[.val (.ref oc), .val (.int 4), .val (.int 0), .val (.int 1), .val (.int 2)] [(.int r2)])) (s₁.setTop (entryFrame m #[(.ref oc), (.int 4), (.int 0)] 5)) := fun t kt => by
      refine pre4 _ ?_
      refine XS.ifYes X3.here hx rfl (pc0 := 17) (pc' := 22) rfl (hb hby d7_17) rfl (own_if (own_feq (a := r1) (b := (0 : Int32)) rfl (by decide) hc17_5).2) (by decide) (by decide) ?_
      refine XS.iloadN X3.here hx rfl (hb hby d7_22) rfl ?_
      refine XS.iconst X3.here hx rfl (hb hby d7_23) ?_
      refine XS.iadd X3.here hx rfl (hb hby d7_24) rfl ?_
      refine XS.istore X3.here hx rfl (hb hby d7_25) rfl (l' := #[.val (.ref oc), .val (.int 4), .val (.int 0), .val (.int 1), .val (.int 2)]) rfl ?_
      refine XS.iload X3.here hx rfl (hb hby d7_27) rfl ?_
      refine XS.iloadN X3.here hx rfl (hb hby d7_29) rfl ?_
      refine XS.icmpYes X3.here hx rfl (pc0 := 30) (pc' := 36) rfl (hb hby d7_30) rfl (own_feq (a := (2 : Int32)) (b := (4 : Int32)) (by decide) (by decide) hc30_6).2 (by decide) (by decide) ?_
      show Steps p.tables e below (T3.setTop (mkF m 36 #[.val (.ref oc), .val (.int 4), .val (.int 0), .val (.int 1), .val (.int 2)] [])) _
      refine XS.aloadN X3.here hx rfl (hb hby d7_36) rfl rfl ?_
      refine XS.iload X3.here hx rfl (hb hby d7_37) rfl ?_
      refine X3.caload hx (j := (2 : Int32)) (v := (.int c2)) (by rw [e3]; exact Ar7.1) (State.isArrayOf_alike hZ.alike Ar7.2.1) Ar7.2.2 hin7 hat7 (g := (mkF m 39 #[.val (.ref oc), .val (.int 4), .val (.int 0), .val (.int 1), .val (.int 2)] [(.int 2), (.ref oc)])) rfl rfl (hb hby d7_39) _ ?_
      refine st8 _ ?_
      exact kt
    by_cases hs2 : own_H c2.toInt
    · rw [if_pos hs2] at hr2
      have hc43_10 : ¬ (r2.toInt = (0 : Int)) := by omega
      obtain ⟨fs, hr, q1, q2, q3, q4⟩ := X8.leave (v := some (.int (-1 : Int32))) (fun h => by rw [Bd.returns] at h; cases h)
      refine ⟨_, _, pre9 _ ?_, q1, q2, _, _, rfl, ?_, ⟨_, rfl⟩, q3, q4.mono (by decide) (by decide)⟩
      · refine XS.ifYes X8.here hx rfl (pc0 := 43) (pc' := 49) rfl (hb hby d7_43) rfl (own_if (own_feq (a := r2) (b := (0 : Int32)) rfl (by decide) hc43_10).2) (by decide) (by decide) ?_
        refine XS.iconst X8.here hx rfl (hb hby d7_49) ?_
        exact retI X8 hx Bd.returns (hb hby d7_50) hr
      · show Q_rf4_0 Z _ _ _ _ _ _ h0 n0 _ T8.heap _
        rw [e8]
        exact ⟨_, rfl, by rw [if_pos hs1, if_pos hs2]; decide, N8, rfl⟩
    · rw [if_neg hs2] at hr2
      have hc43_11 : r2.toInt = (0 : Int) := by omega
      obtain ⟨fs, hr, q1, q2, q3, q4⟩ := X8.leave (v := some (.int 2)) (fun h => by rw [Bd.returns] at h; cases h)
      refine ⟨_, _, pre9 _ ?_, q1, q2, _, _, rfl, ?_, ⟨_, rfl⟩, q3, q4.mono (by decide) (by decide)⟩
      · refine XS.ifNo X8.here hx rfl (hb hby d7_43) rfl (own_if (own_teq (a := r2) (b := (0 : Int32)) rfl (by decide) hc43_11).2) ?_
        refine XS.iload X8.here hx rfl (hb hby d7_46) rfl ?_
        exact retI X8 hx Bd.returns (hb hby d7_48) hr
      · show Q_rf4_0 Z _ _ _ _ _ _ h0 n0 _ T8.heap _
        rw [e8]
        exact ⟨_, rfl, by rw [if_pos hs1, if_neg hs2]; decide, N8, rfl⟩
  · rw [if_neg hs1] at hr1
    have hc17_12 : r1.toInt = (0 : Int) := by omega
    obtain ⟨fs, hr, q1, q2, q3, q4⟩ := X3.leave (v := some (.int 1)) (fun h => by rw [Bd.returns] at h; cases h)
    refine ⟨_, _, pre4 _ ?_, q1, q2, _, _, rfl, ?_, ⟨_, rfl⟩, q3, q4.mono (by decide) (by decide)⟩
    · refine XS.ifNo X3.here hx rfl (hb hby d7_17) rfl (own_if (own_teq (a := r1) (b := (0 : Int32)) rfl (by decide) hc17_12).2) ?_
      refine XS.iloadN X3.here hx rfl (hb hby d7_20) rfl ?_
      exact retI X3 hx Bd.returns (hb hby d7_21) hr
    · show Q_rf4_0 Z _ _ _ _ _ _ h0 n0 _ T3.heap _
      rw [e3]
      exact ⟨_, rfl, by rw [if_neg hs1]; decide, N3, rfl⟩
theorem ef_rm_ee4_0 (m : MethodId) (x0 : Addr) : entryFrame m #[(.ref x0), (.int 0)] 3 = mkF m 0 #[.val (.ref x0), .val (.int 0), .unset] [] := by first | (simp [entryFrame, mkF, argsToLocals, Value.category]; done) | rfl
def Q_ee4_0 (Z : State) (oa : Addr) (vcs : Int32) (vf : Value) (ob : Addr) (kb : ClassId) (c0 : Int32) (c1 : Int32) (c2 : Int32) (c3 : Int32) (h0 : Heap) (n0 : Nat) (v : Option Value) (h : Heap) (L : List Loc) : Prop := ∃ z : Int32, v = some (.int z) ∧ (z.toInt = (if own_H c1.toInt then (if own_H c2.toInt then (-1 : Int) else (2 : Int)) else (1 : Int))) ∧ Fr n0 L ∧ h = h0
theorem rm_ee4_0 (l : Launch) (Z : State) (a0 : Array Value) (hw : ∀ d ∈ tables_1, d.before a0 Z = true) (ws : List Jvm.Cond) (oa : Addr) (vcs : Int32) (vf : Value) (ob : Addr) (kb : ClassId) (c0 : Int32) (c1 : Int32) (c2 : Int32) (c3 : Int32) (h0 : Heap) (n0 : Nat) (Z0 : n0 ≤ h0.size) (Os : own_st Z h0 vcs vf) (Sx : own_s4 Z h0 oa ob kb c0 c1 c2 c3) :
    MetFree l yn23 (head1 (Jvm.Cond.code yn23 prog_26_method_5_code 3 (some .int) :: ws) ⟨5, 0, 0, 66⟩) (fun a U => a = #[(.ref oa), (.int 0)] ∧ Z.Warmed39 U.vm ∧ U.heap = h0) (fun _ _ _ _ _ => True) (fun _ U o U' => ∃ v L, o = .returned v ∧ Q_ee4_0 Z oa vcs vf ob kb c0 c1 c2 c3 h0 n0 v U'.heap L ∧ FrameEnd U o U' L 0 0) := by
  refine MetFree.of_bodySF (plainFor_of_name pn_0) hisR ?_
  intro p e s m args below meth c s₁ Bd hml0 hP hK
  obtain ⟨rfl, hZ, hh⟩ := hP
  have hx := Bd.exec
  have hby := Bd.bytes
  have hml : c.maxLocals = 3 := hml0
  have hown : s.vm.findClass "com/example/path_template_matcher/pathtemplatematcher/PercentEncoding" = some m.cls := findClass_of_methodNamed Bd.named
  have hnm := (name_of_methodNamed Bd.named Bd.method).1
  have X0 : Stand p l e ⟨5, 0, 0, 66⟩ s m #[(.ref oa), (.int 0)] below meth c s₁ [] 0 0 := Stand.of_body Bd
  have e0 : s₁.heap = h0 := by rw [← hh, Bd.state]; rfl
  have N0 := Fr.nil n0
  have pre0 : oP p e below (s₁.setTop (mkF m 0 #[.val (.ref oa), .val (.int 0), .unset] [])) (s₁.setTop (entryFrame m #[(.ref oa), (.int 0)] 3)) := fun t k => castTop (ef_rm_ee4_0 m oa) k
  have hc8_1 : ¬ ((2 : Int) < (1 : Int)) := by decide
  obtain ⟨cq2, kq2, q2a, q2b, q2c⟩ := isOf hZ e0 Sx.1
  obtain ⟨_, _, ⟨T2, L2, k2, n2⟩, -, X2, ⟨Lc2, hQ2, l2, y2, z2⟩, st2⟩ := X0.virtualBack hx (y := yn20) (z := yn20) hown (mvT hZ (ow hw 40 rfl)) (mvT hZ (ow hw 41 rfl)) (notFace_of_selects (args := #[]) (mvT hZ (ow hw 43 rfl))) (mvT hZ (ow hw 43 rfl)) (mvT hZ (ow hw 42 rfl)) (by decide) (backOf (W := 1) (rm_ln4 l Z a0 hw [] oa vcs vf ob kb c0 c1 c2 c3 h0 n0 Z0 Os Sx) hZ (ow hw 44 rfl) (ow hw 5 rfl) (by decide) (by decide)) q2a q2c (g := (mkF m 13 #[.val (.ref oa), .val (.int 0), .val (.int 1)] [(.ref oa), (.int 1)])) rfl (by rw [hml]; rfl) (Steps.refl _) (argsL := []) (rest := [(.int 1)]) (lenOf pd_14 rfl) rfl (by exact Nat.le_of_eq rfl) (hb hby d8_13) (fun _ _ => ⟨rfl, e0, (by decide : 0 + 0 ≤ _), (by decide : 0 + 0 ≤ _)⟩)
  dsimp only [Pt.U, Pt.locs, Pt.cells, Pt.slots] at X2 l2 y2 z2 st2 hQ2
  rw [l2, y2, z2] at X2
  obtain ⟨zl1, rfl, hzl1, N2q, e2⟩ := hQ2
  have N2 := Fr.app N0 N2q
  have pre3 : oP p e below (T2.setTop (mkF m 16 #[.val (.ref oa), .val (.int 0), .val (.int 1)] [(.int zl1), (.int 1)])) (s₁.setTop (entryFrame m #[(.ref oa), (.int 0)] 3)) := fun t kt => by
    refine pre0 _ ?_
    refine XS.iloadN X0.here hx rfl (hb hby d8_0) rfl ?_
    refine XS.iconst X0.here hx rfl (hb hby d8_1) ?_
    refine XS.iadd X0.here hx rfl (hb hby d8_2) rfl ?_
    refine XS.istoreN X0.here hx rfl (hb hby d8_3) rfl (l' := #[.val (.ref oa), .val (.int 0), .val (.int 1)]) rfl ?_
    refine XS.iloadN X0.here hx rfl (hb hby d8_4) rfl ?_
    refine XS.iloadN X0.here hx rfl (hb hby d8_5) rfl ?_
    refine XS.iconst X0.here hx rfl (hb hby d8_6) ?_
    refine XS.iadd X0.here hx rfl (hb hby d8_7) rfl ?_
    refine XS.icmpNo X0.here hx rfl (hb hby d8_8) rfl (own_flt (a := (2 : Int32)) (b := (1 : Int32)) (by decide) (by decide) hc8_1).2.2.1 ?_
    refine XS.iloadN X0.here hx rfl (hb hby d8_11) rfl ?_
    refine XS.aloadN X0.here hx rfl (hb hby d8_12) rfl rfl ?_
    refine st2.trans ?_
    exact kt
  subst hzl1
  have pre4 : oP p e below (T2.setTop (mkF m 16 #[.val (.ref oa), .val (.int 0), .val (.int 1)] [(.int 4), (.int 1)])) (s₁.setTop (entryFrame m #[(.ref oa), (.int 0)] 3)) := pre3
  have hc16_5 : ¬ ((1 : Int) = (4 : Int)) := by decide
  obtain ⟨cq6, kq6, q6a, q6b, q6c⟩ := isOf hZ e2 Sx.1
  obtain ⟨_, _, ⟨T6, L6, k6, n6⟩, -, X6, ⟨Lc6, hQ6, l6, y6, z6⟩, st6⟩ := X2.virtualBack hx (y := yn21) (z := yn21) hown (mvT hZ (ow hw 72 rfl)) (mvT hZ (ow hw 73 rfl)) (notFace_of_selects (args := #[]) (mvT hZ (ow hw 75 rfl))) (mvT hZ (ow hw 75 rfl)) (mvT hZ (ow hw 74 rfl)) (by decide) (backOf (W := 0) (rm_ca4_1 l Z a0 hw [] oa vcs vf ob kb c0 c1 c2 c3 h0 n0 Z0 Os Sx) hZ (ow hw 76 rfl) (ow hw 5 rfl) (by decide) (by decide)) q6a q6c (g := (mkF m 21 #[.val (.ref oa), .val (.int 0), .val (.int 1)] [(.int 1), (.ref oa)])) rfl (by rw [hml]; rfl) (Steps.refl _) (argsL := [(.int 1)]) (rest := []) (lenOf pd_16 rfl) rfl (by exact Nat.le_of_eq rfl) (hb hby d8_21) (fun _ _ => ⟨rfl, e2, (by decide : 0 + 0 ≤ _), (by decide : 0 + 0 ≤ _)⟩)
  dsimp only [Pt.U, Pt.locs, Pt.cells, Pt.slots] at X6 l6 y6 z6 st6 hQ6
  rw [l6, y6, z6] at X6
  obtain ⟨k1, rfl, hk1, N6q, e6⟩ := hQ6
  have N6 := Fr.app N2 N6q
  obtain ⟨_, _, ⟨T7, L7, k7, n7⟩, -, X7, ⟨Lc7, hQ7, l7, y7, z7⟩, st7⟩ := Jvm.LawKit.callS X6 hx (y := yn0) hown (mvT hZ (ow hw 99 rfl)) (mvT hZ (ow hw 100 rfl)) (mvT hZ (ow hw 38 rfl)) (mvT hZ (ow hw 101 rfl)) (by decide) (backOf (W := 0) (rm24 l Z a0 hw [] k1 h0 n0 Z0 ) hZ (ow hw 101 rfl) (ow hw 38 rfl) (by decide) (by decide)) (g := (mkF m 24 #[.val (.ref oa), .val (.int 0), .val (.int 1)] [(.int k1)])) rfl (by rw [hml]; rfl) (argsL := [(.int k1)]) (rest := []) (lenOf pd_15 rfl) rfl (by exact Nat.le_of_eq rfl) (hb hby d8_24) (fun _ _ => ⟨rfl, e6, (by decide : 0 + 0 ≤ _), (by decide : 0 + 0 ≤ _)⟩)
  dsimp only [Pt.U, Pt.locs, Pt.cells, Pt.slots] at X7 l7 y7 z7 st7 hQ7
  rw [l7, y7, z7] at X7
  obtain ⟨r1, rfl, hr1, N7q, e7⟩ := hQ7
  have N7 := Fr.app N6 N7q
  rw [hk1] at hr1
  have pre8 : oP p e below (T7.setTop (mkF m 27 #[.val (.ref oa), .val (.int 0), .val (.int 1)] [(.int r1)])) (s₁.setTop (entryFrame m #[(.ref oa), (.int 0)] 3)) := fun t kt => by
    refine pre4 _ ?_
    refine XS.icmpNo X2.here hx rfl (hb hby d8_16) rfl (own_feq (a := (1 : Int32)) (b := (4 : Int32)) (by decide) (by decide) hc16_5).1 ?_
    refine XS.aloadN X2.here hx rfl (hb hby d8_19) rfl rfl ?_
    refine XS.iloadN X2.here hx rfl (hb hby d8_20) rfl ?_
    refine st6.trans ?_
    refine st7 _ ?_
    exact kt
  by_cases hs1 : own_H c1.toInt
  · rw [if_pos hs1] at hr1
    have hc27_9 : ¬ (r1.toInt = (0 : Int)) := by omega
    have hc8_10 : ¬ ((2 : Int) < (2 : Int)) := by decide
    obtain ⟨cq11, kq11, q11a, q11b, q11c⟩ := isOf hZ e7 Sx.1
    obtain ⟨_, _, ⟨T11, L11, k11, n11⟩, -, X11, ⟨Lc11, hQ11, l11, y11, z11⟩, st11⟩ := X7.virtualBack hx (y := yn20) (z := yn20) hown (mvT hZ (ow hw 40 rfl)) (mvT hZ (ow hw 41 rfl)) (notFace_of_selects (args := #[]) (mvT hZ (ow hw 43 rfl))) (mvT hZ (ow hw 43 rfl)) (mvT hZ (ow hw 42 rfl)) (by decide) (backOf (W := 1) (rm_ln4 l Z a0 hw [] oa vcs vf ob kb c0 c1 c2 c3 h0 n0 Z0 Os Sx) hZ (ow hw 44 rfl) (ow hw 5 rfl) (by decide) (by decide)) q11a q11c (g := (mkF m 13 #[.val (.ref oa), .val (.int 0), .val (.int 2)] [(.ref oa), (.int 2)])) rfl (by rw [hml]; rfl) (Steps.refl _) (argsL := []) (rest := [(.int 2)]) (lenOf pd_14 rfl) rfl (by exact Nat.le_of_eq rfl) (hb hby d8_13) (fun _ _ => ⟨rfl, e7, (by decide : 0 + 0 ≤ _), (by decide : 0 + 0 ≤ _)⟩)
    dsimp only [Pt.U, Pt.locs, Pt.cells, Pt.slots] at X11 l11 y11 z11 st11 hQ11
    rw [l11, y11, z11] at X11
    obtain ⟨zl2, rfl, hzl2, N11q, e11⟩ := hQ11
    have N11 := Fr.app N7 N11q
    have pre12 : oP p e below (T11.setTop (mkF m 16 #[.val (.ref oa), .val (.int 0), .val (.int 2)] [(.int zl2), (.int 2)])) (s₁.setTop (entryFrame m #[(.ref oa), (.int 0)] 3)) := fun t kt => by
      refine pre8 _ ?_
      refine XS.ifYes X7.here hx rfl (pc0 := 27) (pc' := 32) rfl (hb hby d8_27) rfl (own_if (own_feq (a := r1) (b := (0 : Int32)) rfl (by decide) hc27_9).2) (by decide) (by decide) ?_
      refine XS.iinc X7.here hx rfl (hb hby d8_32) rfl (l' := #[.val (.ref oa), .val (.int 0), .val (.int 2)]) rfl ?_
      show Steps p.tables e below (T7.setTop (mkF m 35 #[.val (.ref oa), .val (.int 0), .val (.int 2)] [])) _
      refine XS.goto X7.here hx rfl (pc0 := 35) (pc' := 4) rfl (hb hby d8_35) (by decide) (by decide) ?_
      refine XS.iloadN X7.here hx rfl (hb hby d8_4) rfl ?_
      refine XS.iloadN X7.here hx rfl (hb hby d8_5) rfl ?_
      refine XS.iconst X7.here hx rfl (hb hby d8_6) ?_
      refine XS.iadd X7.here hx rfl (hb hby d8_7) rfl ?_
      refine XS.icmpNo X7.here hx rfl (hb hby d8_8) rfl (own_flt (a := (2 : Int32)) (b := (2 : Int32)) (by decide) (by decide) hc8_10).2.2.1 ?_
      refine XS.iloadN X7.here hx rfl (hb hby d8_11) rfl ?_
      refine XS.aloadN X7.here hx rfl (hb hby d8_12) rfl rfl ?_
      refine st11.trans ?_
      exact kt
    subst hzl2
    have pre13 : oP p e below (T11.setTop (mkF m 16 #[.val (.ref oa), .val (.int 0), .val (.int 2)] [(.int 4), (.int 2)])) (s₁.setTop (entryFrame m #[(.ref oa), (.int 0)] 3)) := pre12
    have hc16_14 : ¬ ((2 : Int) = (4 : Int)) := by decide
    obtain ⟨cq15, kq15, q15a, q15b, q15c⟩ := isOf hZ e11 Sx.1
    obtain ⟨_, _, ⟨T15, L15, k15, n15⟩, -, X15, ⟨Lc15, hQ15, l15, y15, z15⟩, st15⟩ := X11.virtualBack hx (y := yn21) (z := yn21) hown (mvT hZ (ow hw 72 rfl)) (mvT hZ (ow hw 73 rfl)) (notFace_of_selects (args := #[]) (mvT hZ (ow hw 75 rfl))) (mvT hZ (ow hw 75 rfl)) (mvT hZ (ow hw 74 rfl)) (by decide) (backOf (W := 0) (rm_ca4_2 l Z a0 hw [] oa vcs vf ob kb c0 c1 c2 c3 h0 n0 Z0 Os Sx) hZ (ow hw 76 rfl) (ow hw 5 rfl) (by decide) (by decide)) q15a q15c (g := (mkF m 21 #[.val (.ref oa), .val (.int 0), .val (.int 2)] [(.int 2), (.ref oa)])) rfl (by rw [hml]; rfl) (Steps.refl _) (argsL := [(.int 2)]) (rest := []) (lenOf pd_16 rfl) rfl (by exact Nat.le_of_eq rfl) (hb hby d8_21) (fun _ _ => ⟨rfl, e11, (by decide : 0 + 0 ≤ _), (by decide : 0 + 0 ≤ _)⟩)
    dsimp only [Pt.U, Pt.locs, Pt.cells, Pt.slots] at X15 l15 y15 z15 st15 hQ15
    rw [l15, y15, z15] at X15
    obtain ⟨k2, rfl, hk2, N15q, e15⟩ := hQ15
    have N15 := Fr.app N11 N15q
    obtain ⟨_, _, ⟨T16, L16, k16, n16⟩, -, X16, ⟨Lc16, hQ16, l16, y16, z16⟩, st16⟩ := Jvm.LawKit.callS X15 hx (y := yn0) hown (mvT hZ (ow hw 99 rfl)) (mvT hZ (ow hw 100 rfl)) (mvT hZ (ow hw 38 rfl)) (mvT hZ (ow hw 101 rfl)) (by decide) (backOf (W := 0) (rm24 l Z a0 hw [] k2 h0 n0 Z0 ) hZ (ow hw 101 rfl) (ow hw 38 rfl) (by decide) (by decide)) (g := (mkF m 24 #[.val (.ref oa), .val (.int 0), .val (.int 2)] [(.int k2)])) rfl (by rw [hml]; rfl) (argsL := [(.int k2)]) (rest := []) (lenOf pd_15 rfl) rfl (by exact Nat.le_of_eq rfl) (hb hby d8_24) (fun _ _ => ⟨rfl, e15, (by decide : 0 + 0 ≤ _), (by decide : 0 + 0 ≤ _)⟩)
    dsimp only [Pt.U, Pt.locs, Pt.cells, Pt.slots] at X16 l16 y16 z16 st16 hQ16
    rw [l16, y16, z16] at X16
    obtain ⟨r2, rfl, hr2, N16q, e16⟩ := hQ16
    have N16 := Fr.app N15 N16q
    rw [hk2] at hr2
    have pre17 : oP p e below (T16.setTop (mkF m 27 #[.val (.ref oa), .val (.int 0), .val (.int 2)] [(.int r2)])) (s₁.setTop (entryFrame m #[(.ref oa), (.int 0)] 3)) := fun t kt => by
      refine pre13 _ ?_
      refine XS.icmpNo X11.here hx rfl (hb hby d8_16) rfl (own_feq (a := (2 : Int32)) (b := (4 : Int32)) (by decide) (by decide) hc16_14).1 ?_
      refine XS.aloadN X11.here hx rfl (hb hby d8_19) rfl rfl ?_
      refine XS.iloadN X11.here hx rfl (hb hby d8_20) rfl ?_
      refine st15.trans ?_
      refine st16 _ ?_
      exact kt
    by_cases hs2 : own_H c2.toInt
    · rw [if_pos hs2] at hr2
      have hc27_18 : ¬ (r2.toInt = (0 : Int)) := by omega
      have hc8_19 : (2 : Int) < (3 : Int) := by decide
      obtain ⟨fs, hr, q1, q2, q3, q4⟩ := X16.leave (v := some (.int (-1 : Int32))) (fun h => by rw [Bd.returns] at h; cases h)
      refine ⟨_, _, pre17 _ ?_, q1, q2, _, _, rfl, ?_, ⟨_, rfl⟩, q3, q4.mono (by decide) (by decide)⟩
      · refine XS.ifYes X16.here hx rfl (pc0 := 27) (pc' := 32) rfl (hb hby d8_27) rfl (own_if (own_feq (a := r2) (b := (0 : Int32)) rfl (by decide) hc27_18).2) (by decide) (by decide) ?_
        refine XS.iinc X16.here hx rfl (hb hby d8_32) rfl (l' := #[.val (.ref oa), .val (.int 0), .val (.int 3)]) rfl ?_
        refine XS.goto X16.here hx rfl (pc0 := 35) (pc' := 4) rfl (hb hby d8_35) (by decide) (by decide) ?_
        refine XS.iloadN X16.here hx rfl (hb hby d8_4) rfl ?_
        refine XS.iloadN X16.here hx rfl (hb hby d8_5) rfl ?_
        refine XS.iconst X16.here hx rfl (hb hby d8_6) ?_
        show Steps p.tables e below (T16.setTop (mkF m 7 #[.val (.ref oa), .val (.int 0), .val (.int 3)] [(.int 2), (.int 0), (.int 3)])) _
        refine XS.iadd X16.here hx rfl (hb hby d8_7) rfl ?_
        refine XS.icmpYes X16.here hx rfl (pc0 := 8) (pc' := 38) rfl (hb hby d8_8) rfl (own_tlt (a := (2 : Int32)) (b := (3 : Int32)) (by decide) (by decide) hc8_19).2.2.1 (by decide) (by decide) ?_
        refine XS.iconst X16.here hx rfl (hb hby d8_38) ?_
        exact retI X16 hx Bd.returns (hb hby d8_39) hr
      · show Q_ee4_0 Z _ _ _ _ _ _ _ _ _ h0 n0 _ T16.heap _
        rw [e16]
        exact ⟨_, rfl, by rw [if_pos hs1, if_pos hs2]; decide, N16, rfl⟩
    · rw [if_neg hs2] at hr2
      have hc27_20 : r2.toInt = (0 : Int) := by omega
      obtain ⟨fs, hr, q1, q2, q3, q4⟩ := X16.leave (v := some (.int 2)) (fun h => by rw [Bd.returns] at h; cases h)
      refine ⟨_, _, pre17 _ ?_, q1, q2, _, _, rfl, ?_, ⟨_, rfl⟩, q3, q4.mono (by decide) (by decide)⟩
      · refine XS.ifNo X16.here hx rfl (hb hby d8_27) rfl (own_if (own_teq (a := r2) (b := (0 : Int32)) rfl (by decide) hc27_20).2) ?_
        refine XS.iloadN X16.here hx rfl (hb hby d8_30) rfl ?_
        exact retI X16 hx Bd.returns (hb hby d8_31) hr
      · show Q_ee4_0 Z _ _ _ _ _ _ _ _ _ h0 n0 _ T16.heap _
        rw [e16]
        exact ⟨_, rfl, by rw [if_pos hs1, if_neg hs2]; decide, N16, rfl⟩
  · rw [if_neg hs1] at hr1
    have hc27_21 : r1.toInt = (0 : Int) := by omega
    obtain ⟨fs, hr, q1, q2, q3, q4⟩ := X7.leave (v := some (.int 1)) (fun h => by rw [Bd.returns] at h; cases h)
    refine ⟨_, _, pre8 _ ?_, q1, q2, _, _, rfl, ?_, ⟨_, rfl⟩, q3, q4.mono (by decide) (by decide)⟩
    · refine XS.ifNo X7.here hx rfl (hb hby d8_27) rfl (own_if (own_teq (a := r1) (b := (0 : Int32)) rfl (by decide) hc27_21).2) ?_
      refine XS.iloadN X7.here hx rfl (hb hby d8_30) rfl ?_
      show Steps p.tables e below (T7.setTop (mkF m 31 #[.val (.ref oa), .val (.int 0), .val (.int 1)] [(.int 1)])) _
      exact retI X7 hx Bd.returns (hb hby d8_31) hr
    · show Q_ee4_0 Z _ _ _ _ _ _ _ _ _ h0 n0 _ T7.heap _
      rw [e7]
      exact ⟨_, rfl, by rw [if_neg hs1]; decide, N7, rfl⟩
theorem ef_rm_rf4_1 (m : MethodId) (x0 : Addr) : entryFrame m #[(.ref x0), (.int 4), (.int 1)] 5 = mkF m 0 #[.val (.ref x0), .val (.int 4), .val (.int 1), .unset, .unset] [] := by first | (simp [entryFrame, mkF, argsToLocals, Value.category]; done) | rfl
def Q_rf4_1 (Z : State) (oc : Addr) (kC : ClassId) (c0 : Int32) (c1 : Int32) (c2 : Int32) (c3 : Int32) (h0 : Heap) (n0 : Nat) (v : Option Value) (h : Heap) (L : List Loc) : Prop := ∃ z : Int32, v = some (.int z) ∧ (z.toInt = (if own_H c2.toInt then (if own_H c3.toInt then (-1 : Int) else (3 : Int)) else (2 : Int))) ∧ Fr n0 L ∧ h = h0
theorem rm_rf4_1 (l : Launch) (Z : State) (a0 : Array Value) (hw : ∀ d ∈ tables_1, d.before a0 Z = true) (ws : List Jvm.Cond) (oc : Addr) (kC : ClassId) (c0 : Int32) (c1 : Int32) (c2 : Int32) (c3 : Int32) (h0 : Heap) (n0 : Nat) (Z0 : n0 ≤ h0.size) (Vc : Arv Z h0 oc kC .char (4 : Int32) [(.int c0), (.int c1), (.int c2), (.int c3)] (.int 0)) (uc0 : 0 ≤ c0.toInt) (uc1 : 0 ≤ c1.toInt) (uc2 : 0 ≤ c2.toInt) (uc3 : 0 ≤ c3.toInt) (vc0 : c0.toInt < 65536) (vc1 : c1.toInt < 65536) (vc2 : c2.toInt < 65536) (vc3 : c3.toInt < 65536) :
    MetFree l yn22 (head1 (Jvm.Cond.code yn22 method_4_code 5 (some .int) :: ws) ⟨1, 0, 0, 13⟩) (fun a U => a = #[(.ref oc), (.int 4), (.int 1)] ∧ Z.Warmed39 U.vm ∧ U.heap = h0) (fun _ _ _ _ _ => True) (fun _ U o U' => ∃ v L, o = .returned v ∧ Q_rf4_1 Z oc kC c0 c1 c2 c3 h0 n0 v U'.heap L ∧ FrameEnd U o U' L 0 0) := by
  refine MetFree.of_bodySF (plainFor_of_name pn_1) hisR ?_
  intro p e s m args below meth c s₁ Bd hml0 hP hK
  obtain ⟨rfl, hZ, hh⟩ := hP
  have hx := Bd.exec
  have hby := Bd.bytes
  have hml : c.maxLocals = 5 := hml0
  have hown : s.vm.findClass "com/example/path_template_matcher/pathtemplatematcher/PercentEncodingEscapeErrorPinLaw" = some m.cls := findClass_of_methodNamed Bd.named
  have hnm := (name_of_methodNamed Bd.named Bd.method).1
  have X0 : Stand p l e ⟨1, 0, 0, 13⟩ s m #[(.ref oc), (.int 4), (.int 1)] below meth c s₁ [] 0 0 := Stand.of_body Bd
  have e0 : s₁.heap = h0 := by rw [← hh, Bd.state]; rfl
  have N0 := Fr.nil n0
  have pre0 : oP p e below (s₁.setTop (mkF m 0 #[.val (.ref oc), .val (.int 4), .val (.int 1), .unset, .unset] [])) (s₁.setTop (entryFrame m #[(.ref oc), (.int 4), (.int 1)] 5)) := fun t k => castTop (ef_rm_rf4_1 m oc) k
  have hc6_1 : ¬ ((2 : Int) = (4 : Int)) := by decide
  obtain ⟨cl2, Ar2, q2, S2, M2, H2, G2⟩ := id Vc
  have hin2 : ¬ ((2 : Int32) < 0 ∨ cl2.slots.size ≤ ((2 : Int32)).toNatClampNeg) := inb_of S2 ⟨by decide, by decide⟩
  have hat2 : cl2.slots[((2 : Int32)).toNatClampNeg]? = some (.int c2) := Has.at H2 hin2 rfl
  obtain ⟨_, _, ⟨T3, L3, k3, n3⟩, -, X3, ⟨Lc3, hQ3, l3, y3, z3⟩, st3⟩ := Jvm.LawKit.callS X0 hx (y := yn1) hown (mvT hZ (ow hw 69 rfl)) (mvT hZ (ow hw 70 rfl)) (mvT hZ (ow hw 34 rfl)) (mvT hZ (ow hw 71 rfl)) (by decide) (backOf (W := 0) (rm16 l Z a0 hw [] c2 h0 n0 Z0 uc2 vc2) hZ (ow hw 71 rfl) (ow hw 34 rfl) (by decide) (by decide)) (g := (mkF m 14 #[.val (.ref oc), .val (.int 4), .val (.int 1), .val (.int 2), .unset] [(.int c2)])) rfl (by rw [hml]; rfl) (argsL := [(.int c2)]) (rest := []) (lenOf pd_15 rfl) rfl (by exact Nat.le_of_eq rfl) (hb hby d7_14) (fun _ _ => ⟨rfl, e0, (by decide : 0 + 0 ≤ _), (by decide : 0 + 0 ≤ _)⟩)
  dsimp only [Pt.U, Pt.locs, Pt.cells, Pt.slots] at X3 l3 y3 z3 st3 hQ3
  rw [l3, y3, z3] at X3
  obtain ⟨r2, rfl, hr2, N3q, e3⟩ := hQ3
  have N3 := Fr.app N0 N3q
  have pre4 : oP p e below (T3.setTop (mkF m 17 #[.val (.ref oc), .val (.int 4), .val (.int 1), .val (.int 2), .unset] [(.int r2)])) (s₁.setTop (entryFrame m #[(.ref oc), (.int 4), (.int 1)] 5)) := fun t kt => by
    refine pre0 _ ?_
    refine XS.iloadN X0.here hx rfl (hb hby d7_0) rfl ?_
    refine XS.iconst X0.here hx rfl (hb hby d7_1) ?_
    refine XS.iadd X0.here hx rfl (hb hby d7_2) rfl ?_
    refine XS.istoreN X0.here hx rfl (hb hby d7_3) rfl (l' := #[.val (.ref oc), .val (.int 4), .val (.int 1), .val (.int 2), .unset]) rfl ?_
    refine XS.iloadN X0.here hx rfl (hb hby d7_4) rfl ?_
    refine XS.iloadN X0.here hx rfl (hb hby d7_5) rfl ?_
    refine XS.icmpYes X0.here hx rfl (pc0 := 6) (pc' := 11) rfl (hb hby d7_6) rfl (own_feq (a := (2 : Int32)) (b := (4 : Int32)) (by decide) (by decide) hc6_1).2 (by decide) (by decide) ?_
    refine XS.aloadN X0.here hx rfl (hb hby d7_11) rfl rfl ?_
    refine XS.iloadN X0.here hx rfl (hb hby d7_12) rfl ?_
    refine X0.caload hx (j := (2 : Int32)) (v := (.int c2)) (by rw [e0]; exact Ar2.1) (State.isArrayOf_alike hZ.alike Ar2.2.1) Ar2.2.2 hin2 hat2 (g := (mkF m 13 #[.val (.ref oc), .val (.int 4), .val (.int 1), .val (.int 2), .unset] [(.int 2), (.ref oc)])) rfl rfl (hb hby d7_13) _ ?_
    refine st3 _ ?_
    exact kt
  by_cases hs2 : own_H c2.toInt
  · rw [if_pos hs2] at hr2
    have hc17_5 : ¬ (r2.toInt = (0 : Int)) := by omega
    have hc30_6 : ¬ ((3 : Int) = (4 : Int)) := by decide
    obtain ⟨cl7, Ar7, q7, S7, M7, H7, G7⟩ := id Vc
    have hin7 : ¬ ((3 : Int32) < 0 ∨ cl7.slots.size ≤ ((3 : Int32)).toNatClampNeg) := inb_of S7 ⟨by decide, by decide⟩
    have hat7 : cl7.slots[((3 : Int32)).toNatClampNeg]? = some (.int c3) := Has.at H7 hin7 rfl
    obtain ⟨_, _, ⟨T8, L8, k8, n8⟩, -, X8, ⟨Lc8, hQ8, l8, y8, z8⟩, st8⟩ := Jvm.LawKit.callS X3 hx (y := yn1) hown (mvT hZ (ow hw 69 rfl)) (mvT hZ (ow hw 70 rfl)) (mvT hZ (ow hw 34 rfl)) (mvT hZ (ow hw 71 rfl)) (by decide) (backOf (W := 0) (rm16 l Z a0 hw [] c3 h0 n0 Z0 uc3 vc3) hZ (ow hw 71 rfl) (ow hw 34 rfl) (by decide) (by decide)) (g := (mkF m 40 #[.val (.ref oc), .val (.int 4), .val (.int 1), .val (.int 2), .val (.int 3)] [(.int c3)])) rfl (by rw [hml]; rfl) (argsL := [(.int c3)]) (rest := []) (lenOf pd_15 rfl) rfl (by exact Nat.le_of_eq rfl) (hb hby d7_40) (fun _ _ => ⟨rfl, e3, (by decide : 0 + 0 ≤ _), (by decide : 0 + 0 ≤ _)⟩)
    dsimp only [Pt.U, Pt.locs, Pt.cells, Pt.slots] at X8 l8 y8 z8 st8 hQ8
    rw [l8, y8, z8] at X8
    obtain ⟨r3, rfl, hr3, N8q, e8⟩ := hQ8
    have N8 := Fr.app N3 N8q
    have pre9 : oP p e below (T8.setTop (mkF m 43 #[.val (.ref oc), .val (.int 4), .val (.int 1), .val (.int 2), .val (.int 3)] [(.int r3)])) (s₁.setTop (entryFrame m #[(.ref oc), (.int 4), (.int 1)] 5)) := fun t kt => by
      refine pre4 _ ?_
      refine XS.ifYes X3.here hx rfl (pc0 := 17) (pc' := 22) rfl (hb hby d7_17) rfl (own_if (own_feq (a := r2) (b := (0 : Int32)) rfl (by decide) hc17_5).2) (by decide) (by decide) ?_
      refine XS.iloadN X3.here hx rfl (hb hby d7_22) rfl ?_
      refine XS.iconst X3.here hx rfl (hb hby d7_23) ?_
      refine XS.iadd X3.here hx rfl (hb hby d7_24) rfl ?_
      refine XS.istore X3.here hx rfl (hb hby d7_25) rfl (l' := #[.val (.ref oc), .val (.int 4), .val (.int 1), .val (.int 2), .val (.int 3)]) rfl ?_
      refine XS.iload X3.here hx rfl (hb hby d7_27) rfl ?_
      refine XS.iloadN X3.here hx rfl (hb hby d7_29) rfl ?_
      refine XS.icmpYes X3.here hx rfl (pc0 := 30) (pc' := 36) rfl (hb hby d7_30) rfl (own_feq (a := (3 : Int32)) (b := (4 : Int32)) (by decide) (by decide) hc30_6).2 (by decide) (by decide) ?_
      show Steps p.tables e below (T3.setTop (mkF m 36 #[.val (.ref oc), .val (.int 4), .val (.int 1), .val (.int 2), .val (.int 3)] [])) _
      refine XS.aloadN X3.here hx rfl (hb hby d7_36) rfl rfl ?_
      refine XS.iload X3.here hx rfl (hb hby d7_37) rfl ?_
      refine X3.caload hx (j := (3 : Int32)) (v := (.int c3)) (by rw [e3]; exact Ar7.1) (State.isArrayOf_alike hZ.alike Ar7.2.1) Ar7.2.2 hin7 hat7 (g := (mkF m 39 #[.val (.ref oc), .val (.int 4), .val (.int 1), .val (.int 2), .val (.int 3)] [(.int 3), (.ref oc)])) rfl rfl (hb hby d7_39) _ ?_
      refine st8 _ ?_
      exact kt
    by_cases hs3 : own_H c3.toInt
    · rw [if_pos hs3] at hr3
      have hc43_10 : ¬ (r3.toInt = (0 : Int)) := by omega
      obtain ⟨fs, hr, q1, q2, q3, q4⟩ := X8.leave (v := some (.int (-1 : Int32))) (fun h => by rw [Bd.returns] at h; cases h)
      refine ⟨_, _, pre9 _ ?_, q1, q2, _, _, rfl, ?_, ⟨_, rfl⟩, q3, q4.mono (by decide) (by decide)⟩
      · refine XS.ifYes X8.here hx rfl (pc0 := 43) (pc' := 49) rfl (hb hby d7_43) rfl (own_if (own_feq (a := r3) (b := (0 : Int32)) rfl (by decide) hc43_10).2) (by decide) (by decide) ?_
        refine XS.iconst X8.here hx rfl (hb hby d7_49) ?_
        exact retI X8 hx Bd.returns (hb hby d7_50) hr
      · show Q_rf4_1 Z _ _ _ _ _ _ h0 n0 _ T8.heap _
        rw [e8]
        exact ⟨_, rfl, by rw [if_pos hs2, if_pos hs3]; decide, N8, rfl⟩
    · rw [if_neg hs3] at hr3
      have hc43_11 : r3.toInt = (0 : Int) := by omega
      obtain ⟨fs, hr, q1, q2, q3, q4⟩ := X8.leave (v := some (.int 3)) (fun h => by rw [Bd.returns] at h; cases h)
      refine ⟨_, _, pre9 _ ?_, q1, q2, _, _, rfl, ?_, ⟨_, rfl⟩, q3, q4.mono (by decide) (by decide)⟩
      · refine XS.ifNo X8.here hx rfl (hb hby d7_43) rfl (own_if (own_teq (a := r3) (b := (0 : Int32)) rfl (by decide) hc43_11).2) ?_
        refine XS.iload X8.here hx rfl (hb hby d7_46) rfl ?_
        exact retI X8 hx Bd.returns (hb hby d7_48) hr
      · show Q_rf4_1 Z _ _ _ _ _ _ h0 n0 _ T8.heap _
        rw [e8]
        exact ⟨_, rfl, by rw [if_pos hs2, if_neg hs3]; decide, N8, rfl⟩
  · rw [if_neg hs2] at hr2
    have hc17_12 : r2.toInt = (0 : Int) := by omega
    obtain ⟨fs, hr, q1, q2, q3, q4⟩ := X3.leave (v := some (.int 2)) (fun h => by rw [Bd.returns] at h; cases h)
    refine ⟨_, _, pre4 _ ?_, q1, q2, _, _, rfl, ?_, ⟨_, rfl⟩, q3, q4.mono (by decide) (by decide)⟩
    · refine XS.ifNo X3.here hx rfl (hb hby d7_17) rfl (own_if (own_teq (a := r2) (b := (0 : Int32)) rfl (by decide) hc17_12).2) ?_
      refine XS.iloadN X3.here hx rfl (hb hby d7_20) rfl ?_
      exact retI X3 hx Bd.returns (hb hby d7_21) hr
    · show Q_rf4_1 Z _ _ _ _ _ _ h0 n0 _ T3.heap _
      rw [e3]
      exact ⟨_, rfl, by rw [if_neg hs2]; decide, N3, rfl⟩
theorem ef_rm_ee4_1 (m : MethodId) (x0 : Addr) : entryFrame m #[(.ref x0), (.int 1)] 3 = mkF m 0 #[.val (.ref x0), .val (.int 1), .unset] [] := by first | (simp [entryFrame, mkF, argsToLocals, Value.category]; done) | rfl
def Q_ee4_1 (Z : State) (oa : Addr) (vcs : Int32) (vf : Value) (ob : Addr) (kb : ClassId) (c0 : Int32) (c1 : Int32) (c2 : Int32) (c3 : Int32) (h0 : Heap) (n0 : Nat) (v : Option Value) (h : Heap) (L : List Loc) : Prop := ∃ z : Int32, v = some (.int z) ∧ (z.toInt = (if own_H c2.toInt then (if own_H c3.toInt then (-1 : Int) else (3 : Int)) else (2 : Int))) ∧ Fr n0 L ∧ h = h0
theorem rm_ee4_1 (l : Launch) (Z : State) (a0 : Array Value) (hw : ∀ d ∈ tables_1, d.before a0 Z = true) (ws : List Jvm.Cond) (oa : Addr) (vcs : Int32) (vf : Value) (ob : Addr) (kb : ClassId) (c0 : Int32) (c1 : Int32) (c2 : Int32) (c3 : Int32) (h0 : Heap) (n0 : Nat) (Z0 : n0 ≤ h0.size) (Os : own_st Z h0 vcs vf) (Sx : own_s4 Z h0 oa ob kb c0 c1 c2 c3) :
    MetFree l yn23 (head1 (Jvm.Cond.code yn23 prog_26_method_5_code 3 (some .int) :: ws) ⟨5, 0, 0, 66⟩) (fun a U => a = #[(.ref oa), (.int 1)] ∧ Z.Warmed39 U.vm ∧ U.heap = h0) (fun _ _ _ _ _ => True) (fun _ U o U' => ∃ v L, o = .returned v ∧ Q_ee4_1 Z oa vcs vf ob kb c0 c1 c2 c3 h0 n0 v U'.heap L ∧ FrameEnd U o U' L 0 0) := by
  refine MetFree.of_bodySF (plainFor_of_name pn_0) hisR ?_
  intro p e s m args below meth c s₁ Bd hml0 hP hK
  obtain ⟨rfl, hZ, hh⟩ := hP
  have hx := Bd.exec
  have hby := Bd.bytes
  have hml : c.maxLocals = 3 := hml0
  have hown : s.vm.findClass "com/example/path_template_matcher/pathtemplatematcher/PercentEncoding" = some m.cls := findClass_of_methodNamed Bd.named
  have hnm := (name_of_methodNamed Bd.named Bd.method).1
  have X0 : Stand p l e ⟨5, 0, 0, 66⟩ s m #[(.ref oa), (.int 1)] below meth c s₁ [] 0 0 := Stand.of_body Bd
  have e0 : s₁.heap = h0 := by rw [← hh, Bd.state]; rfl
  have N0 := Fr.nil n0
  have pre0 : oP p e below (s₁.setTop (mkF m 0 #[.val (.ref oa), .val (.int 1), .unset] [])) (s₁.setTop (entryFrame m #[(.ref oa), (.int 1)] 3)) := fun t k => castTop (ef_rm_ee4_1 m oa) k
  have hc8_1 : ¬ ((3 : Int) < (2 : Int)) := by decide
  obtain ⟨cq2, kq2, q2a, q2b, q2c⟩ := isOf hZ e0 Sx.1
  obtain ⟨_, _, ⟨T2, L2, k2, n2⟩, -, X2, ⟨Lc2, hQ2, l2, y2, z2⟩, st2⟩ := X0.virtualBack hx (y := yn20) (z := yn20) hown (mvT hZ (ow hw 40 rfl)) (mvT hZ (ow hw 41 rfl)) (notFace_of_selects (args := #[]) (mvT hZ (ow hw 43 rfl))) (mvT hZ (ow hw 43 rfl)) (mvT hZ (ow hw 42 rfl)) (by decide) (backOf (W := 1) (rm_ln4 l Z a0 hw [] oa vcs vf ob kb c0 c1 c2 c3 h0 n0 Z0 Os Sx) hZ (ow hw 44 rfl) (ow hw 5 rfl) (by decide) (by decide)) q2a q2c (g := (mkF m 13 #[.val (.ref oa), .val (.int 1), .val (.int 2)] [(.ref oa), (.int 2)])) rfl (by rw [hml]; rfl) (Steps.refl _) (argsL := []) (rest := [(.int 2)]) (lenOf pd_14 rfl) rfl (by exact Nat.le_of_eq rfl) (hb hby d8_13) (fun _ _ => ⟨rfl, e0, (by decide : 0 + 0 ≤ _), (by decide : 0 + 0 ≤ _)⟩)
  dsimp only [Pt.U, Pt.locs, Pt.cells, Pt.slots] at X2 l2 y2 z2 st2 hQ2
  rw [l2, y2, z2] at X2
  obtain ⟨zl1, rfl, hzl1, N2q, e2⟩ := hQ2
  have N2 := Fr.app N0 N2q
  have pre3 : oP p e below (T2.setTop (mkF m 16 #[.val (.ref oa), .val (.int 1), .val (.int 2)] [(.int zl1), (.int 2)])) (s₁.setTop (entryFrame m #[(.ref oa), (.int 1)] 3)) := fun t kt => by
    refine pre0 _ ?_
    refine XS.iloadN X0.here hx rfl (hb hby d8_0) rfl ?_
    refine XS.iconst X0.here hx rfl (hb hby d8_1) ?_
    refine XS.iadd X0.here hx rfl (hb hby d8_2) rfl ?_
    refine XS.istoreN X0.here hx rfl (hb hby d8_3) rfl (l' := #[.val (.ref oa), .val (.int 1), .val (.int 2)]) rfl ?_
    refine XS.iloadN X0.here hx rfl (hb hby d8_4) rfl ?_
    refine XS.iloadN X0.here hx rfl (hb hby d8_5) rfl ?_
    refine XS.iconst X0.here hx rfl (hb hby d8_6) ?_
    refine XS.iadd X0.here hx rfl (hb hby d8_7) rfl ?_
    refine XS.icmpNo X0.here hx rfl (hb hby d8_8) rfl (own_flt (a := (3 : Int32)) (b := (2 : Int32)) (by decide) (by decide) hc8_1).2.2.1 ?_
    refine XS.iloadN X0.here hx rfl (hb hby d8_11) rfl ?_
    refine XS.aloadN X0.here hx rfl (hb hby d8_12) rfl rfl ?_
    refine st2.trans ?_
    exact kt
  subst hzl1
  have pre4 : oP p e below (T2.setTop (mkF m 16 #[.val (.ref oa), .val (.int 1), .val (.int 2)] [(.int 4), (.int 2)])) (s₁.setTop (entryFrame m #[(.ref oa), (.int 1)] 3)) := pre3
  have hc16_5 : ¬ ((2 : Int) = (4 : Int)) := by decide
  obtain ⟨cq6, kq6, q6a, q6b, q6c⟩ := isOf hZ e2 Sx.1
  obtain ⟨_, _, ⟨T6, L6, k6, n6⟩, -, X6, ⟨Lc6, hQ6, l6, y6, z6⟩, st6⟩ := X2.virtualBack hx (y := yn21) (z := yn21) hown (mvT hZ (ow hw 72 rfl)) (mvT hZ (ow hw 73 rfl)) (notFace_of_selects (args := #[]) (mvT hZ (ow hw 75 rfl))) (mvT hZ (ow hw 75 rfl)) (mvT hZ (ow hw 74 rfl)) (by decide) (backOf (W := 0) (rm_ca4_2 l Z a0 hw [] oa vcs vf ob kb c0 c1 c2 c3 h0 n0 Z0 Os Sx) hZ (ow hw 76 rfl) (ow hw 5 rfl) (by decide) (by decide)) q6a q6c (g := (mkF m 21 #[.val (.ref oa), .val (.int 1), .val (.int 2)] [(.int 2), (.ref oa)])) rfl (by rw [hml]; rfl) (Steps.refl _) (argsL := [(.int 2)]) (rest := []) (lenOf pd_16 rfl) rfl (by exact Nat.le_of_eq rfl) (hb hby d8_21) (fun _ _ => ⟨rfl, e2, (by decide : 0 + 0 ≤ _), (by decide : 0 + 0 ≤ _)⟩)
  dsimp only [Pt.U, Pt.locs, Pt.cells, Pt.slots] at X6 l6 y6 z6 st6 hQ6
  rw [l6, y6, z6] at X6
  obtain ⟨k2, rfl, hk2, N6q, e6⟩ := hQ6
  have N6 := Fr.app N2 N6q
  obtain ⟨_, _, ⟨T7, L7, k7, n7⟩, -, X7, ⟨Lc7, hQ7, l7, y7, z7⟩, st7⟩ := Jvm.LawKit.callS X6 hx (y := yn0) hown (mvT hZ (ow hw 99 rfl)) (mvT hZ (ow hw 100 rfl)) (mvT hZ (ow hw 38 rfl)) (mvT hZ (ow hw 101 rfl)) (by decide) (backOf (W := 0) (rm24 l Z a0 hw [] k2 h0 n0 Z0 ) hZ (ow hw 101 rfl) (ow hw 38 rfl) (by decide) (by decide)) (g := (mkF m 24 #[.val (.ref oa), .val (.int 1), .val (.int 2)] [(.int k2)])) rfl (by rw [hml]; rfl) (argsL := [(.int k2)]) (rest := []) (lenOf pd_15 rfl) rfl (by exact Nat.le_of_eq rfl) (hb hby d8_24) (fun _ _ => ⟨rfl, e6, (by decide : 0 + 0 ≤ _), (by decide : 0 + 0 ≤ _)⟩)
  dsimp only [Pt.U, Pt.locs, Pt.cells, Pt.slots] at X7 l7 y7 z7 st7 hQ7
  rw [l7, y7, z7] at X7
  obtain ⟨r2, rfl, hr2, N7q, e7⟩ := hQ7
  have N7 := Fr.app N6 N7q
  rw [hk2] at hr2
  have pre8 : oP p e below (T7.setTop (mkF m 27 #[.val (.ref oa), .val (.int 1), .val (.int 2)] [(.int r2)])) (s₁.setTop (entryFrame m #[(.ref oa), (.int 1)] 3)) := fun t kt => by
    refine pre4 _ ?_
    refine XS.icmpNo X2.here hx rfl (hb hby d8_16) rfl (own_feq (a := (2 : Int32)) (b := (4 : Int32)) (by decide) (by decide) hc16_5).1 ?_
    refine XS.aloadN X2.here hx rfl (hb hby d8_19) rfl rfl ?_
    refine XS.iloadN X2.here hx rfl (hb hby d8_20) rfl ?_
    refine st6.trans ?_
    refine st7 _ ?_
    exact kt
  by_cases hs2 : own_H c2.toInt
  · rw [if_pos hs2] at hr2
    have hc27_9 : ¬ (r2.toInt = (0 : Int)) := by omega
    have hc8_10 : ¬ ((3 : Int) < (3 : Int)) := by decide
    obtain ⟨cq11, kq11, q11a, q11b, q11c⟩ := isOf hZ e7 Sx.1
    obtain ⟨_, _, ⟨T11, L11, k11, n11⟩, -, X11, ⟨Lc11, hQ11, l11, y11, z11⟩, st11⟩ := X7.virtualBack hx (y := yn20) (z := yn20) hown (mvT hZ (ow hw 40 rfl)) (mvT hZ (ow hw 41 rfl)) (notFace_of_selects (args := #[]) (mvT hZ (ow hw 43 rfl))) (mvT hZ (ow hw 43 rfl)) (mvT hZ (ow hw 42 rfl)) (by decide) (backOf (W := 1) (rm_ln4 l Z a0 hw [] oa vcs vf ob kb c0 c1 c2 c3 h0 n0 Z0 Os Sx) hZ (ow hw 44 rfl) (ow hw 5 rfl) (by decide) (by decide)) q11a q11c (g := (mkF m 13 #[.val (.ref oa), .val (.int 1), .val (.int 3)] [(.ref oa), (.int 3)])) rfl (by rw [hml]; rfl) (Steps.refl _) (argsL := []) (rest := [(.int 3)]) (lenOf pd_14 rfl) rfl (by exact Nat.le_of_eq rfl) (hb hby d8_13) (fun _ _ => ⟨rfl, e7, (by decide : 0 + 0 ≤ _), (by decide : 0 + 0 ≤ _)⟩)
    dsimp only [Pt.U, Pt.locs, Pt.cells, Pt.slots] at X11 l11 y11 z11 st11 hQ11
    rw [l11, y11, z11] at X11
    obtain ⟨zl2, rfl, hzl2, N11q, e11⟩ := hQ11
    have N11 := Fr.app N7 N11q
    have pre12 : oP p e below (T11.setTop (mkF m 16 #[.val (.ref oa), .val (.int 1), .val (.int 3)] [(.int zl2), (.int 3)])) (s₁.setTop (entryFrame m #[(.ref oa), (.int 1)] 3)) := fun t kt => by
      refine pre8 _ ?_
      refine XS.ifYes X7.here hx rfl (pc0 := 27) (pc' := 32) rfl (hb hby d8_27) rfl (own_if (own_feq (a := r2) (b := (0 : Int32)) rfl (by decide) hc27_9).2) (by decide) (by decide) ?_
      refine XS.iinc X7.here hx rfl (hb hby d8_32) rfl (l' := #[.val (.ref oa), .val (.int 1), .val (.int 3)]) rfl ?_
      show Steps p.tables e below (T7.setTop (mkF m 35 #[.val (.ref oa), .val (.int 1), .val (.int 3)] [])) _
      refine XS.goto X7.here hx rfl (pc0 := 35) (pc' := 4) rfl (hb hby d8_35) (by decide) (by decide) ?_
      refine XS.iloadN X7.here hx rfl (hb hby d8_4) rfl ?_
      refine XS.iloadN X7.here hx rfl (hb hby d8_5) rfl ?_
      refine XS.iconst X7.here hx rfl (hb hby d8_6) ?_
      refine XS.iadd X7.here hx rfl (hb hby d8_7) rfl ?_
      refine XS.icmpNo X7.here hx rfl (hb hby d8_8) rfl (own_flt (a := (3 : Int32)) (b := (3 : Int32)) (by decide) (by decide) hc8_10).2.2.1 ?_
      refine XS.iloadN X7.here hx rfl (hb hby d8_11) rfl ?_
      refine XS.aloadN X7.here hx rfl (hb hby d8_12) rfl rfl ?_
      refine st11.trans ?_
      exact kt
    subst hzl2
    have pre13 : oP p e below (T11.setTop (mkF m 16 #[.val (.ref oa), .val (.int 1), .val (.int 3)] [(.int 4), (.int 3)])) (s₁.setTop (entryFrame m #[(.ref oa), (.int 1)] 3)) := pre12
    have hc16_14 : ¬ ((3 : Int) = (4 : Int)) := by decide
    obtain ⟨cq15, kq15, q15a, q15b, q15c⟩ := isOf hZ e11 Sx.1
    obtain ⟨_, _, ⟨T15, L15, k15, n15⟩, -, X15, ⟨Lc15, hQ15, l15, y15, z15⟩, st15⟩ := X11.virtualBack hx (y := yn21) (z := yn21) hown (mvT hZ (ow hw 72 rfl)) (mvT hZ (ow hw 73 rfl)) (notFace_of_selects (args := #[]) (mvT hZ (ow hw 75 rfl))) (mvT hZ (ow hw 75 rfl)) (mvT hZ (ow hw 74 rfl)) (by decide) (backOf (W := 0) (rm_ca4_3 l Z a0 hw [] oa vcs vf ob kb c0 c1 c2 c3 h0 n0 Z0 Os Sx) hZ (ow hw 76 rfl) (ow hw 5 rfl) (by decide) (by decide)) q15a q15c (g := (mkF m 21 #[.val (.ref oa), .val (.int 1), .val (.int 3)] [(.int 3), (.ref oa)])) rfl (by rw [hml]; rfl) (Steps.refl _) (argsL := [(.int 3)]) (rest := []) (lenOf pd_16 rfl) rfl (by exact Nat.le_of_eq rfl) (hb hby d8_21) (fun _ _ => ⟨rfl, e11, (by decide : 0 + 0 ≤ _), (by decide : 0 + 0 ≤ _)⟩)
    dsimp only [Pt.U, Pt.locs, Pt.cells, Pt.slots] at X15 l15 y15 z15 st15 hQ15
    rw [l15, y15, z15] at X15
    obtain ⟨k3, rfl, hk3, N15q, e15⟩ := hQ15
    have N15 := Fr.app N11 N15q
    obtain ⟨_, _, ⟨T16, L16, k16, n16⟩, -, X16, ⟨Lc16, hQ16, l16, y16, z16⟩, st16⟩ := Jvm.LawKit.callS X15 hx (y := yn0) hown (mvT hZ (ow hw 99 rfl)) (mvT hZ (ow hw 100 rfl)) (mvT hZ (ow hw 38 rfl)) (mvT hZ (ow hw 101 rfl)) (by decide) (backOf (W := 0) (rm24 l Z a0 hw [] k3 h0 n0 Z0 ) hZ (ow hw 101 rfl) (ow hw 38 rfl) (by decide) (by decide)) (g := (mkF m 24 #[.val (.ref oa), .val (.int 1), .val (.int 3)] [(.int k3)])) rfl (by rw [hml]; rfl) (argsL := [(.int k3)]) (rest := []) (lenOf pd_15 rfl) rfl (by exact Nat.le_of_eq rfl) (hb hby d8_24) (fun _ _ => ⟨rfl, e15, (by decide : 0 + 0 ≤ _), (by decide : 0 + 0 ≤ _)⟩)
    dsimp only [Pt.U, Pt.locs, Pt.cells, Pt.slots] at X16 l16 y16 z16 st16 hQ16
    rw [l16, y16, z16] at X16
    obtain ⟨r3, rfl, hr3, N16q, e16⟩ := hQ16
    have N16 := Fr.app N15 N16q
    rw [hk3] at hr3
    have pre17 : oP p e below (T16.setTop (mkF m 27 #[.val (.ref oa), .val (.int 1), .val (.int 3)] [(.int r3)])) (s₁.setTop (entryFrame m #[(.ref oa), (.int 1)] 3)) := fun t kt => by
      refine pre13 _ ?_
      refine XS.icmpNo X11.here hx rfl (hb hby d8_16) rfl (own_feq (a := (3 : Int32)) (b := (4 : Int32)) (by decide) (by decide) hc16_14).1 ?_
      refine XS.aloadN X11.here hx rfl (hb hby d8_19) rfl rfl ?_
      refine XS.iloadN X11.here hx rfl (hb hby d8_20) rfl ?_
      refine st15.trans ?_
      refine st16 _ ?_
      exact kt
    by_cases hs3 : own_H c3.toInt
    · rw [if_pos hs3] at hr3
      have hc27_18 : ¬ (r3.toInt = (0 : Int)) := by omega
      have hc8_19 : (3 : Int) < (4 : Int) := by decide
      obtain ⟨fs, hr, q1, q2, q3, q4⟩ := X16.leave (v := some (.int (-1 : Int32))) (fun h => by rw [Bd.returns] at h; cases h)
      refine ⟨_, _, pre17 _ ?_, q1, q2, _, _, rfl, ?_, ⟨_, rfl⟩, q3, q4.mono (by decide) (by decide)⟩
      · refine XS.ifYes X16.here hx rfl (pc0 := 27) (pc' := 32) rfl (hb hby d8_27) rfl (own_if (own_feq (a := r3) (b := (0 : Int32)) rfl (by decide) hc27_18).2) (by decide) (by decide) ?_
        refine XS.iinc X16.here hx rfl (hb hby d8_32) rfl (l' := #[.val (.ref oa), .val (.int 1), .val (.int 4)]) rfl ?_
        refine XS.goto X16.here hx rfl (pc0 := 35) (pc' := 4) rfl (hb hby d8_35) (by decide) (by decide) ?_
        refine XS.iloadN X16.here hx rfl (hb hby d8_4) rfl ?_
        refine XS.iloadN X16.here hx rfl (hb hby d8_5) rfl ?_
        refine XS.iconst X16.here hx rfl (hb hby d8_6) ?_
        show Steps p.tables e below (T16.setTop (mkF m 7 #[.val (.ref oa), .val (.int 1), .val (.int 4)] [(.int 2), (.int 1), (.int 4)])) _
        refine XS.iadd X16.here hx rfl (hb hby d8_7) rfl ?_
        refine XS.icmpYes X16.here hx rfl (pc0 := 8) (pc' := 38) rfl (hb hby d8_8) rfl (own_tlt (a := (3 : Int32)) (b := (4 : Int32)) (by decide) (by decide) hc8_19).2.2.1 (by decide) (by decide) ?_
        refine XS.iconst X16.here hx rfl (hb hby d8_38) ?_
        exact retI X16 hx Bd.returns (hb hby d8_39) hr
      · show Q_ee4_1 Z _ _ _ _ _ _ _ _ _ h0 n0 _ T16.heap _
        rw [e16]
        exact ⟨_, rfl, by rw [if_pos hs2, if_pos hs3]; decide, N16, rfl⟩
    · rw [if_neg hs3] at hr3
      have hc27_20 : r3.toInt = (0 : Int) := by omega
      obtain ⟨fs, hr, q1, q2, q3, q4⟩ := X16.leave (v := some (.int 3)) (fun h => by rw [Bd.returns] at h; cases h)
      refine ⟨_, _, pre17 _ ?_, q1, q2, _, _, rfl, ?_, ⟨_, rfl⟩, q3, q4.mono (by decide) (by decide)⟩
      · refine XS.ifNo X16.here hx rfl (hb hby d8_27) rfl (own_if (own_teq (a := r3) (b := (0 : Int32)) rfl (by decide) hc27_20).2) ?_
        refine XS.iloadN X16.here hx rfl (hb hby d8_30) rfl ?_
        exact retI X16 hx Bd.returns (hb hby d8_31) hr
      · show Q_ee4_1 Z _ _ _ _ _ _ _ _ _ h0 n0 _ T16.heap _
        rw [e16]
        exact ⟨_, rfl, by rw [if_pos hs2, if_neg hs3]; decide, N16, rfl⟩
  · rw [if_neg hs2] at hr2
    have hc27_21 : r2.toInt = (0 : Int) := by omega
    obtain ⟨fs, hr, q1, q2, q3, q4⟩ := X7.leave (v := some (.int 2)) (fun h => by rw [Bd.returns] at h; cases h)
    refine ⟨_, _, pre8 _ ?_, q1, q2, _, _, rfl, ?_, ⟨_, rfl⟩, q3, q4.mono (by decide) (by decide)⟩
    · refine XS.ifNo X7.here hx rfl (hb hby d8_27) rfl (own_if (own_teq (a := r2) (b := (0 : Int32)) rfl (by decide) hc27_21).2) ?_
      refine XS.iloadN X7.here hx rfl (hb hby d8_30) rfl ?_
      show Steps p.tables e below (T7.setTop (mkF m 31 #[.val (.ref oa), .val (.int 1), .val (.int 2)] [(.int 2)])) _
      exact retI X7 hx Bd.returns (hb hby d8_31) hr
    · show Q_ee4_1 Z _ _ _ _ _ _ _ _ _ h0 n0 _ T7.heap _
      rw [e7]
      exact ⟨_, rfl, by rw [if_neg hs2]; decide, N7, rfl⟩
theorem ef_rm_rf4_2 (m : MethodId) (x0 : Addr) : entryFrame m #[(.ref x0), (.int 4), (.int 2)] 5 = mkF m 0 #[.val (.ref x0), .val (.int 4), .val (.int 2), .unset, .unset] [] := by first | (simp [entryFrame, mkF, argsToLocals, Value.category]; done) | rfl
def Q_rf4_2 (Z : State) (oc : Addr) (kC : ClassId) (c0 : Int32) (c1 : Int32) (c2 : Int32) (c3 : Int32) (h0 : Heap) (n0 : Nat) (v : Option Value) (h : Heap) (L : List Loc) : Prop := ∃ z : Int32, v = some (.int z) ∧ (z.toInt = (if own_H c3.toInt then (4 : Int) else (3 : Int))) ∧ Fr n0 L ∧ h = h0
theorem rm_rf4_2 (l : Launch) (Z : State) (a0 : Array Value) (hw : ∀ d ∈ tables_1, d.before a0 Z = true) (ws : List Jvm.Cond) (oc : Addr) (kC : ClassId) (c0 : Int32) (c1 : Int32) (c2 : Int32) (c3 : Int32) (h0 : Heap) (n0 : Nat) (Z0 : n0 ≤ h0.size) (Vc : Arv Z h0 oc kC .char (4 : Int32) [(.int c0), (.int c1), (.int c2), (.int c3)] (.int 0)) (uc0 : 0 ≤ c0.toInt) (uc1 : 0 ≤ c1.toInt) (uc2 : 0 ≤ c2.toInt) (uc3 : 0 ≤ c3.toInt) (vc0 : c0.toInt < 65536) (vc1 : c1.toInt < 65536) (vc2 : c2.toInt < 65536) (vc3 : c3.toInt < 65536) :
    MetFree l yn22 (head1 (Jvm.Cond.code yn22 method_4_code 5 (some .int) :: ws) ⟨1, 0, 0, 13⟩) (fun a U => a = #[(.ref oc), (.int 4), (.int 2)] ∧ Z.Warmed39 U.vm ∧ U.heap = h0) (fun _ _ _ _ _ => True) (fun _ U o U' => ∃ v L, o = .returned v ∧ Q_rf4_2 Z oc kC c0 c1 c2 c3 h0 n0 v U'.heap L ∧ FrameEnd U o U' L 0 0) := by
  refine MetFree.of_bodySF (plainFor_of_name pn_1) hisR ?_
  intro p e s m args below meth c s₁ Bd hml0 hP hK
  obtain ⟨rfl, hZ, hh⟩ := hP
  have hx := Bd.exec
  have hby := Bd.bytes
  have hml : c.maxLocals = 5 := hml0
  have hown : s.vm.findClass "com/example/path_template_matcher/pathtemplatematcher/PercentEncodingEscapeErrorPinLaw" = some m.cls := findClass_of_methodNamed Bd.named
  have hnm := (name_of_methodNamed Bd.named Bd.method).1
  have X0 : Stand p l e ⟨1, 0, 0, 13⟩ s m #[(.ref oc), (.int 4), (.int 2)] below meth c s₁ [] 0 0 := Stand.of_body Bd
  have e0 : s₁.heap = h0 := by rw [← hh, Bd.state]; rfl
  have N0 := Fr.nil n0
  have pre0 : oP p e below (s₁.setTop (mkF m 0 #[.val (.ref oc), .val (.int 4), .val (.int 2), .unset, .unset] [])) (s₁.setTop (entryFrame m #[(.ref oc), (.int 4), (.int 2)] 5)) := fun t k => castTop (ef_rm_rf4_2 m oc) k
  have hc6_1 : ¬ ((3 : Int) = (4 : Int)) := by decide
  obtain ⟨cl2, Ar2, q2, S2, M2, H2, G2⟩ := id Vc
  have hin2 : ¬ ((3 : Int32) < 0 ∨ cl2.slots.size ≤ ((3 : Int32)).toNatClampNeg) := inb_of S2 ⟨by decide, by decide⟩
  have hat2 : cl2.slots[((3 : Int32)).toNatClampNeg]? = some (.int c3) := Has.at H2 hin2 rfl
  obtain ⟨_, _, ⟨T3, L3, k3, n3⟩, -, X3, ⟨Lc3, hQ3, l3, y3, z3⟩, st3⟩ := Jvm.LawKit.callS X0 hx (y := yn1) hown (mvT hZ (ow hw 69 rfl)) (mvT hZ (ow hw 70 rfl)) (mvT hZ (ow hw 34 rfl)) (mvT hZ (ow hw 71 rfl)) (by decide) (backOf (W := 0) (rm16 l Z a0 hw [] c3 h0 n0 Z0 uc3 vc3) hZ (ow hw 71 rfl) (ow hw 34 rfl) (by decide) (by decide)) (g := (mkF m 14 #[.val (.ref oc), .val (.int 4), .val (.int 2), .val (.int 3), .unset] [(.int c3)])) rfl (by rw [hml]; rfl) (argsL := [(.int c3)]) (rest := []) (lenOf pd_15 rfl) rfl (by exact Nat.le_of_eq rfl) (hb hby d7_14) (fun _ _ => ⟨rfl, e0, (by decide : 0 + 0 ≤ _), (by decide : 0 + 0 ≤ _)⟩)
  dsimp only [Pt.U, Pt.locs, Pt.cells, Pt.slots] at X3 l3 y3 z3 st3 hQ3
  rw [l3, y3, z3] at X3
  obtain ⟨r3, rfl, hr3, N3q, e3⟩ := hQ3
  have N3 := Fr.app N0 N3q
  have pre4 : oP p e below (T3.setTop (mkF m 17 #[.val (.ref oc), .val (.int 4), .val (.int 2), .val (.int 3), .unset] [(.int r3)])) (s₁.setTop (entryFrame m #[(.ref oc), (.int 4), (.int 2)] 5)) := fun t kt => by
    refine pre0 _ ?_
    refine XS.iloadN X0.here hx rfl (hb hby d7_0) rfl ?_
    refine XS.iconst X0.here hx rfl (hb hby d7_1) ?_
    refine XS.iadd X0.here hx rfl (hb hby d7_2) rfl ?_
    refine XS.istoreN X0.here hx rfl (hb hby d7_3) rfl (l' := #[.val (.ref oc), .val (.int 4), .val (.int 2), .val (.int 3), .unset]) rfl ?_
    refine XS.iloadN X0.here hx rfl (hb hby d7_4) rfl ?_
    refine XS.iloadN X0.here hx rfl (hb hby d7_5) rfl ?_
    refine XS.icmpYes X0.here hx rfl (pc0 := 6) (pc' := 11) rfl (hb hby d7_6) rfl (own_feq (a := (3 : Int32)) (b := (4 : Int32)) (by decide) (by decide) hc6_1).2 (by decide) (by decide) ?_
    refine XS.aloadN X0.here hx rfl (hb hby d7_11) rfl rfl ?_
    refine XS.iloadN X0.here hx rfl (hb hby d7_12) rfl ?_
    refine X0.caload hx (j := (3 : Int32)) (v := (.int c3)) (by rw [e0]; exact Ar2.1) (State.isArrayOf_alike hZ.alike Ar2.2.1) Ar2.2.2 hin2 hat2 (g := (mkF m 13 #[.val (.ref oc), .val (.int 4), .val (.int 2), .val (.int 3), .unset] [(.int 3), (.ref oc)])) rfl rfl (hb hby d7_13) _ ?_
    refine st3 _ ?_
    exact kt
  by_cases hs3 : own_H c3.toInt
  · rw [if_pos hs3] at hr3
    have hc17_5 : ¬ (r3.toInt = (0 : Int)) := by omega
    have hc30_6 : (4 : Int) = (4 : Int) := by decide
    obtain ⟨fs, hr, q1, q2, q3, q4⟩ := X3.leave (v := some (.int 4)) (fun h => by rw [Bd.returns] at h; cases h)
    refine ⟨_, _, pre4 _ ?_, q1, q2, _, _, rfl, ?_, ⟨_, rfl⟩, q3, q4.mono (by decide) (by decide)⟩
    · refine XS.ifYes X3.here hx rfl (pc0 := 17) (pc' := 22) rfl (hb hby d7_17) rfl (own_if (own_feq (a := r3) (b := (0 : Int32)) rfl (by decide) hc17_5).2) (by decide) (by decide) ?_
      refine XS.iloadN X3.here hx rfl (hb hby d7_22) rfl ?_
      refine XS.iconst X3.here hx rfl (hb hby d7_23) ?_
      refine XS.iadd X3.here hx rfl (hb hby d7_24) rfl ?_
      refine XS.istore X3.here hx rfl (hb hby d7_25) rfl (l' := #[.val (.ref oc), .val (.int 4), .val (.int 2), .val (.int 3), .val (.int 4)]) rfl ?_
      refine XS.iload X3.here hx rfl (hb hby d7_27) rfl ?_
      refine XS.iloadN X3.here hx rfl (hb hby d7_29) rfl ?_
      refine XS.icmpNo X3.here hx rfl (hb hby d7_30) rfl (own_teq (a := (4 : Int32)) (b := (4 : Int32)) (by decide) (by decide) hc30_6).2 ?_
      show Steps p.tables e below (T3.setTop (mkF m 33 #[.val (.ref oc), .val (.int 4), .val (.int 2), .val (.int 3), .val (.int 4)] [])) _
      refine XS.iload X3.here hx rfl (hb hby d7_33) rfl ?_
      exact retI X3 hx Bd.returns (hb hby d7_35) hr
    · show Q_rf4_2 Z _ _ _ _ _ _ h0 n0 _ T3.heap _
      rw [e3]
      exact ⟨_, rfl, by rw [if_pos hs3]; decide, N3, rfl⟩
  · rw [if_neg hs3] at hr3
    have hc17_7 : r3.toInt = (0 : Int) := by omega
    obtain ⟨fs, hr, q1, q2, q3, q4⟩ := X3.leave (v := some (.int 3)) (fun h => by rw [Bd.returns] at h; cases h)
    refine ⟨_, _, pre4 _ ?_, q1, q2, _, _, rfl, ?_, ⟨_, rfl⟩, q3, q4.mono (by decide) (by decide)⟩
    · refine XS.ifNo X3.here hx rfl (hb hby d7_17) rfl (own_if (own_teq (a := r3) (b := (0 : Int32)) rfl (by decide) hc17_7).2) ?_
      refine XS.iloadN X3.here hx rfl (hb hby d7_20) rfl ?_
      exact retI X3 hx Bd.returns (hb hby d7_21) hr
    · show Q_rf4_2 Z _ _ _ _ _ _ h0 n0 _ T3.heap _
      rw [e3]
      exact ⟨_, rfl, by rw [if_neg hs3]; decide, N3, rfl⟩
theorem ef_rm_ee4_2 (m : MethodId) (x0 : Addr) : entryFrame m #[(.ref x0), (.int 2)] 3 = mkF m 0 #[.val (.ref x0), .val (.int 2), .unset] [] := by first | (simp [entryFrame, mkF, argsToLocals, Value.category]; done) | rfl
def Q_ee4_2 (Z : State) (oa : Addr) (vcs : Int32) (vf : Value) (ob : Addr) (kb : ClassId) (c0 : Int32) (c1 : Int32) (c2 : Int32) (c3 : Int32) (h0 : Heap) (n0 : Nat) (v : Option Value) (h : Heap) (L : List Loc) : Prop := ∃ z : Int32, v = some (.int z) ∧ (z.toInt = (if own_H c3.toInt then (4 : Int) else (3 : Int))) ∧ Fr n0 L ∧ h = h0
theorem rm_ee4_2 (l : Launch) (Z : State) (a0 : Array Value) (hw : ∀ d ∈ tables_1, d.before a0 Z = true) (ws : List Jvm.Cond) (oa : Addr) (vcs : Int32) (vf : Value) (ob : Addr) (kb : ClassId) (c0 : Int32) (c1 : Int32) (c2 : Int32) (c3 : Int32) (h0 : Heap) (n0 : Nat) (Z0 : n0 ≤ h0.size) (Os : own_st Z h0 vcs vf) (Sx : own_s4 Z h0 oa ob kb c0 c1 c2 c3) :
    MetFree l yn23 (head1 (Jvm.Cond.code yn23 prog_26_method_5_code 3 (some .int) :: ws) ⟨5, 0, 0, 66⟩) (fun a U => a = #[(.ref oa), (.int 2)] ∧ Z.Warmed39 U.vm ∧ U.heap = h0) (fun _ _ _ _ _ => True) (fun _ U o U' => ∃ v L, o = .returned v ∧ Q_ee4_2 Z oa vcs vf ob kb c0 c1 c2 c3 h0 n0 v U'.heap L ∧ FrameEnd U o U' L 0 0) := by
  refine MetFree.of_bodySF (plainFor_of_name pn_0) hisR ?_
  intro p e s m args below meth c s₁ Bd hml0 hP hK
  obtain ⟨rfl, hZ, hh⟩ := hP
  have hx := Bd.exec
  have hby := Bd.bytes
  have hml : c.maxLocals = 3 := hml0
  have hown : s.vm.findClass "com/example/path_template_matcher/pathtemplatematcher/PercentEncoding" = some m.cls := findClass_of_methodNamed Bd.named
  have hnm := (name_of_methodNamed Bd.named Bd.method).1
  have X0 : Stand p l e ⟨5, 0, 0, 66⟩ s m #[(.ref oa), (.int 2)] below meth c s₁ [] 0 0 := Stand.of_body Bd
  have e0 : s₁.heap = h0 := by rw [← hh, Bd.state]; rfl
  have N0 := Fr.nil n0
  have pre0 : oP p e below (s₁.setTop (mkF m 0 #[.val (.ref oa), .val (.int 2), .unset] [])) (s₁.setTop (entryFrame m #[(.ref oa), (.int 2)] 3)) := fun t k => castTop (ef_rm_ee4_2 m oa) k
  have hc8_1 : ¬ ((4 : Int) < (3 : Int)) := by decide
  obtain ⟨cq2, kq2, q2a, q2b, q2c⟩ := isOf hZ e0 Sx.1
  obtain ⟨_, _, ⟨T2, L2, k2, n2⟩, -, X2, ⟨Lc2, hQ2, l2, y2, z2⟩, st2⟩ := X0.virtualBack hx (y := yn20) (z := yn20) hown (mvT hZ (ow hw 40 rfl)) (mvT hZ (ow hw 41 rfl)) (notFace_of_selects (args := #[]) (mvT hZ (ow hw 43 rfl))) (mvT hZ (ow hw 43 rfl)) (mvT hZ (ow hw 42 rfl)) (by decide) (backOf (W := 1) (rm_ln4 l Z a0 hw [] oa vcs vf ob kb c0 c1 c2 c3 h0 n0 Z0 Os Sx) hZ (ow hw 44 rfl) (ow hw 5 rfl) (by decide) (by decide)) q2a q2c (g := (mkF m 13 #[.val (.ref oa), .val (.int 2), .val (.int 3)] [(.ref oa), (.int 3)])) rfl (by rw [hml]; rfl) (Steps.refl _) (argsL := []) (rest := [(.int 3)]) (lenOf pd_14 rfl) rfl (by exact Nat.le_of_eq rfl) (hb hby d8_13) (fun _ _ => ⟨rfl, e0, (by decide : 0 + 0 ≤ _), (by decide : 0 + 0 ≤ _)⟩)
  dsimp only [Pt.U, Pt.locs, Pt.cells, Pt.slots] at X2 l2 y2 z2 st2 hQ2
  rw [l2, y2, z2] at X2
  obtain ⟨zl1, rfl, hzl1, N2q, e2⟩ := hQ2
  have N2 := Fr.app N0 N2q
  have pre3 : oP p e below (T2.setTop (mkF m 16 #[.val (.ref oa), .val (.int 2), .val (.int 3)] [(.int zl1), (.int 3)])) (s₁.setTop (entryFrame m #[(.ref oa), (.int 2)] 3)) := fun t kt => by
    refine pre0 _ ?_
    refine XS.iloadN X0.here hx rfl (hb hby d8_0) rfl ?_
    refine XS.iconst X0.here hx rfl (hb hby d8_1) ?_
    refine XS.iadd X0.here hx rfl (hb hby d8_2) rfl ?_
    refine XS.istoreN X0.here hx rfl (hb hby d8_3) rfl (l' := #[.val (.ref oa), .val (.int 2), .val (.int 3)]) rfl ?_
    refine XS.iloadN X0.here hx rfl (hb hby d8_4) rfl ?_
    refine XS.iloadN X0.here hx rfl (hb hby d8_5) rfl ?_
    refine XS.iconst X0.here hx rfl (hb hby d8_6) ?_
    refine XS.iadd X0.here hx rfl (hb hby d8_7) rfl ?_
    refine XS.icmpNo X0.here hx rfl (hb hby d8_8) rfl (own_flt (a := (4 : Int32)) (b := (3 : Int32)) (by decide) (by decide) hc8_1).2.2.1 ?_
    refine XS.iloadN X0.here hx rfl (hb hby d8_11) rfl ?_
    refine XS.aloadN X0.here hx rfl (hb hby d8_12) rfl rfl ?_
    refine st2.trans ?_
    exact kt
  subst hzl1
  have pre4 : oP p e below (T2.setTop (mkF m 16 #[.val (.ref oa), .val (.int 2), .val (.int 3)] [(.int 4), (.int 3)])) (s₁.setTop (entryFrame m #[(.ref oa), (.int 2)] 3)) := pre3
  have hc16_5 : ¬ ((3 : Int) = (4 : Int)) := by decide
  obtain ⟨cq6, kq6, q6a, q6b, q6c⟩ := isOf hZ e2 Sx.1
  obtain ⟨_, _, ⟨T6, L6, k6, n6⟩, -, X6, ⟨Lc6, hQ6, l6, y6, z6⟩, st6⟩ := X2.virtualBack hx (y := yn21) (z := yn21) hown (mvT hZ (ow hw 72 rfl)) (mvT hZ (ow hw 73 rfl)) (notFace_of_selects (args := #[]) (mvT hZ (ow hw 75 rfl))) (mvT hZ (ow hw 75 rfl)) (mvT hZ (ow hw 74 rfl)) (by decide) (backOf (W := 0) (rm_ca4_3 l Z a0 hw [] oa vcs vf ob kb c0 c1 c2 c3 h0 n0 Z0 Os Sx) hZ (ow hw 76 rfl) (ow hw 5 rfl) (by decide) (by decide)) q6a q6c (g := (mkF m 21 #[.val (.ref oa), .val (.int 2), .val (.int 3)] [(.int 3), (.ref oa)])) rfl (by rw [hml]; rfl) (Steps.refl _) (argsL := [(.int 3)]) (rest := []) (lenOf pd_16 rfl) rfl (by exact Nat.le_of_eq rfl) (hb hby d8_21) (fun _ _ => ⟨rfl, e2, (by decide : 0 + 0 ≤ _), (by decide : 0 + 0 ≤ _)⟩)
  dsimp only [Pt.U, Pt.locs, Pt.cells, Pt.slots] at X6 l6 y6 z6 st6 hQ6
  rw [l6, y6, z6] at X6
  obtain ⟨k3, rfl, hk3, N6q, e6⟩ := hQ6
  have N6 := Fr.app N2 N6q
  obtain ⟨_, _, ⟨T7, L7, k7, n7⟩, -, X7, ⟨Lc7, hQ7, l7, y7, z7⟩, st7⟩ := Jvm.LawKit.callS X6 hx (y := yn0) hown (mvT hZ (ow hw 99 rfl)) (mvT hZ (ow hw 100 rfl)) (mvT hZ (ow hw 38 rfl)) (mvT hZ (ow hw 101 rfl)) (by decide) (backOf (W := 0) (rm24 l Z a0 hw [] k3 h0 n0 Z0 ) hZ (ow hw 101 rfl) (ow hw 38 rfl) (by decide) (by decide)) (g := (mkF m 24 #[.val (.ref oa), .val (.int 2), .val (.int 3)] [(.int k3)])) rfl (by rw [hml]; rfl) (argsL := [(.int k3)]) (rest := []) (lenOf pd_15 rfl) rfl (by exact Nat.le_of_eq rfl) (hb hby d8_24) (fun _ _ => ⟨rfl, e6, (by decide : 0 + 0 ≤ _), (by decide : 0 + 0 ≤ _)⟩)
  dsimp only [Pt.U, Pt.locs, Pt.cells, Pt.slots] at X7 l7 y7 z7 st7 hQ7
  rw [l7, y7, z7] at X7
  obtain ⟨r3, rfl, hr3, N7q, e7⟩ := hQ7
  have N7 := Fr.app N6 N7q
  rw [hk3] at hr3
  have pre8 : oP p e below (T7.setTop (mkF m 27 #[.val (.ref oa), .val (.int 2), .val (.int 3)] [(.int r3)])) (s₁.setTop (entryFrame m #[(.ref oa), (.int 2)] 3)) := fun t kt => by
    refine pre4 _ ?_
    refine XS.icmpNo X2.here hx rfl (hb hby d8_16) rfl (own_feq (a := (3 : Int32)) (b := (4 : Int32)) (by decide) (by decide) hc16_5).1 ?_
    refine XS.aloadN X2.here hx rfl (hb hby d8_19) rfl rfl ?_
    refine XS.iloadN X2.here hx rfl (hb hby d8_20) rfl ?_
    refine st6.trans ?_
    refine st7 _ ?_
    exact kt
  by_cases hs3 : own_H c3.toInt
  · rw [if_pos hs3] at hr3
    have hc27_9 : ¬ (r3.toInt = (0 : Int)) := by omega
    have hc8_10 : ¬ ((4 : Int) < (4 : Int)) := by decide
    obtain ⟨cq11, kq11, q11a, q11b, q11c⟩ := isOf hZ e7 Sx.1
    obtain ⟨_, _, ⟨T11, L11, k11, n11⟩, -, X11, ⟨Lc11, hQ11, l11, y11, z11⟩, st11⟩ := X7.virtualBack hx (y := yn20) (z := yn20) hown (mvT hZ (ow hw 40 rfl)) (mvT hZ (ow hw 41 rfl)) (notFace_of_selects (args := #[]) (mvT hZ (ow hw 43 rfl))) (mvT hZ (ow hw 43 rfl)) (mvT hZ (ow hw 42 rfl)) (by decide) (backOf (W := 1) (rm_ln4 l Z a0 hw [] oa vcs vf ob kb c0 c1 c2 c3 h0 n0 Z0 Os Sx) hZ (ow hw 44 rfl) (ow hw 5 rfl) (by decide) (by decide)) q11a q11c (g := (mkF m 13 #[.val (.ref oa), .val (.int 2), .val (.int 4)] [(.ref oa), (.int 4)])) rfl (by rw [hml]; rfl) (Steps.refl _) (argsL := []) (rest := [(.int 4)]) (lenOf pd_14 rfl) rfl (by exact Nat.le_of_eq rfl) (hb hby d8_13) (fun _ _ => ⟨rfl, e7, (by decide : 0 + 0 ≤ _), (by decide : 0 + 0 ≤ _)⟩)
    dsimp only [Pt.U, Pt.locs, Pt.cells, Pt.slots] at X11 l11 y11 z11 st11 hQ11
    rw [l11, y11, z11] at X11
    obtain ⟨zl2, rfl, hzl2, N11q, e11⟩ := hQ11
    have N11 := Fr.app N7 N11q
    have pre12 : oP p e below (T11.setTop (mkF m 16 #[.val (.ref oa), .val (.int 2), .val (.int 4)] [(.int zl2), (.int 4)])) (s₁.setTop (entryFrame m #[(.ref oa), (.int 2)] 3)) := fun t kt => by
      refine pre8 _ ?_
      refine XS.ifYes X7.here hx rfl (pc0 := 27) (pc' := 32) rfl (hb hby d8_27) rfl (own_if (own_feq (a := r3) (b := (0 : Int32)) rfl (by decide) hc27_9).2) (by decide) (by decide) ?_
      refine XS.iinc X7.here hx rfl (hb hby d8_32) rfl (l' := #[.val (.ref oa), .val (.int 2), .val (.int 4)]) rfl ?_
      show Steps p.tables e below (T7.setTop (mkF m 35 #[.val (.ref oa), .val (.int 2), .val (.int 4)] [])) _
      refine XS.goto X7.here hx rfl (pc0 := 35) (pc' := 4) rfl (hb hby d8_35) (by decide) (by decide) ?_
      refine XS.iloadN X7.here hx rfl (hb hby d8_4) rfl ?_
      refine XS.iloadN X7.here hx rfl (hb hby d8_5) rfl ?_
      refine XS.iconst X7.here hx rfl (hb hby d8_6) ?_
      refine XS.iadd X7.here hx rfl (hb hby d8_7) rfl ?_
      refine XS.icmpNo X7.here hx rfl (hb hby d8_8) rfl (own_flt (a := (4 : Int32)) (b := (4 : Int32)) (by decide) (by decide) hc8_10).2.2.1 ?_
      refine XS.iloadN X7.here hx rfl (hb hby d8_11) rfl ?_
      refine XS.aloadN X7.here hx rfl (hb hby d8_12) rfl rfl ?_
      refine st11.trans ?_
      exact kt
    subst hzl2
    have pre13 : oP p e below (T11.setTop (mkF m 16 #[.val (.ref oa), .val (.int 2), .val (.int 4)] [(.int 4), (.int 4)])) (s₁.setTop (entryFrame m #[(.ref oa), (.int 2)] 3)) := pre12
    have hc16_14 : (4 : Int) = (4 : Int) := by decide
    obtain ⟨fs, hr, q1, q2, q3, q4⟩ := X11.leave (v := some (.int 4)) (fun h => by rw [Bd.returns] at h; cases h)
    refine ⟨_, _, pre13 _ ?_, q1, q2, _, _, rfl, ?_, ⟨_, rfl⟩, q3, q4.mono (by decide) (by decide)⟩
    · refine XS.icmpYes X11.here hx rfl (pc0 := 16) (pc' := 30) rfl (hb hby d8_16) rfl (own_teq (a := (4 : Int32)) (b := (4 : Int32)) (by decide) (by decide) hc16_14).1 (by decide) (by decide) ?_
      refine XS.iloadN X11.here hx rfl (hb hby d8_30) rfl ?_
      exact retI X11 hx Bd.returns (hb hby d8_31) hr
    · show Q_ee4_2 Z _ _ _ _ _ _ _ _ _ h0 n0 _ T11.heap _
      rw [e11]
      exact ⟨_, rfl, by rw [if_pos hs3]; decide, N11, rfl⟩
  · rw [if_neg hs3] at hr3
    have hc27_15 : r3.toInt = (0 : Int) := by omega
    obtain ⟨fs, hr, q1, q2, q3, q4⟩ := X7.leave (v := some (.int 3)) (fun h => by rw [Bd.returns] at h; cases h)
    refine ⟨_, _, pre8 _ ?_, q1, q2, _, _, rfl, ?_, ⟨_, rfl⟩, q3, q4.mono (by decide) (by decide)⟩
    · refine XS.ifNo X7.here hx rfl (hb hby d8_27) rfl (own_if (own_teq (a := r3) (b := (0 : Int32)) rfl (by decide) hc27_15).2) ?_
      refine XS.iloadN X7.here hx rfl (hb hby d8_30) rfl ?_
      show Steps p.tables e below (T7.setTop (mkF m 31 #[.val (.ref oa), .val (.int 2), .val (.int 3)] [(.int 3)])) _
      exact retI X7 hx Bd.returns (hb hby d8_31) hr
    · show Q_ee4_2 Z _ _ _ _ _ _ _ _ _ h0 n0 _ T7.heap _
      rw [e7]
      exact ⟨_, rfl, by rw [if_neg hs3]; decide, N7, rfl⟩
theorem ef_rm_rf4_3 (m : MethodId) (x0 : Addr) : entryFrame m #[(.ref x0), (.int 4), (.int 3)] 5 = mkF m 0 #[.val (.ref x0), .val (.int 4), .val (.int 3), .unset, .unset] [] := by first | (simp [entryFrame, mkF, argsToLocals, Value.category]; done) | rfl
def Q_rf4_3 (Z : State) (oc : Addr) (kC : ClassId) (c0 : Int32) (c1 : Int32) (c2 : Int32) (c3 : Int32) (h0 : Heap) (n0 : Nat) (v : Option Value) (h : Heap) (L : List Loc) : Prop := ∃ z : Int32, v = some (.int z) ∧ (z.toInt = (4 : Int)) ∧ Fr n0 L ∧ h = h0
theorem rm_rf4_3 (l : Launch) (Z : State) (a0 : Array Value) (hw : ∀ d ∈ tables_1, d.before a0 Z = true) (ws : List Jvm.Cond) (oc : Addr) (kC : ClassId) (c0 : Int32) (c1 : Int32) (c2 : Int32) (c3 : Int32) (h0 : Heap) (n0 : Nat) (Z0 : n0 ≤ h0.size) (Vc : Arv Z h0 oc kC .char (4 : Int32) [(.int c0), (.int c1), (.int c2), (.int c3)] (.int 0)) (uc0 : 0 ≤ c0.toInt) (uc1 : 0 ≤ c1.toInt) (uc2 : 0 ≤ c2.toInt) (uc3 : 0 ≤ c3.toInt) (vc0 : c0.toInt < 65536) (vc1 : c1.toInt < 65536) (vc2 : c2.toInt < 65536) (vc3 : c3.toInt < 65536) :
    MetFree l yn22 (head1 (Jvm.Cond.code yn22 method_4_code 5 (some .int) :: ws) ⟨0, 0, 0, 0⟩) (fun a U => a = #[(.ref oc), (.int 4), (.int 3)] ∧ Z.Warmed39 U.vm ∧ U.heap = h0) (fun _ _ _ _ _ => True) (fun _ U o U' => ∃ v L, o = .returned v ∧ Q_rf4_3 Z oc kC c0 c1 c2 c3 h0 n0 v U'.heap L ∧ FrameEnd U o U' L 0 0) := by
  refine MetFree.of_bodySF (plainFor_of_name pn_1) hisR ?_
  intro p e s m args below meth c s₁ Bd hml0 hP hK
  obtain ⟨rfl, hZ, hh⟩ := hP
  have hx := Bd.exec
  have hby := Bd.bytes
  have hml : c.maxLocals = 5 := hml0
  have hown : s.vm.findClass "com/example/path_template_matcher/pathtemplatematcher/PercentEncodingEscapeErrorPinLaw" = some m.cls := findClass_of_methodNamed Bd.named
  have hnm := (name_of_methodNamed Bd.named Bd.method).1
  have X0 : Stand p l e ⟨0, 0, 0, 0⟩ s m #[(.ref oc), (.int 4), (.int 3)] below meth c s₁ [] 0 0 := Stand.of_body Bd
  have e0 : s₁.heap = h0 := by rw [← hh, Bd.state]; rfl
  have N0 := Fr.nil n0
  have pre0 : oP p e below (s₁.setTop (mkF m 0 #[.val (.ref oc), .val (.int 4), .val (.int 3), .unset, .unset] [])) (s₁.setTop (entryFrame m #[(.ref oc), (.int 4), (.int 3)] 5)) := fun t k => castTop (ef_rm_rf4_3 m oc) k
  have hc6_1 : (4 : Int) = (4 : Int) := by decide
  obtain ⟨fs, hr, q1, q2, q3, q4⟩ := X0.leave (v := some (.int 4)) (fun h => by rw [Bd.returns] at h; cases h)
  refine ⟨_, _, pre0 _ ?_, q1, q2, _, _, rfl, ?_, ⟨_, rfl⟩, q3, q4.mono (by decide) (by decide)⟩
  · refine XS.iloadN X0.here hx rfl (hb hby d7_0) rfl ?_
    refine XS.iconst X0.here hx rfl (hb hby d7_1) ?_
    refine XS.iadd X0.here hx rfl (hb hby d7_2) rfl ?_
    refine XS.istoreN X0.here hx rfl (hb hby d7_3) rfl (l' := #[.val (.ref oc), .val (.int 4), .val (.int 3), .val (.int 4), .unset]) rfl ?_
    refine XS.iloadN X0.here hx rfl (hb hby d7_4) rfl ?_
    refine XS.iloadN X0.here hx rfl (hb hby d7_5) rfl ?_
    refine XS.icmpNo X0.here hx rfl (hb hby d7_6) rfl (own_teq (a := (4 : Int32)) (b := (4 : Int32)) (by decide) (by decide) hc6_1).2 ?_
    refine XS.iloadN X0.here hx rfl (hb hby d7_9) rfl ?_
    exact retI X0 hx Bd.returns (hb hby d7_10) hr
  · show Q_rf4_3 Z _ _ _ _ _ _ h0 n0 _ s₁.heap _
    rw [e0]
    exact ⟨_, rfl, by decide, N0, rfl⟩
theorem ef_rm_ee4_3 (m : MethodId) (x0 : Addr) : entryFrame m #[(.ref x0), (.int 3)] 3 = mkF m 0 #[.val (.ref x0), .val (.int 3), .unset] [] := by first | (simp [entryFrame, mkF, argsToLocals, Value.category]; done) | rfl
def Q_ee4_3 (Z : State) (oa : Addr) (vcs : Int32) (vf : Value) (ob : Addr) (kb : ClassId) (c0 : Int32) (c1 : Int32) (c2 : Int32) (c3 : Int32) (h0 : Heap) (n0 : Nat) (v : Option Value) (h : Heap) (L : List Loc) : Prop := ∃ z : Int32, v = some (.int z) ∧ (z.toInt = (4 : Int)) ∧ Fr n0 L ∧ h = h0
theorem rm_ee4_3 (l : Launch) (Z : State) (a0 : Array Value) (hw : ∀ d ∈ tables_1, d.before a0 Z = true) (ws : List Jvm.Cond) (oa : Addr) (vcs : Int32) (vf : Value) (ob : Addr) (kb : ClassId) (c0 : Int32) (c1 : Int32) (c2 : Int32) (c3 : Int32) (h0 : Heap) (n0 : Nat) (Z0 : n0 ≤ h0.size) (Os : own_st Z h0 vcs vf) (Sx : own_s4 Z h0 oa ob kb c0 c1 c2 c3) :
    MetFree l yn23 (head1 (Jvm.Cond.code yn23 prog_26_method_5_code 3 (some .int) :: ws) ⟨2, 0, 0, 26⟩) (fun a U => a = #[(.ref oa), (.int 3)] ∧ Z.Warmed39 U.vm ∧ U.heap = h0) (fun _ _ _ _ _ => True) (fun _ U o U' => ∃ v L, o = .returned v ∧ Q_ee4_3 Z oa vcs vf ob kb c0 c1 c2 c3 h0 n0 v U'.heap L ∧ FrameEnd U o U' L 0 0) := by
  refine MetFree.of_bodySF (plainFor_of_name pn_0) hisR ?_
  intro p e s m args below meth c s₁ Bd hml0 hP hK
  obtain ⟨rfl, hZ, hh⟩ := hP
  have hx := Bd.exec
  have hby := Bd.bytes
  have hml : c.maxLocals = 3 := hml0
  have hown : s.vm.findClass "com/example/path_template_matcher/pathtemplatematcher/PercentEncoding" = some m.cls := findClass_of_methodNamed Bd.named
  have hnm := (name_of_methodNamed Bd.named Bd.method).1
  have X0 : Stand p l e ⟨2, 0, 0, 26⟩ s m #[(.ref oa), (.int 3)] below meth c s₁ [] 0 0 := Stand.of_body Bd
  have e0 : s₁.heap = h0 := by rw [← hh, Bd.state]; rfl
  have N0 := Fr.nil n0
  have pre0 : oP p e below (s₁.setTop (mkF m 0 #[.val (.ref oa), .val (.int 3), .unset] [])) (s₁.setTop (entryFrame m #[(.ref oa), (.int 3)] 3)) := fun t k => castTop (ef_rm_ee4_3 m oa) k
  have hc8_1 : ¬ ((5 : Int) < (4 : Int)) := by decide
  obtain ⟨cq2, kq2, q2a, q2b, q2c⟩ := isOf hZ e0 Sx.1
  obtain ⟨_, _, ⟨T2, L2, k2, n2⟩, -, X2, ⟨Lc2, hQ2, l2, y2, z2⟩, st2⟩ := X0.virtualBack hx (y := yn20) (z := yn20) hown (mvT hZ (ow hw 40 rfl)) (mvT hZ (ow hw 41 rfl)) (notFace_of_selects (args := #[]) (mvT hZ (ow hw 43 rfl))) (mvT hZ (ow hw 43 rfl)) (mvT hZ (ow hw 42 rfl)) (by decide) (backOf (W := 1) (rm_ln4 l Z a0 hw [] oa vcs vf ob kb c0 c1 c2 c3 h0 n0 Z0 Os Sx) hZ (ow hw 44 rfl) (ow hw 5 rfl) (by decide) (by decide)) q2a q2c (g := (mkF m 13 #[.val (.ref oa), .val (.int 3), .val (.int 4)] [(.ref oa), (.int 4)])) rfl (by rw [hml]; rfl) (Steps.refl _) (argsL := []) (rest := [(.int 4)]) (lenOf pd_14 rfl) rfl (by exact Nat.le_of_eq rfl) (hb hby d8_13) (fun _ _ => ⟨rfl, e0, (by decide : 0 + 0 ≤ _), (by decide : 0 + 0 ≤ _)⟩)
  dsimp only [Pt.U, Pt.locs, Pt.cells, Pt.slots] at X2 l2 y2 z2 st2 hQ2
  rw [l2, y2, z2] at X2
  obtain ⟨zl1, rfl, hzl1, N2q, e2⟩ := hQ2
  have N2 := Fr.app N0 N2q
  have pre3 : oP p e below (T2.setTop (mkF m 16 #[.val (.ref oa), .val (.int 3), .val (.int 4)] [(.int zl1), (.int 4)])) (s₁.setTop (entryFrame m #[(.ref oa), (.int 3)] 3)) := fun t kt => by
    refine pre0 _ ?_
    refine XS.iloadN X0.here hx rfl (hb hby d8_0) rfl ?_
    refine XS.iconst X0.here hx rfl (hb hby d8_1) ?_
    refine XS.iadd X0.here hx rfl (hb hby d8_2) rfl ?_
    refine XS.istoreN X0.here hx rfl (hb hby d8_3) rfl (l' := #[.val (.ref oa), .val (.int 3), .val (.int 4)]) rfl ?_
    refine XS.iloadN X0.here hx rfl (hb hby d8_4) rfl ?_
    refine XS.iloadN X0.here hx rfl (hb hby d8_5) rfl ?_
    refine XS.iconst X0.here hx rfl (hb hby d8_6) ?_
    refine XS.iadd X0.here hx rfl (hb hby d8_7) rfl ?_
    refine XS.icmpNo X0.here hx rfl (hb hby d8_8) rfl (own_flt (a := (5 : Int32)) (b := (4 : Int32)) (by decide) (by decide) hc8_1).2.2.1 ?_
    refine XS.iloadN X0.here hx rfl (hb hby d8_11) rfl ?_
    refine XS.aloadN X0.here hx rfl (hb hby d8_12) rfl rfl ?_
    refine st2.trans ?_
    exact kt
  subst hzl1
  have pre4 : oP p e below (T2.setTop (mkF m 16 #[.val (.ref oa), .val (.int 3), .val (.int 4)] [(.int 4), (.int 4)])) (s₁.setTop (entryFrame m #[(.ref oa), (.int 3)] 3)) := pre3
  have hc16_5 : (4 : Int) = (4 : Int) := by decide
  obtain ⟨fs, hr, q1, q2, q3, q4⟩ := X2.leave (v := some (.int 4)) (fun h => by rw [Bd.returns] at h; cases h)
  refine ⟨_, _, pre4 _ ?_, q1, q2, _, _, rfl, ?_, ⟨_, rfl⟩, q3, q4.mono (by decide) (by decide)⟩
  · refine XS.icmpYes X2.here hx rfl (pc0 := 16) (pc' := 30) rfl (hb hby d8_16) rfl (own_teq (a := (4 : Int32)) (b := (4 : Int32)) (by decide) (by decide) hc16_5).1 (by decide) (by decide) ?_
    refine XS.iloadN X2.here hx rfl (hb hby d8_30) rfl ?_
    exact retI X2 hx Bd.returns (hb hby d8_31) hr
  · show Q_ee4_3 Z _ _ _ _ _ _ _ _ _ h0 n0 _ T2.heap _
    rw [e2]
    exact ⟨_, rfl, by decide, N2, rfl⟩
theorem ef_rm0 (m : MethodId) (x0 : Int32) (x1 : Int32) (x2 : Int32) (x3 : Int32) (x4 : Int32) (x5 : Int32) : entryFrame m #[(.int x0), (.int x1), (.int x2), (.int x3), (.int x4), (.int x5)] maxLocals = mkF m 0 #[.val (.int x0), .val (.int x1), .val (.int x2), .val (.int x3), .val (.int x4), .val (.int x5), .unset, .unset, .unset, .unset, .unset] [] := by first | (simp [entryFrame, mkF, argsToLocals, Value.category, maxLocals]; done) | rfl
theorem pd_17 : parseMethodDescriptor "([C)V" = some ⟨[(.array .char)], none⟩ := by decide +kernel
theorem pd_18 : parseMethodDescriptor "([CII)I" = some ⟨[(.array .char), .int, .int], some .int⟩ := by decide +kernel
theorem pd_19 : parseMethodDescriptor "(Ljava/lang/String;I)I" = some ⟨[(.object "java/lang/String"), .int], some .int⟩ := by decide +kernel
def Q0 (Z : State) (wl : Int32) (wp : Int32) (wa : Int32) (wb : Int32) (wc : Int32) (wd : Int32) (vcs : Int32) (vf : Value) (h0 : Heap) (n0 : Nat) (v : Option Value) (h : Heap) (L : List Loc) : Prop := v = some (.int 1) ∧ Fr n0 L
theorem rm0 (l : Launch) (Z : State) (a0 : Array Value) (hw : ∀ d ∈ tables_1, d.before a0 Z = true) (ws : List Jvm.Cond) (wl : Int32) (wp : Int32) (wa : Int32) (wb : Int32) (wc : Int32) (wd : Int32) (vcs : Int32) (vf : Value) (h0 : Heap) (n0 : Nat) (Z0 : n0 ≤ h0.size) (Os : own_st Z h0 vcs vf) :
    MetFree l x (head1 (Jvm.Cond.code x code maxLocals ret :: ws) room_1) (fun a U => a = #[(.int wl), (.int wp), (.int wa), (.int wb), (.int wc), (.int wd)] ∧ Z.Warmed39 U.vm ∧ U.heap = h0) (fun _ _ _ _ _ => True) (fun _ U o U' => ∃ v L, o = .returned v ∧ Q0 Z wl wp wa wb wc wd vcs vf h0 n0 v U'.heap L ∧ FrameEnd U o U' L room_1.cells room_1.slots) := by
  refine MetFree.of_bodySF (plainFor_of_name pn_1) hisR ?_
  intro p e s m args below meth c s₁ Bd hml0 hP hK
  obtain ⟨rfl, hZ, hh⟩ := hP
  have hx := Bd.exec
  have hby := Bd.bytes
  have hml : c.maxLocals = 11 := hml0
  have hown : s.vm.findClass "com/example/path_template_matcher/pathtemplatematcher/PercentEncodingEscapeErrorPinLaw" = some m.cls := findClass_of_methodNamed Bd.named
  have hnm := (name_of_methodNamed Bd.named Bd.method).1
  have X0 : Stand p l e room_1 s m #[(.int wl), (.int wp), (.int wa), (.int wb), (.int wc), (.int wd)] below meth c s₁ [] 0 0 := Stand.of_body Bd
  have e0 : s₁.heap = h0 := by rw [← hh, Bd.state]; rfl
  have N0 := Fr.nil n0
  have pre0 : oP p e below (s₁.setTop (mkF m 0 #[.val (.int wl), .val (.int wp), .val (.int wa), .val (.int wb), .val (.int wc), .val (.int wd), .unset, .unset, .unset, .unset, .unset] [])) (s₁.setTop (entryFrame m #[(.int wl), (.int wp), (.int wa), (.int wb), (.int wc), (.int wd)] maxLocals)) := fun t k => castTop (ef_rm0 m wl wp wa wb wc wd) k
  have pre1 : oP p e below (s₁.setTop (mkF m 5 #[.val (.int wl), .val (.int wp), .val (.int wa), .val (.int wb), .val (.int wc), .val (.int wd), .unset, .unset, .unset, .unset, .unset] [(.int ((wl &&& (3 : Int32)) + (1 : Int32)))])) (s₁.setTop (entryFrame m #[(.int wl), (.int wp), (.int wa), (.int wb), (.int wc), (.int wd)] maxLocals)) := fun t kt => by
    refine pre0 _ ?_
    refine XS.iloadN X0.here hx rfl (hb hby at_0) rfl ?_
    refine XS.iconst X0.here hx rfl (hb hby at_1) ?_
    refine XS.iand X0.here hx rfl (hb hby at_2) rfl ?_
    refine XS.iconst X0.here hx rfl (hb hby at_3) ?_
    refine XS.iadd X0.here hx rfl (hb hby at_4) rfl ?_
    exact kt
  obtain ⟨vn, hvn⟩ : ∃ z : Int32, z = ((wl &&& (3 : Int32)) + (1 : Int32)) := ⟨_, rfl⟩
  have jvn : 1 ≤ vn.toInt ∧ vn.toInt ≤ 4 := by rw [hvn]; have := rng32 wl; have : ((wl &&& (3 : Int32))).toInt = wl.toInt % 4 := c_mask wl (3 : Int32) 2 (by decide) (by decide); (first | (have : (((wl &&& (3 : Int32)) + (1 : Int32))).toInt = (wl &&& (3 : Int32)).toInt + (1 : Int) := (by have : ((((wl &&& (3 : Int32)) + (1 : Int32))).toInt - ((wl &&& (3 : Int32)).toInt + (1 : Int))) % 4294967296 = 0 := c_iadd (wl &&& (3 : Int32)) (1 : Int32); have := rng32 ((wl &&& (3 : Int32)) + (1 : Int32)); omega)) | (have : ((((wl &&& (3 : Int32)) + (1 : Int32))).toInt - ((wl &&& (3 : Int32)).toInt + (1 : Int))) % 4294967296 = 0 := c_iadd (wl &&& (3 : Int32)) (1 : Int32); have := rng32 ((wl &&& (3 : Int32)) + (1 : Int32)))); omega
  have pre2 : oP p e below (s₁.setTop (mkF m 5 #[.val (.int wl), .val (.int wp), .val (.int wa), .val (.int wb), .val (.int wc), .val (.int wd), .unset, .unset, .unset, .unset, .unset] [(.int vn)])) (s₁.setTop (entryFrame m #[(.int wl), (.int wp), (.int wa), (.int wb), (.int wc), (.int wd)] maxLocals)) := by rw [hvn]; exact pre1
  have hsp3 : vn = (1 : Int32) ∨ vn = (2 : Int32) ∨ vn = (3 : Int32) ∨ vn = (4 : Int32) := by
    have q : vn.toInt = 1 ∨ vn.toInt = 2 ∨ vn.toInt = 3 ∨ vn.toInt = 4 := by omega
    rcases q with q | q | q | q
    · exact Or.inl (Int32.toInt_inj.mp (by rw [q]; decide))
    · exact Or.inr (Or.inl (Int32.toInt_inj.mp (by rw [q]; decide)))
    · exact Or.inr (Or.inr (Or.inl (Int32.toInt_inj.mp (by rw [q]; decide))))
    · exact Or.inr (Or.inr (Or.inr (Int32.toInt_inj.mp (by rw [q]; decide))))
  rcases hsp3 with rfl | rfl | rfl | rfl
  · have pre4 : oP p e below (s₁.setTop (mkF m 5 #[.val (.int wl), .val (.int wp), .val (.int wa), .val (.int wb), .val (.int wc), .val (.int wd), .unset, .unset, .unset, .unset, .unset] [(.int 1)])) (s₁.setTop (entryFrame m #[(.int wl), (.int wp), (.int wa), (.int wb), (.int wc), (.int wd)] maxLocals)) := pre2
    have pre5 : oP p e below (s₁.setTop (mkF m 14 #[.val (.int wl), .val (.int wp), .val (.int wa), .val (.int wb), .val (.int wc), .val (.int wd), .val (.int 1), .unset, .unset, .unset, .unset] [(.int ((wp &&& (2147483647 : Int32)) % (1 : Int32)))])) (s₁.setTop (entryFrame m #[(.int wl), (.int wp), (.int wa), (.int wb), (.int wc), (.int wd)] maxLocals)) := fun t kt => by
      refine pre4 _ ?_
      refine XS.istore X0.here hx rfl (hb hby at_5) rfl (l' := #[.val (.int wl), .val (.int wp), .val (.int wa), .val (.int wb), .val (.int wc), .val (.int wd), .val (.int 1), .unset, .unset, .unset, .unset]) rfl ?_
      refine XS.iloadN X0.here hx rfl (hb hby at_7) rfl ?_
      refine X0.ldcInt hx hown (mvT hZ (ow hw 0 rfl)) (g := (mkF m 8 #[.val (.int wl), .val (.int wp), .val (.int wa), .val (.int wb), .val (.int wc), .val (.int wd), .val (.int 1), .unset, .unset, .unset, .unset] [(.int wp)])) rfl (hb hby at_8) _ ?_
      refine XS.iand X0.here hx rfl (hb hby at_10) rfl ?_
      refine XS.iload X0.here hx rfl (hb hby at_11) rfl ?_
      refine iremM X0 hx rfl (hb hby at_13) rfl (by decide) ?_
      exact kt
    obtain ⟨vp, hvp⟩ : ∃ z : Int32, z = ((wp &&& (2147483647 : Int32)) % (1 : Int32)) := ⟨_, rfl⟩
    have jvp : 0 ≤ vp.toInt ∧ vp.toInt ≤ 0 := by rw [hvp]; have := rng32 wp; have : ((wp &&& (2147483647 : Int32))).toInt = wp.toInt % 2147483648 := c_mask wp (2147483647 : Int32) 31 (by decide) (by decide); have := c_irem (wp &&& (2147483647 : Int32)) (1 : Int32) 1 (by decide); omega
    have pre6 : oP p e below (s₁.setTop (mkF m 14 #[.val (.int wl), .val (.int wp), .val (.int wa), .val (.int wb), .val (.int wc), .val (.int wd), .val (.int 1), .unset, .unset, .unset, .unset] [(.int vp)])) (s₁.setTop (entryFrame m #[(.int wl), (.int wp), (.int wa), (.int wb), (.int wc), (.int wd)] maxLocals)) := by rw [hvp]; exact pre5
    obtain ⟨T7, h7, k7, X7, e7, E7, A7, st7⟩ := newP X0 hx hZ (ow hw 1 rfl) e0 (g := (mkF m 18 #[.val (.int wl), .val (.int wp), .val (.int wa), .val (.int wb), .val (.int wc), .val (.int wd), .val (.int 1), .val (.int vp), .unset, .unset, .unset] [(.int 1)])) rfl (hb hby at_18) rfl (by decide) (cap := 1) (by decide) (by decide) (by decide) (by decide)
    obtain ⟨b7, g7⟩ : ∃ z, z = h0.size := ⟨_, rfl⟩
    have g_b7 : n0 ≤ b7 := Nat.le_trans Z0 (Nat.le_of_eq g7.symm)
    have sz_b7 : h0.size ≤ b7 := Nat.le_trans (Keep.refl h0 []).1 (Nat.le_of_eq g7.symm)
    rw [← g7] at A7 st7
    have Zs8 : n0 ≤ h7.size := Nat.le_trans Z0 E7.1
    have V7 : Arv Z h7 b7 k7 .char (1 : Int32) [(.int 0)] (.int 0) := (Arv.new A7 (by decide)).pad (pad_rep [] (.int 0) 1)
    have pre9 : oP p e below (T7.setTop (mkF m 30 #[.val (.int wl), .val (.int wp), .val (.int wa), .val (.int wb), .val (.int wc), .val (.int wd), .val (.int 1), .val (.int vp), .val (.ref b7), .unset, .unset] [(.int ((wa &&& (65535 : Int32)).toUInt32.toUInt16.toUInt32.toInt32)), (.int 0), (.ref b7)])) (s₁.setTop (entryFrame m #[(.int wl), (.int wp), (.int wa), (.int wb), (.int wc), (.int wd)] maxLocals)) := fun t kt => by
      refine pre6 _ ?_
      refine XS.istore X0.here hx rfl (hb hby at_14) rfl (l' := #[.val (.int wl), .val (.int wp), .val (.int wa), .val (.int wb), .val (.int wc), .val (.int wd), .val (.int 1), .val (.int vp), .unset, .unset, .unset]) rfl ?_
      refine XS.iload X0.here hx rfl (hb hby at_16) rfl ?_
      refine st7 _ ?_
      refine XS.astore X7.here hx rfl (hb hby at_20) rfl rfl (l' := #[.val (.int wl), .val (.int wp), .val (.int wa), .val (.int wb), .val (.int wc), .val (.int wd), .val (.int 1), .val (.int vp), .val (.ref b7), .unset, .unset]) rfl ?_
      refine XS.aload X7.here hx rfl (hb hby at_22) rfl rfl ?_
      refine XS.iconst X7.here hx rfl (hb hby at_24) ?_
      refine XS.iloadN X7.here hx rfl (hb hby at_25) rfl ?_
      refine X7.ldcInt hx hown (mvT hZ (ow hw 2 rfl)) (g := (mkF m 26 #[.val (.int wl), .val (.int wp), .val (.int wa), .val (.int wb), .val (.int wc), .val (.int wd), .val (.int 1), .val (.int vp), .val (.ref b7), .unset, .unset] [(.int wa), (.int 0), (.ref b7)])) rfl (hb hby at_26) _ ?_
      show Steps p.tables e below (T7.setTop (mkF m 28 #[.val (.int wl), .val (.int wp), .val (.int wa), .val (.int wb), .val (.int wc), .val (.int wd), .val (.int 1), .val (.int vp), .val (.ref b7), .unset, .unset] [(.int 65535), (.int wa), (.int 0), (.ref b7)])) _
      refine XS.iand X7.here hx rfl (hb hby at_28) rfl ?_
      refine XS.i2c X7.here hx rfl (hb hby at_29) rfl ?_
      exact kt
    obtain ⟨c0, hc0⟩ : ∃ z : Int32, z = ((wa &&& (65535 : Int32)).toUInt32.toUInt16.toUInt32.toInt32) := ⟨_, rfl⟩
    have jc0 : 0 ≤ c0.toInt ∧ c0.toInt < 65536 := by rw [hc0]; have := rng32 wa; have : ((wa &&& (65535 : Int32))).toInt = wa.toInt % 65536 := c_mask wa (65535 : Int32) 16 (by decide) (by decide); (first | (have : (((wa &&& (65535 : Int32)).toUInt32.toUInt16.toUInt32.toInt32)).toInt = (wa &&& (65535 : Int32)).toInt := (by have := c_i2c (wa &&& (65535 : Int32)); omega)) | (have := c_i2c (wa &&& (65535 : Int32)))); omega
    have pre10 : oP p e below (T7.setTop (mkF m 30 #[.val (.int wl), .val (.int wp), .val (.int wa), .val (.int wb), .val (.int wc), .val (.int wd), .val (.int 1), .val (.int vp), .val (.ref b7), .unset, .unset] [(.int c0), (.int 0), (.ref b7)])) (s₁.setTop (entryFrame m #[(.int wl), (.int wp), (.int wa), (.int wb), (.int wc), (.int wd)] maxLocals)) := by rw [hc0]; exact pre9
    obtain ⟨cl11, Ar11, q11, S11, M11, H11, G11⟩ := id V7
    have hin11 : ¬ ((0 : Int32) < 0 ∨ cl11.slots.size ≤ ((0 : Int32)).toNatClampNeg) := inb_of S11 ⟨by decide, by decide⟩
    obtain ⟨T12, h12, X12, e12, W12, st12⟩ := stC X7 hx hZ e7 Ar11 (j := (0 : Int32)) hin11 (g := (mkF m 30 #[.val (.int wl), .val (.int wp), .val (.int wa), .val (.int wb), .val (.int wc), .val (.int wd), .val (.int 1), .val (.int vp), .val (.ref b7), .unset, .unset] [(.int c0), (.int 0), (.ref b7)])) rfl rfl (hb hby at_30)
    have N12 := Fr.snoc X12 N0 g_b7
    have Zs13 : n0 ≤ h12.size := by rw [W12.size]; exact Zs8
    have V12 : Arv Z h12 b7 k7 .char (1 : Int32) [(.int (nar .char c0))] (.int 0) := Arv.set Ar11 q11 S11 M11 H11 G11 (fits_nar_char _) W12 0 rfl (Nat.le_of_ble_eq_true rfl)
    have hc34_14 : ¬ ((1 : Int) < (1 : Int)) := by decide
    have hc49_15 : ¬ ((2 : Int) < (1 : Int)) := by decide
    have hc65_16 : ¬ ((3 : Int) < (1 : Int)) := by decide
    have pre18 : oP p e below (T12.setTop (mkF m 78 #[.val (.int wl), .val (.int wp), .val (.int wa), .val (.int wb), .val (.int wc), .val (.int wd), .val (.int 1), .val (.int vp), .val (.ref b7), .unset, .unset] [])) (s₁.setTop (entryFrame m #[(.int wl), (.int wp), (.int wa), (.int wb), (.int wc), (.int wd)] maxLocals)) := fun t kt => by
      refine pre10 _ ?_
      refine st12 _ ?_
      refine XS.iload X12.here hx rfl (hb hby at_31) rfl ?_
      refine XS.iconst X12.here hx rfl (hb hby at_33) ?_
      refine XS.icmpYes X12.here hx rfl (pc0 := 34) (pc' := 46) rfl (hb hby at_34) rfl (own_flt (a := (1 : Int32)) (b := (1 : Int32)) (by decide) (by decide) hc34_14).2.2.2 (by decide) (by decide) ?_
      refine XS.iload X12.here hx rfl (hb hby at_46) rfl ?_
      refine XS.iconst X12.here hx rfl (hb hby at_48) ?_
      refine XS.icmpYes X12.here hx rfl (pc0 := 49) (pc' := 62) rfl (hb hby at_49) rfl (own_flt (a := (2 : Int32)) (b := (1 : Int32)) (by decide) (by decide) hc49_15).2.2.2 (by decide) (by decide) ?_
      refine XS.iload X12.here hx rfl (hb hby at_62) rfl ?_
      refine XS.iconst X12.here hx rfl (hb hby at_64) ?_
      refine XS.icmpYes X12.here hx rfl (pc0 := 65) (pc' := 78) rfl (hb hby at_65) rfl (own_flt (a := (3 : Int32)) (b := (1 : Int32)) (by decide) (by decide) hc65_16).2.2.2 (by decide) (by decide) ?_
      exact kt
    have hsp17 : vp = (0 : Int32) := Int32.toInt_inj.mp (by rw [show vp.toInt = (0 : Int) by omega]; decide)
    subst hsp17
    have pre19 : oP p e below (T12.setTop (mkF m 78 #[.val (.int wl), .val (.int wp), .val (.int wa), .val (.int wb), .val (.int wc), .val (.int wd), .val (.int 1), .val (.int 0), .val (.ref b7), .unset, .unset] [])) (s₁.setTop (entryFrame m #[(.int wl), (.int wp), (.int wa), (.int wb), (.int wc), (.int wd)] maxLocals)) := pre18
    obtain ⟨cl20, Ar20, q20, S20, M20, H20, G20⟩ := id V12
    have hin20 : ¬ ((0 : Int32) < 0 ∨ cl20.slots.size ≤ ((0 : Int32)).toNatClampNeg) := inb_of S20 ⟨by decide, by decide⟩
    obtain ⟨T21, h21, X21, e21, W21, st21⟩ := stC X12 hx hZ e12 Ar20 (j := (0 : Int32)) hin20 (g := (mkF m 84 #[.val (.int wl), .val (.int wp), .val (.int wa), .val (.int wb), .val (.int wc), .val (.int wd), .val (.int 1), .val (.int 0), .val (.ref b7), .unset, .unset] [(.int 37), (.int 0), (.ref b7)])) rfl rfl (hb hby at_84)
    have N21 := Fr.snoc X21 N12 g_b7
    have Zs22 : n0 ≤ h21.size := by rw [W21.size]; exact Zs13
    have V21 : Arv Z h21 b7 k7 .char (1 : Int32) [(.int (nar .char (37 : Int32)))] (.int 0) := Arv.set Ar20 q20 S20 M20 H20 G20 (fits_nar_char _) W21 0 rfl (Nat.le_of_ble_eq_true rfl)
    obtain ⟨T23, h23, X23, e23, E23, A23, D23, -, st23⟩ := newO X21 hx hZ hown (ow hw 3 rfl) (ow hw 4 rfl) (ow hw 5 rfl) e21 (g := (mkF m 85 #[.val (.int wl), .val (.int wp), .val (.int wa), .val (.int wb), .val (.int wc), .val (.int wd), .val (.int 1), .val (.int 0), .val (.ref b7), .unset, .unset] [])) rfl (hb hby at_85) (by decide) (by decide)
    obtain ⟨b23, g23⟩ : ∃ z, z = h21.size := ⟨_, rfl⟩
    have ne_b7_b23 : b7 ≠ b23 := Nat.ne_of_lt (Nat.lt_of_lt_of_le V21.lt (Nat.le_of_eq g23.symm))
    have g_b23 : n0 ≤ b23 := Nat.le_trans Zs22 (Nat.le_of_eq g23.symm)
    have f24 := ((((Keep.refl h0 []).ext E7).wr W12 (Or.inr sz_b7)).wr W21 (Or.inr sz_b7))
    have sz_b23 : h0.size ≤ b23 := Nat.le_trans f24.1 (Nat.le_of_eq g23.symm)
    rw [← g23] at A23 D23 st23
    have Zs25 : n0 ≤ h23.size := Nat.le_trans Zs22 E23.1
    have F23_coder : Fld Z h23 b23 "java/lang/String" "coder" "B" (.int 0) := D23 (Or.inr (ow hw 29 rfl)) (ty := .byte) (by decide)
    have F23_value : Fld Z h23 b23 "java/lang/String" "value" "[B" .null := D23 (Or.inr (ow hw 31 rfl)) (ty := (.array .byte)) (by decide)
    have f27 := (V21.ext E23)
    have hn29 : nar .char (37 : Int32) = (37 : Int32) := own_narc (37 : Int32) (by decide) (by decide)
    have Vx28 : Arv Z h23 b7 k7 .char (1 : Int32) [(.int 37)] (.int 0) := by
      have q := f27
      rw [hn29] at q; exact q
    have f30 := (f24.ext E23)
    have os31 := (own_st_ext (own_st_wr (own_st_wr (own_st_ext Os E7) W12) W21) E23)
    obtain ⟨_, _, ⟨T26, L26, k26, n26⟩, -, X26, ⟨Lc26, hQ26, l26, y26, z26⟩, st26⟩ := X23.specialBack hx (y := yn12) rfl hown (mvT hZ (ow hw 6 rfl)) (mvT hZ (ow hw 7 rfl)) (mvT hZ (ow hw 8 rfl)) (by decide) (backOf (W := 1) (rm_mu1 l Z a0 hw [] b23 b7 vcs vf k7 (37 : Int32) h23 n0 Zs25 os31 A23 F23_coder F23_value g_b23 (Ne.symm ne_b7_b23) Vx28 (by decide) (by decide)) hZ (ow hw 8 rfl) (ow hw 5 rfl) (by decide) (by decide)) (g := (mkF m 91 #[.val (.int wl), .val (.int wp), .val (.int wa), .val (.int wb), .val (.int wc), .val (.int wd), .val (.int 1), .val (.int 0), .val (.ref b7), .unset, .unset] [(.ref b7), (.ref b23), (.ref b23)])) rfl (by rw [hml]; rfl) (Steps.refl _) (a := b23) (argsL := [(.ref b7)]) (rest := [(.ref b23)]) (lenOf pd_17 rfl) rfl (by exact Nat.le_of_eq rfl) (hb hby at_91) (fun _ _ => ⟨rfl, e23, (by decide : 2 + 2 ≤ _), (by decide : 5 + 3 ≤ _)⟩)
    dsimp only [Pt.U, Pt.locs, Pt.cells, Pt.slots] at X26 l26 y26 z26 st26 hQ26
    rw [l26, y26, z26] at X26
    obtain ⟨rfl, N26q, K26, A26, ob, kb, gb, szb, Fv26, hO26⟩ := hQ26
    have N26 := Fr.app N21 N26q
    have Zs32 : n0 ≤ T26.heap.size := Nat.le_trans Zs25 K26.1
    have ne_b7_ob : b7 ≠ ob := Nat.ne_of_lt (Nat.lt_of_lt_of_le Vx28.lt szb)
    have ne_b23_ob : b23 ≠ ob := Nat.ne_of_lt (Nat.lt_of_lt_of_le A23.lt szb)
    have sz_ob : h0.size ≤ ob := Nat.le_trans f30.1 szb
    have Sx26 : own_s1 Z T26.heap b23 ob kb (37 : Int32) := ⟨A26, Fv26, hO26⟩
    have f34 := (Vx28.keep K26 (ninS ne_b7_b23 nin0))
    obtain ⟨_, _, ⟨T33, L33, k33, n33⟩, -, X33, ⟨Lc33, hQ33, l33, y33, z33⟩, st33⟩ := Jvm.LawKit.callS X26 hx (y := yn22) hown (mvT hZ (ow hw 32 rfl)) (mvT hZ (ow hw 33 rfl)) (mvT hZ (ow hw 34 rfl)) (mvT hZ (ow hw 35 rfl)) (by decide) (backOf (W := 0) (rm_rf1_0 l Z a0 hw [] b7 k7 (37 : Int32) T26.heap n0 Zs32 f34 (by decide) (by decide)) hZ (ow hw 35 rfl) (ow hw 34 rfl) (by decide) (by decide)) (g := (mkF m 102 #[.val (.int wl), .val (.int wp), .val (.int wa), .val (.int wb), .val (.int wc), .val (.int wd), .val (.int 1), .val (.int 0), .val (.ref b7), .val (.ref b23), .unset] [(.int 0), (.int 1), (.ref b7)])) rfl (by rw [hml]; rfl) (argsL := [(.ref b7), (.int 1), (.int 0)]) (rest := []) (lenOf pd_18 rfl) rfl (by exact Nat.le_of_eq rfl) (hb hby at_102) (fun _ _ => ⟨rfl, rfl, (by decide : 4 + 0 ≤ _), (by decide : 8 + 0 ≤ _)⟩)
    dsimp only [Pt.U, Pt.locs, Pt.cells, Pt.slots] at X33 l33 y33 z33 st33 hQ33
    rw [l33, y33, z33] at X33
    obtain ⟨ze, rfl, hze, N33q, e33⟩ := hQ33
    have N33 := Fr.app N26 N33q
    have os36 := (own_st_keep os31 K26 (nsS A23.nostat ns0))
    obtain ⟨_, _, ⟨T35, L35, k35, n35⟩, -, X35, ⟨Lc35, hQ35, l35, y35, z35⟩, st35⟩ := Jvm.LawKit.callS X33 hx (y := yn23) hown (mvT hZ (ow hw 36 rfl)) (mvT hZ (ow hw 37 rfl)) (mvT hZ (ow hw 38 rfl)) (mvT hZ (ow hw 39 rfl)) (by decide) (backOf (W := 0) (rm_ee1_0 l Z a0 hw [] b23 vcs vf ob kb (37 : Int32) T26.heap n0 Zs32 os36 Sx26) hZ (ow hw 39 rfl) (ow hw 38 rfl) (by decide) (by decide)) (g := (mkF m 111 #[.val (.int wl), .val (.int wp), .val (.int wa), .val (.int wb), .val (.int wc), .val (.int wd), .val (.int 1), .val (.int 0), .val (.ref b7), .val (.ref b23), .val (.int ze)] [(.int 0), (.ref b23)])) rfl (by rw [hml]; rfl) (argsL := [(.ref b23), (.int 0)]) (rest := []) (lenOf pd_19 rfl) rfl (by exact Nat.le_of_eq rfl) (hb hby at_111) (fun _ _ => ⟨rfl, e33, (by decide : 4 + 0 ≤ _), (by decide : 8 + 0 ≤ _)⟩)
    dsimp only [Pt.U, Pt.locs, Pt.cells, Pt.slots] at X35 l35 y35 z35 st35 hQ35
    rw [l35, y35, z35] at X35
    obtain ⟨zf, rfl, hzf, N35q, e35⟩ := hQ35
    have N35 := Fr.app N33 N35q
    have hc116_37 : zf.toInt = ze.toInt := by rw [hzf, hze]
    obtain ⟨fs, hr, q1, q2, q3, q4⟩ := X35.leave (v := some (.int 1)) (fun h => by rw [Bd.returns] at h; cases h)
    refine ⟨_, _, pre19 _ ?_, q1, q2, _, _, rfl, ?_, ⟨_, rfl⟩, q3, q4.mono (by decide) (by decide)⟩
    · refine XS.aload X12.here hx rfl (hb hby at_78) rfl rfl ?_
      refine XS.iload X12.here hx rfl (hb hby at_80) rfl ?_
      refine XS.bipush X12.here hx rfl (hb hby at_82) ?_
      refine st21 _ ?_
      refine st23 _ ?_
      refine XS.dup X23.here hx rfl (hb hby at_88) rfl rfl ?_
      refine XS.aload X23.here hx rfl (hb hby at_89) rfl rfl ?_
      refine st26.trans ?_
      show Steps p.tables e below (T26.setTop (mkF m 94 #[.val (.int wl), .val (.int wp), .val (.int wa), .val (.int wb), .val (.int wc), .val (.int wd), .val (.int 1), .val (.int 0), .val (.ref b7), .unset, .unset] [(.ref b23)])) _
      refine XS.astore X26.here hx rfl (hb hby at_94) rfl rfl (l' := #[.val (.int wl), .val (.int wp), .val (.int wa), .val (.int wb), .val (.int wc), .val (.int wd), .val (.int 1), .val (.int 0), .val (.ref b7), .val (.ref b23), .unset]) rfl ?_
      refine XS.aload X26.here hx rfl (hb hby at_96) rfl rfl ?_
      refine XS.iload X26.here hx rfl (hb hby at_98) rfl ?_
      refine XS.iload X26.here hx rfl (hb hby at_100) rfl ?_
      refine st33 _ ?_
      refine XS.istore X33.here hx rfl (hb hby at_105) rfl (l' := #[.val (.int wl), .val (.int wp), .val (.int wa), .val (.int wb), .val (.int wc), .val (.int wd), .val (.int 1), .val (.int 0), .val (.ref b7), .val (.ref b23), .val (.int ze)]) rfl ?_
      refine XS.aload X33.here hx rfl (hb hby at_107) rfl rfl ?_
      refine XS.iload X33.here hx rfl (hb hby at_109) rfl ?_
      refine st35 _ ?_
      refine XS.iload X35.here hx rfl (hb hby at_114) rfl ?_
      refine XS.icmpNo X35.here hx rfl (hb hby at_116) rfl (own_teq (a := zf) (b := ze) rfl rfl hc116_37).2 ?_
      refine XS.iconst X35.here hx rfl (hb hby at_119) ?_
      refine XS.goto X35.here hx rfl (pc0 := 120) (pc' := 124) rfl (hb hby at_120) (by decide) (by decide) ?_
      exact retN X35 hx (t := .boolean) Bd.returns (by simp) (hb hby at_124) hr
    · show Q0 Z _ _ _ _ _ _ _ _ h0 n0 _ T35.heap _
      rw [e35]
      exact ⟨rfl, N35⟩
  · have pre38 : oP p e below (s₁.setTop (mkF m 5 #[.val (.int wl), .val (.int wp), .val (.int wa), .val (.int wb), .val (.int wc), .val (.int wd), .unset, .unset, .unset, .unset, .unset] [(.int 2)])) (s₁.setTop (entryFrame m #[(.int wl), (.int wp), (.int wa), (.int wb), (.int wc), (.int wd)] maxLocals)) := pre2
    have pre39 : oP p e below (s₁.setTop (mkF m 14 #[.val (.int wl), .val (.int wp), .val (.int wa), .val (.int wb), .val (.int wc), .val (.int wd), .val (.int 2), .unset, .unset, .unset, .unset] [(.int ((wp &&& (2147483647 : Int32)) % (2 : Int32)))])) (s₁.setTop (entryFrame m #[(.int wl), (.int wp), (.int wa), (.int wb), (.int wc), (.int wd)] maxLocals)) := fun t kt => by
      refine pre38 _ ?_
      refine XS.istore X0.here hx rfl (hb hby at_5) rfl (l' := #[.val (.int wl), .val (.int wp), .val (.int wa), .val (.int wb), .val (.int wc), .val (.int wd), .val (.int 2), .unset, .unset, .unset, .unset]) rfl ?_
      refine XS.iloadN X0.here hx rfl (hb hby at_7) rfl ?_
      refine X0.ldcInt hx hown (mvT hZ (ow hw 0 rfl)) (g := (mkF m 8 #[.val (.int wl), .val (.int wp), .val (.int wa), .val (.int wb), .val (.int wc), .val (.int wd), .val (.int 2), .unset, .unset, .unset, .unset] [(.int wp)])) rfl (hb hby at_8) _ ?_
      refine XS.iand X0.here hx rfl (hb hby at_10) rfl ?_
      refine XS.iload X0.here hx rfl (hb hby at_11) rfl ?_
      refine iremM X0 hx rfl (hb hby at_13) rfl (by decide) ?_
      exact kt
    obtain ⟨vp, hvp⟩ : ∃ z : Int32, z = ((wp &&& (2147483647 : Int32)) % (2 : Int32)) := ⟨_, rfl⟩
    have jvp : 0 ≤ vp.toInt ∧ vp.toInt ≤ 1 := by rw [hvp]; have := rng32 wp; have : ((wp &&& (2147483647 : Int32))).toInt = wp.toInt % 2147483648 := c_mask wp (2147483647 : Int32) 31 (by decide) (by decide); have := c_irem (wp &&& (2147483647 : Int32)) (2 : Int32) 2 (by decide); omega
    have pre40 : oP p e below (s₁.setTop (mkF m 14 #[.val (.int wl), .val (.int wp), .val (.int wa), .val (.int wb), .val (.int wc), .val (.int wd), .val (.int 2), .unset, .unset, .unset, .unset] [(.int vp)])) (s₁.setTop (entryFrame m #[(.int wl), (.int wp), (.int wa), (.int wb), (.int wc), (.int wd)] maxLocals)) := by rw [hvp]; exact pre39
    obtain ⟨T41, h41, k41, X41, e41, E41, A41, st41⟩ := newP X0 hx hZ (ow hw 1 rfl) e0 (g := (mkF m 18 #[.val (.int wl), .val (.int wp), .val (.int wa), .val (.int wb), .val (.int wc), .val (.int wd), .val (.int 2), .val (.int vp), .unset, .unset, .unset] [(.int 2)])) rfl (hb hby at_18) rfl (by decide) (cap := 2) (by decide) (by decide) (by decide) (by decide)
    obtain ⟨b41, g41⟩ : ∃ z, z = h0.size := ⟨_, rfl⟩
    have g_b41 : n0 ≤ b41 := Nat.le_trans Z0 (Nat.le_of_eq g41.symm)
    have sz_b41 : h0.size ≤ b41 := Nat.le_trans (Keep.refl h0 []).1 (Nat.le_of_eq g41.symm)
    rw [← g41] at A41 st41
    have Zs42 : n0 ≤ h41.size := Nat.le_trans Z0 E41.1
    have V41 : Arv Z h41 b41 k41 .char (2 : Int32) [(.int 0), (.int 0)] (.int 0) := (Arv.new A41 (by decide)).pad (pad_rep [] (.int 0) 2)
    have pre43 : oP p e below (T41.setTop (mkF m 30 #[.val (.int wl), .val (.int wp), .val (.int wa), .val (.int wb), .val (.int wc), .val (.int wd), .val (.int 2), .val (.int vp), .val (.ref b41), .unset, .unset] [(.int ((wa &&& (65535 : Int32)).toUInt32.toUInt16.toUInt32.toInt32)), (.int 0), (.ref b41)])) (s₁.setTop (entryFrame m #[(.int wl), (.int wp), (.int wa), (.int wb), (.int wc), (.int wd)] maxLocals)) := fun t kt => by
      refine pre40 _ ?_
      refine XS.istore X0.here hx rfl (hb hby at_14) rfl (l' := #[.val (.int wl), .val (.int wp), .val (.int wa), .val (.int wb), .val (.int wc), .val (.int wd), .val (.int 2), .val (.int vp), .unset, .unset, .unset]) rfl ?_
      refine XS.iload X0.here hx rfl (hb hby at_16) rfl ?_
      refine st41 _ ?_
      refine XS.astore X41.here hx rfl (hb hby at_20) rfl rfl (l' := #[.val (.int wl), .val (.int wp), .val (.int wa), .val (.int wb), .val (.int wc), .val (.int wd), .val (.int 2), .val (.int vp), .val (.ref b41), .unset, .unset]) rfl ?_
      refine XS.aload X41.here hx rfl (hb hby at_22) rfl rfl ?_
      refine XS.iconst X41.here hx rfl (hb hby at_24) ?_
      refine XS.iloadN X41.here hx rfl (hb hby at_25) rfl ?_
      refine X41.ldcInt hx hown (mvT hZ (ow hw 2 rfl)) (g := (mkF m 26 #[.val (.int wl), .val (.int wp), .val (.int wa), .val (.int wb), .val (.int wc), .val (.int wd), .val (.int 2), .val (.int vp), .val (.ref b41), .unset, .unset] [(.int wa), (.int 0), (.ref b41)])) rfl (hb hby at_26) _ ?_
      show Steps p.tables e below (T41.setTop (mkF m 28 #[.val (.int wl), .val (.int wp), .val (.int wa), .val (.int wb), .val (.int wc), .val (.int wd), .val (.int 2), .val (.int vp), .val (.ref b41), .unset, .unset] [(.int 65535), (.int wa), (.int 0), (.ref b41)])) _
      refine XS.iand X41.here hx rfl (hb hby at_28) rfl ?_
      refine XS.i2c X41.here hx rfl (hb hby at_29) rfl ?_
      exact kt
    obtain ⟨c0, hc0⟩ : ∃ z : Int32, z = ((wa &&& (65535 : Int32)).toUInt32.toUInt16.toUInt32.toInt32) := ⟨_, rfl⟩
    have jc0 : 0 ≤ c0.toInt ∧ c0.toInt < 65536 := by rw [hc0]; have := rng32 wa; have : ((wa &&& (65535 : Int32))).toInt = wa.toInt % 65536 := c_mask wa (65535 : Int32) 16 (by decide) (by decide); (first | (have : (((wa &&& (65535 : Int32)).toUInt32.toUInt16.toUInt32.toInt32)).toInt = (wa &&& (65535 : Int32)).toInt := (by have := c_i2c (wa &&& (65535 : Int32)); omega)) | (have := c_i2c (wa &&& (65535 : Int32)))); omega
    have pre44 : oP p e below (T41.setTop (mkF m 30 #[.val (.int wl), .val (.int wp), .val (.int wa), .val (.int wb), .val (.int wc), .val (.int wd), .val (.int 2), .val (.int vp), .val (.ref b41), .unset, .unset] [(.int c0), (.int 0), (.ref b41)])) (s₁.setTop (entryFrame m #[(.int wl), (.int wp), (.int wa), (.int wb), (.int wc), (.int wd)] maxLocals)) := by rw [hc0]; exact pre43
    obtain ⟨cl45, Ar45, q45, S45, M45, H45, G45⟩ := id V41
    have hin45 : ¬ ((0 : Int32) < 0 ∨ cl45.slots.size ≤ ((0 : Int32)).toNatClampNeg) := inb_of S45 ⟨by decide, by decide⟩
    obtain ⟨T46, h46, X46, e46, W46, st46⟩ := stC X41 hx hZ e41 Ar45 (j := (0 : Int32)) hin45 (g := (mkF m 30 #[.val (.int wl), .val (.int wp), .val (.int wa), .val (.int wb), .val (.int wc), .val (.int wd), .val (.int 2), .val (.int vp), .val (.ref b41), .unset, .unset] [(.int c0), (.int 0), (.ref b41)])) rfl rfl (hb hby at_30)
    have N46 := Fr.snoc X46 N0 g_b41
    have Zs47 : n0 ≤ h46.size := by rw [W46.size]; exact Zs42
    have V46 : Arv Z h46 b41 k41 .char (2 : Int32) [(.int (nar .char c0)), (.int 0)] (.int 0) := Arv.set Ar45 q45 S45 M45 H45 G45 (fits_nar_char _) W46 0 rfl (Nat.le_of_ble_eq_true rfl)
    have hc34_48 : (1 : Int) < (2 : Int) := by decide
    have pre49 : oP p e below (T46.setTop (mkF m 45 #[.val (.int wl), .val (.int wp), .val (.int wa), .val (.int wb), .val (.int wc), .val (.int wd), .val (.int 2), .val (.int vp), .val (.ref b41), .unset, .unset] [(.int ((wb &&& (65535 : Int32)).toUInt32.toUInt16.toUInt32.toInt32)), (.int 1), (.ref b41)])) (s₁.setTop (entryFrame m #[(.int wl), (.int wp), (.int wa), (.int wb), (.int wc), (.int wd)] maxLocals)) := fun t kt => by
      refine pre44 _ ?_
      refine st46 _ ?_
      refine XS.iload X46.here hx rfl (hb hby at_31) rfl ?_
      refine XS.iconst X46.here hx rfl (hb hby at_33) ?_
      refine XS.icmpNo X46.here hx rfl (hb hby at_34) rfl (own_tlt (a := (1 : Int32)) (b := (2 : Int32)) (by decide) (by decide) hc34_48).2.2.2 ?_
      refine XS.aload X46.here hx rfl (hb hby at_37) rfl rfl ?_
      refine XS.iconst X46.here hx rfl (hb hby at_39) ?_
      refine XS.iloadN X46.here hx rfl (hb hby at_40) rfl ?_
      refine X46.ldcInt hx hown (mvT hZ (ow hw 2 rfl)) (g := (mkF m 41 #[.val (.int wl), .val (.int wp), .val (.int wa), .val (.int wb), .val (.int wc), .val (.int wd), .val (.int 2), .val (.int vp), .val (.ref b41), .unset, .unset] [(.int wb), (.int 1), (.ref b41)])) rfl (hb hby at_41) _ ?_
      refine XS.iand X46.here hx rfl (hb hby at_43) rfl ?_
      refine XS.i2c X46.here hx rfl (hb hby at_44) rfl ?_
      exact kt
    obtain ⟨c1, hc1⟩ : ∃ z : Int32, z = ((wb &&& (65535 : Int32)).toUInt32.toUInt16.toUInt32.toInt32) := ⟨_, rfl⟩
    have jc1 : 0 ≤ c1.toInt ∧ c1.toInt < 65536 := by rw [hc1]; have := rng32 wb; have : ((wb &&& (65535 : Int32))).toInt = wb.toInt % 65536 := c_mask wb (65535 : Int32) 16 (by decide) (by decide); (first | (have : (((wb &&& (65535 : Int32)).toUInt32.toUInt16.toUInt32.toInt32)).toInt = (wb &&& (65535 : Int32)).toInt := (by have := c_i2c (wb &&& (65535 : Int32)); omega)) | (have := c_i2c (wb &&& (65535 : Int32)))); omega
    have pre50 : oP p e below (T46.setTop (mkF m 45 #[.val (.int wl), .val (.int wp), .val (.int wa), .val (.int wb), .val (.int wc), .val (.int wd), .val (.int 2), .val (.int vp), .val (.ref b41), .unset, .unset] [(.int c1), (.int 1), (.ref b41)])) (s₁.setTop (entryFrame m #[(.int wl), (.int wp), (.int wa), (.int wb), (.int wc), (.int wd)] maxLocals)) := by rw [hc1]; exact pre49
    obtain ⟨cl51, Ar51, q51, S51, M51, H51, G51⟩ := id V46
    have hin51 : ¬ ((1 : Int32) < 0 ∨ cl51.slots.size ≤ ((1 : Int32)).toNatClampNeg) := inb_of S51 ⟨by decide, by decide⟩
    obtain ⟨T52, h52, X52, e52, W52, st52⟩ := stC X46 hx hZ e46 Ar51 (j := (1 : Int32)) hin51 (g := (mkF m 45 #[.val (.int wl), .val (.int wp), .val (.int wa), .val (.int wb), .val (.int wc), .val (.int wd), .val (.int 2), .val (.int vp), .val (.ref b41), .unset, .unset] [(.int c1), (.int 1), (.ref b41)])) rfl rfl (hb hby at_45)
    have N52 := Fr.snoc X52 N46 g_b41
    have Zs53 : n0 ≤ h52.size := by rw [W52.size]; exact Zs47
    have V52 : Arv Z h52 b41 k41 .char (2 : Int32) [(.int (nar .char c0)), (.int (nar .char c1))] (.int 0) := Arv.set Ar51 q51 S51 M51 H51 G51 (fits_nar_char _) W52 1 rfl (Nat.le_of_ble_eq_true rfl)
    have hc49_54 : ¬ ((2 : Int) < (2 : Int)) := by decide
    have hc65_55 : ¬ ((3 : Int) < (2 : Int)) := by decide
    have hsp56 : vp = (0 : Int32) ∨ vp = (1 : Int32) := by
      have q : vp.toInt = 0 ∨ vp.toInt = 1 := by omega
      rcases q with q | q
      · exact Or.inl (Int32.toInt_inj.mp (by rw [q]; decide))
      · exact Or.inr (Int32.toInt_inj.mp (by rw [q]; decide))
    have pre57 : oP p e below (T52.setTop (mkF m 78 #[.val (.int wl), .val (.int wp), .val (.int wa), .val (.int wb), .val (.int wc), .val (.int wd), .val (.int 2), .val (.int vp), .val (.ref b41), .unset, .unset] [])) (s₁.setTop (entryFrame m #[(.int wl), (.int wp), (.int wa), (.int wb), (.int wc), (.int wd)] maxLocals)) := fun t kt => by
      refine pre50 _ ?_
      refine st52 _ ?_
      refine XS.iload X52.here hx rfl (hb hby at_46) rfl ?_
      refine XS.iconst X52.here hx rfl (hb hby at_48) ?_
      refine XS.icmpYes X52.here hx rfl (pc0 := 49) (pc' := 62) rfl (hb hby at_49) rfl (own_flt (a := (2 : Int32)) (b := (2 : Int32)) (by decide) (by decide) hc49_54).2.2.2 (by decide) (by decide) ?_
      refine XS.iload X52.here hx rfl (hb hby at_62) rfl ?_
      refine XS.iconst X52.here hx rfl (hb hby at_64) ?_
      refine XS.icmpYes X52.here hx rfl (pc0 := 65) (pc' := 78) rfl (hb hby at_65) rfl (own_flt (a := (3 : Int32)) (b := (2 : Int32)) (by decide) (by decide) hc65_55).2.2.2 (by decide) (by decide) ?_
      exact kt
    rcases hsp56 with rfl | rfl
    · have pre58 : oP p e below (T52.setTop (mkF m 78 #[.val (.int wl), .val (.int wp), .val (.int wa), .val (.int wb), .val (.int wc), .val (.int wd), .val (.int 2), .val (.int 0), .val (.ref b41), .unset, .unset] [])) (s₁.setTop (entryFrame m #[(.int wl), (.int wp), (.int wa), (.int wb), (.int wc), (.int wd)] maxLocals)) := pre57
      obtain ⟨cl59, Ar59, q59, S59, M59, H59, G59⟩ := id V52
      have hin59 : ¬ ((0 : Int32) < 0 ∨ cl59.slots.size ≤ ((0 : Int32)).toNatClampNeg) := inb_of S59 ⟨by decide, by decide⟩
      obtain ⟨T60, h60, X60, e60, W60, st60⟩ := stC X52 hx hZ e52 Ar59 (j := (0 : Int32)) hin59 (g := (mkF m 84 #[.val (.int wl), .val (.int wp), .val (.int wa), .val (.int wb), .val (.int wc), .val (.int wd), .val (.int 2), .val (.int 0), .val (.ref b41), .unset, .unset] [(.int 37), (.int 0), (.ref b41)])) rfl rfl (hb hby at_84)
      have N60 := Fr.snoc X60 N52 g_b41
      have Zs61 : n0 ≤ h60.size := by rw [W60.size]; exact Zs53
      have V60 : Arv Z h60 b41 k41 .char (2 : Int32) [(.int (nar .char (37 : Int32))), (.int (nar .char c1))] (.int 0) := Arv.set Ar59 q59 S59 M59 H59 G59 (fits_nar_char _) W60 0 rfl (Nat.le_of_ble_eq_true rfl)
      obtain ⟨T62, h62, X62, e62, E62, A62, D62, -, st62⟩ := newO X60 hx hZ hown (ow hw 3 rfl) (ow hw 4 rfl) (ow hw 5 rfl) e60 (g := (mkF m 85 #[.val (.int wl), .val (.int wp), .val (.int wa), .val (.int wb), .val (.int wc), .val (.int wd), .val (.int 2), .val (.int 0), .val (.ref b41), .unset, .unset] [])) rfl (hb hby at_85) (by decide) (by decide)
      obtain ⟨b62, g62⟩ : ∃ z, z = h60.size := ⟨_, rfl⟩
      have ne_b41_b62 : b41 ≠ b62 := Nat.ne_of_lt (Nat.lt_of_lt_of_le V60.lt (Nat.le_of_eq g62.symm))
      have g_b62 : n0 ≤ b62 := Nat.le_trans Zs61 (Nat.le_of_eq g62.symm)
      have f63 := (((((Keep.refl h0 []).ext E41).wr W46 (Or.inr sz_b41)).wr W52 (Or.inr sz_b41)).wr W60 (Or.inr sz_b41))
      have sz_b62 : h0.size ≤ b62 := Nat.le_trans f63.1 (Nat.le_of_eq g62.symm)
      rw [← g62] at A62 D62 st62
      have Zs64 : n0 ≤ h62.size := Nat.le_trans Zs61 E62.1
      have F62_coder : Fld Z h62 b62 "java/lang/String" "coder" "B" (.int 0) := D62 (Or.inr (ow hw 29 rfl)) (ty := .byte) (by decide)
      have F62_value : Fld Z h62 b62 "java/lang/String" "value" "[B" .null := D62 (Or.inr (ow hw 31 rfl)) (ty := (.array .byte)) (by decide)
      have f66 := (V60.ext E62)
      have hn68 : nar .char (37 : Int32) = (37 : Int32) := own_narc (37 : Int32) (by decide) (by decide)
      have hn69 : nar .char c1 = c1 := own_narc c1 jc1.1 jc1.2
      have Vx67 : Arv Z h62 b41 k41 .char (2 : Int32) [(.int 37), (.int c1)] (.int 0) := by
        have q := f66
        rw [hn68, hn69] at q; exact q
      have f70 := (f63.ext E62)
      have os71 := (own_st_ext (own_st_wr (own_st_wr (own_st_wr (own_st_ext Os E41) W46) W52) W60) E62)
      obtain ⟨_, _, ⟨T65, L65, k65, n65⟩, -, X65, ⟨Lc65, hQ65, l65, y65, z65⟩, st65⟩ := X62.specialBack hx (y := yn12) rfl hown (mvT hZ (ow hw 6 rfl)) (mvT hZ (ow hw 7 rfl)) (mvT hZ (ow hw 8 rfl)) (by decide) (backOf (W := 1) (rm_mu2 l Z a0 hw [] b62 b41 vcs vf k41 (37 : Int32) c1 h62 n0 Zs64 os71 A62 F62_coder F62_value g_b62 (Ne.symm ne_b41_b62) Vx67 (by decide) jc1.1 (by decide) jc1.2) hZ (ow hw 8 rfl) (ow hw 5 rfl) (by decide) (by decide)) (g := (mkF m 91 #[.val (.int wl), .val (.int wp), .val (.int wa), .val (.int wb), .val (.int wc), .val (.int wd), .val (.int 2), .val (.int 0), .val (.ref b41), .unset, .unset] [(.ref b41), (.ref b62), (.ref b62)])) rfl (by rw [hml]; rfl) (Steps.refl _) (a := b62) (argsL := [(.ref b41)]) (rest := [(.ref b62)]) (lenOf pd_17 rfl) rfl (by exact Nat.le_of_eq rfl) (hb hby at_91) (fun _ _ => ⟨rfl, e62, (by decide : 2 + 2 ≤ _), (by decide : 6 + 6 ≤ _)⟩)
      dsimp only [Pt.U, Pt.locs, Pt.cells, Pt.slots] at X65 l65 y65 z65 st65 hQ65
      rw [l65, y65, z65] at X65
      obtain ⟨rfl, N65q, K65, A65, ob, kb, gb, szb, Fv65, hO65⟩ := hQ65
      have N65 := Fr.app N60 N65q
      have Zs72 : n0 ≤ T65.heap.size := Nat.le_trans Zs64 K65.1
      have ne_b41_ob : b41 ≠ ob := Nat.ne_of_lt (Nat.lt_of_lt_of_le Vx67.lt szb)
      have ne_b62_ob : b62 ≠ ob := Nat.ne_of_lt (Nat.lt_of_lt_of_le A62.lt szb)
      have sz_ob : h0.size ≤ ob := Nat.le_trans f70.1 szb
      have Sx65 : own_s2 Z T65.heap b62 ob kb (37 : Int32) c1 := ⟨A65, Fv65, hO65⟩
      have f74 := (Vx67.keep K65 (ninS ne_b41_b62 nin0))
      obtain ⟨_, _, ⟨T73, L73, k73, n73⟩, -, X73, ⟨Lc73, hQ73, l73, y73, z73⟩, st73⟩ := Jvm.LawKit.callS X65 hx (y := yn22) hown (mvT hZ (ow hw 32 rfl)) (mvT hZ (ow hw 33 rfl)) (mvT hZ (ow hw 34 rfl)) (mvT hZ (ow hw 35 rfl)) (by decide) (backOf (W := 0) (rm_rf2_0 l Z a0 hw [] b41 k41 (37 : Int32) c1 T65.heap n0 Zs72 f74 (by decide) jc1.1 (by decide) jc1.2) hZ (ow hw 35 rfl) (ow hw 34 rfl) (by decide) (by decide)) (g := (mkF m 102 #[.val (.int wl), .val (.int wp), .val (.int wa), .val (.int wb), .val (.int wc), .val (.int wd), .val (.int 2), .val (.int 0), .val (.ref b41), .val (.ref b62), .unset] [(.int 0), (.int 2), (.ref b41)])) rfl (by rw [hml]; rfl) (argsL := [(.ref b41), (.int 2), (.int 0)]) (rest := []) (lenOf pd_18 rfl) rfl (by exact Nat.le_of_eq rfl) (hb hby at_102) (fun _ _ => ⟨rfl, rfl, (by decide : 4 + 0 ≤ _), (by decide : 12 + 0 ≤ _)⟩)
      dsimp only [Pt.U, Pt.locs, Pt.cells, Pt.slots] at X73 l73 y73 z73 st73 hQ73
      rw [l73, y73, z73] at X73
      obtain ⟨ze, rfl, hze, N73q, e73⟩ := hQ73
      have N73 := Fr.app N65 N73q
      have os76 := (own_st_keep os71 K65 (nsS A62.nostat ns0))
      obtain ⟨_, _, ⟨T75, L75, k75, n75⟩, -, X75, ⟨Lc75, hQ75, l75, y75, z75⟩, st75⟩ := Jvm.LawKit.callS X73 hx (y := yn23) hown (mvT hZ (ow hw 36 rfl)) (mvT hZ (ow hw 37 rfl)) (mvT hZ (ow hw 38 rfl)) (mvT hZ (ow hw 39 rfl)) (by decide) (backOf (W := 0) (rm_ee2_0 l Z a0 hw [] b62 vcs vf ob kb (37 : Int32) c1 T65.heap n0 Zs72 os76 Sx65) hZ (ow hw 39 rfl) (ow hw 38 rfl) (by decide) (by decide)) (g := (mkF m 111 #[.val (.int wl), .val (.int wp), .val (.int wa), .val (.int wb), .val (.int wc), .val (.int wd), .val (.int 2), .val (.int 0), .val (.ref b41), .val (.ref b62), .val (.int ze)] [(.int 0), (.ref b62)])) rfl (by rw [hml]; rfl) (argsL := [(.ref b62), (.int 0)]) (rest := []) (lenOf pd_19 rfl) rfl (by exact Nat.le_of_eq rfl) (hb hby at_111) (fun _ _ => ⟨rfl, e73, (by decide : 4 + 0 ≤ _), (by decide : 12 + 0 ≤ _)⟩)
      dsimp only [Pt.U, Pt.locs, Pt.cells, Pt.slots] at X75 l75 y75 z75 st75 hQ75
      rw [l75, y75, z75] at X75
      obtain ⟨zf, rfl, hzf, N75q, e75⟩ := hQ75
      have N75 := Fr.app N73 N75q
      have hc116_77 : zf.toInt = ze.toInt := by rw [hzf, hze]
      obtain ⟨fs, hr, q1, q2, q3, q4⟩ := X75.leave (v := some (.int 1)) (fun h => by rw [Bd.returns] at h; cases h)
      refine ⟨_, _, pre58 _ ?_, q1, q2, _, _, rfl, ?_, ⟨_, rfl⟩, q3, q4.mono (by decide) (by decide)⟩
      · refine XS.aload X52.here hx rfl (hb hby at_78) rfl rfl ?_
        show Steps p.tables e below (T52.setTop (mkF m 80 #[.val (.int wl), .val (.int wp), .val (.int wa), .val (.int wb), .val (.int wc), .val (.int wd), .val (.int 2), .val (.int 0), .val (.ref b41), .unset, .unset] [(.ref b41)])) _
        refine XS.iload X52.here hx rfl (hb hby at_80) rfl ?_
        refine XS.bipush X52.here hx rfl (hb hby at_82) ?_
        refine st60 _ ?_
        refine st62 _ ?_
        refine XS.dup X62.here hx rfl (hb hby at_88) rfl rfl ?_
        refine XS.aload X62.here hx rfl (hb hby at_89) rfl rfl ?_
        refine st65.trans ?_
        refine XS.astore X65.here hx rfl (hb hby at_94) rfl rfl (l' := #[.val (.int wl), .val (.int wp), .val (.int wa), .val (.int wb), .val (.int wc), .val (.int wd), .val (.int 2), .val (.int 0), .val (.ref b41), .val (.ref b62), .unset]) rfl ?_
        refine XS.aload X65.here hx rfl (hb hby at_96) rfl rfl ?_
        refine XS.iload X65.here hx rfl (hb hby at_98) rfl ?_
        refine XS.iload X65.here hx rfl (hb hby at_100) rfl ?_
        refine st73 _ ?_
        refine XS.istore X73.here hx rfl (hb hby at_105) rfl (l' := #[.val (.int wl), .val (.int wp), .val (.int wa), .val (.int wb), .val (.int wc), .val (.int wd), .val (.int 2), .val (.int 0), .val (.ref b41), .val (.ref b62), .val (.int ze)]) rfl ?_
        refine XS.aload X73.here hx rfl (hb hby at_107) rfl rfl ?_
        refine XS.iload X73.here hx rfl (hb hby at_109) rfl ?_
        refine st75 _ ?_
        refine XS.iload X75.here hx rfl (hb hby at_114) rfl ?_
        refine XS.icmpNo X75.here hx rfl (hb hby at_116) rfl (own_teq (a := zf) (b := ze) rfl rfl hc116_77).2 ?_
        refine XS.iconst X75.here hx rfl (hb hby at_119) ?_
        refine XS.goto X75.here hx rfl (pc0 := 120) (pc' := 124) rfl (hb hby at_120) (by decide) (by decide) ?_
        show Steps p.tables e below (T75.setTop (mkF m 124 #[.val (.int wl), .val (.int wp), .val (.int wa), .val (.int wb), .val (.int wc), .val (.int wd), .val (.int 2), .val (.int 0), .val (.ref b41), .val (.ref b62), .val (.int ze)] [(.int 1)])) _
        exact retN X75 hx (t := .boolean) Bd.returns (by simp) (hb hby at_124) hr
      · show Q0 Z _ _ _ _ _ _ _ _ h0 n0 _ T75.heap _
        rw [e75]
        exact ⟨rfl, N75⟩
    · have pre78 : oP p e below (T52.setTop (mkF m 78 #[.val (.int wl), .val (.int wp), .val (.int wa), .val (.int wb), .val (.int wc), .val (.int wd), .val (.int 2), .val (.int 1), .val (.ref b41), .unset, .unset] [])) (s₁.setTop (entryFrame m #[(.int wl), (.int wp), (.int wa), (.int wb), (.int wc), (.int wd)] maxLocals)) := pre57
      obtain ⟨cl79, Ar79, q79, S79, M79, H79, G79⟩ := id V52
      have hin79 : ¬ ((1 : Int32) < 0 ∨ cl79.slots.size ≤ ((1 : Int32)).toNatClampNeg) := inb_of S79 ⟨by decide, by decide⟩
      obtain ⟨T80, h80, X80, e80, W80, st80⟩ := stC X52 hx hZ e52 Ar79 (j := (1 : Int32)) hin79 (g := (mkF m 84 #[.val (.int wl), .val (.int wp), .val (.int wa), .val (.int wb), .val (.int wc), .val (.int wd), .val (.int 2), .val (.int 1), .val (.ref b41), .unset, .unset] [(.int 37), (.int 1), (.ref b41)])) rfl rfl (hb hby at_84)
      have N80 := Fr.snoc X80 N52 g_b41
      have Zs81 : n0 ≤ h80.size := by rw [W80.size]; exact Zs53
      have V80 : Arv Z h80 b41 k41 .char (2 : Int32) [(.int (nar .char c0)), (.int (nar .char (37 : Int32)))] (.int 0) := Arv.set Ar79 q79 S79 M79 H79 G79 (fits_nar_char _) W80 1 rfl (Nat.le_of_ble_eq_true rfl)
      obtain ⟨T82, h82, X82, e82, E82, A82, D82, -, st82⟩ := newO X80 hx hZ hown (ow hw 3 rfl) (ow hw 4 rfl) (ow hw 5 rfl) e80 (g := (mkF m 85 #[.val (.int wl), .val (.int wp), .val (.int wa), .val (.int wb), .val (.int wc), .val (.int wd), .val (.int 2), .val (.int 1), .val (.ref b41), .unset, .unset] [])) rfl (hb hby at_85) (by decide) (by decide)
      obtain ⟨b82, g82⟩ : ∃ z, z = h80.size := ⟨_, rfl⟩
      have ne_b41_b82 : b41 ≠ b82 := Nat.ne_of_lt (Nat.lt_of_lt_of_le V80.lt (Nat.le_of_eq g82.symm))
      have g_b82 : n0 ≤ b82 := Nat.le_trans Zs81 (Nat.le_of_eq g82.symm)
      have f83 := (((((Keep.refl h0 []).ext E41).wr W46 (Or.inr sz_b41)).wr W52 (Or.inr sz_b41)).wr W80 (Or.inr sz_b41))
      have sz_b82 : h0.size ≤ b82 := Nat.le_trans f83.1 (Nat.le_of_eq g82.symm)
      rw [← g82] at A82 D82 st82
      have Zs84 : n0 ≤ h82.size := Nat.le_trans Zs81 E82.1
      have F82_coder : Fld Z h82 b82 "java/lang/String" "coder" "B" (.int 0) := D82 (Or.inr (ow hw 29 rfl)) (ty := .byte) (by decide)
      have F82_value : Fld Z h82 b82 "java/lang/String" "value" "[B" .null := D82 (Or.inr (ow hw 31 rfl)) (ty := (.array .byte)) (by decide)
      have f86 := (V80.ext E82)
      have hn88 : nar .char c0 = c0 := own_narc c0 jc0.1 jc0.2
      have hn89 : nar .char (37 : Int32) = (37 : Int32) := own_narc (37 : Int32) (by decide) (by decide)
      have Vx87 : Arv Z h82 b41 k41 .char (2 : Int32) [(.int c0), (.int 37)] (.int 0) := by
        have q := f86
        rw [hn88, hn89] at q; exact q
      have f90 := (f83.ext E82)
      have os91 := (own_st_ext (own_st_wr (own_st_wr (own_st_wr (own_st_ext Os E41) W46) W52) W80) E82)
      obtain ⟨_, _, ⟨T85, L85, k85, n85⟩, -, X85, ⟨Lc85, hQ85, l85, y85, z85⟩, st85⟩ := X82.specialBack hx (y := yn12) rfl hown (mvT hZ (ow hw 6 rfl)) (mvT hZ (ow hw 7 rfl)) (mvT hZ (ow hw 8 rfl)) (by decide) (backOf (W := 1) (rm_mu2 l Z a0 hw [] b82 b41 vcs vf k41 c0 (37 : Int32) h82 n0 Zs84 os91 A82 F82_coder F82_value g_b82 (Ne.symm ne_b41_b82) Vx87 jc0.1 (by decide) jc0.2 (by decide)) hZ (ow hw 8 rfl) (ow hw 5 rfl) (by decide) (by decide)) (g := (mkF m 91 #[.val (.int wl), .val (.int wp), .val (.int wa), .val (.int wb), .val (.int wc), .val (.int wd), .val (.int 2), .val (.int 1), .val (.ref b41), .unset, .unset] [(.ref b41), (.ref b82), (.ref b82)])) rfl (by rw [hml]; rfl) (Steps.refl _) (a := b82) (argsL := [(.ref b41)]) (rest := [(.ref b82)]) (lenOf pd_17 rfl) rfl (by exact Nat.le_of_eq rfl) (hb hby at_91) (fun _ _ => ⟨rfl, e82, (by decide : 2 + 2 ≤ _), (by decide : 6 + 6 ≤ _)⟩)
      dsimp only [Pt.U, Pt.locs, Pt.cells, Pt.slots] at X85 l85 y85 z85 st85 hQ85
      rw [l85, y85, z85] at X85
      obtain ⟨rfl, N85q, K85, A85, ob, kb, gb, szb, Fv85, hO85⟩ := hQ85
      have N85 := Fr.app N80 N85q
      have Zs92 : n0 ≤ T85.heap.size := Nat.le_trans Zs84 K85.1
      have ne_b41_ob : b41 ≠ ob := Nat.ne_of_lt (Nat.lt_of_lt_of_le Vx87.lt szb)
      have ne_b82_ob : b82 ≠ ob := Nat.ne_of_lt (Nat.lt_of_lt_of_le A82.lt szb)
      have sz_ob : h0.size ≤ ob := Nat.le_trans f90.1 szb
      have Sx85 : own_s2 Z T85.heap b82 ob kb c0 (37 : Int32) := ⟨A85, Fv85, hO85⟩
      have f94 := (Vx87.keep K85 (ninS ne_b41_b82 nin0))
      obtain ⟨_, _, ⟨T93, L93, k93, n93⟩, -, X93, ⟨Lc93, hQ93, l93, y93, z93⟩, st93⟩ := Jvm.LawKit.callS X85 hx (y := yn22) hown (mvT hZ (ow hw 32 rfl)) (mvT hZ (ow hw 33 rfl)) (mvT hZ (ow hw 34 rfl)) (mvT hZ (ow hw 35 rfl)) (by decide) (backOf (W := 0) (rm_rf2_1 l Z a0 hw [] b41 k41 c0 (37 : Int32) T85.heap n0 Zs92 f94 jc0.1 (by decide) jc0.2 (by decide)) hZ (ow hw 35 rfl) (ow hw 34 rfl) (by decide) (by decide)) (g := (mkF m 102 #[.val (.int wl), .val (.int wp), .val (.int wa), .val (.int wb), .val (.int wc), .val (.int wd), .val (.int 2), .val (.int 1), .val (.ref b41), .val (.ref b82), .unset] [(.int 1), (.int 2), (.ref b41)])) rfl (by rw [hml]; rfl) (argsL := [(.ref b41), (.int 2), (.int 1)]) (rest := []) (lenOf pd_18 rfl) rfl (by exact Nat.le_of_eq rfl) (hb hby at_102) (fun _ _ => ⟨rfl, rfl, (by decide : 4 + 0 ≤ _), (by decide : 12 + 0 ≤ _)⟩)
      dsimp only [Pt.U, Pt.locs, Pt.cells, Pt.slots] at X93 l93 y93 z93 st93 hQ93
      rw [l93, y93, z93] at X93
      obtain ⟨ze, rfl, hze, N93q, e93⟩ := hQ93
      have N93 := Fr.app N85 N93q
      have os96 := (own_st_keep os91 K85 (nsS A82.nostat ns0))
      obtain ⟨_, _, ⟨T95, L95, k95, n95⟩, -, X95, ⟨Lc95, hQ95, l95, y95, z95⟩, st95⟩ := Jvm.LawKit.callS X93 hx (y := yn23) hown (mvT hZ (ow hw 36 rfl)) (mvT hZ (ow hw 37 rfl)) (mvT hZ (ow hw 38 rfl)) (mvT hZ (ow hw 39 rfl)) (by decide) (backOf (W := 0) (rm_ee2_1 l Z a0 hw [] b82 vcs vf ob kb c0 (37 : Int32) T85.heap n0 Zs92 os96 Sx85) hZ (ow hw 39 rfl) (ow hw 38 rfl) (by decide) (by decide)) (g := (mkF m 111 #[.val (.int wl), .val (.int wp), .val (.int wa), .val (.int wb), .val (.int wc), .val (.int wd), .val (.int 2), .val (.int 1), .val (.ref b41), .val (.ref b82), .val (.int ze)] [(.int 1), (.ref b82)])) rfl (by rw [hml]; rfl) (argsL := [(.ref b82), (.int 1)]) (rest := []) (lenOf pd_19 rfl) rfl (by exact Nat.le_of_eq rfl) (hb hby at_111) (fun _ _ => ⟨rfl, e93, (by decide : 4 + 0 ≤ _), (by decide : 12 + 0 ≤ _)⟩)
      dsimp only [Pt.U, Pt.locs, Pt.cells, Pt.slots] at X95 l95 y95 z95 st95 hQ95
      rw [l95, y95, z95] at X95
      obtain ⟨zf, rfl, hzf, N95q, e95⟩ := hQ95
      have N95 := Fr.app N93 N95q
      have hc116_97 : zf.toInt = ze.toInt := by rw [hzf, hze]
      obtain ⟨fs, hr, q1, q2, q3, q4⟩ := X95.leave (v := some (.int 1)) (fun h => by rw [Bd.returns] at h; cases h)
      refine ⟨_, _, pre78 _ ?_, q1, q2, _, _, rfl, ?_, ⟨_, rfl⟩, q3, q4.mono (by decide) (by decide)⟩
      · refine XS.aload X52.here hx rfl (hb hby at_78) rfl rfl ?_
        show Steps p.tables e below (T52.setTop (mkF m 80 #[.val (.int wl), .val (.int wp), .val (.int wa), .val (.int wb), .val (.int wc), .val (.int wd), .val (.int 2), .val (.int 1), .val (.ref b41), .unset, .unset] [(.ref b41)])) _
        refine XS.iload X52.here hx rfl (hb hby at_80) rfl ?_
        refine XS.bipush X52.here hx rfl (hb hby at_82) ?_
        refine st80 _ ?_
        refine st82 _ ?_
        refine XS.dup X82.here hx rfl (hb hby at_88) rfl rfl ?_
        refine XS.aload X82.here hx rfl (hb hby at_89) rfl rfl ?_
        refine st85.trans ?_
        refine XS.astore X85.here hx rfl (hb hby at_94) rfl rfl (l' := #[.val (.int wl), .val (.int wp), .val (.int wa), .val (.int wb), .val (.int wc), .val (.int wd), .val (.int 2), .val (.int 1), .val (.ref b41), .val (.ref b82), .unset]) rfl ?_
        refine XS.aload X85.here hx rfl (hb hby at_96) rfl rfl ?_
        refine XS.iload X85.here hx rfl (hb hby at_98) rfl ?_
        refine XS.iload X85.here hx rfl (hb hby at_100) rfl ?_
        refine st93 _ ?_
        refine XS.istore X93.here hx rfl (hb hby at_105) rfl (l' := #[.val (.int wl), .val (.int wp), .val (.int wa), .val (.int wb), .val (.int wc), .val (.int wd), .val (.int 2), .val (.int 1), .val (.ref b41), .val (.ref b82), .val (.int ze)]) rfl ?_
        refine XS.aload X93.here hx rfl (hb hby at_107) rfl rfl ?_
        refine XS.iload X93.here hx rfl (hb hby at_109) rfl ?_
        refine st95 _ ?_
        refine XS.iload X95.here hx rfl (hb hby at_114) rfl ?_
        refine XS.icmpNo X95.here hx rfl (hb hby at_116) rfl (own_teq (a := zf) (b := ze) rfl rfl hc116_97).2 ?_
        refine XS.iconst X95.here hx rfl (hb hby at_119) ?_
        refine XS.goto X95.here hx rfl (pc0 := 120) (pc' := 124) rfl (hb hby at_120) (by decide) (by decide) ?_
        show Steps p.tables e below (T95.setTop (mkF m 124 #[.val (.int wl), .val (.int wp), .val (.int wa), .val (.int wb), .val (.int wc), .val (.int wd), .val (.int 2), .val (.int 1), .val (.ref b41), .val (.ref b82), .val (.int ze)] [(.int 1)])) _
        exact retN X95 hx (t := .boolean) Bd.returns (by simp) (hb hby at_124) hr
      · show Q0 Z _ _ _ _ _ _ _ _ h0 n0 _ T95.heap _
        rw [e95]
        exact ⟨rfl, N95⟩
  · have pre98 : oP p e below (s₁.setTop (mkF m 5 #[.val (.int wl), .val (.int wp), .val (.int wa), .val (.int wb), .val (.int wc), .val (.int wd), .unset, .unset, .unset, .unset, .unset] [(.int 3)])) (s₁.setTop (entryFrame m #[(.int wl), (.int wp), (.int wa), (.int wb), (.int wc), (.int wd)] maxLocals)) := pre2
    have pre99 : oP p e below (s₁.setTop (mkF m 14 #[.val (.int wl), .val (.int wp), .val (.int wa), .val (.int wb), .val (.int wc), .val (.int wd), .val (.int 3), .unset, .unset, .unset, .unset] [(.int ((wp &&& (2147483647 : Int32)) % (3 : Int32)))])) (s₁.setTop (entryFrame m #[(.int wl), (.int wp), (.int wa), (.int wb), (.int wc), (.int wd)] maxLocals)) := fun t kt => by
      refine pre98 _ ?_
      refine XS.istore X0.here hx rfl (hb hby at_5) rfl (l' := #[.val (.int wl), .val (.int wp), .val (.int wa), .val (.int wb), .val (.int wc), .val (.int wd), .val (.int 3), .unset, .unset, .unset, .unset]) rfl ?_
      refine XS.iloadN X0.here hx rfl (hb hby at_7) rfl ?_
      refine X0.ldcInt hx hown (mvT hZ (ow hw 0 rfl)) (g := (mkF m 8 #[.val (.int wl), .val (.int wp), .val (.int wa), .val (.int wb), .val (.int wc), .val (.int wd), .val (.int 3), .unset, .unset, .unset, .unset] [(.int wp)])) rfl (hb hby at_8) _ ?_
      refine XS.iand X0.here hx rfl (hb hby at_10) rfl ?_
      refine XS.iload X0.here hx rfl (hb hby at_11) rfl ?_
      refine iremM X0 hx rfl (hb hby at_13) rfl (by decide) ?_
      exact kt
    obtain ⟨vp, hvp⟩ : ∃ z : Int32, z = ((wp &&& (2147483647 : Int32)) % (3 : Int32)) := ⟨_, rfl⟩
    have jvp : 0 ≤ vp.toInt ∧ vp.toInt ≤ 2 := by rw [hvp]; have := rng32 wp; have : ((wp &&& (2147483647 : Int32))).toInt = wp.toInt % 2147483648 := c_mask wp (2147483647 : Int32) 31 (by decide) (by decide); have := c_irem (wp &&& (2147483647 : Int32)) (3 : Int32) 3 (by decide); omega
    have pre100 : oP p e below (s₁.setTop (mkF m 14 #[.val (.int wl), .val (.int wp), .val (.int wa), .val (.int wb), .val (.int wc), .val (.int wd), .val (.int 3), .unset, .unset, .unset, .unset] [(.int vp)])) (s₁.setTop (entryFrame m #[(.int wl), (.int wp), (.int wa), (.int wb), (.int wc), (.int wd)] maxLocals)) := by rw [hvp]; exact pre99
    obtain ⟨T101, h101, k101, X101, e101, E101, A101, st101⟩ := newP X0 hx hZ (ow hw 1 rfl) e0 (g := (mkF m 18 #[.val (.int wl), .val (.int wp), .val (.int wa), .val (.int wb), .val (.int wc), .val (.int wd), .val (.int 3), .val (.int vp), .unset, .unset, .unset] [(.int 3)])) rfl (hb hby at_18) rfl (by decide) (cap := 3) (by decide) (by decide) (by decide) (by decide)
    obtain ⟨b101, g101⟩ : ∃ z, z = h0.size := ⟨_, rfl⟩
    have g_b101 : n0 ≤ b101 := Nat.le_trans Z0 (Nat.le_of_eq g101.symm)
    have sz_b101 : h0.size ≤ b101 := Nat.le_trans (Keep.refl h0 []).1 (Nat.le_of_eq g101.symm)
    rw [← g101] at A101 st101
    have Zs102 : n0 ≤ h101.size := Nat.le_trans Z0 E101.1
    have V101 : Arv Z h101 b101 k101 .char (3 : Int32) [(.int 0), (.int 0), (.int 0)] (.int 0) := (Arv.new A101 (by decide)).pad (pad_rep [] (.int 0) 3)
    have pre103 : oP p e below (T101.setTop (mkF m 30 #[.val (.int wl), .val (.int wp), .val (.int wa), .val (.int wb), .val (.int wc), .val (.int wd), .val (.int 3), .val (.int vp), .val (.ref b101), .unset, .unset] [(.int ((wa &&& (65535 : Int32)).toUInt32.toUInt16.toUInt32.toInt32)), (.int 0), (.ref b101)])) (s₁.setTop (entryFrame m #[(.int wl), (.int wp), (.int wa), (.int wb), (.int wc), (.int wd)] maxLocals)) := fun t kt => by
      refine pre100 _ ?_
      refine XS.istore X0.here hx rfl (hb hby at_14) rfl (l' := #[.val (.int wl), .val (.int wp), .val (.int wa), .val (.int wb), .val (.int wc), .val (.int wd), .val (.int 3), .val (.int vp), .unset, .unset, .unset]) rfl ?_
      refine XS.iload X0.here hx rfl (hb hby at_16) rfl ?_
      refine st101 _ ?_
      refine XS.astore X101.here hx rfl (hb hby at_20) rfl rfl (l' := #[.val (.int wl), .val (.int wp), .val (.int wa), .val (.int wb), .val (.int wc), .val (.int wd), .val (.int 3), .val (.int vp), .val (.ref b101), .unset, .unset]) rfl ?_
      refine XS.aload X101.here hx rfl (hb hby at_22) rfl rfl ?_
      refine XS.iconst X101.here hx rfl (hb hby at_24) ?_
      refine XS.iloadN X101.here hx rfl (hb hby at_25) rfl ?_
      refine X101.ldcInt hx hown (mvT hZ (ow hw 2 rfl)) (g := (mkF m 26 #[.val (.int wl), .val (.int wp), .val (.int wa), .val (.int wb), .val (.int wc), .val (.int wd), .val (.int 3), .val (.int vp), .val (.ref b101), .unset, .unset] [(.int wa), (.int 0), (.ref b101)])) rfl (hb hby at_26) _ ?_
      show Steps p.tables e below (T101.setTop (mkF m 28 #[.val (.int wl), .val (.int wp), .val (.int wa), .val (.int wb), .val (.int wc), .val (.int wd), .val (.int 3), .val (.int vp), .val (.ref b101), .unset, .unset] [(.int 65535), (.int wa), (.int 0), (.ref b101)])) _
      refine XS.iand X101.here hx rfl (hb hby at_28) rfl ?_
      refine XS.i2c X101.here hx rfl (hb hby at_29) rfl ?_
      exact kt
    obtain ⟨c0, hc0⟩ : ∃ z : Int32, z = ((wa &&& (65535 : Int32)).toUInt32.toUInt16.toUInt32.toInt32) := ⟨_, rfl⟩
    have jc0 : 0 ≤ c0.toInt ∧ c0.toInt < 65536 := by rw [hc0]; have := rng32 wa; have : ((wa &&& (65535 : Int32))).toInt = wa.toInt % 65536 := c_mask wa (65535 : Int32) 16 (by decide) (by decide); (first | (have : (((wa &&& (65535 : Int32)).toUInt32.toUInt16.toUInt32.toInt32)).toInt = (wa &&& (65535 : Int32)).toInt := (by have := c_i2c (wa &&& (65535 : Int32)); omega)) | (have := c_i2c (wa &&& (65535 : Int32)))); omega
    have pre104 : oP p e below (T101.setTop (mkF m 30 #[.val (.int wl), .val (.int wp), .val (.int wa), .val (.int wb), .val (.int wc), .val (.int wd), .val (.int 3), .val (.int vp), .val (.ref b101), .unset, .unset] [(.int c0), (.int 0), (.ref b101)])) (s₁.setTop (entryFrame m #[(.int wl), (.int wp), (.int wa), (.int wb), (.int wc), (.int wd)] maxLocals)) := by rw [hc0]; exact pre103
    obtain ⟨cl105, Ar105, q105, S105, M105, H105, G105⟩ := id V101
    have hin105 : ¬ ((0 : Int32) < 0 ∨ cl105.slots.size ≤ ((0 : Int32)).toNatClampNeg) := inb_of S105 ⟨by decide, by decide⟩
    obtain ⟨T106, h106, X106, e106, W106, st106⟩ := stC X101 hx hZ e101 Ar105 (j := (0 : Int32)) hin105 (g := (mkF m 30 #[.val (.int wl), .val (.int wp), .val (.int wa), .val (.int wb), .val (.int wc), .val (.int wd), .val (.int 3), .val (.int vp), .val (.ref b101), .unset, .unset] [(.int c0), (.int 0), (.ref b101)])) rfl rfl (hb hby at_30)
    have N106 := Fr.snoc X106 N0 g_b101
    have Zs107 : n0 ≤ h106.size := by rw [W106.size]; exact Zs102
    have V106 : Arv Z h106 b101 k101 .char (3 : Int32) [(.int (nar .char c0)), (.int 0), (.int 0)] (.int 0) := Arv.set Ar105 q105 S105 M105 H105 G105 (fits_nar_char _) W106 0 rfl (Nat.le_of_ble_eq_true rfl)
    have hc34_108 : (1 : Int) < (3 : Int) := by decide
    have pre109 : oP p e below (T106.setTop (mkF m 45 #[.val (.int wl), .val (.int wp), .val (.int wa), .val (.int wb), .val (.int wc), .val (.int wd), .val (.int 3), .val (.int vp), .val (.ref b101), .unset, .unset] [(.int ((wb &&& (65535 : Int32)).toUInt32.toUInt16.toUInt32.toInt32)), (.int 1), (.ref b101)])) (s₁.setTop (entryFrame m #[(.int wl), (.int wp), (.int wa), (.int wb), (.int wc), (.int wd)] maxLocals)) := fun t kt => by
      refine pre104 _ ?_
      refine st106 _ ?_
      refine XS.iload X106.here hx rfl (hb hby at_31) rfl ?_
      refine XS.iconst X106.here hx rfl (hb hby at_33) ?_
      refine XS.icmpNo X106.here hx rfl (hb hby at_34) rfl (own_tlt (a := (1 : Int32)) (b := (3 : Int32)) (by decide) (by decide) hc34_108).2.2.2 ?_
      refine XS.aload X106.here hx rfl (hb hby at_37) rfl rfl ?_
      refine XS.iconst X106.here hx rfl (hb hby at_39) ?_
      refine XS.iloadN X106.here hx rfl (hb hby at_40) rfl ?_
      refine X106.ldcInt hx hown (mvT hZ (ow hw 2 rfl)) (g := (mkF m 41 #[.val (.int wl), .val (.int wp), .val (.int wa), .val (.int wb), .val (.int wc), .val (.int wd), .val (.int 3), .val (.int vp), .val (.ref b101), .unset, .unset] [(.int wb), (.int 1), (.ref b101)])) rfl (hb hby at_41) _ ?_
      refine XS.iand X106.here hx rfl (hb hby at_43) rfl ?_
      refine XS.i2c X106.here hx rfl (hb hby at_44) rfl ?_
      exact kt
    obtain ⟨c1, hc1⟩ : ∃ z : Int32, z = ((wb &&& (65535 : Int32)).toUInt32.toUInt16.toUInt32.toInt32) := ⟨_, rfl⟩
    have jc1 : 0 ≤ c1.toInt ∧ c1.toInt < 65536 := by rw [hc1]; have := rng32 wb; have : ((wb &&& (65535 : Int32))).toInt = wb.toInt % 65536 := c_mask wb (65535 : Int32) 16 (by decide) (by decide); (first | (have : (((wb &&& (65535 : Int32)).toUInt32.toUInt16.toUInt32.toInt32)).toInt = (wb &&& (65535 : Int32)).toInt := (by have := c_i2c (wb &&& (65535 : Int32)); omega)) | (have := c_i2c (wb &&& (65535 : Int32)))); omega
    have pre110 : oP p e below (T106.setTop (mkF m 45 #[.val (.int wl), .val (.int wp), .val (.int wa), .val (.int wb), .val (.int wc), .val (.int wd), .val (.int 3), .val (.int vp), .val (.ref b101), .unset, .unset] [(.int c1), (.int 1), (.ref b101)])) (s₁.setTop (entryFrame m #[(.int wl), (.int wp), (.int wa), (.int wb), (.int wc), (.int wd)] maxLocals)) := by rw [hc1]; exact pre109
    obtain ⟨cl111, Ar111, q111, S111, M111, H111, G111⟩ := id V106
    have hin111 : ¬ ((1 : Int32) < 0 ∨ cl111.slots.size ≤ ((1 : Int32)).toNatClampNeg) := inb_of S111 ⟨by decide, by decide⟩
    obtain ⟨T112, h112, X112, e112, W112, st112⟩ := stC X106 hx hZ e106 Ar111 (j := (1 : Int32)) hin111 (g := (mkF m 45 #[.val (.int wl), .val (.int wp), .val (.int wa), .val (.int wb), .val (.int wc), .val (.int wd), .val (.int 3), .val (.int vp), .val (.ref b101), .unset, .unset] [(.int c1), (.int 1), (.ref b101)])) rfl rfl (hb hby at_45)
    have N112 := Fr.snoc X112 N106 g_b101
    have Zs113 : n0 ≤ h112.size := by rw [W112.size]; exact Zs107
    have V112 : Arv Z h112 b101 k101 .char (3 : Int32) [(.int (nar .char c0)), (.int (nar .char c1)), (.int 0)] (.int 0) := Arv.set Ar111 q111 S111 M111 H111 G111 (fits_nar_char _) W112 1 rfl (Nat.le_of_ble_eq_true rfl)
    have hc49_114 : (2 : Int) < (3 : Int) := by decide
    have pre115 : oP p e below (T112.setTop (mkF m 61 #[.val (.int wl), .val (.int wp), .val (.int wa), .val (.int wb), .val (.int wc), .val (.int wd), .val (.int 3), .val (.int vp), .val (.ref b101), .unset, .unset] [(.int ((wc &&& (65535 : Int32)).toUInt32.toUInt16.toUInt32.toInt32)), (.int 2), (.ref b101)])) (s₁.setTop (entryFrame m #[(.int wl), (.int wp), (.int wa), (.int wb), (.int wc), (.int wd)] maxLocals)) := fun t kt => by
      refine pre110 _ ?_
      refine st112 _ ?_
      refine XS.iload X112.here hx rfl (hb hby at_46) rfl ?_
      refine XS.iconst X112.here hx rfl (hb hby at_48) ?_
      refine XS.icmpNo X112.here hx rfl (hb hby at_49) rfl (own_tlt (a := (2 : Int32)) (b := (3 : Int32)) (by decide) (by decide) hc49_114).2.2.2 ?_
      refine XS.aload X112.here hx rfl (hb hby at_52) rfl rfl ?_
      refine XS.iconst X112.here hx rfl (hb hby at_54) ?_
      refine XS.iload X112.here hx rfl (hb hby at_55) rfl ?_
      refine X112.ldcInt hx hown (mvT hZ (ow hw 2 rfl)) (g := (mkF m 57 #[.val (.int wl), .val (.int wp), .val (.int wa), .val (.int wb), .val (.int wc), .val (.int wd), .val (.int 3), .val (.int vp), .val (.ref b101), .unset, .unset] [(.int wc), (.int 2), (.ref b101)])) rfl (hb hby at_57) _ ?_
      show Steps p.tables e below (T112.setTop (mkF m 59 #[.val (.int wl), .val (.int wp), .val (.int wa), .val (.int wb), .val (.int wc), .val (.int wd), .val (.int 3), .val (.int vp), .val (.ref b101), .unset, .unset] [(.int 65535), (.int wc), (.int 2), (.ref b101)])) _
      refine XS.iand X112.here hx rfl (hb hby at_59) rfl ?_
      refine XS.i2c X112.here hx rfl (hb hby at_60) rfl ?_
      exact kt
    obtain ⟨c2, hc2⟩ : ∃ z : Int32, z = ((wc &&& (65535 : Int32)).toUInt32.toUInt16.toUInt32.toInt32) := ⟨_, rfl⟩
    have jc2 : 0 ≤ c2.toInt ∧ c2.toInt < 65536 := by rw [hc2]; have := rng32 wc; have : ((wc &&& (65535 : Int32))).toInt = wc.toInt % 65536 := c_mask wc (65535 : Int32) 16 (by decide) (by decide); (first | (have : (((wc &&& (65535 : Int32)).toUInt32.toUInt16.toUInt32.toInt32)).toInt = (wc &&& (65535 : Int32)).toInt := (by have := c_i2c (wc &&& (65535 : Int32)); omega)) | (have := c_i2c (wc &&& (65535 : Int32)))); omega
    have pre116 : oP p e below (T112.setTop (mkF m 61 #[.val (.int wl), .val (.int wp), .val (.int wa), .val (.int wb), .val (.int wc), .val (.int wd), .val (.int 3), .val (.int vp), .val (.ref b101), .unset, .unset] [(.int c2), (.int 2), (.ref b101)])) (s₁.setTop (entryFrame m #[(.int wl), (.int wp), (.int wa), (.int wb), (.int wc), (.int wd)] maxLocals)) := by rw [hc2]; exact pre115
    obtain ⟨cl117, Ar117, q117, S117, M117, H117, G117⟩ := id V112
    have hin117 : ¬ ((2 : Int32) < 0 ∨ cl117.slots.size ≤ ((2 : Int32)).toNatClampNeg) := inb_of S117 ⟨by decide, by decide⟩
    obtain ⟨T118, h118, X118, e118, W118, st118⟩ := stC X112 hx hZ e112 Ar117 (j := (2 : Int32)) hin117 (g := (mkF m 61 #[.val (.int wl), .val (.int wp), .val (.int wa), .val (.int wb), .val (.int wc), .val (.int wd), .val (.int 3), .val (.int vp), .val (.ref b101), .unset, .unset] [(.int c2), (.int 2), (.ref b101)])) rfl rfl (hb hby at_61)
    have N118 := Fr.snoc X118 N112 g_b101
    have Zs119 : n0 ≤ h118.size := by rw [W118.size]; exact Zs113
    have V118 : Arv Z h118 b101 k101 .char (3 : Int32) [(.int (nar .char c0)), (.int (nar .char c1)), (.int (nar .char c2))] (.int 0) := Arv.set Ar117 q117 S117 M117 H117 G117 (fits_nar_char _) W118 2 rfl (Nat.le_of_ble_eq_true rfl)
    have hc65_120 : ¬ ((3 : Int) < (3 : Int)) := by decide
    have hsp121 : vp = (0 : Int32) ∨ vp = (1 : Int32) ∨ vp = (2 : Int32) := by
      have q : vp.toInt = 0 ∨ vp.toInt = 1 ∨ vp.toInt = 2 := by omega
      rcases q with q | q | q
      · exact Or.inl (Int32.toInt_inj.mp (by rw [q]; decide))
      · exact Or.inr (Or.inl (Int32.toInt_inj.mp (by rw [q]; decide)))
      · exact Or.inr (Or.inr (Int32.toInt_inj.mp (by rw [q]; decide)))
    have pre122 : oP p e below (T118.setTop (mkF m 78 #[.val (.int wl), .val (.int wp), .val (.int wa), .val (.int wb), .val (.int wc), .val (.int wd), .val (.int 3), .val (.int vp), .val (.ref b101), .unset, .unset] [])) (s₁.setTop (entryFrame m #[(.int wl), (.int wp), (.int wa), (.int wb), (.int wc), (.int wd)] maxLocals)) := fun t kt => by
      refine pre116 _ ?_
      refine st118 _ ?_
      refine XS.iload X118.here hx rfl (hb hby at_62) rfl ?_
      refine XS.iconst X118.here hx rfl (hb hby at_64) ?_
      refine XS.icmpYes X118.here hx rfl (pc0 := 65) (pc' := 78) rfl (hb hby at_65) rfl (own_flt (a := (3 : Int32)) (b := (3 : Int32)) (by decide) (by decide) hc65_120).2.2.2 (by decide) (by decide) ?_
      exact kt
    rcases hsp121 with rfl | rfl | rfl
    · have pre123 : oP p e below (T118.setTop (mkF m 78 #[.val (.int wl), .val (.int wp), .val (.int wa), .val (.int wb), .val (.int wc), .val (.int wd), .val (.int 3), .val (.int 0), .val (.ref b101), .unset, .unset] [])) (s₁.setTop (entryFrame m #[(.int wl), (.int wp), (.int wa), (.int wb), (.int wc), (.int wd)] maxLocals)) := pre122
      obtain ⟨cl124, Ar124, q124, S124, M124, H124, G124⟩ := id V118
      have hin124 : ¬ ((0 : Int32) < 0 ∨ cl124.slots.size ≤ ((0 : Int32)).toNatClampNeg) := inb_of S124 ⟨by decide, by decide⟩
      obtain ⟨T125, h125, X125, e125, W125, st125⟩ := stC X118 hx hZ e118 Ar124 (j := (0 : Int32)) hin124 (g := (mkF m 84 #[.val (.int wl), .val (.int wp), .val (.int wa), .val (.int wb), .val (.int wc), .val (.int wd), .val (.int 3), .val (.int 0), .val (.ref b101), .unset, .unset] [(.int 37), (.int 0), (.ref b101)])) rfl rfl (hb hby at_84)
      have N125 := Fr.snoc X125 N118 g_b101
      have Zs126 : n0 ≤ h125.size := by rw [W125.size]; exact Zs119
      have V125 : Arv Z h125 b101 k101 .char (3 : Int32) [(.int (nar .char (37 : Int32))), (.int (nar .char c1)), (.int (nar .char c2))] (.int 0) := Arv.set Ar124 q124 S124 M124 H124 G124 (fits_nar_char _) W125 0 rfl (Nat.le_of_ble_eq_true rfl)
      obtain ⟨T127, h127, X127, e127, E127, A127, D127, -, st127⟩ := newO X125 hx hZ hown (ow hw 3 rfl) (ow hw 4 rfl) (ow hw 5 rfl) e125 (g := (mkF m 85 #[.val (.int wl), .val (.int wp), .val (.int wa), .val (.int wb), .val (.int wc), .val (.int wd), .val (.int 3), .val (.int 0), .val (.ref b101), .unset, .unset] [])) rfl (hb hby at_85) (by decide) (by decide)
      obtain ⟨b127, g127⟩ : ∃ z, z = h125.size := ⟨_, rfl⟩
      have ne_b101_b127 : b101 ≠ b127 := Nat.ne_of_lt (Nat.lt_of_lt_of_le V125.lt (Nat.le_of_eq g127.symm))
      have g_b127 : n0 ≤ b127 := Nat.le_trans Zs126 (Nat.le_of_eq g127.symm)
      have f128 := ((((((Keep.refl h0 []).ext E101).wr W106 (Or.inr sz_b101)).wr W112 (Or.inr sz_b101)).wr W118 (Or.inr sz_b101)).wr W125 (Or.inr sz_b101))
      have sz_b127 : h0.size ≤ b127 := Nat.le_trans f128.1 (Nat.le_of_eq g127.symm)
      rw [← g127] at A127 D127 st127
      have Zs129 : n0 ≤ h127.size := Nat.le_trans Zs126 E127.1
      have F127_coder : Fld Z h127 b127 "java/lang/String" "coder" "B" (.int 0) := D127 (Or.inr (ow hw 29 rfl)) (ty := .byte) (by decide)
      have F127_value : Fld Z h127 b127 "java/lang/String" "value" "[B" .null := D127 (Or.inr (ow hw 31 rfl)) (ty := (.array .byte)) (by decide)
      have f131 := (V125.ext E127)
      have hn133 : nar .char (37 : Int32) = (37 : Int32) := own_narc (37 : Int32) (by decide) (by decide)
      have hn134 : nar .char c1 = c1 := own_narc c1 jc1.1 jc1.2
      have hn135 : nar .char c2 = c2 := own_narc c2 jc2.1 jc2.2
      have Vx132 : Arv Z h127 b101 k101 .char (3 : Int32) [(.int 37), (.int c1), (.int c2)] (.int 0) := by
        have q := f131
        rw [hn133, hn134, hn135] at q; exact q
      have f136 := (f128.ext E127)
      have os137 := (own_st_ext (own_st_wr (own_st_wr (own_st_wr (own_st_wr (own_st_ext Os E101) W106) W112) W118) W125) E127)
      obtain ⟨_, _, ⟨T130, L130, k130, n130⟩, -, X130, ⟨Lc130, hQ130, l130, y130, z130⟩, st130⟩ := X127.specialBack hx (y := yn12) rfl hown (mvT hZ (ow hw 6 rfl)) (mvT hZ (ow hw 7 rfl)) (mvT hZ (ow hw 8 rfl)) (by decide) (backOf (W := 1) (rm_mu3 l Z a0 hw [] b127 b101 vcs vf k101 (37 : Int32) c1 c2 h127 n0 Zs129 os137 A127 F127_coder F127_value g_b127 (Ne.symm ne_b101_b127) Vx132 (by decide) jc1.1 jc2.1 (by decide) jc1.2 jc2.2) hZ (ow hw 8 rfl) (ow hw 5 rfl) (by decide) (by decide)) (g := (mkF m 91 #[.val (.int wl), .val (.int wp), .val (.int wa), .val (.int wb), .val (.int wc), .val (.int wd), .val (.int 3), .val (.int 0), .val (.ref b101), .unset, .unset] [(.ref b101), (.ref b127), (.ref b127)])) rfl (by rw [hml]; rfl) (Steps.refl _) (a := b127) (argsL := [(.ref b101)]) (rest := [(.ref b127)]) (lenOf pd_17 rfl) rfl (by exact Nat.le_of_eq rfl) (hb hby at_91) (fun _ _ => ⟨rfl, e127, (by decide : 2 + 2 ≤ _), (by decide : 7 + 9 ≤ _)⟩)
      dsimp only [Pt.U, Pt.locs, Pt.cells, Pt.slots] at X130 l130 y130 z130 st130 hQ130
      rw [l130, y130, z130] at X130
      obtain ⟨rfl, N130q, K130, A130, ob, kb, gb, szb, Fv130, hO130⟩ := hQ130
      have N130 := Fr.app N125 N130q
      have Zs138 : n0 ≤ T130.heap.size := Nat.le_trans Zs129 K130.1
      have ne_b101_ob : b101 ≠ ob := Nat.ne_of_lt (Nat.lt_of_lt_of_le Vx132.lt szb)
      have ne_b127_ob : b127 ≠ ob := Nat.ne_of_lt (Nat.lt_of_lt_of_le A127.lt szb)
      have sz_ob : h0.size ≤ ob := Nat.le_trans f136.1 szb
      have Sx130 : own_s3 Z T130.heap b127 ob kb (37 : Int32) c1 c2 := ⟨A130, Fv130, hO130⟩
      have f140 := (Vx132.keep K130 (ninS ne_b101_b127 nin0))
      obtain ⟨_, _, ⟨T139, L139, k139, n139⟩, -, X139, ⟨Lc139, hQ139, l139, y139, z139⟩, st139⟩ := Jvm.LawKit.callS X130 hx (y := yn22) hown (mvT hZ (ow hw 32 rfl)) (mvT hZ (ow hw 33 rfl)) (mvT hZ (ow hw 34 rfl)) (mvT hZ (ow hw 35 rfl)) (by decide) (backOf (W := 0) (rm_rf3_0 l Z a0 hw [] b101 k101 (37 : Int32) c1 c2 T130.heap n0 Zs138 f140 (by decide) jc1.1 jc2.1 (by decide) jc1.2 jc2.2) hZ (ow hw 35 rfl) (ow hw 34 rfl) (by decide) (by decide)) (g := (mkF m 102 #[.val (.int wl), .val (.int wp), .val (.int wa), .val (.int wb), .val (.int wc), .val (.int wd), .val (.int 3), .val (.int 0), .val (.ref b101), .val (.ref b127), .unset] [(.int 0), (.int 3), (.ref b101)])) rfl (by rw [hml]; rfl) (argsL := [(.ref b101), (.int 3), (.int 0)]) (rest := []) (lenOf pd_18 rfl) rfl (by exact Nat.le_of_eq rfl) (hb hby at_102) (fun _ _ => ⟨rfl, rfl, (by decide : 4 + 0 ≤ _), (by decide : 16 + 0 ≤ _)⟩)
      dsimp only [Pt.U, Pt.locs, Pt.cells, Pt.slots] at X139 l139 y139 z139 st139 hQ139
      rw [l139, y139, z139] at X139
      obtain ⟨ze, rfl, hze, N139q, e139⟩ := hQ139
      have N139 := Fr.app N130 N139q
      have os142 := (own_st_keep os137 K130 (nsS A127.nostat ns0))
      obtain ⟨_, _, ⟨T141, L141, k141, n141⟩, -, X141, ⟨Lc141, hQ141, l141, y141, z141⟩, st141⟩ := Jvm.LawKit.callS X139 hx (y := yn23) hown (mvT hZ (ow hw 36 rfl)) (mvT hZ (ow hw 37 rfl)) (mvT hZ (ow hw 38 rfl)) (mvT hZ (ow hw 39 rfl)) (by decide) (backOf (W := 0) (rm_ee3_0 l Z a0 hw [] b127 vcs vf ob kb (37 : Int32) c1 c2 T130.heap n0 Zs138 os142 Sx130) hZ (ow hw 39 rfl) (ow hw 38 rfl) (by decide) (by decide)) (g := (mkF m 111 #[.val (.int wl), .val (.int wp), .val (.int wa), .val (.int wb), .val (.int wc), .val (.int wd), .val (.int 3), .val (.int 0), .val (.ref b101), .val (.ref b127), .val (.int ze)] [(.int 0), (.ref b127)])) rfl (by rw [hml]; rfl) (argsL := [(.ref b127), (.int 0)]) (rest := []) (lenOf pd_19 rfl) rfl (by exact Nat.le_of_eq rfl) (hb hby at_111) (fun _ _ => ⟨rfl, e139, (by decide : 4 + 0 ≤ _), (by decide : 16 + 0 ≤ _)⟩)
      dsimp only [Pt.U, Pt.locs, Pt.cells, Pt.slots] at X141 l141 y141 z141 st141 hQ141
      rw [l141, y141, z141] at X141
      obtain ⟨zf, rfl, hzf, N141q, e141⟩ := hQ141
      have N141 := Fr.app N139 N141q
      have hc116_143 : zf.toInt = ze.toInt := by rw [hzf, hze]
      obtain ⟨fs, hr, q1, q2, q3, q4⟩ := X141.leave (v := some (.int 1)) (fun h => by rw [Bd.returns] at h; cases h)
      refine ⟨_, _, pre123 _ ?_, q1, q2, _, _, rfl, ?_, ⟨_, rfl⟩, q3, q4.mono (by decide) (by decide)⟩
      · refine XS.aload X118.here hx rfl (hb hby at_78) rfl rfl ?_
        refine XS.iload X118.here hx rfl (hb hby at_80) rfl ?_
        refine XS.bipush X118.here hx rfl (hb hby at_82) ?_
        refine st125 _ ?_
        refine st127 _ ?_
        refine XS.dup X127.here hx rfl (hb hby at_88) rfl rfl ?_
        refine XS.aload X127.here hx rfl (hb hby at_89) rfl rfl ?_
        refine st130.trans ?_
        refine XS.astore X130.here hx rfl (hb hby at_94) rfl rfl (l' := #[.val (.int wl), .val (.int wp), .val (.int wa), .val (.int wb), .val (.int wc), .val (.int wd), .val (.int 3), .val (.int 0), .val (.ref b101), .val (.ref b127), .unset]) rfl ?_
        refine XS.aload X130.here hx rfl (hb hby at_96) rfl rfl ?_
        refine XS.iload X130.here hx rfl (hb hby at_98) rfl ?_
        refine XS.iload X130.here hx rfl (hb hby at_100) rfl ?_
        refine st139 _ ?_
        refine XS.istore X139.here hx rfl (hb hby at_105) rfl (l' := #[.val (.int wl), .val (.int wp), .val (.int wa), .val (.int wb), .val (.int wc), .val (.int wd), .val (.int 3), .val (.int 0), .val (.ref b101), .val (.ref b127), .val (.int ze)]) rfl ?_
        show Steps p.tables e below (T139.setTop (mkF m 107 #[.val (.int wl), .val (.int wp), .val (.int wa), .val (.int wb), .val (.int wc), .val (.int wd), .val (.int 3), .val (.int 0), .val (.ref b101), .val (.ref b127), .val (.int ze)] [])) _
        refine XS.aload X139.here hx rfl (hb hby at_107) rfl rfl ?_
        refine XS.iload X139.here hx rfl (hb hby at_109) rfl ?_
        refine st141 _ ?_
        refine XS.iload X141.here hx rfl (hb hby at_114) rfl ?_
        refine XS.icmpNo X141.here hx rfl (hb hby at_116) rfl (own_teq (a := zf) (b := ze) rfl rfl hc116_143).2 ?_
        refine XS.iconst X141.here hx rfl (hb hby at_119) ?_
        refine XS.goto X141.here hx rfl (pc0 := 120) (pc' := 124) rfl (hb hby at_120) (by decide) (by decide) ?_
        exact retN X141 hx (t := .boolean) Bd.returns (by simp) (hb hby at_124) hr
      · show Q0 Z _ _ _ _ _ _ _ _ h0 n0 _ T141.heap _
        rw [e141]
        exact ⟨rfl, N141⟩
    · have pre144 : oP p e below (T118.setTop (mkF m 78 #[.val (.int wl), .val (.int wp), .val (.int wa), .val (.int wb), .val (.int wc), .val (.int wd), .val (.int 3), .val (.int 1), .val (.ref b101), .unset, .unset] [])) (s₁.setTop (entryFrame m #[(.int wl), (.int wp), (.int wa), (.int wb), (.int wc), (.int wd)] maxLocals)) := pre122
      obtain ⟨cl145, Ar145, q145, S145, M145, H145, G145⟩ := id V118
      have hin145 : ¬ ((1 : Int32) < 0 ∨ cl145.slots.size ≤ ((1 : Int32)).toNatClampNeg) := inb_of S145 ⟨by decide, by decide⟩
      obtain ⟨T146, h146, X146, e146, W146, st146⟩ := stC X118 hx hZ e118 Ar145 (j := (1 : Int32)) hin145 (g := (mkF m 84 #[.val (.int wl), .val (.int wp), .val (.int wa), .val (.int wb), .val (.int wc), .val (.int wd), .val (.int 3), .val (.int 1), .val (.ref b101), .unset, .unset] [(.int 37), (.int 1), (.ref b101)])) rfl rfl (hb hby at_84)
      have N146 := Fr.snoc X146 N118 g_b101
      have Zs147 : n0 ≤ h146.size := by rw [W146.size]; exact Zs119
      have V146 : Arv Z h146 b101 k101 .char (3 : Int32) [(.int (nar .char c0)), (.int (nar .char (37 : Int32))), (.int (nar .char c2))] (.int 0) := Arv.set Ar145 q145 S145 M145 H145 G145 (fits_nar_char _) W146 1 rfl (Nat.le_of_ble_eq_true rfl)
      obtain ⟨T148, h148, X148, e148, E148, A148, D148, -, st148⟩ := newO X146 hx hZ hown (ow hw 3 rfl) (ow hw 4 rfl) (ow hw 5 rfl) e146 (g := (mkF m 85 #[.val (.int wl), .val (.int wp), .val (.int wa), .val (.int wb), .val (.int wc), .val (.int wd), .val (.int 3), .val (.int 1), .val (.ref b101), .unset, .unset] [])) rfl (hb hby at_85) (by decide) (by decide)
      obtain ⟨b148, g148⟩ : ∃ z, z = h146.size := ⟨_, rfl⟩
      have ne_b101_b148 : b101 ≠ b148 := Nat.ne_of_lt (Nat.lt_of_lt_of_le V146.lt (Nat.le_of_eq g148.symm))
      have g_b148 : n0 ≤ b148 := Nat.le_trans Zs147 (Nat.le_of_eq g148.symm)
      have f149 := ((((((Keep.refl h0 []).ext E101).wr W106 (Or.inr sz_b101)).wr W112 (Or.inr sz_b101)).wr W118 (Or.inr sz_b101)).wr W146 (Or.inr sz_b101))
      have sz_b148 : h0.size ≤ b148 := Nat.le_trans f149.1 (Nat.le_of_eq g148.symm)
      rw [← g148] at A148 D148 st148
      have Zs150 : n0 ≤ h148.size := Nat.le_trans Zs147 E148.1
      have F148_coder : Fld Z h148 b148 "java/lang/String" "coder" "B" (.int 0) := D148 (Or.inr (ow hw 29 rfl)) (ty := .byte) (by decide)
      have F148_value : Fld Z h148 b148 "java/lang/String" "value" "[B" .null := D148 (Or.inr (ow hw 31 rfl)) (ty := (.array .byte)) (by decide)
      have f152 := (V146.ext E148)
      have hn154 : nar .char c0 = c0 := own_narc c0 jc0.1 jc0.2
      have hn155 : nar .char (37 : Int32) = (37 : Int32) := own_narc (37 : Int32) (by decide) (by decide)
      have hn156 : nar .char c2 = c2 := own_narc c2 jc2.1 jc2.2
      have Vx153 : Arv Z h148 b101 k101 .char (3 : Int32) [(.int c0), (.int 37), (.int c2)] (.int 0) := by
        have q := f152
        rw [hn154, hn155, hn156] at q; exact q
      have f157 := (f149.ext E148)
      have os158 := (own_st_ext (own_st_wr (own_st_wr (own_st_wr (own_st_wr (own_st_ext Os E101) W106) W112) W118) W146) E148)
      obtain ⟨_, _, ⟨T151, L151, k151, n151⟩, -, X151, ⟨Lc151, hQ151, l151, y151, z151⟩, st151⟩ := X148.specialBack hx (y := yn12) rfl hown (mvT hZ (ow hw 6 rfl)) (mvT hZ (ow hw 7 rfl)) (mvT hZ (ow hw 8 rfl)) (by decide) (backOf (W := 1) (rm_mu3 l Z a0 hw [] b148 b101 vcs vf k101 c0 (37 : Int32) c2 h148 n0 Zs150 os158 A148 F148_coder F148_value g_b148 (Ne.symm ne_b101_b148) Vx153 jc0.1 (by decide) jc2.1 jc0.2 (by decide) jc2.2) hZ (ow hw 8 rfl) (ow hw 5 rfl) (by decide) (by decide)) (g := (mkF m 91 #[.val (.int wl), .val (.int wp), .val (.int wa), .val (.int wb), .val (.int wc), .val (.int wd), .val (.int 3), .val (.int 1), .val (.ref b101), .unset, .unset] [(.ref b101), (.ref b148), (.ref b148)])) rfl (by rw [hml]; rfl) (Steps.refl _) (a := b148) (argsL := [(.ref b101)]) (rest := [(.ref b148)]) (lenOf pd_17 rfl) rfl (by exact Nat.le_of_eq rfl) (hb hby at_91) (fun _ _ => ⟨rfl, e148, (by decide : 2 + 2 ≤ _), (by decide : 7 + 9 ≤ _)⟩)
      dsimp only [Pt.U, Pt.locs, Pt.cells, Pt.slots] at X151 l151 y151 z151 st151 hQ151
      rw [l151, y151, z151] at X151
      obtain ⟨rfl, N151q, K151, A151, ob, kb, gb, szb, Fv151, hO151⟩ := hQ151
      have N151 := Fr.app N146 N151q
      have Zs159 : n0 ≤ T151.heap.size := Nat.le_trans Zs150 K151.1
      have ne_b101_ob : b101 ≠ ob := Nat.ne_of_lt (Nat.lt_of_lt_of_le Vx153.lt szb)
      have ne_b148_ob : b148 ≠ ob := Nat.ne_of_lt (Nat.lt_of_lt_of_le A148.lt szb)
      have sz_ob : h0.size ≤ ob := Nat.le_trans f157.1 szb
      have Sx151 : own_s3 Z T151.heap b148 ob kb c0 (37 : Int32) c2 := ⟨A151, Fv151, hO151⟩
      have f161 := (Vx153.keep K151 (ninS ne_b101_b148 nin0))
      obtain ⟨_, _, ⟨T160, L160, k160, n160⟩, -, X160, ⟨Lc160, hQ160, l160, y160, z160⟩, st160⟩ := Jvm.LawKit.callS X151 hx (y := yn22) hown (mvT hZ (ow hw 32 rfl)) (mvT hZ (ow hw 33 rfl)) (mvT hZ (ow hw 34 rfl)) (mvT hZ (ow hw 35 rfl)) (by decide) (backOf (W := 0) (rm_rf3_1 l Z a0 hw [] b101 k101 c0 (37 : Int32) c2 T151.heap n0 Zs159 f161 jc0.1 (by decide) jc2.1 jc0.2 (by decide) jc2.2) hZ (ow hw 35 rfl) (ow hw 34 rfl) (by decide) (by decide)) (g := (mkF m 102 #[.val (.int wl), .val (.int wp), .val (.int wa), .val (.int wb), .val (.int wc), .val (.int wd), .val (.int 3), .val (.int 1), .val (.ref b101), .val (.ref b148), .unset] [(.int 1), (.int 3), (.ref b101)])) rfl (by rw [hml]; rfl) (argsL := [(.ref b101), (.int 3), (.int 1)]) (rest := []) (lenOf pd_18 rfl) rfl (by exact Nat.le_of_eq rfl) (hb hby at_102) (fun _ _ => ⟨rfl, rfl, (by decide : 4 + 0 ≤ _), (by decide : 16 + 0 ≤ _)⟩)
      dsimp only [Pt.U, Pt.locs, Pt.cells, Pt.slots] at X160 l160 y160 z160 st160 hQ160
      rw [l160, y160, z160] at X160
      obtain ⟨ze, rfl, hze, N160q, e160⟩ := hQ160
      have N160 := Fr.app N151 N160q
      have os163 := (own_st_keep os158 K151 (nsS A148.nostat ns0))
      obtain ⟨_, _, ⟨T162, L162, k162, n162⟩, -, X162, ⟨Lc162, hQ162, l162, y162, z162⟩, st162⟩ := Jvm.LawKit.callS X160 hx (y := yn23) hown (mvT hZ (ow hw 36 rfl)) (mvT hZ (ow hw 37 rfl)) (mvT hZ (ow hw 38 rfl)) (mvT hZ (ow hw 39 rfl)) (by decide) (backOf (W := 0) (rm_ee3_1 l Z a0 hw [] b148 vcs vf ob kb c0 (37 : Int32) c2 T151.heap n0 Zs159 os163 Sx151) hZ (ow hw 39 rfl) (ow hw 38 rfl) (by decide) (by decide)) (g := (mkF m 111 #[.val (.int wl), .val (.int wp), .val (.int wa), .val (.int wb), .val (.int wc), .val (.int wd), .val (.int 3), .val (.int 1), .val (.ref b101), .val (.ref b148), .val (.int ze)] [(.int 1), (.ref b148)])) rfl (by rw [hml]; rfl) (argsL := [(.ref b148), (.int 1)]) (rest := []) (lenOf pd_19 rfl) rfl (by exact Nat.le_of_eq rfl) (hb hby at_111) (fun _ _ => ⟨rfl, e160, (by decide : 4 + 0 ≤ _), (by decide : 16 + 0 ≤ _)⟩)
      dsimp only [Pt.U, Pt.locs, Pt.cells, Pt.slots] at X162 l162 y162 z162 st162 hQ162
      rw [l162, y162, z162] at X162
      obtain ⟨zf, rfl, hzf, N162q, e162⟩ := hQ162
      have N162 := Fr.app N160 N162q
      have hc116_164 : zf.toInt = ze.toInt := by rw [hzf, hze]
      obtain ⟨fs, hr, q1, q2, q3, q4⟩ := X162.leave (v := some (.int 1)) (fun h => by rw [Bd.returns] at h; cases h)
      refine ⟨_, _, pre144 _ ?_, q1, q2, _, _, rfl, ?_, ⟨_, rfl⟩, q3, q4.mono (by decide) (by decide)⟩
      · refine XS.aload X118.here hx rfl (hb hby at_78) rfl rfl ?_
        refine XS.iload X118.here hx rfl (hb hby at_80) rfl ?_
        refine XS.bipush X118.here hx rfl (hb hby at_82) ?_
        refine st146 _ ?_
        refine st148 _ ?_
        refine XS.dup X148.here hx rfl (hb hby at_88) rfl rfl ?_
        refine XS.aload X148.here hx rfl (hb hby at_89) rfl rfl ?_
        refine st151.trans ?_
        refine XS.astore X151.here hx rfl (hb hby at_94) rfl rfl (l' := #[.val (.int wl), .val (.int wp), .val (.int wa), .val (.int wb), .val (.int wc), .val (.int wd), .val (.int 3), .val (.int 1), .val (.ref b101), .val (.ref b148), .unset]) rfl ?_
        refine XS.aload X151.here hx rfl (hb hby at_96) rfl rfl ?_
        refine XS.iload X151.here hx rfl (hb hby at_98) rfl ?_
        refine XS.iload X151.here hx rfl (hb hby at_100) rfl ?_
        refine st160 _ ?_
        refine XS.istore X160.here hx rfl (hb hby at_105) rfl (l' := #[.val (.int wl), .val (.int wp), .val (.int wa), .val (.int wb), .val (.int wc), .val (.int wd), .val (.int 3), .val (.int 1), .val (.ref b101), .val (.ref b148), .val (.int ze)]) rfl ?_
        show Steps p.tables e below (T160.setTop (mkF m 107 #[.val (.int wl), .val (.int wp), .val (.int wa), .val (.int wb), .val (.int wc), .val (.int wd), .val (.int 3), .val (.int 1), .val (.ref b101), .val (.ref b148), .val (.int ze)] [])) _
        refine XS.aload X160.here hx rfl (hb hby at_107) rfl rfl ?_
        refine XS.iload X160.here hx rfl (hb hby at_109) rfl ?_
        refine st162 _ ?_
        refine XS.iload X162.here hx rfl (hb hby at_114) rfl ?_
        refine XS.icmpNo X162.here hx rfl (hb hby at_116) rfl (own_teq (a := zf) (b := ze) rfl rfl hc116_164).2 ?_
        refine XS.iconst X162.here hx rfl (hb hby at_119) ?_
        refine XS.goto X162.here hx rfl (pc0 := 120) (pc' := 124) rfl (hb hby at_120) (by decide) (by decide) ?_
        exact retN X162 hx (t := .boolean) Bd.returns (by simp) (hb hby at_124) hr
      · show Q0 Z _ _ _ _ _ _ _ _ h0 n0 _ T162.heap _
        rw [e162]
        exact ⟨rfl, N162⟩
    · have pre165 : oP p e below (T118.setTop (mkF m 78 #[.val (.int wl), .val (.int wp), .val (.int wa), .val (.int wb), .val (.int wc), .val (.int wd), .val (.int 3), .val (.int 2), .val (.ref b101), .unset, .unset] [])) (s₁.setTop (entryFrame m #[(.int wl), (.int wp), (.int wa), (.int wb), (.int wc), (.int wd)] maxLocals)) := pre122
      obtain ⟨cl166, Ar166, q166, S166, M166, H166, G166⟩ := id V118
      have hin166 : ¬ ((2 : Int32) < 0 ∨ cl166.slots.size ≤ ((2 : Int32)).toNatClampNeg) := inb_of S166 ⟨by decide, by decide⟩
      obtain ⟨T167, h167, X167, e167, W167, st167⟩ := stC X118 hx hZ e118 Ar166 (j := (2 : Int32)) hin166 (g := (mkF m 84 #[.val (.int wl), .val (.int wp), .val (.int wa), .val (.int wb), .val (.int wc), .val (.int wd), .val (.int 3), .val (.int 2), .val (.ref b101), .unset, .unset] [(.int 37), (.int 2), (.ref b101)])) rfl rfl (hb hby at_84)
      have N167 := Fr.snoc X167 N118 g_b101
      have Zs168 : n0 ≤ h167.size := by rw [W167.size]; exact Zs119
      have V167 : Arv Z h167 b101 k101 .char (3 : Int32) [(.int (nar .char c0)), (.int (nar .char c1)), (.int (nar .char (37 : Int32)))] (.int 0) := Arv.set Ar166 q166 S166 M166 H166 G166 (fits_nar_char _) W167 2 rfl (Nat.le_of_ble_eq_true rfl)
      obtain ⟨T169, h169, X169, e169, E169, A169, D169, -, st169⟩ := newO X167 hx hZ hown (ow hw 3 rfl) (ow hw 4 rfl) (ow hw 5 rfl) e167 (g := (mkF m 85 #[.val (.int wl), .val (.int wp), .val (.int wa), .val (.int wb), .val (.int wc), .val (.int wd), .val (.int 3), .val (.int 2), .val (.ref b101), .unset, .unset] [])) rfl (hb hby at_85) (by decide) (by decide)
      obtain ⟨b169, g169⟩ : ∃ z, z = h167.size := ⟨_, rfl⟩
      have ne_b101_b169 : b101 ≠ b169 := Nat.ne_of_lt (Nat.lt_of_lt_of_le V167.lt (Nat.le_of_eq g169.symm))
      have g_b169 : n0 ≤ b169 := Nat.le_trans Zs168 (Nat.le_of_eq g169.symm)
      have f170 := ((((((Keep.refl h0 []).ext E101).wr W106 (Or.inr sz_b101)).wr W112 (Or.inr sz_b101)).wr W118 (Or.inr sz_b101)).wr W167 (Or.inr sz_b101))
      have sz_b169 : h0.size ≤ b169 := Nat.le_trans f170.1 (Nat.le_of_eq g169.symm)
      rw [← g169] at A169 D169 st169
      have Zs171 : n0 ≤ h169.size := Nat.le_trans Zs168 E169.1
      have F169_coder : Fld Z h169 b169 "java/lang/String" "coder" "B" (.int 0) := D169 (Or.inr (ow hw 29 rfl)) (ty := .byte) (by decide)
      have F169_value : Fld Z h169 b169 "java/lang/String" "value" "[B" .null := D169 (Or.inr (ow hw 31 rfl)) (ty := (.array .byte)) (by decide)
      have f173 := (V167.ext E169)
      have hn175 : nar .char c0 = c0 := own_narc c0 jc0.1 jc0.2
      have hn176 : nar .char c1 = c1 := own_narc c1 jc1.1 jc1.2
      have hn177 : nar .char (37 : Int32) = (37 : Int32) := own_narc (37 : Int32) (by decide) (by decide)
      have Vx174 : Arv Z h169 b101 k101 .char (3 : Int32) [(.int c0), (.int c1), (.int 37)] (.int 0) := by
        have q := f173
        rw [hn175, hn176, hn177] at q; exact q
      have f178 := (f170.ext E169)
      have os179 := (own_st_ext (own_st_wr (own_st_wr (own_st_wr (own_st_wr (own_st_ext Os E101) W106) W112) W118) W167) E169)
      obtain ⟨_, _, ⟨T172, L172, k172, n172⟩, -, X172, ⟨Lc172, hQ172, l172, y172, z172⟩, st172⟩ := X169.specialBack hx (y := yn12) rfl hown (mvT hZ (ow hw 6 rfl)) (mvT hZ (ow hw 7 rfl)) (mvT hZ (ow hw 8 rfl)) (by decide) (backOf (W := 1) (rm_mu3 l Z a0 hw [] b169 b101 vcs vf k101 c0 c1 (37 : Int32) h169 n0 Zs171 os179 A169 F169_coder F169_value g_b169 (Ne.symm ne_b101_b169) Vx174 jc0.1 jc1.1 (by decide) jc0.2 jc1.2 (by decide)) hZ (ow hw 8 rfl) (ow hw 5 rfl) (by decide) (by decide)) (g := (mkF m 91 #[.val (.int wl), .val (.int wp), .val (.int wa), .val (.int wb), .val (.int wc), .val (.int wd), .val (.int 3), .val (.int 2), .val (.ref b101), .unset, .unset] [(.ref b101), (.ref b169), (.ref b169)])) rfl (by rw [hml]; rfl) (Steps.refl _) (a := b169) (argsL := [(.ref b101)]) (rest := [(.ref b169)]) (lenOf pd_17 rfl) rfl (by exact Nat.le_of_eq rfl) (hb hby at_91) (fun _ _ => ⟨rfl, e169, (by decide : 2 + 2 ≤ _), (by decide : 7 + 9 ≤ _)⟩)
      dsimp only [Pt.U, Pt.locs, Pt.cells, Pt.slots] at X172 l172 y172 z172 st172 hQ172
      rw [l172, y172, z172] at X172
      obtain ⟨rfl, N172q, K172, A172, ob, kb, gb, szb, Fv172, hO172⟩ := hQ172
      have N172 := Fr.app N167 N172q
      have Zs180 : n0 ≤ T172.heap.size := Nat.le_trans Zs171 K172.1
      have ne_b101_ob : b101 ≠ ob := Nat.ne_of_lt (Nat.lt_of_lt_of_le Vx174.lt szb)
      have ne_b169_ob : b169 ≠ ob := Nat.ne_of_lt (Nat.lt_of_lt_of_le A169.lt szb)
      have sz_ob : h0.size ≤ ob := Nat.le_trans f178.1 szb
      have Sx172 : own_s3 Z T172.heap b169 ob kb c0 c1 (37 : Int32) := ⟨A172, Fv172, hO172⟩
      have f182 := (Vx174.keep K172 (ninS ne_b101_b169 nin0))
      obtain ⟨_, _, ⟨T181, L181, k181, n181⟩, -, X181, ⟨Lc181, hQ181, l181, y181, z181⟩, st181⟩ := Jvm.LawKit.callS X172 hx (y := yn22) hown (mvT hZ (ow hw 32 rfl)) (mvT hZ (ow hw 33 rfl)) (mvT hZ (ow hw 34 rfl)) (mvT hZ (ow hw 35 rfl)) (by decide) (backOf (W := 0) (rm_rf3_2 l Z a0 hw [] b101 k101 c0 c1 (37 : Int32) T172.heap n0 Zs180 f182 jc0.1 jc1.1 (by decide) jc0.2 jc1.2 (by decide)) hZ (ow hw 35 rfl) (ow hw 34 rfl) (by decide) (by decide)) (g := (mkF m 102 #[.val (.int wl), .val (.int wp), .val (.int wa), .val (.int wb), .val (.int wc), .val (.int wd), .val (.int 3), .val (.int 2), .val (.ref b101), .val (.ref b169), .unset] [(.int 2), (.int 3), (.ref b101)])) rfl (by rw [hml]; rfl) (argsL := [(.ref b101), (.int 3), (.int 2)]) (rest := []) (lenOf pd_18 rfl) rfl (by exact Nat.le_of_eq rfl) (hb hby at_102) (fun _ _ => ⟨rfl, rfl, (by decide : 4 + 0 ≤ _), (by decide : 16 + 0 ≤ _)⟩)
      dsimp only [Pt.U, Pt.locs, Pt.cells, Pt.slots] at X181 l181 y181 z181 st181 hQ181
      rw [l181, y181, z181] at X181
      obtain ⟨ze, rfl, hze, N181q, e181⟩ := hQ181
      have N181 := Fr.app N172 N181q
      have os184 := (own_st_keep os179 K172 (nsS A169.nostat ns0))
      obtain ⟨_, _, ⟨T183, L183, k183, n183⟩, -, X183, ⟨Lc183, hQ183, l183, y183, z183⟩, st183⟩ := Jvm.LawKit.callS X181 hx (y := yn23) hown (mvT hZ (ow hw 36 rfl)) (mvT hZ (ow hw 37 rfl)) (mvT hZ (ow hw 38 rfl)) (mvT hZ (ow hw 39 rfl)) (by decide) (backOf (W := 0) (rm_ee3_2 l Z a0 hw [] b169 vcs vf ob kb c0 c1 (37 : Int32) T172.heap n0 Zs180 os184 Sx172) hZ (ow hw 39 rfl) (ow hw 38 rfl) (by decide) (by decide)) (g := (mkF m 111 #[.val (.int wl), .val (.int wp), .val (.int wa), .val (.int wb), .val (.int wc), .val (.int wd), .val (.int 3), .val (.int 2), .val (.ref b101), .val (.ref b169), .val (.int ze)] [(.int 2), (.ref b169)])) rfl (by rw [hml]; rfl) (argsL := [(.ref b169), (.int 2)]) (rest := []) (lenOf pd_19 rfl) rfl (by exact Nat.le_of_eq rfl) (hb hby at_111) (fun _ _ => ⟨rfl, e181, (by decide : 4 + 0 ≤ _), (by decide : 16 + 0 ≤ _)⟩)
      dsimp only [Pt.U, Pt.locs, Pt.cells, Pt.slots] at X183 l183 y183 z183 st183 hQ183
      rw [l183, y183, z183] at X183
      obtain ⟨zf, rfl, hzf, N183q, e183⟩ := hQ183
      have N183 := Fr.app N181 N183q
      have hc116_185 : zf.toInt = ze.toInt := by rw [hzf, hze]
      obtain ⟨fs, hr, q1, q2, q3, q4⟩ := X183.leave (v := some (.int 1)) (fun h => by rw [Bd.returns] at h; cases h)
      refine ⟨_, _, pre165 _ ?_, q1, q2, _, _, rfl, ?_, ⟨_, rfl⟩, q3, q4.mono (by decide) (by decide)⟩
      · refine XS.aload X118.here hx rfl (hb hby at_78) rfl rfl ?_
        refine XS.iload X118.here hx rfl (hb hby at_80) rfl ?_
        refine XS.bipush X118.here hx rfl (hb hby at_82) ?_
        refine st167 _ ?_
        refine st169 _ ?_
        refine XS.dup X169.here hx rfl (hb hby at_88) rfl rfl ?_
        refine XS.aload X169.here hx rfl (hb hby at_89) rfl rfl ?_
        refine st172.trans ?_
        refine XS.astore X172.here hx rfl (hb hby at_94) rfl rfl (l' := #[.val (.int wl), .val (.int wp), .val (.int wa), .val (.int wb), .val (.int wc), .val (.int wd), .val (.int 3), .val (.int 2), .val (.ref b101), .val (.ref b169), .unset]) rfl ?_
        refine XS.aload X172.here hx rfl (hb hby at_96) rfl rfl ?_
        refine XS.iload X172.here hx rfl (hb hby at_98) rfl ?_
        refine XS.iload X172.here hx rfl (hb hby at_100) rfl ?_
        refine st181 _ ?_
        refine XS.istore X181.here hx rfl (hb hby at_105) rfl (l' := #[.val (.int wl), .val (.int wp), .val (.int wa), .val (.int wb), .val (.int wc), .val (.int wd), .val (.int 3), .val (.int 2), .val (.ref b101), .val (.ref b169), .val (.int ze)]) rfl ?_
        show Steps p.tables e below (T181.setTop (mkF m 107 #[.val (.int wl), .val (.int wp), .val (.int wa), .val (.int wb), .val (.int wc), .val (.int wd), .val (.int 3), .val (.int 2), .val (.ref b101), .val (.ref b169), .val (.int ze)] [])) _
        refine XS.aload X181.here hx rfl (hb hby at_107) rfl rfl ?_
        refine XS.iload X181.here hx rfl (hb hby at_109) rfl ?_
        refine st183 _ ?_
        refine XS.iload X183.here hx rfl (hb hby at_114) rfl ?_
        refine XS.icmpNo X183.here hx rfl (hb hby at_116) rfl (own_teq (a := zf) (b := ze) rfl rfl hc116_185).2 ?_
        refine XS.iconst X183.here hx rfl (hb hby at_119) ?_
        refine XS.goto X183.here hx rfl (pc0 := 120) (pc' := 124) rfl (hb hby at_120) (by decide) (by decide) ?_
        exact retN X183 hx (t := .boolean) Bd.returns (by simp) (hb hby at_124) hr
      · show Q0 Z _ _ _ _ _ _ _ _ h0 n0 _ T183.heap _
        rw [e183]
        exact ⟨rfl, N183⟩
  · have pre186 : oP p e below (s₁.setTop (mkF m 5 #[.val (.int wl), .val (.int wp), .val (.int wa), .val (.int wb), .val (.int wc), .val (.int wd), .unset, .unset, .unset, .unset, .unset] [(.int 4)])) (s₁.setTop (entryFrame m #[(.int wl), (.int wp), (.int wa), (.int wb), (.int wc), (.int wd)] maxLocals)) := pre2
    have pre187 : oP p e below (s₁.setTop (mkF m 14 #[.val (.int wl), .val (.int wp), .val (.int wa), .val (.int wb), .val (.int wc), .val (.int wd), .val (.int 4), .unset, .unset, .unset, .unset] [(.int ((wp &&& (2147483647 : Int32)) % (4 : Int32)))])) (s₁.setTop (entryFrame m #[(.int wl), (.int wp), (.int wa), (.int wb), (.int wc), (.int wd)] maxLocals)) := fun t kt => by
      refine pre186 _ ?_
      refine XS.istore X0.here hx rfl (hb hby at_5) rfl (l' := #[.val (.int wl), .val (.int wp), .val (.int wa), .val (.int wb), .val (.int wc), .val (.int wd), .val (.int 4), .unset, .unset, .unset, .unset]) rfl ?_
      refine XS.iloadN X0.here hx rfl (hb hby at_7) rfl ?_
      refine X0.ldcInt hx hown (mvT hZ (ow hw 0 rfl)) (g := (mkF m 8 #[.val (.int wl), .val (.int wp), .val (.int wa), .val (.int wb), .val (.int wc), .val (.int wd), .val (.int 4), .unset, .unset, .unset, .unset] [(.int wp)])) rfl (hb hby at_8) _ ?_
      refine XS.iand X0.here hx rfl (hb hby at_10) rfl ?_
      refine XS.iload X0.here hx rfl (hb hby at_11) rfl ?_
      refine iremM X0 hx rfl (hb hby at_13) rfl (by decide) ?_
      exact kt
    obtain ⟨vp, hvp⟩ : ∃ z : Int32, z = ((wp &&& (2147483647 : Int32)) % (4 : Int32)) := ⟨_, rfl⟩
    have jvp : 0 ≤ vp.toInt ∧ vp.toInt ≤ 3 := by rw [hvp]; have := rng32 wp; have : ((wp &&& (2147483647 : Int32))).toInt = wp.toInt % 2147483648 := c_mask wp (2147483647 : Int32) 31 (by decide) (by decide); have := c_irem (wp &&& (2147483647 : Int32)) (4 : Int32) 4 (by decide); omega
    have pre188 : oP p e below (s₁.setTop (mkF m 14 #[.val (.int wl), .val (.int wp), .val (.int wa), .val (.int wb), .val (.int wc), .val (.int wd), .val (.int 4), .unset, .unset, .unset, .unset] [(.int vp)])) (s₁.setTop (entryFrame m #[(.int wl), (.int wp), (.int wa), (.int wb), (.int wc), (.int wd)] maxLocals)) := by rw [hvp]; exact pre187
    obtain ⟨T189, h189, k189, X189, e189, E189, A189, st189⟩ := newP X0 hx hZ (ow hw 1 rfl) e0 (g := (mkF m 18 #[.val (.int wl), .val (.int wp), .val (.int wa), .val (.int wb), .val (.int wc), .val (.int wd), .val (.int 4), .val (.int vp), .unset, .unset, .unset] [(.int 4)])) rfl (hb hby at_18) rfl (by decide) (cap := 4) (by decide) (by decide) (by decide) (by decide)
    obtain ⟨b189, g189⟩ : ∃ z, z = h0.size := ⟨_, rfl⟩
    have g_b189 : n0 ≤ b189 := Nat.le_trans Z0 (Nat.le_of_eq g189.symm)
    have sz_b189 : h0.size ≤ b189 := Nat.le_trans (Keep.refl h0 []).1 (Nat.le_of_eq g189.symm)
    rw [← g189] at A189 st189
    have Zs190 : n0 ≤ h189.size := Nat.le_trans Z0 E189.1
    have V189 : Arv Z h189 b189 k189 .char (4 : Int32) [(.int 0), (.int 0), (.int 0), (.int 0)] (.int 0) := (Arv.new A189 (by decide)).pad (pad_rep [] (.int 0) 4)
    have pre191 : oP p e below (T189.setTop (mkF m 30 #[.val (.int wl), .val (.int wp), .val (.int wa), .val (.int wb), .val (.int wc), .val (.int wd), .val (.int 4), .val (.int vp), .val (.ref b189), .unset, .unset] [(.int ((wa &&& (65535 : Int32)).toUInt32.toUInt16.toUInt32.toInt32)), (.int 0), (.ref b189)])) (s₁.setTop (entryFrame m #[(.int wl), (.int wp), (.int wa), (.int wb), (.int wc), (.int wd)] maxLocals)) := fun t kt => by
      refine pre188 _ ?_
      refine XS.istore X0.here hx rfl (hb hby at_14) rfl (l' := #[.val (.int wl), .val (.int wp), .val (.int wa), .val (.int wb), .val (.int wc), .val (.int wd), .val (.int 4), .val (.int vp), .unset, .unset, .unset]) rfl ?_
      refine XS.iload X0.here hx rfl (hb hby at_16) rfl ?_
      refine st189 _ ?_
      refine XS.astore X189.here hx rfl (hb hby at_20) rfl rfl (l' := #[.val (.int wl), .val (.int wp), .val (.int wa), .val (.int wb), .val (.int wc), .val (.int wd), .val (.int 4), .val (.int vp), .val (.ref b189), .unset, .unset]) rfl ?_
      refine XS.aload X189.here hx rfl (hb hby at_22) rfl rfl ?_
      refine XS.iconst X189.here hx rfl (hb hby at_24) ?_
      refine XS.iloadN X189.here hx rfl (hb hby at_25) rfl ?_
      refine X189.ldcInt hx hown (mvT hZ (ow hw 2 rfl)) (g := (mkF m 26 #[.val (.int wl), .val (.int wp), .val (.int wa), .val (.int wb), .val (.int wc), .val (.int wd), .val (.int 4), .val (.int vp), .val (.ref b189), .unset, .unset] [(.int wa), (.int 0), (.ref b189)])) rfl (hb hby at_26) _ ?_
      show Steps p.tables e below (T189.setTop (mkF m 28 #[.val (.int wl), .val (.int wp), .val (.int wa), .val (.int wb), .val (.int wc), .val (.int wd), .val (.int 4), .val (.int vp), .val (.ref b189), .unset, .unset] [(.int 65535), (.int wa), (.int 0), (.ref b189)])) _
      refine XS.iand X189.here hx rfl (hb hby at_28) rfl ?_
      refine XS.i2c X189.here hx rfl (hb hby at_29) rfl ?_
      exact kt
    obtain ⟨c0, hc0⟩ : ∃ z : Int32, z = ((wa &&& (65535 : Int32)).toUInt32.toUInt16.toUInt32.toInt32) := ⟨_, rfl⟩
    have jc0 : 0 ≤ c0.toInt ∧ c0.toInt < 65536 := by rw [hc0]; have := rng32 wa; have : ((wa &&& (65535 : Int32))).toInt = wa.toInt % 65536 := c_mask wa (65535 : Int32) 16 (by decide) (by decide); (first | (have : (((wa &&& (65535 : Int32)).toUInt32.toUInt16.toUInt32.toInt32)).toInt = (wa &&& (65535 : Int32)).toInt := (by have := c_i2c (wa &&& (65535 : Int32)); omega)) | (have := c_i2c (wa &&& (65535 : Int32)))); omega
    have pre192 : oP p e below (T189.setTop (mkF m 30 #[.val (.int wl), .val (.int wp), .val (.int wa), .val (.int wb), .val (.int wc), .val (.int wd), .val (.int 4), .val (.int vp), .val (.ref b189), .unset, .unset] [(.int c0), (.int 0), (.ref b189)])) (s₁.setTop (entryFrame m #[(.int wl), (.int wp), (.int wa), (.int wb), (.int wc), (.int wd)] maxLocals)) := by rw [hc0]; exact pre191
    obtain ⟨cl193, Ar193, q193, S193, M193, H193, G193⟩ := id V189
    have hin193 : ¬ ((0 : Int32) < 0 ∨ cl193.slots.size ≤ ((0 : Int32)).toNatClampNeg) := inb_of S193 ⟨by decide, by decide⟩
    obtain ⟨T194, h194, X194, e194, W194, st194⟩ := stC X189 hx hZ e189 Ar193 (j := (0 : Int32)) hin193 (g := (mkF m 30 #[.val (.int wl), .val (.int wp), .val (.int wa), .val (.int wb), .val (.int wc), .val (.int wd), .val (.int 4), .val (.int vp), .val (.ref b189), .unset, .unset] [(.int c0), (.int 0), (.ref b189)])) rfl rfl (hb hby at_30)
    have N194 := Fr.snoc X194 N0 g_b189
    have Zs195 : n0 ≤ h194.size := by rw [W194.size]; exact Zs190
    have V194 : Arv Z h194 b189 k189 .char (4 : Int32) [(.int (nar .char c0)), (.int 0), (.int 0), (.int 0)] (.int 0) := Arv.set Ar193 q193 S193 M193 H193 G193 (fits_nar_char _) W194 0 rfl (Nat.le_of_ble_eq_true rfl)
    have hc34_196 : (1 : Int) < (4 : Int) := by decide
    have pre197 : oP p e below (T194.setTop (mkF m 45 #[.val (.int wl), .val (.int wp), .val (.int wa), .val (.int wb), .val (.int wc), .val (.int wd), .val (.int 4), .val (.int vp), .val (.ref b189), .unset, .unset] [(.int ((wb &&& (65535 : Int32)).toUInt32.toUInt16.toUInt32.toInt32)), (.int 1), (.ref b189)])) (s₁.setTop (entryFrame m #[(.int wl), (.int wp), (.int wa), (.int wb), (.int wc), (.int wd)] maxLocals)) := fun t kt => by
      refine pre192 _ ?_
      refine st194 _ ?_
      refine XS.iload X194.here hx rfl (hb hby at_31) rfl ?_
      refine XS.iconst X194.here hx rfl (hb hby at_33) ?_
      refine XS.icmpNo X194.here hx rfl (hb hby at_34) rfl (own_tlt (a := (1 : Int32)) (b := (4 : Int32)) (by decide) (by decide) hc34_196).2.2.2 ?_
      refine XS.aload X194.here hx rfl (hb hby at_37) rfl rfl ?_
      refine XS.iconst X194.here hx rfl (hb hby at_39) ?_
      refine XS.iloadN X194.here hx rfl (hb hby at_40) rfl ?_
      refine X194.ldcInt hx hown (mvT hZ (ow hw 2 rfl)) (g := (mkF m 41 #[.val (.int wl), .val (.int wp), .val (.int wa), .val (.int wb), .val (.int wc), .val (.int wd), .val (.int 4), .val (.int vp), .val (.ref b189), .unset, .unset] [(.int wb), (.int 1), (.ref b189)])) rfl (hb hby at_41) _ ?_
      refine XS.iand X194.here hx rfl (hb hby at_43) rfl ?_
      refine XS.i2c X194.here hx rfl (hb hby at_44) rfl ?_
      exact kt
    obtain ⟨c1, hc1⟩ : ∃ z : Int32, z = ((wb &&& (65535 : Int32)).toUInt32.toUInt16.toUInt32.toInt32) := ⟨_, rfl⟩
    have jc1 : 0 ≤ c1.toInt ∧ c1.toInt < 65536 := by rw [hc1]; have := rng32 wb; have : ((wb &&& (65535 : Int32))).toInt = wb.toInt % 65536 := c_mask wb (65535 : Int32) 16 (by decide) (by decide); (first | (have : (((wb &&& (65535 : Int32)).toUInt32.toUInt16.toUInt32.toInt32)).toInt = (wb &&& (65535 : Int32)).toInt := (by have := c_i2c (wb &&& (65535 : Int32)); omega)) | (have := c_i2c (wb &&& (65535 : Int32)))); omega
    have pre198 : oP p e below (T194.setTop (mkF m 45 #[.val (.int wl), .val (.int wp), .val (.int wa), .val (.int wb), .val (.int wc), .val (.int wd), .val (.int 4), .val (.int vp), .val (.ref b189), .unset, .unset] [(.int c1), (.int 1), (.ref b189)])) (s₁.setTop (entryFrame m #[(.int wl), (.int wp), (.int wa), (.int wb), (.int wc), (.int wd)] maxLocals)) := by rw [hc1]; exact pre197
    obtain ⟨cl199, Ar199, q199, S199, M199, H199, G199⟩ := id V194
    have hin199 : ¬ ((1 : Int32) < 0 ∨ cl199.slots.size ≤ ((1 : Int32)).toNatClampNeg) := inb_of S199 ⟨by decide, by decide⟩
    obtain ⟨T200, h200, X200, e200, W200, st200⟩ := stC X194 hx hZ e194 Ar199 (j := (1 : Int32)) hin199 (g := (mkF m 45 #[.val (.int wl), .val (.int wp), .val (.int wa), .val (.int wb), .val (.int wc), .val (.int wd), .val (.int 4), .val (.int vp), .val (.ref b189), .unset, .unset] [(.int c1), (.int 1), (.ref b189)])) rfl rfl (hb hby at_45)
    have N200 := Fr.snoc X200 N194 g_b189
    have Zs201 : n0 ≤ h200.size := by rw [W200.size]; exact Zs195
    have V200 : Arv Z h200 b189 k189 .char (4 : Int32) [(.int (nar .char c0)), (.int (nar .char c1)), (.int 0), (.int 0)] (.int 0) := Arv.set Ar199 q199 S199 M199 H199 G199 (fits_nar_char _) W200 1 rfl (Nat.le_of_ble_eq_true rfl)
    have hc49_202 : (2 : Int) < (4 : Int) := by decide
    have pre203 : oP p e below (T200.setTop (mkF m 61 #[.val (.int wl), .val (.int wp), .val (.int wa), .val (.int wb), .val (.int wc), .val (.int wd), .val (.int 4), .val (.int vp), .val (.ref b189), .unset, .unset] [(.int ((wc &&& (65535 : Int32)).toUInt32.toUInt16.toUInt32.toInt32)), (.int 2), (.ref b189)])) (s₁.setTop (entryFrame m #[(.int wl), (.int wp), (.int wa), (.int wb), (.int wc), (.int wd)] maxLocals)) := fun t kt => by
      refine pre198 _ ?_
      refine st200 _ ?_
      refine XS.iload X200.here hx rfl (hb hby at_46) rfl ?_
      refine XS.iconst X200.here hx rfl (hb hby at_48) ?_
      refine XS.icmpNo X200.here hx rfl (hb hby at_49) rfl (own_tlt (a := (2 : Int32)) (b := (4 : Int32)) (by decide) (by decide) hc49_202).2.2.2 ?_
      refine XS.aload X200.here hx rfl (hb hby at_52) rfl rfl ?_
      refine XS.iconst X200.here hx rfl (hb hby at_54) ?_
      refine XS.iload X200.here hx rfl (hb hby at_55) rfl ?_
      refine X200.ldcInt hx hown (mvT hZ (ow hw 2 rfl)) (g := (mkF m 57 #[.val (.int wl), .val (.int wp), .val (.int wa), .val (.int wb), .val (.int wc), .val (.int wd), .val (.int 4), .val (.int vp), .val (.ref b189), .unset, .unset] [(.int wc), (.int 2), (.ref b189)])) rfl (hb hby at_57) _ ?_
      show Steps p.tables e below (T200.setTop (mkF m 59 #[.val (.int wl), .val (.int wp), .val (.int wa), .val (.int wb), .val (.int wc), .val (.int wd), .val (.int 4), .val (.int vp), .val (.ref b189), .unset, .unset] [(.int 65535), (.int wc), (.int 2), (.ref b189)])) _
      refine XS.iand X200.here hx rfl (hb hby at_59) rfl ?_
      refine XS.i2c X200.here hx rfl (hb hby at_60) rfl ?_
      exact kt
    obtain ⟨c2, hc2⟩ : ∃ z : Int32, z = ((wc &&& (65535 : Int32)).toUInt32.toUInt16.toUInt32.toInt32) := ⟨_, rfl⟩
    have jc2 : 0 ≤ c2.toInt ∧ c2.toInt < 65536 := by rw [hc2]; have := rng32 wc; have : ((wc &&& (65535 : Int32))).toInt = wc.toInt % 65536 := c_mask wc (65535 : Int32) 16 (by decide) (by decide); (first | (have : (((wc &&& (65535 : Int32)).toUInt32.toUInt16.toUInt32.toInt32)).toInt = (wc &&& (65535 : Int32)).toInt := (by have := c_i2c (wc &&& (65535 : Int32)); omega)) | (have := c_i2c (wc &&& (65535 : Int32)))); omega
    have pre204 : oP p e below (T200.setTop (mkF m 61 #[.val (.int wl), .val (.int wp), .val (.int wa), .val (.int wb), .val (.int wc), .val (.int wd), .val (.int 4), .val (.int vp), .val (.ref b189), .unset, .unset] [(.int c2), (.int 2), (.ref b189)])) (s₁.setTop (entryFrame m #[(.int wl), (.int wp), (.int wa), (.int wb), (.int wc), (.int wd)] maxLocals)) := by rw [hc2]; exact pre203
    obtain ⟨cl205, Ar205, q205, S205, M205, H205, G205⟩ := id V200
    have hin205 : ¬ ((2 : Int32) < 0 ∨ cl205.slots.size ≤ ((2 : Int32)).toNatClampNeg) := inb_of S205 ⟨by decide, by decide⟩
    obtain ⟨T206, h206, X206, e206, W206, st206⟩ := stC X200 hx hZ e200 Ar205 (j := (2 : Int32)) hin205 (g := (mkF m 61 #[.val (.int wl), .val (.int wp), .val (.int wa), .val (.int wb), .val (.int wc), .val (.int wd), .val (.int 4), .val (.int vp), .val (.ref b189), .unset, .unset] [(.int c2), (.int 2), (.ref b189)])) rfl rfl (hb hby at_61)
    have N206 := Fr.snoc X206 N200 g_b189
    have Zs207 : n0 ≤ h206.size := by rw [W206.size]; exact Zs201
    have V206 : Arv Z h206 b189 k189 .char (4 : Int32) [(.int (nar .char c0)), (.int (nar .char c1)), (.int (nar .char c2)), (.int 0)] (.int 0) := Arv.set Ar205 q205 S205 M205 H205 G205 (fits_nar_char _) W206 2 rfl (Nat.le_of_ble_eq_true rfl)
    have hc65_208 : (3 : Int) < (4 : Int) := by decide
    have pre209 : oP p e below (T206.setTop (mkF m 77 #[.val (.int wl), .val (.int wp), .val (.int wa), .val (.int wb), .val (.int wc), .val (.int wd), .val (.int 4), .val (.int vp), .val (.ref b189), .unset, .unset] [(.int ((wd &&& (65535 : Int32)).toUInt32.toUInt16.toUInt32.toInt32)), (.int 3), (.ref b189)])) (s₁.setTop (entryFrame m #[(.int wl), (.int wp), (.int wa), (.int wb), (.int wc), (.int wd)] maxLocals)) := fun t kt => by
      refine pre204 _ ?_
      refine st206 _ ?_
      refine XS.iload X206.here hx rfl (hb hby at_62) rfl ?_
      refine XS.iconst X206.here hx rfl (hb hby at_64) ?_
      refine XS.icmpNo X206.here hx rfl (hb hby at_65) rfl (own_tlt (a := (3 : Int32)) (b := (4 : Int32)) (by decide) (by decide) hc65_208).2.2.2 ?_
      refine XS.aload X206.here hx rfl (hb hby at_68) rfl rfl ?_
      refine XS.iconst X206.here hx rfl (hb hby at_70) ?_
      refine XS.iload X206.here hx rfl (hb hby at_71) rfl ?_
      refine X206.ldcInt hx hown (mvT hZ (ow hw 2 rfl)) (g := (mkF m 73 #[.val (.int wl), .val (.int wp), .val (.int wa), .val (.int wb), .val (.int wc), .val (.int wd), .val (.int 4), .val (.int vp), .val (.ref b189), .unset, .unset] [(.int wd), (.int 3), (.ref b189)])) rfl (hb hby at_73) _ ?_
      refine XS.iand X206.here hx rfl (hb hby at_75) rfl ?_
      refine XS.i2c X206.here hx rfl (hb hby at_76) rfl ?_
      exact kt
    obtain ⟨c3, hc3⟩ : ∃ z : Int32, z = ((wd &&& (65535 : Int32)).toUInt32.toUInt16.toUInt32.toInt32) := ⟨_, rfl⟩
    have jc3 : 0 ≤ c3.toInt ∧ c3.toInt < 65536 := by rw [hc3]; have := rng32 wd; have : ((wd &&& (65535 : Int32))).toInt = wd.toInt % 65536 := c_mask wd (65535 : Int32) 16 (by decide) (by decide); (first | (have : (((wd &&& (65535 : Int32)).toUInt32.toUInt16.toUInt32.toInt32)).toInt = (wd &&& (65535 : Int32)).toInt := (by have := c_i2c (wd &&& (65535 : Int32)); omega)) | (have := c_i2c (wd &&& (65535 : Int32)))); omega
    have pre210 : oP p e below (T206.setTop (mkF m 77 #[.val (.int wl), .val (.int wp), .val (.int wa), .val (.int wb), .val (.int wc), .val (.int wd), .val (.int 4), .val (.int vp), .val (.ref b189), .unset, .unset] [(.int c3), (.int 3), (.ref b189)])) (s₁.setTop (entryFrame m #[(.int wl), (.int wp), (.int wa), (.int wb), (.int wc), (.int wd)] maxLocals)) := by rw [hc3]; exact pre209
    obtain ⟨cl211, Ar211, q211, S211, M211, H211, G211⟩ := id V206
    have hin211 : ¬ ((3 : Int32) < 0 ∨ cl211.slots.size ≤ ((3 : Int32)).toNatClampNeg) := inb_of S211 ⟨by decide, by decide⟩
    obtain ⟨T212, h212, X212, e212, W212, st212⟩ := stC X206 hx hZ e206 Ar211 (j := (3 : Int32)) hin211 (g := (mkF m 77 #[.val (.int wl), .val (.int wp), .val (.int wa), .val (.int wb), .val (.int wc), .val (.int wd), .val (.int 4), .val (.int vp), .val (.ref b189), .unset, .unset] [(.int c3), (.int 3), (.ref b189)])) rfl rfl (hb hby at_77)
    have N212 := Fr.snoc X212 N206 g_b189
    have Zs213 : n0 ≤ h212.size := by rw [W212.size]; exact Zs207
    have V212 : Arv Z h212 b189 k189 .char (4 : Int32) [(.int (nar .char c0)), (.int (nar .char c1)), (.int (nar .char c2)), (.int (nar .char c3))] (.int 0) := Arv.set Ar211 q211 S211 M211 H211 G211 (fits_nar_char _) W212 3 rfl (Nat.le_of_ble_eq_true rfl)
    have hsp214 : vp = (0 : Int32) ∨ vp = (1 : Int32) ∨ vp = (2 : Int32) ∨ vp = (3 : Int32) := by
      have q : vp.toInt = 0 ∨ vp.toInt = 1 ∨ vp.toInt = 2 ∨ vp.toInt = 3 := by omega
      rcases q with q | q | q | q
      · exact Or.inl (Int32.toInt_inj.mp (by rw [q]; decide))
      · exact Or.inr (Or.inl (Int32.toInt_inj.mp (by rw [q]; decide)))
      · exact Or.inr (Or.inr (Or.inl (Int32.toInt_inj.mp (by rw [q]; decide))))
      · exact Or.inr (Or.inr (Or.inr (Int32.toInt_inj.mp (by rw [q]; decide))))
    have pre215 : oP p e below (T212.setTop (mkF m 78 #[.val (.int wl), .val (.int wp), .val (.int wa), .val (.int wb), .val (.int wc), .val (.int wd), .val (.int 4), .val (.int vp), .val (.ref b189), .unset, .unset] [])) (s₁.setTop (entryFrame m #[(.int wl), (.int wp), (.int wa), (.int wb), (.int wc), (.int wd)] maxLocals)) := fun t kt => by
      refine pre210 _ ?_
      refine st212 _ ?_
      exact kt
    rcases hsp214 with rfl | rfl | rfl | rfl
    · have pre216 : oP p e below (T212.setTop (mkF m 78 #[.val (.int wl), .val (.int wp), .val (.int wa), .val (.int wb), .val (.int wc), .val (.int wd), .val (.int 4), .val (.int 0), .val (.ref b189), .unset, .unset] [])) (s₁.setTop (entryFrame m #[(.int wl), (.int wp), (.int wa), (.int wb), (.int wc), (.int wd)] maxLocals)) := pre215
      obtain ⟨cl217, Ar217, q217, S217, M217, H217, G217⟩ := id V212
      have hin217 : ¬ ((0 : Int32) < 0 ∨ cl217.slots.size ≤ ((0 : Int32)).toNatClampNeg) := inb_of S217 ⟨by decide, by decide⟩
      obtain ⟨T218, h218, X218, e218, W218, st218⟩ := stC X212 hx hZ e212 Ar217 (j := (0 : Int32)) hin217 (g := (mkF m 84 #[.val (.int wl), .val (.int wp), .val (.int wa), .val (.int wb), .val (.int wc), .val (.int wd), .val (.int 4), .val (.int 0), .val (.ref b189), .unset, .unset] [(.int 37), (.int 0), (.ref b189)])) rfl rfl (hb hby at_84)
      have N218 := Fr.snoc X218 N212 g_b189
      have Zs219 : n0 ≤ h218.size := by rw [W218.size]; exact Zs213
      have V218 : Arv Z h218 b189 k189 .char (4 : Int32) [(.int (nar .char (37 : Int32))), (.int (nar .char c1)), (.int (nar .char c2)), (.int (nar .char c3))] (.int 0) := Arv.set Ar217 q217 S217 M217 H217 G217 (fits_nar_char _) W218 0 rfl (Nat.le_of_ble_eq_true rfl)
      obtain ⟨T220, h220, X220, e220, E220, A220, D220, -, st220⟩ := newO X218 hx hZ hown (ow hw 3 rfl) (ow hw 4 rfl) (ow hw 5 rfl) e218 (g := (mkF m 85 #[.val (.int wl), .val (.int wp), .val (.int wa), .val (.int wb), .val (.int wc), .val (.int wd), .val (.int 4), .val (.int 0), .val (.ref b189), .unset, .unset] [])) rfl (hb hby at_85) (by decide) (by decide)
      obtain ⟨b220, g220⟩ : ∃ z, z = h218.size := ⟨_, rfl⟩
      have ne_b189_b220 : b189 ≠ b220 := Nat.ne_of_lt (Nat.lt_of_lt_of_le V218.lt (Nat.le_of_eq g220.symm))
      have g_b220 : n0 ≤ b220 := Nat.le_trans Zs219 (Nat.le_of_eq g220.symm)
      have f221 := (((((((Keep.refl h0 []).ext E189).wr W194 (Or.inr sz_b189)).wr W200 (Or.inr sz_b189)).wr W206 (Or.inr sz_b189)).wr W212 (Or.inr sz_b189)).wr W218 (Or.inr sz_b189))
      have sz_b220 : h0.size ≤ b220 := Nat.le_trans f221.1 (Nat.le_of_eq g220.symm)
      rw [← g220] at A220 D220 st220
      have Zs222 : n0 ≤ h220.size := Nat.le_trans Zs219 E220.1
      have F220_coder : Fld Z h220 b220 "java/lang/String" "coder" "B" (.int 0) := D220 (Or.inr (ow hw 29 rfl)) (ty := .byte) (by decide)
      have F220_value : Fld Z h220 b220 "java/lang/String" "value" "[B" .null := D220 (Or.inr (ow hw 31 rfl)) (ty := (.array .byte)) (by decide)
      have f224 := (V218.ext E220)
      have hn226 : nar .char (37 : Int32) = (37 : Int32) := own_narc (37 : Int32) (by decide) (by decide)
      have hn227 : nar .char c1 = c1 := own_narc c1 jc1.1 jc1.2
      have hn228 : nar .char c2 = c2 := own_narc c2 jc2.1 jc2.2
      have hn229 : nar .char c3 = c3 := own_narc c3 jc3.1 jc3.2
      have Vx225 : Arv Z h220 b189 k189 .char (4 : Int32) [(.int 37), (.int c1), (.int c2), (.int c3)] (.int 0) := by
        have q := f224
        rw [hn226, hn227, hn228, hn229] at q; exact q
      have f230 := (f221.ext E220)
      have os231 := (own_st_ext (own_st_wr (own_st_wr (own_st_wr (own_st_wr (own_st_wr (own_st_ext Os E189) W194) W200) W206) W212) W218) E220)
      obtain ⟨_, _, ⟨T223, L223, k223, n223⟩, -, X223, ⟨Lc223, hQ223, l223, y223, z223⟩, st223⟩ := X220.specialBack hx (y := yn12) rfl hown (mvT hZ (ow hw 6 rfl)) (mvT hZ (ow hw 7 rfl)) (mvT hZ (ow hw 8 rfl)) (by decide) (backOf (W := 1) (rm_mu4 l Z a0 hw [] b220 b189 vcs vf k189 (37 : Int32) c1 c2 c3 h220 n0 Zs222 os231 A220 F220_coder F220_value g_b220 (Ne.symm ne_b189_b220) Vx225 (by decide) jc1.1 jc2.1 jc3.1 (by decide) jc1.2 jc2.2 jc3.2) hZ (ow hw 8 rfl) (ow hw 5 rfl) (by decide) (by decide)) (g := (mkF m 91 #[.val (.int wl), .val (.int wp), .val (.int wa), .val (.int wb), .val (.int wc), .val (.int wd), .val (.int 4), .val (.int 0), .val (.ref b189), .unset, .unset] [(.ref b189), (.ref b220), (.ref b220)])) rfl (by rw [hml]; rfl) (Steps.refl _) (a := b220) (argsL := [(.ref b189)]) (rest := [(.ref b220)]) (lenOf pd_17 rfl) rfl (by exact Nat.le_of_eq rfl) (hb hby at_91) (fun _ _ => ⟨rfl, e220, (by decide : 2 + 2 ≤ _), (by decide : 8 + 12 ≤ _)⟩)
      dsimp only [Pt.U, Pt.locs, Pt.cells, Pt.slots] at X223 l223 y223 z223 st223 hQ223
      rw [l223, y223, z223] at X223
      obtain ⟨rfl, N223q, K223, A223, ob, kb, gb, szb, Fv223, hO223⟩ := hQ223
      have N223 := Fr.app N218 N223q
      have Zs232 : n0 ≤ T223.heap.size := Nat.le_trans Zs222 K223.1
      have ne_b189_ob : b189 ≠ ob := Nat.ne_of_lt (Nat.lt_of_lt_of_le Vx225.lt szb)
      have ne_b220_ob : b220 ≠ ob := Nat.ne_of_lt (Nat.lt_of_lt_of_le A220.lt szb)
      have sz_ob : h0.size ≤ ob := Nat.le_trans f230.1 szb
      have Sx223 : own_s4 Z T223.heap b220 ob kb (37 : Int32) c1 c2 c3 := ⟨A223, Fv223, hO223⟩
      have f234 := (Vx225.keep K223 (ninS ne_b189_b220 nin0))
      obtain ⟨_, _, ⟨T233, L233, k233, n233⟩, -, X233, ⟨Lc233, hQ233, l233, y233, z233⟩, st233⟩ := Jvm.LawKit.callS X223 hx (y := yn22) hown (mvT hZ (ow hw 32 rfl)) (mvT hZ (ow hw 33 rfl)) (mvT hZ (ow hw 34 rfl)) (mvT hZ (ow hw 35 rfl)) (by decide) (backOf (W := 0) (rm_rf4_0 l Z a0 hw [] b189 k189 (37 : Int32) c1 c2 c3 T223.heap n0 Zs232 f234 (by decide) jc1.1 jc2.1 jc3.1 (by decide) jc1.2 jc2.2 jc3.2) hZ (ow hw 35 rfl) (ow hw 34 rfl) (by decide) (by decide)) (g := (mkF m 102 #[.val (.int wl), .val (.int wp), .val (.int wa), .val (.int wb), .val (.int wc), .val (.int wd), .val (.int 4), .val (.int 0), .val (.ref b189), .val (.ref b220), .unset] [(.int 0), (.int 4), (.ref b189)])) rfl (by rw [hml]; rfl) (argsL := [(.ref b189), (.int 4), (.int 0)]) (rest := []) (lenOf pd_18 rfl) rfl (by exact Nat.le_of_eq rfl) (hb hby at_102) (fun _ _ => ⟨rfl, rfl, (by decide : 4 + 0 ≤ _), (by decide : 20 + 0 ≤ _)⟩)
      dsimp only [Pt.U, Pt.locs, Pt.cells, Pt.slots] at X233 l233 y233 z233 st233 hQ233
      rw [l233, y233, z233] at X233
      obtain ⟨ze, rfl, hze, N233q, e233⟩ := hQ233
      have N233 := Fr.app N223 N233q
      have os236 := (own_st_keep os231 K223 (nsS A220.nostat ns0))
      obtain ⟨_, _, ⟨T235, L235, k235, n235⟩, -, X235, ⟨Lc235, hQ235, l235, y235, z235⟩, st235⟩ := Jvm.LawKit.callS X233 hx (y := yn23) hown (mvT hZ (ow hw 36 rfl)) (mvT hZ (ow hw 37 rfl)) (mvT hZ (ow hw 38 rfl)) (mvT hZ (ow hw 39 rfl)) (by decide) (backOf (W := 0) (rm_ee4_0 l Z a0 hw [] b220 vcs vf ob kb (37 : Int32) c1 c2 c3 T223.heap n0 Zs232 os236 Sx223) hZ (ow hw 39 rfl) (ow hw 38 rfl) (by decide) (by decide)) (g := (mkF m 111 #[.val (.int wl), .val (.int wp), .val (.int wa), .val (.int wb), .val (.int wc), .val (.int wd), .val (.int 4), .val (.int 0), .val (.ref b189), .val (.ref b220), .val (.int ze)] [(.int 0), (.ref b220)])) rfl (by rw [hml]; rfl) (argsL := [(.ref b220), (.int 0)]) (rest := []) (lenOf pd_19 rfl) rfl (by exact Nat.le_of_eq rfl) (hb hby at_111) (fun _ _ => ⟨rfl, e233, (by decide : 4 + 0 ≤ _), (by decide : 20 + 0 ≤ _)⟩)
      dsimp only [Pt.U, Pt.locs, Pt.cells, Pt.slots] at X235 l235 y235 z235 st235 hQ235
      rw [l235, y235, z235] at X235
      obtain ⟨zf, rfl, hzf, N235q, e235⟩ := hQ235
      have N235 := Fr.app N233 N235q
      have hc116_237 : zf.toInt = ze.toInt := by rw [hzf, hze]
      obtain ⟨fs, hr, q1, q2, q3, q4⟩ := X235.leave (v := some (.int 1)) (fun h => by rw [Bd.returns] at h; cases h)
      refine ⟨_, _, pre216 _ ?_, q1, q2, _, _, rfl, ?_, ⟨_, rfl⟩, q3, q4.mono (by decide) (by decide)⟩
      · refine XS.aload X212.here hx rfl (hb hby at_78) rfl rfl ?_
        refine XS.iload X212.here hx rfl (hb hby at_80) rfl ?_
        refine XS.bipush X212.here hx rfl (hb hby at_82) ?_
        refine st218 _ ?_
        refine st220 _ ?_
        refine XS.dup X220.here hx rfl (hb hby at_88) rfl rfl ?_
        refine XS.aload X220.here hx rfl (hb hby at_89) rfl rfl ?_
        show Steps p.tables e below (T220.setTop (mkF m 91 #[.val (.int wl), .val (.int wp), .val (.int wa), .val (.int wb), .val (.int wc), .val (.int wd), .val (.int 4), .val (.int 0), .val (.ref b189), .unset, .unset] [(.ref b189), (.ref b220), (.ref b220)])) _
        refine st223.trans ?_
        refine XS.astore X223.here hx rfl (hb hby at_94) rfl rfl (l' := #[.val (.int wl), .val (.int wp), .val (.int wa), .val (.int wb), .val (.int wc), .val (.int wd), .val (.int 4), .val (.int 0), .val (.ref b189), .val (.ref b220), .unset]) rfl ?_
        refine XS.aload X223.here hx rfl (hb hby at_96) rfl rfl ?_
        refine XS.iload X223.here hx rfl (hb hby at_98) rfl ?_
        refine XS.iload X223.here hx rfl (hb hby at_100) rfl ?_
        refine st233 _ ?_
        refine XS.istore X233.here hx rfl (hb hby at_105) rfl (l' := #[.val (.int wl), .val (.int wp), .val (.int wa), .val (.int wb), .val (.int wc), .val (.int wd), .val (.int 4), .val (.int 0), .val (.ref b189), .val (.ref b220), .val (.int ze)]) rfl ?_
        refine XS.aload X233.here hx rfl (hb hby at_107) rfl rfl ?_
        refine XS.iload X233.here hx rfl (hb hby at_109) rfl ?_
        refine st235 _ ?_
        refine XS.iload X235.here hx rfl (hb hby at_114) rfl ?_
        refine XS.icmpNo X235.here hx rfl (hb hby at_116) rfl (own_teq (a := zf) (b := ze) rfl rfl hc116_237).2 ?_
        refine XS.iconst X235.here hx rfl (hb hby at_119) ?_
        refine XS.goto X235.here hx rfl (pc0 := 120) (pc' := 124) rfl (hb hby at_120) (by decide) (by decide) ?_
        exact retN X235 hx (t := .boolean) Bd.returns (by simp) (hb hby at_124) hr
      · show Q0 Z _ _ _ _ _ _ _ _ h0 n0 _ T235.heap _
        rw [e235]
        exact ⟨rfl, N235⟩
    · have pre238 : oP p e below (T212.setTop (mkF m 78 #[.val (.int wl), .val (.int wp), .val (.int wa), .val (.int wb), .val (.int wc), .val (.int wd), .val (.int 4), .val (.int 1), .val (.ref b189), .unset, .unset] [])) (s₁.setTop (entryFrame m #[(.int wl), (.int wp), (.int wa), (.int wb), (.int wc), (.int wd)] maxLocals)) := pre215
      obtain ⟨cl239, Ar239, q239, S239, M239, H239, G239⟩ := id V212
      have hin239 : ¬ ((1 : Int32) < 0 ∨ cl239.slots.size ≤ ((1 : Int32)).toNatClampNeg) := inb_of S239 ⟨by decide, by decide⟩
      obtain ⟨T240, h240, X240, e240, W240, st240⟩ := stC X212 hx hZ e212 Ar239 (j := (1 : Int32)) hin239 (g := (mkF m 84 #[.val (.int wl), .val (.int wp), .val (.int wa), .val (.int wb), .val (.int wc), .val (.int wd), .val (.int 4), .val (.int 1), .val (.ref b189), .unset, .unset] [(.int 37), (.int 1), (.ref b189)])) rfl rfl (hb hby at_84)
      have N240 := Fr.snoc X240 N212 g_b189
      have Zs241 : n0 ≤ h240.size := by rw [W240.size]; exact Zs213
      have V240 : Arv Z h240 b189 k189 .char (4 : Int32) [(.int (nar .char c0)), (.int (nar .char (37 : Int32))), (.int (nar .char c2)), (.int (nar .char c3))] (.int 0) := Arv.set Ar239 q239 S239 M239 H239 G239 (fits_nar_char _) W240 1 rfl (Nat.le_of_ble_eq_true rfl)
      obtain ⟨T242, h242, X242, e242, E242, A242, D242, -, st242⟩ := newO X240 hx hZ hown (ow hw 3 rfl) (ow hw 4 rfl) (ow hw 5 rfl) e240 (g := (mkF m 85 #[.val (.int wl), .val (.int wp), .val (.int wa), .val (.int wb), .val (.int wc), .val (.int wd), .val (.int 4), .val (.int 1), .val (.ref b189), .unset, .unset] [])) rfl (hb hby at_85) (by decide) (by decide)
      obtain ⟨b242, g242⟩ : ∃ z, z = h240.size := ⟨_, rfl⟩
      have ne_b189_b242 : b189 ≠ b242 := Nat.ne_of_lt (Nat.lt_of_lt_of_le V240.lt (Nat.le_of_eq g242.symm))
      have g_b242 : n0 ≤ b242 := Nat.le_trans Zs241 (Nat.le_of_eq g242.symm)
      have f243 := (((((((Keep.refl h0 []).ext E189).wr W194 (Or.inr sz_b189)).wr W200 (Or.inr sz_b189)).wr W206 (Or.inr sz_b189)).wr W212 (Or.inr sz_b189)).wr W240 (Or.inr sz_b189))
      have sz_b242 : h0.size ≤ b242 := Nat.le_trans f243.1 (Nat.le_of_eq g242.symm)
      rw [← g242] at A242 D242 st242
      have Zs244 : n0 ≤ h242.size := Nat.le_trans Zs241 E242.1
      have F242_coder : Fld Z h242 b242 "java/lang/String" "coder" "B" (.int 0) := D242 (Or.inr (ow hw 29 rfl)) (ty := .byte) (by decide)
      have F242_value : Fld Z h242 b242 "java/lang/String" "value" "[B" .null := D242 (Or.inr (ow hw 31 rfl)) (ty := (.array .byte)) (by decide)
      have f246 := (V240.ext E242)
      have hn248 : nar .char c0 = c0 := own_narc c0 jc0.1 jc0.2
      have hn249 : nar .char (37 : Int32) = (37 : Int32) := own_narc (37 : Int32) (by decide) (by decide)
      have hn250 : nar .char c2 = c2 := own_narc c2 jc2.1 jc2.2
      have hn251 : nar .char c3 = c3 := own_narc c3 jc3.1 jc3.2
      have Vx247 : Arv Z h242 b189 k189 .char (4 : Int32) [(.int c0), (.int 37), (.int c2), (.int c3)] (.int 0) := by
        have q := f246
        rw [hn248, hn249, hn250, hn251] at q; exact q
      have f252 := (f243.ext E242)
      have os253 := (own_st_ext (own_st_wr (own_st_wr (own_st_wr (own_st_wr (own_st_wr (own_st_ext Os E189) W194) W200) W206) W212) W240) E242)
      obtain ⟨_, _, ⟨T245, L245, k245, n245⟩, -, X245, ⟨Lc245, hQ245, l245, y245, z245⟩, st245⟩ := X242.specialBack hx (y := yn12) rfl hown (mvT hZ (ow hw 6 rfl)) (mvT hZ (ow hw 7 rfl)) (mvT hZ (ow hw 8 rfl)) (by decide) (backOf (W := 1) (rm_mu4 l Z a0 hw [] b242 b189 vcs vf k189 c0 (37 : Int32) c2 c3 h242 n0 Zs244 os253 A242 F242_coder F242_value g_b242 (Ne.symm ne_b189_b242) Vx247 jc0.1 (by decide) jc2.1 jc3.1 jc0.2 (by decide) jc2.2 jc3.2) hZ (ow hw 8 rfl) (ow hw 5 rfl) (by decide) (by decide)) (g := (mkF m 91 #[.val (.int wl), .val (.int wp), .val (.int wa), .val (.int wb), .val (.int wc), .val (.int wd), .val (.int 4), .val (.int 1), .val (.ref b189), .unset, .unset] [(.ref b189), (.ref b242), (.ref b242)])) rfl (by rw [hml]; rfl) (Steps.refl _) (a := b242) (argsL := [(.ref b189)]) (rest := [(.ref b242)]) (lenOf pd_17 rfl) rfl (by exact Nat.le_of_eq rfl) (hb hby at_91) (fun _ _ => ⟨rfl, e242, (by decide : 2 + 2 ≤ _), (by decide : 8 + 12 ≤ _)⟩)
      dsimp only [Pt.U, Pt.locs, Pt.cells, Pt.slots] at X245 l245 y245 z245 st245 hQ245
      rw [l245, y245, z245] at X245
      obtain ⟨rfl, N245q, K245, A245, ob, kb, gb, szb, Fv245, hO245⟩ := hQ245
      have N245 := Fr.app N240 N245q
      have Zs254 : n0 ≤ T245.heap.size := Nat.le_trans Zs244 K245.1
      have ne_b189_ob : b189 ≠ ob := Nat.ne_of_lt (Nat.lt_of_lt_of_le Vx247.lt szb)
      have ne_b242_ob : b242 ≠ ob := Nat.ne_of_lt (Nat.lt_of_lt_of_le A242.lt szb)
      have sz_ob : h0.size ≤ ob := Nat.le_trans f252.1 szb
      have Sx245 : own_s4 Z T245.heap b242 ob kb c0 (37 : Int32) c2 c3 := ⟨A245, Fv245, hO245⟩
      have f256 := (Vx247.keep K245 (ninS ne_b189_b242 nin0))
      obtain ⟨_, _, ⟨T255, L255, k255, n255⟩, -, X255, ⟨Lc255, hQ255, l255, y255, z255⟩, st255⟩ := Jvm.LawKit.callS X245 hx (y := yn22) hown (mvT hZ (ow hw 32 rfl)) (mvT hZ (ow hw 33 rfl)) (mvT hZ (ow hw 34 rfl)) (mvT hZ (ow hw 35 rfl)) (by decide) (backOf (W := 0) (rm_rf4_1 l Z a0 hw [] b189 k189 c0 (37 : Int32) c2 c3 T245.heap n0 Zs254 f256 jc0.1 (by decide) jc2.1 jc3.1 jc0.2 (by decide) jc2.2 jc3.2) hZ (ow hw 35 rfl) (ow hw 34 rfl) (by decide) (by decide)) (g := (mkF m 102 #[.val (.int wl), .val (.int wp), .val (.int wa), .val (.int wb), .val (.int wc), .val (.int wd), .val (.int 4), .val (.int 1), .val (.ref b189), .val (.ref b242), .unset] [(.int 1), (.int 4), (.ref b189)])) rfl (by rw [hml]; rfl) (argsL := [(.ref b189), (.int 4), (.int 1)]) (rest := []) (lenOf pd_18 rfl) rfl (by exact Nat.le_of_eq rfl) (hb hby at_102) (fun _ _ => ⟨rfl, rfl, (by decide : 4 + 0 ≤ _), (by decide : 20 + 0 ≤ _)⟩)
      dsimp only [Pt.U, Pt.locs, Pt.cells, Pt.slots] at X255 l255 y255 z255 st255 hQ255
      rw [l255, y255, z255] at X255
      obtain ⟨ze, rfl, hze, N255q, e255⟩ := hQ255
      have N255 := Fr.app N245 N255q
      have os258 := (own_st_keep os253 K245 (nsS A242.nostat ns0))
      obtain ⟨_, _, ⟨T257, L257, k257, n257⟩, -, X257, ⟨Lc257, hQ257, l257, y257, z257⟩, st257⟩ := Jvm.LawKit.callS X255 hx (y := yn23) hown (mvT hZ (ow hw 36 rfl)) (mvT hZ (ow hw 37 rfl)) (mvT hZ (ow hw 38 rfl)) (mvT hZ (ow hw 39 rfl)) (by decide) (backOf (W := 0) (rm_ee4_1 l Z a0 hw [] b242 vcs vf ob kb c0 (37 : Int32) c2 c3 T245.heap n0 Zs254 os258 Sx245) hZ (ow hw 39 rfl) (ow hw 38 rfl) (by decide) (by decide)) (g := (mkF m 111 #[.val (.int wl), .val (.int wp), .val (.int wa), .val (.int wb), .val (.int wc), .val (.int wd), .val (.int 4), .val (.int 1), .val (.ref b189), .val (.ref b242), .val (.int ze)] [(.int 1), (.ref b242)])) rfl (by rw [hml]; rfl) (argsL := [(.ref b242), (.int 1)]) (rest := []) (lenOf pd_19 rfl) rfl (by exact Nat.le_of_eq rfl) (hb hby at_111) (fun _ _ => ⟨rfl, e255, (by decide : 4 + 0 ≤ _), (by decide : 20 + 0 ≤ _)⟩)
      dsimp only [Pt.U, Pt.locs, Pt.cells, Pt.slots] at X257 l257 y257 z257 st257 hQ257
      rw [l257, y257, z257] at X257
      obtain ⟨zf, rfl, hzf, N257q, e257⟩ := hQ257
      have N257 := Fr.app N255 N257q
      have hc116_259 : zf.toInt = ze.toInt := by rw [hzf, hze]
      obtain ⟨fs, hr, q1, q2, q3, q4⟩ := X257.leave (v := some (.int 1)) (fun h => by rw [Bd.returns] at h; cases h)
      refine ⟨_, _, pre238 _ ?_, q1, q2, _, _, rfl, ?_, ⟨_, rfl⟩, q3, q4.mono (by decide) (by decide)⟩
      · refine XS.aload X212.here hx rfl (hb hby at_78) rfl rfl ?_
        refine XS.iload X212.here hx rfl (hb hby at_80) rfl ?_
        refine XS.bipush X212.here hx rfl (hb hby at_82) ?_
        refine st240 _ ?_
        refine st242 _ ?_
        refine XS.dup X242.here hx rfl (hb hby at_88) rfl rfl ?_
        refine XS.aload X242.here hx rfl (hb hby at_89) rfl rfl ?_
        show Steps p.tables e below (T242.setTop (mkF m 91 #[.val (.int wl), .val (.int wp), .val (.int wa), .val (.int wb), .val (.int wc), .val (.int wd), .val (.int 4), .val (.int 1), .val (.ref b189), .unset, .unset] [(.ref b189), (.ref b242), (.ref b242)])) _
        refine st245.trans ?_
        refine XS.astore X245.here hx rfl (hb hby at_94) rfl rfl (l' := #[.val (.int wl), .val (.int wp), .val (.int wa), .val (.int wb), .val (.int wc), .val (.int wd), .val (.int 4), .val (.int 1), .val (.ref b189), .val (.ref b242), .unset]) rfl ?_
        refine XS.aload X245.here hx rfl (hb hby at_96) rfl rfl ?_
        refine XS.iload X245.here hx rfl (hb hby at_98) rfl ?_
        refine XS.iload X245.here hx rfl (hb hby at_100) rfl ?_
        refine st255 _ ?_
        refine XS.istore X255.here hx rfl (hb hby at_105) rfl (l' := #[.val (.int wl), .val (.int wp), .val (.int wa), .val (.int wb), .val (.int wc), .val (.int wd), .val (.int 4), .val (.int 1), .val (.ref b189), .val (.ref b242), .val (.int ze)]) rfl ?_
        refine XS.aload X255.here hx rfl (hb hby at_107) rfl rfl ?_
        refine XS.iload X255.here hx rfl (hb hby at_109) rfl ?_
        refine st257 _ ?_
        refine XS.iload X257.here hx rfl (hb hby at_114) rfl ?_
        refine XS.icmpNo X257.here hx rfl (hb hby at_116) rfl (own_teq (a := zf) (b := ze) rfl rfl hc116_259).2 ?_
        refine XS.iconst X257.here hx rfl (hb hby at_119) ?_
        refine XS.goto X257.here hx rfl (pc0 := 120) (pc' := 124) rfl (hb hby at_120) (by decide) (by decide) ?_
        exact retN X257 hx (t := .boolean) Bd.returns (by simp) (hb hby at_124) hr
      · show Q0 Z _ _ _ _ _ _ _ _ h0 n0 _ T257.heap _
        rw [e257]
        exact ⟨rfl, N257⟩
    · have pre260 : oP p e below (T212.setTop (mkF m 78 #[.val (.int wl), .val (.int wp), .val (.int wa), .val (.int wb), .val (.int wc), .val (.int wd), .val (.int 4), .val (.int 2), .val (.ref b189), .unset, .unset] [])) (s₁.setTop (entryFrame m #[(.int wl), (.int wp), (.int wa), (.int wb), (.int wc), (.int wd)] maxLocals)) := pre215
      obtain ⟨cl261, Ar261, q261, S261, M261, H261, G261⟩ := id V212
      have hin261 : ¬ ((2 : Int32) < 0 ∨ cl261.slots.size ≤ ((2 : Int32)).toNatClampNeg) := inb_of S261 ⟨by decide, by decide⟩
      obtain ⟨T262, h262, X262, e262, W262, st262⟩ := stC X212 hx hZ e212 Ar261 (j := (2 : Int32)) hin261 (g := (mkF m 84 #[.val (.int wl), .val (.int wp), .val (.int wa), .val (.int wb), .val (.int wc), .val (.int wd), .val (.int 4), .val (.int 2), .val (.ref b189), .unset, .unset] [(.int 37), (.int 2), (.ref b189)])) rfl rfl (hb hby at_84)
      have N262 := Fr.snoc X262 N212 g_b189
      have Zs263 : n0 ≤ h262.size := by rw [W262.size]; exact Zs213
      have V262 : Arv Z h262 b189 k189 .char (4 : Int32) [(.int (nar .char c0)), (.int (nar .char c1)), (.int (nar .char (37 : Int32))), (.int (nar .char c3))] (.int 0) := Arv.set Ar261 q261 S261 M261 H261 G261 (fits_nar_char _) W262 2 rfl (Nat.le_of_ble_eq_true rfl)
      obtain ⟨T264, h264, X264, e264, E264, A264, D264, -, st264⟩ := newO X262 hx hZ hown (ow hw 3 rfl) (ow hw 4 rfl) (ow hw 5 rfl) e262 (g := (mkF m 85 #[.val (.int wl), .val (.int wp), .val (.int wa), .val (.int wb), .val (.int wc), .val (.int wd), .val (.int 4), .val (.int 2), .val (.ref b189), .unset, .unset] [])) rfl (hb hby at_85) (by decide) (by decide)
      obtain ⟨b264, g264⟩ : ∃ z, z = h262.size := ⟨_, rfl⟩
      have ne_b189_b264 : b189 ≠ b264 := Nat.ne_of_lt (Nat.lt_of_lt_of_le V262.lt (Nat.le_of_eq g264.symm))
      have g_b264 : n0 ≤ b264 := Nat.le_trans Zs263 (Nat.le_of_eq g264.symm)
      have f265 := (((((((Keep.refl h0 []).ext E189).wr W194 (Or.inr sz_b189)).wr W200 (Or.inr sz_b189)).wr W206 (Or.inr sz_b189)).wr W212 (Or.inr sz_b189)).wr W262 (Or.inr sz_b189))
      have sz_b264 : h0.size ≤ b264 := Nat.le_trans f265.1 (Nat.le_of_eq g264.symm)
      rw [← g264] at A264 D264 st264
      have Zs266 : n0 ≤ h264.size := Nat.le_trans Zs263 E264.1
      have F264_coder : Fld Z h264 b264 "java/lang/String" "coder" "B" (.int 0) := D264 (Or.inr (ow hw 29 rfl)) (ty := .byte) (by decide)
      have F264_value : Fld Z h264 b264 "java/lang/String" "value" "[B" .null := D264 (Or.inr (ow hw 31 rfl)) (ty := (.array .byte)) (by decide)
      have f268 := (V262.ext E264)
      have hn270 : nar .char c0 = c0 := own_narc c0 jc0.1 jc0.2
      have hn271 : nar .char c1 = c1 := own_narc c1 jc1.1 jc1.2
      have hn272 : nar .char (37 : Int32) = (37 : Int32) := own_narc (37 : Int32) (by decide) (by decide)
      have hn273 : nar .char c3 = c3 := own_narc c3 jc3.1 jc3.2
      have Vx269 : Arv Z h264 b189 k189 .char (4 : Int32) [(.int c0), (.int c1), (.int 37), (.int c3)] (.int 0) := by
        have q := f268
        rw [hn270, hn271, hn272, hn273] at q; exact q
      have f274 := (f265.ext E264)
      have os275 := (own_st_ext (own_st_wr (own_st_wr (own_st_wr (own_st_wr (own_st_wr (own_st_ext Os E189) W194) W200) W206) W212) W262) E264)
      obtain ⟨_, _, ⟨T267, L267, k267, n267⟩, -, X267, ⟨Lc267, hQ267, l267, y267, z267⟩, st267⟩ := X264.specialBack hx (y := yn12) rfl hown (mvT hZ (ow hw 6 rfl)) (mvT hZ (ow hw 7 rfl)) (mvT hZ (ow hw 8 rfl)) (by decide) (backOf (W := 1) (rm_mu4 l Z a0 hw [] b264 b189 vcs vf k189 c0 c1 (37 : Int32) c3 h264 n0 Zs266 os275 A264 F264_coder F264_value g_b264 (Ne.symm ne_b189_b264) Vx269 jc0.1 jc1.1 (by decide) jc3.1 jc0.2 jc1.2 (by decide) jc3.2) hZ (ow hw 8 rfl) (ow hw 5 rfl) (by decide) (by decide)) (g := (mkF m 91 #[.val (.int wl), .val (.int wp), .val (.int wa), .val (.int wb), .val (.int wc), .val (.int wd), .val (.int 4), .val (.int 2), .val (.ref b189), .unset, .unset] [(.ref b189), (.ref b264), (.ref b264)])) rfl (by rw [hml]; rfl) (Steps.refl _) (a := b264) (argsL := [(.ref b189)]) (rest := [(.ref b264)]) (lenOf pd_17 rfl) rfl (by exact Nat.le_of_eq rfl) (hb hby at_91) (fun _ _ => ⟨rfl, e264, (by decide : 2 + 2 ≤ _), (by decide : 8 + 12 ≤ _)⟩)
      dsimp only [Pt.U, Pt.locs, Pt.cells, Pt.slots] at X267 l267 y267 z267 st267 hQ267
      rw [l267, y267, z267] at X267
      obtain ⟨rfl, N267q, K267, A267, ob, kb, gb, szb, Fv267, hO267⟩ := hQ267
      have N267 := Fr.app N262 N267q
      have Zs276 : n0 ≤ T267.heap.size := Nat.le_trans Zs266 K267.1
      have ne_b189_ob : b189 ≠ ob := Nat.ne_of_lt (Nat.lt_of_lt_of_le Vx269.lt szb)
      have ne_b264_ob : b264 ≠ ob := Nat.ne_of_lt (Nat.lt_of_lt_of_le A264.lt szb)
      have sz_ob : h0.size ≤ ob := Nat.le_trans f274.1 szb
      have Sx267 : own_s4 Z T267.heap b264 ob kb c0 c1 (37 : Int32) c3 := ⟨A267, Fv267, hO267⟩
      have f278 := (Vx269.keep K267 (ninS ne_b189_b264 nin0))
      obtain ⟨_, _, ⟨T277, L277, k277, n277⟩, -, X277, ⟨Lc277, hQ277, l277, y277, z277⟩, st277⟩ := Jvm.LawKit.callS X267 hx (y := yn22) hown (mvT hZ (ow hw 32 rfl)) (mvT hZ (ow hw 33 rfl)) (mvT hZ (ow hw 34 rfl)) (mvT hZ (ow hw 35 rfl)) (by decide) (backOf (W := 0) (rm_rf4_2 l Z a0 hw [] b189 k189 c0 c1 (37 : Int32) c3 T267.heap n0 Zs276 f278 jc0.1 jc1.1 (by decide) jc3.1 jc0.2 jc1.2 (by decide) jc3.2) hZ (ow hw 35 rfl) (ow hw 34 rfl) (by decide) (by decide)) (g := (mkF m 102 #[.val (.int wl), .val (.int wp), .val (.int wa), .val (.int wb), .val (.int wc), .val (.int wd), .val (.int 4), .val (.int 2), .val (.ref b189), .val (.ref b264), .unset] [(.int 2), (.int 4), (.ref b189)])) rfl (by rw [hml]; rfl) (argsL := [(.ref b189), (.int 4), (.int 2)]) (rest := []) (lenOf pd_18 rfl) rfl (by exact Nat.le_of_eq rfl) (hb hby at_102) (fun _ _ => ⟨rfl, rfl, (by decide : 4 + 0 ≤ _), (by decide : 20 + 0 ≤ _)⟩)
      dsimp only [Pt.U, Pt.locs, Pt.cells, Pt.slots] at X277 l277 y277 z277 st277 hQ277
      rw [l277, y277, z277] at X277
      obtain ⟨ze, rfl, hze, N277q, e277⟩ := hQ277
      have N277 := Fr.app N267 N277q
      have os280 := (own_st_keep os275 K267 (nsS A264.nostat ns0))
      obtain ⟨_, _, ⟨T279, L279, k279, n279⟩, -, X279, ⟨Lc279, hQ279, l279, y279, z279⟩, st279⟩ := Jvm.LawKit.callS X277 hx (y := yn23) hown (mvT hZ (ow hw 36 rfl)) (mvT hZ (ow hw 37 rfl)) (mvT hZ (ow hw 38 rfl)) (mvT hZ (ow hw 39 rfl)) (by decide) (backOf (W := 0) (rm_ee4_2 l Z a0 hw [] b264 vcs vf ob kb c0 c1 (37 : Int32) c3 T267.heap n0 Zs276 os280 Sx267) hZ (ow hw 39 rfl) (ow hw 38 rfl) (by decide) (by decide)) (g := (mkF m 111 #[.val (.int wl), .val (.int wp), .val (.int wa), .val (.int wb), .val (.int wc), .val (.int wd), .val (.int 4), .val (.int 2), .val (.ref b189), .val (.ref b264), .val (.int ze)] [(.int 2), (.ref b264)])) rfl (by rw [hml]; rfl) (argsL := [(.ref b264), (.int 2)]) (rest := []) (lenOf pd_19 rfl) rfl (by exact Nat.le_of_eq rfl) (hb hby at_111) (fun _ _ => ⟨rfl, e277, (by decide : 4 + 0 ≤ _), (by decide : 20 + 0 ≤ _)⟩)
      dsimp only [Pt.U, Pt.locs, Pt.cells, Pt.slots] at X279 l279 y279 z279 st279 hQ279
      rw [l279, y279, z279] at X279
      obtain ⟨zf, rfl, hzf, N279q, e279⟩ := hQ279
      have N279 := Fr.app N277 N279q
      have hc116_281 : zf.toInt = ze.toInt := by rw [hzf, hze]
      obtain ⟨fs, hr, q1, q2, q3, q4⟩ := X279.leave (v := some (.int 1)) (fun h => by rw [Bd.returns] at h; cases h)
      refine ⟨_, _, pre260 _ ?_, q1, q2, _, _, rfl, ?_, ⟨_, rfl⟩, q3, q4.mono (by decide) (by decide)⟩
      · refine XS.aload X212.here hx rfl (hb hby at_78) rfl rfl ?_
        refine XS.iload X212.here hx rfl (hb hby at_80) rfl ?_
        refine XS.bipush X212.here hx rfl (hb hby at_82) ?_
        refine st262 _ ?_
        refine st264 _ ?_
        refine XS.dup X264.here hx rfl (hb hby at_88) rfl rfl ?_
        refine XS.aload X264.here hx rfl (hb hby at_89) rfl rfl ?_
        show Steps p.tables e below (T264.setTop (mkF m 91 #[.val (.int wl), .val (.int wp), .val (.int wa), .val (.int wb), .val (.int wc), .val (.int wd), .val (.int 4), .val (.int 2), .val (.ref b189), .unset, .unset] [(.ref b189), (.ref b264), (.ref b264)])) _
        refine st267.trans ?_
        refine XS.astore X267.here hx rfl (hb hby at_94) rfl rfl (l' := #[.val (.int wl), .val (.int wp), .val (.int wa), .val (.int wb), .val (.int wc), .val (.int wd), .val (.int 4), .val (.int 2), .val (.ref b189), .val (.ref b264), .unset]) rfl ?_
        refine XS.aload X267.here hx rfl (hb hby at_96) rfl rfl ?_
        refine XS.iload X267.here hx rfl (hb hby at_98) rfl ?_
        refine XS.iload X267.here hx rfl (hb hby at_100) rfl ?_
        refine st277 _ ?_
        refine XS.istore X277.here hx rfl (hb hby at_105) rfl (l' := #[.val (.int wl), .val (.int wp), .val (.int wa), .val (.int wb), .val (.int wc), .val (.int wd), .val (.int 4), .val (.int 2), .val (.ref b189), .val (.ref b264), .val (.int ze)]) rfl ?_
        refine XS.aload X277.here hx rfl (hb hby at_107) rfl rfl ?_
        refine XS.iload X277.here hx rfl (hb hby at_109) rfl ?_
        refine st279 _ ?_
        refine XS.iload X279.here hx rfl (hb hby at_114) rfl ?_
        refine XS.icmpNo X279.here hx rfl (hb hby at_116) rfl (own_teq (a := zf) (b := ze) rfl rfl hc116_281).2 ?_
        refine XS.iconst X279.here hx rfl (hb hby at_119) ?_
        refine XS.goto X279.here hx rfl (pc0 := 120) (pc' := 124) rfl (hb hby at_120) (by decide) (by decide) ?_
        exact retN X279 hx (t := .boolean) Bd.returns (by simp) (hb hby at_124) hr
      · show Q0 Z _ _ _ _ _ _ _ _ h0 n0 _ T279.heap _
        rw [e279]
        exact ⟨rfl, N279⟩
    · have pre282 : oP p e below (T212.setTop (mkF m 78 #[.val (.int wl), .val (.int wp), .val (.int wa), .val (.int wb), .val (.int wc), .val (.int wd), .val (.int 4), .val (.int 3), .val (.ref b189), .unset, .unset] [])) (s₁.setTop (entryFrame m #[(.int wl), (.int wp), (.int wa), (.int wb), (.int wc), (.int wd)] maxLocals)) := pre215
      obtain ⟨cl283, Ar283, q283, S283, M283, H283, G283⟩ := id V212
      have hin283 : ¬ ((3 : Int32) < 0 ∨ cl283.slots.size ≤ ((3 : Int32)).toNatClampNeg) := inb_of S283 ⟨by decide, by decide⟩
      obtain ⟨T284, h284, X284, e284, W284, st284⟩ := stC X212 hx hZ e212 Ar283 (j := (3 : Int32)) hin283 (g := (mkF m 84 #[.val (.int wl), .val (.int wp), .val (.int wa), .val (.int wb), .val (.int wc), .val (.int wd), .val (.int 4), .val (.int 3), .val (.ref b189), .unset, .unset] [(.int 37), (.int 3), (.ref b189)])) rfl rfl (hb hby at_84)
      have N284 := Fr.snoc X284 N212 g_b189
      have Zs285 : n0 ≤ h284.size := by rw [W284.size]; exact Zs213
      have V284 : Arv Z h284 b189 k189 .char (4 : Int32) [(.int (nar .char c0)), (.int (nar .char c1)), (.int (nar .char c2)), (.int (nar .char (37 : Int32)))] (.int 0) := Arv.set Ar283 q283 S283 M283 H283 G283 (fits_nar_char _) W284 3 rfl (Nat.le_of_ble_eq_true rfl)
      obtain ⟨T286, h286, X286, e286, E286, A286, D286, -, st286⟩ := newO X284 hx hZ hown (ow hw 3 rfl) (ow hw 4 rfl) (ow hw 5 rfl) e284 (g := (mkF m 85 #[.val (.int wl), .val (.int wp), .val (.int wa), .val (.int wb), .val (.int wc), .val (.int wd), .val (.int 4), .val (.int 3), .val (.ref b189), .unset, .unset] [])) rfl (hb hby at_85) (by decide) (by decide)
      obtain ⟨b286, g286⟩ : ∃ z, z = h284.size := ⟨_, rfl⟩
      have ne_b189_b286 : b189 ≠ b286 := Nat.ne_of_lt (Nat.lt_of_lt_of_le V284.lt (Nat.le_of_eq g286.symm))
      have g_b286 : n0 ≤ b286 := Nat.le_trans Zs285 (Nat.le_of_eq g286.symm)
      have f287 := (((((((Keep.refl h0 []).ext E189).wr W194 (Or.inr sz_b189)).wr W200 (Or.inr sz_b189)).wr W206 (Or.inr sz_b189)).wr W212 (Or.inr sz_b189)).wr W284 (Or.inr sz_b189))
      have sz_b286 : h0.size ≤ b286 := Nat.le_trans f287.1 (Nat.le_of_eq g286.symm)
      rw [← g286] at A286 D286 st286
      have Zs288 : n0 ≤ h286.size := Nat.le_trans Zs285 E286.1
      have F286_coder : Fld Z h286 b286 "java/lang/String" "coder" "B" (.int 0) := D286 (Or.inr (ow hw 29 rfl)) (ty := .byte) (by decide)
      have F286_value : Fld Z h286 b286 "java/lang/String" "value" "[B" .null := D286 (Or.inr (ow hw 31 rfl)) (ty := (.array .byte)) (by decide)
      have f290 := (V284.ext E286)
      have hn292 : nar .char c0 = c0 := own_narc c0 jc0.1 jc0.2
      have hn293 : nar .char c1 = c1 := own_narc c1 jc1.1 jc1.2
      have hn294 : nar .char c2 = c2 := own_narc c2 jc2.1 jc2.2
      have hn295 : nar .char (37 : Int32) = (37 : Int32) := own_narc (37 : Int32) (by decide) (by decide)
      have Vx291 : Arv Z h286 b189 k189 .char (4 : Int32) [(.int c0), (.int c1), (.int c2), (.int 37)] (.int 0) := by
        have q := f290
        rw [hn292, hn293, hn294, hn295] at q; exact q
      have f296 := (f287.ext E286)
      have os297 := (own_st_ext (own_st_wr (own_st_wr (own_st_wr (own_st_wr (own_st_wr (own_st_ext Os E189) W194) W200) W206) W212) W284) E286)
      obtain ⟨_, _, ⟨T289, L289, k289, n289⟩, -, X289, ⟨Lc289, hQ289, l289, y289, z289⟩, st289⟩ := X286.specialBack hx (y := yn12) rfl hown (mvT hZ (ow hw 6 rfl)) (mvT hZ (ow hw 7 rfl)) (mvT hZ (ow hw 8 rfl)) (by decide) (backOf (W := 1) (rm_mu4 l Z a0 hw [] b286 b189 vcs vf k189 c0 c1 c2 (37 : Int32) h286 n0 Zs288 os297 A286 F286_coder F286_value g_b286 (Ne.symm ne_b189_b286) Vx291 jc0.1 jc1.1 jc2.1 (by decide) jc0.2 jc1.2 jc2.2 (by decide)) hZ (ow hw 8 rfl) (ow hw 5 rfl) (by decide) (by decide)) (g := (mkF m 91 #[.val (.int wl), .val (.int wp), .val (.int wa), .val (.int wb), .val (.int wc), .val (.int wd), .val (.int 4), .val (.int 3), .val (.ref b189), .unset, .unset] [(.ref b189), (.ref b286), (.ref b286)])) rfl (by rw [hml]; rfl) (Steps.refl _) (a := b286) (argsL := [(.ref b189)]) (rest := [(.ref b286)]) (lenOf pd_17 rfl) rfl (by exact Nat.le_of_eq rfl) (hb hby at_91) (fun _ _ => ⟨rfl, e286, (by decide : 2 + 2 ≤ _), (by decide : 8 + 12 ≤ _)⟩)
      dsimp only [Pt.U, Pt.locs, Pt.cells, Pt.slots] at X289 l289 y289 z289 st289 hQ289
      rw [l289, y289, z289] at X289
      obtain ⟨rfl, N289q, K289, A289, ob, kb, gb, szb, Fv289, hO289⟩ := hQ289
      have N289 := Fr.app N284 N289q
      have Zs298 : n0 ≤ T289.heap.size := Nat.le_trans Zs288 K289.1
      have ne_b189_ob : b189 ≠ ob := Nat.ne_of_lt (Nat.lt_of_lt_of_le Vx291.lt szb)
      have ne_b286_ob : b286 ≠ ob := Nat.ne_of_lt (Nat.lt_of_lt_of_le A286.lt szb)
      have sz_ob : h0.size ≤ ob := Nat.le_trans f296.1 szb
      have Sx289 : own_s4 Z T289.heap b286 ob kb c0 c1 c2 (37 : Int32) := ⟨A289, Fv289, hO289⟩
      have f300 := (Vx291.keep K289 (ninS ne_b189_b286 nin0))
      obtain ⟨_, _, ⟨T299, L299, k299, n299⟩, -, X299, ⟨Lc299, hQ299, l299, y299, z299⟩, st299⟩ := Jvm.LawKit.callS X289 hx (y := yn22) hown (mvT hZ (ow hw 32 rfl)) (mvT hZ (ow hw 33 rfl)) (mvT hZ (ow hw 34 rfl)) (mvT hZ (ow hw 35 rfl)) (by decide) (backOf (W := 0) (rm_rf4_3 l Z a0 hw [] b189 k189 c0 c1 c2 (37 : Int32) T289.heap n0 Zs298 f300 jc0.1 jc1.1 jc2.1 (by decide) jc0.2 jc1.2 jc2.2 (by decide)) hZ (ow hw 35 rfl) (ow hw 34 rfl) (by decide) (by decide)) (g := (mkF m 102 #[.val (.int wl), .val (.int wp), .val (.int wa), .val (.int wb), .val (.int wc), .val (.int wd), .val (.int 4), .val (.int 3), .val (.ref b189), .val (.ref b286), .unset] [(.int 3), (.int 4), (.ref b189)])) rfl (by rw [hml]; rfl) (argsL := [(.ref b189), (.int 4), (.int 3)]) (rest := []) (lenOf pd_18 rfl) rfl (by exact Nat.le_of_eq rfl) (hb hby at_102) (fun _ _ => ⟨rfl, rfl, (by decide : 4 + 0 ≤ _), (by decide : 20 + 0 ≤ _)⟩)
      dsimp only [Pt.U, Pt.locs, Pt.cells, Pt.slots] at X299 l299 y299 z299 st299 hQ299
      rw [l299, y299, z299] at X299
      obtain ⟨ze, rfl, hze, N299q, e299⟩ := hQ299
      have N299 := Fr.app N289 N299q
      have os302 := (own_st_keep os297 K289 (nsS A286.nostat ns0))
      obtain ⟨_, _, ⟨T301, L301, k301, n301⟩, -, X301, ⟨Lc301, hQ301, l301, y301, z301⟩, st301⟩ := Jvm.LawKit.callS X299 hx (y := yn23) hown (mvT hZ (ow hw 36 rfl)) (mvT hZ (ow hw 37 rfl)) (mvT hZ (ow hw 38 rfl)) (mvT hZ (ow hw 39 rfl)) (by decide) (backOf (W := 0) (rm_ee4_3 l Z a0 hw [] b286 vcs vf ob kb c0 c1 c2 (37 : Int32) T289.heap n0 Zs298 os302 Sx289) hZ (ow hw 39 rfl) (ow hw 38 rfl) (by decide) (by decide)) (g := (mkF m 111 #[.val (.int wl), .val (.int wp), .val (.int wa), .val (.int wb), .val (.int wc), .val (.int wd), .val (.int 4), .val (.int 3), .val (.ref b189), .val (.ref b286), .val (.int ze)] [(.int 3), (.ref b286)])) rfl (by rw [hml]; rfl) (argsL := [(.ref b286), (.int 3)]) (rest := []) (lenOf pd_19 rfl) rfl (by exact Nat.le_of_eq rfl) (hb hby at_111) (fun _ _ => ⟨rfl, e299, (by decide : 4 + 0 ≤ _), (by decide : 20 + 0 ≤ _)⟩)
      dsimp only [Pt.U, Pt.locs, Pt.cells, Pt.slots] at X301 l301 y301 z301 st301 hQ301
      rw [l301, y301, z301] at X301
      obtain ⟨zf, rfl, hzf, N301q, e301⟩ := hQ301
      have N301 := Fr.app N299 N301q
      have hc116_303 : zf.toInt = ze.toInt := by rw [hzf, hze]
      obtain ⟨fs, hr, q1, q2, q3, q4⟩ := X301.leave (v := some (.int 1)) (fun h => by rw [Bd.returns] at h; cases h)
      refine ⟨_, _, pre282 _ ?_, q1, q2, _, _, rfl, ?_, ⟨_, rfl⟩, q3, q4.mono (by decide) (by decide)⟩
      · refine XS.aload X212.here hx rfl (hb hby at_78) rfl rfl ?_
        refine XS.iload X212.here hx rfl (hb hby at_80) rfl ?_
        refine XS.bipush X212.here hx rfl (hb hby at_82) ?_
        refine st284 _ ?_
        refine st286 _ ?_
        refine XS.dup X286.here hx rfl (hb hby at_88) rfl rfl ?_
        refine XS.aload X286.here hx rfl (hb hby at_89) rfl rfl ?_
        show Steps p.tables e below (T286.setTop (mkF m 91 #[.val (.int wl), .val (.int wp), .val (.int wa), .val (.int wb), .val (.int wc), .val (.int wd), .val (.int 4), .val (.int 3), .val (.ref b189), .unset, .unset] [(.ref b189), (.ref b286), (.ref b286)])) _
        refine st289.trans ?_
        refine XS.astore X289.here hx rfl (hb hby at_94) rfl rfl (l' := #[.val (.int wl), .val (.int wp), .val (.int wa), .val (.int wb), .val (.int wc), .val (.int wd), .val (.int 4), .val (.int 3), .val (.ref b189), .val (.ref b286), .unset]) rfl ?_
        refine XS.aload X289.here hx rfl (hb hby at_96) rfl rfl ?_
        refine XS.iload X289.here hx rfl (hb hby at_98) rfl ?_
        refine XS.iload X289.here hx rfl (hb hby at_100) rfl ?_
        refine st299 _ ?_
        refine XS.istore X299.here hx rfl (hb hby at_105) rfl (l' := #[.val (.int wl), .val (.int wp), .val (.int wa), .val (.int wb), .val (.int wc), .val (.int wd), .val (.int 4), .val (.int 3), .val (.ref b189), .val (.ref b286), .val (.int ze)]) rfl ?_
        refine XS.aload X299.here hx rfl (hb hby at_107) rfl rfl ?_
        refine XS.iload X299.here hx rfl (hb hby at_109) rfl ?_
        refine st301 _ ?_
        refine XS.iload X301.here hx rfl (hb hby at_114) rfl ?_
        refine XS.icmpNo X301.here hx rfl (hb hby at_116) rfl (own_teq (a := zf) (b := ze) rfl rfl hc116_303).2 ?_
        refine XS.iconst X301.here hx rfl (hb hby at_119) ?_
        refine XS.goto X301.here hx rfl (pc0 := 120) (pc' := 124) rfl (hb hby at_120) (by decide) (by decide) ?_
        exact retN X301 hx (t := .boolean) Bd.returns (by simp) (hb hby at_124) hr
      · show Q0 Z _ _ _ _ _ _ _ _ h0 n0 _ T301.heap _
        rw [e301]
        exact ⟨rfl, N301⟩
theorem own_st0 {s : State} {a0 : Array Value} (hsets : ∀ d ∈ jdkStatics_1, d.before a0 s = true) : ∃ (vcs : Int32) (vf : Value), own_st s s.heap vcs vf := by
  obtain ⟨vcs, ec⟩ := is_v (Cond.before_iff.mp (hsets _ (List.mem_of_getElem? (i := 1) rfl)))
  obtain ⟨vf, ef, hf⟩ := isR_v (Cond.before_iff.mp (hsets _ (List.mem_of_getElem? (i := 8) rfl)))
  have nz : ¬ vcs.toInt = 0 := fun q => by
    have h1 := not_v (Cond.before_iff.mp (hsets _ (List.mem_of_getElem? (i := 2) rfl)))
    have h2 : vcs = 0 := Int32.toInt_inj.mp (by rw [q]; decide)
    subst h2
    have h3 := eq_i ec (Term.int_eval (0 : Int32)) rfl
    rw [h3] at h1; cases h1
  exact ⟨vcs, vf, Sta.start ec (Or.inl (hsets _ (List.mem_of_getElem? (i := 0) rfl))), nz, Sta.start ef (Or.inl (hsets _ (List.mem_of_getElem? (i := 7) rfl))), hf, Sta.start (Cond.eq_int (hsets _ (List.mem_of_getElem? (i := 12) rfl)) rfl) (Or.inl (hsets _ (List.mem_of_getElem? (i := 11) rfl))), Sta.start (Cond.eq_int (hsets _ (List.mem_of_getElem? (i := 15) rfl)) rfl) (Or.inl (hsets _ (List.mem_of_getElem? (i := 14) rfl))), Sta.start (Cond.eq_int (hsets _ (List.mem_of_getElem? (i := 18) rfl)) rfl) (Or.inl (hsets _ (List.mem_of_getElem? (i := 17) rfl)))⟩
theorem comes_1 {Post : Tables → Env → Array Value → State → Outcome → State → Prop} (hpost : ∀ tb e args s v u, (limb_1_1.after args s (.returned v) u = true ∧ limb_1_2.after args s (.returned v) u = true ∧ True) → FrameEnd s (.returned v) u (Jvm.fieldLocs frame_1_writes args s ++ Jvm.arrayLocs frame_1_arrays args s ++ Jvm.staticLocs frame_1_statics s) 16 128 → Post tb e args s (.returned v) u) :
    ArmFor flags0 classFile x code maxLocals ret World_1 tables_1 room_1 Calls_1 rest_1 Pre_1 Post := by
  intro l hfl _ _ p e ha hc hk s m args below hf hA hF happ hP
  obtain ⟨hcalls, hrest, hpre⟩ := hP
  obtain ⟨-, -, -, hnamed, -, -, -, hat⟩ := (Spec.applies_iff hf).mp happ
  obtain ⟨hg, hn⟩ := and_e (Cond.before_iff.mp (show (Jvm.Cond.and given_1 narrow_1).before args s = true from hpre))
  obtain ⟨g0, gr0⟩ := and_e hg
  obtain ⟨ga0, gr1⟩ := and_e gr0
  obtain ⟨ga1, gr2⟩ := and_e gr1
  obtain ⟨ga2, gr3⟩ := and_e gr2
  obtain ⟨ga3, gr4⟩ := and_e gr3
  obtain ⟨ga4, gr5⟩ := and_e gr4
  obtain ⟨w0, w1, w2, w3, w4, w5, rfl⟩ : ∃ w0 w1 w2 w3 w4 w5 : Value, args = #[w0, w1, w2, w3, w4, w5] := by
    have hs : args.size = 6 := by simpa [Cond.value, given_1] using g0
    obtain ⟨L⟩ := args
    match L, hs with
    | [w0, w1, w2, w3, w4, w5], _ => exact ⟨w0, w1, w2, w3, w4, w5, rfl⟩
  have hw := fun d (hd : d ∈ tables_1) => atoms_spec (ws := Jvm.Cond.code x code maxLocals ret :: tables_1) hat d (List.mem_cons_of_mem _ hd)
  have hfit : Fit s := fun {y c} hc i hi => by
    obtain ⟨ha, rfl⟩ := Array.getElem?_eq_some_iff.mp hc
    have q := List.all_eq_true.mp ((Array.all_eq_true_iff_forall_mem.mp hF) _ (Array.getElem_mem ha)) i (List.mem_range.mpr hi)
    simpa [Array.getElem?_eq_getElem hi] using q
  obtain ⟨hsets, hown0⟩ := atoms_of _ (rest_1_c_eq ▸ (show rest_1_c.before _ s = true from hrest))
  have hr0 := Cond.before_iff.mp hown0
  obtain ⟨i0, ei0⟩ := is_v ga0
  obtain rfl : w0 = (.int i0) := Option.some.inj ei0
  obtain ⟨i1, ei1⟩ := is_v ga1
  obtain rfl : w1 = (.int i1) := Option.some.inj ei1
  obtain ⟨i2, ei2⟩ := is_v ga2
  obtain rfl : w2 = (.int i2) := Option.some.inj ei2
  obtain ⟨i3, ei3⟩ := is_v ga3
  obtain rfl : w3 = (.int i3) := Option.some.inj ei3
  obtain ⟨i4, ei4⟩ := is_v ga4
  obtain rfl : w4 = (.int i4) := Option.some.inj ei4
  obtain ⟨i5, ei5⟩ := is_v gr5
  obtain rfl : w5 = (.int i5) := Option.some.inj ei5
  obtain ⟨vcs, vf, Os⟩ := own_st0 hsets
  obtain ⟨n, o, h1, h2, h3, v0, L, rfl, hQ, hq⟩ := rm0 l s _ hw tables_1 i0 i1 i2 i3 i4 i5 vcs vf s.heap s.heap.size (Nat.le_refl _) Os  p e ha hc hk s m _ below hf ((Spec.applies_iff_loose hf).mp happ).1 ⟨rfl, State.Warmed39.refl s, rfl⟩ trivial
  obtain ⟨rfl, N⟩ : v0 = some (.int (1 : Int32)) ∧ Fr s.heap.size L := hQ
  refine ⟨n, _, h1, h2, h3, hpost _ _ _ _ _ _ ⟨Cond.after_iff.mpr rfl, Cond.after_iff.mpr (eq_i res_at (Term.int_eval (1)) rfl), trivial⟩ ⟨hq.1, hq.2.1, (hq.2.2.sift fun y hy => Or.inr (N y hy)).mono (by decide) (by decide)⟩⟩
theorem main_1_1 : Claimed_1_1 := comes_1 fun _ _ _ _ _ _ h hF => ⟨h.1, hF⟩
theorem main_1_2 : Claimed_1_2 := comes_1 fun _ _ _ _ _ _ h hF => ⟨h.2.1, hF⟩
end Jvm.Pilot.@@N@@
namespace Jvm.Pilot.@@N@@
open Jvm Jvm.ClassFile Sem Op Lib Jvm.Free Jvm.Stand Jvm.Pilot.@@N@@.Jvm.D
/-! MADE BY PROGRAM (witnessworld.py) out of the Statement's table words and the real class files: 20 classes; the members and pool entries that the words name. The judged class is class 1, her method 1. -/
namespace start1
open Jvm.ClassFile
def u (s : String) : CpInfo := .utf8 (stringToUtf16 s)
/-- a pool by its gaps: so many unusable entries, then the entry; so many at the end -/
def gap : Nat → List CpInfo → List CpInfo
  | 0, r => r
  | n + 1, r => .unusable :: gap n r
def poolList (es : List (Nat × CpInfo)) (last : Nat) : List CpInfo := es.foldr (fun e r => gap e.1 (e.2 :: r)) (gap last [])
def pool (es : List (Nat × CpInfo)) (last : Nat) : Array CpInfo := ⟨poolList es last⟩
def fileOf (pool : Array CpInfo) (this : Nat) (attrs : Array Attribute := #[]) (ms : Array MethodInfo := #[]) (fl : Nat := 33) (sup : Nat := 0) (ifs : Array Nat := #[]) (fds : Array FieldInfo := #[]) : ClassFile where
  minorVersion := 0
  majorVersion := 65
  constantPool := pool
  accessFlags := fl
  thisClass := this
  superClass := sup
  interfaces := ifs
  fields := fds
  methods := ms
  attributes := attrs
def plain (name : String) (sup : Option ClassId) : Class where
  name := name
  kind := .ordinary
  loader := none
  accessFlags := 33
  super := sup
  interfaces := #[]
  cf := none
  fields := #[]
  methods := #[]
  instanceTypes := #[]
  staticTypes := #[]
  resolved := #[]
  callSites := []
  init := .initialized
  statics := none
  mirror := none

def pool0 : Array CpInfo := pool [(5, u "<init>"), (0, u "()V"), (1, .class_ 10), (1, u "java/lang/Object")] 113

def k0c0 : Code := { maxStack := 0, maxLocals := 1, code := object_method_1_code, exceptionTable := #[], attributes := #[] }
def k0m0 : Method := { name := "<init>", desc := "()V", sig := { parameters := [], returnType := none }, accessFlags := 1, code := some k0c0 }
/-- java/lang/Object -/
def k0 : Class := { plain "java/lang/Object" none with
  accessFlags := 33
  interfaces := #[]
  cf := some (fileOf pool0 8 #[] #[{ accessFlags := 1, nameIndex := 5, descriptorIndex := 6, attributes := #[] }] 33 0 #[] #[])
  fields := #[]
  methods := #[k0m0]
  instanceTypes := #[]
  staticTypes := #[]
  resolved := Array.replicate 124 none
  statics := none }

def pool1 : Array CpInfo := pool [(2, .class_ 4), (1, u "java/lang/Object"), (0, u "<init>"), (0, u "()V"), (0, .integer 2147483647), (0, .integer 65535), (0, .class_ 10), (0, u "java/lang/String"), (0, .methodref 9 12), (0, .nameAndType 5 13), (0, u "([C)V"), (0, .methodref 15 16), (0, .class_ 17), (0, .nameAndType 18 19), (0, u "com/example/path_template_matcher/pathtemplatematcher/PercentEncodingEscapeErrorPinLaw"), (0, u "reference"), (0, u "([CII)I"), (0, .methodref 21 22), (0, .class_ 23), (0, .nameAndType 24 25), (0, u "com/example/path_template_matcher/pathtemplatematcher/PercentEncoding"), (0, u "escapeError"), (0, u "(Ljava/lang/String;I)I"), (0, .methodref 15 27), (0, .nameAndType 28 29), (0, u "hex"), (0, u "(C)Z"), (2, u "law"), (0, u "(IIIIII)Z")] 5

def k1m0 : Method := { name := "<init>", desc := "()V", sig := { parameters := [], returnType := none }, accessFlags := 1, code := none }
def k1c1 : Code := { maxStack := 4, maxLocals := 11, code := code, exceptionTable := #[], attributes := #[] }
def k1m1 : Method := { name := "law", desc := "(IIIIII)Z", sig := { parameters := [.int, .int, .int, .int, .int, .int], returnType := some .boolean }, accessFlags := 9, code := some k1c1 }
def k1c2 : Code := { maxStack := 2, maxLocals := 2, code := method_3_code, exceptionTable := #[], attributes := #[] }
def k1m2 : Method := { name := "hex", desc := "(C)Z", sig := { parameters := [.char], returnType := some .boolean }, accessFlags := 10, code := some k1c2 }
def k1c3 : Code := { maxStack := 2, maxLocals := 5, code := method_4_code, exceptionTable := #[], attributes := #[] }
def k1m3 : Method := { name := "reference", desc := "([CII)I", sig := { parameters := [(.array .char), .int, .int], returnType := some .int }, accessFlags := 10, code := some k1c3 }
/-- com/example/path_template_matcher/pathtemplatematcher/PercentEncodingEscapeErrorPinLaw -/
def k1 : Class := { plain "com/example/path_template_matcher/pathtemplatematcher/PercentEncodingEscapeErrorPinLaw" (some 0) with
  accessFlags := 49
  interfaces := #[]
  cf := some (fileOf pool1 15 #[] #[{ accessFlags := 1, nameIndex := 5, descriptorIndex := 6, attributes := #[] }, { accessFlags := 9, nameIndex := 32, descriptorIndex := 33, attributes := #[] }, { accessFlags := 10, nameIndex := 28, descriptorIndex := 29, attributes := #[] }, { accessFlags := 10, nameIndex := 18, descriptorIndex := 19, attributes := #[] }] 49 2 #[] #[])
  fields := #[]
  methods := #[k1m0, k1m1, k1m2, k1m3]
  instanceTypes := #[]
  staticTypes := #[]
  resolved := Array.replicate 39 none
  statics := none }

def pool2 : Array CpInfo := pool [(1, .class_ 2), (0, u "java/io/Serializable"), (0, .class_ 4), (0, u "java/lang/Object")] 2

/-- java/io/Serializable -/
def k2 : Class := { plain "java/io/Serializable" (some 0) with
  accessFlags := 1537
  interfaces := #[]
  cf := some (fileOf pool2 1 #[] #[] 1537 3 #[] #[])
  fields := #[]
  methods := #[]
  instanceTypes := #[]
  staticTypes := #[]
  resolved := Array.replicate 7 none
  statics := none }

def pool3 : Array CpInfo := pool [(1, .class_ 2), (0, u "java/lang/Comparable"), (0, .class_ 4), (0, u "java/lang/Object")] 7

/-- java/lang/Comparable -/
def k3 : Class := { plain "java/lang/Comparable" (some 0) with
  accessFlags := 1537
  interfaces := #[]
  cf := some (fileOf pool3 1 #[] #[] 1537 3 #[] #[])
  fields := #[]
  methods := #[]
  instanceTypes := #[]
  staticTypes := #[]
  resolved := Array.replicate 12 none
  statics := none }

def pool4 : Array CpInfo := pool [(2, .class_ 4), (1, u "java/lang/CharSequence"), (42, .class_ 48), (0, u "java/lang/CharSequence$1CodePointIterator"), (10, .class_ 60), (0, u "java/lang/CharSequence$1CharIterator"), (5, .class_ 67), (0, u "java/lang/Object")] 63

/-- java/lang/CharSequence -/
def k4 : Class := { plain "java/lang/CharSequence" (some 0) with
  accessFlags := 1537
  interfaces := #[]
  cf := some (fileOf pool4 2 #[.nestMembers #[47, 59]] #[] 1537 66 #[] #[])
  fields := #[]
  methods := #[]
  instanceTypes := #[]
  staticTypes := #[]
  resolved := Array.replicate 131 none
  statics := none }

def pool5 : Array CpInfo := pool [(1, .class_ 2), (0, u "java/lang/constant/Constable"), (0, .class_ 4), (0, u "java/lang/Object")] 6

/-- java/lang/constant/Constable -/
def k5 : Class := { plain "java/lang/constant/Constable" (some 0) with
  accessFlags := 1537
  interfaces := #[]
  cf := some (fileOf pool5 1 #[] #[] 1537 3 #[] #[])
  fields := #[]
  methods := #[]
  instanceTypes := #[]
  staticTypes := #[]
  resolved := Array.replicate 11 none
  statics := none }

def pool6 : Array CpInfo := pool [(1, .class_ 2), (0, u "java/lang/constant/ConstantDesc"), (0, .class_ 4), (0, u "java/lang/Object")] 32

/-- java/lang/constant/ConstantDesc -/
def k6 : Class := { plain "java/lang/constant/ConstantDesc" (some 0) with
  accessFlags := 1537
  interfaces := #[]
  cf := some (fileOf pool6 1 #[] #[] 1537 3 #[] #[])
  fields := #[]
  methods := #[]
  instanceTypes := #[]
  staticTypes := #[]
  resolved := Array.replicate 37 none
  statics := none }

def pool7 : Array CpInfo := pool [(1, .methodref 2 3), (0, .class_ 4), (0, .nameAndType 5 6), (0, u "java/lang/Object"), (0, u "<init>"), (0, u "()V"), (2, .fieldref 10 11), (0, .class_ 12), (0, .nameAndType 13 14), (0, u "java/lang/String"), (0, u "value"), (0, u "[B"), (0, .fieldref 10 16), (0, .nameAndType 17 18), (0, u "coder"), (0, u "B"), (2, u "hash"), (0, u "I"), (2, u "hashIsZero"), (0, u "Z"), (0, .methodref 10 28), (0, .nameAndType 5 29), (0, u "([CIILjava/lang/Void;)V"), (8, .fieldref 10 39), (0, .nameAndType 40 26), (0, u "COMPACT_STRINGS"), (1, .class_ 44), (1, u "java/lang/StringUTF16"), (0, u "compress"), (1, .methodref 42 48), (0, .nameAndType 49 50), (0, u "coderFromArrayLen"), (0, u "([BI)B"), (56, .class_ 109), (1, u "java/lang/StringLatin1"), (32, u "()Z"), (34, .methodref 42 178), (0, .nameAndType 45 179), (0, u "([CII)[B"), (154, u "()I"), (0, .methodref 10 336), (0, .nameAndType 17 337), (0, u "()B"), (25, u "([BI)C"), (27, u "(II)V"), (35, u "(I)C"), (64, .methodref 10 493), (0, .nameAndType 494 142), (0, u "isLatin1"), (0, .methodref 107 496), (0, .nameAndType 497 363), (0, u "charAt"), (0, .methodref 42 496), (2, u "checkIndex"), (5, u "length"), (67, .class_ 576), (0, u "java/lang/CharSequence"), (22, u "CASE_INSENSITIVE_ORDER"), (0, u "Ljava/util/Comparator;"), (409, u "([C)V"), (42, .fieldref 1054 1055), (0, .class_ 1056), (0, .nameAndType 1057 1058), (0, u "jdk/internal/util/Preconditions"), (0, u "SIOOBE_FORMATTER"), (0, u "Ljava/util/function/BiFunction;"), (0, .methodref 1054 1060), (0, .nameAndType 501 1061), (0, u "(IILjava/util/function/BiFunction;)I"), (39, u "serialPersistentFields"), (0, u "[Ljava/io/ObjectStreamField;"), (0, .class_ 1104), (0, u "java/lang/String$CaseInsensitiveComparator"), (1, .class_ 1107), (0, u "java/io/Serializable"), (0, .class_ 1109), (0, u "java/lang/Comparable"), (0, .class_ 1111), (0, u "java/lang/constant/Constable"), (0, .class_ 1113), (0, u "java/lang/constant/ConstantDesc"), (2, u "serialVersionUID"), (0, u "J"), (3, u "REPL"), (0, u "C"), (2, u "LATIN1"), (1, u "UTF16")] 323

def k7m0 : Method := { name := "<init>", desc := "()V", sig := { parameters := [], returnType := none }, accessFlags := 1, code := none }
def k7c1 : Code := { maxStack := 5, maxLocals := 2, code := jdk_42_method_3_code, exceptionTable := #[], attributes := #[] }
def k7m1 : Method := { name := "<init>", desc := "([C)V", sig := { parameters := [(.array .char)], returnType := none }, accessFlags := 1, code := some k7c1 }
def k7c2 : Code := { maxStack := 2, maxLocals := 1, code := jdk_42_method_54_code, exceptionTable := #[], attributes := #[] }
def k7m2 : Method := { name := "length", desc := "()I", sig := { parameters := [], returnType := some .int }, accessFlags := 1, code := some k7c2 }
def k7c3 : Code := { maxStack := 2, maxLocals := 2, code := jdk_42_method_56_code, exceptionTable := #[], attributes := #[] }
def k7m3 : Method := { name := "charAt", desc := "(I)C", sig := { parameters := [.int], returnType := some .char }, accessFlags := 1, code := some k7c3 }
def k7c4 : Code := { maxStack := 4, maxLocals := 6, code := jdk_42_method_149_code, exceptionTable := #[], attributes := #[] }
def k7m4 : Method := { name := "<init>", desc := "([CIILjava/lang/Void;)V", sig := { parameters := [(.array .char), .int, .int, (.object "java/lang/Void")], returnType := none }, accessFlags := 2, code := some k7c4 }
def k7c5 : Code := { maxStack := 1, maxLocals := 1, code := jdk_42_method_152_code, exceptionTable := #[], attributes := #[] }
def k7m5 : Method := { name := "coder", desc := "()B", sig := { parameters := [], returnType := some .byte }, accessFlags := 0, code := some k7c5 }
def k7c6 : Code := { maxStack := 1, maxLocals := 1, code := jdk_42_method_154_code, exceptionTable := #[], attributes := #[] }
def k7m6 : Method := { name := "isLatin1", desc := "()Z", sig := { parameters := [], returnType := some .boolean }, accessFlags := 0, code := some k7c6 }
def k7c7 : Code := { maxStack := 3, maxLocals := 2, code := jdk_42_method_155_code, exceptionTable := #[], attributes := #[] }
def k7m7 : Method := { name := "checkIndex", desc := "(II)V", sig := { parameters := [.int, .int], returnType := none }, accessFlags := 8, code := some k7c7 }
/-- java/lang/String -/
def k7 : Class := { plain "java/lang/String" (some 0) with
  accessFlags := 49
  interfaces := #[2, 3, 4, 5, 6]
  cf := some (fileOf pool7 10 #[.nestMembers #[1103]] #[{ accessFlags := 1, nameIndex := 5, descriptorIndex := 6, attributes := #[] }, { accessFlags := 1, nameIndex := 5, descriptorIndex := 1010, attributes := #[] }, { accessFlags := 1, nameIndex := 507, descriptorIndex := 334, attributes := #[] }, { accessFlags := 1, nameIndex := 497, descriptorIndex := 427, attributes := #[] }, { accessFlags := 2, nameIndex := 5, descriptorIndex := 29, attributes := #[] }, { accessFlags := 0, nameIndex := 17, descriptorIndex := 337, attributes := #[] }, { accessFlags := 0, nameIndex := 494, descriptorIndex := 142, attributes := #[] }, { accessFlags := 8, nameIndex := 501, descriptorIndex := 391, attributes := #[] }] 49 2 #[1106, 1108, 575, 1110, 1112] #[{ accessFlags := 18, nameIndex := 13, descriptorIndex := 14, attributes := #[] }, { accessFlags := 18, nameIndex := 17, descriptorIndex := 18, attributes := #[] }, { accessFlags := 2, nameIndex := 21, descriptorIndex := 22, attributes := #[] }, { accessFlags := 2, nameIndex := 25, descriptorIndex := 26, attributes := #[] }, { accessFlags := 26, nameIndex := 1116, descriptorIndex := 1117, attributes := #[] }, { accessFlags := 24, nameIndex := 40, descriptorIndex := 26, attributes := #[] }, { accessFlags := 26, nameIndex := 1101, descriptorIndex := 1102, attributes := #[] }, { accessFlags := 26, nameIndex := 1121, descriptorIndex := 1122, attributes := #[] }, { accessFlags := 25, nameIndex := 599, descriptorIndex := 600, attributes := #[] }, { accessFlags := 24, nameIndex := 1125, descriptorIndex := 18, attributes := #[] }, { accessFlags := 24, nameIndex := 1127, descriptorIndex := 18, attributes := #[] }])
  fields := #[{ name := "value", type := (.array .byte), accessFlags := 18, slot := 0, constantValue := 0 }, { name := "coder", type := .byte, accessFlags := 18, slot := 1, constantValue := 0 }, { name := "hash", type := .int, accessFlags := 2, slot := 2, constantValue := 0 }, { name := "hashIsZero", type := .boolean, accessFlags := 2, slot := 3, constantValue := 0 }, { name := "serialVersionUID", type := .long, accessFlags := 26, slot := 0, constantValue := 0 }, { name := "COMPACT_STRINGS", type := .boolean, accessFlags := 24, slot := 1, constantValue := 0 }, { name := "serialPersistentFields", type := (.array (.object "java/io/ObjectStreamField")), accessFlags := 26, slot := 2, constantValue := 0 }, { name := "REPL", type := .char, accessFlags := 26, slot := 3, constantValue := 0 }, { name := "CASE_INSENSITIVE_ORDER", type := (.object "java/util/Comparator"), accessFlags := 25, slot := 4, constantValue := 0 }, { name := "LATIN1", type := .byte, accessFlags := 24, slot := 5, constantValue := 0 }, { name := "UTF16", type := .byte, accessFlags := 24, slot := 6, constantValue := 0 }]
  methods := #[k7m0, k7m1, k7m2, k7m3, k7m4, k7m5, k7m6, k7m7]
  instanceTypes := #[(.array .byte), .byte, .int, .boolean]
  staticTypes := #[.long, .boolean, (.array (.object "java/io/ObjectStreamField")), .char, (.object "java/util/Comparator"), .byte, .byte]
  resolved := Array.replicate 1451 none
  statics := some 0 }

def pool8 : Array CpInfo := pool [(3, .class_ 4), (0, u "java/lang/String"), (1, .class_ 8), (1, u "java/lang/Object"), (0, u "<init>"), (0, u "()V"), (0, .methodref 12 13), (0, .class_ 14), (0, .nameAndType 15 16), (0, u "java/lang/StringUTF16"), (0, u "newBytesLength"), (0, u "(I)I"), (3, .integer 1073741823), (23, .fieldref 12 45), (0, .nameAndType 46 47), (0, u "$assertionsDisabled"), (0, u "Z"), (0, .methodref 12 49), (0, .nameAndType 50 51), (0, u "length"), (0, u "([B)I"), (7, .fieldref 12 60), (0, .nameAndType 61 62), (0, u "HI_BYTE_SHIFT"), (0, u "I"), (0, .fieldref 12 64), (0, .nameAndType 65 62), (0, u "LO_BYTE_SHIFT"), (1, .methodref 12 68), (0, .nameAndType 69 70), (0, u "checkIndex"), (0, u "(I[B)V"), (0, .methodref 12 72), (0, .nameAndType 73 74), (0, u "getChar"), (0, u "([BI)C"), (32, .methodref 12 108), (0, .nameAndType 109 110), (0, u "newBytesFor"), (0, u "(I)[B"), (0, .methodref 12 112), (0, .nameAndType 113 114), (0, u "putChar"), (0, u "([BII)V"), (0, .methodref 12 116), (0, .nameAndType 117 118), (0, u "compress"), (0, u "([CI[BII)I"), (0, .methodref 12 120), (0, .nameAndType 121 122), (0, u "toBytes"), (0, u "([CII)[B"), (138, u "coderFromArrayLen"), (0, u "([BI)B"), (106, .class_ 371), (1, u "java/lang/StringUTF16$LinesSpliterator"), (20, u "charAt"), (21, .methodref 3 415), (0, .nameAndType 69 416), (0, u "(II)V"), (13, u "MAX_LENGTH"), (196, .class_ 628), (0, u "java/lang/StringUTF16$CodePointsSpliterator"), (0, .class_ 630), (0, u "java/lang/StringUTF16$CharsSpliterator")] 4

def k8m0 : Method := { name := "<init>", desc := "()V", sig := { parameters := [], returnType := none }, accessFlags := 0, code := none }
def k8c1 : Code := { maxStack := 1, maxLocals := 1, code := jdk_52_method_2_code, exceptionTable := #[], attributes := #[] }
def k8m1 : Method := { name := "newBytesFor", desc := "(I)[B", sig := { parameters := [.int], returnType := some (.array .byte) }, accessFlags := 9, code := some k8c1 }
def k8c2 : Code := { maxStack := 4, maxLocals := 1, code := jdk_52_method_3_code, exceptionTable := #[], attributes := #[] }
def k8m2 : Method := { name := "newBytesLength", desc := "(I)I", sig := { parameters := [.int], returnType := some .int }, accessFlags := 9, code := some k8c2 }
def k8c3 : Code := { maxStack := 4, maxLocals := 3, code := jdk_52_method_4_code, exceptionTable := #[], attributes := #[] }
def k8m3 : Method := { name := "putChar", desc := "([BII)V", sig := { parameters := [(.array .byte), .int, .int], returnType := none }, accessFlags := 8, code := some k8c3 }
def k8c4 : Code := { maxStack := 3, maxLocals := 2, code := jdk_52_method_5_code, exceptionTable := #[], attributes := #[] }
def k8m4 : Method := { name := "getChar", desc := "([BI)C", sig := { parameters := [(.array .byte), .int], returnType := some .char }, accessFlags := 8, code := some k8c4 }
def k8c5 : Code := { maxStack := 2, maxLocals := 1, code := jdk_52_method_6_code, exceptionTable := #[], attributes := #[] }
def k8m5 : Method := { name := "length", desc := "([B)I", sig := { parameters := [(.array .byte)], returnType := some .int }, accessFlags := 9, code := some k8c5 }
def k8c6 : Code := { maxStack := 4, maxLocals := 5, code := jdk_52_method_14_code, exceptionTable := #[], attributes := #[] }
def k8m6 : Method := { name := "toBytes", desc := "([CII)[B", sig := { parameters := [(.array .char), .int, .int], returnType := some (.array .byte) }, accessFlags := 9, code := some k8c6 }
def k8c7 : Code := { maxStack := 2, maxLocals := 2, code := jdk_52_method_15_code, exceptionTable := #[], attributes := #[] }
def k8m7 : Method := { name := "coderFromArrayLen", desc := "([BI)B", sig := { parameters := [(.array .byte), .int], returnType := some .byte }, accessFlags := 8, code := some k8c7 }
def k8c8 : Code := { maxStack := 5, maxLocals := 6, code := jdk_52_method_16_code, exceptionTable := #[], attributes := #[] }
def k8m8 : Method := { name := "compress", desc := "([CII)[B", sig := { parameters := [(.array .char), .int, .int], returnType := some (.array .byte) }, accessFlags := 9, code := some k8c8 }
def k8c9 : Code := { maxStack := 3, maxLocals := 7, code := jdk_52_method_21_code, exceptionTable := #[], attributes := #[] }
def k8m9 : Method := { name := "compress", desc := "([CI[BII)I", sig := { parameters := [(.array .char), .int, (.array .byte), .int, .int], returnType := some .int }, accessFlags := 9, code := some k8c9 }
def k8c10 : Code := { maxStack := 2, maxLocals := 2, code := jdk_52_method_83_code, exceptionTable := #[], attributes := #[] }
def k8m10 : Method := { name := "charAt", desc := "([BI)C", sig := { parameters := [(.array .byte), .int], returnType := some .char }, accessFlags := 9, code := some k8c10 }
def k8c11 : Code := { maxStack := 2, maxLocals := 2, code := jdk_52_method_91_code, exceptionTable := #[], attributes := #[] }
def k8m11 : Method := { name := "checkIndex", desc := "(I[B)V", sig := { parameters := [.int, (.array .byte)], returnType := none }, accessFlags := 9, code := some k8c11 }
/-- java/lang/StringUTF16 -/
def k8 : Class := { plain "java/lang/StringUTF16" (some 0) with
  accessFlags := 48
  interfaces := #[]
  cf := some (fileOf pool8 12 #[.nestMembers #[627, 629, 369]] #[{ accessFlags := 0, nameIndex := 9, descriptorIndex := 10, attributes := #[] }, { accessFlags := 9, nameIndex := 109, descriptorIndex := 110, attributes := #[] }, { accessFlags := 9, nameIndex := 15, descriptorIndex := 16, attributes := #[] }, { accessFlags := 8, nameIndex := 113, descriptorIndex := 114, attributes := #[] }, { accessFlags := 8, nameIndex := 73, descriptorIndex := 74, attributes := #[] }, { accessFlags := 9, nameIndex := 50, descriptorIndex := 51, attributes := #[] }, { accessFlags := 9, nameIndex := 121, descriptorIndex := 122, attributes := #[] }, { accessFlags := 8, nameIndex := 261, descriptorIndex := 262, attributes := #[] }, { accessFlags := 9, nameIndex := 117, descriptorIndex := 122, attributes := #[] }, { accessFlags := 9, nameIndex := 117, descriptorIndex := 118, attributes := #[] }, { accessFlags := 9, nameIndex := 392, descriptorIndex := 74, attributes := #[] }, { accessFlags := 9, nameIndex := 69, descriptorIndex := 70, attributes := #[] }] 48 6 #[] #[{ accessFlags := 26, nameIndex := 61, descriptorIndex := 62, attributes := #[] }, { accessFlags := 26, nameIndex := 65, descriptorIndex := 62, attributes := #[] }, { accessFlags := 24, nameIndex := 430, descriptorIndex := 62, attributes := #[] }, { accessFlags := 4120, nameIndex := 46, descriptorIndex := 47, attributes := #[] }])
  fields := #[{ name := "HI_BYTE_SHIFT", type := .int, accessFlags := 26, slot := 0, constantValue := 0 }, { name := "LO_BYTE_SHIFT", type := .int, accessFlags := 26, slot := 1, constantValue := 0 }, { name := "MAX_LENGTH", type := .int, accessFlags := 24, slot := 2, constantValue := 0 }, { name := "$assertionsDisabled", type := .boolean, accessFlags := 4120, slot := 3, constantValue := 0 }]
  methods := #[k8m0, k8m1, k8m2, k8m3, k8m4, k8m5, k8m6, k8m7, k8m8, k8m9, k8m10, k8m11]
  instanceTypes := #[]
  staticTypes := #[.int, .int, .int, .boolean]
  resolved := Array.replicate 635 none
  statics := some 1 }

def pool9 : Array CpInfo := pool [(2, .class_ 4), (1, u "java/lang/Object"), (0, u "<init>"), (0, u "()V"), (7, .class_ 16), (1, u "java/lang/String"), (8, .class_ 27), (1, u "com/example/path_template_matcher/pathtemplatematcher/PercentEncoding"), (1, u "(C)Z"), (6, u "HEX_DIGITS"), (0, u "[C"), (44, .methodref 14 83), (0, .nameAndType 84 85), (0, u "length"), (0, u "()I"), (0, .methodref 14 87), (0, .nameAndType 88 89), (0, u "charAt"), (0, u "(I)C"), (0, .methodref 25 91), (0, .nameAndType 92 29), (0, u "isHexDigit"), (17, u "escapeError"), (0, u "(Ljava/lang/String;I)I"), (47, u "UNRESERVED_SYMBOLS"), (0, u "Ljava/lang/String;")] 14

def k9m0 : Method := { name := "<init>", desc := "()V", sig := { parameters := [], returnType := none }, accessFlags := 2, code := none }
def k9c1 : Code := { maxStack := 3, maxLocals := 3, code := prog_26_method_5_code, exceptionTable := #[], attributes := #[] }
def k9m1 : Method := { name := "escapeError", desc := "(Ljava/lang/String;I)I", sig := { parameters := [(.object "java/lang/String"), .int], returnType := some .int }, accessFlags := 8, code := some k9c1 }
def k9c2 : Code := { maxStack := 2, maxLocals := 1, code := prog_26_method_8_code, exceptionTable := #[], attributes := #[] }
def k9m2 : Method := { name := "isHexDigit", desc := "(C)Z", sig := { parameters := [.char], returnType := some .boolean }, accessFlags := 10, code := some k9c2 }
/-- com/example/path_template_matcher/pathtemplatematcher/PercentEncoding -/
def k9 : Class := { plain "com/example/path_template_matcher/pathtemplatematcher/PercentEncoding" (some 0) with
  accessFlags := 49
  interfaces := #[]
  cf := some (fileOf pool9 25 #[] #[{ accessFlags := 2, nameIndex := 5, descriptorIndex := 6, attributes := #[] }, { accessFlags := 8, nameIndex := 110, descriptorIndex := 111, attributes := #[] }, { accessFlags := 10, nameIndex := 92, descriptorIndex := 29, attributes := #[] }] 49 2 #[] #[{ accessFlags := 26, nameIndex := 159, descriptorIndex := 160, attributes := #[] }, { accessFlags := 26, nameIndex := 36, descriptorIndex := 37, attributes := #[] }])
  fields := #[{ name := "UNRESERVED_SYMBOLS", type := (.object "java/lang/String"), accessFlags := 26, slot := 0, constantValue := 0 }, { name := "HEX_DIGITS", type := (.array .char), accessFlags := 26, slot := 1, constantValue := 0 }]
  methods := #[k9m0, k9m1, k9m2]
  instanceTypes := #[]
  staticTypes := #[(.object "java/lang/String"), (.array .char)]
  resolved := Array.replicate 175 none
  statics := none }

def pool10 : Array CpInfo := pool [(2, .class_ 4), (1, u "java/lang/Object"), (0, u "<init>"), (0, u "()V"), (17, .class_ 26), (1, u "jdk/internal/util/Preconditions"), (6, u "checkIndex"), (21, .class_ 56), (0, u "jdk/internal/util/Preconditions$4"), (57, .class_ 115), (0, u "jdk/internal/util/Preconditions$1"), (7, u "SIOOBE_FORMATTER"), (0, u "Ljava/util/function/BiFunction;"), (0, .class_ 126), (0, u "jdk/internal/util/Preconditions$2"), (3, u "AIOOBE_FORMATTER"), (0, .class_ 132), (0, u "jdk/internal/util/Preconditions$3"), (3, u "IOOBE_FORMATTER"), (41, u "(IILjava/util/function/BiFunction;)I")] 15

def k10m0 : Method := { name := "<init>", desc := "()V", sig := { parameters := [], returnType := none }, accessFlags := 1, code := none }
def k10c1 : Code := { maxStack := 3, maxLocals := 3, code := jdk_41_method_11_code, exceptionTable := #[], attributes := #[] }
def k10m1 : Method := { name := "checkIndex", desc := "(IILjava/util/function/BiFunction;)I", sig := { parameters := [.int, .int, (.object "java/util/function/BiFunction")], returnType := some .int }, accessFlags := 9, code := some k10c1 }
/-- jdk/internal/util/Preconditions -/
def k10 : Class := { plain "jdk/internal/util/Preconditions" (some 0) with
  accessFlags := 33
  interfaces := #[]
  cf := some (fileOf pool10 24 #[.nestMembers #[55, 131, 125, 114]] #[{ accessFlags := 1, nameIndex := 5, descriptorIndex := 6, attributes := #[] }, { accessFlags := 9, nameIndex := 33, descriptorIndex := 178, attributes := #[] }] 33 2 #[] #[{ accessFlags := 25, nameIndex := 123, descriptorIndex := 124, attributes := #[] }, { accessFlags := 25, nameIndex := 130, descriptorIndex := 124, attributes := #[] }, { accessFlags := 25, nameIndex := 136, descriptorIndex := 124, attributes := #[] }])
  fields := #[{ name := "SIOOBE_FORMATTER", type := (.object "java/util/function/BiFunction"), accessFlags := 25, slot := 0, constantValue := 0 }, { name := "AIOOBE_FORMATTER", type := (.object "java/util/function/BiFunction"), accessFlags := 25, slot := 1, constantValue := 0 }, { name := "IOOBE_FORMATTER", type := (.object "java/util/function/BiFunction"), accessFlags := 25, slot := 2, constantValue := 0 }]
  methods := #[k10m0, k10m1]
  instanceTypes := #[]
  staticTypes := #[(.object "java/util/function/BiFunction"), (.object "java/util/function/BiFunction"), (.object "java/util/function/BiFunction")]
  resolved := Array.replicate 194 none
  statics := some 2 }

def pool11 : Array CpInfo := pool [(1, .class_ 2), (0, u "java/lang/String"), (1, .class_ 6), (1, u "java/lang/Object"), (0, u "<init>"), (0, u "()V"), (0, .methodref 1 10), (0, .nameAndType 11 12), (0, u "checkIndex"), (0, u "(II)V"), (1, .class_ 16), (1, u "java/lang/StringLatin1"), (36, u "([BI)C"), (67, u "$assertionsDisabled"), (0, u "Z"), (98, .class_ 223), (1, u "java/lang/StringLatin1$LinesSpliterator"), (28, u "charAt"), (137, .class_ 391), (0, u "java/lang/StringLatin1$CharsSpliterator")] 3

def k11m0 : Method := { name := "<init>", desc := "()V", sig := { parameters := [], returnType := none }, accessFlags := 0, code := none }
def k11c1 : Code := { maxStack := 2, maxLocals := 2, code := jdk_43_method_2_code, exceptionTable := #[], attributes := #[] }
def k11m1 : Method := { name := "charAt", desc := "([BI)C", sig := { parameters := [(.array .byte), .int], returnType := some .char }, accessFlags := 9, code := some k11c1 }
/-- java/lang/StringLatin1 -/
def k11 : Class := { plain "java/lang/StringLatin1" (some 0) with
  accessFlags := 48
  interfaces := #[]
  cf := some (fileOf pool11 14 #[.nestMembers #[390, 221]] #[{ accessFlags := 0, nameIndex := 7, descriptorIndex := 8, attributes := #[] }, { accessFlags := 9, nameIndex := 252, descriptorIndex := 53, attributes := #[] }] 48 4 #[] #[{ accessFlags := 4120, nameIndex := 121, descriptorIndex := 122, attributes := #[] }])
  fields := #[{ name := "$assertionsDisabled", type := .boolean, accessFlags := 4120, slot := 0, constantValue := 0 }]
  methods := #[k11m0, k11m1]
  instanceTypes := #[]
  staticTypes := #[.boolean]
  resolved := Array.replicate 395 none
  statics := none }

def pool12 : Array CpInfo := pool [(9, u "<init>"), (6, .class_ 18), (1, u "java/lang/Object"), (0, u "()V"), (1, .class_ 23), (1, u "jdk/internal/util/ArraysSupport"), (0, u "LOG2_ARRAY_LONG_INDEX_SCALE"), (0, u "I"), (2, u "U"), (0, u "Ljdk/internal/misc/Unsafe;"), (8, u "BIG_ENDIAN"), (0, u "Z"), (8, u "LOG2_BYTE_BIT_SIZE"), (4, u "LOG2_ARRAY_INT_INDEX_SCALE"), (54, u "JLA"), (0, u "Ljdk/internal/access/JavaLangAccess;"), (11, u "LOG2_ARRAY_BOOLEAN_INDEX_SCALE"), (9, u "LOG2_ARRAY_BYTE_INDEX_SCALE"), (5, u "LOG2_ARRAY_CHAR_INDEX_SCALE"), (5, u "LOG2_ARRAY_SHORT_INDEX_SCALE"), (18, u "LOG2_ARRAY_FLOAT_INDEX_SCALE"), (24, u "LOG2_ARRAY_DOUBLE_INDEX_SCALE"), (89, u "T_BOOLEAN"), (2, u "T_CHAR"), (1, u "T_FLOAT"), (1, u "T_DOUBLE"), (1, u "T_BYTE"), (1, u "T_SHORT"), (1, u "T_INT"), (1, u "T_LONG"), (1, u "SOFT_MAX_ARRAY_LENGTH")] 83

def k12m0 : Method := { name := "<init>", desc := "()V", sig := { parameters := [], returnType := none }, accessFlags := 2, code := none }
/-- jdk/internal/util/ArraysSupport -/
def k12 : Class := { plain "jdk/internal/util/ArraysSupport" (some 0) with
  accessFlags := 33
  interfaces := #[]
  cf := some (fileOf pool12 21 #[] #[{ accessFlags := 2, nameIndex := 9, descriptorIndex := 19, attributes := #[] }] 33 16 #[] #[{ accessFlags := 24, nameIndex := 28, descriptorIndex := 29, attributes := #[] }, { accessFlags := 26, nameIndex := 38, descriptorIndex := 39, attributes := #[] }, { accessFlags := 25, nameIndex := 121, descriptorIndex := 25, attributes := #[] }, { accessFlags := 25, nameIndex := 131, descriptorIndex := 25, attributes := #[] }, { accessFlags := 25, nameIndex := 137, descriptorIndex := 25, attributes := #[] }, { accessFlags := 25, nameIndex := 143, descriptorIndex := 25, attributes := #[] }, { accessFlags := 25, nameIndex := 53, descriptorIndex := 25, attributes := #[] }, { accessFlags := 25, nameIndex := 24, descriptorIndex := 25, attributes := #[] }, { accessFlags := 25, nameIndex := 162, descriptorIndex := 25, attributes := #[] }, { accessFlags := 25, nameIndex := 187, descriptorIndex := 25, attributes := #[] }, { accessFlags := 26, nameIndex := 48, descriptorIndex := 25, attributes := #[] }, { accessFlags := 25, nameIndex := 277, descriptorIndex := 25, attributes := #[] }, { accessFlags := 25, nameIndex := 280, descriptorIndex := 25, attributes := #[] }, { accessFlags := 25, nameIndex := 282, descriptorIndex := 25, attributes := #[] }, { accessFlags := 25, nameIndex := 284, descriptorIndex := 25, attributes := #[] }, { accessFlags := 25, nameIndex := 286, descriptorIndex := 25, attributes := #[] }, { accessFlags := 25, nameIndex := 288, descriptorIndex := 25, attributes := #[] }, { accessFlags := 25, nameIndex := 290, descriptorIndex := 25, attributes := #[] }, { accessFlags := 25, nameIndex := 292, descriptorIndex := 25, attributes := #[] }, { accessFlags := 26, nameIndex := 108, descriptorIndex := 109, attributes := #[] }, { accessFlags := 25, nameIndex := 294, descriptorIndex := 25, attributes := #[] }])
  fields := #[{ name := "U", type := (.object "jdk/internal/misc/Unsafe"), accessFlags := 24, slot := 0, constantValue := 0 }, { name := "BIG_ENDIAN", type := .boolean, accessFlags := 26, slot := 1, constantValue := 0 }, { name := "LOG2_ARRAY_BOOLEAN_INDEX_SCALE", type := .int, accessFlags := 25, slot := 2, constantValue := 0 }, { name := "LOG2_ARRAY_BYTE_INDEX_SCALE", type := .int, accessFlags := 25, slot := 3, constantValue := 0 }, { name := "LOG2_ARRAY_CHAR_INDEX_SCALE", type := .int, accessFlags := 25, slot := 4, constantValue := 0 }, { name := "LOG2_ARRAY_SHORT_INDEX_SCALE", type := .int, accessFlags := 25, slot := 5, constantValue := 0 }, { name := "LOG2_ARRAY_INT_INDEX_SCALE", type := .int, accessFlags := 25, slot := 6, constantValue := 0 }, { name := "LOG2_ARRAY_LONG_INDEX_SCALE", type := .int, accessFlags := 25, slot := 7, constantValue := 0 }, { name := "LOG2_ARRAY_FLOAT_INDEX_SCALE", type := .int, accessFlags := 25, slot := 8, constantValue := 0 }, { name := "LOG2_ARRAY_DOUBLE_INDEX_SCALE", type := .int, accessFlags := 25, slot := 9, constantValue := 0 }, { name := "LOG2_BYTE_BIT_SIZE", type := .int, accessFlags := 26, slot := 10, constantValue := 0 }, { name := "T_BOOLEAN", type := .int, accessFlags := 25, slot := 11, constantValue := 0 }, { name := "T_CHAR", type := .int, accessFlags := 25, slot := 12, constantValue := 0 }, { name := "T_FLOAT", type := .int, accessFlags := 25, slot := 13, constantValue := 0 }, { name := "T_DOUBLE", type := .int, accessFlags := 25, slot := 14, constantValue := 0 }, { name := "T_BYTE", type := .int, accessFlags := 25, slot := 15, constantValue := 0 }, { name := "T_SHORT", type := .int, accessFlags := 25, slot := 16, constantValue := 0 }, { name := "T_INT", type := .int, accessFlags := 25, slot := 17, constantValue := 0 }, { name := "T_LONG", type := .int, accessFlags := 25, slot := 18, constantValue := 0 }, { name := "JLA", type := (.object "jdk/internal/access/JavaLangAccess"), accessFlags := 26, slot := 19, constantValue := 0 }, { name := "SOFT_MAX_ARRAY_LENGTH", type := .int, accessFlags := 25, slot := 20, constantValue := 0 }]
  methods := #[k12m0]
  instanceTypes := #[]
  staticTypes := #[(.object "jdk/internal/misc/Unsafe"), .boolean, .int, .int, .int, .int, .int, .int, .int, .int, .int, .int, .int, .int, .int, .int, .int, .int, .int, (.object "jdk/internal/access/JavaLangAccess"), .int]
  resolved := Array.replicate 378 none
  statics := none }

def pool13 : Array CpInfo := pool [(1, u "java/lang/Cloneable"), (0, .class_ 1), (0, u "java/lang/Object"), (0, .class_ 3)] 3

/-- java/lang/Cloneable -/
def k13 : Class := { plain "java/lang/Cloneable" (some 0) with
  accessFlags := 1537
  interfaces := #[]
  cf := some (fileOf pool13 2 #[] #[] 1537 4 #[] #[])
  fields := #[]
  methods := #[]
  instanceTypes := #[]
  staticTypes := #[]
  resolved := Array.replicate 8 none
  statics := none }

/-- the primitive byte -/
def k14 : Class := { plain "byte" none with kind := .primitive 'B', accessFlags := 0x411 }
/-- [B -/
def k15 : Class := { plain "[B" (some 0) with kind := .array 14 .byte, interfaces := #[13, 2], accessFlags := 1041 }

/-- the primitive char -/
def k16 : Class := { plain "char" none with kind := .primitive 'C', accessFlags := 0x411 }
/-- [C -/
def k17 : Class := { plain "[C" (some 0) with kind := .array 16 .char, interfaces := #[13, 2], accessFlags := 1041 }

/-- the primitive int -/
def k18 : Class := { plain "int" none with kind := .primitive 'I', accessFlags := 0x411 }
/-- [I -/
def k19 : Class := { plain "[I" (some 0) with kind := .array 18 .int, interfaces := #[13, 2], accessFlags := 1041 }

def heap : Heap := #[{ cls := 7, slots := #[.long 0, .int 1, .null, .int 0, .null, .int 0, .int 0], vm := .statics 7 },
  { cls := 8, slots := #[.int 0, .int 8, .int 0, .int 1], vm := .statics 8 },
  { cls := 10, slots := #[.null, .null, .null], vm := .statics 10 }]
def classes : Array Class := #[k0, k1, k2, k3, k4, k5, k6, k7, k8, k9, k10, k11, k12, k13, k14, k15, k16, k17, k18, k19]
def interned : List (Array UInt16 × Addr) := []
def slotsUsed : Nat := 14
def theMethod : MethodId := ⟨1, 1⟩
def args0 : Array Value := #[.int 5, .int 6, .int 7, .int 8, .int 9, .int 10]
def aboutOver (below : List Frame) : State where
  vm := { classes := classes, interned := interned.toArray }
  heap := heap
  slotsUsed := slotsUsed
  threads := #[{ frames := .invoking theMethod args0 :: below }]
def below0 : List Frame := [.native { method := ⟨0, 0⟩, args := #[] }]
def about1 : State := aboutOver below0
def p0 : Program := .bare "" "" ""
def e0 : Env := launch0.env 0 0 0
theorem w_frames : about1.frames = Frame.invoking theMethod args0 :: below0 := rfl
set_option maxRecDepth 65536 in
theorem w_args : argsFit about1.vm theMethod args0 = true := by decide +kernel
set_option maxRecDepth 65536 in
theorem w_heap : heapFits about1 = true := by decide +kernel
set_option maxRecDepth 65536 in
theorem w_runnable : about1.curStatus? = some .runnable := by decide +kernel
set_option maxRecDepth 65536 in
theorem w_alone : about1.alone = true := by decide +kernel
set_option maxRecDepth 65536 in
theorem w_named : about1.methodNamed? x = some theMethod := by decide +kernel
set_option maxRecDepth 65536 in
theorem w_hears : about1.hears theMethod below0 = true := by decide +kernel
set_option maxRecDepth 65536 in
theorem w_ripe : about1.ripe theMethod args0 below0 = true := by decide +kernel
theorem w_running : about1.status = .running := rfl
set_option maxRecDepth 65536 in
theorem w_room : about1.hasRoom e0.platform room_1 = true :=
  launch0.hasRoom_least _ room_1 (by decide +kernel) (by decide +kernel) (by decide +kernel) (by decide +kernel) (by decide +kernel) (by decide +kernel)
theorem allAtoms_all (ts : List Jvm.Cond) (a : Array Jvm.Value) (st : Jvm.State) : (allAtoms ts).before a st = ts.all (fun c => c.before a st) := by
  induction ts with
  | nil => rfl
  | cons c t ih =>
    show (Jvm.Cond.and c (allAtoms t)).before a st = _
    rw [Jvm.Cond.before_and, ih, List.all_cons]
def words1 : List Jvm.Cond := Jvm.Cond.code x code maxLocals ret :: tables_1
/-- a 'code' word, met by the world's own term for the bytes: nothing is compared byte by byte -/
theorem code_word {y : MethodName} {bytes : ByteArray} {mx : Nat} {rt : Option FieldType} {a : Array Value} {s : State} {m : MethodId} {meth : Method} {c : Code} (h1 : s.methodNamed? y = some m) (h2 : s.vm.method? m = some meth) (h3 : meth.code = some c) (h4 : c.code = bytes)
    (h5 : (c.maxLocals == mx && c.exceptionTable.isEmpty && decide (c.maxStack ≤ mostOperands) && decide (meth.sig.returnType = rt) && !meth.locks && decide (parseMethodDescriptor y.desc = some meth.sig)) = true) : (Jvm.Cond.code y bytes mx rt).before a s = true := by
  simp only [Bool.and_eq_true, beq_iff_eq, Bool.not_eq_true', decide_eq_true_eq] at h5
  obtain ⟨⟨⟨⟨⟨g1, g2⟩, g3⟩, g4⟩, g5⟩, g6⟩ := h5
  simp [Cond.before, Cond.holds, Cond.value, h1, h2, h3, h4, g1, g2, g3, g4, g5, g6]
def isCode : Jvm.Cond → Bool
  | .code _ _ _ _ => true
  | _ => false
theorem all_split {L : List Jvm.Cond} {P : Jvm.Cond → Bool} (h1 : L.all (fun c => isCode c || P c) = true) (h2 : ∀ c ∈ L.filter isCode, P c = true) : L.all P = true := by
  refine List.all_eq_true.mpr fun c hc => ?_
  have h := List.all_eq_true.mp h1 c hc
  rcases Bool.eq_false_or_eq_true (isCode c) with hi | hi
  · exact h2 c (List.mem_filter.mpr ⟨hc, hi⟩)
  · simpa [hi] using h
set_option maxRecDepth 65536 in
theorem w_c0 : (Jvm.Cond.code x code maxLocals ret).before args0 about1 = true := code_word (m := ⟨1, 1⟩) (meth := k1m1) (c := k1c1) (by decide +kernel) rfl rfl rfl (by decide +kernel)
set_option maxRecDepth 65536 in
theorem w_c1 : (Jvm.Cond.code ({ cls := "java/lang/String", name := "<init>", desc := "([C)V" } : Jvm.MethodName) jdk_42_method_3_code (2 : Nat) (Option.none : Option Jvm.ClassFile.FieldType)).before args0 about1 = true := code_word (m := ⟨7, 1⟩) (meth := k7m1) (c := k7c1) (by decide +kernel) rfl rfl rfl (by decide +kernel)
set_option maxRecDepth 65536 in
theorem w_c2 : (Jvm.Cond.code ({ cls := "java/lang/String", name := "<init>", desc := "([CIILjava/lang/Void;)V" } : Jvm.MethodName) jdk_42_method_149_code (6 : Nat) (Option.none : Option Jvm.ClassFile.FieldType)).before args0 about1 = true := code_word (m := ⟨7, 4⟩) (meth := k7m4) (c := k7c4) (by decide +kernel) rfl rfl rfl (by decide +kernel)
set_option maxRecDepth 65536 in
theorem w_c3 : (Jvm.Cond.code ({ cls := "java/lang/Object", name := "<init>", desc := "()V" } : Jvm.MethodName) object_method_1_code (1 : Nat) (Option.none : Option Jvm.ClassFile.FieldType)).before args0 about1 = true := code_word (m := ⟨0, 0⟩) (meth := k0m0) (c := k0c0) (by decide +kernel) rfl rfl rfl (by decide +kernel)
set_option maxRecDepth 65536 in
theorem w_c4 : (Jvm.Cond.code ({ cls := "java/lang/StringUTF16", name := "compress", desc := "([CII)[B" } : Jvm.MethodName) jdk_52_method_16_code (6 : Nat) (Option.some (Jvm.ClassFile.FieldType.array Jvm.ClassFile.FieldType.byte))).before args0 about1 = true := code_word (m := ⟨8, 8⟩) (meth := k8m8) (c := k8c8) (by decide +kernel) rfl rfl rfl (by decide +kernel)
set_option maxRecDepth 65536 in
theorem w_c5 : (Jvm.Cond.code ({ cls := "java/lang/StringUTF16", name := "compress", desc := "([CI[BII)I" } : Jvm.MethodName) jdk_52_method_21_code (7 : Nat) (Option.some Jvm.ClassFile.FieldType.int)).before args0 about1 = true := code_word (m := ⟨8, 9⟩) (meth := k8m9) (c := k8c9) (by decide +kernel) rfl rfl rfl (by decide +kernel)
set_option maxRecDepth 65536 in
theorem w_c6 : (Jvm.Cond.code ({ cls := "java/lang/StringUTF16", name := "coderFromArrayLen", desc := "([BI)B" } : Jvm.MethodName) jdk_52_method_15_code (2 : Nat) (Option.some Jvm.ClassFile.FieldType.byte)).before args0 about1 = true := code_word (m := ⟨8, 7⟩) (meth := k8m7) (c := k8c7) (by decide +kernel) rfl rfl rfl (by decide +kernel)
set_option maxRecDepth 65536 in
theorem w_c7 : (Jvm.Cond.code ({ cls := "com/example/path_template_matcher/pathtemplatematcher/PercentEncodingEscapeErrorPinLaw", name := "reference", desc := "([CII)I" } : Jvm.MethodName) method_4_code (5 : Nat) (Option.some Jvm.ClassFile.FieldType.int)).before args0 about1 = true := code_word (m := ⟨1, 3⟩) (meth := k1m3) (c := k1c3) (by decide +kernel) rfl rfl rfl (by decide +kernel)
set_option maxRecDepth 65536 in
theorem w_c8 : (Jvm.Cond.code ({ cls := "com/example/path_template_matcher/pathtemplatematcher/PercentEncoding", name := "escapeError", desc := "(Ljava/lang/String;I)I" } : Jvm.MethodName) prog_26_method_5_code (3 : Nat) (Option.some Jvm.ClassFile.FieldType.int)).before args0 about1 = true := code_word (m := ⟨9, 1⟩) (meth := k9m1) (c := k9c1) (by decide +kernel) rfl rfl rfl (by decide +kernel)
set_option maxRecDepth 65536 in
theorem w_c9 : (Jvm.Cond.code ({ cls := "java/lang/String", name := "length", desc := "()I" } : Jvm.MethodName) jdk_42_method_54_code (1 : Nat) (Option.some Jvm.ClassFile.FieldType.int)).before args0 about1 = true := code_word (m := ⟨7, 2⟩) (meth := k7m2) (c := k7c2) (by decide +kernel) rfl rfl rfl (by decide +kernel)
set_option maxRecDepth 65536 in
theorem w_c10 : (Jvm.Cond.code ({ cls := "java/lang/String", name := "coder", desc := "()B" } : Jvm.MethodName) jdk_42_method_152_code (1 : Nat) (Option.some Jvm.ClassFile.FieldType.byte)).before args0 about1 = true := code_word (m := ⟨7, 5⟩) (meth := k7m5) (c := k7c5) (by decide +kernel) rfl rfl rfl (by decide +kernel)
set_option maxRecDepth 65536 in
theorem w_c11 : (Jvm.Cond.code ({ cls := "java/lang/StringUTF16", name := "toBytes", desc := "([CII)[B" } : Jvm.MethodName) jdk_52_method_14_code (5 : Nat) (Option.some (Jvm.ClassFile.FieldType.array Jvm.ClassFile.FieldType.byte))).before args0 about1 = true := code_word (m := ⟨8, 6⟩) (meth := k8m6) (c := k8c6) (by decide +kernel) rfl rfl rfl (by decide +kernel)
set_option maxRecDepth 65536 in
theorem w_c12 : (Jvm.Cond.code ({ cls := "java/lang/StringUTF16", name := "newBytesFor", desc := "(I)[B" } : Jvm.MethodName) jdk_52_method_2_code (1 : Nat) (Option.some (Jvm.ClassFile.FieldType.array Jvm.ClassFile.FieldType.byte))).before args0 about1 = true := code_word (m := ⟨8, 1⟩) (meth := k8m1) (c := k8c1) (by decide +kernel) rfl rfl rfl (by decide +kernel)
set_option maxRecDepth 65536 in
theorem w_c13 : (Jvm.Cond.code ({ cls := "java/lang/StringUTF16", name := "newBytesLength", desc := "(I)I" } : Jvm.MethodName) jdk_52_method_3_code (1 : Nat) (Option.some Jvm.ClassFile.FieldType.int)).before args0 about1 = true := code_word (m := ⟨8, 2⟩) (meth := k8m2) (c := k8c2) (by decide +kernel) rfl rfl rfl (by decide +kernel)
set_option maxRecDepth 65536 in
theorem w_c14 : (Jvm.Cond.code ({ cls := "java/lang/StringUTF16", name := "putChar", desc := "([BII)V" } : Jvm.MethodName) jdk_52_method_4_code (3 : Nat) (Option.none : Option Jvm.ClassFile.FieldType)).before args0 about1 = true := code_word (m := ⟨8, 3⟩) (meth := k8m3) (c := k8c3) (by decide +kernel) rfl rfl rfl (by decide +kernel)
set_option maxRecDepth 65536 in
theorem w_c15 : (Jvm.Cond.code ({ cls := "java/lang/StringUTF16", name := "getChar", desc := "([BI)C" } : Jvm.MethodName) jdk_52_method_5_code (2 : Nat) (Option.some Jvm.ClassFile.FieldType.char)).before args0 about1 = true := code_word (m := ⟨8, 4⟩) (meth := k8m4) (c := k8c4) (by decide +kernel) rfl rfl rfl (by decide +kernel)
set_option maxRecDepth 65536 in
theorem w_c16 : (Jvm.Cond.code ({ cls := "com/example/path_template_matcher/pathtemplatematcher/PercentEncodingEscapeErrorPinLaw", name := "hex", desc := "(C)Z" } : Jvm.MethodName) method_3_code (2 : Nat) (Option.some Jvm.ClassFile.FieldType.boolean)).before args0 about1 = true := code_word (m := ⟨1, 2⟩) (meth := k1m2) (c := k1c2) (by decide +kernel) rfl rfl rfl (by decide +kernel)
set_option maxRecDepth 65536 in
theorem w_c17 : (Jvm.Cond.code ({ cls := "java/lang/String", name := "charAt", desc := "(I)C" } : Jvm.MethodName) jdk_42_method_56_code (2 : Nat) (Option.some Jvm.ClassFile.FieldType.char)).before args0 about1 = true := code_word (m := ⟨7, 3⟩) (meth := k7m3) (c := k7c3) (by decide +kernel) rfl rfl rfl (by decide +kernel)
set_option maxRecDepth 65536 in
theorem w_c18 : (Jvm.Cond.code ({ cls := "java/lang/String", name := "isLatin1", desc := "()Z" } : Jvm.MethodName) jdk_42_method_154_code (1 : Nat) (Option.some Jvm.ClassFile.FieldType.boolean)).before args0 about1 = true := code_word (m := ⟨7, 6⟩) (meth := k7m6) (c := k7c6) (by decide +kernel) rfl rfl rfl (by decide +kernel)
set_option maxRecDepth 65536 in
theorem w_c19 : (Jvm.Cond.code ({ cls := "java/lang/StringUTF16", name := "charAt", desc := "([BI)C" } : Jvm.MethodName) jdk_52_method_83_code (2 : Nat) (Option.some Jvm.ClassFile.FieldType.char)).before args0 about1 = true := code_word (m := ⟨8, 10⟩) (meth := k8m10) (c := k8c10) (by decide +kernel) rfl rfl rfl (by decide +kernel)
set_option maxRecDepth 65536 in
theorem w_c20 : (Jvm.Cond.code ({ cls := "java/lang/StringUTF16", name := "checkIndex", desc := "(I[B)V" } : Jvm.MethodName) jdk_52_method_91_code (2 : Nat) (Option.none : Option Jvm.ClassFile.FieldType)).before args0 about1 = true := code_word (m := ⟨8, 11⟩) (meth := k8m11) (c := k8c11) (by decide +kernel) rfl rfl rfl (by decide +kernel)
set_option maxRecDepth 65536 in
theorem w_c21 : (Jvm.Cond.code ({ cls := "java/lang/StringUTF16", name := "length", desc := "([B)I" } : Jvm.MethodName) jdk_52_method_6_code (1 : Nat) (Option.some Jvm.ClassFile.FieldType.int)).before args0 about1 = true := code_word (m := ⟨8, 5⟩) (meth := k8m5) (c := k8c5) (by decide +kernel) rfl rfl rfl (by decide +kernel)
set_option maxRecDepth 65536 in
theorem w_c22 : (Jvm.Cond.code ({ cls := "java/lang/String", name := "checkIndex", desc := "(II)V" } : Jvm.MethodName) jdk_42_method_155_code (2 : Nat) (Option.none : Option Jvm.ClassFile.FieldType)).before args0 about1 = true := code_word (m := ⟨7, 7⟩) (meth := k7m7) (c := k7c7) (by decide +kernel) rfl rfl rfl (by decide +kernel)
set_option maxRecDepth 65536 in
theorem w_c23 : (Jvm.Cond.code ({ cls := "jdk/internal/util/Preconditions", name := "checkIndex", desc := "(IILjava/util/function/BiFunction;)I" } : Jvm.MethodName) jdk_41_method_11_code (3 : Nat) (Option.some Jvm.ClassFile.FieldType.int)).before args0 about1 = true := code_word (m := ⟨10, 1⟩) (meth := k10m1) (c := k10c1) (by decide +kernel) rfl rfl rfl (by decide +kernel)
set_option maxRecDepth 65536 in
theorem w_c24 : (Jvm.Cond.code ({ cls := "com/example/path_template_matcher/pathtemplatematcher/PercentEncoding", name := "isHexDigit", desc := "(C)Z" } : Jvm.MethodName) prog_26_method_8_code (1 : Nat) (Option.some Jvm.ClassFile.FieldType.boolean)).before args0 about1 = true := code_word (m := ⟨9, 2⟩) (meth := k9m2) (c := k9c2) (by decide +kernel) rfl rfl rfl (by decide +kernel)
set_option maxRecDepth 65536 in
theorem w_c25 : (Jvm.Cond.code ({ cls := "java/lang/StringLatin1", name := "charAt", desc := "([BI)C" } : Jvm.MethodName) jdk_43_method_2_code (2 : Nat) (Option.some Jvm.ClassFile.FieldType.char)).before args0 about1 = true := code_word (m := ⟨11, 1⟩) (meth := k11m1) (c := k11c1) (by decide +kernel) rfl rfl rfl (by decide +kernel)
def codes1 : List Jvm.Cond := [Jvm.Cond.code x code maxLocals ret, Jvm.Cond.code ({ cls := "java/lang/String", name := "<init>", desc := "([C)V" } : Jvm.MethodName) jdk_42_method_3_code (2 : Nat) (Option.none : Option Jvm.ClassFile.FieldType), Jvm.Cond.code ({ cls := "java/lang/String", name := "<init>", desc := "([CIILjava/lang/Void;)V" } : Jvm.MethodName) jdk_42_method_149_code (6 : Nat) (Option.none : Option Jvm.ClassFile.FieldType), Jvm.Cond.code ({ cls := "java/lang/Object", name := "<init>", desc := "()V" } : Jvm.MethodName) object_method_1_code (1 : Nat) (Option.none : Option Jvm.ClassFile.FieldType), Jvm.Cond.code ({ cls := "java/lang/StringUTF16", name := "compress", desc := "([CII)[B" } : Jvm.MethodName) jdk_52_method_16_code (6 : Nat) (Option.some (Jvm.ClassFile.FieldType.array Jvm.ClassFile.FieldType.byte)), Jvm.Cond.code ({ cls := "java/lang/StringUTF16", name := "compress", desc := "([CI[BII)I" } : Jvm.MethodName) jdk_52_method_21_code (7 : Nat) (Option.some Jvm.ClassFile.FieldType.int), Jvm.Cond.code ({ cls := "java/lang/StringUTF16", name := "coderFromArrayLen", desc := "([BI)B" } : Jvm.MethodName) jdk_52_method_15_code (2 : Nat) (Option.some Jvm.ClassFile.FieldType.byte), Jvm.Cond.code ({ cls := "com/example/path_template_matcher/pathtemplatematcher/PercentEncodingEscapeErrorPinLaw", name := "reference", desc := "([CII)I" } : Jvm.MethodName) method_4_code (5 : Nat) (Option.some Jvm.ClassFile.FieldType.int), Jvm.Cond.code ({ cls := "com/example/path_template_matcher/pathtemplatematcher/PercentEncoding", name := "escapeError", desc := "(Ljava/lang/String;I)I" } : Jvm.MethodName) prog_26_method_5_code (3 : Nat) (Option.some Jvm.ClassFile.FieldType.int), Jvm.Cond.code ({ cls := "java/lang/String", name := "length", desc := "()I" } : Jvm.MethodName) jdk_42_method_54_code (1 : Nat) (Option.some Jvm.ClassFile.FieldType.int), Jvm.Cond.code ({ cls := "java/lang/String", name := "coder", desc := "()B" } : Jvm.MethodName) jdk_42_method_152_code (1 : Nat) (Option.some Jvm.ClassFile.FieldType.byte), Jvm.Cond.code ({ cls := "java/lang/StringUTF16", name := "toBytes", desc := "([CII)[B" } : Jvm.MethodName) jdk_52_method_14_code (5 : Nat) (Option.some (Jvm.ClassFile.FieldType.array Jvm.ClassFile.FieldType.byte)), Jvm.Cond.code ({ cls := "java/lang/StringUTF16", name := "newBytesFor", desc := "(I)[B" } : Jvm.MethodName) jdk_52_method_2_code (1 : Nat) (Option.some (Jvm.ClassFile.FieldType.array Jvm.ClassFile.FieldType.byte)), Jvm.Cond.code ({ cls := "java/lang/StringUTF16", name := "newBytesLength", desc := "(I)I" } : Jvm.MethodName) jdk_52_method_3_code (1 : Nat) (Option.some Jvm.ClassFile.FieldType.int), Jvm.Cond.code ({ cls := "java/lang/StringUTF16", name := "putChar", desc := "([BII)V" } : Jvm.MethodName) jdk_52_method_4_code (3 : Nat) (Option.none : Option Jvm.ClassFile.FieldType), Jvm.Cond.code ({ cls := "java/lang/StringUTF16", name := "getChar", desc := "([BI)C" } : Jvm.MethodName) jdk_52_method_5_code (2 : Nat) (Option.some Jvm.ClassFile.FieldType.char), Jvm.Cond.code ({ cls := "com/example/path_template_matcher/pathtemplatematcher/PercentEncodingEscapeErrorPinLaw", name := "hex", desc := "(C)Z" } : Jvm.MethodName) method_3_code (2 : Nat) (Option.some Jvm.ClassFile.FieldType.boolean), Jvm.Cond.code ({ cls := "java/lang/String", name := "charAt", desc := "(I)C" } : Jvm.MethodName) jdk_42_method_56_code (2 : Nat) (Option.some Jvm.ClassFile.FieldType.char), Jvm.Cond.code ({ cls := "java/lang/String", name := "isLatin1", desc := "()Z" } : Jvm.MethodName) jdk_42_method_154_code (1 : Nat) (Option.some Jvm.ClassFile.FieldType.boolean), Jvm.Cond.code ({ cls := "java/lang/StringUTF16", name := "charAt", desc := "([BI)C" } : Jvm.MethodName) jdk_52_method_83_code (2 : Nat) (Option.some Jvm.ClassFile.FieldType.char), Jvm.Cond.code ({ cls := "java/lang/StringUTF16", name := "checkIndex", desc := "(I[B)V" } : Jvm.MethodName) jdk_52_method_91_code (2 : Nat) (Option.none : Option Jvm.ClassFile.FieldType), Jvm.Cond.code ({ cls := "java/lang/StringUTF16", name := "length", desc := "([B)I" } : Jvm.MethodName) jdk_52_method_6_code (1 : Nat) (Option.some Jvm.ClassFile.FieldType.int), Jvm.Cond.code ({ cls := "java/lang/String", name := "checkIndex", desc := "(II)V" } : Jvm.MethodName) jdk_42_method_155_code (2 : Nat) (Option.none : Option Jvm.ClassFile.FieldType), Jvm.Cond.code ({ cls := "jdk/internal/util/Preconditions", name := "checkIndex", desc := "(IILjava/util/function/BiFunction;)I" } : Jvm.MethodName) jdk_41_method_11_code (3 : Nat) (Option.some Jvm.ClassFile.FieldType.int), Jvm.Cond.code ({ cls := "com/example/path_template_matcher/pathtemplatematcher/PercentEncoding", name := "isHexDigit", desc := "(C)Z" } : Jvm.MethodName) prog_26_method_8_code (1 : Nat) (Option.some Jvm.ClassFile.FieldType.boolean), Jvm.Cond.code ({ cls := "java/lang/StringLatin1", name := "charAt", desc := "([BI)C" } : Jvm.MethodName) jdk_43_method_2_code (2 : Nat) (Option.some Jvm.ClassFile.FieldType.char)]
set_option maxRecDepth 65536 in
theorem codes_eq : words1.filter isCode = codes1 := rfl
theorem w_codes : ∀ c ∈ words1.filter isCode, c.before args0 about1 = true := by
  rw [codes_eq]
  intro c hc
  simp only [codes1, List.mem_cons, List.not_mem_nil, or_false] at hc
  rcases hc with rfl | rfl | rfl | rfl | rfl | rfl | rfl | rfl | rfl | rfl | rfl | rfl | rfl | rfl | rfl | rfl | rfl | rfl | rfl | rfl | rfl | rfl | rfl | rfl | rfl | rfl
  · exact w_c0
  · exact w_c1
  · exact w_c2
  · exact w_c3
  · exact w_c4
  · exact w_c5
  · exact w_c6
  · exact w_c7
  · exact w_c8
  · exact w_c9
  · exact w_c10
  · exact w_c11
  · exact w_c12
  · exact w_c13
  · exact w_c14
  · exact w_c15
  · exact w_c16
  · exact w_c17
  · exact w_c18
  · exact w_c19
  · exact w_c20
  · exact w_c21
  · exact w_c22
  · exact w_c23
  · exact w_c24
  · exact w_c25
set_option maxRecDepth 65536 in
theorem w_t1 : (words1.take 24).all (fun c => isCode c || c.before args0 about1) = true := by decide +kernel
set_option maxRecDepth 65536 in
theorem w_t2 : ((words1.drop 24).take 24).all (fun c => isCode c || c.before args0 about1) = true := by decide +kernel
set_option maxRecDepth 65536 in
theorem w_t3 : (((words1.drop 24).drop 24).take 24).all (fun c => isCode c || c.before args0 about1) = true := by decide +kernel
set_option maxRecDepth 65536 in
theorem w_t4 : ((((words1.drop 24).drop 24).drop 24).take 24).all (fun c => isCode c || c.before args0 about1) = true := by decide +kernel
set_option maxRecDepth 65536 in
theorem w_t5 : ((((words1.drop 24).drop 24).drop 24).drop 24).all (fun c => isCode c || c.before args0 about1) = true := by decide +kernel
theorem w_tables : (allAtoms (Jvm.Cond.code x code maxLocals ret :: tables_1)).before args0 about1 = true := by
  rw [allAtoms_all]
  show words1.all (fun c => c.before args0 about1) = true
  refine all_split ?_ w_codes
  rw [← List.take_append_drop 24 words1, List.all_append, w_t1, ← List.take_append_drop 24 (words1.drop 24), List.all_append, w_t2, ← List.take_append_drop 24 ((words1.drop 24).drop 24), List.all_append, w_t3, ← List.take_append_drop 24 (((words1.drop 24).drop 24).drop 24), List.all_append, w_t4, w_t5]
  rfl
set_option maxRecDepth 65536 in
theorem w_rest : rest_1_c.before args0 about1 = true := by decide +kernel
set_option maxRecDepth 65536 in
theorem w_case : (Jvm.Cond.and given_1 narrow_1).before args0 about1 = true := by decide +kernel
theorem w_applies : (headSpec (Jvm.Cond.code x code maxLocals ret :: tables_1) room_1).applies x e0.platform about1 = true :=
  (Spec.applies_iff w_frames).mpr ⟨w_running, w_runnable, w_alone, w_named, w_hears, w_ripe, w_room, w_tables⟩
theorem atStart : AtStart classFile x code maxLocals ret World_1 tables_1 room_1 Calls_1 rest_1 Pre_1 launch0 p0 e0 about1 theMethod args0 below0 :=
  ⟨lists_1, trivial, launch0.admits_env _ _ _, launch0.least_env, fairChoices_fair.cas, fairChoices_fair.clock, w_frames, w_args, w_heap, w_applies, trivial, w_rest, w_case⟩
end start1
theorem witness_1 : WitnessClaimed_1 := ⟨start1.p0, start1.e0, start1.about1, start1.theMethod, start1.args0, start1.below0, start1.atStart⟩
end Jvm.Pilot.@@N@@
