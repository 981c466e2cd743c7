import JvmDerived
import JvmDerived.Pilot.@@N@@Statement
import JvmDerived.Pilot.@@N@@Code
set_option linter.unusedVariables false
set_option linter.unusedSimpArgs false
namespace Jvm.RoadKit
open Sem ClassFile Op Lib Jvm.Stand Jvm.Free Jvm.LawKit
section New
variable {p : Program} {l : Launch} {e : Env} {R : Room} {s : State} {m : MethodId} {args : Array Value} {below : List Frame} {meth : Method} {c : Code} {T : State} {locs : List Loc} {cells slots : Nat}
theorem retI (X : Stand p l e R s m args below meth c T locs cells slots) (hx : p.tables.exec = Jvm.exec) {pc : Nat} {Ls : Array Slot} {z : Int32} {rest : List Value} (hret : meth.sig.returnType = some .int) (hd : decode c.code pc = .ok (.ireturn, 1)) {fs : List Frame}
    (hl : ∀ (f : JFrame) (acts : List Action), f.method = m → f.locked = none → f.entered = [] → (doReturn e (T.setTop f) acts (some (.int z))).1 = T.setFrames fs) : Steps p.tables e below (T.setTop (mkF m pc Ls (.int z :: rest))) (T.setFrames fs) := by
  have hm' : T.vm.method? m = some meth := X.method'
  have hn : narrow .int (.int z) = .int z := rfl
  show Steps p.tables e below (T.setTop { method := m, pc := pc, locals := Ls, stack := _ :: rest, locked := none }) _
  jvm_step X.here [X.here.top, hx, hd, hm', hret, hn]
  first | (intro acts; rw [hl _ acts rfl rfl rfl]) | rw [hl _ _ rfl rfl rfl]
  exact Steps.refl _
end New
end Jvm.RoadKit
namespace Jvm.Pilot.@@N@@
open Jvm Jvm.ClassFile Sem Op Lib Jvm.Free Jvm.Stand Jvm.LawKit Jvm.RoadKit Bundle Jvm.Pilot.@@N@@.Jvm.D
theorem own_ext {h h' : Heap} (K : Keep h h' []) : Ext h h' := ⟨K.1, fun a c q => K.2.1 a c q nin0⟩
theorem own_fits {t : FieldType} {x : Int32} (h : nar t x = x) (f : fits t (.int (nar t x)) = true) : fits t (.int x) = true := by rw [h] at f; exact f
theorem own_nb (x : Int32) : nar .byte (x.toInt8.toInt32) = x.toInt8.toInt32 := by simp [nar]
theorem own_nc (x : Int32) : nar .char (x.toUInt32.toUInt16.toUInt32.toInt32) = x.toUInt32.toUInt16.toUInt32.toInt32 := by
  show (x.toUInt32.toUInt16.toUInt32.toInt32).toUInt32.toUInt16.toUInt32.toInt32 = _
  rw [UInt32.toUInt32_toInt32, UInt16.toUInt16_toUInt32]
theorem own_ne {a b : Addr} (h : a < b) : a ≠ b := Nat.ne_of_lt h
theorem own_Sta {Z : State} {h h' : Heap} {C n d : String} {v : Value} {ws : List Addr} (F : Sta Z h C n d v) (K : Keep h h' ws) (q : ∀ x ∈ ws, ∀ cell : Cell, h[x]? = some cell → cell.vm.isStatics = false) : Sta Z h' C n d v := by
  obtain ⟨cf, i, k, f, st, cell, h1, h2, h3, h4, h5, h6, h7⟩ := F
  refine ⟨cf, i, k, f, st, cell, h1, h2, h3, h4, K.2.1 st cell h5 (fun m => ?_), h6, h7⟩
  rw [q st m cell h5] at h6
  cases h6
theorem own_priv {s : State} {args : Array Value} {y : MethodName} {n : Nat} (wi : (Cond.instantiable y.cls n).before args s = true) (hp : s.PrivateAt y) (hi : (Cond.instanceMethod y).before args s = true) (hy : y.cls ≠ "java/lang/invoke/MethodHandle" ∧ y.cls ≠ "java/lang/invoke/VarHandle") : (Cond.selects y.cls y y).before args s = true := by
  obtain ⟨c, k, h1, h2, -, h4, -⟩ := Cond.instantiable_spec wi
  exact selects_self_of_private h1 h2 (by cases hk : k.isInterface <;> simp_all) hp hi hy
theorem own_lremM {p : Program} {l : Launch} {e : Env} {R : Room} {s : State} {m : MethodId} {args : Array Value} {below : List Frame} {meth : Method} {c : Code} {T : State} {locs : List Loc} {cells slots : Nat} {g : JFrame} {target : State} (X : Stand p l e R s m args below meth c T locs cells slots) (hx : p.tables.exec = Jvm.exec) (hg : g.method = m) {x y : Int64} {rest : List Value} (hd : decode c.code g.pc = .ok (.lrem, 1)) (hs : g.stack = .long y :: .long x :: rest) (hy : y ≠ 0)
    (hr : Steps p.tables e below (T.setTop { g with pc := g.pc + 1, stack := .long (x % y) :: rest }) target) : Steps p.tables e below (T.setTop g) target := by
  have q : x - x / y * y = x % y := lrem_mod x y
  exact XS.lrem X.here hx hg hd hs hy (by rw [q]; exact hr)
theorem d10_0 : decode jdk_31_method_11_code 0 = .ok (.aload_n 0, 1) := by decide +kernel
theorem d10_1 : decode jdk_31_method_11_code 1 = .ok (.ifnonnull 12, 3) := by decide +kernel
theorem d10_13 : decode jdk_31_method_11_code 13 = .ok (.aload_n 0, 1) := by decide +kernel
theorem d10_14 : decode jdk_31_method_11_code 14 = .ok (.areturn, 1) := by decide +kernel
theorem pn_java_util_Objects : plainName "java/util/Objects" = true := by first | (simp [plainName, overriddenIn]; done) | decide +kernel
theorem ef_rm10 (m : MethodId) (a0 : Addr) (a1 : Addr) : entryFrame m #[(.ref a0), (.ref a1)] 2 = mkF m 0 #[.val (.ref a0), .val (.ref a1)] [] := by first | (simp [entryFrame, mkF, argsToLocals, Value.category]; done) | rfl
def Q10 (Z : State) (a0 : Addr) (a1 : Addr) (h0 : Heap) (n0 : Nat) (v : Option Value) (h : Heap) (L : List Loc) : Prop := v = some (.ref a0) ∧ Fr n0 L ∧ h = h0
set_option maxRecDepth 65536 in
set_option maxHeartbeats 40000000 in
theorem rm10 (l : Launch) (Z : State) (az : Array Value) (hw : ∀ d ∈ tables_1, d.before az Z = true) (ws : List Jvm.Cond) (a0 : Addr) (a1 : Addr) (h0 : Heap) (n0 : Nat) (Z0 : n0 ≤ h0.size) :
    MetFree l (⟨"java/util/Objects", "requireNonNull", "(Ljava/lang/Object;Ljava/lang/String;)Ljava/lang/Object;"⟩ : MethodName) (head1 (Jvm.Cond.code (⟨"java/util/Objects", "requireNonNull", "(Ljava/lang/Object;Ljava/lang/String;)Ljava/lang/Object;"⟩ : MethodName) jdk_31_method_11_code 2 (some (.object "java/lang/Object")) :: ws) ({ frames := 0, cells := 0, slots := 0, locals := 0 } : Room)) (fun a U => a = #[(.ref a0), (.ref a1)] ∧ Z.Warmed39 U.vm ∧ U.heap = h0) (fun _ _ _ _ _ => True) (fun _ U o U' => ∃ v L, o = .returned v ∧ Q10 Z a0 a1 h0 n0 v U'.heap L ∧ FrameEnd U o U' L ({ frames := 0, cells := 0, slots := 0, locals := 0 } : Room).cells ({ frames := 0, cells := 0, slots := 0, locals := 0 } : Room).slots) := by
  refine MetFree.of_bodySF (plainFor_of_name pn_java_util_Objects) hisR ?_
  intro p e s m args below meth c s₁ Bd hml0 hP hK
  obtain ⟨rfl, hZ, hh⟩ := hP
  have hx := Bd.exec
  have hby := Bd.bytes
  have hml : c.maxLocals = 2 := hml0
  have hown : s.vm.findClass "java/util/Objects" = some m.cls := findClass_of_methodNamed Bd.named
  have hnm := (name_of_methodNamed Bd.named Bd.method).1
  have X0 : Stand p l e ({ frames := 0, cells := 0, slots := 0, locals := 0 } : Room) s m #[(.ref a0), (.ref a1)] below meth c s₁ [] 0 0 := Stand.of_body Bd
  have e0 : s₁.heap = h0 := by rw [← hh, Bd.state]; rfl
  have N0 := Fr.nil n0
  have pre0 : ∀ t, Steps p.tables e below (s₁.setTop (mkF m 0 #[.val (.ref a0), .val (.ref a1)] [])) t → Steps p.tables e below (s₁.setTop (entryFrame m #[(.ref a0), (.ref a1)] 2)) t := fun t k => castTop (ef_rm10 m a0 a1) k
  obtain ⟨fs, hr, hrun, hended, hW, hsame⟩ := X0.leave (v := some (.ref a0)) (fun h => by rw [Bd.returns] at h; cases h)
  refine ⟨_, _, pre0 _ ?_, hrun, hended, _, _, rfl, ?_, ⟨_, rfl⟩, hW, hsame.mono (by decide) (by decide)⟩
  · show Steps p.tables e below (s₁.setTop (mkF m 0 #[.val (.ref a0), .val (.ref a1)] [])) _
    refine XS.aloadN X0.here hx rfl (hb hby d10_0) rfl rfl ?_
    show Steps p.tables e below (s₁.setTop (mkF m 1 #[.val (.ref a0), .val (.ref a1)] [(.ref a0)])) _
    refine XS.ifnonnullYes X0.here hx rfl (pc0 := 1) (pc' := 13) rfl (hb hby d10_1) rfl (by decide) (by decide) ?_
    show Steps p.tables e below (s₁.setTop (mkF m 13 #[.val (.ref a0), .val (.ref a1)] [])) _
    refine XS.aloadN X0.here hx rfl (hb hby d10_13) rfl rfl ?_
    show Steps p.tables e below (s₁.setTop (mkF m 14 #[.val (.ref a0), .val (.ref a1)] [(.ref a0)])) _
    jvm_step X0.here [X0.here.top, hx, (hb hby d10_14), X0.method', Bd.returns, Value.isRef, FieldType.isReference]
    first | (intro acts; rw [hr _ acts rfl rfl rfl]) | rw [hr _ _ rfl rfl rfl]
    exact Steps.refl _
  · show Q10 Z a0 a1 h0 n0 _ s₁.heap _
    rw [e0]
    exact ⟨rfl, N0, rfl⟩
theorem d12_0 : decode jdk_42_method_152_code 0 = .ok (.getstatic 38, 3) := by decide +kernel
theorem d12_3 : decode jdk_42_method_152_code 3 = .ok (.ifCond .eq 10, 3) := by decide +kernel
theorem d12_6 : decode jdk_42_method_152_code 6 = .ok (.aload_n 0, 1) := by decide +kernel
theorem d12_7 : decode jdk_42_method_152_code 7 = .ok (.getfield 15, 3) := by decide +kernel
theorem d12_10 : decode jdk_42_method_152_code 10 = .ok (.goto 4, 3) := by decide +kernel
theorem d12_14 : decode jdk_42_method_152_code 14 = .ok (.ireturn, 1) := by decide +kernel
theorem pn_java_lang_String : plainName "java/lang/String" = true := by first | (simp [plainName, overriddenIn]; done) | decide +kernel
theorem ef_rm12 (m : MethodId) (a0 : Addr) : entryFrame m #[(.ref a0)] 1 = mkF m 0 #[.val (.ref a0)] [] := by first | (simp [entryFrame, mkF, argsToLocals, Value.category]; done) | rfl
def Q12 (Z : State) (a0 : Addr) (s_COMPACT_STRINGS : Int32) (h0 : Heap) (n0 : Nat) (v : Option Value) (h : Heap) (L : List Loc) : Prop := v = some (.int (0 : Int32)) ∧ Fr n0 L ∧ h = h0
set_option maxRecDepth 65536 in
set_option maxHeartbeats 40000000 in
theorem rm12 (l : Launch) (Z : State) (az : Array Value) (hw : ∀ d ∈ tables_1, d.before az Z = true) (ws : List Jvm.Cond) (a0 : Addr) (s_COMPACT_STRINGS : Int32) (h0 : Heap) (n0 : Nat) (Z0 : n0 ≤ h0.size) (F_coder_a0 : Fld Z h0 a0 "java/lang/String" "coder" "B" (.int (0 : Int32))) (S_COMPACT_STRINGS : Sta Z h0 "java/lang/String" "COMPACT_STRINGS" "Z" (.int s_COMPACT_STRINGS)) (hc2 : ¬ (s_COMPACT_STRINGS = (0 : Int32))) :
    MetFree l (⟨"java/lang/String", "coder", "()B"⟩ : MethodName) (head1 (Jvm.Cond.code (⟨"java/lang/String", "coder", "()B"⟩ : MethodName) jdk_42_method_152_code 1 (some .byte) :: ws) ({ frames := 0, cells := 0, slots := 0, locals := 0 } : Room)) (fun a U => a = #[(.ref a0)] ∧ Z.Warmed39 U.vm ∧ U.heap = h0) (fun _ _ _ _ _ => True) (fun _ U o U' => ∃ v L, o = .returned v ∧ Q12 Z a0 s_COMPACT_STRINGS h0 n0 v U'.heap L ∧ FrameEnd U o U' L ({ frames := 0, cells := 0, slots := 0, locals := 0 } : Room).cells ({ frames := 0, cells := 0, slots := 0, locals := 0 } : Room).slots) := by
  refine MetFree.of_bodySF (plainFor_of_name pn_java_lang_String) hisR ?_
  intro p e s m args below meth c s₁ Bd hml0 hP hK
  obtain ⟨rfl, hZ, hh⟩ := hP
  have hx := Bd.exec
  have hby := Bd.bytes
  have hml : c.maxLocals = 1 := hml0
  have hown : s.vm.findClass "java/lang/String" = some m.cls := findClass_of_methodNamed Bd.named
  have hnm := (name_of_methodNamed Bd.named Bd.method).1
  have X0 : Stand p l e ({ frames := 0, cells := 0, slots := 0, locals := 0 } : Room) s m #[(.ref a0)] below meth c s₁ [] 0 0 := Stand.of_body Bd
  have e0 : s₁.heap = h0 := by rw [← hh, Bd.state]; rfl
  have N0 := Fr.nil n0
  have pre0 : ∀ t, Steps p.tables e below (s₁.setTop (mkF m 0 #[.val (.ref a0)] [])) t → Steps p.tables e below (s₁.setTop (entryFrame m #[(.ref a0)] 1)) t := fun t k => castTop (ef_rm12 m a0) k
  obtain ⟨T1, X1, e1, st1⟩ := getS2 X0 hx hZ hown (host := "") (Or.inl (hw _ (List.mem_of_getElem? (i := 18) rfl))) Via.refl e0 S_COMPACT_STRINGS (g := (mkF m 0 #[.val (.ref a0)] [])) rfl (hb hby d12_0)
  obtain ⟨T2, X2, e2, st2⟩ := getF X1 hx hZ hown (host := "") (Or.inl (hw _ (List.mem_of_getElem? (i := 30) rfl))) Via.refl e1 F_coder_a0 (g := (mkF m 7 #[.val (.ref a0)] [(.ref a0)])) rfl rfl (hb hby d12_7)
  obtain ⟨fs, hr, hrun, hended, hW, hsame⟩ := X2.leave (v := some (.int (0 : Int32))) (fun h => by rw [Bd.returns] at h; cases h)
  refine ⟨_, _, pre0 _ ?_, hrun, hended, _, _, rfl, ?_, ⟨_, rfl⟩, hW, hsame.mono (by decide) (by decide)⟩
  · show Steps p.tables e below (s₁.setTop (mkF m 0 #[.val (.ref a0)] [])) _
    refine st1 _ ?_
    show Steps p.tables e below (T1.setTop (mkF m 3 #[.val (.ref a0)] [(.int s_COMPACT_STRINGS)])) _
    refine XS.ifNo X1.here hx rfl (hb hby d12_3) rfl ((if0 _ _).trans (feq hc2).1) ?_
    show Steps p.tables e below (T1.setTop (mkF m 6 #[.val (.ref a0)] [])) _
    refine XS.aloadN X1.here hx rfl (hb hby d12_6) rfl rfl ?_
    show Steps p.tables e below (T1.setTop (mkF m 7 #[.val (.ref a0)] [(.ref a0)])) _
    refine st2 _ ?_
    show Steps p.tables e below (T2.setTop (mkF m 10 #[.val (.ref a0)] [(.int (0 : Int32))])) _
    refine XS.goto X2.here hx rfl (pc0 := 10) (pc' := 14) rfl (hb hby d12_10) (by decide) (by decide) ?_
    show Steps p.tables e below (T2.setTop (mkF m 14 #[.val (.ref a0)] [(.int (0 : Int32))])) _
    exact retN X2 hx (t := .byte) Bd.returns (by simp) (hb hby d12_14) hr
  · show Q12 Z a0 s_COMPACT_STRINGS h0 n0 _ T2.heap _
    rw [e2]
    exact ⟨rfl, N0, rfl⟩
theorem d16_0 : decode jdk_123_method_3_code 0 = .ok (.iload_n 1, 1) := by decide +kernel
theorem d16_1 : decode jdk_123_method_3_code 1 = .ok (.iload_n 2, 1) := by decide +kernel
theorem d16_2 : decode jdk_123_method_3_code 2 = .ok (.iadd, 1) := by decide +kernel
theorem d16_3 : decode jdk_123_method_3_code 3 = .ok (.istore_n 3, 1) := by decide +kernel
theorem d16_4 : decode jdk_123_method_3_code 4 = .ok (.iload_n 1, 1) := by decide +kernel
theorem d16_5 : decode jdk_123_method_3_code 5 = .ok (.istore 4, 2) := by decide +kernel
theorem d16_7 : decode jdk_123_method_3_code 7 = .ok (.iload 4, 2) := by decide +kernel
theorem d16_9 : decode jdk_123_method_3_code 9 = .ok (.iload_n 3, 1) := by decide +kernel
theorem d16_10 : decode jdk_123_method_3_code 10 = .ok (.if_icmp .ge 21, 3) := by decide +kernel
theorem d16_13 : decode jdk_123_method_3_code 13 = .ok (.aload_n 0, 1) := by decide +kernel
theorem d16_14 : decode jdk_123_method_3_code 14 = .ok (.iload 4, 2) := by decide +kernel
theorem d16_16 : decode jdk_123_method_3_code 16 = .ok (.baload, 1) := by decide +kernel
theorem d16_17 : decode jdk_123_method_3_code 17 = .ok (.ifCond .ge 8, 3) := by decide +kernel
theorem d16_25 : decode jdk_123_method_3_code 25 = .ok (.iinc 4 1, 3) := by decide +kernel
theorem d16_28 : decode jdk_123_method_3_code 28 = .ok (.goto (-21), 3) := by decide +kernel
theorem d16_31 : decode jdk_123_method_3_code 31 = .ok (.iload_n 2, 1) := by decide +kernel
theorem d16_32 : decode jdk_123_method_3_code 32 = .ok (.ireturn, 1) := by decide +kernel
theorem pn_java_lang_StringCoding : plainName "java/lang/StringCoding" = true := by first | (simp [plainName, overriddenIn]; done) | decide +kernel
theorem ef_rm16p (m : MethodId) (a0 : Addr) : entryFrame m #[(.ref a0), (.int (0 : Int32)), (.int (1 : Int32))] 5 = mkF m 0 #[.val (.ref a0), .val (.int (0 : Int32)), .val (.int (1 : Int32)), .unset, .unset] [] := by first | (simp [entryFrame, mkF, argsToLocals, Value.category]; done) | rfl
def Q16p (Z : State) (a0 : Addr) (k0 : ClassId) (pv : Int32) (h0 : Heap) (n0 : Nat) (v : Option Value) (h : Heap) (L : List Loc) : Prop := v = some (.int (1 : Int32)) ∧ Fr n0 L ∧ h = h0
set_option maxRecDepth 65536 in
set_option maxHeartbeats 40000000 in
theorem rm16p (l : Launch) (Z : State) (az : Array Value) (hw : ∀ d ∈ tables_1, d.before az Z = true) (ws : List Jvm.Cond) (a0 : Addr) (k0 : ClassId) (pv : Int32) (h0 : Heap) (n0 : Nat) (Z0 : n0 ≤ h0.size) (V_a0 : Arv Z h0 a0 k0 .byte (1 : Int32) [(.int pv)] (.int (0 : Int32))) (hc1 : ¬ (pv < (0 : Int32))) :
    MetFree l (⟨"java/lang/StringCoding", "countPositives", "([BII)I"⟩ : MethodName) (head1 (Jvm.Cond.code (⟨"java/lang/StringCoding", "countPositives", "([BII)I"⟩ : MethodName) jdk_123_method_3_code 5 (some .int) :: ws) ({ frames := 0, cells := 0, slots := 0, locals := 0 } : Room)) (fun a U => a = #[(.ref a0), (.int (0 : Int32)), (.int (1 : Int32))] ∧ Z.Warmed39 U.vm ∧ U.heap = h0) (fun _ _ _ _ _ => True) (fun _ U o U' => ∃ v L, o = .returned v ∧ Q16p Z a0 k0 pv h0 n0 v U'.heap L ∧ FrameEnd U o U' L ({ frames := 0, cells := 0, slots := 0, locals := 0 } : Room).cells ({ frames := 0, cells := 0, slots := 0, locals := 0 } : Room).slots) := by
  refine MetFree.of_bodySF (plainFor_of_name pn_java_lang_StringCoding) hisR ?_
  intro p e s m args below meth c s₁ Bd hml0 hP hK
  obtain ⟨rfl, hZ, hh⟩ := hP
  have hx := Bd.exec
  have hby := Bd.bytes
  have hml : c.maxLocals = 5 := hml0
  have hown : s.vm.findClass "java/lang/StringCoding" = some m.cls := findClass_of_methodNamed Bd.named
  have hnm := (name_of_methodNamed Bd.named Bd.method).1
  have X0 : Stand p l e ({ frames := 0, cells := 0, slots := 0, locals := 0 } : Room) s m #[(.ref a0), (.int (0 : Int32)), (.int (1 : Int32))] below meth c s₁ [] 0 0 := Stand.of_body Bd
  have e0 : s₁.heap = h0 := by rw [← hh, Bd.state]; rfl
  have N0 := Fr.nil n0
  have pre0 : ∀ t, Steps p.tables e below (s₁.setTop (mkF m 0 #[.val (.ref a0), .val (.int (0 : Int32)), .val (.int (1 : Int32)), .unset, .unset] [])) t → Steps p.tables e below (s₁.setTop (entryFrame m #[(.ref a0), (.int (0 : Int32)), (.int (1 : Int32))] 5)) t := fun t k => castTop (ef_rm16p m a0) k
  obtain ⟨cl1, Ar1, qk1, Sz1, Ng1, Hs1, Gf1⟩ := id V_a0
  have hin2 : ¬ ((0 : Int32) < 0 ∨ cl1.slots.size ≤ ((0 : Int32)).toNatClampNeg) := inb_of Sz1 ⟨by decide, by decide⟩
  have hat3 : cl1.slots[((0 : Int32)).toNatClampNeg]? = some (.int pv) := Hs1.at hin2 rfl
  obtain ⟨fs, hr, hrun, hended, hW, hsame⟩ := X0.leave (v := some (.int (1 : Int32))) (fun h => by rw [Bd.returns] at h; cases h)
  refine ⟨_, _, pre0 _ ?_, hrun, hended, _, _, rfl, ?_, ⟨_, rfl⟩, hW, hsame.mono (by decide) (by decide)⟩
  · show Steps p.tables e below (s₁.setTop (mkF m 0 #[.val (.ref a0), .val (.int (0 : Int32)), .val (.int (1 : Int32)), .unset, .unset] [])) _
    refine XS.iloadN X0.here hx rfl (hb hby d16_0) rfl ?_
    show Steps p.tables e below (s₁.setTop (mkF m 1 #[.val (.ref a0), .val (.int (0 : Int32)), .val (.int (1 : Int32)), .unset, .unset] [(.int (0 : Int32))])) _
    refine XS.iloadN X0.here hx rfl (hb hby d16_1) rfl ?_
    show Steps p.tables e below (s₁.setTop (mkF m 2 #[.val (.ref a0), .val (.int (0 : Int32)), .val (.int (1 : Int32)), .unset, .unset] [(.int (1 : Int32)), (.int (0 : Int32))])) _
    refine XS.iadd X0.here hx rfl (hb hby d16_2) rfl ?_
    show Steps p.tables e below (s₁.setTop (mkF m 3 #[.val (.ref a0), .val (.int (0 : Int32)), .val (.int (1 : Int32)), .unset, .unset] [(.int (1 : Int32))])) _
    refine XS.istoreN X0.here hx rfl (hb hby d16_3) rfl (l' := #[.val (.ref a0), .val (.int (0 : Int32)), .val (.int (1 : Int32)), .val (.int (1 : Int32)), .unset]) rfl ?_
    show Steps p.tables e below (s₁.setTop (mkF m 4 #[.val (.ref a0), .val (.int (0 : Int32)), .val (.int (1 : Int32)), .val (.int (1 : Int32)), .unset] [])) _
    refine XS.iloadN X0.here hx rfl (hb hby d16_4) rfl ?_
    show Steps p.tables e below (s₁.setTop (mkF m 5 #[.val (.ref a0), .val (.int (0 : Int32)), .val (.int (1 : Int32)), .val (.int (1 : Int32)), .unset] [(.int (0 : Int32))])) _
    refine XS.istore X0.here hx rfl (hb hby d16_5) rfl (l' := #[.val (.ref a0), .val (.int (0 : Int32)), .val (.int (1 : Int32)), .val (.int (1 : Int32)), .val (.int (0 : Int32))]) rfl ?_
    show Steps p.tables e below (s₁.setTop (mkF m 7 #[.val (.ref a0), .val (.int (0 : Int32)), .val (.int (1 : Int32)), .val (.int (1 : Int32)), .val (.int (0 : Int32))] [])) _
    refine XS.iload X0.here hx rfl (hb hby d16_7) rfl ?_
    show Steps p.tables e below (s₁.setTop (mkF m 9 #[.val (.ref a0), .val (.int (0 : Int32)), .val (.int (1 : Int32)), .val (.int (1 : Int32)), .val (.int (0 : Int32))] [(.int (0 : Int32))])) _
    refine XS.iloadN X0.here hx rfl (hb hby d16_9) rfl ?_
    show Steps p.tables e below (s₁.setTop (mkF m 10 #[.val (.ref a0), .val (.int (0 : Int32)), .val (.int (1 : Int32)), .val (.int (1 : Int32)), .val (.int (0 : Int32))] [(.int (1 : Int32)), (.int (0 : Int32))])) _
    refine XS.icmpNo X0.here hx rfl (hb hby d16_10) rfl (tlt (by decide : (0 : Int32) < (1 : Int32))).2.1 ?_
    show Steps p.tables e below (s₁.setTop (mkF m 13 #[.val (.ref a0), .val (.int (0 : Int32)), .val (.int (1 : Int32)), .val (.int (1 : Int32)), .val (.int (0 : Int32))] [])) _
    refine XS.aloadN X0.here hx rfl (hb hby d16_13) rfl rfl ?_
    show Steps p.tables e below (s₁.setTop (mkF m 14 #[.val (.ref a0), .val (.int (0 : Int32)), .val (.int (1 : Int32)), .val (.int (1 : Int32)), .val (.int (0 : Int32))] [(.ref a0)])) _
    refine XS.iload X0.here hx rfl (hb hby d16_14) rfl ?_
    show Steps p.tables e below (s₁.setTop (mkF m 16 #[.val (.ref a0), .val (.int (0 : Int32)), .val (.int (1 : Int32)), .val (.int (1 : Int32)), .val (.int (0 : Int32))] [(.int (0 : Int32)), (.ref a0)])) _
    refine X0.baloadBytes hx (j := (0 : Int32)) (v := (.int pv)) (by rw [e0]; exact Ar1.1) (State.isArrayOf_alike hZ.alike Ar1.2.1) Ar1.2.2 hin2 hat3 (g := (mkF m 16 #[.val (.ref a0), .val (.int (0 : Int32)), .val (.int (1 : Int32)), .val (.int (1 : Int32)), .val (.int (0 : Int32))] [(.int (0 : Int32)), (.ref a0)])) rfl rfl (hb hby d16_16) _ ?_
    show Steps p.tables e below (s₁.setTop (mkF m 17 #[.val (.ref a0), .val (.int (0 : Int32)), .val (.int (1 : Int32)), .val (.int (1 : Int32)), .val (.int (0 : Int32))] [(.int pv)])) _
    refine XS.ifYes X0.here hx rfl (pc0 := 17) (pc' := 25) rfl (hb hby d16_17) rfl ((if0 _ _).trans (flt hc1).2.1) (by decide) (by decide) ?_
    show Steps p.tables e below (s₁.setTop (mkF m 25 #[.val (.ref a0), .val (.int (0 : Int32)), .val (.int (1 : Int32)), .val (.int (1 : Int32)), .val (.int (0 : Int32))] [])) _
    refine XS.iinc X0.here hx rfl (hb hby d16_25) rfl (l' := #[.val (.ref a0), .val (.int (0 : Int32)), .val (.int (1 : Int32)), .val (.int (1 : Int32)), .val (.int (1 : Int32))]) rfl ?_
    show Steps p.tables e below (s₁.setTop (mkF m 28 #[.val (.ref a0), .val (.int (0 : Int32)), .val (.int (1 : Int32)), .val (.int (1 : Int32)), .val (.int (1 : Int32))] [])) _
    refine XS.goto X0.here hx rfl (pc0 := 28) (pc' := 7) rfl (hb hby d16_28) (by decide) (by decide) ?_
    show Steps p.tables e below (s₁.setTop (mkF m 7 #[.val (.ref a0), .val (.int (0 : Int32)), .val (.int (1 : Int32)), .val (.int (1 : Int32)), .val (.int (1 : Int32))] [])) _
    refine XS.iload X0.here hx rfl (hb hby d16_7) rfl ?_
    show Steps p.tables e below (s₁.setTop (mkF m 9 #[.val (.ref a0), .val (.int (0 : Int32)), .val (.int (1 : Int32)), .val (.int (1 : Int32)), .val (.int (1 : Int32))] [(.int (1 : Int32))])) _
    refine XS.iloadN X0.here hx rfl (hb hby d16_9) rfl ?_
    show Steps p.tables e below (s₁.setTop (mkF m 10 #[.val (.ref a0), .val (.int (0 : Int32)), .val (.int (1 : Int32)), .val (.int (1 : Int32)), .val (.int (1 : Int32))] [(.int (1 : Int32)), (.int (1 : Int32))])) _
    refine XS.icmpYes X0.here hx rfl (pc0 := 10) (pc' := 31) rfl (hb hby d16_10) rfl (flt (by decide : ¬ ((1 : Int32) < (1 : Int32)))).2.1 (by decide) (by decide) ?_
    show Steps p.tables e below (s₁.setTop (mkF m 31 #[.val (.ref a0), .val (.int (0 : Int32)), .val (.int (1 : Int32)), .val (.int (1 : Int32)), .val (.int (1 : Int32))] [])) _
    refine XS.iloadN X0.here hx rfl (hb hby d16_31) rfl ?_
    show Steps p.tables e below (s₁.setTop (mkF m 32 #[.val (.ref a0), .val (.int (0 : Int32)), .val (.int (1 : Int32)), .val (.int (1 : Int32)), .val (.int (1 : Int32))] [(.int (1 : Int32))])) _
    exact retI X0 hx Bd.returns (hb hby d16_32) hr
  · show Q16p Z a0 k0 pv h0 n0 _ s₁.heap _
    rw [e0]
    exact ⟨rfl, N0, rfl⟩
theorem d15_0 : decode jdk_123_method_2_code 0 = .ok (.aload_n 0, 1) := by decide +kernel
theorem d15_1 : decode jdk_123_method_2_code 1 = .ok (.iload_n 1, 1) := by decide +kernel
theorem d15_2 : decode jdk_123_method_2_code 2 = .ok (.iload_n 2, 1) := by decide +kernel
theorem d15_3 : decode jdk_123_method_2_code 3 = .ok (.invokestatic 7, 3) := by decide +kernel
theorem pd_0 : parseMethodDescriptor "([BII)I" = some ⟨[(.array .byte), .int, .int], some .int⟩ := by decide +kernel
theorem d15_6 : decode jdk_123_method_2_code 6 = .ok (.iload_n 2, 1) := by decide +kernel
theorem d15_7 : decode jdk_123_method_2_code 7 = .ok (.if_icmp .eq 7, 3) := by decide +kernel
theorem d15_14 : decode jdk_123_method_2_code 14 = .ok (.iconst 0, 1) := by decide +kernel
theorem d15_15 : decode jdk_123_method_2_code 15 = .ok (.ireturn, 1) := by decide +kernel
theorem ef_rm15p (m : MethodId) (a0 : Addr) : entryFrame m #[(.ref a0), (.int (0 : Int32)), (.int (1 : Int32))] 3 = mkF m 0 #[.val (.ref a0), .val (.int (0 : Int32)), .val (.int (1 : Int32))] [] := by first | (simp [entryFrame, mkF, argsToLocals, Value.category]; done) | rfl
def Q15p (Z : State) (a0 : Addr) (k0 : ClassId) (pv : Int32) (h0 : Heap) (n0 : Nat) (v : Option Value) (h : Heap) (L : List Loc) : Prop := v = some (.int (0 : Int32)) ∧ Fr n0 L ∧ h = h0
set_option maxRecDepth 65536 in
set_option maxHeartbeats 40000000 in
theorem rm15p (l : Launch) (Z : State) (az : Array Value) (hw : ∀ d ∈ tables_1, d.before az Z = true) (ws : List Jvm.Cond) (a0 : Addr) (k0 : ClassId) (pv : Int32) (h0 : Heap) (n0 : Nat) (Z0 : n0 ≤ h0.size) (V_a0 : Arv Z h0 a0 k0 .byte (1 : Int32) [(.int pv)] (.int (0 : Int32))) (hc1 : ¬ (pv < (0 : Int32))) :
    MetFree l (⟨"java/lang/StringCoding", "hasNegatives", "([BII)Z"⟩ : MethodName) (head1 (Jvm.Cond.code (⟨"java/lang/StringCoding", "hasNegatives", "([BII)Z"⟩ : MethodName) jdk_123_method_2_code 3 (some .boolean) :: ws) ({ frames := 1, cells := 0, slots := 0, locals := 16 } : Room)) (fun a U => a = #[(.ref a0), (.int (0 : Int32)), (.int (1 : Int32))] ∧ Z.Warmed39 U.vm ∧ U.heap = h0) (fun _ _ _ _ _ => True) (fun _ U o U' => ∃ v L, o = .returned v ∧ Q15p Z a0 k0 pv h0 n0 v U'.heap L ∧ FrameEnd U o U' L ({ frames := 1, cells := 0, slots := 0, locals := 16 } : Room).cells ({ frames := 1, cells := 0, slots := 0, locals := 16 } : Room).slots) := by
  refine MetFree.of_bodySF (plainFor_of_name pn_java_lang_StringCoding) hisR ?_
  intro p e s m args below meth c s₁ Bd hml0 hP hK
  obtain ⟨rfl, hZ, hh⟩ := hP
  have hx := Bd.exec
  have hby := Bd.bytes
  have hml : c.maxLocals = 3 := hml0
  have hown : s.vm.findClass "java/lang/StringCoding" = some m.cls := findClass_of_methodNamed Bd.named
  have hnm := (name_of_methodNamed Bd.named Bd.method).1
  have X0 : Stand p l e ({ frames := 1, cells := 0, slots := 0, locals := 16 } : Room) s m #[(.ref a0), (.int (0 : Int32)), (.int (1 : Int32))] below meth c s₁ [] 0 0 := Stand.of_body Bd
  have e0 : s₁.heap = h0 := by rw [← hh, Bd.state]; rfl
  have N0 := Fr.nil n0
  have pre0 : ∀ t, Steps p.tables e below (s₁.setTop (mkF m 0 #[.val (.ref a0), .val (.int (0 : Int32)), .val (.int (1 : Int32))] [])) t → Steps p.tables e below (s₁.setTop (entryFrame m #[(.ref a0), (.int (0 : Int32)), (.int (1 : Int32))] 3)) t := fun t k => castTop (ef_rm15p m a0) k
  obtain ⟨_, _, ⟨T1, L1, k1', n1'⟩, -, X1, ⟨Lc1, hQ1, l1, y1, z1⟩, st1⟩ := Jvm.LawKit.callS X0 hx (y := (⟨"java/lang/StringCoding", "countPositives", "([BII)I"⟩ : MethodName)) hown (mvT hZ (hw _ (List.mem_of_getElem? (i := 82) rfl))) (mvT hZ (hw _ (List.mem_of_getElem? (i := 83) rfl))) (mvT hZ (hw _ (List.mem_of_getElem? (i := 80) rfl))) (mvT hZ (hw _ (List.mem_of_getElem? (i := 84) rfl))) (by decide) (backOf (W := 0) (rm16p l Z az hw [] a0 k0 pv h0 n0 Z0 V_a0 hc1) hZ (hw _ (List.mem_of_getElem? (i := 84) rfl)) (hw _ (List.mem_of_getElem? (i := 80) rfl)) (by decide) (by decide)) (g := (mkF m 3 #[.val (.ref a0), .val (.int (0 : Int32)), .val (.int (1 : Int32))] [(.int (1 : Int32)), (.int (0 : Int32)), (.ref a0)])) rfl (by rw [hml]; rfl) (argsL := [(.ref a0), (.int (0 : Int32)), (.int (1 : Int32))]) (rest := []) (lenOf pd_0 rfl) rfl (by show 2 * 0 + _ ≤ _; exact Nat.le_of_eq rfl) (hb hby d15_3) (fun _ _ => ⟨rfl, e0, (by decide : 0 + 0 ≤ _), (by decide : 0 + 0 ≤ _)⟩)
  dsimp only [Pt.U, Pt.locs, Pt.cells, Pt.slots] at X1 l1 y1 z1 st1 hQ1
  subst l1 y1 z1
  obtain ⟨rfl, N1q, e1⟩ := hQ1
  have N1 := Fr.app N0 N1q
  obtain ⟨fs, hr, hrun, hended, hW, hsame⟩ := X1.leave (v := some (.int (0 : Int32))) (fun h => by rw [Bd.returns] at h; cases h)
  refine ⟨_, _, pre0 _ ?_, hrun, hended, _, _, rfl, ?_, ⟨_, rfl⟩, hW, hsame.mono (by decide) (by decide)⟩
  · show Steps p.tables e below (s₁.setTop (mkF m 0 #[.val (.ref a0), .val (.int (0 : Int32)), .val (.int (1 : Int32))] [])) _
    refine XS.aloadN X0.here hx rfl (hb hby d15_0) rfl rfl ?_
    show Steps p.tables e below (s₁.setTop (mkF m 1 #[.val (.ref a0), .val (.int (0 : Int32)), .val (.int (1 : Int32))] [(.ref a0)])) _
    refine XS.iloadN X0.here hx rfl (hb hby d15_1) rfl ?_
    show Steps p.tables e below (s₁.setTop (mkF m 2 #[.val (.ref a0), .val (.int (0 : Int32)), .val (.int (1 : Int32))] [(.int (0 : Int32)), (.ref a0)])) _
    refine XS.iloadN X0.here hx rfl (hb hby d15_2) rfl ?_
    show Steps p.tables e below (s₁.setTop (mkF m 3 #[.val (.ref a0), .val (.int (0 : Int32)), .val (.int (1 : Int32))] [(.int (1 : Int32)), (.int (0 : Int32)), (.ref a0)])) _
    refine st1 _ ?_
    show Steps p.tables e below (T1.setTop (mkF m 6 #[.val (.ref a0), .val (.int (0 : Int32)), .val (.int (1 : Int32))] [(.int (1 : Int32))])) _
    refine XS.iloadN X1.here hx rfl (hb hby d15_6) rfl ?_
    show Steps p.tables e below (T1.setTop (mkF m 7 #[.val (.ref a0), .val (.int (0 : Int32)), .val (.int (1 : Int32))] [(.int (1 : Int32)), (.int (1 : Int32))])) _
    refine XS.icmpYes X1.here hx rfl (pc0 := 7) (pc' := 14) rfl (hb hby d15_7) rfl (teq (by decide : (1 : Int32) = (1 : Int32))).1 (by decide) (by decide) ?_
    show Steps p.tables e below (T1.setTop (mkF m 14 #[.val (.ref a0), .val (.int (0 : Int32)), .val (.int (1 : Int32))] [])) _
    refine XS.iconst X1.here hx rfl (hb hby d15_14) ?_
    show Steps p.tables e below (T1.setTop (mkF m 15 #[.val (.ref a0), .val (.int (0 : Int32)), .val (.int (1 : Int32))] [(.int (0 : Int32))])) _
    exact retN X1 hx (t := .boolean) Bd.returns (by simp) (hb hby d15_15) hr
  · show Q15p Z a0 k0 pv h0 n0 _ T1.heap _
    rw [e1]
    exact ⟨rfl, N1, rfl⟩
theorem d14_0 : decode jdk_42_method_46_code 0 = .ok (.iload_n 0, 1) := by decide +kernel
theorem d14_1 : decode jdk_42_method_46_code 1 = .ok (.iconst 1, 1) := by decide +kernel
theorem d14_2 : decode jdk_42_method_46_code 2 = .ok (.if_icmp .ne 9, 3) := by decide +kernel
theorem d14_11 : decode jdk_42_method_46_code 11 = .ok (.aload_n 1, 1) := by decide +kernel
theorem d14_12 : decode jdk_42_method_46_code 12 = .ok (.iconst 0, 1) := by decide +kernel
theorem d14_13 : decode jdk_42_method_46_code 13 = .ok (.aload_n 1, 1) := by decide +kernel
theorem d14_14 : decode jdk_42_method_46_code 14 = .ok (.arraylength, 1) := by decide +kernel
theorem d14_15 : decode jdk_42_method_46_code 15 = .ok (.invokestatic 128, 3) := by decide +kernel
theorem pd_1 : parseMethodDescriptor "([BII)Z" = some ⟨[(.array .byte), .int, .int], some .boolean⟩ := by decide +kernel
theorem d14_18 : decode jdk_42_method_46_code 18 = .ok (.ifCond .ne 11, 3) := by decide +kernel
theorem d14_21 : decode jdk_42_method_46_code 21 = .ok (.aload_n 1, 1) := by decide +kernel
theorem d14_22 : decode jdk_42_method_46_code 22 = .ok (.invokevirtual 279, 3) := by decide +kernel
theorem d14_25 : decode jdk_42_method_46_code 25 = .ok (.checkcast 280, 3) := by decide +kernel
theorem d14_28 : decode jdk_42_method_46_code 28 = .ok (.areturn, 1) := by decide +kernel
theorem ef_rm14p (m : MethodId) (a1 : Addr) : entryFrame m #[(.int (0 : Int32)), (.ref a1), (.int (1 : Int32))] 9 = mkF m 0 #[.val (.int (0 : Int32)), .val (.ref a1), .val (.int (1 : Int32)), .unset, .unset, .unset, .unset, .unset, .unset] [] := by first | (simp [entryFrame, mkF, argsToLocals, Value.category]; done) | rfl
def Q14p (Z : State) (a1 : Addr) (k1 : ClassId) (pv : Int32) (h0 : Heap) (n0 : Nat) (v : Option Value) (h : Heap) (L : List Loc) : Prop := ∃ r0 : Addr, v = some (.ref r0) ∧ Fr n0 L ∧ h0.size ≤ r0 ∧ Keep h0 h [] ∧ Exa Z h r0 "[B" ∧ Arv Z h r0 k1 .byte (1 : Int32) [(.int pv)] (.int (0 : Int32))
set_option maxRecDepth 65536 in
set_option maxHeartbeats 40000000 in
theorem rm14p (l : Launch) (Z : State) (az : Array Value) (hw : ∀ d ∈ tables_1, d.before az Z = true) (ws : List Jvm.Cond) (a1 : Addr) (k1 : ClassId) (pv : Int32) (h0 : Heap) (n0 : Nat) (Z0 : n0 ≤ h0.size) (V_a1 : Arv Z h0 a1 k1 .byte (1 : Int32) [(.int pv)] (.int (0 : Int32))) (E_a1 : Exa Z h0 a1 "[B") (hc2 : ¬ (pv < (0 : Int32))) :
    MetFree l (⟨"java/lang/String", "encodeUTF8", "(B[BZ)[B"⟩ : MethodName) (head1 (Jvm.Cond.code (⟨"java/lang/String", "encodeUTF8", "(B[BZ)[B"⟩ : MethodName) jdk_42_method_46_code 9 (some (.array .byte)) :: ws) ({ frames := 2, cells := 1, slots := 1, locals := 30 } : Room)) (fun a U => a = #[(.int (0 : Int32)), (.ref a1), (.int (1 : Int32))] ∧ Z.Warmed39 U.vm ∧ U.heap = h0) (fun _ _ _ _ _ => True) (fun _ U o U' => ∃ v L, o = .returned v ∧ Q14p Z a1 k1 pv h0 n0 v U'.heap L ∧ FrameEnd U o U' L ({ frames := 2, cells := 1, slots := 1, locals := 30 } : Room).cells ({ frames := 2, cells := 1, slots := 1, locals := 30 } : Room).slots) := by
  refine MetFree.of_bodySF (plainFor_of_name pn_java_lang_String) hisR ?_
  intro p e s m args below meth c s₁ Bd hml0 hP hK
  obtain ⟨rfl, hZ, hh⟩ := hP
  have hx := Bd.exec
  have hby := Bd.bytes
  have hml : c.maxLocals = 9 := hml0
  have hown : s.vm.findClass "java/lang/String" = some m.cls := findClass_of_methodNamed Bd.named
  have hnm := (name_of_methodNamed Bd.named Bd.method).1
  have X0 : Stand p l e ({ frames := 2, cells := 1, slots := 1, locals := 30 } : Room) s m #[(.int (0 : Int32)), (.ref a1), (.int (1 : Int32))] below meth c s₁ [] 0 0 := Stand.of_body Bd
  have e0 : s₁.heap = h0 := by rw [← hh, Bd.state]; rfl
  have N0 := Fr.nil n0
  have pre0 : ∀ t, Steps p.tables e below (s₁.setTop (mkF m 0 #[.val (.int (0 : Int32)), .val (.ref a1), .val (.int (1 : Int32)), .unset, .unset, .unset, .unset, .unset, .unset] [])) t → Steps p.tables e below (s₁.setTop (entryFrame m #[(.int (0 : Int32)), (.ref a1), (.int (1 : Int32))] 9)) t := fun t k => castTop (ef_rm14p m a1) k
  obtain ⟨cl1, Ar1, qk1, Sz1, Ng1, Hs1, Gf1⟩ := id V_a1
  obtain ⟨_, _, ⟨T2, L2, k2', n2'⟩, -, X2, ⟨Lc2, hQ2, l2, y2, z2⟩, st2⟩ := Jvm.LawKit.callS X0 hx (y := (⟨"java/lang/StringCoding", "hasNegatives", "([BII)Z"⟩ : MethodName)) hown (mvT hZ (hw _ (List.mem_of_getElem? (i := 78) rfl))) (mvT hZ (hw _ (List.mem_of_getElem? (i := 79) rfl))) (mvT hZ (hw _ (List.mem_of_getElem? (i := 80) rfl))) (mvT hZ (hw _ (List.mem_of_getElem? (i := 81) rfl))) (by decide) (backOf (W := 0) (rm15p l Z az hw [] a1 k1 pv h0 n0 Z0 V_a1 hc2) hZ (hw _ (List.mem_of_getElem? (i := 81) rfl)) (hw _ (List.mem_of_getElem? (i := 80) rfl)) (by decide) (by decide)) (g := (mkF m 15 #[.val (.int (0 : Int32)), .val (.ref a1), .val (.int (1 : Int32)), .unset, .unset, .unset, .unset, .unset, .unset] [(.int (1 : Int32)), (.int (0 : Int32)), (.ref a1)])) rfl (by rw [hml]; rfl) (argsL := [(.ref a1), (.int (0 : Int32)), (.int (1 : Int32))]) (rest := []) (lenOf pd_1 rfl) rfl (by show 2 * 0 + _ ≤ _; exact Nat.le_of_eq rfl) (hb hby d14_15) (fun _ _ => ⟨rfl, e0, (by decide : 0 + 0 ≤ _), (by decide : 0 + 0 ≤ _)⟩)
  dsimp only [Pt.U, Pt.locs, Pt.cells, Pt.slots] at X2 l2 y2 z2 st2 hQ2
  subst l2 y2 z2
  obtain ⟨rfl, N2q, e2⟩ := hQ2
  have N2 := Fr.app N0 N2q
  obtain ⟨T3, h3, X3, e3, E3, A3, x3, st3⟩ := cloneH X2 hx hZ hown (hw _ (List.mem_of_getElem? (i := 85) rfl)) (hw _ (List.mem_of_getElem? (i := 86) rfl)) (hw _ (List.mem_of_getElem? (i := 90) rfl)) (hw _ (List.mem_of_getElem? (i := 88) rfl)) (hw _ (List.mem_of_getElem? (i := 89) rfl)) (hw _ (List.mem_of_getElem? (i := 91) rfl)) e2 (Arv.arh V_a1) E_a1 (g := (mkF m 22 #[.val (.int (0 : Int32)), .val (.ref a1), .val (.int (1 : Int32)), .unset, .unset, .unset, .unset, .unset, .unset] [(.ref a1)])) rfl (by rw [hml]; rfl) rfl (hb hby d14_22) (by decide) (W := 0) (cap := 1) (by show 2 * 0 + _ ≤ _; exact Nat.le_of_eq rfl) (by decide) (by decide) (by decide) (by decide)
  obtain ⟨b3, g3⟩ : ∃ z, z = h0.size := ⟨_, rfl⟩
  rw [← g3] at A3 x3 st3
  have g_b3 : n0 ≤ b3 := Nat.le_trans Z0 (Nat.le_of_eq g3.symm)
  have sz_b3 : h0.size ≤ b3 := Nat.le_trans (Nat.le_refl _) (Nat.le_of_eq g3.symm)
  have Z3 : n0 ≤ h3.size := Nat.le_trans Z0 E3.1
  have K3 : Keep h0 h3 [] := (Keep.refl h0 []).ext E3
  have E_b3 := x3
  have V_b3 : Arv Z h3 b3 k1 .byte (1 : Int32) [(.int pv)] (.int (0 : Int32)) := A3
  obtain ⟨T4, X4, e4, st4⟩ := castY X3 hx hZ hown (hw _ (List.mem_of_getElem? (i := 92) rfl)) e3 (Ins.self E_b3) (g := (mkF m 25 #[.val (.int (0 : Int32)), .val (.ref a1), .val (.int (1 : Int32)), .unset, .unset, .unset, .unset, .unset, .unset] [(.ref b3)])) rfl rfl (hb hby d14_25)
  obtain ⟨fs, hr, hrun, hended, hW, hsame⟩ := X4.leave (v := some (.ref b3)) (fun h => by rw [Bd.returns] at h; cases h)
  refine ⟨_, _, pre0 _ ?_, hrun, hended, _, _, rfl, ?_, ⟨_, rfl⟩, hW, hsame.mono (by decide) (by decide)⟩
  · show Steps p.tables e below (s₁.setTop (mkF m 0 #[.val (.int (0 : Int32)), .val (.ref a1), .val (.int (1 : Int32)), .unset, .unset, .unset, .unset, .unset, .unset] [])) _
    refine XS.iloadN X0.here hx rfl (hb hby d14_0) rfl ?_
    show Steps p.tables e below (s₁.setTop (mkF m 1 #[.val (.int (0 : Int32)), .val (.ref a1), .val (.int (1 : Int32)), .unset, .unset, .unset, .unset, .unset, .unset] [(.int (0 : Int32))])) _
    refine XS.iconst X0.here hx rfl (hb hby d14_1) ?_
    show Steps p.tables e below (s₁.setTop (mkF m 2 #[.val (.int (0 : Int32)), .val (.ref a1), .val (.int (1 : Int32)), .unset, .unset, .unset, .unset, .unset, .unset] [(.int (1 : Int32)), (.int (0 : Int32))])) _
    refine XS.icmpYes X0.here hx rfl (pc0 := 2) (pc' := 11) rfl (hb hby d14_2) rfl (feq (by decide : ¬ ((0 : Int32) = (1 : Int32)))).2 (by decide) (by decide) ?_
    show Steps p.tables e below (s₁.setTop (mkF m 11 #[.val (.int (0 : Int32)), .val (.ref a1), .val (.int (1 : Int32)), .unset, .unset, .unset, .unset, .unset, .unset] [])) _
    refine XS.aloadN X0.here hx rfl (hb hby d14_11) rfl rfl ?_
    show Steps p.tables e below (s₁.setTop (mkF m 12 #[.val (.int (0 : Int32)), .val (.ref a1), .val (.int (1 : Int32)), .unset, .unset, .unset, .unset, .unset, .unset] [(.ref a1)])) _
    refine XS.iconst X0.here hx rfl (hb hby d14_12) ?_
    show Steps p.tables e below (s₁.setTop (mkF m 13 #[.val (.int (0 : Int32)), .val (.ref a1), .val (.int (1 : Int32)), .unset, .unset, .unset, .unset, .unset, .unset] [(.int (0 : Int32)), (.ref a1)])) _
    refine XS.aloadN X0.here hx rfl (hb hby d14_13) rfl rfl ?_
    show Steps p.tables e below (s₁.setTop (mkF m 14 #[.val (.int (0 : Int32)), .val (.ref a1), .val (.int (1 : Int32)), .unset, .unset, .unset, .unset, .unset, .unset] [(.ref a1), (.int (0 : Int32)), (.ref a1)])) _
    refine X0.arraylength hx (by rw [e0]; exact Ar1.1) (State.isArrayOf_alike hZ.alike Ar1.2.1) (g := (mkF m 14 #[.val (.int (0 : Int32)), .val (.ref a1), .val (.int (1 : Int32)), .unset, .unset, .unset, .unset, .unset, .unset] [(.ref a1), (.int (0 : Int32)), (.ref a1)])) rfl rfl (hb hby d14_14) _ ?_
    rw [len_of Sz1 Ng1]
    show Steps p.tables e below (s₁.setTop (mkF m 15 #[.val (.int (0 : Int32)), .val (.ref a1), .val (.int (1 : Int32)), .unset, .unset, .unset, .unset, .unset, .unset] [(.int (1 : Int32)), (.int (0 : Int32)), (.ref a1)])) _
    refine st2 _ ?_
    show Steps p.tables e below (T2.setTop (mkF m 18 #[.val (.int (0 : Int32)), .val (.ref a1), .val (.int (1 : Int32)), .unset, .unset, .unset, .unset, .unset, .unset] [(.int (0 : Int32))])) _
    refine XS.ifNo X2.here hx rfl (hb hby d14_18) rfl ((if0 _ _).trans (teq (by decide : (0 : Int32) = (0 : Int32))).2) ?_
    show Steps p.tables e below (T2.setTop (mkF m 21 #[.val (.int (0 : Int32)), .val (.ref a1), .val (.int (1 : Int32)), .unset, .unset, .unset, .unset, .unset, .unset] [])) _
    refine XS.aloadN X2.here hx rfl (hb hby d14_21) rfl rfl ?_
    show Steps p.tables e below (T2.setTop (mkF m 22 #[.val (.int (0 : Int32)), .val (.ref a1), .val (.int (1 : Int32)), .unset, .unset, .unset, .unset, .unset, .unset] [(.ref a1)])) _
    refine st3 _ ?_
    show Steps p.tables e below (T3.setTop (mkF m 25 #[.val (.int (0 : Int32)), .val (.ref a1), .val (.int (1 : Int32)), .unset, .unset, .unset, .unset, .unset, .unset] [(.ref b3)])) _
    refine st4 _ ?_
    show Steps p.tables e below (T4.setTop (mkF m 28 #[.val (.int (0 : Int32)), .val (.ref a1), .val (.int (1 : Int32)), .unset, .unset, .unset, .unset, .unset, .unset] [(.ref b3)])) _
    jvm_step X4.here [X4.here.top, hx, (hb hby d14_28), X4.method', Bd.returns, Value.isRef, FieldType.isReference]
    first | (intro acts; rw [hr _ acts rfl rfl rfl]) | rw [hr _ _ rfl rfl rfl]
    exact Steps.refl _
  · show Q14p Z a1 k1 pv h0 n0 _ T4.heap _
    rw [e4]
    exact ⟨b3, rfl, N2, sz_b3, K3, E_b3, V_b3⟩
theorem d13_0 : decode jdk_42_method_18_code 0 = .ok (.aload_n 0, 1) := by decide +kernel
theorem d13_1 : decode jdk_42_method_18_code 1 = .ok (.getstatic 86, 3) := by decide +kernel
theorem d13_4 : decode jdk_42_method_18_code 4 = .ok (.if_acmp .ne 10, 3) := by decide +kernel
theorem d13_7 : decode jdk_42_method_18_code 7 = .ok (.iload_n 1, 1) := by decide +kernel
theorem d13_8 : decode jdk_42_method_18_code 8 = .ok (.aload_n 2, 1) := by decide +kernel
theorem d13_9 : decode jdk_42_method_18_code 9 = .ok (.iconst 1, 1) := by decide +kernel
theorem d13_10 : decode jdk_42_method_18_code 10 = .ok (.invokestatic 252, 3) := by decide +kernel
theorem pd_2 : parseMethodDescriptor "(B[BZ)[B" = some ⟨[.byte, (.array .byte), .boolean], some (.array .byte)⟩ := by decide +kernel
theorem d13_13 : decode jdk_42_method_18_code 13 = .ok (.areturn, 1) := by decide +kernel
theorem ef_rm13p (m : MethodId) (aU : Addr) (a2 : Addr) : entryFrame m #[(.ref aU), (.int (0 : Int32)), (.ref a2)] 3 = mkF m 0 #[.val (.ref aU), .val (.int (0 : Int32)), .val (.ref a2)] [] := by first | (simp [entryFrame, mkF, argsToLocals, Value.category]; done) | rfl
def Q13p (Z : State) (aU : Addr) (a2 : Addr) (k2 : ClassId) (pv : Int32) (h0 : Heap) (n0 : Nat) (v : Option Value) (h : Heap) (L : List Loc) : Prop := ∃ r0 : Addr, v = some (.ref r0) ∧ Fr n0 L ∧ h0.size ≤ r0 ∧ Keep h0 h [] ∧ Exa Z h r0 "[B" ∧ Arv Z h r0 k2 .byte (1 : Int32) [(.int pv)] (.int (0 : Int32))
set_option maxRecDepth 65536 in
set_option maxHeartbeats 40000000 in
theorem rm13p (l : Launch) (Z : State) (az : Array Value) (hw : ∀ d ∈ tables_1, d.before az Z = true) (ws : List Jvm.Cond) (aU : Addr) (a2 : Addr) (k2 : ClassId) (pv : Int32) (h0 : Heap) (n0 : Nat) (Z0 : n0 ≤ h0.size) (S_INSTANCE : Sta Z h0 "sun/nio/cs/UTF_8" "INSTANCE" "Lsun/nio/cs/UTF_8;" (.ref aU)) (V_a2 : Arv Z h0 a2 k2 .byte (1 : Int32) [(.int pv)] (.int (0 : Int32))) (E_a2 : Exa Z h0 a2 "[B") (hc3 : ¬ (pv < (0 : Int32))) :
    MetFree l (⟨"java/lang/String", "encode", "(Ljava/nio/charset/Charset;B[B)[B"⟩ : MethodName) (head1 (Jvm.Cond.code (⟨"java/lang/String", "encode", "(Ljava/nio/charset/Charset;B[B)[B"⟩ : MethodName) jdk_42_method_18_code 3 (some (.array .byte)) :: ws) ({ frames := 3, cells := 1, slots := 1, locals := 50 } : Room)) (fun a U => a = #[(.ref aU), (.int (0 : Int32)), (.ref a2)] ∧ Z.Warmed39 U.vm ∧ U.heap = h0) (fun _ _ _ _ _ => True) (fun _ U o U' => ∃ v L, o = .returned v ∧ Q13p Z aU a2 k2 pv h0 n0 v U'.heap L ∧ FrameEnd U o U' L ({ frames := 3, cells := 1, slots := 1, locals := 50 } : Room).cells ({ frames := 3, cells := 1, slots := 1, locals := 50 } : Room).slots) := by
  refine MetFree.of_bodySF (plainFor_of_name pn_java_lang_String) hisR ?_
  intro p e s m args below meth c s₁ Bd hml0 hP hK
  obtain ⟨rfl, hZ, hh⟩ := hP
  have hx := Bd.exec
  have hby := Bd.bytes
  have hml : c.maxLocals = 3 := hml0
  have hown : s.vm.findClass "java/lang/String" = some m.cls := findClass_of_methodNamed Bd.named
  have hnm := (name_of_methodNamed Bd.named Bd.method).1
  have X0 : Stand p l e ({ frames := 3, cells := 1, slots := 1, locals := 50 } : Room) s m #[(.ref aU), (.int (0 : Int32)), (.ref a2)] below meth c s₁ [] 0 0 := Stand.of_body Bd
  have e0 : s₁.heap = h0 := by rw [← hh, Bd.state]; rfl
  have N0 := Fr.nil n0
  have pre0 : ∀ t, Steps p.tables e below (s₁.setTop (mkF m 0 #[.val (.ref aU), .val (.int (0 : Int32)), .val (.ref a2)] [])) t → Steps p.tables e below (s₁.setTop (entryFrame m #[(.ref aU), (.int (0 : Int32)), (.ref a2)] 3)) t := fun t k => castTop (ef_rm13p m aU a2) k
  obtain ⟨T1, X1, e1, st1⟩ := getS2 X0 hx hZ hown (host := "") (Or.inl (hw _ (List.mem_of_getElem? (i := 73) rfl))) Via.refl e0 S_INSTANCE (g := (mkF m 1 #[.val (.ref aU), .val (.int (0 : Int32)), .val (.ref a2)] [(.ref aU)])) rfl (hb hby d13_1)
  obtain ⟨_, _, ⟨T2, L2, k2', n2'⟩, -, X2, ⟨Lc2, hQ2, l2, y2, z2⟩, st2⟩ := Jvm.LawKit.callS X1 hx (y := (⟨"java/lang/String", "encodeUTF8", "(B[BZ)[B"⟩ : MethodName)) hown (mvT hZ (hw _ (List.mem_of_getElem? (i := 75) rfl))) (mvT hZ (hw _ (List.mem_of_getElem? (i := 76) rfl))) (mvT hZ (hw _ (List.mem_of_getElem? (i := 7) rfl))) (mvT hZ (hw _ (List.mem_of_getElem? (i := 77) rfl))) (by decide) (backOf (W := 0) (rm14p l Z az hw [] a2 k2 pv h0 n0 Z0 V_a2 E_a2 hc3) hZ (hw _ (List.mem_of_getElem? (i := 77) rfl)) (hw _ (List.mem_of_getElem? (i := 7) rfl)) (by decide) (by decide)) (g := (mkF m 10 #[.val (.ref aU), .val (.int (0 : Int32)), .val (.ref a2)] [(.int (1 : Int32)), (.ref a2), (.int (0 : Int32))])) rfl (by rw [hml]; rfl) (argsL := [(.int (0 : Int32)), (.ref a2), (.int (1 : Int32))]) (rest := []) (lenOf pd_2 rfl) rfl (by show 2 * 0 + _ ≤ _; exact Nat.le_of_eq rfl) (hb hby d13_10) (fun _ _ => ⟨rfl, e1, (by decide : 0 + 1 ≤ _), (by decide : 0 + 1 ≤ _)⟩)
  dsimp only [Pt.U, Pt.locs, Pt.cells, Pt.slots] at X2 l2 y2 z2 st2 hQ2
  subst l2 y2 z2
  obtain ⟨b2_0, rfl, N2q, s2_0, kq2, pf2_0, pf2_1⟩ := hQ2
  have N2 := Fr.app N0 N2q
  have g_b2_0 : n0 ≤ b2_0 := Nat.le_trans Z0 s2_0
  have sz_b2_0 : h0.size ≤ b2_0 := Nat.le_trans (Nat.le_refl _) s2_0
  have K2 : Keep h0 T2.heap [] := (Keep.refl h0 []).trans kq2 all0
  have Z2 : n0 ≤ T2.heap.size := Nat.le_trans Z0 kq2.1
  obtain ⟨fs, hr, hrun, hended, hW, hsame⟩ := X2.leave (v := some (.ref b2_0)) (fun h => by rw [Bd.returns] at h; cases h)
  refine ⟨_, _, pre0 _ ?_, hrun, hended, _, _, rfl, ?_, ⟨_, rfl⟩, hW, hsame.mono (by decide) (by decide)⟩
  · show Steps p.tables e below (s₁.setTop (mkF m 0 #[.val (.ref aU), .val (.int (0 : Int32)), .val (.ref a2)] [])) _
    refine XS.aloadN X0.here hx rfl (hb hby d13_0) rfl rfl ?_
    show Steps p.tables e below (s₁.setTop (mkF m 1 #[.val (.ref aU), .val (.int (0 : Int32)), .val (.ref a2)] [(.ref aU)])) _
    refine st1 _ ?_
    show Steps p.tables e below (T1.setTop (mkF m 4 #[.val (.ref aU), .val (.int (0 : Int32)), .val (.ref a2)] [(.ref aU), (.ref aU)])) _
    refine Jvm.RoadKit.acmp (g := (mkF m 4 #[.val (.ref aU), .val (.int (0 : Int32)), .val (.ref a2)] [(.ref aU), (.ref aU)])) X1 hx rfl rfl rfl (pc0 := 4) (pc' := 7) (same := true) rfl (hb hby d13_4) rfl (decide_eq_true rfl) (by decide) (by decide) ?_
    show Steps p.tables e below (T1.setTop (mkF m 7 #[.val (.ref aU), .val (.int (0 : Int32)), .val (.ref a2)] [])) _
    refine XS.iloadN X1.here hx rfl (hb hby d13_7) rfl ?_
    show Steps p.tables e below (T1.setTop (mkF m 8 #[.val (.ref aU), .val (.int (0 : Int32)), .val (.ref a2)] [(.int (0 : Int32))])) _
    refine XS.aloadN X1.here hx rfl (hb hby d13_8) rfl rfl ?_
    show Steps p.tables e below (T1.setTop (mkF m 9 #[.val (.ref aU), .val (.int (0 : Int32)), .val (.ref a2)] [(.ref a2), (.int (0 : Int32))])) _
    refine XS.iconst X1.here hx rfl (hb hby d13_9) ?_
    show Steps p.tables e below (T1.setTop (mkF m 10 #[.val (.ref aU), .val (.int (0 : Int32)), .val (.ref a2)] [(.int (1 : Int32)), (.ref a2), (.int (0 : Int32))])) _
    refine st2 _ ?_
    show Steps p.tables e below (T2.setTop (mkF m 13 #[.val (.ref aU), .val (.int (0 : Int32)), .val (.ref a2)] [(.ref b2_0)])) _
    jvm_step X2.here [X2.here.top, hx, (hb hby d13_13), X2.method', Bd.returns, Value.isRef, FieldType.isReference]
    first | (intro acts; rw [hr _ acts rfl rfl rfl]) | rw [hr _ _ rfl rfl rfl]
    exact Steps.refl _
  · show Q13p Z aU a2 k2 pv h0 n0 _ T2.heap _
    exact ⟨b2_0, rfl, N2, sz_b2_0, K2, pf2_0, pf2_1⟩
theorem d11_0 : decode jdk_42_method_64_code 0 = .ok (.aload_n 1, 1) := by decide +kernel
theorem d11_1 : decode jdk_42_method_64_code 1 = .ok (.ifnonnull 11, 3) := by decide +kernel
theorem d11_12 : decode jdk_42_method_64_code 12 = .ok (.aload_n 1, 1) := by decide +kernel
theorem d11_13 : decode jdk_42_method_64_code 13 = .ok (.aload_n 0, 1) := by decide +kernel
theorem d11_14 : decode jdk_42_method_64_code 14 = .ok (.invokevirtual 335, 3) := by decide +kernel
theorem pd_3 : parseMethodDescriptor "()B" = some ⟨[], some .byte⟩ := by decide +kernel
theorem d11_17 : decode jdk_42_method_64_code 17 = .ok (.aload_n 0, 1) := by decide +kernel
theorem d11_18 : decode jdk_42_method_64_code 18 = .ok (.getfield 9, 3) := by decide +kernel
theorem d11_21 : decode jdk_42_method_64_code 21 = .ok (.invokestatic 535, 3) := by decide +kernel
theorem pd_4 : parseMethodDescriptor "(Ljava/nio/charset/Charset;B[B)[B" = some ⟨[(.object "java/nio/charset/Charset"), .byte, (.array .byte)], some (.array .byte)⟩ := by decide +kernel
theorem d11_24 : decode jdk_42_method_64_code 24 = .ok (.areturn, 1) := by decide +kernel
theorem ef_rm11p (m : MethodId) (a0 : Addr) (aU : Addr) : entryFrame m #[(.ref a0), (.ref aU)] 2 = mkF m 0 #[.val (.ref a0), .val (.ref aU)] [] := by first | (simp [entryFrame, mkF, argsToLocals, Value.category]; done) | rfl
def Q11p (Z : State) (a0 : Addr) (aU : Addr) (aB : Addr) (kB : ClassId) (pv : Int32) (s_COMPACT_STRINGS : Int32) (h0 : Heap) (n0 : Nat) (v : Option Value) (h : Heap) (L : List Loc) : Prop := ∃ r0 : Addr, v = some (.ref r0) ∧ Fr n0 L ∧ h0.size ≤ r0 ∧ Keep h0 h [] ∧ Exa Z h r0 "[B" ∧ Arv Z h r0 kB .byte (1 : Int32) [(.int pv)] (.int (0 : Int32))
set_option maxRecDepth 65536 in
set_option maxHeartbeats 40000000 in
theorem rm11p (l : Launch) (Z : State) (az : Array Value) (hw : ∀ d ∈ tables_1, d.before az Z = true) (ws : List Jvm.Cond) (a0 : Addr) (aU : Addr) (aB : Addr) (kB : ClassId) (pv : Int32) (s_COMPACT_STRINGS : Int32) (h0 : Heap) (n0 : Nat) (Z0 : n0 ≤ h0.size) (E_a0 : Exa Z h0 a0 "java/lang/String") (F_coder_a0 : Fld Z h0 a0 "java/lang/String" "coder" "B" (.int (0 : Int32))) (F_value_a0 : Fld Z h0 a0 "java/lang/String" "value" "[B" (.ref aB)) (V_aB : Arv Z h0 aB kB .byte (1 : Int32) [(.int pv)] (.int (0 : Int32))) (E_aB : Exa Z h0 aB "[B") (S_INSTANCE : Sta Z h0 "sun/nio/cs/UTF_8" "INSTANCE" "Lsun/nio/cs/UTF_8;" (.ref aU)) (hc6 : ¬ (pv < (0 : Int32))) (S_COMPACT_STRINGS : Sta Z h0 "java/lang/String" "COMPACT_STRINGS" "Z" (.int s_COMPACT_STRINGS)) (hc8 : ¬ (s_COMPACT_STRINGS = (0 : Int32))) :
    MetFree l (⟨"java/lang/String", "getBytes", "(Ljava/nio/charset/Charset;)[B"⟩ : MethodName) (head1 (Jvm.Cond.code (⟨"java/lang/String", "getBytes", "(Ljava/nio/charset/Charset;)[B"⟩ : MethodName) jdk_42_method_64_code 2 (some (.array .byte)) :: ws) ({ frames := 4, cells := 1, slots := 1, locals := 64 } : Room)) (fun a U => a = #[(.ref a0), (.ref aU)] ∧ Z.Warmed39 U.vm ∧ U.heap = h0) (fun _ _ _ _ _ => True) (fun _ U o U' => ∃ v L, o = .returned v ∧ Q11p Z a0 aU aB kB pv s_COMPACT_STRINGS h0 n0 v U'.heap L ∧ FrameEnd U o U' L ({ frames := 4, cells := 1, slots := 1, locals := 64 } : Room).cells ({ frames := 4, cells := 1, slots := 1, locals := 64 } : Room).slots) := by
  refine MetFree.of_bodySF (plainFor_of_name pn_java_lang_String) hisR ?_
  intro p e s m args below meth c s₁ Bd hml0 hP hK
  obtain ⟨rfl, hZ, hh⟩ := hP
  have hx := Bd.exec
  have hby := Bd.bytes
  have hml : c.maxLocals = 2 := hml0
  have hown : s.vm.findClass "java/lang/String" = some m.cls := findClass_of_methodNamed Bd.named
  have hnm := (name_of_methodNamed Bd.named Bd.method).1
  have X0 : Stand p l e ({ frames := 4, cells := 1, slots := 1, locals := 64 } : Room) s m #[(.ref a0), (.ref aU)] below meth c s₁ [] 0 0 := Stand.of_body Bd
  have e0 : s₁.heap = h0 := by rw [← hh, Bd.state]; rfl
  have N0 := Fr.nil n0
  have pre0 : ∀ t, Steps p.tables e below (s₁.setTop (mkF m 0 #[.val (.ref a0), .val (.ref aU)] [])) t → Steps p.tables e below (s₁.setTop (entryFrame m #[(.ref a0), (.ref aU)] 2)) t := fun t k => castTop (ef_rm11p m a0 aU) k
  obtain ⟨cq1, kq1, q1a, q1b, q1c⟩ := isOf hZ e0 E_a0
  obtain ⟨_, _, ⟨T1, L1, k1', n1'⟩, -, X1, ⟨Lc1, hQ1, l1, y1, z1⟩, st1⟩ := X0.virtualBack hx (y := (⟨"java/lang/String", "coder", "()B"⟩ : MethodName)) (z := (⟨"java/lang/String", "coder", "()B"⟩ : MethodName)) hown (mvT hZ (hw _ (List.mem_of_getElem? (i := 65) rfl))) (mvT hZ (hw _ (List.mem_of_getElem? (i := 66) rfl))) (notFace_of_selects (args := #[]) (mvT hZ (hw _ (List.mem_of_getElem? (i := 68) rfl)))) (mvT hZ (hw _ (List.mem_of_getElem? (i := 68) rfl))) (mvT hZ (hw _ (List.mem_of_getElem? (i := 67) rfl))) (by decide) (backOf (W := 1) (rm12 l Z az hw [] a0 s_COMPACT_STRINGS h0 n0 Z0 F_coder_a0 S_COMPACT_STRINGS hc8) hZ (hw _ (List.mem_of_getElem? (i := 69) rfl)) (hw _ (List.mem_of_getElem? (i := 7) rfl)) (by decide) (by decide)) q1a q1c (g := (mkF m 14 #[.val (.ref a0), .val (.ref aU)] [(.ref a0), (.ref aU)])) rfl (by rw [hml]; rfl) (Steps.refl _) (argsL := []) (rest := [(.ref aU)]) (lenOf pd_3 rfl) rfl (by show 2 * 0 + _ ≤ _; exact Nat.le_of_eq rfl) (hb hby d11_14) (fun _ _ => ⟨rfl, e0, (by decide : 0 + 0 ≤ _), (by decide : 0 + 0 ≤ _)⟩)
  dsimp only [Pt.U, Pt.locs, Pt.cells, Pt.slots] at X1 l1 y1 z1 st1 hQ1
  subst l1 y1 z1
  obtain ⟨rfl, N1q, e1⟩ := hQ1
  have N1 := Fr.app N0 N1q
  obtain ⟨T2, X2, e2, st2⟩ := getF X1 hx hZ hown (host := "") (Or.inl (hw _ (List.mem_of_getElem? (i := 32) rfl))) Via.refl e1 F_value_a0 (g := (mkF m 18 #[.val (.ref a0), .val (.ref aU)] [(.ref a0), (.int (0 : Int32)), (.ref aU)])) rfl rfl (hb hby d11_18)
  obtain ⟨_, _, ⟨T3, L3, k3', n3'⟩, -, X3, ⟨Lc3, hQ3, l3, y3, z3⟩, st3⟩ := Jvm.LawKit.callS X2 hx (y := (⟨"java/lang/String", "encode", "(Ljava/nio/charset/Charset;B[B)[B"⟩ : MethodName)) hown (mvT hZ (hw _ (List.mem_of_getElem? (i := 70) rfl))) (mvT hZ (hw _ (List.mem_of_getElem? (i := 71) rfl))) (mvT hZ (hw _ (List.mem_of_getElem? (i := 7) rfl))) (mvT hZ (hw _ (List.mem_of_getElem? (i := 72) rfl))) (by decide) (backOf (W := 0) (rm13p l Z az hw [] aU aB kB pv h0 n0 Z0 S_INSTANCE V_aB E_aB hc6) hZ (hw _ (List.mem_of_getElem? (i := 72) rfl)) (hw _ (List.mem_of_getElem? (i := 7) rfl)) (by decide) (by decide)) (g := (mkF m 21 #[.val (.ref a0), .val (.ref aU)] [(.ref aB), (.int (0 : Int32)), (.ref aU)])) rfl (by rw [hml]; rfl) (argsL := [(.ref aU), (.int (0 : Int32)), (.ref aB)]) (rest := []) (lenOf pd_4 rfl) rfl (by show 2 * 0 + _ ≤ _; exact Nat.le_of_eq rfl) (hb hby d11_21) (fun _ _ => ⟨rfl, e2, (by decide : 0 + 1 ≤ _), (by decide : 0 + 1 ≤ _)⟩)
  dsimp only [Pt.U, Pt.locs, Pt.cells, Pt.slots] at X3 l3 y3 z3 st3 hQ3
  subst l3 y3 z3
  obtain ⟨b3_0, rfl, N3q, s3_0, kq3, pf3_0, pf3_1⟩ := hQ3
  have N3 := Fr.app N1 N3q
  have g_b3_0 : n0 ≤ b3_0 := Nat.le_trans Z0 s3_0
  have sz_b3_0 : h0.size ≤ b3_0 := Nat.le_trans (Nat.le_refl _) s3_0
  have K3 : Keep h0 T3.heap [] := (Keep.refl h0 []).trans kq3 all0
  have Z3 : n0 ≤ T3.heap.size := Nat.le_trans Z0 kq3.1
  obtain ⟨fs, hr, hrun, hended, hW, hsame⟩ := X3.leave (v := some (.ref b3_0)) (fun h => by rw [Bd.returns] at h; cases h)
  refine ⟨_, _, pre0 _ ?_, hrun, hended, _, _, rfl, ?_, ⟨_, rfl⟩, hW, hsame.mono (by decide) (by decide)⟩
  · show Steps p.tables e below (s₁.setTop (mkF m 0 #[.val (.ref a0), .val (.ref aU)] [])) _
    refine XS.aloadN X0.here hx rfl (hb hby d11_0) rfl rfl ?_
    show Steps p.tables e below (s₁.setTop (mkF m 1 #[.val (.ref a0), .val (.ref aU)] [(.ref aU)])) _
    refine XS.ifnonnullYes X0.here hx rfl (pc0 := 1) (pc' := 12) rfl (hb hby d11_1) rfl (by decide) (by decide) ?_
    show Steps p.tables e below (s₁.setTop (mkF m 12 #[.val (.ref a0), .val (.ref aU)] [])) _
    refine XS.aloadN X0.here hx rfl (hb hby d11_12) rfl rfl ?_
    show Steps p.tables e below (s₁.setTop (mkF m 13 #[.val (.ref a0), .val (.ref aU)] [(.ref aU)])) _
    refine XS.aloadN X0.here hx rfl (hb hby d11_13) rfl rfl ?_
    show Steps p.tables e below (s₁.setTop (mkF m 14 #[.val (.ref a0), .val (.ref aU)] [(.ref a0), (.ref aU)])) _
    refine st1.trans ?_
    show Steps p.tables e below (T1.setTop (mkF m 17 #[.val (.ref a0), .val (.ref aU)] [(.int (0 : Int32)), (.ref aU)])) _
    refine XS.aloadN X1.here hx rfl (hb hby d11_17) rfl rfl ?_
    show Steps p.tables e below (T1.setTop (mkF m 18 #[.val (.ref a0), .val (.ref aU)] [(.ref a0), (.int (0 : Int32)), (.ref aU)])) _
    refine st2 _ ?_
    show Steps p.tables e below (T2.setTop (mkF m 21 #[.val (.ref a0), .val (.ref aU)] [(.ref aB), (.int (0 : Int32)), (.ref aU)])) _
    refine st3 _ ?_
    show Steps p.tables e below (T3.setTop (mkF m 24 #[.val (.ref a0), .val (.ref aU)] [(.ref b3_0)])) _
    jvm_step X3.here [X3.here.top, hx, (hb hby d11_24), X3.method', Bd.returns, Value.isRef, FieldType.isReference]
    first | (intro acts; rw [hr _ acts rfl rfl rfl]) | rw [hr _ _ rfl rfl rfl]
    exact Steps.refl _
  · show Q11p Z a0 aU aB kB pv s_COMPACT_STRINGS h0 n0 _ T3.heap _
    exact ⟨b3_0, rfl, N3, sz_b3_0, K3, pf3_0, pf3_1⟩
theorem d9_0 : decode prog_11_method_1_code 0 = .ok (.aload_n 0, 1) := by decide +kernel
theorem d9_1 : decode prog_11_method_1_code 1 = .ok (.invokespecial 1, 3) := by decide +kernel
theorem d9_4 : decode prog_11_method_1_code 4 = .ok (.aload_n 0, 1) := by decide +kernel
theorem d9_5 : decode prog_11_method_1_code 5 = .ok (.aload_n 1, 1) := by decide +kernel
theorem d9_6 : decode prog_11_method_1_code 6 = .ok (.ldc 7, 2) := by decide +kernel
theorem d9_8 : decode prog_11_method_1_code 8 = .ok (.invokestatic 9, 3) := by decide +kernel
theorem pd_5 : parseMethodDescriptor "(Ljava/lang/Object;Ljava/lang/String;)Ljava/lang/Object;" = some ⟨[(.object "java/lang/Object"), (.object "java/lang/String")], some (.object "java/lang/Object")⟩ := by decide +kernel
theorem d9_11 : decode prog_11_method_1_code 11 = .ok (.checkcast 15, 3) := by decide +kernel
theorem d9_14 : decode prog_11_method_1_code 14 = .ok (.putfield 17, 3) := by decide +kernel
theorem d9_17 : decode prog_11_method_1_code 17 = .ok (.aload_n 0, 1) := by decide +kernel
theorem d9_18 : decode prog_11_method_1_code 18 = .ok (.aload_n 1, 1) := by decide +kernel
theorem d9_19 : decode prog_11_method_1_code 19 = .ok (.getstatic 22, 3) := by decide +kernel
theorem d9_22 : decode prog_11_method_1_code 22 = .ok (.invokevirtual 28, 3) := by decide +kernel
theorem pd_6 : parseMethodDescriptor "(Ljava/nio/charset/Charset;)[B" = some ⟨[(.object "java/nio/charset/Charset")], some (.array .byte)⟩ := by decide +kernel
theorem d9_25 : decode prog_11_method_1_code 25 = .ok (.putfield 32, 3) := by decide +kernel
theorem d9_28 : decode prog_11_method_1_code 28 = .ok (.return_, 1) := by decide +kernel
theorem pn_com_example_fireweed_fireweed_layout_Salt : plainName "com/example/fireweed/fireweed/layout/Salt" = true := by first | (simp [plainName, overriddenIn]; done) | decide +kernel
theorem ef_rm9p (m : MethodId) (a0 : Addr) (a1 : Addr) : entryFrame m #[(.ref a0), (.ref a1)] 2 = mkF m 0 #[.val (.ref a0), .val (.ref a1)] [] := by first | (simp [entryFrame, mkF, argsToLocals, Value.category]; done) | rfl
def Q9p (Z : State) (a0 : Addr) (a1 : Addr) (aB : Addr) (kB : ClassId) (pv : Int32) (aU : Addr) (s_COMPACT_STRINGS : Int32) (h0 : Heap) (n0 : Nat) (v : Option Value) (h : Heap) (L : List Loc) : Prop := ∃ r0 : Addr, v = none ∧ Fr n0 L ∧ h0.size ≤ r0 ∧ Keep h0 h [a0] ∧ Exa Z h a0 "com/example/fireweed/fireweed/layout/Java31ByteSalt" ∧ Fld Z h a0 "com/example/fireweed/fireweed/layout/Salt" "suffix" "Ljava/lang/String;" (.ref a1) ∧ Fld Z h a0 "com/example/fireweed/fireweed/layout/Salt" "suffixBytes" "[B" (.ref r0) ∧ Fld Z h a0 "com/example/fireweed/fireweed/layout/Java31ByteSalt" "buckets" "I" (.int (0 : Int32)) ∧ Fld Z h a0 "com/example/fireweed/fireweed/layout/Java31ByteSalt" "mask" "I" (.int (0 : Int32)) ∧ Fld Z h a0 "com/example/fireweed/fireweed/layout/Java31ByteSalt" "overflow" "I" (.int (0 : Int32)) ∧ Exa Z h r0 "[B" ∧ Arv Z h r0 kB .byte (1 : Int32) [(.int pv)] (.int (0 : Int32))
set_option maxRecDepth 65536 in
set_option maxHeartbeats 40000000 in
theorem rm9p (l : Launch) (Z : State) (az : Array Value) (hw : ∀ d ∈ tables_1, d.before az Z = true) (ws : List Jvm.Cond) (a0 : Addr) (a1 : Addr) (aB : Addr) (kB : ClassId) (pv : Int32) (aU : Addr) (s_COMPACT_STRINGS : Int32) (h0 : Heap) (n0 : Nat) (Z0 : n0 ≤ h0.size) (E_a0 : Exa Z h0 a0 "com/example/fireweed/fireweed/layout/Java31ByteSalt") (F_suffix_a0 : Fld Z h0 a0 "com/example/fireweed/fireweed/layout/Salt" "suffix" "Ljava/lang/String;" .null) (F_suffixBytes_a0 : Fld Z h0 a0 "com/example/fireweed/fireweed/layout/Salt" "suffixBytes" "[B" .null) (F_buckets_a0 : Fld Z h0 a0 "com/example/fireweed/fireweed/layout/Java31ByteSalt" "buckets" "I" (.int (0 : Int32))) (F_mask_a0 : Fld Z h0 a0 "com/example/fireweed/fireweed/layout/Java31ByteSalt" "mask" "I" (.int (0 : Int32))) (F_overflow_a0 : Fld Z h0 a0 "com/example/fireweed/fireweed/layout/Java31ByteSalt" "overflow" "I" (.int (0 : Int32))) (E_a1 : Exa Z h0 a1 "java/lang/String") (F_coder_a1 : Fld Z h0 a1 "java/lang/String" "coder" "B" (.int (0 : Int32))) (F_value_a1 : Fld Z h0 a1 "java/lang/String" "value" "[B" (.ref aB)) (V_aB : Arv Z h0 aB kB .byte (1 : Int32) [(.int pv)] (.int (0 : Int32))) (E_aB : Exa Z h0 aB "[B") (S_INSTANCE : Sta Z h0 "sun/nio/cs/UTF_8" "INSTANCE" "Lsun/nio/cs/UTF_8;" (.ref aU)) (S_UTF_8 : Sta Z h0 "java/nio/charset/StandardCharsets" "UTF_8" "Ljava/nio/charset/Charset;" (.ref aU)) (hc13 : ¬ (pv < (0 : Int32))) (g_a0 : n0 ≤ a0) (S_COMPACT_STRINGS : Sta Z h0 "java/lang/String" "COMPACT_STRINGS" "Z" (.int s_COMPACT_STRINGS)) (hne_a1_a0 : a1 ≠ a0) (hne_aB_a0 : aB ≠ a0) (hc18 : ¬ (s_COMPACT_STRINGS = (0 : Int32))) :
    MetFree l (⟨"com/example/fireweed/fireweed/layout/Salt", "<init>", "(Ljava/lang/String;)V"⟩ : MethodName) (head1 (Jvm.Cond.code (⟨"com/example/fireweed/fireweed/layout/Salt", "<init>", "(Ljava/lang/String;)V"⟩ : MethodName) prog_11_method_1_code 2 none :: ws) ({ frames := 5, cells := 3, slots := 29, locals := 78 } : Room)) (fun a U => a = #[(.ref a0), (.ref a1)] ∧ Z.Warmed39 U.vm ∧ U.heap = h0) (fun _ _ _ _ _ => True) (fun _ U o U' => ∃ v L, o = .returned v ∧ Q9p Z a0 a1 aB kB pv aU s_COMPACT_STRINGS h0 n0 v U'.heap L ∧ ReturnedEndW U o U' L ({ frames := 5, cells := 3, slots := 29, locals := 78 } : Room).cells ({ frames := 5, cells := 3, slots := 29, locals := 78 } : Room).slots) := by
  refine MetFree.of_bodySF (plainFor_of_name pn_com_example_fireweed_fireweed_layout_Salt) hisR ?_
  intro p e s m args below meth c s₁ Bd hml0 hP hK
  obtain ⟨rfl, hZ, hh⟩ := hP
  have hx := Bd.exec
  have hby := Bd.bytes
  have hml : c.maxLocals = 2 := hml0
  have hown : s.vm.findClass "com/example/fireweed/fireweed/layout/Salt" = some m.cls := findClass_of_methodNamed Bd.named
  have hnm := (name_of_methodNamed Bd.named Bd.method).1
  have X0 : Stand p l e ({ frames := 5, cells := 3, slots := 29, locals := 78 } : Room) s m #[(.ref a0), (.ref a1)] below meth c s₁ [] 0 0 := Stand.of_body Bd
  have e0 : s₁.heap = h0 := by rw [← hh, Bd.state]; rfl
  have N0 := Fr.nil n0
  have pre0 : ∀ t, Steps p.tables e below (s₁.setTop (mkF m 0 #[.val (.ref a0), .val (.ref a1)] [])) t → Steps p.tables e below (s₁.setTop (entryFrame m #[(.ref a0), (.ref a1)] 2)) t := fun t k => castTop (ef_rm9p m a0 a1) k
  have hS0 : s.Since s.vm 0 := (State.WarmedH.refl s).since 0
  have wS : ∀ a ∈ Bundle.stringAtoms, a.before az Z = true := fun d hd => by
    simp only [Bundle.stringAtoms, List.mem_cons, List.not_mem_nil, or_false] at hd
    rcases hd with rfl | rfl | rfl | rfl | rfl | rfl | rfl
    · exact (hw _ (List.mem_of_getElem? (i := 7) rfl))
    · exact (hw _ (List.mem_of_getElem? (i := 6) rfl))
    · exact (hw _ (List.mem_of_getElem? (i := 23) rfl))
    · exact (hw _ (List.mem_of_getElem? (i := 33) rfl))
    · exact (hw _ (List.mem_of_getElem? (i := 31) rfl))
    · exact (hw _ (List.mem_of_getElem? (i := 49) rfl))
    · exact (hw _ (List.mem_of_getElem? (i := 50) rfl))
  obtain ⟨T1, X1, e1, st1⟩ := initO X0 hx hZ hown (hw _ (List.mem_of_getElem? (i := 47) rfl)) (hw _ (List.mem_of_getElem? (i := 16) rfl)) (hw _ (List.mem_of_getElem? (i := 17) rfl)) e0 (g := (mkF m 1 #[.val (.ref a0), .val (.ref a1)] [(.ref a0)])) rfl (by rw [hml]; rfl) rfl (hb hby d9_1) (by decide) (W := 0) (by show 2 * 0 + _ ≤ _; exact Nat.le_of_eq rfl) (by decide)
  obtain ⟨l2, T2, h2, kk2, X2, e2, E2, hS2, hk2, hZ2, hown2, st2⟩ := ldcS (s := s) (vm0 := s.vm) X1 hx hZ hown (hw _ (List.mem_of_getElem? (i := 48) rfl)) wS e1 hS0 (Nat.zero_le _) (g := (mkF m 6 #[.val (.ref a0), .val (.ref a1)] [(.ref a1), (.ref a0)])) rfl (hb hby d9_6) (n := 24) (by decide) (by decide) (by decide) (by decide)
  have Z2 : n0 ≤ h2.size := Nat.le_trans Z0 E2.1
  have K2 : Keep h0 h2 [a0] := (Keep.refl h0 [a0]).ext E2
  obtain ⟨_, _, ⟨T3, L3, k3', n3'⟩, -, X3, ⟨Lc3, hQ3, l3, y3, z3⟩, st3⟩ := Jvm.LawKit.callS X2 hx (y := (⟨"java/util/Objects", "requireNonNull", "(Ljava/lang/Object;Ljava/lang/String;)Ljava/lang/Object;"⟩ : MethodName)) hown2 (mvT hZ2 (hw _ (List.mem_of_getElem? (i := 51) rfl))) (mvT hZ2 (hw _ (List.mem_of_getElem? (i := 52) rfl))) (mvT hZ2 (hw _ (List.mem_of_getElem? (i := 53) rfl))) (mvT hZ2 (hw _ (List.mem_of_getElem? (i := 54) rfl))) (by decide) (backOf (W := 1) (rm10 l Z az hw [] a1 l2 h2 n0 Z2) hZ2 (hw _ (List.mem_of_getElem? (i := 54) rfl)) (hw _ (List.mem_of_getElem? (i := 53) rfl)) (by decide) (by decide)) (g := (mkF m 8 #[.val (.ref a0), .val (.ref a1)] [(.ref l2), (.ref a1), (.ref a0)])) rfl (by rw [hml]; rfl) (argsL := [(.ref a1), (.ref l2)]) (rest := [(.ref a0)]) (lenOf pd_5 rfl) rfl (by show 2 * 0 + _ ≤ _; exact Nat.le_of_eq rfl) (hb hby d9_8) (fun _ _ => ⟨rfl, e2, (by decide : 2 + 0 ≤ _), (by decide : 28 + 0 ≤ _)⟩)
  dsimp only [Pt.U, Pt.locs, Pt.cells, Pt.slots] at X3 l3 y3 z3 st3 hQ3
  subst l3 y3 z3
  obtain ⟨rfl, N3q, e3⟩ := hQ3
  have N3 := Fr.app N0 N3q
  have E_a1_u4 : Exa Z h2 a1 "java/lang/String" := (E_a1.ext E2)
  obtain ⟨T5, X5, e5, st5⟩ := castY X3 hx hZ2 hown2 (hw _ (List.mem_of_getElem? (i := 55) rfl)) e3 (Ins.self E_a1_u4) (g := (mkF m 11 #[.val (.ref a0), .val (.ref a1)] [(.ref a1), (.ref a0)])) rfl rfl (hb hby d9_11)
  have F_a0_suffix_u6 : Fld Z h2 a0 "com/example/fireweed/fireweed/layout/Salt" "suffix" "Ljava/lang/String;" .null := (F_suffix_a0.ext E2)
  have E_a0_u7 : Exa Z h2 a0 "com/example/fireweed/fireweed/layout/Java31ByteSalt" := (E_a0.ext E2)
  obtain ⟨T8, h8, X8, e8, W8, st8⟩ := putF X5 hx hZ2 hown2 (host := "") (Or.inl (hw _ (List.mem_of_getElem? (i := 56) rfl))) Via.refl e5 F_a0_suffix_u6 E_a0_u7 (Or.inr ⟨(hw _ (List.mem_of_getElem? (i := 57) rfl)), rfl, hnm⟩) (hw _ (List.mem_of_getElem? (i := 3) rfl)) (ty := (.object "java/lang/String")) (by decide) rfl rfl (g := (mkF m 14 #[.val (.ref a0), .val (.ref a1)] [(.ref a1), (.ref a0)])) rfl rfl (hb hby d9_14)
  have K8 : Keep h0 h8 [a0] := K2.wr W8 (Or.inl (List.mem_of_getElem? (i := 0) rfl))
  have Fw8 := F_a0_suffix_u6.same W8
  have Z8 : n0 ≤ h8.size := Nat.le_trans Z2 (Keep.of_wr W8).1
  have N8 := Fr.snoc X8 N3 g_a0
  have S_StandardCharsets_UTF_8_u9 : Sta Z h8 "java/nio/charset/StandardCharsets" "UTF_8" "Ljava/nio/charset/Charset;" (.ref aU) := ((S_UTF_8.ext E2).wr W8)
  obtain ⟨T10, X10, e10, st10⟩ := getS2 X8 hx hZ2 hown2 (host := "") (Or.inl (hw _ (List.mem_of_getElem? (i := 58) rfl))) Via.refl e8 S_StandardCharsets_UTF_8_u9 (g := (mkF m 19 #[.val (.ref a0), .val (.ref a1)] [(.ref a1), (.ref a0)])) rfl (hb hby d9_19)
  have E_a1_u12 : Exa Z h8 a1 "java/lang/String" := (E_a1_u4.wr W8)
  have F_a1_coder_u13 : Fld Z h8 a1 "java/lang/String" "coder" "B" (.int (0 : Int32)) := ((F_coder_a1.ext E2).other W8 (Or.inl hne_a1_a0))
  have F_a1_value_u14 : Fld Z h8 a1 "java/lang/String" "value" "[B" (.ref aB) := ((F_value_a1.ext E2).other W8 (Or.inl hne_a1_a0))
  have V_aB_u15 : Arv Z h8 aB kB .byte (1 : Int32) [(.int pv)] (.int (0 : Int32)) := ((V_aB.ext E2).other W8 hne_aB_a0)
  have E_aB_u16 : Exa Z h8 aB "[B" := ((E_aB.ext E2).wr W8)
  have S_UTF_8_INSTANCE_u17 : Sta Z h8 "sun/nio/cs/UTF_8" "INSTANCE" "Lsun/nio/cs/UTF_8;" (.ref aU) := ((S_INSTANCE.ext E2).wr W8)
  have S_String_COMPACT_STRINGS_u18 : Sta Z h8 "java/lang/String" "COMPACT_STRINGS" "Z" (.int s_COMPACT_STRINGS) := ((S_COMPACT_STRINGS.ext E2).wr W8)
  obtain ⟨cq11, kq11, q11a, q11b, q11c⟩ := isOf hZ2 e10 E_a1_u12
  obtain ⟨_, _, ⟨T11, L11, k11', n11'⟩, -, X11, ⟨Lc11, hQ11, l11, y11, z11⟩, st11⟩ := X10.virtualBack hx (y := (⟨"java/lang/String", "getBytes", "(Ljava/nio/charset/Charset;)[B"⟩ : MethodName)) (z := (⟨"java/lang/String", "getBytes", "(Ljava/nio/charset/Charset;)[B"⟩ : MethodName)) hown2 (mvT hZ2 (hw _ (List.mem_of_getElem? (i := 60) rfl))) (mvT hZ2 (hw _ (List.mem_of_getElem? (i := 61) rfl))) (notFace_of_selects (args := #[]) (mvT hZ2 (hw _ (List.mem_of_getElem? (i := 63) rfl)))) (mvT hZ2 (hw _ (List.mem_of_getElem? (i := 63) rfl))) (mvT hZ2 (hw _ (List.mem_of_getElem? (i := 62) rfl))) (by decide) (backOf (W := 1) (rm11p l Z az hw [] a1 aU aB kB pv s_COMPACT_STRINGS h8 n0 Z8 E_a1_u12 F_a1_coder_u13 F_a1_value_u14 V_aB_u15 E_aB_u16 S_UTF_8_INSTANCE_u17 hc13 S_String_COMPACT_STRINGS_u18 hc18) hZ2 (hw _ (List.mem_of_getElem? (i := 64) rfl)) (hw _ (List.mem_of_getElem? (i := 7) rfl)) (by decide) (by decide)) q11a q11c (g := (mkF m 22 #[.val (.ref a0), .val (.ref a1)] [(.ref aU), (.ref a1), (.ref a0)])) rfl (by rw [hml]; rfl) (Steps.refl _) (argsL := [(.ref aU)]) (rest := [(.ref a0)]) (lenOf pd_6 rfl) rfl (by show 2 * 0 + _ ≤ _; exact Nat.le_of_eq rfl) (hb hby d9_22) (fun _ _ => ⟨rfl, e10, (by decide : 2 + 1 ≤ _), (by decide : 28 + 1 ≤ _)⟩)
  dsimp only [Pt.U, Pt.locs, Pt.cells, Pt.slots] at X11 l11 y11 z11 st11 hQ11
  subst l11 y11 z11
  obtain ⟨b11_0, rfl, N11q, s11_0, kq11, pf11_0, pf11_1⟩ := hQ11
  have N11 := Fr.app N8 N11q
  have g_b11_0 : n0 ≤ b11_0 := Nat.le_trans Z8 s11_0
  have sz_b11_0 : h0.size ≤ b11_0 := Nat.le_trans K8.1 s11_0
  have K11 : Keep h0 T11.heap [a0] := K8.trans kq11 all0
  have Z11 : n0 ≤ T11.heap.size := Nat.le_trans Z8 kq11.1
  have F_a0_suffixBytes_u19 : Fld Z T11.heap a0 "com/example/fireweed/fireweed/layout/Salt" "suffixBytes" "[B" .null := (((F_suffixBytes_a0.ext E2).other W8 (Or.inr (slot_ne (Or.inr (hw _ (List.mem_of_getElem? (i := 95) rfl))) (Or.inr (hw _ (List.mem_of_getElem? (i := 57) rfl))) (by decide) (t := (.array .byte)) (t' := (.object "java/lang/String")) (by decide) (by decide)))).keep kq11 nin0)
  have E_a0_u20 : Exa Z T11.heap a0 "com/example/fireweed/fireweed/layout/Java31ByteSalt" := ((E_a0_u7.wr W8).keep kq11)
  obtain ⟨T21, h21, X21, e21, W21, st21⟩ := putF X11 hx hZ2 hown2 (host := "") (Or.inl (hw _ (List.mem_of_getElem? (i := 94) rfl))) Via.refl rfl F_a0_suffixBytes_u19 E_a0_u20 (Or.inr ⟨(hw _ (List.mem_of_getElem? (i := 95) rfl)), rfl, hnm⟩) (hw _ (List.mem_of_getElem? (i := 3) rfl)) (ty := (.array .byte)) (by decide) rfl rfl (g := (mkF m 25 #[.val (.ref a0), .val (.ref a1)] [(.ref b11_0), (.ref a0)])) rfl rfl (hb hby d9_25)
  have K21 : Keep h0 h21 [a0] := K11.wr W21 (Or.inl (List.mem_of_getElem? (i := 0) rfl))
  have Fw21 := F_a0_suffixBytes_u19.same W21
  have Z21 : n0 ≤ h21.size := Nat.le_trans Z11 (Keep.of_wr W21).1
  have N21 := Fr.snoc X21 N11 g_a0
  have E_a0_u22 : Exa Z h21 a0 "com/example/fireweed/fireweed/layout/Java31ByteSalt" := (E_a0_u20.wr W21)
  have F_a0_suffix_u23 : Fld Z h21 a0 "com/example/fireweed/fireweed/layout/Salt" "suffix" "Ljava/lang/String;" (.ref a1) := ((Fw8.keep kq11 nin0).other W21 (Or.inr (slot_ne (Or.inr (hw _ (List.mem_of_getElem? (i := 57) rfl))) (Or.inr (hw _ (List.mem_of_getElem? (i := 95) rfl))) (by decide) (t := (.object "java/lang/String")) (t' := (.array .byte)) (by decide) (by decide))))
  have F_a0_buckets_u24 : Fld Z h21 a0 "com/example/fireweed/fireweed/layout/Java31ByteSalt" "buckets" "I" (.int (0 : Int32)) := ((((F_buckets_a0.ext E2).other W8 (Or.inr (slot_ne (Or.inr (hw _ (List.mem_of_getElem? (i := 97) rfl))) (Or.inr (hw _ (List.mem_of_getElem? (i := 57) rfl))) (by decide) (t := .int) (t' := (.object "java/lang/String")) (by decide) (by decide)))).keep kq11 nin0).other W21 (Or.inr (slot_ne (Or.inr (hw _ (List.mem_of_getElem? (i := 97) rfl))) (Or.inr (hw _ (List.mem_of_getElem? (i := 95) rfl))) (by decide) (t := .int) (t' := (.array .byte)) (by decide) (by decide))))
  have F_a0_mask_u25 : Fld Z h21 a0 "com/example/fireweed/fireweed/layout/Java31ByteSalt" "mask" "I" (.int (0 : Int32)) := ((((F_mask_a0.ext E2).other W8 (Or.inr (slot_ne (Or.inr (hw _ (List.mem_of_getElem? (i := 106) rfl))) (Or.inr (hw _ (List.mem_of_getElem? (i := 57) rfl))) (by decide) (t := .int) (t' := (.object "java/lang/String")) (by decide) (by decide)))).keep kq11 nin0).other W21 (Or.inr (slot_ne (Or.inr (hw _ (List.mem_of_getElem? (i := 106) rfl))) (Or.inr (hw _ (List.mem_of_getElem? (i := 95) rfl))) (by decide) (t := .int) (t' := (.array .byte)) (by decide) (by decide))))
  have F_a0_overflow_u26 : Fld Z h21 a0 "com/example/fireweed/fireweed/layout/Java31ByteSalt" "overflow" "I" (.int (0 : Int32)) := ((((F_overflow_a0.ext E2).other W8 (Or.inr (slot_ne (Or.inr (hw _ (List.mem_of_getElem? (i := 121) rfl))) (Or.inr (hw _ (List.mem_of_getElem? (i := 57) rfl))) (by decide) (t := .int) (t' := (.object "java/lang/String")) (by decide) (by decide)))).keep kq11 nin0).other W21 (Or.inr (slot_ne (Or.inr (hw _ (List.mem_of_getElem? (i := 121) rfl))) (Or.inr (hw _ (List.mem_of_getElem? (i := 95) rfl))) (by decide) (t := .int) (t' := (.array .byte)) (by decide) (by decide))))
  have E_b11_0_u27 : Exa Z h21 b11_0 "[B" := (pf11_0.wr W21)
  have ne_a0_b11_0 : a0 ≠ b11_0 := own_ne (Nat.lt_of_lt_of_le (E_a0_u7.wr W8).lt s11_0)
  have V_b11_0_u28 : Arv Z h21 b11_0 kB .byte (1 : Int32) [(.int pv)] (.int (0 : Int32)) := (pf11_1.other W21 (Ne.symm ne_a0_b11_0))
  obtain ⟨fs, hr, hrun, hended, hWE⟩ := X21.leaveW (s := s) hS2 (by rw [e21]; exact (Nat.le_trans (Nat.le_trans (Nat.le_trans hk2 (Keep.of_wr W8).1) kq11.1) (Keep.of_wr W21).1)) (v := none) (fun _ => rfl)
  refine ⟨_, _, pre0 _ ?_, hrun, hended, _, _, rfl, ?_, hWE.1, hWE.2.1, hWE.2.2.1, hWE.2.2.2.mono (by decide) (by decide)⟩
  · show Steps p.tables e below (s₁.setTop (mkF m 0 #[.val (.ref a0), .val (.ref a1)] [])) _
    refine XS.aloadN X0.here hx rfl (hb hby d9_0) rfl rfl ?_
    show Steps p.tables e below (s₁.setTop (mkF m 1 #[.val (.ref a0), .val (.ref a1)] [(.ref a0)])) _
    refine st1 _ ?_
    show Steps p.tables e below (T1.setTop (mkF m 4 #[.val (.ref a0), .val (.ref a1)] [])) _
    refine XS.aloadN X1.here hx rfl (hb hby d9_4) rfl rfl ?_
    show Steps p.tables e below (T1.setTop (mkF m 5 #[.val (.ref a0), .val (.ref a1)] [(.ref a0)])) _
    refine XS.aloadN X1.here hx rfl (hb hby d9_5) rfl rfl ?_
    show Steps p.tables e below (T1.setTop (mkF m 6 #[.val (.ref a0), .val (.ref a1)] [(.ref a1), (.ref a0)])) _
    refine st2 _ ?_
    show Steps p.tables e below (T2.setTop (mkF m 8 #[.val (.ref a0), .val (.ref a1)] [(.ref l2), (.ref a1), (.ref a0)])) _
    refine st3 _ ?_
    show Steps p.tables e below (T3.setTop (mkF m 11 #[.val (.ref a0), .val (.ref a1)] [(.ref a1), (.ref a0)])) _
    refine st5 _ ?_
    show Steps p.tables e below (T5.setTop (mkF m 14 #[.val (.ref a0), .val (.ref a1)] [(.ref a1), (.ref a0)])) _
    refine st8 _ ?_
    show Steps p.tables e below (T8.setTop (mkF m 17 #[.val (.ref a0), .val (.ref a1)] [])) _
    refine XS.aloadN X8.here hx rfl (hb hby d9_17) rfl rfl ?_
    show Steps p.tables e below (T8.setTop (mkF m 18 #[.val (.ref a0), .val (.ref a1)] [(.ref a0)])) _
    refine XS.aloadN X8.here hx rfl (hb hby d9_18) rfl rfl ?_
    show Steps p.tables e below (T8.setTop (mkF m 19 #[.val (.ref a0), .val (.ref a1)] [(.ref a1), (.ref a0)])) _
    refine st10 _ ?_
    show Steps p.tables e below (T10.setTop (mkF m 22 #[.val (.ref a0), .val (.ref a1)] [(.ref aU), (.ref a1), (.ref a0)])) _
    refine st11.trans ?_
    show Steps p.tables e below (T11.setTop (mkF m 25 #[.val (.ref a0), .val (.ref a1)] [(.ref b11_0), (.ref a0)])) _
    refine st21 _ ?_
    show Steps p.tables e below (T21.setTop (mkF m 28 #[.val (.ref a0), .val (.ref a1)] [])) _
    exact X21.returnOut hx Bd.returns (hb hby d9_28) hr
  · show Q9p Z a0 a1 aB kB pv aU s_COMPACT_STRINGS h0 n0 _ T21.heap _
    rw [e21]
    exact ⟨b11_0, rfl, N21, sz_b11_0, K21, E_a0_u22, F_a0_suffix_u23, Fw21, F_a0_buckets_u24, F_a0_mask_u25, F_a0_overflow_u26, E_b11_0_u27, V_b11_0_u28⟩
theorem d8_0 : decode prog_5_method_1_code 0 = .ok (.aload_n 0, 1) := by decide +kernel
theorem d8_1 : decode prog_5_method_1_code 1 = .ok (.aload_n 1, 1) := by decide +kernel
theorem d8_2 : decode prog_5_method_1_code 2 = .ok (.invokespecial 1, 3) := by decide +kernel
theorem pd_7 : parseMethodDescriptor "(Ljava/lang/String;)V" = some ⟨[(.object "java/lang/String")], none⟩ := by decide +kernel
theorem d8_5 : decode prog_5_method_1_code 5 = .ok (.return_, 1) := by decide +kernel
theorem pn_com_example_fireweed_fireweed_layout_BucketSalt : plainName "com/example/fireweed/fireweed/layout/BucketSalt" = true := by first | (simp [plainName, overriddenIn]; done) | decide +kernel
theorem ef_rm8p (m : MethodId) (a0 : Addr) (a1 : Addr) : entryFrame m #[(.ref a0), (.ref a1)] 2 = mkF m 0 #[.val (.ref a0), .val (.ref a1)] [] := by first | (simp [entryFrame, mkF, argsToLocals, Value.category]; done) | rfl
def Q8p (Z : State) (a0 : Addr) (a1 : Addr) (aB : Addr) (kB : ClassId) (pv : Int32) (aU : Addr) (s_COMPACT_STRINGS : Int32) (h0 : Heap) (n0 : Nat) (v : Option Value) (h : Heap) (L : List Loc) : Prop := ∃ r0 : Addr, v = none ∧ Fr n0 L ∧ h0.size ≤ r0 ∧ Keep h0 h [a0] ∧ Exa Z h a0 "com/example/fireweed/fireweed/layout/Java31ByteSalt" ∧ Fld Z h a0 "com/example/fireweed/fireweed/layout/Salt" "suffix" "Ljava/lang/String;" (.ref a1) ∧ Fld Z h a0 "com/example/fireweed/fireweed/layout/Salt" "suffixBytes" "[B" (.ref r0) ∧ Fld Z h a0 "com/example/fireweed/fireweed/layout/Java31ByteSalt" "buckets" "I" (.int (0 : Int32)) ∧ Fld Z h a0 "com/example/fireweed/fireweed/layout/Java31ByteSalt" "mask" "I" (.int (0 : Int32)) ∧ Fld Z h a0 "com/example/fireweed/fireweed/layout/Java31ByteSalt" "overflow" "I" (.int (0 : Int32)) ∧ Exa Z h r0 "[B" ∧ Arv Z h r0 kB .byte (1 : Int32) [(.int pv)] (.int (0 : Int32))
set_option maxRecDepth 65536 in
set_option maxHeartbeats 40000000 in
theorem rm8p (l : Launch) (Z : State) (az : Array Value) (hw : ∀ d ∈ tables_1, d.before az Z = true) (ws : List Jvm.Cond) (a0 : Addr) (a1 : Addr) (aB : Addr) (kB : ClassId) (pv : Int32) (aU : Addr) (s_COMPACT_STRINGS : Int32) (h0 : Heap) (n0 : Nat) (Z0 : n0 ≤ h0.size) (E_a0 : Exa Z h0 a0 "com/example/fireweed/fireweed/layout/Java31ByteSalt") (F_suffix_a0 : Fld Z h0 a0 "com/example/fireweed/fireweed/layout/Salt" "suffix" "Ljava/lang/String;" .null) (F_suffixBytes_a0 : Fld Z h0 a0 "com/example/fireweed/fireweed/layout/Salt" "suffixBytes" "[B" .null) (F_buckets_a0 : Fld Z h0 a0 "com/example/fireweed/fireweed/layout/Java31ByteSalt" "buckets" "I" (.int (0 : Int32))) (F_mask_a0 : Fld Z h0 a0 "com/example/fireweed/fireweed/layout/Java31ByteSalt" "mask" "I" (.int (0 : Int32))) (F_overflow_a0 : Fld Z h0 a0 "com/example/fireweed/fireweed/layout/Java31ByteSalt" "overflow" "I" (.int (0 : Int32))) (E_a1 : Exa Z h0 a1 "java/lang/String") (F_coder_a1 : Fld Z h0 a1 "java/lang/String" "coder" "B" (.int (0 : Int32))) (F_value_a1 : Fld Z h0 a1 "java/lang/String" "value" "[B" (.ref aB)) (V_aB : Arv Z h0 aB kB .byte (1 : Int32) [(.int pv)] (.int (0 : Int32))) (E_aB : Exa Z h0 aB "[B") (S_INSTANCE : Sta Z h0 "sun/nio/cs/UTF_8" "INSTANCE" "Lsun/nio/cs/UTF_8;" (.ref aU)) (S_UTF_8 : Sta Z h0 "java/nio/charset/StandardCharsets" "UTF_8" "Ljava/nio/charset/Charset;" (.ref aU)) (hc13 : ¬ (pv < (0 : Int32))) (S_COMPACT_STRINGS : Sta Z h0 "java/lang/String" "COMPACT_STRINGS" "Z" (.int s_COMPACT_STRINGS)) (g_a0 : n0 ≤ a0) (hne_a1_a0 : a1 ≠ a0) (hne_aB_a0 : aB ≠ a0) (hc18 : ¬ (s_COMPACT_STRINGS = (0 : Int32))) :
    MetFree l (⟨"com/example/fireweed/fireweed/layout/BucketSalt", "<init>", "(Ljava/lang/String;)V"⟩ : MethodName) (head1 (Jvm.Cond.code (⟨"com/example/fireweed/fireweed/layout/BucketSalt", "<init>", "(Ljava/lang/String;)V"⟩ : MethodName) prog_5_method_1_code 2 none :: ws) ({ frames := 6, cells := 3, slots := 29, locals := 91 } : Room)) (fun a U => a = #[(.ref a0), (.ref a1)] ∧ Z.Warmed39 U.vm ∧ U.heap = h0) (fun _ _ _ _ _ => True) (fun _ U o U' => ∃ v L, o = .returned v ∧ Q8p Z a0 a1 aB kB pv aU s_COMPACT_STRINGS h0 n0 v U'.heap L ∧ ReturnedEndW U o U' L ({ frames := 6, cells := 3, slots := 29, locals := 91 } : Room).cells ({ frames := 6, cells := 3, slots := 29, locals := 91 } : Room).slots) := by
  refine MetFree.of_bodySF (plainFor_of_name pn_com_example_fireweed_fireweed_layout_BucketSalt) hisR ?_
  intro p e s m args below meth c s₁ Bd hml0 hP hK
  obtain ⟨rfl, hZ, hh⟩ := hP
  have hx := Bd.exec
  have hby := Bd.bytes
  have hml : c.maxLocals = 2 := hml0
  have hown : s.vm.findClass "com/example/fireweed/fireweed/layout/BucketSalt" = some m.cls := findClass_of_methodNamed Bd.named
  have hnm := (name_of_methodNamed Bd.named Bd.method).1
  have X0 : Stand p l e ({ frames := 6, cells := 3, slots := 29, locals := 91 } : Room) s m #[(.ref a0), (.ref a1)] below meth c s₁ [] 0 0 := Stand.of_body Bd
  have e0 : s₁.heap = h0 := by rw [← hh, Bd.state]; rfl
  have N0 := Fr.nil n0
  have pre0 : ∀ t, Steps p.tables e below (s₁.setTop (mkF m 0 #[.val (.ref a0), .val (.ref a1)] [])) t → Steps p.tables e below (s₁.setTop (entryFrame m #[(.ref a0), (.ref a1)] 2)) t := fun t k => castTop (ef_rm8p m a0 a1) k
  have hS0 : s.Since s.vm 0 := (State.WarmedH.refl s).since 0
  have wS : ∀ a ∈ Bundle.stringAtoms, a.before az Z = true := fun d hd => by
    simp only [Bundle.stringAtoms, List.mem_cons, List.not_mem_nil, or_false] at hd
    rcases hd with rfl | rfl | rfl | rfl | rfl | rfl | rfl
    · exact (hw _ (List.mem_of_getElem? (i := 7) rfl))
    · exact (hw _ (List.mem_of_getElem? (i := 6) rfl))
    · exact (hw _ (List.mem_of_getElem? (i := 23) rfl))
    · exact (hw _ (List.mem_of_getElem? (i := 33) rfl))
    · exact (hw _ (List.mem_of_getElem? (i := 31) rfl))
    · exact (hw _ (List.mem_of_getElem? (i := 49) rfl))
    · exact (hw _ (List.mem_of_getElem? (i := 50) rfl))
  obtain ⟨_, _, ⟨T1, L1, k1', n1'⟩, -, Y1, yS1, yg1, ⟨Lc1, hQ1, l1, y1, z1⟩, st1⟩ := X0.specialBackS hx (y := (⟨"com/example/fireweed/fireweed/layout/Salt", "<init>", "(Ljava/lang/String;)V"⟩ : MethodName)) rfl hown (mvT hZ (hw _ (List.mem_of_getElem? (i := 42) rfl))) (mvT hZ (hw _ (List.mem_of_getElem? (i := 43) rfl))) (mvT hZ (hw _ (List.mem_of_getElem? (i := 46) rfl))) (by decide) (backOfS (W := 0) (rm9p l Z az hw [] a0 a1 aB kB pv aU s_COMPACT_STRINGS h0 n0 Z0 E_a0 F_suffix_a0 F_suffixBytes_a0 F_buckets_a0 F_mask_a0 F_overflow_a0 E_a1 F_coder_a1 F_value_a1 V_aB E_aB S_INSTANCE S_UTF_8 hc13 g_a0 S_COMPACT_STRINGS hne_a1_a0 hne_aB_a0 hc18) hZ (hw _ (List.mem_of_getElem? (i := 46) rfl)) (hw _ (List.mem_of_getElem? (i := 45) rfl)) (by decide) (by decide)) (g := (mkF m 2 #[.val (.ref a0), .val (.ref a1)] [(.ref a1), (.ref a0)])) rfl (by rw [hml]; rfl) (Steps.refl _) (a := a0) (argsL := [(.ref a1)]) (rest := []) (lenOf pd_7 rfl) rfl (by show 2 * 0 + _ ≤ _; exact Nat.le_of_eq rfl) (hb hby d8_2) (fun _ _ => ⟨rfl, e0, (by decide : 0 + 3 ≤ _), (by decide : 0 + 29 ≤ _)⟩)
  dsimp only [Pt.U, Pt.locs, Pt.cells, Pt.slots] at Y1 yS1 yg1 l1 y1 z1 st1 hQ1
  subst l1 y1 z1
  obtain ⟨X1, hS1, hZ1, hown1⟩ := rebS (s := s) (vm0 := s.vm) hS0 (by rw [e0]; exact (Nat.zero_le _)) Y1 yS1 yg1 hZ hown
  obtain ⟨b1_0, rfl, N1q, s1_0, kq1, pf1_0, pf1_1, pf1_2, pf1_3, pf1_4, pf1_5, pf1_6, pf1_7⟩ := hQ1
  have N1 := Fr.app N0 N1q
  have g_b1_0 : n0 ≤ b1_0 := Nat.le_trans Z0 s1_0
  have sz_b1_0 : h0.size ≤ b1_0 := Nat.le_trans (Nat.le_refl _) s1_0
  have K1 : Keep h0 T1.heap [a0] := (Keep.refl h0 [a0]).trans kq1 (allS (Or.inl (List.mem_of_getElem? (i := 0) rfl)) all0)
  have Z1 : n0 ≤ T1.heap.size := Nat.le_trans Z0 kq1.1
  obtain ⟨fs, hr, hrun, hended, hWE⟩ := X1.leaveW (s := s) hS1 (Nat.le_refl _) (v := none) (fun _ => rfl)
  refine ⟨_, _, pre0 _ ?_, hrun, hended, _, _, rfl, ?_, hWE.1, hWE.2.1, hWE.2.2.1, hWE.2.2.2.mono (by decide) (by decide)⟩
  · show Steps p.tables e below (s₁.setTop (mkF m 0 #[.val (.ref a0), .val (.ref a1)] [])) _
    refine XS.aloadN X0.here hx rfl (hb hby d8_0) rfl rfl ?_
    show Steps p.tables e below (s₁.setTop (mkF m 1 #[.val (.ref a0), .val (.ref a1)] [(.ref a0)])) _
    refine XS.aloadN X0.here hx rfl (hb hby d8_1) rfl rfl ?_
    show Steps p.tables e below (s₁.setTop (mkF m 2 #[.val (.ref a0), .val (.ref a1)] [(.ref a1), (.ref a0)])) _
    refine st1.trans ?_
    show Steps p.tables e below (T1.setTop (mkF m 5 #[.val (.ref a0), .val (.ref a1)] [])) _
    exact X1.returnOut hx Bd.returns (hb hby d8_5) hr
  · show Q8p Z a0 a1 aB kB pv aU s_COMPACT_STRINGS h0 n0 _ T1.heap _
    exact ⟨b1_0, rfl, N1, sz_b1_0, K1, pf1_0, pf1_1, pf1_2, pf1_3, pf1_4, pf1_5, pf1_6, pf1_7⟩
theorem d16_20 : decode jdk_123_method_3_code 20 = .ok (.iload 4, 2) := by decide +kernel
theorem d16_22 : decode jdk_123_method_3_code 22 = .ok (.iload_n 1, 1) := by decide +kernel
theorem d16_23 : decode jdk_123_method_3_code 23 = .ok (.isub, 1) := by decide +kernel
theorem d16_24 : decode jdk_123_method_3_code 24 = .ok (.ireturn, 1) := by decide +kernel
theorem ef_rm16n (m : MethodId) (a0 : Addr) : entryFrame m #[(.ref a0), (.int (0 : Int32)), (.int (1 : Int32))] 5 = mkF m 0 #[.val (.ref a0), .val (.int (0 : Int32)), .val (.int (1 : Int32)), .unset, .unset] [] := by first | (simp [entryFrame, mkF, argsToLocals, Value.category]; done) | rfl
def Q16n (Z : State) (a0 : Addr) (k0 : ClassId) (pv : Int32) (h0 : Heap) (n0 : Nat) (v : Option Value) (h : Heap) (L : List Loc) : Prop := v = some (.int (0 : Int32)) ∧ Fr n0 L ∧ h = h0
set_option maxRecDepth 65536 in
set_option maxHeartbeats 40000000 in
theorem rm16n (l : Launch) (Z : State) (az : Array Value) (hw : ∀ d ∈ tables_1, d.before az Z = true) (ws : List Jvm.Cond) (a0 : Addr) (k0 : ClassId) (pv : Int32) (h0 : Heap) (n0 : Nat) (Z0 : n0 ≤ h0.size) (V_a0 : Arv Z h0 a0 k0 .byte (1 : Int32) [(.int pv)] (.int (0 : Int32))) (hc1 : pv < (0 : Int32)) :
    MetFree l (⟨"java/lang/StringCoding", "countPositives", "([BII)I"⟩ : MethodName) (head1 (Jvm.Cond.code (⟨"java/lang/StringCoding", "countPositives", "([BII)I"⟩ : MethodName) jdk_123_method_3_code 5 (some .int) :: ws) ({ frames := 0, cells := 0, slots := 0, locals := 0 } : Room)) (fun a U => a = #[(.ref a0), (.int (0 : Int32)), (.int (1 : Int32))] ∧ Z.Warmed39 U.vm ∧ U.heap = h0) (fun _ _ _ _ _ => True) (fun _ U o U' => ∃ v L, o = .returned v ∧ Q16n Z a0 k0 pv h0 n0 v U'.heap L ∧ FrameEnd U o U' L ({ frames := 0, cells := 0, slots := 0, locals := 0 } : Room).cells ({ frames := 0, cells := 0, slots := 0, locals := 0 } : Room).slots) := by
  refine MetFree.of_bodySF (plainFor_of_name pn_java_lang_StringCoding) hisR ?_
  intro p e s m args below meth c s₁ Bd hml0 hP hK
  obtain ⟨rfl, hZ, hh⟩ := hP
  have hx := Bd.exec
  have hby := Bd.bytes
  have hml : c.maxLocals = 5 := hml0
  have hown : s.vm.findClass "java/lang/StringCoding" = some m.cls := findClass_of_methodNamed Bd.named
  have hnm := (name_of_methodNamed Bd.named Bd.method).1
  have X0 : Stand p l e ({ frames := 0, cells := 0, slots := 0, locals := 0 } : Room) s m #[(.ref a0), (.int (0 : Int32)), (.int (1 : Int32))] below meth c s₁ [] 0 0 := Stand.of_body Bd
  have e0 : s₁.heap = h0 := by rw [← hh, Bd.state]; rfl
  have N0 := Fr.nil n0
  have pre0 : ∀ t, Steps p.tables e below (s₁.setTop (mkF m 0 #[.val (.ref a0), .val (.int (0 : Int32)), .val (.int (1 : Int32)), .unset, .unset] [])) t → Steps p.tables e below (s₁.setTop (entryFrame m #[(.ref a0), (.int (0 : Int32)), (.int (1 : Int32))] 5)) t := fun t k => castTop (ef_rm16n m a0) k
  obtain ⟨cl1, Ar1, qk1, Sz1, Ng1, Hs1, Gf1⟩ := id V_a0
  have hin2 : ¬ ((0 : Int32) < 0 ∨ cl1.slots.size ≤ ((0 : Int32)).toNatClampNeg) := inb_of Sz1 ⟨by decide, by decide⟩
  have hat3 : cl1.slots[((0 : Int32)).toNatClampNeg]? = some (.int pv) := Hs1.at hin2 rfl
  obtain ⟨fs, hr, hrun, hended, hW, hsame⟩ := X0.leave (v := some (.int (0 : Int32))) (fun h => by rw [Bd.returns] at h; cases h)
  refine ⟨_, _, pre0 _ ?_, hrun, hended, _, _, rfl, ?_, ⟨_, rfl⟩, hW, hsame.mono (by decide) (by decide)⟩
  · show Steps p.tables e below (s₁.setTop (mkF m 0 #[.val (.ref a0), .val (.int (0 : Int32)), .val (.int (1 : Int32)), .unset, .unset] [])) _
    refine XS.iloadN X0.here hx rfl (hb hby d16_0) rfl ?_
    show Steps p.tables e below (s₁.setTop (mkF m 1 #[.val (.ref a0), .val (.int (0 : Int32)), .val (.int (1 : Int32)), .unset, .unset] [(.int (0 : Int32))])) _
    refine XS.iloadN X0.here hx rfl (hb hby d16_1) rfl ?_
    show Steps p.tables e below (s₁.setTop (mkF m 2 #[.val (.ref a0), .val (.int (0 : Int32)), .val (.int (1 : Int32)), .unset, .unset] [(.int (1 : Int32)), (.int (0 : Int32))])) _
    refine XS.iadd X0.here hx rfl (hb hby d16_2) rfl ?_
    show Steps p.tables e below (s₁.setTop (mkF m 3 #[.val (.ref a0), .val (.int (0 : Int32)), .val (.int (1 : Int32)), .unset, .unset] [(.int (1 : Int32))])) _
    refine XS.istoreN X0.here hx rfl (hb hby d16_3) rfl (l' := #[.val (.ref a0), .val (.int (0 : Int32)), .val (.int (1 : Int32)), .val (.int (1 : Int32)), .unset]) rfl ?_
    show Steps p.tables e below (s₁.setTop (mkF m 4 #[.val (.ref a0), .val (.int (0 : Int32)), .val (.int (1 : Int32)), .val (.int (1 : Int32)), .unset] [])) _
    refine XS.iloadN X0.here hx rfl (hb hby d16_4) rfl ?_
    show Steps p.tables e below (s₁.setTop (mkF m 5 #[.val (.ref a0), .val (.int (0 : Int32)), .val (.int (1 : Int32)), .val (.int (1 : Int32)), .unset] [(.int (0 : Int32))])) _
    refine XS.istore X0.here hx rfl (hb hby d16_5) rfl (l' := #[.val (.ref a0), .val (.int (0 : Int32)), .val (.int (1 : Int32)), .val (.int (1 : Int32)), .val (.int (0 : Int32))]) rfl ?_
    show Steps p.tables e below (s₁.setTop (mkF m 7 #[.val (.ref a0), .val (.int (0 : Int32)), .val (.int (1 : Int32)), .val (.int (1 : Int32)), .val (.int (0 : Int32))] [])) _
    refine XS.iload X0.here hx rfl (hb hby d16_7) rfl ?_
    show Steps p.tables e below (s₁.setTop (mkF m 9 #[.val (.ref a0), .val (.int (0 : Int32)), .val (.int (1 : Int32)), .val (.int (1 : Int32)), .val (.int (0 : Int32))] [(.int (0 : Int32))])) _
    refine XS.iloadN X0.here hx rfl (hb hby d16_9) rfl ?_
    show Steps p.tables e below (s₁.setTop (mkF m 10 #[.val (.ref a0), .val (.int (0 : Int32)), .val (.int (1 : Int32)), .val (.int (1 : Int32)), .val (.int (0 : Int32))] [(.int (1 : Int32)), (.int (0 : Int32))])) _
    refine XS.icmpNo X0.here hx rfl (hb hby d16_10) rfl (tlt (by decide : (0 : Int32) < (1 : Int32))).2.1 ?_
    show Steps p.tables e below (s₁.setTop (mkF m 13 #[.val (.ref a0), .val (.int (0 : Int32)), .val (.int (1 : Int32)), .val (.int (1 : Int32)), .val (.int (0 : Int32))] [])) _
    refine XS.aloadN X0.here hx rfl (hb hby d16_13) rfl rfl ?_
    show Steps p.tables e below (s₁.setTop (mkF m 14 #[.val (.ref a0), .val (.int (0 : Int32)), .val (.int (1 : Int32)), .val (.int (1 : Int32)), .val (.int (0 : Int32))] [(.ref a0)])) _
    refine XS.iload X0.here hx rfl (hb hby d16_14) rfl ?_
    show Steps p.tables e below (s₁.setTop (mkF m 16 #[.val (.ref a0), .val (.int (0 : Int32)), .val (.int (1 : Int32)), .val (.int (1 : Int32)), .val (.int (0 : Int32))] [(.int (0 : Int32)), (.ref a0)])) _
    refine X0.baloadBytes hx (j := (0 : Int32)) (v := (.int pv)) (by rw [e0]; exact Ar1.1) (State.isArrayOf_alike hZ.alike Ar1.2.1) Ar1.2.2 hin2 hat3 (g := (mkF m 16 #[.val (.ref a0), .val (.int (0 : Int32)), .val (.int (1 : Int32)), .val (.int (1 : Int32)), .val (.int (0 : Int32))] [(.int (0 : Int32)), (.ref a0)])) rfl rfl (hb hby d16_16) _ ?_
    show Steps p.tables e below (s₁.setTop (mkF m 17 #[.val (.ref a0), .val (.int (0 : Int32)), .val (.int (1 : Int32)), .val (.int (1 : Int32)), .val (.int (0 : Int32))] [(.int pv)])) _
    refine XS.ifNo X0.here hx rfl (hb hby d16_17) rfl ((if0 _ _).trans (tlt hc1).2.1) ?_
    show Steps p.tables e below (s₁.setTop (mkF m 20 #[.val (.ref a0), .val (.int (0 : Int32)), .val (.int (1 : Int32)), .val (.int (1 : Int32)), .val (.int (0 : Int32))] [])) _
    refine XS.iload X0.here hx rfl (hb hby d16_20) rfl ?_
    show Steps p.tables e below (s₁.setTop (mkF m 22 #[.val (.ref a0), .val (.int (0 : Int32)), .val (.int (1 : Int32)), .val (.int (1 : Int32)), .val (.int (0 : Int32))] [(.int (0 : Int32))])) _
    refine XS.iloadN X0.here hx rfl (hb hby d16_22) rfl ?_
    show Steps p.tables e below (s₁.setTop (mkF m 23 #[.val (.ref a0), .val (.int (0 : Int32)), .val (.int (1 : Int32)), .val (.int (1 : Int32)), .val (.int (0 : Int32))] [(.int (0 : Int32)), (.int (0 : Int32))])) _
    refine XS.isub X0.here hx rfl (hb hby d16_23) rfl ?_
    show Steps p.tables e below (s₁.setTop (mkF m 24 #[.val (.ref a0), .val (.int (0 : Int32)), .val (.int (1 : Int32)), .val (.int (1 : Int32)), .val (.int (0 : Int32))] [(.int (0 : Int32))])) _
    exact retI X0 hx Bd.returns (hb hby d16_24) hr
  · show Q16n Z a0 k0 pv h0 n0 _ s₁.heap _
    rw [e0]
    exact ⟨rfl, N0, rfl⟩
theorem d15_10 : decode jdk_123_method_2_code 10 = .ok (.iconst 1, 1) := by decide +kernel
theorem d15_11 : decode jdk_123_method_2_code 11 = .ok (.goto 4, 3) := by decide +kernel
theorem ef_rm15n (m : MethodId) (a0 : Addr) : entryFrame m #[(.ref a0), (.int (0 : Int32)), (.int (1 : Int32))] 3 = mkF m 0 #[.val (.ref a0), .val (.int (0 : Int32)), .val (.int (1 : Int32))] [] := by first | (simp [entryFrame, mkF, argsToLocals, Value.category]; done) | rfl
def Q15n (Z : State) (a0 : Addr) (k0 : ClassId) (pv : Int32) (h0 : Heap) (n0 : Nat) (v : Option Value) (h : Heap) (L : List Loc) : Prop := v = some (.int (1 : Int32)) ∧ Fr n0 L ∧ h = h0
set_option maxRecDepth 65536 in
set_option maxHeartbeats 40000000 in
theorem rm15n (l : Launch) (Z : State) (az : Array Value) (hw : ∀ d ∈ tables_1, d.before az Z = true) (ws : List Jvm.Cond) (a0 : Addr) (k0 : ClassId) (pv : Int32) (h0 : Heap) (n0 : Nat) (Z0 : n0 ≤ h0.size) (V_a0 : Arv Z h0 a0 k0 .byte (1 : Int32) [(.int pv)] (.int (0 : Int32))) (hc1 : pv < (0 : Int32)) :
    MetFree l (⟨"java/lang/StringCoding", "hasNegatives", "([BII)Z"⟩ : MethodName) (head1 (Jvm.Cond.code (⟨"java/lang/StringCoding", "hasNegatives", "([BII)Z"⟩ : MethodName) jdk_123_method_2_code 3 (some .boolean) :: ws) ({ frames := 1, cells := 0, slots := 0, locals := 16 } : Room)) (fun a U => a = #[(.ref a0), (.int (0 : Int32)), (.int (1 : Int32))] ∧ Z.Warmed39 U.vm ∧ U.heap = h0) (fun _ _ _ _ _ => True) (fun _ U o U' => ∃ v L, o = .returned v ∧ Q15n Z a0 k0 pv h0 n0 v U'.heap L ∧ FrameEnd U o U' L ({ frames := 1, cells := 0, slots := 0, locals := 16 } : Room).cells ({ frames := 1, cells := 0, slots := 0, locals := 16 } : Room).slots) := by
  refine MetFree.of_bodySF (plainFor_of_name pn_java_lang_StringCoding) hisR ?_
  intro p e s m args below meth c s₁ Bd hml0 hP hK
  obtain ⟨rfl, hZ, hh⟩ := hP
  have hx := Bd.exec
  have hby := Bd.bytes
  have hml : c.maxLocals = 3 := hml0
  have hown : s.vm.findClass "java/lang/StringCoding" = some m.cls := findClass_of_methodNamed Bd.named
  have hnm := (name_of_methodNamed Bd.named Bd.method).1
  have X0 : Stand p l e ({ frames := 1, cells := 0, slots := 0, locals := 16 } : Room) s m #[(.ref a0), (.int (0 : Int32)), (.int (1 : Int32))] below meth c s₁ [] 0 0 := Stand.of_body Bd
  have e0 : s₁.heap = h0 := by rw [← hh, Bd.state]; rfl
  have N0 := Fr.nil n0
  have pre0 : ∀ t, Steps p.tables e below (s₁.setTop (mkF m 0 #[.val (.ref a0), .val (.int (0 : Int32)), .val (.int (1 : Int32))] [])) t → Steps p.tables e below (s₁.setTop (entryFrame m #[(.ref a0), (.int (0 : Int32)), (.int (1 : Int32))] 3)) t := fun t k => castTop (ef_rm15n m a0) k
  obtain ⟨_, _, ⟨T1, L1, k1', n1'⟩, -, X1, ⟨Lc1, hQ1, l1, y1, z1⟩, st1⟩ := Jvm.LawKit.callS X0 hx (y := (⟨"java/lang/StringCoding", "countPositives", "([BII)I"⟩ : MethodName)) hown (mvT hZ (hw _ (List.mem_of_getElem? (i := 82) rfl))) (mvT hZ (hw _ (List.mem_of_getElem? (i := 83) rfl))) (mvT hZ (hw _ (List.mem_of_getElem? (i := 80) rfl))) (mvT hZ (hw _ (List.mem_of_getElem? (i := 84) rfl))) (by decide) (backOf (W := 0) (rm16n l Z az hw [] a0 k0 pv h0 n0 Z0 V_a0 hc1) hZ (hw _ (List.mem_of_getElem? (i := 84) rfl)) (hw _ (List.mem_of_getElem? (i := 80) rfl)) (by decide) (by decide)) (g := (mkF m 3 #[.val (.ref a0), .val (.int (0 : Int32)), .val (.int (1 : Int32))] [(.int (1 : Int32)), (.int (0 : Int32)), (.ref a0)])) rfl (by rw [hml]; rfl) (argsL := [(.ref a0), (.int (0 : Int32)), (.int (1 : Int32))]) (rest := []) (lenOf pd_0 rfl) rfl (by show 2 * 0 + _ ≤ _; exact Nat.le_of_eq rfl) (hb hby d15_3) (fun _ _ => ⟨rfl, e0, (by decide : 0 + 0 ≤ _), (by decide : 0 + 0 ≤ _)⟩)
  dsimp only [Pt.U, Pt.locs, Pt.cells, Pt.slots] at X1 l1 y1 z1 st1 hQ1
  subst l1 y1 z1
  obtain ⟨rfl, N1q, e1⟩ := hQ1
  have N1 := Fr.app N0 N1q
  obtain ⟨fs, hr, hrun, hended, hW, hsame⟩ := X1.leave (v := some (.int (1 : Int32))) (fun h => by rw [Bd.returns] at h; cases h)
  refine ⟨_, _, pre0 _ ?_, hrun, hended, _, _, rfl, ?_, ⟨_, rfl⟩, hW, hsame.mono (by decide) (by decide)⟩
  · show Steps p.tables e below (s₁.setTop (mkF m 0 #[.val (.ref a0), .val (.int (0 : Int32)), .val (.int (1 : Int32))] [])) _
    refine XS.aloadN X0.here hx rfl (hb hby d15_0) rfl rfl ?_
    show Steps p.tables e below (s₁.setTop (mkF m 1 #[.val (.ref a0), .val (.int (0 : Int32)), .val (.int (1 : Int32))] [(.ref a0)])) _
    refine XS.iloadN X0.here hx rfl (hb hby d15_1) rfl ?_
    show Steps p.tables e below (s₁.setTop (mkF m 2 #[.val (.ref a0), .val (.int (0 : Int32)), .val (.int (1 : Int32))] [(.int (0 : Int32)), (.ref a0)])) _
    refine XS.iloadN X0.here hx rfl (hb hby d15_2) rfl ?_
    show Steps p.tables e below (s₁.setTop (mkF m 3 #[.val (.ref a0), .val (.int (0 : Int32)), .val (.int (1 : Int32))] [(.int (1 : Int32)), (.int (0 : Int32)), (.ref a0)])) _
    refine st1 _ ?_
    show Steps p.tables e below (T1.setTop (mkF m 6 #[.val (.ref a0), .val (.int (0 : Int32)), .val (.int (1 : Int32))] [(.int (0 : Int32))])) _
    refine XS.iloadN X1.here hx rfl (hb hby d15_6) rfl ?_
    show Steps p.tables e below (T1.setTop (mkF m 7 #[.val (.ref a0), .val (.int (0 : Int32)), .val (.int (1 : Int32))] [(.int (1 : Int32)), (.int (0 : Int32))])) _
    refine XS.icmpNo X1.here hx rfl (hb hby d15_7) rfl (feq (by decide : ¬ ((0 : Int32) = (1 : Int32)))).1 ?_
    show Steps p.tables e below (T1.setTop (mkF m 10 #[.val (.ref a0), .val (.int (0 : Int32)), .val (.int (1 : Int32))] [])) _
    refine XS.iconst X1.here hx rfl (hb hby d15_10) ?_
    show Steps p.tables e below (T1.setTop (mkF m 11 #[.val (.ref a0), .val (.int (0 : Int32)), .val (.int (1 : Int32))] [(.int (1 : Int32))])) _
    refine XS.goto X1.here hx rfl (pc0 := 11) (pc' := 15) rfl (hb hby d15_11) (by decide) (by decide) ?_
    show Steps p.tables e below (T1.setTop (mkF m 15 #[.val (.ref a0), .val (.int (0 : Int32)), .val (.int (1 : Int32))] [(.int (1 : Int32))])) _
    exact retN X1 hx (t := .boolean) Bd.returns (by simp) (hb hby d15_15) hr
  · show Q15n Z a0 k0 pv h0 n0 _ T1.heap _
    rw [e1]
    exact ⟨rfl, N1, rfl⟩
theorem d23_0 : decode jdk_52_method_3_code 0 = .ok (.iload_n 0, 1) := by decide +kernel
theorem d23_1 : decode jdk_52_method_3_code 1 = .ok (.ifCond .ge 11, 3) := by decide +kernel
theorem d23_12 : decode jdk_52_method_3_code 12 = .ok (.iload_n 0, 1) := by decide +kernel
theorem d23_13 : decode jdk_52_method_3_code 13 = .ok (.ldc 20, 2) := by decide +kernel
theorem d23_15 : decode jdk_52_method_3_code 15 = .ok (.if_icmp .lt 40, 3) := by decide +kernel
theorem d23_55 : decode jdk_52_method_3_code 55 = .ok (.iload_n 0, 1) := by decide +kernel
theorem d23_56 : decode jdk_52_method_3_code 56 = .ok (.iconst 1, 1) := by decide +kernel
theorem d23_57 : decode jdk_52_method_3_code 57 = .ok (.ishl, 1) := by decide +kernel
theorem d23_58 : decode jdk_52_method_3_code 58 = .ok (.ireturn, 1) := by decide +kernel
theorem pn_java_lang_StringUTF16 : plainName "java/lang/StringUTF16" = true := by first | (simp [plainName, overriddenIn]; done) | decide +kernel
theorem ef_rm23 (m : MethodId)  : entryFrame m #[(.int (1 : Int32))] 1 = mkF m 0 #[.val (.int (1 : Int32))] [] := by first | (simp [entryFrame, mkF, argsToLocals, Value.category]; done) | rfl
def Q23 (Z : State)  (h0 : Heap) (n0 : Nat) (v : Option Value) (h : Heap) (L : List Loc) : Prop := v = some (.int (2 : Int32)) ∧ Fr n0 L ∧ h = h0
set_option maxRecDepth 65536 in
set_option maxHeartbeats 40000000 in
theorem rm23 (l : Launch) (Z : State) (az : Array Value) (hw : ∀ d ∈ tables_1, d.before az Z = true) (ws : List Jvm.Cond)  (h0 : Heap) (n0 : Nat) (Z0 : n0 ≤ h0.size) :
    MetFree l (⟨"java/lang/StringUTF16", "newBytesLength", "(I)I"⟩ : MethodName) (head1 (Jvm.Cond.code (⟨"java/lang/StringUTF16", "newBytesLength", "(I)I"⟩ : MethodName) jdk_52_method_3_code 1 (some .int) :: ws) ({ frames := 0, cells := 0, slots := 0, locals := 0 } : Room)) (fun a U => a = #[(.int (1 : Int32))] ∧ Z.Warmed39 U.vm ∧ U.heap = h0) (fun _ _ _ _ _ => True) (fun _ U o U' => ∃ v L, o = .returned v ∧ Q23 Z  h0 n0 v U'.heap L ∧ FrameEnd U o U' L ({ frames := 0, cells := 0, slots := 0, locals := 0 } : Room).cells ({ frames := 0, cells := 0, slots := 0, locals := 0 } : Room).slots) := by
  refine MetFree.of_bodySF (plainFor_of_name pn_java_lang_StringUTF16) hisR ?_
  intro p e s m args below meth c s₁ Bd hml0 hP hK
  obtain ⟨rfl, hZ, hh⟩ := hP
  have hx := Bd.exec
  have hby := Bd.bytes
  have hml : c.maxLocals = 1 := hml0
  have hown : s.vm.findClass "java/lang/StringUTF16" = some m.cls := findClass_of_methodNamed Bd.named
  have hnm := (name_of_methodNamed Bd.named Bd.method).1
  have X0 : Stand p l e ({ frames := 0, cells := 0, slots := 0, locals := 0 } : Room) s m #[(.int (1 : Int32))] below meth c s₁ [] 0 0 := Stand.of_body Bd
  have e0 : s₁.heap = h0 := by rw [← hh, Bd.state]; rfl
  have N0 := Fr.nil n0
  have pre0 : ∀ t, Steps p.tables e below (s₁.setTop (mkF m 0 #[.val (.int (1 : Int32))] [])) t → Steps p.tables e below (s₁.setTop (entryFrame m #[(.int (1 : Int32))] 1)) t := fun t k => castTop (ef_rm23 m ) k
  obtain ⟨fs, hr, hrun, hended, hW, hsame⟩ := X0.leave (v := some (.int (2 : Int32))) (fun h => by rw [Bd.returns] at h; cases h)
  refine ⟨_, _, pre0 _ ?_, hrun, hended, _, _, rfl, ?_, ⟨_, rfl⟩, hW, hsame.mono (by decide) (by decide)⟩
  · show Steps p.tables e below (s₁.setTop (mkF m 0 #[.val (.int (1 : Int32))] [])) _
    refine XS.iloadN X0.here hx rfl (hb hby d23_0) rfl ?_
    show Steps p.tables e below (s₁.setTop (mkF m 1 #[.val (.int (1 : Int32))] [(.int (1 : Int32))])) _
    refine XS.ifYes X0.here hx rfl (pc0 := 1) (pc' := 12) rfl (hb hby d23_1) rfl ((if0 _ _).trans (flt (by decide : ¬ ((1 : Int32) < (0 : Int32)))).2.1) (by decide) (by decide) ?_
    show Steps p.tables e below (s₁.setTop (mkF m 12 #[.val (.int (1 : Int32))] [])) _
    refine XS.iloadN X0.here hx rfl (hb hby d23_12) rfl ?_
    show Steps p.tables e below (s₁.setTop (mkF m 13 #[.val (.int (1 : Int32))] [(.int (1 : Int32))])) _
    refine X0.ldcInt hx hown (mvT hZ (hw _ (List.mem_of_getElem? (i := 136) rfl))) (g := (mkF m 13 #[.val (.int (1 : Int32))] [(.int (1 : Int32))])) rfl (hb hby d23_13) _ ?_
    show Steps p.tables e below (s₁.setTop (mkF m 15 #[.val (.int (1 : Int32))] [(.int (1073741823 : Int32)), (.int (1 : Int32))])) _
    refine XS.icmpYes X0.here hx rfl (pc0 := 15) (pc' := 55) rfl (hb hby d23_15) rfl (tlt (by decide : (1 : Int32) < (1073741823 : Int32))).1 (by decide) (by decide) ?_
    show Steps p.tables e below (s₁.setTop (mkF m 55 #[.val (.int (1 : Int32))] [])) _
    refine XS.iloadN X0.here hx rfl (hb hby d23_55) rfl ?_
    show Steps p.tables e below (s₁.setTop (mkF m 56 #[.val (.int (1 : Int32))] [(.int (1 : Int32))])) _
    refine XS.iconst X0.here hx rfl (hb hby d23_56) ?_
    show Steps p.tables e below (s₁.setTop (mkF m 57 #[.val (.int (1 : Int32))] [(.int (1 : Int32)), (.int (1 : Int32))])) _
    refine XS.ishl X0.here hx rfl (hb hby d23_57) rfl ?_
    show Steps p.tables e below (s₁.setTop (mkF m 58 #[.val (.int (1 : Int32))] [(.int (2 : Int32))])) _
    exact retI X0 hx Bd.returns (hb hby d23_58) hr
  · show Q23 Z  h0 n0 _ s₁.heap _
    rw [e0]
    exact ⟨rfl, N0, rfl⟩
theorem d22_0 : decode jdk_52_method_2_code 0 = .ok (.iload_n 0, 1) := by decide +kernel
theorem d22_1 : decode jdk_52_method_2_code 1 = .ok (.invokestatic 11, 3) := by decide +kernel
theorem pd_8 : parseMethodDescriptor "(I)I" = some ⟨[.int], some .int⟩ := by decide +kernel
theorem d22_4 : decode jdk_52_method_2_code 4 = .ok (.newarray .byte, 2) := by decide +kernel
theorem d22_6 : decode jdk_52_method_2_code 6 = .ok (.areturn, 1) := by decide +kernel
theorem ef_rm22 (m : MethodId)  : entryFrame m #[(.int (1 : Int32))] 1 = mkF m 0 #[.val (.int (1 : Int32))] [] := by first | (simp [entryFrame, mkF, argsToLocals, Value.category]; done) | rfl
def Q22 (Z : State)  (h0 : Heap) (n0 : Nat) (v : Option Value) (h : Heap) (L : List Loc) : Prop := ∃ r0 : Addr, ∃ rk0 : ClassId, v = some (.ref r0) ∧ Fr n0 L ∧ h0.size ≤ r0 ∧ Keep h0 h [] ∧ Exa Z h r0 "[B" ∧ Arv Z h r0 rk0 .byte (2 : Int32) [(.int (0 : Int32)), (.int (0 : Int32))] (.int (0 : Int32))
set_option maxRecDepth 65536 in
set_option maxHeartbeats 40000000 in
theorem rm22 (l : Launch) (Z : State) (az : Array Value) (hw : ∀ d ∈ tables_1, d.before az Z = true) (ws : List Jvm.Cond)  (h0 : Heap) (n0 : Nat) (Z0 : n0 ≤ h0.size) :
    MetFree l (⟨"java/lang/StringUTF16", "newBytesFor", "(I)[B"⟩ : MethodName) (head1 (Jvm.Cond.code (⟨"java/lang/StringUTF16", "newBytesFor", "(I)[B"⟩ : MethodName) jdk_52_method_2_code 1 (some (.array .byte)) :: ws) ({ frames := 1, cells := 1, slots := 2, locals := 12 } : Room)) (fun a U => a = #[(.int (1 : Int32))] ∧ Z.Warmed39 U.vm ∧ U.heap = h0) (fun _ _ _ _ _ => True) (fun _ U o U' => ∃ v L, o = .returned v ∧ Q22 Z  h0 n0 v U'.heap L ∧ FrameEnd U o U' L ({ frames := 1, cells := 1, slots := 2, locals := 12 } : Room).cells ({ frames := 1, cells := 1, slots := 2, locals := 12 } : Room).slots) := by
  refine MetFree.of_bodySF (plainFor_of_name pn_java_lang_StringUTF16) hisR ?_
  intro p e s m args below meth c s₁ Bd hml0 hP hK
  obtain ⟨rfl, hZ, hh⟩ := hP
  have hx := Bd.exec
  have hby := Bd.bytes
  have hml : c.maxLocals = 1 := hml0
  have hown : s.vm.findClass "java/lang/StringUTF16" = some m.cls := findClass_of_methodNamed Bd.named
  have hnm := (name_of_methodNamed Bd.named Bd.method).1
  have X0 : Stand p l e ({ frames := 1, cells := 1, slots := 2, locals := 12 } : Room) s m #[(.int (1 : Int32))] below meth c s₁ [] 0 0 := Stand.of_body Bd
  have e0 : s₁.heap = h0 := by rw [← hh, Bd.state]; rfl
  have N0 := Fr.nil n0
  have pre0 : ∀ t, Steps p.tables e below (s₁.setTop (mkF m 0 #[.val (.int (1 : Int32))] [])) t → Steps p.tables e below (s₁.setTop (entryFrame m #[(.int (1 : Int32))] 1)) t := fun t k => castTop (ef_rm22 m ) k
  obtain ⟨_, _, ⟨T1, L1, k1', n1'⟩, -, X1, ⟨Lc1, hQ1, l1, y1, z1⟩, st1⟩ := Jvm.LawKit.callS X0 hx (y := (⟨"java/lang/StringUTF16", "newBytesLength", "(I)I"⟩ : MethodName)) hown (mvT hZ (hw _ (List.mem_of_getElem? (i := 133) rfl))) (mvT hZ (hw _ (List.mem_of_getElem? (i := 134) rfl))) (mvT hZ (hw _ (List.mem_of_getElem? (i := 21) rfl))) (mvT hZ (hw _ (List.mem_of_getElem? (i := 135) rfl))) (by decide) (backOf (W := 0) (rm23 l Z az hw []  h0 n0 Z0) hZ (hw _ (List.mem_of_getElem? (i := 135) rfl)) (hw _ (List.mem_of_getElem? (i := 21) rfl)) (by decide) (by decide)) (g := (mkF m 1 #[.val (.int (1 : Int32))] [(.int (1 : Int32))])) rfl (by rw [hml]; rfl) (argsL := [(.int (1 : Int32))]) (rest := []) (lenOf pd_8 rfl) rfl (by show 2 * 0 + _ ≤ _; exact Nat.le_of_eq rfl) (hb hby d22_1) (fun _ _ => ⟨rfl, e0, (by decide : 0 + 0 ≤ _), (by decide : 0 + 0 ≤ _)⟩)
  dsimp only [Pt.U, Pt.locs, Pt.cells, Pt.slots] at X1 l1 y1 z1 st1 hQ1
  subst l1 y1 z1
  obtain ⟨rfl, N1q, e1⟩ := hQ1
  have N1 := Fr.app N0 N1q
  obtain ⟨T2, h2, k2, X2, e2, E2, A2, x2, st2⟩ := newPE X1 hx hZ (hw _ (List.mem_of_getElem? (i := 23) rfl)) e1 (g := (mkF m 4 #[.val (.int (1 : Int32))] [(.int (2 : Int32))])) rfl (hb hby d22_4) rfl (by decide) (cap := 2) (by decide) (by decide) (by decide) (by decide) (ad := "[B") (by decide)
  obtain ⟨b2, g2⟩ : ∃ z, z = h0.size := ⟨_, rfl⟩
  rw [← g2] at A2 x2 st2
  have g_b2 : n0 ≤ b2 := Nat.le_trans Z0 (Nat.le_of_eq g2.symm)
  have sz_b2 : h0.size ≤ b2 := Nat.le_trans (Nat.le_refl _) (Nat.le_of_eq g2.symm)
  have Z2 : n0 ≤ h2.size := Nat.le_trans Z0 E2.1
  have K2 : Keep h0 h2 [] := (Keep.refl h0 []).ext E2
  have E_b2 := x2
  have V_b2 : Arv Z h2 b2 k2 .byte (2 : Int32) [(.int (0 : Int32)), (.int (0 : Int32))] (.int (0 : Int32)) := (Arv.new A2 (by decide)).pad (pad_rep [] (.int (0 : Int32)) 2)
  obtain ⟨fs, hr, hrun, hended, hW, hsame⟩ := X2.leave (v := some (.ref b2)) (fun h => by rw [Bd.returns] at h; cases h)
  refine ⟨_, _, pre0 _ ?_, hrun, hended, _, _, rfl, ?_, ⟨_, rfl⟩, hW, hsame.mono (by decide) (by decide)⟩
  · show Steps p.tables e below (s₁.setTop (mkF m 0 #[.val (.int (1 : Int32))] [])) _
    refine XS.iloadN X0.here hx rfl (hb hby d22_0) rfl ?_
    show Steps p.tables e below (s₁.setTop (mkF m 1 #[.val (.int (1 : Int32))] [(.int (1 : Int32))])) _
    refine st1 _ ?_
    show Steps p.tables e below (T1.setTop (mkF m 4 #[.val (.int (1 : Int32))] [(.int (2 : Int32))])) _
    refine st2 _ ?_
    show Steps p.tables e below (T2.setTop (mkF m 6 #[.val (.int (1 : Int32))] [(.ref b2)])) _
    jvm_step X2.here [X2.here.top, hx, (hb hby d22_6), X2.method', Bd.returns, Value.isRef, FieldType.isReference]
    first | (intro acts; rw [hr _ acts rfl rfl rfl]) | rw [hr _ _ rfl rfl rfl]
    exact Steps.refl _
  · show Q22 Z  h0 n0 _ T2.heap _
    rw [e2]
    exact ⟨b2, k2, rfl, N1, sz_b2, K2, E_b2, V_b2⟩
theorem d14_29 : decode jdk_42_method_46_code 29 = .ok (.iconst 0, 1) := by decide +kernel
theorem d14_30 : decode jdk_42_method_46_code 30 = .ok (.istore_n 3, 1) := by decide +kernel
theorem d14_31 : decode jdk_42_method_46_code 31 = .ok (.aload_n 1, 1) := by decide +kernel
theorem d14_32 : decode jdk_42_method_46_code 32 = .ok (.arraylength, 1) := by decide +kernel
theorem d14_33 : decode jdk_42_method_46_code 33 = .ok (.invokestatic 60, 3) := by decide +kernel
theorem pd_9 : parseMethodDescriptor "(I)[B" = some ⟨[.int], some (.array .byte)⟩ := by decide +kernel
theorem d14_36 : decode jdk_42_method_46_code 36 = .ok (.astore 4, 2) := by decide +kernel
theorem d14_38 : decode jdk_42_method_46_code 38 = .ok (.aload_n 1, 1) := by decide +kernel
theorem d14_39 : decode jdk_42_method_46_code 39 = .ok (.astore 5, 2) := by decide +kernel
theorem d14_41 : decode jdk_42_method_46_code 41 = .ok (.aload 5, 2) := by decide +kernel
theorem d14_43 : decode jdk_42_method_46_code 43 = .ok (.arraylength, 1) := by decide +kernel
theorem d14_44 : decode jdk_42_method_46_code 44 = .ok (.istore 6, 2) := by decide +kernel
theorem d14_46 : decode jdk_42_method_46_code 46 = .ok (.iconst 0, 1) := by decide +kernel
theorem d14_47 : decode jdk_42_method_46_code 47 = .ok (.istore 7, 2) := by decide +kernel
theorem d14_49 : decode jdk_42_method_46_code 49 = .ok (.iload 7, 2) := by decide +kernel
theorem d14_51 : decode jdk_42_method_46_code 51 = .ok (.iload 6, 2) := by decide +kernel
theorem d14_53 : decode jdk_42_method_46_code 53 = .ok (.if_icmp .ge 71, 3) := by decide +kernel
theorem d14_56 : decode jdk_42_method_46_code 56 = .ok (.aload 5, 2) := by decide +kernel
theorem d14_58 : decode jdk_42_method_46_code 58 = .ok (.iload 7, 2) := by decide +kernel
theorem d14_60 : decode jdk_42_method_46_code 60 = .ok (.baload, 1) := by decide +kernel
theorem d14_61 : decode jdk_42_method_46_code 61 = .ok (.istore 8, 2) := by decide +kernel
theorem d14_63 : decode jdk_42_method_46_code 63 = .ok (.iload 8, 2) := by decide +kernel
theorem d14_65 : decode jdk_42_method_46_code 65 = .ok (.ifCond .ge 44, 3) := by decide +kernel
theorem d14_68 : decode jdk_42_method_46_code 68 = .ok (.aload 4, 2) := by decide +kernel
theorem d14_70 : decode jdk_42_method_46_code 70 = .ok (.iload_n 3, 1) := by decide +kernel
theorem d14_71 : decode jdk_42_method_46_code 71 = .ok (.iinc 3 1, 3) := by decide +kernel
theorem d14_74 : decode jdk_42_method_46_code 74 = .ok (.sipush 192, 3) := by decide +kernel
theorem d14_77 : decode jdk_42_method_46_code 77 = .ok (.iload 8, 2) := by decide +kernel
theorem d14_79 : decode jdk_42_method_46_code 79 = .ok (.sipush 255, 3) := by decide +kernel
theorem d14_82 : decode jdk_42_method_46_code 82 = .ok (.iand, 1) := by decide +kernel
theorem d14_83 : decode jdk_42_method_46_code 83 = .ok (.bipush 6, 2) := by decide +kernel
theorem d14_85 : decode jdk_42_method_46_code 85 = .ok (.ishr, 1) := by decide +kernel
theorem d14_86 : decode jdk_42_method_46_code 86 = .ok (.ior, 1) := by decide +kernel
theorem d14_87 : decode jdk_42_method_46_code 87 = .ok (.i2b, 1) := by decide +kernel
theorem d14_88 : decode jdk_42_method_46_code 88 = .ok (.bastore, 1) := by decide +kernel
theorem d14_89 : decode jdk_42_method_46_code 89 = .ok (.aload 4, 2) := by decide +kernel
theorem d14_91 : decode jdk_42_method_46_code 91 = .ok (.iload_n 3, 1) := by decide +kernel
theorem d14_92 : decode jdk_42_method_46_code 92 = .ok (.iinc 3 1, 3) := by decide +kernel
theorem d14_95 : decode jdk_42_method_46_code 95 = .ok (.sipush 128, 3) := by decide +kernel
theorem d14_98 : decode jdk_42_method_46_code 98 = .ok (.iload 8, 2) := by decide +kernel
theorem d14_100 : decode jdk_42_method_46_code 100 = .ok (.bipush 63, 2) := by decide +kernel
theorem d14_102 : decode jdk_42_method_46_code 102 = .ok (.iand, 1) := by decide +kernel
theorem d14_103 : decode jdk_42_method_46_code 103 = .ok (.ior, 1) := by decide +kernel
theorem d14_104 : decode jdk_42_method_46_code 104 = .ok (.i2b, 1) := by decide +kernel
theorem d14_105 : decode jdk_42_method_46_code 105 = .ok (.bastore, 1) := by decide +kernel
theorem d14_106 : decode jdk_42_method_46_code 106 = .ok (.goto 12, 3) := by decide +kernel
theorem d14_118 : decode jdk_42_method_46_code 118 = .ok (.iinc 7 1, 3) := by decide +kernel
theorem d14_121 : decode jdk_42_method_46_code 121 = .ok (.goto (-72), 3) := by decide +kernel
theorem d14_124 : decode jdk_42_method_46_code 124 = .ok (.iload_n 3, 1) := by decide +kernel
theorem d14_125 : decode jdk_42_method_46_code 125 = .ok (.aload 4, 2) := by decide +kernel
theorem d14_127 : decode jdk_42_method_46_code 127 = .ok (.arraylength, 1) := by decide +kernel
theorem d14_128 : decode jdk_42_method_46_code 128 = .ok (.if_icmp .ne 6, 3) := by decide +kernel
theorem d14_131 : decode jdk_42_method_46_code 131 = .ok (.aload 4, 2) := by decide +kernel
theorem d14_133 : decode jdk_42_method_46_code 133 = .ok (.areturn, 1) := by decide +kernel
theorem ef_rm14n (m : MethodId) (a1 : Addr) : entryFrame m #[(.int (0 : Int32)), (.ref a1), (.int (1 : Int32))] 9 = mkF m 0 #[.val (.int (0 : Int32)), .val (.ref a1), .val (.int (1 : Int32)), .unset, .unset, .unset, .unset, .unset, .unset] [] := by first | (simp [entryFrame, mkF, argsToLocals, Value.category]; done) | rfl
def Q14n (Z : State) (a1 : Addr) (k1 : ClassId) (pv : Int32) (h0 : Heap) (n0 : Nat) (v : Option Value) (h : Heap) (L : List Loc) : Prop := ∃ r0 : Addr, ∃ rk0 : ClassId, v = some (.ref r0) ∧ Fr n0 L ∧ h0.size ≤ r0 ∧ Keep h0 h [] ∧ Exa Z h r0 "[B" ∧ Arv Z h r0 rk0 .byte (2 : Int32) [(.int (((192 : Int32) ||| ((pv &&& (255 : Int32)) >>> ((6 : Int32) &&& 31))).toInt8.toInt32)), (.int (((128 : Int32) ||| (pv &&& (63 : Int32))).toInt8.toInt32))] (.int (0 : Int32))
set_option maxRecDepth 65536 in
set_option maxHeartbeats 40000000 in
theorem rm14n (l : Launch) (Z : State) (az : Array Value) (hw : ∀ d ∈ tables_1, d.before az Z = true) (ws : List Jvm.Cond) (a1 : Addr) (k1 : ClassId) (pv : Int32) (h0 : Heap) (n0 : Nat) (Z0 : n0 ≤ h0.size) (V_a1 : Arv Z h0 a1 k1 .byte (1 : Int32) [(.int pv)] (.int (0 : Int32))) (E_a1 : Exa Z h0 a1 "[B") (hc2 : pv < (0 : Int32)) :
    MetFree l (⟨"java/lang/String", "encodeUTF8", "(B[BZ)[B"⟩ : MethodName) (head1 (Jvm.Cond.code (⟨"java/lang/String", "encodeUTF8", "(B[BZ)[B"⟩ : MethodName) jdk_42_method_46_code 9 (some (.array .byte)) :: ws) ({ frames := 2, cells := 1, slots := 2, locals := 30 } : Room)) (fun a U => a = #[(.int (0 : Int32)), (.ref a1), (.int (1 : Int32))] ∧ Z.Warmed39 U.vm ∧ U.heap = h0) (fun _ _ _ _ _ => True) (fun _ U o U' => ∃ v L, o = .returned v ∧ Q14n Z a1 k1 pv h0 n0 v U'.heap L ∧ FrameEnd U o U' L ({ frames := 2, cells := 1, slots := 2, locals := 30 } : Room).cells ({ frames := 2, cells := 1, slots := 2, locals := 30 } : Room).slots) := by
  refine MetFree.of_bodySF (plainFor_of_name pn_java_lang_String) hisR ?_
  intro p e s m args below meth c s₁ Bd hml0 hP hK
  obtain ⟨rfl, hZ, hh⟩ := hP
  have hx := Bd.exec
  have hby := Bd.bytes
  have hml : c.maxLocals = 9 := hml0
  have hown : s.vm.findClass "java/lang/String" = some m.cls := findClass_of_methodNamed Bd.named
  have hnm := (name_of_methodNamed Bd.named Bd.method).1
  have X0 : Stand p l e ({ frames := 2, cells := 1, slots := 2, locals := 30 } : Room) s m #[(.int (0 : Int32)), (.ref a1), (.int (1 : Int32))] below meth c s₁ [] 0 0 := Stand.of_body Bd
  have e0 : s₁.heap = h0 := by rw [← hh, Bd.state]; rfl
  have N0 := Fr.nil n0
  have pre0 : ∀ t, Steps p.tables e below (s₁.setTop (mkF m 0 #[.val (.int (0 : Int32)), .val (.ref a1), .val (.int (1 : Int32)), .unset, .unset, .unset, .unset, .unset, .unset] [])) t → Steps p.tables e below (s₁.setTop (entryFrame m #[(.int (0 : Int32)), (.ref a1), (.int (1 : Int32))] 9)) t := fun t k => castTop (ef_rm14n m a1) k
  obtain ⟨cl1, Ar1, qk1, Sz1, Ng1, Hs1, Gf1⟩ := id V_a1
  obtain ⟨_, _, ⟨T2, L2, k2', n2'⟩, -, X2, ⟨Lc2, hQ2, l2, y2, z2⟩, st2⟩ := Jvm.LawKit.callS X0 hx (y := (⟨"java/lang/StringCoding", "hasNegatives", "([BII)Z"⟩ : MethodName)) hown (mvT hZ (hw _ (List.mem_of_getElem? (i := 78) rfl))) (mvT hZ (hw _ (List.mem_of_getElem? (i := 79) rfl))) (mvT hZ (hw _ (List.mem_of_getElem? (i := 80) rfl))) (mvT hZ (hw _ (List.mem_of_getElem? (i := 81) rfl))) (by decide) (backOf (W := 0) (rm15n l Z az hw [] a1 k1 pv h0 n0 Z0 V_a1 hc2) hZ (hw _ (List.mem_of_getElem? (i := 81) rfl)) (hw _ (List.mem_of_getElem? (i := 80) rfl)) (by decide) (by decide)) (g := (mkF m 15 #[.val (.int (0 : Int32)), .val (.ref a1), .val (.int (1 : Int32)), .unset, .unset, .unset, .unset, .unset, .unset] [(.int (1 : Int32)), (.int (0 : Int32)), (.ref a1)])) rfl (by rw [hml]; rfl) (argsL := [(.ref a1), (.int (0 : Int32)), (.int (1 : Int32))]) (rest := []) (lenOf pd_1 rfl) rfl (by show 2 * 0 + _ ≤ _; exact Nat.le_of_eq rfl) (hb hby d14_15) (fun _ _ => ⟨rfl, e0, (by decide : 0 + 0 ≤ _), (by decide : 0 + 0 ≤ _)⟩)
  dsimp only [Pt.U, Pt.locs, Pt.cells, Pt.slots] at X2 l2 y2 z2 st2 hQ2
  subst l2 y2 z2
  obtain ⟨rfl, N2q, e2⟩ := hQ2
  have N2 := Fr.app N0 N2q
  obtain ⟨_, _, ⟨T3, L3, k3', n3'⟩, -, X3, ⟨Lc3, hQ3, l3, y3, z3⟩, st3⟩ := Jvm.LawKit.callS X2 hx (y := (⟨"java/lang/StringUTF16", "newBytesFor", "(I)[B"⟩ : MethodName)) hown (mvT hZ (hw _ (List.mem_of_getElem? (i := 130) rfl))) (mvT hZ (hw _ (List.mem_of_getElem? (i := 131) rfl))) (mvT hZ (hw _ (List.mem_of_getElem? (i := 21) rfl))) (mvT hZ (hw _ (List.mem_of_getElem? (i := 132) rfl))) (by decide) (backOf (W := 0) (rm22 l Z az hw []  h0 n0 Z0) hZ (hw _ (List.mem_of_getElem? (i := 132) rfl)) (hw _ (List.mem_of_getElem? (i := 21) rfl)) (by decide) (by decide)) (g := (mkF m 33 #[.val (.int (0 : Int32)), .val (.ref a1), .val (.int (1 : Int32)), .val (.int (0 : Int32)), .unset, .unset, .unset, .unset, .unset] [(.int (1 : Int32))])) rfl (by rw [hml]; rfl) (argsL := [(.int (1 : Int32))]) (rest := []) (lenOf pd_9 rfl) rfl (by show 2 * 0 + _ ≤ _; exact Nat.le_of_eq rfl) (hb hby d14_33) (fun _ _ => ⟨rfl, e2, (by decide : 0 + 1 ≤ _), (by decide : 0 + 2 ≤ _)⟩)
  dsimp only [Pt.U, Pt.locs, Pt.cells, Pt.slots] at X3 l3 y3 z3 st3 hQ3
  subst l3 y3 z3
  obtain ⟨b3_0, kk3_0, rfl, N3q, s3_0, kq3, pf3_0, pf3_1⟩ := hQ3
  have N3 := Fr.app N2 N3q
  have g_b3_0 : n0 ≤ b3_0 := Nat.le_trans Z0 s3_0
  have sz_b3_0 : h0.size ≤ b3_0 := Nat.le_trans (Nat.le_refl _) s3_0
  have K3 : Keep h0 T3.heap [] := (Keep.refl h0 []).trans kq3 all0
  have Z3 : n0 ≤ T3.heap.size := Nat.le_trans Z0 kq3.1
  have V_a1_u4 : Arv Z T3.heap a1 k1 .byte (1 : Int32) [(.int pv)] (.int (0 : Int32)) := (V_a1.keep kq3 nin0)
  obtain ⟨cl5, Ar5, qk5, Sz5, Ng5, Hs5, Gf5⟩ := id V_a1_u4
  have hin6 : ¬ ((0 : Int32) < 0 ∨ cl5.slots.size ≤ ((0 : Int32)).toNatClampNeg) := inb_of Sz5 ⟨by decide, by decide⟩
  have hat7 : cl5.slots[((0 : Int32)).toNatClampNeg]? = some (.int pv) := Hs5.at hin6 rfl
  obtain ⟨cl8, Ar8, qk8, Sz8, Ng8, Hs8, Gf8⟩ := id pf3_1
  have hin9 : ¬ ((0 : Int32) < 0 ∨ cl8.slots.size ≤ ((0 : Int32)).toNatClampNeg) := inb_of Sz8 ⟨by decide, by decide⟩
  obtain ⟨T10, h10, X10, e10, W10, st10⟩ := stB X3 hx hZ rfl Ar8 (j := (0 : Int32)) hin9 (g := (mkF m 88 #[.val (.int (0 : Int32)), .val (.ref a1), .val (.int (1 : Int32)), .val (.int (1 : Int32)), .val (.ref b3_0), .val (.ref a1), .val (.int (1 : Int32)), .val (.int (0 : Int32)), .val (.int pv)] [(.int (((192 : Int32) ||| ((pv &&& (255 : Int32)) >>> ((6 : Int32) &&& 31))).toInt8.toInt32)), (.int (0 : Int32)), (.ref b3_0)])) rfl rfl (hb hby d14_88)
  rw [(own_nb _)] at W10
  have K10 : Keep h0 h10 [] := K3.wr W10 (Or.inr sz_b3_0)
  have V_b3_0_10 : Arv Z h10 b3_0 kk3_0 .byte (2 : Int32) [(.int (((192 : Int32) ||| ((pv &&& (255 : Int32)) >>> ((6 : Int32) &&& 31))).toInt8.toInt32)), (.int (0 : Int32))] (.int (0 : Int32)) := Arv.set (v := (.int (((192 : Int32) ||| ((pv &&& (255 : Int32)) >>> ((6 : Int32) &&& 31))).toInt8.toInt32))) Ar8 qk8 Sz8 Ng8 Hs8 Gf8 (own_fits (own_nb _) (fits_nar_byte _)) W10 0 rfl (Nat.le_of_ble_eq_true rfl)
  have Z10 : n0 ≤ h10.size := Nat.le_trans Z3 (Keep.of_wr W10).1
  have N10 := Fr.snoc X10 N3 g_b3_0
  obtain ⟨cl11, Ar11, qk11, Sz11, Ng11, Hs11, Gf11⟩ := id V_b3_0_10
  have hin12 : ¬ ((1 : Int32) < 0 ∨ cl11.slots.size ≤ ((1 : Int32)).toNatClampNeg) := inb_of Sz11 ⟨by decide, by decide⟩
  obtain ⟨T13, h13, X13, e13, W13, st13⟩ := stB X10 hx hZ e10 Ar11 (j := (1 : Int32)) hin12 (g := (mkF m 105 #[.val (.int (0 : Int32)), .val (.ref a1), .val (.int (1 : Int32)), .val (.int (2 : Int32)), .val (.ref b3_0), .val (.ref a1), .val (.int (1 : Int32)), .val (.int (0 : Int32)), .val (.int pv)] [(.int (((128 : Int32) ||| (pv &&& (63 : Int32))).toInt8.toInt32)), (.int (1 : Int32)), (.ref b3_0)])) rfl rfl (hb hby d14_105)
  rw [(own_nb _)] at W13
  have K13 : Keep h0 h13 [] := K10.wr W13 (Or.inr sz_b3_0)
  have V_b3_0_13 : Arv Z h13 b3_0 kk3_0 .byte (2 : Int32) [(.int (((192 : Int32) ||| ((pv &&& (255 : Int32)) >>> ((6 : Int32) &&& 31))).toInt8.toInt32)), (.int (((128 : Int32) ||| (pv &&& (63 : Int32))).toInt8.toInt32))] (.int (0 : Int32)) := Arv.set (v := (.int (((128 : Int32) ||| (pv &&& (63 : Int32))).toInt8.toInt32))) Ar11 qk11 Sz11 Ng11 Hs11 Gf11 (own_fits (own_nb _) (fits_nar_byte _)) W13 1 rfl (Nat.le_of_ble_eq_true rfl)
  have Z13 : n0 ≤ h13.size := Nat.le_trans Z10 (Keep.of_wr W13).1
  have N13 := Fr.snoc X13 N10 g_b3_0
  obtain ⟨cl14, Ar14, qk14, Sz14, Ng14, Hs14, Gf14⟩ := id V_b3_0_13
  have E_b3_0_u15 : Exa Z h13 b3_0 "[B" := ((pf3_0.wr W10).wr W13)
  obtain ⟨fs, hr, hrun, hended, hW, hsame⟩ := X13.leave (v := some (.ref b3_0)) (fun h => by rw [Bd.returns] at h; cases h)
  refine ⟨_, _, pre0 _ ?_, hrun, hended, _, _, rfl, ?_, ⟨_, rfl⟩, hW, hsame.mono (by decide) (by decide)⟩
  · show Steps p.tables e below (s₁.setTop (mkF m 0 #[.val (.int (0 : Int32)), .val (.ref a1), .val (.int (1 : Int32)), .unset, .unset, .unset, .unset, .unset, .unset] [])) _
    refine XS.iloadN X0.here hx rfl (hb hby d14_0) rfl ?_
    show Steps p.tables e below (s₁.setTop (mkF m 1 #[.val (.int (0 : Int32)), .val (.ref a1), .val (.int (1 : Int32)), .unset, .unset, .unset, .unset, .unset, .unset] [(.int (0 : Int32))])) _
    refine XS.iconst X0.here hx rfl (hb hby d14_1) ?_
    show Steps p.tables e below (s₁.setTop (mkF m 2 #[.val (.int (0 : Int32)), .val (.ref a1), .val (.int (1 : Int32)), .unset, .unset, .unset, .unset, .unset, .unset] [(.int (1 : Int32)), (.int (0 : Int32))])) _
    refine XS.icmpYes X0.here hx rfl (pc0 := 2) (pc' := 11) rfl (hb hby d14_2) rfl (feq (by decide : ¬ ((0 : Int32) = (1 : Int32)))).2 (by decide) (by decide) ?_
    show Steps p.tables e below (s₁.setTop (mkF m 11 #[.val (.int (0 : Int32)), .val (.ref a1), .val (.int (1 : Int32)), .unset, .unset, .unset, .unset, .unset, .unset] [])) _
    refine XS.aloadN X0.here hx rfl (hb hby d14_11) rfl rfl ?_
    show Steps p.tables e below (s₁.setTop (mkF m 12 #[.val (.int (0 : Int32)), .val (.ref a1), .val (.int (1 : Int32)), .unset, .unset, .unset, .unset, .unset, .unset] [(.ref a1)])) _
    refine XS.iconst X0.here hx rfl (hb hby d14_12) ?_
    show Steps p.tables e below (s₁.setTop (mkF m 13 #[.val (.int (0 : Int32)), .val (.ref a1), .val (.int (1 : Int32)), .unset, .unset, .unset, .unset, .unset, .unset] [(.int (0 : Int32)), (.ref a1)])) _
    refine XS.aloadN X0.here hx rfl (hb hby d14_13) rfl rfl ?_
    show Steps p.tables e below (s₁.setTop (mkF m 14 #[.val (.int (0 : Int32)), .val (.ref a1), .val (.int (1 : Int32)), .unset, .unset, .unset, .unset, .unset, .unset] [(.ref a1), (.int (0 : Int32)), (.ref a1)])) _
    refine X0.arraylength hx (by rw [e0]; exact Ar1.1) (State.isArrayOf_alike hZ.alike Ar1.2.1) (g := (mkF m 14 #[.val (.int (0 : Int32)), .val (.ref a1), .val (.int (1 : Int32)), .unset, .unset, .unset, .unset, .unset, .unset] [(.ref a1), (.int (0 : Int32)), (.ref a1)])) rfl rfl (hb hby d14_14) _ ?_
    rw [len_of Sz1 Ng1]
    show Steps p.tables e below (s₁.setTop (mkF m 15 #[.val (.int (0 : Int32)), .val (.ref a1), .val (.int (1 : Int32)), .unset, .unset, .unset, .unset, .unset, .unset] [(.int (1 : Int32)), (.int (0 : Int32)), (.ref a1)])) _
    refine st2 _ ?_
    show Steps p.tables e below (T2.setTop (mkF m 18 #[.val (.int (0 : Int32)), .val (.ref a1), .val (.int (1 : Int32)), .unset, .unset, .unset, .unset, .unset, .unset] [(.int (1 : Int32))])) _
    refine XS.ifYes X2.here hx rfl (pc0 := 18) (pc' := 29) rfl (hb hby d14_18) rfl ((if0 _ _).trans (feq (by decide : ¬ ((1 : Int32) = (0 : Int32)))).2) (by decide) (by decide) ?_
    show Steps p.tables e below (T2.setTop (mkF m 29 #[.val (.int (0 : Int32)), .val (.ref a1), .val (.int (1 : Int32)), .unset, .unset, .unset, .unset, .unset, .unset] [])) _
    refine XS.iconst X2.here hx rfl (hb hby d14_29) ?_
    show Steps p.tables e below (T2.setTop (mkF m 30 #[.val (.int (0 : Int32)), .val (.ref a1), .val (.int (1 : Int32)), .unset, .unset, .unset, .unset, .unset, .unset] [(.int (0 : Int32))])) _
    refine XS.istoreN X2.here hx rfl (hb hby d14_30) rfl (l' := #[.val (.int (0 : Int32)), .val (.ref a1), .val (.int (1 : Int32)), .val (.int (0 : Int32)), .unset, .unset, .unset, .unset, .unset]) rfl ?_
    show Steps p.tables e below (T2.setTop (mkF m 31 #[.val (.int (0 : Int32)), .val (.ref a1), .val (.int (1 : Int32)), .val (.int (0 : Int32)), .unset, .unset, .unset, .unset, .unset] [])) _
    refine XS.aloadN X2.here hx rfl (hb hby d14_31) rfl rfl ?_
    show Steps p.tables e below (T2.setTop (mkF m 32 #[.val (.int (0 : Int32)), .val (.ref a1), .val (.int (1 : Int32)), .val (.int (0 : Int32)), .unset, .unset, .unset, .unset, .unset] [(.ref a1)])) _
    refine X2.arraylength hx (by rw [e2]; exact Ar1.1) (State.isArrayOf_alike hZ.alike Ar1.2.1) (g := (mkF m 32 #[.val (.int (0 : Int32)), .val (.ref a1), .val (.int (1 : Int32)), .val (.int (0 : Int32)), .unset, .unset, .unset, .unset, .unset] [(.ref a1)])) rfl rfl (hb hby d14_32) _ ?_
    rw [len_of Sz1 Ng1]
    show Steps p.tables e below (T2.setTop (mkF m 33 #[.val (.int (0 : Int32)), .val (.ref a1), .val (.int (1 : Int32)), .val (.int (0 : Int32)), .unset, .unset, .unset, .unset, .unset] [(.int (1 : Int32))])) _
    refine st3 _ ?_
    show Steps p.tables e below (T3.setTop (mkF m 36 #[.val (.int (0 : Int32)), .val (.ref a1), .val (.int (1 : Int32)), .val (.int (0 : Int32)), .unset, .unset, .unset, .unset, .unset] [(.ref b3_0)])) _
    refine XS.astore X3.here hx rfl (hb hby d14_36) rfl rfl (l' := #[.val (.int (0 : Int32)), .val (.ref a1), .val (.int (1 : Int32)), .val (.int (0 : Int32)), .val (.ref b3_0), .unset, .unset, .unset, .unset]) rfl ?_
    show Steps p.tables e below (T3.setTop (mkF m 38 #[.val (.int (0 : Int32)), .val (.ref a1), .val (.int (1 : Int32)), .val (.int (0 : Int32)), .val (.ref b3_0), .unset, .unset, .unset, .unset] [])) _
    refine XS.aloadN X3.here hx rfl (hb hby d14_38) rfl rfl ?_
    show Steps p.tables e below (T3.setTop (mkF m 39 #[.val (.int (0 : Int32)), .val (.ref a1), .val (.int (1 : Int32)), .val (.int (0 : Int32)), .val (.ref b3_0), .unset, .unset, .unset, .unset] [(.ref a1)])) _
    refine XS.astore X3.here hx rfl (hb hby d14_39) rfl rfl (l' := #[.val (.int (0 : Int32)), .val (.ref a1), .val (.int (1 : Int32)), .val (.int (0 : Int32)), .val (.ref b3_0), .val (.ref a1), .unset, .unset, .unset]) rfl ?_
    show Steps p.tables e below (T3.setTop (mkF m 41 #[.val (.int (0 : Int32)), .val (.ref a1), .val (.int (1 : Int32)), .val (.int (0 : Int32)), .val (.ref b3_0), .val (.ref a1), .unset, .unset, .unset] [])) _
    refine XS.aload X3.here hx rfl (hb hby d14_41) rfl rfl ?_
    show Steps p.tables e below (T3.setTop (mkF m 43 #[.val (.int (0 : Int32)), .val (.ref a1), .val (.int (1 : Int32)), .val (.int (0 : Int32)), .val (.ref b3_0), .val (.ref a1), .unset, .unset, .unset] [(.ref a1)])) _
    refine X3.arraylength hx Ar5.1 (State.isArrayOf_alike hZ.alike Ar5.2.1) (g := (mkF m 43 #[.val (.int (0 : Int32)), .val (.ref a1), .val (.int (1 : Int32)), .val (.int (0 : Int32)), .val (.ref b3_0), .val (.ref a1), .unset, .unset, .unset] [(.ref a1)])) rfl rfl (hb hby d14_43) _ ?_
    rw [len_of Sz5 Ng5]
    show Steps p.tables e below (T3.setTop (mkF m 44 #[.val (.int (0 : Int32)), .val (.ref a1), .val (.int (1 : Int32)), .val (.int (0 : Int32)), .val (.ref b3_0), .val (.ref a1), .unset, .unset, .unset] [(.int (1 : Int32))])) _
    refine XS.istore X3.here hx rfl (hb hby d14_44) rfl (l' := #[.val (.int (0 : Int32)), .val (.ref a1), .val (.int (1 : Int32)), .val (.int (0 : Int32)), .val (.ref b3_0), .val (.ref a1), .val (.int (1 : Int32)), .unset, .unset]) rfl ?_
    show Steps p.tables e below (T3.setTop (mkF m 46 #[.val (.int (0 : Int32)), .val (.ref a1), .val (.int (1 : Int32)), .val (.int (0 : Int32)), .val (.ref b3_0), .val (.ref a1), .val (.int (1 : Int32)), .unset, .unset] [])) _
    refine XS.iconst X3.here hx rfl (hb hby d14_46) ?_
    show Steps p.tables e below (T3.setTop (mkF m 47 #[.val (.int (0 : Int32)), .val (.ref a1), .val (.int (1 : Int32)), .val (.int (0 : Int32)), .val (.ref b3_0), .val (.ref a1), .val (.int (1 : Int32)), .unset, .unset] [(.int (0 : Int32))])) _
    refine XS.istore X3.here hx rfl (hb hby d14_47) rfl (l' := #[.val (.int (0 : Int32)), .val (.ref a1), .val (.int (1 : Int32)), .val (.int (0 : Int32)), .val (.ref b3_0), .val (.ref a1), .val (.int (1 : Int32)), .val (.int (0 : Int32)), .unset]) rfl ?_
    show Steps p.tables e below (T3.setTop (mkF m 49 #[.val (.int (0 : Int32)), .val (.ref a1), .val (.int (1 : Int32)), .val (.int (0 : Int32)), .val (.ref b3_0), .val (.ref a1), .val (.int (1 : Int32)), .val (.int (0 : Int32)), .unset] [])) _
    refine XS.iload X3.here hx rfl (hb hby d14_49) rfl ?_
    show Steps p.tables e below (T3.setTop (mkF m 51 #[.val (.int (0 : Int32)), .val (.ref a1), .val (.int (1 : Int32)), .val (.int (0 : Int32)), .val (.ref b3_0), .val (.ref a1), .val (.int (1 : Int32)), .val (.int (0 : Int32)), .unset] [(.int (0 : Int32))])) _
    refine XS.iload X3.here hx rfl (hb hby d14_51) rfl ?_
    show Steps p.tables e below (T3.setTop (mkF m 53 #[.val (.int (0 : Int32)), .val (.ref a1), .val (.int (1 : Int32)), .val (.int (0 : Int32)), .val (.ref b3_0), .val (.ref a1), .val (.int (1 : Int32)), .val (.int (0 : Int32)), .unset] [(.int (1 : Int32)), (.int (0 : Int32))])) _
    refine XS.icmpNo X3.here hx rfl (hb hby d14_53) rfl (tlt (by decide : (0 : Int32) < (1 : Int32))).2.1 ?_
    show Steps p.tables e below (T3.setTop (mkF m 56 #[.val (.int (0 : Int32)), .val (.ref a1), .val (.int (1 : Int32)), .val (.int (0 : Int32)), .val (.ref b3_0), .val (.ref a1), .val (.int (1 : Int32)), .val (.int (0 : Int32)), .unset] [])) _
    refine XS.aload X3.here hx rfl (hb hby d14_56) rfl rfl ?_
    show Steps p.tables e below (T3.setTop (mkF m 58 #[.val (.int (0 : Int32)), .val (.ref a1), .val (.int (1 : Int32)), .val (.int (0 : Int32)), .val (.ref b3_0), .val (.ref a1), .val (.int (1 : Int32)), .val (.int (0 : Int32)), .unset] [(.ref a1)])) _
    refine XS.iload X3.here hx rfl (hb hby d14_58) rfl ?_
    show Steps p.tables e below (T3.setTop (mkF m 60 #[.val (.int (0 : Int32)), .val (.ref a1), .val (.int (1 : Int32)), .val (.int (0 : Int32)), .val (.ref b3_0), .val (.ref a1), .val (.int (1 : Int32)), .val (.int (0 : Int32)), .unset] [(.int (0 : Int32)), (.ref a1)])) _
    refine X3.baloadBytes hx (j := (0 : Int32)) (v := (.int pv)) Ar5.1 (State.isArrayOf_alike hZ.alike Ar5.2.1) Ar5.2.2 hin6 hat7 (g := (mkF m 60 #[.val (.int (0 : Int32)), .val (.ref a1), .val (.int (1 : Int32)), .val (.int (0 : Int32)), .val (.ref b3_0), .val (.ref a1), .val (.int (1 : Int32)), .val (.int (0 : Int32)), .unset] [(.int (0 : Int32)), (.ref a1)])) rfl rfl (hb hby d14_60) _ ?_
    show Steps p.tables e below (T3.setTop (mkF m 61 #[.val (.int (0 : Int32)), .val (.ref a1), .val (.int (1 : Int32)), .val (.int (0 : Int32)), .val (.ref b3_0), .val (.ref a1), .val (.int (1 : Int32)), .val (.int (0 : Int32)), .unset] [(.int pv)])) _
    refine XS.istore X3.here hx rfl (hb hby d14_61) rfl (l' := #[.val (.int (0 : Int32)), .val (.ref a1), .val (.int (1 : Int32)), .val (.int (0 : Int32)), .val (.ref b3_0), .val (.ref a1), .val (.int (1 : Int32)), .val (.int (0 : Int32)), .val (.int pv)]) rfl ?_
    show Steps p.tables e below (T3.setTop (mkF m 63 #[.val (.int (0 : Int32)), .val (.ref a1), .val (.int (1 : Int32)), .val (.int (0 : Int32)), .val (.ref b3_0), .val (.ref a1), .val (.int (1 : Int32)), .val (.int (0 : Int32)), .val (.int pv)] [])) _
    refine XS.iload X3.here hx rfl (hb hby d14_63) rfl ?_
    show Steps p.tables e below (T3.setTop (mkF m 65 #[.val (.int (0 : Int32)), .val (.ref a1), .val (.int (1 : Int32)), .val (.int (0 : Int32)), .val (.ref b3_0), .val (.ref a1), .val (.int (1 : Int32)), .val (.int (0 : Int32)), .val (.int pv)] [(.int pv)])) _
    refine XS.ifNo X3.here hx rfl (hb hby d14_65) rfl ((if0 _ _).trans (tlt hc2).2.1) ?_
    show Steps p.tables e below (T3.setTop (mkF m 68 #[.val (.int (0 : Int32)), .val (.ref a1), .val (.int (1 : Int32)), .val (.int (0 : Int32)), .val (.ref b3_0), .val (.ref a1), .val (.int (1 : Int32)), .val (.int (0 : Int32)), .val (.int pv)] [])) _
    refine XS.aload X3.here hx rfl (hb hby d14_68) rfl rfl ?_
    show Steps p.tables e below (T3.setTop (mkF m 70 #[.val (.int (0 : Int32)), .val (.ref a1), .val (.int (1 : Int32)), .val (.int (0 : Int32)), .val (.ref b3_0), .val (.ref a1), .val (.int (1 : Int32)), .val (.int (0 : Int32)), .val (.int pv)] [(.ref b3_0)])) _
    refine XS.iloadN X3.here hx rfl (hb hby d14_70) rfl ?_
    show Steps p.tables e below (T3.setTop (mkF m 71 #[.val (.int (0 : Int32)), .val (.ref a1), .val (.int (1 : Int32)), .val (.int (0 : Int32)), .val (.ref b3_0), .val (.ref a1), .val (.int (1 : Int32)), .val (.int (0 : Int32)), .val (.int pv)] [(.int (0 : Int32)), (.ref b3_0)])) _
    refine XS.iinc X3.here hx rfl (hb hby d14_71) rfl (l' := #[.val (.int (0 : Int32)), .val (.ref a1), .val (.int (1 : Int32)), .val (.int (1 : Int32)), .val (.ref b3_0), .val (.ref a1), .val (.int (1 : Int32)), .val (.int (0 : Int32)), .val (.int pv)]) rfl ?_
    show Steps p.tables e below (T3.setTop (mkF m 74 #[.val (.int (0 : Int32)), .val (.ref a1), .val (.int (1 : Int32)), .val (.int (1 : Int32)), .val (.ref b3_0), .val (.ref a1), .val (.int (1 : Int32)), .val (.int (0 : Int32)), .val (.int pv)] [(.int (0 : Int32)), (.ref b3_0)])) _
    refine XS.sipush X3.here hx rfl (hb hby d14_74) ?_
    show Steps p.tables e below (T3.setTop (mkF m 77 #[.val (.int (0 : Int32)), .val (.ref a1), .val (.int (1 : Int32)), .val (.int (1 : Int32)), .val (.ref b3_0), .val (.ref a1), .val (.int (1 : Int32)), .val (.int (0 : Int32)), .val (.int pv)] [(.int (192 : Int32)), (.int (0 : Int32)), (.ref b3_0)])) _
    refine XS.iload X3.here hx rfl (hb hby d14_77) rfl ?_
    show Steps p.tables e below (T3.setTop (mkF m 79 #[.val (.int (0 : Int32)), .val (.ref a1), .val (.int (1 : Int32)), .val (.int (1 : Int32)), .val (.ref b3_0), .val (.ref a1), .val (.int (1 : Int32)), .val (.int (0 : Int32)), .val (.int pv)] [(.int pv), (.int (192 : Int32)), (.int (0 : Int32)), (.ref b3_0)])) _
    refine XS.sipush X3.here hx rfl (hb hby d14_79) ?_
    show Steps p.tables e below (T3.setTop (mkF m 82 #[.val (.int (0 : Int32)), .val (.ref a1), .val (.int (1 : Int32)), .val (.int (1 : Int32)), .val (.ref b3_0), .val (.ref a1), .val (.int (1 : Int32)), .val (.int (0 : Int32)), .val (.int pv)] [(.int (255 : Int32)), (.int pv), (.int (192 : Int32)), (.int (0 : Int32)), (.ref b3_0)])) _
    refine XS.iand X3.here hx rfl (hb hby d14_82) rfl ?_
    show Steps p.tables e below (T3.setTop (mkF m 83 #[.val (.int (0 : Int32)), .val (.ref a1), .val (.int (1 : Int32)), .val (.int (1 : Int32)), .val (.ref b3_0), .val (.ref a1), .val (.int (1 : Int32)), .val (.int (0 : Int32)), .val (.int pv)] [(.int (pv &&& (255 : Int32))), (.int (192 : Int32)), (.int (0 : Int32)), (.ref b3_0)])) _
    refine XS.bipush X3.here hx rfl (hb hby d14_83) ?_
    show Steps p.tables e below (T3.setTop (mkF m 85 #[.val (.int (0 : Int32)), .val (.ref a1), .val (.int (1 : Int32)), .val (.int (1 : Int32)), .val (.ref b3_0), .val (.ref a1), .val (.int (1 : Int32)), .val (.int (0 : Int32)), .val (.int pv)] [(.int (6 : Int32)), (.int (pv &&& (255 : Int32))), (.int (192 : Int32)), (.int (0 : Int32)), (.ref b3_0)])) _
    refine XS.ishr X3.here hx rfl (hb hby d14_85) rfl ?_
    show Steps p.tables e below (T3.setTop (mkF m 86 #[.val (.int (0 : Int32)), .val (.ref a1), .val (.int (1 : Int32)), .val (.int (1 : Int32)), .val (.ref b3_0), .val (.ref a1), .val (.int (1 : Int32)), .val (.int (0 : Int32)), .val (.int pv)] [(.int ((pv &&& (255 : Int32)) >>> ((6 : Int32) &&& 31))), (.int (192 : Int32)), (.int (0 : Int32)), (.ref b3_0)])) _
    refine XS.ior X3.here hx rfl (hb hby d14_86) rfl ?_
    show Steps p.tables e below (T3.setTop (mkF m 87 #[.val (.int (0 : Int32)), .val (.ref a1), .val (.int (1 : Int32)), .val (.int (1 : Int32)), .val (.ref b3_0), .val (.ref a1), .val (.int (1 : Int32)), .val (.int (0 : Int32)), .val (.int pv)] [(.int ((192 : Int32) ||| ((pv &&& (255 : Int32)) >>> ((6 : Int32) &&& 31)))), (.int (0 : Int32)), (.ref b3_0)])) _
    refine XS.i2b X3.here hx rfl (hb hby d14_87) rfl ?_
    show Steps p.tables e below (T3.setTop (mkF m 88 #[.val (.int (0 : Int32)), .val (.ref a1), .val (.int (1 : Int32)), .val (.int (1 : Int32)), .val (.ref b3_0), .val (.ref a1), .val (.int (1 : Int32)), .val (.int (0 : Int32)), .val (.int pv)] [(.int (((192 : Int32) ||| ((pv &&& (255 : Int32)) >>> ((6 : Int32) &&& 31))).toInt8.toInt32)), (.int (0 : Int32)), (.ref b3_0)])) _
    refine st10 _ ?_
    show Steps p.tables e below (T10.setTop (mkF m 89 #[.val (.int (0 : Int32)), .val (.ref a1), .val (.int (1 : Int32)), .val (.int (1 : Int32)), .val (.ref b3_0), .val (.ref a1), .val (.int (1 : Int32)), .val (.int (0 : Int32)), .val (.int pv)] [])) _
    refine XS.aload X10.here hx rfl (hb hby d14_89) rfl rfl ?_
    show Steps p.tables e below (T10.setTop (mkF m 91 #[.val (.int (0 : Int32)), .val (.ref a1), .val (.int (1 : Int32)), .val (.int (1 : Int32)), .val (.ref b3_0), .val (.ref a1), .val (.int (1 : Int32)), .val (.int (0 : Int32)), .val (.int pv)] [(.ref b3_0)])) _
    refine XS.iloadN X10.here hx rfl (hb hby d14_91) rfl ?_
    show Steps p.tables e below (T10.setTop (mkF m 92 #[.val (.int (0 : Int32)), .val (.ref a1), .val (.int (1 : Int32)), .val (.int (1 : Int32)), .val (.ref b3_0), .val (.ref a1), .val (.int (1 : Int32)), .val (.int (0 : Int32)), .val (.int pv)] [(.int (1 : Int32)), (.ref b3_0)])) _
    refine XS.iinc X10.here hx rfl (hb hby d14_92) rfl (l' := #[.val (.int (0 : Int32)), .val (.ref a1), .val (.int (1 : Int32)), .val (.int (2 : Int32)), .val (.ref b3_0), .val (.ref a1), .val (.int (1 : Int32)), .val (.int (0 : Int32)), .val (.int pv)]) rfl ?_
    show Steps p.tables e below (T10.setTop (mkF m 95 #[.val (.int (0 : Int32)), .val (.ref a1), .val (.int (1 : Int32)), .val (.int (2 : Int32)), .val (.ref b3_0), .val (.ref a1), .val (.int (1 : Int32)), .val (.int (0 : Int32)), .val (.int pv)] [(.int (1 : Int32)), (.ref b3_0)])) _
    refine XS.sipush X10.here hx rfl (hb hby d14_95) ?_
    show Steps p.tables e below (T10.setTop (mkF m 98 #[.val (.int (0 : Int32)), .val (.ref a1), .val (.int (1 : Int32)), .val (.int (2 : Int32)), .val (.ref b3_0), .val (.ref a1), .val (.int (1 : Int32)), .val (.int (0 : Int32)), .val (.int pv)] [(.int (128 : Int32)), (.int (1 : Int32)), (.ref b3_0)])) _
    refine XS.iload X10.here hx rfl (hb hby d14_98) rfl ?_
    show Steps p.tables e below (T10.setTop (mkF m 100 #[.val (.int (0 : Int32)), .val (.ref a1), .val (.int (1 : Int32)), .val (.int (2 : Int32)), .val (.ref b3_0), .val (.ref a1), .val (.int (1 : Int32)), .val (.int (0 : Int32)), .val (.int pv)] [(.int pv), (.int (128 : Int32)), (.int (1 : Int32)), (.ref b3_0)])) _
    refine XS.bipush X10.here hx rfl (hb hby d14_100) ?_
    show Steps p.tables e below (T10.setTop (mkF m 102 #[.val (.int (0 : Int32)), .val (.ref a1), .val (.int (1 : Int32)), .val (.int (2 : Int32)), .val (.ref b3_0), .val (.ref a1), .val (.int (1 : Int32)), .val (.int (0 : Int32)), .val (.int pv)] [(.int (63 : Int32)), (.int pv), (.int (128 : Int32)), (.int (1 : Int32)), (.ref b3_0)])) _
    refine XS.iand X10.here hx rfl (hb hby d14_102) rfl ?_
    show Steps p.tables e below (T10.setTop (mkF m 103 #[.val (.int (0 : Int32)), .val (.ref a1), .val (.int (1 : Int32)), .val (.int (2 : Int32)), .val (.ref b3_0), .val (.ref a1), .val (.int (1 : Int32)), .val (.int (0 : Int32)), .val (.int pv)] [(.int (pv &&& (63 : Int32))), (.int (128 : Int32)), (.int (1 : Int32)), (.ref b3_0)])) _
    refine XS.ior X10.here hx rfl (hb hby d14_103) rfl ?_
    show Steps p.tables e below (T10.setTop (mkF m 104 #[.val (.int (0 : Int32)), .val (.ref a1), .val (.int (1 : Int32)), .val (.int (2 : Int32)), .val (.ref b3_0), .val (.ref a1), .val (.int (1 : Int32)), .val (.int (0 : Int32)), .val (.int pv)] [(.int ((128 : Int32) ||| (pv &&& (63 : Int32)))), (.int (1 : Int32)), (.ref b3_0)])) _
    refine XS.i2b X10.here hx rfl (hb hby d14_104) rfl ?_
    show Steps p.tables e below (T10.setTop (mkF m 105 #[.val (.int (0 : Int32)), .val (.ref a1), .val (.int (1 : Int32)), .val (.int (2 : Int32)), .val (.ref b3_0), .val (.ref a1), .val (.int (1 : Int32)), .val (.int (0 : Int32)), .val (.int pv)] [(.int (((128 : Int32) ||| (pv &&& (63 : Int32))).toInt8.toInt32)), (.int (1 : Int32)), (.ref b3_0)])) _
    refine st13 _ ?_
    show Steps p.tables e below (T13.setTop (mkF m 106 #[.val (.int (0 : Int32)), .val (.ref a1), .val (.int (1 : Int32)), .val (.int (2 : Int32)), .val (.ref b3_0), .val (.ref a1), .val (.int (1 : Int32)), .val (.int (0 : Int32)), .val (.int pv)] [])) _
    refine XS.goto X13.here hx rfl (pc0 := 106) (pc' := 118) rfl (hb hby d14_106) (by decide) (by decide) ?_
    show Steps p.tables e below (T13.setTop (mkF m 118 #[.val (.int (0 : Int32)), .val (.ref a1), .val (.int (1 : Int32)), .val (.int (2 : Int32)), .val (.ref b3_0), .val (.ref a1), .val (.int (1 : Int32)), .val (.int (0 : Int32)), .val (.int pv)] [])) _
    refine XS.iinc X13.here hx rfl (hb hby d14_118) rfl (l' := #[.val (.int (0 : Int32)), .val (.ref a1), .val (.int (1 : Int32)), .val (.int (2 : Int32)), .val (.ref b3_0), .val (.ref a1), .val (.int (1 : Int32)), .val (.int (1 : Int32)), .val (.int pv)]) rfl ?_
    show Steps p.tables e below (T13.setTop (mkF m 121 #[.val (.int (0 : Int32)), .val (.ref a1), .val (.int (1 : Int32)), .val (.int (2 : Int32)), .val (.ref b3_0), .val (.ref a1), .val (.int (1 : Int32)), .val (.int (1 : Int32)), .val (.int pv)] [])) _
    refine XS.goto X13.here hx rfl (pc0 := 121) (pc' := 49) rfl (hb hby d14_121) (by decide) (by decide) ?_
    show Steps p.tables e below (T13.setTop (mkF m 49 #[.val (.int (0 : Int32)), .val (.ref a1), .val (.int (1 : Int32)), .val (.int (2 : Int32)), .val (.ref b3_0), .val (.ref a1), .val (.int (1 : Int32)), .val (.int (1 : Int32)), .val (.int pv)] [])) _
    refine XS.iload X13.here hx rfl (hb hby d14_49) rfl ?_
    show Steps p.tables e below (T13.setTop (mkF m 51 #[.val (.int (0 : Int32)), .val (.ref a1), .val (.int (1 : Int32)), .val (.int (2 : Int32)), .val (.ref b3_0), .val (.ref a1), .val (.int (1 : Int32)), .val (.int (1 : Int32)), .val (.int pv)] [(.int (1 : Int32))])) _
    refine XS.iload X13.here hx rfl (hb hby d14_51) rfl ?_
    show Steps p.tables e below (T13.setTop (mkF m 53 #[.val (.int (0 : Int32)), .val (.ref a1), .val (.int (1 : Int32)), .val (.int (2 : Int32)), .val (.ref b3_0), .val (.ref a1), .val (.int (1 : Int32)), .val (.int (1 : Int32)), .val (.int pv)] [(.int (1 : Int32)), (.int (1 : Int32))])) _
    refine XS.icmpYes X13.here hx rfl (pc0 := 53) (pc' := 124) rfl (hb hby d14_53) rfl (flt (by decide : ¬ ((1 : Int32) < (1 : Int32)))).2.1 (by decide) (by decide) ?_
    show Steps p.tables e below (T13.setTop (mkF m 124 #[.val (.int (0 : Int32)), .val (.ref a1), .val (.int (1 : Int32)), .val (.int (2 : Int32)), .val (.ref b3_0), .val (.ref a1), .val (.int (1 : Int32)), .val (.int (1 : Int32)), .val (.int pv)] [])) _
    refine XS.iloadN X13.here hx rfl (hb hby d14_124) rfl ?_
    show Steps p.tables e below (T13.setTop (mkF m 125 #[.val (.int (0 : Int32)), .val (.ref a1), .val (.int (1 : Int32)), .val (.int (2 : Int32)), .val (.ref b3_0), .val (.ref a1), .val (.int (1 : Int32)), .val (.int (1 : Int32)), .val (.int pv)] [(.int (2 : Int32))])) _
    refine XS.aload X13.here hx rfl (hb hby d14_125) rfl rfl ?_
    show Steps p.tables e below (T13.setTop (mkF m 127 #[.val (.int (0 : Int32)), .val (.ref a1), .val (.int (1 : Int32)), .val (.int (2 : Int32)), .val (.ref b3_0), .val (.ref a1), .val (.int (1 : Int32)), .val (.int (1 : Int32)), .val (.int pv)] [(.ref b3_0), (.int (2 : Int32))])) _
    refine X13.arraylength hx (by rw [e13]; exact Ar14.1) (State.isArrayOf_alike hZ.alike Ar14.2.1) (g := (mkF m 127 #[.val (.int (0 : Int32)), .val (.ref a1), .val (.int (1 : Int32)), .val (.int (2 : Int32)), .val (.ref b3_0), .val (.ref a1), .val (.int (1 : Int32)), .val (.int (1 : Int32)), .val (.int pv)] [(.ref b3_0), (.int (2 : Int32))])) rfl rfl (hb hby d14_127) _ ?_
    rw [len_of Sz14 Ng14]
    show Steps p.tables e below (T13.setTop (mkF m 128 #[.val (.int (0 : Int32)), .val (.ref a1), .val (.int (1 : Int32)), .val (.int (2 : Int32)), .val (.ref b3_0), .val (.ref a1), .val (.int (1 : Int32)), .val (.int (1 : Int32)), .val (.int pv)] [(.int (2 : Int32)), (.int (2 : Int32))])) _
    refine XS.icmpNo X13.here hx rfl (hb hby d14_128) rfl (teq (by decide : (2 : Int32) = (2 : Int32))).2 ?_
    show Steps p.tables e below (T13.setTop (mkF m 131 #[.val (.int (0 : Int32)), .val (.ref a1), .val (.int (1 : Int32)), .val (.int (2 : Int32)), .val (.ref b3_0), .val (.ref a1), .val (.int (1 : Int32)), .val (.int (1 : Int32)), .val (.int pv)] [])) _
    refine XS.aload X13.here hx rfl (hb hby d14_131) rfl rfl ?_
    show Steps p.tables e below (T13.setTop (mkF m 133 #[.val (.int (0 : Int32)), .val (.ref a1), .val (.int (1 : Int32)), .val (.int (2 : Int32)), .val (.ref b3_0), .val (.ref a1), .val (.int (1 : Int32)), .val (.int (1 : Int32)), .val (.int pv)] [(.ref b3_0)])) _
    jvm_step X13.here [X13.here.top, hx, (hb hby d14_133), X13.method', Bd.returns, Value.isRef, FieldType.isReference]
    first | (intro acts; rw [hr _ acts rfl rfl rfl]) | rw [hr _ _ rfl rfl rfl]
    exact Steps.refl _
  · show Q14n Z a1 k1 pv h0 n0 _ T13.heap _
    rw [e13]
    exact ⟨b3_0, kk3_0, rfl, N13, sz_b3_0, K13, E_b3_0_u15, V_b3_0_13⟩
theorem ef_rm13n (m : MethodId) (aU : Addr) (a2 : Addr) : entryFrame m #[(.ref aU), (.int (0 : Int32)), (.ref a2)] 3 = mkF m 0 #[.val (.ref aU), .val (.int (0 : Int32)), .val (.ref a2)] [] := by first | (simp [entryFrame, mkF, argsToLocals, Value.category]; done) | rfl
def Q13n (Z : State) (aU : Addr) (a2 : Addr) (k2 : ClassId) (pv : Int32) (h0 : Heap) (n0 : Nat) (v : Option Value) (h : Heap) (L : List Loc) : Prop := ∃ r0 : Addr, ∃ rk0 : ClassId, v = some (.ref r0) ∧ Fr n0 L ∧ h0.size ≤ r0 ∧ Keep h0 h [] ∧ Exa Z h r0 "[B" ∧ Arv Z h r0 rk0 .byte (2 : Int32) [(.int (((192 : Int32) ||| ((pv &&& (255 : Int32)) >>> ((6 : Int32) &&& 31))).toInt8.toInt32)), (.int (((128 : Int32) ||| (pv &&& (63 : Int32))).toInt8.toInt32))] (.int (0 : Int32))
set_option maxRecDepth 65536 in
set_option maxHeartbeats 40000000 in
theorem rm13n (l : Launch) (Z : State) (az : Array Value) (hw : ∀ d ∈ tables_1, d.before az Z = true) (ws : List Jvm.Cond) (aU : Addr) (a2 : Addr) (k2 : ClassId) (pv : Int32) (h0 : Heap) (n0 : Nat) (Z0 : n0 ≤ h0.size) (S_INSTANCE : Sta Z h0 "sun/nio/cs/UTF_8" "INSTANCE" "Lsun/nio/cs/UTF_8;" (.ref aU)) (V_a2 : Arv Z h0 a2 k2 .byte (1 : Int32) [(.int pv)] (.int (0 : Int32))) (E_a2 : Exa Z h0 a2 "[B") (hc3 : pv < (0 : Int32)) :
    MetFree l (⟨"java/lang/String", "encode", "(Ljava/nio/charset/Charset;B[B)[B"⟩ : MethodName) (head1 (Jvm.Cond.code (⟨"java/lang/String", "encode", "(Ljava/nio/charset/Charset;B[B)[B"⟩ : MethodName) jdk_42_method_18_code 3 (some (.array .byte)) :: ws) ({ frames := 3, cells := 1, slots := 2, locals := 50 } : Room)) (fun a U => a = #[(.ref aU), (.int (0 : Int32)), (.ref a2)] ∧ Z.Warmed39 U.vm ∧ U.heap = h0) (fun _ _ _ _ _ => True) (fun _ U o U' => ∃ v L, o = .returned v ∧ Q13n Z aU a2 k2 pv h0 n0 v U'.heap L ∧ FrameEnd U o U' L ({ frames := 3, cells := 1, slots := 2, locals := 50 } : Room).cells ({ frames := 3, cells := 1, slots := 2, locals := 50 } : Room).slots) := by
  refine MetFree.of_bodySF (plainFor_of_name pn_java_lang_String) hisR ?_
  intro p e s m args below meth c s₁ Bd hml0 hP hK
  obtain ⟨rfl, hZ, hh⟩ := hP
  have hx := Bd.exec
  have hby := Bd.bytes
  have hml : c.maxLocals = 3 := hml0
  have hown : s.vm.findClass "java/lang/String" = some m.cls := findClass_of_methodNamed Bd.named
  have hnm := (name_of_methodNamed Bd.named Bd.method).1
  have X0 : Stand p l e ({ frames := 3, cells := 1, slots := 2, locals := 50 } : Room) s m #[(.ref aU), (.int (0 : Int32)), (.ref a2)] below meth c s₁ [] 0 0 := Stand.of_body Bd
  have e0 : s₁.heap = h0 := by rw [← hh, Bd.state]; rfl
  have N0 := Fr.nil n0
  have pre0 : ∀ t, Steps p.tables e below (s₁.setTop (mkF m 0 #[.val (.ref aU), .val (.int (0 : Int32)), .val (.ref a2)] [])) t → Steps p.tables e below (s₁.setTop (entryFrame m #[(.ref aU), (.int (0 : Int32)), (.ref a2)] 3)) t := fun t k => castTop (ef_rm13n m aU a2) k
  obtain ⟨T1, X1, e1, st1⟩ := getS2 X0 hx hZ hown (host := "") (Or.inl (hw _ (List.mem_of_getElem? (i := 73) rfl))) Via.refl e0 S_INSTANCE (g := (mkF m 1 #[.val (.ref aU), .val (.int (0 : Int32)), .val (.ref a2)] [(.ref aU)])) rfl (hb hby d13_1)
  obtain ⟨_, _, ⟨T2, L2, k2', n2'⟩, -, X2, ⟨Lc2, hQ2, l2, y2, z2⟩, st2⟩ := Jvm.LawKit.callS X1 hx (y := (⟨"java/lang/String", "encodeUTF8", "(B[BZ)[B"⟩ : MethodName)) hown (mvT hZ (hw _ (List.mem_of_getElem? (i := 75) rfl))) (mvT hZ (hw _ (List.mem_of_getElem? (i := 76) rfl))) (mvT hZ (hw _ (List.mem_of_getElem? (i := 7) rfl))) (mvT hZ (hw _ (List.mem_of_getElem? (i := 77) rfl))) (by decide) (backOf (W := 0) (rm14n l Z az hw [] a2 k2 pv h0 n0 Z0 V_a2 E_a2 hc3) hZ (hw _ (List.mem_of_getElem? (i := 77) rfl)) (hw _ (List.mem_of_getElem? (i := 7) rfl)) (by decide) (by decide)) (g := (mkF m 10 #[.val (.ref aU), .val (.int (0 : Int32)), .val (.ref a2)] [(.int (1 : Int32)), (.ref a2), (.int (0 : Int32))])) rfl (by rw [hml]; rfl) (argsL := [(.int (0 : Int32)), (.ref a2), (.int (1 : Int32))]) (rest := []) (lenOf pd_2 rfl) rfl (by show 2 * 0 + _ ≤ _; exact Nat.le_of_eq rfl) (hb hby d13_10) (fun _ _ => ⟨rfl, e1, (by decide : 0 + 1 ≤ _), (by decide : 0 + 2 ≤ _)⟩)
  dsimp only [Pt.U, Pt.locs, Pt.cells, Pt.slots] at X2 l2 y2 z2 st2 hQ2
  subst l2 y2 z2
  obtain ⟨b2_0, kk2_0, rfl, N2q, s2_0, kq2, pf2_0, pf2_1⟩ := hQ2
  have N2 := Fr.app N0 N2q
  have g_b2_0 : n0 ≤ b2_0 := Nat.le_trans Z0 s2_0
  have sz_b2_0 : h0.size ≤ b2_0 := Nat.le_trans (Nat.le_refl _) s2_0
  have K2 : Keep h0 T2.heap [] := (Keep.refl h0 []).trans kq2 all0
  have Z2 : n0 ≤ T2.heap.size := Nat.le_trans Z0 kq2.1
  obtain ⟨fs, hr, hrun, hended, hW, hsame⟩ := X2.leave (v := some (.ref b2_0)) (fun h => by rw [Bd.returns] at h; cases h)
  refine ⟨_, _, pre0 _ ?_, hrun, hended, _, _, rfl, ?_, ⟨_, rfl⟩, hW, hsame.mono (by decide) (by decide)⟩
  · show Steps p.tables e below (s₁.setTop (mkF m 0 #[.val (.ref aU), .val (.int (0 : Int32)), .val (.ref a2)] [])) _
    refine XS.aloadN X0.here hx rfl (hb hby d13_0) rfl rfl ?_
    show Steps p.tables e below (s₁.setTop (mkF m 1 #[.val (.ref aU), .val (.int (0 : Int32)), .val (.ref a2)] [(.ref aU)])) _
    refine st1 _ ?_
    show Steps p.tables e below (T1.setTop (mkF m 4 #[.val (.ref aU), .val (.int (0 : Int32)), .val (.ref a2)] [(.ref aU), (.ref aU)])) _
    refine Jvm.RoadKit.acmp (g := (mkF m 4 #[.val (.ref aU), .val (.int (0 : Int32)), .val (.ref a2)] [(.ref aU), (.ref aU)])) X1 hx rfl rfl rfl (pc0 := 4) (pc' := 7) (same := true) rfl (hb hby d13_4) rfl (decide_eq_true rfl) (by decide) (by decide) ?_
    show Steps p.tables e below (T1.setTop (mkF m 7 #[.val (.ref aU), .val (.int (0 : Int32)), .val (.ref a2)] [])) _
    refine XS.iloadN X1.here hx rfl (hb hby d13_7) rfl ?_
    show Steps p.tables e below (T1.setTop (mkF m 8 #[.val (.ref aU), .val (.int (0 : Int32)), .val (.ref a2)] [(.int (0 : Int32))])) _
    refine XS.aloadN X1.here hx rfl (hb hby d13_8) rfl rfl ?_
    show Steps p.tables e below (T1.setTop (mkF m 9 #[.val (.ref aU), .val (.int (0 : Int32)), .val (.ref a2)] [(.ref a2), (.int (0 : Int32))])) _
    refine XS.iconst X1.here hx rfl (hb hby d13_9) ?_
    show Steps p.tables e below (T1.setTop (mkF m 10 #[.val (.ref aU), .val (.int (0 : Int32)), .val (.ref a2)] [(.int (1 : Int32)), (.ref a2), (.int (0 : Int32))])) _
    refine st2 _ ?_
    show Steps p.tables e below (T2.setTop (mkF m 13 #[.val (.ref aU), .val (.int (0 : Int32)), .val (.ref a2)] [(.ref b2_0)])) _
    jvm_step X2.here [X2.here.top, hx, (hb hby d13_13), X2.method', Bd.returns, Value.isRef, FieldType.isReference]
    first | (intro acts; rw [hr _ acts rfl rfl rfl]) | rw [hr _ _ rfl rfl rfl]
    exact Steps.refl _
  · show Q13n Z aU a2 k2 pv h0 n0 _ T2.heap _
    exact ⟨b2_0, kk2_0, rfl, N2, sz_b2_0, K2, pf2_0, pf2_1⟩
theorem ef_rm11n (m : MethodId) (a0 : Addr) (aU : Addr) : entryFrame m #[(.ref a0), (.ref aU)] 2 = mkF m 0 #[.val (.ref a0), .val (.ref aU)] [] := by first | (simp [entryFrame, mkF, argsToLocals, Value.category]; done) | rfl
def Q11n (Z : State) (a0 : Addr) (aU : Addr) (aB : Addr) (kB : ClassId) (pv : Int32) (s_COMPACT_STRINGS : Int32) (h0 : Heap) (n0 : Nat) (v : Option Value) (h : Heap) (L : List Loc) : Prop := ∃ r0 : Addr, ∃ rk0 : ClassId, v = some (.ref r0) ∧ Fr n0 L ∧ h0.size ≤ r0 ∧ Keep h0 h [] ∧ Exa Z h r0 "[B" ∧ Arv Z h r0 rk0 .byte (2 : Int32) [(.int (((192 : Int32) ||| ((pv &&& (255 : Int32)) >>> ((6 : Int32) &&& 31))).toInt8.toInt32)), (.int (((128 : Int32) ||| (pv &&& (63 : Int32))).toInt8.toInt32))] (.int (0 : Int32))
set_option maxRecDepth 65536 in
set_option maxHeartbeats 40000000 in
theorem rm11n (l : Launch) (Z : State) (az : Array Value) (hw : ∀ d ∈ tables_1, d.before az Z = true) (ws : List Jvm.Cond) (a0 : Addr) (aU : Addr) (aB : Addr) (kB : ClassId) (pv : Int32) (s_COMPACT_STRINGS : Int32) (h0 : Heap) (n0 : Nat) (Z0 : n0 ≤ h0.size) (E_a0 : Exa Z h0 a0 "java/lang/String") (F_coder_a0 : Fld Z h0 a0 "java/lang/String" "coder" "B" (.int (0 : Int32))) (F_value_a0 : Fld Z h0 a0 "java/lang/String" "value" "[B" (.ref aB)) (V_aB : Arv Z h0 aB kB .byte (1 : Int32) [(.int pv)] (.int (0 : Int32))) (E_aB : Exa Z h0 aB "[B") (S_INSTANCE : Sta Z h0 "sun/nio/cs/UTF_8" "INSTANCE" "Lsun/nio/cs/UTF_8;" (.ref aU)) (hc6 : pv < (0 : Int32)) (S_COMPACT_STRINGS : Sta Z h0 "java/lang/String" "COMPACT_STRINGS" "Z" (.int s_COMPACT_STRINGS)) (hc8 : ¬ (s_COMPACT_STRINGS = (0 : Int32))) :
    MetFree l (⟨"java/lang/String", "getBytes", "(Ljava/nio/charset/Charset;)[B"⟩ : MethodName) (head1 (Jvm.Cond.code (⟨"java/lang/String", "getBytes", "(Ljava/nio/charset/Charset;)[B"⟩ : MethodName) jdk_42_method_64_code 2 (some (.array .byte)) :: ws) ({ frames := 4, cells := 1, slots := 2, locals := 64 } : Room)) (fun a U => a = #[(.ref a0), (.ref aU)] ∧ Z.Warmed39 U.vm ∧ U.heap = h0) (fun _ _ _ _ _ => True) (fun _ U o U' => ∃ v L, o = .returned v ∧ Q11n Z a0 aU aB kB pv s_COMPACT_STRINGS h0 n0 v U'.heap L ∧ FrameEnd U o U' L ({ frames := 4, cells := 1, slots := 2, locals := 64 } : Room).cells ({ frames := 4, cells := 1, slots := 2, locals := 64 } : Room).slots) := by
  refine MetFree.of_bodySF (plainFor_of_name pn_java_lang_String) hisR ?_
  intro p e s m args below meth c s₁ Bd hml0 hP hK
  obtain ⟨rfl, hZ, hh⟩ := hP
  have hx := Bd.exec
  have hby := Bd.bytes
  have hml : c.maxLocals = 2 := hml0
  have hown : s.vm.findClass "java/lang/String" = some m.cls := findClass_of_methodNamed Bd.named
  have hnm := (name_of_methodNamed Bd.named Bd.method).1
  have X0 : Stand p l e ({ frames := 4, cells := 1, slots := 2, locals := 64 } : Room) s m #[(.ref a0), (.ref aU)] below meth c s₁ [] 0 0 := Stand.of_body Bd
  have e0 : s₁.heap = h0 := by rw [← hh, Bd.state]; rfl
  have N0 := Fr.nil n0
  have pre0 : ∀ t, Steps p.tables e below (s₁.setTop (mkF m 0 #[.val (.ref a0), .val (.ref aU)] [])) t → Steps p.tables e below (s₁.setTop (entryFrame m #[(.ref a0), (.ref aU)] 2)) t := fun t k => castTop (ef_rm11n m a0 aU) k
  obtain ⟨cq1, kq1, q1a, q1b, q1c⟩ := isOf hZ e0 E_a0
  obtain ⟨_, _, ⟨T1, L1, k1', n1'⟩, -, X1, ⟨Lc1, hQ1, l1, y1, z1⟩, st1⟩ := X0.virtualBack hx (y := (⟨"java/lang/String", "coder", "()B"⟩ : MethodName)) (z := (⟨"java/lang/String", "coder", "()B"⟩ : MethodName)) hown (mvT hZ (hw _ (List.mem_of_getElem? (i := 65) rfl))) (mvT hZ (hw _ (List.mem_of_getElem? (i := 66) rfl))) (notFace_of_selects (args := #[]) (mvT hZ (hw _ (List.mem_of_getElem? (i := 68) rfl)))) (mvT hZ (hw _ (List.mem_of_getElem? (i := 68) rfl))) (mvT hZ (hw _ (List.mem_of_getElem? (i := 67) rfl))) (by decide) (backOf (W := 1) (rm12 l Z az hw [] a0 s_COMPACT_STRINGS h0 n0 Z0 F_coder_a0 S_COMPACT_STRINGS hc8) hZ (hw _ (List.mem_of_getElem? (i := 69) rfl)) (hw _ (List.mem_of_getElem? (i := 7) rfl)) (by decide) (by decide)) q1a q1c (g := (mkF m 14 #[.val (.ref a0), .val (.ref aU)] [(.ref a0), (.ref aU)])) rfl (by rw [hml]; rfl) (Steps.refl _) (argsL := []) (rest := [(.ref aU)]) (lenOf pd_3 rfl) rfl (by show 2 * 0 + _ ≤ _; exact Nat.le_of_eq rfl) (hb hby d11_14) (fun _ _ => ⟨rfl, e0, (by decide : 0 + 0 ≤ _), (by decide : 0 + 0 ≤ _)⟩)
  dsimp only [Pt.U, Pt.locs, Pt.cells, Pt.slots] at X1 l1 y1 z1 st1 hQ1
  subst l1 y1 z1
  obtain ⟨rfl, N1q, e1⟩ := hQ1
  have N1 := Fr.app N0 N1q
  obtain ⟨T2, X2, e2, st2⟩ := getF X1 hx hZ hown (host := "") (Or.inl (hw _ (List.mem_of_getElem? (i := 32) rfl))) Via.refl e1 F_value_a0 (g := (mkF m 18 #[.val (.ref a0), .val (.ref aU)] [(.ref a0), (.int (0 : Int32)), (.ref aU)])) rfl rfl (hb hby d11_18)
  obtain ⟨_, _, ⟨T3, L3, k3', n3'⟩, -, X3, ⟨Lc3, hQ3, l3, y3, z3⟩, st3⟩ := Jvm.LawKit.callS X2 hx (y := (⟨"java/lang/String", "encode", "(Ljava/nio/charset/Charset;B[B)[B"⟩ : MethodName)) hown (mvT hZ (hw _ (List.mem_of_getElem? (i := 70) rfl))) (mvT hZ (hw _ (List.mem_of_getElem? (i := 71) rfl))) (mvT hZ (hw _ (List.mem_of_getElem? (i := 7) rfl))) (mvT hZ (hw _ (List.mem_of_getElem? (i := 72) rfl))) (by decide) (backOf (W := 0) (rm13n l Z az hw [] aU aB kB pv h0 n0 Z0 S_INSTANCE V_aB E_aB hc6) hZ (hw _ (List.mem_of_getElem? (i := 72) rfl)) (hw _ (List.mem_of_getElem? (i := 7) rfl)) (by decide) (by decide)) (g := (mkF m 21 #[.val (.ref a0), .val (.ref aU)] [(.ref aB), (.int (0 : Int32)), (.ref aU)])) rfl (by rw [hml]; rfl) (argsL := [(.ref aU), (.int (0 : Int32)), (.ref aB)]) (rest := []) (lenOf pd_4 rfl) rfl (by show 2 * 0 + _ ≤ _; exact Nat.le_of_eq rfl) (hb hby d11_21) (fun _ _ => ⟨rfl, e2, (by decide : 0 + 1 ≤ _), (by decide : 0 + 2 ≤ _)⟩)
  dsimp only [Pt.U, Pt.locs, Pt.cells, Pt.slots] at X3 l3 y3 z3 st3 hQ3
  subst l3 y3 z3
  obtain ⟨b3_0, kk3_0, rfl, N3q, s3_0, kq3, pf3_0, pf3_1⟩ := hQ3
  have N3 := Fr.app N1 N3q
  have g_b3_0 : n0 ≤ b3_0 := Nat.le_trans Z0 s3_0
  have sz_b3_0 : h0.size ≤ b3_0 := Nat.le_trans (Nat.le_refl _) s3_0
  have K3 : Keep h0 T3.heap [] := (Keep.refl h0 []).trans kq3 all0
  have Z3 : n0 ≤ T3.heap.size := Nat.le_trans Z0 kq3.1
  obtain ⟨fs, hr, hrun, hended, hW, hsame⟩ := X3.leave (v := some (.ref b3_0)) (fun h => by rw [Bd.returns] at h; cases h)
  refine ⟨_, _, pre0 _ ?_, hrun, hended, _, _, rfl, ?_, ⟨_, rfl⟩, hW, hsame.mono (by decide) (by decide)⟩
  · show Steps p.tables e below (s₁.setTop (mkF m 0 #[.val (.ref a0), .val (.ref aU)] [])) _
    refine XS.aloadN X0.here hx rfl (hb hby d11_0) rfl rfl ?_
    show Steps p.tables e below (s₁.setTop (mkF m 1 #[.val (.ref a0), .val (.ref aU)] [(.ref aU)])) _
    refine XS.ifnonnullYes X0.here hx rfl (pc0 := 1) (pc' := 12) rfl (hb hby d11_1) rfl (by decide) (by decide) ?_
    show Steps p.tables e below (s₁.setTop (mkF m 12 #[.val (.ref a0), .val (.ref aU)] [])) _
    refine XS.aloadN X0.here hx rfl (hb hby d11_12) rfl rfl ?_
    show Steps p.tables e below (s₁.setTop (mkF m 13 #[.val (.ref a0), .val (.ref aU)] [(.ref aU)])) _
    refine XS.aloadN X0.here hx rfl (hb hby d11_13) rfl rfl ?_
    show Steps p.tables e below (s₁.setTop (mkF m 14 #[.val (.ref a0), .val (.ref aU)] [(.ref a0), (.ref aU)])) _
    refine st1.trans ?_
    show Steps p.tables e below (T1.setTop (mkF m 17 #[.val (.ref a0), .val (.ref aU)] [(.int (0 : Int32)), (.ref aU)])) _
    refine XS.aloadN X1.here hx rfl (hb hby d11_17) rfl rfl ?_
    show Steps p.tables e below (T1.setTop (mkF m 18 #[.val (.ref a0), .val (.ref aU)] [(.ref a0), (.int (0 : Int32)), (.ref aU)])) _
    refine st2 _ ?_
    show Steps p.tables e below (T2.setTop (mkF m 21 #[.val (.ref a0), .val (.ref aU)] [(.ref aB), (.int (0 : Int32)), (.ref aU)])) _
    refine st3 _ ?_
    show Steps p.tables e below (T3.setTop (mkF m 24 #[.val (.ref a0), .val (.ref aU)] [(.ref b3_0)])) _
    jvm_step X3.here [X3.here.top, hx, (hb hby d11_24), X3.method', Bd.returns, Value.isRef, FieldType.isReference]
    first | (intro acts; rw [hr _ acts rfl rfl rfl]) | rw [hr _ _ rfl rfl rfl]
    exact Steps.refl _
  · show Q11n Z a0 aU aB kB pv s_COMPACT_STRINGS h0 n0 _ T3.heap _
    exact ⟨b3_0, kk3_0, rfl, N3, sz_b3_0, K3, pf3_0, pf3_1⟩
theorem ef_rm9n (m : MethodId) (a0 : Addr) (a1 : Addr) : entryFrame m #[(.ref a0), (.ref a1)] 2 = mkF m 0 #[.val (.ref a0), .val (.ref a1)] [] := by first | (simp [entryFrame, mkF, argsToLocals, Value.category]; done) | rfl
def Q9n (Z : State) (a0 : Addr) (a1 : Addr) (aB : Addr) (kB : ClassId) (pv : Int32) (aU : Addr) (s_COMPACT_STRINGS : Int32) (h0 : Heap) (n0 : Nat) (v : Option Value) (h : Heap) (L : List Loc) : Prop := ∃ r0 : Addr, ∃ rk0 : ClassId, v = none ∧ Fr n0 L ∧ h0.size ≤ r0 ∧ Keep h0 h [a0] ∧ Exa Z h a0 "com/example/fireweed/fireweed/layout/Java31ByteSalt" ∧ Fld Z h a0 "com/example/fireweed/fireweed/layout/Salt" "suffix" "Ljava/lang/String;" (.ref a1) ∧ Fld Z h a0 "com/example/fireweed/fireweed/layout/Salt" "suffixBytes" "[B" (.ref r0) ∧ Fld Z h a0 "com/example/fireweed/fireweed/layout/Java31ByteSalt" "buckets" "I" (.int (0 : Int32)) ∧ Fld Z h a0 "com/example/fireweed/fireweed/layout/Java31ByteSalt" "mask" "I" (.int (0 : Int32)) ∧ Fld Z h a0 "com/example/fireweed/fireweed/layout/Java31ByteSalt" "overflow" "I" (.int (0 : Int32)) ∧ Exa Z h r0 "[B" ∧ Arv Z h r0 rk0 .byte (2 : Int32) [(.int (((192 : Int32) ||| ((pv &&& (255 : Int32)) >>> ((6 : Int32) &&& 31))).toInt8.toInt32)), (.int (((128 : Int32) ||| (pv &&& (63 : Int32))).toInt8.toInt32))] (.int (0 : Int32))
set_option maxRecDepth 65536 in
set_option maxHeartbeats 40000000 in
theorem rm9n (l : Launch) (Z : State) (az : Array Value) (hw : ∀ d ∈ tables_1, d.before az Z = true) (ws : List Jvm.Cond) (a0 : Addr) (a1 : Addr) (aB : Addr) (kB : ClassId) (pv : Int32) (aU : Addr) (s_COMPACT_STRINGS : Int32) (h0 : Heap) (n0 : Nat) (Z0 : n0 ≤ h0.size) (E_a0 : Exa Z h0 a0 "com/example/fireweed/fireweed/layout/Java31ByteSalt") (F_suffix_a0 : Fld Z h0 a0 "com/example/fireweed/fireweed/layout/Salt" "suffix" "Ljava/lang/String;" .null) (F_suffixBytes_a0 : Fld Z h0 a0 "com/example/fireweed/fireweed/layout/Salt" "suffixBytes" "[B" .null) (F_buckets_a0 : Fld Z h0 a0 "com/example/fireweed/fireweed/layout/Java31ByteSalt" "buckets" "I" (.int (0 : Int32))) (F_mask_a0 : Fld Z h0 a0 "com/example/fireweed/fireweed/layout/Java31ByteSalt" "mask" "I" (.int (0 : Int32))) (F_overflow_a0 : Fld Z h0 a0 "com/example/fireweed/fireweed/layout/Java31ByteSalt" "overflow" "I" (.int (0 : Int32))) (E_a1 : Exa Z h0 a1 "java/lang/String") (F_coder_a1 : Fld Z h0 a1 "java/lang/String" "coder" "B" (.int (0 : Int32))) (F_value_a1 : Fld Z h0 a1 "java/lang/String" "value" "[B" (.ref aB)) (V_aB : Arv Z h0 aB kB .byte (1 : Int32) [(.int pv)] (.int (0 : Int32))) (E_aB : Exa Z h0 aB "[B") (S_INSTANCE : Sta Z h0 "sun/nio/cs/UTF_8" "INSTANCE" "Lsun/nio/cs/UTF_8;" (.ref aU)) (S_UTF_8 : Sta Z h0 "java/nio/charset/StandardCharsets" "UTF_8" "Ljava/nio/charset/Charset;" (.ref aU)) (hc13 : pv < (0 : Int32)) (g_a0 : n0 ≤ a0) (S_COMPACT_STRINGS : Sta Z h0 "java/lang/String" "COMPACT_STRINGS" "Z" (.int s_COMPACT_STRINGS)) (hne_a1_a0 : a1 ≠ a0) (hne_aB_a0 : aB ≠ a0) (hc18 : ¬ (s_COMPACT_STRINGS = (0 : Int32))) :
    MetFree l (⟨"com/example/fireweed/fireweed/layout/Salt", "<init>", "(Ljava/lang/String;)V"⟩ : MethodName) (head1 (Jvm.Cond.code (⟨"com/example/fireweed/fireweed/layout/Salt", "<init>", "(Ljava/lang/String;)V"⟩ : MethodName) prog_11_method_1_code 2 none :: ws) ({ frames := 5, cells := 3, slots := 30, locals := 78 } : Room)) (fun a U => a = #[(.ref a0), (.ref a1)] ∧ Z.Warmed39 U.vm ∧ U.heap = h0) (fun _ _ _ _ _ => True) (fun _ U o U' => ∃ v L, o = .returned v ∧ Q9n Z a0 a1 aB kB pv aU s_COMPACT_STRINGS h0 n0 v U'.heap L ∧ ReturnedEndW U o U' L ({ frames := 5, cells := 3, slots := 30, locals := 78 } : Room).cells ({ frames := 5, cells := 3, slots := 30, locals := 78 } : Room).slots) := by
  refine MetFree.of_bodySF (plainFor_of_name pn_com_example_fireweed_fireweed_layout_Salt) hisR ?_
  intro p e s m args below meth c s₁ Bd hml0 hP hK
  obtain ⟨rfl, hZ, hh⟩ := hP
  have hx := Bd.exec
  have hby := Bd.bytes
  have hml : c.maxLocals = 2 := hml0
  have hown : s.vm.findClass "com/example/fireweed/fireweed/layout/Salt" = some m.cls := findClass_of_methodNamed Bd.named
  have hnm := (name_of_methodNamed Bd.named Bd.method).1
  have X0 : Stand p l e ({ frames := 5, cells := 3, slots := 30, locals := 78 } : Room) s m #[(.ref a0), (.ref a1)] below meth c s₁ [] 0 0 := Stand.of_body Bd
  have e0 : s₁.heap = h0 := by rw [← hh, Bd.state]; rfl
  have N0 := Fr.nil n0
  have pre0 : ∀ t, Steps p.tables e below (s₁.setTop (mkF m 0 #[.val (.ref a0), .val (.ref a1)] [])) t → Steps p.tables e below (s₁.setTop (entryFrame m #[(.ref a0), (.ref a1)] 2)) t := fun t k => castTop (ef_rm9n m a0 a1) k
  have hS0 : s.Since s.vm 0 := (State.WarmedH.refl s).since 0
  have wS : ∀ a ∈ Bundle.stringAtoms, a.before az Z = true := fun d hd => by
    simp only [Bundle.stringAtoms, List.mem_cons, List.not_mem_nil, or_false] at hd
    rcases hd with rfl | rfl | rfl | rfl | rfl | rfl | rfl
    · exact (hw _ (List.mem_of_getElem? (i := 7) rfl))
    · exact (hw _ (List.mem_of_getElem? (i := 6) rfl))
    · exact (hw _ (List.mem_of_getElem? (i := 23) rfl))
    · exact (hw _ (List.mem_of_getElem? (i := 33) rfl))
    · exact (hw _ (List.mem_of_getElem? (i := 31) rfl))
    · exact (hw _ (List.mem_of_getElem? (i := 49) rfl))
    · exact (hw _ (List.mem_of_getElem? (i := 50) rfl))
  obtain ⟨T1, X1, e1, st1⟩ := initO X0 hx hZ hown (hw _ (List.mem_of_getElem? (i := 47) rfl)) (hw _ (List.mem_of_getElem? (i := 16) rfl)) (hw _ (List.mem_of_getElem? (i := 17) rfl)) e0 (g := (mkF m 1 #[.val (.ref a0), .val (.ref a1)] [(.ref a0)])) rfl (by rw [hml]; rfl) rfl (hb hby d9_1) (by decide) (W := 0) (by show 2 * 0 + _ ≤ _; exact Nat.le_of_eq rfl) (by decide)
  obtain ⟨l2, T2, h2, kk2, X2, e2, E2, hS2, hk2, hZ2, hown2, st2⟩ := ldcS (s := s) (vm0 := s.vm) X1 hx hZ hown (hw _ (List.mem_of_getElem? (i := 48) rfl)) wS e1 hS0 (Nat.zero_le _) (g := (mkF m 6 #[.val (.ref a0), .val (.ref a1)] [(.ref a1), (.ref a0)])) rfl (hb hby d9_6) (n := 24) (by decide) (by decide) (by decide) (by decide)
  have Z2 : n0 ≤ h2.size := Nat.le_trans Z0 E2.1
  have K2 : Keep h0 h2 [a0] := (Keep.refl h0 [a0]).ext E2
  obtain ⟨_, _, ⟨T3, L3, k3', n3'⟩, -, X3, ⟨Lc3, hQ3, l3, y3, z3⟩, st3⟩ := Jvm.LawKit.callS X2 hx (y := (⟨"java/util/Objects", "requireNonNull", "(Ljava/lang/Object;Ljava/lang/String;)Ljava/lang/Object;"⟩ : MethodName)) hown2 (mvT hZ2 (hw _ (List.mem_of_getElem? (i := 51) rfl))) (mvT hZ2 (hw _ (List.mem_of_getElem? (i := 52) rfl))) (mvT hZ2 (hw _ (List.mem_of_getElem? (i := 53) rfl))) (mvT hZ2 (hw _ (List.mem_of_getElem? (i := 54) rfl))) (by decide) (backOf (W := 1) (rm10 l Z az hw [] a1 l2 h2 n0 Z2) hZ2 (hw _ (List.mem_of_getElem? (i := 54) rfl)) (hw _ (List.mem_of_getElem? (i := 53) rfl)) (by decide) (by decide)) (g := (mkF m 8 #[.val (.ref a0), .val (.ref a1)] [(.ref l2), (.ref a1), (.ref a0)])) rfl (by rw [hml]; rfl) (argsL := [(.ref a1), (.ref l2)]) (rest := [(.ref a0)]) (lenOf pd_5 rfl) rfl (by show 2 * 0 + _ ≤ _; exact Nat.le_of_eq rfl) (hb hby d9_8) (fun _ _ => ⟨rfl, e2, (by decide : 2 + 0 ≤ _), (by decide : 28 + 0 ≤ _)⟩)
  dsimp only [Pt.U, Pt.locs, Pt.cells, Pt.slots] at X3 l3 y3 z3 st3 hQ3
  subst l3 y3 z3
  obtain ⟨rfl, N3q, e3⟩ := hQ3
  have N3 := Fr.app N0 N3q
  have E_a1_u4 : Exa Z h2 a1 "java/lang/String" := (E_a1.ext E2)
  obtain ⟨T5, X5, e5, st5⟩ := castY X3 hx hZ2 hown2 (hw _ (List.mem_of_getElem? (i := 55) rfl)) e3 (Ins.self E_a1_u4) (g := (mkF m 11 #[.val (.ref a0), .val (.ref a1)] [(.ref a1), (.ref a0)])) rfl rfl (hb hby d9_11)
  have F_a0_suffix_u6 : Fld Z h2 a0 "com/example/fireweed/fireweed/layout/Salt" "suffix" "Ljava/lang/String;" .null := (F_suffix_a0.ext E2)
  have E_a0_u7 : Exa Z h2 a0 "com/example/fireweed/fireweed/layout/Java31ByteSalt" := (E_a0.ext E2)
  obtain ⟨T8, h8, X8, e8, W8, st8⟩ := putF X5 hx hZ2 hown2 (host := "") (Or.inl (hw _ (List.mem_of_getElem? (i := 56) rfl))) Via.refl e5 F_a0_suffix_u6 E_a0_u7 (Or.inr ⟨(hw _ (List.mem_of_getElem? (i := 57) rfl)), rfl, hnm⟩) (hw _ (List.mem_of_getElem? (i := 3) rfl)) (ty := (.object "java/lang/String")) (by decide) rfl rfl (g := (mkF m 14 #[.val (.ref a0), .val (.ref a1)] [(.ref a1), (.ref a0)])) rfl rfl (hb hby d9_14)
  have K8 : Keep h0 h8 [a0] := K2.wr W8 (Or.inl (List.mem_of_getElem? (i := 0) rfl))
  have Fw8 := F_a0_suffix_u6.same W8
  have Z8 : n0 ≤ h8.size := Nat.le_trans Z2 (Keep.of_wr W8).1
  have N8 := Fr.snoc X8 N3 g_a0
  have S_StandardCharsets_UTF_8_u9 : Sta Z h8 "java/nio/charset/StandardCharsets" "UTF_8" "Ljava/nio/charset/Charset;" (.ref aU) := ((S_UTF_8.ext E2).wr W8)
  obtain ⟨T10, X10, e10, st10⟩ := getS2 X8 hx hZ2 hown2 (host := "") (Or.inl (hw _ (List.mem_of_getElem? (i := 58) rfl))) Via.refl e8 S_StandardCharsets_UTF_8_u9 (g := (mkF m 19 #[.val (.ref a0), .val (.ref a1)] [(.ref a1), (.ref a0)])) rfl (hb hby d9_19)
  have E_a1_u12 : Exa Z h8 a1 "java/lang/String" := (E_a1_u4.wr W8)
  have F_a1_coder_u13 : Fld Z h8 a1 "java/lang/String" "coder" "B" (.int (0 : Int32)) := ((F_coder_a1.ext E2).other W8 (Or.inl hne_a1_a0))
  have F_a1_value_u14 : Fld Z h8 a1 "java/lang/String" "value" "[B" (.ref aB) := ((F_value_a1.ext E2).other W8 (Or.inl hne_a1_a0))
  have V_aB_u15 : Arv Z h8 aB kB .byte (1 : Int32) [(.int pv)] (.int (0 : Int32)) := ((V_aB.ext E2).other W8 hne_aB_a0)
  have E_aB_u16 : Exa Z h8 aB "[B" := ((E_aB.ext E2).wr W8)
  have S_UTF_8_INSTANCE_u17 : Sta Z h8 "sun/nio/cs/UTF_8" "INSTANCE" "Lsun/nio/cs/UTF_8;" (.ref aU) := ((S_INSTANCE.ext E2).wr W8)
  have S_String_COMPACT_STRINGS_u18 : Sta Z h8 "java/lang/String" "COMPACT_STRINGS" "Z" (.int s_COMPACT_STRINGS) := ((S_COMPACT_STRINGS.ext E2).wr W8)
  obtain ⟨cq11, kq11, q11a, q11b, q11c⟩ := isOf hZ2 e10 E_a1_u12
  obtain ⟨_, _, ⟨T11, L11, k11', n11'⟩, -, X11, ⟨Lc11, hQ11, l11, y11, z11⟩, st11⟩ := X10.virtualBack hx (y := (⟨"java/lang/String", "getBytes", "(Ljava/nio/charset/Charset;)[B"⟩ : MethodName)) (z := (⟨"java/lang/String", "getBytes", "(Ljava/nio/charset/Charset;)[B"⟩ : MethodName)) hown2 (mvT hZ2 (hw _ (List.mem_of_getElem? (i := 60) rfl))) (mvT hZ2 (hw _ (List.mem_of_getElem? (i := 61) rfl))) (notFace_of_selects (args := #[]) (mvT hZ2 (hw _ (List.mem_of_getElem? (i := 63) rfl)))) (mvT hZ2 (hw _ (List.mem_of_getElem? (i := 63) rfl))) (mvT hZ2 (hw _ (List.mem_of_getElem? (i := 62) rfl))) (by decide) (backOf (W := 1) (rm11n l Z az hw [] a1 aU aB kB pv s_COMPACT_STRINGS h8 n0 Z8 E_a1_u12 F_a1_coder_u13 F_a1_value_u14 V_aB_u15 E_aB_u16 S_UTF_8_INSTANCE_u17 hc13 S_String_COMPACT_STRINGS_u18 hc18) hZ2 (hw _ (List.mem_of_getElem? (i := 64) rfl)) (hw _ (List.mem_of_getElem? (i := 7) rfl)) (by decide) (by decide)) q11a q11c (g := (mkF m 22 #[.val (.ref a0), .val (.ref a1)] [(.ref aU), (.ref a1), (.ref a0)])) rfl (by rw [hml]; rfl) (Steps.refl _) (argsL := [(.ref aU)]) (rest := [(.ref a0)]) (lenOf pd_6 rfl) rfl (by show 2 * 0 + _ ≤ _; exact Nat.le_of_eq rfl) (hb hby d9_22) (fun _ _ => ⟨rfl, e10, (by decide : 2 + 1 ≤ _), (by decide : 28 + 2 ≤ _)⟩)
  dsimp only [Pt.U, Pt.locs, Pt.cells, Pt.slots] at X11 l11 y11 z11 st11 hQ11
  subst l11 y11 z11
  obtain ⟨b11_0, kk11_0, rfl, N11q, s11_0, kq11, pf11_0, pf11_1⟩ := hQ11
  have N11 := Fr.app N8 N11q
  have g_b11_0 : n0 ≤ b11_0 := Nat.le_trans Z8 s11_0
  have sz_b11_0 : h0.size ≤ b11_0 := Nat.le_trans K8.1 s11_0
  have K11 : Keep h0 T11.heap [a0] := K8.trans kq11 all0
  have Z11 : n0 ≤ T11.heap.size := Nat.le_trans Z8 kq11.1
  have F_a0_suffixBytes_u19 : Fld Z T11.heap a0 "com/example/fireweed/fireweed/layout/Salt" "suffixBytes" "[B" .null := (((F_suffixBytes_a0.ext E2).other W8 (Or.inr (slot_ne (Or.inr (hw _ (List.mem_of_getElem? (i := 95) rfl))) (Or.inr (hw _ (List.mem_of_getElem? (i := 57) rfl))) (by decide) (t := (.array .byte)) (t' := (.object "java/lang/String")) (by decide) (by decide)))).keep kq11 nin0)
  have E_a0_u20 : Exa Z T11.heap a0 "com/example/fireweed/fireweed/layout/Java31ByteSalt" := ((E_a0_u7.wr W8).keep kq11)
  obtain ⟨T21, h21, X21, e21, W21, st21⟩ := putF X11 hx hZ2 hown2 (host := "") (Or.inl (hw _ (List.mem_of_getElem? (i := 94) rfl))) Via.refl rfl F_a0_suffixBytes_u19 E_a0_u20 (Or.inr ⟨(hw _ (List.mem_of_getElem? (i := 95) rfl)), rfl, hnm⟩) (hw _ (List.mem_of_getElem? (i := 3) rfl)) (ty := (.array .byte)) (by decide) rfl rfl (g := (mkF m 25 #[.val (.ref a0), .val (.ref a1)] [(.ref b11_0), (.ref a0)])) rfl rfl (hb hby d9_25)
  have K21 : Keep h0 h21 [a0] := K11.wr W21 (Or.inl (List.mem_of_getElem? (i := 0) rfl))
  have Fw21 := F_a0_suffixBytes_u19.same W21
  have Z21 : n0 ≤ h21.size := Nat.le_trans Z11 (Keep.of_wr W21).1
  have N21 := Fr.snoc X21 N11 g_a0
  have E_a0_u22 : Exa Z h21 a0 "com/example/fireweed/fireweed/layout/Java31ByteSalt" := (E_a0_u20.wr W21)
  have F_a0_suffix_u23 : Fld Z h21 a0 "com/example/fireweed/fireweed/layout/Salt" "suffix" "Ljava/lang/String;" (.ref a1) := ((Fw8.keep kq11 nin0).other W21 (Or.inr (slot_ne (Or.inr (hw _ (List.mem_of_getElem? (i := 57) rfl))) (Or.inr (hw _ (List.mem_of_getElem? (i := 95) rfl))) (by decide) (t := (.object "java/lang/String")) (t' := (.array .byte)) (by decide) (by decide))))
  have F_a0_buckets_u24 : Fld Z h21 a0 "com/example/fireweed/fireweed/layout/Java31ByteSalt" "buckets" "I" (.int (0 : Int32)) := ((((F_buckets_a0.ext E2).other W8 (Or.inr (slot_ne (Or.inr (hw _ (List.mem_of_getElem? (i := 97) rfl))) (Or.inr (hw _ (List.mem_of_getElem? (i := 57) rfl))) (by decide) (t := .int) (t' := (.object "java/lang/String")) (by decide) (by decide)))).keep kq11 nin0).other W21 (Or.inr (slot_ne (Or.inr (hw _ (List.mem_of_getElem? (i := 97) rfl))) (Or.inr (hw _ (List.mem_of_getElem? (i := 95) rfl))) (by decide) (t := .int) (t' := (.array .byte)) (by decide) (by decide))))
  have F_a0_mask_u25 : Fld Z h21 a0 "com/example/fireweed/fireweed/layout/Java31ByteSalt" "mask" "I" (.int (0 : Int32)) := ((((F_mask_a0.ext E2).other W8 (Or.inr (slot_ne (Or.inr (hw _ (List.mem_of_getElem? (i := 106) rfl))) (Or.inr (hw _ (List.mem_of_getElem? (i := 57) rfl))) (by decide) (t := .int) (t' := (.object "java/lang/String")) (by decide) (by decide)))).keep kq11 nin0).other W21 (Or.inr (slot_ne (Or.inr (hw _ (List.mem_of_getElem? (i := 106) rfl))) (Or.inr (hw _ (List.mem_of_getElem? (i := 95) rfl))) (by decide) (t := .int) (t' := (.array .byte)) (by decide) (by decide))))
  have F_a0_overflow_u26 : Fld Z h21 a0 "com/example/fireweed/fireweed/layout/Java31ByteSalt" "overflow" "I" (.int (0 : Int32)) := ((((F_overflow_a0.ext E2).other W8 (Or.inr (slot_ne (Or.inr (hw _ (List.mem_of_getElem? (i := 121) rfl))) (Or.inr (hw _ (List.mem_of_getElem? (i := 57) rfl))) (by decide) (t := .int) (t' := (.object "java/lang/String")) (by decide) (by decide)))).keep kq11 nin0).other W21 (Or.inr (slot_ne (Or.inr (hw _ (List.mem_of_getElem? (i := 121) rfl))) (Or.inr (hw _ (List.mem_of_getElem? (i := 95) rfl))) (by decide) (t := .int) (t' := (.array .byte)) (by decide) (by decide))))
  have E_b11_0_u27 : Exa Z h21 b11_0 "[B" := (pf11_0.wr W21)
  have ne_a0_b11_0 : a0 ≠ b11_0 := own_ne (Nat.lt_of_lt_of_le (E_a0_u7.wr W8).lt s11_0)
  have V_b11_0_u28 : Arv Z h21 b11_0 kk11_0 .byte (2 : Int32) [(.int (((192 : Int32) ||| ((pv &&& (255 : Int32)) >>> ((6 : Int32) &&& 31))).toInt8.toInt32)), (.int (((128 : Int32) ||| (pv &&& (63 : Int32))).toInt8.toInt32))] (.int (0 : Int32)) := (pf11_1.other W21 (Ne.symm ne_a0_b11_0))
  obtain ⟨fs, hr, hrun, hended, hWE⟩ := X21.leaveW (s := s) hS2 (by rw [e21]; exact (Nat.le_trans (Nat.le_trans (Nat.le_trans hk2 (Keep.of_wr W8).1) kq11.1) (Keep.of_wr W21).1)) (v := none) (fun _ => rfl)
  refine ⟨_, _, pre0 _ ?_, hrun, hended, _, _, rfl, ?_, hWE.1, hWE.2.1, hWE.2.2.1, hWE.2.2.2.mono (by decide) (by decide)⟩
  · show Steps p.tables e below (s₁.setTop (mkF m 0 #[.val (.ref a0), .val (.ref a1)] [])) _
    refine XS.aloadN X0.here hx rfl (hb hby d9_0) rfl rfl ?_
    show Steps p.tables e below (s₁.setTop (mkF m 1 #[.val (.ref a0), .val (.ref a1)] [(.ref a0)])) _
    refine st1 _ ?_
    show Steps p.tables e below (T1.setTop (mkF m 4 #[.val (.ref a0), .val (.ref a1)] [])) _
    refine XS.aloadN X1.here hx rfl (hb hby d9_4) rfl rfl ?_
    show Steps p.tables e below (T1.setTop (mkF m 5 #[.val (.ref a0), .val (.ref a1)] [(.ref a0)])) _
    refine XS.aloadN X1.here hx rfl (hb hby d9_5) rfl rfl ?_
    show Steps p.tables e below (T1.setTop (mkF m 6 #[.val (.ref a0), .val (.ref a1)] [(.ref a1), (.ref a0)])) _
    refine st2 _ ?_
    show Steps p.tables e below (T2.setTop (mkF m 8 #[.val (.ref a0), .val (.ref a1)] [(.ref l2), (.ref a1), (.ref a0)])) _
    refine st3 _ ?_
    show Steps p.tables e below (T3.setTop (mkF m 11 #[.val (.ref a0), .val (.ref a1)] [(.ref a1), (.ref a0)])) _
    refine st5 _ ?_
    show Steps p.tables e below (T5.setTop (mkF m 14 #[.val (.ref a0), .val (.ref a1)] [(.ref a1), (.ref a0)])) _
    refine st8 _ ?_
    show Steps p.tables e below (T8.setTop (mkF m 17 #[.val (.ref a0), .val (.ref a1)] [])) _
    refine XS.aloadN X8.here hx rfl (hb hby d9_17) rfl rfl ?_
    show Steps p.tables e below (T8.setTop (mkF m 18 #[.val (.ref a0), .val (.ref a1)] [(.ref a0)])) _
    refine XS.aloadN X8.here hx rfl (hb hby d9_18) rfl rfl ?_
    show Steps p.tables e below (T8.setTop (mkF m 19 #[.val (.ref a0), .val (.ref a1)] [(.ref a1), (.ref a0)])) _
    refine st10 _ ?_
    show Steps p.tables e below (T10.setTop (mkF m 22 #[.val (.ref a0), .val (.ref a1)] [(.ref aU), (.ref a1), (.ref a0)])) _
    refine st11.trans ?_
    show Steps p.tables e below (T11.setTop (mkF m 25 #[.val (.ref a0), .val (.ref a1)] [(.ref b11_0), (.ref a0)])) _
    refine st21 _ ?_
    show Steps p.tables e below (T21.setTop (mkF m 28 #[.val (.ref a0), .val (.ref a1)] [])) _
    exact X21.returnOut hx Bd.returns (hb hby d9_28) hr
  · show Q9n Z a0 a1 aB kB pv aU s_COMPACT_STRINGS h0 n0 _ T21.heap _
    rw [e21]
    exact ⟨b11_0, kk11_0, rfl, N21, sz_b11_0, K21, E_a0_u22, F_a0_suffix_u23, Fw21, F_a0_buckets_u24, F_a0_mask_u25, F_a0_overflow_u26, E_b11_0_u27, V_b11_0_u28⟩
theorem ef_rm8n (m : MethodId) (a0 : Addr) (a1 : Addr) : entryFrame m #[(.ref a0), (.ref a1)] 2 = mkF m 0 #[.val (.ref a0), .val (.ref a1)] [] := by first | (simp [entryFrame, mkF, argsToLocals, Value.category]; done) | rfl
def Q8n (Z : State) (a0 : Addr) (a1 : Addr) (aB : Addr) (kB : ClassId) (pv : Int32) (aU : Addr) (s_COMPACT_STRINGS : Int32) (h0 : Heap) (n0 : Nat) (v : Option Value) (h : Heap) (L : List Loc) : Prop := ∃ r0 : Addr, ∃ rk0 : ClassId, v = none ∧ Fr n0 L ∧ h0.size ≤ r0 ∧ Keep h0 h [a0] ∧ Exa Z h a0 "com/example/fireweed/fireweed/layout/Java31ByteSalt" ∧ Fld Z h a0 "com/example/fireweed/fireweed/layout/Salt" "suffix" "Ljava/lang/String;" (.ref a1) ∧ Fld Z h a0 "com/example/fireweed/fireweed/layout/Salt" "suffixBytes" "[B" (.ref r0) ∧ Fld Z h a0 "com/example/fireweed/fireweed/layout/Java31ByteSalt" "buckets" "I" (.int (0 : Int32)) ∧ Fld Z h a0 "com/example/fireweed/fireweed/layout/Java31ByteSalt" "mask" "I" (.int (0 : Int32)) ∧ Fld Z h a0 "com/example/fireweed/fireweed/layout/Java31ByteSalt" "overflow" "I" (.int (0 : Int32)) ∧ Exa Z h r0 "[B" ∧ Arv Z h r0 rk0 .byte (2 : Int32) [(.int (((192 : Int32) ||| ((pv &&& (255 : Int32)) >>> ((6 : Int32) &&& 31))).toInt8.toInt32)), (.int (((128 : Int32) ||| (pv &&& (63 : Int32))).toInt8.toInt32))] (.int (0 : Int32))
set_option maxRecDepth 65536 in
set_option maxHeartbeats 40000000 in
theorem rm8n (l : Launch) (Z : State) (az : Array Value) (hw : ∀ d ∈ tables_1, d.before az Z = true) (ws : List Jvm.Cond) (a0 : Addr) (a1 : Addr) (aB : Addr) (kB : ClassId) (pv : Int32) (aU : Addr) (s_COMPACT_STRINGS : Int32) (h0 : Heap) (n0 : Nat) (Z0 : n0 ≤ h0.size) (E_a0 : Exa Z h0 a0 "com/example/fireweed/fireweed/layout/Java31ByteSalt") (F_suffix_a0 : Fld Z h0 a0 "com/example/fireweed/fireweed/layout/Salt" "suffix" "Ljava/lang/String;" .null) (F_suffixBytes_a0 : Fld Z h0 a0 "com/example/fireweed/fireweed/layout/Salt" "suffixBytes" "[B" .null) (F_buckets_a0 : Fld Z h0 a0 "com/example/fireweed/fireweed/layout/Java31ByteSalt" "buckets" "I" (.int (0 : Int32))) (F_mask_a0 : Fld Z h0 a0 "com/example/fireweed/fireweed/layout/Java31ByteSalt" "mask" "I" (.int (0 : Int32))) (F_overflow_a0 : Fld Z h0 a0 "com/example/fireweed/fireweed/layout/Java31ByteSalt" "overflow" "I" (.int (0 : Int32))) (E_a1 : Exa Z h0 a1 "java/lang/String") (F_coder_a1 : Fld Z h0 a1 "java/lang/String" "coder" "B" (.int (0 : Int32))) (F_value_a1 : Fld Z h0 a1 "java/lang/String" "value" "[B" (.ref aB)) (V_aB : Arv Z h0 aB kB .byte (1 : Int32) [(.int pv)] (.int (0 : Int32))) (E_aB : Exa Z h0 aB "[B") (S_INSTANCE : Sta Z h0 "sun/nio/cs/UTF_8" "INSTANCE" "Lsun/nio/cs/UTF_8;" (.ref aU)) (S_UTF_8 : Sta Z h0 "java/nio/charset/StandardCharsets" "UTF_8" "Ljava/nio/charset/Charset;" (.ref aU)) (hc13 : pv < (0 : Int32)) (S_COMPACT_STRINGS : Sta Z h0 "java/lang/String" "COMPACT_STRINGS" "Z" (.int s_COMPACT_STRINGS)) (g_a0 : n0 ≤ a0) (hne_a1_a0 : a1 ≠ a0) (hne_aB_a0 : aB ≠ a0) (hc18 : ¬ (s_COMPACT_STRINGS = (0 : Int32))) :
    MetFree l (⟨"com/example/fireweed/fireweed/layout/BucketSalt", "<init>", "(Ljava/lang/String;)V"⟩ : MethodName) (head1 (Jvm.Cond.code (⟨"com/example/fireweed/fireweed/layout/BucketSalt", "<init>", "(Ljava/lang/String;)V"⟩ : MethodName) prog_5_method_1_code 2 none :: ws) ({ frames := 6, cells := 3, slots := 30, locals := 91 } : Room)) (fun a U => a = #[(.ref a0), (.ref a1)] ∧ Z.Warmed39 U.vm ∧ U.heap = h0) (fun _ _ _ _ _ => True) (fun _ U o U' => ∃ v L, o = .returned v ∧ Q8n Z a0 a1 aB kB pv aU s_COMPACT_STRINGS h0 n0 v U'.heap L ∧ ReturnedEndW U o U' L ({ frames := 6, cells := 3, slots := 30, locals := 91 } : Room).cells ({ frames := 6, cells := 3, slots := 30, locals := 91 } : Room).slots) := by
  refine MetFree.of_bodySF (plainFor_of_name pn_com_example_fireweed_fireweed_layout_BucketSalt) hisR ?_
  intro p e s m args below meth c s₁ Bd hml0 hP hK
  obtain ⟨rfl, hZ, hh⟩ := hP
  have hx := Bd.exec
  have hby := Bd.bytes
  have hml : c.maxLocals = 2 := hml0
  have hown : s.vm.findClass "com/example/fireweed/fireweed/layout/BucketSalt" = some m.cls := findClass_of_methodNamed Bd.named
  have hnm := (name_of_methodNamed Bd.named Bd.method).1
  have X0 : Stand p l e ({ frames := 6, cells := 3, slots := 30, locals := 91 } : Room) s m #[(.ref a0), (.ref a1)] below meth c s₁ [] 0 0 := Stand.of_body Bd
  have e0 : s₁.heap = h0 := by rw [← hh, Bd.state]; rfl
  have N0 := Fr.nil n0
  have pre0 : ∀ t, Steps p.tables e below (s₁.setTop (mkF m 0 #[.val (.ref a0), .val (.ref a1)] [])) t → Steps p.tables e below (s₁.setTop (entryFrame m #[(.ref a0), (.ref a1)] 2)) t := fun t k => castTop (ef_rm8n m a0 a1) k
  have hS0 : s.Since s.vm 0 := (State.WarmedH.refl s).since 0
  have wS : ∀ a ∈ Bundle.stringAtoms, a.before az Z = true := fun d hd => by
    simp only [Bundle.stringAtoms, List.mem_cons, List.not_mem_nil, or_false] at hd
    rcases hd with rfl | rfl | rfl | rfl | rfl | rfl | rfl
    · exact (hw _ (List.mem_of_getElem? (i := 7) rfl))
    · exact (hw _ (List.mem_of_getElem? (i := 6) rfl))
    · exact (hw _ (List.mem_of_getElem? (i := 23) rfl))
    · exact (hw _ (List.mem_of_getElem? (i := 33) rfl))
    · exact (hw _ (List.mem_of_getElem? (i := 31) rfl))
    · exact (hw _ (List.mem_of_getElem? (i := 49) rfl))
    · exact (hw _ (List.mem_of_getElem? (i := 50) rfl))
  obtain ⟨_, _, ⟨T1, L1, k1', n1'⟩, -, Y1, yS1, yg1, ⟨Lc1, hQ1, l1, y1, z1⟩, st1⟩ := X0.specialBackS hx (y := (⟨"com/example/fireweed/fireweed/layout/Salt", "<init>", "(Ljava/lang/String;)V"⟩ : MethodName)) rfl hown (mvT hZ (hw _ (List.mem_of_getElem? (i := 42) rfl))) (mvT hZ (hw _ (List.mem_of_getElem? (i := 43) rfl))) (mvT hZ (hw _ (List.mem_of_getElem? (i := 46) rfl))) (by decide) (backOfS (W := 0) (rm9n l Z az hw [] a0 a1 aB kB pv aU s_COMPACT_STRINGS h0 n0 Z0 E_a0 F_suffix_a0 F_suffixBytes_a0 F_buckets_a0 F_mask_a0 F_overflow_a0 E_a1 F_coder_a1 F_value_a1 V_aB E_aB S_INSTANCE S_UTF_8 hc13 g_a0 S_COMPACT_STRINGS hne_a1_a0 hne_aB_a0 hc18) hZ (hw _ (List.mem_of_getElem? (i := 46) rfl)) (hw _ (List.mem_of_getElem? (i := 45) rfl)) (by decide) (by decide)) (g := (mkF m 2 #[.val (.ref a0), .val (.ref a1)] [(.ref a1), (.ref a0)])) rfl (by rw [hml]; rfl) (Steps.refl _) (a := a0) (argsL := [(.ref a1)]) (rest := []) (lenOf pd_7 rfl) rfl (by show 2 * 0 + _ ≤ _; exact Nat.le_of_eq rfl) (hb hby d8_2) (fun _ _ => ⟨rfl, e0, (by decide : 0 + 3 ≤ _), (by decide : 0 + 30 ≤ _)⟩)
  dsimp only [Pt.U, Pt.locs, Pt.cells, Pt.slots] at Y1 yS1 yg1 l1 y1 z1 st1 hQ1
  subst l1 y1 z1
  obtain ⟨X1, hS1, hZ1, hown1⟩ := rebS (s := s) (vm0 := s.vm) hS0 (by rw [e0]; exact (Nat.zero_le _)) Y1 yS1 yg1 hZ hown
  obtain ⟨b1_0, kk1_0, rfl, N1q, s1_0, kq1, pf1_0, pf1_1, pf1_2, pf1_3, pf1_4, pf1_5, pf1_6, pf1_7⟩ := hQ1
  have N1 := Fr.app N0 N1q
  have g_b1_0 : n0 ≤ b1_0 := Nat.le_trans Z0 s1_0
  have sz_b1_0 : h0.size ≤ b1_0 := Nat.le_trans (Nat.le_refl _) s1_0
  have K1 : Keep h0 T1.heap [a0] := (Keep.refl h0 [a0]).trans kq1 (allS (Or.inl (List.mem_of_getElem? (i := 0) rfl)) all0)
  have Z1 : n0 ≤ T1.heap.size := Nat.le_trans Z0 kq1.1
  obtain ⟨fs, hr, hrun, hended, hWE⟩ := X1.leaveW (s := s) hS1 (Nat.le_refl _) (v := none) (fun _ => rfl)
  refine ⟨_, _, pre0 _ ?_, hrun, hended, _, _, rfl, ?_, hWE.1, hWE.2.1, hWE.2.2.1, hWE.2.2.2.mono (by decide) (by decide)⟩
  · show Steps p.tables e below (s₁.setTop (mkF m 0 #[.val (.ref a0), .val (.ref a1)] [])) _
    refine XS.aloadN X0.here hx rfl (hb hby d8_0) rfl rfl ?_
    show Steps p.tables e below (s₁.setTop (mkF m 1 #[.val (.ref a0), .val (.ref a1)] [(.ref a0)])) _
    refine XS.aloadN X0.here hx rfl (hb hby d8_1) rfl rfl ?_
    show Steps p.tables e below (s₁.setTop (mkF m 2 #[.val (.ref a0), .val (.ref a1)] [(.ref a1), (.ref a0)])) _
    refine st1.trans ?_
    show Steps p.tables e below (T1.setTop (mkF m 5 #[.val (.ref a0), .val (.ref a1)] [])) _
    exact X1.returnOut hx Bd.returns (hb hby d8_5) hr
  · show Q8n Z a0 a1 aB kB pv aU s_COMPACT_STRINGS h0 n0 _ T1.heap _
    exact ⟨b1_0, kk1_0, rfl, N1, sz_b1_0, K1, pf1_0, pf1_1, pf1_2, pf1_3, pf1_4, pf1_5, pf1_6, pf1_7⟩
theorem d17_0 : decode jdk_33_method_49_code 0 = .ok (.iload_n 0, 1) := by decide +kernel
theorem d17_1 : decode jdk_33_method_49_code 1 = .ok (.iload_n 0, 1) := by decide +kernel
theorem d17_2 : decode jdk_33_method_49_code 2 = .ok (.iconst 1, 1) := by decide +kernel
theorem d17_3 : decode jdk_33_method_49_code 3 = .ok (.iushr, 1) := by decide +kernel
theorem d17_4 : decode jdk_33_method_49_code 4 = .ok (.ldc_w 265, 3) := by decide +kernel
theorem d17_7 : decode jdk_33_method_49_code 7 = .ok (.iand, 1) := by decide +kernel
theorem d17_8 : decode jdk_33_method_49_code 8 = .ok (.isub, 1) := by decide +kernel
theorem d17_9 : decode jdk_33_method_49_code 9 = .ok (.istore_n 0, 1) := by decide +kernel
theorem d17_10 : decode jdk_33_method_49_code 10 = .ok (.iload_n 0, 1) := by decide +kernel
theorem d17_11 : decode jdk_33_method_49_code 11 = .ok (.ldc_w 266, 3) := by decide +kernel
theorem d17_14 : decode jdk_33_method_49_code 14 = .ok (.iand, 1) := by decide +kernel
theorem d17_15 : decode jdk_33_method_49_code 15 = .ok (.iload_n 0, 1) := by decide +kernel
theorem d17_16 : decode jdk_33_method_49_code 16 = .ok (.iconst 2, 1) := by decide +kernel
theorem d17_17 : decode jdk_33_method_49_code 17 = .ok (.iushr, 1) := by decide +kernel
theorem d17_18 : decode jdk_33_method_49_code 18 = .ok (.ldc_w 266, 3) := by decide +kernel
theorem d17_21 : decode jdk_33_method_49_code 21 = .ok (.iand, 1) := by decide +kernel
theorem d17_22 : decode jdk_33_method_49_code 22 = .ok (.iadd, 1) := by decide +kernel
theorem d17_23 : decode jdk_33_method_49_code 23 = .ok (.istore_n 0, 1) := by decide +kernel
theorem d17_24 : decode jdk_33_method_49_code 24 = .ok (.iload_n 0, 1) := by decide +kernel
theorem d17_25 : decode jdk_33_method_49_code 25 = .ok (.iload_n 0, 1) := by decide +kernel
theorem d17_26 : decode jdk_33_method_49_code 26 = .ok (.iconst 4, 1) := by decide +kernel
theorem d17_27 : decode jdk_33_method_49_code 27 = .ok (.iushr, 1) := by decide +kernel
theorem d17_28 : decode jdk_33_method_49_code 28 = .ok (.iadd, 1) := by decide +kernel
theorem d17_29 : decode jdk_33_method_49_code 29 = .ok (.ldc_w 267, 3) := by decide +kernel
theorem d17_32 : decode jdk_33_method_49_code 32 = .ok (.iand, 1) := by decide +kernel
theorem d17_33 : decode jdk_33_method_49_code 33 = .ok (.istore_n 0, 1) := by decide +kernel
theorem d17_34 : decode jdk_33_method_49_code 34 = .ok (.iload_n 0, 1) := by decide +kernel
theorem d17_35 : decode jdk_33_method_49_code 35 = .ok (.iload_n 0, 1) := by decide +kernel
theorem d17_36 : decode jdk_33_method_49_code 36 = .ok (.bipush 8, 2) := by decide +kernel
theorem d17_38 : decode jdk_33_method_49_code 38 = .ok (.iushr, 1) := by decide +kernel
theorem d17_39 : decode jdk_33_method_49_code 39 = .ok (.iadd, 1) := by decide +kernel
theorem d17_40 : decode jdk_33_method_49_code 40 = .ok (.istore_n 0, 1) := by decide +kernel
theorem d17_41 : decode jdk_33_method_49_code 41 = .ok (.iload_n 0, 1) := by decide +kernel
theorem d17_42 : decode jdk_33_method_49_code 42 = .ok (.iload_n 0, 1) := by decide +kernel
theorem d17_43 : decode jdk_33_method_49_code 43 = .ok (.bipush 16, 2) := by decide +kernel
theorem d17_45 : decode jdk_33_method_49_code 45 = .ok (.iushr, 1) := by decide +kernel
theorem d17_46 : decode jdk_33_method_49_code 46 = .ok (.iadd, 1) := by decide +kernel
theorem d17_47 : decode jdk_33_method_49_code 47 = .ok (.istore_n 0, 1) := by decide +kernel
theorem d17_48 : decode jdk_33_method_49_code 48 = .ok (.iload_n 0, 1) := by decide +kernel
theorem d17_49 : decode jdk_33_method_49_code 49 = .ok (.bipush 63, 2) := by decide +kernel
theorem d17_51 : decode jdk_33_method_49_code 51 = .ok (.iand, 1) := by decide +kernel
theorem d17_52 : decode jdk_33_method_49_code 52 = .ok (.ireturn, 1) := by decide +kernel
def own_bc (p0 : Int32) : Int32 := ((((((((p0 - (((p0.toUInt32 >>> ((1 : Int32) &&& 31).toUInt32).toInt32) &&& (1431655765 : Int32))) &&& (858993459 : Int32)) + ((((p0 - (((p0.toUInt32 >>> ((1 : Int32) &&& 31).toUInt32).toInt32) &&& (1431655765 : Int32))).toUInt32 >>> ((2 : Int32) &&& 31).toUInt32).toInt32) &&& (858993459 : Int32))) + (((((p0 - (((p0.toUInt32 >>> ((1 : Int32) &&& 31).toUInt32).toInt32) &&& (1431655765 : Int32))) &&& (858993459 : Int32)) + ((((p0 - (((p0.toUInt32 >>> ((1 : Int32) &&& 31).toUInt32).toInt32) &&& (1431655765 : Int32))).toUInt32 >>> ((2 : Int32) &&& 31).toUInt32).toInt32) &&& (858993459 : Int32))).toUInt32 >>> ((4 : Int32) &&& 31).toUInt32).toInt32)) &&& (252645135 : Int32)) + (((((((p0 - (((p0.toUInt32 >>> ((1 : Int32) &&& 31).toUInt32).toInt32) &&& (1431655765 : Int32))) &&& (858993459 : Int32)) + ((((p0 - (((p0.toUInt32 >>> ((1 : Int32) &&& 31).toUInt32).toInt32) &&& (1431655765 : Int32))).toUInt32 >>> ((2 : Int32) &&& 31).toUInt32).toInt32) &&& (858993459 : Int32))) + (((((p0 - (((p0.toUInt32 >>> ((1 : Int32) &&& 31).toUInt32).toInt32) &&& (1431655765 : Int32))) &&& (858993459 : Int32)) + ((((p0 - (((p0.toUInt32 >>> ((1 : Int32) &&& 31).toUInt32).toInt32) &&& (1431655765 : Int32))).toUInt32 >>> ((2 : Int32) &&& 31).toUInt32).toInt32) &&& (858993459 : Int32))).toUInt32 >>> ((4 : Int32) &&& 31).toUInt32).toInt32)) &&& (252645135 : Int32)).toUInt32 >>> ((8 : Int32) &&& 31).toUInt32).toInt32)) + ((((((((p0 - (((p0.toUInt32 >>> ((1 : Int32) &&& 31).toUInt32).toInt32) &&& (1431655765 : Int32))) &&& (858993459 : Int32)) + ((((p0 - (((p0.toUInt32 >>> ((1 : Int32) &&& 31).toUInt32).toInt32) &&& (1431655765 : Int32))).toUInt32 >>> ((2 : Int32) &&& 31).toUInt32).toInt32) &&& (858993459 : Int32))) + (((((p0 - (((p0.toUInt32 >>> ((1 : Int32) &&& 31).toUInt32).toInt32) &&& (1431655765 : Int32))) &&& (858993459 : Int32)) + ((((p0 - (((p0.toUInt32 >>> ((1 : Int32) &&& 31).toUInt32).toInt32) &&& (1431655765 : Int32))).toUInt32 >>> ((2 : Int32) &&& 31).toUInt32).toInt32) &&& (858993459 : Int32))).toUInt32 >>> ((4 : Int32) &&& 31).toUInt32).toInt32)) &&& (252645135 : Int32)) + (((((((p0 - (((p0.toUInt32 >>> ((1 : Int32) &&& 31).toUInt32).toInt32) &&& (1431655765 : Int32))) &&& (858993459 : Int32)) + ((((p0 - (((p0.toUInt32 >>> ((1 : Int32) &&& 31).toUInt32).toInt32) &&& (1431655765 : Int32))).toUInt32 >>> ((2 : Int32) &&& 31).toUInt32).toInt32) &&& (858993459 : Int32))) + (((((p0 - (((p0.toUInt32 >>> ((1 : Int32) &&& 31).toUInt32).toInt32) &&& (1431655765 : Int32))) &&& (858993459 : Int32)) + ((((p0 - (((p0.toUInt32 >>> ((1 : Int32) &&& 31).toUInt32).toInt32) &&& (1431655765 : Int32))).toUInt32 >>> ((2 : Int32) &&& 31).toUInt32).toInt32) &&& (858993459 : Int32))).toUInt32 >>> ((4 : Int32) &&& 31).toUInt32).toInt32)) &&& (252645135 : Int32)).toUInt32 >>> ((8 : Int32) &&& 31).toUInt32).toInt32)).toUInt32 >>> ((16 : Int32) &&& 31).toUInt32).toInt32)) &&& (63 : Int32))
theorem pn_java_lang_Integer : plainName "java/lang/Integer" = true := by first | (simp [plainName, overriddenIn]; done) | decide +kernel
theorem ef_rm17 (m : MethodId) (p0 : Int32) : entryFrame m #[(.int p0)] 1 = mkF m 0 #[.val (.int p0)] [] := by first | (simp [entryFrame, mkF, argsToLocals, Value.category]; done) | rfl
def Q17 (Z : State) (p0 : Int32) (h0 : Heap) (n0 : Nat) (v : Option Value) (h : Heap) (L : List Loc) : Prop := v = some (.int (own_bc p0)) ∧ Fr n0 L ∧ h = h0
set_option maxRecDepth 65536 in
set_option maxHeartbeats 40000000 in
theorem rm17 (l : Launch) (Z : State) (az : Array Value) (hw : ∀ d ∈ tables_1, d.before az Z = true) (ws : List Jvm.Cond) (p0 : Int32) (h0 : Heap) (n0 : Nat) (Z0 : n0 ≤ h0.size) :
    MetFree l (⟨"java/lang/Integer", "bitCount", "(I)I"⟩ : MethodName) (head1 (Jvm.Cond.code (⟨"java/lang/Integer", "bitCount", "(I)I"⟩ : MethodName) jdk_33_method_49_code 1 (some .int) :: ws) ({ frames := 0, cells := 0, slots := 0, locals := 0 } : Room)) (fun a U => a = #[(.int p0)] ∧ Z.Warmed39 U.vm ∧ U.heap = h0) (fun _ _ _ _ _ => True) (fun _ U o U' => ∃ v L, o = .returned v ∧ Q17 Z p0 h0 n0 v U'.heap L ∧ FrameEnd U o U' L ({ frames := 0, cells := 0, slots := 0, locals := 0 } : Room).cells ({ frames := 0, cells := 0, slots := 0, locals := 0 } : Room).slots) := by
  refine MetFree.of_bodySF (plainFor_of_name pn_java_lang_Integer) hisR ?_
  intro p e s m args below meth c s₁ Bd hml0 hP hK
  obtain ⟨rfl, hZ, hh⟩ := hP
  have hx := Bd.exec
  have hby := Bd.bytes
  have hml : c.maxLocals = 1 := hml0
  have hown : s.vm.findClass "java/lang/Integer" = some m.cls := findClass_of_methodNamed Bd.named
  have hnm := (name_of_methodNamed Bd.named Bd.method).1
  have X0 : Stand p l e ({ frames := 0, cells := 0, slots := 0, locals := 0 } : Room) s m #[(.int p0)] below meth c s₁ [] 0 0 := Stand.of_body Bd
  have e0 : s₁.heap = h0 := by rw [← hh, Bd.state]; rfl
  have N0 := Fr.nil n0
  have pre0 : ∀ t, Steps p.tables e below (s₁.setTop (mkF m 0 #[.val (.int p0)] [])) t → Steps p.tables e below (s₁.setTop (entryFrame m #[(.int p0)] 1)) t := fun t k => castTop (ef_rm17 m p0) k
  obtain ⟨fs, hr, hrun, hended, hW, hsame⟩ := X0.leave (v := some (.int (own_bc p0))) (fun h => by rw [Bd.returns] at h; cases h)
  refine ⟨_, _, pre0 _ ?_, hrun, hended, _, _, rfl, ?_, ⟨_, rfl⟩, hW, hsame.mono (by decide) (by decide)⟩
  · show Steps p.tables e below (s₁.setTop (mkF m 0 #[.val (.int p0)] [])) _
    refine XS.iloadN X0.here hx rfl (hb hby d17_0) rfl ?_
    show Steps p.tables e below (s₁.setTop (mkF m 1 #[.val (.int p0)] [(.int p0)])) _
    refine XS.iloadN X0.here hx rfl (hb hby d17_1) rfl ?_
    show Steps p.tables e below (s₁.setTop (mkF m 2 #[.val (.int p0)] [(.int p0), (.int p0)])) _
    refine XS.iconst X0.here hx rfl (hb hby d17_2) ?_
    show Steps p.tables e below (s₁.setTop (mkF m 3 #[.val (.int p0)] [(.int (1 : Int32)), (.int p0), (.int p0)])) _
    refine XS.iushr X0.here hx rfl (hb hby d17_3) rfl ?_
    show Steps p.tables e below (s₁.setTop (mkF m 4 #[.val (.int p0)] [(.int ((p0.toUInt32 >>> ((1 : Int32) &&& 31).toUInt32).toInt32)), (.int p0)])) _
    refine X0.ldcwInt hx hown (mvT hZ (hw _ (List.mem_of_getElem? (i := 102) rfl))) (g := (mkF m 4 #[.val (.int p0)] [(.int ((p0.toUInt32 >>> ((1 : Int32) &&& 31).toUInt32).toInt32)), (.int p0)])) rfl (hb hby d17_4) _ ?_
    show Steps p.tables e below (s₁.setTop (mkF m 7 #[.val (.int p0)] [(.int (1431655765 : Int32)), (.int ((p0.toUInt32 >>> ((1 : Int32) &&& 31).toUInt32).toInt32)), (.int p0)])) _
    refine XS.iand X0.here hx rfl (hb hby d17_7) rfl ?_
    show Steps p.tables e below (s₁.setTop (mkF m 8 #[.val (.int p0)] [(.int (((p0.toUInt32 >>> ((1 : Int32) &&& 31).toUInt32).toInt32) &&& (1431655765 : Int32))), (.int p0)])) _
    refine XS.isub X0.here hx rfl (hb hby d17_8) rfl ?_
    show Steps p.tables e below (s₁.setTop (mkF m 9 #[.val (.int p0)] [(.int (p0 - (((p0.toUInt32 >>> ((1 : Int32) &&& 31).toUInt32).toInt32) &&& (1431655765 : Int32))))])) _
    refine XS.istoreN X0.here hx rfl (hb hby d17_9) rfl (l' := #[.val (.int (p0 - (((p0.toUInt32 >>> ((1 : Int32) &&& 31).toUInt32).toInt32) &&& (1431655765 : Int32))))]) rfl ?_
    show Steps p.tables e below (s₁.setTop (mkF m 10 #[.val (.int (p0 - (((p0.toUInt32 >>> ((1 : Int32) &&& 31).toUInt32).toInt32) &&& (1431655765 : Int32))))] [])) _
    refine XS.iloadN X0.here hx rfl (hb hby d17_10) rfl ?_
    show Steps p.tables e below (s₁.setTop (mkF m 11 #[.val (.int (p0 - (((p0.toUInt32 >>> ((1 : Int32) &&& 31).toUInt32).toInt32) &&& (1431655765 : Int32))))] [(.int (p0 - (((p0.toUInt32 >>> ((1 : Int32) &&& 31).toUInt32).toInt32) &&& (1431655765 : Int32))))])) _
    refine X0.ldcwInt hx hown (mvT hZ (hw _ (List.mem_of_getElem? (i := 103) rfl))) (g := (mkF m 11 #[.val (.int (p0 - (((p0.toUInt32 >>> ((1 : Int32) &&& 31).toUInt32).toInt32) &&& (1431655765 : Int32))))] [(.int (p0 - (((p0.toUInt32 >>> ((1 : Int32) &&& 31).toUInt32).toInt32) &&& (1431655765 : Int32))))])) rfl (hb hby d17_11) _ ?_
    show Steps p.tables e below (s₁.setTop (mkF m 14 #[.val (.int (p0 - (((p0.toUInt32 >>> ((1 : Int32) &&& 31).toUInt32).toInt32) &&& (1431655765 : Int32))))] [(.int (858993459 : Int32)), (.int (p0 - (((p0.toUInt32 >>> ((1 : Int32) &&& 31).toUInt32).toInt32) &&& (1431655765 : Int32))))])) _
    refine XS.iand X0.here hx rfl (hb hby d17_14) rfl ?_
    show Steps p.tables e below (s₁.setTop (mkF m 15 #[.val (.int (p0 - (((p0.toUInt32 >>> ((1 : Int32) &&& 31).toUInt32).toInt32) &&& (1431655765 : Int32))))] [(.int ((p0 - (((p0.toUInt32 >>> ((1 : Int32) &&& 31).toUInt32).toInt32) &&& (1431655765 : Int32))) &&& (858993459 : Int32)))])) _
    refine XS.iloadN X0.here hx rfl (hb hby d17_15) rfl ?_
    show Steps p.tables e below (s₁.setTop (mkF m 16 #[.val (.int (p0 - (((p0.toUInt32 >>> ((1 : Int32) &&& 31).toUInt32).toInt32) &&& (1431655765 : Int32))))] [(.int (p0 - (((p0.toUInt32 >>> ((1 : Int32) &&& 31).toUInt32).toInt32) &&& (1431655765 : Int32)))), (.int ((p0 - (((p0.toUInt32 >>> ((1 : Int32) &&& 31).toUInt32).toInt32) &&& (1431655765 : Int32))) &&& (858993459 : Int32)))])) _
    refine XS.iconst X0.here hx rfl (hb hby d17_16) ?_
    show Steps p.tables e below (s₁.setTop (mkF m 17 #[.val (.int (p0 - (((p0.toUInt32 >>> ((1 : Int32) &&& 31).toUInt32).toInt32) &&& (1431655765 : Int32))))] [(.int (2 : Int32)), (.int (p0 - (((p0.toUInt32 >>> ((1 : Int32) &&& 31).toUInt32).toInt32) &&& (1431655765 : Int32)))), (.int ((p0 - (((p0.toUInt32 >>> ((1 : Int32) &&& 31).toUInt32).toInt32) &&& (1431655765 : Int32))) &&& (858993459 : Int32)))])) _
    refine XS.iushr X0.here hx rfl (hb hby d17_17) rfl ?_
    show Steps p.tables e below (s₁.setTop (mkF m 18 #[.val (.int (p0 - (((p0.toUInt32 >>> ((1 : Int32) &&& 31).toUInt32).toInt32) &&& (1431655765 : Int32))))] [(.int (((p0 - (((p0.toUInt32 >>> ((1 : Int32) &&& 31).toUInt32).toInt32) &&& (1431655765 : Int32))).toUInt32 >>> ((2 : Int32) &&& 31).toUInt32).toInt32)), (.int ((p0 - (((p0.toUInt32 >>> ((1 : Int32) &&& 31).toUInt32).toInt32) &&& (1431655765 : Int32))) &&& (858993459 : Int32)))])) _
    refine X0.ldcwInt hx hown (mvT hZ (hw _ (List.mem_of_getElem? (i := 103) rfl))) (g := (mkF m 18 #[.val (.int (p0 - (((p0.toUInt32 >>> ((1 : Int32) &&& 31).toUInt32).toInt32) &&& (1431655765 : Int32))))] [(.int (((p0 - (((p0.toUInt32 >>> ((1 : Int32) &&& 31).toUInt32).toInt32) &&& (1431655765 : Int32))).toUInt32 >>> ((2 : Int32) &&& 31).toUInt32).toInt32)), (.int ((p0 - (((p0.toUInt32 >>> ((1 : Int32) &&& 31).toUInt32).toInt32) &&& (1431655765 : Int32))) &&& (858993459 : Int32)))])) rfl (hb hby d17_18) _ ?_
    show Steps p.tables e below (s₁.setTop (mkF m 21 #[.val (.int (p0 - (((p0.toUInt32 >>> ((1 : Int32) &&& 31).toUInt32).toInt32) &&& (1431655765 : Int32))))] [(.int (858993459 : Int32)), (.int (((p0 - (((p0.toUInt32 >>> ((1 : Int32) &&& 31).toUInt32).toInt32) &&& (1431655765 : Int32))).toUInt32 >>> ((2 : Int32) &&& 31).toUInt32).toInt32)), (.int ((p0 - (((p0.toUInt32 >>> ((1 : Int32) &&& 31).toUInt32).toInt32) &&& (1431655765 : Int32))) &&& (858993459 : Int32)))])) _
    refine XS.iand X0.here hx rfl (hb hby d17_21) rfl ?_
    show Steps p.tables e below (s₁.setTop (mkF m 22 #[.val (.int (p0 - (((p0.toUInt32 >>> ((1 : Int32) &&& 31).toUInt32).toInt32) &&& (1431655765 : Int32))))] [(.int ((((p0 - (((p0.toUInt32 >>> ((1 : Int32) &&& 31).toUInt32).toInt32) &&& (1431655765 : Int32))).toUInt32 >>> ((2 : Int32) &&& 31).toUInt32).toInt32) &&& (858993459 : Int32))), (.int ((p0 - (((p0.toUInt32 >>> ((1 : Int32) &&& 31).toUInt32).toInt32) &&& (1431655765 : Int32))) &&& (858993459 : Int32)))])) _
    refine XS.iadd X0.here hx rfl (hb hby d17_22) rfl ?_
    show Steps p.tables e below (s₁.setTop (mkF m 23 #[.val (.int (p0 - (((p0.toUInt32 >>> ((1 : Int32) &&& 31).toUInt32).toInt32) &&& (1431655765 : Int32))))] [(.int (((p0 - (((p0.toUInt32 >>> ((1 : Int32) &&& 31).toUInt32).toInt32) &&& (1431655765 : Int32))) &&& (858993459 : Int32)) + ((((p0 - (((p0.toUInt32 >>> ((1 : Int32) &&& 31).toUInt32).toInt32) &&& (1431655765 : Int32))).toUInt32 >>> ((2 : Int32) &&& 31).toUInt32).toInt32) &&& (858993459 : Int32))))])) _
    refine XS.istoreN X0.here hx rfl (hb hby d17_23) rfl (l' := #[.val (.int (((p0 - (((p0.toUInt32 >>> ((1 : Int32) &&& 31).toUInt32).toInt32) &&& (1431655765 : Int32))) &&& (858993459 : Int32)) + ((((p0 - (((p0.toUInt32 >>> ((1 : Int32) &&& 31).toUInt32).toInt32) &&& (1431655765 : Int32))).toUInt32 >>> ((2 : Int32) &&& 31).toUInt32).toInt32) &&& (858993459 : Int32))))]) rfl ?_
    show Steps p.tables e below (s₁.setTop (mkF m 24 #[.val (.int (((p0 - (((p0.toUInt32 >>> ((1 : Int32) &&& 31).toUInt32).toInt32) &&& (1431655765 : Int32))) &&& (858993459 : Int32)) + ((((p0 - (((p0.toUInt32 >>> ((1 : Int32) &&& 31).toUInt32).toInt32) &&& (1431655765 : Int32))).toUInt32 >>> ((2 : Int32) &&& 31).toUInt32).toInt32) &&& (858993459 : Int32))))] [])) _
    refine XS.iloadN X0.here hx rfl (hb hby d17_24) rfl ?_
    show Steps p.tables e below (s₁.setTop (mkF m 25 #[.val (.int (((p0 - (((p0.toUInt32 >>> ((1 : Int32) &&& 31).toUInt32).toInt32) &&& (1431655765 : Int32))) &&& (858993459 : Int32)) + ((((p0 - (((p0.toUInt32 >>> ((1 : Int32) &&& 31).toUInt32).toInt32) &&& (1431655765 : Int32))).toUInt32 >>> ((2 : Int32) &&& 31).toUInt32).toInt32) &&& (858993459 : Int32))))] [(.int (((p0 - (((p0.toUInt32 >>> ((1 : Int32) &&& 31).toUInt32).toInt32) &&& (1431655765 : Int32))) &&& (858993459 : Int32)) + ((((p0 - (((p0.toUInt32 >>> ((1 : Int32) &&& 31).toUInt32).toInt32) &&& (1431655765 : Int32))).toUInt32 >>> ((2 : Int32) &&& 31).toUInt32).toInt32) &&& (858993459 : Int32))))])) _
    refine XS.iloadN X0.here hx rfl (hb hby d17_25) rfl ?_
    show Steps p.tables e below (s₁.setTop (mkF m 26 #[.val (.int (((p0 - (((p0.toUInt32 >>> ((1 : Int32) &&& 31).toUInt32).toInt32) &&& (1431655765 : Int32))) &&& (858993459 : Int32)) + ((((p0 - (((p0.toUInt32 >>> ((1 : Int32) &&& 31).toUInt32).toInt32) &&& (1431655765 : Int32))).toUInt32 >>> ((2 : Int32) &&& 31).toUInt32).toInt32) &&& (858993459 : Int32))))] [(.int (((p0 - (((p0.toUInt32 >>> ((1 : Int32) &&& 31).toUInt32).toInt32) &&& (1431655765 : Int32))) &&& (858993459 : Int32)) + ((((p0 - (((p0.toUInt32 >>> ((1 : Int32) &&& 31).toUInt32).toInt32) &&& (1431655765 : Int32))).toUInt32 >>> ((2 : Int32) &&& 31).toUInt32).toInt32) &&& (858993459 : Int32)))), (.int (((p0 - (((p0.toUInt32 >>> ((1 : Int32) &&& 31).toUInt32).toInt32) &&& (1431655765 : Int32))) &&& (858993459 : Int32)) + ((((p0 - (((p0.toUInt32 >>> ((1 : Int32) &&& 31).toUInt32).toInt32) &&& (1431655765 : Int32))).toUInt32 >>> ((2 : Int32) &&& 31).toUInt32).toInt32) &&& (858993459 : Int32))))])) _
    refine XS.iconst X0.here hx rfl (hb hby d17_26) ?_
    show Steps p.tables e below (s₁.setTop (mkF m 27 #[.val (.int (((p0 - (((p0.toUInt32 >>> ((1 : Int32) &&& 31).toUInt32).toInt32) &&& (1431655765 : Int32))) &&& (858993459 : Int32)) + ((((p0 - (((p0.toUInt32 >>> ((1 : Int32) &&& 31).toUInt32).toInt32) &&& (1431655765 : Int32))).toUInt32 >>> ((2 : Int32) &&& 31).toUInt32).toInt32) &&& (858993459 : Int32))))] [(.int (4 : Int32)), (.int (((p0 - (((p0.toUInt32 >>> ((1 : Int32) &&& 31).toUInt32).toInt32) &&& (1431655765 : Int32))) &&& (858993459 : Int32)) + ((((p0 - (((p0.toUInt32 >>> ((1 : Int32) &&& 31).toUInt32).toInt32) &&& (1431655765 : Int32))).toUInt32 >>> ((2 : Int32) &&& 31).toUInt32).toInt32) &&& (858993459 : Int32)))), (.int (((p0 - (((p0.toUInt32 >>> ((1 : Int32) &&& 31).toUInt32).toInt32) &&& (1431655765 : Int32))) &&& (858993459 : Int32)) + ((((p0 - (((p0.toUInt32 >>> ((1 : Int32) &&& 31).toUInt32).toInt32) &&& (1431655765 : Int32))).toUInt32 >>> ((2 : Int32) &&& 31).toUInt32).toInt32) &&& (858993459 : Int32))))])) _
    refine XS.iushr X0.here hx rfl (hb hby d17_27) rfl ?_
    show Steps p.tables e below (s₁.setTop (mkF m 28 #[.val (.int (((p0 - (((p0.toUInt32 >>> ((1 : Int32) &&& 31).toUInt32).toInt32) &&& (1431655765 : Int32))) &&& (858993459 : Int32)) + ((((p0 - (((p0.toUInt32 >>> ((1 : Int32) &&& 31).toUInt32).toInt32) &&& (1431655765 : Int32))).toUInt32 >>> ((2 : Int32) &&& 31).toUInt32).toInt32) &&& (858993459 : Int32))))] [(.int (((((p0 - (((p0.toUInt32 >>> ((1 : Int32) &&& 31).toUInt32).toInt32) &&& (1431655765 : Int32))) &&& (858993459 : Int32)) + ((((p0 - (((p0.toUInt32 >>> ((1 : Int32) &&& 31).toUInt32).toInt32) &&& (1431655765 : Int32))).toUInt32 >>> ((2 : Int32) &&& 31).toUInt32).toInt32) &&& (858993459 : Int32))).toUInt32 >>> ((4 : Int32) &&& 31).toUInt32).toInt32)), (.int (((p0 - (((p0.toUInt32 >>> ((1 : Int32) &&& 31).toUInt32).toInt32) &&& (1431655765 : Int32))) &&& (858993459 : Int32)) + ((((p0 - (((p0.toUInt32 >>> ((1 : Int32) &&& 31).toUInt32).toInt32) &&& (1431655765 : Int32))).toUInt32 >>> ((2 : Int32) &&& 31).toUInt32).toInt32) &&& (858993459 : Int32))))])) _
    refine XS.iadd X0.here hx rfl (hb hby d17_28) rfl ?_
    show Steps p.tables e below (s₁.setTop (mkF m 29 #[.val (.int (((p0 - (((p0.toUInt32 >>> ((1 : Int32) &&& 31).toUInt32).toInt32) &&& (1431655765 : Int32))) &&& (858993459 : Int32)) + ((((p0 - (((p0.toUInt32 >>> ((1 : Int32) &&& 31).toUInt32).toInt32) &&& (1431655765 : Int32))).toUInt32 >>> ((2 : Int32) &&& 31).toUInt32).toInt32) &&& (858993459 : Int32))))] [(.int ((((p0 - (((p0.toUInt32 >>> ((1 : Int32) &&& 31).toUInt32).toInt32) &&& (1431655765 : Int32))) &&& (858993459 : Int32)) + ((((p0 - (((p0.toUInt32 >>> ((1 : Int32) &&& 31).toUInt32).toInt32) &&& (1431655765 : Int32))).toUInt32 >>> ((2 : Int32) &&& 31).toUInt32).toInt32) &&& (858993459 : Int32))) + (((((p0 - (((p0.toUInt32 >>> ((1 : Int32) &&& 31).toUInt32).toInt32) &&& (1431655765 : Int32))) &&& (858993459 : Int32)) + ((((p0 - (((p0.toUInt32 >>> ((1 : Int32) &&& 31).toUInt32).toInt32) &&& (1431655765 : Int32))).toUInt32 >>> ((2 : Int32) &&& 31).toUInt32).toInt32) &&& (858993459 : Int32))).toUInt32 >>> ((4 : Int32) &&& 31).toUInt32).toInt32)))])) _
    refine X0.ldcwInt hx hown (mvT hZ (hw _ (List.mem_of_getElem? (i := 104) rfl))) (g := (mkF m 29 #[.val (.int (((p0 - (((p0.toUInt32 >>> ((1 : Int32) &&& 31).toUInt32).toInt32) &&& (1431655765 : Int32))) &&& (858993459 : Int32)) + ((((p0 - (((p0.toUInt32 >>> ((1 : Int32) &&& 31).toUInt32).toInt32) &&& (1431655765 : Int32))).toUInt32 >>> ((2 : Int32) &&& 31).toUInt32).toInt32) &&& (858993459 : Int32))))] [(.int ((((p0 - (((p0.toUInt32 >>> ((1 : Int32) &&& 31).toUInt32).toInt32) &&& (1431655765 : Int32))) &&& (858993459 : Int32)) + ((((p0 - (((p0.toUInt32 >>> ((1 : Int32) &&& 31).toUInt32).toInt32) &&& (1431655765 : Int32))).toUInt32 >>> ((2 : Int32) &&& 31).toUInt32).toInt32) &&& (858993459 : Int32))) + (((((p0 - (((p0.toUInt32 >>> ((1 : Int32) &&& 31).toUInt32).toInt32) &&& (1431655765 : Int32))) &&& (858993459 : Int32)) + ((((p0 - (((p0.toUInt32 >>> ((1 : Int32) &&& 31).toUInt32).toInt32) &&& (1431655765 : Int32))).toUInt32 >>> ((2 : Int32) &&& 31).toUInt32).toInt32) &&& (858993459 : Int32))).toUInt32 >>> ((4 : Int32) &&& 31).toUInt32).toInt32)))])) rfl (hb hby d17_29) _ ?_
    show Steps p.tables e below (s₁.setTop (mkF m 32 #[.val (.int (((p0 - (((p0.toUInt32 >>> ((1 : Int32) &&& 31).toUInt32).toInt32) &&& (1431655765 : Int32))) &&& (858993459 : Int32)) + ((((p0 - (((p0.toUInt32 >>> ((1 : Int32) &&& 31).toUInt32).toInt32) &&& (1431655765 : Int32))).toUInt32 >>> ((2 : Int32) &&& 31).toUInt32).toInt32) &&& (858993459 : Int32))))] [(.int (252645135 : Int32)), (.int ((((p0 - (((p0.toUInt32 >>> ((1 : Int32) &&& 31).toUInt32).toInt32) &&& (1431655765 : Int32))) &&& (858993459 : Int32)) + ((((p0 - (((p0.toUInt32 >>> ((1 : Int32) &&& 31).toUInt32).toInt32) &&& (1431655765 : Int32))).toUInt32 >>> ((2 : Int32) &&& 31).toUInt32).toInt32) &&& (858993459 : Int32))) + (((((p0 - (((p0.toUInt32 >>> ((1 : Int32) &&& 31).toUInt32).toInt32) &&& (1431655765 : Int32))) &&& (858993459 : Int32)) + ((((p0 - (((p0.toUInt32 >>> ((1 : Int32) &&& 31).toUInt32).toInt32) &&& (1431655765 : Int32))).toUInt32 >>> ((2 : Int32) &&& 31).toUInt32).toInt32) &&& (858993459 : Int32))).toUInt32 >>> ((4 : Int32) &&& 31).toUInt32).toInt32)))])) _
    refine XS.iand X0.here hx rfl (hb hby d17_32) rfl ?_
    show Steps p.tables e below (s₁.setTop (mkF m 33 #[.val (.int (((p0 - (((p0.toUInt32 >>> ((1 : Int32) &&& 31).toUInt32).toInt32) &&& (1431655765 : Int32))) &&& (858993459 : Int32)) + ((((p0 - (((p0.toUInt32 >>> ((1 : Int32) &&& 31).toUInt32).toInt32) &&& (1431655765 : Int32))).toUInt32 >>> ((2 : Int32) &&& 31).toUInt32).toInt32) &&& (858993459 : Int32))))] [(.int (((((p0 - (((p0.toUInt32 >>> ((1 : Int32) &&& 31).toUInt32).toInt32) &&& (1431655765 : Int32))) &&& (858993459 : Int32)) + ((((p0 - (((p0.toUInt32 >>> ((1 : Int32) &&& 31).toUInt32).toInt32) &&& (1431655765 : Int32))).toUInt32 >>> ((2 : Int32) &&& 31).toUInt32).toInt32) &&& (858993459 : Int32))) + (((((p0 - (((p0.toUInt32 >>> ((1 : Int32) &&& 31).toUInt32).toInt32) &&& (1431655765 : Int32))) &&& (858993459 : Int32)) + ((((p0 - (((p0.toUInt32 >>> ((1 : Int32) &&& 31).toUInt32).toInt32) &&& (1431655765 : Int32))).toUInt32 >>> ((2 : Int32) &&& 31).toUInt32).toInt32) &&& (858993459 : Int32))).toUInt32 >>> ((4 : Int32) &&& 31).toUInt32).toInt32)) &&& (252645135 : Int32)))])) _
    refine XS.istoreN X0.here hx rfl (hb hby d17_33) rfl (l' := #[.val (.int (((((p0 - (((p0.toUInt32 >>> ((1 : Int32) &&& 31).toUInt32).toInt32) &&& (1431655765 : Int32))) &&& (858993459 : Int32)) + ((((p0 - (((p0.toUInt32 >>> ((1 : Int32) &&& 31).toUInt32).toInt32) &&& (1431655765 : Int32))).toUInt32 >>> ((2 : Int32) &&& 31).toUInt32).toInt32) &&& (858993459 : Int32))) + (((((p0 - (((p0.toUInt32 >>> ((1 : Int32) &&& 31).toUInt32).toInt32) &&& (1431655765 : Int32))) &&& (858993459 : Int32)) + ((((p0 - (((p0.toUInt32 >>> ((1 : Int32) &&& 31).toUInt32).toInt32) &&& (1431655765 : Int32))).toUInt32 >>> ((2 : Int32) &&& 31).toUInt32).toInt32) &&& (858993459 : Int32))).toUInt32 >>> ((4 : Int32) &&& 31).toUInt32).toInt32)) &&& (252645135 : Int32)))]) rfl ?_
    show Steps p.tables e below (s₁.setTop (mkF m 34 #[.val (.int (((((p0 - (((p0.toUInt32 >>> ((1 : Int32) &&& 31).toUInt32).toInt32) &&& (1431655765 : Int32))) &&& (858993459 : Int32)) + ((((p0 - (((p0.toUInt32 >>> ((1 : Int32) &&& 31).toUInt32).toInt32) &&& (1431655765 : Int32))).toUInt32 >>> ((2 : Int32) &&& 31).toUInt32).toInt32) &&& (858993459 : Int32))) + (((((p0 - (((p0.toUInt32 >>> ((1 : Int32) &&& 31).toUInt32).toInt32) &&& (1431655765 : Int32))) &&& (858993459 : Int32)) + ((((p0 - (((p0.toUInt32 >>> ((1 : Int32) &&& 31).toUInt32).toInt32) &&& (1431655765 : Int32))).toUInt32 >>> ((2 : Int32) &&& 31).toUInt32).toInt32) &&& (858993459 : Int32))).toUInt32 >>> ((4 : Int32) &&& 31).toUInt32).toInt32)) &&& (252645135 : Int32)))] [])) _
    refine XS.iloadN X0.here hx rfl (hb hby d17_34) rfl ?_
    show Steps p.tables e below (s₁.setTop (mkF m 35 #[.val (.int (((((p0 - (((p0.toUInt32 >>> ((1 : Int32) &&& 31).toUInt32).toInt32) &&& (1431655765 : Int32))) &&& (858993459 : Int32)) + ((((p0 - (((p0.toUInt32 >>> ((1 : Int32) &&& 31).toUInt32).toInt32) &&& (1431655765 : Int32))).toUInt32 >>> ((2 : Int32) &&& 31).toUInt32).toInt32) &&& (858993459 : Int32))) + (((((p0 - (((p0.toUInt32 >>> ((1 : Int32) &&& 31).toUInt32).toInt32) &&& (1431655765 : Int32))) &&& (858993459 : Int32)) + ((((p0 - (((p0.toUInt32 >>> ((1 : Int32) &&& 31).toUInt32).toInt32) &&& (1431655765 : Int32))).toUInt32 >>> ((2 : Int32) &&& 31).toUInt32).toInt32) &&& (858993459 : Int32))).toUInt32 >>> ((4 : Int32) &&& 31).toUInt32).toInt32)) &&& (252645135 : Int32)))] [(.int (((((p0 - (((p0.toUInt32 >>> ((1 : Int32) &&& 31).toUInt32).toInt32) &&& (1431655765 : Int32))) &&& (858993459 : Int32)) + ((((p0 - (((p0.toUInt32 >>> ((1 : Int32) &&& 31).toUInt32).toInt32) &&& (1431655765 : Int32))).toUInt32 >>> ((2 : Int32) &&& 31).toUInt32).toInt32) &&& (858993459 : Int32))) + (((((p0 - (((p0.toUInt32 >>> ((1 : Int32) &&& 31).toUInt32).toInt32) &&& (1431655765 : Int32))) &&& (858993459 : Int32)) + ((((p0 - (((p0.toUInt32 >>> ((1 : Int32) &&& 31).toUInt32).toInt32) &&& (1431655765 : Int32))).toUInt32 >>> ((2 : Int32) &&& 31).toUInt32).toInt32) &&& (858993459 : Int32))).toUInt32 >>> ((4 : Int32) &&& 31).toUInt32).toInt32)) &&& (252645135 : Int32)))])) _
    refine XS.iloadN X0.here hx rfl (hb hby d17_35) rfl ?_
    show Steps p.tables e below (s₁.setTop (mkF m 36 #[.val (.int (((((p0 - (((p0.toUInt32 >>> ((1 : Int32) &&& 31).toUInt32).toInt32) &&& (1431655765 : Int32))) &&& (858993459 : Int32)) + ((((p0 - (((p0.toUInt32 >>> ((1 : Int32) &&& 31).toUInt32).toInt32) &&& (1431655765 : Int32))).toUInt32 >>> ((2 : Int32) &&& 31).toUInt32).toInt32) &&& (858993459 : Int32))) + (((((p0 - (((p0.toUInt32 >>> ((1 : Int32) &&& 31).toUInt32).toInt32) &&& (1431655765 : Int32))) &&& (858993459 : Int32)) + ((((p0 - (((p0.toUInt32 >>> ((1 : Int32) &&& 31).toUInt32).toInt32) &&& (1431655765 : Int32))).toUInt32 >>> ((2 : Int32) &&& 31).toUInt32).toInt32) &&& (858993459 : Int32))).toUInt32 >>> ((4 : Int32) &&& 31).toUInt32).toInt32)) &&& (252645135 : Int32)))] [(.int (((((p0 - (((p0.toUInt32 >>> ((1 : Int32) &&& 31).toUInt32).toInt32) &&& (1431655765 : Int32))) &&& (858993459 : Int32)) + ((((p0 - (((p0.toUInt32 >>> ((1 : Int32) &&& 31).toUInt32).toInt32) &&& (1431655765 : Int32))).toUInt32 >>> ((2 : Int32) &&& 31).toUInt32).toInt32) &&& (858993459 : Int32))) + (((((p0 - (((p0.toUInt32 >>> ((1 : Int32) &&& 31).toUInt32).toInt32) &&& (1431655765 : Int32))) &&& (858993459 : Int32)) + ((((p0 - (((p0.toUInt32 >>> ((1 : Int32) &&& 31).toUInt32).toInt32) &&& (1431655765 : Int32))).toUInt32 >>> ((2 : Int32) &&& 31).toUInt32).toInt32) &&& (858993459 : Int32))).toUInt32 >>> ((4 : Int32) &&& 31).toUInt32).toInt32)) &&& (252645135 : Int32))), (.int (((((p0 - (((p0.toUInt32 >>> ((1 : Int32) &&& 31).toUInt32).toInt32) &&& (1431655765 : Int32))) &&& (858993459 : Int32)) + ((((p0 - (((p0.toUInt32 >>> ((1 : Int32) &&& 31).toUInt32).toInt32) &&& (1431655765 : Int32))).toUInt32 >>> ((2 : Int32) &&& 31).toUInt32).toInt32) &&& (858993459 : Int32))) + (((((p0 - (((p0.toUInt32 >>> ((1 : Int32) &&& 31).toUInt32).toInt32) &&& (1431655765 : Int32))) &&& (858993459 : Int32)) + ((((p0 - (((p0.toUInt32 >>> ((1 : Int32) &&& 31).toUInt32).toInt32) &&& (1431655765 : Int32))).toUInt32 >>> ((2 : Int32) &&& 31).toUInt32).toInt32) &&& (858993459 : Int32))).toUInt32 >>> ((4 : Int32) &&& 31).toUInt32).toInt32)) &&& (252645135 : Int32)))])) _
    refine XS.bipush X0.here hx rfl (hb hby d17_36) ?_
    show Steps p.tables e below (s₁.setTop (mkF m 38 #[.val (.int (((((p0 - (((p0.toUInt32 >>> ((1 : Int32) &&& 31).toUInt32).toInt32) &&& (1431655765 : Int32))) &&& (858993459 : Int32)) + ((((p0 - (((p0.toUInt32 >>> ((1 : Int32) &&& 31).toUInt32).toInt32) &&& (1431655765 : Int32))).toUInt32 >>> ((2 : Int32) &&& 31).toUInt32).toInt32) &&& (858993459 : Int32))) + (((((p0 - (((p0.toUInt32 >>> ((1 : Int32) &&& 31).toUInt32).toInt32) &&& (1431655765 : Int32))) &&& (858993459 : Int32)) + ((((p0 - (((p0.toUInt32 >>> ((1 : Int32) &&& 31).toUInt32).toInt32) &&& (1431655765 : Int32))).toUInt32 >>> ((2 : Int32) &&& 31).toUInt32).toInt32) &&& (858993459 : Int32))).toUInt32 >>> ((4 : Int32) &&& 31).toUInt32).toInt32)) &&& (252645135 : Int32)))] [(.int (8 : Int32)), (.int (((((p0 - (((p0.toUInt32 >>> ((1 : Int32) &&& 31).toUInt32).toInt32) &&& (1431655765 : Int32))) &&& (858993459 : Int32)) + ((((p0 - (((p0.toUInt32 >>> ((1 : Int32) &&& 31).toUInt32).toInt32) &&& (1431655765 : Int32))).toUInt32 >>> ((2 : Int32) &&& 31).toUInt32).toInt32) &&& (858993459 : Int32))) + (((((p0 - (((p0.toUInt32 >>> ((1 : Int32) &&& 31).toUInt32).toInt32) &&& (1431655765 : Int32))) &&& (858993459 : Int32)) + ((((p0 - (((p0.toUInt32 >>> ((1 : Int32) &&& 31).toUInt32).toInt32) &&& (1431655765 : Int32))).toUInt32 >>> ((2 : Int32) &&& 31).toUInt32).toInt32) &&& (858993459 : Int32))).toUInt32 >>> ((4 : Int32) &&& 31).toUInt32).toInt32)) &&& (252645135 : Int32))), (.int (((((p0 - (((p0.toUInt32 >>> ((1 : Int32) &&& 31).toUInt32).toInt32) &&& (1431655765 : Int32))) &&& (858993459 : Int32)) + ((((p0 - (((p0.toUInt32 >>> ((1 : Int32) &&& 31).toUInt32).toInt32) &&& (1431655765 : Int32))).toUInt32 >>> ((2 : Int32) &&& 31).toUInt32).toInt32) &&& (858993459 : Int32))) + (((((p0 - (((p0.toUInt32 >>> ((1 : Int32) &&& 31).toUInt32).toInt32) &&& (1431655765 : Int32))) &&& (858993459 : Int32)) + ((((p0 - (((p0.toUInt32 >>> ((1 : Int32) &&& 31).toUInt32).toInt32) &&& (1431655765 : Int32))).toUInt32 >>> ((2 : Int32) &&& 31).toUInt32).toInt32) &&& (858993459 : Int32))).toUInt32 >>> ((4 : Int32) &&& 31).toUInt32).toInt32)) &&& (252645135 : Int32)))])) _
    refine XS.iushr X0.here hx rfl (hb hby d17_38) rfl ?_
    show Steps p.tables e below (s₁.setTop (mkF m 39 #[.val (.int (((((p0 - (((p0.toUInt32 >>> ((1 : Int32) &&& 31).toUInt32).toInt32) &&& (1431655765 : Int32))) &&& (858993459 : Int32)) + ((((p0 - (((p0.toUInt32 >>> ((1 : Int32) &&& 31).toUInt32).toInt32) &&& (1431655765 : Int32))).toUInt32 >>> ((2 : Int32) &&& 31).toUInt32).toInt32) &&& (858993459 : Int32))) + (((((p0 - (((p0.toUInt32 >>> ((1 : Int32) &&& 31).toUInt32).toInt32) &&& (1431655765 : Int32))) &&& (858993459 : Int32)) + ((((p0 - (((p0.toUInt32 >>> ((1 : Int32) &&& 31).toUInt32).toInt32) &&& (1431655765 : Int32))).toUInt32 >>> ((2 : Int32) &&& 31).toUInt32).toInt32) &&& (858993459 : Int32))).toUInt32 >>> ((4 : Int32) &&& 31).toUInt32).toInt32)) &&& (252645135 : Int32)))] [(.int (((((((p0 - (((p0.toUInt32 >>> ((1 : Int32) &&& 31).toUInt32).toInt32) &&& (1431655765 : Int32))) &&& (858993459 : Int32)) + ((((p0 - (((p0.toUInt32 >>> ((1 : Int32) &&& 31).toUInt32).toInt32) &&& (1431655765 : Int32))).toUInt32 >>> ((2 : Int32) &&& 31).toUInt32).toInt32) &&& (858993459 : Int32))) + (((((p0 - (((p0.toUInt32 >>> ((1 : Int32) &&& 31).toUInt32).toInt32) &&& (1431655765 : Int32))) &&& (858993459 : Int32)) + ((((p0 - (((p0.toUInt32 >>> ((1 : Int32) &&& 31).toUInt32).toInt32) &&& (1431655765 : Int32))).toUInt32 >>> ((2 : Int32) &&& 31).toUInt32).toInt32) &&& (858993459 : Int32))).toUInt32 >>> ((4 : Int32) &&& 31).toUInt32).toInt32)) &&& (252645135 : Int32)).toUInt32 >>> ((8 : Int32) &&& 31).toUInt32).toInt32)), (.int (((((p0 - (((p0.toUInt32 >>> ((1 : Int32) &&& 31).toUInt32).toInt32) &&& (1431655765 : Int32))) &&& (858993459 : Int32)) + ((((p0 - (((p0.toUInt32 >>> ((1 : Int32) &&& 31).toUInt32).toInt32) &&& (1431655765 : Int32))).toUInt32 >>> ((2 : Int32) &&& 31).toUInt32).toInt32) &&& (858993459 : Int32))) + (((((p0 - (((p0.toUInt32 >>> ((1 : Int32) &&& 31).toUInt32).toInt32) &&& (1431655765 : Int32))) &&& (858993459 : Int32)) + ((((p0 - (((p0.toUInt32 >>> ((1 : Int32) &&& 31).toUInt32).toInt32) &&& (1431655765 : Int32))).toUInt32 >>> ((2 : Int32) &&& 31).toUInt32).toInt32) &&& (858993459 : Int32))).toUInt32 >>> ((4 : Int32) &&& 31).toUInt32).toInt32)) &&& (252645135 : Int32)))])) _
    refine XS.iadd X0.here hx rfl (hb hby d17_39) rfl ?_
    show Steps p.tables e below (s₁.setTop (mkF m 40 #[.val (.int (((((p0 - (((p0.toUInt32 >>> ((1 : Int32) &&& 31).toUInt32).toInt32) &&& (1431655765 : Int32))) &&& (858993459 : Int32)) + ((((p0 - (((p0.toUInt32 >>> ((1 : Int32) &&& 31).toUInt32).toInt32) &&& (1431655765 : Int32))).toUInt32 >>> ((2 : Int32) &&& 31).toUInt32).toInt32) &&& (858993459 : Int32))) + (((((p0 - (((p0.toUInt32 >>> ((1 : Int32) &&& 31).toUInt32).toInt32) &&& (1431655765 : Int32))) &&& (858993459 : Int32)) + ((((p0 - (((p0.toUInt32 >>> ((1 : Int32) &&& 31).toUInt32).toInt32) &&& (1431655765 : Int32))).toUInt32 >>> ((2 : Int32) &&& 31).toUInt32).toInt32) &&& (858993459 : Int32))).toUInt32 >>> ((4 : Int32) &&& 31).toUInt32).toInt32)) &&& (252645135 : Int32)))] [(.int ((((((p0 - (((p0.toUInt32 >>> ((1 : Int32) &&& 31).toUInt32).toInt32) &&& (1431655765 : Int32))) &&& (858993459 : Int32)) + ((((p0 - (((p0.toUInt32 >>> ((1 : Int32) &&& 31).toUInt32).toInt32) &&& (1431655765 : Int32))).toUInt32 >>> ((2 : Int32) &&& 31).toUInt32).toInt32) &&& (858993459 : Int32))) + (((((p0 - (((p0.toUInt32 >>> ((1 : Int32) &&& 31).toUInt32).toInt32) &&& (1431655765 : Int32))) &&& (858993459 : Int32)) + ((((p0 - (((p0.toUInt32 >>> ((1 : Int32) &&& 31).toUInt32).toInt32) &&& (1431655765 : Int32))).toUInt32 >>> ((2 : Int32) &&& 31).toUInt32).toInt32) &&& (858993459 : Int32))).toUInt32 >>> ((4 : Int32) &&& 31).toUInt32).toInt32)) &&& (252645135 : Int32)) + (((((((p0 - (((p0.toUInt32 >>> ((1 : Int32) &&& 31).toUInt32).toInt32) &&& (1431655765 : Int32))) &&& (858993459 : Int32)) + ((((p0 - (((p0.toUInt32 >>> ((1 : Int32) &&& 31).toUInt32).toInt32) &&& (1431655765 : Int32))).toUInt32 >>> ((2 : Int32) &&& 31).toUInt32).toInt32) &&& (858993459 : Int32))) + (((((p0 - (((p0.toUInt32 >>> ((1 : Int32) &&& 31).toUInt32).toInt32) &&& (1431655765 : Int32))) &&& (858993459 : Int32)) + ((((p0 - (((p0.toUInt32 >>> ((1 : Int32) &&& 31).toUInt32).toInt32) &&& (1431655765 : Int32))).toUInt32 >>> ((2 : Int32) &&& 31).toUInt32).toInt32) &&& (858993459 : Int32))).toUInt32 >>> ((4 : Int32) &&& 31).toUInt32).toInt32)) &&& (252645135 : Int32)).toUInt32 >>> ((8 : Int32) &&& 31).toUInt32).toInt32)))])) _
    refine XS.istoreN X0.here hx rfl (hb hby d17_40) rfl (l' := #[.val (.int ((((((p0 - (((p0.toUInt32 >>> ((1 : Int32) &&& 31).toUInt32).toInt32) &&& (1431655765 : Int32))) &&& (858993459 : Int32)) + ((((p0 - (((p0.toUInt32 >>> ((1 : Int32) &&& 31).toUInt32).toInt32) &&& (1431655765 : Int32))).toUInt32 >>> ((2 : Int32) &&& 31).toUInt32).toInt32) &&& (858993459 : Int32))) + (((((p0 - (((p0.toUInt32 >>> ((1 : Int32) &&& 31).toUInt32).toInt32) &&& (1431655765 : Int32))) &&& (858993459 : Int32)) + ((((p0 - (((p0.toUInt32 >>> ((1 : Int32) &&& 31).toUInt32).toInt32) &&& (1431655765 : Int32))).toUInt32 >>> ((2 : Int32) &&& 31).toUInt32).toInt32) &&& (858993459 : Int32))).toUInt32 >>> ((4 : Int32) &&& 31).toUInt32).toInt32)) &&& (252645135 : Int32)) + (((((((p0 - (((p0.toUInt32 >>> ((1 : Int32) &&& 31).toUInt32).toInt32) &&& (1431655765 : Int32))) &&& (858993459 : Int32)) + ((((p0 - (((p0.toUInt32 >>> ((1 : Int32) &&& 31).toUInt32).toInt32) &&& (1431655765 : Int32))).toUInt32 >>> ((2 : Int32) &&& 31).toUInt32).toInt32) &&& (858993459 : Int32))) + (((((p0 - (((p0.toUInt32 >>> ((1 : Int32) &&& 31).toUInt32).toInt32) &&& (1431655765 : Int32))) &&& (858993459 : Int32)) + ((((p0 - (((p0.toUInt32 >>> ((1 : Int32) &&& 31).toUInt32).toInt32) &&& (1431655765 : Int32))).toUInt32 >>> ((2 : Int32) &&& 31).toUInt32).toInt32) &&& (858993459 : Int32))).toUInt32 >>> ((4 : Int32) &&& 31).toUInt32).toInt32)) &&& (252645135 : Int32)).toUInt32 >>> ((8 : Int32) &&& 31).toUInt32).toInt32)))]) rfl ?_
    show Steps p.tables e below (s₁.setTop (mkF m 41 #[.val (.int ((((((p0 - (((p0.toUInt32 >>> ((1 : Int32) &&& 31).toUInt32).toInt32) &&& (1431655765 : Int32))) &&& (858993459 : Int32)) + ((((p0 - (((p0.toUInt32 >>> ((1 : Int32) &&& 31).toUInt32).toInt32) &&& (1431655765 : Int32))).toUInt32 >>> ((2 : Int32) &&& 31).toUInt32).toInt32) &&& (858993459 : Int32))) + (((((p0 - (((p0.toUInt32 >>> ((1 : Int32) &&& 31).toUInt32).toInt32) &&& (1431655765 : Int32))) &&& (858993459 : Int32)) + ((((p0 - (((p0.toUInt32 >>> ((1 : Int32) &&& 31).toUInt32).toInt32) &&& (1431655765 : Int32))).toUInt32 >>> ((2 : Int32) &&& 31).toUInt32).toInt32) &&& (858993459 : Int32))).toUInt32 >>> ((4 : Int32) &&& 31).toUInt32).toInt32)) &&& (252645135 : Int32)) + (((((((p0 - (((p0.toUInt32 >>> ((1 : Int32) &&& 31).toUInt32).toInt32) &&& (1431655765 : Int32))) &&& (858993459 : Int32)) + ((((p0 - (((p0.toUInt32 >>> ((1 : Int32) &&& 31).toUInt32).toInt32) &&& (1431655765 : Int32))).toUInt32 >>> ((2 : Int32) &&& 31).toUInt32).toInt32) &&& (858993459 : Int32))) + (((((p0 - (((p0.toUInt32 >>> ((1 : Int32) &&& 31).toUInt32).toInt32) &&& (1431655765 : Int32))) &&& (858993459 : Int32)) + ((((p0 - (((p0.toUInt32 >>> ((1 : Int32) &&& 31).toUInt32).toInt32) &&& (1431655765 : Int32))).toUInt32 >>> ((2 : Int32) &&& 31).toUInt32).toInt32) &&& (858993459 : Int32))).toUInt32 >>> ((4 : Int32) &&& 31).toUInt32).toInt32)) &&& (252645135 : Int32)).toUInt32 >>> ((8 : Int32) &&& 31).toUInt32).toInt32)))] [])) _
    refine XS.iloadN X0.here hx rfl (hb hby d17_41) rfl ?_
    show Steps p.tables e below (s₁.setTop (mkF m 42 #[.val (.int ((((((p0 - (((p0.toUInt32 >>> ((1 : Int32) &&& 31).toUInt32).toInt32) &&& (1431655765 : Int32))) &&& (858993459 : Int32)) + ((((p0 - (((p0.toUInt32 >>> ((1 : Int32) &&& 31).toUInt32).toInt32) &&& (1431655765 : Int32))).toUInt32 >>> ((2 : Int32) &&& 31).toUInt32).toInt32) &&& (858993459 : Int32))) + (((((p0 - (((p0.toUInt32 >>> ((1 : Int32) &&& 31).toUInt32).toInt32) &&& (1431655765 : Int32))) &&& (858993459 : Int32)) + ((((p0 - (((p0.toUInt32 >>> ((1 : Int32) &&& 31).toUInt32).toInt32) &&& (1431655765 : Int32))).toUInt32 >>> ((2 : Int32) &&& 31).toUInt32).toInt32) &&& (858993459 : Int32))).toUInt32 >>> ((4 : Int32) &&& 31).toUInt32).toInt32)) &&& (252645135 : Int32)) + (((((((p0 - (((p0.toUInt32 >>> ((1 : Int32) &&& 31).toUInt32).toInt32) &&& (1431655765 : Int32))) &&& (858993459 : Int32)) + ((((p0 - (((p0.toUInt32 >>> ((1 : Int32) &&& 31).toUInt32).toInt32) &&& (1431655765 : Int32))).toUInt32 >>> ((2 : Int32) &&& 31).toUInt32).toInt32) &&& (858993459 : Int32))) + (((((p0 - (((p0.toUInt32 >>> ((1 : Int32) &&& 31).toUInt32).toInt32) &&& (1431655765 : Int32))) &&& (858993459 : Int32)) + ((((p0 - (((p0.toUInt32 >>> ((1 : Int32) &&& 31).toUInt32).toInt32) &&& (1431655765 : Int32))).toUInt32 >>> ((2 : Int32) &&& 31).toUInt32).toInt32) &&& (858993459 : Int32))).toUInt32 >>> ((4 : Int32) &&& 31).toUInt32).toInt32)) &&& (252645135 : Int32)).toUInt32 >>> ((8 : Int32) &&& 31).toUInt32).toInt32)))] [(.int ((((((p0 - (((p0.toUInt32 >>> ((1 : Int32) &&& 31).toUInt32).toInt32) &&& (1431655765 : Int32))) &&& (858993459 : Int32)) + ((((p0 - (((p0.toUInt32 >>> ((1 : Int32) &&& 31).toUInt32).toInt32) &&& (1431655765 : Int32))).toUInt32 >>> ((2 : Int32) &&& 31).toUInt32).toInt32) &&& (858993459 : Int32))) + (((((p0 - (((p0.toUInt32 >>> ((1 : Int32) &&& 31).toUInt32).toInt32) &&& (1431655765 : Int32))) &&& (858993459 : Int32)) + ((((p0 - (((p0.toUInt32 >>> ((1 : Int32) &&& 31).toUInt32).toInt32) &&& (1431655765 : Int32))).toUInt32 >>> ((2 : Int32) &&& 31).toUInt32).toInt32) &&& (858993459 : Int32))).toUInt32 >>> ((4 : Int32) &&& 31).toUInt32).toInt32)) &&& (252645135 : Int32)) + (((((((p0 - (((p0.toUInt32 >>> ((1 : Int32) &&& 31).toUInt32).toInt32) &&& (1431655765 : Int32))) &&& (858993459 : Int32)) + ((((p0 - (((p0.toUInt32 >>> ((1 : Int32) &&& 31).toUInt32).toInt32) &&& (1431655765 : Int32))).toUInt32 >>> ((2 : Int32) &&& 31).toUInt32).toInt32) &&& (858993459 : Int32))) + (((((p0 - (((p0.toUInt32 >>> ((1 : Int32) &&& 31).toUInt32).toInt32) &&& (1431655765 : Int32))) &&& (858993459 : Int32)) + ((((p0 - (((p0.toUInt32 >>> ((1 : Int32) &&& 31).toUInt32).toInt32) &&& (1431655765 : Int32))).toUInt32 >>> ((2 : Int32) &&& 31).toUInt32).toInt32) &&& (858993459 : Int32))).toUInt32 >>> ((4 : Int32) &&& 31).toUInt32).toInt32)) &&& (252645135 : Int32)).toUInt32 >>> ((8 : Int32) &&& 31).toUInt32).toInt32)))])) _
    refine XS.iloadN X0.here hx rfl (hb hby d17_42) rfl ?_
    show Steps p.tables e below (s₁.setTop (mkF m 43 #[.val (.int ((((((p0 - (((p0.toUInt32 >>> ((1 : Int32) &&& 31).toUInt32).toInt32) &&& (1431655765 : Int32))) &&& (858993459 : Int32)) + ((((p0 - (((p0.toUInt32 >>> ((1 : Int32) &&& 31).toUInt32).toInt32) &&& (1431655765 : Int32))).toUInt32 >>> ((2 : Int32) &&& 31).toUInt32).toInt32) &&& (858993459 : Int32))) + (((((p0 - (((p0.toUInt32 >>> ((1 : Int32) &&& 31).toUInt32).toInt32) &&& (1431655765 : Int32))) &&& (858993459 : Int32)) + ((((p0 - (((p0.toUInt32 >>> ((1 : Int32) &&& 31).toUInt32).toInt32) &&& (1431655765 : Int32))).toUInt32 >>> ((2 : Int32) &&& 31).toUInt32).toInt32) &&& (858993459 : Int32))).toUInt32 >>> ((4 : Int32) &&& 31).toUInt32).toInt32)) &&& (252645135 : Int32)) + (((((((p0 - (((p0.toUInt32 >>> ((1 : Int32) &&& 31).toUInt32).toInt32) &&& (1431655765 : Int32))) &&& (858993459 : Int32)) + ((((p0 - (((p0.toUInt32 >>> ((1 : Int32) &&& 31).toUInt32).toInt32) &&& (1431655765 : Int32))).toUInt32 >>> ((2 : Int32) &&& 31).toUInt32).toInt32) &&& (858993459 : Int32))) + (((((p0 - (((p0.toUInt32 >>> ((1 : Int32) &&& 31).toUInt32).toInt32) &&& (1431655765 : Int32))) &&& (858993459 : Int32)) + ((((p0 - (((p0.toUInt32 >>> ((1 : Int32) &&& 31).toUInt32).toInt32) &&& (1431655765 : Int32))).toUInt32 >>> ((2 : Int32) &&& 31).toUInt32).toInt32) &&& (858993459 : Int32))).toUInt32 >>> ((4 : Int32) &&& 31).toUInt32).toInt32)) &&& (252645135 : Int32)).toUInt32 >>> ((8 : Int32) &&& 31).toUInt32).toInt32)))] [(.int ((((((p0 - (((p0.toUInt32 >>> ((1 : Int32) &&& 31).toUInt32).toInt32) &&& (1431655765 : Int32))) &&& (858993459 : Int32)) + ((((p0 - (((p0.toUInt32 >>> ((1 : Int32) &&& 31).toUInt32).toInt32) &&& (1431655765 : Int32))).toUInt32 >>> ((2 : Int32) &&& 31).toUInt32).toInt32) &&& (858993459 : Int32))) + (((((p0 - (((p0.toUInt32 >>> ((1 : Int32) &&& 31).toUInt32).toInt32) &&& (1431655765 : Int32))) &&& (858993459 : Int32)) + ((((p0 - (((p0.toUInt32 >>> ((1 : Int32) &&& 31).toUInt32).toInt32) &&& (1431655765 : Int32))).toUInt32 >>> ((2 : Int32) &&& 31).toUInt32).toInt32) &&& (858993459 : Int32))).toUInt32 >>> ((4 : Int32) &&& 31).toUInt32).toInt32)) &&& (252645135 : Int32)) + (((((((p0 - (((p0.toUInt32 >>> ((1 : Int32) &&& 31).toUInt32).toInt32) &&& (1431655765 : Int32))) &&& (858993459 : Int32)) + ((((p0 - (((p0.toUInt32 >>> ((1 : Int32) &&& 31).toUInt32).toInt32) &&& (1431655765 : Int32))).toUInt32 >>> ((2 : Int32) &&& 31).toUInt32).toInt32) &&& (858993459 : Int32))) + (((((p0 - (((p0.toUInt32 >>> ((1 : Int32) &&& 31).toUInt32).toInt32) &&& (1431655765 : Int32))) &&& (858993459 : Int32)) + ((((p0 - (((p0.toUInt32 >>> ((1 : Int32) &&& 31).toUInt32).toInt32) &&& (1431655765 : Int32))).toUInt32 >>> ((2 : Int32) &&& 31).toUInt32).toInt32) &&& (858993459 : Int32))).toUInt32 >>> ((4 : Int32) &&& 31).toUInt32).toInt32)) &&& (252645135 : Int32)).toUInt32 >>> ((8 : Int32) &&& 31).toUInt32).toInt32))), (.int ((((((p0 - (((p0.toUInt32 >>> ((1 : Int32) &&& 31).toUInt32).toInt32) &&& (1431655765 : Int32))) &&& (858993459 : Int32)) + ((((p0 - (((p0.toUInt32 >>> ((1 : Int32) &&& 31).toUInt32).toInt32) &&& (1431655765 : Int32))).toUInt32 >>> ((2 : Int32) &&& 31).toUInt32).toInt32) &&& (858993459 : Int32))) + (((((p0 - (((p0.toUInt32 >>> ((1 : Int32) &&& 31).toUInt32).toInt32) &&& (1431655765 : Int32))) &&& (858993459 : Int32)) + ((((p0 - (((p0.toUInt32 >>> ((1 : Int32) &&& 31).toUInt32).toInt32) &&& (1431655765 : Int32))).toUInt32 >>> ((2 : Int32) &&& 31).toUInt32).toInt32) &&& (858993459 : Int32))).toUInt32 >>> ((4 : Int32) &&& 31).toUInt32).toInt32)) &&& (252645135 : Int32)) + (((((((p0 - (((p0.toUInt32 >>> ((1 : Int32) &&& 31).toUInt32).toInt32) &&& (1431655765 : Int32))) &&& (858993459 : Int32)) + ((((p0 - (((p0.toUInt32 >>> ((1 : Int32) &&& 31).toUInt32).toInt32) &&& (1431655765 : Int32))).toUInt32 >>> ((2 : Int32) &&& 31).toUInt32).toInt32) &&& (858993459 : Int32))) + (((((p0 - (((p0.toUInt32 >>> ((1 : Int32) &&& 31).toUInt32).toInt32) &&& (1431655765 : Int32))) &&& (858993459 : Int32)) + ((((p0 - (((p0.toUInt32 >>> ((1 : Int32) &&& 31).toUInt32).toInt32) &&& (1431655765 : Int32))).toUInt32 >>> ((2 : Int32) &&& 31).toUInt32).toInt32) &&& (858993459 : Int32))).toUInt32 >>> ((4 : Int32) &&& 31).toUInt32).toInt32)) &&& (252645135 : Int32)).toUInt32 >>> ((8 : Int32) &&& 31).toUInt32).toInt32)))])) _
    refine XS.bipush X0.here hx rfl (hb hby d17_43) ?_
    show Steps p.tables e below (s₁.setTop (mkF m 45 #[.val (.int ((((((p0 - (((p0.toUInt32 >>> ((1 : Int32) &&& 31).toUInt32).toInt32) &&& (1431655765 : Int32))) &&& (858993459 : Int32)) + ((((p0 - (((p0.toUInt32 >>> ((1 : Int32) &&& 31).toUInt32).toInt32) &&& (1431655765 : Int32))).toUInt32 >>> ((2 : Int32) &&& 31).toUInt32).toInt32) &&& (858993459 : Int32))) + (((((p0 - (((p0.toUInt32 >>> ((1 : Int32) &&& 31).toUInt32).toInt32) &&& (1431655765 : Int32))) &&& (858993459 : Int32)) + ((((p0 - (((p0.toUInt32 >>> ((1 : Int32) &&& 31).toUInt32).toInt32) &&& (1431655765 : Int32))).toUInt32 >>> ((2 : Int32) &&& 31).toUInt32).toInt32) &&& (858993459 : Int32))).toUInt32 >>> ((4 : Int32) &&& 31).toUInt32).toInt32)) &&& (252645135 : Int32)) + (((((((p0 - (((p0.toUInt32 >>> ((1 : Int32) &&& 31).toUInt32).toInt32) &&& (1431655765 : Int32))) &&& (858993459 : Int32)) + ((((p0 - (((p0.toUInt32 >>> ((1 : Int32) &&& 31).toUInt32).toInt32) &&& (1431655765 : Int32))).toUInt32 >>> ((2 : Int32) &&& 31).toUInt32).toInt32) &&& (858993459 : Int32))) + (((((p0 - (((p0.toUInt32 >>> ((1 : Int32) &&& 31).toUInt32).toInt32) &&& (1431655765 : Int32))) &&& (858993459 : Int32)) + ((((p0 - (((p0.toUInt32 >>> ((1 : Int32) &&& 31).toUInt32).toInt32) &&& (1431655765 : Int32))).toUInt32 >>> ((2 : Int32) &&& 31).toUInt32).toInt32) &&& (858993459 : Int32))).toUInt32 >>> ((4 : Int32) &&& 31).toUInt32).toInt32)) &&& (252645135 : Int32)).toUInt32 >>> ((8 : Int32) &&& 31).toUInt32).toInt32)))] [(.int (16 : Int32)), (.int ((((((p0 - (((p0.toUInt32 >>> ((1 : Int32) &&& 31).toUInt32).toInt32) &&& (1431655765 : Int32))) &&& (858993459 : Int32)) + ((((p0 - (((p0.toUInt32 >>> ((1 : Int32) &&& 31).toUInt32).toInt32) &&& (1431655765 : Int32))).toUInt32 >>> ((2 : Int32) &&& 31).toUInt32).toInt32) &&& (858993459 : Int32))) + (((((p0 - (((p0.toUInt32 >>> ((1 : Int32) &&& 31).toUInt32).toInt32) &&& (1431655765 : Int32))) &&& (858993459 : Int32)) + ((((p0 - (((p0.toUInt32 >>> ((1 : Int32) &&& 31).toUInt32).toInt32) &&& (1431655765 : Int32))).toUInt32 >>> ((2 : Int32) &&& 31).toUInt32).toInt32) &&& (858993459 : Int32))).toUInt32 >>> ((4 : Int32) &&& 31).toUInt32).toInt32)) &&& (252645135 : Int32)) + (((((((p0 - (((p0.toUInt32 >>> ((1 : Int32) &&& 31).toUInt32).toInt32) &&& (1431655765 : Int32))) &&& (858993459 : Int32)) + ((((p0 - (((p0.toUInt32 >>> ((1 : Int32) &&& 31).toUInt32).toInt32) &&& (1431655765 : Int32))).toUInt32 >>> ((2 : Int32) &&& 31).toUInt32).toInt32) &&& (858993459 : Int32))) + (((((p0 - (((p0.toUInt32 >>> ((1 : Int32) &&& 31).toUInt32).toInt32) &&& (1431655765 : Int32))) &&& (858993459 : Int32)) + ((((p0 - (((p0.toUInt32 >>> ((1 : Int32) &&& 31).toUInt32).toInt32) &&& (1431655765 : Int32))).toUInt32 >>> ((2 : Int32) &&& 31).toUInt32).toInt32) &&& (858993459 : Int32))).toUInt32 >>> ((4 : Int32) &&& 31).toUInt32).toInt32)) &&& (252645135 : Int32)).toUInt32 >>> ((8 : Int32) &&& 31).toUInt32).toInt32))), (.int ((((((p0 - (((p0.toUInt32 >>> ((1 : Int32) &&& 31).toUInt32).toInt32) &&& (1431655765 : Int32))) &&& (858993459 : Int32)) + ((((p0 - (((p0.toUInt32 >>> ((1 : Int32) &&& 31).toUInt32).toInt32) &&& (1431655765 : Int32))).toUInt32 >>> ((2 : Int32) &&& 31).toUInt32).toInt32) &&& (858993459 : Int32))) + (((((p0 - (((p0.toUInt32 >>> ((1 : Int32) &&& 31).toUInt32).toInt32) &&& (1431655765 : Int32))) &&& (858993459 : Int32)) + ((((p0 - (((p0.toUInt32 >>> ((1 : Int32) &&& 31).toUInt32).toInt32) &&& (1431655765 : Int32))).toUInt32 >>> ((2 : Int32) &&& 31).toUInt32).toInt32) &&& (858993459 : Int32))).toUInt32 >>> ((4 : Int32) &&& 31).toUInt32).toInt32)) &&& (252645135 : Int32)) + (((((((p0 - (((p0.toUInt32 >>> ((1 : Int32) &&& 31).toUInt32).toInt32) &&& (1431655765 : Int32))) &&& (858993459 : Int32)) + ((((p0 - (((p0.toUInt32 >>> ((1 : Int32) &&& 31).toUInt32).toInt32) &&& (1431655765 : Int32))).toUInt32 >>> ((2 : Int32) &&& 31).toUInt32).toInt32) &&& (858993459 : Int32))) + (((((p0 - (((p0.toUInt32 >>> ((1 : Int32) &&& 31).toUInt32).toInt32) &&& (1431655765 : Int32))) &&& (858993459 : Int32)) + ((((p0 - (((p0.toUInt32 >>> ((1 : Int32) &&& 31).toUInt32).toInt32) &&& (1431655765 : Int32))).toUInt32 >>> ((2 : Int32) &&& 31).toUInt32).toInt32) &&& (858993459 : Int32))).toUInt32 >>> ((4 : Int32) &&& 31).toUInt32).toInt32)) &&& (252645135 : Int32)).toUInt32 >>> ((8 : Int32) &&& 31).toUInt32).toInt32)))])) _
    refine XS.iushr X0.here hx rfl (hb hby d17_45) rfl ?_
    show Steps p.tables e below (s₁.setTop (mkF m 46 #[.val (.int ((((((p0 - (((p0.toUInt32 >>> ((1 : Int32) &&& 31).toUInt32).toInt32) &&& (1431655765 : Int32))) &&& (858993459 : Int32)) + ((((p0 - (((p0.toUInt32 >>> ((1 : Int32) &&& 31).toUInt32).toInt32) &&& (1431655765 : Int32))).toUInt32 >>> ((2 : Int32) &&& 31).toUInt32).toInt32) &&& (858993459 : Int32))) + (((((p0 - (((p0.toUInt32 >>> ((1 : Int32) &&& 31).toUInt32).toInt32) &&& (1431655765 : Int32))) &&& (858993459 : Int32)) + ((((p0 - (((p0.toUInt32 >>> ((1 : Int32) &&& 31).toUInt32).toInt32) &&& (1431655765 : Int32))).toUInt32 >>> ((2 : Int32) &&& 31).toUInt32).toInt32) &&& (858993459 : Int32))).toUInt32 >>> ((4 : Int32) &&& 31).toUInt32).toInt32)) &&& (252645135 : Int32)) + (((((((p0 - (((p0.toUInt32 >>> ((1 : Int32) &&& 31).toUInt32).toInt32) &&& (1431655765 : Int32))) &&& (858993459 : Int32)) + ((((p0 - (((p0.toUInt32 >>> ((1 : Int32) &&& 31).toUInt32).toInt32) &&& (1431655765 : Int32))).toUInt32 >>> ((2 : Int32) &&& 31).toUInt32).toInt32) &&& (858993459 : Int32))) + (((((p0 - (((p0.toUInt32 >>> ((1 : Int32) &&& 31).toUInt32).toInt32) &&& (1431655765 : Int32))) &&& (858993459 : Int32)) + ((((p0 - (((p0.toUInt32 >>> ((1 : Int32) &&& 31).toUInt32).toInt32) &&& (1431655765 : Int32))).toUInt32 >>> ((2 : Int32) &&& 31).toUInt32).toInt32) &&& (858993459 : Int32))).toUInt32 >>> ((4 : Int32) &&& 31).toUInt32).toInt32)) &&& (252645135 : Int32)).toUInt32 >>> ((8 : Int32) &&& 31).toUInt32).toInt32)))] [(.int ((((((((p0 - (((p0.toUInt32 >>> ((1 : Int32) &&& 31).toUInt32).toInt32) &&& (1431655765 : Int32))) &&& (858993459 : Int32)) + ((((p0 - (((p0.toUInt32 >>> ((1 : Int32) &&& 31).toUInt32).toInt32) &&& (1431655765 : Int32))).toUInt32 >>> ((2 : Int32) &&& 31).toUInt32).toInt32) &&& (858993459 : Int32))) + (((((p0 - (((p0.toUInt32 >>> ((1 : Int32) &&& 31).toUInt32).toInt32) &&& (1431655765 : Int32))) &&& (858993459 : Int32)) + ((((p0 - (((p0.toUInt32 >>> ((1 : Int32) &&& 31).toUInt32).toInt32) &&& (1431655765 : Int32))).toUInt32 >>> ((2 : Int32) &&& 31).toUInt32).toInt32) &&& (858993459 : Int32))).toUInt32 >>> ((4 : Int32) &&& 31).toUInt32).toInt32)) &&& (252645135 : Int32)) + (((((((p0 - (((p0.toUInt32 >>> ((1 : Int32) &&& 31).toUInt32).toInt32) &&& (1431655765 : Int32))) &&& (858993459 : Int32)) + ((((p0 - (((p0.toUInt32 >>> ((1 : Int32) &&& 31).toUInt32).toInt32) &&& (1431655765 : Int32))).toUInt32 >>> ((2 : Int32) &&& 31).toUInt32).toInt32) &&& (858993459 : Int32))) + (((((p0 - (((p0.toUInt32 >>> ((1 : Int32) &&& 31).toUInt32).toInt32) &&& (1431655765 : Int32))) &&& (858993459 : Int32)) + ((((p0 - (((p0.toUInt32 >>> ((1 : Int32) &&& 31).toUInt32).toInt32) &&& (1431655765 : Int32))).toUInt32 >>> ((2 : Int32) &&& 31).toUInt32).toInt32) &&& (858993459 : Int32))).toUInt32 >>> ((4 : Int32) &&& 31).toUInt32).toInt32)) &&& (252645135 : Int32)).toUInt32 >>> ((8 : Int32) &&& 31).toUInt32).toInt32)).toUInt32 >>> ((16 : Int32) &&& 31).toUInt32).toInt32)), (.int ((((((p0 - (((p0.toUInt32 >>> ((1 : Int32) &&& 31).toUInt32).toInt32) &&& (1431655765 : Int32))) &&& (858993459 : Int32)) + ((((p0 - (((p0.toUInt32 >>> ((1 : Int32) &&& 31).toUInt32).toInt32) &&& (1431655765 : Int32))).toUInt32 >>> ((2 : Int32) &&& 31).toUInt32).toInt32) &&& (858993459 : Int32))) + (((((p0 - (((p0.toUInt32 >>> ((1 : Int32) &&& 31).toUInt32).toInt32) &&& (1431655765 : Int32))) &&& (858993459 : Int32)) + ((((p0 - (((p0.toUInt32 >>> ((1 : Int32) &&& 31).toUInt32).toInt32) &&& (1431655765 : Int32))).toUInt32 >>> ((2 : Int32) &&& 31).toUInt32).toInt32) &&& (858993459 : Int32))).toUInt32 >>> ((4 : Int32) &&& 31).toUInt32).toInt32)) &&& (252645135 : Int32)) + (((((((p0 - (((p0.toUInt32 >>> ((1 : Int32) &&& 31).toUInt32).toInt32) &&& (1431655765 : Int32))) &&& (858993459 : Int32)) + ((((p0 - (((p0.toUInt32 >>> ((1 : Int32) &&& 31).toUInt32).toInt32) &&& (1431655765 : Int32))).toUInt32 >>> ((2 : Int32) &&& 31).toUInt32).toInt32) &&& (858993459 : Int32))) + (((((p0 - (((p0.toUInt32 >>> ((1 : Int32) &&& 31).toUInt32).toInt32) &&& (1431655765 : Int32))) &&& (858993459 : Int32)) + ((((p0 - (((p0.toUInt32 >>> ((1 : Int32) &&& 31).toUInt32).toInt32) &&& (1431655765 : Int32))).toUInt32 >>> ((2 : Int32) &&& 31).toUInt32).toInt32) &&& (858993459 : Int32))).toUInt32 >>> ((4 : Int32) &&& 31).toUInt32).toInt32)) &&& (252645135 : Int32)).toUInt32 >>> ((8 : Int32) &&& 31).toUInt32).toInt32)))])) _
    refine XS.iadd X0.here hx rfl (hb hby d17_46) rfl ?_
    show Steps p.tables e below (s₁.setTop (mkF m 47 #[.val (.int ((((((p0 - (((p0.toUInt32 >>> ((1 : Int32) &&& 31).toUInt32).toInt32) &&& (1431655765 : Int32))) &&& (858993459 : Int32)) + ((((p0 - (((p0.toUInt32 >>> ((1 : Int32) &&& 31).toUInt32).toInt32) &&& (1431655765 : Int32))).toUInt32 >>> ((2 : Int32) &&& 31).toUInt32).toInt32) &&& (858993459 : Int32))) + (((((p0 - (((p0.toUInt32 >>> ((1 : Int32) &&& 31).toUInt32).toInt32) &&& (1431655765 : Int32))) &&& (858993459 : Int32)) + ((((p0 - (((p0.toUInt32 >>> ((1 : Int32) &&& 31).toUInt32).toInt32) &&& (1431655765 : Int32))).toUInt32 >>> ((2 : Int32) &&& 31).toUInt32).toInt32) &&& (858993459 : Int32))).toUInt32 >>> ((4 : Int32) &&& 31).toUInt32).toInt32)) &&& (252645135 : Int32)) + (((((((p0 - (((p0.toUInt32 >>> ((1 : Int32) &&& 31).toUInt32).toInt32) &&& (1431655765 : Int32))) &&& (858993459 : Int32)) + ((((p0 - (((p0.toUInt32 >>> ((1 : Int32) &&& 31).toUInt32).toInt32) &&& (1431655765 : Int32))).toUInt32 >>> ((2 : Int32) &&& 31).toUInt32).toInt32) &&& (858993459 : Int32))) + (((((p0 - (((p0.toUInt32 >>> ((1 : Int32) &&& 31).toUInt32).toInt32) &&& (1431655765 : Int32))) &&& (858993459 : Int32)) + ((((p0 - (((p0.toUInt32 >>> ((1 : Int32) &&& 31).toUInt32).toInt32) &&& (1431655765 : Int32))).toUInt32 >>> ((2 : Int32) &&& 31).toUInt32).toInt32) &&& (858993459 : Int32))).toUInt32 >>> ((4 : Int32) &&& 31).toUInt32).toInt32)) &&& (252645135 : Int32)).toUInt32 >>> ((8 : Int32) &&& 31).toUInt32).toInt32)))] [(.int (((((((p0 - (((p0.toUInt32 >>> ((1 : Int32) &&& 31).toUInt32).toInt32) &&& (1431655765 : Int32))) &&& (858993459 : Int32)) + ((((p0 - (((p0.toUInt32 >>> ((1 : Int32) &&& 31).toUInt32).toInt32) &&& (1431655765 : Int32))).toUInt32 >>> ((2 : Int32) &&& 31).toUInt32).toInt32) &&& (858993459 : Int32))) + (((((p0 - (((p0.toUInt32 >>> ((1 : Int32) &&& 31).toUInt32).toInt32) &&& (1431655765 : Int32))) &&& (858993459 : Int32)) + ((((p0 - (((p0.toUInt32 >>> ((1 : Int32) &&& 31).toUInt32).toInt32) &&& (1431655765 : Int32))).toUInt32 >>> ((2 : Int32) &&& 31).toUInt32).toInt32) &&& (858993459 : Int32))).toUInt32 >>> ((4 : Int32) &&& 31).toUInt32).toInt32)) &&& (252645135 : Int32)) + (((((((p0 - (((p0.toUInt32 >>> ((1 : Int32) &&& 31).toUInt32).toInt32) &&& (1431655765 : Int32))) &&& (858993459 : Int32)) + ((((p0 - (((p0.toUInt32 >>> ((1 : Int32) &&& 31).toUInt32).toInt32) &&& (1431655765 : Int32))).toUInt32 >>> ((2 : Int32) &&& 31).toUInt32).toInt32) &&& (858993459 : Int32))) + (((((p0 - (((p0.toUInt32 >>> ((1 : Int32) &&& 31).toUInt32).toInt32) &&& (1431655765 : Int32))) &&& (858993459 : Int32)) + ((((p0 - (((p0.toUInt32 >>> ((1 : Int32) &&& 31).toUInt32).toInt32) &&& (1431655765 : Int32))).toUInt32 >>> ((2 : Int32) &&& 31).toUInt32).toInt32) &&& (858993459 : Int32))).toUInt32 >>> ((4 : Int32) &&& 31).toUInt32).toInt32)) &&& (252645135 : Int32)).toUInt32 >>> ((8 : Int32) &&& 31).toUInt32).toInt32)) + ((((((((p0 - (((p0.toUInt32 >>> ((1 : Int32) &&& 31).toUInt32).toInt32) &&& (1431655765 : Int32))) &&& (858993459 : Int32)) + ((((p0 - (((p0.toUInt32 >>> ((1 : Int32) &&& 31).toUInt32).toInt32) &&& (1431655765 : Int32))).toUInt32 >>> ((2 : Int32) &&& 31).toUInt32).toInt32) &&& (858993459 : Int32))) + (((((p0 - (((p0.toUInt32 >>> ((1 : Int32) &&& 31).toUInt32).toInt32) &&& (1431655765 : Int32))) &&& (858993459 : Int32)) + ((((p0 - (((p0.toUInt32 >>> ((1 : Int32) &&& 31).toUInt32).toInt32) &&& (1431655765 : Int32))).toUInt32 >>> ((2 : Int32) &&& 31).toUInt32).toInt32) &&& (858993459 : Int32))).toUInt32 >>> ((4 : Int32) &&& 31).toUInt32).toInt32)) &&& (252645135 : Int32)) + (((((((p0 - (((p0.toUInt32 >>> ((1 : Int32) &&& 31).toUInt32).toInt32) &&& (1431655765 : Int32))) &&& (858993459 : Int32)) + ((((p0 - (((p0.toUInt32 >>> ((1 : Int32) &&& 31).toUInt32).toInt32) &&& (1431655765 : Int32))).toUInt32 >>> ((2 : Int32) &&& 31).toUInt32).toInt32) &&& (858993459 : Int32))) + (((((p0 - (((p0.toUInt32 >>> ((1 : Int32) &&& 31).toUInt32).toInt32) &&& (1431655765 : Int32))) &&& (858993459 : Int32)) + ((((p0 - (((p0.toUInt32 >>> ((1 : Int32) &&& 31).toUInt32).toInt32) &&& (1431655765 : Int32))).toUInt32 >>> ((2 : Int32) &&& 31).toUInt32).toInt32) &&& (858993459 : Int32))).toUInt32 >>> ((4 : Int32) &&& 31).toUInt32).toInt32)) &&& (252645135 : Int32)).toUInt32 >>> ((8 : Int32) &&& 31).toUInt32).toInt32)).toUInt32 >>> ((16 : Int32) &&& 31).toUInt32).toInt32)))])) _
    refine XS.istoreN X0.here hx rfl (hb hby d17_47) rfl (l' := #[.val (.int (((((((p0 - (((p0.toUInt32 >>> ((1 : Int32) &&& 31).toUInt32).toInt32) &&& (1431655765 : Int32))) &&& (858993459 : Int32)) + ((((p0 - (((p0.toUInt32 >>> ((1 : Int32) &&& 31).toUInt32).toInt32) &&& (1431655765 : Int32))).toUInt32 >>> ((2 : Int32) &&& 31).toUInt32).toInt32) &&& (858993459 : Int32))) + (((((p0 - (((p0.toUInt32 >>> ((1 : Int32) &&& 31).toUInt32).toInt32) &&& (1431655765 : Int32))) &&& (858993459 : Int32)) + ((((p0 - (((p0.toUInt32 >>> ((1 : Int32) &&& 31).toUInt32).toInt32) &&& (1431655765 : Int32))).toUInt32 >>> ((2 : Int32) &&& 31).toUInt32).toInt32) &&& (858993459 : Int32))).toUInt32 >>> ((4 : Int32) &&& 31).toUInt32).toInt32)) &&& (252645135 : Int32)) + (((((((p0 - (((p0.toUInt32 >>> ((1 : Int32) &&& 31).toUInt32).toInt32) &&& (1431655765 : Int32))) &&& (858993459 : Int32)) + ((((p0 - (((p0.toUInt32 >>> ((1 : Int32) &&& 31).toUInt32).toInt32) &&& (1431655765 : Int32))).toUInt32 >>> ((2 : Int32) &&& 31).toUInt32).toInt32) &&& (858993459 : Int32))) + (((((p0 - (((p0.toUInt32 >>> ((1 : Int32) &&& 31).toUInt32).toInt32) &&& (1431655765 : Int32))) &&& (858993459 : Int32)) + ((((p0 - (((p0.toUInt32 >>> ((1 : Int32) &&& 31).toUInt32).toInt32) &&& (1431655765 : Int32))).toUInt32 >>> ((2 : Int32) &&& 31).toUInt32).toInt32) &&& (858993459 : Int32))).toUInt32 >>> ((4 : Int32) &&& 31).toUInt32).toInt32)) &&& (252645135 : Int32)).toUInt32 >>> ((8 : Int32) &&& 31).toUInt32).toInt32)) + ((((((((p0 - (((p0.toUInt32 >>> ((1 : Int32) &&& 31).toUInt32).toInt32) &&& (1431655765 : Int32))) &&& (858993459 : Int32)) + ((((p0 - (((p0.toUInt32 >>> ((1 : Int32) &&& 31).toUInt32).toInt32) &&& (1431655765 : Int32))).toUInt32 >>> ((2 : Int32) &&& 31).toUInt32).toInt32) &&& (858993459 : Int32))) + (((((p0 - (((p0.toUInt32 >>> ((1 : Int32) &&& 31).toUInt32).toInt32) &&& (1431655765 : Int32))) &&& (858993459 : Int32)) + ((((p0 - (((p0.toUInt32 >>> ((1 : Int32) &&& 31).toUInt32).toInt32) &&& (1431655765 : Int32))).toUInt32 >>> ((2 : Int32) &&& 31).toUInt32).toInt32) &&& (858993459 : Int32))).toUInt32 >>> ((4 : Int32) &&& 31).toUInt32).toInt32)) &&& (252645135 : Int32)) + (((((((p0 - (((p0.toUInt32 >>> ((1 : Int32) &&& 31).toUInt32).toInt32) &&& (1431655765 : Int32))) &&& (858993459 : Int32)) + ((((p0 - (((p0.toUInt32 >>> ((1 : Int32) &&& 31).toUInt32).toInt32) &&& (1431655765 : Int32))).toUInt32 >>> ((2 : Int32) &&& 31).toUInt32).toInt32) &&& (858993459 : Int32))) + (((((p0 - (((p0.toUInt32 >>> ((1 : Int32) &&& 31).toUInt32).toInt32) &&& (1431655765 : Int32))) &&& (858993459 : Int32)) + ((((p0 - (((p0.toUInt32 >>> ((1 : Int32) &&& 31).toUInt32).toInt32) &&& (1431655765 : Int32))).toUInt32 >>> ((2 : Int32) &&& 31).toUInt32).toInt32) &&& (858993459 : Int32))).toUInt32 >>> ((4 : Int32) &&& 31).toUInt32).toInt32)) &&& (252645135 : Int32)).toUInt32 >>> ((8 : Int32) &&& 31).toUInt32).toInt32)).toUInt32 >>> ((16 : Int32) &&& 31).toUInt32).toInt32)))]) rfl ?_
    show Steps p.tables e below (s₁.setTop (mkF m 48 #[.val (.int (((((((p0 - (((p0.toUInt32 >>> ((1 : Int32) &&& 31).toUInt32).toInt32) &&& (1431655765 : Int32))) &&& (858993459 : Int32)) + ((((p0 - (((p0.toUInt32 >>> ((1 : Int32) &&& 31).toUInt32).toInt32) &&& (1431655765 : Int32))).toUInt32 >>> ((2 : Int32) &&& 31).toUInt32).toInt32) &&& (858993459 : Int32))) + (((((p0 - (((p0.toUInt32 >>> ((1 : Int32) &&& 31).toUInt32).toInt32) &&& (1431655765 : Int32))) &&& (858993459 : Int32)) + ((((p0 - (((p0.toUInt32 >>> ((1 : Int32) &&& 31).toUInt32).toInt32) &&& (1431655765 : Int32))).toUInt32 >>> ((2 : Int32) &&& 31).toUInt32).toInt32) &&& (858993459 : Int32))).toUInt32 >>> ((4 : Int32) &&& 31).toUInt32).toInt32)) &&& (252645135 : Int32)) + (((((((p0 - (((p0.toUInt32 >>> ((1 : Int32) &&& 31).toUInt32).toInt32) &&& (1431655765 : Int32))) &&& (858993459 : Int32)) + ((((p0 - (((p0.toUInt32 >>> ((1 : Int32) &&& 31).toUInt32).toInt32) &&& (1431655765 : Int32))).toUInt32 >>> ((2 : Int32) &&& 31).toUInt32).toInt32) &&& (858993459 : Int32))) + (((((p0 - (((p0.toUInt32 >>> ((1 : Int32) &&& 31).toUInt32).toInt32) &&& (1431655765 : Int32))) &&& (858993459 : Int32)) + ((((p0 - (((p0.toUInt32 >>> ((1 : Int32) &&& 31).toUInt32).toInt32) &&& (1431655765 : Int32))).toUInt32 >>> ((2 : Int32) &&& 31).toUInt32).toInt32) &&& (858993459 : Int32))).toUInt32 >>> ((4 : Int32) &&& 31).toUInt32).toInt32)) &&& (252645135 : Int32)).toUInt32 >>> ((8 : Int32) &&& 31).toUInt32).toInt32)) + ((((((((p0 - (((p0.toUInt32 >>> ((1 : Int32) &&& 31).toUInt32).toInt32) &&& (1431655765 : Int32))) &&& (858993459 : Int32)) + ((((p0 - (((p0.toUInt32 >>> ((1 : Int32) &&& 31).toUInt32).toInt32) &&& (1431655765 : Int32))).toUInt32 >>> ((2 : Int32) &&& 31).toUInt32).toInt32) &&& (858993459 : Int32))) + (((((p0 - (((p0.toUInt32 >>> ((1 : Int32) &&& 31).toUInt32).toInt32) &&& (1431655765 : Int32))) &&& (858993459 : Int32)) + ((((p0 - (((p0.toUInt32 >>> ((1 : Int32) &&& 31).toUInt32).toInt32) &&& (1431655765 : Int32))).toUInt32 >>> ((2 : Int32) &&& 31).toUInt32).toInt32) &&& (858993459 : Int32))).toUInt32 >>> ((4 : Int32) &&& 31).toUInt32).toInt32)) &&& (252645135 : Int32)) + (((((((p0 - (((p0.toUInt32 >>> ((1 : Int32) &&& 31).toUInt32).toInt32) &&& (1431655765 : Int32))) &&& (858993459 : Int32)) + ((((p0 - (((p0.toUInt32 >>> ((1 : Int32) &&& 31).toUInt32).toInt32) &&& (1431655765 : Int32))).toUInt32 >>> ((2 : Int32) &&& 31).toUInt32).toInt32) &&& (858993459 : Int32))) + (((((p0 - (((p0.toUInt32 >>> ((1 : Int32) &&& 31).toUInt32).toInt32) &&& (1431655765 : Int32))) &&& (858993459 : Int32)) + ((((p0 - (((p0.toUInt32 >>> ((1 : Int32) &&& 31).toUInt32).toInt32) &&& (1431655765 : Int32))).toUInt32 >>> ((2 : Int32) &&& 31).toUInt32).toInt32) &&& (858993459 : Int32))).toUInt32 >>> ((4 : Int32) &&& 31).toUInt32).toInt32)) &&& (252645135 : Int32)).toUInt32 >>> ((8 : Int32) &&& 31).toUInt32).toInt32)).toUInt32 >>> ((16 : Int32) &&& 31).toUInt32).toInt32)))] [])) _
    refine XS.iloadN X0.here hx rfl (hb hby d17_48) rfl ?_
    show Steps p.tables e below (s₁.setTop (mkF m 49 #[.val (.int (((((((p0 - (((p0.toUInt32 >>> ((1 : Int32) &&& 31).toUInt32).toInt32) &&& (1431655765 : Int32))) &&& (858993459 : Int32)) + ((((p0 - (((p0.toUInt32 >>> ((1 : Int32) &&& 31).toUInt32).toInt32) &&& (1431655765 : Int32))).toUInt32 >>> ((2 : Int32) &&& 31).toUInt32).toInt32) &&& (858993459 : Int32))) + (((((p0 - (((p0.toUInt32 >>> ((1 : Int32) &&& 31).toUInt32).toInt32) &&& (1431655765 : Int32))) &&& (858993459 : Int32)) + ((((p0 - (((p0.toUInt32 >>> ((1 : Int32) &&& 31).toUInt32).toInt32) &&& (1431655765 : Int32))).toUInt32 >>> ((2 : Int32) &&& 31).toUInt32).toInt32) &&& (858993459 : Int32))).toUInt32 >>> ((4 : Int32) &&& 31).toUInt32).toInt32)) &&& (252645135 : Int32)) + (((((((p0 - (((p0.toUInt32 >>> ((1 : Int32) &&& 31).toUInt32).toInt32) &&& (1431655765 : Int32))) &&& (858993459 : Int32)) + ((((p0 - (((p0.toUInt32 >>> ((1 : Int32) &&& 31).toUInt32).toInt32) &&& (1431655765 : Int32))).toUInt32 >>> ((2 : Int32) &&& 31).toUInt32).toInt32) &&& (858993459 : Int32))) + (((((p0 - (((p0.toUInt32 >>> ((1 : Int32) &&& 31).toUInt32).toInt32) &&& (1431655765 : Int32))) &&& (858993459 : Int32)) + ((((p0 - (((p0.toUInt32 >>> ((1 : Int32) &&& 31).toUInt32).toInt32) &&& (1431655765 : Int32))).toUInt32 >>> ((2 : Int32) &&& 31).toUInt32).toInt32) &&& (858993459 : Int32))).toUInt32 >>> ((4 : Int32) &&& 31).toUInt32).toInt32)) &&& (252645135 : Int32)).toUInt32 >>> ((8 : Int32) &&& 31).toUInt32).toInt32)) + ((((((((p0 - (((p0.toUInt32 >>> ((1 : Int32) &&& 31).toUInt32).toInt32) &&& (1431655765 : Int32))) &&& (858993459 : Int32)) + ((((p0 - (((p0.toUInt32 >>> ((1 : Int32) &&& 31).toUInt32).toInt32) &&& (1431655765 : Int32))).toUInt32 >>> ((2 : Int32) &&& 31).toUInt32).toInt32) &&& (858993459 : Int32))) + (((((p0 - (((p0.toUInt32 >>> ((1 : Int32) &&& 31).toUInt32).toInt32) &&& (1431655765 : Int32))) &&& (858993459 : Int32)) + ((((p0 - (((p0.toUInt32 >>> ((1 : Int32) &&& 31).toUInt32).toInt32) &&& (1431655765 : Int32))).toUInt32 >>> ((2 : Int32) &&& 31).toUInt32).toInt32) &&& (858993459 : Int32))).toUInt32 >>> ((4 : Int32) &&& 31).toUInt32).toInt32)) &&& (252645135 : Int32)) + (((((((p0 - (((p0.toUInt32 >>> ((1 : Int32) &&& 31).toUInt32).toInt32) &&& (1431655765 : Int32))) &&& (858993459 : Int32)) + ((((p0 - (((p0.toUInt32 >>> ((1 : Int32) &&& 31).toUInt32).toInt32) &&& (1431655765 : Int32))).toUInt32 >>> ((2 : Int32) &&& 31).toUInt32).toInt32) &&& (858993459 : Int32))) + (((((p0 - (((p0.toUInt32 >>> ((1 : Int32) &&& 31).toUInt32).toInt32) &&& (1431655765 : Int32))) &&& (858993459 : Int32)) + ((((p0 - (((p0.toUInt32 >>> ((1 : Int32) &&& 31).toUInt32).toInt32) &&& (1431655765 : Int32))).toUInt32 >>> ((2 : Int32) &&& 31).toUInt32).toInt32) &&& (858993459 : Int32))).toUInt32 >>> ((4 : Int32) &&& 31).toUInt32).toInt32)) &&& (252645135 : Int32)).toUInt32 >>> ((8 : Int32) &&& 31).toUInt32).toInt32)).toUInt32 >>> ((16 : Int32) &&& 31).toUInt32).toInt32)))] [(.int (((((((p0 - (((p0.toUInt32 >>> ((1 : Int32) &&& 31).toUInt32).toInt32) &&& (1431655765 : Int32))) &&& (858993459 : Int32)) + ((((p0 - (((p0.toUInt32 >>> ((1 : Int32) &&& 31).toUInt32).toInt32) &&& (1431655765 : Int32))).toUInt32 >>> ((2 : Int32) &&& 31).toUInt32).toInt32) &&& (858993459 : Int32))) + (((((p0 - (((p0.toUInt32 >>> ((1 : Int32) &&& 31).toUInt32).toInt32) &&& (1431655765 : Int32))) &&& (858993459 : Int32)) + ((((p0 - (((p0.toUInt32 >>> ((1 : Int32) &&& 31).toUInt32).toInt32) &&& (1431655765 : Int32))).toUInt32 >>> ((2 : Int32) &&& 31).toUInt32).toInt32) &&& (858993459 : Int32))).toUInt32 >>> ((4 : Int32) &&& 31).toUInt32).toInt32)) &&& (252645135 : Int32)) + (((((((p0 - (((p0.toUInt32 >>> ((1 : Int32) &&& 31).toUInt32).toInt32) &&& (1431655765 : Int32))) &&& (858993459 : Int32)) + ((((p0 - (((p0.toUInt32 >>> ((1 : Int32) &&& 31).toUInt32).toInt32) &&& (1431655765 : Int32))).toUInt32 >>> ((2 : Int32) &&& 31).toUInt32).toInt32) &&& (858993459 : Int32))) + (((((p0 - (((p0.toUInt32 >>> ((1 : Int32) &&& 31).toUInt32).toInt32) &&& (1431655765 : Int32))) &&& (858993459 : Int32)) + ((((p0 - (((p0.toUInt32 >>> ((1 : Int32) &&& 31).toUInt32).toInt32) &&& (1431655765 : Int32))).toUInt32 >>> ((2 : Int32) &&& 31).toUInt32).toInt32) &&& (858993459 : Int32))).toUInt32 >>> ((4 : Int32) &&& 31).toUInt32).toInt32)) &&& (252645135 : Int32)).toUInt32 >>> ((8 : Int32) &&& 31).toUInt32).toInt32)) + ((((((((p0 - (((p0.toUInt32 >>> ((1 : Int32) &&& 31).toUInt32).toInt32) &&& (1431655765 : Int32))) &&& (858993459 : Int32)) + ((((p0 - (((p0.toUInt32 >>> ((1 : Int32) &&& 31).toUInt32).toInt32) &&& (1431655765 : Int32))).toUInt32 >>> ((2 : Int32) &&& 31).toUInt32).toInt32) &&& (858993459 : Int32))) + (((((p0 - (((p0.toUInt32 >>> ((1 : Int32) &&& 31).toUInt32).toInt32) &&& (1431655765 : Int32))) &&& (858993459 : Int32)) + ((((p0 - (((p0.toUInt32 >>> ((1 : Int32) &&& 31).toUInt32).toInt32) &&& (1431655765 : Int32))).toUInt32 >>> ((2 : Int32) &&& 31).toUInt32).toInt32) &&& (858993459 : Int32))).toUInt32 >>> ((4 : Int32) &&& 31).toUInt32).toInt32)) &&& (252645135 : Int32)) + (((((((p0 - (((p0.toUInt32 >>> ((1 : Int32) &&& 31).toUInt32).toInt32) &&& (1431655765 : Int32))) &&& (858993459 : Int32)) + ((((p0 - (((p0.toUInt32 >>> ((1 : Int32) &&& 31).toUInt32).toInt32) &&& (1431655765 : Int32))).toUInt32 >>> ((2 : Int32) &&& 31).toUInt32).toInt32) &&& (858993459 : Int32))) + (((((p0 - (((p0.toUInt32 >>> ((1 : Int32) &&& 31).toUInt32).toInt32) &&& (1431655765 : Int32))) &&& (858993459 : Int32)) + ((((p0 - (((p0.toUInt32 >>> ((1 : Int32) &&& 31).toUInt32).toInt32) &&& (1431655765 : Int32))).toUInt32 >>> ((2 : Int32) &&& 31).toUInt32).toInt32) &&& (858993459 : Int32))).toUInt32 >>> ((4 : Int32) &&& 31).toUInt32).toInt32)) &&& (252645135 : Int32)).toUInt32 >>> ((8 : Int32) &&& 31).toUInt32).toInt32)).toUInt32 >>> ((16 : Int32) &&& 31).toUInt32).toInt32)))])) _
    refine XS.bipush X0.here hx rfl (hb hby d17_49) ?_
    show Steps p.tables e below (s₁.setTop (mkF m 51 #[.val (.int (((((((p0 - (((p0.toUInt32 >>> ((1 : Int32) &&& 31).toUInt32).toInt32) &&& (1431655765 : Int32))) &&& (858993459 : Int32)) + ((((p0 - (((p0.toUInt32 >>> ((1 : Int32) &&& 31).toUInt32).toInt32) &&& (1431655765 : Int32))).toUInt32 >>> ((2 : Int32) &&& 31).toUInt32).toInt32) &&& (858993459 : Int32))) + (((((p0 - (((p0.toUInt32 >>> ((1 : Int32) &&& 31).toUInt32).toInt32) &&& (1431655765 : Int32))) &&& (858993459 : Int32)) + ((((p0 - (((p0.toUInt32 >>> ((1 : Int32) &&& 31).toUInt32).toInt32) &&& (1431655765 : Int32))).toUInt32 >>> ((2 : Int32) &&& 31).toUInt32).toInt32) &&& (858993459 : Int32))).toUInt32 >>> ((4 : Int32) &&& 31).toUInt32).toInt32)) &&& (252645135 : Int32)) + (((((((p0 - (((p0.toUInt32 >>> ((1 : Int32) &&& 31).toUInt32).toInt32) &&& (1431655765 : Int32))) &&& (858993459 : Int32)) + ((((p0 - (((p0.toUInt32 >>> ((1 : Int32) &&& 31).toUInt32).toInt32) &&& (1431655765 : Int32))).toUInt32 >>> ((2 : Int32) &&& 31).toUInt32).toInt32) &&& (858993459 : Int32))) + (((((p0 - (((p0.toUInt32 >>> ((1 : Int32) &&& 31).toUInt32).toInt32) &&& (1431655765 : Int32))) &&& (858993459 : Int32)) + ((((p0 - (((p0.toUInt32 >>> ((1 : Int32) &&& 31).toUInt32).toInt32) &&& (1431655765 : Int32))).toUInt32 >>> ((2 : Int32) &&& 31).toUInt32).toInt32) &&& (858993459 : Int32))).toUInt32 >>> ((4 : Int32) &&& 31).toUInt32).toInt32)) &&& (252645135 : Int32)).toUInt32 >>> ((8 : Int32) &&& 31).toUInt32).toInt32)) + ((((((((p0 - (((p0.toUInt32 >>> ((1 : Int32) &&& 31).toUInt32).toInt32) &&& (1431655765 : Int32))) &&& (858993459 : Int32)) + ((((p0 - (((p0.toUInt32 >>> ((1 : Int32) &&& 31).toUInt32).toInt32) &&& (1431655765 : Int32))).toUInt32 >>> ((2 : Int32) &&& 31).toUInt32).toInt32) &&& (858993459 : Int32))) + (((((p0 - (((p0.toUInt32 >>> ((1 : Int32) &&& 31).toUInt32).toInt32) &&& (1431655765 : Int32))) &&& (858993459 : Int32)) + ((((p0 - (((p0.toUInt32 >>> ((1 : Int32) &&& 31).toUInt32).toInt32) &&& (1431655765 : Int32))).toUInt32 >>> ((2 : Int32) &&& 31).toUInt32).toInt32) &&& (858993459 : Int32))).toUInt32 >>> ((4 : Int32) &&& 31).toUInt32).toInt32)) &&& (252645135 : Int32)) + (((((((p0 - (((p0.toUInt32 >>> ((1 : Int32) &&& 31).toUInt32).toInt32) &&& (1431655765 : Int32))) &&& (858993459 : Int32)) + ((((p0 - (((p0.toUInt32 >>> ((1 : Int32) &&& 31).toUInt32).toInt32) &&& (1431655765 : Int32))).toUInt32 >>> ((2 : Int32) &&& 31).toUInt32).toInt32) &&& (858993459 : Int32))) + (((((p0 - (((p0.toUInt32 >>> ((1 : Int32) &&& 31).toUInt32).toInt32) &&& (1431655765 : Int32))) &&& (858993459 : Int32)) + ((((p0 - (((p0.toUInt32 >>> ((1 : Int32) &&& 31).toUInt32).toInt32) &&& (1431655765 : Int32))).toUInt32 >>> ((2 : Int32) &&& 31).toUInt32).toInt32) &&& (858993459 : Int32))).toUInt32 >>> ((4 : Int32) &&& 31).toUInt32).toInt32)) &&& (252645135 : Int32)).toUInt32 >>> ((8 : Int32) &&& 31).toUInt32).toInt32)).toUInt32 >>> ((16 : Int32) &&& 31).toUInt32).toInt32)))] [(.int (63 : Int32)), (.int (((((((p0 - (((p0.toUInt32 >>> ((1 : Int32) &&& 31).toUInt32).toInt32) &&& (1431655765 : Int32))) &&& (858993459 : Int32)) + ((((p0 - (((p0.toUInt32 >>> ((1 : Int32) &&& 31).toUInt32).toInt32) &&& (1431655765 : Int32))).toUInt32 >>> ((2 : Int32) &&& 31).toUInt32).toInt32) &&& (858993459 : Int32))) + (((((p0 - (((p0.toUInt32 >>> ((1 : Int32) &&& 31).toUInt32).toInt32) &&& (1431655765 : Int32))) &&& (858993459 : Int32)) + ((((p0 - (((p0.toUInt32 >>> ((1 : Int32) &&& 31).toUInt32).toInt32) &&& (1431655765 : Int32))).toUInt32 >>> ((2 : Int32) &&& 31).toUInt32).toInt32) &&& (858993459 : Int32))).toUInt32 >>> ((4 : Int32) &&& 31).toUInt32).toInt32)) &&& (252645135 : Int32)) + (((((((p0 - (((p0.toUInt32 >>> ((1 : Int32) &&& 31).toUInt32).toInt32) &&& (1431655765 : Int32))) &&& (858993459 : Int32)) + ((((p0 - (((p0.toUInt32 >>> ((1 : Int32) &&& 31).toUInt32).toInt32) &&& (1431655765 : Int32))).toUInt32 >>> ((2 : Int32) &&& 31).toUInt32).toInt32) &&& (858993459 : Int32))) + (((((p0 - (((p0.toUInt32 >>> ((1 : Int32) &&& 31).toUInt32).toInt32) &&& (1431655765 : Int32))) &&& (858993459 : Int32)) + ((((p0 - (((p0.toUInt32 >>> ((1 : Int32) &&& 31).toUInt32).toInt32) &&& (1431655765 : Int32))).toUInt32 >>> ((2 : Int32) &&& 31).toUInt32).toInt32) &&& (858993459 : Int32))).toUInt32 >>> ((4 : Int32) &&& 31).toUInt32).toInt32)) &&& (252645135 : Int32)).toUInt32 >>> ((8 : Int32) &&& 31).toUInt32).toInt32)) + ((((((((p0 - (((p0.toUInt32 >>> ((1 : Int32) &&& 31).toUInt32).toInt32) &&& (1431655765 : Int32))) &&& (858993459 : Int32)) + ((((p0 - (((p0.toUInt32 >>> ((1 : Int32) &&& 31).toUInt32).toInt32) &&& (1431655765 : Int32))).toUInt32 >>> ((2 : Int32) &&& 31).toUInt32).toInt32) &&& (858993459 : Int32))) + (((((p0 - (((p0.toUInt32 >>> ((1 : Int32) &&& 31).toUInt32).toInt32) &&& (1431655765 : Int32))) &&& (858993459 : Int32)) + ((((p0 - (((p0.toUInt32 >>> ((1 : Int32) &&& 31).toUInt32).toInt32) &&& (1431655765 : Int32))).toUInt32 >>> ((2 : Int32) &&& 31).toUInt32).toInt32) &&& (858993459 : Int32))).toUInt32 >>> ((4 : Int32) &&& 31).toUInt32).toInt32)) &&& (252645135 : Int32)) + (((((((p0 - (((p0.toUInt32 >>> ((1 : Int32) &&& 31).toUInt32).toInt32) &&& (1431655765 : Int32))) &&& (858993459 : Int32)) + ((((p0 - (((p0.toUInt32 >>> ((1 : Int32) &&& 31).toUInt32).toInt32) &&& (1431655765 : Int32))).toUInt32 >>> ((2 : Int32) &&& 31).toUInt32).toInt32) &&& (858993459 : Int32))) + (((((p0 - (((p0.toUInt32 >>> ((1 : Int32) &&& 31).toUInt32).toInt32) &&& (1431655765 : Int32))) &&& (858993459 : Int32)) + ((((p0 - (((p0.toUInt32 >>> ((1 : Int32) &&& 31).toUInt32).toInt32) &&& (1431655765 : Int32))).toUInt32 >>> ((2 : Int32) &&& 31).toUInt32).toInt32) &&& (858993459 : Int32))).toUInt32 >>> ((4 : Int32) &&& 31).toUInt32).toInt32)) &&& (252645135 : Int32)).toUInt32 >>> ((8 : Int32) &&& 31).toUInt32).toInt32)).toUInt32 >>> ((16 : Int32) &&& 31).toUInt32).toInt32)))])) _
    refine XS.iand X0.here hx rfl (hb hby d17_51) rfl ?_
    show Steps p.tables e below (s₁.setTop (mkF m 52 #[.val (.int (((((((p0 - (((p0.toUInt32 >>> ((1 : Int32) &&& 31).toUInt32).toInt32) &&& (1431655765 : Int32))) &&& (858993459 : Int32)) + ((((p0 - (((p0.toUInt32 >>> ((1 : Int32) &&& 31).toUInt32).toInt32) &&& (1431655765 : Int32))).toUInt32 >>> ((2 : Int32) &&& 31).toUInt32).toInt32) &&& (858993459 : Int32))) + (((((p0 - (((p0.toUInt32 >>> ((1 : Int32) &&& 31).toUInt32).toInt32) &&& (1431655765 : Int32))) &&& (858993459 : Int32)) + ((((p0 - (((p0.toUInt32 >>> ((1 : Int32) &&& 31).toUInt32).toInt32) &&& (1431655765 : Int32))).toUInt32 >>> ((2 : Int32) &&& 31).toUInt32).toInt32) &&& (858993459 : Int32))).toUInt32 >>> ((4 : Int32) &&& 31).toUInt32).toInt32)) &&& (252645135 : Int32)) + (((((((p0 - (((p0.toUInt32 >>> ((1 : Int32) &&& 31).toUInt32).toInt32) &&& (1431655765 : Int32))) &&& (858993459 : Int32)) + ((((p0 - (((p0.toUInt32 >>> ((1 : Int32) &&& 31).toUInt32).toInt32) &&& (1431655765 : Int32))).toUInt32 >>> ((2 : Int32) &&& 31).toUInt32).toInt32) &&& (858993459 : Int32))) + (((((p0 - (((p0.toUInt32 >>> ((1 : Int32) &&& 31).toUInt32).toInt32) &&& (1431655765 : Int32))) &&& (858993459 : Int32)) + ((((p0 - (((p0.toUInt32 >>> ((1 : Int32) &&& 31).toUInt32).toInt32) &&& (1431655765 : Int32))).toUInt32 >>> ((2 : Int32) &&& 31).toUInt32).toInt32) &&& (858993459 : Int32))).toUInt32 >>> ((4 : Int32) &&& 31).toUInt32).toInt32)) &&& (252645135 : Int32)).toUInt32 >>> ((8 : Int32) &&& 31).toUInt32).toInt32)) + ((((((((p0 - (((p0.toUInt32 >>> ((1 : Int32) &&& 31).toUInt32).toInt32) &&& (1431655765 : Int32))) &&& (858993459 : Int32)) + ((((p0 - (((p0.toUInt32 >>> ((1 : Int32) &&& 31).toUInt32).toInt32) &&& (1431655765 : Int32))).toUInt32 >>> ((2 : Int32) &&& 31).toUInt32).toInt32) &&& (858993459 : Int32))) + (((((p0 - (((p0.toUInt32 >>> ((1 : Int32) &&& 31).toUInt32).toInt32) &&& (1431655765 : Int32))) &&& (858993459 : Int32)) + ((((p0 - (((p0.toUInt32 >>> ((1 : Int32) &&& 31).toUInt32).toInt32) &&& (1431655765 : Int32))).toUInt32 >>> ((2 : Int32) &&& 31).toUInt32).toInt32) &&& (858993459 : Int32))).toUInt32 >>> ((4 : Int32) &&& 31).toUInt32).toInt32)) &&& (252645135 : Int32)) + (((((((p0 - (((p0.toUInt32 >>> ((1 : Int32) &&& 31).toUInt32).toInt32) &&& (1431655765 : Int32))) &&& (858993459 : Int32)) + ((((p0 - (((p0.toUInt32 >>> ((1 : Int32) &&& 31).toUInt32).toInt32) &&& (1431655765 : Int32))).toUInt32 >>> ((2 : Int32) &&& 31).toUInt32).toInt32) &&& (858993459 : Int32))) + (((((p0 - (((p0.toUInt32 >>> ((1 : Int32) &&& 31).toUInt32).toInt32) &&& (1431655765 : Int32))) &&& (858993459 : Int32)) + ((((p0 - (((p0.toUInt32 >>> ((1 : Int32) &&& 31).toUInt32).toInt32) &&& (1431655765 : Int32))).toUInt32 >>> ((2 : Int32) &&& 31).toUInt32).toInt32) &&& (858993459 : Int32))).toUInt32 >>> ((4 : Int32) &&& 31).toUInt32).toInt32)) &&& (252645135 : Int32)).toUInt32 >>> ((8 : Int32) &&& 31).toUInt32).toInt32)).toUInt32 >>> ((16 : Int32) &&& 31).toUInt32).toInt32)))] [(.int ((((((((p0 - (((p0.toUInt32 >>> ((1 : Int32) &&& 31).toUInt32).toInt32) &&& (1431655765 : Int32))) &&& (858993459 : Int32)) + ((((p0 - (((p0.toUInt32 >>> ((1 : Int32) &&& 31).toUInt32).toInt32) &&& (1431655765 : Int32))).toUInt32 >>> ((2 : Int32) &&& 31).toUInt32).toInt32) &&& (858993459 : Int32))) + (((((p0 - (((p0.toUInt32 >>> ((1 : Int32) &&& 31).toUInt32).toInt32) &&& (1431655765 : Int32))) &&& (858993459 : Int32)) + ((((p0 - (((p0.toUInt32 >>> ((1 : Int32) &&& 31).toUInt32).toInt32) &&& (1431655765 : Int32))).toUInt32 >>> ((2 : Int32) &&& 31).toUInt32).toInt32) &&& (858993459 : Int32))).toUInt32 >>> ((4 : Int32) &&& 31).toUInt32).toInt32)) &&& (252645135 : Int32)) + (((((((p0 - (((p0.toUInt32 >>> ((1 : Int32) &&& 31).toUInt32).toInt32) &&& (1431655765 : Int32))) &&& (858993459 : Int32)) + ((((p0 - (((p0.toUInt32 >>> ((1 : Int32) &&& 31).toUInt32).toInt32) &&& (1431655765 : Int32))).toUInt32 >>> ((2 : Int32) &&& 31).toUInt32).toInt32) &&& (858993459 : Int32))) + (((((p0 - (((p0.toUInt32 >>> ((1 : Int32) &&& 31).toUInt32).toInt32) &&& (1431655765 : Int32))) &&& (858993459 : Int32)) + ((((p0 - (((p0.toUInt32 >>> ((1 : Int32) &&& 31).toUInt32).toInt32) &&& (1431655765 : Int32))).toUInt32 >>> ((2 : Int32) &&& 31).toUInt32).toInt32) &&& (858993459 : Int32))).toUInt32 >>> ((4 : Int32) &&& 31).toUInt32).toInt32)) &&& (252645135 : Int32)).toUInt32 >>> ((8 : Int32) &&& 31).toUInt32).toInt32)) + ((((((((p0 - (((p0.toUInt32 >>> ((1 : Int32) &&& 31).toUInt32).toInt32) &&& (1431655765 : Int32))) &&& (858993459 : Int32)) + ((((p0 - (((p0.toUInt32 >>> ((1 : Int32) &&& 31).toUInt32).toInt32) &&& (1431655765 : Int32))).toUInt32 >>> ((2 : Int32) &&& 31).toUInt32).toInt32) &&& (858993459 : Int32))) + (((((p0 - (((p0.toUInt32 >>> ((1 : Int32) &&& 31).toUInt32).toInt32) &&& (1431655765 : Int32))) &&& (858993459 : Int32)) + ((((p0 - (((p0.toUInt32 >>> ((1 : Int32) &&& 31).toUInt32).toInt32) &&& (1431655765 : Int32))).toUInt32 >>> ((2 : Int32) &&& 31).toUInt32).toInt32) &&& (858993459 : Int32))).toUInt32 >>> ((4 : Int32) &&& 31).toUInt32).toInt32)) &&& (252645135 : Int32)) + (((((((p0 - (((p0.toUInt32 >>> ((1 : Int32) &&& 31).toUInt32).toInt32) &&& (1431655765 : Int32))) &&& (858993459 : Int32)) + ((((p0 - (((p0.toUInt32 >>> ((1 : Int32) &&& 31).toUInt32).toInt32) &&& (1431655765 : Int32))).toUInt32 >>> ((2 : Int32) &&& 31).toUInt32).toInt32) &&& (858993459 : Int32))) + (((((p0 - (((p0.toUInt32 >>> ((1 : Int32) &&& 31).toUInt32).toInt32) &&& (1431655765 : Int32))) &&& (858993459 : Int32)) + ((((p0 - (((p0.toUInt32 >>> ((1 : Int32) &&& 31).toUInt32).toInt32) &&& (1431655765 : Int32))).toUInt32 >>> ((2 : Int32) &&& 31).toUInt32).toInt32) &&& (858993459 : Int32))).toUInt32 >>> ((4 : Int32) &&& 31).toUInt32).toInt32)) &&& (252645135 : Int32)).toUInt32 >>> ((8 : Int32) &&& 31).toUInt32).toInt32)).toUInt32 >>> ((16 : Int32) &&& 31).toUInt32).toInt32)) &&& (63 : Int32)))])) _
    exact retI X0 hx Bd.returns (hb hby d17_52) hr
  · show Q17 Z p0 h0 n0 _ s₁.heap _
    rw [e0]
    exact ⟨rfl, N0, rfl⟩
theorem d19_0 : decode jdk_29_method_59_code 0 = .ok (.iload_n 0, 1) := by decide +kernel
theorem d19_1 : decode jdk_29_method_59_code 1 = .ok (.ifCond .ge 8, 3) := by decide +kernel
theorem d19_4 : decode jdk_29_method_59_code 4 = .ok (.iload_n 0, 1) := by decide +kernel
theorem d19_5 : decode jdk_29_method_59_code 5 = .ok (.ineg, 1) := by decide +kernel
theorem d19_6 : decode jdk_29_method_59_code 6 = .ok (.goto 4, 3) := by decide +kernel
theorem d19_10 : decode jdk_29_method_59_code 10 = .ok (.ireturn, 1) := by decide +kernel
theorem ef_rm19 (m : MethodId)  : entryFrame m #[(.int (-2147483648 : Int32))] 1 = mkF m 0 #[.val (.int (-2147483648 : Int32))] [] := by first | (simp [entryFrame, mkF, argsToLocals, Value.category]; done) | rfl
def Q19 (Z : State)  (h0 : Heap) (n0 : Nat) (v : Option Value) (h : Heap) (L : List Loc) : Prop := v = some (.int (-2147483648 : Int32)) ∧ Fr n0 L ∧ h = h0
set_option maxRecDepth 65536 in
set_option maxHeartbeats 40000000 in
theorem rm19 (l : Launch) (Z : State) (az : Array Value) (hw : ∀ d ∈ tables_1, d.before az Z = true) (ws : List Jvm.Cond)  (h0 : Heap) (n0 : Nat) (Z0 : n0 ≤ h0.size) :
    MetFree l (⟨"java/lang/Math", "abs", "(I)I"⟩ : MethodName) (head1 (Jvm.Cond.code (⟨"java/lang/Math", "abs", "(I)I"⟩ : MethodName) jdk_29_method_59_code 1 (some .int) :: ws) ({ frames := 0, cells := 0, slots := 0, locals := 0 } : Room)) (fun a U => a = #[(.int (-2147483648 : Int32))] ∧ Z.Warmed39 U.vm ∧ U.heap = h0) (fun _ _ _ _ _ => True) (fun _ U o U' => ∃ v L, o = .returned v ∧ Q19 Z  h0 n0 v U'.heap L ∧ FrameEnd U o U' L ({ frames := 0, cells := 0, slots := 0, locals := 0 } : Room).cells ({ frames := 0, cells := 0, slots := 0, locals := 0 } : Room).slots) := by
  refine MetFree.of_bodySF (Jvm.Free.JP.mathPlain rfl (by decide +kernel)) hisR ?_
  intro p e s m args below meth c s₁ Bd hml0 hP hK
  obtain ⟨rfl, hZ, hh⟩ := hP
  have hx := Bd.exec
  have hby := Bd.bytes
  have hml : c.maxLocals = 1 := hml0
  have hown : s.vm.findClass "java/lang/Math" = some m.cls := findClass_of_methodNamed Bd.named
  have hnm := (name_of_methodNamed Bd.named Bd.method).1
  have X0 : Stand p l e ({ frames := 0, cells := 0, slots := 0, locals := 0 } : Room) s m #[(.int (-2147483648 : Int32))] below meth c s₁ [] 0 0 := Stand.of_body Bd
  have e0 : s₁.heap = h0 := by rw [← hh, Bd.state]; rfl
  have N0 := Fr.nil n0
  have pre0 : ∀ t, Steps p.tables e below (s₁.setTop (mkF m 0 #[.val (.int (-2147483648 : Int32))] [])) t → Steps p.tables e below (s₁.setTop (entryFrame m #[(.int (-2147483648 : Int32))] 1)) t := fun t k => castTop (ef_rm19 m ) k
  obtain ⟨fs, hr, hrun, hended, hW, hsame⟩ := X0.leave (v := some (.int (-2147483648 : Int32))) (fun h => by rw [Bd.returns] at h; cases h)
  refine ⟨_, _, pre0 _ ?_, hrun, hended, _, _, rfl, ?_, ⟨_, rfl⟩, hW, hsame.mono (by decide) (by decide)⟩
  · show Steps p.tables e below (s₁.setTop (mkF m 0 #[.val (.int (-2147483648 : Int32))] [])) _
    refine XS.iloadN X0.here hx rfl (hb hby d19_0) rfl ?_
    show Steps p.tables e below (s₁.setTop (mkF m 1 #[.val (.int (-2147483648 : Int32))] [(.int (-2147483648 : Int32))])) _
    refine XS.ifNo X0.here hx rfl (hb hby d19_1) rfl ((if0 _ _).trans (tlt (by decide : (-2147483648 : Int32) < (0 : Int32))).2.1) ?_
    show Steps p.tables e below (s₁.setTop (mkF m 4 #[.val (.int (-2147483648 : Int32))] [])) _
    refine XS.iloadN X0.here hx rfl (hb hby d19_4) rfl ?_
    show Steps p.tables e below (s₁.setTop (mkF m 5 #[.val (.int (-2147483648 : Int32))] [(.int (-2147483648 : Int32))])) _
    refine XS.ineg X0.here hx rfl (hb hby d19_5) rfl ?_
    show Steps p.tables e below (s₁.setTop (mkF m 6 #[.val (.int (-2147483648 : Int32))] [(.int (-2147483648 : Int32))])) _
    refine XS.goto X0.here hx rfl (pc0 := 6) (pc' := 10) rfl (hb hby d19_6) (by decide) (by decide) ?_
    show Steps p.tables e below (s₁.setTop (mkF m 10 #[.val (.int (-2147483648 : Int32))] [(.int (-2147483648 : Int32))])) _
    exact retI X0 hx Bd.returns (hb hby d19_10) hr
  · show Q19 Z  h0 n0 _ s₁.heap _
    rw [e0]
    exact ⟨rfl, N0, rfl⟩
theorem d20_0 : decode jdk_2056_method_24_code 0 = .ok (.iload_n 0, 1) := by decide +kernel
theorem d20_1 : decode jdk_2056_method_24_code 1 = .ok (.sipush 255, 3) := by decide +kernel
theorem d20_4 : decode jdk_2056_method_24_code 4 = .ok (.iand, 1) := by decide +kernel
theorem d20_5 : decode jdk_2056_method_24_code 5 = .ok (.ireturn, 1) := by decide +kernel
theorem pn_java_lang_Byte : plainName "java/lang/Byte" = true := by first | (simp [plainName, overriddenIn]; done) | decide +kernel
theorem ef_rm20 (m : MethodId) (p0 : Int32) : entryFrame m #[(.int p0)] 1 = mkF m 0 #[.val (.int p0)] [] := by first | (simp [entryFrame, mkF, argsToLocals, Value.category]; done) | rfl
def Q20 (Z : State) (p0 : Int32) (h0 : Heap) (n0 : Nat) (v : Option Value) (h : Heap) (L : List Loc) : Prop := v = some (.int (p0 &&& (255 : Int32))) ∧ Fr n0 L ∧ h = h0
set_option maxRecDepth 65536 in
set_option maxHeartbeats 40000000 in
theorem rm20 (l : Launch) (Z : State) (az : Array Value) (hw : ∀ d ∈ tables_1, d.before az Z = true) (ws : List Jvm.Cond) (p0 : Int32) (h0 : Heap) (n0 : Nat) (Z0 : n0 ≤ h0.size) :
    MetFree l (⟨"java/lang/Byte", "toUnsignedInt", "(B)I"⟩ : MethodName) (head1 (Jvm.Cond.code (⟨"java/lang/Byte", "toUnsignedInt", "(B)I"⟩ : MethodName) jdk_2056_method_24_code 1 (some .int) :: ws) ({ frames := 0, cells := 0, slots := 0, locals := 0 } : Room)) (fun a U => a = #[(.int p0)] ∧ Z.Warmed39 U.vm ∧ U.heap = h0) (fun _ _ _ _ _ => True) (fun _ U o U' => ∃ v L, o = .returned v ∧ Q20 Z p0 h0 n0 v U'.heap L ∧ FrameEnd U o U' L ({ frames := 0, cells := 0, slots := 0, locals := 0 } : Room).cells ({ frames := 0, cells := 0, slots := 0, locals := 0 } : Room).slots) := by
  refine MetFree.of_bodySF (plainFor_of_name pn_java_lang_Byte) hisR ?_
  intro p e s m args below meth c s₁ Bd hml0 hP hK
  obtain ⟨rfl, hZ, hh⟩ := hP
  have hx := Bd.exec
  have hby := Bd.bytes
  have hml : c.maxLocals = 1 := hml0
  have hown : s.vm.findClass "java/lang/Byte" = some m.cls := findClass_of_methodNamed Bd.named
  have hnm := (name_of_methodNamed Bd.named Bd.method).1
  have X0 : Stand p l e ({ frames := 0, cells := 0, slots := 0, locals := 0 } : Room) s m #[(.int p0)] below meth c s₁ [] 0 0 := Stand.of_body Bd
  have e0 : s₁.heap = h0 := by rw [← hh, Bd.state]; rfl
  have N0 := Fr.nil n0
  have pre0 : ∀ t, Steps p.tables e below (s₁.setTop (mkF m 0 #[.val (.int p0)] [])) t → Steps p.tables e below (s₁.setTop (entryFrame m #[(.int p0)] 1)) t := fun t k => castTop (ef_rm20 m p0) k
  obtain ⟨fs, hr, hrun, hended, hW, hsame⟩ := X0.leave (v := some (.int (p0 &&& (255 : Int32)))) (fun h => by rw [Bd.returns] at h; cases h)
  refine ⟨_, _, pre0 _ ?_, hrun, hended, _, _, rfl, ?_, ⟨_, rfl⟩, hW, hsame.mono (by decide) (by decide)⟩
  · show Steps p.tables e below (s₁.setTop (mkF m 0 #[.val (.int p0)] [])) _
    refine XS.iloadN X0.here hx rfl (hb hby d20_0) rfl ?_
    show Steps p.tables e below (s₁.setTop (mkF m 1 #[.val (.int p0)] [(.int p0)])) _
    refine XS.sipush X0.here hx rfl (hb hby d20_1) ?_
    show Steps p.tables e below (s₁.setTop (mkF m 4 #[.val (.int p0)] [(.int (255 : Int32)), (.int p0)])) _
    refine XS.iand X0.here hx rfl (hb hby d20_4) rfl ?_
    show Steps p.tables e below (s₁.setTop (mkF m 5 #[.val (.int p0)] [(.int (p0 &&& (255 : Int32)))])) _
    exact retI X0 hx Bd.returns (hb hby d20_5) hr
  · show Q20 Z p0 h0 n0 _ s₁.heap _
    rw [e0]
    exact ⟨rfl, N0, rfl⟩
theorem d18_0 : decode prog_7_method_13_code 0 = .ok (.iload_n 1, 1) := by decide +kernel
theorem d18_1 : decode prog_7_method_13_code 1 = .ok (.invokestatic 96, 3) := by decide +kernel
theorem d18_4 : decode prog_7_method_13_code 4 = .ok (.istore_n 2, 1) := by decide +kernel
theorem d18_5 : decode prog_7_method_13_code 5 = .ok (.aload_n 0, 1) := by decide +kernel
theorem d18_6 : decode prog_7_method_13_code 6 = .ok (.getfield 36, 3) := by decide +kernel
theorem d18_9 : decode prog_7_method_13_code 9 = .ok (.ifCond .lt 12, 3) := by decide +kernel
theorem d18_12 : decode prog_7_method_13_code 12 = .ok (.iload_n 2, 1) := by decide +kernel
theorem d18_13 : decode prog_7_method_13_code 13 = .ok (.aload_n 0, 1) := by decide +kernel
theorem d18_14 : decode prog_7_method_13_code 14 = .ok (.getfield 36, 3) := by decide +kernel
theorem d18_17 : decode prog_7_method_13_code 17 = .ok (.iand, 1) := by decide +kernel
theorem d18_18 : decode prog_7_method_13_code 18 = .ok (.goto 9, 3) := by decide +kernel
theorem d18_27 : decode prog_7_method_13_code 27 = .ok (.i2b, 1) := by decide +kernel
theorem d18_28 : decode prog_7_method_13_code 28 = .ok (.ireturn, 1) := by decide +kernel
theorem pn_com_example_fireweed_fireweed_layout_Java31ByteSalt : plainName "com/example/fireweed/fireweed/layout/Java31ByteSalt" = true := by first | (simp [plainName, overriddenIn]; done) | decide +kernel
theorem ef_rm18m (m : MethodId) (a0 : Addr) : entryFrame m #[(.ref a0), (.int (-2147483648 : Int32))] 3 = mkF m 0 #[.val (.ref a0), .val (.int (-2147483648 : Int32)), .unset] [] := by first | (simp [entryFrame, mkF, argsToLocals, Value.category]; done) | rfl
def Q18m (Z : State) (a0 : Addr) (w_mask_a0 : Int32) (h0 : Heap) (n0 : Nat) (v : Option Value) (h : Heap) (L : List Loc) : Prop := v = some (.int (((-2147483648 : Int32) &&& w_mask_a0).toInt8.toInt32)) ∧ Fr n0 L ∧ h = h0
set_option maxRecDepth 65536 in
set_option maxHeartbeats 40000000 in
theorem rm18m (l : Launch) (Z : State) (az : Array Value) (hw : ∀ d ∈ tables_1, d.before az Z = true) (ws : List Jvm.Cond) (a0 : Addr) (w_mask_a0 : Int32) (h0 : Heap) (n0 : Nat) (Z0 : n0 ≤ h0.size) (F_mask_a0 : Fld Z h0 a0 "com/example/fireweed/fireweed/layout/Java31ByteSalt" "mask" "I" (.int w_mask_a0)) (hc1 : ¬ (w_mask_a0 < (0 : Int32))) :
    MetFree l (⟨"com/example/fireweed/fireweed/layout/Java31ByteSalt", "saltOf", "(I)B"⟩ : MethodName) (head1 (Jvm.Cond.code (⟨"com/example/fireweed/fireweed/layout/Java31ByteSalt", "saltOf", "(I)B"⟩ : MethodName) prog_7_method_13_code 3 (some .byte) :: ws) ({ frames := 1, cells := 0, slots := 0, locals := 12 } : Room)) (fun a U => a = #[(.ref a0), (.int (-2147483648 : Int32))] ∧ Z.Warmed39 U.vm ∧ U.heap = h0) (fun _ _ _ _ _ => True) (fun _ U o U' => ∃ v L, o = .returned v ∧ Q18m Z a0 w_mask_a0 h0 n0 v U'.heap L ∧ FrameEnd U o U' L ({ frames := 1, cells := 0, slots := 0, locals := 12 } : Room).cells ({ frames := 1, cells := 0, slots := 0, locals := 12 } : Room).slots) := by
  refine MetFree.of_bodySF (plainFor_of_name pn_com_example_fireweed_fireweed_layout_Java31ByteSalt) hisR ?_
  intro p e s m args below meth c s₁ Bd hml0 hP hK
  obtain ⟨rfl, hZ, hh⟩ := hP
  have hx := Bd.exec
  have hby := Bd.bytes
  have hml : c.maxLocals = 3 := hml0
  have hown : s.vm.findClass "com/example/fireweed/fireweed/layout/Java31ByteSalt" = some m.cls := findClass_of_methodNamed Bd.named
  have hnm := (name_of_methodNamed Bd.named Bd.method).1
  have X0 : Stand p l e ({ frames := 1, cells := 0, slots := 0, locals := 12 } : Room) s m #[(.ref a0), (.int (-2147483648 : Int32))] below meth c s₁ [] 0 0 := Stand.of_body Bd
  have e0 : s₁.heap = h0 := by rw [← hh, Bd.state]; rfl
  have N0 := Fr.nil n0
  have pre0 : ∀ t, Steps p.tables e below (s₁.setTop (mkF m 0 #[.val (.ref a0), .val (.int (-2147483648 : Int32)), .unset] [])) t → Steps p.tables e below (s₁.setTop (entryFrame m #[(.ref a0), (.int (-2147483648 : Int32))] 3)) t := fun t k => castTop (ef_rm18m m a0) k
  obtain ⟨_, _, ⟨T1, L1, k1', n1'⟩, -, X1, ⟨Lc1, hQ1, l1, y1, z1⟩, st1⟩ := Jvm.LawKit.callS X0 hx (y := (⟨"java/lang/Math", "abs", "(I)I"⟩ : MethodName)) hown (mvT hZ (hw _ (List.mem_of_getElem? (i := 112) rfl))) (mvT hZ (hw _ (List.mem_of_getElem? (i := 113) rfl))) (mvT hZ (hw _ (List.mem_of_getElem? (i := 114) rfl))) (mvT hZ (hw _ (List.mem_of_getElem? (i := 115) rfl))) (by decide) (backOf (W := 0) (rm19 l Z az hw []  h0 n0 Z0) hZ (hw _ (List.mem_of_getElem? (i := 115) rfl)) (hw _ (List.mem_of_getElem? (i := 114) rfl)) (by decide) (by decide)) (g := (mkF m 1 #[.val (.ref a0), .val (.int (-2147483648 : Int32)), .unset] [(.int (-2147483648 : Int32))])) rfl (by rw [hml]; rfl) (argsL := [(.int (-2147483648 : Int32))]) (rest := []) (lenOf pd_8 rfl) rfl (by show 2 * 0 + _ ≤ _; exact Nat.le_of_eq rfl) (hb hby d18_1) (fun _ _ => ⟨rfl, e0, (by decide : 0 + 0 ≤ _), (by decide : 0 + 0 ≤ _)⟩)
  dsimp only [Pt.U, Pt.locs, Pt.cells, Pt.slots] at X1 l1 y1 z1 st1 hQ1
  subst l1 y1 z1
  obtain ⟨rfl, N1q, e1⟩ := hQ1
  have N1 := Fr.app N0 N1q
  obtain ⟨T2, X2, e2, st2⟩ := getF X1 hx hZ hown (host := "") (Or.inl (hw _ (List.mem_of_getElem? (i := 105) rfl))) Via.refl e1 F_mask_a0 (g := (mkF m 6 #[.val (.ref a0), .val (.int (-2147483648 : Int32)), .val (.int (-2147483648 : Int32))] [(.ref a0)])) rfl rfl (hb hby d18_6)
  obtain ⟨T3, X3, e3, st3⟩ := getF X2 hx hZ hown (host := "") (Or.inl (hw _ (List.mem_of_getElem? (i := 105) rfl))) Via.refl e2 F_mask_a0 (g := (mkF m 14 #[.val (.ref a0), .val (.int (-2147483648 : Int32)), .val (.int (-2147483648 : Int32))] [(.ref a0), (.int (-2147483648 : Int32))])) rfl rfl (hb hby d18_14)
  obtain ⟨fs, hr, hrun, hended, hW, hsame⟩ := X3.leave (v := some (.int (((-2147483648 : Int32) &&& w_mask_a0).toInt8.toInt32))) (fun h => by rw [Bd.returns] at h; cases h)
  refine ⟨_, _, pre0 _ ?_, hrun, hended, _, _, rfl, ?_, ⟨_, rfl⟩, hW, hsame.mono (by decide) (by decide)⟩
  · show Steps p.tables e below (s₁.setTop (mkF m 0 #[.val (.ref a0), .val (.int (-2147483648 : Int32)), .unset] [])) _
    refine XS.iloadN X0.here hx rfl (hb hby d18_0) rfl ?_
    show Steps p.tables e below (s₁.setTop (mkF m 1 #[.val (.ref a0), .val (.int (-2147483648 : Int32)), .unset] [(.int (-2147483648 : Int32))])) _
    refine st1 _ ?_
    show Steps p.tables e below (T1.setTop (mkF m 4 #[.val (.ref a0), .val (.int (-2147483648 : Int32)), .unset] [(.int (-2147483648 : Int32))])) _
    refine XS.istoreN X1.here hx rfl (hb hby d18_4) rfl (l' := #[.val (.ref a0), .val (.int (-2147483648 : Int32)), .val (.int (-2147483648 : Int32))]) rfl ?_
    show Steps p.tables e below (T1.setTop (mkF m 5 #[.val (.ref a0), .val (.int (-2147483648 : Int32)), .val (.int (-2147483648 : Int32))] [])) _
    refine XS.aloadN X1.here hx rfl (hb hby d18_5) rfl rfl ?_
    show Steps p.tables e below (T1.setTop (mkF m 6 #[.val (.ref a0), .val (.int (-2147483648 : Int32)), .val (.int (-2147483648 : Int32))] [(.ref a0)])) _
    refine st2 _ ?_
    show Steps p.tables e below (T2.setTop (mkF m 9 #[.val (.ref a0), .val (.int (-2147483648 : Int32)), .val (.int (-2147483648 : Int32))] [(.int w_mask_a0)])) _
    refine XS.ifNo X2.here hx rfl (hb hby d18_9) rfl ((if0 _ _).trans (flt hc1).1) ?_
    show Steps p.tables e below (T2.setTop (mkF m 12 #[.val (.ref a0), .val (.int (-2147483648 : Int32)), .val (.int (-2147483648 : Int32))] [])) _
    refine XS.iloadN X2.here hx rfl (hb hby d18_12) rfl ?_
    show Steps p.tables e below (T2.setTop (mkF m 13 #[.val (.ref a0), .val (.int (-2147483648 : Int32)), .val (.int (-2147483648 : Int32))] [(.int (-2147483648 : Int32))])) _
    refine XS.aloadN X2.here hx rfl (hb hby d18_13) rfl rfl ?_
    show Steps p.tables e below (T2.setTop (mkF m 14 #[.val (.ref a0), .val (.int (-2147483648 : Int32)), .val (.int (-2147483648 : Int32))] [(.ref a0), (.int (-2147483648 : Int32))])) _
    refine st3 _ ?_
    show Steps p.tables e below (T3.setTop (mkF m 17 #[.val (.ref a0), .val (.int (-2147483648 : Int32)), .val (.int (-2147483648 : Int32))] [(.int w_mask_a0), (.int (-2147483648 : Int32))])) _
    refine XS.iand X3.here hx rfl (hb hby d18_17) rfl ?_
    show Steps p.tables e below (T3.setTop (mkF m 18 #[.val (.ref a0), .val (.int (-2147483648 : Int32)), .val (.int (-2147483648 : Int32))] [(.int ((-2147483648 : Int32) &&& w_mask_a0))])) _
    refine XS.goto X3.here hx rfl (pc0 := 18) (pc' := 27) rfl (hb hby d18_18) (by decide) (by decide) ?_
    show Steps p.tables e below (T3.setTop (mkF m 27 #[.val (.ref a0), .val (.int (-2147483648 : Int32)), .val (.int (-2147483648 : Int32))] [(.int ((-2147483648 : Int32) &&& w_mask_a0))])) _
    refine XS.i2b X3.here hx rfl (hb hby d18_27) rfl ?_
    show Steps p.tables e below (T3.setTop (mkF m 28 #[.val (.ref a0), .val (.int (-2147483648 : Int32)), .val (.int (-2147483648 : Int32))] [(.int (((-2147483648 : Int32) &&& w_mask_a0).toInt8.toInt32))])) _
    exact retN X3 hx (t := .byte) Bd.returns (by simp) (hb hby d18_28) (fun f acts q1 q2 q3 => by rw [(own_nb _)]; exact hr f acts q1 q2 q3)
  · show Q18m Z a0 w_mask_a0 h0 n0 _ T3.heap _
    rw [e3]
    exact ⟨rfl, N1, rfl⟩
theorem d18_21 : decode prog_7_method_13_code 21 = .ok (.iload_n 2, 1) := by decide +kernel
theorem d18_22 : decode prog_7_method_13_code 22 = .ok (.aload_n 0, 1) := by decide +kernel
theorem d18_23 : decode prog_7_method_13_code 23 = .ok (.getfield 28, 3) := by decide +kernel
theorem d18_26 : decode prog_7_method_13_code 26 = .ok (.irem, 1) := by decide +kernel
theorem ef_rm18b (m : MethodId) (a0 : Addr) : entryFrame m #[(.ref a0), (.int (-2147483648 : Int32))] 3 = mkF m 0 #[.val (.ref a0), .val (.int (-2147483648 : Int32)), .unset] [] := by first | (simp [entryFrame, mkF, argsToLocals, Value.category]; done) | rfl
def Q18b (Z : State) (a0 : Addr) (w_buckets_a0 : Int32) (h0 : Heap) (n0 : Nat) (v : Option Value) (h : Heap) (L : List Loc) : Prop := v = some (.int (((-2147483648 : Int32) % w_buckets_a0).toInt8.toInt32)) ∧ Fr n0 L ∧ h = h0
set_option maxRecDepth 65536 in
set_option maxHeartbeats 40000000 in
theorem rm18b (l : Launch) (Z : State) (az : Array Value) (hw : ∀ d ∈ tables_1, d.before az Z = true) (ws : List Jvm.Cond) (a0 : Addr) (w_buckets_a0 : Int32) (h0 : Heap) (n0 : Nat) (Z0 : n0 ≤ h0.size) (F_mask_a0 : Fld Z h0 a0 "com/example/fireweed/fireweed/layout/Java31ByteSalt" "mask" "I" (.int (-1 : Int32))) (F_buckets_a0 : Fld Z h0 a0 "com/example/fireweed/fireweed/layout/Java31ByteSalt" "buckets" "I" (.int w_buckets_a0)) (hc2 : w_buckets_a0 ≠ (0 : Int32)) :
    MetFree l (⟨"com/example/fireweed/fireweed/layout/Java31ByteSalt", "saltOf", "(I)B"⟩ : MethodName) (head1 (Jvm.Cond.code (⟨"com/example/fireweed/fireweed/layout/Java31ByteSalt", "saltOf", "(I)B"⟩ : MethodName) prog_7_method_13_code 3 (some .byte) :: ws) ({ frames := 1, cells := 0, slots := 0, locals := 12 } : Room)) (fun a U => a = #[(.ref a0), (.int (-2147483648 : Int32))] ∧ Z.Warmed39 U.vm ∧ U.heap = h0) (fun _ _ _ _ _ => True) (fun _ U o U' => ∃ v L, o = .returned v ∧ Q18b Z a0 w_buckets_a0 h0 n0 v U'.heap L ∧ FrameEnd U o U' L ({ frames := 1, cells := 0, slots := 0, locals := 12 } : Room).cells ({ frames := 1, cells := 0, slots := 0, locals := 12 } : Room).slots) := by
  refine MetFree.of_bodySF (plainFor_of_name pn_com_example_fireweed_fireweed_layout_Java31ByteSalt) hisR ?_
  intro p e s m args below meth c s₁ Bd hml0 hP hK
  obtain ⟨rfl, hZ, hh⟩ := hP
  have hx := Bd.exec
  have hby := Bd.bytes
  have hml : c.maxLocals = 3 := hml0
  have hown : s.vm.findClass "com/example/fireweed/fireweed/layout/Java31ByteSalt" = some m.cls := findClass_of_methodNamed Bd.named
  have hnm := (name_of_methodNamed Bd.named Bd.method).1
  have X0 : Stand p l e ({ frames := 1, cells := 0, slots := 0, locals := 12 } : Room) s m #[(.ref a0), (.int (-2147483648 : Int32))] below meth c s₁ [] 0 0 := Stand.of_body Bd
  have e0 : s₁.heap = h0 := by rw [← hh, Bd.state]; rfl
  have N0 := Fr.nil n0
  have pre0 : ∀ t, Steps p.tables e below (s₁.setTop (mkF m 0 #[.val (.ref a0), .val (.int (-2147483648 : Int32)), .unset] [])) t → Steps p.tables e below (s₁.setTop (entryFrame m #[(.ref a0), (.int (-2147483648 : Int32))] 3)) t := fun t k => castTop (ef_rm18b m a0) k
  obtain ⟨_, _, ⟨T1, L1, k1', n1'⟩, -, X1, ⟨Lc1, hQ1, l1, y1, z1⟩, st1⟩ := Jvm.LawKit.callS X0 hx (y := (⟨"java/lang/Math", "abs", "(I)I"⟩ : MethodName)) hown (mvT hZ (hw _ (List.mem_of_getElem? (i := 112) rfl))) (mvT hZ (hw _ (List.mem_of_getElem? (i := 113) rfl))) (mvT hZ (hw _ (List.mem_of_getElem? (i := 114) rfl))) (mvT hZ (hw _ (List.mem_of_getElem? (i := 115) rfl))) (by decide) (backOf (W := 0) (rm19 l Z az hw []  h0 n0 Z0) hZ (hw _ (List.mem_of_getElem? (i := 115) rfl)) (hw _ (List.mem_of_getElem? (i := 114) rfl)) (by decide) (by decide)) (g := (mkF m 1 #[.val (.ref a0), .val (.int (-2147483648 : Int32)), .unset] [(.int (-2147483648 : Int32))])) rfl (by rw [hml]; rfl) (argsL := [(.int (-2147483648 : Int32))]) (rest := []) (lenOf pd_8 rfl) rfl (by show 2 * 0 + _ ≤ _; exact Nat.le_of_eq rfl) (hb hby d18_1) (fun _ _ => ⟨rfl, e0, (by decide : 0 + 0 ≤ _), (by decide : 0 + 0 ≤ _)⟩)
  dsimp only [Pt.U, Pt.locs, Pt.cells, Pt.slots] at X1 l1 y1 z1 st1 hQ1
  subst l1 y1 z1
  obtain ⟨rfl, N1q, e1⟩ := hQ1
  have N1 := Fr.app N0 N1q
  obtain ⟨T2, X2, e2, st2⟩ := getF X1 hx hZ hown (host := "") (Or.inl (hw _ (List.mem_of_getElem? (i := 105) rfl))) Via.refl e1 F_mask_a0 (g := (mkF m 6 #[.val (.ref a0), .val (.int (-2147483648 : Int32)), .val (.int (-2147483648 : Int32))] [(.ref a0)])) rfl rfl (hb hby d18_6)
  obtain ⟨T3, X3, e3, st3⟩ := getF X2 hx hZ hown (host := "") (Or.inl (hw _ (List.mem_of_getElem? (i := 96) rfl))) Via.refl e2 F_buckets_a0 (g := (mkF m 23 #[.val (.ref a0), .val (.int (-2147483648 : Int32)), .val (.int (-2147483648 : Int32))] [(.ref a0), (.int (-2147483648 : Int32))])) rfl rfl (hb hby d18_23)
  obtain ⟨fs, hr, hrun, hended, hW, hsame⟩ := X3.leave (v := some (.int (((-2147483648 : Int32) % w_buckets_a0).toInt8.toInt32))) (fun h => by rw [Bd.returns] at h; cases h)
  refine ⟨_, _, pre0 _ ?_, hrun, hended, _, _, rfl, ?_, ⟨_, rfl⟩, hW, hsame.mono (by decide) (by decide)⟩
  · show Steps p.tables e below (s₁.setTop (mkF m 0 #[.val (.ref a0), .val (.int (-2147483648 : Int32)), .unset] [])) _
    refine XS.iloadN X0.here hx rfl (hb hby d18_0) rfl ?_
    show Steps p.tables e below (s₁.setTop (mkF m 1 #[.val (.ref a0), .val (.int (-2147483648 : Int32)), .unset] [(.int (-2147483648 : Int32))])) _
    refine st1 _ ?_
    show Steps p.tables e below (T1.setTop (mkF m 4 #[.val (.ref a0), .val (.int (-2147483648 : Int32)), .unset] [(.int (-2147483648 : Int32))])) _
    refine XS.istoreN X1.here hx rfl (hb hby d18_4) rfl (l' := #[.val (.ref a0), .val (.int (-2147483648 : Int32)), .val (.int (-2147483648 : Int32))]) rfl ?_
    show Steps p.tables e below (T1.setTop (mkF m 5 #[.val (.ref a0), .val (.int (-2147483648 : Int32)), .val (.int (-2147483648 : Int32))] [])) _
    refine XS.aloadN X1.here hx rfl (hb hby d18_5) rfl rfl ?_
    show Steps p.tables e below (T1.setTop (mkF m 6 #[.val (.ref a0), .val (.int (-2147483648 : Int32)), .val (.int (-2147483648 : Int32))] [(.ref a0)])) _
    refine st2 _ ?_
    show Steps p.tables e below (T2.setTop (mkF m 9 #[.val (.ref a0), .val (.int (-2147483648 : Int32)), .val (.int (-2147483648 : Int32))] [(.int (-1 : Int32))])) _
    refine XS.ifYes X2.here hx rfl (pc0 := 9) (pc' := 21) rfl (hb hby d18_9) rfl ((if0 _ _).trans (tlt (by decide : (-1 : Int32) < (0 : Int32))).1) (by decide) (by decide) ?_
    show Steps p.tables e below (T2.setTop (mkF m 21 #[.val (.ref a0), .val (.int (-2147483648 : Int32)), .val (.int (-2147483648 : Int32))] [])) _
    refine XS.iloadN X2.here hx rfl (hb hby d18_21) rfl ?_
    show Steps p.tables e below (T2.setTop (mkF m 22 #[.val (.ref a0), .val (.int (-2147483648 : Int32)), .val (.int (-2147483648 : Int32))] [(.int (-2147483648 : Int32))])) _
    refine XS.aloadN X2.here hx rfl (hb hby d18_22) rfl rfl ?_
    show Steps p.tables e below (T2.setTop (mkF m 23 #[.val (.ref a0), .val (.int (-2147483648 : Int32)), .val (.int (-2147483648 : Int32))] [(.ref a0), (.int (-2147483648 : Int32))])) _
    refine st3 _ ?_
    show Steps p.tables e below (T3.setTop (mkF m 26 #[.val (.ref a0), .val (.int (-2147483648 : Int32)), .val (.int (-2147483648 : Int32))] [(.int w_buckets_a0), (.int (-2147483648 : Int32))])) _
    refine iremM X3 hx rfl (hb hby d18_26) rfl hc2 ?_
    show Steps p.tables e below (T3.setTop (mkF m 27 #[.val (.ref a0), .val (.int (-2147483648 : Int32)), .val (.int (-2147483648 : Int32))] [(.int ((-2147483648 : Int32) % w_buckets_a0))])) _
    refine XS.i2b X3.here hx rfl (hb hby d18_27) rfl ?_
    show Steps p.tables e below (T3.setTop (mkF m 28 #[.val (.ref a0), .val (.int (-2147483648 : Int32)), .val (.int (-2147483648 : Int32))] [(.int (((-2147483648 : Int32) % w_buckets_a0).toInt8.toInt32))])) _
    exact retN X3 hx (t := .byte) Bd.returns (by simp) (hb hby d18_28) (fun f acts q1 q2 q3 => by rw [(own_nb _)]; exact hr f acts q1 q2 q3)
  · show Q18b Z a0 w_buckets_a0 h0 n0 _ T3.heap _
    rw [e3]
    exact ⟨rfl, N1, rfl⟩
theorem d7_0 : decode prog_7_method_1_code 0 = .ok (.aload_n 0, 1) := by decide +kernel
theorem d7_1 : decode prog_7_method_1_code 1 = .ok (.aload_n 2, 1) := by decide +kernel
theorem d7_2 : decode prog_7_method_1_code 2 = .ok (.invokespecial 3, 3) := by decide +kernel
theorem d7_5 : decode prog_7_method_1_code 5 = .ok (.iload_n 1, 1) := by decide +kernel
theorem d7_6 : decode prog_7_method_1_code 6 = .ok (.iconst 1, 1) := by decide +kernel
theorem d7_7 : decode prog_7_method_1_code 7 = .ok (.if_icmp .lt 10, 3) := by decide +kernel
theorem d7_10 : decode prog_7_method_1_code 10 = .ok (.iload_n 1, 1) := by decide +kernel
theorem d7_11 : decode prog_7_method_1_code 11 = .ok (.sipush 256, 3) := by decide +kernel
theorem d7_14 : decode prog_7_method_1_code 14 = .ok (.if_icmp .le 36, 3) := by decide +kernel
theorem d7_50 : decode prog_7_method_1_code 50 = .ok (.aload_n 0, 1) := by decide +kernel
theorem d7_51 : decode prog_7_method_1_code 51 = .ok (.iload_n 1, 1) := by decide +kernel
theorem d7_52 : decode prog_7_method_1_code 52 = .ok (.putfield 28, 3) := by decide +kernel
theorem d7_55 : decode prog_7_method_1_code 55 = .ok (.aload_n 0, 1) := by decide +kernel
theorem d7_56 : decode prog_7_method_1_code 56 = .ok (.iload_n 1, 1) := by decide +kernel
theorem d7_57 : decode prog_7_method_1_code 57 = .ok (.invokestatic 32, 3) := by decide +kernel
theorem d7_60 : decode prog_7_method_1_code 60 = .ok (.iconst 1, 1) := by decide +kernel
theorem d7_61 : decode prog_7_method_1_code 61 = .ok (.if_icmp .ne 9, 3) := by decide +kernel
theorem d7_64 : decode prog_7_method_1_code 64 = .ok (.iload_n 1, 1) := by decide +kernel
theorem d7_65 : decode prog_7_method_1_code 65 = .ok (.iconst 1, 1) := by decide +kernel
theorem d7_66 : decode prog_7_method_1_code 66 = .ok (.isub, 1) := by decide +kernel
theorem d7_67 : decode prog_7_method_1_code 67 = .ok (.goto 4, 3) := by decide +kernel
theorem d7_71 : decode prog_7_method_1_code 71 = .ok (.putfield 36, 3) := by decide +kernel
theorem d7_74 : decode prog_7_method_1_code 74 = .ok (.aload_n 0, 1) := by decide +kernel
theorem d7_75 : decode prog_7_method_1_code 75 = .ok (.aload_n 0, 1) := by decide +kernel
theorem d7_76 : decode prog_7_method_1_code 76 = .ok (.ldc 39, 2) := by decide +kernel
theorem d7_78 : decode prog_7_method_1_code 78 = .ok (.invokevirtual 40, 3) := by decide +kernel
theorem pd_10 : parseMethodDescriptor "(I)B" = some ⟨[.int], some .byte⟩ := by decide +kernel
theorem d7_81 : decode prog_7_method_1_code 81 = .ok (.invokestatic 44, 3) := by decide +kernel
theorem pd_11 : parseMethodDescriptor "(B)I" = some ⟨[.byte], some .int⟩ := by decide +kernel
theorem d7_84 : decode prog_7_method_1_code 84 = .ok (.putfield 50, 3) := by decide +kernel
theorem d7_87 : decode prog_7_method_1_code 87 = .ok (.return_, 1) := by decide +kernel
theorem ef_rm7pA (m : MethodId) (a0 : Addr) (p1 : Int32) (a2 : Addr) : entryFrame m #[(.ref a0), (.int p1), (.ref a2)] 3 = mkF m 0 #[.val (.ref a0), .val (.int p1), .val (.ref a2)] [] := by first | (simp [entryFrame, mkF, argsToLocals, Value.category]; done) | rfl
def Q7pA (Z : State) (a0 : Addr) (p1 : Int32) (a2 : Addr) (aB : Addr) (kB : ClassId) (pv : Int32) (aU : Addr) (s_COMPACT_STRINGS : Int32) (h0 : Heap) (n0 : Nat) (v : Option Value) (h : Heap) (L : List Loc) : Prop := ∃ r0 : Addr, v = none ∧ Fr n0 L ∧ h0.size ≤ r0 ∧ Keep h0 h [a0] ∧ Exa Z h a0 "com/example/fireweed/fireweed/layout/Java31ByteSalt" ∧ Fld Z h a0 "com/example/fireweed/fireweed/layout/Salt" "suffix" "Ljava/lang/String;" (.ref a2) ∧ Fld Z h a0 "com/example/fireweed/fireweed/layout/Salt" "suffixBytes" "[B" (.ref r0) ∧ Fld Z h a0 "com/example/fireweed/fireweed/layout/Java31ByteSalt" "buckets" "I" (.int p1) ∧ Fld Z h a0 "com/example/fireweed/fireweed/layout/Java31ByteSalt" "mask" "I" (.int (p1 - (1 : Int32))) ∧ Fld Z h a0 "com/example/fireweed/fireweed/layout/Java31ByteSalt" "overflow" "I" (.int ((((-2147483648 : Int32) &&& (p1 - (1 : Int32))).toInt8.toInt32) &&& (255 : Int32))) ∧ Exa Z h r0 "[B" ∧ Arv Z h r0 kB .byte (1 : Int32) [(.int pv)] (.int (0 : Int32))
set_option maxRecDepth 65536 in
set_option maxHeartbeats 40000000 in
theorem rm7pA (l : Launch) (Z : State) (az : Array Value) (hw : ∀ d ∈ tables_1, d.before az Z = true) (ws : List Jvm.Cond) (a0 : Addr) (p1 : Int32) (a2 : Addr) (aB : Addr) (kB : ClassId) (pv : Int32) (aU : Addr) (s_COMPACT_STRINGS : Int32) (h0 : Heap) (n0 : Nat) (Z0 : n0 ≤ h0.size) (E_a0 : Exa Z h0 a0 "com/example/fireweed/fireweed/layout/Java31ByteSalt") (F_suffix_a0 : Fld Z h0 a0 "com/example/fireweed/fireweed/layout/Salt" "suffix" "Ljava/lang/String;" .null) (F_suffixBytes_a0 : Fld Z h0 a0 "com/example/fireweed/fireweed/layout/Salt" "suffixBytes" "[B" .null) (F_buckets_a0 : Fld Z h0 a0 "com/example/fireweed/fireweed/layout/Java31ByteSalt" "buckets" "I" (.int (0 : Int32))) (F_mask_a0 : Fld Z h0 a0 "com/example/fireweed/fireweed/layout/Java31ByteSalt" "mask" "I" (.int (0 : Int32))) (F_overflow_a0 : Fld Z h0 a0 "com/example/fireweed/fireweed/layout/Java31ByteSalt" "overflow" "I" (.int (0 : Int32))) (E_a2 : Exa Z h0 a2 "java/lang/String") (F_coder_a2 : Fld Z h0 a2 "java/lang/String" "coder" "B" (.int (0 : Int32))) (F_value_a2 : Fld Z h0 a2 "java/lang/String" "value" "[B" (.ref aB)) (V_aB : Arv Z h0 aB kB .byte (1 : Int32) [(.int pv)] (.int (0 : Int32))) (E_aB : Exa Z h0 aB "[B") (S_INSTANCE : Sta Z h0 "sun/nio/cs/UTF_8" "INSTANCE" "Lsun/nio/cs/UTF_8;" (.ref aU)) (S_UTF_8 : Sta Z h0 "java/nio/charset/StandardCharsets" "UTF_8" "Ljava/nio/charset/Charset;" (.ref aU)) (hc13 : ¬ (pv < (0 : Int32))) (S_COMPACT_STRINGS : Sta Z h0 "java/lang/String" "COMPACT_STRINGS" "Z" (.int s_COMPACT_STRINGS)) (g_a0 : n0 ≤ a0) (hne_a2_a0 : a2 ≠ a0) (hne_aB_a0 : aB ≠ a0) (hc18 : ¬ (s_COMPACT_STRINGS = (0 : Int32))) (hc19 : ¬ (p1 < (1 : Int32))) (hc20 : ¬ ((256 : Int32) < p1)) (hc21 : (own_bc p1) = (1 : Int32)) (hc22 : ¬ ((p1 - (1 : Int32)) < (0 : Int32))) :
    MetFree l (⟨"com/example/fireweed/fireweed/layout/Java31ByteSalt", "<init>", "(ILjava/lang/String;)V"⟩ : MethodName) (head1 (Jvm.Cond.code (⟨"com/example/fireweed/fireweed/layout/Java31ByteSalt", "<init>", "(ILjava/lang/String;)V"⟩ : MethodName) prog_7_method_1_code 3 none :: ws) ({ frames := 7, cells := 3, slots := 29, locals := 104 } : Room)) (fun a U => a = #[(.ref a0), (.int p1), (.ref a2)] ∧ Z.Warmed39 U.vm ∧ U.heap = h0) (fun _ _ _ _ _ => True) (fun _ U o U' => ∃ v L, o = .returned v ∧ Q7pA Z a0 p1 a2 aB kB pv aU s_COMPACT_STRINGS h0 n0 v U'.heap L ∧ ReturnedEndW U o U' L ({ frames := 7, cells := 3, slots := 29, locals := 104 } : Room).cells ({ frames := 7, cells := 3, slots := 29, locals := 104 } : Room).slots) := by
  refine MetFree.of_bodySF (plainFor_of_name pn_com_example_fireweed_fireweed_layout_Java31ByteSalt) hisR ?_
  intro p e s m args below meth c s₁ Bd hml0 hP hK
  obtain ⟨rfl, hZ, hh⟩ := hP
  have hx := Bd.exec
  have hby := Bd.bytes
  have hml : c.maxLocals = 3 := hml0
  have hown : s.vm.findClass "com/example/fireweed/fireweed/layout/Java31ByteSalt" = some m.cls := findClass_of_methodNamed Bd.named
  have hnm := (name_of_methodNamed Bd.named Bd.method).1
  have X0 : Stand p l e ({ frames := 7, cells := 3, slots := 29, locals := 104 } : Room) s m #[(.ref a0), (.int p1), (.ref a2)] below meth c s₁ [] 0 0 := Stand.of_body Bd
  have e0 : s₁.heap = h0 := by rw [← hh, Bd.state]; rfl
  have N0 := Fr.nil n0
  have pre0 : ∀ t, Steps p.tables e below (s₁.setTop (mkF m 0 #[.val (.ref a0), .val (.int p1), .val (.ref a2)] [])) t → Steps p.tables e below (s₁.setTop (entryFrame m #[(.ref a0), (.int p1), (.ref a2)] 3)) t := fun t k => castTop (ef_rm7pA m a0 p1 a2) k
  have hS0 : s.Since s.vm 0 := (State.WarmedH.refl s).since 0
  have wS : ∀ a ∈ Bundle.stringAtoms, a.before az Z = true := fun d hd => by
    simp only [Bundle.stringAtoms, List.mem_cons, List.not_mem_nil, or_false] at hd
    rcases hd with rfl | rfl | rfl | rfl | rfl | rfl | rfl
    · exact (hw _ (List.mem_of_getElem? (i := 7) rfl))
    · exact (hw _ (List.mem_of_getElem? (i := 6) rfl))
    · exact (hw _ (List.mem_of_getElem? (i := 23) rfl))
    · exact (hw _ (List.mem_of_getElem? (i := 33) rfl))
    · exact (hw _ (List.mem_of_getElem? (i := 31) rfl))
    · exact (hw _ (List.mem_of_getElem? (i := 49) rfl))
    · exact (hw _ (List.mem_of_getElem? (i := 50) rfl))
  obtain ⟨_, _, ⟨T1, L1, k1', n1'⟩, -, Y1, yS1, yg1, ⟨Lc1, hQ1, l1, y1, z1⟩, st1⟩ := X0.specialBackS hx (y := (⟨"com/example/fireweed/fireweed/layout/BucketSalt", "<init>", "(Ljava/lang/String;)V"⟩ : MethodName)) rfl hown (mvT hZ (hw _ (List.mem_of_getElem? (i := 37) rfl))) (mvT hZ (hw _ (List.mem_of_getElem? (i := 38) rfl))) (mvT hZ (hw _ (List.mem_of_getElem? (i := 41) rfl))) (by decide) (backOfS (W := 0) (rm8p l Z az hw [] a0 a2 aB kB pv aU s_COMPACT_STRINGS h0 n0 Z0 E_a0 F_suffix_a0 F_suffixBytes_a0 F_buckets_a0 F_mask_a0 F_overflow_a0 E_a2 F_coder_a2 F_value_a2 V_aB E_aB S_INSTANCE S_UTF_8 hc13 S_COMPACT_STRINGS g_a0 hne_a2_a0 hne_aB_a0 hc18) hZ (hw _ (List.mem_of_getElem? (i := 41) rfl)) (hw _ (List.mem_of_getElem? (i := 40) rfl)) (by decide) (by decide)) (g := (mkF m 2 #[.val (.ref a0), .val (.int p1), .val (.ref a2)] [(.ref a2), (.ref a0)])) rfl (by rw [hml]; rfl) (Steps.refl _) (a := a0) (argsL := [(.ref a2)]) (rest := []) (lenOf pd_7 rfl) rfl (by show 2 * 0 + _ ≤ _; exact Nat.le_of_eq rfl) (hb hby d7_2) (fun _ _ => ⟨rfl, e0, (by decide : 0 + 3 ≤ _), (by decide : 0 + 29 ≤ _)⟩)
  dsimp only [Pt.U, Pt.locs, Pt.cells, Pt.slots] at Y1 yS1 yg1 l1 y1 z1 st1 hQ1
  subst l1 y1 z1
  obtain ⟨X1, hS1, hZ1, hown1⟩ := rebS (s := s) (vm0 := s.vm) hS0 (by rw [e0]; exact (Nat.zero_le _)) Y1 yS1 yg1 hZ hown
  obtain ⟨b1_0, rfl, N1q, s1_0, kq1, pf1_0, pf1_1, pf1_2, pf1_3, pf1_4, pf1_5, pf1_6, pf1_7⟩ := hQ1
  have N1 := Fr.app N0 N1q
  have g_b1_0 : n0 ≤ b1_0 := Nat.le_trans Z0 s1_0
  have sz_b1_0 : h0.size ≤ b1_0 := Nat.le_trans (Nat.le_refl _) s1_0
  have K1 : Keep h0 T1.heap [a0] := (Keep.refl h0 [a0]).trans kq1 (allS (Or.inl (List.mem_of_getElem? (i := 0) rfl)) all0)
  have Z1 : n0 ≤ T1.heap.size := Nat.le_trans Z0 kq1.1
  obtain ⟨T2, h2, X2, e2, W2, st2⟩ := putF X1 hx hZ1 hown1 (host := "") (Or.inl (hw _ (List.mem_of_getElem? (i := 96) rfl))) Via.refl rfl pf1_3 pf1_0 (Or.inr ⟨(hw _ (List.mem_of_getElem? (i := 97) rfl)), rfl, hnm⟩) (hw _ (List.mem_of_getElem? (i := 3) rfl)) (ty := .int) (by decide) rfl rfl (g := (mkF m 52 #[.val (.ref a0), .val (.int p1), .val (.ref a2)] [(.int p1), (.ref a0)])) rfl rfl (hb hby d7_52)
  have K2 : Keep h0 h2 [a0] := K1.wr W2 (Or.inl (List.mem_of_getElem? (i := 0) rfl))
  have Fw2 := pf1_3.same W2
  have Z2 : n0 ≤ h2.size := Nat.le_trans Z1 (Keep.of_wr W2).1
  have N2 := Fr.snoc X2 N1 g_a0
  obtain ⟨_, _, ⟨T3, L3, k3', n3'⟩, -, X3, ⟨Lc3, hQ3, l3, y3, z3⟩, st3⟩ := Jvm.LawKit.callS X2 hx (y := (⟨"java/lang/Integer", "bitCount", "(I)I"⟩ : MethodName)) hown1 (mvT hZ1 (hw _ (List.mem_of_getElem? (i := 98) rfl))) (mvT hZ1 (hw _ (List.mem_of_getElem? (i := 99) rfl))) (mvT hZ1 (hw _ (List.mem_of_getElem? (i := 100) rfl))) (mvT hZ1 (hw _ (List.mem_of_getElem? (i := 101) rfl))) (by decide) (backOf (W := 1) (rm17 l Z az hw [] p1 h2 n0 Z2) hZ1 (hw _ (List.mem_of_getElem? (i := 101) rfl)) (hw _ (List.mem_of_getElem? (i := 100) rfl)) (by decide) (by decide)) (g := (mkF m 57 #[.val (.ref a0), .val (.int p1), .val (.ref a2)] [(.int p1), (.ref a0)])) rfl (by rw [hml]; rfl) (argsL := [(.int p1)]) (rest := [(.ref a0)]) (lenOf pd_8 rfl) rfl (by show 2 * 0 + _ ≤ _; exact Nat.le_of_eq rfl) (hb hby d7_57) (fun _ _ => ⟨rfl, e2, (by decide : 3 + 0 ≤ _), (by decide : 29 + 0 ≤ _)⟩)
  dsimp only [Pt.U, Pt.locs, Pt.cells, Pt.slots] at X3 l3 y3 z3 st3 hQ3
  subst l3 y3 z3
  obtain ⟨rfl, N3q, e3⟩ := hQ3
  have N3 := Fr.app N2 N3q
  have F_a0_mask_u4 : Fld Z h2 a0 "com/example/fireweed/fireweed/layout/Java31ByteSalt" "mask" "I" (.int (0 : Int32)) := (pf1_4.other W2 (Or.inr (slot_ne (Or.inr (hw _ (List.mem_of_getElem? (i := 106) rfl))) (Or.inr (hw _ (List.mem_of_getElem? (i := 97) rfl))) (by decide) (t := .int) (t' := .int) (by decide) (by decide))))
  have E_a0_u5 : Exa Z h2 a0 "com/example/fireweed/fireweed/layout/Java31ByteSalt" := (pf1_0.wr W2)
  obtain ⟨T6, h6, X6, e6, W6, st6⟩ := putF X3 hx hZ1 hown1 (host := "") (Or.inl (hw _ (List.mem_of_getElem? (i := 105) rfl))) Via.refl e3 F_a0_mask_u4 E_a0_u5 (Or.inr ⟨(hw _ (List.mem_of_getElem? (i := 106) rfl)), rfl, hnm⟩) (hw _ (List.mem_of_getElem? (i := 3) rfl)) (ty := .int) (by decide) rfl rfl (g := (mkF m 71 #[.val (.ref a0), .val (.int p1), .val (.ref a2)] [(.int (p1 - (1 : Int32))), (.ref a0)])) rfl rfl (hb hby d7_71)
  have K6 : Keep h0 h6 [a0] := K2.wr W6 (Or.inl (List.mem_of_getElem? (i := 0) rfl))
  have Fw6 := F_a0_mask_u4.same W6
  have Z6 : n0 ≤ h6.size := Nat.le_trans Z2 (Keep.of_wr W6).1
  have N6 := Fr.snoc X6 N3 g_a0
  have E_a0_u8 : Exa Z h6 a0 "com/example/fireweed/fireweed/layout/Java31ByteSalt" := (E_a0_u5.wr W6)
  obtain ⟨cq7, q7, q7'⟩ := E_a0_u8.cell
  obtain ⟨_, _, ⟨T7, L7, k7', n7'⟩, -, X7, ⟨Lc7, hQ7, l7, y7, z7⟩, st7⟩ := X6.privateBack hx (y := (⟨"com/example/fireweed/fireweed/layout/Java31ByteSalt", "saltOf", "(I)B"⟩ : MethodName)) hown1 (mvT hZ1 (hw _ (List.mem_of_getElem? (i := 108) rfl))) (mvT hZ1 (hw _ (List.mem_of_getElem? (i := 109) rfl))) (own_priv (mvT hZ1 (hw _ (List.mem_of_getElem? (i := 3) rfl))) (Cond.privateMethod_at (mvP hZ1 (hw _ (List.mem_of_getElem? (i := 110) rfl)) (args := #[]))) (mvT hZ1 (hw _ (List.mem_of_getElem? (i := 109) rfl))) (by decide)) (Cond.privateMethod_at (mvP hZ1 (hw _ (List.mem_of_getElem? (i := 110) rfl)) (args := #[]))) (mvT hZ1 (hw _ (List.mem_of_getElem? (i := 111) rfl))) (by decide) (backOf (W := 1) (rm18m l Z az hw [] a0 (p1 - (1 : Int32)) h6 n0 Z6 Fw6 hc22) hZ1 (hw _ (List.mem_of_getElem? (i := 111) rfl)) (hw _ (List.mem_of_getElem? (i := 4) rfl)) (by decide) (by decide)) (g := (mkF m 78 #[.val (.ref a0), .val (.int p1), .val (.ref a2)] [(.int (-2147483648 : Int32)), (.ref a0), (.ref a0)])) rfl (by rw [hml]; rfl) (Steps.refl _) (a := a0) (by rw [e6]; exact q7) q7' (argsL := [(.int (-2147483648 : Int32))]) (rest := [(.ref a0)]) (lenOf pd_10 rfl) rfl (by show 2 * 0 + _ ≤ _; exact Nat.le_of_eq rfl) (hb hby d7_78) (fun _ _ => ⟨rfl, e6, (by decide : 3 + 0 ≤ _), (by decide : 29 + 0 ≤ _)⟩)
  dsimp only [Pt.U, Pt.locs, Pt.cells, Pt.slots] at X7 l7 y7 z7 st7 hQ7
  subst l7 y7 z7
  obtain ⟨rfl, N7q, e7⟩ := hQ7
  have N7 := Fr.app N6 N7q
  obtain ⟨_, _, ⟨T9, L9, k9', n9'⟩, -, X9, ⟨Lc9, hQ9, l9, y9, z9⟩, st9⟩ := Jvm.LawKit.callS X7 hx (y := (⟨"java/lang/Byte", "toUnsignedInt", "(B)I"⟩ : MethodName)) hown1 (mvT hZ1 (hw _ (List.mem_of_getElem? (i := 116) rfl))) (mvT hZ1 (hw _ (List.mem_of_getElem? (i := 117) rfl))) (mvT hZ1 (hw _ (List.mem_of_getElem? (i := 118) rfl))) (mvT hZ1 (hw _ (List.mem_of_getElem? (i := 119) rfl))) (by decide) (backOf (W := 1) (rm20 l Z az hw [] (((-2147483648 : Int32) &&& (p1 - (1 : Int32))).toInt8.toInt32) h6 n0 Z6) hZ1 (hw _ (List.mem_of_getElem? (i := 119) rfl)) (hw _ (List.mem_of_getElem? (i := 118) rfl)) (by decide) (by decide)) (g := (mkF m 81 #[.val (.ref a0), .val (.int p1), .val (.ref a2)] [(.int (((-2147483648 : Int32) &&& (p1 - (1 : Int32))).toInt8.toInt32)), (.ref a0)])) rfl (by rw [hml]; rfl) (argsL := [(.int (((-2147483648 : Int32) &&& (p1 - (1 : Int32))).toInt8.toInt32))]) (rest := [(.ref a0)]) (lenOf pd_11 rfl) rfl (by show 2 * 0 + _ ≤ _; exact Nat.le_of_eq rfl) (hb hby d7_81) (fun _ _ => ⟨rfl, e7, (by decide : 3 + 0 ≤ _), (by decide : 29 + 0 ≤ _)⟩)
  dsimp only [Pt.U, Pt.locs, Pt.cells, Pt.slots] at X9 l9 y9 z9 st9 hQ9
  subst l9 y9 z9
  obtain ⟨rfl, N9q, e9⟩ := hQ9
  have N9 := Fr.app N7 N9q
  have F_a0_overflow_u10 : Fld Z h6 a0 "com/example/fireweed/fireweed/layout/Java31ByteSalt" "overflow" "I" (.int (0 : Int32)) := ((pf1_5.other W2 (Or.inr (slot_ne (Or.inr (hw _ (List.mem_of_getElem? (i := 121) rfl))) (Or.inr (hw _ (List.mem_of_getElem? (i := 97) rfl))) (by decide) (t := .int) (t' := .int) (by decide) (by decide)))).other W6 (Or.inr (slot_ne (Or.inr (hw _ (List.mem_of_getElem? (i := 121) rfl))) (Or.inr (hw _ (List.mem_of_getElem? (i := 106) rfl))) (by decide) (t := .int) (t' := .int) (by decide) (by decide))))
  obtain ⟨T11, h11, X11, e11, W11, st11⟩ := putF X9 hx hZ1 hown1 (host := "") (Or.inl (hw _ (List.mem_of_getElem? (i := 120) rfl))) Via.refl e9 F_a0_overflow_u10 E_a0_u8 (Or.inr ⟨(hw _ (List.mem_of_getElem? (i := 121) rfl)), rfl, hnm⟩) (hw _ (List.mem_of_getElem? (i := 3) rfl)) (ty := .int) (by decide) rfl rfl (g := (mkF m 84 #[.val (.ref a0), .val (.int p1), .val (.ref a2)] [(.int ((((-2147483648 : Int32) &&& (p1 - (1 : Int32))).toInt8.toInt32) &&& (255 : Int32))), (.ref a0)])) rfl rfl (hb hby d7_84)
  have K11 : Keep h0 h11 [a0] := K6.wr W11 (Or.inl (List.mem_of_getElem? (i := 0) rfl))
  have Fw11 := F_a0_overflow_u10.same W11
  have Z11 : n0 ≤ h11.size := Nat.le_trans Z6 (Keep.of_wr W11).1
  have N11 := Fr.snoc X11 N9 g_a0
  have E_a0_u12 : Exa Z h11 a0 "com/example/fireweed/fireweed/layout/Java31ByteSalt" := (E_a0_u8.wr W11)
  have F_a0_suffix_u13 : Fld Z h11 a0 "com/example/fireweed/fireweed/layout/Salt" "suffix" "Ljava/lang/String;" (.ref a2) := (((pf1_1.other W2 (Or.inr (slot_ne (Or.inr (hw _ (List.mem_of_getElem? (i := 57) rfl))) (Or.inr (hw _ (List.mem_of_getElem? (i := 97) rfl))) (by decide) (t := (.object "java/lang/String")) (t' := .int) (by decide) (by decide)))).other W6 (Or.inr (slot_ne (Or.inr (hw _ (List.mem_of_getElem? (i := 57) rfl))) (Or.inr (hw _ (List.mem_of_getElem? (i := 106) rfl))) (by decide) (t := (.object "java/lang/String")) (t' := .int) (by decide) (by decide)))).other W11 (Or.inr (slot_ne (Or.inr (hw _ (List.mem_of_getElem? (i := 57) rfl))) (Or.inr (hw _ (List.mem_of_getElem? (i := 121) rfl))) (by decide) (t := (.object "java/lang/String")) (t' := .int) (by decide) (by decide))))
  have F_a0_suffixBytes_u14 : Fld Z h11 a0 "com/example/fireweed/fireweed/layout/Salt" "suffixBytes" "[B" (.ref b1_0) := (((pf1_2.other W2 (Or.inr (slot_ne (Or.inr (hw _ (List.mem_of_getElem? (i := 95) rfl))) (Or.inr (hw _ (List.mem_of_getElem? (i := 97) rfl))) (by decide) (t := (.array .byte)) (t' := .int) (by decide) (by decide)))).other W6 (Or.inr (slot_ne (Or.inr (hw _ (List.mem_of_getElem? (i := 95) rfl))) (Or.inr (hw _ (List.mem_of_getElem? (i := 106) rfl))) (by decide) (t := (.array .byte)) (t' := .int) (by decide) (by decide)))).other W11 (Or.inr (slot_ne (Or.inr (hw _ (List.mem_of_getElem? (i := 95) rfl))) (Or.inr (hw _ (List.mem_of_getElem? (i := 121) rfl))) (by decide) (t := (.array .byte)) (t' := .int) (by decide) (by decide))))
  have F_a0_buckets_u15 : Fld Z h11 a0 "com/example/fireweed/fireweed/layout/Java31ByteSalt" "buckets" "I" (.int p1) := ((Fw2.other W6 (Or.inr (slot_ne (Or.inr (hw _ (List.mem_of_getElem? (i := 97) rfl))) (Or.inr (hw _ (List.mem_of_getElem? (i := 106) rfl))) (by decide) (t := .int) (t' := .int) (by decide) (by decide)))).other W11 (Or.inr (slot_ne (Or.inr (hw _ (List.mem_of_getElem? (i := 97) rfl))) (Or.inr (hw _ (List.mem_of_getElem? (i := 121) rfl))) (by decide) (t := .int) (t' := .int) (by decide) (by decide))))
  have F_a0_mask_u16 : Fld Z h11 a0 "com/example/fireweed/fireweed/layout/Java31ByteSalt" "mask" "I" (.int (p1 - (1 : Int32))) := (Fw6.other W11 (Or.inr (slot_ne (Or.inr (hw _ (List.mem_of_getElem? (i := 106) rfl))) (Or.inr (hw _ (List.mem_of_getElem? (i := 121) rfl))) (by decide) (t := .int) (t' := .int) (by decide) (by decide))))
  have E_b1_0_u17 : Exa Z h11 b1_0 "[B" := (((pf1_6.wr W2).wr W6).wr W11)
  have ne_a0_b1_0 : a0 ≠ b1_0 := own_ne (Nat.lt_of_lt_of_le E_a0.lt s1_0)
  have V_b1_0_u18 : Arv Z h11 b1_0 kB .byte (1 : Int32) [(.int pv)] (.int (0 : Int32)) := (((pf1_7.other W2 (Ne.symm ne_a0_b1_0)).other W6 (Ne.symm ne_a0_b1_0)).other W11 (Ne.symm ne_a0_b1_0))
  obtain ⟨fs, hr, hrun, hended, hWE⟩ := X11.leaveW (s := s) hS1 (by rw [e11]; exact (Nat.le_trans (Nat.le_trans (Nat.le_trans (Nat.le_refl _) (Keep.of_wr W2).1) (Keep.of_wr W6).1) (Keep.of_wr W11).1)) (v := none) (fun _ => rfl)
  refine ⟨_, _, pre0 _ ?_, hrun, hended, _, _, rfl, ?_, hWE.1, hWE.2.1, hWE.2.2.1, hWE.2.2.2.mono (by decide) (by decide)⟩
  · show Steps p.tables e below (s₁.setTop (mkF m 0 #[.val (.ref a0), .val (.int p1), .val (.ref a2)] [])) _
    refine XS.aloadN X0.here hx rfl (hb hby d7_0) rfl rfl ?_
    show Steps p.tables e below (s₁.setTop (mkF m 1 #[.val (.ref a0), .val (.int p1), .val (.ref a2)] [(.ref a0)])) _
    refine XS.aloadN X0.here hx rfl (hb hby d7_1) rfl rfl ?_
    show Steps p.tables e below (s₁.setTop (mkF m 2 #[.val (.ref a0), .val (.int p1), .val (.ref a2)] [(.ref a2), (.ref a0)])) _
    refine st1.trans ?_
    show Steps p.tables e below (T1.setTop (mkF m 5 #[.val (.ref a0), .val (.int p1), .val (.ref a2)] [])) _
    refine XS.iloadN X1.here hx rfl (hb hby d7_5) rfl ?_
    show Steps p.tables e below (T1.setTop (mkF m 6 #[.val (.ref a0), .val (.int p1), .val (.ref a2)] [(.int p1)])) _
    refine XS.iconst X1.here hx rfl (hb hby d7_6) ?_
    show Steps p.tables e below (T1.setTop (mkF m 7 #[.val (.ref a0), .val (.int p1), .val (.ref a2)] [(.int (1 : Int32)), (.int p1)])) _
    refine XS.icmpNo X1.here hx rfl (hb hby d7_7) rfl (flt hc19).1 ?_
    show Steps p.tables e below (T1.setTop (mkF m 10 #[.val (.ref a0), .val (.int p1), .val (.ref a2)] [])) _
    refine XS.iloadN X1.here hx rfl (hb hby d7_10) rfl ?_
    show Steps p.tables e below (T1.setTop (mkF m 11 #[.val (.ref a0), .val (.int p1), .val (.ref a2)] [(.int p1)])) _
    refine XS.sipush X1.here hx rfl (hb hby d7_11) ?_
    show Steps p.tables e below (T1.setTop (mkF m 14 #[.val (.ref a0), .val (.int p1), .val (.ref a2)] [(.int (256 : Int32)), (.int p1)])) _
    refine XS.icmpYes X1.here hx rfl (pc0 := 14) (pc' := 50) rfl (hb hby d7_14) rfl (flt hc20).2.2.2 (by decide) (by decide) ?_
    show Steps p.tables e below (T1.setTop (mkF m 50 #[.val (.ref a0), .val (.int p1), .val (.ref a2)] [])) _
    refine XS.aloadN X1.here hx rfl (hb hby d7_50) rfl rfl ?_
    show Steps p.tables e below (T1.setTop (mkF m 51 #[.val (.ref a0), .val (.int p1), .val (.ref a2)] [(.ref a0)])) _
    refine XS.iloadN X1.here hx rfl (hb hby d7_51) rfl ?_
    show Steps p.tables e below (T1.setTop (mkF m 52 #[.val (.ref a0), .val (.int p1), .val (.ref a2)] [(.int p1), (.ref a0)])) _
    refine st2 _ ?_
    show Steps p.tables e below (T2.setTop (mkF m 55 #[.val (.ref a0), .val (.int p1), .val (.ref a2)] [])) _
    refine XS.aloadN X2.here hx rfl (hb hby d7_55) rfl rfl ?_
    show Steps p.tables e below (T2.setTop (mkF m 56 #[.val (.ref a0), .val (.int p1), .val (.ref a2)] [(.ref a0)])) _
    refine XS.iloadN X2.here hx rfl (hb hby d7_56) rfl ?_
    show Steps p.tables e below (T2.setTop (mkF m 57 #[.val (.ref a0), .val (.int p1), .val (.ref a2)] [(.int p1), (.ref a0)])) _
    refine st3 _ ?_
    show Steps p.tables e below (T3.setTop (mkF m 60 #[.val (.ref a0), .val (.int p1), .val (.ref a2)] [(.int (own_bc p1)), (.ref a0)])) _
    refine XS.iconst X3.here hx rfl (hb hby d7_60) ?_
    show Steps p.tables e below (T3.setTop (mkF m 61 #[.val (.ref a0), .val (.int p1), .val (.ref a2)] [(.int (1 : Int32)), (.int (own_bc p1)), (.ref a0)])) _
    refine XS.icmpNo X3.here hx rfl (hb hby d7_61) rfl (teq hc21).2 ?_
    show Steps p.tables e below (T3.setTop (mkF m 64 #[.val (.ref a0), .val (.int p1), .val (.ref a2)] [(.ref a0)])) _
    refine XS.iloadN X3.here hx rfl (hb hby d7_64) rfl ?_
    show Steps p.tables e below (T3.setTop (mkF m 65 #[.val (.ref a0), .val (.int p1), .val (.ref a2)] [(.int p1), (.ref a0)])) _
    refine XS.iconst X3.here hx rfl (hb hby d7_65) ?_
    show Steps p.tables e below (T3.setTop (mkF m 66 #[.val (.ref a0), .val (.int p1), .val (.ref a2)] [(.int (1 : Int32)), (.int p1), (.ref a0)])) _
    refine XS.isub X3.here hx rfl (hb hby d7_66) rfl ?_
    show Steps p.tables e below (T3.setTop (mkF m 67 #[.val (.ref a0), .val (.int p1), .val (.ref a2)] [(.int (p1 - (1 : Int32))), (.ref a0)])) _
    refine XS.goto X3.here hx rfl (pc0 := 67) (pc' := 71) rfl (hb hby d7_67) (by decide) (by decide) ?_
    show Steps p.tables e below (T3.setTop (mkF m 71 #[.val (.ref a0), .val (.int p1), .val (.ref a2)] [(.int (p1 - (1 : Int32))), (.ref a0)])) _
    refine st6 _ ?_
    show Steps p.tables e below (T6.setTop (mkF m 74 #[.val (.ref a0), .val (.int p1), .val (.ref a2)] [])) _
    refine XS.aloadN X6.here hx rfl (hb hby d7_74) rfl rfl ?_
    show Steps p.tables e below (T6.setTop (mkF m 75 #[.val (.ref a0), .val (.int p1), .val (.ref a2)] [(.ref a0)])) _
    refine XS.aloadN X6.here hx rfl (hb hby d7_75) rfl rfl ?_
    show Steps p.tables e below (T6.setTop (mkF m 76 #[.val (.ref a0), .val (.int p1), .val (.ref a2)] [(.ref a0), (.ref a0)])) _
    refine X6.ldcInt hx hown1 (mvT hZ1 (hw _ (List.mem_of_getElem? (i := 107) rfl))) (g := (mkF m 76 #[.val (.ref a0), .val (.int p1), .val (.ref a2)] [(.ref a0), (.ref a0)])) rfl (hb hby d7_76) _ ?_
    show Steps p.tables e below (T6.setTop (mkF m 78 #[.val (.ref a0), .val (.int p1), .val (.ref a2)] [(.int (-2147483648 : Int32)), (.ref a0), (.ref a0)])) _
    refine st7.trans ?_
    show Steps p.tables e below (T7.setTop (mkF m 81 #[.val (.ref a0), .val (.int p1), .val (.ref a2)] [(.int (((-2147483648 : Int32) &&& (p1 - (1 : Int32))).toInt8.toInt32)), (.ref a0)])) _
    refine st9 _ ?_
    show Steps p.tables e below (T9.setTop (mkF m 84 #[.val (.ref a0), .val (.int p1), .val (.ref a2)] [(.int ((((-2147483648 : Int32) &&& (p1 - (1 : Int32))).toInt8.toInt32) &&& (255 : Int32))), (.ref a0)])) _
    refine st11 _ ?_
    show Steps p.tables e below (T11.setTop (mkF m 87 #[.val (.ref a0), .val (.int p1), .val (.ref a2)] [])) _
    exact X11.returnOut hx Bd.returns (hb hby d7_87) hr
  · show Q7pA Z a0 p1 a2 aB kB pv aU s_COMPACT_STRINGS h0 n0 _ T11.heap _
    rw [e11]
    exact ⟨b1_0, rfl, N11, sz_b1_0, K11, E_a0_u12, F_a0_suffix_u13, F_a0_suffixBytes_u14, F_a0_buckets_u15, F_a0_mask_u16, Fw11, E_b1_0_u17, V_b1_0_u18⟩
theorem d7_70 : decode prog_7_method_1_code 70 = .ok (.iconst (-1), 1) := by decide +kernel
theorem ef_rm7pB (m : MethodId) (a0 : Addr) (p1 : Int32) (a2 : Addr) : entryFrame m #[(.ref a0), (.int p1), (.ref a2)] 3 = mkF m 0 #[.val (.ref a0), .val (.int p1), .val (.ref a2)] [] := by first | (simp [entryFrame, mkF, argsToLocals, Value.category]; done) | rfl
def Q7pB (Z : State) (a0 : Addr) (p1 : Int32) (a2 : Addr) (aB : Addr) (kB : ClassId) (pv : Int32) (aU : Addr) (s_COMPACT_STRINGS : Int32) (h0 : Heap) (n0 : Nat) (v : Option Value) (h : Heap) (L : List Loc) : Prop := ∃ r0 : Addr, v = none ∧ Fr n0 L ∧ h0.size ≤ r0 ∧ Keep h0 h [a0] ∧ Exa Z h a0 "com/example/fireweed/fireweed/layout/Java31ByteSalt" ∧ Fld Z h a0 "com/example/fireweed/fireweed/layout/Salt" "suffix" "Ljava/lang/String;" (.ref a2) ∧ Fld Z h a0 "com/example/fireweed/fireweed/layout/Salt" "suffixBytes" "[B" (.ref r0) ∧ Fld Z h a0 "com/example/fireweed/fireweed/layout/Java31ByteSalt" "buckets" "I" (.int p1) ∧ Fld Z h a0 "com/example/fireweed/fireweed/layout/Java31ByteSalt" "mask" "I" (.int (-1 : Int32)) ∧ Fld Z h a0 "com/example/fireweed/fireweed/layout/Java31ByteSalt" "overflow" "I" (.int ((((-2147483648 : Int32) % p1).toInt8.toInt32) &&& (255 : Int32))) ∧ Exa Z h r0 "[B" ∧ Arv Z h r0 kB .byte (1 : Int32) [(.int pv)] (.int (0 : Int32))
set_option maxRecDepth 65536 in
set_option maxHeartbeats 40000000 in
theorem rm7pB (l : Launch) (Z : State) (az : Array Value) (hw : ∀ d ∈ tables_1, d.before az Z = true) (ws : List Jvm.Cond) (a0 : Addr) (p1 : Int32) (a2 : Addr) (aB : Addr) (kB : ClassId) (pv : Int32) (aU : Addr) (s_COMPACT_STRINGS : Int32) (h0 : Heap) (n0 : Nat) (Z0 : n0 ≤ h0.size) (E_a0 : Exa Z h0 a0 "com/example/fireweed/fireweed/layout/Java31ByteSalt") (F_suffix_a0 : Fld Z h0 a0 "com/example/fireweed/fireweed/layout/Salt" "suffix" "Ljava/lang/String;" .null) (F_suffixBytes_a0 : Fld Z h0 a0 "com/example/fireweed/fireweed/layout/Salt" "suffixBytes" "[B" .null) (F_buckets_a0 : Fld Z h0 a0 "com/example/fireweed/fireweed/layout/Java31ByteSalt" "buckets" "I" (.int (0 : Int32))) (F_mask_a0 : Fld Z h0 a0 "com/example/fireweed/fireweed/layout/Java31ByteSalt" "mask" "I" (.int (0 : Int32))) (F_overflow_a0 : Fld Z h0 a0 "com/example/fireweed/fireweed/layout/Java31ByteSalt" "overflow" "I" (.int (0 : Int32))) (E_a2 : Exa Z h0 a2 "java/lang/String") (F_coder_a2 : Fld Z h0 a2 "java/lang/String" "coder" "B" (.int (0 : Int32))) (F_value_a2 : Fld Z h0 a2 "java/lang/String" "value" "[B" (.ref aB)) (V_aB : Arv Z h0 aB kB .byte (1 : Int32) [(.int pv)] (.int (0 : Int32))) (E_aB : Exa Z h0 aB "[B") (S_INSTANCE : Sta Z h0 "sun/nio/cs/UTF_8" "INSTANCE" "Lsun/nio/cs/UTF_8;" (.ref aU)) (S_UTF_8 : Sta Z h0 "java/nio/charset/StandardCharsets" "UTF_8" "Ljava/nio/charset/Charset;" (.ref aU)) (hc13 : ¬ (pv < (0 : Int32))) (S_COMPACT_STRINGS : Sta Z h0 "java/lang/String" "COMPACT_STRINGS" "Z" (.int s_COMPACT_STRINGS)) (g_a0 : n0 ≤ a0) (hne_a2_a0 : a2 ≠ a0) (hne_aB_a0 : aB ≠ a0) (hc18 : ¬ (s_COMPACT_STRINGS = (0 : Int32))) (hc19 : ¬ (p1 < (1 : Int32))) (hc20 : ¬ ((256 : Int32) < p1)) (hc21 : ¬ ((own_bc p1) = (1 : Int32))) (hc22 : p1 ≠ (0 : Int32)) :
    MetFree l (⟨"com/example/fireweed/fireweed/layout/Java31ByteSalt", "<init>", "(ILjava/lang/String;)V"⟩ : MethodName) (head1 (Jvm.Cond.code (⟨"com/example/fireweed/fireweed/layout/Java31ByteSalt", "<init>", "(ILjava/lang/String;)V"⟩ : MethodName) prog_7_method_1_code 3 none :: ws) ({ frames := 7, cells := 3, slots := 29, locals := 104 } : Room)) (fun a U => a = #[(.ref a0), (.int p1), (.ref a2)] ∧ Z.Warmed39 U.vm ∧ U.heap = h0) (fun _ _ _ _ _ => True) (fun _ U o U' => ∃ v L, o = .returned v ∧ Q7pB Z a0 p1 a2 aB kB pv aU s_COMPACT_STRINGS h0 n0 v U'.heap L ∧ ReturnedEndW U o U' L ({ frames := 7, cells := 3, slots := 29, locals := 104 } : Room).cells ({ frames := 7, cells := 3, slots := 29, locals := 104 } : Room).slots) := by
  refine MetFree.of_bodySF (plainFor_of_name pn_com_example_fireweed_fireweed_layout_Java31ByteSalt) hisR ?_
  intro p e s m args below meth c s₁ Bd hml0 hP hK
  obtain ⟨rfl, hZ, hh⟩ := hP
  have hx := Bd.exec
  have hby := Bd.bytes
  have hml : c.maxLocals = 3 := hml0
  have hown : s.vm.findClass "com/example/fireweed/fireweed/layout/Java31ByteSalt" = some m.cls := findClass_of_methodNamed Bd.named
  have hnm := (name_of_methodNamed Bd.named Bd.method).1
  have X0 : Stand p l e ({ frames := 7, cells := 3, slots := 29, locals := 104 } : Room) s m #[(.ref a0), (.int p1), (.ref a2)] below meth c s₁ [] 0 0 := Stand.of_body Bd
  have e0 : s₁.heap = h0 := by rw [← hh, Bd.state]; rfl
  have N0 := Fr.nil n0
  have pre0 : ∀ t, Steps p.tables e below (s₁.setTop (mkF m 0 #[.val (.ref a0), .val (.int p1), .val (.ref a2)] [])) t → Steps p.tables e below (s₁.setTop (entryFrame m #[(.ref a0), (.int p1), (.ref a2)] 3)) t := fun t k => castTop (ef_rm7pB m a0 p1 a2) k
  have hS0 : s.Since s.vm 0 := (State.WarmedH.refl s).since 0
  have wS : ∀ a ∈ Bundle.stringAtoms, a.before az Z = true := fun d hd => by
    simp only [Bundle.stringAtoms, List.mem_cons, List.not_mem_nil, or_false] at hd
    rcases hd with rfl | rfl | rfl | rfl | rfl | rfl | rfl
    · exact (hw _ (List.mem_of_getElem? (i := 7) rfl))
    · exact (hw _ (List.mem_of_getElem? (i := 6) rfl))
    · exact (hw _ (List.mem_of_getElem? (i := 23) rfl))
    · exact (hw _ (List.mem_of_getElem? (i := 33) rfl))
    · exact (hw _ (List.mem_of_getElem? (i := 31) rfl))
    · exact (hw _ (List.mem_of_getElem? (i := 49) rfl))
    · exact (hw _ (List.mem_of_getElem? (i := 50) rfl))
  obtain ⟨_, _, ⟨T1, L1, k1', n1'⟩, -, Y1, yS1, yg1, ⟨Lc1, hQ1, l1, y1, z1⟩, st1⟩ := X0.specialBackS hx (y := (⟨"com/example/fireweed/fireweed/layout/BucketSalt", "<init>", "(Ljava/lang/String;)V"⟩ : MethodName)) rfl hown (mvT hZ (hw _ (List.mem_of_getElem? (i := 37) rfl))) (mvT hZ (hw _ (List.mem_of_getElem? (i := 38) rfl))) (mvT hZ (hw _ (List.mem_of_getElem? (i := 41) rfl))) (by decide) (backOfS (W := 0) (rm8p l Z az hw [] a0 a2 aB kB pv aU s_COMPACT_STRINGS h0 n0 Z0 E_a0 F_suffix_a0 F_suffixBytes_a0 F_buckets_a0 F_mask_a0 F_overflow_a0 E_a2 F_coder_a2 F_value_a2 V_aB E_aB S_INSTANCE S_UTF_8 hc13 S_COMPACT_STRINGS g_a0 hne_a2_a0 hne_aB_a0 hc18) hZ (hw _ (List.mem_of_getElem? (i := 41) rfl)) (hw _ (List.mem_of_getElem? (i := 40) rfl)) (by decide) (by decide)) (g := (mkF m 2 #[.val (.ref a0), .val (.int p1), .val (.ref a2)] [(.ref a2), (.ref a0)])) rfl (by rw [hml]; rfl) (Steps.refl _) (a := a0) (argsL := [(.ref a2)]) (rest := []) (lenOf pd_7 rfl) rfl (by show 2 * 0 + _ ≤ _; exact Nat.le_of_eq rfl) (hb hby d7_2) (fun _ _ => ⟨rfl, e0, (by decide : 0 + 3 ≤ _), (by decide : 0 + 29 ≤ _)⟩)
  dsimp only [Pt.U, Pt.locs, Pt.cells, Pt.slots] at Y1 yS1 yg1 l1 y1 z1 st1 hQ1
  subst l1 y1 z1
  obtain ⟨X1, hS1, hZ1, hown1⟩ := rebS (s := s) (vm0 := s.vm) hS0 (by rw [e0]; exact (Nat.zero_le _)) Y1 yS1 yg1 hZ hown
  obtain ⟨b1_0, rfl, N1q, s1_0, kq1, pf1_0, pf1_1, pf1_2, pf1_3, pf1_4, pf1_5, pf1_6, pf1_7⟩ := hQ1
  have N1 := Fr.app N0 N1q
  have g_b1_0 : n0 ≤ b1_0 := Nat.le_trans Z0 s1_0
  have sz_b1_0 : h0.size ≤ b1_0 := Nat.le_trans (Nat.le_refl _) s1_0
  have K1 : Keep h0 T1.heap [a0] := (Keep.refl h0 [a0]).trans kq1 (allS (Or.inl (List.mem_of_getElem? (i := 0) rfl)) all0)
  have Z1 : n0 ≤ T1.heap.size := Nat.le_trans Z0 kq1.1
  obtain ⟨T2, h2, X2, e2, W2, st2⟩ := putF X1 hx hZ1 hown1 (host := "") (Or.inl (hw _ (List.mem_of_getElem? (i := 96) rfl))) Via.refl rfl pf1_3 pf1_0 (Or.inr ⟨(hw _ (List.mem_of_getElem? (i := 97) rfl)), rfl, hnm⟩) (hw _ (List.mem_of_getElem? (i := 3) rfl)) (ty := .int) (by decide) rfl rfl (g := (mkF m 52 #[.val (.ref a0), .val (.int p1), .val (.ref a2)] [(.int p1), (.ref a0)])) rfl rfl (hb hby d7_52)
  have K2 : Keep h0 h2 [a0] := K1.wr W2 (Or.inl (List.mem_of_getElem? (i := 0) rfl))
  have Fw2 := pf1_3.same W2
  have Z2 : n0 ≤ h2.size := Nat.le_trans Z1 (Keep.of_wr W2).1
  have N2 := Fr.snoc X2 N1 g_a0
  obtain ⟨_, _, ⟨T3, L3, k3', n3'⟩, -, X3, ⟨Lc3, hQ3, l3, y3, z3⟩, st3⟩ := Jvm.LawKit.callS X2 hx (y := (⟨"java/lang/Integer", "bitCount", "(I)I"⟩ : MethodName)) hown1 (mvT hZ1 (hw _ (List.mem_of_getElem? (i := 98) rfl))) (mvT hZ1 (hw _ (List.mem_of_getElem? (i := 99) rfl))) (mvT hZ1 (hw _ (List.mem_of_getElem? (i := 100) rfl))) (mvT hZ1 (hw _ (List.mem_of_getElem? (i := 101) rfl))) (by decide) (backOf (W := 1) (rm17 l Z az hw [] p1 h2 n0 Z2) hZ1 (hw _ (List.mem_of_getElem? (i := 101) rfl)) (hw _ (List.mem_of_getElem? (i := 100) rfl)) (by decide) (by decide)) (g := (mkF m 57 #[.val (.ref a0), .val (.int p1), .val (.ref a2)] [(.int p1), (.ref a0)])) rfl (by rw [hml]; rfl) (argsL := [(.int p1)]) (rest := [(.ref a0)]) (lenOf pd_8 rfl) rfl (by show 2 * 0 + _ ≤ _; exact Nat.le_of_eq rfl) (hb hby d7_57) (fun _ _ => ⟨rfl, e2, (by decide : 3 + 0 ≤ _), (by decide : 29 + 0 ≤ _)⟩)
  dsimp only [Pt.U, Pt.locs, Pt.cells, Pt.slots] at X3 l3 y3 z3 st3 hQ3
  subst l3 y3 z3
  obtain ⟨rfl, N3q, e3⟩ := hQ3
  have N3 := Fr.app N2 N3q
  have F_a0_mask_u4 : Fld Z h2 a0 "com/example/fireweed/fireweed/layout/Java31ByteSalt" "mask" "I" (.int (0 : Int32)) := (pf1_4.other W2 (Or.inr (slot_ne (Or.inr (hw _ (List.mem_of_getElem? (i := 106) rfl))) (Or.inr (hw _ (List.mem_of_getElem? (i := 97) rfl))) (by decide) (t := .int) (t' := .int) (by decide) (by decide))))
  have E_a0_u5 : Exa Z h2 a0 "com/example/fireweed/fireweed/layout/Java31ByteSalt" := (pf1_0.wr W2)
  obtain ⟨T6, h6, X6, e6, W6, st6⟩ := putF X3 hx hZ1 hown1 (host := "") (Or.inl (hw _ (List.mem_of_getElem? (i := 105) rfl))) Via.refl e3 F_a0_mask_u4 E_a0_u5 (Or.inr ⟨(hw _ (List.mem_of_getElem? (i := 106) rfl)), rfl, hnm⟩) (hw _ (List.mem_of_getElem? (i := 3) rfl)) (ty := .int) (by decide) rfl rfl (g := (mkF m 71 #[.val (.ref a0), .val (.int p1), .val (.ref a2)] [(.int (-1 : Int32)), (.ref a0)])) rfl rfl (hb hby d7_71)
  have K6 : Keep h0 h6 [a0] := K2.wr W6 (Or.inl (List.mem_of_getElem? (i := 0) rfl))
  have Fw6 := F_a0_mask_u4.same W6
  have Z6 : n0 ≤ h6.size := Nat.le_trans Z2 (Keep.of_wr W6).1
  have N6 := Fr.snoc X6 N3 g_a0
  have F_a0_buckets_u8 : Fld Z h6 a0 "com/example/fireweed/fireweed/layout/Java31ByteSalt" "buckets" "I" (.int p1) := (Fw2.other W6 (Or.inr (slot_ne (Or.inr (hw _ (List.mem_of_getElem? (i := 97) rfl))) (Or.inr (hw _ (List.mem_of_getElem? (i := 106) rfl))) (by decide) (t := .int) (t' := .int) (by decide) (by decide))))
  have E_a0_u9 : Exa Z h6 a0 "com/example/fireweed/fireweed/layout/Java31ByteSalt" := (E_a0_u5.wr W6)
  obtain ⟨cq7, q7, q7'⟩ := E_a0_u9.cell
  obtain ⟨_, _, ⟨T7, L7, k7', n7'⟩, -, X7, ⟨Lc7, hQ7, l7, y7, z7⟩, st7⟩ := X6.privateBack hx (y := (⟨"com/example/fireweed/fireweed/layout/Java31ByteSalt", "saltOf", "(I)B"⟩ : MethodName)) hown1 (mvT hZ1 (hw _ (List.mem_of_getElem? (i := 108) rfl))) (mvT hZ1 (hw _ (List.mem_of_getElem? (i := 109) rfl))) (own_priv (mvT hZ1 (hw _ (List.mem_of_getElem? (i := 3) rfl))) (Cond.privateMethod_at (mvP hZ1 (hw _ (List.mem_of_getElem? (i := 110) rfl)) (args := #[]))) (mvT hZ1 (hw _ (List.mem_of_getElem? (i := 109) rfl))) (by decide)) (Cond.privateMethod_at (mvP hZ1 (hw _ (List.mem_of_getElem? (i := 110) rfl)) (args := #[]))) (mvT hZ1 (hw _ (List.mem_of_getElem? (i := 111) rfl))) (by decide) (backOf (W := 1) (rm18b l Z az hw [] a0 p1 h6 n0 Z6 Fw6 F_a0_buckets_u8 hc22) hZ1 (hw _ (List.mem_of_getElem? (i := 111) rfl)) (hw _ (List.mem_of_getElem? (i := 4) rfl)) (by decide) (by decide)) (g := (mkF m 78 #[.val (.ref a0), .val (.int p1), .val (.ref a2)] [(.int (-2147483648 : Int32)), (.ref a0), (.ref a0)])) rfl (by rw [hml]; rfl) (Steps.refl _) (a := a0) (by rw [e6]; exact q7) q7' (argsL := [(.int (-2147483648 : Int32))]) (rest := [(.ref a0)]) (lenOf pd_10 rfl) rfl (by show 2 * 0 + _ ≤ _; exact Nat.le_of_eq rfl) (hb hby d7_78) (fun _ _ => ⟨rfl, e6, (by decide : 3 + 0 ≤ _), (by decide : 29 + 0 ≤ _)⟩)
  dsimp only [Pt.U, Pt.locs, Pt.cells, Pt.slots] at X7 l7 y7 z7 st7 hQ7
  subst l7 y7 z7
  obtain ⟨rfl, N7q, e7⟩ := hQ7
  have N7 := Fr.app N6 N7q
  obtain ⟨_, _, ⟨T10, L10, k10', n10'⟩, -, X10, ⟨Lc10, hQ10, l10, y10, z10⟩, st10⟩ := Jvm.LawKit.callS X7 hx (y := (⟨"java/lang/Byte", "toUnsignedInt", "(B)I"⟩ : MethodName)) hown1 (mvT hZ1 (hw _ (List.mem_of_getElem? (i := 116) rfl))) (mvT hZ1 (hw _ (List.mem_of_getElem? (i := 117) rfl))) (mvT hZ1 (hw _ (List.mem_of_getElem? (i := 118) rfl))) (mvT hZ1 (hw _ (List.mem_of_getElem? (i := 119) rfl))) (by decide) (backOf (W := 1) (rm20 l Z az hw [] (((-2147483648 : Int32) % p1).toInt8.toInt32) h6 n0 Z6) hZ1 (hw _ (List.mem_of_getElem? (i := 119) rfl)) (hw _ (List.mem_of_getElem? (i := 118) rfl)) (by decide) (by decide)) (g := (mkF m 81 #[.val (.ref a0), .val (.int p1), .val (.ref a2)] [(.int (((-2147483648 : Int32) % p1).toInt8.toInt32)), (.ref a0)])) rfl (by rw [hml]; rfl) (argsL := [(.int (((-2147483648 : Int32) % p1).toInt8.toInt32))]) (rest := [(.ref a0)]) (lenOf pd_11 rfl) rfl (by show 2 * 0 + _ ≤ _; exact Nat.le_of_eq rfl) (hb hby d7_81) (fun _ _ => ⟨rfl, e7, (by decide : 3 + 0 ≤ _), (by decide : 29 + 0 ≤ _)⟩)
  dsimp only [Pt.U, Pt.locs, Pt.cells, Pt.slots] at X10 l10 y10 z10 st10 hQ10
  subst l10 y10 z10
  obtain ⟨rfl, N10q, e10⟩ := hQ10
  have N10 := Fr.app N7 N10q
  have F_a0_overflow_u11 : Fld Z h6 a0 "com/example/fireweed/fireweed/layout/Java31ByteSalt" "overflow" "I" (.int (0 : Int32)) := ((pf1_5.other W2 (Or.inr (slot_ne (Or.inr (hw _ (List.mem_of_getElem? (i := 121) rfl))) (Or.inr (hw _ (List.mem_of_getElem? (i := 97) rfl))) (by decide) (t := .int) (t' := .int) (by decide) (by decide)))).other W6 (Or.inr (slot_ne (Or.inr (hw _ (List.mem_of_getElem? (i := 121) rfl))) (Or.inr (hw _ (List.mem_of_getElem? (i := 106) rfl))) (by decide) (t := .int) (t' := .int) (by decide) (by decide))))
  obtain ⟨T12, h12, X12, e12, W12, st12⟩ := putF X10 hx hZ1 hown1 (host := "") (Or.inl (hw _ (List.mem_of_getElem? (i := 120) rfl))) Via.refl e10 F_a0_overflow_u11 E_a0_u9 (Or.inr ⟨(hw _ (List.mem_of_getElem? (i := 121) rfl)), rfl, hnm⟩) (hw _ (List.mem_of_getElem? (i := 3) rfl)) (ty := .int) (by decide) rfl rfl (g := (mkF m 84 #[.val (.ref a0), .val (.int p1), .val (.ref a2)] [(.int ((((-2147483648 : Int32) % p1).toInt8.toInt32) &&& (255 : Int32))), (.ref a0)])) rfl rfl (hb hby d7_84)
  have K12 : Keep h0 h12 [a0] := K6.wr W12 (Or.inl (List.mem_of_getElem? (i := 0) rfl))
  have Fw12 := F_a0_overflow_u11.same W12
  have Z12 : n0 ≤ h12.size := Nat.le_trans Z6 (Keep.of_wr W12).1
  have N12 := Fr.snoc X12 N10 g_a0
  have E_a0_u13 : Exa Z h12 a0 "com/example/fireweed/fireweed/layout/Java31ByteSalt" := (E_a0_u9.wr W12)
  have F_a0_suffix_u14 : Fld Z h12 a0 "com/example/fireweed/fireweed/layout/Salt" "suffix" "Ljava/lang/String;" (.ref a2) := (((pf1_1.other W2 (Or.inr (slot_ne (Or.inr (hw _ (List.mem_of_getElem? (i := 57) rfl))) (Or.inr (hw _ (List.mem_of_getElem? (i := 97) rfl))) (by decide) (t := (.object "java/lang/String")) (t' := .int) (by decide) (by decide)))).other W6 (Or.inr (slot_ne (Or.inr (hw _ (List.mem_of_getElem? (i := 57) rfl))) (Or.inr (hw _ (List.mem_of_getElem? (i := 106) rfl))) (by decide) (t := (.object "java/lang/String")) (t' := .int) (by decide) (by decide)))).other W12 (Or.inr (slot_ne (Or.inr (hw _ (List.mem_of_getElem? (i := 57) rfl))) (Or.inr (hw _ (List.mem_of_getElem? (i := 121) rfl))) (by decide) (t := (.object "java/lang/String")) (t' := .int) (by decide) (by decide))))
  have F_a0_suffixBytes_u15 : Fld Z h12 a0 "com/example/fireweed/fireweed/layout/Salt" "suffixBytes" "[B" (.ref b1_0) := (((pf1_2.other W2 (Or.inr (slot_ne (Or.inr (hw _ (List.mem_of_getElem? (i := 95) rfl))) (Or.inr (hw _ (List.mem_of_getElem? (i := 97) rfl))) (by decide) (t := (.array .byte)) (t' := .int) (by decide) (by decide)))).other W6 (Or.inr (slot_ne (Or.inr (hw _ (List.mem_of_getElem? (i := 95) rfl))) (Or.inr (hw _ (List.mem_of_getElem? (i := 106) rfl))) (by decide) (t := (.array .byte)) (t' := .int) (by decide) (by decide)))).other W12 (Or.inr (slot_ne (Or.inr (hw _ (List.mem_of_getElem? (i := 95) rfl))) (Or.inr (hw _ (List.mem_of_getElem? (i := 121) rfl))) (by decide) (t := (.array .byte)) (t' := .int) (by decide) (by decide))))
  have F_a0_buckets_u16 : Fld Z h12 a0 "com/example/fireweed/fireweed/layout/Java31ByteSalt" "buckets" "I" (.int p1) := (F_a0_buckets_u8.other W12 (Or.inr (slot_ne (Or.inr (hw _ (List.mem_of_getElem? (i := 97) rfl))) (Or.inr (hw _ (List.mem_of_getElem? (i := 121) rfl))) (by decide) (t := .int) (t' := .int) (by decide) (by decide))))
  have F_a0_mask_u17 : Fld Z h12 a0 "com/example/fireweed/fireweed/layout/Java31ByteSalt" "mask" "I" (.int (-1 : Int32)) := (Fw6.other W12 (Or.inr (slot_ne (Or.inr (hw _ (List.mem_of_getElem? (i := 106) rfl))) (Or.inr (hw _ (List.mem_of_getElem? (i := 121) rfl))) (by decide) (t := .int) (t' := .int) (by decide) (by decide))))
  have E_b1_0_u18 : Exa Z h12 b1_0 "[B" := (((pf1_6.wr W2).wr W6).wr W12)
  have ne_a0_b1_0 : a0 ≠ b1_0 := own_ne (Nat.lt_of_lt_of_le E_a0.lt s1_0)
  have V_b1_0_u19 : Arv Z h12 b1_0 kB .byte (1 : Int32) [(.int pv)] (.int (0 : Int32)) := (((pf1_7.other W2 (Ne.symm ne_a0_b1_0)).other W6 (Ne.symm ne_a0_b1_0)).other W12 (Ne.symm ne_a0_b1_0))
  obtain ⟨fs, hr, hrun, hended, hWE⟩ := X12.leaveW (s := s) hS1 (by rw [e12]; exact (Nat.le_trans (Nat.le_trans (Nat.le_trans (Nat.le_refl _) (Keep.of_wr W2).1) (Keep.of_wr W6).1) (Keep.of_wr W12).1)) (v := none) (fun _ => rfl)
  refine ⟨_, _, pre0 _ ?_, hrun, hended, _, _, rfl, ?_, hWE.1, hWE.2.1, hWE.2.2.1, hWE.2.2.2.mono (by decide) (by decide)⟩
  · show Steps p.tables e below (s₁.setTop (mkF m 0 #[.val (.ref a0), .val (.int p1), .val (.ref a2)] [])) _
    refine XS.aloadN X0.here hx rfl (hb hby d7_0) rfl rfl ?_
    show Steps p.tables e below (s₁.setTop (mkF m 1 #[.val (.ref a0), .val (.int p1), .val (.ref a2)] [(.ref a0)])) _
    refine XS.aloadN X0.here hx rfl (hb hby d7_1) rfl rfl ?_
    show Steps p.tables e below (s₁.setTop (mkF m 2 #[.val (.ref a0), .val (.int p1), .val (.ref a2)] [(.ref a2), (.ref a0)])) _
    refine st1.trans ?_
    show Steps p.tables e below (T1.setTop (mkF m 5 #[.val (.ref a0), .val (.int p1), .val (.ref a2)] [])) _
    refine XS.iloadN X1.here hx rfl (hb hby d7_5) rfl ?_
    show Steps p.tables e below (T1.setTop (mkF m 6 #[.val (.ref a0), .val (.int p1), .val (.ref a2)] [(.int p1)])) _
    refine XS.iconst X1.here hx rfl (hb hby d7_6) ?_
    show Steps p.tables e below (T1.setTop (mkF m 7 #[.val (.ref a0), .val (.int p1), .val (.ref a2)] [(.int (1 : Int32)), (.int p1)])) _
    refine XS.icmpNo X1.here hx rfl (hb hby d7_7) rfl (flt hc19).1 ?_
    show Steps p.tables e below (T1.setTop (mkF m 10 #[.val (.ref a0), .val (.int p1), .val (.ref a2)] [])) _
    refine XS.iloadN X1.here hx rfl (hb hby d7_10) rfl ?_
    show Steps p.tables e below (T1.setTop (mkF m 11 #[.val (.ref a0), .val (.int p1), .val (.ref a2)] [(.int p1)])) _
    refine XS.sipush X1.here hx rfl (hb hby d7_11) ?_
    show Steps p.tables e below (T1.setTop (mkF m 14 #[.val (.ref a0), .val (.int p1), .val (.ref a2)] [(.int (256 : Int32)), (.int p1)])) _
    refine XS.icmpYes X1.here hx rfl (pc0 := 14) (pc' := 50) rfl (hb hby d7_14) rfl (flt hc20).2.2.2 (by decide) (by decide) ?_
    show Steps p.tables e below (T1.setTop (mkF m 50 #[.val (.ref a0), .val (.int p1), .val (.ref a2)] [])) _
    refine XS.aloadN X1.here hx rfl (hb hby d7_50) rfl rfl ?_
    show Steps p.tables e below (T1.setTop (mkF m 51 #[.val (.ref a0), .val (.int p1), .val (.ref a2)] [(.ref a0)])) _
    refine XS.iloadN X1.here hx rfl (hb hby d7_51) rfl ?_
    show Steps p.tables e below (T1.setTop (mkF m 52 #[.val (.ref a0), .val (.int p1), .val (.ref a2)] [(.int p1), (.ref a0)])) _
    refine st2 _ ?_
    show Steps p.tables e below (T2.setTop (mkF m 55 #[.val (.ref a0), .val (.int p1), .val (.ref a2)] [])) _
    refine XS.aloadN X2.here hx rfl (hb hby d7_55) rfl rfl ?_
    show Steps p.tables e below (T2.setTop (mkF m 56 #[.val (.ref a0), .val (.int p1), .val (.ref a2)] [(.ref a0)])) _
    refine XS.iloadN X2.here hx rfl (hb hby d7_56) rfl ?_
    show Steps p.tables e below (T2.setTop (mkF m 57 #[.val (.ref a0), .val (.int p1), .val (.ref a2)] [(.int p1), (.ref a0)])) _
    refine st3 _ ?_
    show Steps p.tables e below (T3.setTop (mkF m 60 #[.val (.ref a0), .val (.int p1), .val (.ref a2)] [(.int (own_bc p1)), (.ref a0)])) _
    refine XS.iconst X3.here hx rfl (hb hby d7_60) ?_
    show Steps p.tables e below (T3.setTop (mkF m 61 #[.val (.ref a0), .val (.int p1), .val (.ref a2)] [(.int (1 : Int32)), (.int (own_bc p1)), (.ref a0)])) _
    refine XS.icmpYes X3.here hx rfl (pc0 := 61) (pc' := 70) rfl (hb hby d7_61) rfl (feq hc21).2 (by decide) (by decide) ?_
    show Steps p.tables e below (T3.setTop (mkF m 70 #[.val (.ref a0), .val (.int p1), .val (.ref a2)] [(.ref a0)])) _
    refine XS.iconst X3.here hx rfl (hb hby d7_70) ?_
    show Steps p.tables e below (T3.setTop (mkF m 71 #[.val (.ref a0), .val (.int p1), .val (.ref a2)] [(.int (-1 : Int32)), (.ref a0)])) _
    refine st6 _ ?_
    show Steps p.tables e below (T6.setTop (mkF m 74 #[.val (.ref a0), .val (.int p1), .val (.ref a2)] [])) _
    refine XS.aloadN X6.here hx rfl (hb hby d7_74) rfl rfl ?_
    show Steps p.tables e below (T6.setTop (mkF m 75 #[.val (.ref a0), .val (.int p1), .val (.ref a2)] [(.ref a0)])) _
    refine XS.aloadN X6.here hx rfl (hb hby d7_75) rfl rfl ?_
    show Steps p.tables e below (T6.setTop (mkF m 76 #[.val (.ref a0), .val (.int p1), .val (.ref a2)] [(.ref a0), (.ref a0)])) _
    refine X6.ldcInt hx hown1 (mvT hZ1 (hw _ (List.mem_of_getElem? (i := 107) rfl))) (g := (mkF m 76 #[.val (.ref a0), .val (.int p1), .val (.ref a2)] [(.ref a0), (.ref a0)])) rfl (hb hby d7_76) _ ?_
    show Steps p.tables e below (T6.setTop (mkF m 78 #[.val (.ref a0), .val (.int p1), .val (.ref a2)] [(.int (-2147483648 : Int32)), (.ref a0), (.ref a0)])) _
    refine st7.trans ?_
    show Steps p.tables e below (T7.setTop (mkF m 81 #[.val (.ref a0), .val (.int p1), .val (.ref a2)] [(.int (((-2147483648 : Int32) % p1).toInt8.toInt32)), (.ref a0)])) _
    refine st10 _ ?_
    show Steps p.tables e below (T10.setTop (mkF m 84 #[.val (.ref a0), .val (.int p1), .val (.ref a2)] [(.int ((((-2147483648 : Int32) % p1).toInt8.toInt32) &&& (255 : Int32))), (.ref a0)])) _
    refine st12 _ ?_
    show Steps p.tables e below (T12.setTop (mkF m 87 #[.val (.ref a0), .val (.int p1), .val (.ref a2)] [])) _
    exact X12.returnOut hx Bd.returns (hb hby d7_87) hr
  · show Q7pB Z a0 p1 a2 aB kB pv aU s_COMPACT_STRINGS h0 n0 _ T12.heap _
    rw [e12]
    exact ⟨b1_0, rfl, N12, sz_b1_0, K12, E_a0_u13, F_a0_suffix_u14, F_a0_suffixBytes_u15, F_a0_buckets_u16, F_a0_mask_u17, Fw12, E_b1_0_u18, V_b1_0_u19⟩
theorem ef_rm7nA (m : MethodId) (a0 : Addr) (p1 : Int32) (a2 : Addr) : entryFrame m #[(.ref a0), (.int p1), (.ref a2)] 3 = mkF m 0 #[.val (.ref a0), .val (.int p1), .val (.ref a2)] [] := by first | (simp [entryFrame, mkF, argsToLocals, Value.category]; done) | rfl
def Q7nA (Z : State) (a0 : Addr) (p1 : Int32) (a2 : Addr) (aB : Addr) (kB : ClassId) (pv : Int32) (aU : Addr) (s_COMPACT_STRINGS : Int32) (h0 : Heap) (n0 : Nat) (v : Option Value) (h : Heap) (L : List Loc) : Prop := ∃ r0 : Addr, ∃ rk0 : ClassId, v = none ∧ Fr n0 L ∧ h0.size ≤ r0 ∧ Keep h0 h [a0] ∧ Exa Z h a0 "com/example/fireweed/fireweed/layout/Java31ByteSalt" ∧ Fld Z h a0 "com/example/fireweed/fireweed/layout/Salt" "suffix" "Ljava/lang/String;" (.ref a2) ∧ Fld Z h a0 "com/example/fireweed/fireweed/layout/Salt" "suffixBytes" "[B" (.ref r0) ∧ Fld Z h a0 "com/example/fireweed/fireweed/layout/Java31ByteSalt" "buckets" "I" (.int p1) ∧ Fld Z h a0 "com/example/fireweed/fireweed/layout/Java31ByteSalt" "mask" "I" (.int (p1 - (1 : Int32))) ∧ Fld Z h a0 "com/example/fireweed/fireweed/layout/Java31ByteSalt" "overflow" "I" (.int ((((-2147483648 : Int32) &&& (p1 - (1 : Int32))).toInt8.toInt32) &&& (255 : Int32))) ∧ Exa Z h r0 "[B" ∧ Arv Z h r0 rk0 .byte (2 : Int32) [(.int (((192 : Int32) ||| ((pv &&& (255 : Int32)) >>> ((6 : Int32) &&& 31))).toInt8.toInt32)), (.int (((128 : Int32) ||| (pv &&& (63 : Int32))).toInt8.toInt32))] (.int (0 : Int32))
set_option maxRecDepth 65536 in
set_option maxHeartbeats 40000000 in
theorem rm7nA (l : Launch) (Z : State) (az : Array Value) (hw : ∀ d ∈ tables_1, d.before az Z = true) (ws : List Jvm.Cond) (a0 : Addr) (p1 : Int32) (a2 : Addr) (aB : Addr) (kB : ClassId) (pv : Int32) (aU : Addr) (s_COMPACT_STRINGS : Int32) (h0 : Heap) (n0 : Nat) (Z0 : n0 ≤ h0.size) (E_a0 : Exa Z h0 a0 "com/example/fireweed/fireweed/layout/Java31ByteSalt") (F_suffix_a0 : Fld Z h0 a0 "com/example/fireweed/fireweed/layout/Salt" "suffix" "Ljava/lang/String;" .null) (F_suffixBytes_a0 : Fld Z h0 a0 "com/example/fireweed/fireweed/layout/Salt" "suffixBytes" "[B" .null) (F_buckets_a0 : Fld Z h0 a0 "com/example/fireweed/fireweed/layout/Java31ByteSalt" "buckets" "I" (.int (0 : Int32))) (F_mask_a0 : Fld Z h0 a0 "com/example/fireweed/fireweed/layout/Java31ByteSalt" "mask" "I" (.int (0 : Int32))) (F_overflow_a0 : Fld Z h0 a0 "com/example/fireweed/fireweed/layout/Java31ByteSalt" "overflow" "I" (.int (0 : Int32))) (E_a2 : Exa Z h0 a2 "java/lang/String") (F_coder_a2 : Fld Z h0 a2 "java/lang/String" "coder" "B" (.int (0 : Int32))) (F_value_a2 : Fld Z h0 a2 "java/lang/String" "value" "[B" (.ref aB)) (V_aB : Arv Z h0 aB kB .byte (1 : Int32) [(.int pv)] (.int (0 : Int32))) (E_aB : Exa Z h0 aB "[B") (S_INSTANCE : Sta Z h0 "sun/nio/cs/UTF_8" "INSTANCE" "Lsun/nio/cs/UTF_8;" (.ref aU)) (S_UTF_8 : Sta Z h0 "java/nio/charset/StandardCharsets" "UTF_8" "Ljava/nio/charset/Charset;" (.ref aU)) (hc13 : pv < (0 : Int32)) (S_COMPACT_STRINGS : Sta Z h0 "java/lang/String" "COMPACT_STRINGS" "Z" (.int s_COMPACT_STRINGS)) (g_a0 : n0 ≤ a0) (hne_a2_a0 : a2 ≠ a0) (hne_aB_a0 : aB ≠ a0) (hc18 : ¬ (s_COMPACT_STRINGS = (0 : Int32))) (hc19 : ¬ (p1 < (1 : Int32))) (hc20 : ¬ ((256 : Int32) < p1)) (hc21 : (own_bc p1) = (1 : Int32)) (hc22 : ¬ ((p1 - (1 : Int32)) < (0 : Int32))) :
    MetFree l (⟨"com/example/fireweed/fireweed/layout/Java31ByteSalt", "<init>", "(ILjava/lang/String;)V"⟩ : MethodName) (head1 (Jvm.Cond.code (⟨"com/example/fireweed/fireweed/layout/Java31ByteSalt", "<init>", "(ILjava/lang/String;)V"⟩ : MethodName) prog_7_method_1_code 3 none :: ws) ({ frames := 7, cells := 3, slots := 30, locals := 104 } : Room)) (fun a U => a = #[(.ref a0), (.int p1), (.ref a2)] ∧ Z.Warmed39 U.vm ∧ U.heap = h0) (fun _ _ _ _ _ => True) (fun _ U o U' => ∃ v L, o = .returned v ∧ Q7nA Z a0 p1 a2 aB kB pv aU s_COMPACT_STRINGS h0 n0 v U'.heap L ∧ ReturnedEndW U o U' L ({ frames := 7, cells := 3, slots := 30, locals := 104 } : Room).cells ({ frames := 7, cells := 3, slots := 30, locals := 104 } : Room).slots) := by
  refine MetFree.of_bodySF (plainFor_of_name pn_com_example_fireweed_fireweed_layout_Java31ByteSalt) hisR ?_
  intro p e s m args below meth c s₁ Bd hml0 hP hK
  obtain ⟨rfl, hZ, hh⟩ := hP
  have hx := Bd.exec
  have hby := Bd.bytes
  have hml : c.maxLocals = 3 := hml0
  have hown : s.vm.findClass "com/example/fireweed/fireweed/layout/Java31ByteSalt" = some m.cls := findClass_of_methodNamed Bd.named
  have hnm := (name_of_methodNamed Bd.named Bd.method).1
  have X0 : Stand p l e ({ frames := 7, cells := 3, slots := 30, locals := 104 } : Room) s m #[(.ref a0), (.int p1), (.ref a2)] below meth c s₁ [] 0 0 := Stand.of_body Bd
  have e0 : s₁.heap = h0 := by rw [← hh, Bd.state]; rfl
  have N0 := Fr.nil n0
  have pre0 : ∀ t, Steps p.tables e below (s₁.setTop (mkF m 0 #[.val (.ref a0), .val (.int p1), .val (.ref a2)] [])) t → Steps p.tables e below (s₁.setTop (entryFrame m #[(.ref a0), (.int p1), (.ref a2)] 3)) t := fun t k => castTop (ef_rm7nA m a0 p1 a2) k
  have hS0 : s.Since s.vm 0 := (State.WarmedH.refl s).since 0
  have wS : ∀ a ∈ Bundle.stringAtoms, a.before az Z = true := fun d hd => by
    simp only [Bundle.stringAtoms, List.mem_cons, List.not_mem_nil, or_false] at hd
    rcases hd with rfl | rfl | rfl | rfl | rfl | rfl | rfl
    · exact (hw _ (List.mem_of_getElem? (i := 7) rfl))
    · exact (hw _ (List.mem_of_getElem? (i := 6) rfl))
    · exact (hw _ (List.mem_of_getElem? (i := 23) rfl))
    · exact (hw _ (List.mem_of_getElem? (i := 33) rfl))
    · exact (hw _ (List.mem_of_getElem? (i := 31) rfl))
    · exact (hw _ (List.mem_of_getElem? (i := 49) rfl))
    · exact (hw _ (List.mem_of_getElem? (i := 50) rfl))
  obtain ⟨_, _, ⟨T1, L1, k1', n1'⟩, -, Y1, yS1, yg1, ⟨Lc1, hQ1, l1, y1, z1⟩, st1⟩ := X0.specialBackS hx (y := (⟨"com/example/fireweed/fireweed/layout/BucketSalt", "<init>", "(Ljava/lang/String;)V"⟩ : MethodName)) rfl hown (mvT hZ (hw _ (List.mem_of_getElem? (i := 37) rfl))) (mvT hZ (hw _ (List.mem_of_getElem? (i := 38) rfl))) (mvT hZ (hw _ (List.mem_of_getElem? (i := 41) rfl))) (by decide) (backOfS (W := 0) (rm8n l Z az hw [] a0 a2 aB kB pv aU s_COMPACT_STRINGS h0 n0 Z0 E_a0 F_suffix_a0 F_suffixBytes_a0 F_buckets_a0 F_mask_a0 F_overflow_a0 E_a2 F_coder_a2 F_value_a2 V_aB E_aB S_INSTANCE S_UTF_8 hc13 S_COMPACT_STRINGS g_a0 hne_a2_a0 hne_aB_a0 hc18) hZ (hw _ (List.mem_of_getElem? (i := 41) rfl)) (hw _ (List.mem_of_getElem? (i := 40) rfl)) (by decide) (by decide)) (g := (mkF m 2 #[.val (.ref a0), .val (.int p1), .val (.ref a2)] [(.ref a2), (.ref a0)])) rfl (by rw [hml]; rfl) (Steps.refl _) (a := a0) (argsL := [(.ref a2)]) (rest := []) (lenOf pd_7 rfl) rfl (by show 2 * 0 + _ ≤ _; exact Nat.le_of_eq rfl) (hb hby d7_2) (fun _ _ => ⟨rfl, e0, (by decide : 0 + 3 ≤ _), (by decide : 0 + 30 ≤ _)⟩)
  dsimp only [Pt.U, Pt.locs, Pt.cells, Pt.slots] at Y1 yS1 yg1 l1 y1 z1 st1 hQ1
  subst l1 y1 z1
  obtain ⟨X1, hS1, hZ1, hown1⟩ := rebS (s := s) (vm0 := s.vm) hS0 (by rw [e0]; exact (Nat.zero_le _)) Y1 yS1 yg1 hZ hown
  obtain ⟨b1_0, kk1_0, rfl, N1q, s1_0, kq1, pf1_0, pf1_1, pf1_2, pf1_3, pf1_4, pf1_5, pf1_6, pf1_7⟩ := hQ1
  have N1 := Fr.app N0 N1q
  have g_b1_0 : n0 ≤ b1_0 := Nat.le_trans Z0 s1_0
  have sz_b1_0 : h0.size ≤ b1_0 := Nat.le_trans (Nat.le_refl _) s1_0
  have K1 : Keep h0 T1.heap [a0] := (Keep.refl h0 [a0]).trans kq1 (allS (Or.inl (List.mem_of_getElem? (i := 0) rfl)) all0)
  have Z1 : n0 ≤ T1.heap.size := Nat.le_trans Z0 kq1.1
  obtain ⟨T2, h2, X2, e2, W2, st2⟩ := putF X1 hx hZ1 hown1 (host := "") (Or.inl (hw _ (List.mem_of_getElem? (i := 96) rfl))) Via.refl rfl pf1_3 pf1_0 (Or.inr ⟨(hw _ (List.mem_of_getElem? (i := 97) rfl)), rfl, hnm⟩) (hw _ (List.mem_of_getElem? (i := 3) rfl)) (ty := .int) (by decide) rfl rfl (g := (mkF m 52 #[.val (.ref a0), .val (.int p1), .val (.ref a2)] [(.int p1), (.ref a0)])) rfl rfl (hb hby d7_52)
  have K2 : Keep h0 h2 [a0] := K1.wr W2 (Or.inl (List.mem_of_getElem? (i := 0) rfl))
  have Fw2 := pf1_3.same W2
  have Z2 : n0 ≤ h2.size := Nat.le_trans Z1 (Keep.of_wr W2).1
  have N2 := Fr.snoc X2 N1 g_a0
  obtain ⟨_, _, ⟨T3, L3, k3', n3'⟩, -, X3, ⟨Lc3, hQ3, l3, y3, z3⟩, st3⟩ := Jvm.LawKit.callS X2 hx (y := (⟨"java/lang/Integer", "bitCount", "(I)I"⟩ : MethodName)) hown1 (mvT hZ1 (hw _ (List.mem_of_getElem? (i := 98) rfl))) (mvT hZ1 (hw _ (List.mem_of_getElem? (i := 99) rfl))) (mvT hZ1 (hw _ (List.mem_of_getElem? (i := 100) rfl))) (mvT hZ1 (hw _ (List.mem_of_getElem? (i := 101) rfl))) (by decide) (backOf (W := 1) (rm17 l Z az hw [] p1 h2 n0 Z2) hZ1 (hw _ (List.mem_of_getElem? (i := 101) rfl)) (hw _ (List.mem_of_getElem? (i := 100) rfl)) (by decide) (by decide)) (g := (mkF m 57 #[.val (.ref a0), .val (.int p1), .val (.ref a2)] [(.int p1), (.ref a0)])) rfl (by rw [hml]; rfl) (argsL := [(.int p1)]) (rest := [(.ref a0)]) (lenOf pd_8 rfl) rfl (by show 2 * 0 + _ ≤ _; exact Nat.le_of_eq rfl) (hb hby d7_57) (fun _ _ => ⟨rfl, e2, (by decide : 3 + 0 ≤ _), (by decide : 30 + 0 ≤ _)⟩)
  dsimp only [Pt.U, Pt.locs, Pt.cells, Pt.slots] at X3 l3 y3 z3 st3 hQ3
  subst l3 y3 z3
  obtain ⟨rfl, N3q, e3⟩ := hQ3
  have N3 := Fr.app N2 N3q
  have F_a0_mask_u4 : Fld Z h2 a0 "com/example/fireweed/fireweed/layout/Java31ByteSalt" "mask" "I" (.int (0 : Int32)) := (pf1_4.other W2 (Or.inr (slot_ne (Or.inr (hw _ (List.mem_of_getElem? (i := 106) rfl))) (Or.inr (hw _ (List.mem_of_getElem? (i := 97) rfl))) (by decide) (t := .int) (t' := .int) (by decide) (by decide))))
  have E_a0_u5 : Exa Z h2 a0 "com/example/fireweed/fireweed/layout/Java31ByteSalt" := (pf1_0.wr W2)
  obtain ⟨T6, h6, X6, e6, W6, st6⟩ := putF X3 hx hZ1 hown1 (host := "") (Or.inl (hw _ (List.mem_of_getElem? (i := 105) rfl))) Via.refl e3 F_a0_mask_u4 E_a0_u5 (Or.inr ⟨(hw _ (List.mem_of_getElem? (i := 106) rfl)), rfl, hnm⟩) (hw _ (List.mem_of_getElem? (i := 3) rfl)) (ty := .int) (by decide) rfl rfl (g := (mkF m 71 #[.val (.ref a0), .val (.int p1), .val (.ref a2)] [(.int (p1 - (1 : Int32))), (.ref a0)])) rfl rfl (hb hby d7_71)
  have K6 : Keep h0 h6 [a0] := K2.wr W6 (Or.inl (List.mem_of_getElem? (i := 0) rfl))
  have Fw6 := F_a0_mask_u4.same W6
  have Z6 : n0 ≤ h6.size := Nat.le_trans Z2 (Keep.of_wr W6).1
  have N6 := Fr.snoc X6 N3 g_a0
  have E_a0_u8 : Exa Z h6 a0 "com/example/fireweed/fireweed/layout/Java31ByteSalt" := (E_a0_u5.wr W6)
  obtain ⟨cq7, q7, q7'⟩ := E_a0_u8.cell
  obtain ⟨_, _, ⟨T7, L7, k7', n7'⟩, -, X7, ⟨Lc7, hQ7, l7, y7, z7⟩, st7⟩ := X6.privateBack hx (y := (⟨"com/example/fireweed/fireweed/layout/Java31ByteSalt", "saltOf", "(I)B"⟩ : MethodName)) hown1 (mvT hZ1 (hw _ (List.mem_of_getElem? (i := 108) rfl))) (mvT hZ1 (hw _ (List.mem_of_getElem? (i := 109) rfl))) (own_priv (mvT hZ1 (hw _ (List.mem_of_getElem? (i := 3) rfl))) (Cond.privateMethod_at (mvP hZ1 (hw _ (List.mem_of_getElem? (i := 110) rfl)) (args := #[]))) (mvT hZ1 (hw _ (List.mem_of_getElem? (i := 109) rfl))) (by decide)) (Cond.privateMethod_at (mvP hZ1 (hw _ (List.mem_of_getElem? (i := 110) rfl)) (args := #[]))) (mvT hZ1 (hw _ (List.mem_of_getElem? (i := 111) rfl))) (by decide) (backOf (W := 1) (rm18m l Z az hw [] a0 (p1 - (1 : Int32)) h6 n0 Z6 Fw6 hc22) hZ1 (hw _ (List.mem_of_getElem? (i := 111) rfl)) (hw _ (List.mem_of_getElem? (i := 4) rfl)) (by decide) (by decide)) (g := (mkF m 78 #[.val (.ref a0), .val (.int p1), .val (.ref a2)] [(.int (-2147483648 : Int32)), (.ref a0), (.ref a0)])) rfl (by rw [hml]; rfl) (Steps.refl _) (a := a0) (by rw [e6]; exact q7) q7' (argsL := [(.int (-2147483648 : Int32))]) (rest := [(.ref a0)]) (lenOf pd_10 rfl) rfl (by show 2 * 0 + _ ≤ _; exact Nat.le_of_eq rfl) (hb hby d7_78) (fun _ _ => ⟨rfl, e6, (by decide : 3 + 0 ≤ _), (by decide : 30 + 0 ≤ _)⟩)
  dsimp only [Pt.U, Pt.locs, Pt.cells, Pt.slots] at X7 l7 y7 z7 st7 hQ7
  subst l7 y7 z7
  obtain ⟨rfl, N7q, e7⟩ := hQ7
  have N7 := Fr.app N6 N7q
  obtain ⟨_, _, ⟨T9, L9, k9', n9'⟩, -, X9, ⟨Lc9, hQ9, l9, y9, z9⟩, st9⟩ := Jvm.LawKit.callS X7 hx (y := (⟨"java/lang/Byte", "toUnsignedInt", "(B)I"⟩ : MethodName)) hown1 (mvT hZ1 (hw _ (List.mem_of_getElem? (i := 116) rfl))) (mvT hZ1 (hw _ (List.mem_of_getElem? (i := 117) rfl))) (mvT hZ1 (hw _ (List.mem_of_getElem? (i := 118) rfl))) (mvT hZ1 (hw _ (List.mem_of_getElem? (i := 119) rfl))) (by decide) (backOf (W := 1) (rm20 l Z az hw [] (((-2147483648 : Int32) &&& (p1 - (1 : Int32))).toInt8.toInt32) h6 n0 Z6) hZ1 (hw _ (List.mem_of_getElem? (i := 119) rfl)) (hw _ (List.mem_of_getElem? (i := 118) rfl)) (by decide) (by decide)) (g := (mkF m 81 #[.val (.ref a0), .val (.int p1), .val (.ref a2)] [(.int (((-2147483648 : Int32) &&& (p1 - (1 : Int32))).toInt8.toInt32)), (.ref a0)])) rfl (by rw [hml]; rfl) (argsL := [(.int (((-2147483648 : Int32) &&& (p1 - (1 : Int32))).toInt8.toInt32))]) (rest := [(.ref a0)]) (lenOf pd_11 rfl) rfl (by show 2 * 0 + _ ≤ _; exact Nat.le_of_eq rfl) (hb hby d7_81) (fun _ _ => ⟨rfl, e7, (by decide : 3 + 0 ≤ _), (by decide : 30 + 0 ≤ _)⟩)
  dsimp only [Pt.U, Pt.locs, Pt.cells, Pt.slots] at X9 l9 y9 z9 st9 hQ9
  subst l9 y9 z9
  obtain ⟨rfl, N9q, e9⟩ := hQ9
  have N9 := Fr.app N7 N9q
  have F_a0_overflow_u10 : Fld Z h6 a0 "com/example/fireweed/fireweed/layout/Java31ByteSalt" "overflow" "I" (.int (0 : Int32)) := ((pf1_5.other W2 (Or.inr (slot_ne (Or.inr (hw _ (List.mem_of_getElem? (i := 121) rfl))) (Or.inr (hw _ (List.mem_of_getElem? (i := 97) rfl))) (by decide) (t := .int) (t' := .int) (by decide) (by decide)))).other W6 (Or.inr (slot_ne (Or.inr (hw _ (List.mem_of_getElem? (i := 121) rfl))) (Or.inr (hw _ (List.mem_of_getElem? (i := 106) rfl))) (by decide) (t := .int) (t' := .int) (by decide) (by decide))))
  obtain ⟨T11, h11, X11, e11, W11, st11⟩ := putF X9 hx hZ1 hown1 (host := "") (Or.inl (hw _ (List.mem_of_getElem? (i := 120) rfl))) Via.refl e9 F_a0_overflow_u10 E_a0_u8 (Or.inr ⟨(hw _ (List.mem_of_getElem? (i := 121) rfl)), rfl, hnm⟩) (hw _ (List.mem_of_getElem? (i := 3) rfl)) (ty := .int) (by decide) rfl rfl (g := (mkF m 84 #[.val (.ref a0), .val (.int p1), .val (.ref a2)] [(.int ((((-2147483648 : Int32) &&& (p1 - (1 : Int32))).toInt8.toInt32) &&& (255 : Int32))), (.ref a0)])) rfl rfl (hb hby d7_84)
  have K11 : Keep h0 h11 [a0] := K6.wr W11 (Or.inl (List.mem_of_getElem? (i := 0) rfl))
  have Fw11 := F_a0_overflow_u10.same W11
  have Z11 : n0 ≤ h11.size := Nat.le_trans Z6 (Keep.of_wr W11).1
  have N11 := Fr.snoc X11 N9 g_a0
  have E_a0_u12 : Exa Z h11 a0 "com/example/fireweed/fireweed/layout/Java31ByteSalt" := (E_a0_u8.wr W11)
  have F_a0_suffix_u13 : Fld Z h11 a0 "com/example/fireweed/fireweed/layout/Salt" "suffix" "Ljava/lang/String;" (.ref a2) := (((pf1_1.other W2 (Or.inr (slot_ne (Or.inr (hw _ (List.mem_of_getElem? (i := 57) rfl))) (Or.inr (hw _ (List.mem_of_getElem? (i := 97) rfl))) (by decide) (t := (.object "java/lang/String")) (t' := .int) (by decide) (by decide)))).other W6 (Or.inr (slot_ne (Or.inr (hw _ (List.mem_of_getElem? (i := 57) rfl))) (Or.inr (hw _ (List.mem_of_getElem? (i := 106) rfl))) (by decide) (t := (.object "java/lang/String")) (t' := .int) (by decide) (by decide)))).other W11 (Or.inr (slot_ne (Or.inr (hw _ (List.mem_of_getElem? (i := 57) rfl))) (Or.inr (hw _ (List.mem_of_getElem? (i := 121) rfl))) (by decide) (t := (.object "java/lang/String")) (t' := .int) (by decide) (by decide))))
  have F_a0_suffixBytes_u14 : Fld Z h11 a0 "com/example/fireweed/fireweed/layout/Salt" "suffixBytes" "[B" (.ref b1_0) := (((pf1_2.other W2 (Or.inr (slot_ne (Or.inr (hw _ (List.mem_of_getElem? (i := 95) rfl))) (Or.inr (hw _ (List.mem_of_getElem? (i := 97) rfl))) (by decide) (t := (.array .byte)) (t' := .int) (by decide) (by decide)))).other W6 (Or.inr (slot_ne (Or.inr (hw _ (List.mem_of_getElem? (i := 95) rfl))) (Or.inr (hw _ (List.mem_of_getElem? (i := 106) rfl))) (by decide) (t := (.array .byte)) (t' := .int) (by decide) (by decide)))).other W11 (Or.inr (slot_ne (Or.inr (hw _ (List.mem_of_getElem? (i := 95) rfl))) (Or.inr (hw _ (List.mem_of_getElem? (i := 121) rfl))) (by decide) (t := (.array .byte)) (t' := .int) (by decide) (by decide))))
  have F_a0_buckets_u15 : Fld Z h11 a0 "com/example/fireweed/fireweed/layout/Java31ByteSalt" "buckets" "I" (.int p1) := ((Fw2.other W6 (Or.inr (slot_ne (Or.inr (hw _ (List.mem_of_getElem? (i := 97) rfl))) (Or.inr (hw _ (List.mem_of_getElem? (i := 106) rfl))) (by decide) (t := .int) (t' := .int) (by decide) (by decide)))).other W11 (Or.inr (slot_ne (Or.inr (hw _ (List.mem_of_getElem? (i := 97) rfl))) (Or.inr (hw _ (List.mem_of_getElem? (i := 121) rfl))) (by decide) (t := .int) (t' := .int) (by decide) (by decide))))
  have F_a0_mask_u16 : Fld Z h11 a0 "com/example/fireweed/fireweed/layout/Java31ByteSalt" "mask" "I" (.int (p1 - (1 : Int32))) := (Fw6.other W11 (Or.inr (slot_ne (Or.inr (hw _ (List.mem_of_getElem? (i := 106) rfl))) (Or.inr (hw _ (List.mem_of_getElem? (i := 121) rfl))) (by decide) (t := .int) (t' := .int) (by decide) (by decide))))
  have E_b1_0_u17 : Exa Z h11 b1_0 "[B" := (((pf1_6.wr W2).wr W6).wr W11)
  have ne_a0_b1_0 : a0 ≠ b1_0 := own_ne (Nat.lt_of_lt_of_le E_a0.lt s1_0)
  have V_b1_0_u18 : Arv Z h11 b1_0 kk1_0 .byte (2 : Int32) [(.int (((192 : Int32) ||| ((pv &&& (255 : Int32)) >>> ((6 : Int32) &&& 31))).toInt8.toInt32)), (.int (((128 : Int32) ||| (pv &&& (63 : Int32))).toInt8.toInt32))] (.int (0 : Int32)) := (((pf1_7.other W2 (Ne.symm ne_a0_b1_0)).other W6 (Ne.symm ne_a0_b1_0)).other W11 (Ne.symm ne_a0_b1_0))
  obtain ⟨fs, hr, hrun, hended, hWE⟩ := X11.leaveW (s := s) hS1 (by rw [e11]; exact (Nat.le_trans (Nat.le_trans (Nat.le_trans (Nat.le_refl _) (Keep.of_wr W2).1) (Keep.of_wr W6).1) (Keep.of_wr W11).1)) (v := none) (fun _ => rfl)
  refine ⟨_, _, pre0 _ ?_, hrun, hended, _, _, rfl, ?_, hWE.1, hWE.2.1, hWE.2.2.1, hWE.2.2.2.mono (by decide) (by decide)⟩
  · show Steps p.tables e below (s₁.setTop (mkF m 0 #[.val (.ref a0), .val (.int p1), .val (.ref a2)] [])) _
    refine XS.aloadN X0.here hx rfl (hb hby d7_0) rfl rfl ?_
    show Steps p.tables e below (s₁.setTop (mkF m 1 #[.val (.ref a0), .val (.int p1), .val (.ref a2)] [(.ref a0)])) _
    refine XS.aloadN X0.here hx rfl (hb hby d7_1) rfl rfl ?_
    show Steps p.tables e below (s₁.setTop (mkF m 2 #[.val (.ref a0), .val (.int p1), .val (.ref a2)] [(.ref a2), (.ref a0)])) _
    refine st1.trans ?_
    show Steps p.tables e below (T1.setTop (mkF m 5 #[.val (.ref a0), .val (.int p1), .val (.ref a2)] [])) _
    refine XS.iloadN X1.here hx rfl (hb hby d7_5) rfl ?_
    show Steps p.tables e below (T1.setTop (mkF m 6 #[.val (.ref a0), .val (.int p1), .val (.ref a2)] [(.int p1)])) _
    refine XS.iconst X1.here hx rfl (hb hby d7_6) ?_
    show Steps p.tables e below (T1.setTop (mkF m 7 #[.val (.ref a0), .val (.int p1), .val (.ref a2)] [(.int (1 : Int32)), (.int p1)])) _
    refine XS.icmpNo X1.here hx rfl (hb hby d7_7) rfl (flt hc19).1 ?_
    show Steps p.tables e below (T1.setTop (mkF m 10 #[.val (.ref a0), .val (.int p1), .val (.ref a2)] [])) _
    refine XS.iloadN X1.here hx rfl (hb hby d7_10) rfl ?_
    show Steps p.tables e below (T1.setTop (mkF m 11 #[.val (.ref a0), .val (.int p1), .val (.ref a2)] [(.int p1)])) _
    refine XS.sipush X1.here hx rfl (hb hby d7_11) ?_
    show Steps p.tables e below (T1.setTop (mkF m 14 #[.val (.ref a0), .val (.int p1), .val (.ref a2)] [(.int (256 : Int32)), (.int p1)])) _
    refine XS.icmpYes X1.here hx rfl (pc0 := 14) (pc' := 50) rfl (hb hby d7_14) rfl (flt hc20).2.2.2 (by decide) (by decide) ?_
    show Steps p.tables e below (T1.setTop (mkF m 50 #[.val (.ref a0), .val (.int p1), .val (.ref a2)] [])) _
    refine XS.aloadN X1.here hx rfl (hb hby d7_50) rfl rfl ?_
    show Steps p.tables e below (T1.setTop (mkF m 51 #[.val (.ref a0), .val (.int p1), .val (.ref a2)] [(.ref a0)])) _
    refine XS.iloadN X1.here hx rfl (hb hby d7_51) rfl ?_
    show Steps p.tables e below (T1.setTop (mkF m 52 #[.val (.ref a0), .val (.int p1), .val (.ref a2)] [(.int p1), (.ref a0)])) _
    refine st2 _ ?_
    show Steps p.tables e below (T2.setTop (mkF m 55 #[.val (.ref a0), .val (.int p1), .val (.ref a2)] [])) _
    refine XS.aloadN X2.here hx rfl (hb hby d7_55) rfl rfl ?_
    show Steps p.tables e below (T2.setTop (mkF m 56 #[.val (.ref a0), .val (.int p1), .val (.ref a2)] [(.ref a0)])) _
    refine XS.iloadN X2.here hx rfl (hb hby d7_56) rfl ?_
    show Steps p.tables e below (T2.setTop (mkF m 57 #[.val (.ref a0), .val (.int p1), .val (.ref a2)] [(.int p1), (.ref a0)])) _
    refine st3 _ ?_
    show Steps p.tables e below (T3.setTop (mkF m 60 #[.val (.ref a0), .val (.int p1), .val (.ref a2)] [(.int (own_bc p1)), (.ref a0)])) _
    refine XS.iconst X3.here hx rfl (hb hby d7_60) ?_
    show Steps p.tables e below (T3.setTop (mkF m 61 #[.val (.ref a0), .val (.int p1), .val (.ref a2)] [(.int (1 : Int32)), (.int (own_bc p1)), (.ref a0)])) _
    refine XS.icmpNo X3.here hx rfl (hb hby d7_61) rfl (teq hc21).2 ?_
    show Steps p.tables e below (T3.setTop (mkF m 64 #[.val (.ref a0), .val (.int p1), .val (.ref a2)] [(.ref a0)])) _
    refine XS.iloadN X3.here hx rfl (hb hby d7_64) rfl ?_
    show Steps p.tables e below (T3.setTop (mkF m 65 #[.val (.ref a0), .val (.int p1), .val (.ref a2)] [(.int p1), (.ref a0)])) _
    refine XS.iconst X3.here hx rfl (hb hby d7_65) ?_
    show Steps p.tables e below (T3.setTop (mkF m 66 #[.val (.ref a0), .val (.int p1), .val (.ref a2)] [(.int (1 : Int32)), (.int p1), (.ref a0)])) _
    refine XS.isub X3.here hx rfl (hb hby d7_66) rfl ?_
    show Steps p.tables e below (T3.setTop (mkF m 67 #[.val (.ref a0), .val (.int p1), .val (.ref a2)] [(.int (p1 - (1 : Int32))), (.ref a0)])) _
    refine XS.goto X3.here hx rfl (pc0 := 67) (pc' := 71) rfl (hb hby d7_67) (by decide) (by decide) ?_
    show Steps p.tables e below (T3.setTop (mkF m 71 #[.val (.ref a0), .val (.int p1), .val (.ref a2)] [(.int (p1 - (1 : Int32))), (.ref a0)])) _
    refine st6 _ ?_
    show Steps p.tables e below (T6.setTop (mkF m 74 #[.val (.ref a0), .val (.int p1), .val (.ref a2)] [])) _
    refine XS.aloadN X6.here hx rfl (hb hby d7_74) rfl rfl ?_
    show Steps p.tables e below (T6.setTop (mkF m 75 #[.val (.ref a0), .val (.int p1), .val (.ref a2)] [(.ref a0)])) _
    refine XS.aloadN X6.here hx rfl (hb hby d7_75) rfl rfl ?_
    show Steps p.tables e below (T6.setTop (mkF m 76 #[.val (.ref a0), .val (.int p1), .val (.ref a2)] [(.ref a0), (.ref a0)])) _
    refine X6.ldcInt hx hown1 (mvT hZ1 (hw _ (List.mem_of_getElem? (i := 107) rfl))) (g := (mkF m 76 #[.val (.ref a0), .val (.int p1), .val (.ref a2)] [(.ref a0), (.ref a0)])) rfl (hb hby d7_76) _ ?_
    show Steps p.tables e below (T6.setTop (mkF m 78 #[.val (.ref a0), .val (.int p1), .val (.ref a2)] [(.int (-2147483648 : Int32)), (.ref a0), (.ref a0)])) _
    refine st7.trans ?_
    show Steps p.tables e below (T7.setTop (mkF m 81 #[.val (.ref a0), .val (.int p1), .val (.ref a2)] [(.int (((-2147483648 : Int32) &&& (p1 - (1 : Int32))).toInt8.toInt32)), (.ref a0)])) _
    refine st9 _ ?_
    show Steps p.tables e below (T9.setTop (mkF m 84 #[.val (.ref a0), .val (.int p1), .val (.ref a2)] [(.int ((((-2147483648 : Int32) &&& (p1 - (1 : Int32))).toInt8.toInt32) &&& (255 : Int32))), (.ref a0)])) _
    refine st11 _ ?_
    show Steps p.tables e below (T11.setTop (mkF m 87 #[.val (.ref a0), .val (.int p1), .val (.ref a2)] [])) _
    exact X11.returnOut hx Bd.returns (hb hby d7_87) hr
  · show Q7nA Z a0 p1 a2 aB kB pv aU s_COMPACT_STRINGS h0 n0 _ T11.heap _
    rw [e11]
    exact ⟨b1_0, kk1_0, rfl, N11, sz_b1_0, K11, E_a0_u12, F_a0_suffix_u13, F_a0_suffixBytes_u14, F_a0_buckets_u15, F_a0_mask_u16, Fw11, E_b1_0_u17, V_b1_0_u18⟩
theorem ef_rm7nB (m : MethodId) (a0 : Addr) (p1 : Int32) (a2 : Addr) : entryFrame m #[(.ref a0), (.int p1), (.ref a2)] 3 = mkF m 0 #[.val (.ref a0), .val (.int p1), .val (.ref a2)] [] := by first | (simp [entryFrame, mkF, argsToLocals, Value.category]; done) | rfl
def Q7nB (Z : State) (a0 : Addr) (p1 : Int32) (a2 : Addr) (aB : Addr) (kB : ClassId) (pv : Int32) (aU : Addr) (s_COMPACT_STRINGS : Int32) (h0 : Heap) (n0 : Nat) (v : Option Value) (h : Heap) (L : List Loc) : Prop := ∃ r0 : Addr, ∃ rk0 : ClassId, v = none ∧ Fr n0 L ∧ h0.size ≤ r0 ∧ Keep h0 h [a0] ∧ Exa Z h a0 "com/example/fireweed/fireweed/layout/Java31ByteSalt" ∧ Fld Z h a0 "com/example/fireweed/fireweed/layout/Salt" "suffix" "Ljava/lang/String;" (.ref a2) ∧ Fld Z h a0 "com/example/fireweed/fireweed/layout/Salt" "suffixBytes" "[B" (.ref r0) ∧ Fld Z h a0 "com/example/fireweed/fireweed/layout/Java31ByteSalt" "buckets" "I" (.int p1) ∧ Fld Z h a0 "com/example/fireweed/fireweed/layout/Java31ByteSalt" "mask" "I" (.int (-1 : Int32)) ∧ Fld Z h a0 "com/example/fireweed/fireweed/layout/Java31ByteSalt" "overflow" "I" (.int ((((-2147483648 : Int32) % p1).toInt8.toInt32) &&& (255 : Int32))) ∧ Exa Z h r0 "[B" ∧ Arv Z h r0 rk0 .byte (2 : Int32) [(.int (((192 : Int32) ||| ((pv &&& (255 : Int32)) >>> ((6 : Int32) &&& 31))).toInt8.toInt32)), (.int (((128 : Int32) ||| (pv &&& (63 : Int32))).toInt8.toInt32))] (.int (0 : Int32))
set_option maxRecDepth 65536 in
set_option maxHeartbeats 40000000 in
theorem rm7nB (l : Launch) (Z : State) (az : Array Value) (hw : ∀ d ∈ tables_1, d.before az Z = true) (ws : List Jvm.Cond) (a0 : Addr) (p1 : Int32) (a2 : Addr) (aB : Addr) (kB : ClassId) (pv : Int32) (aU : Addr) (s_COMPACT_STRINGS : Int32) (h0 : Heap) (n0 : Nat) (Z0 : n0 ≤ h0.size) (E_a0 : Exa Z h0 a0 "com/example/fireweed/fireweed/layout/Java31ByteSalt") (F_suffix_a0 : Fld Z h0 a0 "com/example/fireweed/fireweed/layout/Salt" "suffix" "Ljava/lang/String;" .null) (F_suffixBytes_a0 : Fld Z h0 a0 "com/example/fireweed/fireweed/layout/Salt" "suffixBytes" "[B" .null) (F_buckets_a0 : Fld Z h0 a0 "com/example/fireweed/fireweed/layout/Java31ByteSalt" "buckets" "I" (.int (0 : Int32))) (F_mask_a0 : Fld Z h0 a0 "com/example/fireweed/fireweed/layout/Java31ByteSalt" "mask" "I" (.int (0 : Int32))) (F_overflow_a0 : Fld Z h0 a0 "com/example/fireweed/fireweed/layout/Java31ByteSalt" "overflow" "I" (.int (0 : Int32))) (E_a2 : Exa Z h0 a2 "java/lang/String") (F_coder_a2 : Fld Z h0 a2 "java/lang/String" "coder" "B" (.int (0 : Int32))) (F_value_a2 : Fld Z h0 a2 "java/lang/String" "value" "[B" (.ref aB)) (V_aB : Arv Z h0 aB kB .byte (1 : Int32) [(.int pv)] (.int (0 : Int32))) (E_aB : Exa Z h0 aB "[B") (S_INSTANCE : Sta Z h0 "sun/nio/cs/UTF_8" "INSTANCE" "Lsun/nio/cs/UTF_8;" (.ref aU)) (S_UTF_8 : Sta Z h0 "java/nio/charset/StandardCharsets" "UTF_8" "Ljava/nio/charset/Charset;" (.ref aU)) (hc13 : pv < (0 : Int32)) (S_COMPACT_STRINGS : Sta Z h0 "java/lang/String" "COMPACT_STRINGS" "Z" (.int s_COMPACT_STRINGS)) (g_a0 : n0 ≤ a0) (hne_a2_a0 : a2 ≠ a0) (hne_aB_a0 : aB ≠ a0) (hc18 : ¬ (s_COMPACT_STRINGS = (0 : Int32))) (hc19 : ¬ (p1 < (1 : Int32))) (hc20 : ¬ ((256 : Int32) < p1)) (hc21 : ¬ ((own_bc p1) = (1 : Int32))) (hc22 : p1 ≠ (0 : Int32)) :
    MetFree l (⟨"com/example/fireweed/fireweed/layout/Java31ByteSalt", "<init>", "(ILjava/lang/String;)V"⟩ : MethodName) (head1 (Jvm.Cond.code (⟨"com/example/fireweed/fireweed/layout/Java31ByteSalt", "<init>", "(ILjava/lang/String;)V"⟩ : MethodName) prog_7_method_1_code 3 none :: ws) ({ frames := 7, cells := 3, slots := 30, locals := 104 } : Room)) (fun a U => a = #[(.ref a0), (.int p1), (.ref a2)] ∧ Z.Warmed39 U.vm ∧ U.heap = h0) (fun _ _ _ _ _ => True) (fun _ U o U' => ∃ v L, o = .returned v ∧ Q7nB Z a0 p1 a2 aB kB pv aU s_COMPACT_STRINGS h0 n0 v U'.heap L ∧ ReturnedEndW U o U' L ({ frames := 7, cells := 3, slots := 30, locals := 104 } : Room).cells ({ frames := 7, cells := 3, slots := 30, locals := 104 } : Room).slots) := by
  refine MetFree.of_bodySF (plainFor_of_name pn_com_example_fireweed_fireweed_layout_Java31ByteSalt) hisR ?_
  intro p e s m args below meth c s₁ Bd hml0 hP hK
  obtain ⟨rfl, hZ, hh⟩ := hP
  have hx := Bd.exec
  have hby := Bd.bytes
  have hml : c.maxLocals = 3 := hml0
  have hown : s.vm.findClass "com/example/fireweed/fireweed/layout/Java31ByteSalt" = some m.cls := findClass_of_methodNamed Bd.named
  have hnm := (name_of_methodNamed Bd.named Bd.method).1
  have X0 : Stand p l e ({ frames := 7, cells := 3, slots := 30, locals := 104 } : Room) s m #[(.ref a0), (.int p1), (.ref a2)] below meth c s₁ [] 0 0 := Stand.of_body Bd
  have e0 : s₁.heap = h0 := by rw [← hh, Bd.state]; rfl
  have N0 := Fr.nil n0
  have pre0 : ∀ t, Steps p.tables e below (s₁.setTop (mkF m 0 #[.val (.ref a0), .val (.int p1), .val (.ref a2)] [])) t → Steps p.tables e below (s₁.setTop (entryFrame m #[(.ref a0), (.int p1), (.ref a2)] 3)) t := fun t k => castTop (ef_rm7nB m a0 p1 a2) k
  have hS0 : s.Since s.vm 0 := (State.WarmedH.refl s).since 0
  have wS : ∀ a ∈ Bundle.stringAtoms, a.before az Z = true := fun d hd => by
    simp only [Bundle.stringAtoms, List.mem_cons, List.not_mem_nil, or_false] at hd
    rcases hd with rfl | rfl | rfl | rfl | rfl | rfl | rfl
    · exact (hw _ (List.mem_of_getElem? (i := 7) rfl))
    · exact (hw _ (List.mem_of_getElem? (i := 6) rfl))
    · exact (hw _ (List.mem_of_getElem? (i := 23) rfl))
    · exact (hw _ (List.mem_of_getElem? (i := 33) rfl))
    · exact (hw _ (List.mem_of_getElem? (i := 31) rfl))
    · exact (hw _ (List.mem_of_getElem? (i := 49) rfl))
    · exact (hw _ (List.mem_of_getElem? (i := 50) rfl))
  obtain ⟨_, _, ⟨T1, L1, k1', n1'⟩, -, Y1, yS1, yg1, ⟨Lc1, hQ1, l1, y1, z1⟩, st1⟩ := X0.specialBackS hx (y := (⟨"com/example/fireweed/fireweed/layout/BucketSalt", "<init>", "(Ljava/lang/String;)V"⟩ : MethodName)) rfl hown (mvT hZ (hw _ (List.mem_of_getElem? (i := 37) rfl))) (mvT hZ (hw _ (List.mem_of_getElem? (i := 38) rfl))) (mvT hZ (hw _ (List.mem_of_getElem? (i := 41) rfl))) (by decide) (backOfS (W := 0) (rm8n l Z az hw [] a0 a2 aB kB pv aU s_COMPACT_STRINGS h0 n0 Z0 E_a0 F_suffix_a0 F_suffixBytes_a0 F_buckets_a0 F_mask_a0 F_overflow_a0 E_a2 F_coder_a2 F_value_a2 V_aB E_aB S_INSTANCE S_UTF_8 hc13 S_COMPACT_STRINGS g_a0 hne_a2_a0 hne_aB_a0 hc18) hZ (hw _ (List.mem_of_getElem? (i := 41) rfl)) (hw _ (List.mem_of_getElem? (i := 40) rfl)) (by decide) (by decide)) (g := (mkF m 2 #[.val (.ref a0), .val (.int p1), .val (.ref a2)] [(.ref a2), (.ref a0)])) rfl (by rw [hml]; rfl) (Steps.refl _) (a := a0) (argsL := [(.ref a2)]) (rest := []) (lenOf pd_7 rfl) rfl (by show 2 * 0 + _ ≤ _; exact Nat.le_of_eq rfl) (hb hby d7_2) (fun _ _ => ⟨rfl, e0, (by decide : 0 + 3 ≤ _), (by decide : 0 + 30 ≤ _)⟩)
  dsimp only [Pt.U, Pt.locs, Pt.cells, Pt.slots] at Y1 yS1 yg1 l1 y1 z1 st1 hQ1
  subst l1 y1 z1
  obtain ⟨X1, hS1, hZ1, hown1⟩ := rebS (s := s) (vm0 := s.vm) hS0 (by rw [e0]; exact (Nat.zero_le _)) Y1 yS1 yg1 hZ hown
  obtain ⟨b1_0, kk1_0, rfl, N1q, s1_0, kq1, pf1_0, pf1_1, pf1_2, pf1_3, pf1_4, pf1_5, pf1_6, pf1_7⟩ := hQ1
  have N1 := Fr.app N0 N1q
  have g_b1_0 : n0 ≤ b1_0 := Nat.le_trans Z0 s1_0
  have sz_b1_0 : h0.size ≤ b1_0 := Nat.le_trans (Nat.le_refl _) s1_0
  have K1 : Keep h0 T1.heap [a0] := (Keep.refl h0 [a0]).trans kq1 (allS (Or.inl (List.mem_of_getElem? (i := 0) rfl)) all0)
  have Z1 : n0 ≤ T1.heap.size := Nat.le_trans Z0 kq1.1
  obtain ⟨T2, h2, X2, e2, W2, st2⟩ := putF X1 hx hZ1 hown1 (host := "") (Or.inl (hw _ (List.mem_of_getElem? (i := 96) rfl))) Via.refl rfl pf1_3 pf1_0 (Or.inr ⟨(hw _ (List.mem_of_getElem? (i := 97) rfl)), rfl, hnm⟩) (hw _ (List.mem_of_getElem? (i := 3) rfl)) (ty := .int) (by decide) rfl rfl (g := (mkF m 52 #[.val (.ref a0), .val (.int p1), .val (.ref a2)] [(.int p1), (.ref a0)])) rfl rfl (hb hby d7_52)
  have K2 : Keep h0 h2 [a0] := K1.wr W2 (Or.inl (List.mem_of_getElem? (i := 0) rfl))
  have Fw2 := pf1_3.same W2
  have Z2 : n0 ≤ h2.size := Nat.le_trans Z1 (Keep.of_wr W2).1
  have N2 := Fr.snoc X2 N1 g_a0
  obtain ⟨_, _, ⟨T3, L3, k3', n3'⟩, -, X3, ⟨Lc3, hQ3, l3, y3, z3⟩, st3⟩ := Jvm.LawKit.callS X2 hx (y := (⟨"java/lang/Integer", "bitCount", "(I)I"⟩ : MethodName)) hown1 (mvT hZ1 (hw _ (List.mem_of_getElem? (i := 98) rfl))) (mvT hZ1 (hw _ (List.mem_of_getElem? (i := 99) rfl))) (mvT hZ1 (hw _ (List.mem_of_getElem? (i := 100) rfl))) (mvT hZ1 (hw _ (List.mem_of_getElem? (i := 101) rfl))) (by decide) (backOf (W := 1) (rm17 l Z az hw [] p1 h2 n0 Z2) hZ1 (hw _ (List.mem_of_getElem? (i := 101) rfl)) (hw _ (List.mem_of_getElem? (i := 100) rfl)) (by decide) (by decide)) (g := (mkF m 57 #[.val (.ref a0), .val (.int p1), .val (.ref a2)] [(.int p1), (.ref a0)])) rfl (by rw [hml]; rfl) (argsL := [(.int p1)]) (rest := [(.ref a0)]) (lenOf pd_8 rfl) rfl (by show 2 * 0 + _ ≤ _; exact Nat.le_of_eq rfl) (hb hby d7_57) (fun _ _ => ⟨rfl, e2, (by decide : 3 + 0 ≤ _), (by decide : 30 + 0 ≤ _)⟩)
  dsimp only [Pt.U, Pt.locs, Pt.cells, Pt.slots] at X3 l3 y3 z3 st3 hQ3
  subst l3 y3 z3
  obtain ⟨rfl, N3q, e3⟩ := hQ3
  have N3 := Fr.app N2 N3q
  have F_a0_mask_u4 : Fld Z h2 a0 "com/example/fireweed/fireweed/layout/Java31ByteSalt" "mask" "I" (.int (0 : Int32)) := (pf1_4.other W2 (Or.inr (slot_ne (Or.inr (hw _ (List.mem_of_getElem? (i := 106) rfl))) (Or.inr (hw _ (List.mem_of_getElem? (i := 97) rfl))) (by decide) (t := .int) (t' := .int) (by decide) (by decide))))
  have E_a0_u5 : Exa Z h2 a0 "com/example/fireweed/fireweed/layout/Java31ByteSalt" := (pf1_0.wr W2)
  obtain ⟨T6, h6, X6, e6, W6, st6⟩ := putF X3 hx hZ1 hown1 (host := "") (Or.inl (hw _ (List.mem_of_getElem? (i := 105) rfl))) Via.refl e3 F_a0_mask_u4 E_a0_u5 (Or.inr ⟨(hw _ (List.mem_of_getElem? (i := 106) rfl)), rfl, hnm⟩) (hw _ (List.mem_of_getElem? (i := 3) rfl)) (ty := .int) (by decide) rfl rfl (g := (mkF m 71 #[.val (.ref a0), .val (.int p1), .val (.ref a2)] [(.int (-1 : Int32)), (.ref a0)])) rfl rfl (hb hby d7_71)
  have K6 : Keep h0 h6 [a0] := K2.wr W6 (Or.inl (List.mem_of_getElem? (i := 0) rfl))
  have Fw6 := F_a0_mask_u4.same W6
  have Z6 : n0 ≤ h6.size := Nat.le_trans Z2 (Keep.of_wr W6).1
  have N6 := Fr.snoc X6 N3 g_a0
  have F_a0_buckets_u8 : Fld Z h6 a0 "com/example/fireweed/fireweed/layout/Java31ByteSalt" "buckets" "I" (.int p1) := (Fw2.other W6 (Or.inr (slot_ne (Or.inr (hw _ (List.mem_of_getElem? (i := 97) rfl))) (Or.inr (hw _ (List.mem_of_getElem? (i := 106) rfl))) (by decide) (t := .int) (t' := .int) (by decide) (by decide))))
  have E_a0_u9 : Exa Z h6 a0 "com/example/fireweed/fireweed/layout/Java31ByteSalt" := (E_a0_u5.wr W6)
  obtain ⟨cq7, q7, q7'⟩ := E_a0_u9.cell
  obtain ⟨_, _, ⟨T7, L7, k7', n7'⟩, -, X7, ⟨Lc7, hQ7, l7, y7, z7⟩, st7⟩ := X6.privateBack hx (y := (⟨"com/example/fireweed/fireweed/layout/Java31ByteSalt", "saltOf", "(I)B"⟩ : MethodName)) hown1 (mvT hZ1 (hw _ (List.mem_of_getElem? (i := 108) rfl))) (mvT hZ1 (hw _ (List.mem_of_getElem? (i := 109) rfl))) (own_priv (mvT hZ1 (hw _ (List.mem_of_getElem? (i := 3) rfl))) (Cond.privateMethod_at (mvP hZ1 (hw _ (List.mem_of_getElem? (i := 110) rfl)) (args := #[]))) (mvT hZ1 (hw _ (List.mem_of_getElem? (i := 109) rfl))) (by decide)) (Cond.privateMethod_at (mvP hZ1 (hw _ (List.mem_of_getElem? (i := 110) rfl)) (args := #[]))) (mvT hZ1 (hw _ (List.mem_of_getElem? (i := 111) rfl))) (by decide) (backOf (W := 1) (rm18b l Z az hw [] a0 p1 h6 n0 Z6 Fw6 F_a0_buckets_u8 hc22) hZ1 (hw _ (List.mem_of_getElem? (i := 111) rfl)) (hw _ (List.mem_of_getElem? (i := 4) rfl)) (by decide) (by decide)) (g := (mkF m 78 #[.val (.ref a0), .val (.int p1), .val (.ref a2)] [(.int (-2147483648 : Int32)), (.ref a0), (.ref a0)])) rfl (by rw [hml]; rfl) (Steps.refl _) (a := a0) (by rw [e6]; exact q7) q7' (argsL := [(.int (-2147483648 : Int32))]) (rest := [(.ref a0)]) (lenOf pd_10 rfl) rfl (by show 2 * 0 + _ ≤ _; exact Nat.le_of_eq rfl) (hb hby d7_78) (fun _ _ => ⟨rfl, e6, (by decide : 3 + 0 ≤ _), (by decide : 30 + 0 ≤ _)⟩)
  dsimp only [Pt.U, Pt.locs, Pt.cells, Pt.slots] at X7 l7 y7 z7 st7 hQ7
  subst l7 y7 z7
  obtain ⟨rfl, N7q, e7⟩ := hQ7
  have N7 := Fr.app N6 N7q
  obtain ⟨_, _, ⟨T10, L10, k10', n10'⟩, -, X10, ⟨Lc10, hQ10, l10, y10, z10⟩, st10⟩ := Jvm.LawKit.callS X7 hx (y := (⟨"java/lang/Byte", "toUnsignedInt", "(B)I"⟩ : MethodName)) hown1 (mvT hZ1 (hw _ (List.mem_of_getElem? (i := 116) rfl))) (mvT hZ1 (hw _ (List.mem_of_getElem? (i := 117) rfl))) (mvT hZ1 (hw _ (List.mem_of_getElem? (i := 118) rfl))) (mvT hZ1 (hw _ (List.mem_of_getElem? (i := 119) rfl))) (by decide) (backOf (W := 1) (rm20 l Z az hw [] (((-2147483648 : Int32) % p1).toInt8.toInt32) h6 n0 Z6) hZ1 (hw _ (List.mem_of_getElem? (i := 119) rfl)) (hw _ (List.mem_of_getElem? (i := 118) rfl)) (by decide) (by decide)) (g := (mkF m 81 #[.val (.ref a0), .val (.int p1), .val (.ref a2)] [(.int (((-2147483648 : Int32) % p1).toInt8.toInt32)), (.ref a0)])) rfl (by rw [hml]; rfl) (argsL := [(.int (((-2147483648 : Int32) % p1).toInt8.toInt32))]) (rest := [(.ref a0)]) (lenOf pd_11 rfl) rfl (by show 2 * 0 + _ ≤ _; exact Nat.le_of_eq rfl) (hb hby d7_81) (fun _ _ => ⟨rfl, e7, (by decide : 3 + 0 ≤ _), (by decide : 30 + 0 ≤ _)⟩)
  dsimp only [Pt.U, Pt.locs, Pt.cells, Pt.slots] at X10 l10 y10 z10 st10 hQ10
  subst l10 y10 z10
  obtain ⟨rfl, N10q, e10⟩ := hQ10
  have N10 := Fr.app N7 N10q
  have F_a0_overflow_u11 : Fld Z h6 a0 "com/example/fireweed/fireweed/layout/Java31ByteSalt" "overflow" "I" (.int (0 : Int32)) := ((pf1_5.other W2 (Or.inr (slot_ne (Or.inr (hw _ (List.mem_of_getElem? (i := 121) rfl))) (Or.inr (hw _ (List.mem_of_getElem? (i := 97) rfl))) (by decide) (t := .int) (t' := .int) (by decide) (by decide)))).other W6 (Or.inr (slot_ne (Or.inr (hw _ (List.mem_of_getElem? (i := 121) rfl))) (Or.inr (hw _ (List.mem_of_getElem? (i := 106) rfl))) (by decide) (t := .int) (t' := .int) (by decide) (by decide))))
  obtain ⟨T12, h12, X12, e12, W12, st12⟩ := putF X10 hx hZ1 hown1 (host := "") (Or.inl (hw _ (List.mem_of_getElem? (i := 120) rfl))) Via.refl e10 F_a0_overflow_u11 E_a0_u9 (Or.inr ⟨(hw _ (List.mem_of_getElem? (i := 121) rfl)), rfl, hnm⟩) (hw _ (List.mem_of_getElem? (i := 3) rfl)) (ty := .int) (by decide) rfl rfl (g := (mkF m 84 #[.val (.ref a0), .val (.int p1), .val (.ref a2)] [(.int ((((-2147483648 : Int32) % p1).toInt8.toInt32) &&& (255 : Int32))), (.ref a0)])) rfl rfl (hb hby d7_84)
  have K12 : Keep h0 h12 [a0] := K6.wr W12 (Or.inl (List.mem_of_getElem? (i := 0) rfl))
  have Fw12 := F_a0_overflow_u11.same W12
  have Z12 : n0 ≤ h12.size := Nat.le_trans Z6 (Keep.of_wr W12).1
  have N12 := Fr.snoc X12 N10 g_a0
  have E_a0_u13 : Exa Z h12 a0 "com/example/fireweed/fireweed/layout/Java31ByteSalt" := (E_a0_u9.wr W12)
  have F_a0_suffix_u14 : Fld Z h12 a0 "com/example/fireweed/fireweed/layout/Salt" "suffix" "Ljava/lang/String;" (.ref a2) := (((pf1_1.other W2 (Or.inr (slot_ne (Or.inr (hw _ (List.mem_of_getElem? (i := 57) rfl))) (Or.inr (hw _ (List.mem_of_getElem? (i := 97) rfl))) (by decide) (t := (.object "java/lang/String")) (t' := .int) (by decide) (by decide)))).other W6 (Or.inr (slot_ne (Or.inr (hw _ (List.mem_of_getElem? (i := 57) rfl))) (Or.inr (hw _ (List.mem_of_getElem? (i := 106) rfl))) (by decide) (t := (.object "java/lang/String")) (t' := .int) (by decide) (by decide)))).other W12 (Or.inr (slot_ne (Or.inr (hw _ (List.mem_of_getElem? (i := 57) rfl))) (Or.inr (hw _ (List.mem_of_getElem? (i := 121) rfl))) (by decide) (t := (.object "java/lang/String")) (t' := .int) (by decide) (by decide))))
  have F_a0_suffixBytes_u15 : Fld Z h12 a0 "com/example/fireweed/fireweed/layout/Salt" "suffixBytes" "[B" (.ref b1_0) := (((pf1_2.other W2 (Or.inr (slot_ne (Or.inr (hw _ (List.mem_of_getElem? (i := 95) rfl))) (Or.inr (hw _ (List.mem_of_getElem? (i := 97) rfl))) (by decide) (t := (.array .byte)) (t' := .int) (by decide) (by decide)))).other W6 (Or.inr (slot_ne (Or.inr (hw _ (List.mem_of_getElem? (i := 95) rfl))) (Or.inr (hw _ (List.mem_of_getElem? (i := 106) rfl))) (by decide) (t := (.array .byte)) (t' := .int) (by decide) (by decide)))).other W12 (Or.inr (slot_ne (Or.inr (hw _ (List.mem_of_getElem? (i := 95) rfl))) (Or.inr (hw _ (List.mem_of_getElem? (i := 121) rfl))) (by decide) (t := (.array .byte)) (t' := .int) (by decide) (by decide))))
  have F_a0_buckets_u16 : Fld Z h12 a0 "com/example/fireweed/fireweed/layout/Java31ByteSalt" "buckets" "I" (.int p1) := (F_a0_buckets_u8.other W12 (Or.inr (slot_ne (Or.inr (hw _ (List.mem_of_getElem? (i := 97) rfl))) (Or.inr (hw _ (List.mem_of_getElem? (i := 121) rfl))) (by decide) (t := .int) (t' := .int) (by decide) (by decide))))
  have F_a0_mask_u17 : Fld Z h12 a0 "com/example/fireweed/fireweed/layout/Java31ByteSalt" "mask" "I" (.int (-1 : Int32)) := (Fw6.other W12 (Or.inr (slot_ne (Or.inr (hw _ (List.mem_of_getElem? (i := 106) rfl))) (Or.inr (hw _ (List.mem_of_getElem? (i := 121) rfl))) (by decide) (t := .int) (t' := .int) (by decide) (by decide))))
  have E_b1_0_u18 : Exa Z h12 b1_0 "[B" := (((pf1_6.wr W2).wr W6).wr W12)
  have ne_a0_b1_0 : a0 ≠ b1_0 := own_ne (Nat.lt_of_lt_of_le E_a0.lt s1_0)
  have V_b1_0_u19 : Arv Z h12 b1_0 kk1_0 .byte (2 : Int32) [(.int (((192 : Int32) ||| ((pv &&& (255 : Int32)) >>> ((6 : Int32) &&& 31))).toInt8.toInt32)), (.int (((128 : Int32) ||| (pv &&& (63 : Int32))).toInt8.toInt32))] (.int (0 : Int32)) := (((pf1_7.other W2 (Ne.symm ne_a0_b1_0)).other W6 (Ne.symm ne_a0_b1_0)).other W12 (Ne.symm ne_a0_b1_0))
  obtain ⟨fs, hr, hrun, hended, hWE⟩ := X12.leaveW (s := s) hS1 (by rw [e12]; exact (Nat.le_trans (Nat.le_trans (Nat.le_trans (Nat.le_refl _) (Keep.of_wr W2).1) (Keep.of_wr W6).1) (Keep.of_wr W12).1)) (v := none) (fun _ => rfl)
  refine ⟨_, _, pre0 _ ?_, hrun, hended, _, _, rfl, ?_, hWE.1, hWE.2.1, hWE.2.2.1, hWE.2.2.2.mono (by decide) (by decide)⟩
  · show Steps p.tables e below (s₁.setTop (mkF m 0 #[.val (.ref a0), .val (.int p1), .val (.ref a2)] [])) _
    refine XS.aloadN X0.here hx rfl (hb hby d7_0) rfl rfl ?_
    show Steps p.tables e below (s₁.setTop (mkF m 1 #[.val (.ref a0), .val (.int p1), .val (.ref a2)] [(.ref a0)])) _
    refine XS.aloadN X0.here hx rfl (hb hby d7_1) rfl rfl ?_
    show Steps p.tables e below (s₁.setTop (mkF m 2 #[.val (.ref a0), .val (.int p1), .val (.ref a2)] [(.ref a2), (.ref a0)])) _
    refine st1.trans ?_
    show Steps p.tables e below (T1.setTop (mkF m 5 #[.val (.ref a0), .val (.int p1), .val (.ref a2)] [])) _
    refine XS.iloadN X1.here hx rfl (hb hby d7_5) rfl ?_
    show Steps p.tables e below (T1.setTop (mkF m 6 #[.val (.ref a0), .val (.int p1), .val (.ref a2)] [(.int p1)])) _
    refine XS.iconst X1.here hx rfl (hb hby d7_6) ?_
    show Steps p.tables e below (T1.setTop (mkF m 7 #[.val (.ref a0), .val (.int p1), .val (.ref a2)] [(.int (1 : Int32)), (.int p1)])) _
    refine XS.icmpNo X1.here hx rfl (hb hby d7_7) rfl (flt hc19).1 ?_
    show Steps p.tables e below (T1.setTop (mkF m 10 #[.val (.ref a0), .val (.int p1), .val (.ref a2)] [])) _
    refine XS.iloadN X1.here hx rfl (hb hby d7_10) rfl ?_
    show Steps p.tables e below (T1.setTop (mkF m 11 #[.val (.ref a0), .val (.int p1), .val (.ref a2)] [(.int p1)])) _
    refine XS.sipush X1.here hx rfl (hb hby d7_11) ?_
    show Steps p.tables e below (T1.setTop (mkF m 14 #[.val (.ref a0), .val (.int p1), .val (.ref a2)] [(.int (256 : Int32)), (.int p1)])) _
    refine XS.icmpYes X1.here hx rfl (pc0 := 14) (pc' := 50) rfl (hb hby d7_14) rfl (flt hc20).2.2.2 (by decide) (by decide) ?_
    show Steps p.tables e below (T1.setTop (mkF m 50 #[.val (.ref a0), .val (.int p1), .val (.ref a2)] [])) _
    refine XS.aloadN X1.here hx rfl (hb hby d7_50) rfl rfl ?_
    show Steps p.tables e below (T1.setTop (mkF m 51 #[.val (.ref a0), .val (.int p1), .val (.ref a2)] [(.ref a0)])) _
    refine XS.iloadN X1.here hx rfl (hb hby d7_51) rfl ?_
    show Steps p.tables e below (T1.setTop (mkF m 52 #[.val (.ref a0), .val (.int p1), .val (.ref a2)] [(.int p1), (.ref a0)])) _
    refine st2 _ ?_
    show Steps p.tables e below (T2.setTop (mkF m 55 #[.val (.ref a0), .val (.int p1), .val (.ref a2)] [])) _
    refine XS.aloadN X2.here hx rfl (hb hby d7_55) rfl rfl ?_
    show Steps p.tables e below (T2.setTop (mkF m 56 #[.val (.ref a0), .val (.int p1), .val (.ref a2)] [(.ref a0)])) _
    refine XS.iloadN X2.here hx rfl (hb hby d7_56) rfl ?_
    show Steps p.tables e below (T2.setTop (mkF m 57 #[.val (.ref a0), .val (.int p1), .val (.ref a2)] [(.int p1), (.ref a0)])) _
    refine st3 _ ?_
    show Steps p.tables e below (T3.setTop (mkF m 60 #[.val (.ref a0), .val (.int p1), .val (.ref a2)] [(.int (own_bc p1)), (.ref a0)])) _
    refine XS.iconst X3.here hx rfl (hb hby d7_60) ?_
    show Steps p.tables e below (T3.setTop (mkF m 61 #[.val (.ref a0), .val (.int p1), .val (.ref a2)] [(.int (1 : Int32)), (.int (own_bc p1)), (.ref a0)])) _
    refine XS.icmpYes X3.here hx rfl (pc0 := 61) (pc' := 70) rfl (hb hby d7_61) rfl (feq hc21).2 (by decide) (by decide) ?_
    show Steps p.tables e below (T3.setTop (mkF m 70 #[.val (.ref a0), .val (.int p1), .val (.ref a2)] [(.ref a0)])) _
    refine XS.iconst X3.here hx rfl (hb hby d7_70) ?_
    show Steps p.tables e below (T3.setTop (mkF m 71 #[.val (.ref a0), .val (.int p1), .val (.ref a2)] [(.int (-1 : Int32)), (.ref a0)])) _
    refine st6 _ ?_
    show Steps p.tables e below (T6.setTop (mkF m 74 #[.val (.ref a0), .val (.int p1), .val (.ref a2)] [])) _
    refine XS.aloadN X6.here hx rfl (hb hby d7_74) rfl rfl ?_
    show Steps p.tables e below (T6.setTop (mkF m 75 #[.val (.ref a0), .val (.int p1), .val (.ref a2)] [(.ref a0)])) _
    refine XS.aloadN X6.here hx rfl (hb hby d7_75) rfl rfl ?_
    show Steps p.tables e below (T6.setTop (mkF m 76 #[.val (.ref a0), .val (.int p1), .val (.ref a2)] [(.ref a0), (.ref a0)])) _
    refine X6.ldcInt hx hown1 (mvT hZ1 (hw _ (List.mem_of_getElem? (i := 107) rfl))) (g := (mkF m 76 #[.val (.ref a0), .val (.int p1), .val (.ref a2)] [(.ref a0), (.ref a0)])) rfl (hb hby d7_76) _ ?_
    show Steps p.tables e below (T6.setTop (mkF m 78 #[.val (.ref a0), .val (.int p1), .val (.ref a2)] [(.int (-2147483648 : Int32)), (.ref a0), (.ref a0)])) _
    refine st7.trans ?_
    show Steps p.tables e below (T7.setTop (mkF m 81 #[.val (.ref a0), .val (.int p1), .val (.ref a2)] [(.int (((-2147483648 : Int32) % p1).toInt8.toInt32)), (.ref a0)])) _
    refine st10 _ ?_
    show Steps p.tables e below (T10.setTop (mkF m 84 #[.val (.ref a0), .val (.int p1), .val (.ref a2)] [(.int ((((-2147483648 : Int32) % p1).toInt8.toInt32) &&& (255 : Int32))), (.ref a0)])) _
    refine st12 _ ?_
    show Steps p.tables e below (T12.setTop (mkF m 87 #[.val (.ref a0), .val (.int p1), .val (.ref a2)] [])) _
    exact X12.returnOut hx Bd.returns (hb hby d7_87) hr
  · show Q7nB Z a0 p1 a2 aB kB pv aU s_COMPACT_STRINGS h0 n0 _ T12.heap _
    rw [e12]
    exact ⟨b1_0, kk1_0, rfl, N12, sz_b1_0, K12, E_a0_u13, F_a0_suffix_u14, F_a0_suffixBytes_u15, F_a0_buckets_u16, F_a0_mask_u17, Fw12, E_b1_0_u18, V_b1_0_u19⟩
theorem d5_0 : decode jdk_52_method_21_code 0 = .ok (.iconst 0, 1) := by decide +kernel
theorem d5_1 : decode jdk_52_method_21_code 1 = .ok (.istore 5, 2) := by decide +kernel
theorem d5_3 : decode jdk_52_method_21_code 3 = .ok (.iload 5, 2) := by decide +kernel
theorem d5_5 : decode jdk_52_method_21_code 5 = .ok (.iload 4, 2) := by decide +kernel
theorem d5_7 : decode jdk_52_method_21_code 7 = .ok (.if_icmp .ge 37, 3) := by decide +kernel
theorem d5_10 : decode jdk_52_method_21_code 10 = .ok (.aload_n 0, 1) := by decide +kernel
theorem d5_11 : decode jdk_52_method_21_code 11 = .ok (.iload_n 1, 1) := by decide +kernel
theorem d5_12 : decode jdk_52_method_21_code 12 = .ok (.caload, 1) := by decide +kernel
theorem d5_13 : decode jdk_52_method_21_code 13 = .ok (.istore 6, 2) := by decide +kernel
theorem d5_15 : decode jdk_52_method_21_code 15 = .ok (.iload 6, 2) := by decide +kernel
theorem d5_17 : decode jdk_52_method_21_code 17 = .ok (.sipush 255, 3) := by decide +kernel
theorem d5_20 : decode jdk_52_method_21_code 20 = .ok (.if_icmp .le 6, 3) := by decide +kernel
theorem d5_26 : decode jdk_52_method_21_code 26 = .ok (.aload_n 2, 1) := by decide +kernel
theorem d5_27 : decode jdk_52_method_21_code 27 = .ok (.iload_n 3, 1) := by decide +kernel
theorem d5_28 : decode jdk_52_method_21_code 28 = .ok (.iload 6, 2) := by decide +kernel
theorem d5_30 : decode jdk_52_method_21_code 30 = .ok (.i2b, 1) := by decide +kernel
theorem d5_31 : decode jdk_52_method_21_code 31 = .ok (.bastore, 1) := by decide +kernel
theorem d5_32 : decode jdk_52_method_21_code 32 = .ok (.iinc 1 1, 3) := by decide +kernel
theorem d5_35 : decode jdk_52_method_21_code 35 = .ok (.iinc 3 1, 3) := by decide +kernel
theorem d5_38 : decode jdk_52_method_21_code 38 = .ok (.iinc 5 1, 3) := by decide +kernel
theorem d5_41 : decode jdk_52_method_21_code 41 = .ok (.goto (-38), 3) := by decide +kernel
theorem d5_44 : decode jdk_52_method_21_code 44 = .ok (.iload 4, 2) := by decide +kernel
theorem d5_46 : decode jdk_52_method_21_code 46 = .ok (.ireturn, 1) := by decide +kernel
theorem ef_rm5_1 (m : MethodId) (a0 : Addr) (a2 : Addr) : entryFrame m #[(.ref a0), (.int (0 : Int32)), (.ref a2), (.int (0 : Int32)), (.int (1 : Int32))] 7 = mkF m 0 #[.val (.ref a0), .val (.int (0 : Int32)), .val (.ref a2), .val (.int (0 : Int32)), .val (.int (1 : Int32)), .unset, .unset] [] := by first | (simp [entryFrame, mkF, argsToLocals, Value.category]; done) | rfl
def Q5_1 (Z : State) (a0 : Addr) (a2 : Addr) (kc : ClassId) (pc0 : Int32) (k2 : ClassId) (h0 : Heap) (n0 : Nat) (v : Option Value) (h : Heap) (L : List Loc) : Prop := v = some (.int (1 : Int32)) ∧ Fr n0 L ∧ Keep h0 h [a2] ∧ Arv Z h a2 k2 .byte (1 : Int32) [(.int (pc0.toInt8.toInt32))] (.int (0 : Int32))
set_option maxRecDepth 65536 in
set_option maxHeartbeats 40000000 in
theorem rm5_1 (l : Launch) (Z : State) (az : Array Value) (hw : ∀ d ∈ tables_1, d.before az Z = true) (ws : List Jvm.Cond) (a0 : Addr) (a2 : Addr) (kc : ClassId) (pc0 : Int32) (k2 : ClassId) (h0 : Heap) (n0 : Nat) (Z0 : n0 ≤ h0.size) (V_a0 : Arv Z h0 a0 kc .char (1 : Int32) [(.int pc0)] (.int (0 : Int32))) (V_a2 : Arv Z h0 a2 k2 .byte (1 : Int32) [(.int (0 : Int32))] (.int (0 : Int32))) (hc2 : ¬ ((255 : Int32) < pc0)) (g_a2 : n0 ≤ a2) :
    MetFree l (⟨"java/lang/StringUTF16", "compress", "([CI[BII)I"⟩ : MethodName) (head1 (Jvm.Cond.code (⟨"java/lang/StringUTF16", "compress", "([CI[BII)I"⟩ : MethodName) jdk_52_method_21_code 7 (some .int) :: ws) ({ frames := 0, cells := 0, slots := 0, locals := 0 } : Room)) (fun a U => a = #[(.ref a0), (.int (0 : Int32)), (.ref a2), (.int (0 : Int32)), (.int (1 : Int32))] ∧ Z.Warmed39 U.vm ∧ U.heap = h0) (fun _ _ _ _ _ => True) (fun _ U o U' => ∃ v L, o = .returned v ∧ Q5_1 Z a0 a2 kc pc0 k2 h0 n0 v U'.heap L ∧ FrameEnd U o U' L ({ frames := 0, cells := 0, slots := 0, locals := 0 } : Room).cells ({ frames := 0, cells := 0, slots := 0, locals := 0 } : Room).slots) := by
  refine MetFree.of_bodySF (plainFor_of_name pn_java_lang_StringUTF16) hisR ?_
  intro p e s m args below meth c s₁ Bd hml0 hP hK
  obtain ⟨rfl, hZ, hh⟩ := hP
  have hx := Bd.exec
  have hby := Bd.bytes
  have hml : c.maxLocals = 7 := hml0
  have hown : s.vm.findClass "java/lang/StringUTF16" = some m.cls := findClass_of_methodNamed Bd.named
  have hnm := (name_of_methodNamed Bd.named Bd.method).1
  have X0 : Stand p l e ({ frames := 0, cells := 0, slots := 0, locals := 0 } : Room) s m #[(.ref a0), (.int (0 : Int32)), (.ref a2), (.int (0 : Int32)), (.int (1 : Int32))] below meth c s₁ [] 0 0 := Stand.of_body Bd
  have e0 : s₁.heap = h0 := by rw [← hh, Bd.state]; rfl
  have N0 := Fr.nil n0
  have pre0 : ∀ t, Steps p.tables e below (s₁.setTop (mkF m 0 #[.val (.ref a0), .val (.int (0 : Int32)), .val (.ref a2), .val (.int (0 : Int32)), .val (.int (1 : Int32)), .unset, .unset] [])) t → Steps p.tables e below (s₁.setTop (entryFrame m #[(.ref a0), (.int (0 : Int32)), (.ref a2), (.int (0 : Int32)), (.int (1 : Int32))] 7)) t := fun t k => castTop (ef_rm5_1 m a0 a2) k
  obtain ⟨cl1, Ar1, qk1, Sz1, Ng1, Hs1, Gf1⟩ := id V_a0
  have hin2 : ¬ ((0 : Int32) < 0 ∨ cl1.slots.size ≤ ((0 : Int32)).toNatClampNeg) := inb_of Sz1 ⟨by decide, by decide⟩
  have hat3 : cl1.slots[((0 : Int32)).toNatClampNeg]? = some (.int pc0) := Hs1.at hin2 rfl
  obtain ⟨cl4, Ar4, qk4, Sz4, Ng4, Hs4, Gf4⟩ := id V_a2
  have hin5 : ¬ ((0 : Int32) < 0 ∨ cl4.slots.size ≤ ((0 : Int32)).toNatClampNeg) := inb_of Sz4 ⟨by decide, by decide⟩
  obtain ⟨T6, h6, X6, e6, W6, st6⟩ := stB X0 hx hZ e0 Ar4 (j := (0 : Int32)) hin5 (g := (mkF m 31 #[.val (.ref a0), .val (.int (0 : Int32)), .val (.ref a2), .val (.int (0 : Int32)), .val (.int (1 : Int32)), .val (.int (0 : Int32)), .val (.int pc0)] [(.int (pc0.toInt8.toInt32)), (.int (0 : Int32)), (.ref a2)])) rfl rfl (hb hby d5_31)
  rw [(own_nb _)] at W6
  have K6 : Keep h0 h6 [a2] := (Keep.refl h0 [a2]).wr W6 (Or.inl (List.mem_of_getElem? (i := 0) rfl))
  have V_a2_6 : Arv Z h6 a2 k2 .byte (1 : Int32) [(.int (pc0.toInt8.toInt32))] (.int (0 : Int32)) := Arv.set (v := (.int (pc0.toInt8.toInt32))) Ar4 qk4 Sz4 Ng4 Hs4 Gf4 (own_fits (own_nb _) (fits_nar_byte _)) W6 0 rfl (Nat.le_of_ble_eq_true rfl)
  have Z6 : n0 ≤ h6.size := Nat.le_trans Z0 (Keep.of_wr W6).1
  have N6 := Fr.snoc X6 N0 g_a2
  obtain ⟨fs, hr, hrun, hended, hW, hsame⟩ := X6.leave (v := some (.int (1 : Int32))) (fun h => by rw [Bd.returns] at h; cases h)
  refine ⟨_, _, pre0 _ ?_, hrun, hended, _, _, rfl, ?_, ⟨_, rfl⟩, hW, hsame.mono (by decide) (by decide)⟩
  · show Steps p.tables e below (s₁.setTop (mkF m 0 #[.val (.ref a0), .val (.int (0 : Int32)), .val (.ref a2), .val (.int (0 : Int32)), .val (.int (1 : Int32)), .unset, .unset] [])) _
    refine XS.iconst X0.here hx rfl (hb hby d5_0) ?_
    show Steps p.tables e below (s₁.setTop (mkF m 1 #[.val (.ref a0), .val (.int (0 : Int32)), .val (.ref a2), .val (.int (0 : Int32)), .val (.int (1 : Int32)), .unset, .unset] [(.int (0 : Int32))])) _
    refine XS.istore X0.here hx rfl (hb hby d5_1) rfl (l' := #[.val (.ref a0), .val (.int (0 : Int32)), .val (.ref a2), .val (.int (0 : Int32)), .val (.int (1 : Int32)), .val (.int (0 : Int32)), .unset]) rfl ?_
    show Steps p.tables e below (s₁.setTop (mkF m 3 #[.val (.ref a0), .val (.int (0 : Int32)), .val (.ref a2), .val (.int (0 : Int32)), .val (.int (1 : Int32)), .val (.int (0 : Int32)), .unset] [])) _
    refine XS.iload X0.here hx rfl (hb hby d5_3) rfl ?_
    show Steps p.tables e below (s₁.setTop (mkF m 5 #[.val (.ref a0), .val (.int (0 : Int32)), .val (.ref a2), .val (.int (0 : Int32)), .val (.int (1 : Int32)), .val (.int (0 : Int32)), .unset] [(.int (0 : Int32))])) _
    refine XS.iload X0.here hx rfl (hb hby d5_5) rfl ?_
    show Steps p.tables e below (s₁.setTop (mkF m 7 #[.val (.ref a0), .val (.int (0 : Int32)), .val (.ref a2), .val (.int (0 : Int32)), .val (.int (1 : Int32)), .val (.int (0 : Int32)), .unset] [(.int (1 : Int32)), (.int (0 : Int32))])) _
    refine XS.icmpNo X0.here hx rfl (hb hby d5_7) rfl (tlt (by decide : (0 : Int32) < (1 : Int32))).2.1 ?_
    show Steps p.tables e below (s₁.setTop (mkF m 10 #[.val (.ref a0), .val (.int (0 : Int32)), .val (.ref a2), .val (.int (0 : Int32)), .val (.int (1 : Int32)), .val (.int (0 : Int32)), .unset] [])) _
    refine XS.aloadN X0.here hx rfl (hb hby d5_10) rfl rfl ?_
    show Steps p.tables e below (s₁.setTop (mkF m 11 #[.val (.ref a0), .val (.int (0 : Int32)), .val (.ref a2), .val (.int (0 : Int32)), .val (.int (1 : Int32)), .val (.int (0 : Int32)), .unset] [(.ref a0)])) _
    refine XS.iloadN X0.here hx rfl (hb hby d5_11) rfl ?_
    show Steps p.tables e below (s₁.setTop (mkF m 12 #[.val (.ref a0), .val (.int (0 : Int32)), .val (.ref a2), .val (.int (0 : Int32)), .val (.int (1 : Int32)), .val (.int (0 : Int32)), .unset] [(.int (0 : Int32)), (.ref a0)])) _
    refine X0.caload hx (j := (0 : Int32)) (v := (.int pc0)) (by rw [e0]; exact Ar1.1) (State.isArrayOf_alike hZ.alike Ar1.2.1) Ar1.2.2 hin2 hat3 (g := (mkF m 12 #[.val (.ref a0), .val (.int (0 : Int32)), .val (.ref a2), .val (.int (0 : Int32)), .val (.int (1 : Int32)), .val (.int (0 : Int32)), .unset] [(.int (0 : Int32)), (.ref a0)])) rfl rfl (hb hby d5_12) _ ?_
    show Steps p.tables e below (s₁.setTop (mkF m 13 #[.val (.ref a0), .val (.int (0 : Int32)), .val (.ref a2), .val (.int (0 : Int32)), .val (.int (1 : Int32)), .val (.int (0 : Int32)), .unset] [(.int pc0)])) _
    refine XS.istore X0.here hx rfl (hb hby d5_13) rfl (l' := #[.val (.ref a0), .val (.int (0 : Int32)), .val (.ref a2), .val (.int (0 : Int32)), .val (.int (1 : Int32)), .val (.int (0 : Int32)), .val (.int pc0)]) rfl ?_
    show Steps p.tables e below (s₁.setTop (mkF m 15 #[.val (.ref a0), .val (.int (0 : Int32)), .val (.ref a2), .val (.int (0 : Int32)), .val (.int (1 : Int32)), .val (.int (0 : Int32)), .val (.int pc0)] [])) _
    refine XS.iload X0.here hx rfl (hb hby d5_15) rfl ?_
    show Steps p.tables e below (s₁.setTop (mkF m 17 #[.val (.ref a0), .val (.int (0 : Int32)), .val (.ref a2), .val (.int (0 : Int32)), .val (.int (1 : Int32)), .val (.int (0 : Int32)), .val (.int pc0)] [(.int pc0)])) _
    refine XS.sipush X0.here hx rfl (hb hby d5_17) ?_
    show Steps p.tables e below (s₁.setTop (mkF m 20 #[.val (.ref a0), .val (.int (0 : Int32)), .val (.ref a2), .val (.int (0 : Int32)), .val (.int (1 : Int32)), .val (.int (0 : Int32)), .val (.int pc0)] [(.int (255 : Int32)), (.int pc0)])) _
    refine XS.icmpYes X0.here hx rfl (pc0 := 20) (pc' := 26) rfl (hb hby d5_20) rfl (flt hc2).2.2.2 (by decide) (by decide) ?_
    show Steps p.tables e below (s₁.setTop (mkF m 26 #[.val (.ref a0), .val (.int (0 : Int32)), .val (.ref a2), .val (.int (0 : Int32)), .val (.int (1 : Int32)), .val (.int (0 : Int32)), .val (.int pc0)] [])) _
    refine XS.aloadN X0.here hx rfl (hb hby d5_26) rfl rfl ?_
    show Steps p.tables e below (s₁.setTop (mkF m 27 #[.val (.ref a0), .val (.int (0 : Int32)), .val (.ref a2), .val (.int (0 : Int32)), .val (.int (1 : Int32)), .val (.int (0 : Int32)), .val (.int pc0)] [(.ref a2)])) _
    refine XS.iloadN X0.here hx rfl (hb hby d5_27) rfl ?_
    show Steps p.tables e below (s₁.setTop (mkF m 28 #[.val (.ref a0), .val (.int (0 : Int32)), .val (.ref a2), .val (.int (0 : Int32)), .val (.int (1 : Int32)), .val (.int (0 : Int32)), .val (.int pc0)] [(.int (0 : Int32)), (.ref a2)])) _
    refine XS.iload X0.here hx rfl (hb hby d5_28) rfl ?_
    show Steps p.tables e below (s₁.setTop (mkF m 30 #[.val (.ref a0), .val (.int (0 : Int32)), .val (.ref a2), .val (.int (0 : Int32)), .val (.int (1 : Int32)), .val (.int (0 : Int32)), .val (.int pc0)] [(.int pc0), (.int (0 : Int32)), (.ref a2)])) _
    refine XS.i2b X0.here hx rfl (hb hby d5_30) rfl ?_
    show Steps p.tables e below (s₁.setTop (mkF m 31 #[.val (.ref a0), .val (.int (0 : Int32)), .val (.ref a2), .val (.int (0 : Int32)), .val (.int (1 : Int32)), .val (.int (0 : Int32)), .val (.int pc0)] [(.int (pc0.toInt8.toInt32)), (.int (0 : Int32)), (.ref a2)])) _
    refine st6 _ ?_
    show Steps p.tables e below (T6.setTop (mkF m 32 #[.val (.ref a0), .val (.int (0 : Int32)), .val (.ref a2), .val (.int (0 : Int32)), .val (.int (1 : Int32)), .val (.int (0 : Int32)), .val (.int pc0)] [])) _
    refine XS.iinc X6.here hx rfl (hb hby d5_32) rfl (l' := #[.val (.ref a0), .val (.int (1 : Int32)), .val (.ref a2), .val (.int (0 : Int32)), .val (.int (1 : Int32)), .val (.int (0 : Int32)), .val (.int pc0)]) rfl ?_
    show Steps p.tables e below (T6.setTop (mkF m 35 #[.val (.ref a0), .val (.int (1 : Int32)), .val (.ref a2), .val (.int (0 : Int32)), .val (.int (1 : Int32)), .val (.int (0 : Int32)), .val (.int pc0)] [])) _
    refine XS.iinc X6.here hx rfl (hb hby d5_35) rfl (l' := #[.val (.ref a0), .val (.int (1 : Int32)), .val (.ref a2), .val (.int (1 : Int32)), .val (.int (1 : Int32)), .val (.int (0 : Int32)), .val (.int pc0)]) rfl ?_
    show Steps p.tables e below (T6.setTop (mkF m 38 #[.val (.ref a0), .val (.int (1 : Int32)), .val (.ref a2), .val (.int (1 : Int32)), .val (.int (1 : Int32)), .val (.int (0 : Int32)), .val (.int pc0)] [])) _
    refine XS.iinc X6.here hx rfl (hb hby d5_38) rfl (l' := #[.val (.ref a0), .val (.int (1 : Int32)), .val (.ref a2), .val (.int (1 : Int32)), .val (.int (1 : Int32)), .val (.int (1 : Int32)), .val (.int pc0)]) rfl ?_
    show Steps p.tables e below (T6.setTop (mkF m 41 #[.val (.ref a0), .val (.int (1 : Int32)), .val (.ref a2), .val (.int (1 : Int32)), .val (.int (1 : Int32)), .val (.int (1 : Int32)), .val (.int pc0)] [])) _
    refine XS.goto X6.here hx rfl (pc0 := 41) (pc' := 3) rfl (hb hby d5_41) (by decide) (by decide) ?_
    show Steps p.tables e below (T6.setTop (mkF m 3 #[.val (.ref a0), .val (.int (1 : Int32)), .val (.ref a2), .val (.int (1 : Int32)), .val (.int (1 : Int32)), .val (.int (1 : Int32)), .val (.int pc0)] [])) _
    refine XS.iload X6.here hx rfl (hb hby d5_3) rfl ?_
    show Steps p.tables e below (T6.setTop (mkF m 5 #[.val (.ref a0), .val (.int (1 : Int32)), .val (.ref a2), .val (.int (1 : Int32)), .val (.int (1 : Int32)), .val (.int (1 : Int32)), .val (.int pc0)] [(.int (1 : Int32))])) _
    refine XS.iload X6.here hx rfl (hb hby d5_5) rfl ?_
    show Steps p.tables e below (T6.setTop (mkF m 7 #[.val (.ref a0), .val (.int (1 : Int32)), .val (.ref a2), .val (.int (1 : Int32)), .val (.int (1 : Int32)), .val (.int (1 : Int32)), .val (.int pc0)] [(.int (1 : Int32)), (.int (1 : Int32))])) _
    refine XS.icmpYes X6.here hx rfl (pc0 := 7) (pc' := 44) rfl (hb hby d5_7) rfl (flt (by decide : ¬ ((1 : Int32) < (1 : Int32)))).2.1 (by decide) (by decide) ?_
    show Steps p.tables e below (T6.setTop (mkF m 44 #[.val (.ref a0), .val (.int (1 : Int32)), .val (.ref a2), .val (.int (1 : Int32)), .val (.int (1 : Int32)), .val (.int (1 : Int32)), .val (.int pc0)] [])) _
    refine XS.iload X6.here hx rfl (hb hby d5_44) rfl ?_
    show Steps p.tables e below (T6.setTop (mkF m 46 #[.val (.ref a0), .val (.int (1 : Int32)), .val (.ref a2), .val (.int (1 : Int32)), .val (.int (1 : Int32)), .val (.int (1 : Int32)), .val (.int pc0)] [(.int (1 : Int32))])) _
    exact retI X6 hx Bd.returns (hb hby d5_46) hr
  · show Q5_1 Z a0 a2 kc pc0 k2 h0 n0 _ T6.heap _
    rw [e6]
    exact ⟨rfl, N6, K6, V_a2_6⟩
theorem d4_0 : decode jdk_52_method_16_code 0 = .ok (.iload_n 2, 1) := by decide +kernel
theorem d4_1 : decode jdk_52_method_16_code 1 = .ok (.newarray .byte, 2) := by decide +kernel
theorem d4_3 : decode jdk_52_method_16_code 3 = .ok (.astore_n 3, 1) := by decide +kernel
theorem d4_4 : decode jdk_52_method_16_code 4 = .ok (.aload_n 0, 1) := by decide +kernel
theorem d4_5 : decode jdk_52_method_16_code 5 = .ok (.iload_n 1, 1) := by decide +kernel
theorem d4_6 : decode jdk_52_method_16_code 6 = .ok (.aload_n 3, 1) := by decide +kernel
theorem d4_7 : decode jdk_52_method_16_code 7 = .ok (.iconst 0, 1) := by decide +kernel
theorem d4_8 : decode jdk_52_method_16_code 8 = .ok (.iload_n 2, 1) := by decide +kernel
theorem d4_9 : decode jdk_52_method_16_code 9 = .ok (.invokestatic 115, 3) := by decide +kernel
theorem pd_12 : parseMethodDescriptor "([CI[BII)I" = some ⟨[(.array .char), .int, (.array .byte), .int, .int], some .int⟩ := by decide +kernel
theorem d4_12 : decode jdk_52_method_16_code 12 = .ok (.istore 4, 2) := by decide +kernel
theorem d4_14 : decode jdk_52_method_16_code 14 = .ok (.iload 4, 2) := by decide +kernel
theorem d4_16 : decode jdk_52_method_16_code 16 = .ok (.iload_n 2, 1) := by decide +kernel
theorem d4_17 : decode jdk_52_method_16_code 17 = .ok (.if_icmp .eq 40, 3) := by decide +kernel
theorem d4_57 : decode jdk_52_method_16_code 57 = .ok (.aload_n 3, 1) := by decide +kernel
theorem d4_58 : decode jdk_52_method_16_code 58 = .ok (.areturn, 1) := by decide +kernel
theorem ef_rm4_1 (m : MethodId) (a0 : Addr) : entryFrame m #[(.ref a0), (.int (0 : Int32)), (.int (1 : Int32))] 6 = mkF m 0 #[.val (.ref a0), .val (.int (0 : Int32)), .val (.int (1 : Int32)), .unset, .unset, .unset] [] := by first | (simp [entryFrame, mkF, argsToLocals, Value.category]; done) | rfl
def Q4_1 (Z : State) (a0 : Addr) (kc : ClassId) (pc0 : Int32) (h0 : Heap) (n0 : Nat) (v : Option Value) (h : Heap) (L : List Loc) : Prop := ∃ r0 : Addr, ∃ rk0 : ClassId, v = some (.ref r0) ∧ Fr n0 L ∧ h0.size ≤ r0 ∧ Keep h0 h [] ∧ Exa Z h r0 "[B" ∧ Arv Z h r0 rk0 .byte (1 : Int32) [(.int (pc0.toInt8.toInt32))] (.int (0 : Int32))
set_option maxRecDepth 65536 in
set_option maxHeartbeats 40000000 in
theorem rm4_1 (l : Launch) (Z : State) (az : Array Value) (hw : ∀ d ∈ tables_1, d.before az Z = true) (ws : List Jvm.Cond) (a0 : Addr) (kc : ClassId) (pc0 : Int32) (h0 : Heap) (n0 : Nat) (Z0 : n0 ≤ h0.size) (V_a0 : Arv Z h0 a0 kc .char (1 : Int32) [(.int pc0)] (.int (0 : Int32))) (hc1 : ¬ ((255 : Int32) < pc0)) :
    MetFree l (⟨"java/lang/StringUTF16", "compress", "([CII)[B"⟩ : MethodName) (head1 (Jvm.Cond.code (⟨"java/lang/StringUTF16", "compress", "([CII)[B"⟩ : MethodName) jdk_52_method_16_code 6 (some (.array .byte)) :: ws) ({ frames := 1, cells := 1, slots := 1, locals := 18 } : Room)) (fun a U => a = #[(.ref a0), (.int (0 : Int32)), (.int (1 : Int32))] ∧ Z.Warmed39 U.vm ∧ U.heap = h0) (fun _ _ _ _ _ => True) (fun _ U o U' => ∃ v L, o = .returned v ∧ Q4_1 Z a0 kc pc0 h0 n0 v U'.heap L ∧ FrameEnd U o U' L ({ frames := 1, cells := 1, slots := 1, locals := 18 } : Room).cells ({ frames := 1, cells := 1, slots := 1, locals := 18 } : Room).slots) := by
  refine MetFree.of_bodySF (plainFor_of_name pn_java_lang_StringUTF16) hisR ?_
  intro p e s m args below meth c s₁ Bd hml0 hP hK
  obtain ⟨rfl, hZ, hh⟩ := hP
  have hx := Bd.exec
  have hby := Bd.bytes
  have hml : c.maxLocals = 6 := hml0
  have hown : s.vm.findClass "java/lang/StringUTF16" = some m.cls := findClass_of_methodNamed Bd.named
  have hnm := (name_of_methodNamed Bd.named Bd.method).1
  have X0 : Stand p l e ({ frames := 1, cells := 1, slots := 1, locals := 18 } : Room) s m #[(.ref a0), (.int (0 : Int32)), (.int (1 : Int32))] below meth c s₁ [] 0 0 := Stand.of_body Bd
  have e0 : s₁.heap = h0 := by rw [← hh, Bd.state]; rfl
  have N0 := Fr.nil n0
  have pre0 : ∀ t, Steps p.tables e below (s₁.setTop (mkF m 0 #[.val (.ref a0), .val (.int (0 : Int32)), .val (.int (1 : Int32)), .unset, .unset, .unset] [])) t → Steps p.tables e below (s₁.setTop (entryFrame m #[(.ref a0), (.int (0 : Int32)), (.int (1 : Int32))] 6)) t := fun t k => castTop (ef_rm4_1 m a0) k
  obtain ⟨T1, h1, k1, X1, e1, E1, A1, x1, st1⟩ := newPE X0 hx hZ (hw _ (List.mem_of_getElem? (i := 23) rfl)) e0 (g := (mkF m 1 #[.val (.ref a0), .val (.int (0 : Int32)), .val (.int (1 : Int32)), .unset, .unset, .unset] [(.int (1 : Int32))])) rfl (hb hby d4_1) rfl (by decide) (cap := 1) (by decide) (by decide) (by decide) (by decide) (ad := "[B") (by decide)
  obtain ⟨b1, g1⟩ : ∃ z, z = h0.size := ⟨_, rfl⟩
  rw [← g1] at A1 x1 st1
  have g_b1 : n0 ≤ b1 := Nat.le_trans Z0 (Nat.le_of_eq g1.symm)
  have sz_b1 : h0.size ≤ b1 := Nat.le_trans (Nat.le_refl _) (Nat.le_of_eq g1.symm)
  have Z1 : n0 ≤ h1.size := Nat.le_trans Z0 E1.1
  have K1 : Keep h0 h1 [] := (Keep.refl h0 []).ext E1
  have E_b1 := x1
  have V_b1 : Arv Z h1 b1 k1 .byte (1 : Int32) [(.int (0 : Int32))] (.int (0 : Int32)) := (Arv.new A1 (by decide)).pad (pad_rep [] (.int (0 : Int32)) 1)
  have V_a0_u3 : Arv Z h1 a0 kc .char (1 : Int32) [(.int pc0)] (.int (0 : Int32)) := (V_a0.ext E1)
  obtain ⟨_, _, ⟨T2, L2, k2', n2'⟩, -, X2, ⟨Lc2, hQ2, l2, y2, z2⟩, st2⟩ := Jvm.LawKit.callS X1 hx (y := (⟨"java/lang/StringUTF16", "compress", "([CI[BII)I"⟩ : MethodName)) hown (mvT hZ (hw _ (List.mem_of_getElem? (i := 24) rfl))) (mvT hZ (hw _ (List.mem_of_getElem? (i := 25) rfl))) (mvT hZ (hw _ (List.mem_of_getElem? (i := 21) rfl))) (mvT hZ (hw _ (List.mem_of_getElem? (i := 26) rfl))) (by decide) (backOf (W := 0) (rm5_1 l Z az hw [] a0 b1 kc pc0 k1 h1 n0 Z1 V_a0_u3 V_b1 hc1 g_b1) hZ (hw _ (List.mem_of_getElem? (i := 26) rfl)) (hw _ (List.mem_of_getElem? (i := 21) rfl)) (by decide) (by decide)) (g := (mkF m 9 #[.val (.ref a0), .val (.int (0 : Int32)), .val (.int (1 : Int32)), .val (.ref b1), .unset, .unset] [(.int (1 : Int32)), (.int (0 : Int32)), (.ref b1), (.int (0 : Int32)), (.ref a0)])) rfl (by rw [hml]; rfl) (argsL := [(.ref a0), (.int (0 : Int32)), (.ref b1), (.int (0 : Int32)), (.int (1 : Int32))]) (rest := []) (lenOf pd_12 rfl) rfl (by show 2 * 0 + _ ≤ _; exact Nat.le_of_eq rfl) (hb hby d4_9) (fun _ _ => ⟨rfl, e1, (by decide : 1 + 0 ≤ _), (by decide : 1 + 0 ≤ _)⟩)
  dsimp only [Pt.U, Pt.locs, Pt.cells, Pt.slots] at X2 l2 y2 z2 st2 hQ2
  subst l2 y2 z2
  obtain ⟨rfl, N2q, kq2, pf2_0⟩ := hQ2
  have N2 := Fr.app N0 N2q
  have K2 : Keep h0 T2.heap [] := K1.trans kq2 (allS (Or.inr sz_b1) all0)
  have Z2 : n0 ≤ T2.heap.size := Nat.le_trans Z1 kq2.1
  have E_b1_u4 : Exa Z T2.heap b1 "[B" := (E_b1.keep kq2)
  obtain ⟨fs, hr, hrun, hended, hW, hsame⟩ := X2.leave (v := some (.ref b1)) (fun h => by rw [Bd.returns] at h; cases h)
  refine ⟨_, _, pre0 _ ?_, hrun, hended, _, _, rfl, ?_, ⟨_, rfl⟩, hW, hsame.mono (by decide) (by decide)⟩
  · show Steps p.tables e below (s₁.setTop (mkF m 0 #[.val (.ref a0), .val (.int (0 : Int32)), .val (.int (1 : Int32)), .unset, .unset, .unset] [])) _
    refine XS.iloadN X0.here hx rfl (hb hby d4_0) rfl ?_
    show Steps p.tables e below (s₁.setTop (mkF m 1 #[.val (.ref a0), .val (.int (0 : Int32)), .val (.int (1 : Int32)), .unset, .unset, .unset] [(.int (1 : Int32))])) _
    refine st1 _ ?_
    show Steps p.tables e below (T1.setTop (mkF m 3 #[.val (.ref a0), .val (.int (0 : Int32)), .val (.int (1 : Int32)), .unset, .unset, .unset] [(.ref b1)])) _
    refine XS.astoreN X1.here hx rfl (hb hby d4_3) rfl rfl (l' := #[.val (.ref a0), .val (.int (0 : Int32)), .val (.int (1 : Int32)), .val (.ref b1), .unset, .unset]) rfl ?_
    show Steps p.tables e below (T1.setTop (mkF m 4 #[.val (.ref a0), .val (.int (0 : Int32)), .val (.int (1 : Int32)), .val (.ref b1), .unset, .unset] [])) _
    refine XS.aloadN X1.here hx rfl (hb hby d4_4) rfl rfl ?_
    show Steps p.tables e below (T1.setTop (mkF m 5 #[.val (.ref a0), .val (.int (0 : Int32)), .val (.int (1 : Int32)), .val (.ref b1), .unset, .unset] [(.ref a0)])) _
    refine XS.iloadN X1.here hx rfl (hb hby d4_5) rfl ?_
    show Steps p.tables e below (T1.setTop (mkF m 6 #[.val (.ref a0), .val (.int (0 : Int32)), .val (.int (1 : Int32)), .val (.ref b1), .unset, .unset] [(.int (0 : Int32)), (.ref a0)])) _
    refine XS.aloadN X1.here hx rfl (hb hby d4_6) rfl rfl ?_
    show Steps p.tables e below (T1.setTop (mkF m 7 #[.val (.ref a0), .val (.int (0 : Int32)), .val (.int (1 : Int32)), .val (.ref b1), .unset, .unset] [(.ref b1), (.int (0 : Int32)), (.ref a0)])) _
    refine XS.iconst X1.here hx rfl (hb hby d4_7) ?_
    show Steps p.tables e below (T1.setTop (mkF m 8 #[.val (.ref a0), .val (.int (0 : Int32)), .val (.int (1 : Int32)), .val (.ref b1), .unset, .unset] [(.int (0 : Int32)), (.ref b1), (.int (0 : Int32)), (.ref a0)])) _
    refine XS.iloadN X1.here hx rfl (hb hby d4_8) rfl ?_
    show Steps p.tables e below (T1.setTop (mkF m 9 #[.val (.ref a0), .val (.int (0 : Int32)), .val (.int (1 : Int32)), .val (.ref b1), .unset, .unset] [(.int (1 : Int32)), (.int (0 : Int32)), (.ref b1), (.int (0 : Int32)), (.ref a0)])) _
    refine st2 _ ?_
    show Steps p.tables e below (T2.setTop (mkF m 12 #[.val (.ref a0), .val (.int (0 : Int32)), .val (.int (1 : Int32)), .val (.ref b1), .unset, .unset] [(.int (1 : Int32))])) _
    refine XS.istore X2.here hx rfl (hb hby d4_12) rfl (l' := #[.val (.ref a0), .val (.int (0 : Int32)), .val (.int (1 : Int32)), .val (.ref b1), .val (.int (1 : Int32)), .unset]) rfl ?_
    show Steps p.tables e below (T2.setTop (mkF m 14 #[.val (.ref a0), .val (.int (0 : Int32)), .val (.int (1 : Int32)), .val (.ref b1), .val (.int (1 : Int32)), .unset] [])) _
    refine XS.iload X2.here hx rfl (hb hby d4_14) rfl ?_
    show Steps p.tables e below (T2.setTop (mkF m 16 #[.val (.ref a0), .val (.int (0 : Int32)), .val (.int (1 : Int32)), .val (.ref b1), .val (.int (1 : Int32)), .unset] [(.int (1 : Int32))])) _
    refine XS.iloadN X2.here hx rfl (hb hby d4_16) rfl ?_
    show Steps p.tables e below (T2.setTop (mkF m 17 #[.val (.ref a0), .val (.int (0 : Int32)), .val (.int (1 : Int32)), .val (.ref b1), .val (.int (1 : Int32)), .unset] [(.int (1 : Int32)), (.int (1 : Int32))])) _
    refine XS.icmpYes X2.here hx rfl (pc0 := 17) (pc' := 57) rfl (hb hby d4_17) rfl (teq (by decide : (1 : Int32) = (1 : Int32))).1 (by decide) (by decide) ?_
    show Steps p.tables e below (T2.setTop (mkF m 57 #[.val (.ref a0), .val (.int (0 : Int32)), .val (.int (1 : Int32)), .val (.ref b1), .val (.int (1 : Int32)), .unset] [])) _
    refine XS.aloadN X2.here hx rfl (hb hby d4_57) rfl rfl ?_
    show Steps p.tables e below (T2.setTop (mkF m 58 #[.val (.ref a0), .val (.int (0 : Int32)), .val (.int (1 : Int32)), .val (.ref b1), .val (.int (1 : Int32)), .unset] [(.ref b1)])) _
    jvm_step X2.here [X2.here.top, hx, (hb hby d4_58), X2.method', Bd.returns, Value.isRef, FieldType.isReference]
    first | (intro acts; rw [hr _ acts rfl rfl rfl]) | rw [hr _ _ rfl rfl rfl]
    exact Steps.refl _
  · show Q4_1 Z a0 kc pc0 h0 n0 _ T2.heap _
    exact ⟨b1, k1, rfl, N2, sz_b1, K2, E_b1_u4, pf2_0⟩
theorem d6_0 : decode jdk_52_method_15_code 0 = .ok (.iload_n 1, 1) := by decide +kernel
theorem d6_1 : decode jdk_52_method_15_code 1 = .ok (.aload_n 0, 1) := by decide +kernel
theorem d6_2 : decode jdk_52_method_15_code 2 = .ok (.arraylength, 1) := by decide +kernel
theorem d6_3 : decode jdk_52_method_15_code 3 = .ok (.isub, 1) := by decide +kernel
theorem d6_4 : decode jdk_52_method_15_code 4 = .ok (.bipush 31, 2) := by decide +kernel
theorem d6_6 : decode jdk_52_method_15_code 6 = .ok (.iushr, 1) := by decide +kernel
theorem d6_7 : decode jdk_52_method_15_code 7 = .ok (.i2b, 1) := by decide +kernel
theorem d6_8 : decode jdk_52_method_15_code 8 = .ok (.ireturn, 1) := by decide +kernel
theorem ef_rm6_1 (m : MethodId) (a0 : Addr) : entryFrame m #[(.ref a0), (.int (1 : Int32))] 2 = mkF m 0 #[.val (.ref a0), .val (.int (1 : Int32))] [] := by first | (simp [entryFrame, mkF, argsToLocals, Value.category]; done) | rfl
def Q6_1 (Z : State) (a0 : Addr) (k0 : ClassId) (pb0 : Int32) (h0 : Heap) (n0 : Nat) (v : Option Value) (h : Heap) (L : List Loc) : Prop := v = some (.int (0 : Int32)) ∧ Fr n0 L ∧ h = h0
set_option maxRecDepth 65536 in
set_option maxHeartbeats 40000000 in
theorem rm6_1 (l : Launch) (Z : State) (az : Array Value) (hw : ∀ d ∈ tables_1, d.before az Z = true) (ws : List Jvm.Cond) (a0 : Addr) (k0 : ClassId) (pb0 : Int32) (h0 : Heap) (n0 : Nat) (Z0 : n0 ≤ h0.size) (V_a0 : Arv Z h0 a0 k0 .byte (1 : Int32) [(.int pb0)] (.int (0 : Int32))) :
    MetFree l (⟨"java/lang/StringUTF16", "coderFromArrayLen", "([BI)B"⟩ : MethodName) (head1 (Jvm.Cond.code (⟨"java/lang/StringUTF16", "coderFromArrayLen", "([BI)B"⟩ : MethodName) jdk_52_method_15_code 2 (some .byte) :: ws) ({ frames := 0, cells := 0, slots := 0, locals := 0 } : Room)) (fun a U => a = #[(.ref a0), (.int (1 : Int32))] ∧ Z.Warmed39 U.vm ∧ U.heap = h0) (fun _ _ _ _ _ => True) (fun _ U o U' => ∃ v L, o = .returned v ∧ Q6_1 Z a0 k0 pb0 h0 n0 v U'.heap L ∧ FrameEnd U o U' L ({ frames := 0, cells := 0, slots := 0, locals := 0 } : Room).cells ({ frames := 0, cells := 0, slots := 0, locals := 0 } : Room).slots) := by
  refine MetFree.of_bodySF (plainFor_of_name pn_java_lang_StringUTF16) hisR ?_
  intro p e s m args below meth c s₁ Bd hml0 hP hK
  obtain ⟨rfl, hZ, hh⟩ := hP
  have hx := Bd.exec
  have hby := Bd.bytes
  have hml : c.maxLocals = 2 := hml0
  have hown : s.vm.findClass "java/lang/StringUTF16" = some m.cls := findClass_of_methodNamed Bd.named
  have hnm := (name_of_methodNamed Bd.named Bd.method).1
  have X0 : Stand p l e ({ frames := 0, cells := 0, slots := 0, locals := 0 } : Room) s m #[(.ref a0), (.int (1 : Int32))] below meth c s₁ [] 0 0 := Stand.of_body Bd
  have e0 : s₁.heap = h0 := by rw [← hh, Bd.state]; rfl
  have N0 := Fr.nil n0
  have pre0 : ∀ t, Steps p.tables e below (s₁.setTop (mkF m 0 #[.val (.ref a0), .val (.int (1 : Int32))] [])) t → Steps p.tables e below (s₁.setTop (entryFrame m #[(.ref a0), (.int (1 : Int32))] 2)) t := fun t k => castTop (ef_rm6_1 m a0) k
  obtain ⟨cl1, Ar1, qk1, Sz1, Ng1, Hs1, Gf1⟩ := id V_a0
  obtain ⟨fs, hr, hrun, hended, hW, hsame⟩ := X0.leave (v := some (.int (0 : Int32))) (fun h => by rw [Bd.returns] at h; cases h)
  refine ⟨_, _, pre0 _ ?_, hrun, hended, _, _, rfl, ?_, ⟨_, rfl⟩, hW, hsame.mono (by decide) (by decide)⟩
  · show Steps p.tables e below (s₁.setTop (mkF m 0 #[.val (.ref a0), .val (.int (1 : Int32))] [])) _
    refine XS.iloadN X0.here hx rfl (hb hby d6_0) rfl ?_
    show Steps p.tables e below (s₁.setTop (mkF m 1 #[.val (.ref a0), .val (.int (1 : Int32))] [(.int (1 : Int32))])) _
    refine XS.aloadN X0.here hx rfl (hb hby d6_1) rfl rfl ?_
    show Steps p.tables e below (s₁.setTop (mkF m 2 #[.val (.ref a0), .val (.int (1 : Int32))] [(.ref a0), (.int (1 : Int32))])) _
    refine X0.arraylength hx (by rw [e0]; exact Ar1.1) (State.isArrayOf_alike hZ.alike Ar1.2.1) (g := (mkF m 2 #[.val (.ref a0), .val (.int (1 : Int32))] [(.ref a0), (.int (1 : Int32))])) rfl rfl (hb hby d6_2) _ ?_
    rw [len_of Sz1 Ng1]
    show Steps p.tables e below (s₁.setTop (mkF m 3 #[.val (.ref a0), .val (.int (1 : Int32))] [(.int (1 : Int32)), (.int (1 : Int32))])) _
    refine XS.isub X0.here hx rfl (hb hby d6_3) rfl ?_
    show Steps p.tables e below (s₁.setTop (mkF m 4 #[.val (.ref a0), .val (.int (1 : Int32))] [(.int (0 : Int32))])) _
    refine XS.bipush X0.here hx rfl (hb hby d6_4) ?_
    show Steps p.tables e below (s₁.setTop (mkF m 6 #[.val (.ref a0), .val (.int (1 : Int32))] [(.int (31 : Int32)), (.int (0 : Int32))])) _
    refine XS.iushr X0.here hx rfl (hb hby d6_6) rfl ?_
    show Steps p.tables e below (s₁.setTop (mkF m 7 #[.val (.ref a0), .val (.int (1 : Int32))] [(.int (0 : Int32))])) _
    refine XS.i2b X0.here hx rfl (hb hby d6_7) rfl ?_
    show Steps p.tables e below (s₁.setTop (mkF m 8 #[.val (.ref a0), .val (.int (1 : Int32))] [(.int (0 : Int32))])) _
    exact retN X0 hx (t := .byte) Bd.returns (by simp) (hb hby d6_8) hr
  · show Q6_1 Z a0 k0 pb0 h0 n0 _ s₁.heap _
    rw [e0]
    exact ⟨rfl, N0, rfl⟩
theorem d2_0 : decode jdk_42_method_149_code 0 = .ok (.aload_n 0, 1) := by decide +kernel
theorem d2_1 : decode jdk_42_method_149_code 1 = .ok (.invokespecial 1, 3) := by decide +kernel
theorem d2_4 : decode jdk_42_method_149_code 4 = .ok (.iload_n 3, 1) := by decide +kernel
theorem d2_5 : decode jdk_42_method_149_code 5 = .ok (.ifCond .ne 22, 3) := by decide +kernel
theorem d2_27 : decode jdk_42_method_149_code 27 = .ok (.getstatic 38, 3) := by decide +kernel
theorem d2_30 : decode jdk_42_method_149_code 30 = .ok (.ifCond .eq 28, 3) := by decide +kernel
theorem d2_33 : decode jdk_42_method_149_code 33 = .ok (.aload_n 1, 1) := by decide +kernel
theorem d2_34 : decode jdk_42_method_149_code 34 = .ok (.iload_n 2, 1) := by decide +kernel
theorem d2_35 : decode jdk_42_method_149_code 35 = .ok (.iload_n 3, 1) := by decide +kernel
theorem d2_36 : decode jdk_42_method_149_code 36 = .ok (.invokestatic 177, 3) := by decide +kernel
theorem pd_13 : parseMethodDescriptor "([CII)[B" = some ⟨[(.array .char), .int, .int], some (.array .byte)⟩ := by decide +kernel
theorem d2_39 : decode jdk_42_method_149_code 39 = .ok (.astore 5, 2) := by decide +kernel
theorem d2_41 : decode jdk_42_method_149_code 41 = .ok (.aload_n 0, 1) := by decide +kernel
theorem d2_42 : decode jdk_42_method_149_code 42 = .ok (.aload 5, 2) := by decide +kernel
theorem d2_44 : decode jdk_42_method_149_code 44 = .ok (.iload_n 3, 1) := by decide +kernel
theorem d2_45 : decode jdk_42_method_149_code 45 = .ok (.invokestatic 47, 3) := by decide +kernel
theorem pd_14 : parseMethodDescriptor "([BI)B" = some ⟨[(.array .byte), .int], some .byte⟩ := by decide +kernel
theorem d2_48 : decode jdk_42_method_149_code 48 = .ok (.putfield 15, 3) := by decide +kernel
theorem d2_51 : decode jdk_42_method_149_code 51 = .ok (.aload_n 0, 1) := by decide +kernel
theorem d2_52 : decode jdk_42_method_149_code 52 = .ok (.aload 5, 2) := by decide +kernel
theorem d2_54 : decode jdk_42_method_149_code 54 = .ok (.putfield 9, 3) := by decide +kernel
theorem d2_57 : decode jdk_42_method_149_code 57 = .ok (.return_, 1) := by decide +kernel
theorem ef_rm2_1 (m : MethodId) (a0 : Addr) (a1 : Addr) : entryFrame m #[(.ref a0), (.ref a1), (.int (0 : Int32)), (.int (1 : Int32)), .null] 6 = mkF m 0 #[.val (.ref a0), .val (.ref a1), .val (.int (0 : Int32)), .val (.int (1 : Int32)), .val .null, .unset] [] := by first | (simp [entryFrame, mkF, argsToLocals, Value.category]; done) | rfl
def Q2_1 (Z : State) (a0 : Addr) (a1 : Addr) (kc : ClassId) (pc0 : Int32) (s_COMPACT_STRINGS : Int32) (h0 : Heap) (n0 : Nat) (v : Option Value) (h : Heap) (L : List Loc) : Prop := ∃ r0 : Addr, ∃ rk0 : ClassId, v = none ∧ Fr n0 L ∧ h0.size ≤ r0 ∧ Keep h0 h [a0] ∧ Exa Z h a0 "java/lang/String" ∧ Fld Z h a0 "java/lang/String" "coder" "B" (.int (0 : Int32)) ∧ Fld Z h a0 "java/lang/String" "value" "[B" (.ref r0) ∧ Exa Z h r0 "[B" ∧ Arv Z h r0 rk0 .byte (1 : Int32) [(.int (pc0.toInt8.toInt32))] (.int (0 : Int32))
set_option maxRecDepth 65536 in
set_option maxHeartbeats 40000000 in
theorem rm2_1 (l : Launch) (Z : State) (az : Array Value) (hw : ∀ d ∈ tables_1, d.before az Z = true) (ws : List Jvm.Cond) (a0 : Addr) (a1 : Addr) (kc : ClassId) (pc0 : Int32) (s_COMPACT_STRINGS : Int32) (h0 : Heap) (n0 : Nat) (Z0 : n0 ≤ h0.size) (E_a0 : Exa Z h0 a0 "java/lang/String") (F_coder_a0 : Fld Z h0 a0 "java/lang/String" "coder" "B" (.int (0 : Int32))) (F_value_a0 : Fld Z h0 a0 "java/lang/String" "value" "[B" .null) (V_a1 : Arv Z h0 a1 kc .char (1 : Int32) [(.int pc0)] (.int (0 : Int32))) (S_COMPACT_STRINGS : Sta Z h0 "java/lang/String" "COMPACT_STRINGS" "Z" (.int s_COMPACT_STRINGS)) (hc5 : ¬ (s_COMPACT_STRINGS = (0 : Int32))) (hc6 : ¬ ((255 : Int32) < pc0)) (g_a0 : n0 ≤ a0) :
    MetFree l (⟨"java/lang/String", "<init>", "([CIILjava/lang/Void;)V"⟩ : MethodName) (head1 (Jvm.Cond.code (⟨"java/lang/String", "<init>", "([CIILjava/lang/Void;)V"⟩ : MethodName) jdk_42_method_149_code 6 none :: ws) ({ frames := 2, cells := 1, slots := 1, locals := 35 } : Room)) (fun a U => a = #[(.ref a0), (.ref a1), (.int (0 : Int32)), (.int (1 : Int32)), .null] ∧ Z.Warmed39 U.vm ∧ U.heap = h0) (fun _ _ _ _ _ => True) (fun _ U o U' => ∃ v L, o = .returned v ∧ Q2_1 Z a0 a1 kc pc0 s_COMPACT_STRINGS h0 n0 v U'.heap L ∧ FrameEnd U o U' L ({ frames := 2, cells := 1, slots := 1, locals := 35 } : Room).cells ({ frames := 2, cells := 1, slots := 1, locals := 35 } : Room).slots) := by
  refine MetFree.of_bodySF (plainFor_of_name pn_java_lang_String) hisR ?_
  intro p e s m args below meth c s₁ Bd hml0 hP hK
  obtain ⟨rfl, hZ, hh⟩ := hP
  have hx := Bd.exec
  have hby := Bd.bytes
  have hml : c.maxLocals = 6 := hml0
  have hown : s.vm.findClass "java/lang/String" = some m.cls := findClass_of_methodNamed Bd.named
  have hnm := (name_of_methodNamed Bd.named Bd.method).1
  have X0 : Stand p l e ({ frames := 2, cells := 1, slots := 1, locals := 35 } : Room) s m #[(.ref a0), (.ref a1), (.int (0 : Int32)), (.int (1 : Int32)), .null] below meth c s₁ [] 0 0 := Stand.of_body Bd
  have e0 : s₁.heap = h0 := by rw [← hh, Bd.state]; rfl
  have N0 := Fr.nil n0
  have pre0 : ∀ t, Steps p.tables e below (s₁.setTop (mkF m 0 #[.val (.ref a0), .val (.ref a1), .val (.int (0 : Int32)), .val (.int (1 : Int32)), .val .null, .unset] [])) t → Steps p.tables e below (s₁.setTop (entryFrame m #[(.ref a0), (.ref a1), (.int (0 : Int32)), (.int (1 : Int32)), .null] 6)) t := fun t k => castTop (ef_rm2_1 m a0 a1) k
  obtain ⟨T1, X1, e1, st1⟩ := initO X0 hx hZ hown (hw _ (List.mem_of_getElem? (i := 15) rfl)) (hw _ (List.mem_of_getElem? (i := 16) rfl)) (hw _ (List.mem_of_getElem? (i := 17) rfl)) e0 (g := (mkF m 1 #[.val (.ref a0), .val (.ref a1), .val (.int (0 : Int32)), .val (.int (1 : Int32)), .val .null, .unset] [(.ref a0)])) rfl (by rw [hml]; rfl) rfl (hb hby d2_1) (by decide) (W := 0) (by show 2 * 0 + _ ≤ _; exact Nat.le_of_eq rfl) (by decide)
  obtain ⟨T2, X2, e2, st2⟩ := getS2 X1 hx hZ hown (host := "") (Or.inl (hw _ (List.mem_of_getElem? (i := 18) rfl))) Via.refl e1 S_COMPACT_STRINGS (g := (mkF m 27 #[.val (.ref a0), .val (.ref a1), .val (.int (0 : Int32)), .val (.int (1 : Int32)), .val .null, .unset] [])) rfl (hb hby d2_27)
  obtain ⟨_, _, ⟨T3, L3, k3', n3'⟩, -, X3, ⟨Lc3, hQ3, l3, y3, z3⟩, st3⟩ := Jvm.LawKit.callS X2 hx (y := (⟨"java/lang/StringUTF16", "compress", "([CII)[B"⟩ : MethodName)) hown (mvT hZ (hw _ (List.mem_of_getElem? (i := 19) rfl))) (mvT hZ (hw _ (List.mem_of_getElem? (i := 20) rfl))) (mvT hZ (hw _ (List.mem_of_getElem? (i := 21) rfl))) (mvT hZ (hw _ (List.mem_of_getElem? (i := 22) rfl))) (by decide) (backOf (W := 0) (rm4_1 l Z az hw [] a1 kc pc0 h0 n0 Z0 V_a1 hc6) hZ (hw _ (List.mem_of_getElem? (i := 22) rfl)) (hw _ (List.mem_of_getElem? (i := 21) rfl)) (by decide) (by decide)) (g := (mkF m 36 #[.val (.ref a0), .val (.ref a1), .val (.int (0 : Int32)), .val (.int (1 : Int32)), .val .null, .unset] [(.int (1 : Int32)), (.int (0 : Int32)), (.ref a1)])) rfl (by rw [hml]; rfl) (argsL := [(.ref a1), (.int (0 : Int32)), (.int (1 : Int32))]) (rest := []) (lenOf pd_13 rfl) rfl (by show 2 * 0 + _ ≤ _; exact Nat.le_of_eq rfl) (hb hby d2_36) (fun _ _ => ⟨rfl, e2, (by decide : 0 + 1 ≤ _), (by decide : 0 + 1 ≤ _)⟩)
  dsimp only [Pt.U, Pt.locs, Pt.cells, Pt.slots] at X3 l3 y3 z3 st3 hQ3
  subst l3 y3 z3
  obtain ⟨b3_0, kk3_0, rfl, N3q, s3_0, kq3, pf3_0, pf3_1⟩ := hQ3
  have N3 := Fr.app N0 N3q
  have g_b3_0 : n0 ≤ b3_0 := Nat.le_trans Z0 s3_0
  have sz_b3_0 : h0.size ≤ b3_0 := Nat.le_trans (Nat.le_refl _) s3_0
  have K3 : Keep h0 T3.heap [a0] := (Keep.refl h0 [a0]).trans kq3 all0
  have Z3 : n0 ≤ T3.heap.size := Nat.le_trans Z0 kq3.1
  obtain ⟨_, _, ⟨T4, L4, k4', n4'⟩, -, X4, ⟨Lc4, hQ4, l4, y4, z4⟩, st4⟩ := Jvm.LawKit.callS X3 hx (y := (⟨"java/lang/StringUTF16", "coderFromArrayLen", "([BI)B"⟩ : MethodName)) hown (mvT hZ (hw _ (List.mem_of_getElem? (i := 27) rfl))) (mvT hZ (hw _ (List.mem_of_getElem? (i := 28) rfl))) (mvT hZ (hw _ (List.mem_of_getElem? (i := 21) rfl))) (mvT hZ (hw _ (List.mem_of_getElem? (i := 29) rfl))) (by decide) (backOf (W := 1) (rm6_1 l Z az hw [] b3_0 kk3_0 (pc0.toInt8.toInt32) T3.heap n0 Z3 pf3_1) hZ (hw _ (List.mem_of_getElem? (i := 29) rfl)) (hw _ (List.mem_of_getElem? (i := 21) rfl)) (by decide) (by decide)) (g := (mkF m 45 #[.val (.ref a0), .val (.ref a1), .val (.int (0 : Int32)), .val (.int (1 : Int32)), .val .null, .val (.ref b3_0)] [(.int (1 : Int32)), (.ref b3_0), (.ref a0)])) rfl (by rw [hml]; rfl) (argsL := [(.ref b3_0), (.int (1 : Int32))]) (rest := [(.ref a0)]) (lenOf pd_14 rfl) rfl (by show 2 * 0 + _ ≤ _; exact Nat.le_of_eq rfl) (hb hby d2_45) (fun _ _ => ⟨rfl, rfl, (by decide : 1 + 0 ≤ _), (by decide : 1 + 0 ≤ _)⟩)
  dsimp only [Pt.U, Pt.locs, Pt.cells, Pt.slots] at X4 l4 y4 z4 st4 hQ4
  subst l4 y4 z4
  obtain ⟨rfl, N4q, e4⟩ := hQ4
  have N4 := Fr.app N3 N4q
  have F_a0_coder_u5 : Fld Z T3.heap a0 "java/lang/String" "coder" "B" (.int (0 : Int32)) := (F_coder_a0.keep kq3 nin0)
  have E_a0_u6 : Exa Z T3.heap a0 "java/lang/String" := (E_a0.keep kq3)
  obtain ⟨T7, h7, X7, e7, W7, st7⟩ := putFN X4 hx hZ hown (hw _ (List.mem_of_getElem? (i := 30) rfl)) Via.refl e4 F_a0_coder_u5 E_a0_u6 (Or.inr ⟨(hw _ (List.mem_of_getElem? (i := 31) rfl)), rfl, hnm⟩) (hw _ (List.mem_of_getElem? (i := 6) rfl)) (ty := .byte) (v := (.int (0 : Int32))) (v' := (.int (0 : Int32))) (by decide) (by decide) (by decide) (g := (mkF m 48 #[.val (.ref a0), .val (.ref a1), .val (.int (0 : Int32)), .val (.int (1 : Int32)), .val .null, .val (.ref b3_0)] [(.int (0 : Int32)), (.ref a0)])) rfl rfl (hb hby d2_48)
  have K7 : Keep h0 h7 [a0] := K3.wr W7 (Or.inl (List.mem_of_getElem? (i := 0) rfl))
  have Fw7 := F_a0_coder_u5.same W7
  have Z7 : n0 ≤ h7.size := Nat.le_trans Z3 (Keep.of_wr W7).1
  have N7 := Fr.snoc X7 N4 g_a0
  have F_a0_value_u8 : Fld Z h7 a0 "java/lang/String" "value" "[B" .null := ((F_value_a0.keep kq3 nin0).other W7 (Or.inr (slot_ne (Or.inr (hw _ (List.mem_of_getElem? (i := 33) rfl))) (Or.inr (hw _ (List.mem_of_getElem? (i := 31) rfl))) (by decide) (t := (.array .byte)) (t' := .byte) (by decide) (by decide))))
  have E_a0_u9 : Exa Z h7 a0 "java/lang/String" := (E_a0_u6.wr W7)
  obtain ⟨T10, h10, X10, e10, W10, st10⟩ := putF X7 hx hZ hown (host := "") (Or.inl (hw _ (List.mem_of_getElem? (i := 32) rfl))) Via.refl e7 F_a0_value_u8 E_a0_u9 (Or.inr ⟨(hw _ (List.mem_of_getElem? (i := 33) rfl)), rfl, hnm⟩) (hw _ (List.mem_of_getElem? (i := 6) rfl)) (ty := (.array .byte)) (by decide) rfl rfl (g := (mkF m 54 #[.val (.ref a0), .val (.ref a1), .val (.int (0 : Int32)), .val (.int (1 : Int32)), .val .null, .val (.ref b3_0)] [(.ref b3_0), (.ref a0)])) rfl rfl (hb hby d2_54)
  have K10 : Keep h0 h10 [a0] := K7.wr W10 (Or.inl (List.mem_of_getElem? (i := 0) rfl))
  have Fw10 := F_a0_value_u8.same W10
  have Z10 : n0 ≤ h10.size := Nat.le_trans Z7 (Keep.of_wr W10).1
  have N10 := Fr.snoc X10 N7 g_a0
  have E_a0_u11 : Exa Z h10 a0 "java/lang/String" := (E_a0_u9.wr W10)
  have F_a0_coder_u12 : Fld Z h10 a0 "java/lang/String" "coder" "B" (.int (0 : Int32)) := (Fw7.other W10 (Or.inr (slot_ne (Or.inr (hw _ (List.mem_of_getElem? (i := 31) rfl))) (Or.inr (hw _ (List.mem_of_getElem? (i := 33) rfl))) (by decide) (t := .byte) (t' := (.array .byte)) (by decide) (by decide))))
  have E_b3_0_u13 : Exa Z h10 b3_0 "[B" := ((pf3_0.wr W7).wr W10)
  have ne_a0_b3_0 : a0 ≠ b3_0 := own_ne (Nat.lt_of_lt_of_le E_a0.lt s3_0)
  have V_b3_0_u14 : Arv Z h10 b3_0 kk3_0 .byte (1 : Int32) [(.int (pc0.toInt8.toInt32))] (.int (0 : Int32)) := ((pf3_1.other W7 (Ne.symm ne_a0_b3_0)).other W10 (Ne.symm ne_a0_b3_0))
  obtain ⟨fs, hr, hrun, hended, hW, hsame⟩ := X10.leave (v := none) (fun _ => rfl)
  refine ⟨_, _, pre0 _ ?_, hrun, hended, _, _, rfl, ?_, ⟨_, rfl⟩, hW, hsame.mono (by decide) (by decide)⟩
  · show Steps p.tables e below (s₁.setTop (mkF m 0 #[.val (.ref a0), .val (.ref a1), .val (.int (0 : Int32)), .val (.int (1 : Int32)), .val .null, .unset] [])) _
    refine XS.aloadN X0.here hx rfl (hb hby d2_0) rfl rfl ?_
    show Steps p.tables e below (s₁.setTop (mkF m 1 #[.val (.ref a0), .val (.ref a1), .val (.int (0 : Int32)), .val (.int (1 : Int32)), .val .null, .unset] [(.ref a0)])) _
    refine st1 _ ?_
    show Steps p.tables e below (T1.setTop (mkF m 4 #[.val (.ref a0), .val (.ref a1), .val (.int (0 : Int32)), .val (.int (1 : Int32)), .val .null, .unset] [])) _
    refine XS.iloadN X1.here hx rfl (hb hby d2_4) rfl ?_
    show Steps p.tables e below (T1.setTop (mkF m 5 #[.val (.ref a0), .val (.ref a1), .val (.int (0 : Int32)), .val (.int (1 : Int32)), .val .null, .unset] [(.int (1 : Int32))])) _
    refine XS.ifYes X1.here hx rfl (pc0 := 5) (pc' := 27) rfl (hb hby d2_5) rfl ((if0 _ _).trans (feq (by decide : ¬ ((1 : Int32) = (0 : Int32)))).2) (by decide) (by decide) ?_
    show Steps p.tables e below (T1.setTop (mkF m 27 #[.val (.ref a0), .val (.ref a1), .val (.int (0 : Int32)), .val (.int (1 : Int32)), .val .null, .unset] [])) _
    refine st2 _ ?_
    show Steps p.tables e below (T2.setTop (mkF m 30 #[.val (.ref a0), .val (.ref a1), .val (.int (0 : Int32)), .val (.int (1 : Int32)), .val .null, .unset] [(.int s_COMPACT_STRINGS)])) _
    refine XS.ifNo X2.here hx rfl (hb hby d2_30) rfl ((if0 _ _).trans (feq hc5).1) ?_
    show Steps p.tables e below (T2.setTop (mkF m 33 #[.val (.ref a0), .val (.ref a1), .val (.int (0 : Int32)), .val (.int (1 : Int32)), .val .null, .unset] [])) _
    refine XS.aloadN X2.here hx rfl (hb hby d2_33) rfl rfl ?_
    show Steps p.tables e below (T2.setTop (mkF m 34 #[.val (.ref a0), .val (.ref a1), .val (.int (0 : Int32)), .val (.int (1 : Int32)), .val .null, .unset] [(.ref a1)])) _
    refine XS.iloadN X2.here hx rfl (hb hby d2_34) rfl ?_
    show Steps p.tables e below (T2.setTop (mkF m 35 #[.val (.ref a0), .val (.ref a1), .val (.int (0 : Int32)), .val (.int (1 : Int32)), .val .null, .unset] [(.int (0 : Int32)), (.ref a1)])) _
    refine XS.iloadN X2.here hx rfl (hb hby d2_35) rfl ?_
    show Steps p.tables e below (T2.setTop (mkF m 36 #[.val (.ref a0), .val (.ref a1), .val (.int (0 : Int32)), .val (.int (1 : Int32)), .val .null, .unset] [(.int (1 : Int32)), (.int (0 : Int32)), (.ref a1)])) _
    refine st3 _ ?_
    show Steps p.tables e below (T3.setTop (mkF m 39 #[.val (.ref a0), .val (.ref a1), .val (.int (0 : Int32)), .val (.int (1 : Int32)), .val .null, .unset] [(.ref b3_0)])) _
    refine XS.astore X3.here hx rfl (hb hby d2_39) rfl rfl (l' := #[.val (.ref a0), .val (.ref a1), .val (.int (0 : Int32)), .val (.int (1 : Int32)), .val .null, .val (.ref b3_0)]) rfl ?_
    show Steps p.tables e below (T3.setTop (mkF m 41 #[.val (.ref a0), .val (.ref a1), .val (.int (0 : Int32)), .val (.int (1 : Int32)), .val .null, .val (.ref b3_0)] [])) _
    refine XS.aloadN X3.here hx rfl (hb hby d2_41) rfl rfl ?_
    show Steps p.tables e below (T3.setTop (mkF m 42 #[.val (.ref a0), .val (.ref a1), .val (.int (0 : Int32)), .val (.int (1 : Int32)), .val .null, .val (.ref b3_0)] [(.ref a0)])) _
    refine XS.aload X3.here hx rfl (hb hby d2_42) rfl rfl ?_
    show Steps p.tables e below (T3.setTop (mkF m 44 #[.val (.ref a0), .val (.ref a1), .val (.int (0 : Int32)), .val (.int (1 : Int32)), .val .null, .val (.ref b3_0)] [(.ref b3_0), (.ref a0)])) _
    refine XS.iloadN X3.here hx rfl (hb hby d2_44) rfl ?_
    show Steps p.tables e below (T3.setTop (mkF m 45 #[.val (.ref a0), .val (.ref a1), .val (.int (0 : Int32)), .val (.int (1 : Int32)), .val .null, .val (.ref b3_0)] [(.int (1 : Int32)), (.ref b3_0), (.ref a0)])) _
    refine st4 _ ?_
    show Steps p.tables e below (T4.setTop (mkF m 48 #[.val (.ref a0), .val (.ref a1), .val (.int (0 : Int32)), .val (.int (1 : Int32)), .val .null, .val (.ref b3_0)] [(.int (0 : Int32)), (.ref a0)])) _
    refine st7 _ ?_
    show Steps p.tables e below (T7.setTop (mkF m 51 #[.val (.ref a0), .val (.ref a1), .val (.int (0 : Int32)), .val (.int (1 : Int32)), .val .null, .val (.ref b3_0)] [])) _
    refine XS.aloadN X7.here hx rfl (hb hby d2_51) rfl rfl ?_
    show Steps p.tables e below (T7.setTop (mkF m 52 #[.val (.ref a0), .val (.ref a1), .val (.int (0 : Int32)), .val (.int (1 : Int32)), .val .null, .val (.ref b3_0)] [(.ref a0)])) _
    refine XS.aload X7.here hx rfl (hb hby d2_52) rfl rfl ?_
    show Steps p.tables e below (T7.setTop (mkF m 54 #[.val (.ref a0), .val (.ref a1), .val (.int (0 : Int32)), .val (.int (1 : Int32)), .val .null, .val (.ref b3_0)] [(.ref b3_0), (.ref a0)])) _
    refine st10 _ ?_
    show Steps p.tables e below (T10.setTop (mkF m 57 #[.val (.ref a0), .val (.ref a1), .val (.int (0 : Int32)), .val (.int (1 : Int32)), .val .null, .val (.ref b3_0)] [])) _
    exact X10.returnOut hx Bd.returns (hb hby d2_57) hr
  · show Q2_1 Z a0 a1 kc pc0 s_COMPACT_STRINGS h0 n0 _ T10.heap _
    rw [e10]
    exact ⟨b3_0, kk3_0, rfl, N10, sz_b3_0, K10, E_a0_u11, F_a0_coder_u12, Fw10, E_b3_0_u13, V_b3_0_u14⟩
theorem d1_0 : decode jdk_42_method_3_code 0 = .ok (.aload_n 0, 1) := by decide +kernel
theorem d1_1 : decode jdk_42_method_3_code 1 = .ok (.aload_n 1, 1) := by decide +kernel
theorem d1_2 : decode jdk_42_method_3_code 2 = .ok (.iconst 0, 1) := by decide +kernel
theorem d1_3 : decode jdk_42_method_3_code 3 = .ok (.aload_n 1, 1) := by decide +kernel
theorem d1_4 : decode jdk_42_method_3_code 4 = .ok (.arraylength, 1) := by decide +kernel
theorem d1_5 : decode jdk_42_method_3_code 5 = .ok (.aconst_null, 1) := by decide +kernel
theorem d1_6 : decode jdk_42_method_3_code 6 = .ok (.invokespecial 27, 3) := by decide +kernel
theorem pd_15 : parseMethodDescriptor "([CIILjava/lang/Void;)V" = some ⟨[(.array .char), .int, .int, (.object "java/lang/Void")], none⟩ := by decide +kernel
theorem d1_9 : decode jdk_42_method_3_code 9 = .ok (.return_, 1) := by decide +kernel
theorem ef_rm1_1 (m : MethodId) (a0 : Addr) (a1 : Addr) : entryFrame m #[(.ref a0), (.ref a1)] 2 = mkF m 0 #[.val (.ref a0), .val (.ref a1)] [] := by first | (simp [entryFrame, mkF, argsToLocals, Value.category]; done) | rfl
def Q1_1 (Z : State) (a0 : Addr) (a1 : Addr) (kc : ClassId) (pc0 : Int32) (s_COMPACT_STRINGS : Int32) (h0 : Heap) (n0 : Nat) (v : Option Value) (h : Heap) (L : List Loc) : Prop := ∃ r0 : Addr, ∃ rk0 : ClassId, v = none ∧ Fr n0 L ∧ h0.size ≤ r0 ∧ Keep h0 h [a0] ∧ Exa Z h a0 "java/lang/String" ∧ Fld Z h a0 "java/lang/String" "coder" "B" (.int (0 : Int32)) ∧ Fld Z h a0 "java/lang/String" "value" "[B" (.ref r0) ∧ Exa Z h r0 "[B" ∧ Arv Z h r0 rk0 .byte (1 : Int32) [(.int (pc0.toInt8.toInt32))] (.int (0 : Int32))
set_option maxRecDepth 65536 in
set_option maxHeartbeats 40000000 in
theorem rm1_1 (l : Launch) (Z : State) (az : Array Value) (hw : ∀ d ∈ tables_1, d.before az Z = true) (ws : List Jvm.Cond) (a0 : Addr) (a1 : Addr) (kc : ClassId) (pc0 : Int32) (s_COMPACT_STRINGS : Int32) (h0 : Heap) (n0 : Nat) (Z0 : n0 ≤ h0.size) (E_a0 : Exa Z h0 a0 "java/lang/String") (F_coder_a0 : Fld Z h0 a0 "java/lang/String" "coder" "B" (.int (0 : Int32))) (F_value_a0 : Fld Z h0 a0 "java/lang/String" "value" "[B" .null) (V_a1 : Arv Z h0 a1 kc .char (1 : Int32) [(.int pc0)] (.int (0 : Int32))) (S_COMPACT_STRINGS : Sta Z h0 "java/lang/String" "COMPACT_STRINGS" "Z" (.int s_COMPACT_STRINGS)) (hc5 : ¬ (s_COMPACT_STRINGS = (0 : Int32))) (hc6 : ¬ ((255 : Int32) < pc0)) (g_a0 : n0 ≤ a0) :
    MetFree l (⟨"java/lang/String", "<init>", "([C)V"⟩ : MethodName) (head1 (Jvm.Cond.code (⟨"java/lang/String", "<init>", "([C)V"⟩ : MethodName) jdk_42_method_3_code 2 none :: ws) ({ frames := 3, cells := 1, slots := 1, locals := 52 } : Room)) (fun a U => a = #[(.ref a0), (.ref a1)] ∧ Z.Warmed39 U.vm ∧ U.heap = h0) (fun _ _ _ _ _ => True) (fun _ U o U' => ∃ v L, o = .returned v ∧ Q1_1 Z a0 a1 kc pc0 s_COMPACT_STRINGS h0 n0 v U'.heap L ∧ FrameEnd U o U' L ({ frames := 3, cells := 1, slots := 1, locals := 52 } : Room).cells ({ frames := 3, cells := 1, slots := 1, locals := 52 } : Room).slots) := by
  refine MetFree.of_bodySF (plainFor_of_name pn_java_lang_String) hisR ?_
  intro p e s m args below meth c s₁ Bd hml0 hP hK
  obtain ⟨rfl, hZ, hh⟩ := hP
  have hx := Bd.exec
  have hby := Bd.bytes
  have hml : c.maxLocals = 2 := hml0
  have hown : s.vm.findClass "java/lang/String" = some m.cls := findClass_of_methodNamed Bd.named
  have hnm := (name_of_methodNamed Bd.named Bd.method).1
  have X0 : Stand p l e ({ frames := 3, cells := 1, slots := 1, locals := 52 } : Room) s m #[(.ref a0), (.ref a1)] below meth c s₁ [] 0 0 := Stand.of_body Bd
  have e0 : s₁.heap = h0 := by rw [← hh, Bd.state]; rfl
  have N0 := Fr.nil n0
  have pre0 : ∀ t, Steps p.tables e below (s₁.setTop (mkF m 0 #[.val (.ref a0), .val (.ref a1)] [])) t → Steps p.tables e below (s₁.setTop (entryFrame m #[(.ref a0), (.ref a1)] 2)) t := fun t k => castTop (ef_rm1_1 m a0 a1) k
  obtain ⟨cl1, Ar1, qk1, Sz1, Ng1, Hs1, Gf1⟩ := id V_a1
  obtain ⟨_, _, ⟨T2, L2, k2', n2'⟩, -, X2, ⟨Lc2, hQ2, l2, y2, z2⟩, st2⟩ := X0.specialBack hx (y := (⟨"java/lang/String", "<init>", "([CIILjava/lang/Void;)V"⟩ : MethodName)) rfl hown (mvT hZ (hw _ (List.mem_of_getElem? (i := 11) rfl))) (mvT hZ (hw _ (List.mem_of_getElem? (i := 12) rfl))) (mvT hZ (hw _ (List.mem_of_getElem? (i := 14) rfl))) (by decide) (backOf (W := 0) (rm2_1 l Z az hw [] a0 a1 kc pc0 s_COMPACT_STRINGS h0 n0 Z0 E_a0 F_coder_a0 F_value_a0 V_a1 S_COMPACT_STRINGS hc5 hc6 g_a0) hZ (hw _ (List.mem_of_getElem? (i := 14) rfl)) (hw _ (List.mem_of_getElem? (i := 7) rfl)) (by decide) (by decide)) (g := (mkF m 6 #[.val (.ref a0), .val (.ref a1)] [.null, (.int (1 : Int32)), (.int (0 : Int32)), (.ref a1), (.ref a0)])) rfl (by rw [hml]; rfl) (Steps.refl _) (a := a0) (argsL := [(.ref a1), (.int (0 : Int32)), (.int (1 : Int32)), .null]) (rest := []) (lenOf pd_15 rfl) rfl (by show 2 * 0 + _ ≤ _; exact Nat.le_of_eq rfl) (hb hby d1_6) (fun _ _ => ⟨rfl, e0, (by decide : 0 + 1 ≤ _), (by decide : 0 + 1 ≤ _)⟩)
  dsimp only [Pt.U, Pt.locs, Pt.cells, Pt.slots] at X2 l2 y2 z2 st2 hQ2
  subst l2 y2 z2
  obtain ⟨b2_0, kk2_0, rfl, N2q, s2_0, kq2, pf2_0, pf2_1, pf2_2, pf2_3, pf2_4⟩ := hQ2
  have N2 := Fr.app N0 N2q
  have g_b2_0 : n0 ≤ b2_0 := Nat.le_trans Z0 s2_0
  have sz_b2_0 : h0.size ≤ b2_0 := Nat.le_trans (Nat.le_refl _) s2_0
  have K2 : Keep h0 T2.heap [a0] := (Keep.refl h0 [a0]).trans kq2 (allS (Or.inl (List.mem_of_getElem? (i := 0) rfl)) all0)
  have Z2 : n0 ≤ T2.heap.size := Nat.le_trans Z0 kq2.1
  obtain ⟨fs, hr, hrun, hended, hW, hsame⟩ := X2.leave (v := none) (fun _ => rfl)
  refine ⟨_, _, pre0 _ ?_, hrun, hended, _, _, rfl, ?_, ⟨_, rfl⟩, hW, hsame.mono (by decide) (by decide)⟩
  · show Steps p.tables e below (s₁.setTop (mkF m 0 #[.val (.ref a0), .val (.ref a1)] [])) _
    refine XS.aloadN X0.here hx rfl (hb hby d1_0) rfl rfl ?_
    show Steps p.tables e below (s₁.setTop (mkF m 1 #[.val (.ref a0), .val (.ref a1)] [(.ref a0)])) _
    refine XS.aloadN X0.here hx rfl (hb hby d1_1) rfl rfl ?_
    show Steps p.tables e below (s₁.setTop (mkF m 2 #[.val (.ref a0), .val (.ref a1)] [(.ref a1), (.ref a0)])) _
    refine XS.iconst X0.here hx rfl (hb hby d1_2) ?_
    show Steps p.tables e below (s₁.setTop (mkF m 3 #[.val (.ref a0), .val (.ref a1)] [(.int (0 : Int32)), (.ref a1), (.ref a0)])) _
    refine XS.aloadN X0.here hx rfl (hb hby d1_3) rfl rfl ?_
    show Steps p.tables e below (s₁.setTop (mkF m 4 #[.val (.ref a0), .val (.ref a1)] [(.ref a1), (.int (0 : Int32)), (.ref a1), (.ref a0)])) _
    refine X0.arraylength hx (by rw [e0]; exact Ar1.1) (State.isArrayOf_alike hZ.alike Ar1.2.1) (g := (mkF m 4 #[.val (.ref a0), .val (.ref a1)] [(.ref a1), (.int (0 : Int32)), (.ref a1), (.ref a0)])) rfl rfl (hb hby d1_4) _ ?_
    rw [len_of Sz1 Ng1]
    show Steps p.tables e below (s₁.setTop (mkF m 5 #[.val (.ref a0), .val (.ref a1)] [(.int (1 : Int32)), (.int (0 : Int32)), (.ref a1), (.ref a0)])) _
    refine XS.aconstNull X0.here hx rfl (hb hby d1_5) ?_
    show Steps p.tables e below (s₁.setTop (mkF m 6 #[.val (.ref a0), .val (.ref a1)] [.null, (.int (1 : Int32)), (.int (0 : Int32)), (.ref a1), (.ref a0)])) _
    refine st2.trans ?_
    show Steps p.tables e below (T2.setTop (mkF m 9 #[.val (.ref a0), .val (.ref a1)] [])) _
    exact X2.returnOut hx Bd.returns (hb hby d1_9) hr
  · show Q1_1 Z a0 a1 kc pc0 s_COMPACT_STRINGS h0 n0 _ T2.heap _
    exact ⟨b2_0, kk2_0, rfl, N2, sz_b2_0, K2, pf2_0, pf2_1, pf2_2, pf2_3, pf2_4⟩
theorem d21_0 : decode prog_7_method_9_code 0 = .ok (.aload_n 0, 1) := by decide +kernel
theorem d21_1 : decode prog_7_method_9_code 1 = .ok (.getfield 50, 3) := by decide +kernel
theorem d21_4 : decode prog_7_method_9_code 4 = .ok (.aload_n 0, 1) := by decide +kernel
theorem d21_5 : decode prog_7_method_9_code 5 = .ok (.getfield 28, 3) := by decide +kernel
theorem d21_8 : decode prog_7_method_9_code 8 = .ok (.if_icmp .lt 45, 3) := by decide +kernel
theorem d21_11 : decode prog_7_method_9_code 11 = .ok (.bipush 6, 2) := by decide +kernel
theorem d21_13 : decode prog_7_method_9_code 13 = .ok (.newarray .int, 2) := by decide +kernel
theorem d21_15 : decode prog_7_method_9_code 15 = .ok (.dup, 1) := by decide +kernel
theorem d21_16 : decode prog_7_method_9_code 16 = .ok (.iconst 0, 1) := by decide +kernel
theorem d21_17 : decode prog_7_method_9_code 17 = .ok (.iconst 0, 1) := by decide +kernel
theorem d21_18 : decode prog_7_method_9_code 18 = .ok (.iastore, 1) := by decide +kernel
theorem d21_19 : decode prog_7_method_9_code 19 = .ok (.dup, 1) := by decide +kernel
theorem d21_20 : decode prog_7_method_9_code 20 = .ok (.iconst 1, 1) := by decide +kernel
theorem d21_21 : decode prog_7_method_9_code 21 = .ok (.aload_n 0, 1) := by decide +kernel
theorem d21_22 : decode prog_7_method_9_code 22 = .ok (.getfield 28, 3) := by decide +kernel
theorem d21_25 : decode prog_7_method_9_code 25 = .ok (.iconst 1, 1) := by decide +kernel
theorem d21_26 : decode prog_7_method_9_code 26 = .ok (.isub, 1) := by decide +kernel
theorem d21_27 : decode prog_7_method_9_code 27 = .ok (.iastore, 1) := by decide +kernel
theorem d21_28 : decode prog_7_method_9_code 28 = .ok (.dup, 1) := by decide +kernel
theorem d21_29 : decode prog_7_method_9_code 29 = .ok (.iconst 2, 1) := by decide +kernel
theorem d21_30 : decode prog_7_method_9_code 30 = .ok (.iconst 0, 1) := by decide +kernel
theorem d21_31 : decode prog_7_method_9_code 31 = .ok (.iastore, 1) := by decide +kernel
theorem d21_32 : decode prog_7_method_9_code 32 = .ok (.dup, 1) := by decide +kernel
theorem d21_33 : decode prog_7_method_9_code 33 = .ok (.iconst 3, 1) := by decide +kernel
theorem d21_34 : decode prog_7_method_9_code 34 = .ok (.aload_n 0, 1) := by decide +kernel
theorem d21_35 : decode prog_7_method_9_code 35 = .ok (.getfield 50, 3) := by decide +kernel
theorem d21_38 : decode prog_7_method_9_code 38 = .ok (.iastore, 1) := by decide +kernel
theorem d21_39 : decode prog_7_method_9_code 39 = .ok (.dup, 1) := by decide +kernel
theorem d21_40 : decode prog_7_method_9_code 40 = .ok (.iconst 4, 1) := by decide +kernel
theorem d21_41 : decode prog_7_method_9_code 41 = .ok (.aload_n 0, 1) := by decide +kernel
theorem d21_42 : decode prog_7_method_9_code 42 = .ok (.getfield 50, 3) := by decide +kernel
theorem d21_45 : decode prog_7_method_9_code 45 = .ok (.iastore, 1) := by decide +kernel
theorem d21_46 : decode prog_7_method_9_code 46 = .ok (.dup, 1) := by decide +kernel
theorem d21_47 : decode prog_7_method_9_code 47 = .ok (.iconst 5, 1) := by decide +kernel
theorem d21_48 : decode prog_7_method_9_code 48 = .ok (.iconst 0, 1) := by decide +kernel
theorem d21_49 : decode prog_7_method_9_code 49 = .ok (.iastore, 1) := by decide +kernel
theorem d21_50 : decode prog_7_method_9_code 50 = .ok (.goto 23, 3) := by decide +kernel
theorem d21_73 : decode prog_7_method_9_code 73 = .ok (.areturn, 1) := by decide +kernel
theorem ef_rm21s (m : MethodId) (a0 : Addr) : entryFrame m #[(.ref a0)] 1 = mkF m 0 #[.val (.ref a0)] [] := by first | (simp [entryFrame, mkF, argsToLocals, Value.category]; done) | rfl
def Q21s (Z : State) (a0 : Addr) (w_overflow_a0 : Int32) (w_buckets_a0 : Int32) (h0 : Heap) (n0 : Nat) (v : Option Value) (h : Heap) (L : List Loc) : Prop := ∃ r0 : Addr, ∃ rk0 : ClassId, v = some (.ref r0) ∧ Fr n0 L ∧ h0.size ≤ r0 ∧ Keep h0 h [] ∧ Exa Z h r0 "[I" ∧ Arv Z h r0 rk0 .int (6 : Int32) [(.int (0 : Int32)), (.int (w_buckets_a0 - (1 : Int32))), (.int (0 : Int32)), (.int w_overflow_a0), (.int w_overflow_a0), (.int (0 : Int32))] (.int (0 : Int32))
set_option maxRecDepth 65536 in
set_option maxHeartbeats 40000000 in
theorem rm21s (l : Launch) (Z : State) (az : Array Value) (hw : ∀ d ∈ tables_1, d.before az Z = true) (ws : List Jvm.Cond) (a0 : Addr) (w_overflow_a0 : Int32) (w_buckets_a0 : Int32) (h0 : Heap) (n0 : Nat) (Z0 : n0 ≤ h0.size) (F_overflow_a0 : Fld Z h0 a0 "com/example/fireweed/fireweed/layout/Java31ByteSalt" "overflow" "I" (.int w_overflow_a0)) (F_buckets_a0 : Fld Z h0 a0 "com/example/fireweed/fireweed/layout/Java31ByteSalt" "buckets" "I" (.int w_buckets_a0)) (hc2 : ¬ (w_overflow_a0 < w_buckets_a0)) :
    MetFree l (⟨"com/example/fireweed/fireweed/layout/Java31ByteSalt", "bytes", "()[I"⟩ : MethodName) (head1 (Jvm.Cond.code (⟨"com/example/fireweed/fireweed/layout/Java31ByteSalt", "bytes", "()[I"⟩ : MethodName) prog_7_method_9_code 1 (some (.array .int)) :: ws) ({ frames := 0, cells := 1, slots := 6, locals := 0 } : Room)) (fun a U => a = #[(.ref a0)] ∧ Z.Warmed39 U.vm ∧ U.heap = h0) (fun _ _ _ _ _ => True) (fun _ U o U' => ∃ v L, o = .returned v ∧ Q21s Z a0 w_overflow_a0 w_buckets_a0 h0 n0 v U'.heap L ∧ FrameEnd U o U' L ({ frames := 0, cells := 1, slots := 6, locals := 0 } : Room).cells ({ frames := 0, cells := 1, slots := 6, locals := 0 } : Room).slots) := by
  refine MetFree.of_bodySF (plainFor_of_name pn_com_example_fireweed_fireweed_layout_Java31ByteSalt) hisR ?_
  intro p e s m args below meth c s₁ Bd hml0 hP hK
  obtain ⟨rfl, hZ, hh⟩ := hP
  have hx := Bd.exec
  have hby := Bd.bytes
  have hml : c.maxLocals = 1 := hml0
  have hown : s.vm.findClass "com/example/fireweed/fireweed/layout/Java31ByteSalt" = some m.cls := findClass_of_methodNamed Bd.named
  have hnm := (name_of_methodNamed Bd.named Bd.method).1
  have X0 : Stand p l e ({ frames := 0, cells := 1, slots := 6, locals := 0 } : Room) s m #[(.ref a0)] below meth c s₁ [] 0 0 := Stand.of_body Bd
  have e0 : s₁.heap = h0 := by rw [← hh, Bd.state]; rfl
  have N0 := Fr.nil n0
  have pre0 : ∀ t, Steps p.tables e below (s₁.setTop (mkF m 0 #[.val (.ref a0)] [])) t → Steps p.tables e below (s₁.setTop (entryFrame m #[(.ref a0)] 1)) t := fun t k => castTop (ef_rm21s m a0) k
  obtain ⟨T1, X1, e1, st1⟩ := getF X0 hx hZ hown (host := "") (Or.inl (hw _ (List.mem_of_getElem? (i := 120) rfl))) Via.refl e0 F_overflow_a0 (g := (mkF m 1 #[.val (.ref a0)] [(.ref a0)])) rfl rfl (hb hby d21_1)
  obtain ⟨T2, X2, e2, st2⟩ := getF X1 hx hZ hown (host := "") (Or.inl (hw _ (List.mem_of_getElem? (i := 96) rfl))) Via.refl e1 F_buckets_a0 (g := (mkF m 5 #[.val (.ref a0)] [(.ref a0), (.int w_overflow_a0)])) rfl rfl (hb hby d21_5)
  obtain ⟨T3, h3, k3, X3, e3, E3, A3, x3, st3⟩ := newPE X2 hx hZ (hw _ (List.mem_of_getElem? (i := 127) rfl)) e2 (g := (mkF m 13 #[.val (.ref a0)] [(.int (6 : Int32))])) rfl (hb hby d21_13) rfl (by decide) (cap := 6) (by decide) (by decide) (by decide) (by decide) (ad := "[I") (by decide)
  obtain ⟨b3, g3⟩ : ∃ z, z = h0.size := ⟨_, rfl⟩
  rw [← g3] at A3 x3 st3
  have g_b3 : n0 ≤ b3 := Nat.le_trans Z0 (Nat.le_of_eq g3.symm)
  have sz_b3 : h0.size ≤ b3 := Nat.le_trans (Nat.le_refl _) (Nat.le_of_eq g3.symm)
  have Z3 : n0 ≤ h3.size := Nat.le_trans Z0 E3.1
  have K3 : Keep h0 h3 [] := (Keep.refl h0 []).ext E3
  have E_b3 := x3
  have V_b3 : Arv Z h3 b3 k3 .int (6 : Int32) [(.int (0 : Int32)), (.int (0 : Int32)), (.int (0 : Int32)), (.int (0 : Int32)), (.int (0 : Int32)), (.int (0 : Int32))] (.int (0 : Int32)) := (Arv.new A3 (by decide)).pad (pad_rep [] (.int (0 : Int32)) 6)
  obtain ⟨cl4, Ar4, qk4, Sz4, Ng4, Hs4, Gf4⟩ := id V_b3
  have hin5 : ¬ ((0 : Int32) < 0 ∨ cl4.slots.size ≤ ((0 : Int32)).toNatClampNeg) := inb_of Sz4 ⟨by decide, by decide⟩
  obtain ⟨T6, h6, X6, e6, W6, st6⟩ := stI X3 hx hZ e3 Ar4 (j := (0 : Int32)) hin5 (g := (mkF m 18 #[.val (.ref a0)] [(.int (0 : Int32)), (.int (0 : Int32)), (.ref b3), (.ref b3)])) rfl rfl (hb hby d21_18)
  have K6 : Keep h0 h6 [] := K3.wr W6 (Or.inr sz_b3)
  have V_b3_6 : Arv Z h6 b3 k3 .int (6 : Int32) [(.int (0 : Int32)), (.int (0 : Int32)), (.int (0 : Int32)), (.int (0 : Int32)), (.int (0 : Int32)), (.int (0 : Int32))] (.int (0 : Int32)) := Arv.set (v := (.int (0 : Int32))) Ar4 qk4 Sz4 Ng4 Hs4 Gf4 rfl W6 0 rfl (Nat.le_of_ble_eq_true rfl)
  have Z6 : n0 ≤ h6.size := Nat.le_trans Z3 (Keep.of_wr W6).1
  have N6 := Fr.snoc X6 N0 g_b3
  have ne_a0_b3 : a0 ≠ b3 := own_ne (Nat.lt_of_lt_of_le F_overflow_a0.lt (Nat.le_of_eq g3.symm))
  have F_a0_buckets_u7 : Fld Z h6 a0 "com/example/fireweed/fireweed/layout/Java31ByteSalt" "buckets" "I" (.int w_buckets_a0) := ((F_buckets_a0.ext E3).other W6 (Or.inl ne_a0_b3))
  obtain ⟨T8, X8, e8, st8⟩ := getF X6 hx hZ hown (host := "") (Or.inl (hw _ (List.mem_of_getElem? (i := 96) rfl))) Via.refl e6 F_a0_buckets_u7 (g := (mkF m 22 #[.val (.ref a0)] [(.ref a0), (.int (1 : Int32)), (.ref b3), (.ref b3)])) rfl rfl (hb hby d21_22)
  obtain ⟨cl9, Ar9, qk9, Sz9, Ng9, Hs9, Gf9⟩ := id V_b3_6
  have hin10 : ¬ ((1 : Int32) < 0 ∨ cl9.slots.size ≤ ((1 : Int32)).toNatClampNeg) := inb_of Sz9 ⟨by decide, by decide⟩
  obtain ⟨T11, h11, X11, e11, W11, st11⟩ := stI X8 hx hZ e8 Ar9 (j := (1 : Int32)) hin10 (g := (mkF m 27 #[.val (.ref a0)] [(.int (w_buckets_a0 - (1 : Int32))), (.int (1 : Int32)), (.ref b3), (.ref b3)])) rfl rfl (hb hby d21_27)
  have K11 : Keep h0 h11 [] := K6.wr W11 (Or.inr sz_b3)
  have V_b3_11 : Arv Z h11 b3 k3 .int (6 : Int32) [(.int (0 : Int32)), (.int (w_buckets_a0 - (1 : Int32))), (.int (0 : Int32)), (.int (0 : Int32)), (.int (0 : Int32)), (.int (0 : Int32))] (.int (0 : Int32)) := Arv.set (v := (.int (w_buckets_a0 - (1 : Int32)))) Ar9 qk9 Sz9 Ng9 Hs9 Gf9 rfl W11 1 rfl (Nat.le_of_ble_eq_true rfl)
  have Z11 : n0 ≤ h11.size := Nat.le_trans Z6 (Keep.of_wr W11).1
  have N11 := Fr.snoc X11 N6 g_b3
  obtain ⟨cl12, Ar12, qk12, Sz12, Ng12, Hs12, Gf12⟩ := id V_b3_11
  have hin13 : ¬ ((2 : Int32) < 0 ∨ cl12.slots.size ≤ ((2 : Int32)).toNatClampNeg) := inb_of Sz12 ⟨by decide, by decide⟩
  obtain ⟨T14, h14, X14, e14, W14, st14⟩ := stI X11 hx hZ e11 Ar12 (j := (2 : Int32)) hin13 (g := (mkF m 31 #[.val (.ref a0)] [(.int (0 : Int32)), (.int (2 : Int32)), (.ref b3), (.ref b3)])) rfl rfl (hb hby d21_31)
  have K14 : Keep h0 h14 [] := K11.wr W14 (Or.inr sz_b3)
  have V_b3_14 : Arv Z h14 b3 k3 .int (6 : Int32) [(.int (0 : Int32)), (.int (w_buckets_a0 - (1 : Int32))), (.int (0 : Int32)), (.int (0 : Int32)), (.int (0 : Int32)), (.int (0 : Int32))] (.int (0 : Int32)) := Arv.set (v := (.int (0 : Int32))) Ar12 qk12 Sz12 Ng12 Hs12 Gf12 rfl W14 2 rfl (Nat.le_of_ble_eq_true rfl)
  have Z14 : n0 ≤ h14.size := Nat.le_trans Z11 (Keep.of_wr W14).1
  have N14 := Fr.snoc X14 N11 g_b3
  have F_a0_overflow_u15 : Fld Z h14 a0 "com/example/fireweed/fireweed/layout/Java31ByteSalt" "overflow" "I" (.int w_overflow_a0) := ((((F_overflow_a0.ext E3).other W6 (Or.inl ne_a0_b3)).other W11 (Or.inl ne_a0_b3)).other W14 (Or.inl ne_a0_b3))
  obtain ⟨T16, X16, e16, st16⟩ := getF X14 hx hZ hown (host := "") (Or.inl (hw _ (List.mem_of_getElem? (i := 120) rfl))) Via.refl e14 F_a0_overflow_u15 (g := (mkF m 35 #[.val (.ref a0)] [(.ref a0), (.int (3 : Int32)), (.ref b3), (.ref b3)])) rfl rfl (hb hby d21_35)
  obtain ⟨cl17, Ar17, qk17, Sz17, Ng17, Hs17, Gf17⟩ := id V_b3_14
  have hin18 : ¬ ((3 : Int32) < 0 ∨ cl17.slots.size ≤ ((3 : Int32)).toNatClampNeg) := inb_of Sz17 ⟨by decide, by decide⟩
  obtain ⟨T19, h19, X19, e19, W19, st19⟩ := stI X16 hx hZ e16 Ar17 (j := (3 : Int32)) hin18 (g := (mkF m 38 #[.val (.ref a0)] [(.int w_overflow_a0), (.int (3 : Int32)), (.ref b3), (.ref b3)])) rfl rfl (hb hby d21_38)
  have K19 : Keep h0 h19 [] := K14.wr W19 (Or.inr sz_b3)
  have V_b3_19 : Arv Z h19 b3 k3 .int (6 : Int32) [(.int (0 : Int32)), (.int (w_buckets_a0 - (1 : Int32))), (.int (0 : Int32)), (.int w_overflow_a0), (.int (0 : Int32)), (.int (0 : Int32))] (.int (0 : Int32)) := Arv.set (v := (.int w_overflow_a0)) Ar17 qk17 Sz17 Ng17 Hs17 Gf17 rfl W19 3 rfl (Nat.le_of_ble_eq_true rfl)
  have Z19 : n0 ≤ h19.size := Nat.le_trans Z14 (Keep.of_wr W19).1
  have N19 := Fr.snoc X19 N14 g_b3
  have F_a0_overflow_u20 : Fld Z h19 a0 "com/example/fireweed/fireweed/layout/Java31ByteSalt" "overflow" "I" (.int w_overflow_a0) := (F_a0_overflow_u15.other W19 (Or.inl ne_a0_b3))
  obtain ⟨T21, X21, e21, st21⟩ := getF X19 hx hZ hown (host := "") (Or.inl (hw _ (List.mem_of_getElem? (i := 120) rfl))) Via.refl e19 F_a0_overflow_u20 (g := (mkF m 42 #[.val (.ref a0)] [(.ref a0), (.int (4 : Int32)), (.ref b3), (.ref b3)])) rfl rfl (hb hby d21_42)
  obtain ⟨cl22, Ar22, qk22, Sz22, Ng22, Hs22, Gf22⟩ := id V_b3_19
  have hin23 : ¬ ((4 : Int32) < 0 ∨ cl22.slots.size ≤ ((4 : Int32)).toNatClampNeg) := inb_of Sz22 ⟨by decide, by decide⟩
  obtain ⟨T24, h24, X24, e24, W24, st24⟩ := stI X21 hx hZ e21 Ar22 (j := (4 : Int32)) hin23 (g := (mkF m 45 #[.val (.ref a0)] [(.int w_overflow_a0), (.int (4 : Int32)), (.ref b3), (.ref b3)])) rfl rfl (hb hby d21_45)
  have K24 : Keep h0 h24 [] := K19.wr W24 (Or.inr sz_b3)
  have V_b3_24 : Arv Z h24 b3 k3 .int (6 : Int32) [(.int (0 : Int32)), (.int (w_buckets_a0 - (1 : Int32))), (.int (0 : Int32)), (.int w_overflow_a0), (.int w_overflow_a0), (.int (0 : Int32))] (.int (0 : Int32)) := Arv.set (v := (.int w_overflow_a0)) Ar22 qk22 Sz22 Ng22 Hs22 Gf22 rfl W24 4 rfl (Nat.le_of_ble_eq_true rfl)
  have Z24 : n0 ≤ h24.size := Nat.le_trans Z19 (Keep.of_wr W24).1
  have N24 := Fr.snoc X24 N19 g_b3
  obtain ⟨cl25, Ar25, qk25, Sz25, Ng25, Hs25, Gf25⟩ := id V_b3_24
  have hin26 : ¬ ((5 : Int32) < 0 ∨ cl25.slots.size ≤ ((5 : Int32)).toNatClampNeg) := inb_of Sz25 ⟨by decide, by decide⟩
  obtain ⟨T27, h27, X27, e27, W27, st27⟩ := stI X24 hx hZ e24 Ar25 (j := (5 : Int32)) hin26 (g := (mkF m 49 #[.val (.ref a0)] [(.int (0 : Int32)), (.int (5 : Int32)), (.ref b3), (.ref b3)])) rfl rfl (hb hby d21_49)
  have K27 : Keep h0 h27 [] := K24.wr W27 (Or.inr sz_b3)
  have V_b3_27 : Arv Z h27 b3 k3 .int (6 : Int32) [(.int (0 : Int32)), (.int (w_buckets_a0 - (1 : Int32))), (.int (0 : Int32)), (.int w_overflow_a0), (.int w_overflow_a0), (.int (0 : Int32))] (.int (0 : Int32)) := Arv.set (v := (.int (0 : Int32))) Ar25 qk25 Sz25 Ng25 Hs25 Gf25 rfl W27 5 rfl (Nat.le_of_ble_eq_true rfl)
  have Z27 : n0 ≤ h27.size := Nat.le_trans Z24 (Keep.of_wr W27).1
  have N27 := Fr.snoc X27 N24 g_b3
  have E_b3_u28 : Exa Z h27 b3 "[I" := ((((((E_b3.wr W6).wr W11).wr W14).wr W19).wr W24).wr W27)
  obtain ⟨fs, hr, hrun, hended, hW, hsame⟩ := X27.leave (v := some (.ref b3)) (fun h => by rw [Bd.returns] at h; cases h)
  refine ⟨_, _, pre0 _ ?_, hrun, hended, _, _, rfl, ?_, ⟨_, rfl⟩, hW, hsame.mono (by decide) (by decide)⟩
  · show Steps p.tables e below (s₁.setTop (mkF m 0 #[.val (.ref a0)] [])) _
    refine XS.aloadN X0.here hx rfl (hb hby d21_0) rfl rfl ?_
    show Steps p.tables e below (s₁.setTop (mkF m 1 #[.val (.ref a0)] [(.ref a0)])) _
    refine st1 _ ?_
    show Steps p.tables e below (T1.setTop (mkF m 4 #[.val (.ref a0)] [(.int w_overflow_a0)])) _
    refine XS.aloadN X1.here hx rfl (hb hby d21_4) rfl rfl ?_
    show Steps p.tables e below (T1.setTop (mkF m 5 #[.val (.ref a0)] [(.ref a0), (.int w_overflow_a0)])) _
    refine st2 _ ?_
    show Steps p.tables e below (T2.setTop (mkF m 8 #[.val (.ref a0)] [(.int w_buckets_a0), (.int w_overflow_a0)])) _
    refine XS.icmpNo X2.here hx rfl (hb hby d21_8) rfl (flt hc2).1 ?_
    show Steps p.tables e below (T2.setTop (mkF m 11 #[.val (.ref a0)] [])) _
    refine XS.bipush X2.here hx rfl (hb hby d21_11) ?_
    show Steps p.tables e below (T2.setTop (mkF m 13 #[.val (.ref a0)] [(.int (6 : Int32))])) _
    refine st3 _ ?_
    show Steps p.tables e below (T3.setTop (mkF m 15 #[.val (.ref a0)] [(.ref b3)])) _
    refine XS.dup X3.here hx rfl (hb hby d21_15) rfl rfl ?_
    show Steps p.tables e below (T3.setTop (mkF m 16 #[.val (.ref a0)] [(.ref b3), (.ref b3)])) _
    refine XS.iconst X3.here hx rfl (hb hby d21_16) ?_
    show Steps p.tables e below (T3.setTop (mkF m 17 #[.val (.ref a0)] [(.int (0 : Int32)), (.ref b3), (.ref b3)])) _
    refine XS.iconst X3.here hx rfl (hb hby d21_17) ?_
    show Steps p.tables e below (T3.setTop (mkF m 18 #[.val (.ref a0)] [(.int (0 : Int32)), (.int (0 : Int32)), (.ref b3), (.ref b3)])) _
    refine st6 _ ?_
    show Steps p.tables e below (T6.setTop (mkF m 19 #[.val (.ref a0)] [(.ref b3)])) _
    refine XS.dup X6.here hx rfl (hb hby d21_19) rfl rfl ?_
    show Steps p.tables e below (T6.setTop (mkF m 20 #[.val (.ref a0)] [(.ref b3), (.ref b3)])) _
    refine XS.iconst X6.here hx rfl (hb hby d21_20) ?_
    show Steps p.tables e below (T6.setTop (mkF m 21 #[.val (.ref a0)] [(.int (1 : Int32)), (.ref b3), (.ref b3)])) _
    refine XS.aloadN X6.here hx rfl (hb hby d21_21) rfl rfl ?_
    show Steps p.tables e below (T6.setTop (mkF m 22 #[.val (.ref a0)] [(.ref a0), (.int (1 : Int32)), (.ref b3), (.ref b3)])) _
    refine st8 _ ?_
    show Steps p.tables e below (T8.setTop (mkF m 25 #[.val (.ref a0)] [(.int w_buckets_a0), (.int (1 : Int32)), (.ref b3), (.ref b3)])) _
    refine XS.iconst X8.here hx rfl (hb hby d21_25) ?_
    show Steps p.tables e below (T8.setTop (mkF m 26 #[.val (.ref a0)] [(.int (1 : Int32)), (.int w_buckets_a0), (.int (1 : Int32)), (.ref b3), (.ref b3)])) _
    refine XS.isub X8.here hx rfl (hb hby d21_26) rfl ?_
    show Steps p.tables e below (T8.setTop (mkF m 27 #[.val (.ref a0)] [(.int (w_buckets_a0 - (1 : Int32))), (.int (1 : Int32)), (.ref b3), (.ref b3)])) _
    refine st11 _ ?_
    show Steps p.tables e below (T11.setTop (mkF m 28 #[.val (.ref a0)] [(.ref b3)])) _
    refine XS.dup X11.here hx rfl (hb hby d21_28) rfl rfl ?_
    show Steps p.tables e below (T11.setTop (mkF m 29 #[.val (.ref a0)] [(.ref b3), (.ref b3)])) _
    refine XS.iconst X11.here hx rfl (hb hby d21_29) ?_
    show Steps p.tables e below (T11.setTop (mkF m 30 #[.val (.ref a0)] [(.int (2 : Int32)), (.ref b3), (.ref b3)])) _
    refine XS.iconst X11.here hx rfl (hb hby d21_30) ?_
    show Steps p.tables e below (T11.setTop (mkF m 31 #[.val (.ref a0)] [(.int (0 : Int32)), (.int (2 : Int32)), (.ref b3), (.ref b3)])) _
    refine st14 _ ?_
    show Steps p.tables e below (T14.setTop (mkF m 32 #[.val (.ref a0)] [(.ref b3)])) _
    refine XS.dup X14.here hx rfl (hb hby d21_32) rfl rfl ?_
    show Steps p.tables e below (T14.setTop (mkF m 33 #[.val (.ref a0)] [(.ref b3), (.ref b3)])) _
    refine XS.iconst X14.here hx rfl (hb hby d21_33) ?_
    show Steps p.tables e below (T14.setTop (mkF m 34 #[.val (.ref a0)] [(.int (3 : Int32)), (.ref b3), (.ref b3)])) _
    refine XS.aloadN X14.here hx rfl (hb hby d21_34) rfl rfl ?_
    show Steps p.tables e below (T14.setTop (mkF m 35 #[.val (.ref a0)] [(.ref a0), (.int (3 : Int32)), (.ref b3), (.ref b3)])) _
    refine st16 _ ?_
    show Steps p.tables e below (T16.setTop (mkF m 38 #[.val (.ref a0)] [(.int w_overflow_a0), (.int (3 : Int32)), (.ref b3), (.ref b3)])) _
    refine st19 _ ?_
    show Steps p.tables e below (T19.setTop (mkF m 39 #[.val (.ref a0)] [(.ref b3)])) _
    refine XS.dup X19.here hx rfl (hb hby d21_39) rfl rfl ?_
    show Steps p.tables e below (T19.setTop (mkF m 40 #[.val (.ref a0)] [(.ref b3), (.ref b3)])) _
    refine XS.iconst X19.here hx rfl (hb hby d21_40) ?_
    show Steps p.tables e below (T19.setTop (mkF m 41 #[.val (.ref a0)] [(.int (4 : Int32)), (.ref b3), (.ref b3)])) _
    refine XS.aloadN X19.here hx rfl (hb hby d21_41) rfl rfl ?_
    show Steps p.tables e below (T19.setTop (mkF m 42 #[.val (.ref a0)] [(.ref a0), (.int (4 : Int32)), (.ref b3), (.ref b3)])) _
    refine st21 _ ?_
    show Steps p.tables e below (T21.setTop (mkF m 45 #[.val (.ref a0)] [(.int w_overflow_a0), (.int (4 : Int32)), (.ref b3), (.ref b3)])) _
    refine st24 _ ?_
    show Steps p.tables e below (T24.setTop (mkF m 46 #[.val (.ref a0)] [(.ref b3)])) _
    refine XS.dup X24.here hx rfl (hb hby d21_46) rfl rfl ?_
    show Steps p.tables e below (T24.setTop (mkF m 47 #[.val (.ref a0)] [(.ref b3), (.ref b3)])) _
    refine XS.iconst X24.here hx rfl (hb hby d21_47) ?_
    show Steps p.tables e below (T24.setTop (mkF m 48 #[.val (.ref a0)] [(.int (5 : Int32)), (.ref b3), (.ref b3)])) _
    refine XS.iconst X24.here hx rfl (hb hby d21_48) ?_
    show Steps p.tables e below (T24.setTop (mkF m 49 #[.val (.ref a0)] [(.int (0 : Int32)), (.int (5 : Int32)), (.ref b3), (.ref b3)])) _
    refine st27 _ ?_
    show Steps p.tables e below (T27.setTop (mkF m 50 #[.val (.ref a0)] [(.ref b3)])) _
    refine XS.goto X27.here hx rfl (pc0 := 50) (pc' := 73) rfl (hb hby d21_50) (by decide) (by decide) ?_
    show Steps p.tables e below (T27.setTop (mkF m 73 #[.val (.ref a0)] [(.ref b3)])) _
    jvm_step X27.here [X27.here.top, hx, (hb hby d21_73), X27.method', Bd.returns, Value.isRef, FieldType.isReference]
    first | (intro acts; rw [hr _ acts rfl rfl rfl]) | rw [hr _ _ rfl rfl rfl]
    exact Steps.refl _
  · show Q21s Z a0 w_overflow_a0 w_buckets_a0 h0 n0 _ T27.heap _
    rw [e27]
    exact ⟨b3, k3, rfl, N27, sz_b3, K27, E_b3_u28, V_b3_27⟩
theorem d21_53 : decode prog_7_method_9_code 53 = .ok (.iconst 3, 1) := by decide +kernel
theorem d21_54 : decode prog_7_method_9_code 54 = .ok (.newarray .int, 2) := by decide +kernel
theorem d21_56 : decode prog_7_method_9_code 56 = .ok (.dup, 1) := by decide +kernel
theorem d21_57 : decode prog_7_method_9_code 57 = .ok (.iconst 0, 1) := by decide +kernel
theorem d21_58 : decode prog_7_method_9_code 58 = .ok (.iconst 0, 1) := by decide +kernel
theorem d21_59 : decode prog_7_method_9_code 59 = .ok (.iastore, 1) := by decide +kernel
theorem d21_60 : decode prog_7_method_9_code 60 = .ok (.dup, 1) := by decide +kernel
theorem d21_61 : decode prog_7_method_9_code 61 = .ok (.iconst 1, 1) := by decide +kernel
theorem d21_62 : decode prog_7_method_9_code 62 = .ok (.aload_n 0, 1) := by decide +kernel
theorem d21_63 : decode prog_7_method_9_code 63 = .ok (.getfield 28, 3) := by decide +kernel
theorem d21_66 : decode prog_7_method_9_code 66 = .ok (.iconst 1, 1) := by decide +kernel
theorem d21_67 : decode prog_7_method_9_code 67 = .ok (.isub, 1) := by decide +kernel
theorem d21_68 : decode prog_7_method_9_code 68 = .ok (.iastore, 1) := by decide +kernel
theorem d21_69 : decode prog_7_method_9_code 69 = .ok (.dup, 1) := by decide +kernel
theorem d21_70 : decode prog_7_method_9_code 70 = .ok (.iconst 2, 1) := by decide +kernel
theorem d21_71 : decode prog_7_method_9_code 71 = .ok (.iconst 0, 1) := by decide +kernel
theorem d21_72 : decode prog_7_method_9_code 72 = .ok (.iastore, 1) := by decide +kernel
theorem ef_rm21t (m : MethodId) (a0 : Addr) : entryFrame m #[(.ref a0)] 1 = mkF m 0 #[.val (.ref a0)] [] := by first | (simp [entryFrame, mkF, argsToLocals, Value.category]; done) | rfl
def Q21t (Z : State) (a0 : Addr) (w_overflow_a0 : Int32) (w_buckets_a0 : Int32) (h0 : Heap) (n0 : Nat) (v : Option Value) (h : Heap) (L : List Loc) : Prop := ∃ r0 : Addr, ∃ rk0 : ClassId, v = some (.ref r0) ∧ Fr n0 L ∧ h0.size ≤ r0 ∧ Keep h0 h [] ∧ Exa Z h r0 "[I" ∧ Arv Z h r0 rk0 .int (3 : Int32) [(.int (0 : Int32)), (.int (w_buckets_a0 - (1 : Int32))), (.int (0 : Int32))] (.int (0 : Int32))
set_option maxRecDepth 65536 in
set_option maxHeartbeats 40000000 in
theorem rm21t (l : Launch) (Z : State) (az : Array Value) (hw : ∀ d ∈ tables_1, d.before az Z = true) (ws : List Jvm.Cond) (a0 : Addr) (w_overflow_a0 : Int32) (w_buckets_a0 : Int32) (h0 : Heap) (n0 : Nat) (Z0 : n0 ≤ h0.size) (F_overflow_a0 : Fld Z h0 a0 "com/example/fireweed/fireweed/layout/Java31ByteSalt" "overflow" "I" (.int w_overflow_a0)) (F_buckets_a0 : Fld Z h0 a0 "com/example/fireweed/fireweed/layout/Java31ByteSalt" "buckets" "I" (.int w_buckets_a0)) (hc2 : w_overflow_a0 < w_buckets_a0) :
    MetFree l (⟨"com/example/fireweed/fireweed/layout/Java31ByteSalt", "bytes", "()[I"⟩ : MethodName) (head1 (Jvm.Cond.code (⟨"com/example/fireweed/fireweed/layout/Java31ByteSalt", "bytes", "()[I"⟩ : MethodName) prog_7_method_9_code 1 (some (.array .int)) :: ws) ({ frames := 0, cells := 1, slots := 3, locals := 0 } : Room)) (fun a U => a = #[(.ref a0)] ∧ Z.Warmed39 U.vm ∧ U.heap = h0) (fun _ _ _ _ _ => True) (fun _ U o U' => ∃ v L, o = .returned v ∧ Q21t Z a0 w_overflow_a0 w_buckets_a0 h0 n0 v U'.heap L ∧ FrameEnd U o U' L ({ frames := 0, cells := 1, slots := 3, locals := 0 } : Room).cells ({ frames := 0, cells := 1, slots := 3, locals := 0 } : Room).slots) := by
  refine MetFree.of_bodySF (plainFor_of_name pn_com_example_fireweed_fireweed_layout_Java31ByteSalt) hisR ?_
  intro p e s m args below meth c s₁ Bd hml0 hP hK
  obtain ⟨rfl, hZ, hh⟩ := hP
  have hx := Bd.exec
  have hby := Bd.bytes
  have hml : c.maxLocals = 1 := hml0
  have hown : s.vm.findClass "com/example/fireweed/fireweed/layout/Java31ByteSalt" = some m.cls := findClass_of_methodNamed Bd.named
  have hnm := (name_of_methodNamed Bd.named Bd.method).1
  have X0 : Stand p l e ({ frames := 0, cells := 1, slots := 3, locals := 0 } : Room) s m #[(.ref a0)] below meth c s₁ [] 0 0 := Stand.of_body Bd
  have e0 : s₁.heap = h0 := by rw [← hh, Bd.state]; rfl
  have N0 := Fr.nil n0
  have pre0 : ∀ t, Steps p.tables e below (s₁.setTop (mkF m 0 #[.val (.ref a0)] [])) t → Steps p.tables e below (s₁.setTop (entryFrame m #[(.ref a0)] 1)) t := fun t k => castTop (ef_rm21t m a0) k
  obtain ⟨T1, X1, e1, st1⟩ := getF X0 hx hZ hown (host := "") (Or.inl (hw _ (List.mem_of_getElem? (i := 120) rfl))) Via.refl e0 F_overflow_a0 (g := (mkF m 1 #[.val (.ref a0)] [(.ref a0)])) rfl rfl (hb hby d21_1)
  obtain ⟨T2, X2, e2, st2⟩ := getF X1 hx hZ hown (host := "") (Or.inl (hw _ (List.mem_of_getElem? (i := 96) rfl))) Via.refl e1 F_buckets_a0 (g := (mkF m 5 #[.val (.ref a0)] [(.ref a0), (.int w_overflow_a0)])) rfl rfl (hb hby d21_5)
  obtain ⟨T3, h3, k3, X3, e3, E3, A3, x3, st3⟩ := newPE X2 hx hZ (hw _ (List.mem_of_getElem? (i := 127) rfl)) e2 (g := (mkF m 54 #[.val (.ref a0)] [(.int (3 : Int32))])) rfl (hb hby d21_54) rfl (by decide) (cap := 3) (by decide) (by decide) (by decide) (by decide) (ad := "[I") (by decide)
  obtain ⟨b3, g3⟩ : ∃ z, z = h0.size := ⟨_, rfl⟩
  rw [← g3] at A3 x3 st3
  have g_b3 : n0 ≤ b3 := Nat.le_trans Z0 (Nat.le_of_eq g3.symm)
  have sz_b3 : h0.size ≤ b3 := Nat.le_trans (Nat.le_refl _) (Nat.le_of_eq g3.symm)
  have Z3 : n0 ≤ h3.size := Nat.le_trans Z0 E3.1
  have K3 : Keep h0 h3 [] := (Keep.refl h0 []).ext E3
  have E_b3 := x3
  have V_b3 : Arv Z h3 b3 k3 .int (3 : Int32) [(.int (0 : Int32)), (.int (0 : Int32)), (.int (0 : Int32))] (.int (0 : Int32)) := (Arv.new A3 (by decide)).pad (pad_rep [] (.int (0 : Int32)) 3)
  obtain ⟨cl4, Ar4, qk4, Sz4, Ng4, Hs4, Gf4⟩ := id V_b3
  have hin5 : ¬ ((0 : Int32) < 0 ∨ cl4.slots.size ≤ ((0 : Int32)).toNatClampNeg) := inb_of Sz4 ⟨by decide, by decide⟩
  obtain ⟨T6, h6, X6, e6, W6, st6⟩ := stI X3 hx hZ e3 Ar4 (j := (0 : Int32)) hin5 (g := (mkF m 59 #[.val (.ref a0)] [(.int (0 : Int32)), (.int (0 : Int32)), (.ref b3), (.ref b3)])) rfl rfl (hb hby d21_59)
  have K6 : Keep h0 h6 [] := K3.wr W6 (Or.inr sz_b3)
  have V_b3_6 : Arv Z h6 b3 k3 .int (3 : Int32) [(.int (0 : Int32)), (.int (0 : Int32)), (.int (0 : Int32))] (.int (0 : Int32)) := Arv.set (v := (.int (0 : Int32))) Ar4 qk4 Sz4 Ng4 Hs4 Gf4 rfl W6 0 rfl (Nat.le_of_ble_eq_true rfl)
  have Z6 : n0 ≤ h6.size := Nat.le_trans Z3 (Keep.of_wr W6).1
  have N6 := Fr.snoc X6 N0 g_b3
  have ne_a0_b3 : a0 ≠ b3 := own_ne (Nat.lt_of_lt_of_le F_overflow_a0.lt (Nat.le_of_eq g3.symm))
  have F_a0_buckets_u7 : Fld Z h6 a0 "com/example/fireweed/fireweed/layout/Java31ByteSalt" "buckets" "I" (.int w_buckets_a0) := ((F_buckets_a0.ext E3).other W6 (Or.inl ne_a0_b3))
  obtain ⟨T8, X8, e8, st8⟩ := getF X6 hx hZ hown (host := "") (Or.inl (hw _ (List.mem_of_getElem? (i := 96) rfl))) Via.refl e6 F_a0_buckets_u7 (g := (mkF m 63 #[.val (.ref a0)] [(.ref a0), (.int (1 : Int32)), (.ref b3), (.ref b3)])) rfl rfl (hb hby d21_63)
  obtain ⟨cl9, Ar9, qk9, Sz9, Ng9, Hs9, Gf9⟩ := id V_b3_6
  have hin10 : ¬ ((1 : Int32) < 0 ∨ cl9.slots.size ≤ ((1 : Int32)).toNatClampNeg) := inb_of Sz9 ⟨by decide, by decide⟩
  obtain ⟨T11, h11, X11, e11, W11, st11⟩ := stI X8 hx hZ e8 Ar9 (j := (1 : Int32)) hin10 (g := (mkF m 68 #[.val (.ref a0)] [(.int (w_buckets_a0 - (1 : Int32))), (.int (1 : Int32)), (.ref b3), (.ref b3)])) rfl rfl (hb hby d21_68)
  have K11 : Keep h0 h11 [] := K6.wr W11 (Or.inr sz_b3)
  have V_b3_11 : Arv Z h11 b3 k3 .int (3 : Int32) [(.int (0 : Int32)), (.int (w_buckets_a0 - (1 : Int32))), (.int (0 : Int32))] (.int (0 : Int32)) := Arv.set (v := (.int (w_buckets_a0 - (1 : Int32)))) Ar9 qk9 Sz9 Ng9 Hs9 Gf9 rfl W11 1 rfl (Nat.le_of_ble_eq_true rfl)
  have Z11 : n0 ≤ h11.size := Nat.le_trans Z6 (Keep.of_wr W11).1
  have N11 := Fr.snoc X11 N6 g_b3
  obtain ⟨cl12, Ar12, qk12, Sz12, Ng12, Hs12, Gf12⟩ := id V_b3_11
  have hin13 : ¬ ((2 : Int32) < 0 ∨ cl12.slots.size ≤ ((2 : Int32)).toNatClampNeg) := inb_of Sz12 ⟨by decide, by decide⟩
  obtain ⟨T14, h14, X14, e14, W14, st14⟩ := stI X11 hx hZ e11 Ar12 (j := (2 : Int32)) hin13 (g := (mkF m 72 #[.val (.ref a0)] [(.int (0 : Int32)), (.int (2 : Int32)), (.ref b3), (.ref b3)])) rfl rfl (hb hby d21_72)
  have K14 : Keep h0 h14 [] := K11.wr W14 (Or.inr sz_b3)
  have V_b3_14 : Arv Z h14 b3 k3 .int (3 : Int32) [(.int (0 : Int32)), (.int (w_buckets_a0 - (1 : Int32))), (.int (0 : Int32))] (.int (0 : Int32)) := Arv.set (v := (.int (0 : Int32))) Ar12 qk12 Sz12 Ng12 Hs12 Gf12 rfl W14 2 rfl (Nat.le_of_ble_eq_true rfl)
  have Z14 : n0 ≤ h14.size := Nat.le_trans Z11 (Keep.of_wr W14).1
  have N14 := Fr.snoc X14 N11 g_b3
  have E_b3_u15 : Exa Z h14 b3 "[I" := (((E_b3.wr W6).wr W11).wr W14)
  obtain ⟨fs, hr, hrun, hended, hW, hsame⟩ := X14.leave (v := some (.ref b3)) (fun h => by rw [Bd.returns] at h; cases h)
  refine ⟨_, _, pre0 _ ?_, hrun, hended, _, _, rfl, ?_, ⟨_, rfl⟩, hW, hsame.mono (by decide) (by decide)⟩
  · show Steps p.tables e below (s₁.setTop (mkF m 0 #[.val (.ref a0)] [])) _
    refine XS.aloadN X0.here hx rfl (hb hby d21_0) rfl rfl ?_
    show Steps p.tables e below (s₁.setTop (mkF m 1 #[.val (.ref a0)] [(.ref a0)])) _
    refine st1 _ ?_
    show Steps p.tables e below (T1.setTop (mkF m 4 #[.val (.ref a0)] [(.int w_overflow_a0)])) _
    refine XS.aloadN X1.here hx rfl (hb hby d21_4) rfl rfl ?_
    show Steps p.tables e below (T1.setTop (mkF m 5 #[.val (.ref a0)] [(.ref a0), (.int w_overflow_a0)])) _
    refine st2 _ ?_
    show Steps p.tables e below (T2.setTop (mkF m 8 #[.val (.ref a0)] [(.int w_buckets_a0), (.int w_overflow_a0)])) _
    refine XS.icmpYes X2.here hx rfl (pc0 := 8) (pc' := 53) rfl (hb hby d21_8) rfl (tlt hc2).1 (by decide) (by decide) ?_
    show Steps p.tables e below (T2.setTop (mkF m 53 #[.val (.ref a0)] [])) _
    refine XS.iconst X2.here hx rfl (hb hby d21_53) ?_
    show Steps p.tables e below (T2.setTop (mkF m 54 #[.val (.ref a0)] [(.int (3 : Int32))])) _
    refine st3 _ ?_
    show Steps p.tables e below (T3.setTop (mkF m 56 #[.val (.ref a0)] [(.ref b3)])) _
    refine XS.dup X3.here hx rfl (hb hby d21_56) rfl rfl ?_
    show Steps p.tables e below (T3.setTop (mkF m 57 #[.val (.ref a0)] [(.ref b3), (.ref b3)])) _
    refine XS.iconst X3.here hx rfl (hb hby d21_57) ?_
    show Steps p.tables e below (T3.setTop (mkF m 58 #[.val (.ref a0)] [(.int (0 : Int32)), (.ref b3), (.ref b3)])) _
    refine XS.iconst X3.here hx rfl (hb hby d21_58) ?_
    show Steps p.tables e below (T3.setTop (mkF m 59 #[.val (.ref a0)] [(.int (0 : Int32)), (.int (0 : Int32)), (.ref b3), (.ref b3)])) _
    refine st6 _ ?_
    show Steps p.tables e below (T6.setTop (mkF m 60 #[.val (.ref a0)] [(.ref b3)])) _
    refine XS.dup X6.here hx rfl (hb hby d21_60) rfl rfl ?_
    show Steps p.tables e below (T6.setTop (mkF m 61 #[.val (.ref a0)] [(.ref b3), (.ref b3)])) _
    refine XS.iconst X6.here hx rfl (hb hby d21_61) ?_
    show Steps p.tables e below (T6.setTop (mkF m 62 #[.val (.ref a0)] [(.int (1 : Int32)), (.ref b3), (.ref b3)])) _
    refine XS.aloadN X6.here hx rfl (hb hby d21_62) rfl rfl ?_
    show Steps p.tables e below (T6.setTop (mkF m 63 #[.val (.ref a0)] [(.ref a0), (.int (1 : Int32)), (.ref b3), (.ref b3)])) _
    refine st8 _ ?_
    show Steps p.tables e below (T8.setTop (mkF m 66 #[.val (.ref a0)] [(.int w_buckets_a0), (.int (1 : Int32)), (.ref b3), (.ref b3)])) _
    refine XS.iconst X8.here hx rfl (hb hby d21_66) ?_
    show Steps p.tables e below (T8.setTop (mkF m 67 #[.val (.ref a0)] [(.int (1 : Int32)), (.int w_buckets_a0), (.int (1 : Int32)), (.ref b3), (.ref b3)])) _
    refine XS.isub X8.here hx rfl (hb hby d21_67) rfl ?_
    show Steps p.tables e below (T8.setTop (mkF m 68 #[.val (.ref a0)] [(.int (w_buckets_a0 - (1 : Int32))), (.int (1 : Int32)), (.ref b3), (.ref b3)])) _
    refine st11 _ ?_
    show Steps p.tables e below (T11.setTop (mkF m 69 #[.val (.ref a0)] [(.ref b3)])) _
    refine XS.dup X11.here hx rfl (hb hby d21_69) rfl rfl ?_
    show Steps p.tables e below (T11.setTop (mkF m 70 #[.val (.ref a0)] [(.ref b3), (.ref b3)])) _
    refine XS.iconst X11.here hx rfl (hb hby d21_70) ?_
    show Steps p.tables e below (T11.setTop (mkF m 71 #[.val (.ref a0)] [(.int (2 : Int32)), (.ref b3), (.ref b3)])) _
    refine XS.iconst X11.here hx rfl (hb hby d21_71) ?_
    show Steps p.tables e below (T11.setTop (mkF m 72 #[.val (.ref a0)] [(.int (0 : Int32)), (.int (2 : Int32)), (.ref b3), (.ref b3)])) _
    refine st14 _ ?_
    show Steps p.tables e below (T14.setTop (mkF m 73 #[.val (.ref a0)] [(.ref b3)])) _
    jvm_step X14.here [X14.here.top, hx, (hb hby d21_73), X14.method', Bd.returns, Value.isRef, FieldType.isReference]
    first | (intro acts; rw [hr _ acts rfl rfl rfl]) | rw [hr _ _ rfl rfl rfl]
    exact Steps.refl _
  · show Q21t Z a0 w_overflow_a0 w_buckets_a0 h0 n0 _ T14.heap _
    rw [e14]
    exact ⟨b3, k3, rfl, N14, sz_b3, K14, E_b3_u15, V_b3_14⟩
theorem pd_16 : parseMethodDescriptor "([C)V" = some ⟨[(.array .char)], none⟩ := by decide +kernel
theorem pd_17 : parseMethodDescriptor "(ILjava/lang/String;)V" = some ⟨[.int, (.object "java/lang/String")], none⟩ := by decide +kernel
theorem pd_18 : parseMethodDescriptor "()[I" = some ⟨[], some (.array .int)⟩ := by decide +kernel
theorem pn_com_example_fireweed_fireweed_layout_Java31ByteSaltBytesPinLaw : plainName "com/example/fireweed/fireweed/layout/Java31ByteSaltBytesPinLaw" = true := by first | (simp [plainName, overriddenIn]; done) | decide +kernel
theorem ef_rm0pAt (m : MethodId) (p0 : Int32) (p1 : Int32) : entryFrame m #[(.int p0), (.int p1)] maxLocals = mkF m 0 #[.val (.int p0), .val (.int p1), .unset, .unset, .unset, .unset, .unset, .unset, .unset] [] := by first | (simp [entryFrame, mkF, argsToLocals, Value.category, maxLocals]; done) | rfl
def Q0pAt (Z : State) (p0 : Int32) (p1 : Int32) (aU : Addr) (s_COMPACT_STRINGS : Int32) (h0 : Heap) (n0 : Nat) (v : Option Value) (h : Heap) (L : List Loc) : Prop := v = some (.int (1 : Int32)) ∧ Fr n0 L
set_option maxRecDepth 65536 in
set_option maxHeartbeats 40000000 in
theorem rm0pAt (l : Launch) (Z : State) (az : Array Value) (hw : ∀ d ∈ tables_1, d.before az Z = true) (ws : List Jvm.Cond) (p0 : Int32) (p1 : Int32) (aU : Addr) (s_COMPACT_STRINGS : Int32) (h0 : Heap) (n0 : Nat) (Z0 : n0 ≤ h0.size) (S_INSTANCE : Sta Z h0 "sun/nio/cs/UTF_8" "INSTANCE" "Lsun/nio/cs/UTF_8;" (.ref aU)) (S_UTF_8 : Sta Z h0 "java/nio/charset/StandardCharsets" "UTF_8" "Ljava/nio/charset/Charset;" (.ref aU)) (S_COMPACT_STRINGS : Sta Z h0 "java/lang/String" "COMPACT_STRINGS" "Z" (.int s_COMPACT_STRINGS)) (hc3 : ¬ (s_COMPACT_STRINGS = (0 : Int32))) (hc4 : ¬ ((255 : Int32) < ((p1 &&& (255 : Int32)).toUInt32.toUInt16.toUInt32.toInt32))) (hc5 : ¬ ((((p1 &&& (255 : Int32)).toUInt32.toUInt16.toUInt32.toInt32).toInt8.toInt32) < (0 : Int32))) (hc6 : ¬ ((((p0 &&& (2147483647 : Int32)) % (256 : Int32)) + (1 : Int32)) < (1 : Int32))) (hc7 : ¬ ((256 : Int32) < (((p0 &&& (2147483647 : Int32)) % (256 : Int32)) + (1 : Int32)))) (hc8 : (own_bc (((p0 &&& (2147483647 : Int32)) % (256 : Int32)) + (1 : Int32))) = (1 : Int32)) (hc9 : ¬ (((((p0 &&& (2147483647 : Int32)) % (256 : Int32)) + (1 : Int32)) - (1 : Int32)) < (0 : Int32))) (hc10 : ((((-2147483648 : Int32) &&& ((((p0 &&& (2147483647 : Int32)) % (256 : Int32)) + (1 : Int32)) - (1 : Int32))).toInt8.toInt32) &&& (255 : Int32)) < (((p0 &&& (2147483647 : Int32)) % (256 : Int32)) + (1 : Int32))) (hc11 : ((((p0 &&& (2147483647 : Int32)) % (256 : Int32)) + (1 : Int32)).toInt64) ≠ (0 : Int64)) (hc12 : (((-((2147483648 : Int64) % ((((p0 &&& (2147483647 : Int32)) % (256 : Int32)) + (1 : Int32)).toInt64))) &&& (255 : Int64)).toInt32) < (((p0 &&& (2147483647 : Int32)) % (256 : Int32)) + (1 : Int32))) :
    MetFree l x (head1 (Jvm.Cond.code x code maxLocals ret :: ws) room_1) (fun a U => a = #[(.int p0), (.int p1)] ∧ Z.Warmed39 U.vm ∧ U.heap = h0) (fun _ _ _ _ _ => True) (fun _ U o U' => ∃ v L, o = .returned v ∧ Q0pAt Z p0 p1 aU s_COMPACT_STRINGS h0 n0 v U'.heap L ∧ ReturnedEndW U o U' L room_1.cells room_1.slots) := by
  refine MetFree.of_bodySF (plainFor_of_name pn_com_example_fireweed_fireweed_layout_Java31ByteSaltBytesPinLaw) hisR ?_
  intro p e s m args below meth c s₁ Bd hml0 hP hK
  obtain ⟨rfl, hZ, hh⟩ := hP
  have hx := Bd.exec
  have hby := Bd.bytes
  have hml : c.maxLocals = 9 := hml0
  have hown : s.vm.findClass "com/example/fireweed/fireweed/layout/Java31ByteSaltBytesPinLaw" = some m.cls := findClass_of_methodNamed Bd.named
  have hnm := (name_of_methodNamed Bd.named Bd.method).1
  have X0 : Stand p l e room_1 s m #[(.int p0), (.int p1)] below meth c s₁ [] 0 0 := Stand.of_body Bd
  have e0 : s₁.heap = h0 := by rw [← hh, Bd.state]; rfl
  have N0 := Fr.nil n0
  have pre0 : ∀ t, Steps p.tables e below (s₁.setTop (mkF m 0 #[.val (.int p0), .val (.int p1), .unset, .unset, .unset, .unset, .unset, .unset, .unset] [])) t → Steps p.tables e below (s₁.setTop (entryFrame m #[(.int p0), (.int p1)] maxLocals)) t := fun t k => castTop (ef_rm0pAt m p0 p1) k
  have hS0 : s.Since s.vm 0 := (State.WarmedH.refl s).since 0
  have wS : ∀ a ∈ Bundle.stringAtoms, a.before az Z = true := fun d hd => by
    simp only [Bundle.stringAtoms, List.mem_cons, List.not_mem_nil, or_false] at hd
    rcases hd with rfl | rfl | rfl | rfl | rfl | rfl | rfl
    · exact (hw _ (List.mem_of_getElem? (i := 7) rfl))
    · exact (hw _ (List.mem_of_getElem? (i := 6) rfl))
    · exact (hw _ (List.mem_of_getElem? (i := 23) rfl))
    · exact (hw _ (List.mem_of_getElem? (i := 33) rfl))
    · exact (hw _ (List.mem_of_getElem? (i := 31) rfl))
    · exact (hw _ (List.mem_of_getElem? (i := 49) rfl))
    · exact (hw _ (List.mem_of_getElem? (i := 50) rfl))
  obtain ⟨T1, h1, k1, X1, e1, E1, A1, x1, st1⟩ := newPE X0 hx hZ (hw _ (List.mem_of_getElem? (i := 1) rfl)) e0 (g := (mkF m 12 #[.val (.int p0), .val (.int p1), .val (.int (((p0 &&& (2147483647 : Int32)) % (256 : Int32)) + (1 : Int32))), .unset, .unset, .unset, .unset, .unset, .unset] [(.int (1 : Int32))])) rfl (hb hby at_12) rfl (by decide) (cap := 1) (by decide) (by decide) (by decide) (by decide) (ad := "[C") (by decide)
  obtain ⟨b1, g1⟩ : ∃ z, z = h0.size := ⟨_, rfl⟩
  rw [← g1] at A1 x1 st1
  have g_b1 : n0 ≤ b1 := Nat.le_trans Z0 (Nat.le_of_eq g1.symm)
  have sz_b1 : h0.size ≤ b1 := Nat.le_trans (Nat.le_refl _) (Nat.le_of_eq g1.symm)
  have Z1 : n0 ≤ h1.size := Nat.le_trans Z0 E1.1
  have K1 : Keep h0 h1 [] := (Keep.refl h0 []).ext E1
  have E_b1 := x1
  have V_b1 : Arv Z h1 b1 k1 .char (1 : Int32) [(.int (0 : Int32))] (.int (0 : Int32)) := (Arv.new A1 (by decide)).pad (pad_rep [] (.int (0 : Int32)) 1)
  obtain ⟨cl2, Ar2, qk2, Sz2, Ng2, Hs2, Gf2⟩ := id V_b1
  have hin3 : ¬ ((0 : Int32) < 0 ∨ cl2.slots.size ≤ ((0 : Int32)).toNatClampNeg) := inb_of Sz2 ⟨by decide, by decide⟩
  obtain ⟨T4, h4, X4, e4, W4, st4⟩ := stC X1 hx hZ e1 Ar2 (j := (0 : Int32)) hin3 (g := (mkF m 22 #[.val (.int p0), .val (.int p1), .val (.int (((p0 &&& (2147483647 : Int32)) % (256 : Int32)) + (1 : Int32))), .unset, .unset, .unset, .unset, .unset, .unset] [(.int ((p1 &&& (255 : Int32)).toUInt32.toUInt16.toUInt32.toInt32)), (.int (0 : Int32)), (.ref b1), (.ref b1)])) rfl rfl (hb hby at_22)
  rw [(own_nc _)] at W4
  have K4 : Keep h0 h4 [] := K1.wr W4 (Or.inr sz_b1)
  have V_b1_4 : Arv Z h4 b1 k1 .char (1 : Int32) [(.int ((p1 &&& (255 : Int32)).toUInt32.toUInt16.toUInt32.toInt32))] (.int (0 : Int32)) := Arv.set (v := (.int ((p1 &&& (255 : Int32)).toUInt32.toUInt16.toUInt32.toInt32))) Ar2 qk2 Sz2 Ng2 Hs2 Gf2 (own_fits (own_nc _) (fits_nar_char _)) W4 0 rfl (Nat.le_of_ble_eq_true rfl)
  have Z4 : n0 ≤ h4.size := Nat.le_trans Z1 (Keep.of_wr W4).1
  have N4 := Fr.snoc X4 N0 g_b1
  obtain ⟨T5, h5, X5, e5, E5, A5, D5, -, st5⟩ := newO X4 hx hZ hown (hw _ (List.mem_of_getElem? (i := 2) rfl)) (hw _ (List.mem_of_getElem? (i := 3) rfl)) (hw _ (List.mem_of_getElem? (i := 4) rfl)) e4 (g := (mkF m 24 #[.val (.int p0), .val (.int p1), .val (.int (((p0 &&& (2147483647 : Int32)) % (256 : Int32)) + (1 : Int32))), .val (.ref b1), .unset, .unset, .unset, .unset, .unset] [])) rfl (hb hby at_24) (by decide) (by decide)
  obtain ⟨b5, g5⟩ : ∃ z, z = h4.size := ⟨_, rfl⟩
  rw [← g5] at A5 D5 st5
  have g_b5 : n0 ≤ b5 := Nat.le_trans Z4 (Nat.le_of_eq g5.symm)
  have sz_b5 : h0.size ≤ b5 := Nat.le_trans K4.1 (Nat.le_of_eq g5.symm)
  have Z5 : n0 ≤ h5.size := Nat.le_trans Z4 E5.1
  have K5 : Keep h0 h5 [] := K4.ext E5
  have E_b5 := A5
  have F_suffix_b5 : Fld Z h5 b5 "com/example/fireweed/fireweed/layout/Salt" "suffix" "Ljava/lang/String;" .null := D5 (Or.inr (hw _ (List.mem_of_getElem? (i := 57) rfl))) (ty := (.object "java/lang/String")) (by decide)
  have F_suffixBytes_b5 : Fld Z h5 b5 "com/example/fireweed/fireweed/layout/Salt" "suffixBytes" "[B" .null := D5 (Or.inr (hw _ (List.mem_of_getElem? (i := 95) rfl))) (ty := (.array .byte)) (by decide)
  have F_buckets_b5 : Fld Z h5 b5 "com/example/fireweed/fireweed/layout/Java31ByteSalt" "buckets" "I" (.int (0 : Int32)) := D5 (Or.inr (hw _ (List.mem_of_getElem? (i := 97) rfl))) (ty := .int) (by decide)
  have F_mask_b5 : Fld Z h5 b5 "com/example/fireweed/fireweed/layout/Java31ByteSalt" "mask" "I" (.int (0 : Int32)) := D5 (Or.inr (hw _ (List.mem_of_getElem? (i := 106) rfl))) (ty := .int) (by decide)
  have F_overflow_b5 : Fld Z h5 b5 "com/example/fireweed/fireweed/layout/Java31ByteSalt" "overflow" "I" (.int (0 : Int32)) := D5 (Or.inr (hw _ (List.mem_of_getElem? (i := 121) rfl))) (ty := .int) (by decide)
  obtain ⟨T6, h6, X6, e6, E6, A6, D6, -, st6⟩ := newO X5 hx hZ hown (hw _ (List.mem_of_getElem? (i := 5) rfl)) (hw _ (List.mem_of_getElem? (i := 6) rfl)) (hw _ (List.mem_of_getElem? (i := 7) rfl)) e5 (g := (mkF m 29 #[.val (.int p0), .val (.int p1), .val (.int (((p0 &&& (2147483647 : Int32)) % (256 : Int32)) + (1 : Int32))), .val (.ref b1), .unset, .unset, .unset, .unset, .unset] [(.int (((p0 &&& (2147483647 : Int32)) % (256 : Int32)) + (1 : Int32))), (.ref b5), (.ref b5)])) rfl (hb hby at_29) (by decide) (by decide)
  obtain ⟨b6, g6⟩ : ∃ z, z = h5.size := ⟨_, rfl⟩
  rw [← g6] at A6 D6 st6
  have g_b6 : n0 ≤ b6 := Nat.le_trans Z5 (Nat.le_of_eq g6.symm)
  have sz_b6 : h0.size ≤ b6 := Nat.le_trans K5.1 (Nat.le_of_eq g6.symm)
  have Z6 : n0 ≤ h6.size := Nat.le_trans Z5 E6.1
  have K6 : Keep h0 h6 [] := K5.ext E6
  have E_b6 := A6
  have F_coder_b6 : Fld Z h6 b6 "java/lang/String" "coder" "B" (.int (0 : Int32)) := D6 (Or.inr (hw _ (List.mem_of_getElem? (i := 31) rfl))) (ty := .byte) (by decide)
  have F_value_b6 : Fld Z h6 b6 "java/lang/String" "value" "[B" .null := D6 (Or.inr (hw _ (List.mem_of_getElem? (i := 33) rfl))) (ty := (.array .byte)) (by decide)
  have V_b1_u8 : Arv Z h6 b1 k1 .char (1 : Int32) [(.int ((p1 &&& (255 : Int32)).toUInt32.toUInt16.toUInt32.toInt32))] (.int (0 : Int32)) := ((V_b1_4.ext E5).ext E6)
  have S_String_COMPACT_STRINGS_u9 : Sta Z h6 "java/lang/String" "COMPACT_STRINGS" "Z" (.int s_COMPACT_STRINGS) := ((((S_COMPACT_STRINGS.ext E1).wr W4).ext E5).ext E6)
  obtain ⟨_, _, ⟨T7, L7, k7', n7'⟩, -, X7, ⟨Lc7, hQ7, l7, y7, z7⟩, st7⟩ := X6.specialBack hx (y := (⟨"java/lang/String", "<init>", "([C)V"⟩ : MethodName)) rfl hown (mvT hZ (hw _ (List.mem_of_getElem? (i := 8) rfl))) (mvT hZ (hw _ (List.mem_of_getElem? (i := 9) rfl))) (mvT hZ (hw _ (List.mem_of_getElem? (i := 10) rfl))) (by decide) (backOf (W := 4) (rm1_1 l Z az hw [] b6 b1 k1 ((p1 &&& (255 : Int32)).toUInt32.toUInt16.toUInt32.toInt32) s_COMPACT_STRINGS h6 n0 Z6 E_b6 F_coder_b6 F_value_b6 V_b1_u8 S_String_COMPACT_STRINGS_u9 hc3 hc4 g_b6) hZ (hw _ (List.mem_of_getElem? (i := 10) rfl)) (hw _ (List.mem_of_getElem? (i := 7) rfl)) (by decide) (by decide)) (g := (mkF m 34 #[.val (.int p0), .val (.int p1), .val (.int (((p0 &&& (2147483647 : Int32)) % (256 : Int32)) + (1 : Int32))), .val (.ref b1), .unset, .unset, .unset, .unset, .unset] [(.ref b1), (.ref b6), (.ref b6), (.int (((p0 &&& (2147483647 : Int32)) % (256 : Int32)) + (1 : Int32))), (.ref b5), (.ref b5)])) rfl (by rw [hml]; rfl) (Steps.refl _) (a := b6) (argsL := [(.ref b1)]) (rest := [(.ref b6), (.int (((p0 &&& (2147483647 : Int32)) % (256 : Int32)) + (1 : Int32))), (.ref b5), (.ref b5)]) (lenOf pd_16 rfl) rfl (by show 2 * 0 + _ ≤ _; exact Nat.le_of_eq rfl) (hb hby at_34) (fun _ _ => ⟨rfl, e6, (by decide : 3 + 1 ≤ _), (by decide : 10 + 1 ≤ _)⟩)
  dsimp only [Pt.U, Pt.locs, Pt.cells, Pt.slots] at X7 l7 y7 z7 st7 hQ7
  subst l7 y7 z7
  obtain ⟨b7_0, kk7_0, rfl, N7q, s7_0, kq7, pf7_0, pf7_1, pf7_2, pf7_3, pf7_4⟩ := hQ7
  have N7 := Fr.app N4 N7q
  have g_b7_0 : n0 ≤ b7_0 := Nat.le_trans Z6 s7_0
  have sz_b7_0 : h0.size ≤ b7_0 := Nat.le_trans K6.1 s7_0
  have K7 : Keep h0 T7.heap [] := K6.trans kq7 (allS (Or.inr sz_b6) all0)
  have Z7 : n0 ≤ T7.heap.size := Nat.le_trans Z6 kq7.1
  have E_b5_u11 : Exa Z T7.heap b5 "com/example/fireweed/fireweed/layout/Java31ByteSalt" := ((E_b5.ext E6).keep kq7)
  have ne_b5_b6 : b5 ≠ b6 := own_ne (Nat.lt_of_lt_of_le E_b5.lt (Nat.le_of_eq g6.symm))
  have F_b5_suffix_u12 : Fld Z T7.heap b5 "com/example/fireweed/fireweed/layout/Salt" "suffix" "Ljava/lang/String;" .null := ((F_suffix_b5.ext E6).keep kq7 (ninS ne_b5_b6 nin0))
  have F_b5_suffixBytes_u13 : Fld Z T7.heap b5 "com/example/fireweed/fireweed/layout/Salt" "suffixBytes" "[B" .null := ((F_suffixBytes_b5.ext E6).keep kq7 (ninS ne_b5_b6 nin0))
  have F_b5_buckets_u14 : Fld Z T7.heap b5 "com/example/fireweed/fireweed/layout/Java31ByteSalt" "buckets" "I" (.int (0 : Int32)) := ((F_buckets_b5.ext E6).keep kq7 (ninS ne_b5_b6 nin0))
  have F_b5_mask_u15 : Fld Z T7.heap b5 "com/example/fireweed/fireweed/layout/Java31ByteSalt" "mask" "I" (.int (0 : Int32)) := ((F_mask_b5.ext E6).keep kq7 (ninS ne_b5_b6 nin0))
  have F_b5_overflow_u16 : Fld Z T7.heap b5 "com/example/fireweed/fireweed/layout/Java31ByteSalt" "overflow" "I" (.int (0 : Int32)) := ((F_overflow_b5.ext E6).keep kq7 (ninS ne_b5_b6 nin0))
  have S_UTF_8_INSTANCE_u17 : Sta Z T7.heap "sun/nio/cs/UTF_8" "INSTANCE" "Lsun/nio/cs/UTF_8;" (.ref aU) := (own_Sta ((((S_INSTANCE.ext E1).wr W4).ext E5).ext E6) kq7 (allS (P := fun x => ∀ cell : Cell, _ → cell.vm.isStatics = false) E_b6.nostat (fun _ m => nomatch m)))
  have S_StandardCharsets_UTF_8_u18 : Sta Z T7.heap "java/nio/charset/StandardCharsets" "UTF_8" "Ljava/nio/charset/Charset;" (.ref aU) := (own_Sta ((((S_UTF_8.ext E1).wr W4).ext E5).ext E6) kq7 (allS (P := fun x => ∀ cell : Cell, _ → cell.vm.isStatics = false) E_b6.nostat (fun _ m => nomatch m)))
  have S_String_COMPACT_STRINGS_u19 : Sta Z T7.heap "java/lang/String" "COMPACT_STRINGS" "Z" (.int s_COMPACT_STRINGS) := (own_Sta S_String_COMPACT_STRINGS_u9 kq7 (allS (P := fun x => ∀ cell : Cell, _ → cell.vm.isStatics = false) E_b6.nostat (fun _ m => nomatch m)))
  have ne_b5_b7_0 : b5 ≠ b7_0 := own_ne (Nat.lt_of_lt_of_le (E_b5.ext E6).lt s7_0)
  obtain ⟨_, _, ⟨T10, L10, k10', n10'⟩, -, Y10, yS10, yg10, ⟨Lc10, hQ10, l10, y10, z10⟩, st10⟩ := X7.specialBackS hx (y := (⟨"com/example/fireweed/fireweed/layout/Java31ByteSalt", "<init>", "(ILjava/lang/String;)V"⟩ : MethodName)) rfl hown (mvT hZ (hw _ (List.mem_of_getElem? (i := 34) rfl))) (mvT hZ (hw _ (List.mem_of_getElem? (i := 35) rfl))) (mvT hZ (hw _ (List.mem_of_getElem? (i := 36) rfl))) (by decide) (backOfS (W := 1) (rm7pA l Z az hw [] b5 (((p0 &&& (2147483647 : Int32)) % (256 : Int32)) + (1 : Int32)) b6 b7_0 kk7_0 (((p1 &&& (255 : Int32)).toUInt32.toUInt16.toUInt32.toInt32).toInt8.toInt32) aU s_COMPACT_STRINGS T7.heap n0 Z7 E_b5_u11 F_b5_suffix_u12 F_b5_suffixBytes_u13 F_b5_buckets_u14 F_b5_mask_u15 F_b5_overflow_u16 pf7_0 pf7_1 pf7_2 pf7_4 pf7_3 S_UTF_8_INSTANCE_u17 S_StandardCharsets_UTF_8_u18 hc5 S_String_COMPACT_STRINGS_u19 g_b5 (Ne.symm ne_b5_b6) (Ne.symm ne_b5_b7_0) hc3 hc6 hc7 hc8 hc9) hZ (hw _ (List.mem_of_getElem? (i := 36) rfl)) (hw _ (List.mem_of_getElem? (i := 4) rfl)) (by decide) (by decide)) (g := (mkF m 37 #[.val (.int p0), .val (.int p1), .val (.int (((p0 &&& (2147483647 : Int32)) % (256 : Int32)) + (1 : Int32))), .val (.ref b1), .unset, .unset, .unset, .unset, .unset] [(.ref b6), (.int (((p0 &&& (2147483647 : Int32)) % (256 : Int32)) + (1 : Int32))), (.ref b5), (.ref b5)])) rfl (by rw [hml]; rfl) (Steps.refl _) (a := b5) (argsL := [(.int (((p0 &&& (2147483647 : Int32)) % (256 : Int32)) + (1 : Int32))), (.ref b6)]) (rest := [(.ref b5)]) (lenOf pd_17 rfl) rfl (by show 2 * 0 + _ ≤ _; exact Nat.le_of_eq rfl) (hb hby at_37) (fun _ _ => ⟨rfl, rfl, (by decide : 4 + 3 ≤ _), (by decide : 11 + 29 ≤ _)⟩)
  dsimp only [Pt.U, Pt.locs, Pt.cells, Pt.slots] at Y10 yS10 yg10 l10 y10 z10 st10 hQ10
  subst l10 y10 z10
  obtain ⟨X10, hS10, hZ10, hown10⟩ := rebS (s := s) (vm0 := s.vm) hS0 (Nat.le_trans (Nat.le_trans (Nat.le_trans (Nat.le_trans (Nat.le_trans (Nat.zero_le _) E1.1) (Keep.of_wr W4).1) E5.1) E6.1) kq7.1) Y10 yS10 yg10 hZ hown
  obtain ⟨b10_0, rfl, N10q, s10_0, kq10, pf10_0, pf10_1, pf10_2, pf10_3, pf10_4, pf10_5, pf10_6, pf10_7⟩ := hQ10
  have N10 := Fr.app N7 N10q
  have g_b10_0 : n0 ≤ b10_0 := Nat.le_trans Z7 s10_0
  have sz_b10_0 : h0.size ≤ b10_0 := Nat.le_trans K7.1 s10_0
  have K10 : Keep h0 T10.heap [] := K7.trans kq10 (allS (Or.inr sz_b5) all0)
  have Z10 : n0 ≤ T10.heap.size := Nat.le_trans Z7 kq10.1
  obtain ⟨cq20, kq20, q20a, q20b, q20c⟩ := isOf hZ10 rfl pf10_0
  obtain ⟨_, _, ⟨T20, L20, k20', n20'⟩, -, X20, ⟨Lc20, hQ20, l20, y20, z20⟩, st20⟩ := X10.virtualBack hx (y := (⟨"com/example/fireweed/fireweed/layout/Java31ByteSalt", "bytes", "()[I"⟩ : MethodName)) (z := (⟨"com/example/fireweed/fireweed/layout/Java31ByteSalt", "bytes", "()[I"⟩ : MethodName)) hown10 (mvT hZ10 (hw _ (List.mem_of_getElem? (i := 122) rfl))) (mvT hZ10 (hw _ (List.mem_of_getElem? (i := 123) rfl))) (notFace_of_selects (args := #[]) (mvT hZ10 (hw _ (List.mem_of_getElem? (i := 125) rfl)))) (mvT hZ10 (hw _ (List.mem_of_getElem? (i := 125) rfl))) (mvT hZ10 (hw _ (List.mem_of_getElem? (i := 124) rfl))) (by decide) (backOf (W := 0) (rm21t l Z az hw [] b5 ((((-2147483648 : Int32) &&& ((((p0 &&& (2147483647 : Int32)) % (256 : Int32)) + (1 : Int32)) - (1 : Int32))).toInt8.toInt32) &&& (255 : Int32)) (((p0 &&& (2147483647 : Int32)) % (256 : Int32)) + (1 : Int32)) T10.heap n0 Z10 pf10_5 pf10_3 hc10) hZ10 (hw _ (List.mem_of_getElem? (i := 126) rfl)) (hw _ (List.mem_of_getElem? (i := 4) rfl)) (by decide) (by decide)) q20a q20c (g := (mkF m 44 #[.val (.int p0), .val (.int p1), .val (.int (((p0 &&& (2147483647 : Int32)) % (256 : Int32)) + (1 : Int32))), .val (.ref b1), .val (.ref b5), .unset, .unset, .unset, .unset] [(.ref b5)])) rfl (by rw [hml]; rfl) (Steps.refl _) (argsL := []) (rest := []) (lenOf pd_18 rfl) rfl (by show 2 * 0 + _ ≤ _; exact Nat.le_of_eq rfl) (hb hby at_44) (fun _ _ => ⟨rfl, rfl, (by decide : 7 + 1 ≤ _), (by decide : 40 + 3 ≤ _)⟩)
  dsimp only [Pt.U, Pt.locs, Pt.cells, Pt.slots] at X20 l20 y20 z20 st20 hQ20
  subst l20 y20 z20
  obtain ⟨b20_0, kk20_0, rfl, N20q, s20_0, kq20, pf20_0, pf20_1⟩ := hQ20
  have N20 := Fr.app N10 N20q
  have g_b20_0 : n0 ≤ b20_0 := Nat.le_trans Z10 s20_0
  have sz_b20_0 : h0.size ≤ b20_0 := Nat.le_trans K10.1 s20_0
  have K20 : Keep h0 T20.heap [] := K10.trans kq20 all0
  have Z20 : n0 ≤ T20.heap.size := Nat.le_trans Z10 kq20.1
  obtain ⟨cl21, Ar21, qk21, Sz21, Ng21, Hs21, Gf21⟩ := id pf20_1
  have hin22 : ¬ ((0 : Int32) < 0 ∨ cl21.slots.size ≤ ((0 : Int32)).toNatClampNeg) := inb_of Sz21 ⟨by decide, by decide⟩
  have hat23 : cl21.slots[((0 : Int32)).toNatClampNeg]? = some (.int (0 : Int32)) := Hs21.at hin22 rfl
  have hin24 : ¬ ((1 : Int32) < 0 ∨ cl21.slots.size ≤ ((1 : Int32)).toNatClampNeg) := inb_of Sz21 ⟨by decide, by decide⟩
  have hat25 : cl21.slots[((1 : Int32)).toNatClampNeg]? = some (.int ((((p0 &&& (2147483647 : Int32)) % (256 : Int32)) + (1 : Int32)) - (1 : Int32))) := Hs21.at hin24 rfl
  have hin26 : ¬ ((2 : Int32) < 0 ∨ cl21.slots.size ≤ ((2 : Int32)).toNatClampNeg) := inb_of Sz21 ⟨by decide, by decide⟩
  have hat27 : cl21.slots[((2 : Int32)).toNatClampNeg]? = some (.int (0 : Int32)) := Hs21.at hin26 rfl
  obtain ⟨fs, hr, hrun, hended, hWE⟩ := X20.leaveW (s := s) hS10 (Nat.le_trans (Nat.le_refl _) kq20.1) (v := some (.int (1 : Int32))) (fun h => by rw [Bd.returns] at h; cases h)
  refine ⟨_, _, pre0 _ ?_, hrun, hended, _, _, rfl, ?_, hWE.1, hWE.2.1, hWE.2.2.1, hWE.2.2.2.mono (by decide) (by decide)⟩
  · show Steps p.tables e below (s₁.setTop (mkF m 0 #[.val (.int p0), .val (.int p1), .unset, .unset, .unset, .unset, .unset, .unset, .unset] [])) _
    refine XS.iloadN X0.here hx rfl (hb hby at_0) rfl ?_
    show Steps p.tables e below (s₁.setTop (mkF m 1 #[.val (.int p0), .val (.int p1), .unset, .unset, .unset, .unset, .unset, .unset, .unset] [(.int p0)])) _
    refine X0.ldcInt hx hown (mvT hZ (hw _ (List.mem_of_getElem? (i := 0) rfl))) (g := (mkF m 1 #[.val (.int p0), .val (.int p1), .unset, .unset, .unset, .unset, .unset, .unset, .unset] [(.int p0)])) rfl (hb hby at_1) _ ?_
    show Steps p.tables e below (s₁.setTop (mkF m 3 #[.val (.int p0), .val (.int p1), .unset, .unset, .unset, .unset, .unset, .unset, .unset] [(.int (2147483647 : Int32)), (.int p0)])) _
    refine XS.iand X0.here hx rfl (hb hby at_3) rfl ?_
    show Steps p.tables e below (s₁.setTop (mkF m 4 #[.val (.int p0), .val (.int p1), .unset, .unset, .unset, .unset, .unset, .unset, .unset] [(.int (p0 &&& (2147483647 : Int32)))])) _
    refine XS.sipush X0.here hx rfl (hb hby at_4) ?_
    show Steps p.tables e below (s₁.setTop (mkF m 7 #[.val (.int p0), .val (.int p1), .unset, .unset, .unset, .unset, .unset, .unset, .unset] [(.int (256 : Int32)), (.int (p0 &&& (2147483647 : Int32)))])) _
    refine iremM X0 hx rfl (hb hby at_7) rfl (by decide) ?_
    show Steps p.tables e below (s₁.setTop (mkF m 8 #[.val (.int p0), .val (.int p1), .unset, .unset, .unset, .unset, .unset, .unset, .unset] [(.int ((p0 &&& (2147483647 : Int32)) % (256 : Int32)))])) _
    refine XS.iconst X0.here hx rfl (hb hby at_8) ?_
    show Steps p.tables e below (s₁.setTop (mkF m 9 #[.val (.int p0), .val (.int p1), .unset, .unset, .unset, .unset, .unset, .unset, .unset] [(.int (1 : Int32)), (.int ((p0 &&& (2147483647 : Int32)) % (256 : Int32)))])) _
    refine XS.iadd X0.here hx rfl (hb hby at_9) rfl ?_
    show Steps p.tables e below (s₁.setTop (mkF m 10 #[.val (.int p0), .val (.int p1), .unset, .unset, .unset, .unset, .unset, .unset, .unset] [(.int (((p0 &&& (2147483647 : Int32)) % (256 : Int32)) + (1 : Int32)))])) _
    refine XS.istoreN X0.here hx rfl (hb hby at_10) rfl (l' := #[.val (.int p0), .val (.int p1), .val (.int (((p0 &&& (2147483647 : Int32)) % (256 : Int32)) + (1 : Int32))), .unset, .unset, .unset, .unset, .unset, .unset]) rfl ?_
    show Steps p.tables e below (s₁.setTop (mkF m 11 #[.val (.int p0), .val (.int p1), .val (.int (((p0 &&& (2147483647 : Int32)) % (256 : Int32)) + (1 : Int32))), .unset, .unset, .unset, .unset, .unset, .unset] [])) _
    refine XS.iconst X0.here hx rfl (hb hby at_11) ?_
    show Steps p.tables e below (s₁.setTop (mkF m 12 #[.val (.int p0), .val (.int p1), .val (.int (((p0 &&& (2147483647 : Int32)) % (256 : Int32)) + (1 : Int32))), .unset, .unset, .unset, .unset, .unset, .unset] [(.int (1 : Int32))])) _
    refine st1 _ ?_
    show Steps p.tables e below (T1.setTop (mkF m 14 #[.val (.int p0), .val (.int p1), .val (.int (((p0 &&& (2147483647 : Int32)) % (256 : Int32)) + (1 : Int32))), .unset, .unset, .unset, .unset, .unset, .unset] [(.ref b1)])) _
    refine XS.dup X1.here hx rfl (hb hby at_14) rfl rfl ?_
    show Steps p.tables e below (T1.setTop (mkF m 15 #[.val (.int p0), .val (.int p1), .val (.int (((p0 &&& (2147483647 : Int32)) % (256 : Int32)) + (1 : Int32))), .unset, .unset, .unset, .unset, .unset, .unset] [(.ref b1), (.ref b1)])) _
    refine XS.iconst X1.here hx rfl (hb hby at_15) ?_
    show Steps p.tables e below (T1.setTop (mkF m 16 #[.val (.int p0), .val (.int p1), .val (.int (((p0 &&& (2147483647 : Int32)) % (256 : Int32)) + (1 : Int32))), .unset, .unset, .unset, .unset, .unset, .unset] [(.int (0 : Int32)), (.ref b1), (.ref b1)])) _
    refine XS.iloadN X1.here hx rfl (hb hby at_16) rfl ?_
    show Steps p.tables e below (T1.setTop (mkF m 17 #[.val (.int p0), .val (.int p1), .val (.int (((p0 &&& (2147483647 : Int32)) % (256 : Int32)) + (1 : Int32))), .unset, .unset, .unset, .unset, .unset, .unset] [(.int p1), (.int (0 : Int32)), (.ref b1), (.ref b1)])) _
    refine XS.sipush X1.here hx rfl (hb hby at_17) ?_
    show Steps p.tables e below (T1.setTop (mkF m 20 #[.val (.int p0), .val (.int p1), .val (.int (((p0 &&& (2147483647 : Int32)) % (256 : Int32)) + (1 : Int32))), .unset, .unset, .unset, .unset, .unset, .unset] [(.int (255 : Int32)), (.int p1), (.int (0 : Int32)), (.ref b1), (.ref b1)])) _
    refine XS.iand X1.here hx rfl (hb hby at_20) rfl ?_
    show Steps p.tables e below (T1.setTop (mkF m 21 #[.val (.int p0), .val (.int p1), .val (.int (((p0 &&& (2147483647 : Int32)) % (256 : Int32)) + (1 : Int32))), .unset, .unset, .unset, .unset, .unset, .unset] [(.int (p1 &&& (255 : Int32))), (.int (0 : Int32)), (.ref b1), (.ref b1)])) _
    refine XS.i2c X1.here hx rfl (hb hby at_21) rfl ?_
    show Steps p.tables e below (T1.setTop (mkF m 22 #[.val (.int p0), .val (.int p1), .val (.int (((p0 &&& (2147483647 : Int32)) % (256 : Int32)) + (1 : Int32))), .unset, .unset, .unset, .unset, .unset, .unset] [(.int ((p1 &&& (255 : Int32)).toUInt32.toUInt16.toUInt32.toInt32)), (.int (0 : Int32)), (.ref b1), (.ref b1)])) _
    refine st4 _ ?_
    show Steps p.tables e below (T4.setTop (mkF m 23 #[.val (.int p0), .val (.int p1), .val (.int (((p0 &&& (2147483647 : Int32)) % (256 : Int32)) + (1 : Int32))), .unset, .unset, .unset, .unset, .unset, .unset] [(.ref b1)])) _
    refine XS.astoreN X4.here hx rfl (hb hby at_23) rfl rfl (l' := #[.val (.int p0), .val (.int p1), .val (.int (((p0 &&& (2147483647 : Int32)) % (256 : Int32)) + (1 : Int32))), .val (.ref b1), .unset, .unset, .unset, .unset, .unset]) rfl ?_
    show Steps p.tables e below (T4.setTop (mkF m 24 #[.val (.int p0), .val (.int p1), .val (.int (((p0 &&& (2147483647 : Int32)) % (256 : Int32)) + (1 : Int32))), .val (.ref b1), .unset, .unset, .unset, .unset, .unset] [])) _
    refine st5 _ ?_
    show Steps p.tables e below (T5.setTop (mkF m 27 #[.val (.int p0), .val (.int p1), .val (.int (((p0 &&& (2147483647 : Int32)) % (256 : Int32)) + (1 : Int32))), .val (.ref b1), .unset, .unset, .unset, .unset, .unset] [(.ref b5)])) _
    refine XS.dup X5.here hx rfl (hb hby at_27) rfl rfl ?_
    show Steps p.tables e below (T5.setTop (mkF m 28 #[.val (.int p0), .val (.int p1), .val (.int (((p0 &&& (2147483647 : Int32)) % (256 : Int32)) + (1 : Int32))), .val (.ref b1), .unset, .unset, .unset, .unset, .unset] [(.ref b5), (.ref b5)])) _
    refine XS.iloadN X5.here hx rfl (hb hby at_28) rfl ?_
    show Steps p.tables e below (T5.setTop (mkF m 29 #[.val (.int p0), .val (.int p1), .val (.int (((p0 &&& (2147483647 : Int32)) % (256 : Int32)) + (1 : Int32))), .val (.ref b1), .unset, .unset, .unset, .unset, .unset] [(.int (((p0 &&& (2147483647 : Int32)) % (256 : Int32)) + (1 : Int32))), (.ref b5), (.ref b5)])) _
    refine st6 _ ?_
    show Steps p.tables e below (T6.setTop (mkF m 32 #[.val (.int p0), .val (.int p1), .val (.int (((p0 &&& (2147483647 : Int32)) % (256 : Int32)) + (1 : Int32))), .val (.ref b1), .unset, .unset, .unset, .unset, .unset] [(.ref b6), (.int (((p0 &&& (2147483647 : Int32)) % (256 : Int32)) + (1 : Int32))), (.ref b5), (.ref b5)])) _
    refine XS.dup X6.here hx rfl (hb hby at_32) rfl rfl ?_
    show Steps p.tables e below (T6.setTop (mkF m 33 #[.val (.int p0), .val (.int p1), .val (.int (((p0 &&& (2147483647 : Int32)) % (256 : Int32)) + (1 : Int32))), .val (.ref b1), .unset, .unset, .unset, .unset, .unset] [(.ref b6), (.ref b6), (.int (((p0 &&& (2147483647 : Int32)) % (256 : Int32)) + (1 : Int32))), (.ref b5), (.ref b5)])) _
    refine XS.aloadN X6.here hx rfl (hb hby at_33) rfl rfl ?_
    show Steps p.tables e below (T6.setTop (mkF m 34 #[.val (.int p0), .val (.int p1), .val (.int (((p0 &&& (2147483647 : Int32)) % (256 : Int32)) + (1 : Int32))), .val (.ref b1), .unset, .unset, .unset, .unset, .unset] [(.ref b1), (.ref b6), (.ref b6), (.int (((p0 &&& (2147483647 : Int32)) % (256 : Int32)) + (1 : Int32))), (.ref b5), (.ref b5)])) _
    refine st7.trans ?_
    show Steps p.tables e below (T7.setTop (mkF m 37 #[.val (.int p0), .val (.int p1), .val (.int (((p0 &&& (2147483647 : Int32)) % (256 : Int32)) + (1 : Int32))), .val (.ref b1), .unset, .unset, .unset, .unset, .unset] [(.ref b6), (.int (((p0 &&& (2147483647 : Int32)) % (256 : Int32)) + (1 : Int32))), (.ref b5), (.ref b5)])) _
    refine st10.trans ?_
    show Steps p.tables e below (T10.setTop (mkF m 40 #[.val (.int p0), .val (.int p1), .val (.int (((p0 &&& (2147483647 : Int32)) % (256 : Int32)) + (1 : Int32))), .val (.ref b1), .unset, .unset, .unset, .unset, .unset] [(.ref b5)])) _
    refine XS.astore X10.here hx rfl (hb hby at_40) rfl rfl (l' := #[.val (.int p0), .val (.int p1), .val (.int (((p0 &&& (2147483647 : Int32)) % (256 : Int32)) + (1 : Int32))), .val (.ref b1), .val (.ref b5), .unset, .unset, .unset, .unset]) rfl ?_
    show Steps p.tables e below (T10.setTop (mkF m 42 #[.val (.int p0), .val (.int p1), .val (.int (((p0 &&& (2147483647 : Int32)) % (256 : Int32)) + (1 : Int32))), .val (.ref b1), .val (.ref b5), .unset, .unset, .unset, .unset] [])) _
    refine XS.aload X10.here hx rfl (hb hby at_42) rfl rfl ?_
    show Steps p.tables e below (T10.setTop (mkF m 44 #[.val (.int p0), .val (.int p1), .val (.int (((p0 &&& (2147483647 : Int32)) % (256 : Int32)) + (1 : Int32))), .val (.ref b1), .val (.ref b5), .unset, .unset, .unset, .unset] [(.ref b5)])) _
    refine st20.trans ?_
    show Steps p.tables e below (T20.setTop (mkF m 47 #[.val (.int p0), .val (.int p1), .val (.int (((p0 &&& (2147483647 : Int32)) % (256 : Int32)) + (1 : Int32))), .val (.ref b1), .val (.ref b5), .unset, .unset, .unset, .unset] [(.ref b20_0)])) _
    refine XS.astore X20.here hx rfl (hb hby at_47) rfl rfl (l' := #[.val (.int p0), .val (.int p1), .val (.int (((p0 &&& (2147483647 : Int32)) % (256 : Int32)) + (1 : Int32))), .val (.ref b1), .val (.ref b5), .val (.ref b20_0), .unset, .unset, .unset]) rfl ?_
    show Steps p.tables e below (T20.setTop (mkF m 49 #[.val (.int p0), .val (.int p1), .val (.int (((p0 &&& (2147483647 : Int32)) % (256 : Int32)) + (1 : Int32))), .val (.ref b1), .val (.ref b5), .val (.ref b20_0), .unset, .unset, .unset] [])) _
    refine X20.ldc2Long hx hown10 (mvT hZ10 (hw _ (List.mem_of_getElem? (i := 128) rfl))) (g := (mkF m 49 #[.val (.int p0), .val (.int p1), .val (.int (((p0 &&& (2147483647 : Int32)) % (256 : Int32)) + (1 : Int32))), .val (.ref b1), .val (.ref b5), .val (.ref b20_0), .unset, .unset, .unset] [])) rfl (hb hby at_49) _ ?_
    show Steps p.tables e below (T20.setTop (mkF m 52 #[.val (.int p0), .val (.int p1), .val (.int (((p0 &&& (2147483647 : Int32)) % (256 : Int32)) + (1 : Int32))), .val (.ref b1), .val (.ref b5), .val (.ref b20_0), .unset, .unset, .unset] [(.long (2147483648 : Int64))])) _
    refine XS.iloadN X20.here hx rfl (hb hby at_52) rfl ?_
    show Steps p.tables e below (T20.setTop (mkF m 53 #[.val (.int p0), .val (.int p1), .val (.int (((p0 &&& (2147483647 : Int32)) % (256 : Int32)) + (1 : Int32))), .val (.ref b1), .val (.ref b5), .val (.ref b20_0), .unset, .unset, .unset] [(.int (((p0 &&& (2147483647 : Int32)) % (256 : Int32)) + (1 : Int32))), (.long (2147483648 : Int64))])) _
    refine XS.i2l X20.here hx rfl (hb hby at_53) rfl ?_
    show Steps p.tables e below (T20.setTop (mkF m 54 #[.val (.int p0), .val (.int p1), .val (.int (((p0 &&& (2147483647 : Int32)) % (256 : Int32)) + (1 : Int32))), .val (.ref b1), .val (.ref b5), .val (.ref b20_0), .unset, .unset, .unset] [(.long ((((p0 &&& (2147483647 : Int32)) % (256 : Int32)) + (1 : Int32)).toInt64)), (.long (2147483648 : Int64))])) _
    refine own_lremM X20 hx rfl (hb hby at_54) rfl hc11 ?_
    show Steps p.tables e below (T20.setTop (mkF m 55 #[.val (.int p0), .val (.int p1), .val (.int (((p0 &&& (2147483647 : Int32)) % (256 : Int32)) + (1 : Int32))), .val (.ref b1), .val (.ref b5), .val (.ref b20_0), .unset, .unset, .unset] [(.long ((2147483648 : Int64) % ((((p0 &&& (2147483647 : Int32)) % (256 : Int32)) + (1 : Int32)).toInt64)))])) _
    refine XS.lstore X20.here hx rfl (hb hby at_55) rfl (l' := #[.val (.int p0), .val (.int p1), .val (.int (((p0 &&& (2147483647 : Int32)) % (256 : Int32)) + (1 : Int32))), .val (.ref b1), .val (.ref b5), .val (.ref b20_0), .val (.long ((2147483648 : Int64) % ((((p0 &&& (2147483647 : Int32)) % (256 : Int32)) + (1 : Int32)).toInt64))), .second, .unset]) rfl ?_
    show Steps p.tables e below (T20.setTop (mkF m 57 #[.val (.int p0), .val (.int p1), .val (.int (((p0 &&& (2147483647 : Int32)) % (256 : Int32)) + (1 : Int32))), .val (.ref b1), .val (.ref b5), .val (.ref b20_0), .val (.long ((2147483648 : Int64) % ((((p0 &&& (2147483647 : Int32)) % (256 : Int32)) + (1 : Int32)).toInt64))), .second, .unset] [])) _
    refine XS.lload X20.here hx rfl (hb hby at_57) rfl ?_
    show Steps p.tables e below (T20.setTop (mkF m 59 #[.val (.int p0), .val (.int p1), .val (.int (((p0 &&& (2147483647 : Int32)) % (256 : Int32)) + (1 : Int32))), .val (.ref b1), .val (.ref b5), .val (.ref b20_0), .val (.long ((2147483648 : Int64) % ((((p0 &&& (2147483647 : Int32)) % (256 : Int32)) + (1 : Int32)).toInt64))), .second, .unset] [(.long ((2147483648 : Int64) % ((((p0 &&& (2147483647 : Int32)) % (256 : Int32)) + (1 : Int32)).toInt64)))])) _
    refine XS.lneg X20.here hx rfl (hb hby at_59) rfl ?_
    show Steps p.tables e below (T20.setTop (mkF m 60 #[.val (.int p0), .val (.int p1), .val (.int (((p0 &&& (2147483647 : Int32)) % (256 : Int32)) + (1 : Int32))), .val (.ref b1), .val (.ref b5), .val (.ref b20_0), .val (.long ((2147483648 : Int64) % ((((p0 &&& (2147483647 : Int32)) % (256 : Int32)) + (1 : Int32)).toInt64))), .second, .unset] [(.long (-((2147483648 : Int64) % ((((p0 &&& (2147483647 : Int32)) % (256 : Int32)) + (1 : Int32)).toInt64))))])) _
    refine X20.ldc2Long hx hown10 (mvT hZ10 (hw _ (List.mem_of_getElem? (i := 129) rfl))) (g := (mkF m 60 #[.val (.int p0), .val (.int p1), .val (.int (((p0 &&& (2147483647 : Int32)) % (256 : Int32)) + (1 : Int32))), .val (.ref b1), .val (.ref b5), .val (.ref b20_0), .val (.long ((2147483648 : Int64) % ((((p0 &&& (2147483647 : Int32)) % (256 : Int32)) + (1 : Int32)).toInt64))), .second, .unset] [(.long (-((2147483648 : Int64) % ((((p0 &&& (2147483647 : Int32)) % (256 : Int32)) + (1 : Int32)).toInt64))))])) rfl (hb hby at_60) _ ?_
    show Steps p.tables e below (T20.setTop (mkF m 63 #[.val (.int p0), .val (.int p1), .val (.int (((p0 &&& (2147483647 : Int32)) % (256 : Int32)) + (1 : Int32))), .val (.ref b1), .val (.ref b5), .val (.ref b20_0), .val (.long ((2147483648 : Int64) % ((((p0 &&& (2147483647 : Int32)) % (256 : Int32)) + (1 : Int32)).toInt64))), .second, .unset] [(.long (255 : Int64)), (.long (-((2147483648 : Int64) % ((((p0 &&& (2147483647 : Int32)) % (256 : Int32)) + (1 : Int32)).toInt64))))])) _
    refine XS.land X20.here hx rfl (hb hby at_63) rfl ?_
    show Steps p.tables e below (T20.setTop (mkF m 64 #[.val (.int p0), .val (.int p1), .val (.int (((p0 &&& (2147483647 : Int32)) % (256 : Int32)) + (1 : Int32))), .val (.ref b1), .val (.ref b5), .val (.ref b20_0), .val (.long ((2147483648 : Int64) % ((((p0 &&& (2147483647 : Int32)) % (256 : Int32)) + (1 : Int32)).toInt64))), .second, .unset] [(.long ((-((2147483648 : Int64) % ((((p0 &&& (2147483647 : Int32)) % (256 : Int32)) + (1 : Int32)).toInt64))) &&& (255 : Int64)))])) _
    refine XS.l2i X20.here hx rfl (hb hby at_64) rfl ?_
    show Steps p.tables e below (T20.setTop (mkF m 65 #[.val (.int p0), .val (.int p1), .val (.int (((p0 &&& (2147483647 : Int32)) % (256 : Int32)) + (1 : Int32))), .val (.ref b1), .val (.ref b5), .val (.ref b20_0), .val (.long ((2147483648 : Int64) % ((((p0 &&& (2147483647 : Int32)) % (256 : Int32)) + (1 : Int32)).toInt64))), .second, .unset] [(.int (((-((2147483648 : Int64) % ((((p0 &&& (2147483647 : Int32)) % (256 : Int32)) + (1 : Int32)).toInt64))) &&& (255 : Int64)).toInt32))])) _
    refine XS.istore X20.here hx rfl (hb hby at_65) rfl (l' := #[.val (.int p0), .val (.int p1), .val (.int (((p0 &&& (2147483647 : Int32)) % (256 : Int32)) + (1 : Int32))), .val (.ref b1), .val (.ref b5), .val (.ref b20_0), .val (.long ((2147483648 : Int64) % ((((p0 &&& (2147483647 : Int32)) % (256 : Int32)) + (1 : Int32)).toInt64))), .second, .val (.int (((-((2147483648 : Int64) % ((((p0 &&& (2147483647 : Int32)) % (256 : Int32)) + (1 : Int32)).toInt64))) &&& (255 : Int64)).toInt32))]) rfl ?_
    show Steps p.tables e below (T20.setTop (mkF m 67 #[.val (.int p0), .val (.int p1), .val (.int (((p0 &&& (2147483647 : Int32)) % (256 : Int32)) + (1 : Int32))), .val (.ref b1), .val (.ref b5), .val (.ref b20_0), .val (.long ((2147483648 : Int64) % ((((p0 &&& (2147483647 : Int32)) % (256 : Int32)) + (1 : Int32)).toInt64))), .second, .val (.int (((-((2147483648 : Int64) % ((((p0 &&& (2147483647 : Int32)) % (256 : Int32)) + (1 : Int32)).toInt64))) &&& (255 : Int64)).toInt32))] [])) _
    refine XS.iload X20.here hx rfl (hb hby at_67) rfl ?_
    show Steps p.tables e below (T20.setTop (mkF m 69 #[.val (.int p0), .val (.int p1), .val (.int (((p0 &&& (2147483647 : Int32)) % (256 : Int32)) + (1 : Int32))), .val (.ref b1), .val (.ref b5), .val (.ref b20_0), .val (.long ((2147483648 : Int64) % ((((p0 &&& (2147483647 : Int32)) % (256 : Int32)) + (1 : Int32)).toInt64))), .second, .val (.int (((-((2147483648 : Int64) % ((((p0 &&& (2147483647 : Int32)) % (256 : Int32)) + (1 : Int32)).toInt64))) &&& (255 : Int64)).toInt32))] [(.int (((-((2147483648 : Int64) % ((((p0 &&& (2147483647 : Int32)) % (256 : Int32)) + (1 : Int32)).toInt64))) &&& (255 : Int64)).toInt32))])) _
    refine XS.iloadN X20.here hx rfl (hb hby at_69) rfl ?_
    show Steps p.tables e below (T20.setTop (mkF m 70 #[.val (.int p0), .val (.int p1), .val (.int (((p0 &&& (2147483647 : Int32)) % (256 : Int32)) + (1 : Int32))), .val (.ref b1), .val (.ref b5), .val (.ref b20_0), .val (.long ((2147483648 : Int64) % ((((p0 &&& (2147483647 : Int32)) % (256 : Int32)) + (1 : Int32)).toInt64))), .second, .val (.int (((-((2147483648 : Int64) % ((((p0 &&& (2147483647 : Int32)) % (256 : Int32)) + (1 : Int32)).toInt64))) &&& (255 : Int64)).toInt32))] [(.int (((p0 &&& (2147483647 : Int32)) % (256 : Int32)) + (1 : Int32))), (.int (((-((2147483648 : Int64) % ((((p0 &&& (2147483647 : Int32)) % (256 : Int32)) + (1 : Int32)).toInt64))) &&& (255 : Int64)).toInt32))])) _
    refine XS.icmpYes X20.here hx rfl (pc0 := 70) (pc' := 136) rfl (hb hby at_70) rfl (tlt hc12).1 (by decide) (by decide) ?_
    show Steps p.tables e below (T20.setTop (mkF m 136 #[.val (.int p0), .val (.int p1), .val (.int (((p0 &&& (2147483647 : Int32)) % (256 : Int32)) + (1 : Int32))), .val (.ref b1), .val (.ref b5), .val (.ref b20_0), .val (.long ((2147483648 : Int64) % ((((p0 &&& (2147483647 : Int32)) % (256 : Int32)) + (1 : Int32)).toInt64))), .second, .val (.int (((-((2147483648 : Int64) % ((((p0 &&& (2147483647 : Int32)) % (256 : Int32)) + (1 : Int32)).toInt64))) &&& (255 : Int64)).toInt32))] [])) _
    refine XS.aload X20.here hx rfl (hb hby at_136) rfl rfl ?_
    show Steps p.tables e below (T20.setTop (mkF m 138 #[.val (.int p0), .val (.int p1), .val (.int (((p0 &&& (2147483647 : Int32)) % (256 : Int32)) + (1 : Int32))), .val (.ref b1), .val (.ref b5), .val (.ref b20_0), .val (.long ((2147483648 : Int64) % ((((p0 &&& (2147483647 : Int32)) % (256 : Int32)) + (1 : Int32)).toInt64))), .second, .val (.int (((-((2147483648 : Int64) % ((((p0 &&& (2147483647 : Int32)) % (256 : Int32)) + (1 : Int32)).toInt64))) &&& (255 : Int64)).toInt32))] [(.ref b20_0)])) _
    refine X20.arraylength hx Ar21.1 (State.isArrayOf_alike hZ10.alike Ar21.2.1) (g := (mkF m 138 #[.val (.int p0), .val (.int p1), .val (.int (((p0 &&& (2147483647 : Int32)) % (256 : Int32)) + (1 : Int32))), .val (.ref b1), .val (.ref b5), .val (.ref b20_0), .val (.long ((2147483648 : Int64) % ((((p0 &&& (2147483647 : Int32)) % (256 : Int32)) + (1 : Int32)).toInt64))), .second, .val (.int (((-((2147483648 : Int64) % ((((p0 &&& (2147483647 : Int32)) % (256 : Int32)) + (1 : Int32)).toInt64))) &&& (255 : Int64)).toInt32))] [(.ref b20_0)])) rfl rfl (hb hby at_138) _ ?_
    rw [len_of Sz21 Ng21]
    show Steps p.tables e below (T20.setTop (mkF m 139 #[.val (.int p0), .val (.int p1), .val (.int (((p0 &&& (2147483647 : Int32)) % (256 : Int32)) + (1 : Int32))), .val (.ref b1), .val (.ref b5), .val (.ref b20_0), .val (.long ((2147483648 : Int64) % ((((p0 &&& (2147483647 : Int32)) % (256 : Int32)) + (1 : Int32)).toInt64))), .second, .val (.int (((-((2147483648 : Int64) % ((((p0 &&& (2147483647 : Int32)) % (256 : Int32)) + (1 : Int32)).toInt64))) &&& (255 : Int64)).toInt32))] [(.int (3 : Int32))])) _
    refine XS.iconst X20.here hx rfl (hb hby at_139) ?_
    show Steps p.tables e below (T20.setTop (mkF m 140 #[.val (.int p0), .val (.int p1), .val (.int (((p0 &&& (2147483647 : Int32)) % (256 : Int32)) + (1 : Int32))), .val (.ref b1), .val (.ref b5), .val (.ref b20_0), .val (.long ((2147483648 : Int64) % ((((p0 &&& (2147483647 : Int32)) % (256 : Int32)) + (1 : Int32)).toInt64))), .second, .val (.int (((-((2147483648 : Int64) % ((((p0 &&& (2147483647 : Int32)) % (256 : Int32)) + (1 : Int32)).toInt64))) &&& (255 : Int64)).toInt32))] [(.int (3 : Int32)), (.int (3 : Int32))])) _
    refine XS.icmpNo X20.here hx rfl (hb hby at_140) rfl (teq (by decide : (3 : Int32) = (3 : Int32))).2 ?_
    show Steps p.tables e below (T20.setTop (mkF m 143 #[.val (.int p0), .val (.int p1), .val (.int (((p0 &&& (2147483647 : Int32)) % (256 : Int32)) + (1 : Int32))), .val (.ref b1), .val (.ref b5), .val (.ref b20_0), .val (.long ((2147483648 : Int64) % ((((p0 &&& (2147483647 : Int32)) % (256 : Int32)) + (1 : Int32)).toInt64))), .second, .val (.int (((-((2147483648 : Int64) % ((((p0 &&& (2147483647 : Int32)) % (256 : Int32)) + (1 : Int32)).toInt64))) &&& (255 : Int64)).toInt32))] [])) _
    refine XS.aload X20.here hx rfl (hb hby at_143) rfl rfl ?_
    show Steps p.tables e below (T20.setTop (mkF m 145 #[.val (.int p0), .val (.int p1), .val (.int (((p0 &&& (2147483647 : Int32)) % (256 : Int32)) + (1 : Int32))), .val (.ref b1), .val (.ref b5), .val (.ref b20_0), .val (.long ((2147483648 : Int64) % ((((p0 &&& (2147483647 : Int32)) % (256 : Int32)) + (1 : Int32)).toInt64))), .second, .val (.int (((-((2147483648 : Int64) % ((((p0 &&& (2147483647 : Int32)) % (256 : Int32)) + (1 : Int32)).toInt64))) &&& (255 : Int64)).toInt32))] [(.ref b20_0)])) _
    refine XS.iconst X20.here hx rfl (hb hby at_145) ?_
    show Steps p.tables e below (T20.setTop (mkF m 146 #[.val (.int p0), .val (.int p1), .val (.int (((p0 &&& (2147483647 : Int32)) % (256 : Int32)) + (1 : Int32))), .val (.ref b1), .val (.ref b5), .val (.ref b20_0), .val (.long ((2147483648 : Int64) % ((((p0 &&& (2147483647 : Int32)) % (256 : Int32)) + (1 : Int32)).toInt64))), .second, .val (.int (((-((2147483648 : Int64) % ((((p0 &&& (2147483647 : Int32)) % (256 : Int32)) + (1 : Int32)).toInt64))) &&& (255 : Int64)).toInt32))] [(.int (0 : Int32)), (.ref b20_0)])) _
    refine X20.iaload hx (j := (0 : Int32)) (v := (.int (0 : Int32))) Ar21.1 (State.isArrayOf_alike hZ10.alike Ar21.2.1) Ar21.2.2 hin22 hat23 (g := (mkF m 146 #[.val (.int p0), .val (.int p1), .val (.int (((p0 &&& (2147483647 : Int32)) % (256 : Int32)) + (1 : Int32))), .val (.ref b1), .val (.ref b5), .val (.ref b20_0), .val (.long ((2147483648 : Int64) % ((((p0 &&& (2147483647 : Int32)) % (256 : Int32)) + (1 : Int32)).toInt64))), .second, .val (.int (((-((2147483648 : Int64) % ((((p0 &&& (2147483647 : Int32)) % (256 : Int32)) + (1 : Int32)).toInt64))) &&& (255 : Int64)).toInt32))] [(.int (0 : Int32)), (.ref b20_0)])) rfl rfl (hb hby at_146) _ ?_
    show Steps p.tables e below (T20.setTop (mkF m 147 #[.val (.int p0), .val (.int p1), .val (.int (((p0 &&& (2147483647 : Int32)) % (256 : Int32)) + (1 : Int32))), .val (.ref b1), .val (.ref b5), .val (.ref b20_0), .val (.long ((2147483648 : Int64) % ((((p0 &&& (2147483647 : Int32)) % (256 : Int32)) + (1 : Int32)).toInt64))), .second, .val (.int (((-((2147483648 : Int64) % ((((p0 &&& (2147483647 : Int32)) % (256 : Int32)) + (1 : Int32)).toInt64))) &&& (255 : Int64)).toInt32))] [(.int (0 : Int32))])) _
    refine XS.ifNo X20.here hx rfl (hb hby at_147) rfl ((if0 _ _).trans (teq (by decide : (0 : Int32) = (0 : Int32))).2) ?_
    show Steps p.tables e below (T20.setTop (mkF m 150 #[.val (.int p0), .val (.int p1), .val (.int (((p0 &&& (2147483647 : Int32)) % (256 : Int32)) + (1 : Int32))), .val (.ref b1), .val (.ref b5), .val (.ref b20_0), .val (.long ((2147483648 : Int64) % ((((p0 &&& (2147483647 : Int32)) % (256 : Int32)) + (1 : Int32)).toInt64))), .second, .val (.int (((-((2147483648 : Int64) % ((((p0 &&& (2147483647 : Int32)) % (256 : Int32)) + (1 : Int32)).toInt64))) &&& (255 : Int64)).toInt32))] [])) _
    refine XS.aload X20.here hx rfl (hb hby at_150) rfl rfl ?_
    show Steps p.tables e below (T20.setTop (mkF m 152 #[.val (.int p0), .val (.int p1), .val (.int (((p0 &&& (2147483647 : Int32)) % (256 : Int32)) + (1 : Int32))), .val (.ref b1), .val (.ref b5), .val (.ref b20_0), .val (.long ((2147483648 : Int64) % ((((p0 &&& (2147483647 : Int32)) % (256 : Int32)) + (1 : Int32)).toInt64))), .second, .val (.int (((-((2147483648 : Int64) % ((((p0 &&& (2147483647 : Int32)) % (256 : Int32)) + (1 : Int32)).toInt64))) &&& (255 : Int64)).toInt32))] [(.ref b20_0)])) _
    refine XS.iconst X20.here hx rfl (hb hby at_152) ?_
    show Steps p.tables e below (T20.setTop (mkF m 153 #[.val (.int p0), .val (.int p1), .val (.int (((p0 &&& (2147483647 : Int32)) % (256 : Int32)) + (1 : Int32))), .val (.ref b1), .val (.ref b5), .val (.ref b20_0), .val (.long ((2147483648 : Int64) % ((((p0 &&& (2147483647 : Int32)) % (256 : Int32)) + (1 : Int32)).toInt64))), .second, .val (.int (((-((2147483648 : Int64) % ((((p0 &&& (2147483647 : Int32)) % (256 : Int32)) + (1 : Int32)).toInt64))) &&& (255 : Int64)).toInt32))] [(.int (1 : Int32)), (.ref b20_0)])) _
    refine X20.iaload hx (j := (1 : Int32)) (v := (.int ((((p0 &&& (2147483647 : Int32)) % (256 : Int32)) + (1 : Int32)) - (1 : Int32)))) Ar21.1 (State.isArrayOf_alike hZ10.alike Ar21.2.1) Ar21.2.2 hin24 hat25 (g := (mkF m 153 #[.val (.int p0), .val (.int p1), .val (.int (((p0 &&& (2147483647 : Int32)) % (256 : Int32)) + (1 : Int32))), .val (.ref b1), .val (.ref b5), .val (.ref b20_0), .val (.long ((2147483648 : Int64) % ((((p0 &&& (2147483647 : Int32)) % (256 : Int32)) + (1 : Int32)).toInt64))), .second, .val (.int (((-((2147483648 : Int64) % ((((p0 &&& (2147483647 : Int32)) % (256 : Int32)) + (1 : Int32)).toInt64))) &&& (255 : Int64)).toInt32))] [(.int (1 : Int32)), (.ref b20_0)])) rfl rfl (hb hby at_153) _ ?_
    show Steps p.tables e below (T20.setTop (mkF m 154 #[.val (.int p0), .val (.int p1), .val (.int (((p0 &&& (2147483647 : Int32)) % (256 : Int32)) + (1 : Int32))), .val (.ref b1), .val (.ref b5), .val (.ref b20_0), .val (.long ((2147483648 : Int64) % ((((p0 &&& (2147483647 : Int32)) % (256 : Int32)) + (1 : Int32)).toInt64))), .second, .val (.int (((-((2147483648 : Int64) % ((((p0 &&& (2147483647 : Int32)) % (256 : Int32)) + (1 : Int32)).toInt64))) &&& (255 : Int64)).toInt32))] [(.int ((((p0 &&& (2147483647 : Int32)) % (256 : Int32)) + (1 : Int32)) - (1 : Int32)))])) _
    refine XS.iloadN X20.here hx rfl (hb hby at_154) rfl ?_
    show Steps p.tables e below (T20.setTop (mkF m 155 #[.val (.int p0), .val (.int p1), .val (.int (((p0 &&& (2147483647 : Int32)) % (256 : Int32)) + (1 : Int32))), .val (.ref b1), .val (.ref b5), .val (.ref b20_0), .val (.long ((2147483648 : Int64) % ((((p0 &&& (2147483647 : Int32)) % (256 : Int32)) + (1 : Int32)).toInt64))), .second, .val (.int (((-((2147483648 : Int64) % ((((p0 &&& (2147483647 : Int32)) % (256 : Int32)) + (1 : Int32)).toInt64))) &&& (255 : Int64)).toInt32))] [(.int (((p0 &&& (2147483647 : Int32)) % (256 : Int32)) + (1 : Int32))), (.int ((((p0 &&& (2147483647 : Int32)) % (256 : Int32)) + (1 : Int32)) - (1 : Int32)))])) _
    refine XS.iconst X20.here hx rfl (hb hby at_155) ?_
    show Steps p.tables e below (T20.setTop (mkF m 156 #[.val (.int p0), .val (.int p1), .val (.int (((p0 &&& (2147483647 : Int32)) % (256 : Int32)) + (1 : Int32))), .val (.ref b1), .val (.ref b5), .val (.ref b20_0), .val (.long ((2147483648 : Int64) % ((((p0 &&& (2147483647 : Int32)) % (256 : Int32)) + (1 : Int32)).toInt64))), .second, .val (.int (((-((2147483648 : Int64) % ((((p0 &&& (2147483647 : Int32)) % (256 : Int32)) + (1 : Int32)).toInt64))) &&& (255 : Int64)).toInt32))] [(.int (1 : Int32)), (.int (((p0 &&& (2147483647 : Int32)) % (256 : Int32)) + (1 : Int32))), (.int ((((p0 &&& (2147483647 : Int32)) % (256 : Int32)) + (1 : Int32)) - (1 : Int32)))])) _
    refine XS.isub X20.here hx rfl (hb hby at_156) rfl ?_
    show Steps p.tables e below (T20.setTop (mkF m 157 #[.val (.int p0), .val (.int p1), .val (.int (((p0 &&& (2147483647 : Int32)) % (256 : Int32)) + (1 : Int32))), .val (.ref b1), .val (.ref b5), .val (.ref b20_0), .val (.long ((2147483648 : Int64) % ((((p0 &&& (2147483647 : Int32)) % (256 : Int32)) + (1 : Int32)).toInt64))), .second, .val (.int (((-((2147483648 : Int64) % ((((p0 &&& (2147483647 : Int32)) % (256 : Int32)) + (1 : Int32)).toInt64))) &&& (255 : Int64)).toInt32))] [(.int ((((p0 &&& (2147483647 : Int32)) % (256 : Int32)) + (1 : Int32)) - (1 : Int32))), (.int ((((p0 &&& (2147483647 : Int32)) % (256 : Int32)) + (1 : Int32)) - (1 : Int32)))])) _
    refine XS.icmpNo X20.here hx rfl (hb hby at_157) rfl (teq (rfl : ((((p0 &&& (2147483647 : Int32)) % (256 : Int32)) + (1 : Int32)) - (1 : Int32)) = ((((p0 &&& (2147483647 : Int32)) % (256 : Int32)) + (1 : Int32)) - (1 : Int32)))).2 ?_
    show Steps p.tables e below (T20.setTop (mkF m 160 #[.val (.int p0), .val (.int p1), .val (.int (((p0 &&& (2147483647 : Int32)) % (256 : Int32)) + (1 : Int32))), .val (.ref b1), .val (.ref b5), .val (.ref b20_0), .val (.long ((2147483648 : Int64) % ((((p0 &&& (2147483647 : Int32)) % (256 : Int32)) + (1 : Int32)).toInt64))), .second, .val (.int (((-((2147483648 : Int64) % ((((p0 &&& (2147483647 : Int32)) % (256 : Int32)) + (1 : Int32)).toInt64))) &&& (255 : Int64)).toInt32))] [])) _
    refine XS.aload X20.here hx rfl (hb hby at_160) rfl rfl ?_
    show Steps p.tables e below (T20.setTop (mkF m 162 #[.val (.int p0), .val (.int p1), .val (.int (((p0 &&& (2147483647 : Int32)) % (256 : Int32)) + (1 : Int32))), .val (.ref b1), .val (.ref b5), .val (.ref b20_0), .val (.long ((2147483648 : Int64) % ((((p0 &&& (2147483647 : Int32)) % (256 : Int32)) + (1 : Int32)).toInt64))), .second, .val (.int (((-((2147483648 : Int64) % ((((p0 &&& (2147483647 : Int32)) % (256 : Int32)) + (1 : Int32)).toInt64))) &&& (255 : Int64)).toInt32))] [(.ref b20_0)])) _
    refine XS.iconst X20.here hx rfl (hb hby at_162) ?_
    show Steps p.tables e below (T20.setTop (mkF m 163 #[.val (.int p0), .val (.int p1), .val (.int (((p0 &&& (2147483647 : Int32)) % (256 : Int32)) + (1 : Int32))), .val (.ref b1), .val (.ref b5), .val (.ref b20_0), .val (.long ((2147483648 : Int64) % ((((p0 &&& (2147483647 : Int32)) % (256 : Int32)) + (1 : Int32)).toInt64))), .second, .val (.int (((-((2147483648 : Int64) % ((((p0 &&& (2147483647 : Int32)) % (256 : Int32)) + (1 : Int32)).toInt64))) &&& (255 : Int64)).toInt32))] [(.int (2 : Int32)), (.ref b20_0)])) _
    refine X20.iaload hx (j := (2 : Int32)) (v := (.int (0 : Int32))) Ar21.1 (State.isArrayOf_alike hZ10.alike Ar21.2.1) Ar21.2.2 hin26 hat27 (g := (mkF m 163 #[.val (.int p0), .val (.int p1), .val (.int (((p0 &&& (2147483647 : Int32)) % (256 : Int32)) + (1 : Int32))), .val (.ref b1), .val (.ref b5), .val (.ref b20_0), .val (.long ((2147483648 : Int64) % ((((p0 &&& (2147483647 : Int32)) % (256 : Int32)) + (1 : Int32)).toInt64))), .second, .val (.int (((-((2147483648 : Int64) % ((((p0 &&& (2147483647 : Int32)) % (256 : Int32)) + (1 : Int32)).toInt64))) &&& (255 : Int64)).toInt32))] [(.int (2 : Int32)), (.ref b20_0)])) rfl rfl (hb hby at_163) _ ?_
    show Steps p.tables e below (T20.setTop (mkF m 164 #[.val (.int p0), .val (.int p1), .val (.int (((p0 &&& (2147483647 : Int32)) % (256 : Int32)) + (1 : Int32))), .val (.ref b1), .val (.ref b5), .val (.ref b20_0), .val (.long ((2147483648 : Int64) % ((((p0 &&& (2147483647 : Int32)) % (256 : Int32)) + (1 : Int32)).toInt64))), .second, .val (.int (((-((2147483648 : Int64) % ((((p0 &&& (2147483647 : Int32)) % (256 : Int32)) + (1 : Int32)).toInt64))) &&& (255 : Int64)).toInt32))] [(.int (0 : Int32))])) _
    refine XS.ifNo X20.here hx rfl (hb hby at_164) rfl ((if0 _ _).trans (teq (by decide : (0 : Int32) = (0 : Int32))).2) ?_
    show Steps p.tables e below (T20.setTop (mkF m 167 #[.val (.int p0), .val (.int p1), .val (.int (((p0 &&& (2147483647 : Int32)) % (256 : Int32)) + (1 : Int32))), .val (.ref b1), .val (.ref b5), .val (.ref b20_0), .val (.long ((2147483648 : Int64) % ((((p0 &&& (2147483647 : Int32)) % (256 : Int32)) + (1 : Int32)).toInt64))), .second, .val (.int (((-((2147483648 : Int64) % ((((p0 &&& (2147483647 : Int32)) % (256 : Int32)) + (1 : Int32)).toInt64))) &&& (255 : Int64)).toInt32))] [])) _
    refine XS.iconst X20.here hx rfl (hb hby at_167) ?_
    show Steps p.tables e below (T20.setTop (mkF m 168 #[.val (.int p0), .val (.int p1), .val (.int (((p0 &&& (2147483647 : Int32)) % (256 : Int32)) + (1 : Int32))), .val (.ref b1), .val (.ref b5), .val (.ref b20_0), .val (.long ((2147483648 : Int64) % ((((p0 &&& (2147483647 : Int32)) % (256 : Int32)) + (1 : Int32)).toInt64))), .second, .val (.int (((-((2147483648 : Int64) % ((((p0 &&& (2147483647 : Int32)) % (256 : Int32)) + (1 : Int32)).toInt64))) &&& (255 : Int64)).toInt32))] [(.int (1 : Int32))])) _
    refine XS.goto X20.here hx rfl (pc0 := 168) (pc' := 172) rfl (hb hby at_168) (by decide) (by decide) ?_
    show Steps p.tables e below (T20.setTop (mkF m 172 #[.val (.int p0), .val (.int p1), .val (.int (((p0 &&& (2147483647 : Int32)) % (256 : Int32)) + (1 : Int32))), .val (.ref b1), .val (.ref b5), .val (.ref b20_0), .val (.long ((2147483648 : Int64) % ((((p0 &&& (2147483647 : Int32)) % (256 : Int32)) + (1 : Int32)).toInt64))), .second, .val (.int (((-((2147483648 : Int64) % ((((p0 &&& (2147483647 : Int32)) % (256 : Int32)) + (1 : Int32)).toInt64))) &&& (255 : Int64)).toInt32))] [(.int (1 : Int32))])) _
    exact retN X20 hx (t := .boolean) Bd.returns (by simp) (hb hby at_172) hr
  · show Q0pAt Z p0 p1 aU s_COMPACT_STRINGS h0 n0 _ T20.heap _
    exact ⟨rfl, N20⟩
theorem ef_rm0pBs (m : MethodId) (p0 : Int32) (p1 : Int32) : entryFrame m #[(.int p0), (.int p1)] maxLocals = mkF m 0 #[.val (.int p0), .val (.int p1), .unset, .unset, .unset, .unset, .unset, .unset, .unset] [] := by first | (simp [entryFrame, mkF, argsToLocals, Value.category, maxLocals]; done) | rfl
def Q0pBs (Z : State) (p0 : Int32) (p1 : Int32) (aU : Addr) (s_COMPACT_STRINGS : Int32) (h0 : Heap) (n0 : Nat) (v : Option Value) (h : Heap) (L : List Loc) : Prop := v = some (.int (1 : Int32)) ∧ Fr n0 L
set_option maxRecDepth 65536 in
set_option maxHeartbeats 40000000 in
theorem rm0pBs (l : Launch) (Z : State) (az : Array Value) (hw : ∀ d ∈ tables_1, d.before az Z = true) (ws : List Jvm.Cond) (p0 : Int32) (p1 : Int32) (aU : Addr) (s_COMPACT_STRINGS : Int32) (h0 : Heap) (n0 : Nat) (Z0 : n0 ≤ h0.size) (S_INSTANCE : Sta Z h0 "sun/nio/cs/UTF_8" "INSTANCE" "Lsun/nio/cs/UTF_8;" (.ref aU)) (S_UTF_8 : Sta Z h0 "java/nio/charset/StandardCharsets" "UTF_8" "Ljava/nio/charset/Charset;" (.ref aU)) (S_COMPACT_STRINGS : Sta Z h0 "java/lang/String" "COMPACT_STRINGS" "Z" (.int s_COMPACT_STRINGS)) (hc3 : ¬ (s_COMPACT_STRINGS = (0 : Int32))) (hc4 : ¬ ((255 : Int32) < ((p1 &&& (255 : Int32)).toUInt32.toUInt16.toUInt32.toInt32))) (hc5 : ¬ ((((p1 &&& (255 : Int32)).toUInt32.toUInt16.toUInt32.toInt32).toInt8.toInt32) < (0 : Int32))) (hc6 : ¬ ((((p0 &&& (2147483647 : Int32)) % (256 : Int32)) + (1 : Int32)) < (1 : Int32))) (hc7 : ¬ ((256 : Int32) < (((p0 &&& (2147483647 : Int32)) % (256 : Int32)) + (1 : Int32)))) (hc8 : ¬ ((own_bc (((p0 &&& (2147483647 : Int32)) % (256 : Int32)) + (1 : Int32))) = (1 : Int32))) (hc9 : (((p0 &&& (2147483647 : Int32)) % (256 : Int32)) + (1 : Int32)) ≠ (0 : Int32)) (hc10 : ¬ (((((-2147483648 : Int32) % (((p0 &&& (2147483647 : Int32)) % (256 : Int32)) + (1 : Int32))).toInt8.toInt32) &&& (255 : Int32)) < (((p0 &&& (2147483647 : Int32)) % (256 : Int32)) + (1 : Int32)))) (hc11 : ((((p0 &&& (2147483647 : Int32)) % (256 : Int32)) + (1 : Int32)).toInt64) ≠ (0 : Int64)) (hc12 : ¬ ((((-((2147483648 : Int64) % ((((p0 &&& (2147483647 : Int32)) % (256 : Int32)) + (1 : Int32)).toInt64))) &&& (255 : Int64)).toInt32) < (((p0 &&& (2147483647 : Int32)) % (256 : Int32)) + (1 : Int32)))) (hc13 : ((((-2147483648 : Int32) % (((p0 &&& (2147483647 : Int32)) % (256 : Int32)) + (1 : Int32))).toInt8.toInt32) &&& (255 : Int32)) = (((-((2147483648 : Int64) % ((((p0 &&& (2147483647 : Int32)) % (256 : Int32)) + (1 : Int32)).toInt64))) &&& (255 : Int64)).toInt32)) :
    MetFree l x (head1 (Jvm.Cond.code x code maxLocals ret :: ws) room_1) (fun a U => a = #[(.int p0), (.int p1)] ∧ Z.Warmed39 U.vm ∧ U.heap = h0) (fun _ _ _ _ _ => True) (fun _ U o U' => ∃ v L, o = .returned v ∧ Q0pBs Z p0 p1 aU s_COMPACT_STRINGS h0 n0 v U'.heap L ∧ ReturnedEndW U o U' L room_1.cells room_1.slots) := by
  refine MetFree.of_bodySF (plainFor_of_name pn_com_example_fireweed_fireweed_layout_Java31ByteSaltBytesPinLaw) hisR ?_
  intro p e s m args below meth c s₁ Bd hml0 hP hK
  obtain ⟨rfl, hZ, hh⟩ := hP
  have hx := Bd.exec
  have hby := Bd.bytes
  have hml : c.maxLocals = 9 := hml0
  have hown : s.vm.findClass "com/example/fireweed/fireweed/layout/Java31ByteSaltBytesPinLaw" = some m.cls := findClass_of_methodNamed Bd.named
  have hnm := (name_of_methodNamed Bd.named Bd.method).1
  have X0 : Stand p l e room_1 s m #[(.int p0), (.int p1)] below meth c s₁ [] 0 0 := Stand.of_body Bd
  have e0 : s₁.heap = h0 := by rw [← hh, Bd.state]; rfl
  have N0 := Fr.nil n0
  have pre0 : ∀ t, Steps p.tables e below (s₁.setTop (mkF m 0 #[.val (.int p0), .val (.int p1), .unset, .unset, .unset, .unset, .unset, .unset, .unset] [])) t → Steps p.tables e below (s₁.setTop (entryFrame m #[(.int p0), (.int p1)] maxLocals)) t := fun t k => castTop (ef_rm0pBs m p0 p1) k
  have hS0 : s.Since s.vm 0 := (State.WarmedH.refl s).since 0
  have wS : ∀ a ∈ Bundle.stringAtoms, a.before az Z = true := fun d hd => by
    simp only [Bundle.stringAtoms, List.mem_cons, List.not_mem_nil, or_false] at hd
    rcases hd with rfl | rfl | rfl | rfl | rfl | rfl | rfl
    · exact (hw _ (List.mem_of_getElem? (i := 7) rfl))
    · exact (hw _ (List.mem_of_getElem? (i := 6) rfl))
    · exact (hw _ (List.mem_of_getElem? (i := 23) rfl))
    · exact (hw _ (List.mem_of_getElem? (i := 33) rfl))
    · exact (hw _ (List.mem_of_getElem? (i := 31) rfl))
    · exact (hw _ (List.mem_of_getElem? (i := 49) rfl))
    · exact (hw _ (List.mem_of_getElem? (i := 50) rfl))
  obtain ⟨T1, h1, k1, X1, e1, E1, A1, x1, st1⟩ := newPE X0 hx hZ (hw _ (List.mem_of_getElem? (i := 1) rfl)) e0 (g := (mkF m 12 #[.val (.int p0), .val (.int p1), .val (.int (((p0 &&& (2147483647 : Int32)) % (256 : Int32)) + (1 : Int32))), .unset, .unset, .unset, .unset, .unset, .unset] [(.int (1 : Int32))])) rfl (hb hby at_12) rfl (by decide) (cap := 1) (by decide) (by decide) (by decide) (by decide) (ad := "[C") (by decide)
  obtain ⟨b1, g1⟩ : ∃ z, z = h0.size := ⟨_, rfl⟩
  rw [← g1] at A1 x1 st1
  have g_b1 : n0 ≤ b1 := Nat.le_trans Z0 (Nat.le_of_eq g1.symm)
  have sz_b1 : h0.size ≤ b1 := Nat.le_trans (Nat.le_refl _) (Nat.le_of_eq g1.symm)
  have Z1 : n0 ≤ h1.size := Nat.le_trans Z0 E1.1
  have K1 : Keep h0 h1 [] := (Keep.refl h0 []).ext E1
  have E_b1 := x1
  have V_b1 : Arv Z h1 b1 k1 .char (1 : Int32) [(.int (0 : Int32))] (.int (0 : Int32)) := (Arv.new A1 (by decide)).pad (pad_rep [] (.int (0 : Int32)) 1)
  obtain ⟨cl2, Ar2, qk2, Sz2, Ng2, Hs2, Gf2⟩ := id V_b1
  have hin3 : ¬ ((0 : Int32) < 0 ∨ cl2.slots.size ≤ ((0 : Int32)).toNatClampNeg) := inb_of Sz2 ⟨by decide, by decide⟩
  obtain ⟨T4, h4, X4, e4, W4, st4⟩ := stC X1 hx hZ e1 Ar2 (j := (0 : Int32)) hin3 (g := (mkF m 22 #[.val (.int p0), .val (.int p1), .val (.int (((p0 &&& (2147483647 : Int32)) % (256 : Int32)) + (1 : Int32))), .unset, .unset, .unset, .unset, .unset, .unset] [(.int ((p1 &&& (255 : Int32)).toUInt32.toUInt16.toUInt32.toInt32)), (.int (0 : Int32)), (.ref b1), (.ref b1)])) rfl rfl (hb hby at_22)
  rw [(own_nc _)] at W4
  have K4 : Keep h0 h4 [] := K1.wr W4 (Or.inr sz_b1)
  have V_b1_4 : Arv Z h4 b1 k1 .char (1 : Int32) [(.int ((p1 &&& (255 : Int32)).toUInt32.toUInt16.toUInt32.toInt32))] (.int (0 : Int32)) := Arv.set (v := (.int ((p1 &&& (255 : Int32)).toUInt32.toUInt16.toUInt32.toInt32))) Ar2 qk2 Sz2 Ng2 Hs2 Gf2 (own_fits (own_nc _) (fits_nar_char _)) W4 0 rfl (Nat.le_of_ble_eq_true rfl)
  have Z4 : n0 ≤ h4.size := Nat.le_trans Z1 (Keep.of_wr W4).1
  have N4 := Fr.snoc X4 N0 g_b1
  obtain ⟨T5, h5, X5, e5, E5, A5, D5, -, st5⟩ := newO X4 hx hZ hown (hw _ (List.mem_of_getElem? (i := 2) rfl)) (hw _ (List.mem_of_getElem? (i := 3) rfl)) (hw _ (List.mem_of_getElem? (i := 4) rfl)) e4 (g := (mkF m 24 #[.val (.int p0), .val (.int p1), .val (.int (((p0 &&& (2147483647 : Int32)) % (256 : Int32)) + (1 : Int32))), .val (.ref b1), .unset, .unset, .unset, .unset, .unset] [])) rfl (hb hby at_24) (by decide) (by decide)
  obtain ⟨b5, g5⟩ : ∃ z, z = h4.size := ⟨_, rfl⟩
  rw [← g5] at A5 D5 st5
  have g_b5 : n0 ≤ b5 := Nat.le_trans Z4 (Nat.le_of_eq g5.symm)
  have sz_b5 : h0.size ≤ b5 := Nat.le_trans K4.1 (Nat.le_of_eq g5.symm)
  have Z5 : n0 ≤ h5.size := Nat.le_trans Z4 E5.1
  have K5 : Keep h0 h5 [] := K4.ext E5
  have E_b5 := A5
  have F_suffix_b5 : Fld Z h5 b5 "com/example/fireweed/fireweed/layout/Salt" "suffix" "Ljava/lang/String;" .null := D5 (Or.inr (hw _ (List.mem_of_getElem? (i := 57) rfl))) (ty := (.object "java/lang/String")) (by decide)
  have F_suffixBytes_b5 : Fld Z h5 b5 "com/example/fireweed/fireweed/layout/Salt" "suffixBytes" "[B" .null := D5 (Or.inr (hw _ (List.mem_of_getElem? (i := 95) rfl))) (ty := (.array .byte)) (by decide)
  have F_buckets_b5 : Fld Z h5 b5 "com/example/fireweed/fireweed/layout/Java31ByteSalt" "buckets" "I" (.int (0 : Int32)) := D5 (Or.inr (hw _ (List.mem_of_getElem? (i := 97) rfl))) (ty := .int) (by decide)
  have F_mask_b5 : Fld Z h5 b5 "com/example/fireweed/fireweed/layout/Java31ByteSalt" "mask" "I" (.int (0 : Int32)) := D5 (Or.inr (hw _ (List.mem_of_getElem? (i := 106) rfl))) (ty := .int) (by decide)
  have F_overflow_b5 : Fld Z h5 b5 "com/example/fireweed/fireweed/layout/Java31ByteSalt" "overflow" "I" (.int (0 : Int32)) := D5 (Or.inr (hw _ (List.mem_of_getElem? (i := 121) rfl))) (ty := .int) (by decide)
  obtain ⟨T6, h6, X6, e6, E6, A6, D6, -, st6⟩ := newO X5 hx hZ hown (hw _ (List.mem_of_getElem? (i := 5) rfl)) (hw _ (List.mem_of_getElem? (i := 6) rfl)) (hw _ (List.mem_of_getElem? (i := 7) rfl)) e5 (g := (mkF m 29 #[.val (.int p0), .val (.int p1), .val (.int (((p0 &&& (2147483647 : Int32)) % (256 : Int32)) + (1 : Int32))), .val (.ref b1), .unset, .unset, .unset, .unset, .unset] [(.int (((p0 &&& (2147483647 : Int32)) % (256 : Int32)) + (1 : Int32))), (.ref b5), (.ref b5)])) rfl (hb hby at_29) (by decide) (by decide)
  obtain ⟨b6, g6⟩ : ∃ z, z = h5.size := ⟨_, rfl⟩
  rw [← g6] at A6 D6 st6
  have g_b6 : n0 ≤ b6 := Nat.le_trans Z5 (Nat.le_of_eq g6.symm)
  have sz_b6 : h0.size ≤ b6 := Nat.le_trans K5.1 (Nat.le_of_eq g6.symm)
  have Z6 : n0 ≤ h6.size := Nat.le_trans Z5 E6.1
  have K6 : Keep h0 h6 [] := K5.ext E6
  have E_b6 := A6
  have F_coder_b6 : Fld Z h6 b6 "java/lang/String" "coder" "B" (.int (0 : Int32)) := D6 (Or.inr (hw _ (List.mem_of_getElem? (i := 31) rfl))) (ty := .byte) (by decide)
  have F_value_b6 : Fld Z h6 b6 "java/lang/String" "value" "[B" .null := D6 (Or.inr (hw _ (List.mem_of_getElem? (i := 33) rfl))) (ty := (.array .byte)) (by decide)
  have V_b1_u8 : Arv Z h6 b1 k1 .char (1 : Int32) [(.int ((p1 &&& (255 : Int32)).toUInt32.toUInt16.toUInt32.toInt32))] (.int (0 : Int32)) := ((V_b1_4.ext E5).ext E6)
  have S_String_COMPACT_STRINGS_u9 : Sta Z h6 "java/lang/String" "COMPACT_STRINGS" "Z" (.int s_COMPACT_STRINGS) := ((((S_COMPACT_STRINGS.ext E1).wr W4).ext E5).ext E6)
  obtain ⟨_, _, ⟨T7, L7, k7', n7'⟩, -, X7, ⟨Lc7, hQ7, l7, y7, z7⟩, st7⟩ := X6.specialBack hx (y := (⟨"java/lang/String", "<init>", "([C)V"⟩ : MethodName)) rfl hown (mvT hZ (hw _ (List.mem_of_getElem? (i := 8) rfl))) (mvT hZ (hw _ (List.mem_of_getElem? (i := 9) rfl))) (mvT hZ (hw _ (List.mem_of_getElem? (i := 10) rfl))) (by decide) (backOf (W := 4) (rm1_1 l Z az hw [] b6 b1 k1 ((p1 &&& (255 : Int32)).toUInt32.toUInt16.toUInt32.toInt32) s_COMPACT_STRINGS h6 n0 Z6 E_b6 F_coder_b6 F_value_b6 V_b1_u8 S_String_COMPACT_STRINGS_u9 hc3 hc4 g_b6) hZ (hw _ (List.mem_of_getElem? (i := 10) rfl)) (hw _ (List.mem_of_getElem? (i := 7) rfl)) (by decide) (by decide)) (g := (mkF m 34 #[.val (.int p0), .val (.int p1), .val (.int (((p0 &&& (2147483647 : Int32)) % (256 : Int32)) + (1 : Int32))), .val (.ref b1), .unset, .unset, .unset, .unset, .unset] [(.ref b1), (.ref b6), (.ref b6), (.int (((p0 &&& (2147483647 : Int32)) % (256 : Int32)) + (1 : Int32))), (.ref b5), (.ref b5)])) rfl (by rw [hml]; rfl) (Steps.refl _) (a := b6) (argsL := [(.ref b1)]) (rest := [(.ref b6), (.int (((p0 &&& (2147483647 : Int32)) % (256 : Int32)) + (1 : Int32))), (.ref b5), (.ref b5)]) (lenOf pd_16 rfl) rfl (by show 2 * 0 + _ ≤ _; exact Nat.le_of_eq rfl) (hb hby at_34) (fun _ _ => ⟨rfl, e6, (by decide : 3 + 1 ≤ _), (by decide : 10 + 1 ≤ _)⟩)
  dsimp only [Pt.U, Pt.locs, Pt.cells, Pt.slots] at X7 l7 y7 z7 st7 hQ7
  subst l7 y7 z7
  obtain ⟨b7_0, kk7_0, rfl, N7q, s7_0, kq7, pf7_0, pf7_1, pf7_2, pf7_3, pf7_4⟩ := hQ7
  have N7 := Fr.app N4 N7q
  have g_b7_0 : n0 ≤ b7_0 := Nat.le_trans Z6 s7_0
  have sz_b7_0 : h0.size ≤ b7_0 := Nat.le_trans K6.1 s7_0
  have K7 : Keep h0 T7.heap [] := K6.trans kq7 (allS (Or.inr sz_b6) all0)
  have Z7 : n0 ≤ T7.heap.size := Nat.le_trans Z6 kq7.1
  have E_b5_u11 : Exa Z T7.heap b5 "com/example/fireweed/fireweed/layout/Java31ByteSalt" := ((E_b5.ext E6).keep kq7)
  have ne_b5_b6 : b5 ≠ b6 := own_ne (Nat.lt_of_lt_of_le E_b5.lt (Nat.le_of_eq g6.symm))
  have F_b5_suffix_u12 : Fld Z T7.heap b5 "com/example/fireweed/fireweed/layout/Salt" "suffix" "Ljava/lang/String;" .null := ((F_suffix_b5.ext E6).keep kq7 (ninS ne_b5_b6 nin0))
  have F_b5_suffixBytes_u13 : Fld Z T7.heap b5 "com/example/fireweed/fireweed/layout/Salt" "suffixBytes" "[B" .null := ((F_suffixBytes_b5.ext E6).keep kq7 (ninS ne_b5_b6 nin0))
  have F_b5_buckets_u14 : Fld Z T7.heap b5 "com/example/fireweed/fireweed/layout/Java31ByteSalt" "buckets" "I" (.int (0 : Int32)) := ((F_buckets_b5.ext E6).keep kq7 (ninS ne_b5_b6 nin0))
  have F_b5_mask_u15 : Fld Z T7.heap b5 "com/example/fireweed/fireweed/layout/Java31ByteSalt" "mask" "I" (.int (0 : Int32)) := ((F_mask_b5.ext E6).keep kq7 (ninS ne_b5_b6 nin0))
  have F_b5_overflow_u16 : Fld Z T7.heap b5 "com/example/fireweed/fireweed/layout/Java31ByteSalt" "overflow" "I" (.int (0 : Int32)) := ((F_overflow_b5.ext E6).keep kq7 (ninS ne_b5_b6 nin0))
  have S_UTF_8_INSTANCE_u17 : Sta Z T7.heap "sun/nio/cs/UTF_8" "INSTANCE" "Lsun/nio/cs/UTF_8;" (.ref aU) := (own_Sta ((((S_INSTANCE.ext E1).wr W4).ext E5).ext E6) kq7 (allS (P := fun x => ∀ cell : Cell, _ → cell.vm.isStatics = false) E_b6.nostat (fun _ m => nomatch m)))
  have S_StandardCharsets_UTF_8_u18 : Sta Z T7.heap "java/nio/charset/StandardCharsets" "UTF_8" "Ljava/nio/charset/Charset;" (.ref aU) := (own_Sta ((((S_UTF_8.ext E1).wr W4).ext E5).ext E6) kq7 (allS (P := fun x => ∀ cell : Cell, _ → cell.vm.isStatics = false) E_b6.nostat (fun _ m => nomatch m)))
  have S_String_COMPACT_STRINGS_u19 : Sta Z T7.heap "java/lang/String" "COMPACT_STRINGS" "Z" (.int s_COMPACT_STRINGS) := (own_Sta S_String_COMPACT_STRINGS_u9 kq7 (allS (P := fun x => ∀ cell : Cell, _ → cell.vm.isStatics = false) E_b6.nostat (fun _ m => nomatch m)))
  have ne_b5_b7_0 : b5 ≠ b7_0 := own_ne (Nat.lt_of_lt_of_le (E_b5.ext E6).lt s7_0)
  obtain ⟨_, _, ⟨T10, L10, k10', n10'⟩, -, Y10, yS10, yg10, ⟨Lc10, hQ10, l10, y10, z10⟩, st10⟩ := X7.specialBackS hx (y := (⟨"com/example/fireweed/fireweed/layout/Java31ByteSalt", "<init>", "(ILjava/lang/String;)V"⟩ : MethodName)) rfl hown (mvT hZ (hw _ (List.mem_of_getElem? (i := 34) rfl))) (mvT hZ (hw _ (List.mem_of_getElem? (i := 35) rfl))) (mvT hZ (hw _ (List.mem_of_getElem? (i := 36) rfl))) (by decide) (backOfS (W := 1) (rm7pB l Z az hw [] b5 (((p0 &&& (2147483647 : Int32)) % (256 : Int32)) + (1 : Int32)) b6 b7_0 kk7_0 (((p1 &&& (255 : Int32)).toUInt32.toUInt16.toUInt32.toInt32).toInt8.toInt32) aU s_COMPACT_STRINGS T7.heap n0 Z7 E_b5_u11 F_b5_suffix_u12 F_b5_suffixBytes_u13 F_b5_buckets_u14 F_b5_mask_u15 F_b5_overflow_u16 pf7_0 pf7_1 pf7_2 pf7_4 pf7_3 S_UTF_8_INSTANCE_u17 S_StandardCharsets_UTF_8_u18 hc5 S_String_COMPACT_STRINGS_u19 g_b5 (Ne.symm ne_b5_b6) (Ne.symm ne_b5_b7_0) hc3 hc6 hc7 hc8 hc9) hZ (hw _ (List.mem_of_getElem? (i := 36) rfl)) (hw _ (List.mem_of_getElem? (i := 4) rfl)) (by decide) (by decide)) (g := (mkF m 37 #[.val (.int p0), .val (.int p1), .val (.int (((p0 &&& (2147483647 : Int32)) % (256 : Int32)) + (1 : Int32))), .val (.ref b1), .unset, .unset, .unset, .unset, .unset] [(.ref b6), (.int (((p0 &&& (2147483647 : Int32)) % (256 : Int32)) + (1 : Int32))), (.ref b5), (.ref b5)])) rfl (by rw [hml]; rfl) (Steps.refl _) (a := b5) (argsL := [(.int (((p0 &&& (2147483647 : Int32)) % (256 : Int32)) + (1 : Int32))), (.ref b6)]) (rest := [(.ref b5)]) (lenOf pd_17 rfl) rfl (by show 2 * 0 + _ ≤ _; exact Nat.le_of_eq rfl) (hb hby at_37) (fun _ _ => ⟨rfl, rfl, (by decide : 4 + 3 ≤ _), (by decide : 11 + 29 ≤ _)⟩)
  dsimp only [Pt.U, Pt.locs, Pt.cells, Pt.slots] at Y10 yS10 yg10 l10 y10 z10 st10 hQ10
  subst l10 y10 z10
  obtain ⟨X10, hS10, hZ10, hown10⟩ := rebS (s := s) (vm0 := s.vm) hS0 (Nat.le_trans (Nat.le_trans (Nat.le_trans (Nat.le_trans (Nat.le_trans (Nat.zero_le _) E1.1) (Keep.of_wr W4).1) E5.1) E6.1) kq7.1) Y10 yS10 yg10 hZ hown
  obtain ⟨b10_0, rfl, N10q, s10_0, kq10, pf10_0, pf10_1, pf10_2, pf10_3, pf10_4, pf10_5, pf10_6, pf10_7⟩ := hQ10
  have N10 := Fr.app N7 N10q
  have g_b10_0 : n0 ≤ b10_0 := Nat.le_trans Z7 s10_0
  have sz_b10_0 : h0.size ≤ b10_0 := Nat.le_trans K7.1 s10_0
  have K10 : Keep h0 T10.heap [] := K7.trans kq10 (allS (Or.inr sz_b5) all0)
  have Z10 : n0 ≤ T10.heap.size := Nat.le_trans Z7 kq10.1
  obtain ⟨cq20, kq20, q20a, q20b, q20c⟩ := isOf hZ10 rfl pf10_0
  obtain ⟨_, _, ⟨T20, L20, k20', n20'⟩, -, X20, ⟨Lc20, hQ20, l20, y20, z20⟩, st20⟩ := X10.virtualBack hx (y := (⟨"com/example/fireweed/fireweed/layout/Java31ByteSalt", "bytes", "()[I"⟩ : MethodName)) (z := (⟨"com/example/fireweed/fireweed/layout/Java31ByteSalt", "bytes", "()[I"⟩ : MethodName)) hown10 (mvT hZ10 (hw _ (List.mem_of_getElem? (i := 122) rfl))) (mvT hZ10 (hw _ (List.mem_of_getElem? (i := 123) rfl))) (notFace_of_selects (args := #[]) (mvT hZ10 (hw _ (List.mem_of_getElem? (i := 125) rfl)))) (mvT hZ10 (hw _ (List.mem_of_getElem? (i := 125) rfl))) (mvT hZ10 (hw _ (List.mem_of_getElem? (i := 124) rfl))) (by decide) (backOf (W := 0) (rm21s l Z az hw [] b5 ((((-2147483648 : Int32) % (((p0 &&& (2147483647 : Int32)) % (256 : Int32)) + (1 : Int32))).toInt8.toInt32) &&& (255 : Int32)) (((p0 &&& (2147483647 : Int32)) % (256 : Int32)) + (1 : Int32)) T10.heap n0 Z10 pf10_5 pf10_3 hc10) hZ10 (hw _ (List.mem_of_getElem? (i := 126) rfl)) (hw _ (List.mem_of_getElem? (i := 4) rfl)) (by decide) (by decide)) q20a q20c (g := (mkF m 44 #[.val (.int p0), .val (.int p1), .val (.int (((p0 &&& (2147483647 : Int32)) % (256 : Int32)) + (1 : Int32))), .val (.ref b1), .val (.ref b5), .unset, .unset, .unset, .unset] [(.ref b5)])) rfl (by rw [hml]; rfl) (Steps.refl _) (argsL := []) (rest := []) (lenOf pd_18 rfl) rfl (by show 2 * 0 + _ ≤ _; exact Nat.le_of_eq rfl) (hb hby at_44) (fun _ _ => ⟨rfl, rfl, (by decide : 7 + 1 ≤ _), (by decide : 40 + 6 ≤ _)⟩)
  dsimp only [Pt.U, Pt.locs, Pt.cells, Pt.slots] at X20 l20 y20 z20 st20 hQ20
  subst l20 y20 z20
  obtain ⟨b20_0, kk20_0, rfl, N20q, s20_0, kq20, pf20_0, pf20_1⟩ := hQ20
  have N20 := Fr.app N10 N20q
  have g_b20_0 : n0 ≤ b20_0 := Nat.le_trans Z10 s20_0
  have sz_b20_0 : h0.size ≤ b20_0 := Nat.le_trans K10.1 s20_0
  have K20 : Keep h0 T20.heap [] := K10.trans kq20 all0
  have Z20 : n0 ≤ T20.heap.size := Nat.le_trans Z10 kq20.1
  obtain ⟨cl21, Ar21, qk21, Sz21, Ng21, Hs21, Gf21⟩ := id pf20_1
  have hin22 : ¬ ((0 : Int32) < 0 ∨ cl21.slots.size ≤ ((0 : Int32)).toNatClampNeg) := inb_of Sz21 ⟨by decide, by decide⟩
  have hat23 : cl21.slots[((0 : Int32)).toNatClampNeg]? = some (.int (0 : Int32)) := Hs21.at hin22 rfl
  have hin24 : ¬ ((1 : Int32) < 0 ∨ cl21.slots.size ≤ ((1 : Int32)).toNatClampNeg) := inb_of Sz21 ⟨by decide, by decide⟩
  have hat25 : cl21.slots[((1 : Int32)).toNatClampNeg]? = some (.int ((((p0 &&& (2147483647 : Int32)) % (256 : Int32)) + (1 : Int32)) - (1 : Int32))) := Hs21.at hin24 rfl
  have hin26 : ¬ ((2 : Int32) < 0 ∨ cl21.slots.size ≤ ((2 : Int32)).toNatClampNeg) := inb_of Sz21 ⟨by decide, by decide⟩
  have hat27 : cl21.slots[((2 : Int32)).toNatClampNeg]? = some (.int (0 : Int32)) := Hs21.at hin26 rfl
  have hin28 : ¬ ((3 : Int32) < 0 ∨ cl21.slots.size ≤ ((3 : Int32)).toNatClampNeg) := inb_of Sz21 ⟨by decide, by decide⟩
  have hat29 : cl21.slots[((3 : Int32)).toNatClampNeg]? = some (.int ((((-2147483648 : Int32) % (((p0 &&& (2147483647 : Int32)) % (256 : Int32)) + (1 : Int32))).toInt8.toInt32) &&& (255 : Int32))) := Hs21.at hin28 rfl
  have hin30 : ¬ ((4 : Int32) < 0 ∨ cl21.slots.size ≤ ((4 : Int32)).toNatClampNeg) := inb_of Sz21 ⟨by decide, by decide⟩
  have hat31 : cl21.slots[((4 : Int32)).toNatClampNeg]? = some (.int ((((-2147483648 : Int32) % (((p0 &&& (2147483647 : Int32)) % (256 : Int32)) + (1 : Int32))).toInt8.toInt32) &&& (255 : Int32))) := Hs21.at hin30 rfl
  have hin32 : ¬ ((5 : Int32) < 0 ∨ cl21.slots.size ≤ ((5 : Int32)).toNatClampNeg) := inb_of Sz21 ⟨by decide, by decide⟩
  have hat33 : cl21.slots[((5 : Int32)).toNatClampNeg]? = some (.int (0 : Int32)) := Hs21.at hin32 rfl
  obtain ⟨fs, hr, hrun, hended, hWE⟩ := X20.leaveW (s := s) hS10 (Nat.le_trans (Nat.le_refl _) kq20.1) (v := some (.int (1 : Int32))) (fun h => by rw [Bd.returns] at h; cases h)
  refine ⟨_, _, pre0 _ ?_, hrun, hended, _, _, rfl, ?_, hWE.1, hWE.2.1, hWE.2.2.1, hWE.2.2.2.mono (by decide) (by decide)⟩
  · show Steps p.tables e below (s₁.setTop (mkF m 0 #[.val (.int p0), .val (.int p1), .unset, .unset, .unset, .unset, .unset, .unset, .unset] [])) _
    refine XS.iloadN X0.here hx rfl (hb hby at_0) rfl ?_
    show Steps p.tables e below (s₁.setTop (mkF m 1 #[.val (.int p0), .val (.int p1), .unset, .unset, .unset, .unset, .unset, .unset, .unset] [(.int p0)])) _
    refine X0.ldcInt hx hown (mvT hZ (hw _ (List.mem_of_getElem? (i := 0) rfl))) (g := (mkF m 1 #[.val (.int p0), .val (.int p1), .unset, .unset, .unset, .unset, .unset, .unset, .unset] [(.int p0)])) rfl (hb hby at_1) _ ?_
    show Steps p.tables e below (s₁.setTop (mkF m 3 #[.val (.int p0), .val (.int p1), .unset, .unset, .unset, .unset, .unset, .unset, .unset] [(.int (2147483647 : Int32)), (.int p0)])) _
    refine XS.iand X0.here hx rfl (hb hby at_3) rfl ?_
    show Steps p.tables e below (s₁.setTop (mkF m 4 #[.val (.int p0), .val (.int p1), .unset, .unset, .unset, .unset, .unset, .unset, .unset] [(.int (p0 &&& (2147483647 : Int32)))])) _
    refine XS.sipush X0.here hx rfl (hb hby at_4) ?_
    show Steps p.tables e below (s₁.setTop (mkF m 7 #[.val (.int p0), .val (.int p1), .unset, .unset, .unset, .unset, .unset, .unset, .unset] [(.int (256 : Int32)), (.int (p0 &&& (2147483647 : Int32)))])) _
    refine iremM X0 hx rfl (hb hby at_7) rfl (by decide) ?_
    show Steps p.tables e below (s₁.setTop (mkF m 8 #[.val (.int p0), .val (.int p1), .unset, .unset, .unset, .unset, .unset, .unset, .unset] [(.int ((p0 &&& (2147483647 : Int32)) % (256 : Int32)))])) _
    refine XS.iconst X0.here hx rfl (hb hby at_8) ?_
    show Steps p.tables e below (s₁.setTop (mkF m 9 #[.val (.int p0), .val (.int p1), .unset, .unset, .unset, .unset, .unset, .unset, .unset] [(.int (1 : Int32)), (.int ((p0 &&& (2147483647 : Int32)) % (256 : Int32)))])) _
    refine XS.iadd X0.here hx rfl (hb hby at_9) rfl ?_
    show Steps p.tables e below (s₁.setTop (mkF m 10 #[.val (.int p0), .val (.int p1), .unset, .unset, .unset, .unset, .unset, .unset, .unset] [(.int (((p0 &&& (2147483647 : Int32)) % (256 : Int32)) + (1 : Int32)))])) _
    refine XS.istoreN X0.here hx rfl (hb hby at_10) rfl (l' := #[.val (.int p0), .val (.int p1), .val (.int (((p0 &&& (2147483647 : Int32)) % (256 : Int32)) + (1 : Int32))), .unset, .unset, .unset, .unset, .unset, .unset]) rfl ?_
    show Steps p.tables e below (s₁.setTop (mkF m 11 #[.val (.int p0), .val (.int p1), .val (.int (((p0 &&& (2147483647 : Int32)) % (256 : Int32)) + (1 : Int32))), .unset, .unset, .unset, .unset, .unset, .unset] [])) _
    refine XS.iconst X0.here hx rfl (hb hby at_11) ?_
    show Steps p.tables e below (s₁.setTop (mkF m 12 #[.val (.int p0), .val (.int p1), .val (.int (((p0 &&& (2147483647 : Int32)) % (256 : Int32)) + (1 : Int32))), .unset, .unset, .unset, .unset, .unset, .unset] [(.int (1 : Int32))])) _
    refine st1 _ ?_
    show Steps p.tables e below (T1.setTop (mkF m 14 #[.val (.int p0), .val (.int p1), .val (.int (((p0 &&& (2147483647 : Int32)) % (256 : Int32)) + (1 : Int32))), .unset, .unset, .unset, .unset, .unset, .unset] [(.ref b1)])) _
    refine XS.dup X1.here hx rfl (hb hby at_14) rfl rfl ?_
    show Steps p.tables e below (T1.setTop (mkF m 15 #[.val (.int p0), .val (.int p1), .val (.int (((p0 &&& (2147483647 : Int32)) % (256 : Int32)) + (1 : Int32))), .unset, .unset, .unset, .unset, .unset, .unset] [(.ref b1), (.ref b1)])) _
    refine XS.iconst X1.here hx rfl (hb hby at_15) ?_
    show Steps p.tables e below (T1.setTop (mkF m 16 #[.val (.int p0), .val (.int p1), .val (.int (((p0 &&& (2147483647 : Int32)) % (256 : Int32)) + (1 : Int32))), .unset, .unset, .unset, .unset, .unset, .unset] [(.int (0 : Int32)), (.ref b1), (.ref b1)])) _
    refine XS.iloadN X1.here hx rfl (hb hby at_16) rfl ?_
    show Steps p.tables e below (T1.setTop (mkF m 17 #[.val (.int p0), .val (.int p1), .val (.int (((p0 &&& (2147483647 : Int32)) % (256 : Int32)) + (1 : Int32))), .unset, .unset, .unset, .unset, .unset, .unset] [(.int p1), (.int (0 : Int32)), (.ref b1), (.ref b1)])) _
    refine XS.sipush X1.here hx rfl (hb hby at_17) ?_
    show Steps p.tables e below (T1.setTop (mkF m 20 #[.val (.int p0), .val (.int p1), .val (.int (((p0 &&& (2147483647 : Int32)) % (256 : Int32)) + (1 : Int32))), .unset, .unset, .unset, .unset, .unset, .unset] [(.int (255 : Int32)), (.int p1), (.int (0 : Int32)), (.ref b1), (.ref b1)])) _
    refine XS.iand X1.here hx rfl (hb hby at_20) rfl ?_
    show Steps p.tables e below (T1.setTop (mkF m 21 #[.val (.int p0), .val (.int p1), .val (.int (((p0 &&& (2147483647 : Int32)) % (256 : Int32)) + (1 : Int32))), .unset, .unset, .unset, .unset, .unset, .unset] [(.int (p1 &&& (255 : Int32))), (.int (0 : Int32)), (.ref b1), (.ref b1)])) _
    refine XS.i2c X1.here hx rfl (hb hby at_21) rfl ?_
    show Steps p.tables e below (T1.setTop (mkF m 22 #[.val (.int p0), .val (.int p1), .val (.int (((p0 &&& (2147483647 : Int32)) % (256 : Int32)) + (1 : Int32))), .unset, .unset, .unset, .unset, .unset, .unset] [(.int ((p1 &&& (255 : Int32)).toUInt32.toUInt16.toUInt32.toInt32)), (.int (0 : Int32)), (.ref b1), (.ref b1)])) _
    refine st4 _ ?_
    show Steps p.tables e below (T4.setTop (mkF m 23 #[.val (.int p0), .val (.int p1), .val (.int (((p0 &&& (2147483647 : Int32)) % (256 : Int32)) + (1 : Int32))), .unset, .unset, .unset, .unset, .unset, .unset] [(.ref b1)])) _
    refine XS.astoreN X4.here hx rfl (hb hby at_23) rfl rfl (l' := #[.val (.int p0), .val (.int p1), .val (.int (((p0 &&& (2147483647 : Int32)) % (256 : Int32)) + (1 : Int32))), .val (.ref b1), .unset, .unset, .unset, .unset, .unset]) rfl ?_
    show Steps p.tables e below (T4.setTop (mkF m 24 #[.val (.int p0), .val (.int p1), .val (.int (((p0 &&& (2147483647 : Int32)) % (256 : Int32)) + (1 : Int32))), .val (.ref b1), .unset, .unset, .unset, .unset, .unset] [])) _
    refine st5 _ ?_
    show Steps p.tables e below (T5.setTop (mkF m 27 #[.val (.int p0), .val (.int p1), .val (.int (((p0 &&& (2147483647 : Int32)) % (256 : Int32)) + (1 : Int32))), .val (.ref b1), .unset, .unset, .unset, .unset, .unset] [(.ref b5)])) _
    refine XS.dup X5.here hx rfl (hb hby at_27) rfl rfl ?_
    show Steps p.tables e below (T5.setTop (mkF m 28 #[.val (.int p0), .val (.int p1), .val (.int (((p0 &&& (2147483647 : Int32)) % (256 : Int32)) + (1 : Int32))), .val (.ref b1), .unset, .unset, .unset, .unset, .unset] [(.ref b5), (.ref b5)])) _
    refine XS.iloadN X5.here hx rfl (hb hby at_28) rfl ?_
    show Steps p.tables e below (T5.setTop (mkF m 29 #[.val (.int p0), .val (.int p1), .val (.int (((p0 &&& (2147483647 : Int32)) % (256 : Int32)) + (1 : Int32))), .val (.ref b1), .unset, .unset, .unset, .unset, .unset] [(.int (((p0 &&& (2147483647 : Int32)) % (256 : Int32)) + (1 : Int32))), (.ref b5), (.ref b5)])) _
    refine st6 _ ?_
    show Steps p.tables e below (T6.setTop (mkF m 32 #[.val (.int p0), .val (.int p1), .val (.int (((p0 &&& (2147483647 : Int32)) % (256 : Int32)) + (1 : Int32))), .val (.ref b1), .unset, .unset, .unset, .unset, .unset] [(.ref b6), (.int (((p0 &&& (2147483647 : Int32)) % (256 : Int32)) + (1 : Int32))), (.ref b5), (.ref b5)])) _
    refine XS.dup X6.here hx rfl (hb hby at_32) rfl rfl ?_
    show Steps p.tables e below (T6.setTop (mkF m 33 #[.val (.int p0), .val (.int p1), .val (.int (((p0 &&& (2147483647 : Int32)) % (256 : Int32)) + (1 : Int32))), .val (.ref b1), .unset, .unset, .unset, .unset, .unset] [(.ref b6), (.ref b6), (.int (((p0 &&& (2147483647 : Int32)) % (256 : Int32)) + (1 : Int32))), (.ref b5), (.ref b5)])) _
    refine XS.aloadN X6.here hx rfl (hb hby at_33) rfl rfl ?_
    show Steps p.tables e below (T6.setTop (mkF m 34 #[.val (.int p0), .val (.int p1), .val (.int (((p0 &&& (2147483647 : Int32)) % (256 : Int32)) + (1 : Int32))), .val (.ref b1), .unset, .unset, .unset, .unset, .unset] [(.ref b1), (.ref b6), (.ref b6), (.int (((p0 &&& (2147483647 : Int32)) % (256 : Int32)) + (1 : Int32))), (.ref b5), (.ref b5)])) _
    refine st7.trans ?_
    show Steps p.tables e below (T7.setTop (mkF m 37 #[.val (.int p0), .val (.int p1), .val (.int (((p0 &&& (2147483647 : Int32)) % (256 : Int32)) + (1 : Int32))), .val (.ref b1), .unset, .unset, .unset, .unset, .unset] [(.ref b6), (.int (((p0 &&& (2147483647 : Int32)) % (256 : Int32)) + (1 : Int32))), (.ref b5), (.ref b5)])) _
    refine st10.trans ?_
    show Steps p.tables e below (T10.setTop (mkF m 40 #[.val (.int p0), .val (.int p1), .val (.int (((p0 &&& (2147483647 : Int32)) % (256 : Int32)) + (1 : Int32))), .val (.ref b1), .unset, .unset, .unset, .unset, .unset] [(.ref b5)])) _
    refine XS.astore X10.here hx rfl (hb hby at_40) rfl rfl (l' := #[.val (.int p0), .val (.int p1), .val (.int (((p0 &&& (2147483647 : Int32)) % (256 : Int32)) + (1 : Int32))), .val (.ref b1), .val (.ref b5), .unset, .unset, .unset, .unset]) rfl ?_
    show Steps p.tables e below (T10.setTop (mkF m 42 #[.val (.int p0), .val (.int p1), .val (.int (((p0 &&& (2147483647 : Int32)) % (256 : Int32)) + (1 : Int32))), .val (.ref b1), .val (.ref b5), .unset, .unset, .unset, .unset] [])) _
    refine XS.aload X10.here hx rfl (hb hby at_42) rfl rfl ?_
    show Steps p.tables e below (T10.setTop (mkF m 44 #[.val (.int p0), .val (.int p1), .val (.int (((p0 &&& (2147483647 : Int32)) % (256 : Int32)) + (1 : Int32))), .val (.ref b1), .val (.ref b5), .unset, .unset, .unset, .unset] [(.ref b5)])) _
    refine st20.trans ?_
    show Steps p.tables e below (T20.setTop (mkF m 47 #[.val (.int p0), .val (.int p1), .val (.int (((p0 &&& (2147483647 : Int32)) % (256 : Int32)) + (1 : Int32))), .val (.ref b1), .val (.ref b5), .unset, .unset, .unset, .unset] [(.ref b20_0)])) _
    refine XS.astore X20.here hx rfl (hb hby at_47) rfl rfl (l' := #[.val (.int p0), .val (.int p1), .val (.int (((p0 &&& (2147483647 : Int32)) % (256 : Int32)) + (1 : Int32))), .val (.ref b1), .val (.ref b5), .val (.ref b20_0), .unset, .unset, .unset]) rfl ?_
    show Steps p.tables e below (T20.setTop (mkF m 49 #[.val (.int p0), .val (.int p1), .val (.int (((p0 &&& (2147483647 : Int32)) % (256 : Int32)) + (1 : Int32))), .val (.ref b1), .val (.ref b5), .val (.ref b20_0), .unset, .unset, .unset] [])) _
    refine X20.ldc2Long hx hown10 (mvT hZ10 (hw _ (List.mem_of_getElem? (i := 128) rfl))) (g := (mkF m 49 #[.val (.int p0), .val (.int p1), .val (.int (((p0 &&& (2147483647 : Int32)) % (256 : Int32)) + (1 : Int32))), .val (.ref b1), .val (.ref b5), .val (.ref b20_0), .unset, .unset, .unset] [])) rfl (hb hby at_49) _ ?_
    show Steps p.tables e below (T20.setTop (mkF m 52 #[.val (.int p0), .val (.int p1), .val (.int (((p0 &&& (2147483647 : Int32)) % (256 : Int32)) + (1 : Int32))), .val (.ref b1), .val (.ref b5), .val (.ref b20_0), .unset, .unset, .unset] [(.long (2147483648 : Int64))])) _
    refine XS.iloadN X20.here hx rfl (hb hby at_52) rfl ?_
    show Steps p.tables e below (T20.setTop (mkF m 53 #[.val (.int p0), .val (.int p1), .val (.int (((p0 &&& (2147483647 : Int32)) % (256 : Int32)) + (1 : Int32))), .val (.ref b1), .val (.ref b5), .val (.ref b20_0), .unset, .unset, .unset] [(.int (((p0 &&& (2147483647 : Int32)) % (256 : Int32)) + (1 : Int32))), (.long (2147483648 : Int64))])) _
    refine XS.i2l X20.here hx rfl (hb hby at_53) rfl ?_
    show Steps p.tables e below (T20.setTop (mkF m 54 #[.val (.int p0), .val (.int p1), .val (.int (((p0 &&& (2147483647 : Int32)) % (256 : Int32)) + (1 : Int32))), .val (.ref b1), .val (.ref b5), .val (.ref b20_0), .unset, .unset, .unset] [(.long ((((p0 &&& (2147483647 : Int32)) % (256 : Int32)) + (1 : Int32)).toInt64)), (.long (2147483648 : Int64))])) _
    refine own_lremM X20 hx rfl (hb hby at_54) rfl hc11 ?_
    show Steps p.tables e below (T20.setTop (mkF m 55 #[.val (.int p0), .val (.int p1), .val (.int (((p0 &&& (2147483647 : Int32)) % (256 : Int32)) + (1 : Int32))), .val (.ref b1), .val (.ref b5), .val (.ref b20_0), .unset, .unset, .unset] [(.long ((2147483648 : Int64) % ((((p0 &&& (2147483647 : Int32)) % (256 : Int32)) + (1 : Int32)).toInt64)))])) _
    refine XS.lstore X20.here hx rfl (hb hby at_55) rfl (l' := #[.val (.int p0), .val (.int p1), .val (.int (((p0 &&& (2147483647 : Int32)) % (256 : Int32)) + (1 : Int32))), .val (.ref b1), .val (.ref b5), .val (.ref b20_0), .val (.long ((2147483648 : Int64) % ((((p0 &&& (2147483647 : Int32)) % (256 : Int32)) + (1 : Int32)).toInt64))), .second, .unset]) rfl ?_
    show Steps p.tables e below (T20.setTop (mkF m 57 #[.val (.int p0), .val (.int p1), .val (.int (((p0 &&& (2147483647 : Int32)) % (256 : Int32)) + (1 : Int32))), .val (.ref b1), .val (.ref b5), .val (.ref b20_0), .val (.long ((2147483648 : Int64) % ((((p0 &&& (2147483647 : Int32)) % (256 : Int32)) + (1 : Int32)).toInt64))), .second, .unset] [])) _
    refine XS.lload X20.here hx rfl (hb hby at_57) rfl ?_
    show Steps p.tables e below (T20.setTop (mkF m 59 #[.val (.int p0), .val (.int p1), .val (.int (((p0 &&& (2147483647 : Int32)) % (256 : Int32)) + (1 : Int32))), .val (.ref b1), .val (.ref b5), .val (.ref b20_0), .val (.long ((2147483648 : Int64) % ((((p0 &&& (2147483647 : Int32)) % (256 : Int32)) + (1 : Int32)).toInt64))), .second, .unset] [(.long ((2147483648 : Int64) % ((((p0 &&& (2147483647 : Int32)) % (256 : Int32)) + (1 : Int32)).toInt64)))])) _
    refine XS.lneg X20.here hx rfl (hb hby at_59) rfl ?_
    show Steps p.tables e below (T20.setTop (mkF m 60 #[.val (.int p0), .val (.int p1), .val (.int (((p0 &&& (2147483647 : Int32)) % (256 : Int32)) + (1 : Int32))), .val (.ref b1), .val (.ref b5), .val (.ref b20_0), .val (.long ((2147483648 : Int64) % ((((p0 &&& (2147483647 : Int32)) % (256 : Int32)) + (1 : Int32)).toInt64))), .second, .unset] [(.long (-((2147483648 : Int64) % ((((p0 &&& (2147483647 : Int32)) % (256 : Int32)) + (1 : Int32)).toInt64))))])) _
    refine X20.ldc2Long hx hown10 (mvT hZ10 (hw _ (List.mem_of_getElem? (i := 129) rfl))) (g := (mkF m 60 #[.val (.int p0), .val (.int p1), .val (.int (((p0 &&& (2147483647 : Int32)) % (256 : Int32)) + (1 : Int32))), .val (.ref b1), .val (.ref b5), .val (.ref b20_0), .val (.long ((2147483648 : Int64) % ((((p0 &&& (2147483647 : Int32)) % (256 : Int32)) + (1 : Int32)).toInt64))), .second, .unset] [(.long (-((2147483648 : Int64) % ((((p0 &&& (2147483647 : Int32)) % (256 : Int32)) + (1 : Int32)).toInt64))))])) rfl (hb hby at_60) _ ?_
    show Steps p.tables e below (T20.setTop (mkF m 63 #[.val (.int p0), .val (.int p1), .val (.int (((p0 &&& (2147483647 : Int32)) % (256 : Int32)) + (1 : Int32))), .val (.ref b1), .val (.ref b5), .val (.ref b20_0), .val (.long ((2147483648 : Int64) % ((((p0 &&& (2147483647 : Int32)) % (256 : Int32)) + (1 : Int32)).toInt64))), .second, .unset] [(.long (255 : Int64)), (.long (-((2147483648 : Int64) % ((((p0 &&& (2147483647 : Int32)) % (256 : Int32)) + (1 : Int32)).toInt64))))])) _
    refine XS.land X20.here hx rfl (hb hby at_63) rfl ?_
    show Steps p.tables e below (T20.setTop (mkF m 64 #[.val (.int p0), .val (.int p1), .val (.int (((p0 &&& (2147483647 : Int32)) % (256 : Int32)) + (1 : Int32))), .val (.ref b1), .val (.ref b5), .val (.ref b20_0), .val (.long ((2147483648 : Int64) % ((((p0 &&& (2147483647 : Int32)) % (256 : Int32)) + (1 : Int32)).toInt64))), .second, .unset] [(.long ((-((2147483648 : Int64) % ((((p0 &&& (2147483647 : Int32)) % (256 : Int32)) + (1 : Int32)).toInt64))) &&& (255 : Int64)))])) _
    refine XS.l2i X20.here hx rfl (hb hby at_64) rfl ?_
    show Steps p.tables e below (T20.setTop (mkF m 65 #[.val (.int p0), .val (.int p1), .val (.int (((p0 &&& (2147483647 : Int32)) % (256 : Int32)) + (1 : Int32))), .val (.ref b1), .val (.ref b5), .val (.ref b20_0), .val (.long ((2147483648 : Int64) % ((((p0 &&& (2147483647 : Int32)) % (256 : Int32)) + (1 : Int32)).toInt64))), .second, .unset] [(.int (((-((2147483648 : Int64) % ((((p0 &&& (2147483647 : Int32)) % (256 : Int32)) + (1 : Int32)).toInt64))) &&& (255 : Int64)).toInt32))])) _
    refine XS.istore X20.here hx rfl (hb hby at_65) rfl (l' := #[.val (.int p0), .val (.int p1), .val (.int (((p0 &&& (2147483647 : Int32)) % (256 : Int32)) + (1 : Int32))), .val (.ref b1), .val (.ref b5), .val (.ref b20_0), .val (.long ((2147483648 : Int64) % ((((p0 &&& (2147483647 : Int32)) % (256 : Int32)) + (1 : Int32)).toInt64))), .second, .val (.int (((-((2147483648 : Int64) % ((((p0 &&& (2147483647 : Int32)) % (256 : Int32)) + (1 : Int32)).toInt64))) &&& (255 : Int64)).toInt32))]) rfl ?_
    show Steps p.tables e below (T20.setTop (mkF m 67 #[.val (.int p0), .val (.int p1), .val (.int (((p0 &&& (2147483647 : Int32)) % (256 : Int32)) + (1 : Int32))), .val (.ref b1), .val (.ref b5), .val (.ref b20_0), .val (.long ((2147483648 : Int64) % ((((p0 &&& (2147483647 : Int32)) % (256 : Int32)) + (1 : Int32)).toInt64))), .second, .val (.int (((-((2147483648 : Int64) % ((((p0 &&& (2147483647 : Int32)) % (256 : Int32)) + (1 : Int32)).toInt64))) &&& (255 : Int64)).toInt32))] [])) _
    refine XS.iload X20.here hx rfl (hb hby at_67) rfl ?_
    show Steps p.tables e below (T20.setTop (mkF m 69 #[.val (.int p0), .val (.int p1), .val (.int (((p0 &&& (2147483647 : Int32)) % (256 : Int32)) + (1 : Int32))), .val (.ref b1), .val (.ref b5), .val (.ref b20_0), .val (.long ((2147483648 : Int64) % ((((p0 &&& (2147483647 : Int32)) % (256 : Int32)) + (1 : Int32)).toInt64))), .second, .val (.int (((-((2147483648 : Int64) % ((((p0 &&& (2147483647 : Int32)) % (256 : Int32)) + (1 : Int32)).toInt64))) &&& (255 : Int64)).toInt32))] [(.int (((-((2147483648 : Int64) % ((((p0 &&& (2147483647 : Int32)) % (256 : Int32)) + (1 : Int32)).toInt64))) &&& (255 : Int64)).toInt32))])) _
    refine XS.iloadN X20.here hx rfl (hb hby at_69) rfl ?_
    show Steps p.tables e below (T20.setTop (mkF m 70 #[.val (.int p0), .val (.int p1), .val (.int (((p0 &&& (2147483647 : Int32)) % (256 : Int32)) + (1 : Int32))), .val (.ref b1), .val (.ref b5), .val (.ref b20_0), .val (.long ((2147483648 : Int64) % ((((p0 &&& (2147483647 : Int32)) % (256 : Int32)) + (1 : Int32)).toInt64))), .second, .val (.int (((-((2147483648 : Int64) % ((((p0 &&& (2147483647 : Int32)) % (256 : Int32)) + (1 : Int32)).toInt64))) &&& (255 : Int64)).toInt32))] [(.int (((p0 &&& (2147483647 : Int32)) % (256 : Int32)) + (1 : Int32))), (.int (((-((2147483648 : Int64) % ((((p0 &&& (2147483647 : Int32)) % (256 : Int32)) + (1 : Int32)).toInt64))) &&& (255 : Int64)).toInt32))])) _
    refine XS.icmpNo X20.here hx rfl (hb hby at_70) rfl (flt hc12).1 ?_
    show Steps p.tables e below (T20.setTop (mkF m 73 #[.val (.int p0), .val (.int p1), .val (.int (((p0 &&& (2147483647 : Int32)) % (256 : Int32)) + (1 : Int32))), .val (.ref b1), .val (.ref b5), .val (.ref b20_0), .val (.long ((2147483648 : Int64) % ((((p0 &&& (2147483647 : Int32)) % (256 : Int32)) + (1 : Int32)).toInt64))), .second, .val (.int (((-((2147483648 : Int64) % ((((p0 &&& (2147483647 : Int32)) % (256 : Int32)) + (1 : Int32)).toInt64))) &&& (255 : Int64)).toInt32))] [])) _
    refine XS.aload X20.here hx rfl (hb hby at_73) rfl rfl ?_
    show Steps p.tables e below (T20.setTop (mkF m 75 #[.val (.int p0), .val (.int p1), .val (.int (((p0 &&& (2147483647 : Int32)) % (256 : Int32)) + (1 : Int32))), .val (.ref b1), .val (.ref b5), .val (.ref b20_0), .val (.long ((2147483648 : Int64) % ((((p0 &&& (2147483647 : Int32)) % (256 : Int32)) + (1 : Int32)).toInt64))), .second, .val (.int (((-((2147483648 : Int64) % ((((p0 &&& (2147483647 : Int32)) % (256 : Int32)) + (1 : Int32)).toInt64))) &&& (255 : Int64)).toInt32))] [(.ref b20_0)])) _
    refine X20.arraylength hx Ar21.1 (State.isArrayOf_alike hZ10.alike Ar21.2.1) (g := (mkF m 75 #[.val (.int p0), .val (.int p1), .val (.int (((p0 &&& (2147483647 : Int32)) % (256 : Int32)) + (1 : Int32))), .val (.ref b1), .val (.ref b5), .val (.ref b20_0), .val (.long ((2147483648 : Int64) % ((((p0 &&& (2147483647 : Int32)) % (256 : Int32)) + (1 : Int32)).toInt64))), .second, .val (.int (((-((2147483648 : Int64) % ((((p0 &&& (2147483647 : Int32)) % (256 : Int32)) + (1 : Int32)).toInt64))) &&& (255 : Int64)).toInt32))] [(.ref b20_0)])) rfl rfl (hb hby at_75) _ ?_
    rw [len_of Sz21 Ng21]
    show Steps p.tables e below (T20.setTop (mkF m 76 #[.val (.int p0), .val (.int p1), .val (.int (((p0 &&& (2147483647 : Int32)) % (256 : Int32)) + (1 : Int32))), .val (.ref b1), .val (.ref b5), .val (.ref b20_0), .val (.long ((2147483648 : Int64) % ((((p0 &&& (2147483647 : Int32)) % (256 : Int32)) + (1 : Int32)).toInt64))), .second, .val (.int (((-((2147483648 : Int64) % ((((p0 &&& (2147483647 : Int32)) % (256 : Int32)) + (1 : Int32)).toInt64))) &&& (255 : Int64)).toInt32))] [(.int (6 : Int32))])) _
    refine XS.bipush X20.here hx rfl (hb hby at_76) ?_
    show Steps p.tables e below (T20.setTop (mkF m 78 #[.val (.int p0), .val (.int p1), .val (.int (((p0 &&& (2147483647 : Int32)) % (256 : Int32)) + (1 : Int32))), .val (.ref b1), .val (.ref b5), .val (.ref b20_0), .val (.long ((2147483648 : Int64) % ((((p0 &&& (2147483647 : Int32)) % (256 : Int32)) + (1 : Int32)).toInt64))), .second, .val (.int (((-((2147483648 : Int64) % ((((p0 &&& (2147483647 : Int32)) % (256 : Int32)) + (1 : Int32)).toInt64))) &&& (255 : Int64)).toInt32))] [(.int (6 : Int32)), (.int (6 : Int32))])) _
    refine XS.icmpNo X20.here hx rfl (hb hby at_78) rfl (teq (by decide : (6 : Int32) = (6 : Int32))).2 ?_
    show Steps p.tables e below (T20.setTop (mkF m 81 #[.val (.int p0), .val (.int p1), .val (.int (((p0 &&& (2147483647 : Int32)) % (256 : Int32)) + (1 : Int32))), .val (.ref b1), .val (.ref b5), .val (.ref b20_0), .val (.long ((2147483648 : Int64) % ((((p0 &&& (2147483647 : Int32)) % (256 : Int32)) + (1 : Int32)).toInt64))), .second, .val (.int (((-((2147483648 : Int64) % ((((p0 &&& (2147483647 : Int32)) % (256 : Int32)) + (1 : Int32)).toInt64))) &&& (255 : Int64)).toInt32))] [])) _
    refine XS.aload X20.here hx rfl (hb hby at_81) rfl rfl ?_
    show Steps p.tables e below (T20.setTop (mkF m 83 #[.val (.int p0), .val (.int p1), .val (.int (((p0 &&& (2147483647 : Int32)) % (256 : Int32)) + (1 : Int32))), .val (.ref b1), .val (.ref b5), .val (.ref b20_0), .val (.long ((2147483648 : Int64) % ((((p0 &&& (2147483647 : Int32)) % (256 : Int32)) + (1 : Int32)).toInt64))), .second, .val (.int (((-((2147483648 : Int64) % ((((p0 &&& (2147483647 : Int32)) % (256 : Int32)) + (1 : Int32)).toInt64))) &&& (255 : Int64)).toInt32))] [(.ref b20_0)])) _
    refine XS.iconst X20.here hx rfl (hb hby at_83) ?_
    show Steps p.tables e below (T20.setTop (mkF m 84 #[.val (.int p0), .val (.int p1), .val (.int (((p0 &&& (2147483647 : Int32)) % (256 : Int32)) + (1 : Int32))), .val (.ref b1), .val (.ref b5), .val (.ref b20_0), .val (.long ((2147483648 : Int64) % ((((p0 &&& (2147483647 : Int32)) % (256 : Int32)) + (1 : Int32)).toInt64))), .second, .val (.int (((-((2147483648 : Int64) % ((((p0 &&& (2147483647 : Int32)) % (256 : Int32)) + (1 : Int32)).toInt64))) &&& (255 : Int64)).toInt32))] [(.int (0 : Int32)), (.ref b20_0)])) _
    refine X20.iaload hx (j := (0 : Int32)) (v := (.int (0 : Int32))) Ar21.1 (State.isArrayOf_alike hZ10.alike Ar21.2.1) Ar21.2.2 hin22 hat23 (g := (mkF m 84 #[.val (.int p0), .val (.int p1), .val (.int (((p0 &&& (2147483647 : Int32)) % (256 : Int32)) + (1 : Int32))), .val (.ref b1), .val (.ref b5), .val (.ref b20_0), .val (.long ((2147483648 : Int64) % ((((p0 &&& (2147483647 : Int32)) % (256 : Int32)) + (1 : Int32)).toInt64))), .second, .val (.int (((-((2147483648 : Int64) % ((((p0 &&& (2147483647 : Int32)) % (256 : Int32)) + (1 : Int32)).toInt64))) &&& (255 : Int64)).toInt32))] [(.int (0 : Int32)), (.ref b20_0)])) rfl rfl (hb hby at_84) _ ?_
    show Steps p.tables e below (T20.setTop (mkF m 85 #[.val (.int p0), .val (.int p1), .val (.int (((p0 &&& (2147483647 : Int32)) % (256 : Int32)) + (1 : Int32))), .val (.ref b1), .val (.ref b5), .val (.ref b20_0), .val (.long ((2147483648 : Int64) % ((((p0 &&& (2147483647 : Int32)) % (256 : Int32)) + (1 : Int32)).toInt64))), .second, .val (.int (((-((2147483648 : Int64) % ((((p0 &&& (2147483647 : Int32)) % (256 : Int32)) + (1 : Int32)).toInt64))) &&& (255 : Int64)).toInt32))] [(.int (0 : Int32))])) _
    refine XS.ifNo X20.here hx rfl (hb hby at_85) rfl ((if0 _ _).trans (teq (by decide : (0 : Int32) = (0 : Int32))).2) ?_
    show Steps p.tables e below (T20.setTop (mkF m 88 #[.val (.int p0), .val (.int p1), .val (.int (((p0 &&& (2147483647 : Int32)) % (256 : Int32)) + (1 : Int32))), .val (.ref b1), .val (.ref b5), .val (.ref b20_0), .val (.long ((2147483648 : Int64) % ((((p0 &&& (2147483647 : Int32)) % (256 : Int32)) + (1 : Int32)).toInt64))), .second, .val (.int (((-((2147483648 : Int64) % ((((p0 &&& (2147483647 : Int32)) % (256 : Int32)) + (1 : Int32)).toInt64))) &&& (255 : Int64)).toInt32))] [])) _
    refine XS.aload X20.here hx rfl (hb hby at_88) rfl rfl ?_
    show Steps p.tables e below (T20.setTop (mkF m 90 #[.val (.int p0), .val (.int p1), .val (.int (((p0 &&& (2147483647 : Int32)) % (256 : Int32)) + (1 : Int32))), .val (.ref b1), .val (.ref b5), .val (.ref b20_0), .val (.long ((2147483648 : Int64) % ((((p0 &&& (2147483647 : Int32)) % (256 : Int32)) + (1 : Int32)).toInt64))), .second, .val (.int (((-((2147483648 : Int64) % ((((p0 &&& (2147483647 : Int32)) % (256 : Int32)) + (1 : Int32)).toInt64))) &&& (255 : Int64)).toInt32))] [(.ref b20_0)])) _
    refine XS.iconst X20.here hx rfl (hb hby at_90) ?_
    show Steps p.tables e below (T20.setTop (mkF m 91 #[.val (.int p0), .val (.int p1), .val (.int (((p0 &&& (2147483647 : Int32)) % (256 : Int32)) + (1 : Int32))), .val (.ref b1), .val (.ref b5), .val (.ref b20_0), .val (.long ((2147483648 : Int64) % ((((p0 &&& (2147483647 : Int32)) % (256 : Int32)) + (1 : Int32)).toInt64))), .second, .val (.int (((-((2147483648 : Int64) % ((((p0 &&& (2147483647 : Int32)) % (256 : Int32)) + (1 : Int32)).toInt64))) &&& (255 : Int64)).toInt32))] [(.int (1 : Int32)), (.ref b20_0)])) _
    refine X20.iaload hx (j := (1 : Int32)) (v := (.int ((((p0 &&& (2147483647 : Int32)) % (256 : Int32)) + (1 : Int32)) - (1 : Int32)))) Ar21.1 (State.isArrayOf_alike hZ10.alike Ar21.2.1) Ar21.2.2 hin24 hat25 (g := (mkF m 91 #[.val (.int p0), .val (.int p1), .val (.int (((p0 &&& (2147483647 : Int32)) % (256 : Int32)) + (1 : Int32))), .val (.ref b1), .val (.ref b5), .val (.ref b20_0), .val (.long ((2147483648 : Int64) % ((((p0 &&& (2147483647 : Int32)) % (256 : Int32)) + (1 : Int32)).toInt64))), .second, .val (.int (((-((2147483648 : Int64) % ((((p0 &&& (2147483647 : Int32)) % (256 : Int32)) + (1 : Int32)).toInt64))) &&& (255 : Int64)).toInt32))] [(.int (1 : Int32)), (.ref b20_0)])) rfl rfl (hb hby at_91) _ ?_
    show Steps p.tables e below (T20.setTop (mkF m 92 #[.val (.int p0), .val (.int p1), .val (.int (((p0 &&& (2147483647 : Int32)) % (256 : Int32)) + (1 : Int32))), .val (.ref b1), .val (.ref b5), .val (.ref b20_0), .val (.long ((2147483648 : Int64) % ((((p0 &&& (2147483647 : Int32)) % (256 : Int32)) + (1 : Int32)).toInt64))), .second, .val (.int (((-((2147483648 : Int64) % ((((p0 &&& (2147483647 : Int32)) % (256 : Int32)) + (1 : Int32)).toInt64))) &&& (255 : Int64)).toInt32))] [(.int ((((p0 &&& (2147483647 : Int32)) % (256 : Int32)) + (1 : Int32)) - (1 : Int32)))])) _
    refine XS.iloadN X20.here hx rfl (hb hby at_92) rfl ?_
    show Steps p.tables e below (T20.setTop (mkF m 93 #[.val (.int p0), .val (.int p1), .val (.int (((p0 &&& (2147483647 : Int32)) % (256 : Int32)) + (1 : Int32))), .val (.ref b1), .val (.ref b5), .val (.ref b20_0), .val (.long ((2147483648 : Int64) % ((((p0 &&& (2147483647 : Int32)) % (256 : Int32)) + (1 : Int32)).toInt64))), .second, .val (.int (((-((2147483648 : Int64) % ((((p0 &&& (2147483647 : Int32)) % (256 : Int32)) + (1 : Int32)).toInt64))) &&& (255 : Int64)).toInt32))] [(.int (((p0 &&& (2147483647 : Int32)) % (256 : Int32)) + (1 : Int32))), (.int ((((p0 &&& (2147483647 : Int32)) % (256 : Int32)) + (1 : Int32)) - (1 : Int32)))])) _
    refine XS.iconst X20.here hx rfl (hb hby at_93) ?_
    show Steps p.tables e below (T20.setTop (mkF m 94 #[.val (.int p0), .val (.int p1), .val (.int (((p0 &&& (2147483647 : Int32)) % (256 : Int32)) + (1 : Int32))), .val (.ref b1), .val (.ref b5), .val (.ref b20_0), .val (.long ((2147483648 : Int64) % ((((p0 &&& (2147483647 : Int32)) % (256 : Int32)) + (1 : Int32)).toInt64))), .second, .val (.int (((-((2147483648 : Int64) % ((((p0 &&& (2147483647 : Int32)) % (256 : Int32)) + (1 : Int32)).toInt64))) &&& (255 : Int64)).toInt32))] [(.int (1 : Int32)), (.int (((p0 &&& (2147483647 : Int32)) % (256 : Int32)) + (1 : Int32))), (.int ((((p0 &&& (2147483647 : Int32)) % (256 : Int32)) + (1 : Int32)) - (1 : Int32)))])) _
    refine XS.isub X20.here hx rfl (hb hby at_94) rfl ?_
    show Steps p.tables e below (T20.setTop (mkF m 95 #[.val (.int p0), .val (.int p1), .val (.int (((p0 &&& (2147483647 : Int32)) % (256 : Int32)) + (1 : Int32))), .val (.ref b1), .val (.ref b5), .val (.ref b20_0), .val (.long ((2147483648 : Int64) % ((((p0 &&& (2147483647 : Int32)) % (256 : Int32)) + (1 : Int32)).toInt64))), .second, .val (.int (((-((2147483648 : Int64) % ((((p0 &&& (2147483647 : Int32)) % (256 : Int32)) + (1 : Int32)).toInt64))) &&& (255 : Int64)).toInt32))] [(.int ((((p0 &&& (2147483647 : Int32)) % (256 : Int32)) + (1 : Int32)) - (1 : Int32))), (.int ((((p0 &&& (2147483647 : Int32)) % (256 : Int32)) + (1 : Int32)) - (1 : Int32)))])) _
    refine XS.icmpNo X20.here hx rfl (hb hby at_95) rfl (teq (rfl : ((((p0 &&& (2147483647 : Int32)) % (256 : Int32)) + (1 : Int32)) - (1 : Int32)) = ((((p0 &&& (2147483647 : Int32)) % (256 : Int32)) + (1 : Int32)) - (1 : Int32)))).2 ?_
    show Steps p.tables e below (T20.setTop (mkF m 98 #[.val (.int p0), .val (.int p1), .val (.int (((p0 &&& (2147483647 : Int32)) % (256 : Int32)) + (1 : Int32))), .val (.ref b1), .val (.ref b5), .val (.ref b20_0), .val (.long ((2147483648 : Int64) % ((((p0 &&& (2147483647 : Int32)) % (256 : Int32)) + (1 : Int32)).toInt64))), .second, .val (.int (((-((2147483648 : Int64) % ((((p0 &&& (2147483647 : Int32)) % (256 : Int32)) + (1 : Int32)).toInt64))) &&& (255 : Int64)).toInt32))] [])) _
    refine XS.aload X20.here hx rfl (hb hby at_98) rfl rfl ?_
    show Steps p.tables e below (T20.setTop (mkF m 100 #[.val (.int p0), .val (.int p1), .val (.int (((p0 &&& (2147483647 : Int32)) % (256 : Int32)) + (1 : Int32))), .val (.ref b1), .val (.ref b5), .val (.ref b20_0), .val (.long ((2147483648 : Int64) % ((((p0 &&& (2147483647 : Int32)) % (256 : Int32)) + (1 : Int32)).toInt64))), .second, .val (.int (((-((2147483648 : Int64) % ((((p0 &&& (2147483647 : Int32)) % (256 : Int32)) + (1 : Int32)).toInt64))) &&& (255 : Int64)).toInt32))] [(.ref b20_0)])) _
    refine XS.iconst X20.here hx rfl (hb hby at_100) ?_
    show Steps p.tables e below (T20.setTop (mkF m 101 #[.val (.int p0), .val (.int p1), .val (.int (((p0 &&& (2147483647 : Int32)) % (256 : Int32)) + (1 : Int32))), .val (.ref b1), .val (.ref b5), .val (.ref b20_0), .val (.long ((2147483648 : Int64) % ((((p0 &&& (2147483647 : Int32)) % (256 : Int32)) + (1 : Int32)).toInt64))), .second, .val (.int (((-((2147483648 : Int64) % ((((p0 &&& (2147483647 : Int32)) % (256 : Int32)) + (1 : Int32)).toInt64))) &&& (255 : Int64)).toInt32))] [(.int (2 : Int32)), (.ref b20_0)])) _
    refine X20.iaload hx (j := (2 : Int32)) (v := (.int (0 : Int32))) Ar21.1 (State.isArrayOf_alike hZ10.alike Ar21.2.1) Ar21.2.2 hin26 hat27 (g := (mkF m 101 #[.val (.int p0), .val (.int p1), .val (.int (((p0 &&& (2147483647 : Int32)) % (256 : Int32)) + (1 : Int32))), .val (.ref b1), .val (.ref b5), .val (.ref b20_0), .val (.long ((2147483648 : Int64) % ((((p0 &&& (2147483647 : Int32)) % (256 : Int32)) + (1 : Int32)).toInt64))), .second, .val (.int (((-((2147483648 : Int64) % ((((p0 &&& (2147483647 : Int32)) % (256 : Int32)) + (1 : Int32)).toInt64))) &&& (255 : Int64)).toInt32))] [(.int (2 : Int32)), (.ref b20_0)])) rfl rfl (hb hby at_101) _ ?_
    show Steps p.tables e below (T20.setTop (mkF m 102 #[.val (.int p0), .val (.int p1), .val (.int (((p0 &&& (2147483647 : Int32)) % (256 : Int32)) + (1 : Int32))), .val (.ref b1), .val (.ref b5), .val (.ref b20_0), .val (.long ((2147483648 : Int64) % ((((p0 &&& (2147483647 : Int32)) % (256 : Int32)) + (1 : Int32)).toInt64))), .second, .val (.int (((-((2147483648 : Int64) % ((((p0 &&& (2147483647 : Int32)) % (256 : Int32)) + (1 : Int32)).toInt64))) &&& (255 : Int64)).toInt32))] [(.int (0 : Int32))])) _
    refine XS.ifNo X20.here hx rfl (hb hby at_102) rfl ((if0 _ _).trans (teq (by decide : (0 : Int32) = (0 : Int32))).2) ?_
    show Steps p.tables e below (T20.setTop (mkF m 105 #[.val (.int p0), .val (.int p1), .val (.int (((p0 &&& (2147483647 : Int32)) % (256 : Int32)) + (1 : Int32))), .val (.ref b1), .val (.ref b5), .val (.ref b20_0), .val (.long ((2147483648 : Int64) % ((((p0 &&& (2147483647 : Int32)) % (256 : Int32)) + (1 : Int32)).toInt64))), .second, .val (.int (((-((2147483648 : Int64) % ((((p0 &&& (2147483647 : Int32)) % (256 : Int32)) + (1 : Int32)).toInt64))) &&& (255 : Int64)).toInt32))] [])) _
    refine XS.aload X20.here hx rfl (hb hby at_105) rfl rfl ?_
    show Steps p.tables e below (T20.setTop (mkF m 107 #[.val (.int p0), .val (.int p1), .val (.int (((p0 &&& (2147483647 : Int32)) % (256 : Int32)) + (1 : Int32))), .val (.ref b1), .val (.ref b5), .val (.ref b20_0), .val (.long ((2147483648 : Int64) % ((((p0 &&& (2147483647 : Int32)) % (256 : Int32)) + (1 : Int32)).toInt64))), .second, .val (.int (((-((2147483648 : Int64) % ((((p0 &&& (2147483647 : Int32)) % (256 : Int32)) + (1 : Int32)).toInt64))) &&& (255 : Int64)).toInt32))] [(.ref b20_0)])) _
    refine XS.iconst X20.here hx rfl (hb hby at_107) ?_
    show Steps p.tables e below (T20.setTop (mkF m 108 #[.val (.int p0), .val (.int p1), .val (.int (((p0 &&& (2147483647 : Int32)) % (256 : Int32)) + (1 : Int32))), .val (.ref b1), .val (.ref b5), .val (.ref b20_0), .val (.long ((2147483648 : Int64) % ((((p0 &&& (2147483647 : Int32)) % (256 : Int32)) + (1 : Int32)).toInt64))), .second, .val (.int (((-((2147483648 : Int64) % ((((p0 &&& (2147483647 : Int32)) % (256 : Int32)) + (1 : Int32)).toInt64))) &&& (255 : Int64)).toInt32))] [(.int (3 : Int32)), (.ref b20_0)])) _
    refine X20.iaload hx (j := (3 : Int32)) (v := (.int ((((-2147483648 : Int32) % (((p0 &&& (2147483647 : Int32)) % (256 : Int32)) + (1 : Int32))).toInt8.toInt32) &&& (255 : Int32)))) Ar21.1 (State.isArrayOf_alike hZ10.alike Ar21.2.1) Ar21.2.2 hin28 hat29 (g := (mkF m 108 #[.val (.int p0), .val (.int p1), .val (.int (((p0 &&& (2147483647 : Int32)) % (256 : Int32)) + (1 : Int32))), .val (.ref b1), .val (.ref b5), .val (.ref b20_0), .val (.long ((2147483648 : Int64) % ((((p0 &&& (2147483647 : Int32)) % (256 : Int32)) + (1 : Int32)).toInt64))), .second, .val (.int (((-((2147483648 : Int64) % ((((p0 &&& (2147483647 : Int32)) % (256 : Int32)) + (1 : Int32)).toInt64))) &&& (255 : Int64)).toInt32))] [(.int (3 : Int32)), (.ref b20_0)])) rfl rfl (hb hby at_108) _ ?_
    show Steps p.tables e below (T20.setTop (mkF m 109 #[.val (.int p0), .val (.int p1), .val (.int (((p0 &&& (2147483647 : Int32)) % (256 : Int32)) + (1 : Int32))), .val (.ref b1), .val (.ref b5), .val (.ref b20_0), .val (.long ((2147483648 : Int64) % ((((p0 &&& (2147483647 : Int32)) % (256 : Int32)) + (1 : Int32)).toInt64))), .second, .val (.int (((-((2147483648 : Int64) % ((((p0 &&& (2147483647 : Int32)) % (256 : Int32)) + (1 : Int32)).toInt64))) &&& (255 : Int64)).toInt32))] [(.int ((((-2147483648 : Int32) % (((p0 &&& (2147483647 : Int32)) % (256 : Int32)) + (1 : Int32))).toInt8.toInt32) &&& (255 : Int32)))])) _
    refine XS.iload X20.here hx rfl (hb hby at_109) rfl ?_
    show Steps p.tables e below (T20.setTop (mkF m 111 #[.val (.int p0), .val (.int p1), .val (.int (((p0 &&& (2147483647 : Int32)) % (256 : Int32)) + (1 : Int32))), .val (.ref b1), .val (.ref b5), .val (.ref b20_0), .val (.long ((2147483648 : Int64) % ((((p0 &&& (2147483647 : Int32)) % (256 : Int32)) + (1 : Int32)).toInt64))), .second, .val (.int (((-((2147483648 : Int64) % ((((p0 &&& (2147483647 : Int32)) % (256 : Int32)) + (1 : Int32)).toInt64))) &&& (255 : Int64)).toInt32))] [(.int (((-((2147483648 : Int64) % ((((p0 &&& (2147483647 : Int32)) % (256 : Int32)) + (1 : Int32)).toInt64))) &&& (255 : Int64)).toInt32)), (.int ((((-2147483648 : Int32) % (((p0 &&& (2147483647 : Int32)) % (256 : Int32)) + (1 : Int32))).toInt8.toInt32) &&& (255 : Int32)))])) _
    refine XS.icmpNo X20.here hx rfl (hb hby at_111) rfl (teq hc13).2 ?_
    show Steps p.tables e below (T20.setTop (mkF m 114 #[.val (.int p0), .val (.int p1), .val (.int (((p0 &&& (2147483647 : Int32)) % (256 : Int32)) + (1 : Int32))), .val (.ref b1), .val (.ref b5), .val (.ref b20_0), .val (.long ((2147483648 : Int64) % ((((p0 &&& (2147483647 : Int32)) % (256 : Int32)) + (1 : Int32)).toInt64))), .second, .val (.int (((-((2147483648 : Int64) % ((((p0 &&& (2147483647 : Int32)) % (256 : Int32)) + (1 : Int32)).toInt64))) &&& (255 : Int64)).toInt32))] [])) _
    refine XS.aload X20.here hx rfl (hb hby at_114) rfl rfl ?_
    show Steps p.tables e below (T20.setTop (mkF m 116 #[.val (.int p0), .val (.int p1), .val (.int (((p0 &&& (2147483647 : Int32)) % (256 : Int32)) + (1 : Int32))), .val (.ref b1), .val (.ref b5), .val (.ref b20_0), .val (.long ((2147483648 : Int64) % ((((p0 &&& (2147483647 : Int32)) % (256 : Int32)) + (1 : Int32)).toInt64))), .second, .val (.int (((-((2147483648 : Int64) % ((((p0 &&& (2147483647 : Int32)) % (256 : Int32)) + (1 : Int32)).toInt64))) &&& (255 : Int64)).toInt32))] [(.ref b20_0)])) _
    refine XS.iconst X20.here hx rfl (hb hby at_116) ?_
    show Steps p.tables e below (T20.setTop (mkF m 117 #[.val (.int p0), .val (.int p1), .val (.int (((p0 &&& (2147483647 : Int32)) % (256 : Int32)) + (1 : Int32))), .val (.ref b1), .val (.ref b5), .val (.ref b20_0), .val (.long ((2147483648 : Int64) % ((((p0 &&& (2147483647 : Int32)) % (256 : Int32)) + (1 : Int32)).toInt64))), .second, .val (.int (((-((2147483648 : Int64) % ((((p0 &&& (2147483647 : Int32)) % (256 : Int32)) + (1 : Int32)).toInt64))) &&& (255 : Int64)).toInt32))] [(.int (4 : Int32)), (.ref b20_0)])) _
    refine X20.iaload hx (j := (4 : Int32)) (v := (.int ((((-2147483648 : Int32) % (((p0 &&& (2147483647 : Int32)) % (256 : Int32)) + (1 : Int32))).toInt8.toInt32) &&& (255 : Int32)))) Ar21.1 (State.isArrayOf_alike hZ10.alike Ar21.2.1) Ar21.2.2 hin30 hat31 (g := (mkF m 117 #[.val (.int p0), .val (.int p1), .val (.int (((p0 &&& (2147483647 : Int32)) % (256 : Int32)) + (1 : Int32))), .val (.ref b1), .val (.ref b5), .val (.ref b20_0), .val (.long ((2147483648 : Int64) % ((((p0 &&& (2147483647 : Int32)) % (256 : Int32)) + (1 : Int32)).toInt64))), .second, .val (.int (((-((2147483648 : Int64) % ((((p0 &&& (2147483647 : Int32)) % (256 : Int32)) + (1 : Int32)).toInt64))) &&& (255 : Int64)).toInt32))] [(.int (4 : Int32)), (.ref b20_0)])) rfl rfl (hb hby at_117) _ ?_
    show Steps p.tables e below (T20.setTop (mkF m 118 #[.val (.int p0), .val (.int p1), .val (.int (((p0 &&& (2147483647 : Int32)) % (256 : Int32)) + (1 : Int32))), .val (.ref b1), .val (.ref b5), .val (.ref b20_0), .val (.long ((2147483648 : Int64) % ((((p0 &&& (2147483647 : Int32)) % (256 : Int32)) + (1 : Int32)).toInt64))), .second, .val (.int (((-((2147483648 : Int64) % ((((p0 &&& (2147483647 : Int32)) % (256 : Int32)) + (1 : Int32)).toInt64))) &&& (255 : Int64)).toInt32))] [(.int ((((-2147483648 : Int32) % (((p0 &&& (2147483647 : Int32)) % (256 : Int32)) + (1 : Int32))).toInt8.toInt32) &&& (255 : Int32)))])) _
    refine XS.iload X20.here hx rfl (hb hby at_118) rfl ?_
    show Steps p.tables e below (T20.setTop (mkF m 120 #[.val (.int p0), .val (.int p1), .val (.int (((p0 &&& (2147483647 : Int32)) % (256 : Int32)) + (1 : Int32))), .val (.ref b1), .val (.ref b5), .val (.ref b20_0), .val (.long ((2147483648 : Int64) % ((((p0 &&& (2147483647 : Int32)) % (256 : Int32)) + (1 : Int32)).toInt64))), .second, .val (.int (((-((2147483648 : Int64) % ((((p0 &&& (2147483647 : Int32)) % (256 : Int32)) + (1 : Int32)).toInt64))) &&& (255 : Int64)).toInt32))] [(.int (((-((2147483648 : Int64) % ((((p0 &&& (2147483647 : Int32)) % (256 : Int32)) + (1 : Int32)).toInt64))) &&& (255 : Int64)).toInt32)), (.int ((((-2147483648 : Int32) % (((p0 &&& (2147483647 : Int32)) % (256 : Int32)) + (1 : Int32))).toInt8.toInt32) &&& (255 : Int32)))])) _
    refine XS.icmpNo X20.here hx rfl (hb hby at_120) rfl (teq hc13).2 ?_
    show Steps p.tables e below (T20.setTop (mkF m 123 #[.val (.int p0), .val (.int p1), .val (.int (((p0 &&& (2147483647 : Int32)) % (256 : Int32)) + (1 : Int32))), .val (.ref b1), .val (.ref b5), .val (.ref b20_0), .val (.long ((2147483648 : Int64) % ((((p0 &&& (2147483647 : Int32)) % (256 : Int32)) + (1 : Int32)).toInt64))), .second, .val (.int (((-((2147483648 : Int64) % ((((p0 &&& (2147483647 : Int32)) % (256 : Int32)) + (1 : Int32)).toInt64))) &&& (255 : Int64)).toInt32))] [])) _
    refine XS.aload X20.here hx rfl (hb hby at_123) rfl rfl ?_
    show Steps p.tables e below (T20.setTop (mkF m 125 #[.val (.int p0), .val (.int p1), .val (.int (((p0 &&& (2147483647 : Int32)) % (256 : Int32)) + (1 : Int32))), .val (.ref b1), .val (.ref b5), .val (.ref b20_0), .val (.long ((2147483648 : Int64) % ((((p0 &&& (2147483647 : Int32)) % (256 : Int32)) + (1 : Int32)).toInt64))), .second, .val (.int (((-((2147483648 : Int64) % ((((p0 &&& (2147483647 : Int32)) % (256 : Int32)) + (1 : Int32)).toInt64))) &&& (255 : Int64)).toInt32))] [(.ref b20_0)])) _
    refine XS.iconst X20.here hx rfl (hb hby at_125) ?_
    show Steps p.tables e below (T20.setTop (mkF m 126 #[.val (.int p0), .val (.int p1), .val (.int (((p0 &&& (2147483647 : Int32)) % (256 : Int32)) + (1 : Int32))), .val (.ref b1), .val (.ref b5), .val (.ref b20_0), .val (.long ((2147483648 : Int64) % ((((p0 &&& (2147483647 : Int32)) % (256 : Int32)) + (1 : Int32)).toInt64))), .second, .val (.int (((-((2147483648 : Int64) % ((((p0 &&& (2147483647 : Int32)) % (256 : Int32)) + (1 : Int32)).toInt64))) &&& (255 : Int64)).toInt32))] [(.int (5 : Int32)), (.ref b20_0)])) _
    refine X20.iaload hx (j := (5 : Int32)) (v := (.int (0 : Int32))) Ar21.1 (State.isArrayOf_alike hZ10.alike Ar21.2.1) Ar21.2.2 hin32 hat33 (g := (mkF m 126 #[.val (.int p0), .val (.int p1), .val (.int (((p0 &&& (2147483647 : Int32)) % (256 : Int32)) + (1 : Int32))), .val (.ref b1), .val (.ref b5), .val (.ref b20_0), .val (.long ((2147483648 : Int64) % ((((p0 &&& (2147483647 : Int32)) % (256 : Int32)) + (1 : Int32)).toInt64))), .second, .val (.int (((-((2147483648 : Int64) % ((((p0 &&& (2147483647 : Int32)) % (256 : Int32)) + (1 : Int32)).toInt64))) &&& (255 : Int64)).toInt32))] [(.int (5 : Int32)), (.ref b20_0)])) rfl rfl (hb hby at_126) _ ?_
    show Steps p.tables e below (T20.setTop (mkF m 127 #[.val (.int p0), .val (.int p1), .val (.int (((p0 &&& (2147483647 : Int32)) % (256 : Int32)) + (1 : Int32))), .val (.ref b1), .val (.ref b5), .val (.ref b20_0), .val (.long ((2147483648 : Int64) % ((((p0 &&& (2147483647 : Int32)) % (256 : Int32)) + (1 : Int32)).toInt64))), .second, .val (.int (((-((2147483648 : Int64) % ((((p0 &&& (2147483647 : Int32)) % (256 : Int32)) + (1 : Int32)).toInt64))) &&& (255 : Int64)).toInt32))] [(.int (0 : Int32))])) _
    refine XS.ifNo X20.here hx rfl (hb hby at_127) rfl ((if0 _ _).trans (teq (by decide : (0 : Int32) = (0 : Int32))).2) ?_
    show Steps p.tables e below (T20.setTop (mkF m 130 #[.val (.int p0), .val (.int p1), .val (.int (((p0 &&& (2147483647 : Int32)) % (256 : Int32)) + (1 : Int32))), .val (.ref b1), .val (.ref b5), .val (.ref b20_0), .val (.long ((2147483648 : Int64) % ((((p0 &&& (2147483647 : Int32)) % (256 : Int32)) + (1 : Int32)).toInt64))), .second, .val (.int (((-((2147483648 : Int64) % ((((p0 &&& (2147483647 : Int32)) % (256 : Int32)) + (1 : Int32)).toInt64))) &&& (255 : Int64)).toInt32))] [])) _
    refine XS.iconst X20.here hx rfl (hb hby at_130) ?_
    show Steps p.tables e below (T20.setTop (mkF m 131 #[.val (.int p0), .val (.int p1), .val (.int (((p0 &&& (2147483647 : Int32)) % (256 : Int32)) + (1 : Int32))), .val (.ref b1), .val (.ref b5), .val (.ref b20_0), .val (.long ((2147483648 : Int64) % ((((p0 &&& (2147483647 : Int32)) % (256 : Int32)) + (1 : Int32)).toInt64))), .second, .val (.int (((-((2147483648 : Int64) % ((((p0 &&& (2147483647 : Int32)) % (256 : Int32)) + (1 : Int32)).toInt64))) &&& (255 : Int64)).toInt32))] [(.int (1 : Int32))])) _
    refine XS.goto X20.here hx rfl (pc0 := 131) (pc' := 135) rfl (hb hby at_131) (by decide) (by decide) ?_
    show Steps p.tables e below (T20.setTop (mkF m 135 #[.val (.int p0), .val (.int p1), .val (.int (((p0 &&& (2147483647 : Int32)) % (256 : Int32)) + (1 : Int32))), .val (.ref b1), .val (.ref b5), .val (.ref b20_0), .val (.long ((2147483648 : Int64) % ((((p0 &&& (2147483647 : Int32)) % (256 : Int32)) + (1 : Int32)).toInt64))), .second, .val (.int (((-((2147483648 : Int64) % ((((p0 &&& (2147483647 : Int32)) % (256 : Int32)) + (1 : Int32)).toInt64))) &&& (255 : Int64)).toInt32))] [(.int (1 : Int32))])) _
    exact retN X20 hx (t := .boolean) Bd.returns (by simp) (hb hby at_135) hr
  · show Q0pBs Z p0 p1 aU s_COMPACT_STRINGS h0 n0 _ T20.heap _
    exact ⟨rfl, N20⟩
theorem ef_rm0pBt (m : MethodId) (p0 : Int32) (p1 : Int32) : entryFrame m #[(.int p0), (.int p1)] maxLocals = mkF m 0 #[.val (.int p0), .val (.int p1), .unset, .unset, .unset, .unset, .unset, .unset, .unset] [] := by first | (simp [entryFrame, mkF, argsToLocals, Value.category, maxLocals]; done) | rfl
def Q0pBt (Z : State) (p0 : Int32) (p1 : Int32) (aU : Addr) (s_COMPACT_STRINGS : Int32) (h0 : Heap) (n0 : Nat) (v : Option Value) (h : Heap) (L : List Loc) : Prop := v = some (.int (1 : Int32)) ∧ Fr n0 L
set_option maxRecDepth 65536 in
set_option maxHeartbeats 40000000 in
theorem rm0pBt (l : Launch) (Z : State) (az : Array Value) (hw : ∀ d ∈ tables_1, d.before az Z = true) (ws : List Jvm.Cond) (p0 : Int32) (p1 : Int32) (aU : Addr) (s_COMPACT_STRINGS : Int32) (h0 : Heap) (n0 : Nat) (Z0 : n0 ≤ h0.size) (S_INSTANCE : Sta Z h0 "sun/nio/cs/UTF_8" "INSTANCE" "Lsun/nio/cs/UTF_8;" (.ref aU)) (S_UTF_8 : Sta Z h0 "java/nio/charset/StandardCharsets" "UTF_8" "Ljava/nio/charset/Charset;" (.ref aU)) (S_COMPACT_STRINGS : Sta Z h0 "java/lang/String" "COMPACT_STRINGS" "Z" (.int s_COMPACT_STRINGS)) (hc3 : ¬ (s_COMPACT_STRINGS = (0 : Int32))) (hc4 : ¬ ((255 : Int32) < ((p1 &&& (255 : Int32)).toUInt32.toUInt16.toUInt32.toInt32))) (hc5 : ¬ ((((p1 &&& (255 : Int32)).toUInt32.toUInt16.toUInt32.toInt32).toInt8.toInt32) < (0 : Int32))) (hc6 : ¬ ((((p0 &&& (2147483647 : Int32)) % (256 : Int32)) + (1 : Int32)) < (1 : Int32))) (hc7 : ¬ ((256 : Int32) < (((p0 &&& (2147483647 : Int32)) % (256 : Int32)) + (1 : Int32)))) (hc8 : ¬ ((own_bc (((p0 &&& (2147483647 : Int32)) % (256 : Int32)) + (1 : Int32))) = (1 : Int32))) (hc9 : (((p0 &&& (2147483647 : Int32)) % (256 : Int32)) + (1 : Int32)) ≠ (0 : Int32)) (hc10 : ((((-2147483648 : Int32) % (((p0 &&& (2147483647 : Int32)) % (256 : Int32)) + (1 : Int32))).toInt8.toInt32) &&& (255 : Int32)) < (((p0 &&& (2147483647 : Int32)) % (256 : Int32)) + (1 : Int32))) (hc11 : ((((p0 &&& (2147483647 : Int32)) % (256 : Int32)) + (1 : Int32)).toInt64) ≠ (0 : Int64)) (hc12 : (((-((2147483648 : Int64) % ((((p0 &&& (2147483647 : Int32)) % (256 : Int32)) + (1 : Int32)).toInt64))) &&& (255 : Int64)).toInt32) < (((p0 &&& (2147483647 : Int32)) % (256 : Int32)) + (1 : Int32))) :
    MetFree l x (head1 (Jvm.Cond.code x code maxLocals ret :: ws) room_1) (fun a U => a = #[(.int p0), (.int p1)] ∧ Z.Warmed39 U.vm ∧ U.heap = h0) (fun _ _ _ _ _ => True) (fun _ U o U' => ∃ v L, o = .returned v ∧ Q0pBt Z p0 p1 aU s_COMPACT_STRINGS h0 n0 v U'.heap L ∧ ReturnedEndW U o U' L room_1.cells room_1.slots) := by
  refine MetFree.of_bodySF (plainFor_of_name pn_com_example_fireweed_fireweed_layout_Java31ByteSaltBytesPinLaw) hisR ?_
  intro p e s m args below meth c s₁ Bd hml0 hP hK
  obtain ⟨rfl, hZ, hh⟩ := hP
  have hx := Bd.exec
  have hby := Bd.bytes
  have hml : c.maxLocals = 9 := hml0
  have hown : s.vm.findClass "com/example/fireweed/fireweed/layout/Java31ByteSaltBytesPinLaw" = some m.cls := findClass_of_methodNamed Bd.named
  have hnm := (name_of_methodNamed Bd.named Bd.method).1
  have X0 : Stand p l e room_1 s m #[(.int p0), (.int p1)] below meth c s₁ [] 0 0 := Stand.of_body Bd
  have e0 : s₁.heap = h0 := by rw [← hh, Bd.state]; rfl
  have N0 := Fr.nil n0
  have pre0 : ∀ t, Steps p.tables e below (s₁.setTop (mkF m 0 #[.val (.int p0), .val (.int p1), .unset, .unset, .unset, .unset, .unset, .unset, .unset] [])) t → Steps p.tables e below (s₁.setTop (entryFrame m #[(.int p0), (.int p1)] maxLocals)) t := fun t k => castTop (ef_rm0pBt m p0 p1) k
  have hS0 : s.Since s.vm 0 := (State.WarmedH.refl s).since 0
  have wS : ∀ a ∈ Bundle.stringAtoms, a.before az Z = true := fun d hd => by
    simp only [Bundle.stringAtoms, List.mem_cons, List.not_mem_nil, or_false] at hd
    rcases hd with rfl | rfl | rfl | rfl | rfl | rfl | rfl
    · exact (hw _ (List.mem_of_getElem? (i := 7) rfl))
    · exact (hw _ (List.mem_of_getElem? (i := 6) rfl))
    · exact (hw _ (List.mem_of_getElem? (i := 23) rfl))
    · exact (hw _ (List.mem_of_getElem? (i := 33) rfl))
    · exact (hw _ (List.mem_of_getElem? (i := 31) rfl))
    · exact (hw _ (List.mem_of_getElem? (i := 49) rfl))
    · exact (hw _ (List.mem_of_getElem? (i := 50) rfl))
  obtain ⟨T1, h1, k1, X1, e1, E1, A1, x1, st1⟩ := newPE X0 hx hZ (hw _ (List.mem_of_getElem? (i := 1) rfl)) e0 (g := (mkF m 12 #[.val (.int p0), .val (.int p1), .val (.int (((p0 &&& (2147483647 : Int32)) % (256 : Int32)) + (1 : Int32))), .unset, .unset, .unset, .unset, .unset, .unset] [(.int (1 : Int32))])) rfl (hb hby at_12) rfl (by decide) (cap := 1) (by decide) (by decide) (by decide) (by decide) (ad := "[C") (by decide)
  obtain ⟨b1, g1⟩ : ∃ z, z = h0.size := ⟨_, rfl⟩
  rw [← g1] at A1 x1 st1
  have g_b1 : n0 ≤ b1 := Nat.le_trans Z0 (Nat.le_of_eq g1.symm)
  have sz_b1 : h0.size ≤ b1 := Nat.le_trans (Nat.le_refl _) (Nat.le_of_eq g1.symm)
  have Z1 : n0 ≤ h1.size := Nat.le_trans Z0 E1.1
  have K1 : Keep h0 h1 [] := (Keep.refl h0 []).ext E1
  have E_b1 := x1
  have V_b1 : Arv Z h1 b1 k1 .char (1 : Int32) [(.int (0 : Int32))] (.int (0 : Int32)) := (Arv.new A1 (by decide)).pad (pad_rep [] (.int (0 : Int32)) 1)
  obtain ⟨cl2, Ar2, qk2, Sz2, Ng2, Hs2, Gf2⟩ := id V_b1
  have hin3 : ¬ ((0 : Int32) < 0 ∨ cl2.slots.size ≤ ((0 : Int32)).toNatClampNeg) := inb_of Sz2 ⟨by decide, by decide⟩
  obtain ⟨T4, h4, X4, e4, W4, st4⟩ := stC X1 hx hZ e1 Ar2 (j := (0 : Int32)) hin3 (g := (mkF m 22 #[.val (.int p0), .val (.int p1), .val (.int (((p0 &&& (2147483647 : Int32)) % (256 : Int32)) + (1 : Int32))), .unset, .unset, .unset, .unset, .unset, .unset] [(.int ((p1 &&& (255 : Int32)).toUInt32.toUInt16.toUInt32.toInt32)), (.int (0 : Int32)), (.ref b1), (.ref b1)])) rfl rfl (hb hby at_22)
  rw [(own_nc _)] at W4
  have K4 : Keep h0 h4 [] := K1.wr W4 (Or.inr sz_b1)
  have V_b1_4 : Arv Z h4 b1 k1 .char (1 : Int32) [(.int ((p1 &&& (255 : Int32)).toUInt32.toUInt16.toUInt32.toInt32))] (.int (0 : Int32)) := Arv.set (v := (.int ((p1 &&& (255 : Int32)).toUInt32.toUInt16.toUInt32.toInt32))) Ar2 qk2 Sz2 Ng2 Hs2 Gf2 (own_fits (own_nc _) (fits_nar_char _)) W4 0 rfl (Nat.le_of_ble_eq_true rfl)
  have Z4 : n0 ≤ h4.size := Nat.le_trans Z1 (Keep.of_wr W4).1
  have N4 := Fr.snoc X4 N0 g_b1
  obtain ⟨T5, h5, X5, e5, E5, A5, D5, -, st5⟩ := newO X4 hx hZ hown (hw _ (List.mem_of_getElem? (i := 2) rfl)) (hw _ (List.mem_of_getElem? (i := 3) rfl)) (hw _ (List.mem_of_getElem? (i := 4) rfl)) e4 (g := (mkF m 24 #[.val (.int p0), .val (.int p1), .val (.int (((p0 &&& (2147483647 : Int32)) % (256 : Int32)) + (1 : Int32))), .val (.ref b1), .unset, .unset, .unset, .unset, .unset] [])) rfl (hb hby at_24) (by decide) (by decide)
  obtain ⟨b5, g5⟩ : ∃ z, z = h4.size := ⟨_, rfl⟩
  rw [← g5] at A5 D5 st5
  have g_b5 : n0 ≤ b5 := Nat.le_trans Z4 (Nat.le_of_eq g5.symm)
  have sz_b5 : h0.size ≤ b5 := Nat.le_trans K4.1 (Nat.le_of_eq g5.symm)
  have Z5 : n0 ≤ h5.size := Nat.le_trans Z4 E5.1
  have K5 : Keep h0 h5 [] := K4.ext E5
  have E_b5 := A5
  have F_suffix_b5 : Fld Z h5 b5 "com/example/fireweed/fireweed/layout/Salt" "suffix" "Ljava/lang/String;" .null := D5 (Or.inr (hw _ (List.mem_of_getElem? (i := 57) rfl))) (ty := (.object "java/lang/String")) (by decide)
  have F_suffixBytes_b5 : Fld Z h5 b5 "com/example/fireweed/fireweed/layout/Salt" "suffixBytes" "[B" .null := D5 (Or.inr (hw _ (List.mem_of_getElem? (i := 95) rfl))) (ty := (.array .byte)) (by decide)
  have F_buckets_b5 : Fld Z h5 b5 "com/example/fireweed/fireweed/layout/Java31ByteSalt" "buckets" "I" (.int (0 : Int32)) := D5 (Or.inr (hw _ (List.mem_of_getElem? (i := 97) rfl))) (ty := .int) (by decide)
  have F_mask_b5 : Fld Z h5 b5 "com/example/fireweed/fireweed/layout/Java31ByteSalt" "mask" "I" (.int (0 : Int32)) := D5 (Or.inr (hw _ (List.mem_of_getElem? (i := 106) rfl))) (ty := .int) (by decide)
  have F_overflow_b5 : Fld Z h5 b5 "com/example/fireweed/fireweed/layout/Java31ByteSalt" "overflow" "I" (.int (0 : Int32)) := D5 (Or.inr (hw _ (List.mem_of_getElem? (i := 121) rfl))) (ty := .int) (by decide)
  obtain ⟨T6, h6, X6, e6, E6, A6, D6, -, st6⟩ := newO X5 hx hZ hown (hw _ (List.mem_of_getElem? (i := 5) rfl)) (hw _ (List.mem_of_getElem? (i := 6) rfl)) (hw _ (List.mem_of_getElem? (i := 7) rfl)) e5 (g := (mkF m 29 #[.val (.int p0), .val (.int p1), .val (.int (((p0 &&& (2147483647 : Int32)) % (256 : Int32)) + (1 : Int32))), .val (.ref b1), .unset, .unset, .unset, .unset, .unset] [(.int (((p0 &&& (2147483647 : Int32)) % (256 : Int32)) + (1 : Int32))), (.ref b5), (.ref b5)])) rfl (hb hby at_29) (by decide) (by decide)
  obtain ⟨b6, g6⟩ : ∃ z, z = h5.size := ⟨_, rfl⟩
  rw [← g6] at A6 D6 st6
  have g_b6 : n0 ≤ b6 := Nat.le_trans Z5 (Nat.le_of_eq g6.symm)
  have sz_b6 : h0.size ≤ b6 := Nat.le_trans K5.1 (Nat.le_of_eq g6.symm)
  have Z6 : n0 ≤ h6.size := Nat.le_trans Z5 E6.1
  have K6 : Keep h0 h6 [] := K5.ext E6
  have E_b6 := A6
  have F_coder_b6 : Fld Z h6 b6 "java/lang/String" "coder" "B" (.int (0 : Int32)) := D6 (Or.inr (hw _ (List.mem_of_getElem? (i := 31) rfl))) (ty := .byte) (by decide)
  have F_value_b6 : Fld Z h6 b6 "java/lang/String" "value" "[B" .null := D6 (Or.inr (hw _ (List.mem_of_getElem? (i := 33) rfl))) (ty := (.array .byte)) (by decide)
  have V_b1_u8 : Arv Z h6 b1 k1 .char (1 : Int32) [(.int ((p1 &&& (255 : Int32)).toUInt32.toUInt16.toUInt32.toInt32))] (.int (0 : Int32)) := ((V_b1_4.ext E5).ext E6)
  have S_String_COMPACT_STRINGS_u9 : Sta Z h6 "java/lang/String" "COMPACT_STRINGS" "Z" (.int s_COMPACT_STRINGS) := ((((S_COMPACT_STRINGS.ext E1).wr W4).ext E5).ext E6)
  obtain ⟨_, _, ⟨T7, L7, k7', n7'⟩, -, X7, ⟨Lc7, hQ7, l7, y7, z7⟩, st7⟩ := X6.specialBack hx (y := (⟨"java/lang/String", "<init>", "([C)V"⟩ : MethodName)) rfl hown (mvT hZ (hw _ (List.mem_of_getElem? (i := 8) rfl))) (mvT hZ (hw _ (List.mem_of_getElem? (i := 9) rfl))) (mvT hZ (hw _ (List.mem_of_getElem? (i := 10) rfl))) (by decide) (backOf (W := 4) (rm1_1 l Z az hw [] b6 b1 k1 ((p1 &&& (255 : Int32)).toUInt32.toUInt16.toUInt32.toInt32) s_COMPACT_STRINGS h6 n0 Z6 E_b6 F_coder_b6 F_value_b6 V_b1_u8 S_String_COMPACT_STRINGS_u9 hc3 hc4 g_b6) hZ (hw _ (List.mem_of_getElem? (i := 10) rfl)) (hw _ (List.mem_of_getElem? (i := 7) rfl)) (by decide) (by decide)) (g := (mkF m 34 #[.val (.int p0), .val (.int p1), .val (.int (((p0 &&& (2147483647 : Int32)) % (256 : Int32)) + (1 : Int32))), .val (.ref b1), .unset, .unset, .unset, .unset, .unset] [(.ref b1), (.ref b6), (.ref b6), (.int (((p0 &&& (2147483647 : Int32)) % (256 : Int32)) + (1 : Int32))), (.ref b5), (.ref b5)])) rfl (by rw [hml]; rfl) (Steps.refl _) (a := b6) (argsL := [(.ref b1)]) (rest := [(.ref b6), (.int (((p0 &&& (2147483647 : Int32)) % (256 : Int32)) + (1 : Int32))), (.ref b5), (.ref b5)]) (lenOf pd_16 rfl) rfl (by show 2 * 0 + _ ≤ _; exact Nat.le_of_eq rfl) (hb hby at_34) (fun _ _ => ⟨rfl, e6, (by decide : 3 + 1 ≤ _), (by decide : 10 + 1 ≤ _)⟩)
  dsimp only [Pt.U, Pt.locs, Pt.cells, Pt.slots] at X7 l7 y7 z7 st7 hQ7
  subst l7 y7 z7
  obtain ⟨b7_0, kk7_0, rfl, N7q, s7_0, kq7, pf7_0, pf7_1, pf7_2, pf7_3, pf7_4⟩ := hQ7
  have N7 := Fr.app N4 N7q
  have g_b7_0 : n0 ≤ b7_0 := Nat.le_trans Z6 s7_0
  have sz_b7_0 : h0.size ≤ b7_0 := Nat.le_trans K6.1 s7_0
  have K7 : Keep h0 T7.heap [] := K6.trans kq7 (allS (Or.inr sz_b6) all0)
  have Z7 : n0 ≤ T7.heap.size := Nat.le_trans Z6 kq7.1
  have E_b5_u11 : Exa Z T7.heap b5 "com/example/fireweed/fireweed/layout/Java31ByteSalt" := ((E_b5.ext E6).keep kq7)
  have ne_b5_b6 : b5 ≠ b6 := own_ne (Nat.lt_of_lt_of_le E_b5.lt (Nat.le_of_eq g6.symm))
  have F_b5_suffix_u12 : Fld Z T7.heap b5 "com/example/fireweed/fireweed/layout/Salt" "suffix" "Ljava/lang/String;" .null := ((F_suffix_b5.ext E6).keep kq7 (ninS ne_b5_b6 nin0))
  have F_b5_suffixBytes_u13 : Fld Z T7.heap b5 "com/example/fireweed/fireweed/layout/Salt" "suffixBytes" "[B" .null := ((F_suffixBytes_b5.ext E6).keep kq7 (ninS ne_b5_b6 nin0))
  have F_b5_buckets_u14 : Fld Z T7.heap b5 "com/example/fireweed/fireweed/layout/Java31ByteSalt" "buckets" "I" (.int (0 : Int32)) := ((F_buckets_b5.ext E6).keep kq7 (ninS ne_b5_b6 nin0))
  have F_b5_mask_u15 : Fld Z T7.heap b5 "com/example/fireweed/fireweed/layout/Java31ByteSalt" "mask" "I" (.int (0 : Int32)) := ((F_mask_b5.ext E6).keep kq7 (ninS ne_b5_b6 nin0))
  have F_b5_overflow_u16 : Fld Z T7.heap b5 "com/example/fireweed/fireweed/layout/Java31ByteSalt" "overflow" "I" (.int (0 : Int32)) := ((F_overflow_b5.ext E6).keep kq7 (ninS ne_b5_b6 nin0))
  have S_UTF_8_INSTANCE_u17 : Sta Z T7.heap "sun/nio/cs/UTF_8" "INSTANCE" "Lsun/nio/cs/UTF_8;" (.ref aU) := (own_Sta ((((S_INSTANCE.ext E1).wr W4).ext E5).ext E6) kq7 (allS (P := fun x => ∀ cell : Cell, _ → cell.vm.isStatics = false) E_b6.nostat (fun _ m => nomatch m)))
  have S_StandardCharsets_UTF_8_u18 : Sta Z T7.heap "java/nio/charset/StandardCharsets" "UTF_8" "Ljava/nio/charset/Charset;" (.ref aU) := (own_Sta ((((S_UTF_8.ext E1).wr W4).ext E5).ext E6) kq7 (allS (P := fun x => ∀ cell : Cell, _ → cell.vm.isStatics = false) E_b6.nostat (fun _ m => nomatch m)))
  have S_String_COMPACT_STRINGS_u19 : Sta Z T7.heap "java/lang/String" "COMPACT_STRINGS" "Z" (.int s_COMPACT_STRINGS) := (own_Sta S_String_COMPACT_STRINGS_u9 kq7 (allS (P := fun x => ∀ cell : Cell, _ → cell.vm.isStatics = false) E_b6.nostat (fun _ m => nomatch m)))
  have ne_b5_b7_0 : b5 ≠ b7_0 := own_ne (Nat.lt_of_lt_of_le (E_b5.ext E6).lt s7_0)
  obtain ⟨_, _, ⟨T10, L10, k10', n10'⟩, -, Y10, yS10, yg10, ⟨Lc10, hQ10, l10, y10, z10⟩, st10⟩ := X7.specialBackS hx (y := (⟨"com/example/fireweed/fireweed/layout/Java31ByteSalt", "<init>", "(ILjava/lang/String;)V"⟩ : MethodName)) rfl hown (mvT hZ (hw _ (List.mem_of_getElem? (i := 34) rfl))) (mvT hZ (hw _ (List.mem_of_getElem? (i := 35) rfl))) (mvT hZ (hw _ (List.mem_of_getElem? (i := 36) rfl))) (by decide) (backOfS (W := 1) (rm7pB l Z az hw [] b5 (((p0 &&& (2147483647 : Int32)) % (256 : Int32)) + (1 : Int32)) b6 b7_0 kk7_0 (((p1 &&& (255 : Int32)).toUInt32.toUInt16.toUInt32.toInt32).toInt8.toInt32) aU s_COMPACT_STRINGS T7.heap n0 Z7 E_b5_u11 F_b5_suffix_u12 F_b5_suffixBytes_u13 F_b5_buckets_u14 F_b5_mask_u15 F_b5_overflow_u16 pf7_0 pf7_1 pf7_2 pf7_4 pf7_3 S_UTF_8_INSTANCE_u17 S_StandardCharsets_UTF_8_u18 hc5 S_String_COMPACT_STRINGS_u19 g_b5 (Ne.symm ne_b5_b6) (Ne.symm ne_b5_b7_0) hc3 hc6 hc7 hc8 hc9) hZ (hw _ (List.mem_of_getElem? (i := 36) rfl)) (hw _ (List.mem_of_getElem? (i := 4) rfl)) (by decide) (by decide)) (g := (mkF m 37 #[.val (.int p0), .val (.int p1), .val (.int (((p0 &&& (2147483647 : Int32)) % (256 : Int32)) + (1 : Int32))), .val (.ref b1), .unset, .unset, .unset, .unset, .unset] [(.ref b6), (.int (((p0 &&& (2147483647 : Int32)) % (256 : Int32)) + (1 : Int32))), (.ref b5), (.ref b5)])) rfl (by rw [hml]; rfl) (Steps.refl _) (a := b5) (argsL := [(.int (((p0 &&& (2147483647 : Int32)) % (256 : Int32)) + (1 : Int32))), (.ref b6)]) (rest := [(.ref b5)]) (lenOf pd_17 rfl) rfl (by show 2 * 0 + _ ≤ _; exact Nat.le_of_eq rfl) (hb hby at_37) (fun _ _ => ⟨rfl, rfl, (by decide : 4 + 3 ≤ _), (by decide : 11 + 29 ≤ _)⟩)
  dsimp only [Pt.U, Pt.locs, Pt.cells, Pt.slots] at Y10 yS10 yg10 l10 y10 z10 st10 hQ10
  subst l10 y10 z10
  obtain ⟨X10, hS10, hZ10, hown10⟩ := rebS (s := s) (vm0 := s.vm) hS0 (Nat.le_trans (Nat.le_trans (Nat.le_trans (Nat.le_trans (Nat.le_trans (Nat.zero_le _) E1.1) (Keep.of_wr W4).1) E5.1) E6.1) kq7.1) Y10 yS10 yg10 hZ hown
  obtain ⟨b10_0, rfl, N10q, s10_0, kq10, pf10_0, pf10_1, pf10_2, pf10_3, pf10_4, pf10_5, pf10_6, pf10_7⟩ := hQ10
  have N10 := Fr.app N7 N10q
  have g_b10_0 : n0 ≤ b10_0 := Nat.le_trans Z7 s10_0
  have sz_b10_0 : h0.size ≤ b10_0 := Nat.le_trans K7.1 s10_0
  have K10 : Keep h0 T10.heap [] := K7.trans kq10 (allS (Or.inr sz_b5) all0)
  have Z10 : n0 ≤ T10.heap.size := Nat.le_trans Z7 kq10.1
  obtain ⟨cq20, kq20, q20a, q20b, q20c⟩ := isOf hZ10 rfl pf10_0
  obtain ⟨_, _, ⟨T20, L20, k20', n20'⟩, -, X20, ⟨Lc20, hQ20, l20, y20, z20⟩, st20⟩ := X10.virtualBack hx (y := (⟨"com/example/fireweed/fireweed/layout/Java31ByteSalt", "bytes", "()[I"⟩ : MethodName)) (z := (⟨"com/example/fireweed/fireweed/layout/Java31ByteSalt", "bytes", "()[I"⟩ : MethodName)) hown10 (mvT hZ10 (hw _ (List.mem_of_getElem? (i := 122) rfl))) (mvT hZ10 (hw _ (List.mem_of_getElem? (i := 123) rfl))) (notFace_of_selects (args := #[]) (mvT hZ10 (hw _ (List.mem_of_getElem? (i := 125) rfl)))) (mvT hZ10 (hw _ (List.mem_of_getElem? (i := 125) rfl))) (mvT hZ10 (hw _ (List.mem_of_getElem? (i := 124) rfl))) (by decide) (backOf (W := 0) (rm21t l Z az hw [] b5 ((((-2147483648 : Int32) % (((p0 &&& (2147483647 : Int32)) % (256 : Int32)) + (1 : Int32))).toInt8.toInt32) &&& (255 : Int32)) (((p0 &&& (2147483647 : Int32)) % (256 : Int32)) + (1 : Int32)) T10.heap n0 Z10 pf10_5 pf10_3 hc10) hZ10 (hw _ (List.mem_of_getElem? (i := 126) rfl)) (hw _ (List.mem_of_getElem? (i := 4) rfl)) (by decide) (by decide)) q20a q20c (g := (mkF m 44 #[.val (.int p0), .val (.int p1), .val (.int (((p0 &&& (2147483647 : Int32)) % (256 : Int32)) + (1 : Int32))), .val (.ref b1), .val (.ref b5), .unset, .unset, .unset, .unset] [(.ref b5)])) rfl (by rw [hml]; rfl) (Steps.refl _) (argsL := []) (rest := []) (lenOf pd_18 rfl) rfl (by show 2 * 0 + _ ≤ _; exact Nat.le_of_eq rfl) (hb hby at_44) (fun _ _ => ⟨rfl, rfl, (by decide : 7 + 1 ≤ _), (by decide : 40 + 3 ≤ _)⟩)
  dsimp only [Pt.U, Pt.locs, Pt.cells, Pt.slots] at X20 l20 y20 z20 st20 hQ20
  subst l20 y20 z20
  obtain ⟨b20_0, kk20_0, rfl, N20q, s20_0, kq20, pf20_0, pf20_1⟩ := hQ20
  have N20 := Fr.app N10 N20q
  have g_b20_0 : n0 ≤ b20_0 := Nat.le_trans Z10 s20_0
  have sz_b20_0 : h0.size ≤ b20_0 := Nat.le_trans K10.1 s20_0
  have K20 : Keep h0 T20.heap [] := K10.trans kq20 all0
  have Z20 : n0 ≤ T20.heap.size := Nat.le_trans Z10 kq20.1
  obtain ⟨cl21, Ar21, qk21, Sz21, Ng21, Hs21, Gf21⟩ := id pf20_1
  have hin22 : ¬ ((0 : Int32) < 0 ∨ cl21.slots.size ≤ ((0 : Int32)).toNatClampNeg) := inb_of Sz21 ⟨by decide, by decide⟩
  have hat23 : cl21.slots[((0 : Int32)).toNatClampNeg]? = some (.int (0 : Int32)) := Hs21.at hin22 rfl
  have hin24 : ¬ ((1 : Int32) < 0 ∨ cl21.slots.size ≤ ((1 : Int32)).toNatClampNeg) := inb_of Sz21 ⟨by decide, by decide⟩
  have hat25 : cl21.slots[((1 : Int32)).toNatClampNeg]? = some (.int ((((p0 &&& (2147483647 : Int32)) % (256 : Int32)) + (1 : Int32)) - (1 : Int32))) := Hs21.at hin24 rfl
  have hin26 : ¬ ((2 : Int32) < 0 ∨ cl21.slots.size ≤ ((2 : Int32)).toNatClampNeg) := inb_of Sz21 ⟨by decide, by decide⟩
  have hat27 : cl21.slots[((2 : Int32)).toNatClampNeg]? = some (.int (0 : Int32)) := Hs21.at hin26 rfl
  obtain ⟨fs, hr, hrun, hended, hWE⟩ := X20.leaveW (s := s) hS10 (Nat.le_trans (Nat.le_refl _) kq20.1) (v := some (.int (1 : Int32))) (fun h => by rw [Bd.returns] at h; cases h)
  refine ⟨_, _, pre0 _ ?_, hrun, hended, _, _, rfl, ?_, hWE.1, hWE.2.1, hWE.2.2.1, hWE.2.2.2.mono (by decide) (by decide)⟩
  · show Steps p.tables e below (s₁.setTop (mkF m 0 #[.val (.int p0), .val (.int p1), .unset, .unset, .unset, .unset, .unset, .unset, .unset] [])) _
    refine XS.iloadN X0.here hx rfl (hb hby at_0) rfl ?_
    show Steps p.tables e below (s₁.setTop (mkF m 1 #[.val (.int p0), .val (.int p1), .unset, .unset, .unset, .unset, .unset, .unset, .unset] [(.int p0)])) _
    refine X0.ldcInt hx hown (mvT hZ (hw _ (List.mem_of_getElem? (i := 0) rfl))) (g := (mkF m 1 #[.val (.int p0), .val (.int p1), .unset, .unset, .unset, .unset, .unset, .unset, .unset] [(.int p0)])) rfl (hb hby at_1) _ ?_
    show Steps p.tables e below (s₁.setTop (mkF m 3 #[.val (.int p0), .val (.int p1), .unset, .unset, .unset, .unset, .unset, .unset, .unset] [(.int (2147483647 : Int32)), (.int p0)])) _
    refine XS.iand X0.here hx rfl (hb hby at_3) rfl ?_
    show Steps p.tables e below (s₁.setTop (mkF m 4 #[.val (.int p0), .val (.int p1), .unset, .unset, .unset, .unset, .unset, .unset, .unset] [(.int (p0 &&& (2147483647 : Int32)))])) _
    refine XS.sipush X0.here hx rfl (hb hby at_4) ?_
    show Steps p.tables e below (s₁.setTop (mkF m 7 #[.val (.int p0), .val (.int p1), .unset, .unset, .unset, .unset, .unset, .unset, .unset] [(.int (256 : Int32)), (.int (p0 &&& (2147483647 : Int32)))])) _
    refine iremM X0 hx rfl (hb hby at_7) rfl (by decide) ?_
    show Steps p.tables e below (s₁.setTop (mkF m 8 #[.val (.int p0), .val (.int p1), .unset, .unset, .unset, .unset, .unset, .unset, .unset] [(.int ((p0 &&& (2147483647 : Int32)) % (256 : Int32)))])) _
    refine XS.iconst X0.here hx rfl (hb hby at_8) ?_
    show Steps p.tables e below (s₁.setTop (mkF m 9 #[.val (.int p0), .val (.int p1), .unset, .unset, .unset, .unset, .unset, .unset, .unset] [(.int (1 : Int32)), (.int ((p0 &&& (2147483647 : Int32)) % (256 : Int32)))])) _
    refine XS.iadd X0.here hx rfl (hb hby at_9) rfl ?_
    show Steps p.tables e below (s₁.setTop (mkF m 10 #[.val (.int p0), .val (.int p1), .unset, .unset, .unset, .unset, .unset, .unset, .unset] [(.int (((p0 &&& (2147483647 : Int32)) % (256 : Int32)) + (1 : Int32)))])) _
    refine XS.istoreN X0.here hx rfl (hb hby at_10) rfl (l' := #[.val (.int p0), .val (.int p1), .val (.int (((p0 &&& (2147483647 : Int32)) % (256 : Int32)) + (1 : Int32))), .unset, .unset, .unset, .unset, .unset, .unset]) rfl ?_
    show Steps p.tables e below (s₁.setTop (mkF m 11 #[.val (.int p0), .val (.int p1), .val (.int (((p0 &&& (2147483647 : Int32)) % (256 : Int32)) + (1 : Int32))), .unset, .unset, .unset, .unset, .unset, .unset] [])) _
    refine XS.iconst X0.here hx rfl (hb hby at_11) ?_
    show Steps p.tables e below (s₁.setTop (mkF m 12 #[.val (.int p0), .val (.int p1), .val (.int (((p0 &&& (2147483647 : Int32)) % (256 : Int32)) + (1 : Int32))), .unset, .unset, .unset, .unset, .unset, .unset] [(.int (1 : Int32))])) _
    refine st1 _ ?_
    show Steps p.tables e below (T1.setTop (mkF m 14 #[.val (.int p0), .val (.int p1), .val (.int (((p0 &&& (2147483647 : Int32)) % (256 : Int32)) + (1 : Int32))), .unset, .unset, .unset, .unset, .unset, .unset] [(.ref b1)])) _
    refine XS.dup X1.here hx rfl (hb hby at_14) rfl rfl ?_
    show Steps p.tables e below (T1.setTop (mkF m 15 #[.val (.int p0), .val (.int p1), .val (.int (((p0 &&& (2147483647 : Int32)) % (256 : Int32)) + (1 : Int32))), .unset, .unset, .unset, .unset, .unset, .unset] [(.ref b1), (.ref b1)])) _
    refine XS.iconst X1.here hx rfl (hb hby at_15) ?_
    show Steps p.tables e below (T1.setTop (mkF m 16 #[.val (.int p0), .val (.int p1), .val (.int (((p0 &&& (2147483647 : Int32)) % (256 : Int32)) + (1 : Int32))), .unset, .unset, .unset, .unset, .unset, .unset] [(.int (0 : Int32)), (.ref b1), (.ref b1)])) _
    refine XS.iloadN X1.here hx rfl (hb hby at_16) rfl ?_
    show Steps p.tables e below (T1.setTop (mkF m 17 #[.val (.int p0), .val (.int p1), .val (.int (((p0 &&& (2147483647 : Int32)) % (256 : Int32)) + (1 : Int32))), .unset, .unset, .unset, .unset, .unset, .unset] [(.int p1), (.int (0 : Int32)), (.ref b1), (.ref b1)])) _
    refine XS.sipush X1.here hx rfl (hb hby at_17) ?_
    show Steps p.tables e below (T1.setTop (mkF m 20 #[.val (.int p0), .val (.int p1), .val (.int (((p0 &&& (2147483647 : Int32)) % (256 : Int32)) + (1 : Int32))), .unset, .unset, .unset, .unset, .unset, .unset] [(.int (255 : Int32)), (.int p1), (.int (0 : Int32)), (.ref b1), (.ref b1)])) _
    refine XS.iand X1.here hx rfl (hb hby at_20) rfl ?_
    show Steps p.tables e below (T1.setTop (mkF m 21 #[.val (.int p0), .val (.int p1), .val (.int (((p0 &&& (2147483647 : Int32)) % (256 : Int32)) + (1 : Int32))), .unset, .unset, .unset, .unset, .unset, .unset] [(.int (p1 &&& (255 : Int32))), (.int (0 : Int32)), (.ref b1), (.ref b1)])) _
    refine XS.i2c X1.here hx rfl (hb hby at_21) rfl ?_
    show Steps p.tables e below (T1.setTop (mkF m 22 #[.val (.int p0), .val (.int p1), .val (.int (((p0 &&& (2147483647 : Int32)) % (256 : Int32)) + (1 : Int32))), .unset, .unset, .unset, .unset, .unset, .unset] [(.int ((p1 &&& (255 : Int32)).toUInt32.toUInt16.toUInt32.toInt32)), (.int (0 : Int32)), (.ref b1), (.ref b1)])) _
    refine st4 _ ?_
    show Steps p.tables e below (T4.setTop (mkF m 23 #[.val (.int p0), .val (.int p1), .val (.int (((p0 &&& (2147483647 : Int32)) % (256 : Int32)) + (1 : Int32))), .unset, .unset, .unset, .unset, .unset, .unset] [(.ref b1)])) _
    refine XS.astoreN X4.here hx rfl (hb hby at_23) rfl rfl (l' := #[.val (.int p0), .val (.int p1), .val (.int (((p0 &&& (2147483647 : Int32)) % (256 : Int32)) + (1 : Int32))), .val (.ref b1), .unset, .unset, .unset, .unset, .unset]) rfl ?_
    show Steps p.tables e below (T4.setTop (mkF m 24 #[.val (.int p0), .val (.int p1), .val (.int (((p0 &&& (2147483647 : Int32)) % (256 : Int32)) + (1 : Int32))), .val (.ref b1), .unset, .unset, .unset, .unset, .unset] [])) _
    refine st5 _ ?_
    show Steps p.tables e below (T5.setTop (mkF m 27 #[.val (.int p0), .val (.int p1), .val (.int (((p0 &&& (2147483647 : Int32)) % (256 : Int32)) + (1 : Int32))), .val (.ref b1), .unset, .unset, .unset, .unset, .unset] [(.ref b5)])) _
    refine XS.dup X5.here hx rfl (hb hby at_27) rfl rfl ?_
    show Steps p.tables e below (T5.setTop (mkF m 28 #[.val (.int p0), .val (.int p1), .val (.int (((p0 &&& (2147483647 : Int32)) % (256 : Int32)) + (1 : Int32))), .val (.ref b1), .unset, .unset, .unset, .unset, .unset] [(.ref b5), (.ref b5)])) _
    refine XS.iloadN X5.here hx rfl (hb hby at_28) rfl ?_
    show Steps p.tables e below (T5.setTop (mkF m 29 #[.val (.int p0), .val (.int p1), .val (.int (((p0 &&& (2147483647 : Int32)) % (256 : Int32)) + (1 : Int32))), .val (.ref b1), .unset, .unset, .unset, .unset, .unset] [(.int (((p0 &&& (2147483647 : Int32)) % (256 : Int32)) + (1 : Int32))), (.ref b5), (.ref b5)])) _
    refine st6 _ ?_
    show Steps p.tables e below (T6.setTop (mkF m 32 #[.val (.int p0), .val (.int p1), .val (.int (((p0 &&& (2147483647 : Int32)) % (256 : Int32)) + (1 : Int32))), .val (.ref b1), .unset, .unset, .unset, .unset, .unset] [(.ref b6), (.int (((p0 &&& (2147483647 : Int32)) % (256 : Int32)) + (1 : Int32))), (.ref b5), (.ref b5)])) _
    refine XS.dup X6.here hx rfl (hb hby at_32) rfl rfl ?_
    show Steps p.tables e below (T6.setTop (mkF m 33 #[.val (.int p0), .val (.int p1), .val (.int (((p0 &&& (2147483647 : Int32)) % (256 : Int32)) + (1 : Int32))), .val (.ref b1), .unset, .unset, .unset, .unset, .unset] [(.ref b6), (.ref b6), (.int (((p0 &&& (2147483647 : Int32)) % (256 : Int32)) + (1 : Int32))), (.ref b5), (.ref b5)])) _
    refine XS.aloadN X6.here hx rfl (hb hby at_33) rfl rfl ?_
    show Steps p.tables e below (T6.setTop (mkF m 34 #[.val (.int p0), .val (.int p1), .val (.int (((p0 &&& (2147483647 : Int32)) % (256 : Int32)) + (1 : Int32))), .val (.ref b1), .unset, .unset, .unset, .unset, .unset] [(.ref b1), (.ref b6), (.ref b6), (.int (((p0 &&& (2147483647 : Int32)) % (256 : Int32)) + (1 : Int32))), (.ref b5), (.ref b5)])) _
    refine st7.trans ?_
    show Steps p.tables e below (T7.setTop (mkF m 37 #[.val (.int p0), .val (.int p1), .val (.int (((p0 &&& (2147483647 : Int32)) % (256 : Int32)) + (1 : Int32))), .val (.ref b1), .unset, .unset, .unset, .unset, .unset] [(.ref b6), (.int (((p0 &&& (2147483647 : Int32)) % (256 : Int32)) + (1 : Int32))), (.ref b5), (.ref b5)])) _
    refine st10.trans ?_
    show Steps p.tables e below (T10.setTop (mkF m 40 #[.val (.int p0), .val (.int p1), .val (.int (((p0 &&& (2147483647 : Int32)) % (256 : Int32)) + (1 : Int32))), .val (.ref b1), .unset, .unset, .unset, .unset, .unset] [(.ref b5)])) _
    refine XS.astore X10.here hx rfl (hb hby at_40) rfl rfl (l' := #[.val (.int p0), .val (.int p1), .val (.int (((p0 &&& (2147483647 : Int32)) % (256 : Int32)) + (1 : Int32))), .val (.ref b1), .val (.ref b5), .unset, .unset, .unset, .unset]) rfl ?_
    show Steps p.tables e below (T10.setTop (mkF m 42 #[.val (.int p0), .val (.int p1), .val (.int (((p0 &&& (2147483647 : Int32)) % (256 : Int32)) + (1 : Int32))), .val (.ref b1), .val (.ref b5), .unset, .unset, .unset, .unset] [])) _
    refine XS.aload X10.here hx rfl (hb hby at_42) rfl rfl ?_
    show Steps p.tables e below (T10.setTop (mkF m 44 #[.val (.int p0), .val (.int p1), .val (.int (((p0 &&& (2147483647 : Int32)) % (256 : Int32)) + (1 : Int32))), .val (.ref b1), .val (.ref b5), .unset, .unset, .unset, .unset] [(.ref b5)])) _
    refine st20.trans ?_
    show Steps p.tables e below (T20.setTop (mkF m 47 #[.val (.int p0), .val (.int p1), .val (.int (((p0 &&& (2147483647 : Int32)) % (256 : Int32)) + (1 : Int32))), .val (.ref b1), .val (.ref b5), .unset, .unset, .unset, .unset] [(.ref b20_0)])) _
    refine XS.astore X20.here hx rfl (hb hby at_47) rfl rfl (l' := #[.val (.int p0), .val (.int p1), .val (.int (((p0 &&& (2147483647 : Int32)) % (256 : Int32)) + (1 : Int32))), .val (.ref b1), .val (.ref b5), .val (.ref b20_0), .unset, .unset, .unset]) rfl ?_
    show Steps p.tables e below (T20.setTop (mkF m 49 #[.val (.int p0), .val (.int p1), .val (.int (((p0 &&& (2147483647 : Int32)) % (256 : Int32)) + (1 : Int32))), .val (.ref b1), .val (.ref b5), .val (.ref b20_0), .unset, .unset, .unset] [])) _
    refine X20.ldc2Long hx hown10 (mvT hZ10 (hw _ (List.mem_of_getElem? (i := 128) rfl))) (g := (mkF m 49 #[.val (.int p0), .val (.int p1), .val (.int (((p0 &&& (2147483647 : Int32)) % (256 : Int32)) + (1 : Int32))), .val (.ref b1), .val (.ref b5), .val (.ref b20_0), .unset, .unset, .unset] [])) rfl (hb hby at_49) _ ?_
    show Steps p.tables e below (T20.setTop (mkF m 52 #[.val (.int p0), .val (.int p1), .val (.int (((p0 &&& (2147483647 : Int32)) % (256 : Int32)) + (1 : Int32))), .val (.ref b1), .val (.ref b5), .val (.ref b20_0), .unset, .unset, .unset] [(.long (2147483648 : Int64))])) _
    refine XS.iloadN X20.here hx rfl (hb hby at_52) rfl ?_
    show Steps p.tables e below (T20.setTop (mkF m 53 #[.val (.int p0), .val (.int p1), .val (.int (((p0 &&& (2147483647 : Int32)) % (256 : Int32)) + (1 : Int32))), .val (.ref b1), .val (.ref b5), .val (.ref b20_0), .unset, .unset, .unset] [(.int (((p0 &&& (2147483647 : Int32)) % (256 : Int32)) + (1 : Int32))), (.long (2147483648 : Int64))])) _
    refine XS.i2l X20.here hx rfl (hb hby at_53) rfl ?_
    show Steps p.tables e below (T20.setTop (mkF m 54 #[.val (.int p0), .val (.int p1), .val (.int (((p0 &&& (2147483647 : Int32)) % (256 : Int32)) + (1 : Int32))), .val (.ref b1), .val (.ref b5), .val (.ref b20_0), .unset, .unset, .unset] [(.long ((((p0 &&& (2147483647 : Int32)) % (256 : Int32)) + (1 : Int32)).toInt64)), (.long (2147483648 : Int64))])) _
    refine own_lremM X20 hx rfl (hb hby at_54) rfl hc11 ?_
    show Steps p.tables e below (T20.setTop (mkF m 55 #[.val (.int p0), .val (.int p1), .val (.int (((p0 &&& (2147483647 : Int32)) % (256 : Int32)) + (1 : Int32))), .val (.ref b1), .val (.ref b5), .val (.ref b20_0), .unset, .unset, .unset] [(.long ((2147483648 : Int64) % ((((p0 &&& (2147483647 : Int32)) % (256 : Int32)) + (1 : Int32)).toInt64)))])) _
    refine XS.lstore X20.here hx rfl (hb hby at_55) rfl (l' := #[.val (.int p0), .val (.int p1), .val (.int (((p0 &&& (2147483647 : Int32)) % (256 : Int32)) + (1 : Int32))), .val (.ref b1), .val (.ref b5), .val (.ref b20_0), .val (.long ((2147483648 : Int64) % ((((p0 &&& (2147483647 : Int32)) % (256 : Int32)) + (1 : Int32)).toInt64))), .second, .unset]) rfl ?_
    show Steps p.tables e below (T20.setTop (mkF m 57 #[.val (.int p0), .val (.int p1), .val (.int (((p0 &&& (2147483647 : Int32)) % (256 : Int32)) + (1 : Int32))), .val (.ref b1), .val (.ref b5), .val (.ref b20_0), .val (.long ((2147483648 : Int64) % ((((p0 &&& (2147483647 : Int32)) % (256 : Int32)) + (1 : Int32)).toInt64))), .second, .unset] [])) _
    refine XS.lload X20.here hx rfl (hb hby at_57) rfl ?_
    show Steps p.tables e below (T20.setTop (mkF m 59 #[.val (.int p0), .val (.int p1), .val (.int (((p0 &&& (2147483647 : Int32)) % (256 : Int32)) + (1 : Int32))), .val (.ref b1), .val (.ref b5), .val (.ref b20_0), .val (.long ((2147483648 : Int64) % ((((p0 &&& (2147483647 : Int32)) % (256 : Int32)) + (1 : Int32)).toInt64))), .second, .unset] [(.long ((2147483648 : Int64) % ((((p0 &&& (2147483647 : Int32)) % (256 : Int32)) + (1 : Int32)).toInt64)))])) _
    refine XS.lneg X20.here hx rfl (hb hby at_59) rfl ?_
    show Steps p.tables e below (T20.setTop (mkF m 60 #[.val (.int p0), .val (.int p1), .val (.int (((p0 &&& (2147483647 : Int32)) % (256 : Int32)) + (1 : Int32))), .val (.ref b1), .val (.ref b5), .val (.ref b20_0), .val (.long ((2147483648 : Int64) % ((((p0 &&& (2147483647 : Int32)) % (256 : Int32)) + (1 : Int32)).toInt64))), .second, .unset] [(.long (-((2147483648 : Int64) % ((((p0 &&& (2147483647 : Int32)) % (256 : Int32)) + (1 : Int32)).toInt64))))])) _
    refine X20.ldc2Long hx hown10 (mvT hZ10 (hw _ (List.mem_of_getElem? (i := 129) rfl))) (g := (mkF m 60 #[.val (.int p0), .val (.int p1), .val (.int (((p0 &&& (2147483647 : Int32)) % (256 : Int32)) + (1 : Int32))), .val (.ref b1), .val (.ref b5), .val (.ref b20_0), .val (.long ((2147483648 : Int64) % ((((p0 &&& (2147483647 : Int32)) % (256 : Int32)) + (1 : Int32)).toInt64))), .second, .unset] [(.long (-((2147483648 : Int64) % ((((p0 &&& (2147483647 : Int32)) % (256 : Int32)) + (1 : Int32)).toInt64))))])) rfl (hb hby at_60) _ ?_
    show Steps p.tables e below (T20.setTop (mkF m 63 #[.val (.int p0), .val (.int p1), .val (.int (((p0 &&& (2147483647 : Int32)) % (256 : Int32)) + (1 : Int32))), .val (.ref b1), .val (.ref b5), .val (.ref b20_0), .val (.long ((2147483648 : Int64) % ((((p0 &&& (2147483647 : Int32)) % (256 : Int32)) + (1 : Int32)).toInt64))), .second, .unset] [(.long (255 : Int64)), (.long (-((2147483648 : Int64) % ((((p0 &&& (2147483647 : Int32)) % (256 : Int32)) + (1 : Int32)).toInt64))))])) _
    refine XS.land X20.here hx rfl (hb hby at_63) rfl ?_
    show Steps p.tables e below (T20.setTop (mkF m 64 #[.val (.int p0), .val (.int p1), .val (.int (((p0 &&& (2147483647 : Int32)) % (256 : Int32)) + (1 : Int32))), .val (.ref b1), .val (.ref b5), .val (.ref b20_0), .val (.long ((2147483648 : Int64) % ((((p0 &&& (2147483647 : Int32)) % (256 : Int32)) + (1 : Int32)).toInt64))), .second, .unset] [(.long ((-((2147483648 : Int64) % ((((p0 &&& (2147483647 : Int32)) % (256 : Int32)) + (1 : Int32)).toInt64))) &&& (255 : Int64)))])) _
    refine XS.l2i X20.here hx rfl (hb hby at_64) rfl ?_
    show Steps p.tables e below (T20.setTop (mkF m 65 #[.val (.int p0), .val (.int p1), .val (.int (((p0 &&& (2147483647 : Int32)) % (256 : Int32)) + (1 : Int32))), .val (.ref b1), .val (.ref b5), .val (.ref b20_0), .val (.long ((2147483648 : Int64) % ((((p0 &&& (2147483647 : Int32)) % (256 : Int32)) + (1 : Int32)).toInt64))), .second, .unset] [(.int (((-((2147483648 : Int64) % ((((p0 &&& (2147483647 : Int32)) % (256 : Int32)) + (1 : Int32)).toInt64))) &&& (255 : Int64)).toInt32))])) _
    refine XS.istore X20.here hx rfl (hb hby at_65) rfl (l' := #[.val (.int p0), .val (.int p1), .val (.int (((p0 &&& (2147483647 : Int32)) % (256 : Int32)) + (1 : Int32))), .val (.ref b1), .val (.ref b5), .val (.ref b20_0), .val (.long ((2147483648 : Int64) % ((((p0 &&& (2147483647 : Int32)) % (256 : Int32)) + (1 : Int32)).toInt64))), .second, .val (.int (((-((2147483648 : Int64) % ((((p0 &&& (2147483647 : Int32)) % (256 : Int32)) + (1 : Int32)).toInt64))) &&& (255 : Int64)).toInt32))]) rfl ?_
    show Steps p.tables e below (T20.setTop (mkF m 67 #[.val (.int p0), .val (.int p1), .val (.int (((p0 &&& (2147483647 : Int32)) % (256 : Int32)) + (1 : Int32))), .val (.ref b1), .val (.ref b5), .val (.ref b20_0), .val (.long ((2147483648 : Int64) % ((((p0 &&& (2147483647 : Int32)) % (256 : Int32)) + (1 : Int32)).toInt64))), .second, .val (.int (((-((2147483648 : Int64) % ((((p0 &&& (2147483647 : Int32)) % (256 : Int32)) + (1 : Int32)).toInt64))) &&& (255 : Int64)).toInt32))] [])) _
    refine XS.iload X20.here hx rfl (hb hby at_67) rfl ?_
    show Steps p.tables e below (T20.setTop (mkF m 69 #[.val (.int p0), .val (.int p1), .val (.int (((p0 &&& (2147483647 : Int32)) % (256 : Int32)) + (1 : Int32))), .val (.ref b1), .val (.ref b5), .val (.ref b20_0), .val (.long ((2147483648 : Int64) % ((((p0 &&& (2147483647 : Int32)) % (256 : Int32)) + (1 : Int32)).toInt64))), .second, .val (.int (((-((2147483648 : Int64) % ((((p0 &&& (2147483647 : Int32)) % (256 : Int32)) + (1 : Int32)).toInt64))) &&& (255 : Int64)).toInt32))] [(.int (((-((2147483648 : Int64) % ((((p0 &&& (2147483647 : Int32)) % (256 : Int32)) + (1 : Int32)).toInt64))) &&& (255 : Int64)).toInt32))])) _
    refine XS.iloadN X20.here hx rfl (hb hby at_69) rfl ?_
    show Steps p.tables e below (T20.setTop (mkF m 70 #[.val (.int p0), .val (.int p1), .val (.int (((p0 &&& (2147483647 : Int32)) % (256 : Int32)) + (1 : Int32))), .val (.ref b1), .val (.ref b5), .val (.ref b20_0), .val (.long ((2147483648 : Int64) % ((((p0 &&& (2147483647 : Int32)) % (256 : Int32)) + (1 : Int32)).toInt64))), .second, .val (.int (((-((2147483648 : Int64) % ((((p0 &&& (2147483647 : Int32)) % (256 : Int32)) + (1 : Int32)).toInt64))) &&& (255 : Int64)).toInt32))] [(.int (((p0 &&& (2147483647 : Int32)) % (256 : Int32)) + (1 : Int32))), (.int (((-((2147483648 : Int64) % ((((p0 &&& (2147483647 : Int32)) % (256 : Int32)) + (1 : Int32)).toInt64))) &&& (255 : Int64)).toInt32))])) _
    refine XS.icmpYes X20.here hx rfl (pc0 := 70) (pc' := 136) rfl (hb hby at_70) rfl (tlt hc12).1 (by decide) (by decide) ?_
    show Steps p.tables e below (T20.setTop (mkF m 136 #[.val (.int p0), .val (.int p1), .val (.int (((p0 &&& (2147483647 : Int32)) % (256 : Int32)) + (1 : Int32))), .val (.ref b1), .val (.ref b5), .val (.ref b20_0), .val (.long ((2147483648 : Int64) % ((((p0 &&& (2147483647 : Int32)) % (256 : Int32)) + (1 : Int32)).toInt64))), .second, .val (.int (((-((2147483648 : Int64) % ((((p0 &&& (2147483647 : Int32)) % (256 : Int32)) + (1 : Int32)).toInt64))) &&& (255 : Int64)).toInt32))] [])) _
    refine XS.aload X20.here hx rfl (hb hby at_136) rfl rfl ?_
    show Steps p.tables e below (T20.setTop (mkF m 138 #[.val (.int p0), .val (.int p1), .val (.int (((p0 &&& (2147483647 : Int32)) % (256 : Int32)) + (1 : Int32))), .val (.ref b1), .val (.ref b5), .val (.ref b20_0), .val (.long ((2147483648 : Int64) % ((((p0 &&& (2147483647 : Int32)) % (256 : Int32)) + (1 : Int32)).toInt64))), .second, .val (.int (((-((2147483648 : Int64) % ((((p0 &&& (2147483647 : Int32)) % (256 : Int32)) + (1 : Int32)).toInt64))) &&& (255 : Int64)).toInt32))] [(.ref b20_0)])) _
    refine X20.arraylength hx Ar21.1 (State.isArrayOf_alike hZ10.alike Ar21.2.1) (g := (mkF m 138 #[.val (.int p0), .val (.int p1), .val (.int (((p0 &&& (2147483647 : Int32)) % (256 : Int32)) + (1 : Int32))), .val (.ref b1), .val (.ref b5), .val (.ref b20_0), .val (.long ((2147483648 : Int64) % ((((p0 &&& (2147483647 : Int32)) % (256 : Int32)) + (1 : Int32)).toInt64))), .second, .val (.int (((-((2147483648 : Int64) % ((((p0 &&& (2147483647 : Int32)) % (256 : Int32)) + (1 : Int32)).toInt64))) &&& (255 : Int64)).toInt32))] [(.ref b20_0)])) rfl rfl (hb hby at_138) _ ?_
    rw [len_of Sz21 Ng21]
    show Steps p.tables e below (T20.setTop (mkF m 139 #[.val (.int p0), .val (.int p1), .val (.int (((p0 &&& (2147483647 : Int32)) % (256 : Int32)) + (1 : Int32))), .val (.ref b1), .val (.ref b5), .val (.ref b20_0), .val (.long ((2147483648 : Int64) % ((((p0 &&& (2147483647 : Int32)) % (256 : Int32)) + (1 : Int32)).toInt64))), .second, .val (.int (((-((2147483648 : Int64) % ((((p0 &&& (2147483647 : Int32)) % (256 : Int32)) + (1 : Int32)).toInt64))) &&& (255 : Int64)).toInt32))] [(.int (3 : Int32))])) _
    refine XS.iconst X20.here hx rfl (hb hby at_139) ?_
    show Steps p.tables e below (T20.setTop (mkF m 140 #[.val (.int p0), .val (.int p1), .val (.int (((p0 &&& (2147483647 : Int32)) % (256 : Int32)) + (1 : Int32))), .val (.ref b1), .val (.ref b5), .val (.ref b20_0), .val (.long ((2147483648 : Int64) % ((((p0 &&& (2147483647 : Int32)) % (256 : Int32)) + (1 : Int32)).toInt64))), .second, .val (.int (((-((2147483648 : Int64) % ((((p0 &&& (2147483647 : Int32)) % (256 : Int32)) + (1 : Int32)).toInt64))) &&& (255 : Int64)).toInt32))] [(.int (3 : Int32)), (.int (3 : Int32))])) _
    refine XS.icmpNo X20.here hx rfl (hb hby at_140) rfl (teq (by decide : (3 : Int32) = (3 : Int32))).2 ?_
    show Steps p.tables e below (T20.setTop (mkF m 143 #[.val (.int p0), .val (.int p1), .val (.int (((p0 &&& (2147483647 : Int32)) % (256 : Int32)) + (1 : Int32))), .val (.ref b1), .val (.ref b5), .val (.ref b20_0), .val (.long ((2147483648 : Int64) % ((((p0 &&& (2147483647 : Int32)) % (256 : Int32)) + (1 : Int32)).toInt64))), .second, .val (.int (((-((2147483648 : Int64) % ((((p0 &&& (2147483647 : Int32)) % (256 : Int32)) + (1 : Int32)).toInt64))) &&& (255 : Int64)).toInt32))] [])) _
    refine XS.aload X20.here hx rfl (hb hby at_143) rfl rfl ?_
    show Steps p.tables e below (T20.setTop (mkF m 145 #[.val (.int p0), .val (.int p1), .val (.int (((p0 &&& (2147483647 : Int32)) % (256 : Int32)) + (1 : Int32))), .val (.ref b1), .val (.ref b5), .val (.ref b20_0), .val (.long ((2147483648 : Int64) % ((((p0 &&& (2147483647 : Int32)) % (256 : Int32)) + (1 : Int32)).toInt64))), .second, .val (.int (((-((2147483648 : Int64) % ((((p0 &&& (2147483647 : Int32)) % (256 : Int32)) + (1 : Int32)).toInt64))) &&& (255 : Int64)).toInt32))] [(.ref b20_0)])) _
    refine XS.iconst X20.here hx rfl (hb hby at_145) ?_
    show Steps p.tables e below (T20.setTop (mkF m 146 #[.val (.int p0), .val (.int p1), .val (.int (((p0 &&& (2147483647 : Int32)) % (256 : Int32)) + (1 : Int32))), .val (.ref b1), .val (.ref b5), .val (.ref b20_0), .val (.long ((2147483648 : Int64) % ((((p0 &&& (2147483647 : Int32)) % (256 : Int32)) + (1 : Int32)).toInt64))), .second, .val (.int (((-((2147483648 : Int64) % ((((p0 &&& (2147483647 : Int32)) % (256 : Int32)) + (1 : Int32)).toInt64))) &&& (255 : Int64)).toInt32))] [(.int (0 : Int32)), (.ref b20_0)])) _
    refine X20.iaload hx (j := (0 : Int32)) (v := (.int (0 : Int32))) Ar21.1 (State.isArrayOf_alike hZ10.alike Ar21.2.1) Ar21.2.2 hin22 hat23 (g := (mkF m 146 #[.val (.int p0), .val (.int p1), .val (.int (((p0 &&& (2147483647 : Int32)) % (256 : Int32)) + (1 : Int32))), .val (.ref b1), .val (.ref b5), .val (.ref b20_0), .val (.long ((2147483648 : Int64) % ((((p0 &&& (2147483647 : Int32)) % (256 : Int32)) + (1 : Int32)).toInt64))), .second, .val (.int (((-((2147483648 : Int64) % ((((p0 &&& (2147483647 : Int32)) % (256 : Int32)) + (1 : Int32)).toInt64))) &&& (255 : Int64)).toInt32))] [(.int (0 : Int32)), (.ref b20_0)])) rfl rfl (hb hby at_146) _ ?_
    show Steps p.tables e below (T20.setTop (mkF m 147 #[.val (.int p0), .val (.int p1), .val (.int (((p0 &&& (2147483647 : Int32)) % (256 : Int32)) + (1 : Int32))), .val (.ref b1), .val (.ref b5), .val (.ref b20_0), .val (.long ((2147483648 : Int64) % ((((p0 &&& (2147483647 : Int32)) % (256 : Int32)) + (1 : Int32)).toInt64))), .second, .val (.int (((-((2147483648 : Int64) % ((((p0 &&& (2147483647 : Int32)) % (256 : Int32)) + (1 : Int32)).toInt64))) &&& (255 : Int64)).toInt32))] [(.int (0 : Int32))])) _
    refine XS.ifNo X20.here hx rfl (hb hby at_147) rfl ((if0 _ _).trans (teq (by decide : (0 : Int32) = (0 : Int32))).2) ?_
    show Steps p.tables e below (T20.setTop (mkF m 150 #[.val (.int p0), .val (.int p1), .val (.int (((p0 &&& (2147483647 : Int32)) % (256 : Int32)) + (1 : Int32))), .val (.ref b1), .val (.ref b5), .val (.ref b20_0), .val (.long ((2147483648 : Int64) % ((((p0 &&& (2147483647 : Int32)) % (256 : Int32)) + (1 : Int32)).toInt64))), .second, .val (.int (((-((2147483648 : Int64) % ((((p0 &&& (2147483647 : Int32)) % (256 : Int32)) + (1 : Int32)).toInt64))) &&& (255 : Int64)).toInt32))] [])) _
    refine XS.aload X20.here hx rfl (hb hby at_150) rfl rfl ?_
    show Steps p.tables e below (T20.setTop (mkF m 152 #[.val (.int p0), .val (.int p1), .val (.int (((p0 &&& (2147483647 : Int32)) % (256 : Int32)) + (1 : Int32))), .val (.ref b1), .val (.ref b5), .val (.ref b20_0), .val (.long ((2147483648 : Int64) % ((((p0 &&& (2147483647 : Int32)) % (256 : Int32)) + (1 : Int32)).toInt64))), .second, .val (.int (((-((2147483648 : Int64) % ((((p0 &&& (2147483647 : Int32)) % (256 : Int32)) + (1 : Int32)).toInt64))) &&& (255 : Int64)).toInt32))] [(.ref b20_0)])) _
    refine XS.iconst X20.here hx rfl (hb hby at_152) ?_
    show Steps p.tables e below (T20.setTop (mkF m 153 #[.val (.int p0), .val (.int p1), .val (.int (((p0 &&& (2147483647 : Int32)) % (256 : Int32)) + (1 : Int32))), .val (.ref b1), .val (.ref b5), .val (.ref b20_0), .val (.long ((2147483648 : Int64) % ((((p0 &&& (2147483647 : Int32)) % (256 : Int32)) + (1 : Int32)).toInt64))), .second, .val (.int (((-((2147483648 : Int64) % ((((p0 &&& (2147483647 : Int32)) % (256 : Int32)) + (1 : Int32)).toInt64))) &&& (255 : Int64)).toInt32))] [(.int (1 : Int32)), (.ref b20_0)])) _
    refine X20.iaload hx (j := (1 : Int32)) (v := (.int ((((p0 &&& (2147483647 : Int32)) % (256 : Int32)) + (1 : Int32)) - (1 : Int32)))) Ar21.1 (State.isArrayOf_alike hZ10.alike Ar21.2.1) Ar21.2.2 hin24 hat25 (g := (mkF m 153 #[.val (.int p0), .val (.int p1), .val (.int (((p0 &&& (2147483647 : Int32)) % (256 : Int32)) + (1 : Int32))), .val (.ref b1), .val (.ref b5), .val (.ref b20_0), .val (.long ((2147483648 : Int64) % ((((p0 &&& (2147483647 : Int32)) % (256 : Int32)) + (1 : Int32)).toInt64))), .second, .val (.int (((-((2147483648 : Int64) % ((((p0 &&& (2147483647 : Int32)) % (256 : Int32)) + (1 : Int32)).toInt64))) &&& (255 : Int64)).toInt32))] [(.int (1 : Int32)), (.ref b20_0)])) rfl rfl (hb hby at_153) _ ?_
    show Steps p.tables e below (T20.setTop (mkF m 154 #[.val (.int p0), .val (.int p1), .val (.int (((p0 &&& (2147483647 : Int32)) % (256 : Int32)) + (1 : Int32))), .val (.ref b1), .val (.ref b5), .val (.ref b20_0), .val (.long ((2147483648 : Int64) % ((((p0 &&& (2147483647 : Int32)) % (256 : Int32)) + (1 : Int32)).toInt64))), .second, .val (.int (((-((2147483648 : Int64) % ((((p0 &&& (2147483647 : Int32)) % (256 : Int32)) + (1 : Int32)).toInt64))) &&& (255 : Int64)).toInt32))] [(.int ((((p0 &&& (2147483647 : Int32)) % (256 : Int32)) + (1 : Int32)) - (1 : Int32)))])) _
    refine XS.iloadN X20.here hx rfl (hb hby at_154) rfl ?_
    show Steps p.tables e below (T20.setTop (mkF m 155 #[.val (.int p0), .val (.int p1), .val (.int (((p0 &&& (2147483647 : Int32)) % (256 : Int32)) + (1 : Int32))), .val (.ref b1), .val (.ref b5), .val (.ref b20_0), .val (.long ((2147483648 : Int64) % ((((p0 &&& (2147483647 : Int32)) % (256 : Int32)) + (1 : Int32)).toInt64))), .second, .val (.int (((-((2147483648 : Int64) % ((((p0 &&& (2147483647 : Int32)) % (256 : Int32)) + (1 : Int32)).toInt64))) &&& (255 : Int64)).toInt32))] [(.int (((p0 &&& (2147483647 : Int32)) % (256 : Int32)) + (1 : Int32))), (.int ((((p0 &&& (2147483647 : Int32)) % (256 : Int32)) + (1 : Int32)) - (1 : Int32)))])) _
    refine XS.iconst X20.here hx rfl (hb hby at_155) ?_
    show Steps p.tables e below (T20.setTop (mkF m 156 #[.val (.int p0), .val (.int p1), .val (.int (((p0 &&& (2147483647 : Int32)) % (256 : Int32)) + (1 : Int32))), .val (.ref b1), .val (.ref b5), .val (.ref b20_0), .val (.long ((2147483648 : Int64) % ((((p0 &&& (2147483647 : Int32)) % (256 : Int32)) + (1 : Int32)).toInt64))), .second, .val (.int (((-((2147483648 : Int64) % ((((p0 &&& (2147483647 : Int32)) % (256 : Int32)) + (1 : Int32)).toInt64))) &&& (255 : Int64)).toInt32))] [(.int (1 : Int32)), (.int (((p0 &&& (2147483647 : Int32)) % (256 : Int32)) + (1 : Int32))), (.int ((((p0 &&& (2147483647 : Int32)) % (256 : Int32)) + (1 : Int32)) - (1 : Int32)))])) _
    refine XS.isub X20.here hx rfl (hb hby at_156) rfl ?_
    show Steps p.tables e below (T20.setTop (mkF m 157 #[.val (.int p0), .val (.int p1), .val (.int (((p0 &&& (2147483647 : Int32)) % (256 : Int32)) + (1 : Int32))), .val (.ref b1), .val (.ref b5), .val (.ref b20_0), .val (.long ((2147483648 : Int64) % ((((p0 &&& (2147483647 : Int32)) % (256 : Int32)) + (1 : Int32)).toInt64))), .second, .val (.int (((-((2147483648 : Int64) % ((((p0 &&& (2147483647 : Int32)) % (256 : Int32)) + (1 : Int32)).toInt64))) &&& (255 : Int64)).toInt32))] [(.int ((((p0 &&& (2147483647 : Int32)) % (256 : Int32)) + (1 : Int32)) - (1 : Int32))), (.int ((((p0 &&& (2147483647 : Int32)) % (256 : Int32)) + (1 : Int32)) - (1 : Int32)))])) _
    refine XS.icmpNo X20.here hx rfl (hb hby at_157) rfl (teq (rfl : ((((p0 &&& (2147483647 : Int32)) % (256 : Int32)) + (1 : Int32)) - (1 : Int32)) = ((((p0 &&& (2147483647 : Int32)) % (256 : Int32)) + (1 : Int32)) - (1 : Int32)))).2 ?_
    show Steps p.tables e below (T20.setTop (mkF m 160 #[.val (.int p0), .val (.int p1), .val (.int (((p0 &&& (2147483647 : Int32)) % (256 : Int32)) + (1 : Int32))), .val (.ref b1), .val (.ref b5), .val (.ref b20_0), .val (.long ((2147483648 : Int64) % ((((p0 &&& (2147483647 : Int32)) % (256 : Int32)) + (1 : Int32)).toInt64))), .second, .val (.int (((-((2147483648 : Int64) % ((((p0 &&& (2147483647 : Int32)) % (256 : Int32)) + (1 : Int32)).toInt64))) &&& (255 : Int64)).toInt32))] [])) _
    refine XS.aload X20.here hx rfl (hb hby at_160) rfl rfl ?_
    show Steps p.tables e below (T20.setTop (mkF m 162 #[.val (.int p0), .val (.int p1), .val (.int (((p0 &&& (2147483647 : Int32)) % (256 : Int32)) + (1 : Int32))), .val (.ref b1), .val (.ref b5), .val (.ref b20_0), .val (.long ((2147483648 : Int64) % ((((p0 &&& (2147483647 : Int32)) % (256 : Int32)) + (1 : Int32)).toInt64))), .second, .val (.int (((-((2147483648 : Int64) % ((((p0 &&& (2147483647 : Int32)) % (256 : Int32)) + (1 : Int32)).toInt64))) &&& (255 : Int64)).toInt32))] [(.ref b20_0)])) _
    refine XS.iconst X20.here hx rfl (hb hby at_162) ?_
    show Steps p.tables e below (T20.setTop (mkF m 163 #[.val (.int p0), .val (.int p1), .val (.int (((p0 &&& (2147483647 : Int32)) % (256 : Int32)) + (1 : Int32))), .val (.ref b1), .val (.ref b5), .val (.ref b20_0), .val (.long ((2147483648 : Int64) % ((((p0 &&& (2147483647 : Int32)) % (256 : Int32)) + (1 : Int32)).toInt64))), .second, .val (.int (((-((2147483648 : Int64) % ((((p0 &&& (2147483647 : Int32)) % (256 : Int32)) + (1 : Int32)).toInt64))) &&& (255 : Int64)).toInt32))] [(.int (2 : Int32)), (.ref b20_0)])) _
    refine X20.iaload hx (j := (2 : Int32)) (v := (.int (0 : Int32))) Ar21.1 (State.isArrayOf_alike hZ10.alike Ar21.2.1) Ar21.2.2 hin26 hat27 (g := (mkF m 163 #[.val (.int p0), .val (.int p1), .val (.int (((p0 &&& (2147483647 : Int32)) % (256 : Int32)) + (1 : Int32))), .val (.ref b1), .val (.ref b5), .val (.ref b20_0), .val (.long ((2147483648 : Int64) % ((((p0 &&& (2147483647 : Int32)) % (256 : Int32)) + (1 : Int32)).toInt64))), .second, .val (.int (((-((2147483648 : Int64) % ((((p0 &&& (2147483647 : Int32)) % (256 : Int32)) + (1 : Int32)).toInt64))) &&& (255 : Int64)).toInt32))] [(.int (2 : Int32)), (.ref b20_0)])) rfl rfl (hb hby at_163) _ ?_
    show Steps p.tables e below (T20.setTop (mkF m 164 #[.val (.int p0), .val (.int p1), .val (.int (((p0 &&& (2147483647 : Int32)) % (256 : Int32)) + (1 : Int32))), .val (.ref b1), .val (.ref b5), .val (.ref b20_0), .val (.long ((2147483648 : Int64) % ((((p0 &&& (2147483647 : Int32)) % (256 : Int32)) + (1 : Int32)).toInt64))), .second, .val (.int (((-((2147483648 : Int64) % ((((p0 &&& (2147483647 : Int32)) % (256 : Int32)) + (1 : Int32)).toInt64))) &&& (255 : Int64)).toInt32))] [(.int (0 : Int32))])) _
    refine XS.ifNo X20.here hx rfl (hb hby at_164) rfl ((if0 _ _).trans (teq (by decide : (0 : Int32) = (0 : Int32))).2) ?_
    show Steps p.tables e below (T20.setTop (mkF m 167 #[.val (.int p0), .val (.int p1), .val (.int (((p0 &&& (2147483647 : Int32)) % (256 : Int32)) + (1 : Int32))), .val (.ref b1), .val (.ref b5), .val (.ref b20_0), .val (.long ((2147483648 : Int64) % ((((p0 &&& (2147483647 : Int32)) % (256 : Int32)) + (1 : Int32)).toInt64))), .second, .val (.int (((-((2147483648 : Int64) % ((((p0 &&& (2147483647 : Int32)) % (256 : Int32)) + (1 : Int32)).toInt64))) &&& (255 : Int64)).toInt32))] [])) _
    refine XS.iconst X20.here hx rfl (hb hby at_167) ?_
    show Steps p.tables e below (T20.setTop (mkF m 168 #[.val (.int p0), .val (.int p1), .val (.int (((p0 &&& (2147483647 : Int32)) % (256 : Int32)) + (1 : Int32))), .val (.ref b1), .val (.ref b5), .val (.ref b20_0), .val (.long ((2147483648 : Int64) % ((((p0 &&& (2147483647 : Int32)) % (256 : Int32)) + (1 : Int32)).toInt64))), .second, .val (.int (((-((2147483648 : Int64) % ((((p0 &&& (2147483647 : Int32)) % (256 : Int32)) + (1 : Int32)).toInt64))) &&& (255 : Int64)).toInt32))] [(.int (1 : Int32))])) _
    refine XS.goto X20.here hx rfl (pc0 := 168) (pc' := 172) rfl (hb hby at_168) (by decide) (by decide) ?_
    show Steps p.tables e below (T20.setTop (mkF m 172 #[.val (.int p0), .val (.int p1), .val (.int (((p0 &&& (2147483647 : Int32)) % (256 : Int32)) + (1 : Int32))), .val (.ref b1), .val (.ref b5), .val (.ref b20_0), .val (.long ((2147483648 : Int64) % ((((p0 &&& (2147483647 : Int32)) % (256 : Int32)) + (1 : Int32)).toInt64))), .second, .val (.int (((-((2147483648 : Int64) % ((((p0 &&& (2147483647 : Int32)) % (256 : Int32)) + (1 : Int32)).toInt64))) &&& (255 : Int64)).toInt32))] [(.int (1 : Int32))])) _
    exact retN X20 hx (t := .boolean) Bd.returns (by simp) (hb hby at_172) hr
  · show Q0pBt Z p0 p1 aU s_COMPACT_STRINGS h0 n0 _ T20.heap _
    exact ⟨rfl, N20⟩
theorem ef_rm0nAt (m : MethodId) (p0 : Int32) (p1 : Int32) : entryFrame m #[(.int p0), (.int p1)] maxLocals = mkF m 0 #[.val (.int p0), .val (.int p1), .unset, .unset, .unset, .unset, .unset, .unset, .unset] [] := by first | (simp [entryFrame, mkF, argsToLocals, Value.category, maxLocals]; done) | rfl
def Q0nAt (Z : State) (p0 : Int32) (p1 : Int32) (aU : Addr) (s_COMPACT_STRINGS : Int32) (h0 : Heap) (n0 : Nat) (v : Option Value) (h : Heap) (L : List Loc) : Prop := v = some (.int (1 : Int32)) ∧ Fr n0 L
set_option maxRecDepth 65536 in
set_option maxHeartbeats 40000000 in
theorem rm0nAt (l : Launch) (Z : State) (az : Array Value) (hw : ∀ d ∈ tables_1, d.before az Z = true) (ws : List Jvm.Cond) (p0 : Int32) (p1 : Int32) (aU : Addr) (s_COMPACT_STRINGS : Int32) (h0 : Heap) (n0 : Nat) (Z0 : n0 ≤ h0.size) (S_INSTANCE : Sta Z h0 "sun/nio/cs/UTF_8" "INSTANCE" "Lsun/nio/cs/UTF_8;" (.ref aU)) (S_UTF_8 : Sta Z h0 "java/nio/charset/StandardCharsets" "UTF_8" "Ljava/nio/charset/Charset;" (.ref aU)) (S_COMPACT_STRINGS : Sta Z h0 "java/lang/String" "COMPACT_STRINGS" "Z" (.int s_COMPACT_STRINGS)) (hc3 : ¬ (s_COMPACT_STRINGS = (0 : Int32))) (hc4 : ¬ ((255 : Int32) < ((p1 &&& (255 : Int32)).toUInt32.toUInt16.toUInt32.toInt32))) (hc5 : (((p1 &&& (255 : Int32)).toUInt32.toUInt16.toUInt32.toInt32).toInt8.toInt32) < (0 : Int32)) (hc6 : ¬ ((((p0 &&& (2147483647 : Int32)) % (256 : Int32)) + (1 : Int32)) < (1 : Int32))) (hc7 : ¬ ((256 : Int32) < (((p0 &&& (2147483647 : Int32)) % (256 : Int32)) + (1 : Int32)))) (hc8 : (own_bc (((p0 &&& (2147483647 : Int32)) % (256 : Int32)) + (1 : Int32))) = (1 : Int32)) (hc9 : ¬ (((((p0 &&& (2147483647 : Int32)) % (256 : Int32)) + (1 : Int32)) - (1 : Int32)) < (0 : Int32))) (hc10 : ((((-2147483648 : Int32) &&& ((((p0 &&& (2147483647 : Int32)) % (256 : Int32)) + (1 : Int32)) - (1 : Int32))).toInt8.toInt32) &&& (255 : Int32)) < (((p0 &&& (2147483647 : Int32)) % (256 : Int32)) + (1 : Int32))) (hc11 : ((((p0 &&& (2147483647 : Int32)) % (256 : Int32)) + (1 : Int32)).toInt64) ≠ (0 : Int64)) (hc12 : (((-((2147483648 : Int64) % ((((p0 &&& (2147483647 : Int32)) % (256 : Int32)) + (1 : Int32)).toInt64))) &&& (255 : Int64)).toInt32) < (((p0 &&& (2147483647 : Int32)) % (256 : Int32)) + (1 : Int32))) :
    MetFree l x (head1 (Jvm.Cond.code x code maxLocals ret :: ws) room_1) (fun a U => a = #[(.int p0), (.int p1)] ∧ Z.Warmed39 U.vm ∧ U.heap = h0) (fun _ _ _ _ _ => True) (fun _ U o U' => ∃ v L, o = .returned v ∧ Q0nAt Z p0 p1 aU s_COMPACT_STRINGS h0 n0 v U'.heap L ∧ ReturnedEndW U o U' L room_1.cells room_1.slots) := by
  refine MetFree.of_bodySF (plainFor_of_name pn_com_example_fireweed_fireweed_layout_Java31ByteSaltBytesPinLaw) hisR ?_
  intro p e s m args below meth c s₁ Bd hml0 hP hK
  obtain ⟨rfl, hZ, hh⟩ := hP
  have hx := Bd.exec
  have hby := Bd.bytes
  have hml : c.maxLocals = 9 := hml0
  have hown : s.vm.findClass "com/example/fireweed/fireweed/layout/Java31ByteSaltBytesPinLaw" = some m.cls := findClass_of_methodNamed Bd.named
  have hnm := (name_of_methodNamed Bd.named Bd.method).1
  have X0 : Stand p l e room_1 s m #[(.int p0), (.int p1)] below meth c s₁ [] 0 0 := Stand.of_body Bd
  have e0 : s₁.heap = h0 := by rw [← hh, Bd.state]; rfl
  have N0 := Fr.nil n0
  have pre0 : ∀ t, Steps p.tables e below (s₁.setTop (mkF m 0 #[.val (.int p0), .val (.int p1), .unset, .unset, .unset, .unset, .unset, .unset, .unset] [])) t → Steps p.tables e below (s₁.setTop (entryFrame m #[(.int p0), (.int p1)] maxLocals)) t := fun t k => castTop (ef_rm0nAt m p0 p1) k
  have hS0 : s.Since s.vm 0 := (State.WarmedH.refl s).since 0
  have wS : ∀ a ∈ Bundle.stringAtoms, a.before az Z = true := fun d hd => by
    simp only [Bundle.stringAtoms, List.mem_cons, List.not_mem_nil, or_false] at hd
    rcases hd with rfl | rfl | rfl | rfl | rfl | rfl | rfl
    · exact (hw _ (List.mem_of_getElem? (i := 7) rfl))
    · exact (hw _ (List.mem_of_getElem? (i := 6) rfl))
    · exact (hw _ (List.mem_of_getElem? (i := 23) rfl))
    · exact (hw _ (List.mem_of_getElem? (i := 33) rfl))
    · exact (hw _ (List.mem_of_getElem? (i := 31) rfl))
    · exact (hw _ (List.mem_of_getElem? (i := 49) rfl))
    · exact (hw _ (List.mem_of_getElem? (i := 50) rfl))
  obtain ⟨T1, h1, k1, X1, e1, E1, A1, x1, st1⟩ := newPE X0 hx hZ (hw _ (List.mem_of_getElem? (i := 1) rfl)) e0 (g := (mkF m 12 #[.val (.int p0), .val (.int p1), .val (.int (((p0 &&& (2147483647 : Int32)) % (256 : Int32)) + (1 : Int32))), .unset, .unset, .unset, .unset, .unset, .unset] [(.int (1 : Int32))])) rfl (hb hby at_12) rfl (by decide) (cap := 1) (by decide) (by decide) (by decide) (by decide) (ad := "[C") (by decide)
  obtain ⟨b1, g1⟩ : ∃ z, z = h0.size := ⟨_, rfl⟩
  rw [← g1] at A1 x1 st1
  have g_b1 : n0 ≤ b1 := Nat.le_trans Z0 (Nat.le_of_eq g1.symm)
  have sz_b1 : h0.size ≤ b1 := Nat.le_trans (Nat.le_refl _) (Nat.le_of_eq g1.symm)
  have Z1 : n0 ≤ h1.size := Nat.le_trans Z0 E1.1
  have K1 : Keep h0 h1 [] := (Keep.refl h0 []).ext E1
  have E_b1 := x1
  have V_b1 : Arv Z h1 b1 k1 .char (1 : Int32) [(.int (0 : Int32))] (.int (0 : Int32)) := (Arv.new A1 (by decide)).pad (pad_rep [] (.int (0 : Int32)) 1)
  obtain ⟨cl2, Ar2, qk2, Sz2, Ng2, Hs2, Gf2⟩ := id V_b1
  have hin3 : ¬ ((0 : Int32) < 0 ∨ cl2.slots.size ≤ ((0 : Int32)).toNatClampNeg) := inb_of Sz2 ⟨by decide, by decide⟩
  obtain ⟨T4, h4, X4, e4, W4, st4⟩ := stC X1 hx hZ e1 Ar2 (j := (0 : Int32)) hin3 (g := (mkF m 22 #[.val (.int p0), .val (.int p1), .val (.int (((p0 &&& (2147483647 : Int32)) % (256 : Int32)) + (1 : Int32))), .unset, .unset, .unset, .unset, .unset, .unset] [(.int ((p1 &&& (255 : Int32)).toUInt32.toUInt16.toUInt32.toInt32)), (.int (0 : Int32)), (.ref b1), (.ref b1)])) rfl rfl (hb hby at_22)
  rw [(own_nc _)] at W4
  have K4 : Keep h0 h4 [] := K1.wr W4 (Or.inr sz_b1)
  have V_b1_4 : Arv Z h4 b1 k1 .char (1 : Int32) [(.int ((p1 &&& (255 : Int32)).toUInt32.toUInt16.toUInt32.toInt32))] (.int (0 : Int32)) := Arv.set (v := (.int ((p1 &&& (255 : Int32)).toUInt32.toUInt16.toUInt32.toInt32))) Ar2 qk2 Sz2 Ng2 Hs2 Gf2 (own_fits (own_nc _) (fits_nar_char _)) W4 0 rfl (Nat.le_of_ble_eq_true rfl)
  have Z4 : n0 ≤ h4.size := Nat.le_trans Z1 (Keep.of_wr W4).1
  have N4 := Fr.snoc X4 N0 g_b1
  obtain ⟨T5, h5, X5, e5, E5, A5, D5, -, st5⟩ := newO X4 hx hZ hown (hw _ (List.mem_of_getElem? (i := 2) rfl)) (hw _ (List.mem_of_getElem? (i := 3) rfl)) (hw _ (List.mem_of_getElem? (i := 4) rfl)) e4 (g := (mkF m 24 #[.val (.int p0), .val (.int p1), .val (.int (((p0 &&& (2147483647 : Int32)) % (256 : Int32)) + (1 : Int32))), .val (.ref b1), .unset, .unset, .unset, .unset, .unset] [])) rfl (hb hby at_24) (by decide) (by decide)
  obtain ⟨b5, g5⟩ : ∃ z, z = h4.size := ⟨_, rfl⟩
  rw [← g5] at A5 D5 st5
  have g_b5 : n0 ≤ b5 := Nat.le_trans Z4 (Nat.le_of_eq g5.symm)
  have sz_b5 : h0.size ≤ b5 := Nat.le_trans K4.1 (Nat.le_of_eq g5.symm)
  have Z5 : n0 ≤ h5.size := Nat.le_trans Z4 E5.1
  have K5 : Keep h0 h5 [] := K4.ext E5
  have E_b5 := A5
  have F_suffix_b5 : Fld Z h5 b5 "com/example/fireweed/fireweed/layout/Salt" "suffix" "Ljava/lang/String;" .null := D5 (Or.inr (hw _ (List.mem_of_getElem? (i := 57) rfl))) (ty := (.object "java/lang/String")) (by decide)
  have F_suffixBytes_b5 : Fld Z h5 b5 "com/example/fireweed/fireweed/layout/Salt" "suffixBytes" "[B" .null := D5 (Or.inr (hw _ (List.mem_of_getElem? (i := 95) rfl))) (ty := (.array .byte)) (by decide)
  have F_buckets_b5 : Fld Z h5 b5 "com/example/fireweed/fireweed/layout/Java31ByteSalt" "buckets" "I" (.int (0 : Int32)) := D5 (Or.inr (hw _ (List.mem_of_getElem? (i := 97) rfl))) (ty := .int) (by decide)
  have F_mask_b5 : Fld Z h5 b5 "com/example/fireweed/fireweed/layout/Java31ByteSalt" "mask" "I" (.int (0 : Int32)) := D5 (Or.inr (hw _ (List.mem_of_getElem? (i := 106) rfl))) (ty := .int) (by decide)
  have F_overflow_b5 : Fld Z h5 b5 "com/example/fireweed/fireweed/layout/Java31ByteSalt" "overflow" "I" (.int (0 : Int32)) := D5 (Or.inr (hw _ (List.mem_of_getElem? (i := 121) rfl))) (ty := .int) (by decide)
  obtain ⟨T6, h6, X6, e6, E6, A6, D6, -, st6⟩ := newO X5 hx hZ hown (hw _ (List.mem_of_getElem? (i := 5) rfl)) (hw _ (List.mem_of_getElem? (i := 6) rfl)) (hw _ (List.mem_of_getElem? (i := 7) rfl)) e5 (g := (mkF m 29 #[.val (.int p0), .val (.int p1), .val (.int (((p0 &&& (2147483647 : Int32)) % (256 : Int32)) + (1 : Int32))), .val (.ref b1), .unset, .unset, .unset, .unset, .unset] [(.int (((p0 &&& (2147483647 : Int32)) % (256 : Int32)) + (1 : Int32))), (.ref b5), (.ref b5)])) rfl (hb hby at_29) (by decide) (by decide)
  obtain ⟨b6, g6⟩ : ∃ z, z = h5.size := ⟨_, rfl⟩
  rw [← g6] at A6 D6 st6
  have g_b6 : n0 ≤ b6 := Nat.le_trans Z5 (Nat.le_of_eq g6.symm)
  have sz_b6 : h0.size ≤ b6 := Nat.le_trans K5.1 (Nat.le_of_eq g6.symm)
  have Z6 : n0 ≤ h6.size := Nat.le_trans Z5 E6.1
  have K6 : Keep h0 h6 [] := K5.ext E6
  have E_b6 := A6
  have F_coder_b6 : Fld Z h6 b6 "java/lang/String" "coder" "B" (.int (0 : Int32)) := D6 (Or.inr (hw _ (List.mem_of_getElem? (i := 31) rfl))) (ty := .byte) (by decide)
  have F_value_b6 : Fld Z h6 b6 "java/lang/String" "value" "[B" .null := D6 (Or.inr (hw _ (List.mem_of_getElem? (i := 33) rfl))) (ty := (.array .byte)) (by decide)
  have V_b1_u8 : Arv Z h6 b1 k1 .char (1 : Int32) [(.int ((p1 &&& (255 : Int32)).toUInt32.toUInt16.toUInt32.toInt32))] (.int (0 : Int32)) := ((V_b1_4.ext E5).ext E6)
  have S_String_COMPACT_STRINGS_u9 : Sta Z h6 "java/lang/String" "COMPACT_STRINGS" "Z" (.int s_COMPACT_STRINGS) := ((((S_COMPACT_STRINGS.ext E1).wr W4).ext E5).ext E6)
  obtain ⟨_, _, ⟨T7, L7, k7', n7'⟩, -, X7, ⟨Lc7, hQ7, l7, y7, z7⟩, st7⟩ := X6.specialBack hx (y := (⟨"java/lang/String", "<init>", "([C)V"⟩ : MethodName)) rfl hown (mvT hZ (hw _ (List.mem_of_getElem? (i := 8) rfl))) (mvT hZ (hw _ (List.mem_of_getElem? (i := 9) rfl))) (mvT hZ (hw _ (List.mem_of_getElem? (i := 10) rfl))) (by decide) (backOf (W := 4) (rm1_1 l Z az hw [] b6 b1 k1 ((p1 &&& (255 : Int32)).toUInt32.toUInt16.toUInt32.toInt32) s_COMPACT_STRINGS h6 n0 Z6 E_b6 F_coder_b6 F_value_b6 V_b1_u8 S_String_COMPACT_STRINGS_u9 hc3 hc4 g_b6) hZ (hw _ (List.mem_of_getElem? (i := 10) rfl)) (hw _ (List.mem_of_getElem? (i := 7) rfl)) (by decide) (by decide)) (g := (mkF m 34 #[.val (.int p0), .val (.int p1), .val (.int (((p0 &&& (2147483647 : Int32)) % (256 : Int32)) + (1 : Int32))), .val (.ref b1), .unset, .unset, .unset, .unset, .unset] [(.ref b1), (.ref b6), (.ref b6), (.int (((p0 &&& (2147483647 : Int32)) % (256 : Int32)) + (1 : Int32))), (.ref b5), (.ref b5)])) rfl (by rw [hml]; rfl) (Steps.refl _) (a := b6) (argsL := [(.ref b1)]) (rest := [(.ref b6), (.int (((p0 &&& (2147483647 : Int32)) % (256 : Int32)) + (1 : Int32))), (.ref b5), (.ref b5)]) (lenOf pd_16 rfl) rfl (by show 2 * 0 + _ ≤ _; exact Nat.le_of_eq rfl) (hb hby at_34) (fun _ _ => ⟨rfl, e6, (by decide : 3 + 1 ≤ _), (by decide : 10 + 1 ≤ _)⟩)
  dsimp only [Pt.U, Pt.locs, Pt.cells, Pt.slots] at X7 l7 y7 z7 st7 hQ7
  subst l7 y7 z7
  obtain ⟨b7_0, kk7_0, rfl, N7q, s7_0, kq7, pf7_0, pf7_1, pf7_2, pf7_3, pf7_4⟩ := hQ7
  have N7 := Fr.app N4 N7q
  have g_b7_0 : n0 ≤ b7_0 := Nat.le_trans Z6 s7_0
  have sz_b7_0 : h0.size ≤ b7_0 := Nat.le_trans K6.1 s7_0
  have K7 : Keep h0 T7.heap [] := K6.trans kq7 (allS (Or.inr sz_b6) all0)
  have Z7 : n0 ≤ T7.heap.size := Nat.le_trans Z6 kq7.1
  have E_b5_u11 : Exa Z T7.heap b5 "com/example/fireweed/fireweed/layout/Java31ByteSalt" := ((E_b5.ext E6).keep kq7)
  have ne_b5_b6 : b5 ≠ b6 := own_ne (Nat.lt_of_lt_of_le E_b5.lt (Nat.le_of_eq g6.symm))
  have F_b5_suffix_u12 : Fld Z T7.heap b5 "com/example/fireweed/fireweed/layout/Salt" "suffix" "Ljava/lang/String;" .null := ((F_suffix_b5.ext E6).keep kq7 (ninS ne_b5_b6 nin0))
  have F_b5_suffixBytes_u13 : Fld Z T7.heap b5 "com/example/fireweed/fireweed/layout/Salt" "suffixBytes" "[B" .null := ((F_suffixBytes_b5.ext E6).keep kq7 (ninS ne_b5_b6 nin0))
  have F_b5_buckets_u14 : Fld Z T7.heap b5 "com/example/fireweed/fireweed/layout/Java31ByteSalt" "buckets" "I" (.int (0 : Int32)) := ((F_buckets_b5.ext E6).keep kq7 (ninS ne_b5_b6 nin0))
  have F_b5_mask_u15 : Fld Z T7.heap b5 "com/example/fireweed/fireweed/layout/Java31ByteSalt" "mask" "I" (.int (0 : Int32)) := ((F_mask_b5.ext E6).keep kq7 (ninS ne_b5_b6 nin0))
  have F_b5_overflow_u16 : Fld Z T7.heap b5 "com/example/fireweed/fireweed/layout/Java31ByteSalt" "overflow" "I" (.int (0 : Int32)) := ((F_overflow_b5.ext E6).keep kq7 (ninS ne_b5_b6 nin0))
  have S_UTF_8_INSTANCE_u17 : Sta Z T7.heap "sun/nio/cs/UTF_8" "INSTANCE" "Lsun/nio/cs/UTF_8;" (.ref aU) := (own_Sta ((((S_INSTANCE.ext E1).wr W4).ext E5).ext E6) kq7 (allS (P := fun x => ∀ cell : Cell, _ → cell.vm.isStatics = false) E_b6.nostat (fun _ m => nomatch m)))
  have S_StandardCharsets_UTF_8_u18 : Sta Z T7.heap "java/nio/charset/StandardCharsets" "UTF_8" "Ljava/nio/charset/Charset;" (.ref aU) := (own_Sta ((((S_UTF_8.ext E1).wr W4).ext E5).ext E6) kq7 (allS (P := fun x => ∀ cell : Cell, _ → cell.vm.isStatics = false) E_b6.nostat (fun _ m => nomatch m)))
  have S_String_COMPACT_STRINGS_u19 : Sta Z T7.heap "java/lang/String" "COMPACT_STRINGS" "Z" (.int s_COMPACT_STRINGS) := (own_Sta S_String_COMPACT_STRINGS_u9 kq7 (allS (P := fun x => ∀ cell : Cell, _ → cell.vm.isStatics = false) E_b6.nostat (fun _ m => nomatch m)))
  have ne_b5_b7_0 : b5 ≠ b7_0 := own_ne (Nat.lt_of_lt_of_le (E_b5.ext E6).lt s7_0)
  obtain ⟨_, _, ⟨T10, L10, k10', n10'⟩, -, Y10, yS10, yg10, ⟨Lc10, hQ10, l10, y10, z10⟩, st10⟩ := X7.specialBackS hx (y := (⟨"com/example/fireweed/fireweed/layout/Java31ByteSalt", "<init>", "(ILjava/lang/String;)V"⟩ : MethodName)) rfl hown (mvT hZ (hw _ (List.mem_of_getElem? (i := 34) rfl))) (mvT hZ (hw _ (List.mem_of_getElem? (i := 35) rfl))) (mvT hZ (hw _ (List.mem_of_getElem? (i := 36) rfl))) (by decide) (backOfS (W := 1) (rm7nA l Z az hw [] b5 (((p0 &&& (2147483647 : Int32)) % (256 : Int32)) + (1 : Int32)) b6 b7_0 kk7_0 (((p1 &&& (255 : Int32)).toUInt32.toUInt16.toUInt32.toInt32).toInt8.toInt32) aU s_COMPACT_STRINGS T7.heap n0 Z7 E_b5_u11 F_b5_suffix_u12 F_b5_suffixBytes_u13 F_b5_buckets_u14 F_b5_mask_u15 F_b5_overflow_u16 pf7_0 pf7_1 pf7_2 pf7_4 pf7_3 S_UTF_8_INSTANCE_u17 S_StandardCharsets_UTF_8_u18 hc5 S_String_COMPACT_STRINGS_u19 g_b5 (Ne.symm ne_b5_b6) (Ne.symm ne_b5_b7_0) hc3 hc6 hc7 hc8 hc9) hZ (hw _ (List.mem_of_getElem? (i := 36) rfl)) (hw _ (List.mem_of_getElem? (i := 4) rfl)) (by decide) (by decide)) (g := (mkF m 37 #[.val (.int p0), .val (.int p1), .val (.int (((p0 &&& (2147483647 : Int32)) % (256 : Int32)) + (1 : Int32))), .val (.ref b1), .unset, .unset, .unset, .unset, .unset] [(.ref b6), (.int (((p0 &&& (2147483647 : Int32)) % (256 : Int32)) + (1 : Int32))), (.ref b5), (.ref b5)])) rfl (by rw [hml]; rfl) (Steps.refl _) (a := b5) (argsL := [(.int (((p0 &&& (2147483647 : Int32)) % (256 : Int32)) + (1 : Int32))), (.ref b6)]) (rest := [(.ref b5)]) (lenOf pd_17 rfl) rfl (by show 2 * 0 + _ ≤ _; exact Nat.le_of_eq rfl) (hb hby at_37) (fun _ _ => ⟨rfl, rfl, (by decide : 4 + 3 ≤ _), (by decide : 11 + 30 ≤ _)⟩)
  dsimp only [Pt.U, Pt.locs, Pt.cells, Pt.slots] at Y10 yS10 yg10 l10 y10 z10 st10 hQ10
  subst l10 y10 z10
  obtain ⟨X10, hS10, hZ10, hown10⟩ := rebS (s := s) (vm0 := s.vm) hS0 (Nat.le_trans (Nat.le_trans (Nat.le_trans (Nat.le_trans (Nat.le_trans (Nat.zero_le _) E1.1) (Keep.of_wr W4).1) E5.1) E6.1) kq7.1) Y10 yS10 yg10 hZ hown
  obtain ⟨b10_0, kk10_0, rfl, N10q, s10_0, kq10, pf10_0, pf10_1, pf10_2, pf10_3, pf10_4, pf10_5, pf10_6, pf10_7⟩ := hQ10
  have N10 := Fr.app N7 N10q
  have g_b10_0 : n0 ≤ b10_0 := Nat.le_trans Z7 s10_0
  have sz_b10_0 : h0.size ≤ b10_0 := Nat.le_trans K7.1 s10_0
  have K10 : Keep h0 T10.heap [] := K7.trans kq10 (allS (Or.inr sz_b5) all0)
  have Z10 : n0 ≤ T10.heap.size := Nat.le_trans Z7 kq10.1
  obtain ⟨cq20, kq20, q20a, q20b, q20c⟩ := isOf hZ10 rfl pf10_0
  obtain ⟨_, _, ⟨T20, L20, k20', n20'⟩, -, X20, ⟨Lc20, hQ20, l20, y20, z20⟩, st20⟩ := X10.virtualBack hx (y := (⟨"com/example/fireweed/fireweed/layout/Java31ByteSalt", "bytes", "()[I"⟩ : MethodName)) (z := (⟨"com/example/fireweed/fireweed/layout/Java31ByteSalt", "bytes", "()[I"⟩ : MethodName)) hown10 (mvT hZ10 (hw _ (List.mem_of_getElem? (i := 122) rfl))) (mvT hZ10 (hw _ (List.mem_of_getElem? (i := 123) rfl))) (notFace_of_selects (args := #[]) (mvT hZ10 (hw _ (List.mem_of_getElem? (i := 125) rfl)))) (mvT hZ10 (hw _ (List.mem_of_getElem? (i := 125) rfl))) (mvT hZ10 (hw _ (List.mem_of_getElem? (i := 124) rfl))) (by decide) (backOf (W := 0) (rm21t l Z az hw [] b5 ((((-2147483648 : Int32) &&& ((((p0 &&& (2147483647 : Int32)) % (256 : Int32)) + (1 : Int32)) - (1 : Int32))).toInt8.toInt32) &&& (255 : Int32)) (((p0 &&& (2147483647 : Int32)) % (256 : Int32)) + (1 : Int32)) T10.heap n0 Z10 pf10_5 pf10_3 hc10) hZ10 (hw _ (List.mem_of_getElem? (i := 126) rfl)) (hw _ (List.mem_of_getElem? (i := 4) rfl)) (by decide) (by decide)) q20a q20c (g := (mkF m 44 #[.val (.int p0), .val (.int p1), .val (.int (((p0 &&& (2147483647 : Int32)) % (256 : Int32)) + (1 : Int32))), .val (.ref b1), .val (.ref b5), .unset, .unset, .unset, .unset] [(.ref b5)])) rfl (by rw [hml]; rfl) (Steps.refl _) (argsL := []) (rest := []) (lenOf pd_18 rfl) rfl (by show 2 * 0 + _ ≤ _; exact Nat.le_of_eq rfl) (hb hby at_44) (fun _ _ => ⟨rfl, rfl, (by decide : 7 + 1 ≤ _), (by decide : 41 + 3 ≤ _)⟩)
  dsimp only [Pt.U, Pt.locs, Pt.cells, Pt.slots] at X20 l20 y20 z20 st20 hQ20
  subst l20 y20 z20
  obtain ⟨b20_0, kk20_0, rfl, N20q, s20_0, kq20, pf20_0, pf20_1⟩ := hQ20
  have N20 := Fr.app N10 N20q
  have g_b20_0 : n0 ≤ b20_0 := Nat.le_trans Z10 s20_0
  have sz_b20_0 : h0.size ≤ b20_0 := Nat.le_trans K10.1 s20_0
  have K20 : Keep h0 T20.heap [] := K10.trans kq20 all0
  have Z20 : n0 ≤ T20.heap.size := Nat.le_trans Z10 kq20.1
  obtain ⟨cl21, Ar21, qk21, Sz21, Ng21, Hs21, Gf21⟩ := id pf20_1
  have hin22 : ¬ ((0 : Int32) < 0 ∨ cl21.slots.size ≤ ((0 : Int32)).toNatClampNeg) := inb_of Sz21 ⟨by decide, by decide⟩
  have hat23 : cl21.slots[((0 : Int32)).toNatClampNeg]? = some (.int (0 : Int32)) := Hs21.at hin22 rfl
  have hin24 : ¬ ((1 : Int32) < 0 ∨ cl21.slots.size ≤ ((1 : Int32)).toNatClampNeg) := inb_of Sz21 ⟨by decide, by decide⟩
  have hat25 : cl21.slots[((1 : Int32)).toNatClampNeg]? = some (.int ((((p0 &&& (2147483647 : Int32)) % (256 : Int32)) + (1 : Int32)) - (1 : Int32))) := Hs21.at hin24 rfl
  have hin26 : ¬ ((2 : Int32) < 0 ∨ cl21.slots.size ≤ ((2 : Int32)).toNatClampNeg) := inb_of Sz21 ⟨by decide, by decide⟩
  have hat27 : cl21.slots[((2 : Int32)).toNatClampNeg]? = some (.int (0 : Int32)) := Hs21.at hin26 rfl
  obtain ⟨fs, hr, hrun, hended, hWE⟩ := X20.leaveW (s := s) hS10 (Nat.le_trans (Nat.le_refl _) kq20.1) (v := some (.int (1 : Int32))) (fun h => by rw [Bd.returns] at h; cases h)
  refine ⟨_, _, pre0 _ ?_, hrun, hended, _, _, rfl, ?_, hWE.1, hWE.2.1, hWE.2.2.1, hWE.2.2.2.mono (by decide) (by decide)⟩
  · show Steps p.tables e below (s₁.setTop (mkF m 0 #[.val (.int p0), .val (.int p1), .unset, .unset, .unset, .unset, .unset, .unset, .unset] [])) _
    refine XS.iloadN X0.here hx rfl (hb hby at_0) rfl ?_
    show Steps p.tables e below (s₁.setTop (mkF m 1 #[.val (.int p0), .val (.int p1), .unset, .unset, .unset, .unset, .unset, .unset, .unset] [(.int p0)])) _
    refine X0.ldcInt hx hown (mvT hZ (hw _ (List.mem_of_getElem? (i := 0) rfl))) (g := (mkF m 1 #[.val (.int p0), .val (.int p1), .unset, .unset, .unset, .unset, .unset, .unset, .unset] [(.int p0)])) rfl (hb hby at_1) _ ?_
    show Steps p.tables e below (s₁.setTop (mkF m 3 #[.val (.int p0), .val (.int p1), .unset, .unset, .unset, .unset, .unset, .unset, .unset] [(.int (2147483647 : Int32)), (.int p0)])) _
    refine XS.iand X0.here hx rfl (hb hby at_3) rfl ?_
    show Steps p.tables e below (s₁.setTop (mkF m 4 #[.val (.int p0), .val (.int p1), .unset, .unset, .unset, .unset, .unset, .unset, .unset] [(.int (p0 &&& (2147483647 : Int32)))])) _
    refine XS.sipush X0.here hx rfl (hb hby at_4) ?_
    show Steps p.tables e below (s₁.setTop (mkF m 7 #[.val (.int p0), .val (.int p1), .unset, .unset, .unset, .unset, .unset, .unset, .unset] [(.int (256 : Int32)), (.int (p0 &&& (2147483647 : Int32)))])) _
    refine iremM X0 hx rfl (hb hby at_7) rfl (by decide) ?_
    show Steps p.tables e below (s₁.setTop (mkF m 8 #[.val (.int p0), .val (.int p1), .unset, .unset, .unset, .unset, .unset, .unset, .unset] [(.int ((p0 &&& (2147483647 : Int32)) % (256 : Int32)))])) _
    refine XS.iconst X0.here hx rfl (hb hby at_8) ?_
    show Steps p.tables e below (s₁.setTop (mkF m 9 #[.val (.int p0), .val (.int p1), .unset, .unset, .unset, .unset, .unset, .unset, .unset] [(.int (1 : Int32)), (.int ((p0 &&& (2147483647 : Int32)) % (256 : Int32)))])) _
    refine XS.iadd X0.here hx rfl (hb hby at_9) rfl ?_
    show Steps p.tables e below (s₁.setTop (mkF m 10 #[.val (.int p0), .val (.int p1), .unset, .unset, .unset, .unset, .unset, .unset, .unset] [(.int (((p0 &&& (2147483647 : Int32)) % (256 : Int32)) + (1 : Int32)))])) _
    refine XS.istoreN X0.here hx rfl (hb hby at_10) rfl (l' := #[.val (.int p0), .val (.int p1), .val (.int (((p0 &&& (2147483647 : Int32)) % (256 : Int32)) + (1 : Int32))), .unset, .unset, .unset, .unset, .unset, .unset]) rfl ?_
    show Steps p.tables e below (s₁.setTop (mkF m 11 #[.val (.int p0), .val (.int p1), .val (.int (((p0 &&& (2147483647 : Int32)) % (256 : Int32)) + (1 : Int32))), .unset, .unset, .unset, .unset, .unset, .unset] [])) _
    refine XS.iconst X0.here hx rfl (hb hby at_11) ?_
    show Steps p.tables e below (s₁.setTop (mkF m 12 #[.val (.int p0), .val (.int p1), .val (.int (((p0 &&& (2147483647 : Int32)) % (256 : Int32)) + (1 : Int32))), .unset, .unset, .unset, .unset, .unset, .unset] [(.int (1 : Int32))])) _
    refine st1 _ ?_
    show Steps p.tables e below (T1.setTop (mkF m 14 #[.val (.int p0), .val (.int p1), .val (.int (((p0 &&& (2147483647 : Int32)) % (256 : Int32)) + (1 : Int32))), .unset, .unset, .unset, .unset, .unset, .unset] [(.ref b1)])) _
    refine XS.dup X1.here hx rfl (hb hby at_14) rfl rfl ?_
    show Steps p.tables e below (T1.setTop (mkF m 15 #[.val (.int p0), .val (.int p1), .val (.int (((p0 &&& (2147483647 : Int32)) % (256 : Int32)) + (1 : Int32))), .unset, .unset, .unset, .unset, .unset, .unset] [(.ref b1), (.ref b1)])) _
    refine XS.iconst X1.here hx rfl (hb hby at_15) ?_
    show Steps p.tables e below (T1.setTop (mkF m 16 #[.val (.int p0), .val (.int p1), .val (.int (((p0 &&& (2147483647 : Int32)) % (256 : Int32)) + (1 : Int32))), .unset, .unset, .unset, .unset, .unset, .unset] [(.int (0 : Int32)), (.ref b1), (.ref b1)])) _
    refine XS.iloadN X1.here hx rfl (hb hby at_16) rfl ?_
    show Steps p.tables e below (T1.setTop (mkF m 17 #[.val (.int p0), .val (.int p1), .val (.int (((p0 &&& (2147483647 : Int32)) % (256 : Int32)) + (1 : Int32))), .unset, .unset, .unset, .unset, .unset, .unset] [(.int p1), (.int (0 : Int32)), (.ref b1), (.ref b1)])) _
    refine XS.sipush X1.here hx rfl (hb hby at_17) ?_
    show Steps p.tables e below (T1.setTop (mkF m 20 #[.val (.int p0), .val (.int p1), .val (.int (((p0 &&& (2147483647 : Int32)) % (256 : Int32)) + (1 : Int32))), .unset, .unset, .unset, .unset, .unset, .unset] [(.int (255 : Int32)), (.int p1), (.int (0 : Int32)), (.ref b1), (.ref b1)])) _
    refine XS.iand X1.here hx rfl (hb hby at_20) rfl ?_
    show Steps p.tables e below (T1.setTop (mkF m 21 #[.val (.int p0), .val (.int p1), .val (.int (((p0 &&& (2147483647 : Int32)) % (256 : Int32)) + (1 : Int32))), .unset, .unset, .unset, .unset, .unset, .unset] [(.int (p1 &&& (255 : Int32))), (.int (0 : Int32)), (.ref b1), (.ref b1)])) _
    refine XS.i2c X1.here hx rfl (hb hby at_21) rfl ?_
    show Steps p.tables e below (T1.setTop (mkF m 22 #[.val (.int p0), .val (.int p1), .val (.int (((p0 &&& (2147483647 : Int32)) % (256 : Int32)) + (1 : Int32))), .unset, .unset, .unset, .unset, .unset, .unset] [(.int ((p1 &&& (255 : Int32)).toUInt32.toUInt16.toUInt32.toInt32)), (.int (0 : Int32)), (.ref b1), (.ref b1)])) _
    refine st4 _ ?_
    show Steps p.tables e below (T4.setTop (mkF m 23 #[.val (.int p0), .val (.int p1), .val (.int (((p0 &&& (2147483647 : Int32)) % (256 : Int32)) + (1 : Int32))), .unset, .unset, .unset, .unset, .unset, .unset] [(.ref b1)])) _
    refine XS.astoreN X4.here hx rfl (hb hby at_23) rfl rfl (l' := #[.val (.int p0), .val (.int p1), .val (.int (((p0 &&& (2147483647 : Int32)) % (256 : Int32)) + (1 : Int32))), .val (.ref b1), .unset, .unset, .unset, .unset, .unset]) rfl ?_
    show Steps p.tables e below (T4.setTop (mkF m 24 #[.val (.int p0), .val (.int p1), .val (.int (((p0 &&& (2147483647 : Int32)) % (256 : Int32)) + (1 : Int32))), .val (.ref b1), .unset, .unset, .unset, .unset, .unset] [])) _
    refine st5 _ ?_
    show Steps p.tables e below (T5.setTop (mkF m 27 #[.val (.int p0), .val (.int p1), .val (.int (((p0 &&& (2147483647 : Int32)) % (256 : Int32)) + (1 : Int32))), .val (.ref b1), .unset, .unset, .unset, .unset, .unset] [(.ref b5)])) _
    refine XS.dup X5.here hx rfl (hb hby at_27) rfl rfl ?_
    show Steps p.tables e below (T5.setTop (mkF m 28 #[.val (.int p0), .val (.int p1), .val (.int (((p0 &&& (2147483647 : Int32)) % (256 : Int32)) + (1 : Int32))), .val (.ref b1), .unset, .unset, .unset, .unset, .unset] [(.ref b5), (.ref b5)])) _
    refine XS.iloadN X5.here hx rfl (hb hby at_28) rfl ?_
    show Steps p.tables e below (T5.setTop (mkF m 29 #[.val (.int p0), .val (.int p1), .val (.int (((p0 &&& (2147483647 : Int32)) % (256 : Int32)) + (1 : Int32))), .val (.ref b1), .unset, .unset, .unset, .unset, .unset] [(.int (((p0 &&& (2147483647 : Int32)) % (256 : Int32)) + (1 : Int32))), (.ref b5), (.ref b5)])) _
    refine st6 _ ?_
    show Steps p.tables e below (T6.setTop (mkF m 32 #[.val (.int p0), .val (.int p1), .val (.int (((p0 &&& (2147483647 : Int32)) % (256 : Int32)) + (1 : Int32))), .val (.ref b1), .unset, .unset, .unset, .unset, .unset] [(.ref b6), (.int (((p0 &&& (2147483647 : Int32)) % (256 : Int32)) + (1 : Int32))), (.ref b5), (.ref b5)])) _
    refine XS.dup X6.here hx rfl (hb hby at_32) rfl rfl ?_
    show Steps p.tables e below (T6.setTop (mkF m 33 #[.val (.int p0), .val (.int p1), .val (.int (((p0 &&& (2147483647 : Int32)) % (256 : Int32)) + (1 : Int32))), .val (.ref b1), .unset, .unset, .unset, .unset, .unset] [(.ref b6), (.ref b6), (.int (((p0 &&& (2147483647 : Int32)) % (256 : Int32)) + (1 : Int32))), (.ref b5), (.ref b5)])) _
    refine XS.aloadN X6.here hx rfl (hb hby at_33) rfl rfl ?_
    show Steps p.tables e below (T6.setTop (mkF m 34 #[.val (.int p0), .val (.int p1), .val (.int (((p0 &&& (2147483647 : Int32)) % (256 : Int32)) + (1 : Int32))), .val (.ref b1), .unset, .unset, .unset, .unset, .unset] [(.ref b1), (.ref b6), (.ref b6), (.int (((p0 &&& (2147483647 : Int32)) % (256 : Int32)) + (1 : Int32))), (.ref b5), (.ref b5)])) _
    refine st7.trans ?_
    show Steps p.tables e below (T7.setTop (mkF m 37 #[.val (.int p0), .val (.int p1), .val (.int (((p0 &&& (2147483647 : Int32)) % (256 : Int32)) + (1 : Int32))), .val (.ref b1), .unset, .unset, .unset, .unset, .unset] [(.ref b6), (.int (((p0 &&& (2147483647 : Int32)) % (256 : Int32)) + (1 : Int32))), (.ref b5), (.ref b5)])) _
    refine st10.trans ?_
    show Steps p.tables e below (T10.setTop (mkF m 40 #[.val (.int p0), .val (.int p1), .val (.int (((p0 &&& (2147483647 : Int32)) % (256 : Int32)) + (1 : Int32))), .val (.ref b1), .unset, .unset, .unset, .unset, .unset] [(.ref b5)])) _
    refine XS.astore X10.here hx rfl (hb hby at_40) rfl rfl (l' := #[.val (.int p0), .val (.int p1), .val (.int (((p0 &&& (2147483647 : Int32)) % (256 : Int32)) + (1 : Int32))), .val (.ref b1), .val (.ref b5), .unset, .unset, .unset, .unset]) rfl ?_
    show Steps p.tables e below (T10.setTop (mkF m 42 #[.val (.int p0), .val (.int p1), .val (.int (((p0 &&& (2147483647 : Int32)) % (256 : Int32)) + (1 : Int32))), .val (.ref b1), .val (.ref b5), .unset, .unset, .unset, .unset] [])) _
    refine XS.aload X10.here hx rfl (hb hby at_42) rfl rfl ?_
    show Steps p.tables e below (T10.setTop (mkF m 44 #[.val (.int p0), .val (.int p1), .val (.int (((p0 &&& (2147483647 : Int32)) % (256 : Int32)) + (1 : Int32))), .val (.ref b1), .val (.ref b5), .unset, .unset, .unset, .unset] [(.ref b5)])) _
    refine st20.trans ?_
    show Steps p.tables e below (T20.setTop (mkF m 47 #[.val (.int p0), .val (.int p1), .val (.int (((p0 &&& (2147483647 : Int32)) % (256 : Int32)) + (1 : Int32))), .val (.ref b1), .val (.ref b5), .unset, .unset, .unset, .unset] [(.ref b20_0)])) _
    refine XS.astore X20.here hx rfl (hb hby at_47) rfl rfl (l' := #[.val (.int p0), .val (.int p1), .val (.int (((p0 &&& (2147483647 : Int32)) % (256 : Int32)) + (1 : Int32))), .val (.ref b1), .val (.ref b5), .val (.ref b20_0), .unset, .unset, .unset]) rfl ?_
    show Steps p.tables e below (T20.setTop (mkF m 49 #[.val (.int p0), .val (.int p1), .val (.int (((p0 &&& (2147483647 : Int32)) % (256 : Int32)) + (1 : Int32))), .val (.ref b1), .val (.ref b5), .val (.ref b20_0), .unset, .unset, .unset] [])) _
    refine X20.ldc2Long hx hown10 (mvT hZ10 (hw _ (List.mem_of_getElem? (i := 128) rfl))) (g := (mkF m 49 #[.val (.int p0), .val (.int p1), .val (.int (((p0 &&& (2147483647 : Int32)) % (256 : Int32)) + (1 : Int32))), .val (.ref b1), .val (.ref b5), .val (.ref b20_0), .unset, .unset, .unset] [])) rfl (hb hby at_49) _ ?_
    show Steps p.tables e below (T20.setTop (mkF m 52 #[.val (.int p0), .val (.int p1), .val (.int (((p0 &&& (2147483647 : Int32)) % (256 : Int32)) + (1 : Int32))), .val (.ref b1), .val (.ref b5), .val (.ref b20_0), .unset, .unset, .unset] [(.long (2147483648 : Int64))])) _
    refine XS.iloadN X20.here hx rfl (hb hby at_52) rfl ?_
    show Steps p.tables e below (T20.setTop (mkF m 53 #[.val (.int p0), .val (.int p1), .val (.int (((p0 &&& (2147483647 : Int32)) % (256 : Int32)) + (1 : Int32))), .val (.ref b1), .val (.ref b5), .val (.ref b20_0), .unset, .unset, .unset] [(.int (((p0 &&& (2147483647 : Int32)) % (256 : Int32)) + (1 : Int32))), (.long (2147483648 : Int64))])) _
    refine XS.i2l X20.here hx rfl (hb hby at_53) rfl ?_
    show Steps p.tables e below (T20.setTop (mkF m 54 #[.val (.int p0), .val (.int p1), .val (.int (((p0 &&& (2147483647 : Int32)) % (256 : Int32)) + (1 : Int32))), .val (.ref b1), .val (.ref b5), .val (.ref b20_0), .unset, .unset, .unset] [(.long ((((p0 &&& (2147483647 : Int32)) % (256 : Int32)) + (1 : Int32)).toInt64)), (.long (2147483648 : Int64))])) _
    refine own_lremM X20 hx rfl (hb hby at_54) rfl hc11 ?_
    show Steps p.tables e below (T20.setTop (mkF m 55 #[.val (.int p0), .val (.int p1), .val (.int (((p0 &&& (2147483647 : Int32)) % (256 : Int32)) + (1 : Int32))), .val (.ref b1), .val (.ref b5), .val (.ref b20_0), .unset, .unset, .unset] [(.long ((2147483648 : Int64) % ((((p0 &&& (2147483647 : Int32)) % (256 : Int32)) + (1 : Int32)).toInt64)))])) _
    refine XS.lstore X20.here hx rfl (hb hby at_55) rfl (l' := #[.val (.int p0), .val (.int p1), .val (.int (((p0 &&& (2147483647 : Int32)) % (256 : Int32)) + (1 : Int32))), .val (.ref b1), .val (.ref b5), .val (.ref b20_0), .val (.long ((2147483648 : Int64) % ((((p0 &&& (2147483647 : Int32)) % (256 : Int32)) + (1 : Int32)).toInt64))), .second, .unset]) rfl ?_
    show Steps p.tables e below (T20.setTop (mkF m 57 #[.val (.int p0), .val (.int p1), .val (.int (((p0 &&& (2147483647 : Int32)) % (256 : Int32)) + (1 : Int32))), .val (.ref b1), .val (.ref b5), .val (.ref b20_0), .val (.long ((2147483648 : Int64) % ((((p0 &&& (2147483647 : Int32)) % (256 : Int32)) + (1 : Int32)).toInt64))), .second, .unset] [])) _
    refine XS.lload X20.here hx rfl (hb hby at_57) rfl ?_
    show Steps p.tables e below (T20.setTop (mkF m 59 #[.val (.int p0), .val (.int p1), .val (.int (((p0 &&& (2147483647 : Int32)) % (256 : Int32)) + (1 : Int32))), .val (.ref b1), .val (.ref b5), .val (.ref b20_0), .val (.long ((2147483648 : Int64) % ((((p0 &&& (2147483647 : Int32)) % (256 : Int32)) + (1 : Int32)).toInt64))), .second, .unset] [(.long ((2147483648 : Int64) % ((((p0 &&& (2147483647 : Int32)) % (256 : Int32)) + (1 : Int32)).toInt64)))])) _
    refine XS.lneg X20.here hx rfl (hb hby at_59) rfl ?_
    show Steps p.tables e below (T20.setTop (mkF m 60 #[.val (.int p0), .val (.int p1), .val (.int (((p0 &&& (2147483647 : Int32)) % (256 : Int32)) + (1 : Int32))), .val (.ref b1), .val (.ref b5), .val (.ref b20_0), .val (.long ((2147483648 : Int64) % ((((p0 &&& (2147483647 : Int32)) % (256 : Int32)) + (1 : Int32)).toInt64))), .second, .unset] [(.long (-((2147483648 : Int64) % ((((p0 &&& (2147483647 : Int32)) % (256 : Int32)) + (1 : Int32)).toInt64))))])) _
    refine X20.ldc2Long hx hown10 (mvT hZ10 (hw _ (List.mem_of_getElem? (i := 129) rfl))) (g := (mkF m 60 #[.val (.int p0), .val (.int p1), .val (.int (((p0 &&& (2147483647 : Int32)) % (256 : Int32)) + (1 : Int32))), .val (.ref b1), .val (.ref b5), .val (.ref b20_0), .val (.long ((2147483648 : Int64) % ((((p0 &&& (2147483647 : Int32)) % (256 : Int32)) + (1 : Int32)).toInt64))), .second, .unset] [(.long (-((2147483648 : Int64) % ((((p0 &&& (2147483647 : Int32)) % (256 : Int32)) + (1 : Int32)).toInt64))))])) rfl (hb hby at_60) _ ?_
    show Steps p.tables e below (T20.setTop (mkF m 63 #[.val (.int p0), .val (.int p1), .val (.int (((p0 &&& (2147483647 : Int32)) % (256 : Int32)) + (1 : Int32))), .val (.ref b1), .val (.ref b5), .val (.ref b20_0), .val (.long ((2147483648 : Int64) % ((((p0 &&& (2147483647 : Int32)) % (256 : Int32)) + (1 : Int32)).toInt64))), .second, .unset] [(.long (255 : Int64)), (.long (-((2147483648 : Int64) % ((((p0 &&& (2147483647 : Int32)) % (256 : Int32)) + (1 : Int32)).toInt64))))])) _
    refine XS.land X20.here hx rfl (hb hby at_63) rfl ?_
    show Steps p.tables e below (T20.setTop (mkF m 64 #[.val (.int p0), .val (.int p1), .val (.int (((p0 &&& (2147483647 : Int32)) % (256 : Int32)) + (1 : Int32))), .val (.ref b1), .val (.ref b5), .val (.ref b20_0), .val (.long ((2147483648 : Int64) % ((((p0 &&& (2147483647 : Int32)) % (256 : Int32)) + (1 : Int32)).toInt64))), .second, .unset] [(.long ((-((2147483648 : Int64) % ((((p0 &&& (2147483647 : Int32)) % (256 : Int32)) + (1 : Int32)).toInt64))) &&& (255 : Int64)))])) _
    refine XS.l2i X20.here hx rfl (hb hby at_64) rfl ?_
    show Steps p.tables e below (T20.setTop (mkF m 65 #[.val (.int p0), .val (.int p1), .val (.int (((p0 &&& (2147483647 : Int32)) % (256 : Int32)) + (1 : Int32))), .val (.ref b1), .val (.ref b5), .val (.ref b20_0), .val (.long ((2147483648 : Int64) % ((((p0 &&& (2147483647 : Int32)) % (256 : Int32)) + (1 : Int32)).toInt64))), .second, .unset] [(.int (((-((2147483648 : Int64) % ((((p0 &&& (2147483647 : Int32)) % (256 : Int32)) + (1 : Int32)).toInt64))) &&& (255 : Int64)).toInt32))])) _
    refine XS.istore X20.here hx rfl (hb hby at_65) rfl (l' := #[.val (.int p0), .val (.int p1), .val (.int (((p0 &&& (2147483647 : Int32)) % (256 : Int32)) + (1 : Int32))), .val (.ref b1), .val (.ref b5), .val (.ref b20_0), .val (.long ((2147483648 : Int64) % ((((p0 &&& (2147483647 : Int32)) % (256 : Int32)) + (1 : Int32)).toInt64))), .second, .val (.int (((-((2147483648 : Int64) % ((((p0 &&& (2147483647 : Int32)) % (256 : Int32)) + (1 : Int32)).toInt64))) &&& (255 : Int64)).toInt32))]) rfl ?_
    show Steps p.tables e below (T20.setTop (mkF m 67 #[.val (.int p0), .val (.int p1), .val (.int (((p0 &&& (2147483647 : Int32)) % (256 : Int32)) + (1 : Int32))), .val (.ref b1), .val (.ref b5), .val (.ref b20_0), .val (.long ((2147483648 : Int64) % ((((p0 &&& (2147483647 : Int32)) % (256 : Int32)) + (1 : Int32)).toInt64))), .second, .val (.int (((-((2147483648 : Int64) % ((((p0 &&& (2147483647 : Int32)) % (256 : Int32)) + (1 : Int32)).toInt64))) &&& (255 : Int64)).toInt32))] [])) _
    refine XS.iload X20.here hx rfl (hb hby at_67) rfl ?_
    show Steps p.tables e below (T20.setTop (mkF m 69 #[.val (.int p0), .val (.int p1), .val (.int (((p0 &&& (2147483647 : Int32)) % (256 : Int32)) + (1 : Int32))), .val (.ref b1), .val (.ref b5), .val (.ref b20_0), .val (.long ((2147483648 : Int64) % ((((p0 &&& (2147483647 : Int32)) % (256 : Int32)) + (1 : Int32)).toInt64))), .second, .val (.int (((-((2147483648 : Int64) % ((((p0 &&& (2147483647 : Int32)) % (256 : Int32)) + (1 : Int32)).toInt64))) &&& (255 : Int64)).toInt32))] [(.int (((-((2147483648 : Int64) % ((((p0 &&& (2147483647 : Int32)) % (256 : Int32)) + (1 : Int32)).toInt64))) &&& (255 : Int64)).toInt32))])) _
    refine XS.iloadN X20.here hx rfl (hb hby at_69) rfl ?_
    show Steps p.tables e below (T20.setTop (mkF m 70 #[.val (.int p0), .val (.int p1), .val (.int (((p0 &&& (2147483647 : Int32)) % (256 : Int32)) + (1 : Int32))), .val (.ref b1), .val (.ref b5), .val (.ref b20_0), .val (.long ((2147483648 : Int64) % ((((p0 &&& (2147483647 : Int32)) % (256 : Int32)) + (1 : Int32)).toInt64))), .second, .val (.int (((-((2147483648 : Int64) % ((((p0 &&& (2147483647 : Int32)) % (256 : Int32)) + (1 : Int32)).toInt64))) &&& (255 : Int64)).toInt32))] [(.int (((p0 &&& (2147483647 : Int32)) % (256 : Int32)) + (1 : Int32))), (.int (((-((2147483648 : Int64) % ((((p0 &&& (2147483647 : Int32)) % (256 : Int32)) + (1 : Int32)).toInt64))) &&& (255 : Int64)).toInt32))])) _
    refine XS.icmpYes X20.here hx rfl (pc0 := 70) (pc' := 136) rfl (hb hby at_70) rfl (tlt hc12).1 (by decide) (by decide) ?_
    show Steps p.tables e below (T20.setTop (mkF m 136 #[.val (.int p0), .val (.int p1), .val (.int (((p0 &&& (2147483647 : Int32)) % (256 : Int32)) + (1 : Int32))), .val (.ref b1), .val (.ref b5), .val (.ref b20_0), .val (.long ((2147483648 : Int64) % ((((p0 &&& (2147483647 : Int32)) % (256 : Int32)) + (1 : Int32)).toInt64))), .second, .val (.int (((-((2147483648 : Int64) % ((((p0 &&& (2147483647 : Int32)) % (256 : Int32)) + (1 : Int32)).toInt64))) &&& (255 : Int64)).toInt32))] [])) _
    refine XS.aload X20.here hx rfl (hb hby at_136) rfl rfl ?_
    show Steps p.tables e below (T20.setTop (mkF m 138 #[.val (.int p0), .val (.int p1), .val (.int (((p0 &&& (2147483647 : Int32)) % (256 : Int32)) + (1 : Int32))), .val (.ref b1), .val (.ref b5), .val (.ref b20_0), .val (.long ((2147483648 : Int64) % ((((p0 &&& (2147483647 : Int32)) % (256 : Int32)) + (1 : Int32)).toInt64))), .second, .val (.int (((-((2147483648 : Int64) % ((((p0 &&& (2147483647 : Int32)) % (256 : Int32)) + (1 : Int32)).toInt64))) &&& (255 : Int64)).toInt32))] [(.ref b20_0)])) _
    refine X20.arraylength hx Ar21.1 (State.isArrayOf_alike hZ10.alike Ar21.2.1) (g := (mkF m 138 #[.val (.int p0), .val (.int p1), .val (.int (((p0 &&& (2147483647 : Int32)) % (256 : Int32)) + (1 : Int32))), .val (.ref b1), .val (.ref b5), .val (.ref b20_0), .val (.long ((2147483648 : Int64) % ((((p0 &&& (2147483647 : Int32)) % (256 : Int32)) + (1 : Int32)).toInt64))), .second, .val (.int (((-((2147483648 : Int64) % ((((p0 &&& (2147483647 : Int32)) % (256 : Int32)) + (1 : Int32)).toInt64))) &&& (255 : Int64)).toInt32))] [(.ref b20_0)])) rfl rfl (hb hby at_138) _ ?_
    rw [len_of Sz21 Ng21]
    show Steps p.tables e below (T20.setTop (mkF m 139 #[.val (.int p0), .val (.int p1), .val (.int (((p0 &&& (2147483647 : Int32)) % (256 : Int32)) + (1 : Int32))), .val (.ref b1), .val (.ref b5), .val (.ref b20_0), .val (.long ((2147483648 : Int64) % ((((p0 &&& (2147483647 : Int32)) % (256 : Int32)) + (1 : Int32)).toInt64))), .second, .val (.int (((-((2147483648 : Int64) % ((((p0 &&& (2147483647 : Int32)) % (256 : Int32)) + (1 : Int32)).toInt64))) &&& (255 : Int64)).toInt32))] [(.int (3 : Int32))])) _
    refine XS.iconst X20.here hx rfl (hb hby at_139) ?_
    show Steps p.tables e below (T20.setTop (mkF m 140 #[.val (.int p0), .val (.int p1), .val (.int (((p0 &&& (2147483647 : Int32)) % (256 : Int32)) + (1 : Int32))), .val (.ref b1), .val (.ref b5), .val (.ref b20_0), .val (.long ((2147483648 : Int64) % ((((p0 &&& (2147483647 : Int32)) % (256 : Int32)) + (1 : Int32)).toInt64))), .second, .val (.int (((-((2147483648 : Int64) % ((((p0 &&& (2147483647 : Int32)) % (256 : Int32)) + (1 : Int32)).toInt64))) &&& (255 : Int64)).toInt32))] [(.int (3 : Int32)), (.int (3 : Int32))])) _
    refine XS.icmpNo X20.here hx rfl (hb hby at_140) rfl (teq (by decide : (3 : Int32) = (3 : Int32))).2 ?_
    show Steps p.tables e below (T20.setTop (mkF m 143 #[.val (.int p0), .val (.int p1), .val (.int (((p0 &&& (2147483647 : Int32)) % (256 : Int32)) + (1 : Int32))), .val (.ref b1), .val (.ref b5), .val (.ref b20_0), .val (.long ((2147483648 : Int64) % ((((p0 &&& (2147483647 : Int32)) % (256 : Int32)) + (1 : Int32)).toInt64))), .second, .val (.int (((-((2147483648 : Int64) % ((((p0 &&& (2147483647 : Int32)) % (256 : Int32)) + (1 : Int32)).toInt64))) &&& (255 : Int64)).toInt32))] [])) _
    refine XS.aload X20.here hx rfl (hb hby at_143) rfl rfl ?_
    show Steps p.tables e below (T20.setTop (mkF m 145 #[.val (.int p0), .val (.int p1), .val (.int (((p0 &&& (2147483647 : Int32)) % (256 : Int32)) + (1 : Int32))), .val (.ref b1), .val (.ref b5), .val (.ref b20_0), .val (.long ((2147483648 : Int64) % ((((p0 &&& (2147483647 : Int32)) % (256 : Int32)) + (1 : Int32)).toInt64))), .second, .val (.int (((-((2147483648 : Int64) % ((((p0 &&& (2147483647 : Int32)) % (256 : Int32)) + (1 : Int32)).toInt64))) &&& (255 : Int64)).toInt32))] [(.ref b20_0)])) _
    refine XS.iconst X20.here hx rfl (hb hby at_145) ?_
    show Steps p.tables e below (T20.setTop (mkF m 146 #[.val (.int p0), .val (.int p1), .val (.int (((p0 &&& (2147483647 : Int32)) % (256 : Int32)) + (1 : Int32))), .val (.ref b1), .val (.ref b5), .val (.ref b20_0), .val (.long ((2147483648 : Int64) % ((((p0 &&& (2147483647 : Int32)) % (256 : Int32)) + (1 : Int32)).toInt64))), .second, .val (.int (((-((2147483648 : Int64) % ((((p0 &&& (2147483647 : Int32)) % (256 : Int32)) + (1 : Int32)).toInt64))) &&& (255 : Int64)).toInt32))] [(.int (0 : Int32)), (.ref b20_0)])) _
    refine X20.iaload hx (j := (0 : Int32)) (v := (.int (0 : Int32))) Ar21.1 (State.isArrayOf_alike hZ10.alike Ar21.2.1) Ar21.2.2 hin22 hat23 (g := (mkF m 146 #[.val (.int p0), .val (.int p1), .val (.int (((p0 &&& (2147483647 : Int32)) % (256 : Int32)) + (1 : Int32))), .val (.ref b1), .val (.ref b5), .val (.ref b20_0), .val (.long ((2147483648 : Int64) % ((((p0 &&& (2147483647 : Int32)) % (256 : Int32)) + (1 : Int32)).toInt64))), .second, .val (.int (((-((2147483648 : Int64) % ((((p0 &&& (2147483647 : Int32)) % (256 : Int32)) + (1 : Int32)).toInt64))) &&& (255 : Int64)).toInt32))] [(.int (0 : Int32)), (.ref b20_0)])) rfl rfl (hb hby at_146) _ ?_
    show Steps p.tables e below (T20.setTop (mkF m 147 #[.val (.int p0), .val (.int p1), .val (.int (((p0 &&& (2147483647 : Int32)) % (256 : Int32)) + (1 : Int32))), .val (.ref b1), .val (.ref b5), .val (.ref b20_0), .val (.long ((2147483648 : Int64) % ((((p0 &&& (2147483647 : Int32)) % (256 : Int32)) + (1 : Int32)).toInt64))), .second, .val (.int (((-((2147483648 : Int64) % ((((p0 &&& (2147483647 : Int32)) % (256 : Int32)) + (1 : Int32)).toInt64))) &&& (255 : Int64)).toInt32))] [(.int (0 : Int32))])) _
    refine XS.ifNo X20.here hx rfl (hb hby at_147) rfl ((if0 _ _).trans (teq (by decide : (0 : Int32) = (0 : Int32))).2) ?_
    show Steps p.tables e below (T20.setTop (mkF m 150 #[.val (.int p0), .val (.int p1), .val (.int (((p0 &&& (2147483647 : Int32)) % (256 : Int32)) + (1 : Int32))), .val (.ref b1), .val (.ref b5), .val (.ref b20_0), .val (.long ((2147483648 : Int64) % ((((p0 &&& (2147483647 : Int32)) % (256 : Int32)) + (1 : Int32)).toInt64))), .second, .val (.int (((-((2147483648 : Int64) % ((((p0 &&& (2147483647 : Int32)) % (256 : Int32)) + (1 : Int32)).toInt64))) &&& (255 : Int64)).toInt32))] [])) _
    refine XS.aload X20.here hx rfl (hb hby at_150) rfl rfl ?_
    show Steps p.tables e below (T20.setTop (mkF m 152 #[.val (.int p0), .val (.int p1), .val (.int (((p0 &&& (2147483647 : Int32)) % (256 : Int32)) + (1 : Int32))), .val (.ref b1), .val (.ref b5), .val (.ref b20_0), .val (.long ((2147483648 : Int64) % ((((p0 &&& (2147483647 : Int32)) % (256 : Int32)) + (1 : Int32)).toInt64))), .second, .val (.int (((-((2147483648 : Int64) % ((((p0 &&& (2147483647 : Int32)) % (256 : Int32)) + (1 : Int32)).toInt64))) &&& (255 : Int64)).toInt32))] [(.ref b20_0)])) _
    refine XS.iconst X20.here hx rfl (hb hby at_152) ?_
    show Steps p.tables e below (T20.setTop (mkF m 153 #[.val (.int p0), .val (.int p1), .val (.int (((p0 &&& (2147483647 : Int32)) % (256 : Int32)) + (1 : Int32))), .val (.ref b1), .val (.ref b5), .val (.ref b20_0), .val (.long ((2147483648 : Int64) % ((((p0 &&& (2147483647 : Int32)) % (256 : Int32)) + (1 : Int32)).toInt64))), .second, .val (.int (((-((2147483648 : Int64) % ((((p0 &&& (2147483647 : Int32)) % (256 : Int32)) + (1 : Int32)).toInt64))) &&& (255 : Int64)).toInt32))] [(.int (1 : Int32)), (.ref b20_0)])) _
    refine X20.iaload hx (j := (1 : Int32)) (v := (.int ((((p0 &&& (2147483647 : Int32)) % (256 : Int32)) + (1 : Int32)) - (1 : Int32)))) Ar21.1 (State.isArrayOf_alike hZ10.alike Ar21.2.1) Ar21.2.2 hin24 hat25 (g := (mkF m 153 #[.val (.int p0), .val (.int p1), .val (.int (((p0 &&& (2147483647 : Int32)) % (256 : Int32)) + (1 : Int32))), .val (.ref b1), .val (.ref b5), .val (.ref b20_0), .val (.long ((2147483648 : Int64) % ((((p0 &&& (2147483647 : Int32)) % (256 : Int32)) + (1 : Int32)).toInt64))), .second, .val (.int (((-((2147483648 : Int64) % ((((p0 &&& (2147483647 : Int32)) % (256 : Int32)) + (1 : Int32)).toInt64))) &&& (255 : Int64)).toInt32))] [(.int (1 : Int32)), (.ref b20_0)])) rfl rfl (hb hby at_153) _ ?_
    show Steps p.tables e below (T20.setTop (mkF m 154 #[.val (.int p0), .val (.int p1), .val (.int (((p0 &&& (2147483647 : Int32)) % (256 : Int32)) + (1 : Int32))), .val (.ref b1), .val (.ref b5), .val (.ref b20_0), .val (.long ((2147483648 : Int64) % ((((p0 &&& (2147483647 : Int32)) % (256 : Int32)) + (1 : Int32)).toInt64))), .second, .val (.int (((-((2147483648 : Int64) % ((((p0 &&& (2147483647 : Int32)) % (256 : Int32)) + (1 : Int32)).toInt64))) &&& (255 : Int64)).toInt32))] [(.int ((((p0 &&& (2147483647 : Int32)) % (256 : Int32)) + (1 : Int32)) - (1 : Int32)))])) _
    refine XS.iloadN X20.here hx rfl (hb hby at_154) rfl ?_
    show Steps p.tables e below (T20.setTop (mkF m 155 #[.val (.int p0), .val (.int p1), .val (.int (((p0 &&& (2147483647 : Int32)) % (256 : Int32)) + (1 : Int32))), .val (.ref b1), .val (.ref b5), .val (.ref b20_0), .val (.long ((2147483648 : Int64) % ((((p0 &&& (2147483647 : Int32)) % (256 : Int32)) + (1 : Int32)).toInt64))), .second, .val (.int (((-((2147483648 : Int64) % ((((p0 &&& (2147483647 : Int32)) % (256 : Int32)) + (1 : Int32)).toInt64))) &&& (255 : Int64)).toInt32))] [(.int (((p0 &&& (2147483647 : Int32)) % (256 : Int32)) + (1 : Int32))), (.int ((((p0 &&& (2147483647 : Int32)) % (256 : Int32)) + (1 : Int32)) - (1 : Int32)))])) _
    refine XS.iconst X20.here hx rfl (hb hby at_155) ?_
    show Steps p.tables e below (T20.setTop (mkF m 156 #[.val (.int p0), .val (.int p1), .val (.int (((p0 &&& (2147483647 : Int32)) % (256 : Int32)) + (1 : Int32))), .val (.ref b1), .val (.ref b5), .val (.ref b20_0), .val (.long ((2147483648 : Int64) % ((((p0 &&& (2147483647 : Int32)) % (256 : Int32)) + (1 : Int32)).toInt64))), .second, .val (.int (((-((2147483648 : Int64) % ((((p0 &&& (2147483647 : Int32)) % (256 : Int32)) + (1 : Int32)).toInt64))) &&& (255 : Int64)).toInt32))] [(.int (1 : Int32)), (.int (((p0 &&& (2147483647 : Int32)) % (256 : Int32)) + (1 : Int32))), (.int ((((p0 &&& (2147483647 : Int32)) % (256 : Int32)) + (1 : Int32)) - (1 : Int32)))])) _
    refine XS.isub X20.here hx rfl (hb hby at_156) rfl ?_
    show Steps p.tables e below (T20.setTop (mkF m 157 #[.val (.int p0), .val (.int p1), .val (.int (((p0 &&& (2147483647 : Int32)) % (256 : Int32)) + (1 : Int32))), .val (.ref b1), .val (.ref b5), .val (.ref b20_0), .val (.long ((2147483648 : Int64) % ((((p0 &&& (2147483647 : Int32)) % (256 : Int32)) + (1 : Int32)).toInt64))), .second, .val (.int (((-((2147483648 : Int64) % ((((p0 &&& (2147483647 : Int32)) % (256 : Int32)) + (1 : Int32)).toInt64))) &&& (255 : Int64)).toInt32))] [(.int ((((p0 &&& (2147483647 : Int32)) % (256 : Int32)) + (1 : Int32)) - (1 : Int32))), (.int ((((p0 &&& (2147483647 : Int32)) % (256 : Int32)) + (1 : Int32)) - (1 : Int32)))])) _
    refine XS.icmpNo X20.here hx rfl (hb hby at_157) rfl (teq (rfl : ((((p0 &&& (2147483647 : Int32)) % (256 : Int32)) + (1 : Int32)) - (1 : Int32)) = ((((p0 &&& (2147483647 : Int32)) % (256 : Int32)) + (1 : Int32)) - (1 : Int32)))).2 ?_
    show Steps p.tables e below (T20.setTop (mkF m 160 #[.val (.int p0), .val (.int p1), .val (.int (((p0 &&& (2147483647 : Int32)) % (256 : Int32)) + (1 : Int32))), .val (.ref b1), .val (.ref b5), .val (.ref b20_0), .val (.long ((2147483648 : Int64) % ((((p0 &&& (2147483647 : Int32)) % (256 : Int32)) + (1 : Int32)).toInt64))), .second, .val (.int (((-((2147483648 : Int64) % ((((p0 &&& (2147483647 : Int32)) % (256 : Int32)) + (1 : Int32)).toInt64))) &&& (255 : Int64)).toInt32))] [])) _
    refine XS.aload X20.here hx rfl (hb hby at_160) rfl rfl ?_
    show Steps p.tables e below (T20.setTop (mkF m 162 #[.val (.int p0), .val (.int p1), .val (.int (((p0 &&& (2147483647 : Int32)) % (256 : Int32)) + (1 : Int32))), .val (.ref b1), .val (.ref b5), .val (.ref b20_0), .val (.long ((2147483648 : Int64) % ((((p0 &&& (2147483647 : Int32)) % (256 : Int32)) + (1 : Int32)).toInt64))), .second, .val (.int (((-((2147483648 : Int64) % ((((p0 &&& (2147483647 : Int32)) % (256 : Int32)) + (1 : Int32)).toInt64))) &&& (255 : Int64)).toInt32))] [(.ref b20_0)])) _
    refine XS.iconst X20.here hx rfl (hb hby at_162) ?_
    show Steps p.tables e below (T20.setTop (mkF m 163 #[.val (.int p0), .val (.int p1), .val (.int (((p0 &&& (2147483647 : Int32)) % (256 : Int32)) + (1 : Int32))), .val (.ref b1), .val (.ref b5), .val (.ref b20_0), .val (.long ((2147483648 : Int64) % ((((p0 &&& (2147483647 : Int32)) % (256 : Int32)) + (1 : Int32)).toInt64))), .second, .val (.int (((-((2147483648 : Int64) % ((((p0 &&& (2147483647 : Int32)) % (256 : Int32)) + (1 : Int32)).toInt64))) &&& (255 : Int64)).toInt32))] [(.int (2 : Int32)), (.ref b20_0)])) _
    refine X20.iaload hx (j := (2 : Int32)) (v := (.int (0 : Int32))) Ar21.1 (State.isArrayOf_alike hZ10.alike Ar21.2.1) Ar21.2.2 hin26 hat27 (g := (mkF m 163 #[.val (.int p0), .val (.int p1), .val (.int (((p0 &&& (2147483647 : Int32)) % (256 : Int32)) + (1 : Int32))), .val (.ref b1), .val (.ref b5), .val (.ref b20_0), .val (.long ((2147483648 : Int64) % ((((p0 &&& (2147483647 : Int32)) % (256 : Int32)) + (1 : Int32)).toInt64))), .second, .val (.int (((-((2147483648 : Int64) % ((((p0 &&& (2147483647 : Int32)) % (256 : Int32)) + (1 : Int32)).toInt64))) &&& (255 : Int64)).toInt32))] [(.int (2 : Int32)), (.ref b20_0)])) rfl rfl (hb hby at_163) _ ?_
    show Steps p.tables e below (T20.setTop (mkF m 164 #[.val (.int p0), .val (.int p1), .val (.int (((p0 &&& (2147483647 : Int32)) % (256 : Int32)) + (1 : Int32))), .val (.ref b1), .val (.ref b5), .val (.ref b20_0), .val (.long ((2147483648 : Int64) % ((((p0 &&& (2147483647 : Int32)) % (256 : Int32)) + (1 : Int32)).toInt64))), .second, .val (.int (((-((2147483648 : Int64) % ((((p0 &&& (2147483647 : Int32)) % (256 : Int32)) + (1 : Int32)).toInt64))) &&& (255 : Int64)).toInt32))] [(.int (0 : Int32))])) _
    refine XS.ifNo X20.here hx rfl (hb hby at_164) rfl ((if0 _ _).trans (teq (by decide : (0 : Int32) = (0 : Int32))).2) ?_
    show Steps p.tables e below (T20.setTop (mkF m 167 #[.val (.int p0), .val (.int p1), .val (.int (((p0 &&& (2147483647 : Int32)) % (256 : Int32)) + (1 : Int32))), .val (.ref b1), .val (.ref b5), .val (.ref b20_0), .val (.long ((2147483648 : Int64) % ((((p0 &&& (2147483647 : Int32)) % (256 : Int32)) + (1 : Int32)).toInt64))), .second, .val (.int (((-((2147483648 : Int64) % ((((p0 &&& (2147483647 : Int32)) % (256 : Int32)) + (1 : Int32)).toInt64))) &&& (255 : Int64)).toInt32))] [])) _
    refine XS.iconst X20.here hx rfl (hb hby at_167) ?_
    show Steps p.tables e below (T20.setTop (mkF m 168 #[.val (.int p0), .val (.int p1), .val (.int (((p0 &&& (2147483647 : Int32)) % (256 : Int32)) + (1 : Int32))), .val (.ref b1), .val (.ref b5), .val (.ref b20_0), .val (.long ((2147483648 : Int64) % ((((p0 &&& (2147483647 : Int32)) % (256 : Int32)) + (1 : Int32)).toInt64))), .second, .val (.int (((-((2147483648 : Int64) % ((((p0 &&& (2147483647 : Int32)) % (256 : Int32)) + (1 : Int32)).toInt64))) &&& (255 : Int64)).toInt32))] [(.int (1 : Int32))])) _
    refine XS.goto X20.here hx rfl (pc0 := 168) (pc' := 172) rfl (hb hby at_168) (by decide) (by decide) ?_
    show Steps p.tables e below (T20.setTop (mkF m 172 #[.val (.int p0), .val (.int p1), .val (.int (((p0 &&& (2147483647 : Int32)) % (256 : Int32)) + (1 : Int32))), .val (.ref b1), .val (.ref b5), .val (.ref b20_0), .val (.long ((2147483648 : Int64) % ((((p0 &&& (2147483647 : Int32)) % (256 : Int32)) + (1 : Int32)).toInt64))), .second, .val (.int (((-((2147483648 : Int64) % ((((p0 &&& (2147483647 : Int32)) % (256 : Int32)) + (1 : Int32)).toInt64))) &&& (255 : Int64)).toInt32))] [(.int (1 : Int32))])) _
    exact retN X20 hx (t := .boolean) Bd.returns (by simp) (hb hby at_172) hr
  · show Q0nAt Z p0 p1 aU s_COMPACT_STRINGS h0 n0 _ T20.heap _
    exact ⟨rfl, N20⟩
theorem ef_rm0nBs (m : MethodId) (p0 : Int32) (p1 : Int32) : entryFrame m #[(.int p0), (.int p1)] maxLocals = mkF m 0 #[.val (.int p0), .val (.int p1), .unset, .unset, .unset, .unset, .unset, .unset, .unset] [] := by first | (simp [entryFrame, mkF, argsToLocals, Value.category, maxLocals]; done) | rfl
def Q0nBs (Z : State) (p0 : Int32) (p1 : Int32) (aU : Addr) (s_COMPACT_STRINGS : Int32) (h0 : Heap) (n0 : Nat) (v : Option Value) (h : Heap) (L : List Loc) : Prop := v = some (.int (1 : Int32)) ∧ Fr n0 L
set_option maxRecDepth 65536 in
set_option maxHeartbeats 40000000 in
theorem rm0nBs (l : Launch) (Z : State) (az : Array Value) (hw : ∀ d ∈ tables_1, d.before az Z = true) (ws : List Jvm.Cond) (p0 : Int32) (p1 : Int32) (aU : Addr) (s_COMPACT_STRINGS : Int32) (h0 : Heap) (n0 : Nat) (Z0 : n0 ≤ h0.size) (S_INSTANCE : Sta Z h0 "sun/nio/cs/UTF_8" "INSTANCE" "Lsun/nio/cs/UTF_8;" (.ref aU)) (S_UTF_8 : Sta Z h0 "java/nio/charset/StandardCharsets" "UTF_8" "Ljava/nio/charset/Charset;" (.ref aU)) (S_COMPACT_STRINGS : Sta Z h0 "java/lang/String" "COMPACT_STRINGS" "Z" (.int s_COMPACT_STRINGS)) (hc3 : ¬ (s_COMPACT_STRINGS = (0 : Int32))) (hc4 : ¬ ((255 : Int32) < ((p1 &&& (255 : Int32)).toUInt32.toUInt16.toUInt32.toInt32))) (hc5 : (((p1 &&& (255 : Int32)).toUInt32.toUInt16.toUInt32.toInt32).toInt8.toInt32) < (0 : Int32)) (hc6 : ¬ ((((p0 &&& (2147483647 : Int32)) % (256 : Int32)) + (1 : Int32)) < (1 : Int32))) (hc7 : ¬ ((256 : Int32) < (((p0 &&& (2147483647 : Int32)) % (256 : Int32)) + (1 : Int32)))) (hc8 : ¬ ((own_bc (((p0 &&& (2147483647 : Int32)) % (256 : Int32)) + (1 : Int32))) = (1 : Int32))) (hc9 : (((p0 &&& (2147483647 : Int32)) % (256 : Int32)) + (1 : Int32)) ≠ (0 : Int32)) (hc10 : ¬ (((((-2147483648 : Int32) % (((p0 &&& (2147483647 : Int32)) % (256 : Int32)) + (1 : Int32))).toInt8.toInt32) &&& (255 : Int32)) < (((p0 &&& (2147483647 : Int32)) % (256 : Int32)) + (1 : Int32)))) (hc11 : ((((p0 &&& (2147483647 : Int32)) % (256 : Int32)) + (1 : Int32)).toInt64) ≠ (0 : Int64)) (hc12 : ¬ ((((-((2147483648 : Int64) % ((((p0 &&& (2147483647 : Int32)) % (256 : Int32)) + (1 : Int32)).toInt64))) &&& (255 : Int64)).toInt32) < (((p0 &&& (2147483647 : Int32)) % (256 : Int32)) + (1 : Int32)))) (hc13 : ((((-2147483648 : Int32) % (((p0 &&& (2147483647 : Int32)) % (256 : Int32)) + (1 : Int32))).toInt8.toInt32) &&& (255 : Int32)) = (((-((2147483648 : Int64) % ((((p0 &&& (2147483647 : Int32)) % (256 : Int32)) + (1 : Int32)).toInt64))) &&& (255 : Int64)).toInt32)) :
    MetFree l x (head1 (Jvm.Cond.code x code maxLocals ret :: ws) room_1) (fun a U => a = #[(.int p0), (.int p1)] ∧ Z.Warmed39 U.vm ∧ U.heap = h0) (fun _ _ _ _ _ => True) (fun _ U o U' => ∃ v L, o = .returned v ∧ Q0nBs Z p0 p1 aU s_COMPACT_STRINGS h0 n0 v U'.heap L ∧ ReturnedEndW U o U' L room_1.cells room_1.slots) := by
  refine MetFree.of_bodySF (plainFor_of_name pn_com_example_fireweed_fireweed_layout_Java31ByteSaltBytesPinLaw) hisR ?_
  intro p e s m args below meth c s₁ Bd hml0 hP hK
  obtain ⟨rfl, hZ, hh⟩ := hP
  have hx := Bd.exec
  have hby := Bd.bytes
  have hml : c.maxLocals = 9 := hml0
  have hown : s.vm.findClass "com/example/fireweed/fireweed/layout/Java31ByteSaltBytesPinLaw" = some m.cls := findClass_of_methodNamed Bd.named
  have hnm := (name_of_methodNamed Bd.named Bd.method).1
  have X0 : Stand p l e room_1 s m #[(.int p0), (.int p1)] below meth c s₁ [] 0 0 := Stand.of_body Bd
  have e0 : s₁.heap = h0 := by rw [← hh, Bd.state]; rfl
  have N0 := Fr.nil n0
  have pre0 : ∀ t, Steps p.tables e below (s₁.setTop (mkF m 0 #[.val (.int p0), .val (.int p1), .unset, .unset, .unset, .unset, .unset, .unset, .unset] [])) t → Steps p.tables e below (s₁.setTop (entryFrame m #[(.int p0), (.int p1)] maxLocals)) t := fun t k => castTop (ef_rm0nBs m p0 p1) k
  have hS0 : s.Since s.vm 0 := (State.WarmedH.refl s).since 0
  have wS : ∀ a ∈ Bundle.stringAtoms, a.before az Z = true := fun d hd => by
    simp only [Bundle.stringAtoms, List.mem_cons, List.not_mem_nil, or_false] at hd
    rcases hd with rfl | rfl | rfl | rfl | rfl | rfl | rfl
    · exact (hw _ (List.mem_of_getElem? (i := 7) rfl))
    · exact (hw _ (List.mem_of_getElem? (i := 6) rfl))
    · exact (hw _ (List.mem_of_getElem? (i := 23) rfl))
    · exact (hw _ (List.mem_of_getElem? (i := 33) rfl))
    · exact (hw _ (List.mem_of_getElem? (i := 31) rfl))
    · exact (hw _ (List.mem_of_getElem? (i := 49) rfl))
    · exact (hw _ (List.mem_of_getElem? (i := 50) rfl))
  obtain ⟨T1, h1, k1, X1, e1, E1, A1, x1, st1⟩ := newPE X0 hx hZ (hw _ (List.mem_of_getElem? (i := 1) rfl)) e0 (g := (mkF m 12 #[.val (.int p0), .val (.int p1), .val (.int (((p0 &&& (2147483647 : Int32)) % (256 : Int32)) + (1 : Int32))), .unset, .unset, .unset, .unset, .unset, .unset] [(.int (1 : Int32))])) rfl (hb hby at_12) rfl (by decide) (cap := 1) (by decide) (by decide) (by decide) (by decide) (ad := "[C") (by decide)
  obtain ⟨b1, g1⟩ : ∃ z, z = h0.size := ⟨_, rfl⟩
  rw [← g1] at A1 x1 st1
  have g_b1 : n0 ≤ b1 := Nat.le_trans Z0 (Nat.le_of_eq g1.symm)
  have sz_b1 : h0.size ≤ b1 := Nat.le_trans (Nat.le_refl _) (Nat.le_of_eq g1.symm)
  have Z1 : n0 ≤ h1.size := Nat.le_trans Z0 E1.1
  have K1 : Keep h0 h1 [] := (Keep.refl h0 []).ext E1
  have E_b1 := x1
  have V_b1 : Arv Z h1 b1 k1 .char (1 : Int32) [(.int (0 : Int32))] (.int (0 : Int32)) := (Arv.new A1 (by decide)).pad (pad_rep [] (.int (0 : Int32)) 1)
  obtain ⟨cl2, Ar2, qk2, Sz2, Ng2, Hs2, Gf2⟩ := id V_b1
  have hin3 : ¬ ((0 : Int32) < 0 ∨ cl2.slots.size ≤ ((0 : Int32)).toNatClampNeg) := inb_of Sz2 ⟨by decide, by decide⟩
  obtain ⟨T4, h4, X4, e4, W4, st4⟩ := stC X1 hx hZ e1 Ar2 (j := (0 : Int32)) hin3 (g := (mkF m 22 #[.val (.int p0), .val (.int p1), .val (.int (((p0 &&& (2147483647 : Int32)) % (256 : Int32)) + (1 : Int32))), .unset, .unset, .unset, .unset, .unset, .unset] [(.int ((p1 &&& (255 : Int32)).toUInt32.toUInt16.toUInt32.toInt32)), (.int (0 : Int32)), (.ref b1), (.ref b1)])) rfl rfl (hb hby at_22)
  rw [(own_nc _)] at W4
  have K4 : Keep h0 h4 [] := K1.wr W4 (Or.inr sz_b1)
  have V_b1_4 : Arv Z h4 b1 k1 .char (1 : Int32) [(.int ((p1 &&& (255 : Int32)).toUInt32.toUInt16.toUInt32.toInt32))] (.int (0 : Int32)) := Arv.set (v := (.int ((p1 &&& (255 : Int32)).toUInt32.toUInt16.toUInt32.toInt32))) Ar2 qk2 Sz2 Ng2 Hs2 Gf2 (own_fits (own_nc _) (fits_nar_char _)) W4 0 rfl (Nat.le_of_ble_eq_true rfl)
  have Z4 : n0 ≤ h4.size := Nat.le_trans Z1 (Keep.of_wr W4).1
  have N4 := Fr.snoc X4 N0 g_b1
  obtain ⟨T5, h5, X5, e5, E5, A5, D5, -, st5⟩ := newO X4 hx hZ hown (hw _ (List.mem_of_getElem? (i := 2) rfl)) (hw _ (List.mem_of_getElem? (i := 3) rfl)) (hw _ (List.mem_of_getElem? (i := 4) rfl)) e4 (g := (mkF m 24 #[.val (.int p0), .val (.int p1), .val (.int (((p0 &&& (2147483647 : Int32)) % (256 : Int32)) + (1 : Int32))), .val (.ref b1), .unset, .unset, .unset, .unset, .unset] [])) rfl (hb hby at_24) (by decide) (by decide)
  obtain ⟨b5, g5⟩ : ∃ z, z = h4.size := ⟨_, rfl⟩
  rw [← g5] at A5 D5 st5
  have g_b5 : n0 ≤ b5 := Nat.le_trans Z4 (Nat.le_of_eq g5.symm)
  have sz_b5 : h0.size ≤ b5 := Nat.le_trans K4.1 (Nat.le_of_eq g5.symm)
  have Z5 : n0 ≤ h5.size := Nat.le_trans Z4 E5.1
  have K5 : Keep h0 h5 [] := K4.ext E5
  have E_b5 := A5
  have F_suffix_b5 : Fld Z h5 b5 "com/example/fireweed/fireweed/layout/Salt" "suffix" "Ljava/lang/String;" .null := D5 (Or.inr (hw _ (List.mem_of_getElem? (i := 57) rfl))) (ty := (.object "java/lang/String")) (by decide)
  have F_suffixBytes_b5 : Fld Z h5 b5 "com/example/fireweed/fireweed/layout/Salt" "suffixBytes" "[B" .null := D5 (Or.inr (hw _ (List.mem_of_getElem? (i := 95) rfl))) (ty := (.array .byte)) (by decide)
  have F_buckets_b5 : Fld Z h5 b5 "com/example/fireweed/fireweed/layout/Java31ByteSalt" "buckets" "I" (.int (0 : Int32)) := D5 (Or.inr (hw _ (List.mem_of_getElem? (i := 97) rfl))) (ty := .int) (by decide)
  have F_mask_b5 : Fld Z h5 b5 "com/example/fireweed/fireweed/layout/Java31ByteSalt" "mask" "I" (.int (0 : Int32)) := D5 (Or.inr (hw _ (List.mem_of_getElem? (i := 106) rfl))) (ty := .int) (by decide)
  have F_overflow_b5 : Fld Z h5 b5 "com/example/fireweed/fireweed/layout/Java31ByteSalt" "overflow" "I" (.int (0 : Int32)) := D5 (Or.inr (hw _ (List.mem_of_getElem? (i := 121) rfl))) (ty := .int) (by decide)
  obtain ⟨T6, h6, X6, e6, E6, A6, D6, -, st6⟩ := newO X5 hx hZ hown (hw _ (List.mem_of_getElem? (i := 5) rfl)) (hw _ (List.mem_of_getElem? (i := 6) rfl)) (hw _ (List.mem_of_getElem? (i := 7) rfl)) e5 (g := (mkF m 29 #[.val (.int p0), .val (.int p1), .val (.int (((p0 &&& (2147483647 : Int32)) % (256 : Int32)) + (1 : Int32))), .val (.ref b1), .unset, .unset, .unset, .unset, .unset] [(.int (((p0 &&& (2147483647 : Int32)) % (256 : Int32)) + (1 : Int32))), (.ref b5), (.ref b5)])) rfl (hb hby at_29) (by decide) (by decide)
  obtain ⟨b6, g6⟩ : ∃ z, z = h5.size := ⟨_, rfl⟩
  rw [← g6] at A6 D6 st6
  have g_b6 : n0 ≤ b6 := Nat.le_trans Z5 (Nat.le_of_eq g6.symm)
  have sz_b6 : h0.size ≤ b6 := Nat.le_trans K5.1 (Nat.le_of_eq g6.symm)
  have Z6 : n0 ≤ h6.size := Nat.le_trans Z5 E6.1
  have K6 : Keep h0 h6 [] := K5.ext E6
  have E_b6 := A6
  have F_coder_b6 : Fld Z h6 b6 "java/lang/String" "coder" "B" (.int (0 : Int32)) := D6 (Or.inr (hw _ (List.mem_of_getElem? (i := 31) rfl))) (ty := .byte) (by decide)
  have F_value_b6 : Fld Z h6 b6 "java/lang/String" "value" "[B" .null := D6 (Or.inr (hw _ (List.mem_of_getElem? (i := 33) rfl))) (ty := (.array .byte)) (by decide)
  have V_b1_u8 : Arv Z h6 b1 k1 .char (1 : Int32) [(.int ((p1 &&& (255 : Int32)).toUInt32.toUInt16.toUInt32.toInt32))] (.int (0 : Int32)) := ((V_b1_4.ext E5).ext E6)
  have S_String_COMPACT_STRINGS_u9 : Sta Z h6 "java/lang/String" "COMPACT_STRINGS" "Z" (.int s_COMPACT_STRINGS) := ((((S_COMPACT_STRINGS.ext E1).wr W4).ext E5).ext E6)
  obtain ⟨_, _, ⟨T7, L7, k7', n7'⟩, -, X7, ⟨Lc7, hQ7, l7, y7, z7⟩, st7⟩ := X6.specialBack hx (y := (⟨"java/lang/String", "<init>", "([C)V"⟩ : MethodName)) rfl hown (mvT hZ (hw _ (List.mem_of_getElem? (i := 8) rfl))) (mvT hZ (hw _ (List.mem_of_getElem? (i := 9) rfl))) (mvT hZ (hw _ (List.mem_of_getElem? (i := 10) rfl))) (by decide) (backOf (W := 4) (rm1_1 l Z az hw [] b6 b1 k1 ((p1 &&& (255 : Int32)).toUInt32.toUInt16.toUInt32.toInt32) s_COMPACT_STRINGS h6 n0 Z6 E_b6 F_coder_b6 F_value_b6 V_b1_u8 S_String_COMPACT_STRINGS_u9 hc3 hc4 g_b6) hZ (hw _ (List.mem_of_getElem? (i := 10) rfl)) (hw _ (List.mem_of_getElem? (i := 7) rfl)) (by decide) (by decide)) (g := (mkF m 34 #[.val (.int p0), .val (.int p1), .val (.int (((p0 &&& (2147483647 : Int32)) % (256 : Int32)) + (1 : Int32))), .val (.ref b1), .unset, .unset, .unset, .unset, .unset] [(.ref b1), (.ref b6), (.ref b6), (.int (((p0 &&& (2147483647 : Int32)) % (256 : Int32)) + (1 : Int32))), (.ref b5), (.ref b5)])) rfl (by rw [hml]; rfl) (Steps.refl _) (a := b6) (argsL := [(.ref b1)]) (rest := [(.ref b6), (.int (((p0 &&& (2147483647 : Int32)) % (256 : Int32)) + (1 : Int32))), (.ref b5), (.ref b5)]) (lenOf pd_16 rfl) rfl (by show 2 * 0 + _ ≤ _; exact Nat.le_of_eq rfl) (hb hby at_34) (fun _ _ => ⟨rfl, e6, (by decide : 3 + 1 ≤ _), (by decide : 10 + 1 ≤ _)⟩)
  dsimp only [Pt.U, Pt.locs, Pt.cells, Pt.slots] at X7 l7 y7 z7 st7 hQ7
  subst l7 y7 z7
  obtain ⟨b7_0, kk7_0, rfl, N7q, s7_0, kq7, pf7_0, pf7_1, pf7_2, pf7_3, pf7_4⟩ := hQ7
  have N7 := Fr.app N4 N7q
  have g_b7_0 : n0 ≤ b7_0 := Nat.le_trans Z6 s7_0
  have sz_b7_0 : h0.size ≤ b7_0 := Nat.le_trans K6.1 s7_0
  have K7 : Keep h0 T7.heap [] := K6.trans kq7 (allS (Or.inr sz_b6) all0)
  have Z7 : n0 ≤ T7.heap.size := Nat.le_trans Z6 kq7.1
  have E_b5_u11 : Exa Z T7.heap b5 "com/example/fireweed/fireweed/layout/Java31ByteSalt" := ((E_b5.ext E6).keep kq7)
  have ne_b5_b6 : b5 ≠ b6 := own_ne (Nat.lt_of_lt_of_le E_b5.lt (Nat.le_of_eq g6.symm))
  have F_b5_suffix_u12 : Fld Z T7.heap b5 "com/example/fireweed/fireweed/layout/Salt" "suffix" "Ljava/lang/String;" .null := ((F_suffix_b5.ext E6).keep kq7 (ninS ne_b5_b6 nin0))
  have F_b5_suffixBytes_u13 : Fld Z T7.heap b5 "com/example/fireweed/fireweed/layout/Salt" "suffixBytes" "[B" .null := ((F_suffixBytes_b5.ext E6).keep kq7 (ninS ne_b5_b6 nin0))
  have F_b5_buckets_u14 : Fld Z T7.heap b5 "com/example/fireweed/fireweed/layout/Java31ByteSalt" "buckets" "I" (.int (0 : Int32)) := ((F_buckets_b5.ext E6).keep kq7 (ninS ne_b5_b6 nin0))
  have F_b5_mask_u15 : Fld Z T7.heap b5 "com/example/fireweed/fireweed/layout/Java31ByteSalt" "mask" "I" (.int (0 : Int32)) := ((F_mask_b5.ext E6).keep kq7 (ninS ne_b5_b6 nin0))
  have F_b5_overflow_u16 : Fld Z T7.heap b5 "com/example/fireweed/fireweed/layout/Java31ByteSalt" "overflow" "I" (.int (0 : Int32)) := ((F_overflow_b5.ext E6).keep kq7 (ninS ne_b5_b6 nin0))
  have S_UTF_8_INSTANCE_u17 : Sta Z T7.heap "sun/nio/cs/UTF_8" "INSTANCE" "Lsun/nio/cs/UTF_8;" (.ref aU) := (own_Sta ((((S_INSTANCE.ext E1).wr W4).ext E5).ext E6) kq7 (allS (P := fun x => ∀ cell : Cell, _ → cell.vm.isStatics = false) E_b6.nostat (fun _ m => nomatch m)))
  have S_StandardCharsets_UTF_8_u18 : Sta Z T7.heap "java/nio/charset/StandardCharsets" "UTF_8" "Ljava/nio/charset/Charset;" (.ref aU) := (own_Sta ((((S_UTF_8.ext E1).wr W4).ext E5).ext E6) kq7 (allS (P := fun x => ∀ cell : Cell, _ → cell.vm.isStatics = false) E_b6.nostat (fun _ m => nomatch m)))
  have S_String_COMPACT_STRINGS_u19 : Sta Z T7.heap "java/lang/String" "COMPACT_STRINGS" "Z" (.int s_COMPACT_STRINGS) := (own_Sta S_String_COMPACT_STRINGS_u9 kq7 (allS (P := fun x => ∀ cell : Cell, _ → cell.vm.isStatics = false) E_b6.nostat (fun _ m => nomatch m)))
  have ne_b5_b7_0 : b5 ≠ b7_0 := own_ne (Nat.lt_of_lt_of_le (E_b5.ext E6).lt s7_0)
  obtain ⟨_, _, ⟨T10, L10, k10', n10'⟩, -, Y10, yS10, yg10, ⟨Lc10, hQ10, l10, y10, z10⟩, st10⟩ := X7.specialBackS hx (y := (⟨"com/example/fireweed/fireweed/layout/Java31ByteSalt", "<init>", "(ILjava/lang/String;)V"⟩ : MethodName)) rfl hown (mvT hZ (hw _ (List.mem_of_getElem? (i := 34) rfl))) (mvT hZ (hw _ (List.mem_of_getElem? (i := 35) rfl))) (mvT hZ (hw _ (List.mem_of_getElem? (i := 36) rfl))) (by decide) (backOfS (W := 1) (rm7nB l Z az hw [] b5 (((p0 &&& (2147483647 : Int32)) % (256 : Int32)) + (1 : Int32)) b6 b7_0 kk7_0 (((p1 &&& (255 : Int32)).toUInt32.toUInt16.toUInt32.toInt32).toInt8.toInt32) aU s_COMPACT_STRINGS T7.heap n0 Z7 E_b5_u11 F_b5_suffix_u12 F_b5_suffixBytes_u13 F_b5_buckets_u14 F_b5_mask_u15 F_b5_overflow_u16 pf7_0 pf7_1 pf7_2 pf7_4 pf7_3 S_UTF_8_INSTANCE_u17 S_StandardCharsets_UTF_8_u18 hc5 S_String_COMPACT_STRINGS_u19 g_b5 (Ne.symm ne_b5_b6) (Ne.symm ne_b5_b7_0) hc3 hc6 hc7 hc8 hc9) hZ (hw _ (List.mem_of_getElem? (i := 36) rfl)) (hw _ (List.mem_of_getElem? (i := 4) rfl)) (by decide) (by decide)) (g := (mkF m 37 #[.val (.int p0), .val (.int p1), .val (.int (((p0 &&& (2147483647 : Int32)) % (256 : Int32)) + (1 : Int32))), .val (.ref b1), .unset, .unset, .unset, .unset, .unset] [(.ref b6), (.int (((p0 &&& (2147483647 : Int32)) % (256 : Int32)) + (1 : Int32))), (.ref b5), (.ref b5)])) rfl (by rw [hml]; rfl) (Steps.refl _) (a := b5) (argsL := [(.int (((p0 &&& (2147483647 : Int32)) % (256 : Int32)) + (1 : Int32))), (.ref b6)]) (rest := [(.ref b5)]) (lenOf pd_17 rfl) rfl (by show 2 * 0 + _ ≤ _; exact Nat.le_of_eq rfl) (hb hby at_37) (fun _ _ => ⟨rfl, rfl, (by decide : 4 + 3 ≤ _), (by decide : 11 + 30 ≤ _)⟩)
  dsimp only [Pt.U, Pt.locs, Pt.cells, Pt.slots] at Y10 yS10 yg10 l10 y10 z10 st10 hQ10
  subst l10 y10 z10
  obtain ⟨X10, hS10, hZ10, hown10⟩ := rebS (s := s) (vm0 := s.vm) hS0 (Nat.le_trans (Nat.le_trans (Nat.le_trans (Nat.le_trans (Nat.le_trans (Nat.zero_le _) E1.1) (Keep.of_wr W4).1) E5.1) E6.1) kq7.1) Y10 yS10 yg10 hZ hown
  obtain ⟨b10_0, kk10_0, rfl, N10q, s10_0, kq10, pf10_0, pf10_1, pf10_2, pf10_3, pf10_4, pf10_5, pf10_6, pf10_7⟩ := hQ10
  have N10 := Fr.app N7 N10q
  have g_b10_0 : n0 ≤ b10_0 := Nat.le_trans Z7 s10_0
  have sz_b10_0 : h0.size ≤ b10_0 := Nat.le_trans K7.1 s10_0
  have K10 : Keep h0 T10.heap [] := K7.trans kq10 (allS (Or.inr sz_b5) all0)
  have Z10 : n0 ≤ T10.heap.size := Nat.le_trans Z7 kq10.1
  obtain ⟨cq20, kq20, q20a, q20b, q20c⟩ := isOf hZ10 rfl pf10_0
  obtain ⟨_, _, ⟨T20, L20, k20', n20'⟩, -, X20, ⟨Lc20, hQ20, l20, y20, z20⟩, st20⟩ := X10.virtualBack hx (y := (⟨"com/example/fireweed/fireweed/layout/Java31ByteSalt", "bytes", "()[I"⟩ : MethodName)) (z := (⟨"com/example/fireweed/fireweed/layout/Java31ByteSalt", "bytes", "()[I"⟩ : MethodName)) hown10 (mvT hZ10 (hw _ (List.mem_of_getElem? (i := 122) rfl))) (mvT hZ10 (hw _ (List.mem_of_getElem? (i := 123) rfl))) (notFace_of_selects (args := #[]) (mvT hZ10 (hw _ (List.mem_of_getElem? (i := 125) rfl)))) (mvT hZ10 (hw _ (List.mem_of_getElem? (i := 125) rfl))) (mvT hZ10 (hw _ (List.mem_of_getElem? (i := 124) rfl))) (by decide) (backOf (W := 0) (rm21s l Z az hw [] b5 ((((-2147483648 : Int32) % (((p0 &&& (2147483647 : Int32)) % (256 : Int32)) + (1 : Int32))).toInt8.toInt32) &&& (255 : Int32)) (((p0 &&& (2147483647 : Int32)) % (256 : Int32)) + (1 : Int32)) T10.heap n0 Z10 pf10_5 pf10_3 hc10) hZ10 (hw _ (List.mem_of_getElem? (i := 126) rfl)) (hw _ (List.mem_of_getElem? (i := 4) rfl)) (by decide) (by decide)) q20a q20c (g := (mkF m 44 #[.val (.int p0), .val (.int p1), .val (.int (((p0 &&& (2147483647 : Int32)) % (256 : Int32)) + (1 : Int32))), .val (.ref b1), .val (.ref b5), .unset, .unset, .unset, .unset] [(.ref b5)])) rfl (by rw [hml]; rfl) (Steps.refl _) (argsL := []) (rest := []) (lenOf pd_18 rfl) rfl (by show 2 * 0 + _ ≤ _; exact Nat.le_of_eq rfl) (hb hby at_44) (fun _ _ => ⟨rfl, rfl, (by decide : 7 + 1 ≤ _), (by decide : 41 + 6 ≤ _)⟩)
  dsimp only [Pt.U, Pt.locs, Pt.cells, Pt.slots] at X20 l20 y20 z20 st20 hQ20
  subst l20 y20 z20
  obtain ⟨b20_0, kk20_0, rfl, N20q, s20_0, kq20, pf20_0, pf20_1⟩ := hQ20
  have N20 := Fr.app N10 N20q
  have g_b20_0 : n0 ≤ b20_0 := Nat.le_trans Z10 s20_0
  have sz_b20_0 : h0.size ≤ b20_0 := Nat.le_trans K10.1 s20_0
  have K20 : Keep h0 T20.heap [] := K10.trans kq20 all0
  have Z20 : n0 ≤ T20.heap.size := Nat.le_trans Z10 kq20.1
  obtain ⟨cl21, Ar21, qk21, Sz21, Ng21, Hs21, Gf21⟩ := id pf20_1
  have hin22 : ¬ ((0 : Int32) < 0 ∨ cl21.slots.size ≤ ((0 : Int32)).toNatClampNeg) := inb_of Sz21 ⟨by decide, by decide⟩
  have hat23 : cl21.slots[((0 : Int32)).toNatClampNeg]? = some (.int (0 : Int32)) := Hs21.at hin22 rfl
  have hin24 : ¬ ((1 : Int32) < 0 ∨ cl21.slots.size ≤ ((1 : Int32)).toNatClampNeg) := inb_of Sz21 ⟨by decide, by decide⟩
  have hat25 : cl21.slots[((1 : Int32)).toNatClampNeg]? = some (.int ((((p0 &&& (2147483647 : Int32)) % (256 : Int32)) + (1 : Int32)) - (1 : Int32))) := Hs21.at hin24 rfl
  have hin26 : ¬ ((2 : Int32) < 0 ∨ cl21.slots.size ≤ ((2 : Int32)).toNatClampNeg) := inb_of Sz21 ⟨by decide, by decide⟩
  have hat27 : cl21.slots[((2 : Int32)).toNatClampNeg]? = some (.int (0 : Int32)) := Hs21.at hin26 rfl
  have hin28 : ¬ ((3 : Int32) < 0 ∨ cl21.slots.size ≤ ((3 : Int32)).toNatClampNeg) := inb_of Sz21 ⟨by decide, by decide⟩
  have hat29 : cl21.slots[((3 : Int32)).toNatClampNeg]? = some (.int ((((-2147483648 : Int32) % (((p0 &&& (2147483647 : Int32)) % (256 : Int32)) + (1 : Int32))).toInt8.toInt32) &&& (255 : Int32))) := Hs21.at hin28 rfl
  have hin30 : ¬ ((4 : Int32) < 0 ∨ cl21.slots.size ≤ ((4 : Int32)).toNatClampNeg) := inb_of Sz21 ⟨by decide, by decide⟩
  have hat31 : cl21.slots[((4 : Int32)).toNatClampNeg]? = some (.int ((((-2147483648 : Int32) % (((p0 &&& (2147483647 : Int32)) % (256 : Int32)) + (1 : Int32))).toInt8.toInt32) &&& (255 : Int32))) := Hs21.at hin30 rfl
  have hin32 : ¬ ((5 : Int32) < 0 ∨ cl21.slots.size ≤ ((5 : Int32)).toNatClampNeg) := inb_of Sz21 ⟨by decide, by decide⟩
  have hat33 : cl21.slots[((5 : Int32)).toNatClampNeg]? = some (.int (0 : Int32)) := Hs21.at hin32 rfl
  obtain ⟨fs, hr, hrun, hended, hWE⟩ := X20.leaveW (s := s) hS10 (Nat.le_trans (Nat.le_refl _) kq20.1) (v := some (.int (1 : Int32))) (fun h => by rw [Bd.returns] at h; cases h)
  refine ⟨_, _, pre0 _ ?_, hrun, hended, _, _, rfl, ?_, hWE.1, hWE.2.1, hWE.2.2.1, hWE.2.2.2.mono (by decide) (by decide)⟩
  · show Steps p.tables e below (s₁.setTop (mkF m 0 #[.val (.int p0), .val (.int p1), .unset, .unset, .unset, .unset, .unset, .unset, .unset] [])) _
    refine XS.iloadN X0.here hx rfl (hb hby at_0) rfl ?_
    show Steps p.tables e below (s₁.setTop (mkF m 1 #[.val (.int p0), .val (.int p1), .unset, .unset, .unset, .unset, .unset, .unset, .unset] [(.int p0)])) _
    refine X0.ldcInt hx hown (mvT hZ (hw _ (List.mem_of_getElem? (i := 0) rfl))) (g := (mkF m 1 #[.val (.int p0), .val (.int p1), .unset, .unset, .unset, .unset, .unset, .unset, .unset] [(.int p0)])) rfl (hb hby at_1) _ ?_
    show Steps p.tables e below (s₁.setTop (mkF m 3 #[.val (.int p0), .val (.int p1), .unset, .unset, .unset, .unset, .unset, .unset, .unset] [(.int (2147483647 : Int32)), (.int p0)])) _
    refine XS.iand X0.here hx rfl (hb hby at_3) rfl ?_
    show Steps p.tables e below (s₁.setTop (mkF m 4 #[.val (.int p0), .val (.int p1), .unset, .unset, .unset, .unset, .unset, .unset, .unset] [(.int (p0 &&& (2147483647 : Int32)))])) _
    refine XS.sipush X0.here hx rfl (hb hby at_4) ?_
    show Steps p.tables e below (s₁.setTop (mkF m 7 #[.val (.int p0), .val (.int p1), .unset, .unset, .unset, .unset, .unset, .unset, .unset] [(.int (256 : Int32)), (.int (p0 &&& (2147483647 : Int32)))])) _
    refine iremM X0 hx rfl (hb hby at_7) rfl (by decide) ?_
    show Steps p.tables e below (s₁.setTop (mkF m 8 #[.val (.int p0), .val (.int p1), .unset, .unset, .unset, .unset, .unset, .unset, .unset] [(.int ((p0 &&& (2147483647 : Int32)) % (256 : Int32)))])) _
    refine XS.iconst X0.here hx rfl (hb hby at_8) ?_
    show Steps p.tables e below (s₁.setTop (mkF m 9 #[.val (.int p0), .val (.int p1), .unset, .unset, .unset, .unset, .unset, .unset, .unset] [(.int (1 : Int32)), (.int ((p0 &&& (2147483647 : Int32)) % (256 : Int32)))])) _
    refine XS.iadd X0.here hx rfl (hb hby at_9) rfl ?_
    show Steps p.tables e below (s₁.setTop (mkF m 10 #[.val (.int p0), .val (.int p1), .unset, .unset, .unset, .unset, .unset, .unset, .unset] [(.int (((p0 &&& (2147483647 : Int32)) % (256 : Int32)) + (1 : Int32)))])) _
    refine XS.istoreN X0.here hx rfl (hb hby at_10) rfl (l' := #[.val (.int p0), .val (.int p1), .val (.int (((p0 &&& (2147483647 : Int32)) % (256 : Int32)) + (1 : Int32))), .unset, .unset, .unset, .unset, .unset, .unset]) rfl ?_
    show Steps p.tables e below (s₁.setTop (mkF m 11 #[.val (.int p0), .val (.int p1), .val (.int (((p0 &&& (2147483647 : Int32)) % (256 : Int32)) + (1 : Int32))), .unset, .unset, .unset, .unset, .unset, .unset] [])) _
    refine XS.iconst X0.here hx rfl (hb hby at_11) ?_
    show Steps p.tables e below (s₁.setTop (mkF m 12 #[.val (.int p0), .val (.int p1), .val (.int (((p0 &&& (2147483647 : Int32)) % (256 : Int32)) + (1 : Int32))), .unset, .unset, .unset, .unset, .unset, .unset] [(.int (1 : Int32))])) _
    refine st1 _ ?_
    show Steps p.tables e below (T1.setTop (mkF m 14 #[.val (.int p0), .val (.int p1), .val (.int (((p0 &&& (2147483647 : Int32)) % (256 : Int32)) + (1 : Int32))), .unset, .unset, .unset, .unset, .unset, .unset] [(.ref b1)])) _
    refine XS.dup X1.here hx rfl (hb hby at_14) rfl rfl ?_
    show Steps p.tables e below (T1.setTop (mkF m 15 #[.val (.int p0), .val (.int p1), .val (.int (((p0 &&& (2147483647 : Int32)) % (256 : Int32)) + (1 : Int32))), .unset, .unset, .unset, .unset, .unset, .unset] [(.ref b1), (.ref b1)])) _
    refine XS.iconst X1.here hx rfl (hb hby at_15) ?_
    show Steps p.tables e below (T1.setTop (mkF m 16 #[.val (.int p0), .val (.int p1), .val (.int (((p0 &&& (2147483647 : Int32)) % (256 : Int32)) + (1 : Int32))), .unset, .unset, .unset, .unset, .unset, .unset] [(.int (0 : Int32)), (.ref b1), (.ref b1)])) _
    refine XS.iloadN X1.here hx rfl (hb hby at_16) rfl ?_
    show Steps p.tables e below (T1.setTop (mkF m 17 #[.val (.int p0), .val (.int p1), .val (.int (((p0 &&& (2147483647 : Int32)) % (256 : Int32)) + (1 : Int32))), .unset, .unset, .unset, .unset, .unset, .unset] [(.int p1), (.int (0 : Int32)), (.ref b1), (.ref b1)])) _
    refine XS.sipush X1.here hx rfl (hb hby at_17) ?_
    show Steps p.tables e below (T1.setTop (mkF m 20 #[.val (.int p0), .val (.int p1), .val (.int (((p0 &&& (2147483647 : Int32)) % (256 : Int32)) + (1 : Int32))), .unset, .unset, .unset, .unset, .unset, .unset] [(.int (255 : Int32)), (.int p1), (.int (0 : Int32)), (.ref b1), (.ref b1)])) _
    refine XS.iand X1.here hx rfl (hb hby at_20) rfl ?_
    show Steps p.tables e below (T1.setTop (mkF m 21 #[.val (.int p0), .val (.int p1), .val (.int (((p0 &&& (2147483647 : Int32)) % (256 : Int32)) + (1 : Int32))), .unset, .unset, .unset, .unset, .unset, .unset] [(.int (p1 &&& (255 : Int32))), (.int (0 : Int32)), (.ref b1), (.ref b1)])) _
    refine XS.i2c X1.here hx rfl (hb hby at_21) rfl ?_
    show Steps p.tables e below (T1.setTop (mkF m 22 #[.val (.int p0), .val (.int p1), .val (.int (((p0 &&& (2147483647 : Int32)) % (256 : Int32)) + (1 : Int32))), .unset, .unset, .unset, .unset, .unset, .unset] [(.int ((p1 &&& (255 : Int32)).toUInt32.toUInt16.toUInt32.toInt32)), (.int (0 : Int32)), (.ref b1), (.ref b1)])) _
    refine st4 _ ?_
    show Steps p.tables e below (T4.setTop (mkF m 23 #[.val (.int p0), .val (.int p1), .val (.int (((p0 &&& (2147483647 : Int32)) % (256 : Int32)) + (1 : Int32))), .unset, .unset, .unset, .unset, .unset, .unset] [(.ref b1)])) _
    refine XS.astoreN X4.here hx rfl (hb hby at_23) rfl rfl (l' := #[.val (.int p0), .val (.int p1), .val (.int (((p0 &&& (2147483647 : Int32)) % (256 : Int32)) + (1 : Int32))), .val (.ref b1), .unset, .unset, .unset, .unset, .unset]) rfl ?_
    show Steps p.tables e below (T4.setTop (mkF m 24 #[.val (.int p0), .val (.int p1), .val (.int (((p0 &&& (2147483647 : Int32)) % (256 : Int32)) + (1 : Int32))), .val (.ref b1), .unset, .unset, .unset, .unset, .unset] [])) _
    refine st5 _ ?_
    show Steps p.tables e below (T5.setTop (mkF m 27 #[.val (.int p0), .val (.int p1), .val (.int (((p0 &&& (2147483647 : Int32)) % (256 : Int32)) + (1 : Int32))), .val (.ref b1), .unset, .unset, .unset, .unset, .unset] [(.ref b5)])) _
    refine XS.dup X5.here hx rfl (hb hby at_27) rfl rfl ?_
    show Steps p.tables e below (T5.setTop (mkF m 28 #[.val (.int p0), .val (.int p1), .val (.int (((p0 &&& (2147483647 : Int32)) % (256 : Int32)) + (1 : Int32))), .val (.ref b1), .unset, .unset, .unset, .unset, .unset] [(.ref b5), (.ref b5)])) _
    refine XS.iloadN X5.here hx rfl (hb hby at_28) rfl ?_
    show Steps p.tables e below (T5.setTop (mkF m 29 #[.val (.int p0), .val (.int p1), .val (.int (((p0 &&& (2147483647 : Int32)) % (256 : Int32)) + (1 : Int32))), .val (.ref b1), .unset, .unset, .unset, .unset, .unset] [(.int (((p0 &&& (2147483647 : Int32)) % (256 : Int32)) + (1 : Int32))), (.ref b5), (.ref b5)])) _
    refine st6 _ ?_
    show Steps p.tables e below (T6.setTop (mkF m 32 #[.val (.int p0), .val (.int p1), .val (.int (((p0 &&& (2147483647 : Int32)) % (256 : Int32)) + (1 : Int32))), .val (.ref b1), .unset, .unset, .unset, .unset, .unset] [(.ref b6), (.int (((p0 &&& (2147483647 : Int32)) % (256 : Int32)) + (1 : Int32))), (.ref b5), (.ref b5)])) _
    refine XS.dup X6.here hx rfl (hb hby at_32) rfl rfl ?_
    show Steps p.tables e below (T6.setTop (mkF m 33 #[.val (.int p0), .val (.int p1), .val (.int (((p0 &&& (2147483647 : Int32)) % (256 : Int32)) + (1 : Int32))), .val (.ref b1), .unset, .unset, .unset, .unset, .unset] [(.ref b6), (.ref b6), (.int (((p0 &&& (2147483647 : Int32)) % (256 : Int32)) + (1 : Int32))), (.ref b5), (.ref b5)])) _
    refine XS.aloadN X6.here hx rfl (hb hby at_33) rfl rfl ?_
    show Steps p.tables e below (T6.setTop (mkF m 34 #[.val (.int p0), .val (.int p1), .val (.int (((p0 &&& (2147483647 : Int32)) % (256 : Int32)) + (1 : Int32))), .val (.ref b1), .unset, .unset, .unset, .unset, .unset] [(.ref b1), (.ref b6), (.ref b6), (.int (((p0 &&& (2147483647 : Int32)) % (256 : Int32)) + (1 : Int32))), (.ref b5), (.ref b5)])) _
    refine st7.trans ?_
    show Steps p.tables e below (T7.setTop (mkF m 37 #[.val (.int p0), .val (.int p1), .val (.int (((p0 &&& (2147483647 : Int32)) % (256 : Int32)) + (1 : Int32))), .val (.ref b1), .unset, .unset, .unset, .unset, .unset] [(.ref b6), (.int (((p0 &&& (2147483647 : Int32)) % (256 : Int32)) + (1 : Int32))), (.ref b5), (.ref b5)])) _
    refine st10.trans ?_
    show Steps p.tables e below (T10.setTop (mkF m 40 #[.val (.int p0), .val (.int p1), .val (.int (((p0 &&& (2147483647 : Int32)) % (256 : Int32)) + (1 : Int32))), .val (.ref b1), .unset, .unset, .unset, .unset, .unset] [(.ref b5)])) _
    refine XS.astore X10.here hx rfl (hb hby at_40) rfl rfl (l' := #[.val (.int p0), .val (.int p1), .val (.int (((p0 &&& (2147483647 : Int32)) % (256 : Int32)) + (1 : Int32))), .val (.ref b1), .val (.ref b5), .unset, .unset, .unset, .unset]) rfl ?_
    show Steps p.tables e below (T10.setTop (mkF m 42 #[.val (.int p0), .val (.int p1), .val (.int (((p0 &&& (2147483647 : Int32)) % (256 : Int32)) + (1 : Int32))), .val (.ref b1), .val (.ref b5), .unset, .unset, .unset, .unset] [])) _
    refine XS.aload X10.here hx rfl (hb hby at_42) rfl rfl ?_
    show Steps p.tables e below (T10.setTop (mkF m 44 #[.val (.int p0), .val (.int p1), .val (.int (((p0 &&& (2147483647 : Int32)) % (256 : Int32)) + (1 : Int32))), .val (.ref b1), .val (.ref b5), .unset, .unset, .unset, .unset] [(.ref b5)])) _
    refine st20.trans ?_
    show Steps p.tables e below (T20.setTop (mkF m 47 #[.val (.int p0), .val (.int p1), .val (.int (((p0 &&& (2147483647 : Int32)) % (256 : Int32)) + (1 : Int32))), .val (.ref b1), .val (.ref b5), .unset, .unset, .unset, .unset] [(.ref b20_0)])) _
    refine XS.astore X20.here hx rfl (hb hby at_47) rfl rfl (l' := #[.val (.int p0), .val (.int p1), .val (.int (((p0 &&& (2147483647 : Int32)) % (256 : Int32)) + (1 : Int32))), .val (.ref b1), .val (.ref b5), .val (.ref b20_0), .unset, .unset, .unset]) rfl ?_
    show Steps p.tables e below (T20.setTop (mkF m 49 #[.val (.int p0), .val (.int p1), .val (.int (((p0 &&& (2147483647 : Int32)) % (256 : Int32)) + (1 : Int32))), .val (.ref b1), .val (.ref b5), .val (.ref b20_0), .unset, .unset, .unset] [])) _
    refine X20.ldc2Long hx hown10 (mvT hZ10 (hw _ (List.mem_of_getElem? (i := 128) rfl))) (g := (mkF m 49 #[.val (.int p0), .val (.int p1), .val (.int (((p0 &&& (2147483647 : Int32)) % (256 : Int32)) + (1 : Int32))), .val (.ref b1), .val (.ref b5), .val (.ref b20_0), .unset, .unset, .unset] [])) rfl (hb hby at_49) _ ?_
    show Steps p.tables e below (T20.setTop (mkF m 52 #[.val (.int p0), .val (.int p1), .val (.int (((p0 &&& (2147483647 : Int32)) % (256 : Int32)) + (1 : Int32))), .val (.ref b1), .val (.ref b5), .val (.ref b20_0), .unset, .unset, .unset] [(.long (2147483648 : Int64))])) _
    refine XS.iloadN X20.here hx rfl (hb hby at_52) rfl ?_
    show Steps p.tables e below (T20.setTop (mkF m 53 #[.val (.int p0), .val (.int p1), .val (.int (((p0 &&& (2147483647 : Int32)) % (256 : Int32)) + (1 : Int32))), .val (.ref b1), .val (.ref b5), .val (.ref b20_0), .unset, .unset, .unset] [(.int (((p0 &&& (2147483647 : Int32)) % (256 : Int32)) + (1 : Int32))), (.long (2147483648 : Int64))])) _
    refine XS.i2l X20.here hx rfl (hb hby at_53) rfl ?_
    show Steps p.tables e below (T20.setTop (mkF m 54 #[.val (.int p0), .val (.int p1), .val (.int (((p0 &&& (2147483647 : Int32)) % (256 : Int32)) + (1 : Int32))), .val (.ref b1), .val (.ref b5), .val (.ref b20_0), .unset, .unset, .unset] [(.long ((((p0 &&& (2147483647 : Int32)) % (256 : Int32)) + (1 : Int32)).toInt64)), (.long (2147483648 : Int64))])) _
    refine own_lremM X20 hx rfl (hb hby at_54) rfl hc11 ?_
    show Steps p.tables e below (T20.setTop (mkF m 55 #[.val (.int p0), .val (.int p1), .val (.int (((p0 &&& (2147483647 : Int32)) % (256 : Int32)) + (1 : Int32))), .val (.ref b1), .val (.ref b5), .val (.ref b20_0), .unset, .unset, .unset] [(.long ((2147483648 : Int64) % ((((p0 &&& (2147483647 : Int32)) % (256 : Int32)) + (1 : Int32)).toInt64)))])) _
    refine XS.lstore X20.here hx rfl (hb hby at_55) rfl (l' := #[.val (.int p0), .val (.int p1), .val (.int (((p0 &&& (2147483647 : Int32)) % (256 : Int32)) + (1 : Int32))), .val (.ref b1), .val (.ref b5), .val (.ref b20_0), .val (.long ((2147483648 : Int64) % ((((p0 &&& (2147483647 : Int32)) % (256 : Int32)) + (1 : Int32)).toInt64))), .second, .unset]) rfl ?_
    show Steps p.tables e below (T20.setTop (mkF m 57 #[.val (.int p0), .val (.int p1), .val (.int (((p0 &&& (2147483647 : Int32)) % (256 : Int32)) + (1 : Int32))), .val (.ref b1), .val (.ref b5), .val (.ref b20_0), .val (.long ((2147483648 : Int64) % ((((p0 &&& (2147483647 : Int32)) % (256 : Int32)) + (1 : Int32)).toInt64))), .second, .unset] [])) _
    refine XS.lload X20.here hx rfl (hb hby at_57) rfl ?_
    show Steps p.tables e below (T20.setTop (mkF m 59 #[.val (.int p0), .val (.int p1), .val (.int (((p0 &&& (2147483647 : Int32)) % (256 : Int32)) + (1 : Int32))), .val (.ref b1), .val (.ref b5), .val (.ref b20_0), .val (.long ((2147483648 : Int64) % ((((p0 &&& (2147483647 : Int32)) % (256 : Int32)) + (1 : Int32)).toInt64))), .second, .unset] [(.long ((2147483648 : Int64) % ((((p0 &&& (2147483647 : Int32)) % (256 : Int32)) + (1 : Int32)).toInt64)))])) _
    refine XS.lneg X20.here hx rfl (hb hby at_59) rfl ?_
    show Steps p.tables e below (T20.setTop (mkF m 60 #[.val (.int p0), .val (.int p1), .val (.int (((p0 &&& (2147483647 : Int32)) % (256 : Int32)) + (1 : Int32))), .val (.ref b1), .val (.ref b5), .val (.ref b20_0), .val (.long ((2147483648 : Int64) % ((((p0 &&& (2147483647 : Int32)) % (256 : Int32)) + (1 : Int32)).toInt64))), .second, .unset] [(.long (-((2147483648 : Int64) % ((((p0 &&& (2147483647 : Int32)) % (256 : Int32)) + (1 : Int32)).toInt64))))])) _
    refine X20.ldc2Long hx hown10 (mvT hZ10 (hw _ (List.mem_of_getElem? (i := 129) rfl))) (g := (mkF m 60 #[.val (.int p0), .val (.int p1), .val (.int (((p0 &&& (2147483647 : Int32)) % (256 : Int32)) + (1 : Int32))), .val (.ref b1), .val (.ref b5), .val (.ref b20_0), .val (.long ((2147483648 : Int64) % ((((p0 &&& (2147483647 : Int32)) % (256 : Int32)) + (1 : Int32)).toInt64))), .second, .unset] [(.long (-((2147483648 : Int64) % ((((p0 &&& (2147483647 : Int32)) % (256 : Int32)) + (1 : Int32)).toInt64))))])) rfl (hb hby at_60) _ ?_
    show Steps p.tables e below (T20.setTop (mkF m 63 #[.val (.int p0), .val (.int p1), .val (.int (((p0 &&& (2147483647 : Int32)) % (256 : Int32)) + (1 : Int32))), .val (.ref b1), .val (.ref b5), .val (.ref b20_0), .val (.long ((2147483648 : Int64) % ((((p0 &&& (2147483647 : Int32)) % (256 : Int32)) + (1 : Int32)).toInt64))), .second, .unset] [(.long (255 : Int64)), (.long (-((2147483648 : Int64) % ((((p0 &&& (2147483647 : Int32)) % (256 : Int32)) + (1 : Int32)).toInt64))))])) _
    refine XS.land X20.here hx rfl (hb hby at_63) rfl ?_
    show Steps p.tables e below (T20.setTop (mkF m 64 #[.val (.int p0), .val (.int p1), .val (.int (((p0 &&& (2147483647 : Int32)) % (256 : Int32)) + (1 : Int32))), .val (.ref b1), .val (.ref b5), .val (.ref b20_0), .val (.long ((2147483648 : Int64) % ((((p0 &&& (2147483647 : Int32)) % (256 : Int32)) + (1 : Int32)).toInt64))), .second, .unset] [(.long ((-((2147483648 : Int64) % ((((p0 &&& (2147483647 : Int32)) % (256 : Int32)) + (1 : Int32)).toInt64))) &&& (255 : Int64)))])) _
    refine XS.l2i X20.here hx rfl (hb hby at_64) rfl ?_
    show Steps p.tables e below (T20.setTop (mkF m 65 #[.val (.int p0), .val (.int p1), .val (.int (((p0 &&& (2147483647 : Int32)) % (256 : Int32)) + (1 : Int32))), .val (.ref b1), .val (.ref b5), .val (.ref b20_0), .val (.long ((2147483648 : Int64) % ((((p0 &&& (2147483647 : Int32)) % (256 : Int32)) + (1 : Int32)).toInt64))), .second, .unset] [(.int (((-((2147483648 : Int64) % ((((p0 &&& (2147483647 : Int32)) % (256 : Int32)) + (1 : Int32)).toInt64))) &&& (255 : Int64)).toInt32))])) _
    refine XS.istore X20.here hx rfl (hb hby at_65) rfl (l' := #[.val (.int p0), .val (.int p1), .val (.int (((p0 &&& (2147483647 : Int32)) % (256 : Int32)) + (1 : Int32))), .val (.ref b1), .val (.ref b5), .val (.ref b20_0), .val (.long ((2147483648 : Int64) % ((((p0 &&& (2147483647 : Int32)) % (256 : Int32)) + (1 : Int32)).toInt64))), .second, .val (.int (((-((2147483648 : Int64) % ((((p0 &&& (2147483647 : Int32)) % (256 : Int32)) + (1 : Int32)).toInt64))) &&& (255 : Int64)).toInt32))]) rfl ?_
    show Steps p.tables e below (T20.setTop (mkF m 67 #[.val (.int p0), .val (.int p1), .val (.int (((p0 &&& (2147483647 : Int32)) % (256 : Int32)) + (1 : Int32))), .val (.ref b1), .val (.ref b5), .val (.ref b20_0), .val (.long ((2147483648 : Int64) % ((((p0 &&& (2147483647 : Int32)) % (256 : Int32)) + (1 : Int32)).toInt64))), .second, .val (.int (((-((2147483648 : Int64) % ((((p0 &&& (2147483647 : Int32)) % (256 : Int32)) + (1 : Int32)).toInt64))) &&& (255 : Int64)).toInt32))] [])) _
    refine XS.iload X20.here hx rfl (hb hby at_67) rfl ?_
    show Steps p.tables e below (T20.setTop (mkF m 69 #[.val (.int p0), .val (.int p1), .val (.int (((p0 &&& (2147483647 : Int32)) % (256 : Int32)) + (1 : Int32))), .val (.ref b1), .val (.ref b5), .val (.ref b20_0), .val (.long ((2147483648 : Int64) % ((((p0 &&& (2147483647 : Int32)) % (256 : Int32)) + (1 : Int32)).toInt64))), .second, .val (.int (((-((2147483648 : Int64) % ((((p0 &&& (2147483647 : Int32)) % (256 : Int32)) + (1 : Int32)).toInt64))) &&& (255 : Int64)).toInt32))] [(.int (((-((2147483648 : Int64) % ((((p0 &&& (2147483647 : Int32)) % (256 : Int32)) + (1 : Int32)).toInt64))) &&& (255 : Int64)).toInt32))])) _
    refine XS.iloadN X20.here hx rfl (hb hby at_69) rfl ?_
    show Steps p.tables e below (T20.setTop (mkF m 70 #[.val (.int p0), .val (.int p1), .val (.int (((p0 &&& (2147483647 : Int32)) % (256 : Int32)) + (1 : Int32))), .val (.ref b1), .val (.ref b5), .val (.ref b20_0), .val (.long ((2147483648 : Int64) % ((((p0 &&& (2147483647 : Int32)) % (256 : Int32)) + (1 : Int32)).toInt64))), .second, .val (.int (((-((2147483648 : Int64) % ((((p0 &&& (2147483647 : Int32)) % (256 : Int32)) + (1 : Int32)).toInt64))) &&& (255 : Int64)).toInt32))] [(.int (((p0 &&& (2147483647 : Int32)) % (256 : Int32)) + (1 : Int32))), (.int (((-((2147483648 : Int64) % ((((p0 &&& (2147483647 : Int32)) % (256 : Int32)) + (1 : Int32)).toInt64))) &&& (255 : Int64)).toInt32))])) _
    refine XS.icmpNo X20.here hx rfl (hb hby at_70) rfl (flt hc12).1 ?_
    show Steps p.tables e below (T20.setTop (mkF m 73 #[.val (.int p0), .val (.int p1), .val (.int (((p0 &&& (2147483647 : Int32)) % (256 : Int32)) + (1 : Int32))), .val (.ref b1), .val (.ref b5), .val (.ref b20_0), .val (.long ((2147483648 : Int64) % ((((p0 &&& (2147483647 : Int32)) % (256 : Int32)) + (1 : Int32)).toInt64))), .second, .val (.int (((-((2147483648 : Int64) % ((((p0 &&& (2147483647 : Int32)) % (256 : Int32)) + (1 : Int32)).toInt64))) &&& (255 : Int64)).toInt32))] [])) _
    refine XS.aload X20.here hx rfl (hb hby at_73) rfl rfl ?_
    show Steps p.tables e below (T20.setTop (mkF m 75 #[.val (.int p0), .val (.int p1), .val (.int (((p0 &&& (2147483647 : Int32)) % (256 : Int32)) + (1 : Int32))), .val (.ref b1), .val (.ref b5), .val (.ref b20_0), .val (.long ((2147483648 : Int64) % ((((p0 &&& (2147483647 : Int32)) % (256 : Int32)) + (1 : Int32)).toInt64))), .second, .val (.int (((-((2147483648 : Int64) % ((((p0 &&& (2147483647 : Int32)) % (256 : Int32)) + (1 : Int32)).toInt64))) &&& (255 : Int64)).toInt32))] [(.ref b20_0)])) _
    refine X20.arraylength hx Ar21.1 (State.isArrayOf_alike hZ10.alike Ar21.2.1) (g := (mkF m 75 #[.val (.int p0), .val (.int p1), .val (.int (((p0 &&& (2147483647 : Int32)) % (256 : Int32)) + (1 : Int32))), .val (.ref b1), .val (.ref b5), .val (.ref b20_0), .val (.long ((2147483648 : Int64) % ((((p0 &&& (2147483647 : Int32)) % (256 : Int32)) + (1 : Int32)).toInt64))), .second, .val (.int (((-((2147483648 : Int64) % ((((p0 &&& (2147483647 : Int32)) % (256 : Int32)) + (1 : Int32)).toInt64))) &&& (255 : Int64)).toInt32))] [(.ref b20_0)])) rfl rfl (hb hby at_75) _ ?_
    rw [len_of Sz21 Ng21]
    show Steps p.tables e below (T20.setTop (mkF m 76 #[.val (.int p0), .val (.int p1), .val (.int (((p0 &&& (2147483647 : Int32)) % (256 : Int32)) + (1 : Int32))), .val (.ref b1), .val (.ref b5), .val (.ref b20_0), .val (.long ((2147483648 : Int64) % ((((p0 &&& (2147483647 : Int32)) % (256 : Int32)) + (1 : Int32)).toInt64))), .second, .val (.int (((-((2147483648 : Int64) % ((((p0 &&& (2147483647 : Int32)) % (256 : Int32)) + (1 : Int32)).toInt64))) &&& (255 : Int64)).toInt32))] [(.int (6 : Int32))])) _
    refine XS.bipush X20.here hx rfl (hb hby at_76) ?_
    show Steps p.tables e below (T20.setTop (mkF m 78 #[.val (.int p0), .val (.int p1), .val (.int (((p0 &&& (2147483647 : Int32)) % (256 : Int32)) + (1 : Int32))), .val (.ref b1), .val (.ref b5), .val (.ref b20_0), .val (.long ((2147483648 : Int64) % ((((p0 &&& (2147483647 : Int32)) % (256 : Int32)) + (1 : Int32)).toInt64))), .second, .val (.int (((-((2147483648 : Int64) % ((((p0 &&& (2147483647 : Int32)) % (256 : Int32)) + (1 : Int32)).toInt64))) &&& (255 : Int64)).toInt32))] [(.int (6 : Int32)), (.int (6 : Int32))])) _
    refine XS.icmpNo X20.here hx rfl (hb hby at_78) rfl (teq (by decide : (6 : Int32) = (6 : Int32))).2 ?_
    show Steps p.tables e below (T20.setTop (mkF m 81 #[.val (.int p0), .val (.int p1), .val (.int (((p0 &&& (2147483647 : Int32)) % (256 : Int32)) + (1 : Int32))), .val (.ref b1), .val (.ref b5), .val (.ref b20_0), .val (.long ((2147483648 : Int64) % ((((p0 &&& (2147483647 : Int32)) % (256 : Int32)) + (1 : Int32)).toInt64))), .second, .val (.int (((-((2147483648 : Int64) % ((((p0 &&& (2147483647 : Int32)) % (256 : Int32)) + (1 : Int32)).toInt64))) &&& (255 : Int64)).toInt32))] [])) _
    refine XS.aload X20.here hx rfl (hb hby at_81) rfl rfl ?_
    show Steps p.tables e below (T20.setTop (mkF m 83 #[.val (.int p0), .val (.int p1), .val (.int (((p0 &&& (2147483647 : Int32)) % (256 : Int32)) + (1 : Int32))), .val (.ref b1), .val (.ref b5), .val (.ref b20_0), .val (.long ((2147483648 : Int64) % ((((p0 &&& (2147483647 : Int32)) % (256 : Int32)) + (1 : Int32)).toInt64))), .second, .val (.int (((-((2147483648 : Int64) % ((((p0 &&& (2147483647 : Int32)) % (256 : Int32)) + (1 : Int32)).toInt64))) &&& (255 : Int64)).toInt32))] [(.ref b20_0)])) _
    refine XS.iconst X20.here hx rfl (hb hby at_83) ?_
    show Steps p.tables e below (T20.setTop (mkF m 84 #[.val (.int p0), .val (.int p1), .val (.int (((p0 &&& (2147483647 : Int32)) % (256 : Int32)) + (1 : Int32))), .val (.ref b1), .val (.ref b5), .val (.ref b20_0), .val (.long ((2147483648 : Int64) % ((((p0 &&& (2147483647 : Int32)) % (256 : Int32)) + (1 : Int32)).toInt64))), .second, .val (.int (((-((2147483648 : Int64) % ((((p0 &&& (2147483647 : Int32)) % (256 : Int32)) + (1 : Int32)).toInt64))) &&& (255 : Int64)).toInt32))] [(.int (0 : Int32)), (.ref b20_0)])) _
    refine X20.iaload hx (j := (0 : Int32)) (v := (.int (0 : Int32))) Ar21.1 (State.isArrayOf_alike hZ10.alike Ar21.2.1) Ar21.2.2 hin22 hat23 (g := (mkF m 84 #[.val (.int p0), .val (.int p1), .val (.int (((p0 &&& (2147483647 : Int32)) % (256 : Int32)) + (1 : Int32))), .val (.ref b1), .val (.ref b5), .val (.ref b20_0), .val (.long ((2147483648 : Int64) % ((((p0 &&& (2147483647 : Int32)) % (256 : Int32)) + (1 : Int32)).toInt64))), .second, .val (.int (((-((2147483648 : Int64) % ((((p0 &&& (2147483647 : Int32)) % (256 : Int32)) + (1 : Int32)).toInt64))) &&& (255 : Int64)).toInt32))] [(.int (0 : Int32)), (.ref b20_0)])) rfl rfl (hb hby at_84) _ ?_
    show Steps p.tables e below (T20.setTop (mkF m 85 #[.val (.int p0), .val (.int p1), .val (.int (((p0 &&& (2147483647 : Int32)) % (256 : Int32)) + (1 : Int32))), .val (.ref b1), .val (.ref b5), .val (.ref b20_0), .val (.long ((2147483648 : Int64) % ((((p0 &&& (2147483647 : Int32)) % (256 : Int32)) + (1 : Int32)).toInt64))), .second, .val (.int (((-((2147483648 : Int64) % ((((p0 &&& (2147483647 : Int32)) % (256 : Int32)) + (1 : Int32)).toInt64))) &&& (255 : Int64)).toInt32))] [(.int (0 : Int32))])) _
    refine XS.ifNo X20.here hx rfl (hb hby at_85) rfl ((if0 _ _).trans (teq (by decide : (0 : Int32) = (0 : Int32))).2) ?_
    show Steps p.tables e below (T20.setTop (mkF m 88 #[.val (.int p0), .val (.int p1), .val (.int (((p0 &&& (2147483647 : Int32)) % (256 : Int32)) + (1 : Int32))), .val (.ref b1), .val (.ref b5), .val (.ref b20_0), .val (.long ((2147483648 : Int64) % ((((p0 &&& (2147483647 : Int32)) % (256 : Int32)) + (1 : Int32)).toInt64))), .second, .val (.int (((-((2147483648 : Int64) % ((((p0 &&& (2147483647 : Int32)) % (256 : Int32)) + (1 : Int32)).toInt64))) &&& (255 : Int64)).toInt32))] [])) _
    refine XS.aload X20.here hx rfl (hb hby at_88) rfl rfl ?_
    show Steps p.tables e below (T20.setTop (mkF m 90 #[.val (.int p0), .val (.int p1), .val (.int (((p0 &&& (2147483647 : Int32)) % (256 : Int32)) + (1 : Int32))), .val (.ref b1), .val (.ref b5), .val (.ref b20_0), .val (.long ((2147483648 : Int64) % ((((p0 &&& (2147483647 : Int32)) % (256 : Int32)) + (1 : Int32)).toInt64))), .second, .val (.int (((-((2147483648 : Int64) % ((((p0 &&& (2147483647 : Int32)) % (256 : Int32)) + (1 : Int32)).toInt64))) &&& (255 : Int64)).toInt32))] [(.ref b20_0)])) _
    refine XS.iconst X20.here hx rfl (hb hby at_90) ?_
    show Steps p.tables e below (T20.setTop (mkF m 91 #[.val (.int p0), .val (.int p1), .val (.int (((p0 &&& (2147483647 : Int32)) % (256 : Int32)) + (1 : Int32))), .val (.ref b1), .val (.ref b5), .val (.ref b20_0), .val (.long ((2147483648 : Int64) % ((((p0 &&& (2147483647 : Int32)) % (256 : Int32)) + (1 : Int32)).toInt64))), .second, .val (.int (((-((2147483648 : Int64) % ((((p0 &&& (2147483647 : Int32)) % (256 : Int32)) + (1 : Int32)).toInt64))) &&& (255 : Int64)).toInt32))] [(.int (1 : Int32)), (.ref b20_0)])) _
    refine X20.iaload hx (j := (1 : Int32)) (v := (.int ((((p0 &&& (2147483647 : Int32)) % (256 : Int32)) + (1 : Int32)) - (1 : Int32)))) Ar21.1 (State.isArrayOf_alike hZ10.alike Ar21.2.1) Ar21.2.2 hin24 hat25 (g := (mkF m 91 #[.val (.int p0), .val (.int p1), .val (.int (((p0 &&& (2147483647 : Int32)) % (256 : Int32)) + (1 : Int32))), .val (.ref b1), .val (.ref b5), .val (.ref b20_0), .val (.long ((2147483648 : Int64) % ((((p0 &&& (2147483647 : Int32)) % (256 : Int32)) + (1 : Int32)).toInt64))), .second, .val (.int (((-((2147483648 : Int64) % ((((p0 &&& (2147483647 : Int32)) % (256 : Int32)) + (1 : Int32)).toInt64))) &&& (255 : Int64)).toInt32))] [(.int (1 : Int32)), (.ref b20_0)])) rfl rfl (hb hby at_91) _ ?_
    show Steps p.tables e below (T20.setTop (mkF m 92 #[.val (.int p0), .val (.int p1), .val (.int (((p0 &&& (2147483647 : Int32)) % (256 : Int32)) + (1 : Int32))), .val (.ref b1), .val (.ref b5), .val (.ref b20_0), .val (.long ((2147483648 : Int64) % ((((p0 &&& (2147483647 : Int32)) % (256 : Int32)) + (1 : Int32)).toInt64))), .second, .val (.int (((-((2147483648 : Int64) % ((((p0 &&& (2147483647 : Int32)) % (256 : Int32)) + (1 : Int32)).toInt64))) &&& (255 : Int64)).toInt32))] [(.int ((((p0 &&& (2147483647 : Int32)) % (256 : Int32)) + (1 : Int32)) - (1 : Int32)))])) _
    refine XS.iloadN X20.here hx rfl (hb hby at_92) rfl ?_
    show Steps p.tables e below (T20.setTop (mkF m 93 #[.val (.int p0), .val (.int p1), .val (.int (((p0 &&& (2147483647 : Int32)) % (256 : Int32)) + (1 : Int32))), .val (.ref b1), .val (.ref b5), .val (.ref b20_0), .val (.long ((2147483648 : Int64) % ((((p0 &&& (2147483647 : Int32)) % (256 : Int32)) + (1 : Int32)).toInt64))), .second, .val (.int (((-((2147483648 : Int64) % ((((p0 &&& (2147483647 : Int32)) % (256 : Int32)) + (1 : Int32)).toInt64))) &&& (255 : Int64)).toInt32))] [(.int (((p0 &&& (2147483647 : Int32)) % (256 : Int32)) + (1 : Int32))), (.int ((((p0 &&& (2147483647 : Int32)) % (256 : Int32)) + (1 : Int32)) - (1 : Int32)))])) _
    refine XS.iconst X20.here hx rfl (hb hby at_93) ?_
    show Steps p.tables e below (T20.setTop (mkF m 94 #[.val (.int p0), .val (.int p1), .val (.int (((p0 &&& (2147483647 : Int32)) % (256 : Int32)) + (1 : Int32))), .val (.ref b1), .val (.ref b5), .val (.ref b20_0), .val (.long ((2147483648 : Int64) % ((((p0 &&& (2147483647 : Int32)) % (256 : Int32)) + (1 : Int32)).toInt64))), .second, .val (.int (((-((2147483648 : Int64) % ((((p0 &&& (2147483647 : Int32)) % (256 : Int32)) + (1 : Int32)).toInt64))) &&& (255 : Int64)).toInt32))] [(.int (1 : Int32)), (.int (((p0 &&& (2147483647 : Int32)) % (256 : Int32)) + (1 : Int32))), (.int ((((p0 &&& (2147483647 : Int32)) % (256 : Int32)) + (1 : Int32)) - (1 : Int32)))])) _
    refine XS.isub X20.here hx rfl (hb hby at_94) rfl ?_
    show Steps p.tables e below (T20.setTop (mkF m 95 #[.val (.int p0), .val (.int p1), .val (.int (((p0 &&& (2147483647 : Int32)) % (256 : Int32)) + (1 : Int32))), .val (.ref b1), .val (.ref b5), .val (.ref b20_0), .val (.long ((2147483648 : Int64) % ((((p0 &&& (2147483647 : Int32)) % (256 : Int32)) + (1 : Int32)).toInt64))), .second, .val (.int (((-((2147483648 : Int64) % ((((p0 &&& (2147483647 : Int32)) % (256 : Int32)) + (1 : Int32)).toInt64))) &&& (255 : Int64)).toInt32))] [(.int ((((p0 &&& (2147483647 : Int32)) % (256 : Int32)) + (1 : Int32)) - (1 : Int32))), (.int ((((p0 &&& (2147483647 : Int32)) % (256 : Int32)) + (1 : Int32)) - (1 : Int32)))])) _
    refine XS.icmpNo X20.here hx rfl (hb hby at_95) rfl (teq (rfl : ((((p0 &&& (2147483647 : Int32)) % (256 : Int32)) + (1 : Int32)) - (1 : Int32)) = ((((p0 &&& (2147483647 : Int32)) % (256 : Int32)) + (1 : Int32)) - (1 : Int32)))).2 ?_
    show Steps p.tables e below (T20.setTop (mkF m 98 #[.val (.int p0), .val (.int p1), .val (.int (((p0 &&& (2147483647 : Int32)) % (256 : Int32)) + (1 : Int32))), .val (.ref b1), .val (.ref b5), .val (.ref b20_0), .val (.long ((2147483648 : Int64) % ((((p0 &&& (2147483647 : Int32)) % (256 : Int32)) + (1 : Int32)).toInt64))), .second, .val (.int (((-((2147483648 : Int64) % ((((p0 &&& (2147483647 : Int32)) % (256 : Int32)) + (1 : Int32)).toInt64))) &&& (255 : Int64)).toInt32))] [])) _
    refine XS.aload X20.here hx rfl (hb hby at_98) rfl rfl ?_
    show Steps p.tables e below (T20.setTop (mkF m 100 #[.val (.int p0), .val (.int p1), .val (.int (((p0 &&& (2147483647 : Int32)) % (256 : Int32)) + (1 : Int32))), .val (.ref b1), .val (.ref b5), .val (.ref b20_0), .val (.long ((2147483648 : Int64) % ((((p0 &&& (2147483647 : Int32)) % (256 : Int32)) + (1 : Int32)).toInt64))), .second, .val (.int (((-((2147483648 : Int64) % ((((p0 &&& (2147483647 : Int32)) % (256 : Int32)) + (1 : Int32)).toInt64))) &&& (255 : Int64)).toInt32))] [(.ref b20_0)])) _
    refine XS.iconst X20.here hx rfl (hb hby at_100) ?_
    show Steps p.tables e below (T20.setTop (mkF m 101 #[.val (.int p0), .val (.int p1), .val (.int (((p0 &&& (2147483647 : Int32)) % (256 : Int32)) + (1 : Int32))), .val (.ref b1), .val (.ref b5), .val (.ref b20_0), .val (.long ((2147483648 : Int64) % ((((p0 &&& (2147483647 : Int32)) % (256 : Int32)) + (1 : Int32)).toInt64))), .second, .val (.int (((-((2147483648 : Int64) % ((((p0 &&& (2147483647 : Int32)) % (256 : Int32)) + (1 : Int32)).toInt64))) &&& (255 : Int64)).toInt32))] [(.int (2 : Int32)), (.ref b20_0)])) _
    refine X20.iaload hx (j := (2 : Int32)) (v := (.int (0 : Int32))) Ar21.1 (State.isArrayOf_alike hZ10.alike Ar21.2.1) Ar21.2.2 hin26 hat27 (g := (mkF m 101 #[.val (.int p0), .val (.int p1), .val (.int (((p0 &&& (2147483647 : Int32)) % (256 : Int32)) + (1 : Int32))), .val (.ref b1), .val (.ref b5), .val (.ref b20_0), .val (.long ((2147483648 : Int64) % ((((p0 &&& (2147483647 : Int32)) % (256 : Int32)) + (1 : Int32)).toInt64))), .second, .val (.int (((-((2147483648 : Int64) % ((((p0 &&& (2147483647 : Int32)) % (256 : Int32)) + (1 : Int32)).toInt64))) &&& (255 : Int64)).toInt32))] [(.int (2 : Int32)), (.ref b20_0)])) rfl rfl (hb hby at_101) _ ?_
    show Steps p.tables e below (T20.setTop (mkF m 102 #[.val (.int p0), .val (.int p1), .val (.int (((p0 &&& (2147483647 : Int32)) % (256 : Int32)) + (1 : Int32))), .val (.ref b1), .val (.ref b5), .val (.ref b20_0), .val (.long ((2147483648 : Int64) % ((((p0 &&& (2147483647 : Int32)) % (256 : Int32)) + (1 : Int32)).toInt64))), .second, .val (.int (((-((2147483648 : Int64) % ((((p0 &&& (2147483647 : Int32)) % (256 : Int32)) + (1 : Int32)).toInt64))) &&& (255 : Int64)).toInt32))] [(.int (0 : Int32))])) _
    refine XS.ifNo X20.here hx rfl (hb hby at_102) rfl ((if0 _ _).trans (teq (by decide : (0 : Int32) = (0 : Int32))).2) ?_
    show Steps p.tables e below (T20.setTop (mkF m 105 #[.val (.int p0), .val (.int p1), .val (.int (((p0 &&& (2147483647 : Int32)) % (256 : Int32)) + (1 : Int32))), .val (.ref b1), .val (.ref b5), .val (.ref b20_0), .val (.long ((2147483648 : Int64) % ((((p0 &&& (2147483647 : Int32)) % (256 : Int32)) + (1 : Int32)).toInt64))), .second, .val (.int (((-((2147483648 : Int64) % ((((p0 &&& (2147483647 : Int32)) % (256 : Int32)) + (1 : Int32)).toInt64))) &&& (255 : Int64)).toInt32))] [])) _
    refine XS.aload X20.here hx rfl (hb hby at_105) rfl rfl ?_
    show Steps p.tables e below (T20.setTop (mkF m 107 #[.val (.int p0), .val (.int p1), .val (.int (((p0 &&& (2147483647 : Int32)) % (256 : Int32)) + (1 : Int32))), .val (.ref b1), .val (.ref b5), .val (.ref b20_0), .val (.long ((2147483648 : Int64) % ((((p0 &&& (2147483647 : Int32)) % (256 : Int32)) + (1 : Int32)).toInt64))), .second, .val (.int (((-((2147483648 : Int64) % ((((p0 &&& (2147483647 : Int32)) % (256 : Int32)) + (1 : Int32)).toInt64))) &&& (255 : Int64)).toInt32))] [(.ref b20_0)])) _
    refine XS.iconst X20.here hx rfl (hb hby at_107) ?_
    show Steps p.tables e below (T20.setTop (mkF m 108 #[.val (.int p0), .val (.int p1), .val (.int (((p0 &&& (2147483647 : Int32)) % (256 : Int32)) + (1 : Int32))), .val (.ref b1), .val (.ref b5), .val (.ref b20_0), .val (.long ((2147483648 : Int64) % ((((p0 &&& (2147483647 : Int32)) % (256 : Int32)) + (1 : Int32)).toInt64))), .second, .val (.int (((-((2147483648 : Int64) % ((((p0 &&& (2147483647 : Int32)) % (256 : Int32)) + (1 : Int32)).toInt64))) &&& (255 : Int64)).toInt32))] [(.int (3 : Int32)), (.ref b20_0)])) _
    refine X20.iaload hx (j := (3 : Int32)) (v := (.int ((((-2147483648 : Int32) % (((p0 &&& (2147483647 : Int32)) % (256 : Int32)) + (1 : Int32))).toInt8.toInt32) &&& (255 : Int32)))) Ar21.1 (State.isArrayOf_alike hZ10.alike Ar21.2.1) Ar21.2.2 hin28 hat29 (g := (mkF m 108 #[.val (.int p0), .val (.int p1), .val (.int (((p0 &&& (2147483647 : Int32)) % (256 : Int32)) + (1 : Int32))), .val (.ref b1), .val (.ref b5), .val (.ref b20_0), .val (.long ((2147483648 : Int64) % ((((p0 &&& (2147483647 : Int32)) % (256 : Int32)) + (1 : Int32)).toInt64))), .second, .val (.int (((-((2147483648 : Int64) % ((((p0 &&& (2147483647 : Int32)) % (256 : Int32)) + (1 : Int32)).toInt64))) &&& (255 : Int64)).toInt32))] [(.int (3 : Int32)), (.ref b20_0)])) rfl rfl (hb hby at_108) _ ?_
    show Steps p.tables e below (T20.setTop (mkF m 109 #[.val (.int p0), .val (.int p1), .val (.int (((p0 &&& (2147483647 : Int32)) % (256 : Int32)) + (1 : Int32))), .val (.ref b1), .val (.ref b5), .val (.ref b20_0), .val (.long ((2147483648 : Int64) % ((((p0 &&& (2147483647 : Int32)) % (256 : Int32)) + (1 : Int32)).toInt64))), .second, .val (.int (((-((2147483648 : Int64) % ((((p0 &&& (2147483647 : Int32)) % (256 : Int32)) + (1 : Int32)).toInt64))) &&& (255 : Int64)).toInt32))] [(.int ((((-2147483648 : Int32) % (((p0 &&& (2147483647 : Int32)) % (256 : Int32)) + (1 : Int32))).toInt8.toInt32) &&& (255 : Int32)))])) _
    refine XS.iload X20.here hx rfl (hb hby at_109) rfl ?_
    show Steps p.tables e below (T20.setTop (mkF m 111 #[.val (.int p0), .val (.int p1), .val (.int (((p0 &&& (2147483647 : Int32)) % (256 : Int32)) + (1 : Int32))), .val (.ref b1), .val (.ref b5), .val (.ref b20_0), .val (.long ((2147483648 : Int64) % ((((p0 &&& (2147483647 : Int32)) % (256 : Int32)) + (1 : Int32)).toInt64))), .second, .val (.int (((-((2147483648 : Int64) % ((((p0 &&& (2147483647 : Int32)) % (256 : Int32)) + (1 : Int32)).toInt64))) &&& (255 : Int64)).toInt32))] [(.int (((-((2147483648 : Int64) % ((((p0 &&& (2147483647 : Int32)) % (256 : Int32)) + (1 : Int32)).toInt64))) &&& (255 : Int64)).toInt32)), (.int ((((-2147483648 : Int32) % (((p0 &&& (2147483647 : Int32)) % (256 : Int32)) + (1 : Int32))).toInt8.toInt32) &&& (255 : Int32)))])) _
    refine XS.icmpNo X20.here hx rfl (hb hby at_111) rfl (teq hc13).2 ?_
    show Steps p.tables e below (T20.setTop (mkF m 114 #[.val (.int p0), .val (.int p1), .val (.int (((p0 &&& (2147483647 : Int32)) % (256 : Int32)) + (1 : Int32))), .val (.ref b1), .val (.ref b5), .val (.ref b20_0), .val (.long ((2147483648 : Int64) % ((((p0 &&& (2147483647 : Int32)) % (256 : Int32)) + (1 : Int32)).toInt64))), .second, .val (.int (((-((2147483648 : Int64) % ((((p0 &&& (2147483647 : Int32)) % (256 : Int32)) + (1 : Int32)).toInt64))) &&& (255 : Int64)).toInt32))] [])) _
    refine XS.aload X20.here hx rfl (hb hby at_114) rfl rfl ?_
    show Steps p.tables e below (T20.setTop (mkF m 116 #[.val (.int p0), .val (.int p1), .val (.int (((p0 &&& (2147483647 : Int32)) % (256 : Int32)) + (1 : Int32))), .val (.ref b1), .val (.ref b5), .val (.ref b20_0), .val (.long ((2147483648 : Int64) % ((((p0 &&& (2147483647 : Int32)) % (256 : Int32)) + (1 : Int32)).toInt64))), .second, .val (.int (((-((2147483648 : Int64) % ((((p0 &&& (2147483647 : Int32)) % (256 : Int32)) + (1 : Int32)).toInt64))) &&& (255 : Int64)).toInt32))] [(.ref b20_0)])) _
    refine XS.iconst X20.here hx rfl (hb hby at_116) ?_
    show Steps p.tables e below (T20.setTop (mkF m 117 #[.val (.int p0), .val (.int p1), .val (.int (((p0 &&& (2147483647 : Int32)) % (256 : Int32)) + (1 : Int32))), .val (.ref b1), .val (.ref b5), .val (.ref b20_0), .val (.long ((2147483648 : Int64) % ((((p0 &&& (2147483647 : Int32)) % (256 : Int32)) + (1 : Int32)).toInt64))), .second, .val (.int (((-((2147483648 : Int64) % ((((p0 &&& (2147483647 : Int32)) % (256 : Int32)) + (1 : Int32)).toInt64))) &&& (255 : Int64)).toInt32))] [(.int (4 : Int32)), (.ref b20_0)])) _
    refine X20.iaload hx (j := (4 : Int32)) (v := (.int ((((-2147483648 : Int32) % (((p0 &&& (2147483647 : Int32)) % (256 : Int32)) + (1 : Int32))).toInt8.toInt32) &&& (255 : Int32)))) Ar21.1 (State.isArrayOf_alike hZ10.alike Ar21.2.1) Ar21.2.2 hin30 hat31 (g := (mkF m 117 #[.val (.int p0), .val (.int p1), .val (.int (((p0 &&& (2147483647 : Int32)) % (256 : Int32)) + (1 : Int32))), .val (.ref b1), .val (.ref b5), .val (.ref b20_0), .val (.long ((2147483648 : Int64) % ((((p0 &&& (2147483647 : Int32)) % (256 : Int32)) + (1 : Int32)).toInt64))), .second, .val (.int (((-((2147483648 : Int64) % ((((p0 &&& (2147483647 : Int32)) % (256 : Int32)) + (1 : Int32)).toInt64))) &&& (255 : Int64)).toInt32))] [(.int (4 : Int32)), (.ref b20_0)])) rfl rfl (hb hby at_117) _ ?_
    show Steps p.tables e below (T20.setTop (mkF m 118 #[.val (.int p0), .val (.int p1), .val (.int (((p0 &&& (2147483647 : Int32)) % (256 : Int32)) + (1 : Int32))), .val (.ref b1), .val (.ref b5), .val (.ref b20_0), .val (.long ((2147483648 : Int64) % ((((p0 &&& (2147483647 : Int32)) % (256 : Int32)) + (1 : Int32)).toInt64))), .second, .val (.int (((-((2147483648 : Int64) % ((((p0 &&& (2147483647 : Int32)) % (256 : Int32)) + (1 : Int32)).toInt64))) &&& (255 : Int64)).toInt32))] [(.int ((((-2147483648 : Int32) % (((p0 &&& (2147483647 : Int32)) % (256 : Int32)) + (1 : Int32))).toInt8.toInt32) &&& (255 : Int32)))])) _
    refine XS.iload X20.here hx rfl (hb hby at_118) rfl ?_
    show Steps p.tables e below (T20.setTop (mkF m 120 #[.val (.int p0), .val (.int p1), .val (.int (((p0 &&& (2147483647 : Int32)) % (256 : Int32)) + (1 : Int32))), .val (.ref b1), .val (.ref b5), .val (.ref b20_0), .val (.long ((2147483648 : Int64) % ((((p0 &&& (2147483647 : Int32)) % (256 : Int32)) + (1 : Int32)).toInt64))), .second, .val (.int (((-((2147483648 : Int64) % ((((p0 &&& (2147483647 : Int32)) % (256 : Int32)) + (1 : Int32)).toInt64))) &&& (255 : Int64)).toInt32))] [(.int (((-((2147483648 : Int64) % ((((p0 &&& (2147483647 : Int32)) % (256 : Int32)) + (1 : Int32)).toInt64))) &&& (255 : Int64)).toInt32)), (.int ((((-2147483648 : Int32) % (((p0 &&& (2147483647 : Int32)) % (256 : Int32)) + (1 : Int32))).toInt8.toInt32) &&& (255 : Int32)))])) _
    refine XS.icmpNo X20.here hx rfl (hb hby at_120) rfl (teq hc13).2 ?_
    show Steps p.tables e below (T20.setTop (mkF m 123 #[.val (.int p0), .val (.int p1), .val (.int (((p0 &&& (2147483647 : Int32)) % (256 : Int32)) + (1 : Int32))), .val (.ref b1), .val (.ref b5), .val (.ref b20_0), .val (.long ((2147483648 : Int64) % ((((p0 &&& (2147483647 : Int32)) % (256 : Int32)) + (1 : Int32)).toInt64))), .second, .val (.int (((-((2147483648 : Int64) % ((((p0 &&& (2147483647 : Int32)) % (256 : Int32)) + (1 : Int32)).toInt64))) &&& (255 : Int64)).toInt32))] [])) _
    refine XS.aload X20.here hx rfl (hb hby at_123) rfl rfl ?_
    show Steps p.tables e below (T20.setTop (mkF m 125 #[.val (.int p0), .val (.int p1), .val (.int (((p0 &&& (2147483647 : Int32)) % (256 : Int32)) + (1 : Int32))), .val (.ref b1), .val (.ref b5), .val (.ref b20_0), .val (.long ((2147483648 : Int64) % ((((p0 &&& (2147483647 : Int32)) % (256 : Int32)) + (1 : Int32)).toInt64))), .second, .val (.int (((-((2147483648 : Int64) % ((((p0 &&& (2147483647 : Int32)) % (256 : Int32)) + (1 : Int32)).toInt64))) &&& (255 : Int64)).toInt32))] [(.ref b20_0)])) _
    refine XS.iconst X20.here hx rfl (hb hby at_125) ?_
    show Steps p.tables e below (T20.setTop (mkF m 126 #[.val (.int p0), .val (.int p1), .val (.int (((p0 &&& (2147483647 : Int32)) % (256 : Int32)) + (1 : Int32))), .val (.ref b1), .val (.ref b5), .val (.ref b20_0), .val (.long ((2147483648 : Int64) % ((((p0 &&& (2147483647 : Int32)) % (256 : Int32)) + (1 : Int32)).toInt64))), .second, .val (.int (((-((2147483648 : Int64) % ((((p0 &&& (2147483647 : Int32)) % (256 : Int32)) + (1 : Int32)).toInt64))) &&& (255 : Int64)).toInt32))] [(.int (5 : Int32)), (.ref b20_0)])) _
    refine X20.iaload hx (j := (5 : Int32)) (v := (.int (0 : Int32))) Ar21.1 (State.isArrayOf_alike hZ10.alike Ar21.2.1) Ar21.2.2 hin32 hat33 (g := (mkF m 126 #[.val (.int p0), .val (.int p1), .val (.int (((p0 &&& (2147483647 : Int32)) % (256 : Int32)) + (1 : Int32))), .val (.ref b1), .val (.ref b5), .val (.ref b20_0), .val (.long ((2147483648 : Int64) % ((((p0 &&& (2147483647 : Int32)) % (256 : Int32)) + (1 : Int32)).toInt64))), .second, .val (.int (((-((2147483648 : Int64) % ((((p0 &&& (2147483647 : Int32)) % (256 : Int32)) + (1 : Int32)).toInt64))) &&& (255 : Int64)).toInt32))] [(.int (5 : Int32)), (.ref b20_0)])) rfl rfl (hb hby at_126) _ ?_
    show Steps p.tables e below (T20.setTop (mkF m 127 #[.val (.int p0), .val (.int p1), .val (.int (((p0 &&& (2147483647 : Int32)) % (256 : Int32)) + (1 : Int32))), .val (.ref b1), .val (.ref b5), .val (.ref b20_0), .val (.long ((2147483648 : Int64) % ((((p0 &&& (2147483647 : Int32)) % (256 : Int32)) + (1 : Int32)).toInt64))), .second, .val (.int (((-((2147483648 : Int64) % ((((p0 &&& (2147483647 : Int32)) % (256 : Int32)) + (1 : Int32)).toInt64))) &&& (255 : Int64)).toInt32))] [(.int (0 : Int32))])) _
    refine XS.ifNo X20.here hx rfl (hb hby at_127) rfl ((if0 _ _).trans (teq (by decide : (0 : Int32) = (0 : Int32))).2) ?_
    show Steps p.tables e below (T20.setTop (mkF m 130 #[.val (.int p0), .val (.int p1), .val (.int (((p0 &&& (2147483647 : Int32)) % (256 : Int32)) + (1 : Int32))), .val (.ref b1), .val (.ref b5), .val (.ref b20_0), .val (.long ((2147483648 : Int64) % ((((p0 &&& (2147483647 : Int32)) % (256 : Int32)) + (1 : Int32)).toInt64))), .second, .val (.int (((-((2147483648 : Int64) % ((((p0 &&& (2147483647 : Int32)) % (256 : Int32)) + (1 : Int32)).toInt64))) &&& (255 : Int64)).toInt32))] [])) _
    refine XS.iconst X20.here hx rfl (hb hby at_130) ?_
    show Steps p.tables e below (T20.setTop (mkF m 131 #[.val (.int p0), .val (.int p1), .val (.int (((p0 &&& (2147483647 : Int32)) % (256 : Int32)) + (1 : Int32))), .val (.ref b1), .val (.ref b5), .val (.ref b20_0), .val (.long ((2147483648 : Int64) % ((((p0 &&& (2147483647 : Int32)) % (256 : Int32)) + (1 : Int32)).toInt64))), .second, .val (.int (((-((2147483648 : Int64) % ((((p0 &&& (2147483647 : Int32)) % (256 : Int32)) + (1 : Int32)).toInt64))) &&& (255 : Int64)).toInt32))] [(.int (1 : Int32))])) _
    refine XS.goto X20.here hx rfl (pc0 := 131) (pc' := 135) rfl (hb hby at_131) (by decide) (by decide) ?_
    show Steps p.tables e below (T20.setTop (mkF m 135 #[.val (.int p0), .val (.int p1), .val (.int (((p0 &&& (2147483647 : Int32)) % (256 : Int32)) + (1 : Int32))), .val (.ref b1), .val (.ref b5), .val (.ref b20_0), .val (.long ((2147483648 : Int64) % ((((p0 &&& (2147483647 : Int32)) % (256 : Int32)) + (1 : Int32)).toInt64))), .second, .val (.int (((-((2147483648 : Int64) % ((((p0 &&& (2147483647 : Int32)) % (256 : Int32)) + (1 : Int32)).toInt64))) &&& (255 : Int64)).toInt32))] [(.int (1 : Int32))])) _
    exact retN X20 hx (t := .boolean) Bd.returns (by simp) (hb hby at_135) hr
  · show Q0nBs Z p0 p1 aU s_COMPACT_STRINGS h0 n0 _ T20.heap _
    exact ⟨rfl, N20⟩
theorem ef_rm0nBt (m : MethodId) (p0 : Int32) (p1 : Int32) : entryFrame m #[(.int p0), (.int p1)] maxLocals = mkF m 0 #[.val (.int p0), .val (.int p1), .unset, .unset, .unset, .unset, .unset, .unset, .unset] [] := by first | (simp [entryFrame, mkF, argsToLocals, Value.category, maxLocals]; done) | rfl
def Q0nBt (Z : State) (p0 : Int32) (p1 : Int32) (aU : Addr) (s_COMPACT_STRINGS : Int32) (h0 : Heap) (n0 : Nat) (v : Option Value) (h : Heap) (L : List Loc) : Prop := v = some (.int (1 : Int32)) ∧ Fr n0 L
set_option maxRecDepth 65536 in
set_option maxHeartbeats 40000000 in
theorem rm0nBt (l : Launch) (Z : State) (az : Array Value) (hw : ∀ d ∈ tables_1, d.before az Z = true) (ws : List Jvm.Cond) (p0 : Int32) (p1 : Int32) (aU : Addr) (s_COMPACT_STRINGS : Int32) (h0 : Heap) (n0 : Nat) (Z0 : n0 ≤ h0.size) (S_INSTANCE : Sta Z h0 "sun/nio/cs/UTF_8" "INSTANCE" "Lsun/nio/cs/UTF_8;" (.ref aU)) (S_UTF_8 : Sta Z h0 "java/nio/charset/StandardCharsets" "UTF_8" "Ljava/nio/charset/Charset;" (.ref aU)) (S_COMPACT_STRINGS : Sta Z h0 "java/lang/String" "COMPACT_STRINGS" "Z" (.int s_COMPACT_STRINGS)) (hc3 : ¬ (s_COMPACT_STRINGS = (0 : Int32))) (hc4 : ¬ ((255 : Int32) < ((p1 &&& (255 : Int32)).toUInt32.toUInt16.toUInt32.toInt32))) (hc5 : (((p1 &&& (255 : Int32)).toUInt32.toUInt16.toUInt32.toInt32).toInt8.toInt32) < (0 : Int32)) (hc6 : ¬ ((((p0 &&& (2147483647 : Int32)) % (256 : Int32)) + (1 : Int32)) < (1 : Int32))) (hc7 : ¬ ((256 : Int32) < (((p0 &&& (2147483647 : Int32)) % (256 : Int32)) + (1 : Int32)))) (hc8 : ¬ ((own_bc (((p0 &&& (2147483647 : Int32)) % (256 : Int32)) + (1 : Int32))) = (1 : Int32))) (hc9 : (((p0 &&& (2147483647 : Int32)) % (256 : Int32)) + (1 : Int32)) ≠ (0 : Int32)) (hc10 : ((((-2147483648 : Int32) % (((p0 &&& (2147483647 : Int32)) % (256 : Int32)) + (1 : Int32))).toInt8.toInt32) &&& (255 : Int32)) < (((p0 &&& (2147483647 : Int32)) % (256 : Int32)) + (1 : Int32))) (hc11 : ((((p0 &&& (2147483647 : Int32)) % (256 : Int32)) + (1 : Int32)).toInt64) ≠ (0 : Int64)) (hc12 : (((-((2147483648 : Int64) % ((((p0 &&& (2147483647 : Int32)) % (256 : Int32)) + (1 : Int32)).toInt64))) &&& (255 : Int64)).toInt32) < (((p0 &&& (2147483647 : Int32)) % (256 : Int32)) + (1 : Int32))) :
    MetFree l x (head1 (Jvm.Cond.code x code maxLocals ret :: ws) room_1) (fun a U => a = #[(.int p0), (.int p1)] ∧ Z.Warmed39 U.vm ∧ U.heap = h0) (fun _ _ _ _ _ => True) (fun _ U o U' => ∃ v L, o = .returned v ∧ Q0nBt Z p0 p1 aU s_COMPACT_STRINGS h0 n0 v U'.heap L ∧ ReturnedEndW U o U' L room_1.cells room_1.slots) := by
  refine MetFree.of_bodySF (plainFor_of_name pn_com_example_fireweed_fireweed_layout_Java31ByteSaltBytesPinLaw) hisR ?_
  intro p e s m args below meth c s₁ Bd hml0 hP hK
  obtain ⟨rfl, hZ, hh⟩ := hP
  have hx := Bd.exec
  have hby := Bd.bytes
  have hml : c.maxLocals = 9 := hml0
  have hown : s.vm.findClass "com/example/fireweed/fireweed/layout/Java31ByteSaltBytesPinLaw" = some m.cls := findClass_of_methodNamed Bd.named
  have hnm := (name_of_methodNamed Bd.named Bd.method).1
  have X0 : Stand p l e room_1 s m #[(.int p0), (.int p1)] below meth c s₁ [] 0 0 := Stand.of_body Bd
  have e0 : s₁.heap = h0 := by rw [← hh, Bd.state]; rfl
  have N0 := Fr.nil n0
  have pre0 : ∀ t, Steps p.tables e below (s₁.setTop (mkF m 0 #[.val (.int p0), .val (.int p1), .unset, .unset, .unset, .unset, .unset, .unset, .unset] [])) t → Steps p.tables e below (s₁.setTop (entryFrame m #[(.int p0), (.int p1)] maxLocals)) t := fun t k => castTop (ef_rm0nBt m p0 p1) k
  have hS0 : s.Since s.vm 0 := (State.WarmedH.refl s).since 0
  have wS : ∀ a ∈ Bundle.stringAtoms, a.before az Z = true := fun d hd => by
    simp only [Bundle.stringAtoms, List.mem_cons, List.not_mem_nil, or_false] at hd
    rcases hd with rfl | rfl | rfl | rfl | rfl | rfl | rfl
    · exact (hw _ (List.mem_of_getElem? (i := 7) rfl))
    · exact (hw _ (List.mem_of_getElem? (i := 6) rfl))
    · exact (hw _ (List.mem_of_getElem? (i := 23) rfl))
    · exact (hw _ (List.mem_of_getElem? (i := 33) rfl))
    · exact (hw _ (List.mem_of_getElem? (i := 31) rfl))
    · exact (hw _ (List.mem_of_getElem? (i := 49) rfl))
    · exact (hw _ (List.mem_of_getElem? (i := 50) rfl))
  obtain ⟨T1, h1, k1, X1, e1, E1, A1, x1, st1⟩ := newPE X0 hx hZ (hw _ (List.mem_of_getElem? (i := 1) rfl)) e0 (g := (mkF m 12 #[.val (.int p0), .val (.int p1), .val (.int (((p0 &&& (2147483647 : Int32)) % (256 : Int32)) + (1 : Int32))), .unset, .unset, .unset, .unset, .unset, .unset] [(.int (1 : Int32))])) rfl (hb hby at_12) rfl (by decide) (cap := 1) (by decide) (by decide) (by decide) (by decide) (ad := "[C") (by decide)
  obtain ⟨b1, g1⟩ : ∃ z, z = h0.size := ⟨_, rfl⟩
  rw [← g1] at A1 x1 st1
  have g_b1 : n0 ≤ b1 := Nat.le_trans Z0 (Nat.le_of_eq g1.symm)
  have sz_b1 : h0.size ≤ b1 := Nat.le_trans (Nat.le_refl _) (Nat.le_of_eq g1.symm)
  have Z1 : n0 ≤ h1.size := Nat.le_trans Z0 E1.1
  have K1 : Keep h0 h1 [] := (Keep.refl h0 []).ext E1
  have E_b1 := x1
  have V_b1 : Arv Z h1 b1 k1 .char (1 : Int32) [(.int (0 : Int32))] (.int (0 : Int32)) := (Arv.new A1 (by decide)).pad (pad_rep [] (.int (0 : Int32)) 1)
  obtain ⟨cl2, Ar2, qk2, Sz2, Ng2, Hs2, Gf2⟩ := id V_b1
  have hin3 : ¬ ((0 : Int32) < 0 ∨ cl2.slots.size ≤ ((0 : Int32)).toNatClampNeg) := inb_of Sz2 ⟨by decide, by decide⟩
  obtain ⟨T4, h4, X4, e4, W4, st4⟩ := stC X1 hx hZ e1 Ar2 (j := (0 : Int32)) hin3 (g := (mkF m 22 #[.val (.int p0), .val (.int p1), .val (.int (((p0 &&& (2147483647 : Int32)) % (256 : Int32)) + (1 : Int32))), .unset, .unset, .unset, .unset, .unset, .unset] [(.int ((p1 &&& (255 : Int32)).toUInt32.toUInt16.toUInt32.toInt32)), (.int (0 : Int32)), (.ref b1), (.ref b1)])) rfl rfl (hb hby at_22)
  rw [(own_nc _)] at W4
  have K4 : Keep h0 h4 [] := K1.wr W4 (Or.inr sz_b1)
  have V_b1_4 : Arv Z h4 b1 k1 .char (1 : Int32) [(.int ((p1 &&& (255 : Int32)).toUInt32.toUInt16.toUInt32.toInt32))] (.int (0 : Int32)) := Arv.set (v := (.int ((p1 &&& (255 : Int32)).toUInt32.toUInt16.toUInt32.toInt32))) Ar2 qk2 Sz2 Ng2 Hs2 Gf2 (own_fits (own_nc _) (fits_nar_char _)) W4 0 rfl (Nat.le_of_ble_eq_true rfl)
  have Z4 : n0 ≤ h4.size := Nat.le_trans Z1 (Keep.of_wr W4).1
  have N4 := Fr.snoc X4 N0 g_b1
  obtain ⟨T5, h5, X5, e5, E5, A5, D5, -, st5⟩ := newO X4 hx hZ hown (hw _ (List.mem_of_getElem? (i := 2) rfl)) (hw _ (List.mem_of_getElem? (i := 3) rfl)) (hw _ (List.mem_of_getElem? (i := 4) rfl)) e4 (g := (mkF m 24 #[.val (.int p0), .val (.int p1), .val (.int (((p0 &&& (2147483647 : Int32)) % (256 : Int32)) + (1 : Int32))), .val (.ref b1), .unset, .unset, .unset, .unset, .unset] [])) rfl (hb hby at_24) (by decide) (by decide)
  obtain ⟨b5, g5⟩ : ∃ z, z = h4.size := ⟨_, rfl⟩
  rw [← g5] at A5 D5 st5
  have g_b5 : n0 ≤ b5 := Nat.le_trans Z4 (Nat.le_of_eq g5.symm)
  have sz_b5 : h0.size ≤ b5 := Nat.le_trans K4.1 (Nat.le_of_eq g5.symm)
  have Z5 : n0 ≤ h5.size := Nat.le_trans Z4 E5.1
  have K5 : Keep h0 h5 [] := K4.ext E5
  have E_b5 := A5
  have F_suffix_b5 : Fld Z h5 b5 "com/example/fireweed/fireweed/layout/Salt" "suffix" "Ljava/lang/String;" .null := D5 (Or.inr (hw _ (List.mem_of_getElem? (i := 57) rfl))) (ty := (.object "java/lang/String")) (by decide)
  have F_suffixBytes_b5 : Fld Z h5 b5 "com/example/fireweed/fireweed/layout/Salt" "suffixBytes" "[B" .null := D5 (Or.inr (hw _ (List.mem_of_getElem? (i := 95) rfl))) (ty := (.array .byte)) (by decide)
  have F_buckets_b5 : Fld Z h5 b5 "com/example/fireweed/fireweed/layout/Java31ByteSalt" "buckets" "I" (.int (0 : Int32)) := D5 (Or.inr (hw _ (List.mem_of_getElem? (i := 97) rfl))) (ty := .int) (by decide)
  have F_mask_b5 : Fld Z h5 b5 "com/example/fireweed/fireweed/layout/Java31ByteSalt" "mask" "I" (.int (0 : Int32)) := D5 (Or.inr (hw _ (List.mem_of_getElem? (i := 106) rfl))) (ty := .int) (by decide)
  have F_overflow_b5 : Fld Z h5 b5 "com/example/fireweed/fireweed/layout/Java31ByteSalt" "overflow" "I" (.int (0 : Int32)) := D5 (Or.inr (hw _ (List.mem_of_getElem? (i := 121) rfl))) (ty := .int) (by decide)
  obtain ⟨T6, h6, X6, e6, E6, A6, D6, -, st6⟩ := newO X5 hx hZ hown (hw _ (List.mem_of_getElem? (i := 5) rfl)) (hw _ (List.mem_of_getElem? (i := 6) rfl)) (hw _ (List.mem_of_getElem? (i := 7) rfl)) e5 (g := (mkF m 29 #[.val (.int p0), .val (.int p1), .val (.int (((p0 &&& (2147483647 : Int32)) % (256 : Int32)) + (1 : Int32))), .val (.ref b1), .unset, .unset, .unset, .unset, .unset] [(.int (((p0 &&& (2147483647 : Int32)) % (256 : Int32)) + (1 : Int32))), (.ref b5), (.ref b5)])) rfl (hb hby at_29) (by decide) (by decide)
  obtain ⟨b6, g6⟩ : ∃ z, z = h5.size := ⟨_, rfl⟩
  rw [← g6] at A6 D6 st6
  have g_b6 : n0 ≤ b6 := Nat.le_trans Z5 (Nat.le_of_eq g6.symm)
  have sz_b6 : h0.size ≤ b6 := Nat.le_trans K5.1 (Nat.le_of_eq g6.symm)
  have Z6 : n0 ≤ h6.size := Nat.le_trans Z5 E6.1
  have K6 : Keep h0 h6 [] := K5.ext E6
  have E_b6 := A6
  have F_coder_b6 : Fld Z h6 b6 "java/lang/String" "coder" "B" (.int (0 : Int32)) := D6 (Or.inr (hw _ (List.mem_of_getElem? (i := 31) rfl))) (ty := .byte) (by decide)
  have F_value_b6 : Fld Z h6 b6 "java/lang/String" "value" "[B" .null := D6 (Or.inr (hw _ (List.mem_of_getElem? (i := 33) rfl))) (ty := (.array .byte)) (by decide)
  have V_b1_u8 : Arv Z h6 b1 k1 .char (1 : Int32) [(.int ((p1 &&& (255 : Int32)).toUInt32.toUInt16.toUInt32.toInt32))] (.int (0 : Int32)) := ((V_b1_4.ext E5).ext E6)
  have S_String_COMPACT_STRINGS_u9 : Sta Z h6 "java/lang/String" "COMPACT_STRINGS" "Z" (.int s_COMPACT_STRINGS) := ((((S_COMPACT_STRINGS.ext E1).wr W4).ext E5).ext E6)
  obtain ⟨_, _, ⟨T7, L7, k7', n7'⟩, -, X7, ⟨Lc7, hQ7, l7, y7, z7⟩, st7⟩ := X6.specialBack hx (y := (⟨"java/lang/String", "<init>", "([C)V"⟩ : MethodName)) rfl hown (mvT hZ (hw _ (List.mem_of_getElem? (i := 8) rfl))) (mvT hZ (hw _ (List.mem_of_getElem? (i := 9) rfl))) (mvT hZ (hw _ (List.mem_of_getElem? (i := 10) rfl))) (by decide) (backOf (W := 4) (rm1_1 l Z az hw [] b6 b1 k1 ((p1 &&& (255 : Int32)).toUInt32.toUInt16.toUInt32.toInt32) s_COMPACT_STRINGS h6 n0 Z6 E_b6 F_coder_b6 F_value_b6 V_b1_u8 S_String_COMPACT_STRINGS_u9 hc3 hc4 g_b6) hZ (hw _ (List.mem_of_getElem? (i := 10) rfl)) (hw _ (List.mem_of_getElem? (i := 7) rfl)) (by decide) (by decide)) (g := (mkF m 34 #[.val (.int p0), .val (.int p1), .val (.int (((p0 &&& (2147483647 : Int32)) % (256 : Int32)) + (1 : Int32))), .val (.ref b1), .unset, .unset, .unset, .unset, .unset] [(.ref b1), (.ref b6), (.ref b6), (.int (((p0 &&& (2147483647 : Int32)) % (256 : Int32)) + (1 : Int32))), (.ref b5), (.ref b5)])) rfl (by rw [hml]; rfl) (Steps.refl _) (a := b6) (argsL := [(.ref b1)]) (rest := [(.ref b6), (.int (((p0 &&& (2147483647 : Int32)) % (256 : Int32)) + (1 : Int32))), (.ref b5), (.ref b5)]) (lenOf pd_16 rfl) rfl (by show 2 * 0 + _ ≤ _; exact Nat.le_of_eq rfl) (hb hby at_34) (fun _ _ => ⟨rfl, e6, (by decide : 3 + 1 ≤ _), (by decide : 10 + 1 ≤ _)⟩)
  dsimp only [Pt.U, Pt.locs, Pt.cells, Pt.slots] at X7 l7 y7 z7 st7 hQ7
  subst l7 y7 z7
  obtain ⟨b7_0, kk7_0, rfl, N7q, s7_0, kq7, pf7_0, pf7_1, pf7_2, pf7_3, pf7_4⟩ := hQ7
  have N7 := Fr.app N4 N7q
  have g_b7_0 : n0 ≤ b7_0 := Nat.le_trans Z6 s7_0
  have sz_b7_0 : h0.size ≤ b7_0 := Nat.le_trans K6.1 s7_0
  have K7 : Keep h0 T7.heap [] := K6.trans kq7 (allS (Or.inr sz_b6) all0)
  have Z7 : n0 ≤ T7.heap.size := Nat.le_trans Z6 kq7.1
  have E_b5_u11 : Exa Z T7.heap b5 "com/example/fireweed/fireweed/layout/Java31ByteSalt" := ((E_b5.ext E6).keep kq7)
  have ne_b5_b6 : b5 ≠ b6 := own_ne (Nat.lt_of_lt_of_le E_b5.lt (Nat.le_of_eq g6.symm))
  have F_b5_suffix_u12 : Fld Z T7.heap b5 "com/example/fireweed/fireweed/layout/Salt" "suffix" "Ljava/lang/String;" .null := ((F_suffix_b5.ext E6).keep kq7 (ninS ne_b5_b6 nin0))
  have F_b5_suffixBytes_u13 : Fld Z T7.heap b5 "com/example/fireweed/fireweed/layout/Salt" "suffixBytes" "[B" .null := ((F_suffixBytes_b5.ext E6).keep kq7 (ninS ne_b5_b6 nin0))
  have F_b5_buckets_u14 : Fld Z T7.heap b5 "com/example/fireweed/fireweed/layout/Java31ByteSalt" "buckets" "I" (.int (0 : Int32)) := ((F_buckets_b5.ext E6).keep kq7 (ninS ne_b5_b6 nin0))
  have F_b5_mask_u15 : Fld Z T7.heap b5 "com/example/fireweed/fireweed/layout/Java31ByteSalt" "mask" "I" (.int (0 : Int32)) := ((F_mask_b5.ext E6).keep kq7 (ninS ne_b5_b6 nin0))
  have F_b5_overflow_u16 : Fld Z T7.heap b5 "com/example/fireweed/fireweed/layout/Java31ByteSalt" "overflow" "I" (.int (0 : Int32)) := ((F_overflow_b5.ext E6).keep kq7 (ninS ne_b5_b6 nin0))
  have S_UTF_8_INSTANCE_u17 : Sta Z T7.heap "sun/nio/cs/UTF_8" "INSTANCE" "Lsun/nio/cs/UTF_8;" (.ref aU) := (own_Sta ((((S_INSTANCE.ext E1).wr W4).ext E5).ext E6) kq7 (allS (P := fun x => ∀ cell : Cell, _ → cell.vm.isStatics = false) E_b6.nostat (fun _ m => nomatch m)))
  have S_StandardCharsets_UTF_8_u18 : Sta Z T7.heap "java/nio/charset/StandardCharsets" "UTF_8" "Ljava/nio/charset/Charset;" (.ref aU) := (own_Sta ((((S_UTF_8.ext E1).wr W4).ext E5).ext E6) kq7 (allS (P := fun x => ∀ cell : Cell, _ → cell.vm.isStatics = false) E_b6.nostat (fun _ m => nomatch m)))
  have S_String_COMPACT_STRINGS_u19 : Sta Z T7.heap "java/lang/String" "COMPACT_STRINGS" "Z" (.int s_COMPACT_STRINGS) := (own_Sta S_String_COMPACT_STRINGS_u9 kq7 (allS (P := fun x => ∀ cell : Cell, _ → cell.vm.isStatics = false) E_b6.nostat (fun _ m => nomatch m)))
  have ne_b5_b7_0 : b5 ≠ b7_0 := own_ne (Nat.lt_of_lt_of_le (E_b5.ext E6).lt s7_0)
  obtain ⟨_, _, ⟨T10, L10, k10', n10'⟩, -, Y10, yS10, yg10, ⟨Lc10, hQ10, l10, y10, z10⟩, st10⟩ := X7.specialBackS hx (y := (⟨"com/example/fireweed/fireweed/layout/Java31ByteSalt", "<init>", "(ILjava/lang/String;)V"⟩ : MethodName)) rfl hown (mvT hZ (hw _ (List.mem_of_getElem? (i := 34) rfl))) (mvT hZ (hw _ (List.mem_of_getElem? (i := 35) rfl))) (mvT hZ (hw _ (List.mem_of_getElem? (i := 36) rfl))) (by decide) (backOfS (W := 1) (rm7nB l Z az hw [] b5 (((p0 &&& (2147483647 : Int32)) % (256 : Int32)) + (1 : Int32)) b6 b7_0 kk7_0 (((p1 &&& (255 : Int32)).toUInt32.toUInt16.toUInt32.toInt32).toInt8.toInt32) aU s_COMPACT_STRINGS T7.heap n0 Z7 E_b5_u11 F_b5_suffix_u12 F_b5_suffixBytes_u13 F_b5_buckets_u14 F_b5_mask_u15 F_b5_overflow_u16 pf7_0 pf7_1 pf7_2 pf7_4 pf7_3 S_UTF_8_INSTANCE_u17 S_StandardCharsets_UTF_8_u18 hc5 S_String_COMPACT_STRINGS_u19 g_b5 (Ne.symm ne_b5_b6) (Ne.symm ne_b5_b7_0) hc3 hc6 hc7 hc8 hc9) hZ (hw _ (List.mem_of_getElem? (i := 36) rfl)) (hw _ (List.mem_of_getElem? (i := 4) rfl)) (by decide) (by decide)) (g := (mkF m 37 #[.val (.int p0), .val (.int p1), .val (.int (((p0 &&& (2147483647 : Int32)) % (256 : Int32)) + (1 : Int32))), .val (.ref b1), .unset, .unset, .unset, .unset, .unset] [(.ref b6), (.int (((p0 &&& (2147483647 : Int32)) % (256 : Int32)) + (1 : Int32))), (.ref b5), (.ref b5)])) rfl (by rw [hml]; rfl) (Steps.refl _) (a := b5) (argsL := [(.int (((p0 &&& (2147483647 : Int32)) % (256 : Int32)) + (1 : Int32))), (.ref b6)]) (rest := [(.ref b5)]) (lenOf pd_17 rfl) rfl (by show 2 * 0 + _ ≤ _; exact Nat.le_of_eq rfl) (hb hby at_37) (fun _ _ => ⟨rfl, rfl, (by decide : 4 + 3 ≤ _), (by decide : 11 + 30 ≤ _)⟩)
  dsimp only [Pt.U, Pt.locs, Pt.cells, Pt.slots] at Y10 yS10 yg10 l10 y10 z10 st10 hQ10
  subst l10 y10 z10
  obtain ⟨X10, hS10, hZ10, hown10⟩ := rebS (s := s) (vm0 := s.vm) hS0 (Nat.le_trans (Nat.le_trans (Nat.le_trans (Nat.le_trans (Nat.le_trans (Nat.zero_le _) E1.1) (Keep.of_wr W4).1) E5.1) E6.1) kq7.1) Y10 yS10 yg10 hZ hown
  obtain ⟨b10_0, kk10_0, rfl, N10q, s10_0, kq10, pf10_0, pf10_1, pf10_2, pf10_3, pf10_4, pf10_5, pf10_6, pf10_7⟩ := hQ10
  have N10 := Fr.app N7 N10q
  have g_b10_0 : n0 ≤ b10_0 := Nat.le_trans Z7 s10_0
  have sz_b10_0 : h0.size ≤ b10_0 := Nat.le_trans K7.1 s10_0
  have K10 : Keep h0 T10.heap [] := K7.trans kq10 (allS (Or.inr sz_b5) all0)
  have Z10 : n0 ≤ T10.heap.size := Nat.le_trans Z7 kq10.1
  obtain ⟨cq20, kq20, q20a, q20b, q20c⟩ := isOf hZ10 rfl pf10_0
  obtain ⟨_, _, ⟨T20, L20, k20', n20'⟩, -, X20, ⟨Lc20, hQ20, l20, y20, z20⟩, st20⟩ := X10.virtualBack hx (y := (⟨"com/example/fireweed/fireweed/layout/Java31ByteSalt", "bytes", "()[I"⟩ : MethodName)) (z := (⟨"com/example/fireweed/fireweed/layout/Java31ByteSalt", "bytes", "()[I"⟩ : MethodName)) hown10 (mvT hZ10 (hw _ (List.mem_of_getElem? (i := 122) rfl))) (mvT hZ10 (hw _ (List.mem_of_getElem? (i := 123) rfl))) (notFace_of_selects (args := #[]) (mvT hZ10 (hw _ (List.mem_of_getElem? (i := 125) rfl)))) (mvT hZ10 (hw _ (List.mem_of_getElem? (i := 125) rfl))) (mvT hZ10 (hw _ (List.mem_of_getElem? (i := 124) rfl))) (by decide) (backOf (W := 0) (rm21t l Z az hw [] b5 ((((-2147483648 : Int32) % (((p0 &&& (2147483647 : Int32)) % (256 : Int32)) + (1 : Int32))).toInt8.toInt32) &&& (255 : Int32)) (((p0 &&& (2147483647 : Int32)) % (256 : Int32)) + (1 : Int32)) T10.heap n0 Z10 pf10_5 pf10_3 hc10) hZ10 (hw _ (List.mem_of_getElem? (i := 126) rfl)) (hw _ (List.mem_of_getElem? (i := 4) rfl)) (by decide) (by decide)) q20a q20c (g := (mkF m 44 #[.val (.int p0), .val (.int p1), .val (.int (((p0 &&& (2147483647 : Int32)) % (256 : Int32)) + (1 : Int32))), .val (.ref b1), .val (.ref b5), .unset, .unset, .unset, .unset] [(.ref b5)])) rfl (by rw [hml]; rfl) (Steps.refl _) (argsL := []) (rest := []) (lenOf pd_18 rfl) rfl (by show 2 * 0 + _ ≤ _; exact Nat.le_of_eq rfl) (hb hby at_44) (fun _ _ => ⟨rfl, rfl, (by decide : 7 + 1 ≤ _), (by decide : 41 + 3 ≤ _)⟩)
  dsimp only [Pt.U, Pt.locs, Pt.cells, Pt.slots] at X20 l20 y20 z20 st20 hQ20
  subst l20 y20 z20
  obtain ⟨b20_0, kk20_0, rfl, N20q, s20_0, kq20, pf20_0, pf20_1⟩ := hQ20
  have N20 := Fr.app N10 N20q
  have g_b20_0 : n0 ≤ b20_0 := Nat.le_trans Z10 s20_0
  have sz_b20_0 : h0.size ≤ b20_0 := Nat.le_trans K10.1 s20_0
  have K20 : Keep h0 T20.heap [] := K10.trans kq20 all0
  have Z20 : n0 ≤ T20.heap.size := Nat.le_trans Z10 kq20.1
  obtain ⟨cl21, Ar21, qk21, Sz21, Ng21, Hs21, Gf21⟩ := id pf20_1
  have hin22 : ¬ ((0 : Int32) < 0 ∨ cl21.slots.size ≤ ((0 : Int32)).toNatClampNeg) := inb_of Sz21 ⟨by decide, by decide⟩
  have hat23 : cl21.slots[((0 : Int32)).toNatClampNeg]? = some (.int (0 : Int32)) := Hs21.at hin22 rfl
  have hin24 : ¬ ((1 : Int32) < 0 ∨ cl21.slots.size ≤ ((1 : Int32)).toNatClampNeg) := inb_of Sz21 ⟨by decide, by decide⟩
  have hat25 : cl21.slots[((1 : Int32)).toNatClampNeg]? = some (.int ((((p0 &&& (2147483647 : Int32)) % (256 : Int32)) + (1 : Int32)) - (1 : Int32))) := Hs21.at hin24 rfl
  have hin26 : ¬ ((2 : Int32) < 0 ∨ cl21.slots.size ≤ ((2 : Int32)).toNatClampNeg) := inb_of Sz21 ⟨by decide, by decide⟩
  have hat27 : cl21.slots[((2 : Int32)).toNatClampNeg]? = some (.int (0 : Int32)) := Hs21.at hin26 rfl
  obtain ⟨fs, hr, hrun, hended, hWE⟩ := X20.leaveW (s := s) hS10 (Nat.le_trans (Nat.le_refl _) kq20.1) (v := some (.int (1 : Int32))) (fun h => by rw [Bd.returns] at h; cases h)
  refine ⟨_, _, pre0 _ ?_, hrun, hended, _, _, rfl, ?_, hWE.1, hWE.2.1, hWE.2.2.1, hWE.2.2.2.mono (by decide) (by decide)⟩
  · show Steps p.tables e below (s₁.setTop (mkF m 0 #[.val (.int p0), .val (.int p1), .unset, .unset, .unset, .unset, .unset, .unset, .unset] [])) _
    refine XS.iloadN X0.here hx rfl (hb hby at_0) rfl ?_
    show Steps p.tables e below (s₁.setTop (mkF m 1 #[.val (.int p0), .val (.int p1), .unset, .unset, .unset, .unset, .unset, .unset, .unset] [(.int p0)])) _
    refine X0.ldcInt hx hown (mvT hZ (hw _ (List.mem_of_getElem? (i := 0) rfl))) (g := (mkF m 1 #[.val (.int p0), .val (.int p1), .unset, .unset, .unset, .unset, .unset, .unset, .unset] [(.int p0)])) rfl (hb hby at_1) _ ?_
    show Steps p.tables e below (s₁.setTop (mkF m 3 #[.val (.int p0), .val (.int p1), .unset, .unset, .unset, .unset, .unset, .unset, .unset] [(.int (2147483647 : Int32)), (.int p0)])) _
    refine XS.iand X0.here hx rfl (hb hby at_3) rfl ?_
    show Steps p.tables e below (s₁.setTop (mkF m 4 #[.val (.int p0), .val (.int p1), .unset, .unset, .unset, .unset, .unset, .unset, .unset] [(.int (p0 &&& (2147483647 : Int32)))])) _
    refine XS.sipush X0.here hx rfl (hb hby at_4) ?_
    show Steps p.tables e below (s₁.setTop (mkF m 7 #[.val (.int p0), .val (.int p1), .unset, .unset, .unset, .unset, .unset, .unset, .unset] [(.int (256 : Int32)), (.int (p0 &&& (2147483647 : Int32)))])) _
    refine iremM X0 hx rfl (hb hby at_7) rfl (by decide) ?_
    show Steps p.tables e below (s₁.setTop (mkF m 8 #[.val (.int p0), .val (.int p1), .unset, .unset, .unset, .unset, .unset, .unset, .unset] [(.int ((p0 &&& (2147483647 : Int32)) % (256 : Int32)))])) _
    refine XS.iconst X0.here hx rfl (hb hby at_8) ?_
    show Steps p.tables e below (s₁.setTop (mkF m 9 #[.val (.int p0), .val (.int p1), .unset, .unset, .unset, .unset, .unset, .unset, .unset] [(.int (1 : Int32)), (.int ((p0 &&& (2147483647 : Int32)) % (256 : Int32)))])) _
    refine XS.iadd X0.here hx rfl (hb hby at_9) rfl ?_
    show Steps p.tables e below (s₁.setTop (mkF m 10 #[.val (.int p0), .val (.int p1), .unset, .unset, .unset, .unset, .unset, .unset, .unset] [(.int (((p0 &&& (2147483647 : Int32)) % (256 : Int32)) + (1 : Int32)))])) _
    refine XS.istoreN X0.here hx rfl (hb hby at_10) rfl (l' := #[.val (.int p0), .val (.int p1), .val (.int (((p0 &&& (2147483647 : Int32)) % (256 : Int32)) + (1 : Int32))), .unset, .unset, .unset, .unset, .unset, .unset]) rfl ?_
    show Steps p.tables e below (s₁.setTop (mkF m 11 #[.val (.int p0), .val (.int p1), .val (.int (((p0 &&& (2147483647 : Int32)) % (256 : Int32)) + (1 : Int32))), .unset, .unset, .unset, .unset, .unset, .unset] [])) _
    refine XS.iconst X0.here hx rfl (hb hby at_11) ?_
    show Steps p.tables e below (s₁.setTop (mkF m 12 #[.val (.int p0), .val (.int p1), .val (.int (((p0 &&& (2147483647 : Int32)) % (256 : Int32)) + (1 : Int32))), .unset, .unset, .unset, .unset, .unset, .unset] [(.int (1 : Int32))])) _
    refine st1 _ ?_
    show Steps p.tables e below (T1.setTop (mkF m 14 #[.val (.int p0), .val (.int p1), .val (.int (((p0 &&& (2147483647 : Int32)) % (256 : Int32)) + (1 : Int32))), .unset, .unset, .unset, .unset, .unset, .unset] [(.ref b1)])) _
    refine XS.dup X1.here hx rfl (hb hby at_14) rfl rfl ?_
    show Steps p.tables e below (T1.setTop (mkF m 15 #[.val (.int p0), .val (.int p1), .val (.int (((p0 &&& (2147483647 : Int32)) % (256 : Int32)) + (1 : Int32))), .unset, .unset, .unset, .unset, .unset, .unset] [(.ref b1), (.ref b1)])) _
    refine XS.iconst X1.here hx rfl (hb hby at_15) ?_
    show Steps p.tables e below (T1.setTop (mkF m 16 #[.val (.int p0), .val (.int p1), .val (.int (((p0 &&& (2147483647 : Int32)) % (256 : Int32)) + (1 : Int32))), .unset, .unset, .unset, .unset, .unset, .unset] [(.int (0 : Int32)), (.ref b1), (.ref b1)])) _
    refine XS.iloadN X1.here hx rfl (hb hby at_16) rfl ?_
    show Steps p.tables e below (T1.setTop (mkF m 17 #[.val (.int p0), .val (.int p1), .val (.int (((p0 &&& (2147483647 : Int32)) % (256 : Int32)) + (1 : Int32))), .unset, .unset, .unset, .unset, .unset, .unset] [(.int p1), (.int (0 : Int32)), (.ref b1), (.ref b1)])) _
    refine XS.sipush X1.here hx rfl (hb hby at_17) ?_
    show Steps p.tables e below (T1.setTop (mkF m 20 #[.val (.int p0), .val (.int p1), .val (.int (((p0 &&& (2147483647 : Int32)) % (256 : Int32)) + (1 : Int32))), .unset, .unset, .unset, .unset, .unset, .unset] [(.int (255 : Int32)), (.int p1), (.int (0 : Int32)), (.ref b1), (.ref b1)])) _
    refine XS.iand X1.here hx rfl (hb hby at_20) rfl ?_
    show Steps p.tables e below (T1.setTop (mkF m 21 #[.val (.int p0), .val (.int p1), .val (.int (((p0 &&& (2147483647 : Int32)) % (256 : Int32)) + (1 : Int32))), .unset, .unset, .unset, .unset, .unset, .unset] [(.int (p1 &&& (255 : Int32))), (.int (0 : Int32)), (.ref b1), (.ref b1)])) _
    refine XS.i2c X1.here hx rfl (hb hby at_21) rfl ?_
    show Steps p.tables e below (T1.setTop (mkF m 22 #[.val (.int p0), .val (.int p1), .val (.int (((p0 &&& (2147483647 : Int32)) % (256 : Int32)) + (1 : Int32))), .unset, .unset, .unset, .unset, .unset, .unset] [(.int ((p1 &&& (255 : Int32)).toUInt32.toUInt16.toUInt32.toInt32)), (.int (0 : Int32)), (.ref b1), (.ref b1)])) _
    refine st4 _ ?_
    show Steps p.tables e below (T4.setTop (mkF m 23 #[.val (.int p0), .val (.int p1), .val (.int (((p0 &&& (2147483647 : Int32)) % (256 : Int32)) + (1 : Int32))), .unset, .unset, .unset, .unset, .unset, .unset] [(.ref b1)])) _
    refine XS.astoreN X4.here hx rfl (hb hby at_23) rfl rfl (l' := #[.val (.int p0), .val (.int p1), .val (.int (((p0 &&& (2147483647 : Int32)) % (256 : Int32)) + (1 : Int32))), .val (.ref b1), .unset, .unset, .unset, .unset, .unset]) rfl ?_
    show Steps p.tables e below (T4.setTop (mkF m 24 #[.val (.int p0), .val (.int p1), .val (.int (((p0 &&& (2147483647 : Int32)) % (256 : Int32)) + (1 : Int32))), .val (.ref b1), .unset, .unset, .unset, .unset, .unset] [])) _
    refine st5 _ ?_
    show Steps p.tables e below (T5.setTop (mkF m 27 #[.val (.int p0), .val (.int p1), .val (.int (((p0 &&& (2147483647 : Int32)) % (256 : Int32)) + (1 : Int32))), .val (.ref b1), .unset, .unset, .unset, .unset, .unset] [(.ref b5)])) _
    refine XS.dup X5.here hx rfl (hb hby at_27) rfl rfl ?_
    show Steps p.tables e below (T5.setTop (mkF m 28 #[.val (.int p0), .val (.int p1), .val (.int (((p0 &&& (2147483647 : Int32)) % (256 : Int32)) + (1 : Int32))), .val (.ref b1), .unset, .unset, .unset, .unset, .unset] [(.ref b5), (.ref b5)])) _
    refine XS.iloadN X5.here hx rfl (hb hby at_28) rfl ?_
    show Steps p.tables e below (T5.setTop (mkF m 29 #[.val (.int p0), .val (.int p1), .val (.int (((p0 &&& (2147483647 : Int32)) % (256 : Int32)) + (1 : Int32))), .val (.ref b1), .unset, .unset, .unset, .unset, .unset] [(.int (((p0 &&& (2147483647 : Int32)) % (256 : Int32)) + (1 : Int32))), (.ref b5), (.ref b5)])) _
    refine st6 _ ?_
    show Steps p.tables e below (T6.setTop (mkF m 32 #[.val (.int p0), .val (.int p1), .val (.int (((p0 &&& (2147483647 : Int32)) % (256 : Int32)) + (1 : Int32))), .val (.ref b1), .unset, .unset, .unset, .unset, .unset] [(.ref b6), (.int (((p0 &&& (2147483647 : Int32)) % (256 : Int32)) + (1 : Int32))), (.ref b5), (.ref b5)])) _
    refine XS.dup X6.here hx rfl (hb hby at_32) rfl rfl ?_
    show Steps p.tables e below (T6.setTop (mkF m 33 #[.val (.int p0), .val (.int p1), .val (.int (((p0 &&& (2147483647 : Int32)) % (256 : Int32)) + (1 : Int32))), .val (.ref b1), .unset, .unset, .unset, .unset, .unset] [(.ref b6), (.ref b6), (.int (((p0 &&& (2147483647 : Int32)) % (256 : Int32)) + (1 : Int32))), (.ref b5), (.ref b5)])) _
    refine XS.aloadN X6.here hx rfl (hb hby at_33) rfl rfl ?_
    show Steps p.tables e below (T6.setTop (mkF m 34 #[.val (.int p0), .val (.int p1), .val (.int (((p0 &&& (2147483647 : Int32)) % (256 : Int32)) + (1 : Int32))), .val (.ref b1), .unset, .unset, .unset, .unset, .unset] [(.ref b1), (.ref b6), (.ref b6), (.int (((p0 &&& (2147483647 : Int32)) % (256 : Int32)) + (1 : Int32))), (.ref b5), (.ref b5)])) _
    refine st7.trans ?_
    show Steps p.tables e below (T7.setTop (mkF m 37 #[.val (.int p0), .val (.int p1), .val (.int (((p0 &&& (2147483647 : Int32)) % (256 : Int32)) + (1 : Int32))), .val (.ref b1), .unset, .unset, .unset, .unset, .unset] [(.ref b6), (.int (((p0 &&& (2147483647 : Int32)) % (256 : Int32)) + (1 : Int32))), (.ref b5), (.ref b5)])) _
    refine st10.trans ?_
    show Steps p.tables e below (T10.setTop (mkF m 40 #[.val (.int p0), .val (.int p1), .val (.int (((p0 &&& (2147483647 : Int32)) % (256 : Int32)) + (1 : Int32))), .val (.ref b1), .unset, .unset, .unset, .unset, .unset] [(.ref b5)])) _
    refine XS.astore X10.here hx rfl (hb hby at_40) rfl rfl (l' := #[.val (.int p0), .val (.int p1), .val (.int (((p0 &&& (2147483647 : Int32)) % (256 : Int32)) + (1 : Int32))), .val (.ref b1), .val (.ref b5), .unset, .unset, .unset, .unset]) rfl ?_
    show Steps p.tables e below (T10.setTop (mkF m 42 #[.val (.int p0), .val (.int p1), .val (.int (((p0 &&& (2147483647 : Int32)) % (256 : Int32)) + (1 : Int32))), .val (.ref b1), .val (.ref b5), .unset, .unset, .unset, .unset] [])) _
    refine XS.aload X10.here hx rfl (hb hby at_42) rfl rfl ?_
    show Steps p.tables e below (T10.setTop (mkF m 44 #[.val (.int p0), .val (.int p1), .val (.int (((p0 &&& (2147483647 : Int32)) % (256 : Int32)) + (1 : Int32))), .val (.ref b1), .val (.ref b5), .unset, .unset, .unset, .unset] [(.ref b5)])) _
    refine st20.trans ?_
    show Steps p.tables e below (T20.setTop (mkF m 47 #[.val (.int p0), .val (.int p1), .val (.int (((p0 &&& (2147483647 : Int32)) % (256 : Int32)) + (1 : Int32))), .val (.ref b1), .val (.ref b5), .unset, .unset, .unset, .unset] [(.ref b20_0)])) _
    refine XS.astore X20.here hx rfl (hb hby at_47) rfl rfl (l' := #[.val (.int p0), .val (.int p1), .val (.int (((p0 &&& (2147483647 : Int32)) % (256 : Int32)) + (1 : Int32))), .val (.ref b1), .val (.ref b5), .val (.ref b20_0), .unset, .unset, .unset]) rfl ?_
    show Steps p.tables e below (T20.setTop (mkF m 49 #[.val (.int p0), .val (.int p1), .val (.int (((p0 &&& (2147483647 : Int32)) % (256 : Int32)) + (1 : Int32))), .val (.ref b1), .val (.ref b5), .val (.ref b20_0), .unset, .unset, .unset] [])) _
    refine X20.ldc2Long hx hown10 (mvT hZ10 (hw _ (List.mem_of_getElem? (i := 128) rfl))) (g := (mkF m 49 #[.val (.int p0), .val (.int p1), .val (.int (((p0 &&& (2147483647 : Int32)) % (256 : Int32)) + (1 : Int32))), .val (.ref b1), .val (.ref b5), .val (.ref b20_0), .unset, .unset, .unset] [])) rfl (hb hby at_49) _ ?_
    show Steps p.tables e below (T20.setTop (mkF m 52 #[.val (.int p0), .val (.int p1), .val (.int (((p0 &&& (2147483647 : Int32)) % (256 : Int32)) + (1 : Int32))), .val (.ref b1), .val (.ref b5), .val (.ref b20_0), .unset, .unset, .unset] [(.long (2147483648 : Int64))])) _
    refine XS.iloadN X20.here hx rfl (hb hby at_52) rfl ?_
    show Steps p.tables e below (T20.setTop (mkF m 53 #[.val (.int p0), .val (.int p1), .val (.int (((p0 &&& (2147483647 : Int32)) % (256 : Int32)) + (1 : Int32))), .val (.ref b1), .val (.ref b5), .val (.ref b20_0), .unset, .unset, .unset] [(.int (((p0 &&& (2147483647 : Int32)) % (256 : Int32)) + (1 : Int32))), (.long (2147483648 : Int64))])) _
    refine XS.i2l X20.here hx rfl (hb hby at_53) rfl ?_
    show Steps p.tables e below (T20.setTop (mkF m 54 #[.val (.int p0), .val (.int p1), .val (.int (((p0 &&& (2147483647 : Int32)) % (256 : Int32)) + (1 : Int32))), .val (.ref b1), .val (.ref b5), .val (.ref b20_0), .unset, .unset, .unset] [(.long ((((p0 &&& (2147483647 : Int32)) % (256 : Int32)) + (1 : Int32)).toInt64)), (.long (2147483648 : Int64))])) _
    refine own_lremM X20 hx rfl (hb hby at_54) rfl hc11 ?_
    show Steps p.tables e below (T20.setTop (mkF m 55 #[.val (.int p0), .val (.int p1), .val (.int (((p0 &&& (2147483647 : Int32)) % (256 : Int32)) + (1 : Int32))), .val (.ref b1), .val (.ref b5), .val (.ref b20_0), .unset, .unset, .unset] [(.long ((2147483648 : Int64) % ((((p0 &&& (2147483647 : Int32)) % (256 : Int32)) + (1 : Int32)).toInt64)))])) _
    refine XS.lstore X20.here hx rfl (hb hby at_55) rfl (l' := #[.val (.int p0), .val (.int p1), .val (.int (((p0 &&& (2147483647 : Int32)) % (256 : Int32)) + (1 : Int32))), .val (.ref b1), .val (.ref b5), .val (.ref b20_0), .val (.long ((2147483648 : Int64) % ((((p0 &&& (2147483647 : Int32)) % (256 : Int32)) + (1 : Int32)).toInt64))), .second, .unset]) rfl ?_
    show Steps p.tables e below (T20.setTop (mkF m 57 #[.val (.int p0), .val (.int p1), .val (.int (((p0 &&& (2147483647 : Int32)) % (256 : Int32)) + (1 : Int32))), .val (.ref b1), .val (.ref b5), .val (.ref b20_0), .val (.long ((2147483648 : Int64) % ((((p0 &&& (2147483647 : Int32)) % (256 : Int32)) + (1 : Int32)).toInt64))), .second, .unset] [])) _
    refine XS.lload X20.here hx rfl (hb hby at_57) rfl ?_
    show Steps p.tables e below (T20.setTop (mkF m 59 #[.val (.int p0), .val (.int p1), .val (.int (((p0 &&& (2147483647 : Int32)) % (256 : Int32)) + (1 : Int32))), .val (.ref b1), .val (.ref b5), .val (.ref b20_0), .val (.long ((2147483648 : Int64) % ((((p0 &&& (2147483647 : Int32)) % (256 : Int32)) + (1 : Int32)).toInt64))), .second, .unset] [(.long ((2147483648 : Int64) % ((((p0 &&& (2147483647 : Int32)) % (256 : Int32)) + (1 : Int32)).toInt64)))])) _
    refine XS.lneg X20.here hx rfl (hb hby at_59) rfl ?_
    show Steps p.tables e below (T20.setTop (mkF m 60 #[.val (.int p0), .val (.int p1), .val (.int (((p0 &&& (2147483647 : Int32)) % (256 : Int32)) + (1 : Int32))), .val (.ref b1), .val (.ref b5), .val (.ref b20_0), .val (.long ((2147483648 : Int64) % ((((p0 &&& (2147483647 : Int32)) % (256 : Int32)) + (1 : Int32)).toInt64))), .second, .unset] [(.long (-((2147483648 : Int64) % ((((p0 &&& (2147483647 : Int32)) % (256 : Int32)) + (1 : Int32)).toInt64))))])) _
    refine X20.ldc2Long hx hown10 (mvT hZ10 (hw _ (List.mem_of_getElem? (i := 129) rfl))) (g := (mkF m 60 #[.val (.int p0), .val (.int p1), .val (.int (((p0 &&& (2147483647 : Int32)) % (256 : Int32)) + (1 : Int32))), .val (.ref b1), .val (.ref b5), .val (.ref b20_0), .val (.long ((2147483648 : Int64) % ((((p0 &&& (2147483647 : Int32)) % (256 : Int32)) + (1 : Int32)).toInt64))), .second, .unset] [(.long (-((2147483648 : Int64) % ((((p0 &&& (2147483647 : Int32)) % (256 : Int32)) + (1 : Int32)).toInt64))))])) rfl (hb hby at_60) _ ?_
    show Steps p.tables e below (T20.setTop (mkF m 63 #[.val (.int p0), .val (.int p1), .val (.int (((p0 &&& (2147483647 : Int32)) % (256 : Int32)) + (1 : Int32))), .val (.ref b1), .val (.ref b5), .val (.ref b20_0), .val (.long ((2147483648 : Int64) % ((((p0 &&& (2147483647 : Int32)) % (256 : Int32)) + (1 : Int32)).toInt64))), .second, .unset] [(.long (255 : Int64)), (.long (-((2147483648 : Int64) % ((((p0 &&& (2147483647 : Int32)) % (256 : Int32)) + (1 : Int32)).toInt64))))])) _
    refine XS.land X20.here hx rfl (hb hby at_63) rfl ?_
    show Steps p.tables e below (T20.setTop (mkF m 64 #[.val (.int p0), .val (.int p1), .val (.int (((p0 &&& (2147483647 : Int32)) % (256 : Int32)) + (1 : Int32))), .val (.ref b1), .val (.ref b5), .val (.ref b20_0), .val (.long ((2147483648 : Int64) % ((((p0 &&& (2147483647 : Int32)) % (256 : Int32)) + (1 : Int32)).toInt64))), .second, .unset] [(.long ((-((2147483648 : Int64) % ((((p0 &&& (2147483647 : Int32)) % (256 : Int32)) + (1 : Int32)).toInt64))) &&& (255 : Int64)))])) _
    refine XS.l2i X20.here hx rfl (hb hby at_64) rfl ?_
    show Steps p.tables e below (T20.setTop (mkF m 65 #[.val (.int p0), .val (.int p1), .val (.int (((p0 &&& (2147483647 : Int32)) % (256 : Int32)) + (1 : Int32))), .val (.ref b1), .val (.ref b5), .val (.ref b20_0), .val (.long ((2147483648 : Int64) % ((((p0 &&& (2147483647 : Int32)) % (256 : Int32)) + (1 : Int32)).toInt64))), .second, .unset] [(.int (((-((2147483648 : Int64) % ((((p0 &&& (2147483647 : Int32)) % (256 : Int32)) + (1 : Int32)).toInt64))) &&& (255 : Int64)).toInt32))])) _
    refine XS.istore X20.here hx rfl (hb hby at_65) rfl (l' := #[.val (.int p0), .val (.int p1), .val (.int (((p0 &&& (2147483647 : Int32)) % (256 : Int32)) + (1 : Int32))), .val (.ref b1), .val (.ref b5), .val (.ref b20_0), .val (.long ((2147483648 : Int64) % ((((p0 &&& (2147483647 : Int32)) % (256 : Int32)) + (1 : Int32)).toInt64))), .second, .val (.int (((-((2147483648 : Int64) % ((((p0 &&& (2147483647 : Int32)) % (256 : Int32)) + (1 : Int32)).toInt64))) &&& (255 : Int64)).toInt32))]) rfl ?_
    show Steps p.tables e below (T20.setTop (mkF m 67 #[.val (.int p0), .val (.int p1), .val (.int (((p0 &&& (2147483647 : Int32)) % (256 : Int32)) + (1 : Int32))), .val (.ref b1), .val (.ref b5), .val (.ref b20_0), .val (.long ((2147483648 : Int64) % ((((p0 &&& (2147483647 : Int32)) % (256 : Int32)) + (1 : Int32)).toInt64))), .second, .val (.int (((-((2147483648 : Int64) % ((((p0 &&& (2147483647 : Int32)) % (256 : Int32)) + (1 : Int32)).toInt64))) &&& (255 : Int64)).toInt32))] [])) _
    refine XS.iload X20.here hx rfl (hb hby at_67) rfl ?_
    show Steps p.tables e below (T20.setTop (mkF m 69 #[.val (.int p0), .val (.int p1), .val (.int (((p0 &&& (2147483647 : Int32)) % (256 : Int32)) + (1 : Int32))), .val (.ref b1), .val (.ref b5), .val (.ref b20_0), .val (.long ((2147483648 : Int64) % ((((p0 &&& (2147483647 : Int32)) % (256 : Int32)) + (1 : Int32)).toInt64))), .second, .val (.int (((-((2147483648 : Int64) % ((((p0 &&& (2147483647 : Int32)) % (256 : Int32)) + (1 : Int32)).toInt64))) &&& (255 : Int64)).toInt32))] [(.int (((-((2147483648 : Int64) % ((((p0 &&& (2147483647 : Int32)) % (256 : Int32)) + (1 : Int32)).toInt64))) &&& (255 : Int64)).toInt32))])) _
    refine XS.iloadN X20.here hx rfl (hb hby at_69) rfl ?_
    show Steps p.tables e below (T20.setTop (mkF m 70 #[.val (.int p0), .val (.int p1), .val (.int (((p0 &&& (2147483647 : Int32)) % (256 : Int32)) + (1 : Int32))), .val (.ref b1), .val (.ref b5), .val (.ref b20_0), .val (.long ((2147483648 : Int64) % ((((p0 &&& (2147483647 : Int32)) % (256 : Int32)) + (1 : Int32)).toInt64))), .second, .val (.int (((-((2147483648 : Int64) % ((((p0 &&& (2147483647 : Int32)) % (256 : Int32)) + (1 : Int32)).toInt64))) &&& (255 : Int64)).toInt32))] [(.int (((p0 &&& (2147483647 : Int32)) % (256 : Int32)) + (1 : Int32))), (.int (((-((2147483648 : Int64) % ((((p0 &&& (2147483647 : Int32)) % (256 : Int32)) + (1 : Int32)).toInt64))) &&& (255 : Int64)).toInt32))])) _
    refine XS.icmpYes X20.here hx rfl (pc0 := 70) (pc' := 136) rfl (hb hby at_70) rfl (tlt hc12).1 (by decide) (by decide) ?_
    show Steps p.tables e below (T20.setTop (mkF m 136 #[.val (.int p0), .val (.int p1), .val (.int (((p0 &&& (2147483647 : Int32)) % (256 : Int32)) + (1 : Int32))), .val (.ref b1), .val (.ref b5), .val (.ref b20_0), .val (.long ((2147483648 : Int64) % ((((p0 &&& (2147483647 : Int32)) % (256 : Int32)) + (1 : Int32)).toInt64))), .second, .val (.int (((-((2147483648 : Int64) % ((((p0 &&& (2147483647 : Int32)) % (256 : Int32)) + (1 : Int32)).toInt64))) &&& (255 : Int64)).toInt32))] [])) _
    refine XS.aload X20.here hx rfl (hb hby at_136) rfl rfl ?_
    show Steps p.tables e below (T20.setTop (mkF m 138 #[.val (.int p0), .val (.int p1), .val (.int (((p0 &&& (2147483647 : Int32)) % (256 : Int32)) + (1 : Int32))), .val (.ref b1), .val (.ref b5), .val (.ref b20_0), .val (.long ((2147483648 : Int64) % ((((p0 &&& (2147483647 : Int32)) % (256 : Int32)) + (1 : Int32)).toInt64))), .second, .val (.int (((-((2147483648 : Int64) % ((((p0 &&& (2147483647 : Int32)) % (256 : Int32)) + (1 : Int32)).toInt64))) &&& (255 : Int64)).toInt32))] [(.ref b20_0)])) _
    refine X20.arraylength hx Ar21.1 (State.isArrayOf_alike hZ10.alike Ar21.2.1) (g := (mkF m 138 #[.val (.int p0), .val (.int p1), .val (.int (((p0 &&& (2147483647 : Int32)) % (256 : Int32)) + (1 : Int32))), .val (.ref b1), .val (.ref b5), .val (.ref b20_0), .val (.long ((2147483648 : Int64) % ((((p0 &&& (2147483647 : Int32)) % (256 : Int32)) + (1 : Int32)).toInt64))), .second, .val (.int (((-((2147483648 : Int64) % ((((p0 &&& (2147483647 : Int32)) % (256 : Int32)) + (1 : Int32)).toInt64))) &&& (255 : Int64)).toInt32))] [(.ref b20_0)])) rfl rfl (hb hby at_138) _ ?_
    rw [len_of Sz21 Ng21]
    show Steps p.tables e below (T20.setTop (mkF m 139 #[.val (.int p0), .val (.int p1), .val (.int (((p0 &&& (2147483647 : Int32)) % (256 : Int32)) + (1 : Int32))), .val (.ref b1), .val (.ref b5), .val (.ref b20_0), .val (.long ((2147483648 : Int64) % ((((p0 &&& (2147483647 : Int32)) % (256 : Int32)) + (1 : Int32)).toInt64))), .second, .val (.int (((-((2147483648 : Int64) % ((((p0 &&& (2147483647 : Int32)) % (256 : Int32)) + (1 : Int32)).toInt64))) &&& (255 : Int64)).toInt32))] [(.int (3 : Int32))])) _
    refine XS.iconst X20.here hx rfl (hb hby at_139) ?_
    show Steps p.tables e below (T20.setTop (mkF m 140 #[.val (.int p0), .val (.int p1), .val (.int (((p0 &&& (2147483647 : Int32)) % (256 : Int32)) + (1 : Int32))), .val (.ref b1), .val (.ref b5), .val (.ref b20_0), .val (.long ((2147483648 : Int64) % ((((p0 &&& (2147483647 : Int32)) % (256 : Int32)) + (1 : Int32)).toInt64))), .second, .val (.int (((-((2147483648 : Int64) % ((((p0 &&& (2147483647 : Int32)) % (256 : Int32)) + (1 : Int32)).toInt64))) &&& (255 : Int64)).toInt32))] [(.int (3 : Int32)), (.int (3 : Int32))])) _
    refine XS.icmpNo X20.here hx rfl (hb hby at_140) rfl (teq (by decide : (3 : Int32) = (3 : Int32))).2 ?_
    show Steps p.tables e below (T20.setTop (mkF m 143 #[.val (.int p0), .val (.int p1), .val (.int (((p0 &&& (2147483647 : Int32)) % (256 : Int32)) + (1 : Int32))), .val (.ref b1), .val (.ref b5), .val (.ref b20_0), .val (.long ((2147483648 : Int64) % ((((p0 &&& (2147483647 : Int32)) % (256 : Int32)) + (1 : Int32)).toInt64))), .second, .val (.int (((-((2147483648 : Int64) % ((((p0 &&& (2147483647 : Int32)) % (256 : Int32)) + (1 : Int32)).toInt64))) &&& (255 : Int64)).toInt32))] [])) _
    refine XS.aload X20.here hx rfl (hb hby at_143) rfl rfl ?_
    show Steps p.tables e below (T20.setTop (mkF m 145 #[.val (.int p0), .val (.int p1), .val (.int (((p0 &&& (2147483647 : Int32)) % (256 : Int32)) + (1 : Int32))), .val (.ref b1), .val (.ref b5), .val (.ref b20_0), .val (.long ((2147483648 : Int64) % ((((p0 &&& (2147483647 : Int32)) % (256 : Int32)) + (1 : Int32)).toInt64))), .second, .val (.int (((-((2147483648 : Int64) % ((((p0 &&& (2147483647 : Int32)) % (256 : Int32)) + (1 : Int32)).toInt64))) &&& (255 : Int64)).toInt32))] [(.ref b20_0)])) _
    refine XS.iconst X20.here hx rfl (hb hby at_145) ?_
    show Steps p.tables e below (T20.setTop (mkF m 146 #[.val (.int p0), .val (.int p1), .val (.int (((p0 &&& (2147483647 : Int32)) % (256 : Int32)) + (1 : Int32))), .val (.ref b1), .val (.ref b5), .val (.ref b20_0), .val (.long ((2147483648 : Int64) % ((((p0 &&& (2147483647 : Int32)) % (256 : Int32)) + (1 : Int32)).toInt64))), .second, .val (.int (((-((2147483648 : Int64) % ((((p0 &&& (2147483647 : Int32)) % (256 : Int32)) + (1 : Int32)).toInt64))) &&& (255 : Int64)).toInt32))] [(.int (0 : Int32)), (.ref b20_0)])) _
    refine X20.iaload hx (j := (0 : Int32)) (v := (.int (0 : Int32))) Ar21.1 (State.isArrayOf_alike hZ10.alike Ar21.2.1) Ar21.2.2 hin22 hat23 (g := (mkF m 146 #[.val (.int p0), .val (.int p1), .val (.int (((p0 &&& (2147483647 : Int32)) % (256 : Int32)) + (1 : Int32))), .val (.ref b1), .val (.ref b5), .val (.ref b20_0), .val (.long ((2147483648 : Int64) % ((((p0 &&& (2147483647 : Int32)) % (256 : Int32)) + (1 : Int32)).toInt64))), .second, .val (.int (((-((2147483648 : Int64) % ((((p0 &&& (2147483647 : Int32)) % (256 : Int32)) + (1 : Int32)).toInt64))) &&& (255 : Int64)).toInt32))] [(.int (0 : Int32)), (.ref b20_0)])) rfl rfl (hb hby at_146) _ ?_
    show Steps p.tables e below (T20.setTop (mkF m 147 #[.val (.int p0), .val (.int p1), .val (.int (((p0 &&& (2147483647 : Int32)) % (256 : Int32)) + (1 : Int32))), .val (.ref b1), .val (.ref b5), .val (.ref b20_0), .val (.long ((2147483648 : Int64) % ((((p0 &&& (2147483647 : Int32)) % (256 : Int32)) + (1 : Int32)).toInt64))), .second, .val (.int (((-((2147483648 : Int64) % ((((p0 &&& (2147483647 : Int32)) % (256 : Int32)) + (1 : Int32)).toInt64))) &&& (255 : Int64)).toInt32))] [(.int (0 : Int32))])) _
    refine XS.ifNo X20.here hx rfl (hb hby at_147) rfl ((if0 _ _).trans (teq (by decide : (0 : Int32) = (0 : Int32))).2) ?_
    show Steps p.tables e below (T20.setTop (mkF m 150 #[.val (.int p0), .val (.int p1), .val (.int (((p0 &&& (2147483647 : Int32)) % (256 : Int32)) + (1 : Int32))), .val (.ref b1), .val (.ref b5), .val (.ref b20_0), .val (.long ((2147483648 : Int64) % ((((p0 &&& (2147483647 : Int32)) % (256 : Int32)) + (1 : Int32)).toInt64))), .second, .val (.int (((-((2147483648 : Int64) % ((((p0 &&& (2147483647 : Int32)) % (256 : Int32)) + (1 : Int32)).toInt64))) &&& (255 : Int64)).toInt32))] [])) _
    refine XS.aload X20.here hx rfl (hb hby at_150) rfl rfl ?_
    show Steps p.tables e below (T20.setTop (mkF m 152 #[.val (.int p0), .val (.int p1), .val (.int (((p0 &&& (2147483647 : Int32)) % (256 : Int32)) + (1 : Int32))), .val (.ref b1), .val (.ref b5), .val (.ref b20_0), .val (.long ((2147483648 : Int64) % ((((p0 &&& (2147483647 : Int32)) % (256 : Int32)) + (1 : Int32)).toInt64))), .second, .val (.int (((-((2147483648 : Int64) % ((((p0 &&& (2147483647 : Int32)) % (256 : Int32)) + (1 : Int32)).toInt64))) &&& (255 : Int64)).toInt32))] [(.ref b20_0)])) _
    refine XS.iconst X20.here hx rfl (hb hby at_152) ?_
    show Steps p.tables e below (T20.setTop (mkF m 153 #[.val (.int p0), .val (.int p1), .val (.int (((p0 &&& (2147483647 : Int32)) % (256 : Int32)) + (1 : Int32))), .val (.ref b1), .val (.ref b5), .val (.ref b20_0), .val (.long ((2147483648 : Int64) % ((((p0 &&& (2147483647 : Int32)) % (256 : Int32)) + (1 : Int32)).toInt64))), .second, .val (.int (((-((2147483648 : Int64) % ((((p0 &&& (2147483647 : Int32)) % (256 : Int32)) + (1 : Int32)).toInt64))) &&& (255 : Int64)).toInt32))] [(.int (1 : Int32)), (.ref b20_0)])) _
    refine X20.iaload hx (j := (1 : Int32)) (v := (.int ((((p0 &&& (2147483647 : Int32)) % (256 : Int32)) + (1 : Int32)) - (1 : Int32)))) Ar21.1 (State.isArrayOf_alike hZ10.alike Ar21.2.1) Ar21.2.2 hin24 hat25 (g := (mkF m 153 #[.val (.int p0), .val (.int p1), .val (.int (((p0 &&& (2147483647 : Int32)) % (256 : Int32)) + (1 : Int32))), .val (.ref b1), .val (.ref b5), .val (.ref b20_0), .val (.long ((2147483648 : Int64) % ((((p0 &&& (2147483647 : Int32)) % (256 : Int32)) + (1 : Int32)).toInt64))), .second, .val (.int (((-((2147483648 : Int64) % ((((p0 &&& (2147483647 : Int32)) % (256 : Int32)) + (1 : Int32)).toInt64))) &&& (255 : Int64)).toInt32))] [(.int (1 : Int32)), (.ref b20_0)])) rfl rfl (hb hby at_153) _ ?_
    show Steps p.tables e below (T20.setTop (mkF m 154 #[.val (.int p0), .val (.int p1), .val (.int (((p0 &&& (2147483647 : Int32)) % (256 : Int32)) + (1 : Int32))), .val (.ref b1), .val (.ref b5), .val (.ref b20_0), .val (.long ((2147483648 : Int64) % ((((p0 &&& (2147483647 : Int32)) % (256 : Int32)) + (1 : Int32)).toInt64))), .second, .val (.int (((-((2147483648 : Int64) % ((((p0 &&& (2147483647 : Int32)) % (256 : Int32)) + (1 : Int32)).toInt64))) &&& (255 : Int64)).toInt32))] [(.int ((((p0 &&& (2147483647 : Int32)) % (256 : Int32)) + (1 : Int32)) - (1 : Int32)))])) _
    refine XS.iloadN X20.here hx rfl (hb hby at_154) rfl ?_
    show Steps p.tables e below (T20.setTop (mkF m 155 #[.val (.int p0), .val (.int p1), .val (.int (((p0 &&& (2147483647 : Int32)) % (256 : Int32)) + (1 : Int32))), .val (.ref b1), .val (.ref b5), .val (.ref b20_0), .val (.long ((2147483648 : Int64) % ((((p0 &&& (2147483647 : Int32)) % (256 : Int32)) + (1 : Int32)).toInt64))), .second, .val (.int (((-((2147483648 : Int64) % ((((p0 &&& (2147483647 : Int32)) % (256 : Int32)) + (1 : Int32)).toInt64))) &&& (255 : Int64)).toInt32))] [(.int (((p0 &&& (2147483647 : Int32)) % (256 : Int32)) + (1 : Int32))), (.int ((((p0 &&& (2147483647 : Int32)) % (256 : Int32)) + (1 : Int32)) - (1 : Int32)))])) _
    refine XS.iconst X20.here hx rfl (hb hby at_155) ?_
    show Steps p.tables e below (T20.setTop (mkF m 156 #[.val (.int p0), .val (.int p1), .val (.int (((p0 &&& (2147483647 : Int32)) % (256 : Int32)) + (1 : Int32))), .val (.ref b1), .val (.ref b5), .val (.ref b20_0), .val (.long ((2147483648 : Int64) % ((((p0 &&& (2147483647 : Int32)) % (256 : Int32)) + (1 : Int32)).toInt64))), .second, .val (.int (((-((2147483648 : Int64) % ((((p0 &&& (2147483647 : Int32)) % (256 : Int32)) + (1 : Int32)).toInt64))) &&& (255 : Int64)).toInt32))] [(.int (1 : Int32)), (.int (((p0 &&& (2147483647 : Int32)) % (256 : Int32)) + (1 : Int32))), (.int ((((p0 &&& (2147483647 : Int32)) % (256 : Int32)) + (1 : Int32)) - (1 : Int32)))])) _
    refine XS.isub X20.here hx rfl (hb hby at_156) rfl ?_
    show Steps p.tables e below (T20.setTop (mkF m 157 #[.val (.int p0), .val (.int p1), .val (.int (((p0 &&& (2147483647 : Int32)) % (256 : Int32)) + (1 : Int32))), .val (.ref b1), .val (.ref b5), .val (.ref b20_0), .val (.long ((2147483648 : Int64) % ((((p0 &&& (2147483647 : Int32)) % (256 : Int32)) + (1 : Int32)).toInt64))), .second, .val (.int (((-((2147483648 : Int64) % ((((p0 &&& (2147483647 : Int32)) % (256 : Int32)) + (1 : Int32)).toInt64))) &&& (255 : Int64)).toInt32))] [(.int ((((p0 &&& (2147483647 : Int32)) % (256 : Int32)) + (1 : Int32)) - (1 : Int32))), (.int ((((p0 &&& (2147483647 : Int32)) % (256 : Int32)) + (1 : Int32)) - (1 : Int32)))])) _
    refine XS.icmpNo X20.here hx rfl (hb hby at_157) rfl (teq (rfl : ((((p0 &&& (2147483647 : Int32)) % (256 : Int32)) + (1 : Int32)) - (1 : Int32)) = ((((p0 &&& (2147483647 : Int32)) % (256 : Int32)) + (1 : Int32)) - (1 : Int32)))).2 ?_
    show Steps p.tables e below (T20.setTop (mkF m 160 #[.val (.int p0), .val (.int p1), .val (.int (((p0 &&& (2147483647 : Int32)) % (256 : Int32)) + (1 : Int32))), .val (.ref b1), .val (.ref b5), .val (.ref b20_0), .val (.long ((2147483648 : Int64) % ((((p0 &&& (2147483647 : Int32)) % (256 : Int32)) + (1 : Int32)).toInt64))), .second, .val (.int (((-((2147483648 : Int64) % ((((p0 &&& (2147483647 : Int32)) % (256 : Int32)) + (1 : Int32)).toInt64))) &&& (255 : Int64)).toInt32))] [])) _
    refine XS.aload X20.here hx rfl (hb hby at_160) rfl rfl ?_
    show Steps p.tables e below (T20.setTop (mkF m 162 #[.val (.int p0), .val (.int p1), .val (.int (((p0 &&& (2147483647 : Int32)) % (256 : Int32)) + (1 : Int32))), .val (.ref b1), .val (.ref b5), .val (.ref b20_0), .val (.long ((2147483648 : Int64) % ((((p0 &&& (2147483647 : Int32)) % (256 : Int32)) + (1 : Int32)).toInt64))), .second, .val (.int (((-((2147483648 : Int64) % ((((p0 &&& (2147483647 : Int32)) % (256 : Int32)) + (1 : Int32)).toInt64))) &&& (255 : Int64)).toInt32))] [(.ref b20_0)])) _
    refine XS.iconst X20.here hx rfl (hb hby at_162) ?_
    show Steps p.tables e below (T20.setTop (mkF m 163 #[.val (.int p0), .val (.int p1), .val (.int (((p0 &&& (2147483647 : Int32)) % (256 : Int32)) + (1 : Int32))), .val (.ref b1), .val (.ref b5), .val (.ref b20_0), .val (.long ((2147483648 : Int64) % ((((p0 &&& (2147483647 : Int32)) % (256 : Int32)) + (1 : Int32)).toInt64))), .second, .val (.int (((-((2147483648 : Int64) % ((((p0 &&& (2147483647 : Int32)) % (256 : Int32)) + (1 : Int32)).toInt64))) &&& (255 : Int64)).toInt32))] [(.int (2 : Int32)), (.ref b20_0)])) _
    refine X20.iaload hx (j := (2 : Int32)) (v := (.int (0 : Int32))) Ar21.1 (State.isArrayOf_alike hZ10.alike Ar21.2.1) Ar21.2.2 hin26 hat27 (g := (mkF m 163 #[.val (.int p0), .val (.int p1), .val (.int (((p0 &&& (2147483647 : Int32)) % (256 : Int32)) + (1 : Int32))), .val (.ref b1), .val (.ref b5), .val (.ref b20_0), .val (.long ((2147483648 : Int64) % ((((p0 &&& (2147483647 : Int32)) % (256 : Int32)) + (1 : Int32)).toInt64))), .second, .val (.int (((-((2147483648 : Int64) % ((((p0 &&& (2147483647 : Int32)) % (256 : Int32)) + (1 : Int32)).toInt64))) &&& (255 : Int64)).toInt32))] [(.int (2 : Int32)), (.ref b20_0)])) rfl rfl (hb hby at_163) _ ?_
    show Steps p.tables e below (T20.setTop (mkF m 164 #[.val (.int p0), .val (.int p1), .val (.int (((p0 &&& (2147483647 : Int32)) % (256 : Int32)) + (1 : Int32))), .val (.ref b1), .val (.ref b5), .val (.ref b20_0), .val (.long ((2147483648 : Int64) % ((((p0 &&& (2147483647 : Int32)) % (256 : Int32)) + (1 : Int32)).toInt64))), .second, .val (.int (((-((2147483648 : Int64) % ((((p0 &&& (2147483647 : Int32)) % (256 : Int32)) + (1 : Int32)).toInt64))) &&& (255 : Int64)).toInt32))] [(.int (0 : Int32))])) _
    refine XS.ifNo X20.here hx rfl (hb hby at_164) rfl ((if0 _ _).trans (teq (by decide : (0 : Int32) = (0 : Int32))).2) ?_
    show Steps p.tables e below (T20.setTop (mkF m 167 #[.val (.int p0), .val (.int p1), .val (.int (((p0 &&& (2147483647 : Int32)) % (256 : Int32)) + (1 : Int32))), .val (.ref b1), .val (.ref b5), .val (.ref b20_0), .val (.long ((2147483648 : Int64) % ((((p0 &&& (2147483647 : Int32)) % (256 : Int32)) + (1 : Int32)).toInt64))), .second, .val (.int (((-((2147483648 : Int64) % ((((p0 &&& (2147483647 : Int32)) % (256 : Int32)) + (1 : Int32)).toInt64))) &&& (255 : Int64)).toInt32))] [])) _
    refine XS.iconst X20.here hx rfl (hb hby at_167) ?_
    show Steps p.tables e below (T20.setTop (mkF m 168 #[.val (.int p0), .val (.int p1), .val (.int (((p0 &&& (2147483647 : Int32)) % (256 : Int32)) + (1 : Int32))), .val (.ref b1), .val (.ref b5), .val (.ref b20_0), .val (.long ((2147483648 : Int64) % ((((p0 &&& (2147483647 : Int32)) % (256 : Int32)) + (1 : Int32)).toInt64))), .second, .val (.int (((-((2147483648 : Int64) % ((((p0 &&& (2147483647 : Int32)) % (256 : Int32)) + (1 : Int32)).toInt64))) &&& (255 : Int64)).toInt32))] [(.int (1 : Int32))])) _
    refine XS.goto X20.here hx rfl (pc0 := 168) (pc' := 172) rfl (hb hby at_168) (by decide) (by decide) ?_
    show Steps p.tables e below (T20.setTop (mkF m 172 #[.val (.int p0), .val (.int p1), .val (.int (((p0 &&& (2147483647 : Int32)) % (256 : Int32)) + (1 : Int32))), .val (.ref b1), .val (.ref b5), .val (.ref b20_0), .val (.long ((2147483648 : Int64) % ((((p0 &&& (2147483647 : Int32)) % (256 : Int32)) + (1 : Int32)).toInt64))), .second, .val (.int (((-((2147483648 : Int64) % ((((p0 &&& (2147483647 : Int32)) % (256 : Int32)) + (1 : Int32)).toInt64))) &&& (255 : Int64)).toInt32))] [(.int (1 : Int32))])) _
    exact retN X20 hx (t := .boolean) Bd.returns (by simp) (hb hby at_172) hr
  · show Q0nBt Z p0 p1 aU s_COMPACT_STRINGS h0 n0 _ T20.heap _
    exact ⟨rfl, N20⟩
def own_max (x y : Int32) : Int32 := if x < y then y else x
theorem own_maxJ (x y : Int32) : ((x < y) ∧ own_max x y = y) ∨ ((¬ (x < y)) ∧ own_max x y = x) := by
  unfold own_max
  by_cases h : x < y
  · exact Or.inl ⟨h, if_pos h⟩
  · exact Or.inr ⟨h, if_neg h⟩
theorem own_low (x : Int32) : ∃ n : Fin 256, x &&& (255 : Int32) = Int32.ofNat n.val := by
  have e := c_mask x (255 : Int32) 8 (by decide) (by decide)
  have h1 : 0 ≤ (x &&& (255 : Int32)).toInt ∧ (x &&& (255 : Int32)).toInt < 256 := by rw [e]; omega
  refine ⟨⟨(x &&& (255 : Int32)).toInt.toNat, by omega⟩, Int32.toInt_inj.mp ?_⟩
  rw [Int32.toInt_ofNat_of_lt (by simp only []; omega)]
  simp only []
  omega
theorem own_all (P : Int32 → Prop) (h : ∀ n : Fin 256, P (Int32.ofNat n.val + 1)) (x : Int32) : P ((x &&& (255 : Int32)) + (1 : Int32)) := by
  obtain ⟨n, e⟩ := own_low x
  rw [e]; exact h n
theorem own_allc (P : Int32 → Prop) (h : ∀ n : Fin 256, P (Int32.ofNat n.val)) (x : Int32) : P (x &&& (255 : Int32)) := by
  obtain ⟨n, e⟩ := own_low x
  rw [e]; exact h n
theorem own_low2 (x : Int32) : ∃ n : Fin 256, (x &&& (2147483647 : Int32)) % (256 : Int32) = Int32.ofNat n.val := by
  have e := c_mask x (2147483647 : Int32) 31 (by decide) (by decide)
  have q : 0 ≤ (x &&& (2147483647 : Int32)).toInt := by rw [e]; omega
  have r := (c_irem (x &&& (2147483647 : Int32)) (256 : Int32) 256 rfl).1 q
  have h1 : 0 ≤ ((x &&& (2147483647 : Int32)) % (256 : Int32)).toInt ∧ ((x &&& (2147483647 : Int32)) % (256 : Int32)).toInt < 256 := by rw [r]; omega
  refine ⟨⟨((x &&& (2147483647 : Int32)) % (256 : Int32)).toInt.toNat, by omega⟩, Int32.toInt_inj.mp ?_⟩
  rw [Int32.toInt_ofNat_of_lt (by simp only []; omega)]
  simp only []
  omega
theorem own_all2 (P : Int32 → Prop) (h : ∀ n : Fin 256, P (Int32.ofNat n.val + 1)) (x : Int32) : P (((x &&& (2147483647 : Int32)) % (256 : Int32)) + (1 : Int32)) := by
  obtain ⟨n, e⟩ := own_low2 x
  rw [e]; exact h n
set_option maxRecDepth 65536 in
set_option maxHeartbeats 40000000 in
theorem comes_1 {Post : Tables → Env → Array Value → State → Outcome → State → Prop} (hpost : ∀ tb e args s v u, (limb_1_1.after args s (.returned v) u = true ∧ limb_1_2.after args s (.returned v) u = true ∧ True) → ReturnedEndW s (.returned v) u (Jvm.fieldLocs frame_1_writes args s ++ Jvm.arrayLocs frame_1_arrays args s ++ Jvm.staticLocs frame_1_statics s) 24 1152 → Post tb e args s (.returned v) u) :
    ArmFor flags0 classFile x code maxLocals ret World_1 tables_1 room_1 Calls_1 rest_1 Pre_1 Post := by
  intro l hfl _ _ p e ha hc hk s m args below hf hA hF happ hP
  obtain ⟨hcalls, hrest, hpre⟩ := hP
  obtain ⟨-, -, -, hnamed, -, -, -, hat⟩ := (Spec.applies_iff hf).mp happ
  obtain ⟨hg, hn⟩ := and_e (Cond.before_iff.mp (show (Jvm.Cond.and given_1 narrow_1).before args s = true from hpre))
  obtain ⟨gc, hg⟩ := and_e hg
  obtain ⟨gi0, hg⟩ := and_e hg
  have gi1 := hg
  obtain ⟨w0, w1, rfl⟩ : ∃ w0 w1 : Value, args = #[w0, w1] := by
    have hs : args.size = 2 := by simpa [Cond.value, given_1] using gc
    obtain ⟨L⟩ := args
    match L, hs with
    | [w0, w1], _ => exact ⟨w0, w1, rfl⟩
  have hw := fun d (hd : d ∈ tables_1) => atoms_spec (ws := Jvm.Cond.code x code maxLocals ret :: tables_1) hat d (List.mem_cons_of_mem _ hd)
  obtain ⟨hsets, hown0⟩ := atoms_of _ (rest_1_c_eq ▸ (show rest_1_c.before _ s = true from hrest))
  obtain ⟨i0, ei0⟩ := is_v gi0
  obtain rfl : w0 = (.int i0) := Option.some.inj ei0
  obtain ⟨i1, ei1⟩ := is_v gi1
  obtain rfl : w1 = (.int i1) := Option.some.inj ei1
  have hU := Cond.before_iff.mp (hsets _ (List.mem_of_getElem? (i := 14) rfl))
  have hI := Cond.before_iff.mp (hsets _ (List.mem_of_getElem? (i := 17) rfl))
  have hUI := Cond.before_iff.mp (hsets _ (List.mem_of_getElem? (i := 13) rfl))
  have hC := Cond.before_iff.mp (hsets _ (List.mem_of_getElem? (i := 1) rfl))
  have hC0 := Cond.before_iff.mp (hsets _ (List.mem_of_getElem? (i := 2) rfl))
  obtain ⟨aU, vU⟩ := exa_v hU
  obtain ⟨aI, vI⟩ := exa_v hI
  obtain ⟨sC, vC⟩ := is_v hC
  have sU := Sta.start vU (Or.inl (hsets _ (List.mem_of_getElem? (i := 10) rfl)))
  have sI := Sta.start vI (Or.inl (hsets _ (List.mem_of_getElem? (i := 12) rfl)))
  have sS := Sta.start vC (Or.inl (hsets _ (List.mem_of_getElem? (i := 0) rfl)))
  have eUI := Value.ref.inj (gotT (eq_R vU vI rfl rfl) hUI)
  subst eUI
  have nC : ¬ (sC = (0 : Int32)) := gotF (by simp [Cond.value, vC, show (Term.int 0).eval #[Value.int i0, Value.int i1] s none [] s = some (.int 0) from rfl]) (not_v hC0)
  by_cases hbc : own_bc (((i0 &&& (2147483647 : Int32)) % (256 : Int32)) + (1 : Int32)) = (1 : Int32)
  · by_cases hneg : ((((i1 &&& (255 : Int32)).toUInt32.toUInt16.toUInt32.toInt32).toInt8.toInt32) < (0 : Int32))
    · obtain ⟨n, o, h1, h2, h3, _, L, rfl, ⟨rfl, N⟩, hq⟩ := rm0nAt l s _ hw tables_1 i0 i1 aU sC s.heap s.heap.size (Nat.le_refl _) sI sU sS nC (own_allc (fun c => ¬ ((255 : Int32) < (c.toUInt32.toUInt16.toUInt32.toInt32))) (by decide +kernel) i1) hneg (own_all2 (fun b => own_bc b = (1 : Int32) → ¬ (b < (1 : Int32))) (by decide +kernel) i0 hbc) (own_all2 (fun b => own_bc b = (1 : Int32) → ¬ ((256 : Int32) < b)) (by decide +kernel) i0 hbc) hbc (own_all2 (fun b => own_bc b = (1 : Int32) → ¬ ((b - (1 : Int32)) < (0 : Int32))) (by decide +kernel) i0 hbc) (own_all2 (fun b => own_bc b = (1 : Int32) → ((((-2147483648 : Int32) &&& (b - (1 : Int32))).toInt8.toInt32) &&& (255 : Int32)) < b) (by decide +kernel) i0 hbc) (own_all2 (fun b => own_bc b = (1 : Int32) → (b.toInt64) ≠ (0 : Int64)) (by decide +kernel) i0 hbc) (own_all2 (fun b => own_bc b = (1 : Int32) → (((-((2147483648 : Int64) % (b.toInt64))) &&& (255 : Int64)).toInt32) < b) (by decide +kernel) i0 hbc) p e ha hc hk s m _ below hf ((Spec.applies_iff_loose hf).mp happ).1 ⟨rfl, State.Warmed39.refl s, rfl⟩ trivial
      refine ⟨n, _, h1, h2, h3, hpost _ _ _ _ _ _ ⟨Cond.after_iff.mpr rfl, Cond.after_iff.mpr (eq_i res_at (Term.int_eval (1)) rfl), trivial⟩ ⟨hq.1, hq.2.1, hq.2.2.1, (hq.2.2.2.sift fun y hy => Or.inr (N y hy)).mono (by decide) (by decide)⟩⟩
    obtain ⟨n, o, h1, h2, h3, _, L, rfl, ⟨rfl, N⟩, hq⟩ := rm0pAt l s _ hw tables_1 i0 i1 aU sC s.heap s.heap.size (Nat.le_refl _) sI sU sS nC (own_allc (fun c => ¬ ((255 : Int32) < (c.toUInt32.toUInt16.toUInt32.toInt32))) (by decide +kernel) i1) hneg (own_all2 (fun b => own_bc b = (1 : Int32) → ¬ (b < (1 : Int32))) (by decide +kernel) i0 hbc) (own_all2 (fun b => own_bc b = (1 : Int32) → ¬ ((256 : Int32) < b)) (by decide +kernel) i0 hbc) hbc (own_all2 (fun b => own_bc b = (1 : Int32) → ¬ ((b - (1 : Int32)) < (0 : Int32))) (by decide +kernel) i0 hbc) (own_all2 (fun b => own_bc b = (1 : Int32) → ((((-2147483648 : Int32) &&& (b - (1 : Int32))).toInt8.toInt32) &&& (255 : Int32)) < b) (by decide +kernel) i0 hbc) (own_all2 (fun b => own_bc b = (1 : Int32) → (b.toInt64) ≠ (0 : Int64)) (by decide +kernel) i0 hbc) (own_all2 (fun b => own_bc b = (1 : Int32) → (((-((2147483648 : Int64) % (b.toInt64))) &&& (255 : Int64)).toInt32) < b) (by decide +kernel) i0 hbc) p e ha hc hk s m _ below hf ((Spec.applies_iff_loose hf).mp happ).1 ⟨rfl, State.Warmed39.refl s, rfl⟩ trivial
    refine ⟨n, _, h1, h2, h3, hpost _ _ _ _ _ _ ⟨Cond.after_iff.mpr rfl, Cond.after_iff.mpr (eq_i res_at (Term.int_eval (1)) rfl), trivial⟩ ⟨hq.1, hq.2.1, hq.2.2.1, (hq.2.2.2.sift fun y hy => Or.inr (N y hy)).mono (by decide) (by decide)⟩⟩
  by_cases hov : ((((-2147483648 : Int32) % (((i0 &&& (2147483647 : Int32)) % (256 : Int32)) + (1 : Int32))).toInt8.toInt32) &&& (255 : Int32)) < (((i0 &&& (2147483647 : Int32)) % (256 : Int32)) + (1 : Int32))
  · by_cases hneg : ((((i1 &&& (255 : Int32)).toUInt32.toUInt16.toUInt32.toInt32).toInt8.toInt32) < (0 : Int32))
    · obtain ⟨n, o, h1, h2, h3, _, L, rfl, ⟨rfl, N⟩, hq⟩ := rm0nBt l s _ hw tables_1 i0 i1 aU sC s.heap s.heap.size (Nat.le_refl _) sI sU sS nC (own_allc (fun c => ¬ ((255 : Int32) < (c.toUInt32.toUInt16.toUInt32.toInt32))) (by decide +kernel) i1) hneg (own_all2 (fun b => ¬ (own_bc b = (1 : Int32)) → ((((-2147483648 : Int32) % b).toInt8.toInt32) &&& (255 : Int32)) < b → ¬ (b < (1 : Int32))) (by decide +kernel) i0 hbc hov) (own_all2 (fun b => ¬ (own_bc b = (1 : Int32)) → ((((-2147483648 : Int32) % b).toInt8.toInt32) &&& (255 : Int32)) < b → ¬ ((256 : Int32) < b)) (by decide +kernel) i0 hbc hov) hbc (own_all2 (fun b => ¬ (own_bc b = (1 : Int32)) → ((((-2147483648 : Int32) % b).toInt8.toInt32) &&& (255 : Int32)) < b → b ≠ (0 : Int32)) (by decide +kernel) i0 hbc hov) hov (own_all2 (fun b => ¬ (own_bc b = (1 : Int32)) → ((((-2147483648 : Int32) % b).toInt8.toInt32) &&& (255 : Int32)) < b → (b.toInt64) ≠ (0 : Int64)) (by decide +kernel) i0 hbc hov) (own_all2 (fun b => ¬ (own_bc b = (1 : Int32)) → ((((-2147483648 : Int32) % b).toInt8.toInt32) &&& (255 : Int32)) < b → (((-((2147483648 : Int64) % (b.toInt64))) &&& (255 : Int64)).toInt32) < b) (by decide +kernel) i0 hbc hov) p e ha hc hk s m _ below hf ((Spec.applies_iff_loose hf).mp happ).1 ⟨rfl, State.Warmed39.refl s, rfl⟩ trivial
      refine ⟨n, _, h1, h2, h3, hpost _ _ _ _ _ _ ⟨Cond.after_iff.mpr rfl, Cond.after_iff.mpr (eq_i res_at (Term.int_eval (1)) rfl), trivial⟩ ⟨hq.1, hq.2.1, hq.2.2.1, (hq.2.2.2.sift fun y hy => Or.inr (N y hy)).mono (by decide) (by decide)⟩⟩
    obtain ⟨n, o, h1, h2, h3, _, L, rfl, ⟨rfl, N⟩, hq⟩ := rm0pBt l s _ hw tables_1 i0 i1 aU sC s.heap s.heap.size (Nat.le_refl _) sI sU sS nC (own_allc (fun c => ¬ ((255 : Int32) < (c.toUInt32.toUInt16.toUInt32.toInt32))) (by decide +kernel) i1) hneg (own_all2 (fun b => ¬ (own_bc b = (1 : Int32)) → ((((-2147483648 : Int32) % b).toInt8.toInt32) &&& (255 : Int32)) < b → ¬ (b < (1 : Int32))) (by decide +kernel) i0 hbc hov) (own_all2 (fun b => ¬ (own_bc b = (1 : Int32)) → ((((-2147483648 : Int32) % b).toInt8.toInt32) &&& (255 : Int32)) < b → ¬ ((256 : Int32) < b)) (by decide +kernel) i0 hbc hov) hbc (own_all2 (fun b => ¬ (own_bc b = (1 : Int32)) → ((((-2147483648 : Int32) % b).toInt8.toInt32) &&& (255 : Int32)) < b → b ≠ (0 : Int32)) (by decide +kernel) i0 hbc hov) hov (own_all2 (fun b => ¬ (own_bc b = (1 : Int32)) → ((((-2147483648 : Int32) % b).toInt8.toInt32) &&& (255 : Int32)) < b → (b.toInt64) ≠ (0 : Int64)) (by decide +kernel) i0 hbc hov) (own_all2 (fun b => ¬ (own_bc b = (1 : Int32)) → ((((-2147483648 : Int32) % b).toInt8.toInt32) &&& (255 : Int32)) < b → (((-((2147483648 : Int64) % (b.toInt64))) &&& (255 : Int64)).toInt32) < b) (by decide +kernel) i0 hbc hov) p e ha hc hk s m _ below hf ((Spec.applies_iff_loose hf).mp happ).1 ⟨rfl, State.Warmed39.refl s, rfl⟩ trivial
    refine ⟨n, _, h1, h2, h3, hpost _ _ _ _ _ _ ⟨Cond.after_iff.mpr rfl, Cond.after_iff.mpr (eq_i res_at (Term.int_eval (1)) rfl), trivial⟩ ⟨hq.1, hq.2.1, hq.2.2.1, (hq.2.2.2.sift fun y hy => Or.inr (N y hy)).mono (by decide) (by decide)⟩⟩
  by_cases hneg : ((((i1 &&& (255 : Int32)).toUInt32.toUInt16.toUInt32.toInt32).toInt8.toInt32) < (0 : Int32))
  · obtain ⟨n, o, h1, h2, h3, _, L, rfl, ⟨rfl, N⟩, hq⟩ := rm0nBs l s _ hw tables_1 i0 i1 aU sC s.heap s.heap.size (Nat.le_refl _) sI sU sS nC (own_allc (fun c => ¬ ((255 : Int32) < (c.toUInt32.toUInt16.toUInt32.toInt32))) (by decide +kernel) i1) hneg (own_all2 (fun b => ¬ (own_bc b = (1 : Int32)) → ¬ (((((-2147483648 : Int32) % b).toInt8.toInt32) &&& (255 : Int32)) < b) → ¬ (b < (1 : Int32))) (by decide +kernel) i0 hbc hov) (own_all2 (fun b => ¬ (own_bc b = (1 : Int32)) → ¬ (((((-2147483648 : Int32) % b).toInt8.toInt32) &&& (255 : Int32)) < b) → ¬ ((256 : Int32) < b)) (by decide +kernel) i0 hbc hov) hbc (own_all2 (fun b => ¬ (own_bc b = (1 : Int32)) → ¬ (((((-2147483648 : Int32) % b).toInt8.toInt32) &&& (255 : Int32)) < b) → b ≠ (0 : Int32)) (by decide +kernel) i0 hbc hov) hov (own_all2 (fun b => ¬ (own_bc b = (1 : Int32)) → ¬ (((((-2147483648 : Int32) % b).toInt8.toInt32) &&& (255 : Int32)) < b) → (b.toInt64) ≠ (0 : Int64)) (by decide +kernel) i0 hbc hov) (own_all2 (fun b => ¬ (own_bc b = (1 : Int32)) → ¬ (((((-2147483648 : Int32) % b).toInt8.toInt32) &&& (255 : Int32)) < b) → ¬ ((((-((2147483648 : Int64) % (b.toInt64))) &&& (255 : Int64)).toInt32) < b)) (by decide +kernel) i0 hbc hov) (own_all2 (fun b => ¬ (own_bc b = (1 : Int32)) → ¬ (((((-2147483648 : Int32) % b).toInt8.toInt32) &&& (255 : Int32)) < b) → ((((-2147483648 : Int32) % b).toInt8.toInt32) &&& (255 : Int32)) = (((-((2147483648 : Int64) % (b.toInt64))) &&& (255 : Int64)).toInt32)) (by decide +kernel) i0 hbc hov) p e ha hc hk s m _ below hf ((Spec.applies_iff_loose hf).mp happ).1 ⟨rfl, State.Warmed39.refl s, rfl⟩ trivial
    refine ⟨n, _, h1, h2, h3, hpost _ _ _ _ _ _ ⟨Cond.after_iff.mpr rfl, Cond.after_iff.mpr (eq_i res_at (Term.int_eval (1)) rfl), trivial⟩ ⟨hq.1, hq.2.1, hq.2.2.1, (hq.2.2.2.sift fun y hy => Or.inr (N y hy)).mono (by decide) (by decide)⟩⟩
  obtain ⟨n, o, h1, h2, h3, _, L, rfl, ⟨rfl, N⟩, hq⟩ := rm0pBs l s _ hw tables_1 i0 i1 aU sC s.heap s.heap.size (Nat.le_refl _) sI sU sS nC (own_allc (fun c => ¬ ((255 : Int32) < (c.toUInt32.toUInt16.toUInt32.toInt32))) (by decide +kernel) i1) hneg (own_all2 (fun b => ¬ (own_bc b = (1 : Int32)) → ¬ (((((-2147483648 : Int32) % b).toInt8.toInt32) &&& (255 : Int32)) < b) → ¬ (b < (1 : Int32))) (by decide +kernel) i0 hbc hov) (own_all2 (fun b => ¬ (own_bc b = (1 : Int32)) → ¬ (((((-2147483648 : Int32) % b).toInt8.toInt32) &&& (255 : Int32)) < b) → ¬ ((256 : Int32) < b)) (by decide +kernel) i0 hbc hov) hbc (own_all2 (fun b => ¬ (own_bc b = (1 : Int32)) → ¬ (((((-2147483648 : Int32) % b).toInt8.toInt32) &&& (255 : Int32)) < b) → b ≠ (0 : Int32)) (by decide +kernel) i0 hbc hov) hov (own_all2 (fun b => ¬ (own_bc b = (1 : Int32)) → ¬ (((((-2147483648 : Int32) % b).toInt8.toInt32) &&& (255 : Int32)) < b) → (b.toInt64) ≠ (0 : Int64)) (by decide +kernel) i0 hbc hov) (own_all2 (fun b => ¬ (own_bc b = (1 : Int32)) → ¬ (((((-2147483648 : Int32) % b).toInt8.toInt32) &&& (255 : Int32)) < b) → ¬ ((((-((2147483648 : Int64) % (b.toInt64))) &&& (255 : Int64)).toInt32) < b)) (by decide +kernel) i0 hbc hov) (own_all2 (fun b => ¬ (own_bc b = (1 : Int32)) → ¬ (((((-2147483648 : Int32) % b).toInt8.toInt32) &&& (255 : Int32)) < b) → ((((-2147483648 : Int32) % b).toInt8.toInt32) &&& (255 : Int32)) = (((-((2147483648 : Int64) % (b.toInt64))) &&& (255 : Int64)).toInt32)) (by decide +kernel) i0 hbc hov) p e ha hc hk s m _ below hf ((Spec.applies_iff_loose hf).mp happ).1 ⟨rfl, State.Warmed39.refl s, rfl⟩ trivial
  refine ⟨n, _, h1, h2, h3, hpost _ _ _ _ _ _ ⟨Cond.after_iff.mpr rfl, Cond.after_iff.mpr (eq_i res_at (Term.int_eval (1)) rfl), trivial⟩ ⟨hq.1, hq.2.1, hq.2.2.1, (hq.2.2.2.sift fun y hy => Or.inr (N y hy)).mono (by decide) (by decide)⟩⟩
theorem main_1_1 : Claimed_1_1 := comes_1 fun _ _ _ _ _ _ h hF => ⟨h.1, hF⟩
theorem main_1_2 : Claimed_1_2 := comes_1 fun _ _ _ _ _ _ h hF => ⟨h.2.1, hF⟩
end Jvm.Pilot.@@N@@
namespace Jvm.Pilot.@@N@@
open Jvm Jvm.ClassFile Sem Op Lib Jvm.Free Jvm.Stand Jvm.Pilot.@@N@@.Jvm.D
/-! MADE BY PROGRAM (witnessworld.py) out of the Statement's table words and the real class files: 33 classes; the members and pool entries that the words name. The judged class is class 1, her method 1. -/
namespace start1
open Jvm.ClassFile
def u (s : String) : CpInfo := .utf8 (stringToUtf16 s)
/-- a pool by its gaps: so many unusable entries, then the entry; so many at the end -/
def gap : Nat → List CpInfo → List CpInfo
  | 0, r => r
  | n + 1, r => .unusable :: gap n r
def poolList (es : List (Nat × CpInfo)) (last : Nat) : List CpInfo := es.foldr (fun e r => gap e.1 (e.2 :: r)) (gap last [])
def pool (es : List (Nat × CpInfo)) (last : Nat) : Array CpInfo := ⟨poolList es last⟩
def fileOf (pool : Array CpInfo) (this : Nat) (attrs : Array Attribute := #[]) (ms : Array MethodInfo := #[]) (fl : Nat := 33) (sup : Nat := 0) (ifs : Array Nat := #[]) (fds : Array FieldInfo := #[]) : ClassFile where
  minorVersion := 0
  majorVersion := 65
  constantPool := pool
  accessFlags := fl
  thisClass := this
  superClass := sup
  interfaces := ifs
  fields := fds
  methods := ms
  attributes := attrs
def plain (name : String) (sup : Option ClassId) : Class where
  name := name
  kind := .ordinary
  loader := none
  accessFlags := 33
  super := sup
  interfaces := #[]
  cf := none
  fields := #[]
  methods := #[]
  instanceTypes := #[]
  staticTypes := #[]
  resolved := #[]
  callSites := []
  init := .initialized
  statics := none
  mirror := none

def pool0 : Array CpInfo := pool [(5, u "<init>"), (0, u "()V"), (1, .class_ 10), (1, u "java/lang/Object"), (85, u "clone"), (0, u "()Ljava/lang/Object;")] 26

def k0c0 : Code := { maxStack := 0, maxLocals := 1, code := object_method_1_code, exceptionTable := #[], attributes := #[] }
def k0m0 : Method := { name := "<init>", desc := "()V", sig := { parameters := [], returnType := none }, accessFlags := 1, code := some k0c0 }
def k0m1 : Method := { name := "clone", desc := "()Ljava/lang/Object;", sig := { parameters := [], returnType := some (.object "java/lang/Object") }, accessFlags := 260, code := none }
/-- java/lang/Object -/
def k0 : Class := { plain "java/lang/Object" none with
  accessFlags := 33
  interfaces := #[]
  cf := some (fileOf pool0 8 #[] #[{ accessFlags := 1, nameIndex := 5, descriptorIndex := 6, attributes := #[] }, { accessFlags := 260, nameIndex := 96, descriptorIndex := 97, attributes := #[] }] 33 0 #[] #[])
  fields := #[]
  methods := #[k0m0, k0m1]
  instanceTypes := #[]
  staticTypes := #[]
  resolved := Array.replicate 124 none
  statics := none }

def pool1 : Array CpInfo := pool [(2, .class_ 4), (1, u "java/lang/Object"), (0, u "<init>"), (0, u "()V"), (0, .integer 2147483647), (0, .class_ 9), (0, u "com/example/fireweed/fireweed/layout/Java31ByteSalt"), (0, .class_ 11), (0, u "java/lang/String"), (0, .methodref 10 13), (0, .nameAndType 5 14), (0, u "([C)V"), (0, .methodref 8 16), (0, .nameAndType 5 17), (0, u "(ILjava/lang/String;)V"), (0, .methodref 8 19), (0, .nameAndType 20 21), (0, u "bytes"), (0, u "()[I"), (0, .long 2147483648), (1, .long 255), (1, .class_ 27), (0, u "com/example/fireweed/fireweed/layout/Java31ByteSaltBytesPinLaw"), (2, u "law"), (0, u "(II)Z")] 7

def k1m0 : Method := { name := "<init>", desc := "()V", sig := { parameters := [], returnType := none }, accessFlags := 2, code := none }
def k1c1 : Code := { maxStack := 6, maxLocals := 9, code := code, exceptionTable := #[], attributes := #[] }
def k1m1 : Method := { name := "law", desc := "(II)Z", sig := { parameters := [.int, .int], returnType := some .boolean }, accessFlags := 9, code := some k1c1 }
/-- com/example/fireweed/fireweed/layout/Java31ByteSaltBytesPinLaw -/
def k1 : Class := { plain "com/example/fireweed/fireweed/layout/Java31ByteSaltBytesPinLaw" (some 0) with
  accessFlags := 49
  interfaces := #[]
  cf := some (fileOf pool1 26 #[] #[{ accessFlags := 2, nameIndex := 5, descriptorIndex := 6, attributes := #[] }, { accessFlags := 9, nameIndex := 30, descriptorIndex := 31, attributes := #[] }] 49 2 #[] #[])
  fields := #[]
  methods := #[k1m0, k1m1]
  instanceTypes := #[]
  staticTypes := #[]
  resolved := Array.replicate 39 none
  statics := none }

def pool2 : Array CpInfo := pool [(1, .methodref 2 3), (0, .class_ 4), (0, .nameAndType 5 6), (0, u "java/lang/Object"), (0, u "<init>"), (0, u "()V"), (0, .string 8), (0, u "suffix"), (0, .methodref 10 11), (0, .class_ 12), (0, .nameAndType 13 14), (0, u "java/util/Objects"), (0, u "requireNonNull"), (0, u "(Ljava/lang/Object;Ljava/lang/String;)Ljava/lang/Object;"), (0, .class_ 16), (0, u "java/lang/String"), (0, .fieldref 18 19), (0, .class_ 20), (0, .nameAndType 8 21), (0, u "com/example/fireweed/fireweed/layout/Salt"), (0, u "Ljava/lang/String;"), (0, .fieldref 23 24), (0, .class_ 25), (0, .nameAndType 26 27), (0, u "java/nio/charset/StandardCharsets"), (0, u "UTF_8"), (0, u "Ljava/nio/charset/Charset;"), (0, .methodref 15 29), (0, .nameAndType 30 31), (0, u "getBytes"), (0, u "(Ljava/nio/charset/Charset;)[B"), (0, .fieldref 18 33), (0, .nameAndType 34 35), (0, u "suffixBytes"), (0, u "[B"), (63, u "MD5"), (0, u "Ljava/lang/ThreadLocal;"), (33, u "(Ljava/lang/String;)V")] 44

def k2c0 : Code := { maxStack := 3, maxLocals := 2, code := prog_11_method_1_code, exceptionTable := #[], attributes := #[] }
def k2m0 : Method := { name := "<init>", desc := "(Ljava/lang/String;)V", sig := { parameters := [(.object "java/lang/String")], returnType := none }, accessFlags := 0, code := some k2c0 }
/-- com/example/fireweed/fireweed/layout/Salt -/
def k2 : Class := { plain "com/example/fireweed/fireweed/layout/Salt" (some 0) with
  accessFlags := 1057
  interfaces := #[]
  cf := some (fileOf pool2 18 #[] #[{ accessFlags := 0, nameIndex := 5, descriptorIndex := 134, attributes := #[] }] 1057 2 #[] #[{ accessFlags := 26, nameIndex := 99, descriptorIndex := 100, attributes := #[] }, { accessFlags := 18, nameIndex := 8, descriptorIndex := 21, attributes := #[] }, { accessFlags := 18, nameIndex := 34, descriptorIndex := 35, attributes := #[] }])
  fields := #[{ name := "MD5", type := (.object "java/lang/ThreadLocal"), accessFlags := 26, slot := 0, constantValue := 0 }, { name := "suffix", type := (.object "java/lang/String"), accessFlags := 18, slot := 0, constantValue := 0 }, { name := "suffixBytes", type := (.array .byte), accessFlags := 18, slot := 1, constantValue := 0 }]
  methods := #[k2m0]
  instanceTypes := #[(.object "java/lang/String"), (.array .byte)]
  staticTypes := #[(.object "java/lang/ThreadLocal")]
  resolved := Array.replicate 179 none
  statics := none }

def pool3 : Array CpInfo := pool [(1, .methodref 2 3), (0, .class_ 4), (0, .nameAndType 5 6), (0, u "com/example/fireweed/fireweed/layout/Salt"), (0, u "<init>"), (0, u "(Ljava/lang/String;)V"), (1, .class_ 10), (1, u "com/example/fireweed/fireweed/layout/BucketSalt")] 56

def k3c0 : Code := { maxStack := 2, maxLocals := 2, code := prog_5_method_1_code, exceptionTable := #[], attributes := #[] }
def k3m0 : Method := { name := "<init>", desc := "(Ljava/lang/String;)V", sig := { parameters := [(.object "java/lang/String")], returnType := none }, accessFlags := 0, code := some k3c0 }
/-- com/example/fireweed/fireweed/layout/BucketSalt -/
def k3 : Class := { plain "com/example/fireweed/fireweed/layout/BucketSalt" (some 2) with
  accessFlags := 1057
  interfaces := #[]
  cf := some (fileOf pool3 8 #[] #[{ accessFlags := 0, nameIndex := 5, descriptorIndex := 6, attributes := #[] }] 1057 2 #[] #[])
  fields := #[]
  methods := #[k3m0]
  instanceTypes := #[(.object "java/lang/String"), (.array .byte)]
  staticTypes := #[]
  resolved := Array.replicate 67 none
  statics := none }

def pool4 : Array CpInfo := pool [(1, .class_ 2), (0, u "com/example/fireweed/fireweed/layout/Java31ByteSalt"), (0, .methodref 4 5), (0, .class_ 6), (0, .nameAndType 7 8), (0, u "com/example/fireweed/fireweed/layout/BucketSalt"), (0, u "<init>"), (0, u "(Ljava/lang/String;)V"), (7, .class_ 18), (1, u "java/lang/Integer"), (9, .fieldref 1 29), (0, .nameAndType 30 31), (0, u "buckets"), (0, u "I"), (0, .methodref 16 33), (0, .nameAndType 34 35), (0, u "bitCount"), (0, u "(I)I"), (0, .fieldref 1 37), (0, .nameAndType 38 31), (0, u "mask"), (0, .integer 2147483648), (0, .methodref 1 41), (0, .nameAndType 42 43), (0, u "saltOf"), (0, u "(I)B"), (0, .methodref 45 46), (0, .class_ 47), (0, .nameAndType 48 49), (0, u "java/lang/Byte"), (0, u "toUnsignedInt"), (0, u "(B)I"), (0, .fieldref 1 51), (0, .nameAndType 52 31), (0, u "overflow"), (26, .class_ 81), (1, u "java/lang/Math"), (14, .methodref 79 97), (0, .nameAndType 98 35), (0, u "abs"), (0, u "KIND"), (0, u "Ljava/lang/String;"), (3, u "MAX_BUCKETS"), (1, u "MULTIPLIER"), (1, u "STEP"), (1, u "POWER_2"), (1, u "POWER_3"), (1, u "POWER_4"), (0, u "POWER_5"), (0, u "POWER_6"), (0, u "POWER_7"), (0, u "POWER_8"), (0, u "(ILjava/lang/String;)V"), (15, u "bytes"), (0, u "()[I")] 8

def k4c0 : Code := { maxStack := 7, maxLocals := 3, code := prog_7_method_1_code, exceptionTable := #[], attributes := #[] }
def k4m0 : Method := { name := "<init>", desc := "(ILjava/lang/String;)V", sig := { parameters := [.int, (.object "java/lang/String")], returnType := none }, accessFlags := 1, code := some k4c0 }
def k4c1 : Code := { maxStack := 5, maxLocals := 1, code := prog_7_method_9_code, exceptionTable := #[], attributes := #[] }
def k4m1 : Method := { name := "bytes", desc := "()[I", sig := { parameters := [], returnType := some (.array .int) }, accessFlags := 0, code := some k4c1 }
def k4c2 : Code := { maxStack := 2, maxLocals := 3, code := prog_7_method_13_code, exceptionTable := #[], attributes := #[] }
def k4m2 : Method := { name := "saltOf", desc := "(I)B", sig := { parameters := [.int], returnType := some .byte }, accessFlags := 2, code := some k4c2 }
/-- com/example/fireweed/fireweed/layout/Java31ByteSalt -/
def k4 : Class := { plain "com/example/fireweed/fireweed/layout/Java31ByteSalt" (some 3) with
  accessFlags := 49
  interfaces := #[]
  cf := some (fileOf pool4 1 #[] #[{ accessFlags := 1, nameIndex := 7, descriptorIndex := 119, attributes := #[] }, { accessFlags := 0, nameIndex := 135, descriptorIndex := 136, attributes := #[] }, { accessFlags := 2, nameIndex := 42, descriptorIndex := 43, attributes := #[] }] 49 4 #[] #[{ accessFlags := 25, nameIndex := 99, descriptorIndex := 100, attributes := #[] }, { accessFlags := 25, nameIndex := 104, descriptorIndex := 31, attributes := #[] }, { accessFlags := 26, nameIndex := 106, descriptorIndex := 31, attributes := #[] }, { accessFlags := 26, nameIndex := 108, descriptorIndex := 31, attributes := #[] }, { accessFlags := 26, nameIndex := 110, descriptorIndex := 31, attributes := #[] }, { accessFlags := 26, nameIndex := 112, descriptorIndex := 31, attributes := #[] }, { accessFlags := 26, nameIndex := 114, descriptorIndex := 31, attributes := #[] }, { accessFlags := 26, nameIndex := 115, descriptorIndex := 31, attributes := #[] }, { accessFlags := 26, nameIndex := 116, descriptorIndex := 31, attributes := #[] }, { accessFlags := 26, nameIndex := 117, descriptorIndex := 31, attributes := #[] }, { accessFlags := 26, nameIndex := 118, descriptorIndex := 31, attributes := #[] }, { accessFlags := 18, nameIndex := 30, descriptorIndex := 31, attributes := #[] }, { accessFlags := 18, nameIndex := 38, descriptorIndex := 31, attributes := #[] }, { accessFlags := 18, nameIndex := 52, descriptorIndex := 31, attributes := #[] }])
  fields := #[{ name := "KIND", type := (.object "java/lang/String"), accessFlags := 25, slot := 0, constantValue := 0 }, { name := "MAX_BUCKETS", type := .int, accessFlags := 25, slot := 1, constantValue := 0 }, { name := "MULTIPLIER", type := .int, accessFlags := 26, slot := 2, constantValue := 0 }, { name := "STEP", type := .int, accessFlags := 26, slot := 3, constantValue := 0 }, { name := "POWER_2", type := .int, accessFlags := 26, slot := 4, constantValue := 0 }, { name := "POWER_3", type := .int, accessFlags := 26, slot := 5, constantValue := 0 }, { name := "POWER_4", type := .int, accessFlags := 26, slot := 6, constantValue := 0 }, { name := "POWER_5", type := .int, accessFlags := 26, slot := 7, constantValue := 0 }, { name := "POWER_6", type := .int, accessFlags := 26, slot := 8, constantValue := 0 }, { name := "POWER_7", type := .int, accessFlags := 26, slot := 9, constantValue := 0 }, { name := "POWER_8", type := .int, accessFlags := 26, slot := 10, constantValue := 0 }, { name := "buckets", type := .int, accessFlags := 18, slot := 2, constantValue := 0 }, { name := "mask", type := .int, accessFlags := 18, slot := 3, constantValue := 0 }, { name := "overflow", type := .int, accessFlags := 18, slot := 4, constantValue := 0 }]
  methods := #[k4m0, k4m1, k4m2]
  instanceTypes := #[(.object "java/lang/String"), (.array .byte), .int, .int, .int]
  staticTypes := #[(.object "java/lang/String"), .int, .int, .int, .int, .int, .int, .int, .int, .int, .int]
  resolved := Array.replicate 145 none
  statics := none }

def pool5 : Array CpInfo := pool [(1, .class_ 2), (0, u "java/io/Serializable"), (0, .class_ 4), (0, u "java/lang/Object")] 2

/-- java/io/Serializable -/
def k5 : Class := { plain "java/io/Serializable" (some 0) with
  accessFlags := 1537
  interfaces := #[]
  cf := some (fileOf pool5 1 #[] #[] 1537 3 #[] #[])
  fields := #[]
  methods := #[]
  instanceTypes := #[]
  staticTypes := #[]
  resolved := Array.replicate 7 none
  statics := none }

def pool6 : Array CpInfo := pool [(1, .class_ 2), (0, u "java/lang/Comparable"), (0, .class_ 4), (0, u "java/lang/Object")] 7

/-- java/lang/Comparable -/
def k6 : Class := { plain "java/lang/Comparable" (some 0) with
  accessFlags := 1537
  interfaces := #[]
  cf := some (fileOf pool6 1 #[] #[] 1537 3 #[] #[])
  fields := #[]
  methods := #[]
  instanceTypes := #[]
  staticTypes := #[]
  resolved := Array.replicate 12 none
  statics := none }

def pool7 : Array CpInfo := pool [(2, .class_ 4), (1, u "java/lang/CharSequence"), (42, .class_ 48), (0, u "java/lang/CharSequence$1CodePointIterator"), (10, .class_ 60), (0, u "java/lang/CharSequence$1CharIterator"), (5, .class_ 67), (0, u "java/lang/Object")] 63

/-- java/lang/CharSequence -/
def k7 : Class := { plain "java/lang/CharSequence" (some 0) with
  accessFlags := 1537
  interfaces := #[]
  cf := some (fileOf pool7 2 #[.nestMembers #[47, 59]] #[] 1537 66 #[] #[])
  fields := #[]
  methods := #[]
  instanceTypes := #[]
  staticTypes := #[]
  resolved := Array.replicate 131 none
  statics := none }

def pool8 : Array CpInfo := pool [(1, .class_ 2), (0, u "java/lang/constant/Constable"), (0, .class_ 4), (0, u "java/lang/Object")] 6

/-- java/lang/constant/Constable -/
def k8 : Class := { plain "java/lang/constant/Constable" (some 0) with
  accessFlags := 1537
  interfaces := #[]
  cf := some (fileOf pool8 1 #[] #[] 1537 3 #[] #[])
  fields := #[]
  methods := #[]
  instanceTypes := #[]
  staticTypes := #[]
  resolved := Array.replicate 11 none
  statics := none }

def pool9 : Array CpInfo := pool [(1, .class_ 2), (0, u "java/lang/constant/ConstantDesc"), (0, .class_ 4), (0, u "java/lang/Object")] 32

/-- java/lang/constant/ConstantDesc -/
def k9 : Class := { plain "java/lang/constant/ConstantDesc" (some 0) with
  accessFlags := 1537
  interfaces := #[]
  cf := some (fileOf pool9 1 #[] #[] 1537 3 #[] #[])
  fields := #[]
  methods := #[]
  instanceTypes := #[]
  staticTypes := #[]
  resolved := Array.replicate 37 none
  statics := none }

def pool10 : Array CpInfo := pool [(1, .methodref 2 3), (0, .class_ 4), (0, .nameAndType 5 6), (0, u "java/lang/Object"), (0, u "<init>"), (0, u "()V"), (2, .fieldref 10 11), (0, .class_ 12), (0, .nameAndType 13 14), (0, u "java/lang/String"), (0, u "value"), (0, u "[B"), (0, .fieldref 10 16), (0, .nameAndType 17 18), (0, u "coder"), (0, u "B"), (2, u "hash"), (0, u "I"), (2, u "hashIsZero"), (0, u "Z"), (0, .methodref 10 28), (0, .nameAndType 5 29), (0, u "([CIILjava/lang/Void;)V"), (8, .fieldref 10 39), (0, .nameAndType 40 26), (0, u "COMPACT_STRINGS"), (1, .class_ 44), (1, u "java/lang/StringUTF16"), (0, u "compress"), (1, .methodref 42 48), (0, .nameAndType 49 50), (0, u "coderFromArrayLen"), (0, u "([BI)B"), (9, .methodref 42 61), (0, .nameAndType 62 63), (0, u "newBytesFor"), (0, u "(I)[B"), (22, .fieldref 87 88), (0, .class_ 89), (0, .nameAndType 90 91), (0, u "sun/nio/cs/UTF_8"), (0, u "INSTANCE"), (0, u "Lsun/nio/cs/UTF_8;"), (1, .class_ 95), (1, u "java/lang/StringCoding"), (32, .methodref 93 129), (0, .nameAndType 130 131), (0, u "hasNegatives"), (0, u "([BII)Z"), (45, .methodref 42 178), (0, .nameAndType 45 179), (0, u "([CII)[B"), (72, .methodref 10 253), (0, .nameAndType 254 255), (0, u "encodeUTF8"), (0, u "(B[BZ)[B"), (23, .methodref 280 281), (0, .class_ 14), (0, .nameAndType 282 283), (0, u "clone"), (0, u "()Ljava/lang/Object;"), (33, u "encode"), (17, .methodref 10 336), (0, .nameAndType 17 337), (0, u "()B"), (194, u "getBytes"), (2, .methodref 10 536), (0, .nameAndType 317 537), (0, u "(Ljava/nio/charset/Charset;B[B)[B"), (37, .class_ 576), (0, u "java/lang/CharSequence"), (22, u "CASE_INSENSITIVE_ORDER"), (0, u "Ljava/util/Comparator;"), (409, u "([C)V"), (90, u "serialPersistentFields"), (0, u "[Ljava/io/ObjectStreamField;"), (0, .class_ 1104), (0, u "java/lang/String$CaseInsensitiveComparator"), (1, .class_ 1107), (0, u "java/io/Serializable"), (0, .class_ 1109), (0, u "java/lang/Comparable"), (0, .class_ 1111), (0, u "java/lang/constant/Constable"), (0, .class_ 1113), (0, u "java/lang/constant/ConstantDesc"), (2, u "serialVersionUID"), (0, u "J"), (3, u "REPL"), (0, u "C"), (2, u "LATIN1"), (1, u "UTF16"), (117, u "(Ljava/nio/charset/Charset;)[B")] 205

def k10m0 : Method := { name := "<init>", desc := "()V", sig := { parameters := [], returnType := none }, accessFlags := 1, code := none }
def k10c1 : Code := { maxStack := 5, maxLocals := 2, code := jdk_42_method_3_code, exceptionTable := #[], attributes := #[] }
def k10m1 : Method := { name := "<init>", desc := "([C)V", sig := { parameters := [(.array .char)], returnType := none }, accessFlags := 1, code := some k10c1 }
def k10c2 : Code := { maxStack := 4, maxLocals := 3, code := jdk_42_method_18_code, exceptionTable := #[], attributes := #[] }
def k10m2 : Method := { name := "encode", desc := "(Ljava/nio/charset/Charset;B[B)[B", sig := { parameters := [(.object "java/nio/charset/Charset"), .byte, (.array .byte)], returnType := some (.array .byte) }, accessFlags := 10, code := some k10c2 }
def k10c3 : Code := { maxStack := 5, maxLocals := 9, code := jdk_42_method_46_code, exceptionTable := #[], attributes := #[] }
def k10m3 : Method := { name := "encodeUTF8", desc := "(B[BZ)[B", sig := { parameters := [.byte, (.array .byte), .boolean], returnType := some (.array .byte) }, accessFlags := 10, code := some k10c3 }
def k10c4 : Code := { maxStack := 3, maxLocals := 2, code := jdk_42_method_64_code, exceptionTable := #[], attributes := #[] }
def k10m4 : Method := { name := "getBytes", desc := "(Ljava/nio/charset/Charset;)[B", sig := { parameters := [(.object "java/nio/charset/Charset")], returnType := some (.array .byte) }, accessFlags := 1, code := some k10c4 }
def k10c5 : Code := { maxStack := 4, maxLocals := 6, code := jdk_42_method_149_code, exceptionTable := #[], attributes := #[] }
def k10m5 : Method := { name := "<init>", desc := "([CIILjava/lang/Void;)V", sig := { parameters := [(.array .char), .int, .int, (.object "java/lang/Void")], returnType := none }, accessFlags := 2, code := some k10c5 }
def k10c6 : Code := { maxStack := 1, maxLocals := 1, code := jdk_42_method_152_code, exceptionTable := #[], attributes := #[] }
def k10m6 : Method := { name := "coder", desc := "()B", sig := { parameters := [], returnType := some .byte }, accessFlags := 0, code := some k10c6 }
/-- java/lang/String -/
def k10 : Class := { plain "java/lang/String" (some 0) with
  accessFlags := 49
  interfaces := #[5, 6, 7, 8, 9]
  cf := some (fileOf pool10 10 #[.nestMembers #[1103]] #[{ accessFlags := 1, nameIndex := 5, descriptorIndex := 6, attributes := #[] }, { accessFlags := 1, nameIndex := 5, descriptorIndex := 1010, attributes := #[] }, { accessFlags := 10, nameIndex := 317, descriptorIndex := 537, attributes := #[] }, { accessFlags := 10, nameIndex := 254, descriptorIndex := 255, attributes := #[] }, { accessFlags := 1, nameIndex := 532, descriptorIndex := 1245, attributes := #[] }, { accessFlags := 2, nameIndex := 5, descriptorIndex := 29, attributes := #[] }, { accessFlags := 0, nameIndex := 17, descriptorIndex := 337, attributes := #[] }] 49 2 #[1106, 1108, 575, 1110, 1112] #[{ accessFlags := 18, nameIndex := 13, descriptorIndex := 14, attributes := #[] }, { accessFlags := 18, nameIndex := 17, descriptorIndex := 18, attributes := #[] }, { accessFlags := 2, nameIndex := 21, descriptorIndex := 22, attributes := #[] }, { accessFlags := 2, nameIndex := 25, descriptorIndex := 26, attributes := #[] }, { accessFlags := 26, nameIndex := 1116, descriptorIndex := 1117, attributes := #[] }, { accessFlags := 24, nameIndex := 40, descriptorIndex := 26, attributes := #[] }, { accessFlags := 26, nameIndex := 1101, descriptorIndex := 1102, attributes := #[] }, { accessFlags := 26, nameIndex := 1121, descriptorIndex := 1122, attributes := #[] }, { accessFlags := 25, nameIndex := 599, descriptorIndex := 600, attributes := #[] }, { accessFlags := 24, nameIndex := 1125, descriptorIndex := 18, attributes := #[] }, { accessFlags := 24, nameIndex := 1127, descriptorIndex := 18, attributes := #[] }])
  fields := #[{ name := "value", type := (.array .byte), accessFlags := 18, slot := 0, constantValue := 0 }, { name := "coder", type := .byte, accessFlags := 18, slot := 1, constantValue := 0 }, { name := "hash", type := .int, accessFlags := 2, slot := 2, constantValue := 0 }, { name := "hashIsZero", type := .boolean, accessFlags := 2, slot := 3, constantValue := 0 }, { name := "serialVersionUID", type := .long, accessFlags := 26, slot := 0, constantValue := 0 }, { name := "COMPACT_STRINGS", type := .boolean, accessFlags := 24, slot := 1, constantValue := 0 }, { name := "serialPersistentFields", type := (.array (.object "java/io/ObjectStreamField")), accessFlags := 26, slot := 2, constantValue := 0 }, { name := "REPL", type := .char, accessFlags := 26, slot := 3, constantValue := 0 }, { name := "CASE_INSENSITIVE_ORDER", type := (.object "java/util/Comparator"), accessFlags := 25, slot := 4, constantValue := 0 }, { name := "LATIN1", type := .byte, accessFlags := 24, slot := 5, constantValue := 0 }, { name := "UTF16", type := .byte, accessFlags := 24, slot := 6, constantValue := 0 }]
  methods := #[k10m0, k10m1, k10m2, k10m3, k10m4, k10m5, k10m6]
  instanceTypes := #[(.array .byte), .byte, .int, .boolean]
  staticTypes := #[.long, .boolean, (.array (.object "java/io/ObjectStreamField")), .char, (.object "java/util/Comparator"), .byte, .byte]
  resolved := Array.replicate 1451 none
  statics := some 0 }

def pool11 : Array CpInfo := pool [(6, .class_ 8), (1, u "java/lang/Object"), (0, u "<init>"), (0, u "()V"), (0, .methodref 12 13), (0, .class_ 14), (0, .nameAndType 15 16), (0, u "java/lang/StringUTF16"), (0, u "newBytesLength"), (0, u "(I)I"), (3, .integer 1073741823), (25, u "$assertionsDisabled"), (0, u "Z"), (13, u "HI_BYTE_SHIFT"), (0, u "I"), (2, u "LO_BYTE_SHIFT"), (43, u "newBytesFor"), (0, u "(I)[B"), (4, .methodref 12 116), (0, .nameAndType 117 118), (0, u "compress"), (0, u "([CI[BII)I"), (3, u "([CII)[B"), (138, u "coderFromArrayLen"), (0, u "([BI)B"), (106, .class_ 371), (1, u "java/lang/StringUTF16$LinesSpliterator"), (58, u "MAX_LENGTH"), (196, .class_ 628), (0, u "java/lang/StringUTF16$CodePointsSpliterator"), (0, .class_ 630), (0, u "java/lang/StringUTF16$CharsSpliterator")] 4

def k11m0 : Method := { name := "<init>", desc := "()V", sig := { parameters := [], returnType := none }, accessFlags := 0, code := none }
def k11c1 : Code := { maxStack := 1, maxLocals := 1, code := jdk_52_method_2_code, exceptionTable := #[], attributes := #[] }
def k11m1 : Method := { name := "newBytesFor", desc := "(I)[B", sig := { parameters := [.int], returnType := some (.array .byte) }, accessFlags := 9, code := some k11c1 }
def k11c2 : Code := { maxStack := 4, maxLocals := 1, code := jdk_52_method_3_code, exceptionTable := #[], attributes := #[] }
def k11m2 : Method := { name := "newBytesLength", desc := "(I)I", sig := { parameters := [.int], returnType := some .int }, accessFlags := 9, code := some k11c2 }
def k11c3 : Code := { maxStack := 2, maxLocals := 2, code := jdk_52_method_15_code, exceptionTable := #[], attributes := #[] }
def k11m3 : Method := { name := "coderFromArrayLen", desc := "([BI)B", sig := { parameters := [(.array .byte), .int], returnType := some .byte }, accessFlags := 8, code := some k11c3 }
def k11c4 : Code := { maxStack := 5, maxLocals := 6, code := jdk_52_method_16_code, exceptionTable := #[], attributes := #[] }
def k11m4 : Method := { name := "compress", desc := "([CII)[B", sig := { parameters := [(.array .char), .int, .int], returnType := some (.array .byte) }, accessFlags := 9, code := some k11c4 }
def k11c5 : Code := { maxStack := 3, maxLocals := 7, code := jdk_52_method_21_code, exceptionTable := #[], attributes := #[] }
def k11m5 : Method := { name := "compress", desc := "([CI[BII)I", sig := { parameters := [(.array .char), .int, (.array .byte), .int, .int], returnType := some .int }, accessFlags := 9, code := some k11c5 }
/-- java/lang/StringUTF16 -/
def k11 : Class := { plain "java/lang/StringUTF16" (some 0) with
  accessFlags := 48
  interfaces := #[]
  cf := some (fileOf pool11 12 #[.nestMembers #[627, 629, 369]] #[{ accessFlags := 0, nameIndex := 9, descriptorIndex := 10, attributes := #[] }, { accessFlags := 9, nameIndex := 109, descriptorIndex := 110, attributes := #[] }, { accessFlags := 9, nameIndex := 15, descriptorIndex := 16, attributes := #[] }, { accessFlags := 8, nameIndex := 261, descriptorIndex := 262, attributes := #[] }, { accessFlags := 9, nameIndex := 117, descriptorIndex := 122, attributes := #[] }, { accessFlags := 9, nameIndex := 117, descriptorIndex := 118, attributes := #[] }] 48 6 #[] #[{ accessFlags := 26, nameIndex := 61, descriptorIndex := 62, attributes := #[] }, { accessFlags := 26, nameIndex := 65, descriptorIndex := 62, attributes := #[] }, { accessFlags := 24, nameIndex := 430, descriptorIndex := 62, attributes := #[] }, { accessFlags := 4120, nameIndex := 46, descriptorIndex := 47, attributes := #[] }])
  fields := #[{ name := "HI_BYTE_SHIFT", type := .int, accessFlags := 26, slot := 0, constantValue := 0 }, { name := "LO_BYTE_SHIFT", type := .int, accessFlags := 26, slot := 1, constantValue := 0 }, { name := "MAX_LENGTH", type := .int, accessFlags := 24, slot := 2, constantValue := 0 }, { name := "$assertionsDisabled", type := .boolean, accessFlags := 4120, slot := 3, constantValue := 0 }]
  methods := #[k11m0, k11m1, k11m2, k11m3, k11m4, k11m5]
  instanceTypes := #[]
  staticTypes := #[.int, .int, .int, .boolean]
  resolved := Array.replicate 635 none
  statics := none }

def pool12 : Array CpInfo := pool [(2, .class_ 4), (1, u "java/lang/Object"), (0, u "<init>"), (0, u "()V"), (35, .class_ 44), (1, u "java/util/Objects"), (0, u "requireNonNull"), (48, u "(Ljava/lang/Object;Ljava/lang/String;)Ljava/lang/Object;")] 89

def k12m0 : Method := { name := "<init>", desc := "()V", sig := { parameters := [], returnType := none }, accessFlags := 2, code := none }
def k12c1 : Code := { maxStack := 3, maxLocals := 2, code := jdk_31_method_11_code, exceptionTable := #[], attributes := #[] }
def k12m1 : Method := { name := "requireNonNull", desc := "(Ljava/lang/Object;Ljava/lang/String;)Ljava/lang/Object;", sig := { parameters := [(.object "java/lang/Object"), (.object "java/lang/String")], returnType := some (.object "java/lang/Object") }, accessFlags := 9, code := some k12c1 }
/-- java/util/Objects -/
def k12 : Class := { plain "java/util/Objects" (some 0) with
  accessFlags := 49
  interfaces := #[]
  cf := some (fileOf pool12 42 #[] #[{ accessFlags := 2, nameIndex := 5, descriptorIndex := 6, attributes := #[] }, { accessFlags := 9, nameIndex := 45, descriptorIndex := 94, attributes := #[] }] 49 2 #[] #[])
  fields := #[]
  methods := #[k12m0, k12m1]
  instanceTypes := #[]
  staticTypes := #[]
  resolved := Array.replicate 184 none
  statics := none }

def pool13 : Array CpInfo := pool [(2, .class_ 4), (1, u "java/lang/Object"), (0, u "<init>"), (0, u "()V"), (14, .class_ 23), (1, u "java/nio/charset/StandardCharsets"), (0, u "US_ASCII"), (0, u "Ljava/nio/charset/Charset;"), (7, u "ISO_8859_1"), (7, u "UTF_8"), (5, u "UTF_16BE"), (5, u "UTF_16LE"), (5, u "UTF_16")] 8

def k13m0 : Method := { name := "<init>", desc := "()V", sig := { parameters := [], returnType := none }, accessFlags := 2, code := none }
/-- java/nio/charset/StandardCharsets -/
def k13 : Class := { plain "java/nio/charset/StandardCharsets" (some 0) with
  accessFlags := 49
  interfaces := #[]
  cf := some (fileOf pool13 21 #[] #[{ accessFlags := 2, nameIndex := 5, descriptorIndex := 6, attributes := #[] }] 49 2 #[] #[{ accessFlags := 25, nameIndex := 24, descriptorIndex := 25, attributes := #[] }, { accessFlags := 25, nameIndex := 33, descriptorIndex := 25, attributes := #[] }, { accessFlags := 25, nameIndex := 41, descriptorIndex := 25, attributes := #[] }, { accessFlags := 25, nameIndex := 47, descriptorIndex := 25, attributes := #[] }, { accessFlags := 25, nameIndex := 53, descriptorIndex := 25, attributes := #[] }, { accessFlags := 25, nameIndex := 59, descriptorIndex := 25, attributes := #[] }])
  fields := #[{ name := "US_ASCII", type := (.object "java/nio/charset/Charset"), accessFlags := 25, slot := 0, constantValue := 0 }, { name := "ISO_8859_1", type := (.object "java/nio/charset/Charset"), accessFlags := 25, slot := 1, constantValue := 0 }, { name := "UTF_8", type := (.object "java/nio/charset/Charset"), accessFlags := 25, slot := 2, constantValue := 0 }, { name := "UTF_16BE", type := (.object "java/nio/charset/Charset"), accessFlags := 25, slot := 3, constantValue := 0 }, { name := "UTF_16LE", type := (.object "java/nio/charset/Charset"), accessFlags := 25, slot := 4, constantValue := 0 }, { name := "UTF_16", type := (.object "java/nio/charset/Charset"), accessFlags := 25, slot := 5, constantValue := 0 }]
  methods := #[k13m0]
  instanceTypes := #[]
  staticTypes := #[(.object "java/nio/charset/Charset"), (.object "java/nio/charset/Charset"), (.object "java/nio/charset/Charset"), (.object "java/nio/charset/Charset"), (.object "java/nio/charset/Charset"), (.object "java/nio/charset/Charset")]
  resolved := Array.replicate 68 none
  statics := some 1 }

def pool14 : Array CpInfo := pool [(18, .class_ 20), (1, u "java/nio/charset/Charset"), (0, u "cache1"), (0, u "[Ljava/lang/Object;"), (2, u "cache2"), (0, .class_ 27), (0, u "java/lang/Object"), (0, .class_ 29), (0, u "java/nio/charset/Charset$1"), (4, .class_ 36), (1, u "java/nio/charset/Charset$ThreadTrackHolder"), (21, .class_ 59), (0, u "java/nio/charset/Charset$2"), (11, .class_ 73), (1, u "java/nio/charset/Charset$ExtendedProviderHolder"), (22, u "standardProvider"), (0, u "Ljava/nio/charset/spi/CharsetProvider;"), (29, u "name"), (7, .class_ 136), (0, u "java/nio/charset/Charset$3"), (5, u "defaultCharset"), (0, u "Ljava/nio/charset/Charset;"), (14, u "zeroAliases"), (0, u "[Ljava/lang/String;"), (29, u "Ljava/lang/String;"), (2, u "aliases"), (2, u "aliasSet"), (0, u "Ljava/util/Set;"), (82, .class_ 280), (0, u "java/lang/Comparable"), (84, .class_ 366), (0, u "java/nio/charset/Charset$ExtendedProviderHolder$1")] 3

/-- java/nio/charset/Charset -/
def k14 : Class := { plain "java/nio/charset/Charset" (some 0) with
  accessFlags := 1057
  interfaces := #[6]
  cf := some (fileOf pool14 18 #[.nestMembers #[71, 365, 34, 135, 58, 28]] #[] 1057 26 #[279] #[{ accessFlags := 26, nameIndex := 96, descriptorIndex := 97, attributes := #[] }, { accessFlags := 26, nameIndex := 158, descriptorIndex := 159, attributes := #[] }, { accessFlags := 74, nameIndex := 21, descriptorIndex := 22, attributes := #[] }, { accessFlags := 74, nameIndex := 25, descriptorIndex := 22, attributes := #[] }, { accessFlags := 10, nameIndex := 142, descriptorIndex := 143, attributes := #[] }, { accessFlags := 18, nameIndex := 127, descriptorIndex := 189, attributes := #[] }, { accessFlags := 18, nameIndex := 192, descriptorIndex := 159, attributes := #[] }, { accessFlags := 2, nameIndex := 195, descriptorIndex := 196, attributes := #[] }])
  fields := #[{ name := "standardProvider", type := (.object "java/nio/charset/spi/CharsetProvider"), accessFlags := 26, slot := 0, constantValue := 0 }, { name := "zeroAliases", type := (.array (.object "java/lang/String")), accessFlags := 26, slot := 1, constantValue := 0 }, { name := "cache1", type := (.array (.object "java/lang/Object")), accessFlags := 74, slot := 2, constantValue := 0 }, { name := "cache2", type := (.array (.object "java/lang/Object")), accessFlags := 74, slot := 3, constantValue := 0 }, { name := "defaultCharset", type := (.object "java/nio/charset/Charset"), accessFlags := 10, slot := 4, constantValue := 0 }, { name := "name", type := (.object "java/lang/String"), accessFlags := 18, slot := 0, constantValue := 0 }, { name := "aliases", type := (.array (.object "java/lang/String")), accessFlags := 18, slot := 1, constantValue := 0 }, { name := "aliasSet", type := (.object "java/util/Set"), accessFlags := 2, slot := 2, constantValue := 0 }]
  methods := #[]
  instanceTypes := #[(.object "java/lang/String"), (.array (.object "java/lang/String")), (.object "java/util/Set")]
  staticTypes := #[(.object "java/nio/charset/spi/CharsetProvider"), (.array (.object "java/lang/String")), (.array (.object "java/lang/Object")), (.array (.object "java/lang/Object")), (.object "java/nio/charset/Charset")]
  resolved := Array.replicate 370 none
  statics := none }

def pool15 : Array CpInfo := pool [(1, .class_ 2), (0, u "sun/nio/cs/HistoricallyNamedCharset"), (0, .class_ 4), (0, u "java/lang/Object")] 4

/-- sun/nio/cs/HistoricallyNamedCharset -/
def k15 : Class := { plain "sun/nio/cs/HistoricallyNamedCharset" (some 0) with
  accessFlags := 1537
  interfaces := #[]
  cf := some (fileOf pool15 1 #[] #[] 1537 3 #[] #[])
  fields := #[]
  methods := #[]
  instanceTypes := #[]
  staticTypes := #[]
  resolved := Array.replicate 9 none
  statics := none }

def pool16 : Array CpInfo := pool [(2, .class_ 4), (1, u "java/nio/charset/Charset"), (130, .class_ 136), (0, u "sun/nio/cs/Unicode"), (0, .class_ 138), (0, u "sun/nio/cs/HistoricallyNamedCharset")] 15

/-- sun/nio/cs/Unicode -/
def k16 : Class := { plain "sun/nio/cs/Unicode" (some 14) with
  accessFlags := 1056
  interfaces := #[15]
  cf := some (fileOf pool16 135 #[] #[] 1056 2 #[137] #[])
  fields := #[]
  methods := #[]
  instanceTypes := #[(.object "java/lang/String"), (.array (.object "java/lang/String")), (.object "java/util/Set")]
  staticTypes := #[]
  resolved := Array.replicate 154 none
  statics := none }

def pool17 : Array CpInfo := pool [(10, .class_ 12), (1, u "sun/nio/cs/Unicode"), (0, u "<init>"), (3, .class_ 18), (0, u "sun/nio/cs/UTF_8$Decoder"), (3, .class_ 23), (0, u "sun/nio/cs/UTF_8$Encoder"), (15, .class_ 40), (0, u "sun/nio/cs/UTF_8"), (2, u "()V"), (2, u "INSTANCE"), (0, u "Lsun/nio/cs/UTF_8;"), (8, u "JLA"), (0, u "Ljdk/internal/access/JavaLangAccess;")] 26

def k17m0 : Method := { name := "<init>", desc := "()V", sig := { parameters := [], returnType := none }, accessFlags := 1, code := none }
/-- sun/nio/cs/UTF_8 -/
def k17 : Class := { plain "sun/nio/cs/UTF_8" (some 16) with
  accessFlags := 49
  interfaces := #[]
  cf := some (fileOf pool17 39 #[.nestMembers #[22, 17]] #[{ accessFlags := 1, nameIndex := 13, descriptorIndex := 43, attributes := #[] }] 49 10 #[] #[{ accessFlags := 25, nameIndex := 46, descriptorIndex := 47, attributes := #[] }, { accessFlags := 26, nameIndex := 56, descriptorIndex := 57, attributes := #[] }])
  fields := #[{ name := "INSTANCE", type := (.object "sun/nio/cs/UTF_8"), accessFlags := 25, slot := 0, constantValue := 0 }, { name := "JLA", type := (.object "jdk/internal/access/JavaLangAccess"), accessFlags := 26, slot := 1, constantValue := 0 }]
  methods := #[k17m0]
  instanceTypes := #[(.object "java/lang/String"), (.array (.object "java/lang/String")), (.object "java/util/Set")]
  staticTypes := #[(.object "sun/nio/cs/UTF_8"), (.object "jdk/internal/access/JavaLangAccess")]
  resolved := Array.replicate 84 none
  statics := some 2 }

def pool18 : Array CpInfo := pool [(2, .class_ 4), (1, u "java/lang/Object"), (0, u "<init>"), (0, u "()V"), (0, .methodref 8 9), (0, .class_ 10), (0, .nameAndType 11 12), (0, u "java/lang/StringCoding"), (0, u "countPositives"), (0, u "([BII)I"), (11, u "hasNegatives"), (0, u "([BII)Z")] 23

def k18m0 : Method := { name := "<init>", desc := "()V", sig := { parameters := [], returnType := none }, accessFlags := 2, code := none }
def k18c1 : Code := { maxStack := 3, maxLocals := 3, code := jdk_123_method_2_code, exceptionTable := #[], attributes := #[] }
def k18m1 : Method := { name := "hasNegatives", desc := "([BII)Z", sig := { parameters := [(.array .byte), .int, .int], returnType := some .boolean }, accessFlags := 9, code := some k18c1 }
def k18c2 : Code := { maxStack := 2, maxLocals := 5, code := jdk_123_method_3_code, exceptionTable := #[], attributes := #[] }
def k18m2 : Method := { name := "countPositives", desc := "([BII)I", sig := { parameters := [(.array .byte), .int, .int], returnType := some .int }, accessFlags := 9, code := some k18c2 }
/-- java/lang/StringCoding -/
def k18 : Class := { plain "java/lang/StringCoding" (some 0) with
  accessFlags := 32
  interfaces := #[]
  cf := some (fileOf pool18 8 #[] #[{ accessFlags := 2, nameIndex := 5, descriptorIndex := 6, attributes := #[] }, { accessFlags := 9, nameIndex := 24, descriptorIndex := 25, attributes := #[] }, { accessFlags := 9, nameIndex := 11, descriptorIndex := 12, attributes := #[] }] 32 2 #[] #[])
  fields := #[]
  methods := #[k18m0, k18m1, k18m2]
  instanceTypes := #[]
  staticTypes := #[]
  resolved := Array.replicate 49 none
  statics := none }

def pool19 : Array CpInfo := pool [(1, .class_ 2), (0, u "java/lang/Cloneable"), (0, .class_ 4), (0, u "java/lang/Object")] 2

/-- java/lang/Cloneable -/
def k19 : Class := { plain "java/lang/Cloneable" (some 0) with
  accessFlags := 1537
  interfaces := #[]
  cf := some (fileOf pool19 1 #[] #[] 1537 3 #[] #[])
  fields := #[]
  methods := #[]
  instanceTypes := #[]
  staticTypes := #[]
  resolved := Array.replicate 7 none
  statics := none }

def pool20 : Array CpInfo := pool [(2, .class_ 4), (1, u "java/lang/Object"), (0, u "<init>"), (0, u "()V"), (1, .class_ 10), (1, u "java/lang/Number"), (2, .class_ 14), (0, u "java/io/Serializable"), (0, u "serialVersionUID"), (0, u "J")] 20

def k20m0 : Method := { name := "<init>", desc := "()V", sig := { parameters := [], returnType := none }, accessFlags := 1, code := none }
/-- java/lang/Number -/
def k20 : Class := { plain "java/lang/Number" (some 0) with
  accessFlags := 1057
  interfaces := #[5]
  cf := some (fileOf pool20 8 #[] #[{ accessFlags := 1, nameIndex := 5, descriptorIndex := 6, attributes := #[] }] 1057 2 #[13] #[{ accessFlags := 26, nameIndex := 15, descriptorIndex := 16, attributes := #[] }])
  fields := #[{ name := "serialVersionUID", type := .long, accessFlags := 26, slot := 0, constantValue := 0 }]
  methods := #[k20m0]
  instanceTypes := #[]
  staticTypes := #[.long]
  resolved := Array.replicate 37 none
  statics := none }

def pool21 : Array CpInfo := pool [(1, .class_ 2), (0, u "java/lang/Integer"), (16, u "digits"), (0, u "[C"), (33, u "(I)I"), (30, u "DigitOnes"), (0, u "[B"), (2, u "DigitTens"), (99, .class_ 190), (0, u "java/lang/Integer$IntegerCache"), (3, u "I"), (8, .class_ 204), (0, u "java/lang/Number"), (2, u "value"), (57, .integer 1431655765), (0, .integer 858993459), (0, .integer 252645135), (34, u "TYPE"), (0, u "Ljava/lang/Class;"), (0, .class_ 305), (0, u "java/lang/Comparable"), (0, .class_ 307), (0, u "java/lang/constant/Constable"), (0, .class_ 309), (0, u "java/lang/constant/ConstantDesc"), (0, u "MIN_VALUE"), (1, u "MAX_VALUE"), (3, u "SIZE"), (1, u "BYTES"), (1, u "serialVersionUID"), (0, u "J"), (85, u "bitCount")] 45

def k21c0 : Code := { maxStack := 3, maxLocals := 1, code := jdk_33_method_49_code, exceptionTable := #[], attributes := #[] }
def k21m0 : Method := { name := "bitCount", desc := "(I)I", sig := { parameters := [.int], returnType := some .int }, accessFlags := 9, code := some k21c0 }
/-- java/lang/Integer -/
def k21 : Class := { plain "java/lang/Integer" (some 20) with
  accessFlags := 49
  interfaces := #[6, 8, 9]
  cf := some (fileOf pool21 1 #[.nestMembers #[189]] #[{ accessFlags := 9, nameIndex := 407, descriptorIndex := 54, attributes := #[] }] 49 203 #[304, 306, 308] #[{ accessFlags := 25, nameIndex := 310, descriptorIndex := 194, attributes := #[] }, { accessFlags := 25, nameIndex := 312, descriptorIndex := 194, attributes := #[] }, { accessFlags := 25, nameIndex := 302, descriptorIndex := 303, attributes := #[] }, { accessFlags := 24, nameIndex := 19, descriptorIndex := 20, attributes := #[] }, { accessFlags := 24, nameIndex := 89, descriptorIndex := 86, attributes := #[] }, { accessFlags := 24, nameIndex := 85, descriptorIndex := 86, attributes := #[] }, { accessFlags := 18, nameIndex := 207, descriptorIndex := 194, attributes := #[] }, { accessFlags := 25, nameIndex := 316, descriptorIndex := 194, attributes := #[] }, { accessFlags := 25, nameIndex := 318, descriptorIndex := 194, attributes := #[] }, { accessFlags := 26, nameIndex := 320, descriptorIndex := 321, attributes := #[] }])
  fields := #[{ name := "MIN_VALUE", type := .int, accessFlags := 25, slot := 0, constantValue := 0 }, { name := "MAX_VALUE", type := .int, accessFlags := 25, slot := 1, constantValue := 0 }, { name := "TYPE", type := (.object "java/lang/Class"), accessFlags := 25, slot := 2, constantValue := 0 }, { name := "digits", type := (.array .char), accessFlags := 24, slot := 3, constantValue := 0 }, { name := "DigitTens", type := (.array .byte), accessFlags := 24, slot := 4, constantValue := 0 }, { name := "DigitOnes", type := (.array .byte), accessFlags := 24, slot := 5, constantValue := 0 }, { name := "value", type := .int, accessFlags := 18, slot := 0, constantValue := 0 }, { name := "SIZE", type := .int, accessFlags := 25, slot := 6, constantValue := 0 }, { name := "BYTES", type := .int, accessFlags := 25, slot := 7, constantValue := 0 }, { name := "serialVersionUID", type := .long, accessFlags := 26, slot := 8, constantValue := 0 }]
  methods := #[k21m0]
  instanceTypes := #[.int]
  staticTypes := #[.int, .int, (.object "java/lang/Class"), (.array .char), (.array .byte), (.array .byte), .int, .int, .long]
  resolved := Array.replicate 453 none
  statics := none }

def pool22 : Array CpInfo := pool [(1, .class_ 2), (0, u "java/lang/Math"), (1, .class_ 6), (1, u "java/lang/Object"), (0, u "<init>"), (0, u "()V"), (89, .class_ 100), (1, u "java/lang/Math$RandomNumberGeneratorHolder"), (23, u "abs"), (34, u "(I)I"), (12, u "negativeZeroFloatBits"), (0, u "J"), (2, u "negativeZeroDoubleBits"), (68, u "$assertionsDisabled"), (0, u "Z"), (91, u "twoToTheDoubleScaleDown"), (0, u "D"), (4, u "twoToTheDoubleScaleUp"), (9, u "E"), (3, u "PI"), (2, u "TAU"), (2, u "DEGREES_TO_RADIANS"), (0, u "RADIANS_TO_DEGREES")] 94

def k22m0 : Method := { name := "<init>", desc := "()V", sig := { parameters := [], returnType := none }, accessFlags := 2, code := none }
def k22c1 : Code := { maxStack := 1, maxLocals := 1, code := jdk_29_method_59_code, exceptionTable := #[], attributes := #[] }
def k22m1 : Method := { name := "abs", desc := "(I)I", sig := { parameters := [.int], returnType := some .int }, accessFlags := 9, code := some k22c1 }
/-- java/lang/Math -/
def k22 : Class := { plain "java/lang/Math" (some 0) with
  accessFlags := 49
  interfaces := #[]
  cf := some (fileOf pool22 1 #[.nestMembers #[98]] #[{ accessFlags := 2, nameIndex := 7, descriptorIndex := 8, attributes := #[] }, { accessFlags := 9, nameIndex := 124, descriptorIndex := 159, attributes := #[] }] 49 4 #[] #[{ accessFlags := 25, nameIndex := 354, descriptorIndex := 339, attributes := #[] }, { accessFlags := 25, nameIndex := 358, descriptorIndex := 339, attributes := #[] }, { accessFlags := 25, nameIndex := 361, descriptorIndex := 339, attributes := #[] }, { accessFlags := 26, nameIndex := 364, descriptorIndex := 339, attributes := #[] }, { accessFlags := 26, nameIndex := 365, descriptorIndex := 339, attributes := #[] }, { accessFlags := 26, nameIndex := 172, descriptorIndex := 173, attributes := #[] }, { accessFlags := 26, nameIndex := 176, descriptorIndex := 173, attributes := #[] }, { accessFlags := 8, nameIndex := 344, descriptorIndex := 339, attributes := #[] }, { accessFlags := 8, nameIndex := 338, descriptorIndex := 339, attributes := #[] }, { accessFlags := 4120, nameIndex := 245, descriptorIndex := 246, attributes := #[] }])
  fields := #[{ name := "E", type := .double, accessFlags := 25, slot := 0, constantValue := 0 }, { name := "PI", type := .double, accessFlags := 25, slot := 1, constantValue := 0 }, { name := "TAU", type := .double, accessFlags := 25, slot := 2, constantValue := 0 }, { name := "DEGREES_TO_RADIANS", type := .double, accessFlags := 26, slot := 3, constantValue := 0 }, { name := "RADIANS_TO_DEGREES", type := .double, accessFlags := 26, slot := 4, constantValue := 0 }, { name := "negativeZeroFloatBits", type := .long, accessFlags := 26, slot := 5, constantValue := 0 }, { name := "negativeZeroDoubleBits", type := .long, accessFlags := 26, slot := 6, constantValue := 0 }, { name := "twoToTheDoubleScaleUp", type := .double, accessFlags := 8, slot := 7, constantValue := 0 }, { name := "twoToTheDoubleScaleDown", type := .double, accessFlags := 8, slot := 8, constantValue := 0 }, { name := "$assertionsDisabled", type := .boolean, accessFlags := 4120, slot := 9, constantValue := 0 }]
  methods := #[k22m0, k22m1]
  instanceTypes := #[]
  staticTypes := #[.double, .double, .double, .double, .double, .long, .long, .double, .double, .boolean]
  resolved := Array.replicate 460 none
  statics := none }

def pool23 : Array CpInfo := pool [(1, .class_ 2), (0, u "java/lang/Byte"), (41, .class_ 46), (1, u "java/lang/Byte$ByteCache"), (51, .class_ 99), (0, u "java/lang/Number"), (2, u "value"), (0, u "B"), (3, u "(B)I"), (10, u "toUnsignedInt"), (16, u "TYPE"), (0, u "Ljava/lang/Class;"), (0, .class_ 138), (0, u "java/lang/Comparable"), (0, .class_ 140), (0, u "java/lang/constant/Constable"), (0, u "MIN_VALUE"), (2, u "MAX_VALUE"), (3, u "SIZE"), (0, u "I"), (1, u "BYTES"), (1, u "serialVersionUID"), (0, u "J")] 58

def k23c0 : Code := { maxStack := 2, maxLocals := 1, code := jdk_2056_method_24_code, exceptionTable := #[], attributes := #[] }
def k23m0 : Method := { name := "toUnsignedInt", desc := "(B)I", sig := { parameters := [.byte], returnType := some .int }, accessFlags := 9, code := some k23c0 }
/-- java/lang/Byte -/
def k23 : Class := { plain "java/lang/Byte" (some 20) with
  accessFlags := 49
  interfaces := #[6, 8]
  cf := some (fileOf pool23 1 #[.nestMembers #[44]] #[{ accessFlags := 9, nameIndex := 118, descriptorIndex := 107, attributes := #[] }] 49 98 #[137, 139] #[{ accessFlags := 25, nameIndex := 141, descriptorIndex := 103, attributes := #[] }, { accessFlags := 25, nameIndex := 144, descriptorIndex := 103, attributes := #[] }, { accessFlags := 25, nameIndex := 135, descriptorIndex := 136, attributes := #[] }, { accessFlags := 18, nameIndex := 102, descriptorIndex := 103, attributes := #[] }, { accessFlags := 25, nameIndex := 148, descriptorIndex := 149, attributes := #[] }, { accessFlags := 25, nameIndex := 151, descriptorIndex := 149, attributes := #[] }, { accessFlags := 26, nameIndex := 153, descriptorIndex := 154, attributes := #[] }])
  fields := #[{ name := "MIN_VALUE", type := .byte, accessFlags := 25, slot := 0, constantValue := 0 }, { name := "MAX_VALUE", type := .byte, accessFlags := 25, slot := 1, constantValue := 0 }, { name := "TYPE", type := (.object "java/lang/Class"), accessFlags := 25, slot := 2, constantValue := 0 }, { name := "value", type := .byte, accessFlags := 18, slot := 0, constantValue := 0 }, { name := "SIZE", type := .int, accessFlags := 25, slot := 3, constantValue := 0 }, { name := "BYTES", type := .int, accessFlags := 25, slot := 4, constantValue := 0 }, { name := "serialVersionUID", type := .long, accessFlags := 26, slot := 5, constantValue := 0 }]
  methods := #[k23m0]
  instanceTypes := #[.byte]
  staticTypes := #[.byte, .byte, (.object "java/lang/Class"), .int, .int, .long]
  resolved := Array.replicate 213 none
  statics := none }

def pool24 : Array CpInfo := pool [(4, .class_ 6), (1, u "java/lang/Object"), (0, u "<init>"), (0, u "()V"), (5, .class_ 16), (1, u "java/lang/StringLatin1"), (104, u "$assertionsDisabled"), (0, u "Z"), (98, .class_ 223), (1, u "java/lang/StringLatin1$LinesSpliterator"), (166, .class_ 391), (0, u "java/lang/StringLatin1$CharsSpliterator")] 3

def k24m0 : Method := { name := "<init>", desc := "()V", sig := { parameters := [], returnType := none }, accessFlags := 0, code := none }
/-- java/lang/StringLatin1 -/
def k24 : Class := { plain "java/lang/StringLatin1" (some 0) with
  accessFlags := 48
  interfaces := #[]
  cf := some (fileOf pool24 14 #[.nestMembers #[390, 221]] #[{ accessFlags := 0, nameIndex := 7, descriptorIndex := 8, attributes := #[] }] 48 4 #[] #[{ accessFlags := 4120, nameIndex := 121, descriptorIndex := 122, attributes := #[] }])
  fields := #[{ name := "$assertionsDisabled", type := .boolean, accessFlags := 4120, slot := 0, constantValue := 0 }]
  methods := #[k24m0]
  instanceTypes := #[]
  staticTypes := #[.boolean]
  resolved := Array.replicate 395 none
  statics := none }

def pool25 : Array CpInfo := pool [(2, .class_ 4), (1, u "java/lang/Object"), (0, u "<init>"), (0, u "()V"), (17, .class_ 26), (1, u "jdk/internal/util/Preconditions"), (28, .class_ 56), (0, u "jdk/internal/util/Preconditions$4"), (57, .class_ 115), (0, u "jdk/internal/util/Preconditions$1"), (7, u "SIOOBE_FORMATTER"), (0, u "Ljava/util/function/BiFunction;"), (0, .class_ 126), (0, u "jdk/internal/util/Preconditions$2"), (3, u "AIOOBE_FORMATTER"), (0, .class_ 132), (0, u "jdk/internal/util/Preconditions$3"), (3, u "IOOBE_FORMATTER")] 57

def k25m0 : Method := { name := "<init>", desc := "()V", sig := { parameters := [], returnType := none }, accessFlags := 1, code := none }
/-- jdk/internal/util/Preconditions -/
def k25 : Class := { plain "jdk/internal/util/Preconditions" (some 0) with
  accessFlags := 33
  interfaces := #[]
  cf := some (fileOf pool25 24 #[.nestMembers #[55, 131, 125, 114]] #[{ accessFlags := 1, nameIndex := 5, descriptorIndex := 6, attributes := #[] }] 33 2 #[] #[{ accessFlags := 25, nameIndex := 123, descriptorIndex := 124, attributes := #[] }, { accessFlags := 25, nameIndex := 130, descriptorIndex := 124, attributes := #[] }, { accessFlags := 25, nameIndex := 136, descriptorIndex := 124, attributes := #[] }])
  fields := #[{ name := "SIOOBE_FORMATTER", type := (.object "java/util/function/BiFunction"), accessFlags := 25, slot := 0, constantValue := 0 }, { name := "AIOOBE_FORMATTER", type := (.object "java/util/function/BiFunction"), accessFlags := 25, slot := 1, constantValue := 0 }, { name := "IOOBE_FORMATTER", type := (.object "java/util/function/BiFunction"), accessFlags := 25, slot := 2, constantValue := 0 }]
  methods := #[k25m0]
  instanceTypes := #[]
  staticTypes := #[(.object "java/util/function/BiFunction"), (.object "java/util/function/BiFunction"), (.object "java/util/function/BiFunction")]
  resolved := Array.replicate 194 none
  statics := some 3 }

def pool26 : Array CpInfo := pool [(9, u "<init>"), (6, .class_ 18), (1, u "java/lang/Object"), (0, u "()V"), (1, .class_ 23), (1, u "jdk/internal/util/ArraysSupport"), (0, u "LOG2_ARRAY_LONG_INDEX_SCALE"), (0, u "I"), (2, u "U"), (0, u "Ljdk/internal/misc/Unsafe;"), (8, u "BIG_ENDIAN"), (0, u "Z"), (8, u "LOG2_BYTE_BIT_SIZE"), (4, u "LOG2_ARRAY_INT_INDEX_SCALE"), (54, u "JLA"), (0, u "Ljdk/internal/access/JavaLangAccess;"), (11, u "LOG2_ARRAY_BOOLEAN_INDEX_SCALE"), (9, u "LOG2_ARRAY_BYTE_INDEX_SCALE"), (5, u "LOG2_ARRAY_CHAR_INDEX_SCALE"), (5, u "LOG2_ARRAY_SHORT_INDEX_SCALE"), (18, u "LOG2_ARRAY_FLOAT_INDEX_SCALE"), (24, u "LOG2_ARRAY_DOUBLE_INDEX_SCALE"), (89, u "T_BOOLEAN"), (2, u "T_CHAR"), (1, u "T_FLOAT"), (1, u "T_DOUBLE"), (1, u "T_BYTE"), (1, u "T_SHORT"), (1, u "T_INT"), (1, u "T_LONG"), (1, u "SOFT_MAX_ARRAY_LENGTH")] 83

def k26m0 : Method := { name := "<init>", desc := "()V", sig := { parameters := [], returnType := none }, accessFlags := 2, code := none }
/-- jdk/internal/util/ArraysSupport -/
def k26 : Class := { plain "jdk/internal/util/ArraysSupport" (some 0) with
  accessFlags := 33
  interfaces := #[]
  cf := some (fileOf pool26 21 #[] #[{ accessFlags := 2, nameIndex := 9, descriptorIndex := 19, attributes := #[] }] 33 16 #[] #[{ accessFlags := 24, nameIndex := 28, descriptorIndex := 29, attributes := #[] }, { accessFlags := 26, nameIndex := 38, descriptorIndex := 39, attributes := #[] }, { accessFlags := 25, nameIndex := 121, descriptorIndex := 25, attributes := #[] }, { accessFlags := 25, nameIndex := 131, descriptorIndex := 25, attributes := #[] }, { accessFlags := 25, nameIndex := 137, descriptorIndex := 25, attributes := #[] }, { accessFlags := 25, nameIndex := 143, descriptorIndex := 25, attributes := #[] }, { accessFlags := 25, nameIndex := 53, descriptorIndex := 25, attributes := #[] }, { accessFlags := 25, nameIndex := 24, descriptorIndex := 25, attributes := #[] }, { accessFlags := 25, nameIndex := 162, descriptorIndex := 25, attributes := #[] }, { accessFlags := 25, nameIndex := 187, descriptorIndex := 25, attributes := #[] }, { accessFlags := 26, nameIndex := 48, descriptorIndex := 25, attributes := #[] }, { accessFlags := 25, nameIndex := 277, descriptorIndex := 25, attributes := #[] }, { accessFlags := 25, nameIndex := 280, descriptorIndex := 25, attributes := #[] }, { accessFlags := 25, nameIndex := 282, descriptorIndex := 25, attributes := #[] }, { accessFlags := 25, nameIndex := 284, descriptorIndex := 25, attributes := #[] }, { accessFlags := 25, nameIndex := 286, descriptorIndex := 25, attributes := #[] }, { accessFlags := 25, nameIndex := 288, descriptorIndex := 25, attributes := #[] }, { accessFlags := 25, nameIndex := 290, descriptorIndex := 25, attributes := #[] }, { accessFlags := 25, nameIndex := 292, descriptorIndex := 25, attributes := #[] }, { accessFlags := 26, nameIndex := 108, descriptorIndex := 109, attributes := #[] }, { accessFlags := 25, nameIndex := 294, descriptorIndex := 25, attributes := #[] }])
  fields := #[{ name := "U", type := (.object "jdk/internal/misc/Unsafe"), accessFlags := 24, slot := 0, constantValue := 0 }, { name := "BIG_ENDIAN", type := .boolean, accessFlags := 26, slot := 1, constantValue := 0 }, { name := "LOG2_ARRAY_BOOLEAN_INDEX_SCALE", type := .int, accessFlags := 25, slot := 2, constantValue := 0 }, { name := "LOG2_ARRAY_BYTE_INDEX_SCALE", type := .int, accessFlags := 25, slot := 3, constantValue := 0 }, { name := "LOG2_ARRAY_CHAR_INDEX_SCALE", type := .int, accessFlags := 25, slot := 4, constantValue := 0 }, { name := "LOG2_ARRAY_SHORT_INDEX_SCALE", type := .int, accessFlags := 25, slot := 5, constantValue := 0 }, { name := "LOG2_ARRAY_INT_INDEX_SCALE", type := .int, accessFlags := 25, slot := 6, constantValue := 0 }, { name := "LOG2_ARRAY_LONG_INDEX_SCALE", type := .int, accessFlags := 25, slot := 7, constantValue := 0 }, { name := "LOG2_ARRAY_FLOAT_INDEX_SCALE", type := .int, accessFlags := 25, slot := 8, constantValue := 0 }, { name := "LOG2_ARRAY_DOUBLE_INDEX_SCALE", type := .int, accessFlags := 25, slot := 9, constantValue := 0 }, { name := "LOG2_BYTE_BIT_SIZE", type := .int, accessFlags := 26, slot := 10, constantValue := 0 }, { name := "T_BOOLEAN", type := .int, accessFlags := 25, slot := 11, constantValue := 0 }, { name := "T_CHAR", type := .int, accessFlags := 25, slot := 12, constantValue := 0 }, { name := "T_FLOAT", type := .int, accessFlags := 25, slot := 13, constantValue := 0 }, { name := "T_DOUBLE", type := .int, accessFlags := 25, slot := 14, constantValue := 0 }, { name := "T_BYTE", type := .int, accessFlags := 25, slot := 15, constantValue := 0 }, { name := "T_SHORT", type := .int, accessFlags := 25, slot := 16, constantValue := 0 }, { name := "T_INT", type := .int, accessFlags := 25, slot := 17, constantValue := 0 }, { name := "T_LONG", type := .int, accessFlags := 25, slot := 18, constantValue := 0 }, { name := "JLA", type := (.object "jdk/internal/access/JavaLangAccess"), accessFlags := 26, slot := 19, constantValue := 0 }, { name := "SOFT_MAX_ARRAY_LENGTH", type := .int, accessFlags := 25, slot := 20, constantValue := 0 }]
  methods := #[k26m0]
  instanceTypes := #[]
  staticTypes := #[(.object "jdk/internal/misc/Unsafe"), .boolean, .int, .int, .int, .int, .int, .int, .int, .int, .int, .int, .int, .int, .int, .int, .int, .int, .int, (.object "jdk/internal/access/JavaLangAccess"), .int]
  resolved := Array.replicate 378 none
  statics := none }

/-- the primitive byte -/
def k27 : Class := { plain "byte" none with kind := .primitive 'B', accessFlags := 0x411 }
/-- [B -/
def k28 : Class := { plain "[B" (some 0) with kind := .array 27 .byte, interfaces := #[19, 5], accessFlags := 1041 }

/-- the primitive char -/
def k29 : Class := { plain "char" none with kind := .primitive 'C', accessFlags := 0x411 }
/-- [C -/
def k30 : Class := { plain "[C" (some 0) with kind := .array 29 .char, interfaces := #[19, 5], accessFlags := 1041 }

/-- the primitive int -/
def k31 : Class := { plain "int" none with kind := .primitive 'I', accessFlags := 0x411 }
/-- [I -/
def k32 : Class := { plain "[I" (some 0) with kind := .array 31 .int, interfaces := #[19, 5], accessFlags := 1041 }

def heap : Heap := #[{ cls := 10, slots := #[.long 0, .int 1, .null, .int 0, .null, .int 0, .int 0], vm := .statics 10 },
  { cls := 13, slots := #[.null, .null, .ref 4, .null, .null, .null], vm := .statics 13 },
  { cls := 17, slots := #[.ref 4, .null], vm := .statics 17 },
  { cls := 25, slots := #[.null, .null, .null], vm := .statics 25 },
  { cls := 17, slots := #[.null, .null, .null], vm := .none }]
def classes : Array Class := #[k0, k1, k2, k3, k4, k5, k6, k7, k8, k9, k10, k11, k12, k13, k14, k15, k16, k17, k18, k19, k20, k21, k22, k23, k24, k25, k26, k27, k28, k29, k30, k31, k32]
def interned : List (Array UInt16 × Addr) := []
def slotsUsed : Nat := 21
def theMethod : MethodId := ⟨1, 1⟩
def args0 : Array Value := #[.int 5, .int 7]
def aboutOver (below : List Frame) : State where
  vm := { classes := classes, interned := interned.toArray }
  heap := heap
  slotsUsed := slotsUsed
  threads := #[{ frames := .invoking theMethod args0 :: below }]
def below0 : List Frame := [.native { method := ⟨0, 0⟩, args := #[] }]
def about1 : State := aboutOver below0
def p0 : Program := .bare "" "" ""
def e0 : Env := launch0.env 0 0 0
theorem w_frames : about1.frames = Frame.invoking theMethod args0 :: below0 := rfl
set_option maxRecDepth 65536 in
theorem w_args : argsFit about1.vm theMethod args0 = true := by decide +kernel
set_option maxRecDepth 65536 in
theorem w_heap : heapFits about1 = true := by decide +kernel
set_option maxRecDepth 65536 in
theorem w_runnable : about1.curStatus? = some .runnable := by decide +kernel
set_option maxRecDepth 65536 in
theorem w_alone : about1.alone = true := by decide +kernel
set_option maxRecDepth 65536 in
theorem w_named : about1.methodNamed? x = some theMethod := by decide +kernel
set_option maxRecDepth 65536 in
theorem w_hears : about1.hears theMethod below0 = true := by decide +kernel
set_option maxRecDepth 65536 in
theorem w_ripe : about1.ripe theMethod args0 below0 = true := by decide +kernel
theorem w_running : about1.status = .running := rfl
set_option maxRecDepth 65536 in
theorem w_room : about1.hasRoom e0.platform room_1 = true :=
  launch0.hasRoom_least _ room_1 (by decide +kernel) (by decide +kernel) (by decide +kernel) (by decide +kernel) (by decide +kernel) (by decide +kernel)
theorem allAtoms_all (ts : List Jvm.Cond) (a : Array Jvm.Value) (st : Jvm.State) : (allAtoms ts).before a st = ts.all (fun c => c.before a st) := by
  induction ts with
  | nil => rfl
  | cons c t ih =>
    show (Jvm.Cond.and c (allAtoms t)).before a st = _
    rw [Jvm.Cond.before_and, ih, List.all_cons]
def words1 : List Jvm.Cond := Jvm.Cond.code x code maxLocals ret :: tables_1
/-- a 'code' word, met by the world's own term for the bytes: nothing is compared byte by byte -/
theorem code_word {y : MethodName} {bytes : ByteArray} {mx : Nat} {rt : Option FieldType} {a : Array Value} {s : State} {m : MethodId} {meth : Method} {c : Code} (h1 : s.methodNamed? y = some m) (h2 : s.vm.method? m = some meth) (h3 : meth.code = some c) (h4 : c.code = bytes)
    (h5 : (c.maxLocals == mx && c.exceptionTable.isEmpty && decide (c.maxStack ≤ mostOperands) && decide (meth.sig.returnType = rt) && !meth.locks && decide (parseMethodDescriptor y.desc = some meth.sig)) = true) : (Jvm.Cond.code y bytes mx rt).before a s = true := by
  simp only [Bool.and_eq_true, beq_iff_eq, Bool.not_eq_true', decide_eq_true_eq] at h5
  obtain ⟨⟨⟨⟨⟨g1, g2⟩, g3⟩, g4⟩, g5⟩, g6⟩ := h5
  simp [Cond.before, Cond.holds, Cond.value, h1, h2, h3, h4, g1, g2, g3, g4, g5, g6]
def isCode : Jvm.Cond → Bool
  | .code _ _ _ _ => true
  | _ => false
theorem all_split {L : List Jvm.Cond} {P : Jvm.Cond → Bool} (h1 : L.all (fun c => isCode c || P c) = true) (h2 : ∀ c ∈ L.filter isCode, P c = true) : L.all P = true := by
  refine List.all_eq_true.mpr fun c hc => ?_
  have h := List.all_eq_true.mp h1 c hc
  rcases Bool.eq_false_or_eq_true (isCode c) with hi | hi
  · exact h2 c (List.mem_filter.mpr ⟨hc, hi⟩)
  · simpa [hi] using h
set_option maxRecDepth 65536 in
theorem w_c0 : (Jvm.Cond.code x code maxLocals ret).before args0 about1 = true := code_word (m := ⟨1, 1⟩) (meth := k1m1) (c := k1c1) (by decide +kernel) rfl rfl rfl (by decide +kernel)
set_option maxRecDepth 65536 in
theorem w_c1 : (Jvm.Cond.code ({ cls := "java/lang/String", name := "<init>", desc := "([C)V" } : Jvm.MethodName) jdk_42_method_3_code (2 : Nat) (Option.none : Option Jvm.ClassFile.FieldType)).before args0 about1 = true := code_word (m := ⟨10, 1⟩) (meth := k10m1) (c := k10c1) (by decide +kernel) rfl rfl rfl (by decide +kernel)
set_option maxRecDepth 65536 in
theorem w_c2 : (Jvm.Cond.code ({ cls := "java/lang/String", name := "<init>", desc := "([CIILjava/lang/Void;)V" } : Jvm.MethodName) jdk_42_method_149_code (6 : Nat) (Option.none : Option Jvm.ClassFile.FieldType)).before args0 about1 = true := code_word (m := ⟨10, 5⟩) (meth := k10m5) (c := k10c5) (by decide +kernel) rfl rfl rfl (by decide +kernel)
set_option maxRecDepth 65536 in
theorem w_c3 : (Jvm.Cond.code ({ cls := "java/lang/Object", name := "<init>", desc := "()V" } : Jvm.MethodName) object_method_1_code (1 : Nat) (Option.none : Option Jvm.ClassFile.FieldType)).before args0 about1 = true := code_word (m := ⟨0, 0⟩) (meth := k0m0) (c := k0c0) (by decide +kernel) rfl rfl rfl (by decide +kernel)
set_option maxRecDepth 65536 in
theorem w_c4 : (Jvm.Cond.code ({ cls := "java/lang/StringUTF16", name := "compress", desc := "([CII)[B" } : Jvm.MethodName) jdk_52_method_16_code (6 : Nat) (Option.some (Jvm.ClassFile.FieldType.array Jvm.ClassFile.FieldType.byte))).before args0 about1 = true := code_word (m := ⟨11, 4⟩) (meth := k11m4) (c := k11c4) (by decide +kernel) rfl rfl rfl (by decide +kernel)
set_option maxRecDepth 65536 in
theorem w_c5 : (Jvm.Cond.code ({ cls := "java/lang/StringUTF16", name := "compress", desc := "([CI[BII)I" } : Jvm.MethodName) jdk_52_method_21_code (7 : Nat) (Option.some Jvm.ClassFile.FieldType.int)).before args0 about1 = true := code_word (m := ⟨11, 5⟩) (meth := k11m5) (c := k11c5) (by decide +kernel) rfl rfl rfl (by decide +kernel)
set_option maxRecDepth 65536 in
theorem w_c6 : (Jvm.Cond.code ({ cls := "java/lang/StringUTF16", name := "coderFromArrayLen", desc := "([BI)B" } : Jvm.MethodName) jdk_52_method_15_code (2 : Nat) (Option.some Jvm.ClassFile.FieldType.byte)).before args0 about1 = true := code_word (m := ⟨11, 3⟩) (meth := k11m3) (c := k11c3) (by decide +kernel) rfl rfl rfl (by decide +kernel)
set_option maxRecDepth 65536 in
theorem w_c7 : (Jvm.Cond.code ({ cls := "com/example/fireweed/fireweed/layout/Java31ByteSalt", name := "<init>", desc := "(ILjava/lang/String;)V" } : Jvm.MethodName) prog_7_method_1_code (3 : Nat) (Option.none : Option Jvm.ClassFile.FieldType)).before args0 about1 = true := code_word (m := ⟨4, 0⟩) (meth := k4m0) (c := k4c0) (by decide +kernel) rfl rfl rfl (by decide +kernel)
set_option maxRecDepth 65536 in
theorem w_c8 : (Jvm.Cond.code ({ cls := "com/example/fireweed/fireweed/layout/BucketSalt", name := "<init>", desc := "(Ljava/lang/String;)V" } : Jvm.MethodName) prog_5_method_1_code (2 : Nat) (Option.none : Option Jvm.ClassFile.FieldType)).before args0 about1 = true := code_word (m := ⟨3, 0⟩) (meth := k3m0) (c := k3c0) (by decide +kernel) rfl rfl rfl (by decide +kernel)
set_option maxRecDepth 65536 in
theorem w_c9 : (Jvm.Cond.code ({ cls := "com/example/fireweed/fireweed/layout/Salt", name := "<init>", desc := "(Ljava/lang/String;)V" } : Jvm.MethodName) prog_11_method_1_code (2 : Nat) (Option.none : Option Jvm.ClassFile.FieldType)).before args0 about1 = true := code_word (m := ⟨2, 0⟩) (meth := k2m0) (c := k2c0) (by decide +kernel) rfl rfl rfl (by decide +kernel)
set_option maxRecDepth 65536 in
theorem w_c10 : (Jvm.Cond.code ({ cls := "java/util/Objects", name := "requireNonNull", desc := "(Ljava/lang/Object;Ljava/lang/String;)Ljava/lang/Object;" } : Jvm.MethodName) jdk_31_method_11_code (2 : Nat) (Option.some (Jvm.ClassFile.FieldType.object "java/lang/Object"))).before args0 about1 = true := code_word (m := ⟨12, 1⟩) (meth := k12m1) (c := k12c1) (by decide +kernel) rfl rfl rfl (by decide +kernel)
set_option maxRecDepth 65536 in
theorem w_c11 : (Jvm.Cond.code ({ cls := "java/lang/String", name := "getBytes", desc := "(Ljava/nio/charset/Charset;)[B" } : Jvm.MethodName) jdk_42_method_64_code (2 : Nat) (Option.some (Jvm.ClassFile.FieldType.array Jvm.ClassFile.FieldType.byte))).before args0 about1 = true := code_word (m := ⟨10, 4⟩) (meth := k10m4) (c := k10c4) (by decide +kernel) rfl rfl rfl (by decide +kernel)
set_option maxRecDepth 65536 in
theorem w_c12 : (Jvm.Cond.code ({ cls := "java/lang/String", name := "coder", desc := "()B" } : Jvm.MethodName) jdk_42_method_152_code (1 : Nat) (Option.some Jvm.ClassFile.FieldType.byte)).before args0 about1 = true := code_word (m := ⟨10, 6⟩) (meth := k10m6) (c := k10c6) (by decide +kernel) rfl rfl rfl (by decide +kernel)
set_option maxRecDepth 65536 in
theorem w_c13 : (Jvm.Cond.code ({ cls := "java/lang/String", name := "encode", desc := "(Ljava/nio/charset/Charset;B[B)[B" } : Jvm.MethodName) jdk_42_method_18_code (3 : Nat) (Option.some (Jvm.ClassFile.FieldType.array Jvm.ClassFile.FieldType.byte))).before args0 about1 = true := code_word (m := ⟨10, 2⟩) (meth := k10m2) (c := k10c2) (by decide +kernel) rfl rfl rfl (by decide +kernel)
set_option maxRecDepth 65536 in
theorem w_c14 : (Jvm.Cond.code ({ cls := "java/lang/String", name := "encodeUTF8", desc := "(B[BZ)[B" } : Jvm.MethodName) jdk_42_method_46_code (9 : Nat) (Option.some (Jvm.ClassFile.FieldType.array Jvm.ClassFile.FieldType.byte))).before args0 about1 = true := code_word (m := ⟨10, 3⟩) (meth := k10m3) (c := k10c3) (by decide +kernel) rfl rfl rfl (by decide +kernel)
set_option maxRecDepth 65536 in
theorem w_c15 : (Jvm.Cond.code ({ cls := "java/lang/StringCoding", name := "hasNegatives", desc := "([BII)Z" } : Jvm.MethodName) jdk_123_method_2_code (3 : Nat) (Option.some Jvm.ClassFile.FieldType.boolean)).before args0 about1 = true := code_word (m := ⟨18, 1⟩) (meth := k18m1) (c := k18c1) (by decide +kernel) rfl rfl rfl (by decide +kernel)
set_option maxRecDepth 65536 in
theorem w_c16 : (Jvm.Cond.code ({ cls := "java/lang/StringCoding", name := "countPositives", desc := "([BII)I" } : Jvm.MethodName) jdk_123_method_3_code (5 : Nat) (Option.some Jvm.ClassFile.FieldType.int)).before args0 about1 = true := code_word (m := ⟨18, 2⟩) (meth := k18m2) (c := k18c2) (by decide +kernel) rfl rfl rfl (by decide +kernel)
set_option maxRecDepth 65536 in
theorem w_c17 : (Jvm.Cond.code ({ cls := "java/lang/Integer", name := "bitCount", desc := "(I)I" } : Jvm.MethodName) jdk_33_method_49_code (1 : Nat) (Option.some Jvm.ClassFile.FieldType.int)).before args0 about1 = true := code_word (m := ⟨21, 0⟩) (meth := k21m0) (c := k21c0) (by decide +kernel) rfl rfl rfl (by decide +kernel)
set_option maxRecDepth 65536 in
theorem w_c18 : (Jvm.Cond.code ({ cls := "com/example/fireweed/fireweed/layout/Java31ByteSalt", name := "saltOf", desc := "(I)B" } : Jvm.MethodName) prog_7_method_13_code (3 : Nat) (Option.some Jvm.ClassFile.FieldType.byte)).before args0 about1 = true := code_word (m := ⟨4, 2⟩) (meth := k4m2) (c := k4c2) (by decide +kernel) rfl rfl rfl (by decide +kernel)
set_option maxRecDepth 65536 in
theorem w_c19 : (Jvm.Cond.code ({ cls := "java/lang/Math", name := "abs", desc := "(I)I" } : Jvm.MethodName) jdk_29_method_59_code (1 : Nat) (Option.some Jvm.ClassFile.FieldType.int)).before args0 about1 = true := code_word (m := ⟨22, 1⟩) (meth := k22m1) (c := k22c1) (by decide +kernel) rfl rfl rfl (by decide +kernel)
set_option maxRecDepth 65536 in
theorem w_c20 : (Jvm.Cond.code ({ cls := "java/lang/Byte", name := "toUnsignedInt", desc := "(B)I" } : Jvm.MethodName) jdk_2056_method_24_code (1 : Nat) (Option.some Jvm.ClassFile.FieldType.int)).before args0 about1 = true := code_word (m := ⟨23, 0⟩) (meth := k23m0) (c := k23c0) (by decide +kernel) rfl rfl rfl (by decide +kernel)
set_option maxRecDepth 65536 in
theorem w_c21 : (Jvm.Cond.code ({ cls := "com/example/fireweed/fireweed/layout/Java31ByteSalt", name := "bytes", desc := "()[I" } : Jvm.MethodName) prog_7_method_9_code (1 : Nat) (Option.some (Jvm.ClassFile.FieldType.array Jvm.ClassFile.FieldType.int))).before args0 about1 = true := code_word (m := ⟨4, 1⟩) (meth := k4m1) (c := k4c1) (by decide +kernel) rfl rfl rfl (by decide +kernel)
set_option maxRecDepth 65536 in
theorem w_c22 : (Jvm.Cond.code ({ cls := "java/lang/StringUTF16", name := "newBytesFor", desc := "(I)[B" } : Jvm.MethodName) jdk_52_method_2_code (1 : Nat) (Option.some (Jvm.ClassFile.FieldType.array Jvm.ClassFile.FieldType.byte))).before args0 about1 = true := code_word (m := ⟨11, 1⟩) (meth := k11m1) (c := k11c1) (by decide +kernel) rfl rfl rfl (by decide +kernel)
set_option maxRecDepth 65536 in
theorem w_c23 : (Jvm.Cond.code ({ cls := "java/lang/StringUTF16", name := "newBytesLength", desc := "(I)I" } : Jvm.MethodName) jdk_52_method_3_code (1 : Nat) (Option.some Jvm.ClassFile.FieldType.int)).before args0 about1 = true := code_word (m := ⟨11, 2⟩) (meth := k11m2) (c := k11c2) (by decide +kernel) rfl rfl rfl (by decide +kernel)
def codes1 : List Jvm.Cond := [Jvm.Cond.code x code maxLocals ret, Jvm.Cond.code ({ cls := "java/lang/String", name := "<init>", desc := "([C)V" } : Jvm.MethodName) jdk_42_method_3_code (2 : Nat) (Option.none : Option Jvm.ClassFile.FieldType), Jvm.Cond.code ({ cls := "java/lang/String", name := "<init>", desc := "([CIILjava/lang/Void;)V" } : Jvm.MethodName) jdk_42_method_149_code (6 : Nat) (Option.none : Option Jvm.ClassFile.FieldType), Jvm.Cond.code ({ cls := "java/lang/Object", name := "<init>", desc := "()V" } : Jvm.MethodName) object_method_1_code (1 : Nat) (Option.none : Option Jvm.ClassFile.FieldType), Jvm.Cond.code ({ cls := "java/lang/StringUTF16", name := "compress", desc := "([CII)[B" } : Jvm.MethodName) jdk_52_method_16_code (6 : Nat) (Option.some (Jvm.ClassFile.FieldType.array Jvm.ClassFile.FieldType.byte)), Jvm.Cond.code ({ cls := "java/lang/StringUTF16", name := "compress", desc := "([CI[BII)I" } : Jvm.MethodName) jdk_52_method_21_code (7 : Nat) (Option.some Jvm.ClassFile.FieldType.int), Jvm.Cond.code ({ cls := "java/lang/StringUTF16", name := "coderFromArrayLen", desc := "([BI)B" } : Jvm.MethodName) jdk_52_method_15_code (2 : Nat) (Option.some Jvm.ClassFile.FieldType.byte), Jvm.Cond.code ({ cls := "com/example/fireweed/fireweed/layout/Java31ByteSalt", name := "<init>", desc := "(ILjava/lang/String;)V" } : Jvm.MethodName) prog_7_method_1_code (3 : Nat) (Option.none : Option Jvm.ClassFile.FieldType), Jvm.Cond.code ({ cls := "com/example/fireweed/fireweed/layout/BucketSalt", name := "<init>", desc := "(Ljava/lang/String;)V" } : Jvm.MethodName) prog_5_method_1_code (2 : Nat) (Option.none : Option Jvm.ClassFile.FieldType), Jvm.Cond.code ({ cls := "com/example/fireweed/fireweed/layout/Salt", name := "<init>", desc := "(Ljava/lang/String;)V" } : Jvm.MethodName) prog_11_method_1_code (2 : Nat) (Option.none : Option Jvm.ClassFile.FieldType), Jvm.Cond.code ({ cls := "java/util/Objects", name := "requireNonNull", desc := "(Ljava/lang/Object;Ljava/lang/String;)Ljava/lang/Object;" } : Jvm.MethodName) jdk_31_method_11_code (2 : Nat) (Option.some (Jvm.ClassFile.FieldType.object "java/lang/Object")), Jvm.Cond.code ({ cls := "java/lang/String", name := "getBytes", desc := "(Ljava/nio/charset/Charset;)[B" } : Jvm.MethodName) jdk_42_method_64_code (2 : Nat) (Option.some (Jvm.ClassFile.FieldType.array Jvm.ClassFile.FieldType.byte)), Jvm.Cond.code ({ cls := "java/lang/String", name := "coder", desc := "()B" } : Jvm.MethodName) jdk_42_method_152_code (1 : Nat) (Option.some Jvm.ClassFile.FieldType.byte), Jvm.Cond.code ({ cls := "java/lang/String", name := "encode", desc := "(Ljava/nio/charset/Charset;B[B)[B" } : Jvm.MethodName) jdk_42_method_18_code (3 : Nat) (Option.some (Jvm.ClassFile.FieldType.array Jvm.ClassFile.FieldType.byte)), Jvm.Cond.code ({ cls := "java/lang/String", name := "encodeUTF8", desc := "(B[BZ)[B" } : Jvm.MethodName) jdk_42_method_46_code (9 : Nat) (Option.some (Jvm.ClassFile.FieldType.array Jvm.ClassFile.FieldType.byte)), Jvm.Cond.code ({ cls := "java/lang/StringCoding", name := "hasNegatives", desc := "([BII)Z" } : Jvm.MethodName) jdk_123_method_2_code (3 : Nat) (Option.some Jvm.ClassFile.FieldType.boolean), Jvm.Cond.code ({ cls := "java/lang/StringCoding", name := "countPositives", desc := "([BII)I" } : Jvm.MethodName) jdk_123_method_3_code (5 : Nat) (Option.some Jvm.ClassFile.FieldType.int), Jvm.Cond.code ({ cls := "java/lang/Integer", name := "bitCount", desc := "(I)I" } : Jvm.MethodName) jdk_33_method_49_code (1 : Nat) (Option.some Jvm.ClassFile.FieldType.int), Jvm.Cond.code ({ cls := "com/example/fireweed/fireweed/layout/Java31ByteSalt", name := "saltOf", desc := "(I)B" } : Jvm.MethodName) prog_7_method_13_code (3 : Nat) (Option.some Jvm.ClassFile.FieldType.byte), Jvm.Cond.code ({ cls := "java/lang/Math", name := "abs", desc := "(I)I" } : Jvm.MethodName) jdk_29_method_59_code (1 : Nat) (Option.some Jvm.ClassFile.FieldType.int), Jvm.Cond.code ({ cls := "java/lang/Byte", name := "toUnsignedInt", desc := "(B)I" } : Jvm.MethodName) jdk_2056_method_24_code (1 : Nat) (Option.some Jvm.ClassFile.FieldType.int), Jvm.Cond.code ({ cls := "com/example/fireweed/fireweed/layout/Java31ByteSalt", name := "bytes", desc := "()[I" } : Jvm.MethodName) prog_7_method_9_code (1 : Nat) (Option.some (Jvm.ClassFile.FieldType.array Jvm.ClassFile.FieldType.int)), Jvm.Cond.code ({ cls := "java/lang/StringUTF16", name := "newBytesFor", desc := "(I)[B" } : Jvm.MethodName) jdk_52_method_2_code (1 : Nat) (Option.some (Jvm.ClassFile.FieldType.array Jvm.ClassFile.FieldType.byte)), Jvm.Cond.code ({ cls := "java/lang/StringUTF16", name := "newBytesLength", desc := "(I)I" } : Jvm.MethodName) jdk_52_method_3_code (1 : Nat) (Option.some Jvm.ClassFile.FieldType.int)]
set_option maxRecDepth 65536 in
theorem codes_eq : words1.filter isCode = codes1 := rfl
theorem w_codes : ∀ c ∈ words1.filter isCode, c.before args0 about1 = true := by
  rw [codes_eq]
  intro c hc
  simp only [codes1, List.mem_cons, List.not_mem_nil, or_false] at hc
  rcases hc with rfl | rfl | rfl | rfl | rfl | rfl | rfl | rfl | rfl | rfl | rfl | rfl | rfl | rfl | rfl | rfl | rfl | rfl | rfl | rfl | rfl | rfl | rfl | rfl
  · exact w_c0
  · exact w_c1
  · exact w_c2
  · exact w_c3
  · exact w_c4
  · exact w_c5
  · exact w_c6
  · exact w_c7
  · exact w_c8
  · exact w_c9
  · exact w_c10
  · exact w_c11
  · exact w_c12
  · exact w_c13
  · exact w_c14
  · exact w_c15
  · exact w_c16
  · exact w_c17
  · exact w_c18
  · exact w_c19
  · exact w_c20
  · exact w_c21
  · exact w_c22
  · exact w_c23
set_option maxRecDepth 65536 in
theorem w_t1 : (words1.take 24).all (fun c => isCode c || c.before args0 about1) = true := by decide +kernel
set_option maxRecDepth 65536 in
theorem w_t2 : ((words1.drop 24).take 24).all (fun c => isCode c || c.before args0 about1) = true := by decide +kernel
set_option maxRecDepth 65536 in
theorem w_t3 : (((words1.drop 24).drop 24).take 24).all (fun c => isCode c || c.before args0 about1) = true := by decide +kernel
set_option maxRecDepth 65536 in
theorem w_t4 : ((((words1.drop 24).drop 24).drop 24).take 24).all (fun c => isCode c || c.before args0 about1) = true := by decide +kernel
set_option maxRecDepth 65536 in
theorem w_t5 : (((((words1.drop 24).drop 24).drop 24).drop 24).take 24).all (fun c => isCode c || c.before args0 about1) = true := by decide +kernel
set_option maxRecDepth 65536 in
theorem w_t6 : (((((words1.drop 24).drop 24).drop 24).drop 24).drop 24).all (fun c => isCode c || c.before args0 about1) = true := by decide +kernel
theorem w_tables : (allAtoms (Jvm.Cond.code x code maxLocals ret :: tables_1)).before args0 about1 = true := by
  rw [allAtoms_all]
  show words1.all (fun c => c.before args0 about1) = true
  refine all_split ?_ w_codes
  rw [← List.take_append_drop 24 words1, List.all_append, w_t1, ← List.take_append_drop 24 (words1.drop 24), List.all_append, w_t2, ← List.take_append_drop 24 ((words1.drop 24).drop 24), List.all_append, w_t3, ← List.take_append_drop 24 (((words1.drop 24).drop 24).drop 24), List.all_append, w_t4, ← List.take_append_drop 24 ((((words1.drop 24).drop 24).drop 24).drop 24), List.all_append, w_t5, w_t6]
  rfl
set_option maxRecDepth 65536 in
theorem w_rest : rest_1_c.before args0 about1 = true := by decide +kernel
set_option maxRecDepth 65536 in
theorem w_case : (Jvm.Cond.and given_1 narrow_1).before args0 about1 = true := by decide +kernel
theorem w_applies : (headSpec (Jvm.Cond.code x code maxLocals ret :: tables_1) room_1).applies x e0.platform about1 = true :=
  (Spec.applies_iff w_frames).mpr ⟨w_running, w_runnable, w_alone, w_named, w_hears, w_ripe, w_room, w_tables⟩
theorem atStart : AtStart classFile x code maxLocals ret World_1 tables_1 room_1 Calls_1 rest_1 Pre_1 launch0 p0 e0 about1 theMethod args0 below0 :=
  ⟨lists_1, trivial, launch0.admits_env _ _ _, launch0.least_env, fairChoices_fair.cas, fairChoices_fair.clock, w_frames, w_args, w_heap, w_applies, trivial, w_rest, w_case⟩
end start1
theorem witness_1 : WitnessClaimed_1 := ⟨start1.p0, start1.e0, start1.about1, start1.theMethod, start1.args0, start1.below0, start1.atStart⟩
end Jvm.Pilot.@@N@@
