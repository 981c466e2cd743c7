import JvmDerived
import JvmDerived.Pilot.@@N@@Statement
import JvmDerived.Pilot.@@N@@Code
set_option linter.unusedVariables false
set_option linter.unusedSimpArgs false
namespace Jvm.RoadKit
open Sem ClassFile Op Lib Jvm.Stand Jvm.Free Jvm.LawKit
section New
variable {p : Program} {l : Launch} {e : Env} {R : Room} {s : State} {m : MethodId} {args : Array Value} {below : List Frame} {meth : Method} {c : Code} {T : State} {locs : List Loc} {cells slots : Nat}
theorem retI (X : Stand p l e R s m args below meth c T locs cells slots) (hx : p.tables.exec = Jvm.exec) {pc : Nat} {Ls : Array Slot} {z : Int32} {rest : List Value} (hret : meth.sig.returnType = some .int) (hd : decode c.code pc = .ok (.ireturn, 1)) {fs : List Frame}
    (hl : ∀ (f : JFrame) (acts : List Action), f.method = m → f.locked = none → f.entered = [] → (doReturn e (T.setTop f) acts (some (.int z))).1 = T.setFrames fs) : Steps p.tables e below (T.setTop (mkF m pc Ls (.int z :: rest))) (T.setFrames fs) := by
  have hm' : T.vm.method? m = some meth := X.method'
  have hn : narrow .int (.int z) = .int z := rfl
  show Steps p.tables e below (T.setTop { method := m, pc := pc, locals := Ls, stack := _ :: rest, locked := none }) _
  jvm_step X.here [X.here.top, hx, hd, hm', hret, hn]
  first | (intro acts; rw [hl _ acts rfl rfl rfl]) | rw [hl _ _ rfl rfl rfl]
  exact Steps.refl _
end New
end Jvm.RoadKit
namespace Jvm.Pilot.@@N@@
open Jvm Jvm.ClassFile Sem Op Lib Jvm.Free Jvm.Stand Jvm.LawKit Jvm.RoadKit Bundle Jvm.Pilot.@@N@@.Jvm.D
theorem own_ext {h h' : Heap} (K : Keep h h' []) : Ext h h' := ⟨K.1, fun a c q => K.2.1 a c q nin0⟩
theorem own_fits {t : FieldType} {x : Int32} (h : nar t x = x) (f : fits t (.int (nar t x)) = true) : fits t (.int x) = true := by rw [h] at f; exact f
theorem own_nb (x : Int32) : nar .byte (x.toInt8.toInt32) = x.toInt8.toInt32 := by simp [nar]
theorem own_nc (x : Int32) : nar .char (x.toUInt32.toUInt16.toUInt32.toInt32) = x.toUInt32.toUInt16.toUInt32.toInt32 := by
  show (x.toUInt32.toUInt16.toUInt32.toInt32).toUInt32.toUInt16.toUInt32.toInt32 = _
  rw [UInt32.toUInt32_toInt32, UInt16.toUInt16_toUInt32]
theorem own_ne {a b : Addr} (h : a < b) : a ≠ b := Nat.ne_of_lt h
theorem own_Sta {Z : State} {h h' : Heap} {C n d : String} {v : Value} {ws : List Addr} (F : Sta Z h C n d v) (K : Keep h h' ws) (q : ∀ x ∈ ws, ∀ cell : Cell, h[x]? = some cell → cell.vm.isStatics = false) : Sta Z h' C n d v := by
  obtain ⟨cf, i, k, f, st, cell, h1, h2, h3, h4, h5, h6, h7⟩ := F
  refine ⟨cf, i, k, f, st, cell, h1, h2, h3, h4, K.2.1 st cell h5 (fun m => ?_), h6, h7⟩
  rw [q st m cell h5] at h6
  cases h6
theorem own_priv {s : State} {args : Array Value} {y : MethodName} {n : Nat} (wi : (Cond.instantiable y.cls n).before args s = true) (hp : s.PrivateAt y) (hi : (Cond.instanceMethod y).before args s = true) (hy : y.cls ≠ "java/lang/invoke/MethodHandle" ∧ y.cls ≠ "java/lang/invoke/VarHandle") : (Cond.selects y.cls y y).before args s = true := by
  obtain ⟨c, k, h1, h2, -, h4, -⟩ := Cond.instantiable_spec wi
  exact selects_self_of_private h1 h2 (by cases hk : k.isInterface <;> simp_all) hp hi hy
theorem own_lremM {p : Program} {l : Launch} {e : Env} {R : Room} {s : State} {m : MethodId} {args : Array Value} {below : List Frame} {meth : Method} {c : Code} {T : State} {locs : List Loc} {cells slots : Nat} {g : JFrame} {target : State} (X : Stand p l e R s m args below meth c T locs cells slots) (hx : p.tables.exec = Jvm.exec) (hg : g.method = m) {x y : Int64} {rest : List Value} (hd : decode c.code g.pc = .ok (.lrem, 1)) (hs : g.stack = .long y :: .long x :: rest) (hy : y ≠ 0)
    (hr : Steps p.tables e below (T.setTop { g with pc := g.pc + 1, stack := .long (x % y) :: rest }) target) : Steps p.tables e below (T.setTop g) target := by
  have q : x - x / y * y = x % y := lrem_mod x y
  exact XS.lrem X.here hx hg hd hs hy (by rw [q]; exact hr)
theorem d9_0 : decode jdk_31_method_11_code 0 = .ok (.aload_n 0, 1) := by decide +kernel
theorem d9_1 : decode jdk_31_method_11_code 1 = .ok (.ifnonnull 12, 3) := by decide +kernel
theorem d9_13 : decode jdk_31_method_11_code 13 = .ok (.aload_n 0, 1) := by decide +kernel
theorem d9_14 : decode jdk_31_method_11_code 14 = .ok (.areturn, 1) := by decide +kernel
theorem pn_java_util_Objects : plainName "java/util/Objects" = true := by first | (simp [plainName, overriddenIn]; done) | decide +kernel
theorem ef_rm9 (m : MethodId) (a0 : Addr) (a1 : Addr) : entryFrame m #[(.ref a0), (.ref a1)] 2 = mkF m 0 #[.val (.ref a0), .val (.ref a1)] [] := by first | (simp [entryFrame, mkF, argsToLocals, Value.category]; done) | rfl
def Q9 (Z : State) (a0 : Addr) (a1 : Addr) (h0 : Heap) (n0 : Nat) (v : Option Value) (h : Heap) (L : List Loc) : Prop := v = some (.ref a0) ∧ Fr n0 L ∧ h = h0
set_option maxRecDepth 65536 in
set_option maxHeartbeats 40000000 in
theorem rm9 (l : Launch) (Z : State) (az : Array Value) (hw : ∀ d ∈ tables_1, d.before az Z = true) (ws : List Jvm.Cond) (a0 : Addr) (a1 : Addr) (h0 : Heap) (n0 : Nat) (Z0 : n0 ≤ h0.size) :
    MetFree l (⟨"java/util/Objects", "requireNonNull", "(Ljava/lang/Object;Ljava/lang/String;)Ljava/lang/Object;"⟩ : MethodName) (head1 (Jvm.Cond.code (⟨"java/util/Objects", "requireNonNull", "(Ljava/lang/Object;Ljava/lang/String;)Ljava/lang/Object;"⟩ : MethodName) jdk_31_method_11_code 2 (some (.object "java/lang/Object")) :: ws) ({ frames := 0, cells := 0, slots := 0, locals := 0 } : Room)) (fun a U => a = #[(.ref a0), (.ref a1)] ∧ Z.Warmed39 U.vm ∧ U.heap = h0) (fun _ _ _ _ _ => True) (fun _ U o U' => ∃ v L, o = .returned v ∧ Q9 Z a0 a1 h0 n0 v U'.heap L ∧ FrameEnd U o U' L ({ frames := 0, cells := 0, slots := 0, locals := 0 } : Room).cells ({ frames := 0, cells := 0, slots := 0, locals := 0 } : Room).slots) := by
  refine MetFree.of_bodySF (plainFor_of_name pn_java_util_Objects) hisR ?_
  intro p e s m args below meth c s₁ Bd hml0 hP hK
  obtain ⟨rfl, hZ, hh⟩ := hP
  have hx := Bd.exec
  have hby := Bd.bytes
  have hml : c.maxLocals = 2 := hml0
  have hown : s.vm.findClass "java/util/Objects" = some m.cls := findClass_of_methodNamed Bd.named
  have hnm := (name_of_methodNamed Bd.named Bd.method).1
  have X0 : Stand p l e ({ frames := 0, cells := 0, slots := 0, locals := 0 } : Room) s m #[(.ref a0), (.ref a1)] below meth c s₁ [] 0 0 := Stand.of_body Bd
  have e0 : s₁.heap = h0 := by rw [← hh, Bd.state]; rfl
  have N0 := Fr.nil n0
  have pre0 : ∀ t, Steps p.tables e below (s₁.setTop (mkF m 0 #[.val (.ref a0), .val (.ref a1)] [])) t → Steps p.tables e below (s₁.setTop (entryFrame m #[(.ref a0), (.ref a1)] 2)) t := fun t k => castTop (ef_rm9 m a0 a1) k
  obtain ⟨fs, hr, hrun, hended, hW, hsame⟩ := X0.leave (v := some (.ref a0)) (fun h => by rw [Bd.returns] at h; cases h)
  refine ⟨_, _, pre0 _ ?_, hrun, hended, _, _, rfl, ?_, ⟨_, rfl⟩, hW, hsame.mono (by decide) (by decide)⟩
  · show Steps p.tables e below (s₁.setTop (mkF m 0 #[.val (.ref a0), .val (.ref a1)] [])) _
    refine XS.aloadN X0.here hx rfl (hb hby d9_0) rfl rfl ?_
    show Steps p.tables e below (s₁.setTop (mkF m 1 #[.val (.ref a0), .val (.ref a1)] [(.ref a0)])) _
    refine XS.ifnonnullYes X0.here hx rfl (pc0 := 1) (pc' := 13) rfl (hb hby d9_1) rfl (by decide) (by decide) ?_
    show Steps p.tables e below (s₁.setTop (mkF m 13 #[.val (.ref a0), .val (.ref a1)] [])) _
    refine XS.aloadN X0.here hx rfl (hb hby d9_13) rfl rfl ?_
    show Steps p.tables e below (s₁.setTop (mkF m 14 #[.val (.ref a0), .val (.ref a1)] [(.ref a0)])) _
    jvm_step X0.here [X0.here.top, hx, (hb hby d9_14), X0.method', Bd.returns, Value.isRef, FieldType.isReference]
    first | (intro acts; rw [hr _ acts rfl rfl rfl]) | rw [hr _ _ rfl rfl rfl]
    exact Steps.refl _
  · show Q9 Z a0 a1 h0 n0 _ s₁.heap _
    rw [e0]
    exact ⟨rfl, N0, rfl⟩
theorem d11_0 : decode jdk_42_method_152_code 0 = .ok (.getstatic 38, 3) := by decide +kernel
theorem d11_3 : decode jdk_42_method_152_code 3 = .ok (.ifCond .eq 10, 3) := by decide +kernel
theorem d11_6 : decode jdk_42_method_152_code 6 = .ok (.aload_n 0, 1) := by decide +kernel
theorem d11_7 : decode jdk_42_method_152_code 7 = .ok (.getfield 15, 3) := by decide +kernel
theorem d11_10 : decode jdk_42_method_152_code 10 = .ok (.goto 4, 3) := by decide +kernel
theorem d11_14 : decode jdk_42_method_152_code 14 = .ok (.ireturn, 1) := by decide +kernel
theorem pn_java_lang_String : plainName "java/lang/String" = true := by first | (simp [plainName, overriddenIn]; done) | decide +kernel
theorem ef_rm11 (m : MethodId) (a0 : Addr) : entryFrame m #[(.ref a0)] 1 = mkF m 0 #[.val (.ref a0)] [] := by first | (simp [entryFrame, mkF, argsToLocals, Value.category]; done) | rfl
def Q11 (Z : State) (a0 : Addr) (s_COMPACT_STRINGS : Int32) (h0 : Heap) (n0 : Nat) (v : Option Value) (h : Heap) (L : List Loc) : Prop := v = some (.int (0 : Int32)) ∧ Fr n0 L ∧ h = h0
set_option maxRecDepth 65536 in
set_option maxHeartbeats 40000000 in
theorem rm11 (l : Launch) (Z : State) (az : Array Value) (hw : ∀ d ∈ tables_1, d.before az Z = true) (ws : List Jvm.Cond) (a0 : Addr) (s_COMPACT_STRINGS : Int32) (h0 : Heap) (n0 : Nat) (Z0 : n0 ≤ h0.size) (F_coder_a0 : Fld Z h0 a0 "java/lang/String" "coder" "B" (.int (0 : Int32))) (S_COMPACT_STRINGS : Sta Z h0 "java/lang/String" "COMPACT_STRINGS" "Z" (.int s_COMPACT_STRINGS)) (hc2 : ¬ (s_COMPACT_STRINGS = (0 : Int32))) :
    MetFree l (⟨"java/lang/String", "coder", "()B"⟩ : MethodName) (head1 (Jvm.Cond.code (⟨"java/lang/String", "coder", "()B"⟩ : MethodName) jdk_42_method_152_code 1 (some .byte) :: ws) ({ frames := 0, cells := 0, slots := 0, locals := 0 } : Room)) (fun a U => a = #[(.ref a0)] ∧ Z.Warmed39 U.vm ∧ U.heap = h0) (fun _ _ _ _ _ => True) (fun _ U o U' => ∃ v L, o = .returned v ∧ Q11 Z a0 s_COMPACT_STRINGS h0 n0 v U'.heap L ∧ FrameEnd U o U' L ({ frames := 0, cells := 0, slots := 0, locals := 0 } : Room).cells ({ frames := 0, cells := 0, slots := 0, locals := 0 } : Room).slots) := by
  refine MetFree.of_bodySF (plainFor_of_name pn_java_lang_String) hisR ?_
  intro p e s m args below meth c s₁ Bd hml0 hP hK
  obtain ⟨rfl, hZ, hh⟩ := hP
  have hx := Bd.exec
  have hby := Bd.bytes
  have hml : c.maxLocals = 1 := hml0
  have hown : s.vm.findClass "java/lang/String" = some m.cls := findClass_of_methodNamed Bd.named
  have hnm := (name_of_methodNamed Bd.named Bd.method).1
  have X0 : Stand p l e ({ frames := 0, cells := 0, slots := 0, locals := 0 } : Room) s m #[(.ref a0)] below meth c s₁ [] 0 0 := Stand.of_body Bd
  have e0 : s₁.heap = h0 := by rw [← hh, Bd.state]; rfl
  have N0 := Fr.nil n0
  have pre0 : ∀ t, Steps p.tables e below (s₁.setTop (mkF m 0 #[.val (.ref a0)] [])) t → Steps p.tables e below (s₁.setTop (entryFrame m #[(.ref a0)] 1)) t := fun t k => castTop (ef_rm11 m a0) k
  obtain ⟨T1, X1, e1, st1⟩ := getS2 X0 hx hZ hown (host := "") (Or.inl (hw _ (List.mem_of_getElem? (i := 4) rfl))) Via.refl e0 S_COMPACT_STRINGS (g := (mkF m 0 #[.val (.ref a0)] [])) rfl (hb hby d11_0)
  obtain ⟨T2, X2, e2, st2⟩ := getF X1 hx hZ hown (host := "") (Or.inl (hw _ (List.mem_of_getElem? (i := 24) rfl))) Via.refl e1 F_coder_a0 (g := (mkF m 7 #[.val (.ref a0)] [(.ref a0)])) rfl rfl (hb hby d11_7)
  obtain ⟨fs, hr, hrun, hended, hW, hsame⟩ := X2.leave (v := some (.int (0 : Int32))) (fun h => by rw [Bd.returns] at h; cases h)
  refine ⟨_, _, pre0 _ ?_, hrun, hended, _, _, rfl, ?_, ⟨_, rfl⟩, hW, hsame.mono (by decide) (by decide)⟩
  · show Steps p.tables e below (s₁.setTop (mkF m 0 #[.val (.ref a0)] [])) _
    refine st1 _ ?_
    show Steps p.tables e below (T1.setTop (mkF m 3 #[.val (.ref a0)] [(.int s_COMPACT_STRINGS)])) _
    refine XS.ifNo X1.here hx rfl (hb hby d11_3) rfl ((if0 _ _).trans (feq hc2).1) ?_
    show Steps p.tables e below (T1.setTop (mkF m 6 #[.val (.ref a0)] [])) _
    refine XS.aloadN X1.here hx rfl (hb hby d11_6) rfl rfl ?_
    show Steps p.tables e below (T1.setTop (mkF m 7 #[.val (.ref a0)] [(.ref a0)])) _
    refine st2 _ ?_
    show Steps p.tables e below (T2.setTop (mkF m 10 #[.val (.ref a0)] [(.int (0 : Int32))])) _
    refine XS.goto X2.here hx rfl (pc0 := 10) (pc' := 14) rfl (hb hby d11_10) (by decide) (by decide) ?_
    show Steps p.tables e below (T2.setTop (mkF m 14 #[.val (.ref a0)] [(.int (0 : Int32))])) _
    exact retN X2 hx (t := .byte) Bd.returns (by simp) (hb hby d11_14) hr
  · show Q11 Z a0 s_COMPACT_STRINGS h0 n0 _ T2.heap _
    rw [e2]
    exact ⟨rfl, N0, rfl⟩
theorem d15_0 : decode jdk_123_method_3_code 0 = .ok (.iload_n 1, 1) := by decide +kernel
theorem d15_1 : decode jdk_123_method_3_code 1 = .ok (.iload_n 2, 1) := by decide +kernel
theorem d15_2 : decode jdk_123_method_3_code 2 = .ok (.iadd, 1) := by decide +kernel
theorem d15_3 : decode jdk_123_method_3_code 3 = .ok (.istore_n 3, 1) := by decide +kernel
theorem d15_4 : decode jdk_123_method_3_code 4 = .ok (.iload_n 1, 1) := by decide +kernel
theorem d15_5 : decode jdk_123_method_3_code 5 = .ok (.istore 4, 2) := by decide +kernel
theorem d15_7 : decode jdk_123_method_3_code 7 = .ok (.iload 4, 2) := by decide +kernel
theorem d15_9 : decode jdk_123_method_3_code 9 = .ok (.iload_n 3, 1) := by decide +kernel
theorem d15_10 : decode jdk_123_method_3_code 10 = .ok (.if_icmp .ge 21, 3) := by decide +kernel
theorem d15_13 : decode jdk_123_method_3_code 13 = .ok (.aload_n 0, 1) := by decide +kernel
theorem d15_14 : decode jdk_123_method_3_code 14 = .ok (.iload 4, 2) := by decide +kernel
theorem d15_16 : decode jdk_123_method_3_code 16 = .ok (.baload, 1) := by decide +kernel
theorem d15_17 : decode jdk_123_method_3_code 17 = .ok (.ifCond .ge 8, 3) := by decide +kernel
theorem d15_25 : decode jdk_123_method_3_code 25 = .ok (.iinc 4 1, 3) := by decide +kernel
theorem d15_28 : decode jdk_123_method_3_code 28 = .ok (.goto (-21), 3) := by decide +kernel
theorem d15_31 : decode jdk_123_method_3_code 31 = .ok (.iload_n 2, 1) := by decide +kernel
theorem d15_32 : decode jdk_123_method_3_code 32 = .ok (.ireturn, 1) := by decide +kernel
theorem pn_java_lang_StringCoding : plainName "java/lang/StringCoding" = true := by first | (simp [plainName, overriddenIn]; done) | decide +kernel
theorem ef_rm15p (m : MethodId) (a0 : Addr) : entryFrame m #[(.ref a0), (.int (0 : Int32)), (.int (1 : Int32))] 5 = mkF m 0 #[.val (.ref a0), .val (.int (0 : Int32)), .val (.int (1 : Int32)), .unset, .unset] [] := by first | (simp [entryFrame, mkF, argsToLocals, Value.category]; done) | rfl
def Q15p (Z : State) (a0 : Addr) (k0 : ClassId) (pv : Int32) (h0 : Heap) (n0 : Nat) (v : Option Value) (h : Heap) (L : List Loc) : Prop := v = some (.int (1 : Int32)) ∧ Fr n0 L ∧ h = h0
set_option maxRecDepth 65536 in
set_option maxHeartbeats 40000000 in
theorem rm15p (l : Launch) (Z : State) (az : Array Value) (hw : ∀ d ∈ tables_1, d.before az Z = true) (ws : List Jvm.Cond) (a0 : Addr) (k0 : ClassId) (pv : Int32) (h0 : Heap) (n0 : Nat) (Z0 : n0 ≤ h0.size) (V_a0 : Arv Z h0 a0 k0 .byte (1 : Int32) [(.int pv)] (.int (0 : Int32))) (hc1 : ¬ (pv < (0 : Int32))) :
    MetFree l (⟨"java/lang/StringCoding", "countPositives", "([BII)I"⟩ : MethodName) (head1 (Jvm.Cond.code (⟨"java/lang/StringCoding", "countPositives", "([BII)I"⟩ : MethodName) jdk_123_method_3_code 5 (some .int) :: ws) ({ frames := 0, cells := 0, slots := 0, locals := 0 } : Room)) (fun a U => a = #[(.ref a0), (.int (0 : Int32)), (.int (1 : Int32))] ∧ Z.Warmed39 U.vm ∧ U.heap = h0) (fun _ _ _ _ _ => True) (fun _ U o U' => ∃ v L, o = .returned v ∧ Q15p Z a0 k0 pv h0 n0 v U'.heap L ∧ FrameEnd U o U' L ({ frames := 0, cells := 0, slots := 0, locals := 0 } : Room).cells ({ frames := 0, cells := 0, slots := 0, locals := 0 } : Room).slots) := by
  refine MetFree.of_bodySF (plainFor_of_name pn_java_lang_StringCoding) hisR ?_
  intro p e s m args below meth c s₁ Bd hml0 hP hK
  obtain ⟨rfl, hZ, hh⟩ := hP
  have hx := Bd.exec
  have hby := Bd.bytes
  have hml : c.maxLocals = 5 := hml0
  have hown : s.vm.findClass "java/lang/StringCoding" = some m.cls := findClass_of_methodNamed Bd.named
  have hnm := (name_of_methodNamed Bd.named Bd.method).1
  have X0 : Stand p l e ({ frames := 0, cells := 0, slots := 0, locals := 0 } : Room) s m #[(.ref a0), (.int (0 : Int32)), (.int (1 : Int32))] below meth c s₁ [] 0 0 := Stand.of_body Bd
  have e0 : s₁.heap = h0 := by rw [← hh, Bd.state]; rfl
  have N0 := Fr.nil n0
  have pre0 : ∀ t, Steps p.tables e below (s₁.setTop (mkF m 0 #[.val (.ref a0), .val (.int (0 : Int32)), .val (.int (1 : Int32)), .unset, .unset] [])) t → Steps p.tables e below (s₁.setTop (entryFrame m #[(.ref a0), (.int (0 : Int32)), (.int (1 : Int32))] 5)) t := fun t k => castTop (ef_rm15p m a0) k
  obtain ⟨cl1, Ar1, qk1, Sz1, Ng1, Hs1, Gf1⟩ := id V_a0
  have hin2 : ¬ ((0 : Int32) < 0 ∨ cl1.slots.size ≤ ((0 : Int32)).toNatClampNeg) := inb_of Sz1 ⟨by decide, by decide⟩
  have hat3 : cl1.slots[((0 : Int32)).toNatClampNeg]? = some (.int pv) := Hs1.at hin2 rfl
  obtain ⟨fs, hr, hrun, hended, hW, hsame⟩ := X0.leave (v := some (.int (1 : Int32))) (fun h => by rw [Bd.returns] at h; cases h)
  refine ⟨_, _, pre0 _ ?_, hrun, hended, _, _, rfl, ?_, ⟨_, rfl⟩, hW, hsame.mono (by decide) (by decide)⟩
  · show Steps p.tables e below (s₁.setTop (mkF m 0 #[.val (.ref a0), .val (.int (0 : Int32)), .val (.int (1 : Int32)), .unset, .unset] [])) _
    refine XS.iloadN X0.here hx rfl (hb hby d15_0) rfl ?_
    show Steps p.tables e below (s₁.setTop (mkF m 1 #[.val (.ref a0), .val (.int (0 : Int32)), .val (.int (1 : Int32)), .unset, .unset] [(.int (0 : Int32))])) _
    refine XS.iloadN X0.here hx rfl (hb hby d15_1) rfl ?_
    show Steps p.tables e below (s₁.setTop (mkF m 2 #[.val (.ref a0), .val (.int (0 : Int32)), .val (.int (1 : Int32)), .unset, .unset] [(.int (1 : Int32)), (.int (0 : Int32))])) _
    refine XS.iadd X0.here hx rfl (hb hby d15_2) rfl ?_
    show Steps p.tables e below (s₁.setTop (mkF m 3 #[.val (.ref a0), .val (.int (0 : Int32)), .val (.int (1 : Int32)), .unset, .unset] [(.int (1 : Int32))])) _
    refine XS.istoreN X0.here hx rfl (hb hby d15_3) rfl (l' := #[.val (.ref a0), .val (.int (0 : Int32)), .val (.int (1 : Int32)), .val (.int (1 : Int32)), .unset]) rfl ?_
    show Steps p.tables e below (s₁.setTop (mkF m 4 #[.val (.ref a0), .val (.int (0 : Int32)), .val (.int (1 : Int32)), .val (.int (1 : Int32)), .unset] [])) _
    refine XS.iloadN X0.here hx rfl (hb hby d15_4) rfl ?_
    show Steps p.tables e below (s₁.setTop (mkF m 5 #[.val (.ref a0), .val (.int (0 : Int32)), .val (.int (1 : Int32)), .val (.int (1 : Int32)), .unset] [(.int (0 : Int32))])) _
    refine XS.istore X0.here hx rfl (hb hby d15_5) rfl (l' := #[.val (.ref a0), .val (.int (0 : Int32)), .val (.int (1 : Int32)), .val (.int (1 : Int32)), .val (.int (0 : Int32))]) rfl ?_
    show Steps p.tables e below (s₁.setTop (mkF m 7 #[.val (.ref a0), .val (.int (0 : Int32)), .val (.int (1 : Int32)), .val (.int (1 : Int32)), .val (.int (0 : Int32))] [])) _
    refine XS.iload X0.here hx rfl (hb hby d15_7) rfl ?_
    show Steps p.tables e below (s₁.setTop (mkF m 9 #[.val (.ref a0), .val (.int (0 : Int32)), .val (.int (1 : Int32)), .val (.int (1 : Int32)), .val (.int (0 : Int32))] [(.int (0 : Int32))])) _
    refine XS.iloadN X0.here hx rfl (hb hby d15_9) rfl ?_
    show Steps p.tables e below (s₁.setTop (mkF m 10 #[.val (.ref a0), .val (.int (0 : Int32)), .val (.int (1 : Int32)), .val (.int (1 : Int32)), .val (.int (0 : Int32))] [(.int (1 : Int32)), (.int (0 : Int32))])) _
    refine XS.icmpNo X0.here hx rfl (hb hby d15_10) rfl (tlt (by decide : (0 : Int32) < (1 : Int32))).2.1 ?_
    show Steps p.tables e below (s₁.setTop (mkF m 13 #[.val (.ref a0), .val (.int (0 : Int32)), .val (.int (1 : Int32)), .val (.int (1 : Int32)), .val (.int (0 : Int32))] [])) _
    refine XS.aloadN X0.here hx rfl (hb hby d15_13) rfl rfl ?_
    show Steps p.tables e below (s₁.setTop (mkF m 14 #[.val (.ref a0), .val (.int (0 : Int32)), .val (.int (1 : Int32)), .val (.int (1 : Int32)), .val (.int (0 : Int32))] [(.ref a0)])) _
    refine XS.iload X0.here hx rfl (hb hby d15_14) rfl ?_
    show Steps p.tables e below (s₁.setTop (mkF m 16 #[.val (.ref a0), .val (.int (0 : Int32)), .val (.int (1 : Int32)), .val (.int (1 : Int32)), .val (.int (0 : Int32))] [(.int (0 : Int32)), (.ref a0)])) _
    refine X0.baloadBytes hx (j := (0 : Int32)) (v := (.int pv)) (by rw [e0]; exact Ar1.1) (State.isArrayOf_alike hZ.alike Ar1.2.1) Ar1.2.2 hin2 hat3 (g := (mkF m 16 #[.val (.ref a0), .val (.int (0 : Int32)), .val (.int (1 : Int32)), .val (.int (1 : Int32)), .val (.int (0 : Int32))] [(.int (0 : Int32)), (.ref a0)])) rfl rfl (hb hby d15_16) _ ?_
    show Steps p.tables e below (s₁.setTop (mkF m 17 #[.val (.ref a0), .val (.int (0 : Int32)), .val (.int (1 : Int32)), .val (.int (1 : Int32)), .val (.int (0 : Int32))] [(.int pv)])) _
    refine XS.ifYes X0.here hx rfl (pc0 := 17) (pc' := 25) rfl (hb hby d15_17) rfl ((if0 _ _).trans (flt hc1).2.1) (by decide) (by decide) ?_
    show Steps p.tables e below (s₁.setTop (mkF m 25 #[.val (.ref a0), .val (.int (0 : Int32)), .val (.int (1 : Int32)), .val (.int (1 : Int32)), .val (.int (0 : Int32))] [])) _
    refine XS.iinc X0.here hx rfl (hb hby d15_25) rfl (l' := #[.val (.ref a0), .val (.int (0 : Int32)), .val (.int (1 : Int32)), .val (.int (1 : Int32)), .val (.int (1 : Int32))]) rfl ?_
    show Steps p.tables e below (s₁.setTop (mkF m 28 #[.val (.ref a0), .val (.int (0 : Int32)), .val (.int (1 : Int32)), .val (.int (1 : Int32)), .val (.int (1 : Int32))] [])) _
    refine XS.goto X0.here hx rfl (pc0 := 28) (pc' := 7) rfl (hb hby d15_28) (by decide) (by decide) ?_
    show Steps p.tables e below (s₁.setTop (mkF m 7 #[.val (.ref a0), .val (.int (0 : Int32)), .val (.int (1 : Int32)), .val (.int (1 : Int32)), .val (.int (1 : Int32))] [])) _
    refine XS.iload X0.here hx rfl (hb hby d15_7) rfl ?_
    show Steps p.tables e below (s₁.setTop (mkF m 9 #[.val (.ref a0), .val (.int (0 : Int32)), .val (.int (1 : Int32)), .val (.int (1 : Int32)), .val (.int (1 : Int32))] [(.int (1 : Int32))])) _
    refine XS.iloadN X0.here hx rfl (hb hby d15_9) rfl ?_
    show Steps p.tables e below (s₁.setTop (mkF m 10 #[.val (.ref a0), .val (.int (0 : Int32)), .val (.int (1 : Int32)), .val (.int (1 : Int32)), .val (.int (1 : Int32))] [(.int (1 : Int32)), (.int (1 : Int32))])) _
    refine XS.icmpYes X0.here hx rfl (pc0 := 10) (pc' := 31) rfl (hb hby d15_10) rfl (flt (by decide : ¬ ((1 : Int32) < (1 : Int32)))).2.1 (by decide) (by decide) ?_
    show Steps p.tables e below (s₁.setTop (mkF m 31 #[.val (.ref a0), .val (.int (0 : Int32)), .val (.int (1 : Int32)), .val (.int (1 : Int32)), .val (.int (1 : Int32))] [])) _
    refine XS.iloadN X0.here hx rfl (hb hby d15_31) rfl ?_
    show Steps p.tables e below (s₁.setTop (mkF m 32 #[.val (.ref a0), .val (.int (0 : Int32)), .val (.int (1 : Int32)), .val (.int (1 : Int32)), .val (.int (1 : Int32))] [(.int (1 : Int32))])) _
    exact retI X0 hx Bd.returns (hb hby d15_32) hr
  · show Q15p Z a0 k0 pv h0 n0 _ s₁.heap _
    rw [e0]
    exact ⟨rfl, N0, rfl⟩
theorem d14_0 : decode jdk_123_method_2_code 0 = .ok (.aload_n 0, 1) := by decide +kernel
theorem d14_1 : decode jdk_123_method_2_code 1 = .ok (.iload_n 1, 1) := by decide +kernel
theorem d14_2 : decode jdk_123_method_2_code 2 = .ok (.iload_n 2, 1) := by decide +kernel
theorem d14_3 : decode jdk_123_method_2_code 3 = .ok (.invokestatic 7, 3) := by decide +kernel
theorem pd_0 : parseMethodDescriptor "([BII)I" = some ⟨[(.array .byte), .int, .int], some .int⟩ := by decide +kernel
theorem d14_6 : decode jdk_123_method_2_code 6 = .ok (.iload_n 2, 1) := by decide +kernel
theorem d14_7 : decode jdk_123_method_2_code 7 = .ok (.if_icmp .eq 7, 3) := by decide +kernel
theorem d14_14 : decode jdk_123_method_2_code 14 = .ok (.iconst 0, 1) := by decide +kernel
theorem d14_15 : decode jdk_123_method_2_code 15 = .ok (.ireturn, 1) := by decide +kernel
theorem ef_rm14p (m : MethodId) (a0 : Addr) : entryFrame m #[(.ref a0), (.int (0 : Int32)), (.int (1 : Int32))] 3 = mkF m 0 #[.val (.ref a0), .val (.int (0 : Int32)), .val (.int (1 : Int32))] [] := by first | (simp [entryFrame, mkF, argsToLocals, Value.category]; done) | rfl
def Q14p (Z : State) (a0 : Addr) (k0 : ClassId) (pv : Int32) (h0 : Heap) (n0 : Nat) (v : Option Value) (h : Heap) (L : List Loc) : Prop := v = some (.int (0 : Int32)) ∧ Fr n0 L ∧ h = h0
set_option maxRecDepth 65536 in
set_option maxHeartbeats 40000000 in
theorem rm14p (l : Launch) (Z : State) (az : Array Value) (hw : ∀ d ∈ tables_1, d.before az Z = true) (ws : List Jvm.Cond) (a0 : Addr) (k0 : ClassId) (pv : Int32) (h0 : Heap) (n0 : Nat) (Z0 : n0 ≤ h0.size) (V_a0 : Arv Z h0 a0 k0 .byte (1 : Int32) [(.int pv)] (.int (0 : Int32))) (hc1 : ¬ (pv < (0 : Int32))) :
    MetFree l (⟨"java/lang/StringCoding", "hasNegatives", "([BII)Z"⟩ : MethodName) (head1 (Jvm.Cond.code (⟨"java/lang/StringCoding", "hasNegatives", "([BII)Z"⟩ : MethodName) jdk_123_method_2_code 3 (some .boolean) :: ws) ({ frames := 1, cells := 0, slots := 0, locals := 16 } : Room)) (fun a U => a = #[(.ref a0), (.int (0 : Int32)), (.int (1 : Int32))] ∧ Z.Warmed39 U.vm ∧ U.heap = h0) (fun _ _ _ _ _ => True) (fun _ U o U' => ∃ v L, o = .returned v ∧ Q14p Z a0 k0 pv h0 n0 v U'.heap L ∧ FrameEnd U o U' L ({ frames := 1, cells := 0, slots := 0, locals := 16 } : Room).cells ({ frames := 1, cells := 0, slots := 0, locals := 16 } : Room).slots) := by
  refine MetFree.of_bodySF (plainFor_of_name pn_java_lang_StringCoding) hisR ?_
  intro p e s m args below meth c s₁ Bd hml0 hP hK
  obtain ⟨rfl, hZ, hh⟩ := hP
  have hx := Bd.exec
  have hby := Bd.bytes
  have hml : c.maxLocals = 3 := hml0
  have hown : s.vm.findClass "java/lang/StringCoding" = some m.cls := findClass_of_methodNamed Bd.named
  have hnm := (name_of_methodNamed Bd.named Bd.method).1
  have X0 : Stand p l e ({ frames := 1, cells := 0, slots := 0, locals := 16 } : Room) s m #[(.ref a0), (.int (0 : Int32)), (.int (1 : Int32))] below meth c s₁ [] 0 0 := Stand.of_body Bd
  have e0 : s₁.heap = h0 := by rw [← hh, Bd.state]; rfl
  have N0 := Fr.nil n0
  have pre0 : ∀ t, Steps p.tables e below (s₁.setTop (mkF m 0 #[.val (.ref a0), .val (.int (0 : Int32)), .val (.int (1 : Int32))] [])) t → Steps p.tables e below (s₁.setTop (entryFrame m #[(.ref a0), (.int (0 : Int32)), (.int (1 : Int32))] 3)) t := fun t k => castTop (ef_rm14p m a0) k
  obtain ⟨_, _, ⟨T1, L1, k1', n1'⟩, -, X1, ⟨Lc1, hQ1, l1, y1, z1⟩, st1⟩ := Jvm.LawKit.callS X0 hx (y := (⟨"java/lang/StringCoding", "countPositives", "([BII)I"⟩ : MethodName)) hown (mvT hZ (hw _ (List.mem_of_getElem? (i := 77) rfl))) (mvT hZ (hw _ (List.mem_of_getElem? (i := 78) rfl))) (mvT hZ (hw _ (List.mem_of_getElem? (i := 75) rfl))) (mvT hZ (hw _ (List.mem_of_getElem? (i := 79) rfl))) (by decide) (backOf (W := 0) (rm15p l Z az hw [] a0 k0 pv h0 n0 Z0 V_a0 hc1) hZ (hw _ (List.mem_of_getElem? (i := 79) rfl)) (hw _ (List.mem_of_getElem? (i := 75) rfl)) (by decide) (by decide)) (g := (mkF m 3 #[.val (.ref a0), .val (.int (0 : Int32)), .val (.int (1 : Int32))] [(.int (1 : Int32)), (.int (0 : Int32)), (.ref a0)])) rfl (by rw [hml]; rfl) (argsL := [(.ref a0), (.int (0 : Int32)), (.int (1 : Int32))]) (rest := []) (lenOf pd_0 rfl) rfl (by show 2 * 0 + _ ≤ _; exact Nat.le_of_eq rfl) (hb hby d14_3) (fun _ _ => ⟨rfl, e0, (by decide : 0 + 0 ≤ _), (by decide : 0 + 0 ≤ _)⟩)
  dsimp only [Pt.U, Pt.locs, Pt.cells, Pt.slots] at X1 l1 y1 z1 st1 hQ1
  subst l1 y1 z1
  obtain ⟨rfl, N1q, e1⟩ := hQ1
  have N1 := Fr.app N0 N1q
  obtain ⟨fs, hr, hrun, hended, hW, hsame⟩ := X1.leave (v := some (.int (0 : Int32))) (fun h => by rw [Bd.returns] at h; cases h)
  refine ⟨_, _, pre0 _ ?_, hrun, hended, _, _, rfl, ?_, ⟨_, rfl⟩, hW, hsame.mono (by decide) (by decide)⟩
  · show Steps p.tables e below (s₁.setTop (mkF m 0 #[.val (.ref a0), .val (.int (0 : Int32)), .val (.int (1 : Int32))] [])) _
    refine XS.aloadN X0.here hx rfl (hb hby d14_0) rfl rfl ?_
    show Steps p.tables e below (s₁.setTop (mkF m 1 #[.val (.ref a0), .val (.int (0 : Int32)), .val (.int (1 : Int32))] [(.ref a0)])) _
    refine XS.iloadN X0.here hx rfl (hb hby d14_1) rfl ?_
    show Steps p.tables e below (s₁.setTop (mkF m 2 #[.val (.ref a0), .val (.int (0 : Int32)), .val (.int (1 : Int32))] [(.int (0 : Int32)), (.ref a0)])) _
    refine XS.iloadN X0.here hx rfl (hb hby d14_2) rfl ?_
    show Steps p.tables e below (s₁.setTop (mkF m 3 #[.val (.ref a0), .val (.int (0 : Int32)), .val (.int (1 : Int32))] [(.int (1 : Int32)), (.int (0 : Int32)), (.ref a0)])) _
    refine st1 _ ?_
    show Steps p.tables e below (T1.setTop (mkF m 6 #[.val (.ref a0), .val (.int (0 : Int32)), .val (.int (1 : Int32))] [(.int (1 : Int32))])) _
    refine XS.iloadN X1.here hx rfl (hb hby d14_6) rfl ?_
    show Steps p.tables e below (T1.setTop (mkF m 7 #[.val (.ref a0), .val (.int (0 : Int32)), .val (.int (1 : Int32))] [(.int (1 : Int32)), (.int (1 : Int32))])) _
    refine XS.icmpYes X1.here hx rfl (pc0 := 7) (pc' := 14) rfl (hb hby d14_7) rfl (teq (by decide : (1 : Int32) = (1 : Int32))).1 (by decide) (by decide) ?_
    show Steps p.tables e below (T1.setTop (mkF m 14 #[.val (.ref a0), .val (.int (0 : Int32)), .val (.int (1 : Int32))] [])) _
    refine XS.iconst X1.here hx rfl (hb hby d14_14) ?_
    show Steps p.tables e below (T1.setTop (mkF m 15 #[.val (.ref a0), .val (.int (0 : Int32)), .val (.int (1 : Int32))] [(.int (0 : Int32))])) _
    exact retN X1 hx (t := .boolean) Bd.returns (by simp) (hb hby d14_15) hr
  · show Q14p Z a0 k0 pv h0 n0 _ T1.heap _
    rw [e1]
    exact ⟨rfl, N1, rfl⟩
theorem d13_0 : decode jdk_42_method_46_code 0 = .ok (.iload_n 0, 1) := by decide +kernel
theorem d13_1 : decode jdk_42_method_46_code 1 = .ok (.iconst 1, 1) := by decide +kernel
theorem d13_2 : decode jdk_42_method_46_code 2 = .ok (.if_icmp .ne 9, 3) := by decide +kernel
theorem d13_11 : decode jdk_42_method_46_code 11 = .ok (.aload_n 1, 1) := by decide +kernel
theorem d13_12 : decode jdk_42_method_46_code 12 = .ok (.iconst 0, 1) := by decide +kernel
theorem d13_13 : decode jdk_42_method_46_code 13 = .ok (.aload_n 1, 1) := by decide +kernel
theorem d13_14 : decode jdk_42_method_46_code 14 = .ok (.arraylength, 1) := by decide +kernel
theorem d13_15 : decode jdk_42_method_46_code 15 = .ok (.invokestatic 128, 3) := by decide +kernel
theorem pd_1 : parseMethodDescriptor "([BII)Z" = some ⟨[(.array .byte), .int, .int], some .boolean⟩ := by decide +kernel
theorem d13_18 : decode jdk_42_method_46_code 18 = .ok (.ifCond .ne 11, 3) := by decide +kernel
theorem d13_21 : decode jdk_42_method_46_code 21 = .ok (.aload_n 1, 1) := by decide +kernel
theorem d13_22 : decode jdk_42_method_46_code 22 = .ok (.invokevirtual 279, 3) := by decide +kernel
theorem d13_25 : decode jdk_42_method_46_code 25 = .ok (.checkcast 280, 3) := by decide +kernel
theorem d13_28 : decode jdk_42_method_46_code 28 = .ok (.areturn, 1) := by decide +kernel
theorem ef_rm13p (m : MethodId) (a1 : Addr) : entryFrame m #[(.int (0 : Int32)), (.ref a1), (.int (1 : Int32))] 9 = mkF m 0 #[.val (.int (0 : Int32)), .val (.ref a1), .val (.int (1 : Int32)), .unset, .unset, .unset, .unset, .unset, .unset] [] := by first | (simp [entryFrame, mkF, argsToLocals, Value.category]; done) | rfl
def Q13p (Z : State) (a1 : Addr) (k1 : ClassId) (pv : Int32) (h0 : Heap) (n0 : Nat) (v : Option Value) (h : Heap) (L : List Loc) : Prop := ∃ r0 : Addr, v = some (.ref r0) ∧ Fr n0 L ∧ h0.size ≤ r0 ∧ Keep h0 h [] ∧ Exa Z h r0 "[B" ∧ Arv Z h r0 k1 .byte (1 : Int32) [(.int pv)] (.int (0 : Int32))
set_option maxRecDepth 65536 in
set_option maxHeartbeats 40000000 in
theorem rm13p (l : Launch) (Z : State) (az : Array Value) (hw : ∀ d ∈ tables_1, d.before az Z = true) (ws : List Jvm.Cond) (a1 : Addr) (k1 : ClassId) (pv : Int32) (h0 : Heap) (n0 : Nat) (Z0 : n0 ≤ h0.size) (V_a1 : Arv Z h0 a1 k1 .byte (1 : Int32) [(.int pv)] (.int (0 : Int32))) (E_a1 : Exa Z h0 a1 "[B") (hc2 : ¬ (pv < (0 : Int32))) :
    MetFree l (⟨"java/lang/String", "encodeUTF8", "(B[BZ)[B"⟩ : MethodName) (head1 (Jvm.Cond.code (⟨"java/lang/String", "encodeUTF8", "(B[BZ)[B"⟩ : MethodName) jdk_42_method_46_code 9 (some (.array .byte)) :: ws) ({ frames := 2, cells := 1, slots := 1, locals := 30 } : Room)) (fun a U => a = #[(.int (0 : Int32)), (.ref a1), (.int (1 : Int32))] ∧ Z.Warmed39 U.vm ∧ U.heap = h0) (fun _ _ _ _ _ => True) (fun _ U o U' => ∃ v L, o = .returned v ∧ Q13p Z a1 k1 pv h0 n0 v U'.heap L ∧ FrameEnd U o U' L ({ frames := 2, cells := 1, slots := 1, locals := 30 } : Room).cells ({ frames := 2, cells := 1, slots := 1, locals := 30 } : Room).slots) := by
  refine MetFree.of_bodySF (plainFor_of_name pn_java_lang_String) hisR ?_
  intro p e s m args below meth c s₁ Bd hml0 hP hK
  obtain ⟨rfl, hZ, hh⟩ := hP
  have hx := Bd.exec
  have hby := Bd.bytes
  have hml : c.maxLocals = 9 := hml0
  have hown : s.vm.findClass "java/lang/String" = some m.cls := findClass_of_methodNamed Bd.named
  have hnm := (name_of_methodNamed Bd.named Bd.method).1
  have X0 : Stand p l e ({ frames := 2, cells := 1, slots := 1, locals := 30 } : Room) s m #[(.int (0 : Int32)), (.ref a1), (.int (1 : Int32))] below meth c s₁ [] 0 0 := Stand.of_body Bd
  have e0 : s₁.heap = h0 := by rw [← hh, Bd.state]; rfl
  have N0 := Fr.nil n0
  have pre0 : ∀ t, Steps p.tables e below (s₁.setTop (mkF m 0 #[.val (.int (0 : Int32)), .val (.ref a1), .val (.int (1 : Int32)), .unset, .unset, .unset, .unset, .unset, .unset] [])) t → Steps p.tables e below (s₁.setTop (entryFrame m #[(.int (0 : Int32)), (.ref a1), (.int (1 : Int32))] 9)) t := fun t k => castTop (ef_rm13p m a1) k
  obtain ⟨cl1, Ar1, qk1, Sz1, Ng1, Hs1, Gf1⟩ := id V_a1
  obtain ⟨_, _, ⟨T2, L2, k2', n2'⟩, -, X2, ⟨Lc2, hQ2, l2, y2, z2⟩, st2⟩ := Jvm.LawKit.callS X0 hx (y := (⟨"java/lang/StringCoding", "hasNegatives", "([BII)Z"⟩ : MethodName)) hown (mvT hZ (hw _ (List.mem_of_getElem? (i := 73) rfl))) (mvT hZ (hw _ (List.mem_of_getElem? (i := 74) rfl))) (mvT hZ (hw _ (List.mem_of_getElem? (i := 75) rfl))) (mvT hZ (hw _ (List.mem_of_getElem? (i := 76) rfl))) (by decide) (backOf (W := 0) (rm14p l Z az hw [] a1 k1 pv h0 n0 Z0 V_a1 hc2) hZ (hw _ (List.mem_of_getElem? (i := 76) rfl)) (hw _ (List.mem_of_getElem? (i := 75) rfl)) (by decide) (by decide)) (g := (mkF m 15 #[.val (.int (0 : Int32)), .val (.ref a1), .val (.int (1 : Int32)), .unset, .unset, .unset, .unset, .unset, .unset] [(.int (1 : Int32)), (.int (0 : Int32)), (.ref a1)])) rfl (by rw [hml]; rfl) (argsL := [(.ref a1), (.int (0 : Int32)), (.int (1 : Int32))]) (rest := []) (lenOf pd_1 rfl) rfl (by show 2 * 0 + _ ≤ _; exact Nat.le_of_eq rfl) (hb hby d13_15) (fun _ _ => ⟨rfl, e0, (by decide : 0 + 0 ≤ _), (by decide : 0 + 0 ≤ _)⟩)
  dsimp only [Pt.U, Pt.locs, Pt.cells, Pt.slots] at X2 l2 y2 z2 st2 hQ2
  subst l2 y2 z2
  obtain ⟨rfl, N2q, e2⟩ := hQ2
  have N2 := Fr.app N0 N2q
  obtain ⟨T3, h3, X3, e3, E3, A3, x3, st3⟩ := cloneH X2 hx hZ hown (hw _ (List.mem_of_getElem? (i := 80) rfl)) (hw _ (List.mem_of_getElem? (i := 81) rfl)) (hw _ (List.mem_of_getElem? (i := 85) rfl)) (hw _ (List.mem_of_getElem? (i := 83) rfl)) (hw _ (List.mem_of_getElem? (i := 84) rfl)) (hw _ (List.mem_of_getElem? (i := 86) rfl)) e2 (Arv.arh V_a1) E_a1 (g := (mkF m 22 #[.val (.int (0 : Int32)), .val (.ref a1), .val (.int (1 : Int32)), .unset, .unset, .unset, .unset, .unset, .unset] [(.ref a1)])) rfl (by rw [hml]; rfl) rfl (hb hby d13_22) (by decide) (W := 0) (cap := 1) (by show 2 * 0 + _ ≤ _; exact Nat.le_of_eq rfl) (by decide) (by decide) (by decide) (by decide)
  obtain ⟨b3, g3⟩ : ∃ z, z = h0.size := ⟨_, rfl⟩
  rw [← g3] at A3 x3 st3
  have g_b3 : n0 ≤ b3 := Nat.le_trans Z0 (Nat.le_of_eq g3.symm)
  have sz_b3 : h0.size ≤ b3 := Nat.le_trans (Nat.le_refl _) (Nat.le_of_eq g3.symm)
  have Z3 : n0 ≤ h3.size := Nat.le_trans Z0 E3.1
  have K3 : Keep h0 h3 [] := (Keep.refl h0 []).ext E3
  have E_b3 := x3
  have V_b3 : Arv Z h3 b3 k1 .byte (1 : Int32) [(.int pv)] (.int (0 : Int32)) := A3
  obtain ⟨T4, X4, e4, st4⟩ := castY X3 hx hZ hown (hw _ (List.mem_of_getElem? (i := 87) rfl)) e3 (Ins.self E_b3) (g := (mkF m 25 #[.val (.int (0 : Int32)), .val (.ref a1), .val (.int (1 : Int32)), .unset, .unset, .unset, .unset, .unset, .unset] [(.ref b3)])) rfl rfl (hb hby d13_25)
  obtain ⟨fs, hr, hrun, hended, hW, hsame⟩ := X4.leave (v := some (.ref b3)) (fun h => by rw [Bd.returns] at h; cases h)
  refine ⟨_, _, pre0 _ ?_, hrun, hended, _, _, rfl, ?_, ⟨_, rfl⟩, hW, hsame.mono (by decide) (by decide)⟩
  · show Steps p.tables e below (s₁.setTop (mkF m 0 #[.val (.int (0 : Int32)), .val (.ref a1), .val (.int (1 : Int32)), .unset, .unset, .unset, .unset, .unset, .unset] [])) _
    refine XS.iloadN X0.here hx rfl (hb hby d13_0) rfl ?_
    show Steps p.tables e below (s₁.setTop (mkF m 1 #[.val (.int (0 : Int32)), .val (.ref a1), .val (.int (1 : Int32)), .unset, .unset, .unset, .unset, .unset, .unset] [(.int (0 : Int32))])) _
    refine XS.iconst X0.here hx rfl (hb hby d13_1) ?_
    show Steps p.tables e below (s₁.setTop (mkF m 2 #[.val (.int (0 : Int32)), .val (.ref a1), .val (.int (1 : Int32)), .unset, .unset, .unset, .unset, .unset, .unset] [(.int (1 : Int32)), (.int (0 : Int32))])) _
    refine XS.icmpYes X0.here hx rfl (pc0 := 2) (pc' := 11) rfl (hb hby d13_2) rfl (feq (by decide : ¬ ((0 : Int32) = (1 : Int32)))).2 (by decide) (by decide) ?_
    show Steps p.tables e below (s₁.setTop (mkF m 11 #[.val (.int (0 : Int32)), .val (.ref a1), .val (.int (1 : Int32)), .unset, .unset, .unset, .unset, .unset, .unset] [])) _
    refine XS.aloadN X0.here hx rfl (hb hby d13_11) rfl rfl ?_
    show Steps p.tables e below (s₁.setTop (mkF m 12 #[.val (.int (0 : Int32)), .val (.ref a1), .val (.int (1 : Int32)), .unset, .unset, .unset, .unset, .unset, .unset] [(.ref a1)])) _
    refine XS.iconst X0.here hx rfl (hb hby d13_12) ?_
    show Steps p.tables e below (s₁.setTop (mkF m 13 #[.val (.int (0 : Int32)), .val (.ref a1), .val (.int (1 : Int32)), .unset, .unset, .unset, .unset, .unset, .unset] [(.int (0 : Int32)), (.ref a1)])) _
    refine XS.aloadN X0.here hx rfl (hb hby d13_13) rfl rfl ?_
    show Steps p.tables e below (s₁.setTop (mkF m 14 #[.val (.int (0 : Int32)), .val (.ref a1), .val (.int (1 : Int32)), .unset, .unset, .unset, .unset, .unset, .unset] [(.ref a1), (.int (0 : Int32)), (.ref a1)])) _
    refine X0.arraylength hx (by rw [e0]; exact Ar1.1) (State.isArrayOf_alike hZ.alike Ar1.2.1) (g := (mkF m 14 #[.val (.int (0 : Int32)), .val (.ref a1), .val (.int (1 : Int32)), .unset, .unset, .unset, .unset, .unset, .unset] [(.ref a1), (.int (0 : Int32)), (.ref a1)])) rfl rfl (hb hby d13_14) _ ?_
    rw [len_of Sz1 Ng1]
    show Steps p.tables e below (s₁.setTop (mkF m 15 #[.val (.int (0 : Int32)), .val (.ref a1), .val (.int (1 : Int32)), .unset, .unset, .unset, .unset, .unset, .unset] [(.int (1 : Int32)), (.int (0 : Int32)), (.ref a1)])) _
    refine st2 _ ?_
    show Steps p.tables e below (T2.setTop (mkF m 18 #[.val (.int (0 : Int32)), .val (.ref a1), .val (.int (1 : Int32)), .unset, .unset, .unset, .unset, .unset, .unset] [(.int (0 : Int32))])) _
    refine XS.ifNo X2.here hx rfl (hb hby d13_18) rfl ((if0 _ _).trans (teq (by decide : (0 : Int32) = (0 : Int32))).2) ?_
    show Steps p.tables e below (T2.setTop (mkF m 21 #[.val (.int (0 : Int32)), .val (.ref a1), .val (.int (1 : Int32)), .unset, .unset, .unset, .unset, .unset, .unset] [])) _
    refine XS.aloadN X2.here hx rfl (hb hby d13_21) rfl rfl ?_
    show Steps p.tables e below (T2.setTop (mkF m 22 #[.val (.int (0 : Int32)), .val (.ref a1), .val (.int (1 : Int32)), .unset, .unset, .unset, .unset, .unset, .unset] [(.ref a1)])) _
    refine st3 _ ?_
    show Steps p.tables e below (T3.setTop (mkF m 25 #[.val (.int (0 : Int32)), .val (.ref a1), .val (.int (1 : Int32)), .unset, .unset, .unset, .unset, .unset, .unset] [(.ref b3)])) _
    refine st4 _ ?_
    show Steps p.tables e below (T4.setTop (mkF m 28 #[.val (.int (0 : Int32)), .val (.ref a1), .val (.int (1 : Int32)), .unset, .unset, .unset, .unset, .unset, .unset] [(.ref b3)])) _
    jvm_step X4.here [X4.here.top, hx, (hb hby d13_28), X4.method', Bd.returns, Value.isRef, FieldType.isReference]
    first | (intro acts; rw [hr _ acts rfl rfl rfl]) | rw [hr _ _ rfl rfl rfl]
    exact Steps.refl _
  · show Q13p Z a1 k1 pv h0 n0 _ T4.heap _
    rw [e4]
    exact ⟨b3, rfl, N2, sz_b3, K3, E_b3, V_b3⟩
theorem d12_0 : decode jdk_42_method_18_code 0 = .ok (.aload_n 0, 1) := by decide +kernel
theorem d12_1 : decode jdk_42_method_18_code 1 = .ok (.getstatic 86, 3) := by decide +kernel
theorem d12_4 : decode jdk_42_method_18_code 4 = .ok (.if_acmp .ne 10, 3) := by decide +kernel
theorem d12_7 : decode jdk_42_method_18_code 7 = .ok (.iload_n 1, 1) := by decide +kernel
theorem d12_8 : decode jdk_42_method_18_code 8 = .ok (.aload_n 2, 1) := by decide +kernel
theorem d12_9 : decode jdk_42_method_18_code 9 = .ok (.iconst 1, 1) := by decide +kernel
theorem d12_10 : decode jdk_42_method_18_code 10 = .ok (.invokestatic 252, 3) := by decide +kernel
theorem pd_2 : parseMethodDescriptor "(B[BZ)[B" = some ⟨[.byte, (.array .byte), .boolean], some (.array .byte)⟩ := by decide +kernel
theorem d12_13 : decode jdk_42_method_18_code 13 = .ok (.areturn, 1) := by decide +kernel
theorem ef_rm12p (m : MethodId) (aU : Addr) (a2 : Addr) : entryFrame m #[(.ref aU), (.int (0 : Int32)), (.ref a2)] 3 = mkF m 0 #[.val (.ref aU), .val (.int (0 : Int32)), .val (.ref a2)] [] := by first | (simp [entryFrame, mkF, argsToLocals, Value.category]; done) | rfl
def Q12p (Z : State) (aU : Addr) (a2 : Addr) (k2 : ClassId) (pv : Int32) (h0 : Heap) (n0 : Nat) (v : Option Value) (h : Heap) (L : List Loc) : Prop := ∃ r0 : Addr, v = some (.ref r0) ∧ Fr n0 L ∧ h0.size ≤ r0 ∧ Keep h0 h [] ∧ Exa Z h r0 "[B" ∧ Arv Z h r0 k2 .byte (1 : Int32) [(.int pv)] (.int (0 : Int32))
set_option maxRecDepth 65536 in
set_option maxHeartbeats 40000000 in
theorem rm12p (l : Launch) (Z : State) (az : Array Value) (hw : ∀ d ∈ tables_1, d.before az Z = true) (ws : List Jvm.Cond) (aU : Addr) (a2 : Addr) (k2 : ClassId) (pv : Int32) (h0 : Heap) (n0 : Nat) (Z0 : n0 ≤ h0.size) (S_INSTANCE : Sta Z h0 "sun/nio/cs/UTF_8" "INSTANCE" "Lsun/nio/cs/UTF_8;" (.ref aU)) (V_a2 : Arv Z h0 a2 k2 .byte (1 : Int32) [(.int pv)] (.int (0 : Int32))) (E_a2 : Exa Z h0 a2 "[B") (hc3 : ¬ (pv < (0 : Int32))) :
    MetFree l (⟨"java/lang/String", "encode", "(Ljava/nio/charset/Charset;B[B)[B"⟩ : MethodName) (head1 (Jvm.Cond.code (⟨"java/lang/String", "encode", "(Ljava/nio/charset/Charset;B[B)[B"⟩ : MethodName) jdk_42_method_18_code 3 (some (.array .byte)) :: ws) ({ frames := 3, cells := 1, slots := 1, locals := 50 } : Room)) (fun a U => a = #[(.ref aU), (.int (0 : Int32)), (.ref a2)] ∧ Z.Warmed39 U.vm ∧ U.heap = h0) (fun _ _ _ _ _ => True) (fun _ U o U' => ∃ v L, o = .returned v ∧ Q12p Z aU a2 k2 pv h0 n0 v U'.heap L ∧ FrameEnd U o U' L ({ frames := 3, cells := 1, slots := 1, locals := 50 } : Room).cells ({ frames := 3, cells := 1, slots := 1, locals := 50 } : Room).slots) := by
  refine MetFree.of_bodySF (plainFor_of_name pn_java_lang_String) hisR ?_
  intro p e s m args below meth c s₁ Bd hml0 hP hK
  obtain ⟨rfl, hZ, hh⟩ := hP
  have hx := Bd.exec
  have hby := Bd.bytes
  have hml : c.maxLocals = 3 := hml0
  have hown : s.vm.findClass "java/lang/String" = some m.cls := findClass_of_methodNamed Bd.named
  have hnm := (name_of_methodNamed Bd.named Bd.method).1
  have X0 : Stand p l e ({ frames := 3, cells := 1, slots := 1, locals := 50 } : Room) s m #[(.ref aU), (.int (0 : Int32)), (.ref a2)] below meth c s₁ [] 0 0 := Stand.of_body Bd
  have e0 : s₁.heap = h0 := by rw [← hh, Bd.state]; rfl
  have N0 := Fr.nil n0
  have pre0 : ∀ t, Steps p.tables e below (s₁.setTop (mkF m 0 #[.val (.ref aU), .val (.int (0 : Int32)), .val (.ref a2)] [])) t → Steps p.tables e below (s₁.setTop (entryFrame m #[(.ref aU), (.int (0 : Int32)), (.ref a2)] 3)) t := fun t k => castTop (ef_rm12p m aU a2) k
  obtain ⟨T1, X1, e1, st1⟩ := getS2 X0 hx hZ hown (host := "") (Or.inl (hw _ (List.mem_of_getElem? (i := 68) rfl))) Via.refl e0 S_INSTANCE (g := (mkF m 1 #[.val (.ref aU), .val (.int (0 : Int32)), .val (.ref a2)] [(.ref aU)])) rfl (hb hby d12_1)
  obtain ⟨_, _, ⟨T2, L2, k2', n2'⟩, -, X2, ⟨Lc2, hQ2, l2, y2, z2⟩, st2⟩ := Jvm.LawKit.callS X1 hx (y := (⟨"java/lang/String", "encodeUTF8", "(B[BZ)[B"⟩ : MethodName)) hown (mvT hZ (hw _ (List.mem_of_getElem? (i := 70) rfl))) (mvT hZ (hw _ (List.mem_of_getElem? (i := 71) rfl))) (mvT hZ (hw _ (List.mem_of_getElem? (i := 2) rfl))) (mvT hZ (hw _ (List.mem_of_getElem? (i := 72) rfl))) (by decide) (backOf (W := 0) (rm13p l Z az hw [] a2 k2 pv h0 n0 Z0 V_a2 E_a2 hc3) hZ (hw _ (List.mem_of_getElem? (i := 72) rfl)) (hw _ (List.mem_of_getElem? (i := 2) rfl)) (by decide) (by decide)) (g := (mkF m 10 #[.val (.ref aU), .val (.int (0 : Int32)), .val (.ref a2)] [(.int (1 : Int32)), (.ref a2), (.int (0 : Int32))])) rfl (by rw [hml]; rfl) (argsL := [(.int (0 : Int32)), (.ref a2), (.int (1 : Int32))]) (rest := []) (lenOf pd_2 rfl) rfl (by show 2 * 0 + _ ≤ _; exact Nat.le_of_eq rfl) (hb hby d12_10) (fun _ _ => ⟨rfl, e1, (by decide : 0 + 1 ≤ _), (by decide : 0 + 1 ≤ _)⟩)
  dsimp only [Pt.U, Pt.locs, Pt.cells, Pt.slots] at X2 l2 y2 z2 st2 hQ2
  subst l2 y2 z2
  obtain ⟨b2_0, rfl, N2q, s2_0, kq2, pf2_0, pf2_1⟩ := hQ2
  have N2 := Fr.app N0 N2q
  have g_b2_0 : n0 ≤ b2_0 := Nat.le_trans Z0 s2_0
  have sz_b2_0 : h0.size ≤ b2_0 := Nat.le_trans (Nat.le_refl _) s2_0
  have K2 : Keep h0 T2.heap [] := (Keep.refl h0 []).trans kq2 all0
  have Z2 : n0 ≤ T2.heap.size := Nat.le_trans Z0 kq2.1
  obtain ⟨fs, hr, hrun, hended, hW, hsame⟩ := X2.leave (v := some (.ref b2_0)) (fun h => by rw [Bd.returns] at h; cases h)
  refine ⟨_, _, pre0 _ ?_, hrun, hended, _, _, rfl, ?_, ⟨_, rfl⟩, hW, hsame.mono (by decide) (by decide)⟩
  · show Steps p.tables e below (s₁.setTop (mkF m 0 #[.val (.ref aU), .val (.int (0 : Int32)), .val (.ref a2)] [])) _
    refine XS.aloadN X0.here hx rfl (hb hby d12_0) rfl rfl ?_
    show Steps p.tables e below (s₁.setTop (mkF m 1 #[.val (.ref aU), .val (.int (0 : Int32)), .val (.ref a2)] [(.ref aU)])) _
    refine st1 _ ?_
    show Steps p.tables e below (T1.setTop (mkF m 4 #[.val (.ref aU), .val (.int (0 : Int32)), .val (.ref a2)] [(.ref aU), (.ref aU)])) _
    refine Jvm.RoadKit.acmp (g := (mkF m 4 #[.val (.ref aU), .val (.int (0 : Int32)), .val (.ref a2)] [(.ref aU), (.ref aU)])) X1 hx rfl rfl rfl (pc0 := 4) (pc' := 7) (same := true) rfl (hb hby d12_4) rfl (decide_eq_true rfl) (by decide) (by decide) ?_
    show Steps p.tables e below (T1.setTop (mkF m 7 #[.val (.ref aU), .val (.int (0 : Int32)), .val (.ref a2)] [])) _
    refine XS.iloadN X1.here hx rfl (hb hby d12_7) rfl ?_
    show Steps p.tables e below (T1.setTop (mkF m 8 #[.val (.ref aU), .val (.int (0 : Int32)), .val (.ref a2)] [(.int (0 : Int32))])) _
    refine XS.aloadN X1.here hx rfl (hb hby d12_8) rfl rfl ?_
    show Steps p.tables e below (T1.setTop (mkF m 9 #[.val (.ref aU), .val (.int (0 : Int32)), .val (.ref a2)] [(.ref a2), (.int (0 : Int32))])) _
    refine XS.iconst X1.here hx rfl (hb hby d12_9) ?_
    show Steps p.tables e below (T1.setTop (mkF m 10 #[.val (.ref aU), .val (.int (0 : Int32)), .val (.ref a2)] [(.int (1 : Int32)), (.ref a2), (.int (0 : Int32))])) _
    refine st2 _ ?_
    show Steps p.tables e below (T2.setTop (mkF m 13 #[.val (.ref aU), .val (.int (0 : Int32)), .val (.ref a2)] [(.ref b2_0)])) _
    jvm_step X2.here [X2.here.top, hx, (hb hby d12_13), X2.method', Bd.returns, Value.isRef, FieldType.isReference]
    first | (intro acts; rw [hr _ acts rfl rfl rfl]) | rw [hr _ _ rfl rfl rfl]
    exact Steps.refl _
  · show Q12p Z aU a2 k2 pv h0 n0 _ T2.heap _
    exact ⟨b2_0, rfl, N2, sz_b2_0, K2, pf2_0, pf2_1⟩
theorem d10_0 : decode jdk_42_method_64_code 0 = .ok (.aload_n 1, 1) := by decide +kernel
theorem d10_1 : decode jdk_42_method_64_code 1 = .ok (.ifnonnull 11, 3) := by decide +kernel
theorem d10_12 : decode jdk_42_method_64_code 12 = .ok (.aload_n 1, 1) := by decide +kernel
theorem d10_13 : decode jdk_42_method_64_code 13 = .ok (.aload_n 0, 1) := by decide +kernel
theorem d10_14 : decode jdk_42_method_64_code 14 = .ok (.invokevirtual 335, 3) := by decide +kernel
theorem pd_3 : parseMethodDescriptor "()B" = some ⟨[], some .byte⟩ := by decide +kernel
theorem d10_17 : decode jdk_42_method_64_code 17 = .ok (.aload_n 0, 1) := by decide +kernel
theorem d10_18 : decode jdk_42_method_64_code 18 = .ok (.getfield 9, 3) := by decide +kernel
theorem d10_21 : decode jdk_42_method_64_code 21 = .ok (.invokestatic 535, 3) := by decide +kernel
theorem pd_4 : parseMethodDescriptor "(Ljava/nio/charset/Charset;B[B)[B" = some ⟨[(.object "java/nio/charset/Charset"), .byte, (.array .byte)], some (.array .byte)⟩ := by decide +kernel
theorem d10_24 : decode jdk_42_method_64_code 24 = .ok (.areturn, 1) := by decide +kernel
theorem ef_rm10p (m : MethodId) (a0 : Addr) (aU : Addr) : entryFrame m #[(.ref a0), (.ref aU)] 2 = mkF m 0 #[.val (.ref a0), .val (.ref aU)] [] := by first | (simp [entryFrame, mkF, argsToLocals, Value.category]; done) | rfl
def Q10p (Z : State) (a0 : Addr) (aU : Addr) (aB : Addr) (kB : ClassId) (pv : Int32) (s_COMPACT_STRINGS : Int32) (h0 : Heap) (n0 : Nat) (v : Option Value) (h : Heap) (L : List Loc) : Prop := ∃ r0 : Addr, v = some (.ref r0) ∧ Fr n0 L ∧ h0.size ≤ r0 ∧ Keep h0 h [] ∧ Exa Z h r0 "[B" ∧ Arv Z h r0 kB .byte (1 : Int32) [(.int pv)] (.int (0 : Int32))
set_option maxRecDepth 65536 in
set_option maxHeartbeats 40000000 in
theorem rm10p (l : Launch) (Z : State) (az : Array Value) (hw : ∀ d ∈ tables_1, d.before az Z = true) (ws : List Jvm.Cond) (a0 : Addr) (aU : Addr) (aB : Addr) (kB : ClassId) (pv : Int32) (s_COMPACT_STRINGS : Int32) (h0 : Heap) (n0 : Nat) (Z0 : n0 ≤ h0.size) (E_a0 : Exa Z h0 a0 "java/lang/String") (F_coder_a0 : Fld Z h0 a0 "java/lang/String" "coder" "B" (.int (0 : Int32))) (F_value_a0 : Fld Z h0 a0 "java/lang/String" "value" "[B" (.ref aB)) (V_aB : Arv Z h0 aB kB .byte (1 : Int32) [(.int pv)] (.int (0 : Int32))) (E_aB : Exa Z h0 aB "[B") (S_INSTANCE : Sta Z h0 "sun/nio/cs/UTF_8" "INSTANCE" "Lsun/nio/cs/UTF_8;" (.ref aU)) (hc6 : ¬ (pv < (0 : Int32))) (S_COMPACT_STRINGS : Sta Z h0 "java/lang/String" "COMPACT_STRINGS" "Z" (.int s_COMPACT_STRINGS)) (hc8 : ¬ (s_COMPACT_STRINGS = (0 : Int32))) :
    MetFree l (⟨"java/lang/String", "getBytes", "(Ljava/nio/charset/Charset;)[B"⟩ : MethodName) (head1 (Jvm.Cond.code (⟨"java/lang/String", "getBytes", "(Ljava/nio/charset/Charset;)[B"⟩ : MethodName) jdk_42_method_64_code 2 (some (.array .byte)) :: ws) ({ frames := 4, cells := 1, slots := 1, locals := 64 } : Room)) (fun a U => a = #[(.ref a0), (.ref aU)] ∧ Z.Warmed39 U.vm ∧ U.heap = h0) (fun _ _ _ _ _ => True) (fun _ U o U' => ∃ v L, o = .returned v ∧ Q10p Z a0 aU aB kB pv s_COMPACT_STRINGS h0 n0 v U'.heap L ∧ FrameEnd U o U' L ({ frames := 4, cells := 1, slots := 1, locals := 64 } : Room).cells ({ frames := 4, cells := 1, slots := 1, locals := 64 } : Room).slots) := by
  refine MetFree.of_bodySF (plainFor_of_name pn_java_lang_String) hisR ?_
  intro p e s m args below meth c s₁ Bd hml0 hP hK
  obtain ⟨rfl, hZ, hh⟩ := hP
  have hx := Bd.exec
  have hby := Bd.bytes
  have hml : c.maxLocals = 2 := hml0
  have hown : s.vm.findClass "java/lang/String" = some m.cls := findClass_of_methodNamed Bd.named
  have hnm := (name_of_methodNamed Bd.named Bd.method).1
  have X0 : Stand p l e ({ frames := 4, cells := 1, slots := 1, locals := 64 } : Room) s m #[(.ref a0), (.ref aU)] below meth c s₁ [] 0 0 := Stand.of_body Bd
  have e0 : s₁.heap = h0 := by rw [← hh, Bd.state]; rfl
  have N0 := Fr.nil n0
  have pre0 : ∀ t, Steps p.tables e below (s₁.setTop (mkF m 0 #[.val (.ref a0), .val (.ref aU)] [])) t → Steps p.tables e below (s₁.setTop (entryFrame m #[(.ref a0), (.ref aU)] 2)) t := fun t k => castTop (ef_rm10p m a0 aU) k
  obtain ⟨cq1, kq1, q1a, q1b, q1c⟩ := isOf hZ e0 E_a0
  obtain ⟨_, _, ⟨T1, L1, k1', n1'⟩, -, X1, ⟨Lc1, hQ1, l1, y1, z1⟩, st1⟩ := X0.virtualBack hx (y := (⟨"java/lang/String", "coder", "()B"⟩ : MethodName)) (z := (⟨"java/lang/String", "coder", "()B"⟩ : MethodName)) hown (mvT hZ (hw _ (List.mem_of_getElem? (i := 60) rfl))) (mvT hZ (hw _ (List.mem_of_getElem? (i := 61) rfl))) (notFace_of_selects (args := #[]) (mvT hZ (hw _ (List.mem_of_getElem? (i := 63) rfl)))) (mvT hZ (hw _ (List.mem_of_getElem? (i := 63) rfl))) (mvT hZ (hw _ (List.mem_of_getElem? (i := 62) rfl))) (by decide) (backOf (W := 1) (rm11 l Z az hw [] a0 s_COMPACT_STRINGS h0 n0 Z0 F_coder_a0 S_COMPACT_STRINGS hc8) hZ (hw _ (List.mem_of_getElem? (i := 64) rfl)) (hw _ (List.mem_of_getElem? (i := 2) rfl)) (by decide) (by decide)) q1a q1c (g := (mkF m 14 #[.val (.ref a0), .val (.ref aU)] [(.ref a0), (.ref aU)])) rfl (by rw [hml]; rfl) (Steps.refl _) (argsL := []) (rest := [(.ref aU)]) (lenOf pd_3 rfl) rfl (by show 2 * 0 + _ ≤ _; exact Nat.le_of_eq rfl) (hb hby d10_14) (fun _ _ => ⟨rfl, e0, (by decide : 0 + 0 ≤ _), (by decide : 0 + 0 ≤ _)⟩)
  dsimp only [Pt.U, Pt.locs, Pt.cells, Pt.slots] at X1 l1 y1 z1 st1 hQ1
  subst l1 y1 z1
  obtain ⟨rfl, N1q, e1⟩ := hQ1
  have N1 := Fr.app N0 N1q
  obtain ⟨T2, X2, e2, st2⟩ := getF X1 hx hZ hown (host := "") (Or.inl (hw _ (List.mem_of_getElem? (i := 22) rfl))) Via.refl e1 F_value_a0 (g := (mkF m 18 #[.val (.ref a0), .val (.ref aU)] [(.ref a0), (.int (0 : Int32)), (.ref aU)])) rfl rfl (hb hby d10_18)
  obtain ⟨_, _, ⟨T3, L3, k3', n3'⟩, -, X3, ⟨Lc3, hQ3, l3, y3, z3⟩, st3⟩ := Jvm.LawKit.callS X2 hx (y := (⟨"java/lang/String", "encode", "(Ljava/nio/charset/Charset;B[B)[B"⟩ : MethodName)) hown (mvT hZ (hw _ (List.mem_of_getElem? (i := 65) rfl))) (mvT hZ (hw _ (List.mem_of_getElem? (i := 66) rfl))) (mvT hZ (hw _ (List.mem_of_getElem? (i := 2) rfl))) (mvT hZ (hw _ (List.mem_of_getElem? (i := 67) rfl))) (by decide) (backOf (W := 0) (rm12p l Z az hw [] aU aB kB pv h0 n0 Z0 S_INSTANCE V_aB E_aB hc6) hZ (hw _ (List.mem_of_getElem? (i := 67) rfl)) (hw _ (List.mem_of_getElem? (i := 2) rfl)) (by decide) (by decide)) (g := (mkF m 21 #[.val (.ref a0), .val (.ref aU)] [(.ref aB), (.int (0 : Int32)), (.ref aU)])) rfl (by rw [hml]; rfl) (argsL := [(.ref aU), (.int (0 : Int32)), (.ref aB)]) (rest := []) (lenOf pd_4 rfl) rfl (by show 2 * 0 + _ ≤ _; exact Nat.le_of_eq rfl) (hb hby d10_21) (fun _ _ => ⟨rfl, e2, (by decide : 0 + 1 ≤ _), (by decide : 0 + 1 ≤ _)⟩)
  dsimp only [Pt.U, Pt.locs, Pt.cells, Pt.slots] at X3 l3 y3 z3 st3 hQ3
  subst l3 y3 z3
  obtain ⟨b3_0, rfl, N3q, s3_0, kq3, pf3_0, pf3_1⟩ := hQ3
  have N3 := Fr.app N1 N3q
  have g_b3_0 : n0 ≤ b3_0 := Nat.le_trans Z0 s3_0
  have sz_b3_0 : h0.size ≤ b3_0 := Nat.le_trans (Nat.le_refl _) s3_0
  have K3 : Keep h0 T3.heap [] := (Keep.refl h0 []).trans kq3 all0
  have Z3 : n0 ≤ T3.heap.size := Nat.le_trans Z0 kq3.1
  obtain ⟨fs, hr, hrun, hended, hW, hsame⟩ := X3.leave (v := some (.ref b3_0)) (fun h => by rw [Bd.returns] at h; cases h)
  refine ⟨_, _, pre0 _ ?_, hrun, hended, _, _, rfl, ?_, ⟨_, rfl⟩, hW, hsame.mono (by decide) (by decide)⟩
  · show Steps p.tables e below (s₁.setTop (mkF m 0 #[.val (.ref a0), .val (.ref aU)] [])) _
    refine XS.aloadN X0.here hx rfl (hb hby d10_0) rfl rfl ?_
    show Steps p.tables e below (s₁.setTop (mkF m 1 #[.val (.ref a0), .val (.ref aU)] [(.ref aU)])) _
    refine XS.ifnonnullYes X0.here hx rfl (pc0 := 1) (pc' := 12) rfl (hb hby d10_1) rfl (by decide) (by decide) ?_
    show Steps p.tables e below (s₁.setTop (mkF m 12 #[.val (.ref a0), .val (.ref aU)] [])) _
    refine XS.aloadN X0.here hx rfl (hb hby d10_12) rfl rfl ?_
    show Steps p.tables e below (s₁.setTop (mkF m 13 #[.val (.ref a0), .val (.ref aU)] [(.ref aU)])) _
    refine XS.aloadN X0.here hx rfl (hb hby d10_13) rfl rfl ?_
    show Steps p.tables e below (s₁.setTop (mkF m 14 #[.val (.ref a0), .val (.ref aU)] [(.ref a0), (.ref aU)])) _
    refine st1.trans ?_
    show Steps p.tables e below (T1.setTop (mkF m 17 #[.val (.ref a0), .val (.ref aU)] [(.int (0 : Int32)), (.ref aU)])) _
    refine XS.aloadN X1.here hx rfl (hb hby d10_17) rfl rfl ?_
    show Steps p.tables e below (T1.setTop (mkF m 18 #[.val (.ref a0), .val (.ref aU)] [(.ref a0), (.int (0 : Int32)), (.ref aU)])) _
    refine st2 _ ?_
    show Steps p.tables e below (T2.setTop (mkF m 21 #[.val (.ref a0), .val (.ref aU)] [(.ref aB), (.int (0 : Int32)), (.ref aU)])) _
    refine st3 _ ?_
    show Steps p.tables e below (T3.setTop (mkF m 24 #[.val (.ref a0), .val (.ref aU)] [(.ref b3_0)])) _
    jvm_step X3.here [X3.here.top, hx, (hb hby d10_24), X3.method', Bd.returns, Value.isRef, FieldType.isReference]
    first | (intro acts; rw [hr _ acts rfl rfl rfl]) | rw [hr _ _ rfl rfl rfl]
    exact Steps.refl _
  · show Q10p Z a0 aU aB kB pv s_COMPACT_STRINGS h0 n0 _ T3.heap _
    exact ⟨b3_0, rfl, N3, sz_b3_0, K3, pf3_0, pf3_1⟩
theorem d8_0 : decode prog_11_method_1_code 0 = .ok (.aload_n 0, 1) := by decide +kernel
theorem d8_1 : decode prog_11_method_1_code 1 = .ok (.invokespecial 1, 3) := by decide +kernel
theorem d8_4 : decode prog_11_method_1_code 4 = .ok (.aload_n 0, 1) := by decide +kernel
theorem d8_5 : decode prog_11_method_1_code 5 = .ok (.aload_n 1, 1) := by decide +kernel
theorem d8_6 : decode prog_11_method_1_code 6 = .ok (.ldc 7, 2) := by decide +kernel
theorem d8_8 : decode prog_11_method_1_code 8 = .ok (.invokestatic 9, 3) := by decide +kernel
theorem pd_5 : parseMethodDescriptor "(Ljava/lang/Object;Ljava/lang/String;)Ljava/lang/Object;" = some ⟨[(.object "java/lang/Object"), (.object "java/lang/String")], some (.object "java/lang/Object")⟩ := by decide +kernel
theorem d8_11 : decode prog_11_method_1_code 11 = .ok (.checkcast 15, 3) := by decide +kernel
theorem d8_14 : decode prog_11_method_1_code 14 = .ok (.putfield 17, 3) := by decide +kernel
theorem d8_17 : decode prog_11_method_1_code 17 = .ok (.aload_n 0, 1) := by decide +kernel
theorem d8_18 : decode prog_11_method_1_code 18 = .ok (.aload_n 1, 1) := by decide +kernel
theorem d8_19 : decode prog_11_method_1_code 19 = .ok (.getstatic 22, 3) := by decide +kernel
theorem d8_22 : decode prog_11_method_1_code 22 = .ok (.invokevirtual 28, 3) := by decide +kernel
theorem pd_6 : parseMethodDescriptor "(Ljava/nio/charset/Charset;)[B" = some ⟨[(.object "java/nio/charset/Charset")], some (.array .byte)⟩ := by decide +kernel
theorem d8_25 : decode prog_11_method_1_code 25 = .ok (.putfield 32, 3) := by decide +kernel
theorem d8_28 : decode prog_11_method_1_code 28 = .ok (.return_, 1) := by decide +kernel
theorem pn_com_example_fireweed_fireweed_layout_Salt : plainName "com/example/fireweed/fireweed/layout/Salt" = true := by first | (simp [plainName, overriddenIn]; done) | decide +kernel
theorem ef_rm8p (m : MethodId) (a0 : Addr) (a1 : Addr) : entryFrame m #[(.ref a0), (.ref a1)] 2 = mkF m 0 #[.val (.ref a0), .val (.ref a1)] [] := by first | (simp [entryFrame, mkF, argsToLocals, Value.category]; done) | rfl
def Q8p (Z : State) (a0 : Addr) (a1 : Addr) (aB : Addr) (kB : ClassId) (pv : Int32) (aU : Addr) (s_COMPACT_STRINGS : Int32) (h0 : Heap) (n0 : Nat) (v : Option Value) (h : Heap) (L : List Loc) : Prop := ∃ r0 : Addr, v = none ∧ Fr n0 L ∧ h0.size ≤ r0 ∧ Keep h0 h [a0] ∧ Exa Z h a0 "com/example/fireweed/fireweed/layout/Java31ByteSalt" ∧ Fld Z h a0 "com/example/fireweed/fireweed/layout/Salt" "suffix" "Ljava/lang/String;" (.ref a1) ∧ Fld Z h a0 "com/example/fireweed/fireweed/layout/Salt" "suffixBytes" "[B" (.ref r0) ∧ Fld Z h a0 "com/example/fireweed/fireweed/layout/Java31ByteSalt" "buckets" "I" (.int (0 : Int32)) ∧ Fld Z h a0 "com/example/fireweed/fireweed/layout/Java31ByteSalt" "mask" "I" (.int (0 : Int32)) ∧ Fld Z h a0 "com/example/fireweed/fireweed/layout/Java31ByteSalt" "overflow" "I" (.int (0 : Int32)) ∧ Exa Z h r0 "[B" ∧ Arv Z h r0 kB .byte (1 : Int32) [(.int pv)] (.int (0 : Int32))
set_option maxRecDepth 65536 in
set_option maxHeartbeats 40000000 in
theorem rm8p (l : Launch) (Z : State) (az : Array Value) (hw : ∀ d ∈ tables_1, d.before az Z = true) (ws : List Jvm.Cond) (a0 : Addr) (a1 : Addr) (aB : Addr) (kB : ClassId) (pv : Int32) (aU : Addr) (s_COMPACT_STRINGS : Int32) (h0 : Heap) (n0 : Nat) (Z0 : n0 ≤ h0.size) (E_a0 : Exa Z h0 a0 "com/example/fireweed/fireweed/layout/Java31ByteSalt") (F_suffix_a0 : Fld Z h0 a0 "com/example/fireweed/fireweed/layout/Salt" "suffix" "Ljava/lang/String;" .null) (F_suffixBytes_a0 : Fld Z h0 a0 "com/example/fireweed/fireweed/layout/Salt" "suffixBytes" "[B" .null) (F_buckets_a0 : Fld Z h0 a0 "com/example/fireweed/fireweed/layout/Java31ByteSalt" "buckets" "I" (.int (0 : Int32))) (F_mask_a0 : Fld Z h0 a0 "com/example/fireweed/fireweed/layout/Java31ByteSalt" "mask" "I" (.int (0 : Int32))) (F_overflow_a0 : Fld Z h0 a0 "com/example/fireweed/fireweed/layout/Java31ByteSalt" "overflow" "I" (.int (0 : Int32))) (E_a1 : Exa Z h0 a1 "java/lang/String") (F_coder_a1 : Fld Z h0 a1 "java/lang/String" "coder" "B" (.int (0 : Int32))) (F_value_a1 : Fld Z h0 a1 "java/lang/String" "value" "[B" (.ref aB)) (V_aB : Arv Z h0 aB kB .byte (1 : Int32) [(.int pv)] (.int (0 : Int32))) (E_aB : Exa Z h0 aB "[B") (S_INSTANCE : Sta Z h0 "sun/nio/cs/UTF_8" "INSTANCE" "Lsun/nio/cs/UTF_8;" (.ref aU)) (S_UTF_8 : Sta Z h0 "java/nio/charset/StandardCharsets" "UTF_8" "Ljava/nio/charset/Charset;" (.ref aU)) (hc13 : ¬ (pv < (0 : Int32))) (g_a0 : n0 ≤ a0) (S_COMPACT_STRINGS : Sta Z h0 "java/lang/String" "COMPACT_STRINGS" "Z" (.int s_COMPACT_STRINGS)) (hne_a1_a0 : a1 ≠ a0) (hne_aB_a0 : aB ≠ a0) (hc18 : ¬ (s_COMPACT_STRINGS = (0 : Int32))) :
    MetFree l (⟨"com/example/fireweed/fireweed/layout/Salt", "<init>", "(Ljava/lang/String;)V"⟩ : MethodName) (head1 (Jvm.Cond.code (⟨"com/example/fireweed/fireweed/layout/Salt", "<init>", "(Ljava/lang/String;)V"⟩ : MethodName) prog_11_method_1_code 2 none :: ws) ({ frames := 5, cells := 3, slots := 29, locals := 78 } : Room)) (fun a U => a = #[(.ref a0), (.ref a1)] ∧ Z.Warmed39 U.vm ∧ U.heap = h0) (fun _ _ _ _ _ => True) (fun _ U o U' => ∃ v L, o = .returned v ∧ Q8p Z a0 a1 aB kB pv aU s_COMPACT_STRINGS h0 n0 v U'.heap L ∧ ReturnedEndW U o U' L ({ frames := 5, cells := 3, slots := 29, locals := 78 } : Room).cells ({ frames := 5, cells := 3, slots := 29, locals := 78 } : Room).slots) := by
  refine MetFree.of_bodySF (plainFor_of_name pn_com_example_fireweed_fireweed_layout_Salt) hisR ?_
  intro p e s m args below meth c s₁ Bd hml0 hP hK
  obtain ⟨rfl, hZ, hh⟩ := hP
  have hx := Bd.exec
  have hby := Bd.bytes
  have hml : c.maxLocals = 2 := hml0
  have hown : s.vm.findClass "com/example/fireweed/fireweed/layout/Salt" = some m.cls := findClass_of_methodNamed Bd.named
  have hnm := (name_of_methodNamed Bd.named Bd.method).1
  have X0 : Stand p l e ({ frames := 5, cells := 3, slots := 29, locals := 78 } : Room) s m #[(.ref a0), (.ref a1)] below meth c s₁ [] 0 0 := Stand.of_body Bd
  have e0 : s₁.heap = h0 := by rw [← hh, Bd.state]; rfl
  have N0 := Fr.nil n0
  have pre0 : ∀ t, Steps p.tables e below (s₁.setTop (mkF m 0 #[.val (.ref a0), .val (.ref a1)] [])) t → Steps p.tables e below (s₁.setTop (entryFrame m #[(.ref a0), (.ref a1)] 2)) t := fun t k => castTop (ef_rm8p m a0 a1) k
  have hS0 : s.Since s.vm 0 := (State.WarmedH.refl s).since 0
  have wS : ∀ a ∈ Bundle.stringAtoms, a.before az Z = true := fun d hd => by
    simp only [Bundle.stringAtoms, List.mem_cons, List.not_mem_nil, or_false] at hd
    rcases hd with rfl | rfl | rfl | rfl | rfl | rfl | rfl
    · exact (hw _ (List.mem_of_getElem? (i := 2) rfl))
    · exact (hw _ (List.mem_of_getElem? (i := 10) rfl))
    · exact (hw _ (List.mem_of_getElem? (i := 14) rfl))
    · exact (hw _ (List.mem_of_getElem? (i := 23) rfl))
    · exact (hw _ (List.mem_of_getElem? (i := 25) rfl))
    · exact (hw _ (List.mem_of_getElem? (i := 44) rfl))
    · exact (hw _ (List.mem_of_getElem? (i := 45) rfl))
  obtain ⟨T1, X1, e1, st1⟩ := initO X0 hx hZ hown (hw _ (List.mem_of_getElem? (i := 42) rfl)) (hw _ (List.mem_of_getElem? (i := 20) rfl)) (hw _ (List.mem_of_getElem? (i := 21) rfl)) e0 (g := (mkF m 1 #[.val (.ref a0), .val (.ref a1)] [(.ref a0)])) rfl (by rw [hml]; rfl) rfl (hb hby d8_1) (by decide) (W := 0) (by show 2 * 0 + _ ≤ _; exact Nat.le_of_eq rfl) (by decide)
  obtain ⟨l2, T2, h2, kk2, X2, e2, E2, hS2, hk2, hZ2, hown2, st2⟩ := ldcS (s := s) (vm0 := s.vm) X1 hx hZ hown (hw _ (List.mem_of_getElem? (i := 43) rfl)) wS e1 hS0 (Nat.zero_le _) (g := (mkF m 6 #[.val (.ref a0), .val (.ref a1)] [(.ref a1), (.ref a0)])) rfl (hb hby d8_6) (n := 24) (by decide) (by decide) (by decide) (by decide)
  have Z2 : n0 ≤ h2.size := Nat.le_trans Z0 E2.1
  have K2 : Keep h0 h2 [a0] := (Keep.refl h0 [a0]).ext E2
  obtain ⟨_, _, ⟨T3, L3, k3', n3'⟩, -, X3, ⟨Lc3, hQ3, l3, y3, z3⟩, st3⟩ := Jvm.LawKit.callS X2 hx (y := (⟨"java/util/Objects", "requireNonNull", "(Ljava/lang/Object;Ljava/lang/String;)Ljava/lang/Object;"⟩ : MethodName)) hown2 (mvT hZ2 (hw _ (List.mem_of_getElem? (i := 46) rfl))) (mvT hZ2 (hw _ (List.mem_of_getElem? (i := 47) rfl))) (mvT hZ2 (hw _ (List.mem_of_getElem? (i := 48) rfl))) (mvT hZ2 (hw _ (List.mem_of_getElem? (i := 49) rfl))) (by decide) (backOf (W := 1) (rm9 l Z az hw [] a1 l2 h2 n0 Z2) hZ2 (hw _ (List.mem_of_getElem? (i := 49) rfl)) (hw _ (List.mem_of_getElem? (i := 48) rfl)) (by decide) (by decide)) (g := (mkF m 8 #[.val (.ref a0), .val (.ref a1)] [(.ref l2), (.ref a1), (.ref a0)])) rfl (by rw [hml]; rfl) (argsL := [(.ref a1), (.ref l2)]) (rest := [(.ref a0)]) (lenOf pd_5 rfl) rfl (by show 2 * 0 + _ ≤ _; exact Nat.le_of_eq rfl) (hb hby d8_8) (fun _ _ => ⟨rfl, e2, (by decide : 2 + 0 ≤ _), (by decide : 28 + 0 ≤ _)⟩)
  dsimp only [Pt.U, Pt.locs, Pt.cells, Pt.slots] at X3 l3 y3 z3 st3 hQ3
  subst l3 y3 z3
  obtain ⟨rfl, N3q, e3⟩ := hQ3
  have N3 := Fr.app N0 N3q
  have E_a1_u4 : Exa Z h2 a1 "java/lang/String" := (E_a1.ext E2)
  obtain ⟨T5, X5, e5, st5⟩ := castY X3 hx hZ2 hown2 (hw _ (List.mem_of_getElem? (i := 50) rfl)) e3 (Ins.self E_a1_u4) (g := (mkF m 11 #[.val (.ref a0), .val (.ref a1)] [(.ref a1), (.ref a0)])) rfl rfl (hb hby d8_11)
  have F_a0_suffix_u6 : Fld Z h2 a0 "com/example/fireweed/fireweed/layout/Salt" "suffix" "Ljava/lang/String;" .null := (F_suffix_a0.ext E2)
  have E_a0_u7 : Exa Z h2 a0 "com/example/fireweed/fireweed/layout/Java31ByteSalt" := (E_a0.ext E2)
  obtain ⟨T8, h8, X8, e8, W8, st8⟩ := putF X5 hx hZ2 hown2 (host := "") (Or.inl (hw _ (List.mem_of_getElem? (i := 51) rfl))) Via.refl e5 F_a0_suffix_u6 E_a0_u7 (Or.inr ⟨(hw _ (List.mem_of_getElem? (i := 52) rfl)), rfl, hnm⟩) (hw _ (List.mem_of_getElem? (i := 27) rfl)) (ty := (.object "java/lang/String")) (by decide) rfl rfl (g := (mkF m 14 #[.val (.ref a0), .val (.ref a1)] [(.ref a1), (.ref a0)])) rfl rfl (hb hby d8_14)
  have K8 : Keep h0 h8 [a0] := K2.wr W8 (Or.inl (List.mem_of_getElem? (i := 0) rfl))
  have Fw8 := F_a0_suffix_u6.same W8
  have Z8 : n0 ≤ h8.size := Nat.le_trans Z2 (Keep.of_wr W8).1
  have N8 := Fr.snoc X8 N3 g_a0
  have S_StandardCharsets_UTF_8_u9 : Sta Z h8 "java/nio/charset/StandardCharsets" "UTF_8" "Ljava/nio/charset/Charset;" (.ref aU) := ((S_UTF_8.ext E2).wr W8)
  obtain ⟨T10, X10, e10, st10⟩ := getS2 X8 hx hZ2 hown2 (host := "") (Or.inl (hw _ (List.mem_of_getElem? (i := 53) rfl))) Via.refl e8 S_StandardCharsets_UTF_8_u9 (g := (mkF m 19 #[.val (.ref a0), .val (.ref a1)] [(.ref a1), (.ref a0)])) rfl (hb hby d8_19)
  have E_a1_u12 : Exa Z h8 a1 "java/lang/String" := (E_a1_u4.wr W8)
  have F_a1_coder_u13 : Fld Z h8 a1 "java/lang/String" "coder" "B" (.int (0 : Int32)) := ((F_coder_a1.ext E2).other W8 (Or.inl hne_a1_a0))
  have F_a1_value_u14 : Fld Z h8 a1 "java/lang/String" "value" "[B" (.ref aB) := ((F_value_a1.ext E2).other W8 (Or.inl hne_a1_a0))
  have V_aB_u15 : Arv Z h8 aB kB .byte (1 : Int32) [(.int pv)] (.int (0 : Int32)) := ((V_aB.ext E2).other W8 hne_aB_a0)
  have E_aB_u16 : Exa Z h8 aB "[B" := ((E_aB.ext E2).wr W8)
  have S_UTF_8_INSTANCE_u17 : Sta Z h8 "sun/nio/cs/UTF_8" "INSTANCE" "Lsun/nio/cs/UTF_8;" (.ref aU) := ((S_INSTANCE.ext E2).wr W8)
  have S_String_COMPACT_STRINGS_u18 : Sta Z h8 "java/lang/String" "COMPACT_STRINGS" "Z" (.int s_COMPACT_STRINGS) := ((S_COMPACT_STRINGS.ext E2).wr W8)
  obtain ⟨cq11, kq11, q11a, q11b, q11c⟩ := isOf hZ2 e10 E_a1_u12
  obtain ⟨_, _, ⟨T11, L11, k11', n11'⟩, -, X11, ⟨Lc11, hQ11, l11, y11, z11⟩, st11⟩ := X10.virtualBack hx (y := (⟨"java/lang/String", "getBytes", "(Ljava/nio/charset/Charset;)[B"⟩ : MethodName)) (z := (⟨"java/lang/String", "getBytes", "(Ljava/nio/charset/Charset;)[B"⟩ : MethodName)) hown2 (mvT hZ2 (hw _ (List.mem_of_getElem? (i := 55) rfl))) (mvT hZ2 (hw _ (List.mem_of_getElem? (i := 56) rfl))) (notFace_of_selects (args := #[]) (mvT hZ2 (hw _ (List.mem_of_getElem? (i := 58) rfl)))) (mvT hZ2 (hw _ (List.mem_of_getElem? (i := 58) rfl))) (mvT hZ2 (hw _ (List.mem_of_getElem? (i := 57) rfl))) (by decide) (backOf (W := 1) (rm10p l Z az hw [] a1 aU aB kB pv s_COMPACT_STRINGS h8 n0 Z8 E_a1_u12 F_a1_coder_u13 F_a1_value_u14 V_aB_u15 E_aB_u16 S_UTF_8_INSTANCE_u17 hc13 S_String_COMPACT_STRINGS_u18 hc18) hZ2 (hw _ (List.mem_of_getElem? (i := 59) rfl)) (hw _ (List.mem_of_getElem? (i := 2) rfl)) (by decide) (by decide)) q11a q11c (g := (mkF m 22 #[.val (.ref a0), .val (.ref a1)] [(.ref aU), (.ref a1), (.ref a0)])) rfl (by rw [hml]; rfl) (Steps.refl _) (argsL := [(.ref aU)]) (rest := [(.ref a0)]) (lenOf pd_6 rfl) rfl (by show 2 * 0 + _ ≤ _; exact Nat.le_of_eq rfl) (hb hby d8_22) (fun _ _ => ⟨rfl, e10, (by decide : 2 + 1 ≤ _), (by decide : 28 + 1 ≤ _)⟩)
  dsimp only [Pt.U, Pt.locs, Pt.cells, Pt.slots] at X11 l11 y11 z11 st11 hQ11
  subst l11 y11 z11
  obtain ⟨b11_0, rfl, N11q, s11_0, kq11, pf11_0, pf11_1⟩ := hQ11
  have N11 := Fr.app N8 N11q
  have g_b11_0 : n0 ≤ b11_0 := Nat.le_trans Z8 s11_0
  have sz_b11_0 : h0.size ≤ b11_0 := Nat.le_trans K8.1 s11_0
  have K11 : Keep h0 T11.heap [a0] := K8.trans kq11 all0
  have Z11 : n0 ≤ T11.heap.size := Nat.le_trans Z8 kq11.1
  have F_a0_suffixBytes_u19 : Fld Z T11.heap a0 "com/example/fireweed/fireweed/layout/Salt" "suffixBytes" "[B" .null := (((F_suffixBytes_a0.ext E2).other W8 (Or.inr (slot_ne (Or.inr (hw _ (List.mem_of_getElem? (i := 90) rfl))) (Or.inr (hw _ (List.mem_of_getElem? (i := 52) rfl))) (by decide) (t := (.array .byte)) (t' := (.object "java/lang/String")) (by decide) (by decide)))).keep kq11 nin0)
  have E_a0_u20 : Exa Z T11.heap a0 "com/example/fireweed/fireweed/layout/Java31ByteSalt" := ((E_a0_u7.wr W8).keep kq11)
  obtain ⟨T21, h21, X21, e21, W21, st21⟩ := putF X11 hx hZ2 hown2 (host := "") (Or.inl (hw _ (List.mem_of_getElem? (i := 89) rfl))) Via.refl rfl F_a0_suffixBytes_u19 E_a0_u20 (Or.inr ⟨(hw _ (List.mem_of_getElem? (i := 90) rfl)), rfl, hnm⟩) (hw _ (List.mem_of_getElem? (i := 27) rfl)) (ty := (.array .byte)) (by decide) rfl rfl (g := (mkF m 25 #[.val (.ref a0), .val (.ref a1)] [(.ref b11_0), (.ref a0)])) rfl rfl (hb hby d8_25)
  have K21 : Keep h0 h21 [a0] := K11.wr W21 (Or.inl (List.mem_of_getElem? (i := 0) rfl))
  have Fw21 := F_a0_suffixBytes_u19.same W21
  have Z21 : n0 ≤ h21.size := Nat.le_trans Z11 (Keep.of_wr W21).1
  have N21 := Fr.snoc X21 N11 g_a0
  have E_a0_u22 : Exa Z h21 a0 "com/example/fireweed/fireweed/layout/Java31ByteSalt" := (E_a0_u20.wr W21)
  have F_a0_suffix_u23 : Fld Z h21 a0 "com/example/fireweed/fireweed/layout/Salt" "suffix" "Ljava/lang/String;" (.ref a1) := ((Fw8.keep kq11 nin0).other W21 (Or.inr (slot_ne (Or.inr (hw _ (List.mem_of_getElem? (i := 52) rfl))) (Or.inr (hw _ (List.mem_of_getElem? (i := 90) rfl))) (by decide) (t := (.object "java/lang/String")) (t' := (.array .byte)) (by decide) (by decide))))
  have F_a0_buckets_u24 : Fld Z h21 a0 "com/example/fireweed/fireweed/layout/Java31ByteSalt" "buckets" "I" (.int (0 : Int32)) := ((((F_buckets_a0.ext E2).other W8 (Or.inr (slot_ne (Or.inr (hw _ (List.mem_of_getElem? (i := 92) rfl))) (Or.inr (hw _ (List.mem_of_getElem? (i := 52) rfl))) (by decide) (t := .int) (t' := (.object "java/lang/String")) (by decide) (by decide)))).keep kq11 nin0).other W21 (Or.inr (slot_ne (Or.inr (hw _ (List.mem_of_getElem? (i := 92) rfl))) (Or.inr (hw _ (List.mem_of_getElem? (i := 90) rfl))) (by decide) (t := .int) (t' := (.array .byte)) (by decide) (by decide))))
  have F_a0_mask_u25 : Fld Z h21 a0 "com/example/fireweed/fireweed/layout/Java31ByteSalt" "mask" "I" (.int (0 : Int32)) := ((((F_mask_a0.ext E2).other W8 (Or.inr (slot_ne (Or.inr (hw _ (List.mem_of_getElem? (i := 101) rfl))) (Or.inr (hw _ (List.mem_of_getElem? (i := 52) rfl))) (by decide) (t := .int) (t' := (.object "java/lang/String")) (by decide) (by decide)))).keep kq11 nin0).other W21 (Or.inr (slot_ne (Or.inr (hw _ (List.mem_of_getElem? (i := 101) rfl))) (Or.inr (hw _ (List.mem_of_getElem? (i := 90) rfl))) (by decide) (t := .int) (t' := (.array .byte)) (by decide) (by decide))))
  have F_a0_overflow_u26 : Fld Z h21 a0 "com/example/fireweed/fireweed/layout/Java31ByteSalt" "overflow" "I" (.int (0 : Int32)) := ((((F_overflow_a0.ext E2).other W8 (Or.inr (slot_ne (Or.inr (hw _ (List.mem_of_getElem? (i := 116) rfl))) (Or.inr (hw _ (List.mem_of_getElem? (i := 52) rfl))) (by decide) (t := .int) (t' := (.object "java/lang/String")) (by decide) (by decide)))).keep kq11 nin0).other W21 (Or.inr (slot_ne (Or.inr (hw _ (List.mem_of_getElem? (i := 116) rfl))) (Or.inr (hw _ (List.mem_of_getElem? (i := 90) rfl))) (by decide) (t := .int) (t' := (.array .byte)) (by decide) (by decide))))
  have E_b11_0_u27 : Exa Z h21 b11_0 "[B" := (pf11_0.wr W21)
  have ne_a0_b11_0 : a0 ≠ b11_0 := own_ne (Nat.lt_of_lt_of_le (E_a0_u7.wr W8).lt s11_0)
  have V_b11_0_u28 : Arv Z h21 b11_0 kB .byte (1 : Int32) [(.int pv)] (.int (0 : Int32)) := (pf11_1.other W21 (Ne.symm ne_a0_b11_0))
  obtain ⟨fs, hr, hrun, hended, hWE⟩ := X21.leaveW (s := s) hS2 (by rw [e21]; exact (Nat.le_trans (Nat.le_trans (Nat.le_trans hk2 (Keep.of_wr W8).1) kq11.1) (Keep.of_wr W21).1)) (v := none) (fun _ => rfl)
  refine ⟨_, _, pre0 _ ?_, hrun, hended, _, _, rfl, ?_, hWE.1, hWE.2.1, hWE.2.2.1, hWE.2.2.2.mono (by decide) (by decide)⟩
  · show Steps p.tables e below (s₁.setTop (mkF m 0 #[.val (.ref a0), .val (.ref a1)] [])) _
    refine XS.aloadN X0.here hx rfl (hb hby d8_0) rfl rfl ?_
    show Steps p.tables e below (s₁.setTop (mkF m 1 #[.val (.ref a0), .val (.ref a1)] [(.ref a0)])) _
    refine st1 _ ?_
    show Steps p.tables e below (T1.setTop (mkF m 4 #[.val (.ref a0), .val (.ref a1)] [])) _
    refine XS.aloadN X1.here hx rfl (hb hby d8_4) rfl rfl ?_
    show Steps p.tables e below (T1.setTop (mkF m 5 #[.val (.ref a0), .val (.ref a1)] [(.ref a0)])) _
    refine XS.aloadN X1.here hx rfl (hb hby d8_5) rfl rfl ?_
    show Steps p.tables e below (T1.setTop (mkF m 6 #[.val (.ref a0), .val (.ref a1)] [(.ref a1), (.ref a0)])) _
    refine st2 _ ?_
    show Steps p.tables e below (T2.setTop (mkF m 8 #[.val (.ref a0), .val (.ref a1)] [(.ref l2), (.ref a1), (.ref a0)])) _
    refine st3 _ ?_
    show Steps p.tables e below (T3.setTop (mkF m 11 #[.val (.ref a0), .val (.ref a1)] [(.ref a1), (.ref a0)])) _
    refine st5 _ ?_
    show Steps p.tables e below (T5.setTop (mkF m 14 #[.val (.ref a0), .val (.ref a1)] [(.ref a1), (.ref a0)])) _
    refine st8 _ ?_
    show Steps p.tables e below (T8.setTop (mkF m 17 #[.val (.ref a0), .val (.ref a1)] [])) _
    refine XS.aloadN X8.here hx rfl (hb hby d8_17) rfl rfl ?_
    show Steps p.tables e below (T8.setTop (mkF m 18 #[.val (.ref a0), .val (.ref a1)] [(.ref a0)])) _
    refine XS.aloadN X8.here hx rfl (hb hby d8_18) rfl rfl ?_
    show Steps p.tables e below (T8.setTop (mkF m 19 #[.val (.ref a0), .val (.ref a1)] [(.ref a1), (.ref a0)])) _
    refine st10 _ ?_
    show Steps p.tables e below (T10.setTop (mkF m 22 #[.val (.ref a0), .val (.ref a1)] [(.ref aU), (.ref a1), (.ref a0)])) _
    refine st11.trans ?_
    show Steps p.tables e below (T11.setTop (mkF m 25 #[.val (.ref a0), .val (.ref a1)] [(.ref b11_0), (.ref a0)])) _
    refine st21 _ ?_
    show Steps p.tables e below (T21.setTop (mkF m 28 #[.val (.ref a0), .val (.ref a1)] [])) _
    exact X21.returnOut hx Bd.returns (hb hby d8_28) hr
  · show Q8p Z a0 a1 aB kB pv aU s_COMPACT_STRINGS h0 n0 _ T21.heap _
    rw [e21]
    exact ⟨b11_0, rfl, N21, sz_b11_0, K21, E_a0_u22, F_a0_suffix_u23, Fw21, F_a0_buckets_u24, F_a0_mask_u25, F_a0_overflow_u26, E_b11_0_u27, V_b11_0_u28⟩
theorem d7_0 : decode prog_5_method_1_code 0 = .ok (.aload_n 0, 1) := by decide +kernel
theorem d7_1 : decode prog_5_method_1_code 1 = .ok (.aload_n 1, 1) := by decide +kernel
theorem d7_2 : decode prog_5_method_1_code 2 = .ok (.invokespecial 1, 3) := by decide +kernel
theorem pd_7 : parseMethodDescriptor "(Ljava/lang/String;)V" = some ⟨[(.object "java/lang/String")], none⟩ := by decide +kernel
theorem d7_5 : decode prog_5_method_1_code 5 = .ok (.return_, 1) := by decide +kernel
theorem pn_com_example_fireweed_fireweed_layout_BucketSalt : plainName "com/example/fireweed/fireweed/layout/BucketSalt" = true := by first | (simp [plainName, overriddenIn]; done) | decide +kernel
theorem ef_rm7p (m : MethodId) (a0 : Addr) (a1 : Addr) : entryFrame m #[(.ref a0), (.ref a1)] 2 = mkF m 0 #[.val (.ref a0), .val (.ref a1)] [] := by first | (simp [entryFrame, mkF, argsToLocals, Value.category]; done) | rfl
def Q7p (Z : State) (a0 : Addr) (a1 : Addr) (aB : Addr) (kB : ClassId) (pv : Int32) (aU : Addr) (s_COMPACT_STRINGS : Int32) (h0 : Heap) (n0 : Nat) (v : Option Value) (h : Heap) (L : List Loc) : Prop := ∃ r0 : Addr, v = none ∧ Fr n0 L ∧ h0.size ≤ r0 ∧ Keep h0 h [a0] ∧ Exa Z h a0 "com/example/fireweed/fireweed/layout/Java31ByteSalt" ∧ Fld Z h a0 "com/example/fireweed/fireweed/layout/Salt" "suffix" "Ljava/lang/String;" (.ref a1) ∧ Fld Z h a0 "com/example/fireweed/fireweed/layout/Salt" "suffixBytes" "[B" (.ref r0) ∧ Fld Z h a0 "com/example/fireweed/fireweed/layout/Java31ByteSalt" "buckets" "I" (.int (0 : Int32)) ∧ Fld Z h a0 "com/example/fireweed/fireweed/layout/Java31ByteSalt" "mask" "I" (.int (0 : Int32)) ∧ Fld Z h a0 "com/example/fireweed/fireweed/layout/Java31ByteSalt" "overflow" "I" (.int (0 : Int32)) ∧ Exa Z h r0 "[B" ∧ Arv Z h r0 kB .byte (1 : Int32) [(.int pv)] (.int (0 : Int32))
set_option maxRecDepth 65536 in
set_option maxHeartbeats 40000000 in
theorem rm7p (l : Launch) (Z : State) (az : Array Value) (hw : ∀ d ∈ tables_1, d.before az Z = true) (ws : List Jvm.Cond) (a0 : Addr) (a1 : Addr) (aB : Addr) (kB : ClassId) (pv : Int32) (aU : Addr) (s_COMPACT_STRINGS : Int32) (h0 : Heap) (n0 : Nat) (Z0 : n0 ≤ h0.size) (E_a0 : Exa Z h0 a0 "com/example/fireweed/fireweed/layout/Java31ByteSalt") (F_suffix_a0 : Fld Z h0 a0 "com/example/fireweed/fireweed/layout/Salt" "suffix" "Ljava/lang/String;" .null) (F_suffixBytes_a0 : Fld Z h0 a0 "com/example/fireweed/fireweed/layout/Salt" "suffixBytes" "[B" .null) (F_buckets_a0 : Fld Z h0 a0 "com/example/fireweed/fireweed/layout/Java31ByteSalt" "buckets" "I" (.int (0 : Int32))) (F_mask_a0 : Fld Z h0 a0 "com/example/fireweed/fireweed/layout/Java31ByteSalt" "mask" "I" (.int (0 : Int32))) (F_overflow_a0 : Fld Z h0 a0 "com/example/fireweed/fireweed/layout/Java31ByteSalt" "overflow" "I" (.int (0 : Int32))) (E_a1 : Exa Z h0 a1 "java/lang/String") (F_coder_a1 : Fld Z h0 a1 "java/lang/String" "coder" "B" (.int (0 : Int32))) (F_value_a1 : Fld Z h0 a1 "java/lang/String" "value" "[B" (.ref aB)) (V_aB : Arv Z h0 aB kB .byte (1 : Int32) [(.int pv)] (.int (0 : Int32))) (E_aB : Exa Z h0 aB "[B") (S_INSTANCE : Sta Z h0 "sun/nio/cs/UTF_8" "INSTANCE" "Lsun/nio/cs/UTF_8;" (.ref aU)) (S_UTF_8 : Sta Z h0 "java/nio/charset/StandardCharsets" "UTF_8" "Ljava/nio/charset/Charset;" (.ref aU)) (hc13 : ¬ (pv < (0 : Int32))) (S_COMPACT_STRINGS : Sta Z h0 "java/lang/String" "COMPACT_STRINGS" "Z" (.int s_COMPACT_STRINGS)) (g_a0 : n0 ≤ a0) (hne_a1_a0 : a1 ≠ a0) (hne_aB_a0 : aB ≠ a0) (hc18 : ¬ (s_COMPACT_STRINGS = (0 : Int32))) :
    MetFree l (⟨"com/example/fireweed/fireweed/layout/BucketSalt", "<init>", "(Ljava/lang/String;)V"⟩ : MethodName) (head1 (Jvm.Cond.code (⟨"com/example/fireweed/fireweed/layout/BucketSalt", "<init>", "(Ljava/lang/String;)V"⟩ : MethodName) prog_5_method_1_code 2 none :: ws) ({ frames := 6, cells := 3, slots := 29, locals := 91 } : Room)) (fun a U => a = #[(.ref a0), (.ref a1)] ∧ Z.Warmed39 U.vm ∧ U.heap = h0) (fun _ _ _ _ _ => True) (fun _ U o U' => ∃ v L, o = .returned v ∧ Q7p Z a0 a1 aB kB pv aU s_COMPACT_STRINGS h0 n0 v U'.heap L ∧ ReturnedEndW U o U' L ({ frames := 6, cells := 3, slots := 29, locals := 91 } : Room).cells ({ frames := 6, cells := 3, slots := 29, locals := 91 } : Room).slots) := by
  refine MetFree.of_bodySF (plainFor_of_name pn_com_example_fireweed_fireweed_layout_BucketSalt) hisR ?_
  intro p e s m args below meth c s₁ Bd hml0 hP hK
  obtain ⟨rfl, hZ, hh⟩ := hP
  have hx := Bd.exec
  have hby := Bd.bytes
  have hml : c.maxLocals = 2 := hml0
  have hown : s.vm.findClass "com/example/fireweed/fireweed/layout/BucketSalt" = some m.cls := findClass_of_methodNamed Bd.named
  have hnm := (name_of_methodNamed Bd.named Bd.method).1
  have X0 : Stand p l e ({ frames := 6, cells := 3, slots := 29, locals := 91 } : Room) s m #[(.ref a0), (.ref a1)] below meth c s₁ [] 0 0 := Stand.of_body Bd
  have e0 : s₁.heap = h0 := by rw [← hh, Bd.state]; rfl
  have N0 := Fr.nil n0
  have pre0 : ∀ t, Steps p.tables e below (s₁.setTop (mkF m 0 #[.val (.ref a0), .val (.ref a1)] [])) t → Steps p.tables e below (s₁.setTop (entryFrame m #[(.ref a0), (.ref a1)] 2)) t := fun t k => castTop (ef_rm7p m a0 a1) k
  have hS0 : s.Since s.vm 0 := (State.WarmedH.refl s).since 0
  have wS : ∀ a ∈ Bundle.stringAtoms, a.before az Z = true := fun d hd => by
    simp only [Bundle.stringAtoms, List.mem_cons, List.not_mem_nil, or_false] at hd
    rcases hd with rfl | rfl | rfl | rfl | rfl | rfl | rfl
    · exact (hw _ (List.mem_of_getElem? (i := 2) rfl))
    · exact (hw _ (List.mem_of_getElem? (i := 10) rfl))
    · exact (hw _ (List.mem_of_getElem? (i := 14) rfl))
    · exact (hw _ (List.mem_of_getElem? (i := 23) rfl))
    · exact (hw _ (List.mem_of_getElem? (i := 25) rfl))
    · exact (hw _ (List.mem_of_getElem? (i := 44) rfl))
    · exact (hw _ (List.mem_of_getElem? (i := 45) rfl))
  obtain ⟨_, _, ⟨T1, L1, k1', n1'⟩, -, Y1, yS1, yg1, ⟨Lc1, hQ1, l1, y1, z1⟩, st1⟩ := X0.specialBackS hx (y := (⟨"com/example/fireweed/fireweed/layout/Salt", "<init>", "(Ljava/lang/String;)V"⟩ : MethodName)) rfl hown (mvT hZ (hw _ (List.mem_of_getElem? (i := 37) rfl))) (mvT hZ (hw _ (List.mem_of_getElem? (i := 38) rfl))) (mvT hZ (hw _ (List.mem_of_getElem? (i := 41) rfl))) (by decide) (backOfS (W := 0) (rm8p l Z az hw [] a0 a1 aB kB pv aU s_COMPACT_STRINGS h0 n0 Z0 E_a0 F_suffix_a0 F_suffixBytes_a0 F_buckets_a0 F_mask_a0 F_overflow_a0 E_a1 F_coder_a1 F_value_a1 V_aB E_aB S_INSTANCE S_UTF_8 hc13 g_a0 S_COMPACT_STRINGS hne_a1_a0 hne_aB_a0 hc18) hZ (hw _ (List.mem_of_getElem? (i := 41) rfl)) (hw _ (List.mem_of_getElem? (i := 40) rfl)) (by decide) (by decide)) (g := (mkF m 2 #[.val (.ref a0), .val (.ref a1)] [(.ref a1), (.ref a0)])) rfl (by rw [hml]; rfl) (Steps.refl _) (a := a0) (argsL := [(.ref a1)]) (rest := []) (lenOf pd_7 rfl) rfl (by show 2 * 0 + _ ≤ _; exact Nat.le_of_eq rfl) (hb hby d7_2) (fun _ _ => ⟨rfl, e0, (by decide : 0 + 3 ≤ _), (by decide : 0 + 29 ≤ _)⟩)
  dsimp only [Pt.U, Pt.locs, Pt.cells, Pt.slots] at Y1 yS1 yg1 l1 y1 z1 st1 hQ1
  subst l1 y1 z1
  obtain ⟨X1, hS1, hZ1, hown1⟩ := rebS (s := s) (vm0 := s.vm) hS0 (by rw [e0]; exact (Nat.zero_le _)) Y1 yS1 yg1 hZ hown
  obtain ⟨b1_0, rfl, N1q, s1_0, kq1, pf1_0, pf1_1, pf1_2, pf1_3, pf1_4, pf1_5, pf1_6, pf1_7⟩ := hQ1
  have N1 := Fr.app N0 N1q
  have g_b1_0 : n0 ≤ b1_0 := Nat.le_trans Z0 s1_0
  have sz_b1_0 : h0.size ≤ b1_0 := Nat.le_trans (Nat.le_refl _) s1_0
  have K1 : Keep h0 T1.heap [a0] := (Keep.refl h0 [a0]).trans kq1 (allS (Or.inl (List.mem_of_getElem? (i := 0) rfl)) all0)
  have Z1 : n0 ≤ T1.heap.size := Nat.le_trans Z0 kq1.1
  obtain ⟨fs, hr, hrun, hended, hWE⟩ := X1.leaveW (s := s) hS1 (Nat.le_refl _) (v := none) (fun _ => rfl)
  refine ⟨_, _, pre0 _ ?_, hrun, hended, _, _, rfl, ?_, hWE.1, hWE.2.1, hWE.2.2.1, hWE.2.2.2.mono (by decide) (by decide)⟩
  · show Steps p.tables e below (s₁.setTop (mkF m 0 #[.val (.ref a0), .val (.ref a1)] [])) _
    refine XS.aloadN X0.here hx rfl (hb hby d7_0) rfl rfl ?_
    show Steps p.tables e below (s₁.setTop (mkF m 1 #[.val (.ref a0), .val (.ref a1)] [(.ref a0)])) _
    refine XS.aloadN X0.here hx rfl (hb hby d7_1) rfl rfl ?_
    show Steps p.tables e below (s₁.setTop (mkF m 2 #[.val (.ref a0), .val (.ref a1)] [(.ref a1), (.ref a0)])) _
    refine st1.trans ?_
    show Steps p.tables e below (T1.setTop (mkF m 5 #[.val (.ref a0), .val (.ref a1)] [])) _
    exact X1.returnOut hx Bd.returns (hb hby d7_5) hr
  · show Q7p Z a0 a1 aB kB pv aU s_COMPACT_STRINGS h0 n0 _ T1.heap _
    exact ⟨b1_0, rfl, N1, sz_b1_0, K1, pf1_0, pf1_1, pf1_2, pf1_3, pf1_4, pf1_5, pf1_6, pf1_7⟩
theorem d15_20 : decode jdk_123_method_3_code 20 = .ok (.iload 4, 2) := by decide +kernel
theorem d15_22 : decode jdk_123_method_3_code 22 = .ok (.iload_n 1, 1) := by decide +kernel
theorem d15_23 : decode jdk_123_method_3_code 23 = .ok (.isub, 1) := by decide +kernel
theorem d15_24 : decode jdk_123_method_3_code 24 = .ok (.ireturn, 1) := by decide +kernel
theorem ef_rm15n (m : MethodId) (a0 : Addr) : entryFrame m #[(.ref a0), (.int (0 : Int32)), (.int (1 : Int32))] 5 = mkF m 0 #[.val (.ref a0), .val (.int (0 : Int32)), .val (.int (1 : Int32)), .unset, .unset] [] := by first | (simp [entryFrame, mkF, argsToLocals, Value.category]; done) | rfl
def Q15n (Z : State) (a0 : Addr) (k0 : ClassId) (pv : Int32) (h0 : Heap) (n0 : Nat) (v : Option Value) (h : Heap) (L : List Loc) : Prop := v = some (.int (0 : Int32)) ∧ Fr n0 L ∧ h = h0
set_option maxRecDepth 65536 in
set_option maxHeartbeats 40000000 in
theorem rm15n (l : Launch) (Z : State) (az : Array Value) (hw : ∀ d ∈ tables_1, d.before az Z = true) (ws : List Jvm.Cond) (a0 : Addr) (k0 : ClassId) (pv : Int32) (h0 : Heap) (n0 : Nat) (Z0 : n0 ≤ h0.size) (V_a0 : Arv Z h0 a0 k0 .byte (1 : Int32) [(.int pv)] (.int (0 : Int32))) (hc1 : pv < (0 : Int32)) :
    MetFree l (⟨"java/lang/StringCoding", "countPositives", "([BII)I"⟩ : MethodName) (head1 (Jvm.Cond.code (⟨"java/lang/StringCoding", "countPositives", "([BII)I"⟩ : MethodName) jdk_123_method_3_code 5 (some .int) :: ws) ({ frames := 0, cells := 0, slots := 0, locals := 0 } : Room)) (fun a U => a = #[(.ref a0), (.int (0 : Int32)), (.int (1 : Int32))] ∧ Z.Warmed39 U.vm ∧ U.heap = h0) (fun _ _ _ _ _ => True) (fun _ U o U' => ∃ v L, o = .returned v ∧ Q15n Z a0 k0 pv h0 n0 v U'.heap L ∧ FrameEnd U o U' L ({ frames := 0, cells := 0, slots := 0, locals := 0 } : Room).cells ({ frames := 0, cells := 0, slots := 0, locals := 0 } : Room).slots) := by
  refine MetFree.of_bodySF (plainFor_of_name pn_java_lang_StringCoding) hisR ?_
  intro p e s m args below meth c s₁ Bd hml0 hP hK
  obtain ⟨rfl, hZ, hh⟩ := hP
  have hx := Bd.exec
  have hby := Bd.bytes
  have hml : c.maxLocals = 5 := hml0
  have hown : s.vm.findClass "java/lang/StringCoding" = some m.cls := findClass_of_methodNamed Bd.named
  have hnm := (name_of_methodNamed Bd.named Bd.method).1
  have X0 : Stand p l e ({ frames := 0, cells := 0, slots := 0, locals := 0 } : Room) s m #[(.ref a0), (.int (0 : Int32)), (.int (1 : Int32))] below meth c s₁ [] 0 0 := Stand.of_body Bd
  have e0 : s₁.heap = h0 := by rw [← hh, Bd.state]; rfl
  have N0 := Fr.nil n0
  have pre0 : ∀ t, Steps p.tables e below (s₁.setTop (mkF m 0 #[.val (.ref a0), .val (.int (0 : Int32)), .val (.int (1 : Int32)), .unset, .unset] [])) t → Steps p.tables e below (s₁.setTop (entryFrame m #[(.ref a0), (.int (0 : Int32)), (.int (1 : Int32))] 5)) t := fun t k => castTop (ef_rm15n m a0) k
  obtain ⟨cl1, Ar1, qk1, Sz1, Ng1, Hs1, Gf1⟩ := id V_a0
  have hin2 : ¬ ((0 : Int32) < 0 ∨ cl1.slots.size ≤ ((0 : Int32)).toNatClampNeg) := inb_of Sz1 ⟨by decide, by decide⟩
  have hat3 : cl1.slots[((0 : Int32)).toNatClampNeg]? = some (.int pv) := Hs1.at hin2 rfl
  obtain ⟨fs, hr, hrun, hended, hW, hsame⟩ := X0.leave (v := some (.int (0 : Int32))) (fun h => by rw [Bd.returns] at h; cases h)
  refine ⟨_, _, pre0 _ ?_, hrun, hended, _, _, rfl, ?_, ⟨_, rfl⟩, hW, hsame.mono (by decide) (by decide)⟩
  · show Steps p.tables e below (s₁.setTop (mkF m 0 #[.val (.ref a0), .val (.int (0 : Int32)), .val (.int (1 : Int32)), .unset, .unset] [])) _
    refine XS.iloadN X0.here hx rfl (hb hby d15_0) rfl ?_
    show Steps p.tables e below (s₁.setTop (mkF m 1 #[.val (.ref a0), .val (.int (0 : Int32)), .val (.int (1 : Int32)), .unset, .unset] [(.int (0 : Int32))])) _
    refine XS.iloadN X0.here hx rfl (hb hby d15_1) rfl ?_
    show Steps p.tables e below (s₁.setTop (mkF m 2 #[.val (.ref a0), .val (.int (0 : Int32)), .val (.int (1 : Int32)), .unset, .unset] [(.int (1 : Int32)), (.int (0 : Int32))])) _
    refine XS.iadd X0.here hx rfl (hb hby d15_2) rfl ?_
    show Steps p.tables e below (s₁.setTop (mkF m 3 #[.val (.ref a0), .val (.int (0 : Int32)), .val (.int (1 : Int32)), .unset, .unset] [(.int (1 : Int32))])) _
    refine XS.istoreN X0.here hx rfl (hb hby d15_3) rfl (l' := #[.val (.ref a0), .val (.int (0 : Int32)), .val (.int (1 : Int32)), .val (.int (1 : Int32)), .unset]) rfl ?_
    show Steps p.tables e below (s₁.setTop (mkF m 4 #[.val (.ref a0), .val (.int (0 : Int32)), .val (.int (1 : Int32)), .val (.int (1 : Int32)), .unset] [])) _
    refine XS.iloadN X0.here hx rfl (hb hby d15_4) rfl ?_
    show Steps p.tables e below (s₁.setTop (mkF m 5 #[.val (.ref a0), .val (.int (0 : Int32)), .val (.int (1 : Int32)), .val (.int (1 : Int32)), .unset] [(.int (0 : Int32))])) _
    refine XS.istore X0.here hx rfl (hb hby d15_5) rfl (l' := #[.val (.ref a0), .val (.int (0 : Int32)), .val (.int (1 : Int32)), .val (.int (1 : Int32)), .val (.int (0 : Int32))]) rfl ?_
    show Steps p.tables e below (s₁.setTop (mkF m 7 #[.val (.ref a0), .val (.int (0 : Int32)), .val (.int (1 : Int32)), .val (.int (1 : Int32)), .val (.int (0 : Int32))] [])) _
    refine XS.iload X0.here hx rfl (hb hby d15_7) rfl ?_
    show Steps p.tables e below (s₁.setTop (mkF m 9 #[.val (.ref a0), .val (.int (0 : Int32)), .val (.int (1 : Int32)), .val (.int (1 : Int32)), .val (.int (0 : Int32))] [(.int (0 : Int32))])) _
    refine XS.iloadN X0.here hx rfl (hb hby d15_9) rfl ?_
    show Steps p.tables e below (s₁.setTop (mkF m 10 #[.val (.ref a0), .val (.int (0 : Int32)), .val (.int (1 : Int32)), .val (.int (1 : Int32)), .val (.int (0 : Int32))] [(.int (1 : Int32)), (.int (0 : Int32))])) _
    refine XS.icmpNo X0.here hx rfl (hb hby d15_10) rfl (tlt (by decide : (0 : Int32) < (1 : Int32))).2.1 ?_
    show Steps p.tables e below (s₁.setTop (mkF m 13 #[.val (.ref a0), .val (.int (0 : Int32)), .val (.int (1 : Int32)), .val (.int (1 : Int32)), .val (.int (0 : Int32))] [])) _
    refine XS.aloadN X0.here hx rfl (hb hby d15_13) rfl rfl ?_
    show Steps p.tables e below (s₁.setTop (mkF m 14 #[.val (.ref a0), .val (.int (0 : Int32)), .val (.int (1 : Int32)), .val (.int (1 : Int32)), .val (.int (0 : Int32))] [(.ref a0)])) _
    refine XS.iload X0.here hx rfl (hb hby d15_14) rfl ?_
    show Steps p.tables e below (s₁.setTop (mkF m 16 #[.val (.ref a0), .val (.int (0 : Int32)), .val (.int (1 : Int32)), .val (.int (1 : Int32)), .val (.int (0 : Int32))] [(.int (0 : Int32)), (.ref a0)])) _
    refine X0.baloadBytes hx (j := (0 : Int32)) (v := (.int pv)) (by rw [e0]; exact Ar1.1) (State.isArrayOf_alike hZ.alike Ar1.2.1) Ar1.2.2 hin2 hat3 (g := (mkF m 16 #[.val (.ref a0), .val (.int (0 : Int32)), .val (.int (1 : Int32)), .val (.int (1 : Int32)), .val (.int (0 : Int32))] [(.int (0 : Int32)), (.ref a0)])) rfl rfl (hb hby d15_16) _ ?_
    show Steps p.tables e below (s₁.setTop (mkF m 17 #[.val (.ref a0), .val (.int (0 : Int32)), .val (.int (1 : Int32)), .val (.int (1 : Int32)), .val (.int (0 : Int32))] [(.int pv)])) _
    refine XS.ifNo X0.here hx rfl (hb hby d15_17) rfl ((if0 _ _).trans (tlt hc1).2.1) ?_
    show Steps p.tables e below (s₁.setTop (mkF m 20 #[.val (.ref a0), .val (.int (0 : Int32)), .val (.int (1 : Int32)), .val (.int (1 : Int32)), .val (.int (0 : Int32))] [])) _
    refine XS.iload X0.here hx rfl (hb hby d15_20) rfl ?_
    show Steps p.tables e below (s₁.setTop (mkF m 22 #[.val (.ref a0), .val (.int (0 : Int32)), .val (.int (1 : Int32)), .val (.int (1 : Int32)), .val (.int (0 : Int32))] [(.int (0 : Int32))])) _
    refine XS.iloadN X0.here hx rfl (hb hby d15_22) rfl ?_
    show Steps p.tables e below (s₁.setTop (mkF m 23 #[.val (.ref a0), .val (.int (0 : Int32)), .val (.int (1 : Int32)), .val (.int (1 : Int32)), .val (.int (0 : Int32))] [(.int (0 : Int32)), (.int (0 : Int32))])) _
    refine XS.isub X0.here hx rfl (hb hby d15_23) rfl ?_
    show Steps p.tables e below (s₁.setTop (mkF m 24 #[.val (.ref a0), .val (.int (0 : Int32)), .val (.int (1 : Int32)), .val (.int (1 : Int32)), .val (.int (0 : Int32))] [(.int (0 : Int32))])) _
    exact retI X0 hx Bd.returns (hb hby d15_24) hr
  · show Q15n Z a0 k0 pv h0 n0 _ s₁.heap _
    rw [e0]
    exact ⟨rfl, N0, rfl⟩
theorem d14_10 : decode jdk_123_method_2_code 10 = .ok (.iconst 1, 1) := by decide +kernel
theorem d14_11 : decode jdk_123_method_2_code 11 = .ok (.goto 4, 3) := by decide +kernel
theorem ef_rm14n (m : MethodId) (a0 : Addr) : entryFrame m #[(.ref a0), (.int (0 : Int32)), (.int (1 : Int32))] 3 = mkF m 0 #[.val (.ref a0), .val (.int (0 : Int32)), .val (.int (1 : Int32))] [] := by first | (simp [entryFrame, mkF, argsToLocals, Value.category]; done) | rfl
def Q14n (Z : State) (a0 : Addr) (k0 : ClassId) (pv : Int32) (h0 : Heap) (n0 : Nat) (v : Option Value) (h : Heap) (L : List Loc) : Prop := v = some (.int (1 : Int32)) ∧ Fr n0 L ∧ h = h0
set_option maxRecDepth 65536 in
set_option maxHeartbeats 40000000 in
theorem rm14n (l : Launch) (Z : State) (az : Array Value) (hw : ∀ d ∈ tables_1, d.before az Z = true) (ws : List Jvm.Cond) (a0 : Addr) (k0 : ClassId) (pv : Int32) (h0 : Heap) (n0 : Nat) (Z0 : n0 ≤ h0.size) (V_a0 : Arv Z h0 a0 k0 .byte (1 : Int32) [(.int pv)] (.int (0 : Int32))) (hc1 : pv < (0 : Int32)) :
    MetFree l (⟨"java/lang/StringCoding", "hasNegatives", "([BII)Z"⟩ : MethodName) (head1 (Jvm.Cond.code (⟨"java/lang/StringCoding", "hasNegatives", "([BII)Z"⟩ : MethodName) jdk_123_method_2_code 3 (some .boolean) :: ws) ({ frames := 1, cells := 0, slots := 0, locals := 16 } : Room)) (fun a U => a = #[(.ref a0), (.int (0 : Int32)), (.int (1 : Int32))] ∧ Z.Warmed39 U.vm ∧ U.heap = h0) (fun _ _ _ _ _ => True) (fun _ U o U' => ∃ v L, o = .returned v ∧ Q14n Z a0 k0 pv h0 n0 v U'.heap L ∧ FrameEnd U o U' L ({ frames := 1, cells := 0, slots := 0, locals := 16 } : Room).cells ({ frames := 1, cells := 0, slots := 0, locals := 16 } : Room).slots) := by
  refine MetFree.of_bodySF (plainFor_of_name pn_java_lang_StringCoding) hisR ?_
  intro p e s m args below meth c s₁ Bd hml0 hP hK
  obtain ⟨rfl, hZ, hh⟩ := hP
  have hx := Bd.exec
  have hby := Bd.bytes
  have hml : c.maxLocals = 3 := hml0
  have hown : s.vm.findClass "java/lang/StringCoding" = some m.cls := findClass_of_methodNamed Bd.named
  have hnm := (name_of_methodNamed Bd.named Bd.method).1
  have X0 : Stand p l e ({ frames := 1, cells := 0, slots := 0, locals := 16 } : Room) s m #[(.ref a0), (.int (0 : Int32)), (.int (1 : Int32))] below meth c s₁ [] 0 0 := Stand.of_body Bd
  have e0 : s₁.heap = h0 := by rw [← hh, Bd.state]; rfl
  have N0 := Fr.nil n0
  have pre0 : ∀ t, Steps p.tables e below (s₁.setTop (mkF m 0 #[.val (.ref a0), .val (.int (0 : Int32)), .val (.int (1 : Int32))] [])) t → Steps p.tables e below (s₁.setTop (entryFrame m #[(.ref a0), (.int (0 : Int32)), (.int (1 : Int32))] 3)) t := fun t k => castTop (ef_rm14n m a0) k
  obtain ⟨_, _, ⟨T1, L1, k1', n1'⟩, -, X1, ⟨Lc1, hQ1, l1, y1, z1⟩, st1⟩ := Jvm.LawKit.callS X0 hx (y := (⟨"java/lang/StringCoding", "countPositives", "([BII)I"⟩ : MethodName)) hown (mvT hZ (hw _ (List.mem_of_getElem? (i := 77) rfl))) (mvT hZ (hw _ (List.mem_of_getElem? (i := 78) rfl))) (mvT hZ (hw _ (List.mem_of_getElem? (i := 75) rfl))) (mvT hZ (hw _ (List.mem_of_getElem? (i := 79) rfl))) (by decide) (backOf (W := 0) (rm15n l Z az hw [] a0 k0 pv h0 n0 Z0 V_a0 hc1) hZ (hw _ (List.mem_of_getElem? (i := 79) rfl)) (hw _ (List.mem_of_getElem? (i := 75) rfl)) (by decide) (by decide)) (g := (mkF m 3 #[.val (.ref a0), .val (.int (0 : Int32)), .val (.int (1 : Int32))] [(.int (1 : Int32)), (.int (0 : Int32)), (.ref a0)])) rfl (by rw [hml]; rfl) (argsL := [(.ref a0), (.int (0 : Int32)), (.int (1 : Int32))]) (rest := []) (lenOf pd_0 rfl) rfl (by show 2 * 0 + _ ≤ _; exact Nat.le_of_eq rfl) (hb hby d14_3) (fun _ _ => ⟨rfl, e0, (by decide : 0 + 0 ≤ _), (by decide : 0 + 0 ≤ _)⟩)
  dsimp only [Pt.U, Pt.locs, Pt.cells, Pt.slots] at X1 l1 y1 z1 st1 hQ1
  subst l1 y1 z1
  obtain ⟨rfl, N1q, e1⟩ := hQ1
  have N1 := Fr.app N0 N1q
  obtain ⟨fs, hr, hrun, hended, hW, hsame⟩ := X1.leave (v := some (.int (1 : Int32))) (fun h => by rw [Bd.returns] at h; cases h)
  refine ⟨_, _, pre0 _ ?_, hrun, hended, _, _, rfl, ?_, ⟨_, rfl⟩, hW, hsame.mono (by decide) (by decide)⟩
  · show Steps p.tables e below (s₁.setTop (mkF m 0 #[.val (.ref a0), .val (.int (0 : Int32)), .val (.int (1 : Int32))] [])) _
    refine XS.aloadN X0.here hx rfl (hb hby d14_0) rfl rfl ?_
    show Steps p.tables e below (s₁.setTop (mkF m 1 #[.val (.ref a0), .val (.int (0 : Int32)), .val (.int (1 : Int32))] [(.ref a0)])) _
    refine XS.iloadN X0.here hx rfl (hb hby d14_1) rfl ?_
    show Steps p.tables e below (s₁.setTop (mkF m 2 #[.val (.ref a0), .val (.int (0 : Int32)), .val (.int (1 : Int32))] [(.int (0 : Int32)), (.ref a0)])) _
    refine XS.iloadN X0.here hx rfl (hb hby d14_2) rfl ?_
    show Steps p.tables e below (s₁.setTop (mkF m 3 #[.val (.ref a0), .val (.int (0 : Int32)), .val (.int (1 : Int32))] [(.int (1 : Int32)), (.int (0 : Int32)), (.ref a0)])) _
    refine st1 _ ?_
    show Steps p.tables e below (T1.setTop (mkF m 6 #[.val (.ref a0), .val (.int (0 : Int32)), .val (.int (1 : Int32))] [(.int (0 : Int32))])) _
    refine XS.iloadN X1.here hx rfl (hb hby d14_6) rfl ?_
    show Steps p.tables e below (T1.setTop (mkF m 7 #[.val (.ref a0), .val (.int (0 : Int32)), .val (.int (1 : Int32))] [(.int (1 : Int32)), (.int (0 : Int32))])) _
    refine XS.icmpNo X1.here hx rfl (hb hby d14_7) rfl (feq (by decide : ¬ ((0 : Int32) = (1 : Int32)))).1 ?_
    show Steps p.tables e below (T1.setTop (mkF m 10 #[.val (.ref a0), .val (.int (0 : Int32)), .val (.int (1 : Int32))] [])) _
    refine XS.iconst X1.here hx rfl (hb hby d14_10) ?_
    show Steps p.tables e below (T1.setTop (mkF m 11 #[.val (.ref a0), .val (.int (0 : Int32)), .val (.int (1 : Int32))] [(.int (1 : Int32))])) _
    refine XS.goto X1.here hx rfl (pc0 := 11) (pc' := 15) rfl (hb hby d14_11) (by decide) (by decide) ?_
    show Steps p.tables e below (T1.setTop (mkF m 15 #[.val (.ref a0), .val (.int (0 : Int32)), .val (.int (1 : Int32))] [(.int (1 : Int32))])) _
    exact retN X1 hx (t := .boolean) Bd.returns (by simp) (hb hby d14_15) hr
  · show Q14n Z a0 k0 pv h0 n0 _ T1.heap _
    rw [e1]
    exact ⟨rfl, N1, rfl⟩
theorem d24_0 : decode jdk_52_method_3_code 0 = .ok (.iload_n 0, 1) := by decide +kernel
theorem d24_1 : decode jdk_52_method_3_code 1 = .ok (.ifCond .ge 11, 3) := by decide +kernel
theorem d24_12 : decode jdk_52_method_3_code 12 = .ok (.iload_n 0, 1) := by decide +kernel
theorem d24_13 : decode jdk_52_method_3_code 13 = .ok (.ldc 20, 2) := by decide +kernel
theorem d24_15 : decode jdk_52_method_3_code 15 = .ok (.if_icmp .lt 40, 3) := by decide +kernel
theorem d24_55 : decode jdk_52_method_3_code 55 = .ok (.iload_n 0, 1) := by decide +kernel
theorem d24_56 : decode jdk_52_method_3_code 56 = .ok (.iconst 1, 1) := by decide +kernel
theorem d24_57 : decode jdk_52_method_3_code 57 = .ok (.ishl, 1) := by decide +kernel
theorem d24_58 : decode jdk_52_method_3_code 58 = .ok (.ireturn, 1) := by decide +kernel
theorem pn_java_lang_StringUTF16 : plainName "java/lang/StringUTF16" = true := by first | (simp [plainName, overriddenIn]; done) | decide +kernel
theorem ef_rm24 (m : MethodId)  : entryFrame m #[(.int (1 : Int32))] 1 = mkF m 0 #[.val (.int (1 : Int32))] [] := by first | (simp [entryFrame, mkF, argsToLocals, Value.category]; done) | rfl
def Q24 (Z : State)  (h0 : Heap) (n0 : Nat) (v : Option Value) (h : Heap) (L : List Loc) : Prop := v = some (.int (2 : Int32)) ∧ Fr n0 L ∧ h = h0
set_option maxRecDepth 65536 in
set_option maxHeartbeats 40000000 in
theorem rm24 (l : Launch) (Z : State) (az : Array Value) (hw : ∀ d ∈ tables_1, d.before az Z = true) (ws : List Jvm.Cond)  (h0 : Heap) (n0 : Nat) (Z0 : n0 ≤ h0.size) :
    MetFree l (⟨"java/lang/StringUTF16", "newBytesLength", "(I)I"⟩ : MethodName) (head1 (Jvm.Cond.code (⟨"java/lang/StringUTF16", "newBytesLength", "(I)I"⟩ : MethodName) jdk_52_method_3_code 1 (some .int) :: ws) ({ frames := 0, cells := 0, slots := 0, locals := 0 } : Room)) (fun a U => a = #[(.int (1 : Int32))] ∧ Z.Warmed39 U.vm ∧ U.heap = h0) (fun _ _ _ _ _ => True) (fun _ U o U' => ∃ v L, o = .returned v ∧ Q24 Z  h0 n0 v U'.heap L ∧ FrameEnd U o U' L ({ frames := 0, cells := 0, slots := 0, locals := 0 } : Room).cells ({ frames := 0, cells := 0, slots := 0, locals := 0 } : Room).slots) := by
  refine MetFree.of_bodySF (plainFor_of_name pn_java_lang_StringUTF16) hisR ?_
  intro p e s m args below meth c s₁ Bd hml0 hP hK
  obtain ⟨rfl, hZ, hh⟩ := hP
  have hx := Bd.exec
  have hby := Bd.bytes
  have hml : c.maxLocals = 1 := hml0
  have hown : s.vm.findClass "java/lang/StringUTF16" = some m.cls := findClass_of_methodNamed Bd.named
  have hnm := (name_of_methodNamed Bd.named Bd.method).1
  have X0 : Stand p l e ({ frames := 0, cells := 0, slots := 0, locals := 0 } : Room) s m #[(.int (1 : Int32))] below meth c s₁ [] 0 0 := Stand.of_body Bd
  have e0 : s₁.heap = h0 := by rw [← hh, Bd.state]; rfl
  have N0 := Fr.nil n0
  have pre0 : ∀ t, Steps p.tables e below (s₁.setTop (mkF m 0 #[.val (.int (1 : Int32))] [])) t → Steps p.tables e below (s₁.setTop (entryFrame m #[(.int (1 : Int32))] 1)) t := fun t k => castTop (ef_rm24 m ) k
  obtain ⟨fs, hr, hrun, hended, hW, hsame⟩ := X0.leave (v := some (.int (2 : Int32))) (fun h => by rw [Bd.returns] at h; cases h)
  refine ⟨_, _, pre0 _ ?_, hrun, hended, _, _, rfl, ?_, ⟨_, rfl⟩, hW, hsame.mono (by decide) (by decide)⟩
  · show Steps p.tables e below (s₁.setTop (mkF m 0 #[.val (.int (1 : Int32))] [])) _
    refine XS.iloadN X0.here hx rfl (hb hby d24_0) rfl ?_
    show Steps p.tables e below (s₁.setTop (mkF m 1 #[.val (.int (1 : Int32))] [(.int (1 : Int32))])) _
    refine XS.ifYes X0.here hx rfl (pc0 := 1) (pc' := 12) rfl (hb hby d24_1) rfl ((if0 _ _).trans (flt (by decide : ¬ ((1 : Int32) < (0 : Int32)))).2.1) (by decide) (by decide) ?_
    show Steps p.tables e below (s₁.setTop (mkF m 12 #[.val (.int (1 : Int32))] [])) _
    refine XS.iloadN X0.here hx rfl (hb hby d24_12) rfl ?_
    show Steps p.tables e below (s₁.setTop (mkF m 13 #[.val (.int (1 : Int32))] [(.int (1 : Int32))])) _
    refine X0.ldcInt hx hown (mvT hZ (hw _ (List.mem_of_getElem? (i := 138) rfl))) (g := (mkF m 13 #[.val (.int (1 : Int32))] [(.int (1 : Int32))])) rfl (hb hby d24_13) _ ?_
    show Steps p.tables e below (s₁.setTop (mkF m 15 #[.val (.int (1 : Int32))] [(.int (1073741823 : Int32)), (.int (1 : Int32))])) _
    refine XS.icmpYes X0.here hx rfl (pc0 := 15) (pc' := 55) rfl (hb hby d24_15) rfl (tlt (by decide : (1 : Int32) < (1073741823 : Int32))).1 (by decide) (by decide) ?_
    show Steps p.tables e below (s₁.setTop (mkF m 55 #[.val (.int (1 : Int32))] [])) _
    refine XS.iloadN X0.here hx rfl (hb hby d24_55) rfl ?_
    show Steps p.tables e below (s₁.setTop (mkF m 56 #[.val (.int (1 : Int32))] [(.int (1 : Int32))])) _
    refine XS.iconst X0.here hx rfl (hb hby d24_56) ?_
    show Steps p.tables e below (s₁.setTop (mkF m 57 #[.val (.int (1 : Int32))] [(.int (1 : Int32)), (.int (1 : Int32))])) _
    refine XS.ishl X0.here hx rfl (hb hby d24_57) rfl ?_
    show Steps p.tables e below (s₁.setTop (mkF m 58 #[.val (.int (1 : Int32))] [(.int (2 : Int32))])) _
    exact retI X0 hx Bd.returns (hb hby d24_58) hr
  · show Q24 Z  h0 n0 _ s₁.heap _
    rw [e0]
    exact ⟨rfl, N0, rfl⟩
theorem d23_0 : decode jdk_52_method_2_code 0 = .ok (.iload_n 0, 1) := by decide +kernel
theorem d23_1 : decode jdk_52_method_2_code 1 = .ok (.invokestatic 11, 3) := by decide +kernel
theorem pd_8 : parseMethodDescriptor "(I)I" = some ⟨[.int], some .int⟩ := by decide +kernel
theorem d23_4 : decode jdk_52_method_2_code 4 = .ok (.newarray .byte, 2) := by decide +kernel
theorem d23_6 : decode jdk_52_method_2_code 6 = .ok (.areturn, 1) := by decide +kernel
theorem ef_rm23 (m : MethodId)  : entryFrame m #[(.int (1 : Int32))] 1 = mkF m 0 #[.val (.int (1 : Int32))] [] := by first | (simp [entryFrame, mkF, argsToLocals, Value.category]; done) | rfl
def Q23 (Z : State)  (h0 : Heap) (n0 : Nat) (v : Option Value) (h : Heap) (L : List Loc) : Prop := ∃ r0 : Addr, ∃ rk0 : ClassId, v = some (.ref r0) ∧ Fr n0 L ∧ h0.size ≤ r0 ∧ Keep h0 h [] ∧ Exa Z h r0 "[B" ∧ Arv Z h r0 rk0 .byte (2 : Int32) [(.int (0 : Int32)), (.int (0 : Int32))] (.int (0 : Int32))
set_option maxRecDepth 65536 in
set_option maxHeartbeats 40000000 in
theorem rm23 (l : Launch) (Z : State) (az : Array Value) (hw : ∀ d ∈ tables_1, d.before az Z = true) (ws : List Jvm.Cond)  (h0 : Heap) (n0 : Nat) (Z0 : n0 ≤ h0.size) :
    MetFree l (⟨"java/lang/StringUTF16", "newBytesFor", "(I)[B"⟩ : MethodName) (head1 (Jvm.Cond.code (⟨"java/lang/StringUTF16", "newBytesFor", "(I)[B"⟩ : MethodName) jdk_52_method_2_code 1 (some (.array .byte)) :: ws) ({ frames := 1, cells := 1, slots := 2, locals := 12 } : Room)) (fun a U => a = #[(.int (1 : Int32))] ∧ Z.Warmed39 U.vm ∧ U.heap = h0) (fun _ _ _ _ _ => True) (fun _ U o U' => ∃ v L, o = .returned v ∧ Q23 Z  h0 n0 v U'.heap L ∧ FrameEnd U o U' L ({ frames := 1, cells := 1, slots := 2, locals := 12 } : Room).cells ({ frames := 1, cells := 1, slots := 2, locals := 12 } : Room).slots) := by
  refine MetFree.of_bodySF (plainFor_of_name pn_java_lang_StringUTF16) hisR ?_
  intro p e s m args below meth c s₁ Bd hml0 hP hK
  obtain ⟨rfl, hZ, hh⟩ := hP
  have hx := Bd.exec
  have hby := Bd.bytes
  have hml : c.maxLocals = 1 := hml0
  have hown : s.vm.findClass "java/lang/StringUTF16" = some m.cls := findClass_of_methodNamed Bd.named
  have hnm := (name_of_methodNamed Bd.named Bd.method).1
  have X0 : Stand p l e ({ frames := 1, cells := 1, slots := 2, locals := 12 } : Room) s m #[(.int (1 : Int32))] below meth c s₁ [] 0 0 := Stand.of_body Bd
  have e0 : s₁.heap = h0 := by rw [← hh, Bd.state]; rfl
  have N0 := Fr.nil n0
  have pre0 : ∀ t, Steps p.tables e below (s₁.setTop (mkF m 0 #[.val (.int (1 : Int32))] [])) t → Steps p.tables e below (s₁.setTop (entryFrame m #[(.int (1 : Int32))] 1)) t := fun t k => castTop (ef_rm23 m ) k
  obtain ⟨_, _, ⟨T1, L1, k1', n1'⟩, -, X1, ⟨Lc1, hQ1, l1, y1, z1⟩, st1⟩ := Jvm.LawKit.callS X0 hx (y := (⟨"java/lang/StringUTF16", "newBytesLength", "(I)I"⟩ : MethodName)) hown (mvT hZ (hw _ (List.mem_of_getElem? (i := 135) rfl))) (mvT hZ (hw _ (List.mem_of_getElem? (i := 136) rfl))) (mvT hZ (hw _ (List.mem_of_getElem? (i := 133) rfl))) (mvT hZ (hw _ (List.mem_of_getElem? (i := 137) rfl))) (by decide) (backOf (W := 0) (rm24 l Z az hw []  h0 n0 Z0) hZ (hw _ (List.mem_of_getElem? (i := 137) rfl)) (hw _ (List.mem_of_getElem? (i := 133) rfl)) (by decide) (by decide)) (g := (mkF m 1 #[.val (.int (1 : Int32))] [(.int (1 : Int32))])) rfl (by rw [hml]; rfl) (argsL := [(.int (1 : Int32))]) (rest := []) (lenOf pd_8 rfl) rfl (by show 2 * 0 + _ ≤ _; exact Nat.le_of_eq rfl) (hb hby d23_1) (fun _ _ => ⟨rfl, e0, (by decide : 0 + 0 ≤ _), (by decide : 0 + 0 ≤ _)⟩)
  dsimp only [Pt.U, Pt.locs, Pt.cells, Pt.slots] at X1 l1 y1 z1 st1 hQ1
  subst l1 y1 z1
  obtain ⟨rfl, N1q, e1⟩ := hQ1
  have N1 := Fr.app N0 N1q
  obtain ⟨T2, h2, k2, X2, e2, E2, A2, x2, st2⟩ := newPE X1 hx hZ (hw _ (List.mem_of_getElem? (i := 14) rfl)) e1 (g := (mkF m 4 #[.val (.int (1 : Int32))] [(.int (2 : Int32))])) rfl (hb hby d23_4) rfl (by decide) (cap := 2) (by decide) (by decide) (by decide) (by decide) (ad := "[B") (by decide)
  obtain ⟨b2, g2⟩ : ∃ z, z = h0.size := ⟨_, rfl⟩
  rw [← g2] at A2 x2 st2
  have g_b2 : n0 ≤ b2 := Nat.le_trans Z0 (Nat.le_of_eq g2.symm)
  have sz_b2 : h0.size ≤ b2 := Nat.le_trans (Nat.le_refl _) (Nat.le_of_eq g2.symm)
  have Z2 : n0 ≤ h2.size := Nat.le_trans Z0 E2.1
  have K2 : Keep h0 h2 [] := (Keep.refl h0 []).ext E2
  have E_b2 := x2
  have V_b2 : Arv Z h2 b2 k2 .byte (2 : Int32) [(.int (0 : Int32)), (.int (0 : Int32))] (.int (0 : Int32)) := (Arv.new A2 (by decide)).pad (pad_rep [] (.int (0 : Int32)) 2)
  obtain ⟨fs, hr, hrun, hended, hW, hsame⟩ := X2.leave (v := some (.ref b2)) (fun h => by rw [Bd.returns] at h; cases h)
  refine ⟨_, _, pre0 _ ?_, hrun, hended, _, _, rfl, ?_, ⟨_, rfl⟩, hW, hsame.mono (by decide) (by decide)⟩
  · show Steps p.tables e below (s₁.setTop (mkF m 0 #[.val (.int (1 : Int32))] [])) _
    refine XS.iloadN X0.here hx rfl (hb hby d23_0) rfl ?_
    show Steps p.tables e below (s₁.setTop (mkF m 1 #[.val (.int (1 : Int32))] [(.int (1 : Int32))])) _
    refine st1 _ ?_
    show Steps p.tables e below (T1.setTop (mkF m 4 #[.val (.int (1 : Int32))] [(.int (2 : Int32))])) _
    refine st2 _ ?_
    show Steps p.tables e below (T2.setTop (mkF m 6 #[.val (.int (1 : Int32))] [(.ref b2)])) _
    jvm_step X2.here [X2.here.top, hx, (hb hby d23_6), X2.method', Bd.returns, Value.isRef, FieldType.isReference]
    first | (intro acts; rw [hr _ acts rfl rfl rfl]) | rw [hr _ _ rfl rfl rfl]
    exact Steps.refl _
  · show Q23 Z  h0 n0 _ T2.heap _
    rw [e2]
    exact ⟨b2, k2, rfl, N1, sz_b2, K2, E_b2, V_b2⟩
theorem d13_29 : decode jdk_42_method_46_code 29 = .ok (.iconst 0, 1) := by decide +kernel
theorem d13_30 : decode jdk_42_method_46_code 30 = .ok (.istore_n 3, 1) := by decide +kernel
theorem d13_31 : decode jdk_42_method_46_code 31 = .ok (.aload_n 1, 1) := by decide +kernel
theorem d13_32 : decode jdk_42_method_46_code 32 = .ok (.arraylength, 1) := by decide +kernel
theorem d13_33 : decode jdk_42_method_46_code 33 = .ok (.invokestatic 60, 3) := by decide +kernel
theorem pd_9 : parseMethodDescriptor "(I)[B" = some ⟨[.int], some (.array .byte)⟩ := by decide +kernel
theorem d13_36 : decode jdk_42_method_46_code 36 = .ok (.astore 4, 2) := by decide +kernel
theorem d13_38 : decode jdk_42_method_46_code 38 = .ok (.aload_n 1, 1) := by decide +kernel
theorem d13_39 : decode jdk_42_method_46_code 39 = .ok (.astore 5, 2) := by decide +kernel
theorem d13_41 : decode jdk_42_method_46_code 41 = .ok (.aload 5, 2) := by decide +kernel
theorem d13_43 : decode jdk_42_method_46_code 43 = .ok (.arraylength, 1) := by decide +kernel
theorem d13_44 : decode jdk_42_method_46_code 44 = .ok (.istore 6, 2) := by decide +kernel
theorem d13_46 : decode jdk_42_method_46_code 46 = .ok (.iconst 0, 1) := by decide +kernel
theorem d13_47 : decode jdk_42_method_46_code 47 = .ok (.istore 7, 2) := by decide +kernel
theorem d13_49 : decode jdk_42_method_46_code 49 = .ok (.iload 7, 2) := by decide +kernel
theorem d13_51 : decode jdk_42_method_46_code 51 = .ok (.iload 6, 2) := by decide +kernel
theorem d13_53 : decode jdk_42_method_46_code 53 = .ok (.if_icmp .ge 71, 3) := by decide +kernel
theorem d13_56 : decode jdk_42_method_46_code 56 = .ok (.aload 5, 2) := by decide +kernel
theorem d13_58 : decode jdk_42_method_46_code 58 = .ok (.iload 7, 2) := by decide +kernel
theorem d13_60 : decode jdk_42_method_46_code 60 = .ok (.baload, 1) := by decide +kernel
theorem d13_61 : decode jdk_42_method_46_code 61 = .ok (.istore 8, 2) := by decide +kernel
theorem d13_63 : decode jdk_42_method_46_code 63 = .ok (.iload 8, 2) := by decide +kernel
theorem d13_65 : decode jdk_42_method_46_code 65 = .ok (.ifCond .ge 44, 3) := by decide +kernel
theorem d13_68 : decode jdk_42_method_46_code 68 = .ok (.aload 4, 2) := by decide +kernel
theorem d13_70 : decode jdk_42_method_46_code 70 = .ok (.iload_n 3, 1) := by decide +kernel
theorem d13_71 : decode jdk_42_method_46_code 71 = .ok (.iinc 3 1, 3) := by decide +kernel
theorem d13_74 : decode jdk_42_method_46_code 74 = .ok (.sipush 192, 3) := by decide +kernel
theorem d13_77 : decode jdk_42_method_46_code 77 = .ok (.iload 8, 2) := by decide +kernel
theorem d13_79 : decode jdk_42_method_46_code 79 = .ok (.sipush 255, 3) := by decide +kernel
theorem d13_82 : decode jdk_42_method_46_code 82 = .ok (.iand, 1) := by decide +kernel
theorem d13_83 : decode jdk_42_method_46_code 83 = .ok (.bipush 6, 2) := by decide +kernel
theorem d13_85 : decode jdk_42_method_46_code 85 = .ok (.ishr, 1) := by decide +kernel
theorem d13_86 : decode jdk_42_method_46_code 86 = .ok (.ior, 1) := by decide +kernel
theorem d13_87 : decode jdk_42_method_46_code 87 = .ok (.i2b, 1) := by decide +kernel
theorem d13_88 : decode jdk_42_method_46_code 88 = .ok (.bastore, 1) := by decide +kernel
theorem d13_89 : decode jdk_42_method_46_code 89 = .ok (.aload 4, 2) := by decide +kernel
theorem d13_91 : decode jdk_42_method_46_code 91 = .ok (.iload_n 3, 1) := by decide +kernel
theorem d13_92 : decode jdk_42_method_46_code 92 = .ok (.iinc 3 1, 3) := by decide +kernel
theorem d13_95 : decode jdk_42_method_46_code 95 = .ok (.sipush 128, 3) := by decide +kernel
theorem d13_98 : decode jdk_42_method_46_code 98 = .ok (.iload 8, 2) := by decide +kernel
theorem d13_100 : decode jdk_42_method_46_code 100 = .ok (.bipush 63, 2) := by decide +kernel
theorem d13_102 : decode jdk_42_method_46_code 102 = .ok (.iand, 1) := by decide +kernel
theorem d13_103 : decode jdk_42_method_46_code 103 = .ok (.ior, 1) := by decide +kernel
theorem d13_104 : decode jdk_42_method_46_code 104 = .ok (.i2b, 1) := by decide +kernel
theorem d13_105 : decode jdk_42_method_46_code 105 = .ok (.bastore, 1) := by decide +kernel
theorem d13_106 : decode jdk_42_method_46_code 106 = .ok (.goto 12, 3) := by decide +kernel
theorem d13_118 : decode jdk_42_method_46_code 118 = .ok (.iinc 7 1, 3) := by decide +kernel
theorem d13_121 : decode jdk_42_method_46_code 121 = .ok (.goto (-72), 3) := by decide +kernel
theorem d13_124 : decode jdk_42_method_46_code 124 = .ok (.iload_n 3, 1) := by decide +kernel
theorem d13_125 : decode jdk_42_method_46_code 125 = .ok (.aload 4, 2) := by decide +kernel
theorem d13_127 : decode jdk_42_method_46_code 127 = .ok (.arraylength, 1) := by decide +kernel
theorem d13_128 : decode jdk_42_method_46_code 128 = .ok (.if_icmp .ne 6, 3) := by decide +kernel
theorem d13_131 : decode jdk_42_method_46_code 131 = .ok (.aload 4, 2) := by decide +kernel
theorem d13_133 : decode jdk_42_method_46_code 133 = .ok (.areturn, 1) := by decide +kernel
theorem ef_rm13n (m : MethodId) (a1 : Addr) : entryFrame m #[(.int (0 : Int32)), (.ref a1), (.int (1 : Int32))] 9 = mkF m 0 #[.val (.int (0 : Int32)), .val (.ref a1), .val (.int (1 : Int32)), .unset, .unset, .unset, .unset, .unset, .unset] [] := by first | (simp [entryFrame, mkF, argsToLocals, Value.category]; done) | rfl
def Q13n (Z : State) (a1 : Addr) (k1 : ClassId) (pv : Int32) (h0 : Heap) (n0 : Nat) (v : Option Value) (h : Heap) (L : List Loc) : Prop := ∃ r0 : Addr, ∃ rk0 : ClassId, v = some (.ref r0) ∧ Fr n0 L ∧ h0.size ≤ r0 ∧ Keep h0 h [] ∧ Exa Z h r0 "[B" ∧ Arv Z h r0 rk0 .byte (2 : Int32) [(.int (((192 : Int32) ||| ((pv &&& (255 : Int32)) >>> ((6 : Int32) &&& 31))).toInt8.toInt32)), (.int (((128 : Int32) ||| (pv &&& (63 : Int32))).toInt8.toInt32))] (.int (0 : Int32))
set_option maxRecDepth 65536 in
set_option maxHeartbeats 40000000 in
theorem rm13n (l : Launch) (Z : State) (az : Array Value) (hw : ∀ d ∈ tables_1, d.before az Z = true) (ws : List Jvm.Cond) (a1 : Addr) (k1 : ClassId) (pv : Int32) (h0 : Heap) (n0 : Nat) (Z0 : n0 ≤ h0.size) (V_a1 : Arv Z h0 a1 k1 .byte (1 : Int32) [(.int pv)] (.int (0 : Int32))) (E_a1 : Exa Z h0 a1 "[B") (hc2 : pv < (0 : Int32)) :
    MetFree l (⟨"java/lang/String", "encodeUTF8", "(B[BZ)[B"⟩ : MethodName) (head1 (Jvm.Cond.code (⟨"java/lang/String", "encodeUTF8", "(B[BZ)[B"⟩ : MethodName) jdk_42_method_46_code 9 (some (.array .byte)) :: ws) ({ frames := 2, cells := 1, slots := 2, locals := 30 } : Room)) (fun a U => a = #[(.int (0 : Int32)), (.ref a1), (.int (1 : Int32))] ∧ Z.Warmed39 U.vm ∧ U.heap = h0) (fun _ _ _ _ _ => True) (fun _ U o U' => ∃ v L, o = .returned v ∧ Q13n Z a1 k1 pv h0 n0 v U'.heap L ∧ FrameEnd U o U' L ({ frames := 2, cells := 1, slots := 2, locals := 30 } : Room).cells ({ frames := 2, cells := 1, slots := 2, locals := 30 } : Room).slots) := by
  refine MetFree.of_bodySF (plainFor_of_name pn_java_lang_String) hisR ?_
  intro p e s m args below meth c s₁ Bd hml0 hP hK
  obtain ⟨rfl, hZ, hh⟩ := hP
  have hx := Bd.exec
  have hby := Bd.bytes
  have hml : c.maxLocals = 9 := hml0
  have hown : s.vm.findClass "java/lang/String" = some m.cls := findClass_of_methodNamed Bd.named
  have hnm := (name_of_methodNamed Bd.named Bd.method).1
  have X0 : Stand p l e ({ frames := 2, cells := 1, slots := 2, locals := 30 } : Room) s m #[(.int (0 : Int32)), (.ref a1), (.int (1 : Int32))] below meth c s₁ [] 0 0 := Stand.of_body Bd
  have e0 : s₁.heap = h0 := by rw [← hh, Bd.state]; rfl
  have N0 := Fr.nil n0
  have pre0 : ∀ t, Steps p.tables e below (s₁.setTop (mkF m 0 #[.val (.int (0 : Int32)), .val (.ref a1), .val (.int (1 : Int32)), .unset, .unset, .unset, .unset, .unset, .unset] [])) t → Steps p.tables e below (s₁.setTop (entryFrame m #[(.int (0 : Int32)), (.ref a1), (.int (1 : Int32))] 9)) t := fun t k => castTop (ef_rm13n m a1) k
  obtain ⟨cl1, Ar1, qk1, Sz1, Ng1, Hs1, Gf1⟩ := id V_a1
  obtain ⟨_, _, ⟨T2, L2, k2', n2'⟩, -, X2, ⟨Lc2, hQ2, l2, y2, z2⟩, st2⟩ := Jvm.LawKit.callS X0 hx (y := (⟨"java/lang/StringCoding", "hasNegatives", "([BII)Z"⟩ : MethodName)) hown (mvT hZ (hw _ (List.mem_of_getElem? (i := 73) rfl))) (mvT hZ (hw _ (List.mem_of_getElem? (i := 74) rfl))) (mvT hZ (hw _ (List.mem_of_getElem? (i := 75) rfl))) (mvT hZ (hw _ (List.mem_of_getElem? (i := 76) rfl))) (by decide) (backOf (W := 0) (rm14n l Z az hw [] a1 k1 pv h0 n0 Z0 V_a1 hc2) hZ (hw _ (List.mem_of_getElem? (i := 76) rfl)) (hw _ (List.mem_of_getElem? (i := 75) rfl)) (by decide) (by decide)) (g := (mkF m 15 #[.val (.int (0 : Int32)), .val (.ref a1), .val (.int (1 : Int32)), .unset, .unset, .unset, .unset, .unset, .unset] [(.int (1 : Int32)), (.int (0 : Int32)), (.ref a1)])) rfl (by rw [hml]; rfl) (argsL := [(.ref a1), (.int (0 : Int32)), (.int (1 : Int32))]) (rest := []) (lenOf pd_1 rfl) rfl (by show 2 * 0 + _ ≤ _; exact Nat.le_of_eq rfl) (hb hby d13_15) (fun _ _ => ⟨rfl, e0, (by decide : 0 + 0 ≤ _), (by decide : 0 + 0 ≤ _)⟩)
  dsimp only [Pt.U, Pt.locs, Pt.cells, Pt.slots] at X2 l2 y2 z2 st2 hQ2
  subst l2 y2 z2
  obtain ⟨rfl, N2q, e2⟩ := hQ2
  have N2 := Fr.app N0 N2q
  obtain ⟨_, _, ⟨T3, L3, k3', n3'⟩, -, X3, ⟨Lc3, hQ3, l3, y3, z3⟩, st3⟩ := Jvm.LawKit.callS X2 hx (y := (⟨"java/lang/StringUTF16", "newBytesFor", "(I)[B"⟩ : MethodName)) hown (mvT hZ (hw _ (List.mem_of_getElem? (i := 131) rfl))) (mvT hZ (hw _ (List.mem_of_getElem? (i := 132) rfl))) (mvT hZ (hw _ (List.mem_of_getElem? (i := 133) rfl))) (mvT hZ (hw _ (List.mem_of_getElem? (i := 134) rfl))) (by decide) (backOf (W := 0) (rm23 l Z az hw []  h0 n0 Z0) hZ (hw _ (List.mem_of_getElem? (i := 134) rfl)) (hw _ (List.mem_of_getElem? (i := 133) rfl)) (by decide) (by decide)) (g := (mkF m 33 #[.val (.int (0 : Int32)), .val (.ref a1), .val (.int (1 : Int32)), .val (.int (0 : Int32)), .unset, .unset, .unset, .unset, .unset] [(.int (1 : Int32))])) rfl (by rw [hml]; rfl) (argsL := [(.int (1 : Int32))]) (rest := []) (lenOf pd_9 rfl) rfl (by show 2 * 0 + _ ≤ _; exact Nat.le_of_eq rfl) (hb hby d13_33) (fun _ _ => ⟨rfl, e2, (by decide : 0 + 1 ≤ _), (by decide : 0 + 2 ≤ _)⟩)
  dsimp only [Pt.U, Pt.locs, Pt.cells, Pt.slots] at X3 l3 y3 z3 st3 hQ3
  subst l3 y3 z3
  obtain ⟨b3_0, kk3_0, rfl, N3q, s3_0, kq3, pf3_0, pf3_1⟩ := hQ3
  have N3 := Fr.app N2 N3q
  have g_b3_0 : n0 ≤ b3_0 := Nat.le_trans Z0 s3_0
  have sz_b3_0 : h0.size ≤ b3_0 := Nat.le_trans (Nat.le_refl _) s3_0
  have K3 : Keep h0 T3.heap [] := (Keep.refl h0 []).trans kq3 all0
  have Z3 : n0 ≤ T3.heap.size := Nat.le_trans Z0 kq3.1
  have V_a1_u4 : Arv Z T3.heap a1 k1 .byte (1 : Int32) [(.int pv)] (.int (0 : Int32)) := (V_a1.keep kq3 nin0)
  obtain ⟨cl5, Ar5, qk5, Sz5, Ng5, Hs5, Gf5⟩ := id V_a1_u4
  have hin6 : ¬ ((0 : Int32) < 0 ∨ cl5.slots.size ≤ ((0 : Int32)).toNatClampNeg) := inb_of Sz5 ⟨by decide, by decide⟩
  have hat7 : cl5.slots[((0 : Int32)).toNatClampNeg]? = some (.int pv) := Hs5.at hin6 rfl
  obtain ⟨cl8, Ar8, qk8, Sz8, Ng8, Hs8, Gf8⟩ := id pf3_1
  have hin9 : ¬ ((0 : Int32) < 0 ∨ cl8.slots.size ≤ ((0 : Int32)).toNatClampNeg) := inb_of Sz8 ⟨by decide, by decide⟩
  obtain ⟨T10, h10, X10, e10, W10, st10⟩ := stB X3 hx hZ rfl Ar8 (j := (0 : Int32)) hin9 (g := (mkF m 88 #[.val (.int (0 : Int32)), .val (.ref a1), .val (.int (1 : Int32)), .val (.int (1 : Int32)), .val (.ref b3_0), .val (.ref a1), .val (.int (1 : Int32)), .val (.int (0 : Int32)), .val (.int pv)] [(.int (((192 : Int32) ||| ((pv &&& (255 : Int32)) >>> ((6 : Int32) &&& 31))).toInt8.toInt32)), (.int (0 : Int32)), (.ref b3_0)])) rfl rfl (hb hby d13_88)
  rw [(own_nb _)] at W10
  have K10 : Keep h0 h10 [] := K3.wr W10 (Or.inr sz_b3_0)
  have V_b3_0_10 : Arv Z h10 b3_0 kk3_0 .byte (2 : Int32) [(.int (((192 : Int32) ||| ((pv &&& (255 : Int32)) >>> ((6 : Int32) &&& 31))).toInt8.toInt32)), (.int (0 : Int32))] (.int (0 : Int32)) := Arv.set (v := (.int (((192 : Int32) ||| ((pv &&& (255 : Int32)) >>> ((6 : Int32) &&& 31))).toInt8.toInt32))) Ar8 qk8 Sz8 Ng8 Hs8 Gf8 (own_fits (own_nb _) (fits_nar_byte _)) W10 0 rfl (Nat.le_of_ble_eq_true rfl)
  have Z10 : n0 ≤ h10.size := Nat.le_trans Z3 (Keep.of_wr W10).1
  have N10 := Fr.snoc X10 N3 g_b3_0
  obtain ⟨cl11, Ar11, qk11, Sz11, Ng11, Hs11, Gf11⟩ := id V_b3_0_10
  have hin12 : ¬ ((1 : Int32) < 0 ∨ cl11.slots.size ≤ ((1 : Int32)).toNatClampNeg) := inb_of Sz11 ⟨by decide, by decide⟩
  obtain ⟨T13, h13, X13, e13, W13, st13⟩ := stB X10 hx hZ e10 Ar11 (j := (1 : Int32)) hin12 (g := (mkF m 105 #[.val (.int (0 : Int32)), .val (.ref a1), .val (.int (1 : Int32)), .val (.int (2 : Int32)), .val (.ref b3_0), .val (.ref a1), .val (.int (1 : Int32)), .val (.int (0 : Int32)), .val (.int pv)] [(.int (((128 : Int32) ||| (pv &&& (63 : Int32))).toInt8.toInt32)), (.int (1 : Int32)), (.ref b3_0)])) rfl rfl (hb hby d13_105)
  rw [(own_nb _)] at W13
  have K13 : Keep h0 h13 [] := K10.wr W13 (Or.inr sz_b3_0)
  have V_b3_0_13 : Arv Z h13 b3_0 kk3_0 .byte (2 : Int32) [(.int (((192 : Int32) ||| ((pv &&& (255 : Int32)) >>> ((6 : Int32) &&& 31))).toInt8.toInt32)), (.int (((128 : Int32) ||| (pv &&& (63 : Int32))).toInt8.toInt32))] (.int (0 : Int32)) := Arv.set (v := (.int (((128 : Int32) ||| (pv &&& (63 : Int32))).toInt8.toInt32))) Ar11 qk11 Sz11 Ng11 Hs11 Gf11 (own_fits (own_nb _) (fits_nar_byte _)) W13 1 rfl (Nat.le_of_ble_eq_true rfl)
  have Z13 : n0 ≤ h13.size := Nat.le_trans Z10 (Keep.of_wr W13).1
  have N13 := Fr.snoc X13 N10 g_b3_0
  obtain ⟨cl14, Ar14, qk14, Sz14, Ng14, Hs14, Gf14⟩ := id V_b3_0_13
  have E_b3_0_u15 : Exa Z h13 b3_0 "[B" := ((pf3_0.wr W10).wr W13)
  obtain ⟨fs, hr, hrun, hended, hW, hsame⟩ := X13.leave (v := some (.ref b3_0)) (fun h => by rw [Bd.returns] at h; cases h)
  refine ⟨_, _, pre0 _ ?_, hrun, hended, _, _, rfl, ?_, ⟨_, rfl⟩, hW, hsame.mono (by decide) (by decide)⟩
  · show Steps p.tables e below (s₁.setTop (mkF m 0 #[.val (.int (0 : Int32)), .val (.ref a1), .val (.int (1 : Int32)), .unset, .unset, .unset, .unset, .unset, .unset] [])) _
    refine XS.iloadN X0.here hx rfl (hb hby d13_0) rfl ?_
    show Steps p.tables e below (s₁.setTop (mkF m 1 #[.val (.int (0 : Int32)), .val (.ref a1), .val (.int (1 : Int32)), .unset, .unset, .unset, .unset, .unset, .unset] [(.int (0 : Int32))])) _
    refine XS.iconst X0.here hx rfl (hb hby d13_1) ?_
    show Steps p.tables e below (s₁.setTop (mkF m 2 #[.val (.int (0 : Int32)), .val (.ref a1), .val (.int (1 : Int32)), .unset, .unset, .unset, .unset, .unset, .unset] [(.int (1 : Int32)), (.int (0 : Int32))])) _
    refine XS.icmpYes X0.here hx rfl (pc0 := 2) (pc' := 11) rfl (hb hby d13_2) rfl (feq (by decide : ¬ ((0 : Int32) = (1 : Int32)))).2 (by decide) (by decide) ?_
    show Steps p.tables e below (s₁.setTop (mkF m 11 #[.val (.int (0 : Int32)), .val (.ref a1), .val (.int (1 : Int32)), .unset, .unset, .unset, .unset, .unset, .unset] [])) _
    refine XS.aloadN X0.here hx rfl (hb hby d13_11) rfl rfl ?_
    show Steps p.tables e below (s₁.setTop (mkF m 12 #[.val (.int (0 : Int32)), .val (.ref a1), .val (.int (1 : Int32)), .unset, .unset, .unset, .unset, .unset, .unset] [(.ref a1)])) _
    refine XS.iconst X0.here hx rfl (hb hby d13_12) ?_
    show Steps p.tables e below (s₁.setTop (mkF m 13 #[.val (.int (0 : Int32)), .val (.ref a1), .val (.int (1 : Int32)), .unset, .unset, .unset, .unset, .unset, .unset] [(.int (0 : Int32)), (.ref a1)])) _
    refine XS.aloadN X0.here hx rfl (hb hby d13_13) rfl rfl ?_
    show Steps p.tables e below (s₁.setTop (mkF m 14 #[.val (.int (0 : Int32)), .val (.ref a1), .val (.int (1 : Int32)), .unset, .unset, .unset, .unset, .unset, .unset] [(.ref a1), (.int (0 : Int32)), (.ref a1)])) _
    refine X0.arraylength hx (by rw [e0]; exact Ar1.1) (State.isArrayOf_alike hZ.alike Ar1.2.1) (g := (mkF m 14 #[.val (.int (0 : Int32)), .val (.ref a1), .val (.int (1 : Int32)), .unset, .unset, .unset, .unset, .unset, .unset] [(.ref a1), (.int (0 : Int32)), (.ref a1)])) rfl rfl (hb hby d13_14) _ ?_
    rw [len_of Sz1 Ng1]
    show Steps p.tables e below (s₁.setTop (mkF m 15 #[.val (.int (0 : Int32)), .val (.ref a1), .val (.int (1 : Int32)), .unset, .unset, .unset, .unset, .unset, .unset] [(.int (1 : Int32)), (.int (0 : Int32)), (.ref a1)])) _
    refine st2 _ ?_
    show Steps p.tables e below (T2.setTop (mkF m 18 #[.val (.int (0 : Int32)), .val (.ref a1), .val (.int (1 : Int32)), .unset, .unset, .unset, .unset, .unset, .unset] [(.int (1 : Int32))])) _
    refine XS.ifYes X2.here hx rfl (pc0 := 18) (pc' := 29) rfl (hb hby d13_18) rfl ((if0 _ _).trans (feq (by decide : ¬ ((1 : Int32) = (0 : Int32)))).2) (by decide) (by decide) ?_
    show Steps p.tables e below (T2.setTop (mkF m 29 #[.val (.int (0 : Int32)), .val (.ref a1), .val (.int (1 : Int32)), .unset, .unset, .unset, .unset, .unset, .unset] [])) _
    refine XS.iconst X2.here hx rfl (hb hby d13_29) ?_
    show Steps p.tables e below (T2.setTop (mkF m 30 #[.val (.int (0 : Int32)), .val (.ref a1), .val (.int (1 : Int32)), .unset, .unset, .unset, .unset, .unset, .unset] [(.int (0 : Int32))])) _
    refine XS.istoreN X2.here hx rfl (hb hby d13_30) rfl (l' := #[.val (.int (0 : Int32)), .val (.ref a1), .val (.int (1 : Int32)), .val (.int (0 : Int32)), .unset, .unset, .unset, .unset, .unset]) rfl ?_
    show Steps p.tables e below (T2.setTop (mkF m 31 #[.val (.int (0 : Int32)), .val (.ref a1), .val (.int (1 : Int32)), .val (.int (0 : Int32)), .unset, .unset, .unset, .unset, .unset] [])) _
    refine XS.aloadN X2.here hx rfl (hb hby d13_31) rfl rfl ?_
    show Steps p.tables e below (T2.setTop (mkF m 32 #[.val (.int (0 : Int32)), .val (.ref a1), .val (.int (1 : Int32)), .val (.int (0 : Int32)), .unset, .unset, .unset, .unset, .unset] [(.ref a1)])) _
    refine X2.arraylength hx (by rw [e2]; exact Ar1.1) (State.isArrayOf_alike hZ.alike Ar1.2.1) (g := (mkF m 32 #[.val (.int (0 : Int32)), .val (.ref a1), .val (.int (1 : Int32)), .val (.int (0 : Int32)), .unset, .unset, .unset, .unset, .unset] [(.ref a1)])) rfl rfl (hb hby d13_32) _ ?_
    rw [len_of Sz1 Ng1]
    show Steps p.tables e below (T2.setTop (mkF m 33 #[.val (.int (0 : Int32)), .val (.ref a1), .val (.int (1 : Int32)), .val (.int (0 : Int32)), .unset, .unset, .unset, .unset, .unset] [(.int (1 : Int32))])) _
    refine st3 _ ?_
    show Steps p.tables e below (T3.setTop (mkF m 36 #[.val (.int (0 : Int32)), .val (.ref a1), .val (.int (1 : Int32)), .val (.int (0 : Int32)), .unset, .unset, .unset, .unset, .unset] [(.ref b3_0)])) _
    refine XS.astore X3.here hx rfl (hb hby d13_36) rfl rfl (l' := #[.val (.int (0 : Int32)), .val (.ref a1), .val (.int (1 : Int32)), .val (.int (0 : Int32)), .val (.ref b3_0), .unset, .unset, .unset, .unset]) rfl ?_
    show Steps p.tables e below (T3.setTop (mkF m 38 #[.val (.int (0 : Int32)), .val (.ref a1), .val (.int (1 : Int32)), .val (.int (0 : Int32)), .val (.ref b3_0), .unset, .unset, .unset, .unset] [])) _
    refine XS.aloadN X3.here hx rfl (hb hby d13_38) rfl rfl ?_
    show Steps p.tables e below (T3.setTop (mkF m 39 #[.val (.int (0 : Int32)), .val (.ref a1), .val (.int (1 : Int32)), .val (.int (0 : Int32)), .val (.ref b3_0), .unset, .unset, .unset, .unset] [(.ref a1)])) _
    refine XS.astore X3.here hx rfl (hb hby d13_39) rfl rfl (l' := #[.val (.int (0 : Int32)), .val (.ref a1), .val (.int (1 : Int32)), .val (.int (0 : Int32)), .val (.ref b3_0), .val (.ref a1), .unset, .unset, .unset]) rfl ?_
    show Steps p.tables e below (T3.setTop (mkF m 41 #[.val (.int (0 : Int32)), .val (.ref a1), .val (.int (1 : Int32)), .val (.int (0 : Int32)), .val (.ref b3_0), .val (.ref a1), .unset, .unset, .unset] [])) _
    refine XS.aload X3.here hx rfl (hb hby d13_41) rfl rfl ?_
    show Steps p.tables e below (T3.setTop (mkF m 43 #[.val (.int (0 : Int32)), .val (.ref a1), .val (.int (1 : Int32)), .val (.int (0 : Int32)), .val (.ref b3_0), .val (.ref a1), .unset, .unset, .unset] [(.ref a1)])) _
    refine X3.arraylength hx Ar5.1 (State.isArrayOf_alike hZ.alike Ar5.2.1) (g := (mkF m 43 #[.val (.int (0 : Int32)), .val (.ref a1), .val (.int (1 : Int32)), .val (.int (0 : Int32)), .val (.ref b3_0), .val (.ref a1), .unset, .unset, .unset] [(.ref a1)])) rfl rfl (hb hby d13_43) _ ?_
    rw [len_of Sz5 Ng5]
    show Steps p.tables e below (T3.setTop (mkF m 44 #[.val (.int (0 : Int32)), .val (.ref a1), .val (.int (1 : Int32)), .val (.int (0 : Int32)), .val (.ref b3_0), .val (.ref a1), .unset, .unset, .unset] [(.int (1 : Int32))])) _
    refine XS.istore X3.here hx rfl (hb hby d13_44) rfl (l' := #[.val (.int (0 : Int32)), .val (.ref a1), .val (.int (1 : Int32)), .val (.int (0 : Int32)), .val (.ref b3_0), .val (.ref a1), .val (.int (1 : Int32)), .unset, .unset]) rfl ?_
    show Steps p.tables e below (T3.setTop (mkF m 46 #[.val (.int (0 : Int32)), .val (.ref a1), .val (.int (1 : Int32)), .val (.int (0 : Int32)), .val (.ref b3_0), .val (.ref a1), .val (.int (1 : Int32)), .unset, .unset] [])) _
    refine XS.iconst X3.here hx rfl (hb hby d13_46) ?_
    show Steps p.tables e below (T3.setTop (mkF m 47 #[.val (.int (0 : Int32)), .val (.ref a1), .val (.int (1 : Int32)), .val (.int (0 : Int32)), .val (.ref b3_0), .val (.ref a1), .val (.int (1 : Int32)), .unset, .unset] [(.int (0 : Int32))])) _
    refine XS.istore X3.here hx rfl (hb hby d13_47) rfl (l' := #[.val (.int (0 : Int32)), .val (.ref a1), .val (.int (1 : Int32)), .val (.int (0 : Int32)), .val (.ref b3_0), .val (.ref a1), .val (.int (1 : Int32)), .val (.int (0 : Int32)), .unset]) rfl ?_
    show Steps p.tables e below (T3.setTop (mkF m 49 #[.val (.int (0 : Int32)), .val (.ref a1), .val (.int (1 : Int32)), .val (.int (0 : Int32)), .val (.ref b3_0), .val (.ref a1), .val (.int (1 : Int32)), .val (.int (0 : Int32)), .unset] [])) _
    refine XS.iload X3.here hx rfl (hb hby d13_49) rfl ?_
    show Steps p.tables e below (T3.setTop (mkF m 51 #[.val (.int (0 : Int32)), .val (.ref a1), .val (.int (1 : Int32)), .val (.int (0 : Int32)), .val (.ref b3_0), .val (.ref a1), .val (.int (1 : Int32)), .val (.int (0 : Int32)), .unset] [(.int (0 : Int32))])) _
    refine XS.iload X3.here hx rfl (hb hby d13_51) rfl ?_
    show Steps p.tables e below (T3.setTop (mkF m 53 #[.val (.int (0 : Int32)), .val (.ref a1), .val (.int (1 : Int32)), .val (.int (0 : Int32)), .val (.ref b3_0), .val (.ref a1), .val (.int (1 : Int32)), .val (.int (0 : Int32)), .unset] [(.int (1 : Int32)), (.int (0 : Int32))])) _
    refine XS.icmpNo X3.here hx rfl (hb hby d13_53) rfl (tlt (by decide : (0 : Int32) < (1 : Int32))).2.1 ?_
    show Steps p.tables e below (T3.setTop (mkF m 56 #[.val (.int (0 : Int32)), .val (.ref a1), .val (.int (1 : Int32)), .val (.int (0 : Int32)), .val (.ref b3_0), .val (.ref a1), .val (.int (1 : Int32)), .val (.int (0 : Int32)), .unset] [])) _
    refine XS.aload X3.here hx rfl (hb hby d13_56) rfl rfl ?_
    show Steps p.tables e below (T3.setTop (mkF m 58 #[.val (.int (0 : Int32)), .val (.ref a1), .val (.int (1 : Int32)), .val (.int (0 : Int32)), .val (.ref b3_0), .val (.ref a1), .val (.int (1 : Int32)), .val (.int (0 : Int32)), .unset] [(.ref a1)])) _
    refine XS.iload X3.here hx rfl (hb hby d13_58) rfl ?_
    show Steps p.tables e below (T3.setTop (mkF m 60 #[.val (.int (0 : Int32)), .val (.ref a1), .val (.int (1 : Int32)), .val (.int (0 : Int32)), .val (.ref b3_0), .val (.ref a1), .val (.int (1 : Int32)), .val (.int (0 : Int32)), .unset] [(.int (0 : Int32)), (.ref a1)])) _
    refine X3.baloadBytes hx (j := (0 : Int32)) (v := (.int pv)) Ar5.1 (State.isArrayOf_alike hZ.alike Ar5.2.1) Ar5.2.2 hin6 hat7 (g := (mkF m 60 #[.val (.int (0 : Int32)), .val (.ref a1), .val (.int (1 : Int32)), .val (.int (0 : Int32)), .val (.ref b3_0), .val (.ref a1), .val (.int (1 : Int32)), .val (.int (0 : Int32)), .unset] [(.int (0 : Int32)), (.ref a1)])) rfl rfl (hb hby d13_60) _ ?_
    show Steps p.tables e below (T3.setTop (mkF m 61 #[.val (.int (0 : Int32)), .val (.ref a1), .val (.int (1 : Int32)), .val (.int (0 : Int32)), .val (.ref b3_0), .val (.ref a1), .val (.int (1 : Int32)), .val (.int (0 : Int32)), .unset] [(.int pv)])) _
    refine XS.istore X3.here hx rfl (hb hby d13_61) rfl (l' := #[.val (.int (0 : Int32)), .val (.ref a1), .val (.int (1 : Int32)), .val (.int (0 : Int32)), .val (.ref b3_0), .val (.ref a1), .val (.int (1 : Int32)), .val (.int (0 : Int32)), .val (.int pv)]) rfl ?_
    show Steps p.tables e below (T3.setTop (mkF m 63 #[.val (.int (0 : Int32)), .val (.ref a1), .val (.int (1 : Int32)), .val (.int (0 : Int32)), .val (.ref b3_0), .val (.ref a1), .val (.int (1 : Int32)), .val (.int (0 : Int32)), .val (.int pv)] [])) _
    refine XS.iload X3.here hx rfl (hb hby d13_63) rfl ?_
    show Steps p.tables e below (T3.setTop (mkF m 65 #[.val (.int (0 : Int32)), .val (.ref a1), .val (.int (1 : Int32)), .val (.int (0 : Int32)), .val (.ref b3_0), .val (.ref a1), .val (.int (1 : Int32)), .val (.int (0 : Int32)), .val (.int pv)] [(.int pv)])) _
    refine XS.ifNo X3.here hx rfl (hb hby d13_65) rfl ((if0 _ _).trans (tlt hc2).2.1) ?_
    show Steps p.tables e below (T3.setTop (mkF m 68 #[.val (.int (0 : Int32)), .val (.ref a1), .val (.int (1 : Int32)), .val (.int (0 : Int32)), .val (.ref b3_0), .val (.ref a1), .val (.int (1 : Int32)), .val (.int (0 : Int32)), .val (.int pv)] [])) _
    refine XS.aload X3.here hx rfl (hb hby d13_68) rfl rfl ?_
    show Steps p.tables e below (T3.setTop (mkF m 70 #[.val (.int (0 : Int32)), .val (.ref a1), .val (.int (1 : Int32)), .val (.int (0 : Int32)), .val (.ref b3_0), .val (.ref a1), .val (.int (1 : Int32)), .val (.int (0 : Int32)), .val (.int pv)] [(.ref b3_0)])) _
    refine XS.iloadN X3.here hx rfl (hb hby d13_70) rfl ?_
    show Steps p.tables e below (T3.setTop (mkF m 71 #[.val (.int (0 : Int32)), .val (.ref a1), .val (.int (1 : Int32)), .val (.int (0 : Int32)), .val (.ref b3_0), .val (.ref a1), .val (.int (1 : Int32)), .val (.int (0 : Int32)), .val (.int pv)] [(.int (0 : Int32)), (.ref b3_0)])) _
    refine XS.iinc X3.here hx rfl (hb hby d13_71) rfl (l' := #[.val (.int (0 : Int32)), .val (.ref a1), .val (.int (1 : Int32)), .val (.int (1 : Int32)), .val (.ref b3_0), .val (.ref a1), .val (.int (1 : Int32)), .val (.int (0 : Int32)), .val (.int pv)]) rfl ?_
    show Steps p.tables e below (T3.setTop (mkF m 74 #[.val (.int (0 : Int32)), .val (.ref a1), .val (.int (1 : Int32)), .val (.int (1 : Int32)), .val (.ref b3_0), .val (.ref a1), .val (.int (1 : Int32)), .val (.int (0 : Int32)), .val (.int pv)] [(.int (0 : Int32)), (.ref b3_0)])) _
    refine XS.sipush X3.here hx rfl (hb hby d13_74) ?_
    show Steps p.tables e below (T3.setTop (mkF m 77 #[.val (.int (0 : Int32)), .val (.ref a1), .val (.int (1 : Int32)), .val (.int (1 : Int32)), .val (.ref b3_0), .val (.ref a1), .val (.int (1 : Int32)), .val (.int (0 : Int32)), .val (.int pv)] [(.int (192 : Int32)), (.int (0 : Int32)), (.ref b3_0)])) _
    refine XS.iload X3.here hx rfl (hb hby d13_77) rfl ?_
    show Steps p.tables e below (T3.setTop (mkF m 79 #[.val (.int (0 : Int32)), .val (.ref a1), .val (.int (1 : Int32)), .val (.int (1 : Int32)), .val (.ref b3_0), .val (.ref a1), .val (.int (1 : Int32)), .val (.int (0 : Int32)), .val (.int pv)] [(.int pv), (.int (192 : Int32)), (.int (0 : Int32)), (.ref b3_0)])) _
    refine XS.sipush X3.here hx rfl (hb hby d13_79) ?_
    show Steps p.tables e below (T3.setTop (mkF m 82 #[.val (.int (0 : Int32)), .val (.ref a1), .val (.int (1 : Int32)), .val (.int (1 : Int32)), .val (.ref b3_0), .val (.ref a1), .val (.int (1 : Int32)), .val (.int (0 : Int32)), .val (.int pv)] [(.int (255 : Int32)), (.int pv), (.int (192 : Int32)), (.int (0 : Int32)), (.ref b3_0)])) _
    refine XS.iand X3.here hx rfl (hb hby d13_82) rfl ?_
    show Steps p.tables e below (T3.setTop (mkF m 83 #[.val (.int (0 : Int32)), .val (.ref a1), .val (.int (1 : Int32)), .val (.int (1 : Int32)), .val (.ref b3_0), .val (.ref a1), .val (.int (1 : Int32)), .val (.int (0 : Int32)), .val (.int pv)] [(.int (pv &&& (255 : Int32))), (.int (192 : Int32)), (.int (0 : Int32)), (.ref b3_0)])) _
    refine XS.bipush X3.here hx rfl (hb hby d13_83) ?_
    show Steps p.tables e below (T3.setTop (mkF m 85 #[.val (.int (0 : Int32)), .val (.ref a1), .val (.int (1 : Int32)), .val (.int (1 : Int32)), .val (.ref b3_0), .val (.ref a1), .val (.int (1 : Int32)), .val (.int (0 : Int32)), .val (.int pv)] [(.int (6 : Int32)), (.int (pv &&& (255 : Int32))), (.int (192 : Int32)), (.int (0 : Int32)), (.ref b3_0)])) _
    refine XS.ishr X3.here hx rfl (hb hby d13_85) rfl ?_
    show Steps p.tables e below (T3.setTop (mkF m 86 #[.val (.int (0 : Int32)), .val (.ref a1), .val (.int (1 : Int32)), .val (.int (1 : Int32)), .val (.ref b3_0), .val (.ref a1), .val (.int (1 : Int32)), .val (.int (0 : Int32)), .val (.int pv)] [(.int ((pv &&& (255 : Int32)) >>> ((6 : Int32) &&& 31))), (.int (192 : Int32)), (.int (0 : Int32)), (.ref b3_0)])) _
    refine XS.ior X3.here hx rfl (hb hby d13_86) rfl ?_
    show Steps p.tables e below (T3.setTop (mkF m 87 #[.val (.int (0 : Int32)), .val (.ref a1), .val (.int (1 : Int32)), .val (.int (1 : Int32)), .val (.ref b3_0), .val (.ref a1), .val (.int (1 : Int32)), .val (.int (0 : Int32)), .val (.int pv)] [(.int ((192 : Int32) ||| ((pv &&& (255 : Int32)) >>> ((6 : Int32) &&& 31)))), (.int (0 : Int32)), (.ref b3_0)])) _
    refine XS.i2b X3.here hx rfl (hb hby d13_87) rfl ?_
    show Steps p.tables e below (T3.setTop (mkF m 88 #[.val (.int (0 : Int32)), .val (.ref a1), .val (.int (1 : Int32)), .val (.int (1 : Int32)), .val (.ref b3_0), .val (.ref a1), .val (.int (1 : Int32)), .val (.int (0 : Int32)), .val (.int pv)] [(.int (((192 : Int32) ||| ((pv &&& (255 : Int32)) >>> ((6 : Int32) &&& 31))).toInt8.toInt32)), (.int (0 : Int32)), (.ref b3_0)])) _
    refine st10 _ ?_
    show Steps p.tables e below (T10.setTop (mkF m 89 #[.val (.int (0 : Int32)), .val (.ref a1), .val (.int (1 : Int32)), .val (.int (1 : Int32)), .val (.ref b3_0), .val (.ref a1), .val (.int (1 : Int32)), .val (.int (0 : Int32)), .val (.int pv)] [])) _
    refine XS.aload X10.here hx rfl (hb hby d13_89) rfl rfl ?_
    show Steps p.tables e below (T10.setTop (mkF m 91 #[.val (.int (0 : Int32)), .val (.ref a1), .val (.int (1 : Int32)), .val (.int (1 : Int32)), .val (.ref b3_0), .val (.ref a1), .val (.int (1 : Int32)), .val (.int (0 : Int32)), .val (.int pv)] [(.ref b3_0)])) _
    refine XS.iloadN X10.here hx rfl (hb hby d13_91) rfl ?_
    show Steps p.tables e below (T10.setTop (mkF m 92 #[.val (.int (0 : Int32)), .val (.ref a1), .val (.int (1 : Int32)), .val (.int (1 : Int32)), .val (.ref b3_0), .val (.ref a1), .val (.int (1 : Int32)), .val (.int (0 : Int32)), .val (.int pv)] [(.int (1 : Int32)), (.ref b3_0)])) _
    refine XS.iinc X10.here hx rfl (hb hby d13_92) rfl (l' := #[.val (.int (0 : Int32)), .val (.ref a1), .val (.int (1 : Int32)), .val (.int (2 : Int32)), .val (.ref b3_0), .val (.ref a1), .val (.int (1 : Int32)), .val (.int (0 : Int32)), .val (.int pv)]) rfl ?_
    show Steps p.tables e below (T10.setTop (mkF m 95 #[.val (.int (0 : Int32)), .val (.ref a1), .val (.int (1 : Int32)), .val (.int (2 : Int32)), .val (.ref b3_0), .val (.ref a1), .val (.int (1 : Int32)), .val (.int (0 : Int32)), .val (.int pv)] [(.int (1 : Int32)), (.ref b3_0)])) _
    refine XS.sipush X10.here hx rfl (hb hby d13_95) ?_
    show Steps p.tables e below (T10.setTop (mkF m 98 #[.val (.int (0 : Int32)), .val (.ref a1), .val (.int (1 : Int32)), .val (.int (2 : Int32)), .val (.ref b3_0), .val (.ref a1), .val (.int (1 : Int32)), .val (.int (0 : Int32)), .val (.int pv)] [(.int (128 : Int32)), (.int (1 : Int32)), (.ref b3_0)])) _
    refine XS.iload X10.here hx rfl (hb hby d13_98) rfl ?_
    show Steps p.tables e below (T10.setTop (mkF m 100 #[.val (.int (0 : Int32)), .val (.ref a1), .val (.int (1 : Int32)), .val (.int (2 : Int32)), .val (.ref b3_0), .val (.ref a1), .val (.int (1 : Int32)), .val (.int (0 : Int32)), .val (.int pv)] [(.int pv), (.int (128 : Int32)), (.int (1 : Int32)), (.ref b3_0)])) _
    refine XS.bipush X10.here hx rfl (hb hby d13_100) ?_
    show Steps p.tables e below (T10.setTop (mkF m 102 #[.val (.int (0 : Int32)), .val (.ref a1), .val (.int (1 : Int32)), .val (.int (2 : Int32)), .val (.ref b3_0), .val (.ref a1), .val (.int (1 : Int32)), .val (.int (0 : Int32)), .val (.int pv)] [(.int (63 : Int32)), (.int pv), (.int (128 : Int32)), (.int (1 : Int32)), (.ref b3_0)])) _
    refine XS.iand X10.here hx rfl (hb hby d13_102) rfl ?_
    show Steps p.tables e below (T10.setTop (mkF m 103 #[.val (.int (0 : Int32)), .val (.ref a1), .val (.int (1 : Int32)), .val (.int (2 : Int32)), .val (.ref b3_0), .val (.ref a1), .val (.int (1 : Int32)), .val (.int (0 : Int32)), .val (.int pv)] [(.int (pv &&& (63 : Int32))), (.int (128 : Int32)), (.int (1 : Int32)), (.ref b3_0)])) _
    refine XS.ior X10.here hx rfl (hb hby d13_103) rfl ?_
    show Steps p.tables e below (T10.setTop (mkF m 104 #[.val (.int (0 : Int32)), .val (.ref a1), .val (.int (1 : Int32)), .val (.int (2 : Int32)), .val (.ref b3_0), .val (.ref a1), .val (.int (1 : Int32)), .val (.int (0 : Int32)), .val (.int pv)] [(.int ((128 : Int32) ||| (pv &&& (63 : Int32)))), (.int (1 : Int32)), (.ref b3_0)])) _
    refine XS.i2b X10.here hx rfl (hb hby d13_104) rfl ?_
    show Steps p.tables e below (T10.setTop (mkF m 105 #[.val (.int (0 : Int32)), .val (.ref a1), .val (.int (1 : Int32)), .val (.int (2 : Int32)), .val (.ref b3_0), .val (.ref a1), .val (.int (1 : Int32)), .val (.int (0 : Int32)), .val (.int pv)] [(.int (((128 : Int32) ||| (pv &&& (63 : Int32))).toInt8.toInt32)), (.int (1 : Int32)), (.ref b3_0)])) _
    refine st13 _ ?_
    show Steps p.tables e below (T13.setTop (mkF m 106 #[.val (.int (0 : Int32)), .val (.ref a1), .val (.int (1 : Int32)), .val (.int (2 : Int32)), .val (.ref b3_0), .val (.ref a1), .val (.int (1 : Int32)), .val (.int (0 : Int32)), .val (.int pv)] [])) _
    refine XS.goto X13.here hx rfl (pc0 := 106) (pc' := 118) rfl (hb hby d13_106) (by decide) (by decide) ?_
    show Steps p.tables e below (T13.setTop (mkF m 118 #[.val (.int (0 : Int32)), .val (.ref a1), .val (.int (1 : Int32)), .val (.int (2 : Int32)), .val (.ref b3_0), .val (.ref a1), .val (.int (1 : Int32)), .val (.int (0 : Int32)), .val (.int pv)] [])) _
    refine XS.iinc X13.here hx rfl (hb hby d13_118) rfl (l' := #[.val (.int (0 : Int32)), .val (.ref a1), .val (.int (1 : Int32)), .val (.int (2 : Int32)), .val (.ref b3_0), .val (.ref a1), .val (.int (1 : Int32)), .val (.int (1 : Int32)), .val (.int pv)]) rfl ?_
    show Steps p.tables e below (T13.setTop (mkF m 121 #[.val (.int (0 : Int32)), .val (.ref a1), .val (.int (1 : Int32)), .val (.int (2 : Int32)), .val (.ref b3_0), .val (.ref a1), .val (.int (1 : Int32)), .val (.int (1 : Int32)), .val (.int pv)] [])) _
    refine XS.goto X13.here hx rfl (pc0 := 121) (pc' := 49) rfl (hb hby d13_121) (by decide) (by decide) ?_
    show Steps p.tables e below (T13.setTop (mkF m 49 #[.val (.int (0 : Int32)), .val (.ref a1), .val (.int (1 : Int32)), .val (.int (2 : Int32)), .val (.ref b3_0), .val (.ref a1), .val (.int (1 : Int32)), .val (.int (1 : Int32)), .val (.int pv)] [])) _
    refine XS.iload X13.here hx rfl (hb hby d13_49) rfl ?_
    show Steps p.tables e below (T13.setTop (mkF m 51 #[.val (.int (0 : Int32)), .val (.ref a1), .val (.int (1 : Int32)), .val (.int (2 : Int32)), .val (.ref b3_0), .val (.ref a1), .val (.int (1 : Int32)), .val (.int (1 : Int32)), .val (.int pv)] [(.int (1 : Int32))])) _
    refine XS.iload X13.here hx rfl (hb hby d13_51) rfl ?_
    show Steps p.tables e below (T13.setTop (mkF m 53 #[.val (.int (0 : Int32)), .val (.ref a1), .val (.int (1 : Int32)), .val (.int (2 : Int32)), .val (.ref b3_0), .val (.ref a1), .val (.int (1 : Int32)), .val (.int (1 : Int32)), .val (.int pv)] [(.int (1 : Int32)), (.int (1 : Int32))])) _
    refine XS.icmpYes X13.here hx rfl (pc0 := 53) (pc' := 124) rfl (hb hby d13_53) rfl (flt (by decide : ¬ ((1 : Int32) < (1 : Int32)))).2.1 (by decide) (by decide) ?_
    show Steps p.tables e below (T13.setTop (mkF m 124 #[.val (.int (0 : Int32)), .val (.ref a1), .val (.int (1 : Int32)), .val (.int (2 : Int32)), .val (.ref b3_0), .val (.ref a1), .val (.int (1 : Int32)), .val (.int (1 : Int32)), .val (.int pv)] [])) _
    refine XS.iloadN X13.here hx rfl (hb hby d13_124) rfl ?_
    show Steps p.tables e below (T13.setTop (mkF m 125 #[.val (.int (0 : Int32)), .val (.ref a1), .val (.int (1 : Int32)), .val (.int (2 : Int32)), .val (.ref b3_0), .val (.ref a1), .val (.int (1 : Int32)), .val (.int (1 : Int32)), .val (.int pv)] [(.int (2 : Int32))])) _
    refine XS.aload X13.here hx rfl (hb hby d13_125) rfl rfl ?_
    show Steps p.tables e below (T13.setTop (mkF m 127 #[.val (.int (0 : Int32)), .val (.ref a1), .val (.int (1 : Int32)), .val (.int (2 : Int32)), .val (.ref b3_0), .val (.ref a1), .val (.int (1 : Int32)), .val (.int (1 : Int32)), .val (.int pv)] [(.ref b3_0), (.int (2 : Int32))])) _
    refine X13.arraylength hx (by rw [e13]; exact Ar14.1) (State.isArrayOf_alike hZ.alike Ar14.2.1) (g := (mkF m 127 #[.val (.int (0 : Int32)), .val (.ref a1), .val (.int (1 : Int32)), .val (.int (2 : Int32)), .val (.ref b3_0), .val (.ref a1), .val (.int (1 : Int32)), .val (.int (1 : Int32)), .val (.int pv)] [(.ref b3_0), (.int (2 : Int32))])) rfl rfl (hb hby d13_127) _ ?_
    rw [len_of Sz14 Ng14]
    show Steps p.tables e below (T13.setTop (mkF m 128 #[.val (.int (0 : Int32)), .val (.ref a1), .val (.int (1 : Int32)), .val (.int (2 : Int32)), .val (.ref b3_0), .val (.ref a1), .val (.int (1 : Int32)), .val (.int (1 : Int32)), .val (.int pv)] [(.int (2 : Int32)), (.int (2 : Int32))])) _
    refine XS.icmpNo X13.here hx rfl (hb hby d13_128) rfl (teq (by decide : (2 : Int32) = (2 : Int32))).2 ?_
    show Steps p.tables e below (T13.setTop (mkF m 131 #[.val (.int (0 : Int32)), .val (.ref a1), .val (.int (1 : Int32)), .val (.int (2 : Int32)), .val (.ref b3_0), .val (.ref a1), .val (.int (1 : Int32)), .val (.int (1 : Int32)), .val (.int pv)] [])) _
    refine XS.aload X13.here hx rfl (hb hby d13_131) rfl rfl ?_
    show Steps p.tables e below (T13.setTop (mkF m 133 #[.val (.int (0 : Int32)), .val (.ref a1), .val (.int (1 : Int32)), .val (.int (2 : Int32)), .val (.ref b3_0), .val (.ref a1), .val (.int (1 : Int32)), .val (.int (1 : Int32)), .val (.int pv)] [(.ref b3_0)])) _
    jvm_step X13.here [X13.here.top, hx, (hb hby d13_133), X13.method', Bd.returns, Value.isRef, FieldType.isReference]
    first | (intro acts; rw [hr _ acts rfl rfl rfl]) | rw [hr _ _ rfl rfl rfl]
    exact Steps.refl _
  · show Q13n Z a1 k1 pv h0 n0 _ T13.heap _
    rw [e13]
    exact ⟨b3_0, kk3_0, rfl, N13, sz_b3_0, K13, E_b3_0_u15, V_b3_0_13⟩
theorem ef_rm12n (m : MethodId) (aU : Addr) (a2 : Addr) : entryFrame m #[(.ref aU), (.int (0 : Int32)), (.ref a2)] 3 = mkF m 0 #[.val (.ref aU), .val (.int (0 : Int32)), .val (.ref a2)] [] := by first | (simp [entryFrame, mkF, argsToLocals, Value.category]; done) | rfl
def Q12n (Z : State) (aU : Addr) (a2 : Addr) (k2 : ClassId) (pv : Int32) (h0 : Heap) (n0 : Nat) (v : Option Value) (h : Heap) (L : List Loc) : Prop := ∃ r0 : Addr, ∃ rk0 : ClassId, v = some (.ref r0) ∧ Fr n0 L ∧ h0.size ≤ r0 ∧ Keep h0 h [] ∧ Exa Z h r0 "[B" ∧ Arv Z h r0 rk0 .byte (2 : Int32) [(.int (((192 : Int32) ||| ((pv &&& (255 : Int32)) >>> ((6 : Int32) &&& 31))).toInt8.toInt32)), (.int (((128 : Int32) ||| (pv &&& (63 : Int32))).toInt8.toInt32))] (.int (0 : Int32))
set_option maxRecDepth 65536 in
set_option maxHeartbeats 40000000 in
theorem rm12n (l : Launch) (Z : State) (az : Array Value) (hw : ∀ d ∈ tables_1, d.before az Z = true) (ws : List Jvm.Cond) (aU : Addr) (a2 : Addr) (k2 : ClassId) (pv : Int32) (h0 : Heap) (n0 : Nat) (Z0 : n0 ≤ h0.size) (S_INSTANCE : Sta Z h0 "sun/nio/cs/UTF_8" "INSTANCE" "Lsun/nio/cs/UTF_8;" (.ref aU)) (V_a2 : Arv Z h0 a2 k2 .byte (1 : Int32) [(.int pv)] (.int (0 : Int32))) (E_a2 : Exa Z h0 a2 "[B") (hc3 : pv < (0 : Int32)) :
    MetFree l (⟨"java/lang/String", "encode", "(Ljava/nio/charset/Charset;B[B)[B"⟩ : MethodName) (head1 (Jvm.Cond.code (⟨"java/lang/String", "encode", "(Ljava/nio/charset/Charset;B[B)[B"⟩ : MethodName) jdk_42_method_18_code 3 (some (.array .byte)) :: ws) ({ frames := 3, cells := 1, slots := 2, locals := 50 } : Room)) (fun a U => a = #[(.ref aU), (.int (0 : Int32)), (.ref a2)] ∧ Z.Warmed39 U.vm ∧ U.heap = h0) (fun _ _ _ _ _ => True) (fun _ U o U' => ∃ v L, o = .returned v ∧ Q12n Z aU a2 k2 pv h0 n0 v U'.heap L ∧ FrameEnd U o U' L ({ frames := 3, cells := 1, slots := 2, locals := 50 } : Room).cells ({ frames := 3, cells := 1, slots := 2, locals := 50 } : Room).slots) := by
  refine MetFree.of_bodySF (plainFor_of_name pn_java_lang_String) hisR ?_
  intro p e s m args below meth c s₁ Bd hml0 hP hK
  obtain ⟨rfl, hZ, hh⟩ := hP
  have hx := Bd.exec
  have hby := Bd.bytes
  have hml : c.maxLocals = 3 := hml0
  have hown : s.vm.findClass "java/lang/String" = some m.cls := findClass_of_methodNamed Bd.named
  have hnm := (name_of_methodNamed Bd.named Bd.method).1
  have X0 : Stand p l e ({ frames := 3, cells := 1, slots := 2, locals := 50 } : Room) s m #[(.ref aU), (.int (0 : Int32)), (.ref a2)] below meth c s₁ [] 0 0 := Stand.of_body Bd
  have e0 : s₁.heap = h0 := by rw [← hh, Bd.state]; rfl
  have N0 := Fr.nil n0
  have pre0 : ∀ t, Steps p.tables e below (s₁.setTop (mkF m 0 #[.val (.ref aU), .val (.int (0 : Int32)), .val (.ref a2)] [])) t → Steps p.tables e below (s₁.setTop (entryFrame m #[(.ref aU), (.int (0 : Int32)), (.ref a2)] 3)) t := fun t k => castTop (ef_rm12n m aU a2) k
  obtain ⟨T1, X1, e1, st1⟩ := getS2 X0 hx hZ hown (host := "") (Or.inl (hw _ (List.mem_of_getElem? (i := 68) rfl))) Via.refl e0 S_INSTANCE (g := (mkF m 1 #[.val (.ref aU), .val (.int (0 : Int32)), .val (.ref a2)] [(.ref aU)])) rfl (hb hby d12_1)
  obtain ⟨_, _, ⟨T2, L2, k2', n2'⟩, -, X2, ⟨Lc2, hQ2, l2, y2, z2⟩, st2⟩ := Jvm.LawKit.callS X1 hx (y := (⟨"java/lang/String", "encodeUTF8", "(B[BZ)[B"⟩ : MethodName)) hown (mvT hZ (hw _ (List.mem_of_getElem? (i := 70) rfl))) (mvT hZ (hw _ (List.mem_of_getElem? (i := 71) rfl))) (mvT hZ (hw _ (List.mem_of_getElem? (i := 2) rfl))) (mvT hZ (hw _ (List.mem_of_getElem? (i := 72) rfl))) (by decide) (backOf (W := 0) (rm13n l Z az hw [] a2 k2 pv h0 n0 Z0 V_a2 E_a2 hc3) hZ (hw _ (List.mem_of_getElem? (i := 72) rfl)) (hw _ (List.mem_of_getElem? (i := 2) rfl)) (by decide) (by decide)) (g := (mkF m 10 #[.val (.ref aU), .val (.int (0 : Int32)), .val (.ref a2)] [(.int (1 : Int32)), (.ref a2), (.int (0 : Int32))])) rfl (by rw [hml]; rfl) (argsL := [(.int (0 : Int32)), (.ref a2), (.int (1 : Int32))]) (rest := []) (lenOf pd_2 rfl) rfl (by show 2 * 0 + _ ≤ _; exact Nat.le_of_eq rfl) (hb hby d12_10) (fun _ _ => ⟨rfl, e1, (by decide : 0 + 1 ≤ _), (by decide : 0 + 2 ≤ _)⟩)
  dsimp only [Pt.U, Pt.locs, Pt.cells, Pt.slots] at X2 l2 y2 z2 st2 hQ2
  subst l2 y2 z2
  obtain ⟨b2_0, kk2_0, rfl, N2q, s2_0, kq2, pf2_0, pf2_1⟩ := hQ2
  have N2 := Fr.app N0 N2q
  have g_b2_0 : n0 ≤ b2_0 := Nat.le_trans Z0 s2_0
  have sz_b2_0 : h0.size ≤ b2_0 := Nat.le_trans (Nat.le_refl _) s2_0
  have K2 : Keep h0 T2.heap [] := (Keep.refl h0 []).trans kq2 all0
  have Z2 : n0 ≤ T2.heap.size := Nat.le_trans Z0 kq2.1
  obtain ⟨fs, hr, hrun, hended, hW, hsame⟩ := X2.leave (v := some (.ref b2_0)) (fun h => by rw [Bd.returns] at h; cases h)
  refine ⟨_, _, pre0 _ ?_, hrun, hended, _, _, rfl, ?_, ⟨_, rfl⟩, hW, hsame.mono (by decide) (by decide)⟩
  · show Steps p.tables e below (s₁.setTop (mkF m 0 #[.val (.ref aU), .val (.int (0 : Int32)), .val (.ref a2)] [])) _
    refine XS.aloadN X0.here hx rfl (hb hby d12_0) rfl rfl ?_
    show Steps p.tables e below (s₁.setTop (mkF m 1 #[.val (.ref aU), .val (.int (0 : Int32)), .val (.ref a2)] [(.ref aU)])) _
    refine st1 _ ?_
    show Steps p.tables e below (T1.setTop (mkF m 4 #[.val (.ref aU), .val (.int (0 : Int32)), .val (.ref a2)] [(.ref aU), (.ref aU)])) _
    refine Jvm.RoadKit.acmp (g := (mkF m 4 #[.val (.ref aU), .val (.int (0 : Int32)), .val (.ref a2)] [(.ref aU), (.ref aU)])) X1 hx rfl rfl rfl (pc0 := 4) (pc' := 7) (same := true) rfl (hb hby d12_4) rfl (decide_eq_true rfl) (by decide) (by decide) ?_
    show Steps p.tables e below (T1.setTop (mkF m 7 #[.val (.ref aU), .val (.int (0 : Int32)), .val (.ref a2)] [])) _
    refine XS.iloadN X1.here hx rfl (hb hby d12_7) rfl ?_
    show Steps p.tables e below (T1.setTop (mkF m 8 #[.val (.ref aU), .val (.int (0 : Int32)), .val (.ref a2)] [(.int (0 : Int32))])) _
    refine XS.aloadN X1.here hx rfl (hb hby d12_8) rfl rfl ?_
    show Steps p.tables e below (T1.setTop (mkF m 9 #[.val (.ref aU), .val (.int (0 : Int32)), .val (.ref a2)] [(.ref a2), (.int (0 : Int32))])) _
    refine XS.iconst X1.here hx rfl (hb hby d12_9) ?_
    show Steps p.tables e below (T1.setTop (mkF m 10 #[.val (.ref aU), .val (.int (0 : Int32)), .val (.ref a2)] [(.int (1 : Int32)), (.ref a2), (.int (0 : Int32))])) _
    refine st2 _ ?_
    show Steps p.tables e below (T2.setTop (mkF m 13 #[.val (.ref aU), .val (.int (0 : Int32)), .val (.ref a2)] [(.ref b2_0)])) _
    jvm_step X2.here [X2.here.top, hx, (hb hby d12_13), X2.method', Bd.returns, Value.isRef, FieldType.isReference]
    first | (intro acts; rw [hr _ acts rfl rfl rfl]) | rw [hr _ _ rfl rfl rfl]
    exact Steps.refl _
  · show Q12n Z aU a2 k2 pv h0 n0 _ T2.heap _
    exact ⟨b2_0, kk2_0, rfl, N2, sz_b2_0, K2, pf2_0, pf2_1⟩
theorem ef_rm10n (m : MethodId) (a0 : Addr) (aU : Addr) : entryFrame m #[(.ref a0), (.ref aU)] 2 = mkF m 0 #[.val (.ref a0), .val (.ref aU)] [] := by first | (simp [entryFrame, mkF, argsToLocals, Value.category]; done) | rfl
def Q10n (Z : State) (a0 : Addr) (aU : Addr) (aB : Addr) (kB : ClassId) (pv : Int32) (s_COMPACT_STRINGS : Int32) (h0 : Heap) (n0 : Nat) (v : Option Value) (h : Heap) (L : List Loc) : Prop := ∃ r0 : Addr, ∃ rk0 : ClassId, v = some (.ref r0) ∧ Fr n0 L ∧ h0.size ≤ r0 ∧ Keep h0 h [] ∧ Exa Z h r0 "[B" ∧ Arv Z h r0 rk0 .byte (2 : Int32) [(.int (((192 : Int32) ||| ((pv &&& (255 : Int32)) >>> ((6 : Int32) &&& 31))).toInt8.toInt32)), (.int (((128 : Int32) ||| (pv &&& (63 : Int32))).toInt8.toInt32))] (.int (0 : Int32))
set_option maxRecDepth 65536 in
set_option maxHeartbeats 40000000 in
theorem rm10n (l : Launch) (Z : State) (az : Array Value) (hw : ∀ d ∈ tables_1, d.before az Z = true) (ws : List Jvm.Cond) (a0 : Addr) (aU : Addr) (aB : Addr) (kB : ClassId) (pv : Int32) (s_COMPACT_STRINGS : Int32) (h0 : Heap) (n0 : Nat) (Z0 : n0 ≤ h0.size) (E_a0 : Exa Z h0 a0 "java/lang/String") (F_coder_a0 : Fld Z h0 a0 "java/lang/String" "coder" "B" (.int (0 : Int32))) (F_value_a0 : Fld Z h0 a0 "java/lang/String" "value" "[B" (.ref aB)) (V_aB : Arv Z h0 aB kB .byte (1 : Int32) [(.int pv)] (.int (0 : Int32))) (E_aB : Exa Z h0 aB "[B") (S_INSTANCE : Sta Z h0 "sun/nio/cs/UTF_8" "INSTANCE" "Lsun/nio/cs/UTF_8;" (.ref aU)) (hc6 : pv < (0 : Int32)) (S_COMPACT_STRINGS : Sta Z h0 "java/lang/String" "COMPACT_STRINGS" "Z" (.int s_COMPACT_STRINGS)) (hc8 : ¬ (s_COMPACT_STRINGS = (0 : Int32))) :
    MetFree l (⟨"java/lang/String", "getBytes", "(Ljava/nio/charset/Charset;)[B"⟩ : MethodName) (head1 (Jvm.Cond.code (⟨"java/lang/String", "getBytes", "(Ljava/nio/charset/Charset;)[B"⟩ : MethodName) jdk_42_method_64_code 2 (some (.array .byte)) :: ws) ({ frames := 4, cells := 1, slots := 2, locals := 64 } : Room)) (fun a U => a = #[(.ref a0), (.ref aU)] ∧ Z.Warmed39 U.vm ∧ U.heap = h0) (fun _ _ _ _ _ => True) (fun _ U o U' => ∃ v L, o = .returned v ∧ Q10n Z a0 aU aB kB pv s_COMPACT_STRINGS h0 n0 v U'.heap L ∧ FrameEnd U o U' L ({ frames := 4, cells := 1, slots := 2, locals := 64 } : Room).cells ({ frames := 4, cells := 1, slots := 2, locals := 64 } : Room).slots) := by
  refine MetFree.of_bodySF (plainFor_of_name pn_java_lang_String) hisR ?_
  intro p e s m args below meth c s₁ Bd hml0 hP hK
  obtain ⟨rfl, hZ, hh⟩ := hP
  have hx := Bd.exec
  have hby := Bd.bytes
  have hml : c.maxLocals = 2 := hml0
  have hown : s.vm.findClass "java/lang/String" = some m.cls := findClass_of_methodNamed Bd.named
  have hnm := (name_of_methodNamed Bd.named Bd.method).1
  have X0 : Stand p l e ({ frames := 4, cells := 1, slots := 2, locals := 64 } : Room) s m #[(.ref a0), (.ref aU)] below meth c s₁ [] 0 0 := Stand.of_body Bd
  have e0 : s₁.heap = h0 := by rw [← hh, Bd.state]; rfl
  have N0 := Fr.nil n0
  have pre0 : ∀ t, Steps p.tables e below (s₁.setTop (mkF m 0 #[.val (.ref a0), .val (.ref aU)] [])) t → Steps p.tables e below (s₁.setTop (entryFrame m #[(.ref a0), (.ref aU)] 2)) t := fun t k => castTop (ef_rm10n m a0 aU) k
  obtain ⟨cq1, kq1, q1a, q1b, q1c⟩ := isOf hZ e0 E_a0
  obtain ⟨_, _, ⟨T1, L1, k1', n1'⟩, -, X1, ⟨Lc1, hQ1, l1, y1, z1⟩, st1⟩ := X0.virtualBack hx (y := (⟨"java/lang/String", "coder", "()B"⟩ : MethodName)) (z := (⟨"java/lang/String", "coder", "()B"⟩ : MethodName)) hown (mvT hZ (hw _ (List.mem_of_getElem? (i := 60) rfl))) (mvT hZ (hw _ (List.mem_of_getElem? (i := 61) rfl))) (notFace_of_selects (args := #[]) (mvT hZ (hw _ (List.mem_of_getElem? (i := 63) rfl)))) (mvT hZ (hw _ (List.mem_of_getElem? (i := 63) rfl))) (mvT hZ (hw _ (List.mem_of_getElem? (i := 62) rfl))) (by decide) (backOf (W := 1) (rm11 l Z az hw [] a0 s_COMPACT_STRINGS h0 n0 Z0 F_coder_a0 S_COMPACT_STRINGS hc8) hZ (hw _ (List.mem_of_getElem? (i := 64) rfl)) (hw _ (List.mem_of_getElem? (i := 2) rfl)) (by decide) (by decide)) q1a q1c (g := (mkF m 14 #[.val (.ref a0), .val (.ref aU)] [(.ref a0), (.ref aU)])) rfl (by rw [hml]; rfl) (Steps.refl _) (argsL := []) (rest := [(.ref aU)]) (lenOf pd_3 rfl) rfl (by show 2 * 0 + _ ≤ _; exact Nat.le_of_eq rfl) (hb hby d10_14) (fun _ _ => ⟨rfl, e0, (by decide : 0 + 0 ≤ _), (by decide : 0 + 0 ≤ _)⟩)
  dsimp only [Pt.U, Pt.locs, Pt.cells, Pt.slots] at X1 l1 y1 z1 st1 hQ1
  subst l1 y1 z1
  obtain ⟨rfl, N1q, e1⟩ := hQ1
  have N1 := Fr.app N0 N1q
  obtain ⟨T2, X2, e2, st2⟩ := getF X1 hx hZ hown (host := "") (Or.inl (hw _ (List.mem_of_getElem? (i := 22) rfl))) Via.refl e1 F_value_a0 (g := (mkF m 18 #[.val (.ref a0), .val (.ref aU)] [(.ref a0), (.int (0 : Int32)), (.ref aU)])) rfl rfl (hb hby d10_18)
  obtain ⟨_, _, ⟨T3, L3, k3', n3'⟩, -, X3, ⟨Lc3, hQ3, l3, y3, z3⟩, st3⟩ := Jvm.LawKit.callS X2 hx (y := (⟨"java/lang/String", "encode", "(Ljava/nio/charset/Charset;B[B)[B"⟩ : MethodName)) hown (mvT hZ (hw _ (List.mem_of_getElem? (i := 65) rfl))) (mvT hZ (hw _ (List.mem_of_getElem? (i := 66) rfl))) (mvT hZ (hw _ (List.mem_of_getElem? (i := 2) rfl))) (mvT hZ (hw _ (List.mem_of_getElem? (i := 67) rfl))) (by decide) (backOf (W := 0) (rm12n l Z az hw [] aU aB kB pv h0 n0 Z0 S_INSTANCE V_aB E_aB hc6) hZ (hw _ (List.mem_of_getElem? (i := 67) rfl)) (hw _ (List.mem_of_getElem? (i := 2) rfl)) (by decide) (by decide)) (g := (mkF m 21 #[.val (.ref a0), .val (.ref aU)] [(.ref aB), (.int (0 : Int32)), (.ref aU)])) rfl (by rw [hml]; rfl) (argsL := [(.ref aU), (.int (0 : Int32)), (.ref aB)]) (rest := []) (lenOf pd_4 rfl) rfl (by show 2 * 0 + _ ≤ _; exact Nat.le_of_eq rfl) (hb hby d10_21) (fun _ _ => ⟨rfl, e2, (by decide : 0 + 1 ≤ _), (by decide : 0 + 2 ≤ _)⟩)
  dsimp only [Pt.U, Pt.locs, Pt.cells, Pt.slots] at X3 l3 y3 z3 st3 hQ3
  subst l3 y3 z3
  obtain ⟨b3_0, kk3_0, rfl, N3q, s3_0, kq3, pf3_0, pf3_1⟩ := hQ3
  have N3 := Fr.app N1 N3q
  have g_b3_0 : n0 ≤ b3_0 := Nat.le_trans Z0 s3_0
  have sz_b3_0 : h0.size ≤ b3_0 := Nat.le_trans (Nat.le_refl _) s3_0
  have K3 : Keep h0 T3.heap [] := (Keep.refl h0 []).trans kq3 all0
  have Z3 : n0 ≤ T3.heap.size := Nat.le_trans Z0 kq3.1
  obtain ⟨fs, hr, hrun, hended, hW, hsame⟩ := X3.leave (v := some (.ref b3_0)) (fun h => by rw [Bd.returns] at h; cases h)
  refine ⟨_, _, pre0 _ ?_, hrun, hended, _, _, rfl, ?_, ⟨_, rfl⟩, hW, hsame.mono (by decide) (by decide)⟩
  · show Steps p.tables e below (s₁.setTop (mkF m 0 #[.val (.ref a0), .val (.ref aU)] [])) _
    refine XS.aloadN X0.here hx rfl (hb hby d10_0) rfl rfl ?_
    show Steps p.tables e below (s₁.setTop (mkF m 1 #[.val (.ref a0), .val (.ref aU)] [(.ref aU)])) _
    refine XS.ifnonnullYes X0.here hx rfl (pc0 := 1) (pc' := 12) rfl (hb hby d10_1) rfl (by decide) (by decide) ?_
    show Steps p.tables e below (s₁.setTop (mkF m 12 #[.val (.ref a0), .val (.ref aU)] [])) _
    refine XS.aloadN X0.here hx rfl (hb hby d10_12) rfl rfl ?_
    show Steps p.tables e below (s₁.setTop (mkF m 13 #[.val (.ref a0), .val (.ref aU)] [(.ref aU)])) _
    refine XS.aloadN X0.here hx rfl (hb hby d10_13) rfl rfl ?_
    show Steps p.tables e below (s₁.setTop (mkF m 14 #[.val (.ref a0), .val (.ref aU)] [(.ref a0), (.ref aU)])) _
    refine st1.trans ?_
    show Steps p.tables e below (T1.setTop (mkF m 17 #[.val (.ref a0), .val (.ref aU)] [(.int (0 : Int32)), (.ref aU)])) _
    refine XS.aloadN X1.here hx rfl (hb hby d10_17) rfl rfl ?_
    show Steps p.tables e below (T1.setTop (mkF m 18 #[.val (.ref a0), .val (.ref aU)] [(.ref a0), (.int (0 : Int32)), (.ref aU)])) _
    refine st2 _ ?_
    show Steps p.tables e below (T2.setTop (mkF m 21 #[.val (.ref a0), .val (.ref aU)] [(.ref aB), (.int (0 : Int32)), (.ref aU)])) _
    refine st3 _ ?_
    show Steps p.tables e below (T3.setTop (mkF m 24 #[.val (.ref a0), .val (.ref aU)] [(.ref b3_0)])) _
    jvm_step X3.here [X3.here.top, hx, (hb hby d10_24), X3.method', Bd.returns, Value.isRef, FieldType.isReference]
    first | (intro acts; rw [hr _ acts rfl rfl rfl]) | rw [hr _ _ rfl rfl rfl]
    exact Steps.refl _
  · show Q10n Z a0 aU aB kB pv s_COMPACT_STRINGS h0 n0 _ T3.heap _
    exact ⟨b3_0, kk3_0, rfl, N3, sz_b3_0, K3, pf3_0, pf3_1⟩
theorem ef_rm8n (m : MethodId) (a0 : Addr) (a1 : Addr) : entryFrame m #[(.ref a0), (.ref a1)] 2 = mkF m 0 #[.val (.ref a0), .val (.ref a1)] [] := by first | (simp [entryFrame, mkF, argsToLocals, Value.category]; done) | rfl
def Q8n (Z : State) (a0 : Addr) (a1 : Addr) (aB : Addr) (kB : ClassId) (pv : Int32) (aU : Addr) (s_COMPACT_STRINGS : Int32) (h0 : Heap) (n0 : Nat) (v : Option Value) (h : Heap) (L : List Loc) : Prop := ∃ r0 : Addr, ∃ rk0 : ClassId, v = none ∧ Fr n0 L ∧ h0.size ≤ r0 ∧ Keep h0 h [a0] ∧ Exa Z h a0 "com/example/fireweed/fireweed/layout/Java31ByteSalt" ∧ Fld Z h a0 "com/example/fireweed/fireweed/layout/Salt" "suffix" "Ljava/lang/String;" (.ref a1) ∧ Fld Z h a0 "com/example/fireweed/fireweed/layout/Salt" "suffixBytes" "[B" (.ref r0) ∧ Fld Z h a0 "com/example/fireweed/fireweed/layout/Java31ByteSalt" "buckets" "I" (.int (0 : Int32)) ∧ Fld Z h a0 "com/example/fireweed/fireweed/layout/Java31ByteSalt" "mask" "I" (.int (0 : Int32)) ∧ Fld Z h a0 "com/example/fireweed/fireweed/layout/Java31ByteSalt" "overflow" "I" (.int (0 : Int32)) ∧ Exa Z h r0 "[B" ∧ Arv Z h r0 rk0 .byte (2 : Int32) [(.int (((192 : Int32) ||| ((pv &&& (255 : Int32)) >>> ((6 : Int32) &&& 31))).toInt8.toInt32)), (.int (((128 : Int32) ||| (pv &&& (63 : Int32))).toInt8.toInt32))] (.int (0 : Int32))
set_option maxRecDepth 65536 in
set_option maxHeartbeats 40000000 in
theorem rm8n (l : Launch) (Z : State) (az : Array Value) (hw : ∀ d ∈ tables_1, d.before az Z = true) (ws : List Jvm.Cond) (a0 : Addr) (a1 : Addr) (aB : Addr) (kB : ClassId) (pv : Int32) (aU : Addr) (s_COMPACT_STRINGS : Int32) (h0 : Heap) (n0 : Nat) (Z0 : n0 ≤ h0.size) (E_a0 : Exa Z h0 a0 "com/example/fireweed/fireweed/layout/Java31ByteSalt") (F_suffix_a0 : Fld Z h0 a0 "com/example/fireweed/fireweed/layout/Salt" "suffix" "Ljava/lang/String;" .null) (F_suffixBytes_a0 : Fld Z h0 a0 "com/example/fireweed/fireweed/layout/Salt" "suffixBytes" "[B" .null) (F_buckets_a0 : Fld Z h0 a0 "com/example/fireweed/fireweed/layout/Java31ByteSalt" "buckets" "I" (.int (0 : Int32))) (F_mask_a0 : Fld Z h0 a0 "com/example/fireweed/fireweed/layout/Java31ByteSalt" "mask" "I" (.int (0 : Int32))) (F_overflow_a0 : Fld Z h0 a0 "com/example/fireweed/fireweed/layout/Java31ByteSalt" "overflow" "I" (.int (0 : Int32))) (E_a1 : Exa Z h0 a1 "java/lang/String") (F_coder_a1 : Fld Z h0 a1 "java/lang/String" "coder" "B" (.int (0 : Int32))) (F_value_a1 : Fld Z h0 a1 "java/lang/String" "value" "[B" (.ref aB)) (V_aB : Arv Z h0 aB kB .byte (1 : Int32) [(.int pv)] (.int (0 : Int32))) (E_aB : Exa Z h0 aB "[B") (S_INSTANCE : Sta Z h0 "sun/nio/cs/UTF_8" "INSTANCE" "Lsun/nio/cs/UTF_8;" (.ref aU)) (S_UTF_8 : Sta Z h0 "java/nio/charset/StandardCharsets" "UTF_8" "Ljava/nio/charset/Charset;" (.ref aU)) (hc13 : pv < (0 : Int32)) (g_a0 : n0 ≤ a0) (S_COMPACT_STRINGS : Sta Z h0 "java/lang/String" "COMPACT_STRINGS" "Z" (.int s_COMPACT_STRINGS)) (hne_a1_a0 : a1 ≠ a0) (hne_aB_a0 : aB ≠ a0) (hc18 : ¬ (s_COMPACT_STRINGS = (0 : Int32))) :
    MetFree l (⟨"com/example/fireweed/fireweed/layout/Salt", "<init>", "(Ljava/lang/String;)V"⟩ : MethodName) (head1 (Jvm.Cond.code (⟨"com/example/fireweed/fireweed/layout/Salt", "<init>", "(Ljava/lang/String;)V"⟩ : MethodName) prog_11_method_1_code 2 none :: ws) ({ frames := 5, cells := 3, slots := 30, locals := 78 } : Room)) (fun a U => a = #[(.ref a0), (.ref a1)] ∧ Z.Warmed39 U.vm ∧ U.heap = h0) (fun _ _ _ _ _ => True) (fun _ U o U' => ∃ v L, o = .returned v ∧ Q8n Z a0 a1 aB kB pv aU s_COMPACT_STRINGS h0 n0 v U'.heap L ∧ ReturnedEndW U o U' L ({ frames := 5, cells := 3, slots := 30, locals := 78 } : Room).cells ({ frames := 5, cells := 3, slots := 30, locals := 78 } : Room).slots) := by
  refine MetFree.of_bodySF (plainFor_of_name pn_com_example_fireweed_fireweed_layout_Salt) hisR ?_
  intro p e s m args below meth c s₁ Bd hml0 hP hK
  obtain ⟨rfl, hZ, hh⟩ := hP
  have hx := Bd.exec
  have hby := Bd.bytes
  have hml : c.maxLocals = 2 := hml0
  have hown : s.vm.findClass "com/example/fireweed/fireweed/layout/Salt" = some m.cls := findClass_of_methodNamed Bd.named
  have hnm := (name_of_methodNamed Bd.named Bd.method).1
  have X0 : Stand p l e ({ frames := 5, cells := 3, slots := 30, locals := 78 } : Room) s m #[(.ref a0), (.ref a1)] below meth c s₁ [] 0 0 := Stand.of_body Bd
  have e0 : s₁.heap = h0 := by rw [← hh, Bd.state]; rfl
  have N0 := Fr.nil n0
  have pre0 : ∀ t, Steps p.tables e below (s₁.setTop (mkF m 0 #[.val (.ref a0), .val (.ref a1)] [])) t → Steps p.tables e below (s₁.setTop (entryFrame m #[(.ref a0), (.ref a1)] 2)) t := fun t k => castTop (ef_rm8n m a0 a1) k
  have hS0 : s.Since s.vm 0 := (State.WarmedH.refl s).since 0
  have wS : ∀ a ∈ Bundle.stringAtoms, a.before az Z = true := fun d hd => by
    simp only [Bundle.stringAtoms, List.mem_cons, List.not_mem_nil, or_false] at hd
    rcases hd with rfl | rfl | rfl | rfl | rfl | rfl | rfl
    · exact (hw _ (List.mem_of_getElem? (i := 2) rfl))
    · exact (hw _ (List.mem_of_getElem? (i := 10) rfl))
    · exact (hw _ (List.mem_of_getElem? (i := 14) rfl))
    · exact (hw _ (List.mem_of_getElem? (i := 23) rfl))
    · exact (hw _ (List.mem_of_getElem? (i := 25) rfl))
    · exact (hw _ (List.mem_of_getElem? (i := 44) rfl))
    · exact (hw _ (List.mem_of_getElem? (i := 45) rfl))
  obtain ⟨T1, X1, e1, st1⟩ := initO X0 hx hZ hown (hw _ (List.mem_of_getElem? (i := 42) rfl)) (hw _ (List.mem_of_getElem? (i := 20) rfl)) (hw _ (List.mem_of_getElem? (i := 21) rfl)) e0 (g := (mkF m 1 #[.val (.ref a0), .val (.ref a1)] [(.ref a0)])) rfl (by rw [hml]; rfl) rfl (hb hby d8_1) (by decide) (W := 0) (by show 2 * 0 + _ ≤ _; exact Nat.le_of_eq rfl) (by decide)
  obtain ⟨l2, T2, h2, kk2, X2, e2, E2, hS2, hk2, hZ2, hown2, st2⟩ := ldcS (s := s) (vm0 := s.vm) X1 hx hZ hown (hw _ (List.mem_of_getElem? (i := 43) rfl)) wS e1 hS0 (Nat.zero_le _) (g := (mkF m 6 #[.val (.ref a0), .val (.ref a1)] [(.ref a1), (.ref a0)])) rfl (hb hby d8_6) (n := 24) (by decide) (by decide) (by decide) (by decide)
  have Z2 : n0 ≤ h2.size := Nat.le_trans Z0 E2.1
  have K2 : Keep h0 h2 [a0] := (Keep.refl h0 [a0]).ext E2
  obtain ⟨_, _, ⟨T3, L3, k3', n3'⟩, -, X3, ⟨Lc3, hQ3, l3, y3, z3⟩, st3⟩ := Jvm.LawKit.callS X2 hx (y := (⟨"java/util/Objects", "requireNonNull", "(Ljava/lang/Object;Ljava/lang/String;)Ljava/lang/Object;"⟩ : MethodName)) hown2 (mvT hZ2 (hw _ (List.mem_of_getElem? (i := 46) rfl))) (mvT hZ2 (hw _ (List.mem_of_getElem? (i := 47) rfl))) (mvT hZ2 (hw _ (List.mem_of_getElem? (i := 48) rfl))) (mvT hZ2 (hw _ (List.mem_of_getElem? (i := 49) rfl))) (by decide) (backOf (W := 1) (rm9 l Z az hw [] a1 l2 h2 n0 Z2) hZ2 (hw _ (List.mem_of_getElem? (i := 49) rfl)) (hw _ (List.mem_of_getElem? (i := 48) rfl)) (by decide) (by decide)) (g := (mkF m 8 #[.val (.ref a0), .val (.ref a1)] [(.ref l2), (.ref a1), (.ref a0)])) rfl (by rw [hml]; rfl) (argsL := [(.ref a1), (.ref l2)]) (rest := [(.ref a0)]) (lenOf pd_5 rfl) rfl (by show 2 * 0 + _ ≤ _; exact Nat.le_of_eq rfl) (hb hby d8_8) (fun _ _ => ⟨rfl, e2, (by decide : 2 + 0 ≤ _), (by decide : 28 + 0 ≤ _)⟩)
  dsimp only [Pt.U, Pt.locs, Pt.cells, Pt.slots] at X3 l3 y3 z3 st3 hQ3
  subst l3 y3 z3
  obtain ⟨rfl, N3q, e3⟩ := hQ3
  have N3 := Fr.app N0 N3q
  have E_a1_u4 : Exa Z h2 a1 "java/lang/String" := (E_a1.ext E2)
  obtain ⟨T5, X5, e5, st5⟩ := castY X3 hx hZ2 hown2 (hw _ (List.mem_of_getElem? (i := 50) rfl)) e3 (Ins.self E_a1_u4) (g := (mkF m 11 #[.val (.ref a0), .val (.ref a1)] [(.ref a1), (.ref a0)])) rfl rfl (hb hby d8_11)
  have F_a0_suffix_u6 : Fld Z h2 a0 "com/example/fireweed/fireweed/layout/Salt" "suffix" "Ljava/lang/String;" .null := (F_suffix_a0.ext E2)
  have E_a0_u7 : Exa Z h2 a0 "com/example/fireweed/fireweed/layout/Java31ByteSalt" := (E_a0.ext E2)
  obtain ⟨T8, h8, X8, e8, W8, st8⟩ := putF X5 hx hZ2 hown2 (host := "") (Or.inl (hw _ (List.mem_of_getElem? (i := 51) rfl))) Via.refl e5 F_a0_suffix_u6 E_a0_u7 (Or.inr ⟨(hw _ (List.mem_of_getElem? (i := 52) rfl)), rfl, hnm⟩) (hw _ (List.mem_of_getElem? (i := 27) rfl)) (ty := (.object "java/lang/String")) (by decide) rfl rfl (g := (mkF m 14 #[.val (.ref a0), .val (.ref a1)] [(.ref a1), (.ref a0)])) rfl rfl (hb hby d8_14)
  have K8 : Keep h0 h8 [a0] := K2.wr W8 (Or.inl (List.mem_of_getElem? (i := 0) rfl))
  have Fw8 := F_a0_suffix_u6.same W8
  have Z8 : n0 ≤ h8.size := Nat.le_trans Z2 (Keep.of_wr W8).1
  have N8 := Fr.snoc X8 N3 g_a0
  have S_StandardCharsets_UTF_8_u9 : Sta Z h8 "java/nio/charset/StandardCharsets" "UTF_8" "Ljava/nio/charset/Charset;" (.ref aU) := ((S_UTF_8.ext E2).wr W8)
  obtain ⟨T10, X10, e10, st10⟩ := getS2 X8 hx hZ2 hown2 (host := "") (Or.inl (hw _ (List.mem_of_getElem? (i := 53) rfl))) Via.refl e8 S_StandardCharsets_UTF_8_u9 (g := (mkF m 19 #[.val (.ref a0), .val (.ref a1)] [(.ref a1), (.ref a0)])) rfl (hb hby d8_19)
  have E_a1_u12 : Exa Z h8 a1 "java/lang/String" := (E_a1_u4.wr W8)
  have F_a1_coder_u13 : Fld Z h8 a1 "java/lang/String" "coder" "B" (.int (0 : Int32)) := ((F_coder_a1.ext E2).other W8 (Or.inl hne_a1_a0))
  have F_a1_value_u14 : Fld Z h8 a1 "java/lang/String" "value" "[B" (.ref aB) := ((F_value_a1.ext E2).other W8 (Or.inl hne_a1_a0))
  have V_aB_u15 : Arv Z h8 aB kB .byte (1 : Int32) [(.int pv)] (.int (0 : Int32)) := ((V_aB.ext E2).other W8 hne_aB_a0)
  have E_aB_u16 : Exa Z h8 aB "[B" := ((E_aB.ext E2).wr W8)
  have S_UTF_8_INSTANCE_u17 : Sta Z h8 "sun/nio/cs/UTF_8" "INSTANCE" "Lsun/nio/cs/UTF_8;" (.ref aU) := ((S_INSTANCE.ext E2).wr W8)
  have S_String_COMPACT_STRINGS_u18 : Sta Z h8 "java/lang/String" "COMPACT_STRINGS" "Z" (.int s_COMPACT_STRINGS) := ((S_COMPACT_STRINGS.ext E2).wr W8)
  obtain ⟨cq11, kq11, q11a, q11b, q11c⟩ := isOf hZ2 e10 E_a1_u12
  obtain ⟨_, _, ⟨T11, L11, k11', n11'⟩, -, X11, ⟨Lc11, hQ11, l11, y11, z11⟩, st11⟩ := X10.virtualBack hx (y := (⟨"java/lang/String", "getBytes", "(Ljava/nio/charset/Charset;)[B"⟩ : MethodName)) (z := (⟨"java/lang/String", "getBytes", "(Ljava/nio/charset/Charset;)[B"⟩ : MethodName)) hown2 (mvT hZ2 (hw _ (List.mem_of_getElem? (i := 55) rfl))) (mvT hZ2 (hw _ (List.mem_of_getElem? (i := 56) rfl))) (notFace_of_selects (args := #[]) (mvT hZ2 (hw _ (List.mem_of_getElem? (i := 58) rfl)))) (mvT hZ2 (hw _ (List.mem_of_getElem? (i := 58) rfl))) (mvT hZ2 (hw _ (List.mem_of_getElem? (i := 57) rfl))) (by decide) (backOf (W := 1) (rm10n l Z az hw [] a1 aU aB kB pv s_COMPACT_STRINGS h8 n0 Z8 E_a1_u12 F_a1_coder_u13 F_a1_value_u14 V_aB_u15 E_aB_u16 S_UTF_8_INSTANCE_u17 hc13 S_String_COMPACT_STRINGS_u18 hc18) hZ2 (hw _ (List.mem_of_getElem? (i := 59) rfl)) (hw _ (List.mem_of_getElem? (i := 2) rfl)) (by decide) (by decide)) q11a q11c (g := (mkF m 22 #[.val (.ref a0), .val (.ref a1)] [(.ref aU), (.ref a1), (.ref a0)])) rfl (by rw [hml]; rfl) (Steps.refl _) (argsL := [(.ref aU)]) (rest := [(.ref a0)]) (lenOf pd_6 rfl) rfl (by show 2 * 0 + _ ≤ _; exact Nat.le_of_eq rfl) (hb hby d8_22) (fun _ _ => ⟨rfl, e10, (by decide : 2 + 1 ≤ _), (by decide : 28 + 2 ≤ _)⟩)
  dsimp only [Pt.U, Pt.locs, Pt.cells, Pt.slots] at X11 l11 y11 z11 st11 hQ11
  subst l11 y11 z11
  obtain ⟨b11_0, kk11_0, rfl, N11q, s11_0, kq11, pf11_0, pf11_1⟩ := hQ11
  have N11 := Fr.app N8 N11q
  have g_b11_0 : n0 ≤ b11_0 := Nat.le_trans Z8 s11_0
  have sz_b11_0 : h0.size ≤ b11_0 := Nat.le_trans K8.1 s11_0
  have K11 : Keep h0 T11.heap [a0] := K8.trans kq11 all0
  have Z11 : n0 ≤ T11.heap.size := Nat.le_trans Z8 kq11.1
  have F_a0_suffixBytes_u19 : Fld Z T11.heap a0 "com/example/fireweed/fireweed/layout/Salt" "suffixBytes" "[B" .null := (((F_suffixBytes_a0.ext E2).other W8 (Or.inr (slot_ne (Or.inr (hw _ (List.mem_of_getElem? (i := 90) rfl))) (Or.inr (hw _ (List.mem_of_getElem? (i := 52) rfl))) (by decide) (t := (.array .byte)) (t' := (.object "java/lang/String")) (by decide) (by decide)))).keep kq11 nin0)
  have E_a0_u20 : Exa Z T11.heap a0 "com/example/fireweed/fireweed/layout/Java31ByteSalt" := ((E_a0_u7.wr W8).keep kq11)
  obtain ⟨T21, h21, X21, e21, W21, st21⟩ := putF X11 hx hZ2 hown2 (host := "") (Or.inl (hw _ (List.mem_of_getElem? (i := 89) rfl))) Via.refl rfl F_a0_suffixBytes_u19 E_a0_u20 (Or.inr ⟨(hw _ (List.mem_of_getElem? (i := 90) rfl)), rfl, hnm⟩) (hw _ (List.mem_of_getElem? (i := 27) rfl)) (ty := (.array .byte)) (by decide) rfl rfl (g := (mkF m 25 #[.val (.ref a0), .val (.ref a1)] [(.ref b11_0), (.ref a0)])) rfl rfl (hb hby d8_25)
  have K21 : Keep h0 h21 [a0] := K11.wr W21 (Or.inl (List.mem_of_getElem? (i := 0) rfl))
  have Fw21 := F_a0_suffixBytes_u19.same W21
  have Z21 : n0 ≤ h21.size := Nat.le_trans Z11 (Keep.of_wr W21).1
  have N21 := Fr.snoc X21 N11 g_a0
  have E_a0_u22 : Exa Z h21 a0 "com/example/fireweed/fireweed/layout/Java31ByteSalt" := (E_a0_u20.wr W21)
  have F_a0_suffix_u23 : Fld Z h21 a0 "com/example/fireweed/fireweed/layout/Salt" "suffix" "Ljava/lang/String;" (.ref a1) := ((Fw8.keep kq11 nin0).other W21 (Or.inr (slot_ne (Or.inr (hw _ (List.mem_of_getElem? (i := 52) rfl))) (Or.inr (hw _ (List.mem_of_getElem? (i := 90) rfl))) (by decide) (t := (.object "java/lang/String")) (t' := (.array .byte)) (by decide) (by decide))))
  have F_a0_buckets_u24 : Fld Z h21 a0 "com/example/fireweed/fireweed/layout/Java31ByteSalt" "buckets" "I" (.int (0 : Int32)) := ((((F_buckets_a0.ext E2).other W8 (Or.inr (slot_ne (Or.inr (hw _ (List.mem_of_getElem? (i := 92) rfl))) (Or.inr (hw _ (List.mem_of_getElem? (i := 52) rfl))) (by decide) (t := .int) (t' := (.object "java/lang/String")) (by decide) (by decide)))).keep kq11 nin0).other W21 (Or.inr (slot_ne (Or.inr (hw _ (List.mem_of_getElem? (i := 92) rfl))) (Or.inr (hw _ (List.mem_of_getElem? (i := 90) rfl))) (by decide) (t := .int) (t' := (.array .byte)) (by decide) (by decide))))
  have F_a0_mask_u25 : Fld Z h21 a0 "com/example/fireweed/fireweed/layout/Java31ByteSalt" "mask" "I" (.int (0 : Int32)) := ((((F_mask_a0.ext E2).other W8 (Or.inr (slot_ne (Or.inr (hw _ (List.mem_of_getElem? (i := 101) rfl))) (Or.inr (hw _ (List.mem_of_getElem? (i := 52) rfl))) (by decide) (t := .int) (t' := (.object "java/lang/String")) (by decide) (by decide)))).keep kq11 nin0).other W21 (Or.inr (slot_ne (Or.inr (hw _ (List.mem_of_getElem? (i := 101) rfl))) (Or.inr (hw _ (List.mem_of_getElem? (i := 90) rfl))) (by decide) (t := .int) (t' := (.array .byte)) (by decide) (by decide))))
  have F_a0_overflow_u26 : Fld Z h21 a0 "com/example/fireweed/fireweed/layout/Java31ByteSalt" "overflow" "I" (.int (0 : Int32)) := ((((F_overflow_a0.ext E2).other W8 (Or.inr (slot_ne (Or.inr (hw _ (List.mem_of_getElem? (i := 116) rfl))) (Or.inr (hw _ (List.mem_of_getElem? (i := 52) rfl))) (by decide) (t := .int) (t' := (.object "java/lang/String")) (by decide) (by decide)))).keep kq11 nin0).other W21 (Or.inr (slot_ne (Or.inr (hw _ (List.mem_of_getElem? (i := 116) rfl))) (Or.inr (hw _ (List.mem_of_getElem? (i := 90) rfl))) (by decide) (t := .int) (t' := (.array .byte)) (by decide) (by decide))))
  have E_b11_0_u27 : Exa Z h21 b11_0 "[B" := (pf11_0.wr W21)
  have ne_a0_b11_0 : a0 ≠ b11_0 := own_ne (Nat.lt_of_lt_of_le (E_a0_u7.wr W8).lt s11_0)
  have V_b11_0_u28 : Arv Z h21 b11_0 kk11_0 .byte (2 : Int32) [(.int (((192 : Int32) ||| ((pv &&& (255 : Int32)) >>> ((6 : Int32) &&& 31))).toInt8.toInt32)), (.int (((128 : Int32) ||| (pv &&& (63 : Int32))).toInt8.toInt32))] (.int (0 : Int32)) := (pf11_1.other W21 (Ne.symm ne_a0_b11_0))
  obtain ⟨fs, hr, hrun, hended, hWE⟩ := X21.leaveW (s := s) hS2 (by rw [e21]; exact (Nat.le_trans (Nat.le_trans (Nat.le_trans hk2 (Keep.of_wr W8).1) kq11.1) (Keep.of_wr W21).1)) (v := none) (fun _ => rfl)
  refine ⟨_, _, pre0 _ ?_, hrun, hended, _, _, rfl, ?_, hWE.1, hWE.2.1, hWE.2.2.1, hWE.2.2.2.mono (by decide) (by decide)⟩
  · show Steps p.tables e below (s₁.setTop (mkF m 0 #[.val (.ref a0), .val (.ref a1)] [])) _
    refine XS.aloadN X0.here hx rfl (hb hby d8_0) rfl rfl ?_
    show Steps p.tables e below (s₁.setTop (mkF m 1 #[.val (.ref a0), .val (.ref a1)] [(.ref a0)])) _
    refine st1 _ ?_
    show Steps p.tables e below (T1.setTop (mkF m 4 #[.val (.ref a0), .val (.ref a1)] [])) _
    refine XS.aloadN X1.here hx rfl (hb hby d8_4) rfl rfl ?_
    show Steps p.tables e below (T1.setTop (mkF m 5 #[.val (.ref a0), .val (.ref a1)] [(.ref a0)])) _
    refine XS.aloadN X1.here hx rfl (hb hby d8_5) rfl rfl ?_
    show Steps p.tables e below (T1.setTop (mkF m 6 #[.val (.ref a0), .val (.ref a1)] [(.ref a1), (.ref a0)])) _
    refine st2 _ ?_
    show Steps p.tables e below (T2.setTop (mkF m 8 #[.val (.ref a0), .val (.ref a1)] [(.ref l2), (.ref a1), (.ref a0)])) _
    refine st3 _ ?_
    show Steps p.tables e below (T3.setTop (mkF m 11 #[.val (.ref a0), .val (.ref a1)] [(.ref a1), (.ref a0)])) _
    refine st5 _ ?_
    show Steps p.tables e below (T5.setTop (mkF m 14 #[.val (.ref a0), .val (.ref a1)] [(.ref a1), (.ref a0)])) _
    refine st8 _ ?_
    show Steps p.tables e below (T8.setTop (mkF m 17 #[.val (.ref a0), .val (.ref a1)] [])) _
    refine XS.aloadN X8.here hx rfl (hb hby d8_17) rfl rfl ?_
    show Steps p.tables e below (T8.setTop (mkF m 18 #[.val (.ref a0), .val (.ref a1)] [(.ref a0)])) _
    refine XS.aloadN X8.here hx rfl (hb hby d8_18) rfl rfl ?_
    show Steps p.tables e below (T8.setTop (mkF m 19 #[.val (.ref a0), .val (.ref a1)] [(.ref a1), (.ref a0)])) _
    refine st10 _ ?_
    show Steps p.tables e below (T10.setTop (mkF m 22 #[.val (.ref a0), .val (.ref a1)] [(.ref aU), (.ref a1), (.ref a0)])) _
    refine st11.trans ?_
    show Steps p.tables e below (T11.setTop (mkF m 25 #[.val (.ref a0), .val (.ref a1)] [(.ref b11_0), (.ref a0)])) _
    refine st21 _ ?_
    show Steps p.tables e below (T21.setTop (mkF m 28 #[.val (.ref a0), .val (.ref a1)] [])) _
    exact X21.returnOut hx Bd.returns (hb hby d8_28) hr
  · show Q8n Z a0 a1 aB kB pv aU s_COMPACT_STRINGS h0 n0 _ T21.heap _
    rw [e21]
    exact ⟨b11_0, kk11_0, rfl, N21, sz_b11_0, K21, E_a0_u22, F_a0_suffix_u23, Fw21, F_a0_buckets_u24, F_a0_mask_u25, F_a0_overflow_u26, E_b11_0_u27, V_b11_0_u28⟩
theorem ef_rm7n (m : MethodId) (a0 : Addr) (a1 : Addr) : entryFrame m #[(.ref a0), (.ref a1)] 2 = mkF m 0 #[.val (.ref a0), .val (.ref a1)] [] := by first | (simp [entryFrame, mkF, argsToLocals, Value.category]; done) | rfl
def Q7n (Z : State) (a0 : Addr) (a1 : Addr) (aB : Addr) (kB : ClassId) (pv : Int32) (aU : Addr) (s_COMPACT_STRINGS : Int32) (h0 : Heap) (n0 : Nat) (v : Option Value) (h : Heap) (L : List Loc) : Prop := ∃ r0 : Addr, ∃ rk0 : ClassId, v = none ∧ Fr n0 L ∧ h0.size ≤ r0 ∧ Keep h0 h [a0] ∧ Exa Z h a0 "com/example/fireweed/fireweed/layout/Java31ByteSalt" ∧ Fld Z h a0 "com/example/fireweed/fireweed/layout/Salt" "suffix" "Ljava/lang/String;" (.ref a1) ∧ Fld Z h a0 "com/example/fireweed/fireweed/layout/Salt" "suffixBytes" "[B" (.ref r0) ∧ Fld Z h a0 "com/example/fireweed/fireweed/layout/Java31ByteSalt" "buckets" "I" (.int (0 : Int32)) ∧ Fld Z h a0 "com/example/fireweed/fireweed/layout/Java31ByteSalt" "mask" "I" (.int (0 : Int32)) ∧ Fld Z h a0 "com/example/fireweed/fireweed/layout/Java31ByteSalt" "overflow" "I" (.int (0 : Int32)) ∧ Exa Z h r0 "[B" ∧ Arv Z h r0 rk0 .byte (2 : Int32) [(.int (((192 : Int32) ||| ((pv &&& (255 : Int32)) >>> ((6 : Int32) &&& 31))).toInt8.toInt32)), (.int (((128 : Int32) ||| (pv &&& (63 : Int32))).toInt8.toInt32))] (.int (0 : Int32))
set_option maxRecDepth 65536 in
set_option maxHeartbeats 40000000 in
theorem rm7n (l : Launch) (Z : State) (az : Array Value) (hw : ∀ d ∈ tables_1, d.before az Z = true) (ws : List Jvm.Cond) (a0 : Addr) (a1 : Addr) (aB : Addr) (kB : ClassId) (pv : Int32) (aU : Addr) (s_COMPACT_STRINGS : Int32) (h0 : Heap) (n0 : Nat) (Z0 : n0 ≤ h0.size) (E_a0 : Exa Z h0 a0 "com/example/fireweed/fireweed/layout/Java31ByteSalt") (F_suffix_a0 : Fld Z h0 a0 "com/example/fireweed/fireweed/layout/Salt" "suffix" "Ljava/lang/String;" .null) (F_suffixBytes_a0 : Fld Z h0 a0 "com/example/fireweed/fireweed/layout/Salt" "suffixBytes" "[B" .null) (F_buckets_a0 : Fld Z h0 a0 "com/example/fireweed/fireweed/layout/Java31ByteSalt" "buckets" "I" (.int (0 : Int32))) (F_mask_a0 : Fld Z h0 a0 "com/example/fireweed/fireweed/layout/Java31ByteSalt" "mask" "I" (.int (0 : Int32))) (F_overflow_a0 : Fld Z h0 a0 "com/example/fireweed/fireweed/layout/Java31ByteSalt" "overflow" "I" (.int (0 : Int32))) (E_a1 : Exa Z h0 a1 "java/lang/String") (F_coder_a1 : Fld Z h0 a1 "java/lang/String" "coder" "B" (.int (0 : Int32))) (F_value_a1 : Fld Z h0 a1 "java/lang/String" "value" "[B" (.ref aB)) (V_aB : Arv Z h0 aB kB .byte (1 : Int32) [(.int pv)] (.int (0 : Int32))) (E_aB : Exa Z h0 aB "[B") (S_INSTANCE : Sta Z h0 "sun/nio/cs/UTF_8" "INSTANCE" "Lsun/nio/cs/UTF_8;" (.ref aU)) (S_UTF_8 : Sta Z h0 "java/nio/charset/StandardCharsets" "UTF_8" "Ljava/nio/charset/Charset;" (.ref aU)) (hc13 : pv < (0 : Int32)) (S_COMPACT_STRINGS : Sta Z h0 "java/lang/String" "COMPACT_STRINGS" "Z" (.int s_COMPACT_STRINGS)) (g_a0 : n0 ≤ a0) (hne_a1_a0 : a1 ≠ a0) (hne_aB_a0 : aB ≠ a0) (hc18 : ¬ (s_COMPACT_STRINGS = (0 : Int32))) :
    MetFree l (⟨"com/example/fireweed/fireweed/layout/BucketSalt", "<init>", "(Ljava/lang/String;)V"⟩ : MethodName) (head1 (Jvm.Cond.code (⟨"com/example/fireweed/fireweed/layout/BucketSalt", "<init>", "(Ljava/lang/String;)V"⟩ : MethodName) prog_5_method_1_code 2 none :: ws) ({ frames := 6, cells := 3, slots := 30, locals := 91 } : Room)) (fun a U => a = #[(.ref a0), (.ref a1)] ∧ Z.Warmed39 U.vm ∧ U.heap = h0) (fun _ _ _ _ _ => True) (fun _ U o U' => ∃ v L, o = .returned v ∧ Q7n Z a0 a1 aB kB pv aU s_COMPACT_STRINGS h0 n0 v U'.heap L ∧ ReturnedEndW U o U' L ({ frames := 6, cells := 3, slots := 30, locals := 91 } : Room).cells ({ frames := 6, cells := 3, slots := 30, locals := 91 } : Room).slots) := by
  refine MetFree.of_bodySF (plainFor_of_name pn_com_example_fireweed_fireweed_layout_BucketSalt) hisR ?_
  intro p e s m args below meth c s₁ Bd hml0 hP hK
  obtain ⟨rfl, hZ, hh⟩ := hP
  have hx := Bd.exec
  have hby := Bd.bytes
  have hml : c.maxLocals = 2 := hml0
  have hown : s.vm.findClass "com/example/fireweed/fireweed/layout/BucketSalt" = some m.cls := findClass_of_methodNamed Bd.named
  have hnm := (name_of_methodNamed Bd.named Bd.method).1
  have X0 : Stand p l e ({ frames := 6, cells := 3, slots := 30, locals := 91 } : Room) s m #[(.ref a0), (.ref a1)] below meth c s₁ [] 0 0 := Stand.of_body Bd
  have e0 : s₁.heap = h0 := by rw [← hh, Bd.state]; rfl
  have N0 := Fr.nil n0
  have pre0 : ∀ t, Steps p.tables e below (s₁.setTop (mkF m 0 #[.val (.ref a0), .val (.ref a1)] [])) t → Steps p.tables e below (s₁.setTop (entryFrame m #[(.ref a0), (.ref a1)] 2)) t := fun t k => castTop (ef_rm7n m a0 a1) k
  have hS0 : s.Since s.vm 0 := (State.WarmedH.refl s).since 0
  have wS : ∀ a ∈ Bundle.stringAtoms, a.before az Z = true := fun d hd => by
    simp only [Bundle.stringAtoms, List.mem_cons, List.not_mem_nil, or_false] at hd
    rcases hd with rfl | rfl | rfl | rfl | rfl | rfl | rfl
    · exact (hw _ (List.mem_of_getElem? (i := 2) rfl))
    · exact (hw _ (List.mem_of_getElem? (i := 10) rfl))
    · exact (hw _ (List.mem_of_getElem? (i := 14) rfl))
    · exact (hw _ (List.mem_of_getElem? (i := 23) rfl))
    · exact (hw _ (List.mem_of_getElem? (i := 25) rfl))
    · exact (hw _ (List.mem_of_getElem? (i := 44) rfl))
    · exact (hw _ (List.mem_of_getElem? (i := 45) rfl))
  obtain ⟨_, _, ⟨T1, L1, k1', n1'⟩, -, Y1, yS1, yg1, ⟨Lc1, hQ1, l1, y1, z1⟩, st1⟩ := X0.specialBackS hx (y := (⟨"com/example/fireweed/fireweed/layout/Salt", "<init>", "(Ljava/lang/String;)V"⟩ : MethodName)) rfl hown (mvT hZ (hw _ (List.mem_of_getElem? (i := 37) rfl))) (mvT hZ (hw _ (List.mem_of_getElem? (i := 38) rfl))) (mvT hZ (hw _ (List.mem_of_getElem? (i := 41) rfl))) (by decide) (backOfS (W := 0) (rm8n l Z az hw [] a0 a1 aB kB pv aU s_COMPACT_STRINGS h0 n0 Z0 E_a0 F_suffix_a0 F_suffixBytes_a0 F_buckets_a0 F_mask_a0 F_overflow_a0 E_a1 F_coder_a1 F_value_a1 V_aB E_aB S_INSTANCE S_UTF_8 hc13 g_a0 S_COMPACT_STRINGS hne_a1_a0 hne_aB_a0 hc18) hZ (hw _ (List.mem_of_getElem? (i := 41) rfl)) (hw _ (List.mem_of_getElem? (i := 40) rfl)) (by decide) (by decide)) (g := (mkF m 2 #[.val (.ref a0), .val (.ref a1)] [(.ref a1), (.ref a0)])) rfl (by rw [hml]; rfl) (Steps.refl _) (a := a0) (argsL := [(.ref a1)]) (rest := []) (lenOf pd_7 rfl) rfl (by show 2 * 0 + _ ≤ _; exact Nat.le_of_eq rfl) (hb hby d7_2) (fun _ _ => ⟨rfl, e0, (by decide : 0 + 3 ≤ _), (by decide : 0 + 30 ≤ _)⟩)
  dsimp only [Pt.U, Pt.locs, Pt.cells, Pt.slots] at Y1 yS1 yg1 l1 y1 z1 st1 hQ1
  subst l1 y1 z1
  obtain ⟨X1, hS1, hZ1, hown1⟩ := rebS (s := s) (vm0 := s.vm) hS0 (by rw [e0]; exact (Nat.zero_le _)) Y1 yS1 yg1 hZ hown
  obtain ⟨b1_0, kk1_0, rfl, N1q, s1_0, kq1, pf1_0, pf1_1, pf1_2, pf1_3, pf1_4, pf1_5, pf1_6, pf1_7⟩ := hQ1
  have N1 := Fr.app N0 N1q
  have g_b1_0 : n0 ≤ b1_0 := Nat.le_trans Z0 s1_0
  have sz_b1_0 : h0.size ≤ b1_0 := Nat.le_trans (Nat.le_refl _) s1_0
  have K1 : Keep h0 T1.heap [a0] := (Keep.refl h0 [a0]).trans kq1 (allS (Or.inl (List.mem_of_getElem? (i := 0) rfl)) all0)
  have Z1 : n0 ≤ T1.heap.size := Nat.le_trans Z0 kq1.1
  obtain ⟨fs, hr, hrun, hended, hWE⟩ := X1.leaveW (s := s) hS1 (Nat.le_refl _) (v := none) (fun _ => rfl)
  refine ⟨_, _, pre0 _ ?_, hrun, hended, _, _, rfl, ?_, hWE.1, hWE.2.1, hWE.2.2.1, hWE.2.2.2.mono (by decide) (by decide)⟩
  · show Steps p.tables e below (s₁.setTop (mkF m 0 #[.val (.ref a0), .val (.ref a1)] [])) _
    refine XS.aloadN X0.here hx rfl (hb hby d7_0) rfl rfl ?_
    show Steps p.tables e below (s₁.setTop (mkF m 1 #[.val (.ref a0), .val (.ref a1)] [(.ref a0)])) _
    refine XS.aloadN X0.here hx rfl (hb hby d7_1) rfl rfl ?_
    show Steps p.tables e below (s₁.setTop (mkF m 2 #[.val (.ref a0), .val (.ref a1)] [(.ref a1), (.ref a0)])) _
    refine st1.trans ?_
    show Steps p.tables e below (T1.setTop (mkF m 5 #[.val (.ref a0), .val (.ref a1)] [])) _
    exact X1.returnOut hx Bd.returns (hb hby d7_5) hr
  · show Q7n Z a0 a1 aB kB pv aU s_COMPACT_STRINGS h0 n0 _ T1.heap _
    exact ⟨b1_0, kk1_0, rfl, N1, sz_b1_0, K1, pf1_0, pf1_1, pf1_2, pf1_3, pf1_4, pf1_5, pf1_6, pf1_7⟩
theorem d16_0 : decode jdk_33_method_49_code 0 = .ok (.iload_n 0, 1) := by decide +kernel
theorem d16_1 : decode jdk_33_method_49_code 1 = .ok (.iload_n 0, 1) := by decide +kernel
theorem d16_2 : decode jdk_33_method_49_code 2 = .ok (.iconst 1, 1) := by decide +kernel
theorem d16_3 : decode jdk_33_method_49_code 3 = .ok (.iushr, 1) := by decide +kernel
theorem d16_4 : decode jdk_33_method_49_code 4 = .ok (.ldc_w 265, 3) := by decide +kernel
theorem d16_7 : decode jdk_33_method_49_code 7 = .ok (.iand, 1) := by decide +kernel
theorem d16_8 : decode jdk_33_method_49_code 8 = .ok (.isub, 1) := by decide +kernel
theorem d16_9 : decode jdk_33_method_49_code 9 = .ok (.istore_n 0, 1) := by decide +kernel
theorem d16_10 : decode jdk_33_method_49_code 10 = .ok (.iload_n 0, 1) := by decide +kernel
theorem d16_11 : decode jdk_33_method_49_code 11 = .ok (.ldc_w 266, 3) := by decide +kernel
theorem d16_14 : decode jdk_33_method_49_code 14 = .ok (.iand, 1) := by decide +kernel
theorem d16_15 : decode jdk_33_method_49_code 15 = .ok (.iload_n 0, 1) := by decide +kernel
theorem d16_16 : decode jdk_33_method_49_code 16 = .ok (.iconst 2, 1) := by decide +kernel
theorem d16_17 : decode jdk_33_method_49_code 17 = .ok (.iushr, 1) := by decide +kernel
theorem d16_18 : decode jdk_33_method_49_code 18 = .ok (.ldc_w 266, 3) := by decide +kernel
theorem d16_21 : decode jdk_33_method_49_code 21 = .ok (.iand, 1) := by decide +kernel
theorem d16_22 : decode jdk_33_method_49_code 22 = .ok (.iadd, 1) := by decide +kernel
theorem d16_23 : decode jdk_33_method_49_code 23 = .ok (.istore_n 0, 1) := by decide +kernel
theorem d16_24 : decode jdk_33_method_49_code 24 = .ok (.iload_n 0, 1) := by decide +kernel
theorem d16_25 : decode jdk_33_method_49_code 25 = .ok (.iload_n 0, 1) := by decide +kernel
theorem d16_26 : decode jdk_33_method_49_code 26 = .ok (.iconst 4, 1) := by decide +kernel
theorem d16_27 : decode jdk_33_method_49_code 27 = .ok (.iushr, 1) := by decide +kernel
theorem d16_28 : decode jdk_33_method_49_code 28 = .ok (.iadd, 1) := by decide +kernel
theorem d16_29 : decode jdk_33_method_49_code 29 = .ok (.ldc_w 267, 3) := by decide +kernel
theorem d16_32 : decode jdk_33_method_49_code 32 = .ok (.iand, 1) := by decide +kernel
theorem d16_33 : decode jdk_33_method_49_code 33 = .ok (.istore_n 0, 1) := by decide +kernel
theorem d16_34 : decode jdk_33_method_49_code 34 = .ok (.iload_n 0, 1) := by decide +kernel
theorem d16_35 : decode jdk_33_method_49_code 35 = .ok (.iload_n 0, 1) := by decide +kernel
theorem d16_36 : decode jdk_33_method_49_code 36 = .ok (.bipush 8, 2) := by decide +kernel
theorem d16_38 : decode jdk_33_method_49_code 38 = .ok (.iushr, 1) := by decide +kernel
theorem d16_39 : decode jdk_33_method_49_code 39 = .ok (.iadd, 1) := by decide +kernel
theorem d16_40 : decode jdk_33_method_49_code 40 = .ok (.istore_n 0, 1) := by decide +kernel
theorem d16_41 : decode jdk_33_method_49_code 41 = .ok (.iload_n 0, 1) := by decide +kernel
theorem d16_42 : decode jdk_33_method_49_code 42 = .ok (.iload_n 0, 1) := by decide +kernel
theorem d16_43 : decode jdk_33_method_49_code 43 = .ok (.bipush 16, 2) := by decide +kernel
theorem d16_45 : decode jdk_33_method_49_code 45 = .ok (.iushr, 1) := by decide +kernel
theorem d16_46 : decode jdk_33_method_49_code 46 = .ok (.iadd, 1) := by decide +kernel
theorem d16_47 : decode jdk_33_method_49_code 47 = .ok (.istore_n 0, 1) := by decide +kernel
theorem d16_48 : decode jdk_33_method_49_code 48 = .ok (.iload_n 0, 1) := by decide +kernel
theorem d16_49 : decode jdk_33_method_49_code 49 = .ok (.bipush 63, 2) := by decide +kernel
theorem d16_51 : decode jdk_33_method_49_code 51 = .ok (.iand, 1) := by decide +kernel
theorem d16_52 : decode jdk_33_method_49_code 52 = .ok (.ireturn, 1) := by decide +kernel
def own_bc (p0 : Int32) : Int32 := ((((((((p0 - (((p0.toUInt32 >>> ((1 : Int32) &&& 31).toUInt32).toInt32) &&& (1431655765 : Int32))) &&& (858993459 : Int32)) + ((((p0 - (((p0.toUInt32 >>> ((1 : Int32) &&& 31).toUInt32).toInt32) &&& (1431655765 : Int32))).toUInt32 >>> ((2 : Int32) &&& 31).toUInt32).toInt32) &&& (858993459 : Int32))) + (((((p0 - (((p0.toUInt32 >>> ((1 : Int32) &&& 31).toUInt32).toInt32) &&& (1431655765 : Int32))) &&& (858993459 : Int32)) + ((((p0 - (((p0.toUInt32 >>> ((1 : Int32) &&& 31).toUInt32).toInt32) &&& (1431655765 : Int32))).toUInt32 >>> ((2 : Int32) &&& 31).toUInt32).toInt32) &&& (858993459 : Int32))).toUInt32 >>> ((4 : Int32) &&& 31).toUInt32).toInt32)) &&& (252645135 : Int32)) + (((((((p0 - (((p0.toUInt32 >>> ((1 : Int32) &&& 31).toUInt32).toInt32) &&& (1431655765 : Int32))) &&& (858993459 : Int32)) + ((((p0 - (((p0.toUInt32 >>> ((1 : Int32) &&& 31).toUInt32).toInt32) &&& (1431655765 : Int32))).toUInt32 >>> ((2 : Int32) &&& 31).toUInt32).toInt32) &&& (858993459 : Int32))) + (((((p0 - (((p0.toUInt32 >>> ((1 : Int32) &&& 31).toUInt32).toInt32) &&& (1431655765 : Int32))) &&& (858993459 : Int32)) + ((((p0 - (((p0.toUInt32 >>> ((1 : Int32) &&& 31).toUInt32).toInt32) &&& (1431655765 : Int32))).toUInt32 >>> ((2 : Int32) &&& 31).toUInt32).toInt32) &&& (858993459 : Int32))).toUInt32 >>> ((4 : Int32) &&& 31).toUInt32).toInt32)) &&& (252645135 : Int32)).toUInt32 >>> ((8 : Int32) &&& 31).toUInt32).toInt32)) + ((((((((p0 - (((p0.toUInt32 >>> ((1 : Int32) &&& 31).toUInt32).toInt32) &&& (1431655765 : Int32))) &&& (858993459 : Int32)) + ((((p0 - (((p0.toUInt32 >>> ((1 : Int32) &&& 31).toUInt32).toInt32) &&& (1431655765 : Int32))).toUInt32 >>> ((2 : Int32) &&& 31).toUInt32).toInt32) &&& (858993459 : Int32))) + (((((p0 - (((p0.toUInt32 >>> ((1 : Int32) &&& 31).toUInt32).toInt32) &&& (1431655765 : Int32))) &&& (858993459 : Int32)) + ((((p0 - (((p0.toUInt32 >>> ((1 : Int32) &&& 31).toUInt32).toInt32) &&& (1431655765 : Int32))).toUInt32 >>> ((2 : Int32) &&& 31).toUInt32).toInt32) &&& (858993459 : Int32))).toUInt32 >>> ((4 : Int32) &&& 31).toUInt32).toInt32)) &&& (252645135 : Int32)) + (((((((p0 - (((p0.toUInt32 >>> ((1 : Int32) &&& 31).toUInt32).toInt32) &&& (1431655765 : Int32))) &&& (858993459 : Int32)) + ((((p0 - (((p0.toUInt32 >>> ((1 : Int32) &&& 31).toUInt32).toInt32) &&& (1431655765 : Int32))).toUInt32 >>> ((2 : Int32) &&& 31).toUInt32).toInt32) &&& (858993459 : Int32))) + (((((p0 - (((p0.toUInt32 >>> ((1 : Int32) &&& 31).toUInt32).toInt32) &&& (1431655765 : Int32))) &&& (858993459 : Int32)) + ((((p0 - (((p0.toUInt32 >>> ((1 : Int32) &&& 31).toUInt32).toInt32) &&& (1431655765 : Int32))).toUInt32 >>> ((2 : Int32) &&& 31).toUInt32).toInt32) &&& (858993459 : Int32))).toUInt32 >>> ((4 : Int32) &&& 31).toUInt32).toInt32)) &&& (252645135 : Int32)).toUInt32 >>> ((8 : Int32) &&& 31).toUInt32).toInt32)).toUInt32 >>> ((16 : Int32) &&& 31).toUInt32).toInt32)) &&& (63 : Int32))
theorem pn_java_lang_Integer : plainName "java/lang/Integer" = true := by first | (simp [plainName, overriddenIn]; done) | decide +kernel
theorem ef_rm16 (m : MethodId) (p0 : Int32) : entryFrame m #[(.int p0)] 1 = mkF m 0 #[.val (.int p0)] [] := by first | (simp [entryFrame, mkF, argsToLocals, Value.category]; done) | rfl
def Q16 (Z : State) (p0 : Int32) (h0 : Heap) (n0 : Nat) (v : Option Value) (h : Heap) (L : List Loc) : Prop := v = some (.int (own_bc p0)) ∧ Fr n0 L ∧ h = h0
set_option maxRecDepth 65536 in
set_option maxHeartbeats 40000000 in
theorem rm16 (l : Launch) (Z : State) (az : Array Value) (hw : ∀ d ∈ tables_1, d.before az Z = true) (ws : List Jvm.Cond) (p0 : Int32) (h0 : Heap) (n0 : Nat) (Z0 : n0 ≤ h0.size) :
    MetFree l (⟨"java/lang/Integer", "bitCount", "(I)I"⟩ : MethodName) (head1 (Jvm.Cond.code (⟨"java/lang/Integer", "bitCount", "(I)I"⟩ : MethodName) jdk_33_method_49_code 1 (some .int) :: ws) ({ frames := 0, cells := 0, slots := 0, locals := 0 } : Room)) (fun a U => a = #[(.int p0)] ∧ Z.Warmed39 U.vm ∧ U.heap = h0) (fun _ _ _ _ _ => True) (fun _ U o U' => ∃ v L, o = .returned v ∧ Q16 Z p0 h0 n0 v U'.heap L ∧ FrameEnd U o U' L ({ frames := 0, cells := 0, slots := 0, locals := 0 } : Room).cells ({ frames := 0, cells := 0, slots := 0, locals := 0 } : Room).slots) := by
  refine MetFree.of_bodySF (plainFor_of_name pn_java_lang_Integer) hisR ?_
  intro p e s m args below meth c s₁ Bd hml0 hP hK
  obtain ⟨rfl, hZ, hh⟩ := hP
  have hx := Bd.exec
  have hby := Bd.bytes
  have hml : c.maxLocals = 1 := hml0
  have hown : s.vm.findClass "java/lang/Integer" = some m.cls := findClass_of_methodNamed Bd.named
  have hnm := (name_of_methodNamed Bd.named Bd.method).1
  have X0 : Stand p l e ({ frames := 0, cells := 0, slots := 0, locals := 0 } : Room) s m #[(.int p0)] below meth c s₁ [] 0 0 := Stand.of_body Bd
  have e0 : s₁.heap = h0 := by rw [← hh, Bd.state]; rfl
  have N0 := Fr.nil n0
  have pre0 : ∀ t, Steps p.tables e below (s₁.setTop (mkF m 0 #[.val (.int p0)] [])) t → Steps p.tables e below (s₁.setTop (entryFrame m #[(.int p0)] 1)) t := fun t k => castTop (ef_rm16 m p0) k
  obtain ⟨fs, hr, hrun, hended, hW, hsame⟩ := X0.leave (v := some (.int (own_bc p0))) (fun h => by rw [Bd.returns] at h; cases h)
  refine ⟨_, _, pre0 _ ?_, hrun, hended, _, _, rfl, ?_, ⟨_, rfl⟩, hW, hsame.mono (by decide) (by decide)⟩
  · show Steps p.tables e below (s₁.setTop (mkF m 0 #[.val (.int p0)] [])) _
    refine XS.iloadN X0.here hx rfl (hb hby d16_0) rfl ?_
    show Steps p.tables e below (s₁.setTop (mkF m 1 #[.val (.int p0)] [(.int p0)])) _
    refine XS.iloadN X0.here hx rfl (hb hby d16_1) rfl ?_
    show Steps p.tables e below (s₁.setTop (mkF m 2 #[.val (.int p0)] [(.int p0), (.int p0)])) _
    refine XS.iconst X0.here hx rfl (hb hby d16_2) ?_
    show Steps p.tables e below (s₁.setTop (mkF m 3 #[.val (.int p0)] [(.int (1 : Int32)), (.int p0), (.int p0)])) _
    refine XS.iushr X0.here hx rfl (hb hby d16_3) rfl ?_
    show Steps p.tables e below (s₁.setTop (mkF m 4 #[.val (.int p0)] [(.int ((p0.toUInt32 >>> ((1 : Int32) &&& 31).toUInt32).toInt32)), (.int p0)])) _
    refine X0.ldcwInt hx hown (mvT hZ (hw _ (List.mem_of_getElem? (i := 97) rfl))) (g := (mkF m 4 #[.val (.int p0)] [(.int ((p0.toUInt32 >>> ((1 : Int32) &&& 31).toUInt32).toInt32)), (.int p0)])) rfl (hb hby d16_4) _ ?_
    show Steps p.tables e below (s₁.setTop (mkF m 7 #[.val (.int p0)] [(.int (1431655765 : Int32)), (.int ((p0.toUInt32 >>> ((1 : Int32) &&& 31).toUInt32).toInt32)), (.int p0)])) _
    refine XS.iand X0.here hx rfl (hb hby d16_7) rfl ?_
    show Steps p.tables e below (s₁.setTop (mkF m 8 #[.val (.int p0)] [(.int (((p0.toUInt32 >>> ((1 : Int32) &&& 31).toUInt32).toInt32) &&& (1431655765 : Int32))), (.int p0)])) _
    refine XS.isub X0.here hx rfl (hb hby d16_8) rfl ?_
    show Steps p.tables e below (s₁.setTop (mkF m 9 #[.val (.int p0)] [(.int (p0 - (((p0.toUInt32 >>> ((1 : Int32) &&& 31).toUInt32).toInt32) &&& (1431655765 : Int32))))])) _
    refine XS.istoreN X0.here hx rfl (hb hby d16_9) rfl (l' := #[.val (.int (p0 - (((p0.toUInt32 >>> ((1 : Int32) &&& 31).toUInt32).toInt32) &&& (1431655765 : Int32))))]) rfl ?_
    show Steps p.tables e below (s₁.setTop (mkF m 10 #[.val (.int (p0 - (((p0.toUInt32 >>> ((1 : Int32) &&& 31).toUInt32).toInt32) &&& (1431655765 : Int32))))] [])) _
    refine XS.iloadN X0.here hx rfl (hb hby d16_10) rfl ?_
    show Steps p.tables e below (s₁.setTop (mkF m 11 #[.val (.int (p0 - (((p0.toUInt32 >>> ((1 : Int32) &&& 31).toUInt32).toInt32) &&& (1431655765 : Int32))))] [(.int (p0 - (((p0.toUInt32 >>> ((1 : Int32) &&& 31).toUInt32).toInt32) &&& (1431655765 : Int32))))])) _
    refine X0.ldcwInt hx hown (mvT hZ (hw _ (List.mem_of_getElem? (i := 98) rfl))) (g := (mkF m 11 #[.val (.int (p0 - (((p0.toUInt32 >>> ((1 : Int32) &&& 31).toUInt32).toInt32) &&& (1431655765 : Int32))))] [(.int (p0 - (((p0.toUInt32 >>> ((1 : Int32) &&& 31).toUInt32).toInt32) &&& (1431655765 : Int32))))])) rfl (hb hby d16_11) _ ?_
    show Steps p.tables e below (s₁.setTop (mkF m 14 #[.val (.int (p0 - (((p0.toUInt32 >>> ((1 : Int32) &&& 31).toUInt32).toInt32) &&& (1431655765 : Int32))))] [(.int (858993459 : Int32)), (.int (p0 - (((p0.toUInt32 >>> ((1 : Int32) &&& 31).toUInt32).toInt32) &&& (1431655765 : Int32))))])) _
    refine XS.iand X0.here hx rfl (hb hby d16_14) rfl ?_
    show Steps p.tables e below (s₁.setTop (mkF m 15 #[.val (.int (p0 - (((p0.toUInt32 >>> ((1 : Int32) &&& 31).toUInt32).toInt32) &&& (1431655765 : Int32))))] [(.int ((p0 - (((p0.toUInt32 >>> ((1 : Int32) &&& 31).toUInt32).toInt32) &&& (1431655765 : Int32))) &&& (858993459 : Int32)))])) _
    refine XS.iloadN X0.here hx rfl (hb hby d16_15) rfl ?_
    show Steps p.tables e below (s₁.setTop (mkF m 16 #[.val (.int (p0 - (((p0.toUInt32 >>> ((1 : Int32) &&& 31).toUInt32).toInt32) &&& (1431655765 : Int32))))] [(.int (p0 - (((p0.toUInt32 >>> ((1 : Int32) &&& 31).toUInt32).toInt32) &&& (1431655765 : Int32)))), (.int ((p0 - (((p0.toUInt32 >>> ((1 : Int32) &&& 31).toUInt32).toInt32) &&& (1431655765 : Int32))) &&& (858993459 : Int32)))])) _
    refine XS.iconst X0.here hx rfl (hb hby d16_16) ?_
    show Steps p.tables e below (s₁.setTop (mkF m 17 #[.val (.int (p0 - (((p0.toUInt32 >>> ((1 : Int32) &&& 31).toUInt32).toInt32) &&& (1431655765 : Int32))))] [(.int (2 : Int32)), (.int (p0 - (((p0.toUInt32 >>> ((1 : Int32) &&& 31).toUInt32).toInt32) &&& (1431655765 : Int32)))), (.int ((p0 - (((p0.toUInt32 >>> ((1 : Int32) &&& 31).toUInt32).toInt32) &&& (1431655765 : Int32))) &&& (858993459 : Int32)))])) _
    refine XS.iushr X0.here hx rfl (hb hby d16_17) rfl ?_
    show Steps p.tables e below (s₁.setTop (mkF m 18 #[.val (.int (p0 - (((p0.toUInt32 >>> ((1 : Int32) &&& 31).toUInt32).toInt32) &&& (1431655765 : Int32))))] [(.int (((p0 - (((p0.toUInt32 >>> ((1 : Int32) &&& 31).toUInt32).toInt32) &&& (1431655765 : Int32))).toUInt32 >>> ((2 : Int32) &&& 31).toUInt32).toInt32)), (.int ((p0 - (((p0.toUInt32 >>> ((1 : Int32) &&& 31).toUInt32).toInt32) &&& (1431655765 : Int32))) &&& (858993459 : Int32)))])) _
    refine X0.ldcwInt hx hown (mvT hZ (hw _ (List.mem_of_getElem? (i := 98) rfl))) (g := (mkF m 18 #[.val (.int (p0 - (((p0.toUInt32 >>> ((1 : Int32) &&& 31).toUInt32).toInt32) &&& (1431655765 : Int32))))] [(.int (((p0 - (((p0.toUInt32 >>> ((1 : Int32) &&& 31).toUInt32).toInt32) &&& (1431655765 : Int32))).toUInt32 >>> ((2 : Int32) &&& 31).toUInt32).toInt32)), (.int ((p0 - (((p0.toUInt32 >>> ((1 : Int32) &&& 31).toUInt32).toInt32) &&& (1431655765 : Int32))) &&& (858993459 : Int32)))])) rfl (hb hby d16_18) _ ?_
    show Steps p.tables e below (s₁.setTop (mkF m 21 #[.val (.int (p0 - (((p0.toUInt32 >>> ((1 : Int32) &&& 31).toUInt32).toInt32) &&& (1431655765 : Int32))))] [(.int (858993459 : Int32)), (.int (((p0 - (((p0.toUInt32 >>> ((1 : Int32) &&& 31).toUInt32).toInt32) &&& (1431655765 : Int32))).toUInt32 >>> ((2 : Int32) &&& 31).toUInt32).toInt32)), (.int ((p0 - (((p0.toUInt32 >>> ((1 : Int32) &&& 31).toUInt32).toInt32) &&& (1431655765 : Int32))) &&& (858993459 : Int32)))])) _
    refine XS.iand X0.here hx rfl (hb hby d16_21) rfl ?_
    show Steps p.tables e below (s₁.setTop (mkF m 22 #[.val (.int (p0 - (((p0.toUInt32 >>> ((1 : Int32) &&& 31).toUInt32).toInt32) &&& (1431655765 : Int32))))] [(.int ((((p0 - (((p0.toUInt32 >>> ((1 : Int32) &&& 31).toUInt32).toInt32) &&& (1431655765 : Int32))).toUInt32 >>> ((2 : Int32) &&& 31).toUInt32).toInt32) &&& (858993459 : Int32))), (.int ((p0 - (((p0.toUInt32 >>> ((1 : Int32) &&& 31).toUInt32).toInt32) &&& (1431655765 : Int32))) &&& (858993459 : Int32)))])) _
    refine XS.iadd X0.here hx rfl (hb hby d16_22) rfl ?_
    show Steps p.tables e below (s₁.setTop (mkF m 23 #[.val (.int (p0 - (((p0.toUInt32 >>> ((1 : Int32) &&& 31).toUInt32).toInt32) &&& (1431655765 : Int32))))] [(.int (((p0 - (((p0.toUInt32 >>> ((1 : Int32) &&& 31).toUInt32).toInt32) &&& (1431655765 : Int32))) &&& (858993459 : Int32)) + ((((p0 - (((p0.toUInt32 >>> ((1 : Int32) &&& 31).toUInt32).toInt32) &&& (1431655765 : Int32))).toUInt32 >>> ((2 : Int32) &&& 31).toUInt32).toInt32) &&& (858993459 : Int32))))])) _
    refine XS.istoreN X0.here hx rfl (hb hby d16_23) rfl (l' := #[.val (.int (((p0 - (((p0.toUInt32 >>> ((1 : Int32) &&& 31).toUInt32).toInt32) &&& (1431655765 : Int32))) &&& (858993459 : Int32)) + ((((p0 - (((p0.toUInt32 >>> ((1 : Int32) &&& 31).toUInt32).toInt32) &&& (1431655765 : Int32))).toUInt32 >>> ((2 : Int32) &&& 31).toUInt32).toInt32) &&& (858993459 : Int32))))]) rfl ?_
    show Steps p.tables e below (s₁.setTop (mkF m 24 #[.val (.int (((p0 - (((p0.toUInt32 >>> ((1 : Int32) &&& 31).toUInt32).toInt32) &&& (1431655765 : Int32))) &&& (858993459 : Int32)) + ((((p0 - (((p0.toUInt32 >>> ((1 : Int32) &&& 31).toUInt32).toInt32) &&& (1431655765 : Int32))).toUInt32 >>> ((2 : Int32) &&& 31).toUInt32).toInt32) &&& (858993459 : Int32))))] [])) _
    refine XS.iloadN X0.here hx rfl (hb hby d16_24) rfl ?_
    show Steps p.tables e below (s₁.setTop (mkF m 25 #[.val (.int (((p0 - (((p0.toUInt32 >>> ((1 : Int32) &&& 31).toUInt32).toInt32) &&& (1431655765 : Int32))) &&& (858993459 : Int32)) + ((((p0 - (((p0.toUInt32 >>> ((1 : Int32) &&& 31).toUInt32).toInt32) &&& (1431655765 : Int32))).toUInt32 >>> ((2 : Int32) &&& 31).toUInt32).toInt32) &&& (858993459 : Int32))))] [(.int (((p0 - (((p0.toUInt32 >>> ((1 : Int32) &&& 31).toUInt32).toInt32) &&& (1431655765 : Int32))) &&& (858993459 : Int32)) + ((((p0 - (((p0.toUInt32 >>> ((1 : Int32) &&& 31).toUInt32).toInt32) &&& (1431655765 : Int32))).toUInt32 >>> ((2 : Int32) &&& 31).toUInt32).toInt32) &&& (858993459 : Int32))))])) _
    refine XS.iloadN X0.here hx rfl (hb hby d16_25) rfl ?_
    show Steps p.tables e below (s₁.setTop (mkF m 26 #[.val (.int (((p0 - (((p0.toUInt32 >>> ((1 : Int32) &&& 31).toUInt32).toInt32) &&& (1431655765 : Int32))) &&& (858993459 : Int32)) + ((((p0 - (((p0.toUInt32 >>> ((1 : Int32) &&& 31).toUInt32).toInt32) &&& (1431655765 : Int32))).toUInt32 >>> ((2 : Int32) &&& 31).toUInt32).toInt32) &&& (858993459 : Int32))))] [(.int (((p0 - (((p0.toUInt32 >>> ((1 : Int32) &&& 31).toUInt32).toInt32) &&& (1431655765 : Int32))) &&& (858993459 : Int32)) + ((((p0 - (((p0.toUInt32 >>> ((1 : Int32) &&& 31).toUInt32).toInt32) &&& (1431655765 : Int32))).toUInt32 >>> ((2 : Int32) &&& 31).toUInt32).toInt32) &&& (858993459 : Int32)))), (.int (((p0 - (((p0.toUInt32 >>> ((1 : Int32) &&& 31).toUInt32).toInt32) &&& (1431655765 : Int32))) &&& (858993459 : Int32)) + ((((p0 - (((p0.toUInt32 >>> ((1 : Int32) &&& 31).toUInt32).toInt32) &&& (1431655765 : Int32))).toUInt32 >>> ((2 : Int32) &&& 31).toUInt32).toInt32) &&& (858993459 : Int32))))])) _
    refine XS.iconst X0.here hx rfl (hb hby d16_26) ?_
    show Steps p.tables e below (s₁.setTop (mkF m 27 #[.val (.int (((p0 - (((p0.toUInt32 >>> ((1 : Int32) &&& 31).toUInt32).toInt32) &&& (1431655765 : Int32))) &&& (858993459 : Int32)) + ((((p0 - (((p0.toUInt32 >>> ((1 : Int32) &&& 31).toUInt32).toInt32) &&& (1431655765 : Int32))).toUInt32 >>> ((2 : Int32) &&& 31).toUInt32).toInt32) &&& (858993459 : Int32))))] [(.int (4 : Int32)), (.int (((p0 - (((p0.toUInt32 >>> ((1 : Int32) &&& 31).toUInt32).toInt32) &&& (1431655765 : Int32))) &&& (858993459 : Int32)) + ((((p0 - (((p0.toUInt32 >>> ((1 : Int32) &&& 31).toUInt32).toInt32) &&& (1431655765 : Int32))).toUInt32 >>> ((2 : Int32) &&& 31).toUInt32).toInt32) &&& (858993459 : Int32)))), (.int (((p0 - (((p0.toUInt32 >>> ((1 : Int32) &&& 31).toUInt32).toInt32) &&& (1431655765 : Int32))) &&& (858993459 : Int32)) + ((((p0 - (((p0.toUInt32 >>> ((1 : Int32) &&& 31).toUInt32).toInt32) &&& (1431655765 : Int32))).toUInt32 >>> ((2 : Int32) &&& 31).toUInt32).toInt32) &&& (858993459 : Int32))))])) _
    refine XS.iushr X0.here hx rfl (hb hby d16_27) rfl ?_
    show Steps p.tables e below (s₁.setTop (mkF m 28 #[.val (.int (((p0 - (((p0.toUInt32 >>> ((1 : Int32) &&& 31).toUInt32).toInt32) &&& (1431655765 : Int32))) &&& (858993459 : Int32)) + ((((p0 - (((p0.toUInt32 >>> ((1 : Int32) &&& 31).toUInt32).toInt32) &&& (1431655765 : Int32))).toUInt32 >>> ((2 : Int32) &&& 31).toUInt32).toInt32) &&& (858993459 : Int32))))] [(.int (((((p0 - (((p0.toUInt32 >>> ((1 : Int32) &&& 31).toUInt32).toInt32) &&& (1431655765 : Int32))) &&& (858993459 : Int32)) + ((((p0 - (((p0.toUInt32 >>> ((1 : Int32) &&& 31).toUInt32).toInt32) &&& (1431655765 : Int32))).toUInt32 >>> ((2 : Int32) &&& 31).toUInt32).toInt32) &&& (858993459 : Int32))).toUInt32 >>> ((4 : Int32) &&& 31).toUInt32).toInt32)), (.int (((p0 - (((p0.toUInt32 >>> ((1 : Int32) &&& 31).toUInt32).toInt32) &&& (1431655765 : Int32))) &&& (858993459 : Int32)) + ((((p0 - (((p0.toUInt32 >>> ((1 : Int32) &&& 31).toUInt32).toInt32) &&& (1431655765 : Int32))).toUInt32 >>> ((2 : Int32) &&& 31).toUInt32).toInt32) &&& (858993459 : Int32))))])) _
    refine XS.iadd X0.here hx rfl (hb hby d16_28) rfl ?_
    show Steps p.tables e below (s₁.setTop (mkF m 29 #[.val (.int (((p0 - (((p0.toUInt32 >>> ((1 : Int32) &&& 31).toUInt32).toInt32) &&& (1431655765 : Int32))) &&& (858993459 : Int32)) + ((((p0 - (((p0.toUInt32 >>> ((1 : Int32) &&& 31).toUInt32).toInt32) &&& (1431655765 : Int32))).toUInt32 >>> ((2 : Int32) &&& 31).toUInt32).toInt32) &&& (858993459 : Int32))))] [(.int ((((p0 - (((p0.toUInt32 >>> ((1 : Int32) &&& 31).toUInt32).toInt32) &&& (1431655765 : Int32))) &&& (858993459 : Int32)) + ((((p0 - (((p0.toUInt32 >>> ((1 : Int32) &&& 31).toUInt32).toInt32) &&& (1431655765 : Int32))).toUInt32 >>> ((2 : Int32) &&& 31).toUInt32).toInt32) &&& (858993459 : Int32))) + (((((p0 - (((p0.toUInt32 >>> ((1 : Int32) &&& 31).toUInt32).toInt32) &&& (1431655765 : Int32))) &&& (858993459 : Int32)) + ((((p0 - (((p0.toUInt32 >>> ((1 : Int32) &&& 31).toUInt32).toInt32) &&& (1431655765 : Int32))).toUInt32 >>> ((2 : Int32) &&& 31).toUInt32).toInt32) &&& (858993459 : Int32))).toUInt32 >>> ((4 : Int32) &&& 31).toUInt32).toInt32)))])) _
    refine X0.ldcwInt hx hown (mvT hZ (hw _ (List.mem_of_getElem? (i := 99) rfl))) (g := (mkF m 29 #[.val (.int (((p0 - (((p0.toUInt32 >>> ((1 : Int32) &&& 31).toUInt32).toInt32) &&& (1431655765 : Int32))) &&& (858993459 : Int32)) + ((((p0 - (((p0.toUInt32 >>> ((1 : Int32) &&& 31).toUInt32).toInt32) &&& (1431655765 : Int32))).toUInt32 >>> ((2 : Int32) &&& 31).toUInt32).toInt32) &&& (858993459 : Int32))))] [(.int ((((p0 - (((p0.toUInt32 >>> ((1 : Int32) &&& 31).toUInt32).toInt32) &&& (1431655765 : Int32))) &&& (858993459 : Int32)) + ((((p0 - (((p0.toUInt32 >>> ((1 : Int32) &&& 31).toUInt32).toInt32) &&& (1431655765 : Int32))).toUInt32 >>> ((2 : Int32) &&& 31).toUInt32).toInt32) &&& (858993459 : Int32))) + (((((p0 - (((p0.toUInt32 >>> ((1 : Int32) &&& 31).toUInt32).toInt32) &&& (1431655765 : Int32))) &&& (858993459 : Int32)) + ((((p0 - (((p0.toUInt32 >>> ((1 : Int32) &&& 31).toUInt32).toInt32) &&& (1431655765 : Int32))).toUInt32 >>> ((2 : Int32) &&& 31).toUInt32).toInt32) &&& (858993459 : Int32))).toUInt32 >>> ((4 : Int32) &&& 31).toUInt32).toInt32)))])) rfl (hb hby d16_29) _ ?_
    show Steps p.tables e below (s₁.setTop (mkF m 32 #[.val (.int (((p0 - (((p0.toUInt32 >>> ((1 : Int32) &&& 31).toUInt32).toInt32) &&& (1431655765 : Int32))) &&& (858993459 : Int32)) + ((((p0 - (((p0.toUInt32 >>> ((1 : Int32) &&& 31).toUInt32).toInt32) &&& (1431655765 : Int32))).toUInt32 >>> ((2 : Int32) &&& 31).toUInt32).toInt32) &&& (858993459 : Int32))))] [(.int (252645135 : Int32)), (.int ((((p0 - (((p0.toUInt32 >>> ((1 : Int32) &&& 31).toUInt32).toInt32) &&& (1431655765 : Int32))) &&& (858993459 : Int32)) + ((((p0 - (((p0.toUInt32 >>> ((1 : Int32) &&& 31).toUInt32).toInt32) &&& (1431655765 : Int32))).toUInt32 >>> ((2 : Int32) &&& 31).toUInt32).toInt32) &&& (858993459 : Int32))) + (((((p0 - (((p0.toUInt32 >>> ((1 : Int32) &&& 31).toUInt32).toInt32) &&& (1431655765 : Int32))) &&& (858993459 : Int32)) + ((((p0 - (((p0.toUInt32 >>> ((1 : Int32) &&& 31).toUInt32).toInt32) &&& (1431655765 : Int32))).toUInt32 >>> ((2 : Int32) &&& 31).toUInt32).toInt32) &&& (858993459 : Int32))).toUInt32 >>> ((4 : Int32) &&& 31).toUInt32).toInt32)))])) _
    refine XS.iand X0.here hx rfl (hb hby d16_32) rfl ?_
    show Steps p.tables e below (s₁.setTop (mkF m 33 #[.val (.int (((p0 - (((p0.toUInt32 >>> ((1 : Int32) &&& 31).toUInt32).toInt32) &&& (1431655765 : Int32))) &&& (858993459 : Int32)) + ((((p0 - (((p0.toUInt32 >>> ((1 : Int32) &&& 31).toUInt32).toInt32) &&& (1431655765 : Int32))).toUInt32 >>> ((2 : Int32) &&& 31).toUInt32).toInt32) &&& (858993459 : Int32))))] [(.int (((((p0 - (((p0.toUInt32 >>> ((1 : Int32) &&& 31).toUInt32).toInt32) &&& (1431655765 : Int32))) &&& (858993459 : Int32)) + ((((p0 - (((p0.toUInt32 >>> ((1 : Int32) &&& 31).toUInt32).toInt32) &&& (1431655765 : Int32))).toUInt32 >>> ((2 : Int32) &&& 31).toUInt32).toInt32) &&& (858993459 : Int32))) + (((((p0 - (((p0.toUInt32 >>> ((1 : Int32) &&& 31).toUInt32).toInt32) &&& (1431655765 : Int32))) &&& (858993459 : Int32)) + ((((p0 - (((p0.toUInt32 >>> ((1 : Int32) &&& 31).toUInt32).toInt32) &&& (1431655765 : Int32))).toUInt32 >>> ((2 : Int32) &&& 31).toUInt32).toInt32) &&& (858993459 : Int32))).toUInt32 >>> ((4 : Int32) &&& 31).toUInt32).toInt32)) &&& (252645135 : Int32)))])) _
    refine XS.istoreN X0.here hx rfl (hb hby d16_33) rfl (l' := #[.val (.int (((((p0 - (((p0.toUInt32 >>> ((1 : Int32) &&& 31).toUInt32).toInt32) &&& (1431655765 : Int32))) &&& (858993459 : Int32)) + ((((p0 - (((p0.toUInt32 >>> ((1 : Int32) &&& 31).toUInt32).toInt32) &&& (1431655765 : Int32))).toUInt32 >>> ((2 : Int32) &&& 31).toUInt32).toInt32) &&& (858993459 : Int32))) + (((((p0 - (((p0.toUInt32 >>> ((1 : Int32) &&& 31).toUInt32).toInt32) &&& (1431655765 : Int32))) &&& (858993459 : Int32)) + ((((p0 - (((p0.toUInt32 >>> ((1 : Int32) &&& 31).toUInt32).toInt32) &&& (1431655765 : Int32))).toUInt32 >>> ((2 : Int32) &&& 31).toUInt32).toInt32) &&& (858993459 : Int32))).toUInt32 >>> ((4 : Int32) &&& 31).toUInt32).toInt32)) &&& (252645135 : Int32)))]) rfl ?_
    show Steps p.tables e below (s₁.setTop (mkF m 34 #[.val (.int (((((p0 - (((p0.toUInt32 >>> ((1 : Int32) &&& 31).toUInt32).toInt32) &&& (1431655765 : Int32))) &&& (858993459 : Int32)) + ((((p0 - (((p0.toUInt32 >>> ((1 : Int32) &&& 31).toUInt32).toInt32) &&& (1431655765 : Int32))).toUInt32 >>> ((2 : Int32) &&& 31).toUInt32).toInt32) &&& (858993459 : Int32))) + (((((p0 - (((p0.toUInt32 >>> ((1 : Int32) &&& 31).toUInt32).toInt32) &&& (1431655765 : Int32))) &&& (858993459 : Int32)) + ((((p0 - (((p0.toUInt32 >>> ((1 : Int32) &&& 31).toUInt32).toInt32) &&& (1431655765 : Int32))).toUInt32 >>> ((2 : Int32) &&& 31).toUInt32).toInt32) &&& (858993459 : Int32))).toUInt32 >>> ((4 : Int32) &&& 31).toUInt32).toInt32)) &&& (252645135 : Int32)))] [])) _
    refine XS.iloadN X0.here hx rfl (hb hby d16_34) rfl ?_
    show Steps p.tables e below (s₁.setTop (mkF m 35 #[.val (.int (((((p0 - (((p0.toUInt32 >>> ((1 : Int32) &&& 31).toUInt32).toInt32) &&& (1431655765 : Int32))) &&& (858993459 : Int32)) + ((((p0 - (((p0.toUInt32 >>> ((1 : Int32) &&& 31).toUInt32).toInt32) &&& (1431655765 : Int32))).toUInt32 >>> ((2 : Int32) &&& 31).toUInt32).toInt32) &&& (858993459 : Int32))) + (((((p0 - (((p0.toUInt32 >>> ((1 : Int32) &&& 31).toUInt32).toInt32) &&& (1431655765 : Int32))) &&& (858993459 : Int32)) + ((((p0 - (((p0.toUInt32 >>> ((1 : Int32) &&& 31).toUInt32).toInt32) &&& (1431655765 : Int32))).toUInt32 >>> ((2 : Int32) &&& 31).toUInt32).toInt32) &&& (858993459 : Int32))).toUInt32 >>> ((4 : Int32) &&& 31).toUInt32).toInt32)) &&& (252645135 : Int32)))] [(.int (((((p0 - (((p0.toUInt32 >>> ((1 : Int32) &&& 31).toUInt32).toInt32) &&& (1431655765 : Int32))) &&& (858993459 : Int32)) + ((((p0 - (((p0.toUInt32 >>> ((1 : Int32) &&& 31).toUInt32).toInt32) &&& (1431655765 : Int32))).toUInt32 >>> ((2 : Int32) &&& 31).toUInt32).toInt32) &&& (858993459 : Int32))) + (((((p0 - (((p0.toUInt32 >>> ((1 : Int32) &&& 31).toUInt32).toInt32) &&& (1431655765 : Int32))) &&& (858993459 : Int32)) + ((((p0 - (((p0.toUInt32 >>> ((1 : Int32) &&& 31).toUInt32).toInt32) &&& (1431655765 : Int32))).toUInt32 >>> ((2 : Int32) &&& 31).toUInt32).toInt32) &&& (858993459 : Int32))).toUInt32 >>> ((4 : Int32) &&& 31).toUInt32).toInt32)) &&& (252645135 : Int32)))])) _
    refine XS.iloadN X0.here hx rfl (hb hby d16_35) rfl ?_
    show Steps p.tables e below (s₁.setTop (mkF m 36 #[.val (.int (((((p0 - (((p0.toUInt32 >>> ((1 : Int32) &&& 31).toUInt32).toInt32) &&& (1431655765 : Int32))) &&& (858993459 : Int32)) + ((((p0 - (((p0.toUInt32 >>> ((1 : Int32) &&& 31).toUInt32).toInt32) &&& (1431655765 : Int32))).toUInt32 >>> ((2 : Int32) &&& 31).toUInt32).toInt32) &&& (858993459 : Int32))) + (((((p0 - (((p0.toUInt32 >>> ((1 : Int32) &&& 31).toUInt32).toInt32) &&& (1431655765 : Int32))) &&& (858993459 : Int32)) + ((((p0 - (((p0.toUInt32 >>> ((1 : Int32) &&& 31).toUInt32).toInt32) &&& (1431655765 : Int32))).toUInt32 >>> ((2 : Int32) &&& 31).toUInt32).toInt32) &&& (858993459 : Int32))).toUInt32 >>> ((4 : Int32) &&& 31).toUInt32).toInt32)) &&& (252645135 : Int32)))] [(.int (((((p0 - (((p0.toUInt32 >>> ((1 : Int32) &&& 31).toUInt32).toInt32) &&& (1431655765 : Int32))) &&& (858993459 : Int32)) + ((((p0 - (((p0.toUInt32 >>> ((1 : Int32) &&& 31).toUInt32).toInt32) &&& (1431655765 : Int32))).toUInt32 >>> ((2 : Int32) &&& 31).toUInt32).toInt32) &&& (858993459 : Int32))) + (((((p0 - (((p0.toUInt32 >>> ((1 : Int32) &&& 31).toUInt32).toInt32) &&& (1431655765 : Int32))) &&& (858993459 : Int32)) + ((((p0 - (((p0.toUInt32 >>> ((1 : Int32) &&& 31).toUInt32).toInt32) &&& (1431655765 : Int32))).toUInt32 >>> ((2 : Int32) &&& 31).toUInt32).toInt32) &&& (858993459 : Int32))).toUInt32 >>> ((4 : Int32) &&& 31).toUInt32).toInt32)) &&& (252645135 : Int32))), (.int (((((p0 - (((p0.toUInt32 >>> ((1 : Int32) &&& 31).toUInt32).toInt32) &&& (1431655765 : Int32))) &&& (858993459 : Int32)) + ((((p0 - (((p0.toUInt32 >>> ((1 : Int32) &&& 31).toUInt32).toInt32) &&& (1431655765 : Int32))).toUInt32 >>> ((2 : Int32) &&& 31).toUInt32).toInt32) &&& (858993459 : Int32))) + (((((p0 - (((p0.toUInt32 >>> ((1 : Int32) &&& 31).toUInt32).toInt32) &&& (1431655765 : Int32))) &&& (858993459 : Int32)) + ((((p0 - (((p0.toUInt32 >>> ((1 : Int32) &&& 31).toUInt32).toInt32) &&& (1431655765 : Int32))).toUInt32 >>> ((2 : Int32) &&& 31).toUInt32).toInt32) &&& (858993459 : Int32))).toUInt32 >>> ((4 : Int32) &&& 31).toUInt32).toInt32)) &&& (252645135 : Int32)))])) _
    refine XS.bipush X0.here hx rfl (hb hby d16_36) ?_
    show Steps p.tables e below (s₁.setTop (mkF m 38 #[.val (.int (((((p0 - (((p0.toUInt32 >>> ((1 : Int32) &&& 31).toUInt32).toInt32) &&& (1431655765 : Int32))) &&& (858993459 : Int32)) + ((((p0 - (((p0.toUInt32 >>> ((1 : Int32) &&& 31).toUInt32).toInt32) &&& (1431655765 : Int32))).toUInt32 >>> ((2 : Int32) &&& 31).toUInt32).toInt32) &&& (858993459 : Int32))) + (((((p0 - (((p0.toUInt32 >>> ((1 : Int32) &&& 31).toUInt32).toInt32) &&& (1431655765 : Int32))) &&& (858993459 : Int32)) + ((((p0 - (((p0.toUInt32 >>> ((1 : Int32) &&& 31).toUInt32).toInt32) &&& (1431655765 : Int32))).toUInt32 >>> ((2 : Int32) &&& 31).toUInt32).toInt32) &&& (858993459 : Int32))).toUInt32 >>> ((4 : Int32) &&& 31).toUInt32).toInt32)) &&& (252645135 : Int32)))] [(.int (8 : Int32)), (.int (((((p0 - (((p0.toUInt32 >>> ((1 : Int32) &&& 31).toUInt32).toInt32) &&& (1431655765 : Int32))) &&& (858993459 : Int32)) + ((((p0 - (((p0.toUInt32 >>> ((1 : Int32) &&& 31).toUInt32).toInt32) &&& (1431655765 : Int32))).toUInt32 >>> ((2 : Int32) &&& 31).toUInt32).toInt32) &&& (858993459 : Int32))) + (((((p0 - (((p0.toUInt32 >>> ((1 : Int32) &&& 31).toUInt32).toInt32) &&& (1431655765 : Int32))) &&& (858993459 : Int32)) + ((((p0 - (((p0.toUInt32 >>> ((1 : Int32) &&& 31).toUInt32).toInt32) &&& (1431655765 : Int32))).toUInt32 >>> ((2 : Int32) &&& 31).toUInt32).toInt32) &&& (858993459 : Int32))).toUInt32 >>> ((4 : Int32) &&& 31).toUInt32).toInt32)) &&& (252645135 : Int32))), (.int (((((p0 - (((p0.toUInt32 >>> ((1 : Int32) &&& 31).toUInt32).toInt32) &&& (1431655765 : Int32))) &&& (858993459 : Int32)) + ((((p0 - (((p0.toUInt32 >>> ((1 : Int32) &&& 31).toUInt32).toInt32) &&& (1431655765 : Int32))).toUInt32 >>> ((2 : Int32) &&& 31).toUInt32).toInt32) &&& (858993459 : Int32))) + (((((p0 - (((p0.toUInt32 >>> ((1 : Int32) &&& 31).toUInt32).toInt32) &&& (1431655765 : Int32))) &&& (858993459 : Int32)) + ((((p0 - (((p0.toUInt32 >>> ((1 : Int32) &&& 31).toUInt32).toInt32) &&& (1431655765 : Int32))).toUInt32 >>> ((2 : Int32) &&& 31).toUInt32).toInt32) &&& (858993459 : Int32))).toUInt32 >>> ((4 : Int32) &&& 31).toUInt32).toInt32)) &&& (252645135 : Int32)))])) _
    refine XS.iushr X0.here hx rfl (hb hby d16_38) rfl ?_
    show Steps p.tables e below (s₁.setTop (mkF m 39 #[.val (.int (((((p0 - (((p0.toUInt32 >>> ((1 : Int32) &&& 31).toUInt32).toInt32) &&& (1431655765 : Int32))) &&& (858993459 : Int32)) + ((((p0 - (((p0.toUInt32 >>> ((1 : Int32) &&& 31).toUInt32).toInt32) &&& (1431655765 : Int32))).toUInt32 >>> ((2 : Int32) &&& 31).toUInt32).toInt32) &&& (858993459 : Int32))) + (((((p0 - (((p0.toUInt32 >>> ((1 : Int32) &&& 31).toUInt32).toInt32) &&& (1431655765 : Int32))) &&& (858993459 : Int32)) + ((((p0 - (((p0.toUInt32 >>> ((1 : Int32) &&& 31).toUInt32).toInt32) &&& (1431655765 : Int32))).toUInt32 >>> ((2 : Int32) &&& 31).toUInt32).toInt32) &&& (858993459 : Int32))).toUInt32 >>> ((4 : Int32) &&& 31).toUInt32).toInt32)) &&& (252645135 : Int32)))] [(.int (((((((p0 - (((p0.toUInt32 >>> ((1 : Int32) &&& 31).toUInt32).toInt32) &&& (1431655765 : Int32))) &&& (858993459 : Int32)) + ((((p0 - (((p0.toUInt32 >>> ((1 : Int32) &&& 31).toUInt32).toInt32) &&& (1431655765 : Int32))).toUInt32 >>> ((2 : Int32) &&& 31).toUInt32).toInt32) &&& (858993459 : Int32))) + (((((p0 - (((p0.toUInt32 >>> ((1 : Int32) &&& 31).toUInt32).toInt32) &&& (1431655765 : Int32))) &&& (858993459 : Int32)) + ((((p0 - (((p0.toUInt32 >>> ((1 : Int32) &&& 31).toUInt32).toInt32) &&& (1431655765 : Int32))).toUInt32 >>> ((2 : Int32) &&& 31).toUInt32).toInt32) &&& (858993459 : Int32))).toUInt32 >>> ((4 : Int32) &&& 31).toUInt32).toInt32)) &&& (252645135 : Int32)).toUInt32 >>> ((8 : Int32) &&& 31).toUInt32).toInt32)), (.int (((((p0 - (((p0.toUInt32 >>> ((1 : Int32) &&& 31).toUInt32).toInt32) &&& (1431655765 : Int32))) &&& (858993459 : Int32)) + ((((p0 - (((p0.toUInt32 >>> ((1 : Int32) &&& 31).toUInt32).toInt32) &&& (1431655765 : Int32))).toUInt32 >>> ((2 : Int32) &&& 31).toUInt32).toInt32) &&& (858993459 : Int32))) + (((((p0 - (((p0.toUInt32 >>> ((1 : Int32) &&& 31).toUInt32).toInt32) &&& (1431655765 : Int32))) &&& (858993459 : Int32)) + ((((p0 - (((p0.toUInt32 >>> ((1 : Int32) &&& 31).toUInt32).toInt32) &&& (1431655765 : Int32))).toUInt32 >>> ((2 : Int32) &&& 31).toUInt32).toInt32) &&& (858993459 : Int32))).toUInt32 >>> ((4 : Int32) &&& 31).toUInt32).toInt32)) &&& (252645135 : Int32)))])) _
    refine XS.iadd X0.here hx rfl (hb hby d16_39) rfl ?_
    show Steps p.tables e below (s₁.setTop (mkF m 40 #[.val (.int (((((p0 - (((p0.toUInt32 >>> ((1 : Int32) &&& 31).toUInt32).toInt32) &&& (1431655765 : Int32))) &&& (858993459 : Int32)) + ((((p0 - (((p0.toUInt32 >>> ((1 : Int32) &&& 31).toUInt32).toInt32) &&& (1431655765 : Int32))).toUInt32 >>> ((2 : Int32) &&& 31).toUInt32).toInt32) &&& (858993459 : Int32))) + (((((p0 - (((p0.toUInt32 >>> ((1 : Int32) &&& 31).toUInt32).toInt32) &&& (1431655765 : Int32))) &&& (858993459 : Int32)) + ((((p0 - (((p0.toUInt32 >>> ((1 : Int32) &&& 31).toUInt32).toInt32) &&& (1431655765 : Int32))).toUInt32 >>> ((2 : Int32) &&& 31).toUInt32).toInt32) &&& (858993459 : Int32))).toUInt32 >>> ((4 : Int32) &&& 31).toUInt32).toInt32)) &&& (252645135 : Int32)))] [(.int ((((((p0 - (((p0.toUInt32 >>> ((1 : Int32) &&& 31).toUInt32).toInt32) &&& (1431655765 : Int32))) &&& (858993459 : Int32)) + ((((p0 - (((p0.toUInt32 >>> ((1 : Int32) &&& 31).toUInt32).toInt32) &&& (1431655765 : Int32))).toUInt32 >>> ((2 : Int32) &&& 31).toUInt32).toInt32) &&& (858993459 : Int32))) + (((((p0 - (((p0.toUInt32 >>> ((1 : Int32) &&& 31).toUInt32).toInt32) &&& (1431655765 : Int32))) &&& (858993459 : Int32)) + ((((p0 - (((p0.toUInt32 >>> ((1 : Int32) &&& 31).toUInt32).toInt32) &&& (1431655765 : Int32))).toUInt32 >>> ((2 : Int32) &&& 31).toUInt32).toInt32) &&& (858993459 : Int32))).toUInt32 >>> ((4 : Int32) &&& 31).toUInt32).toInt32)) &&& (252645135 : Int32)) + (((((((p0 - (((p0.toUInt32 >>> ((1 : Int32) &&& 31).toUInt32).toInt32) &&& (1431655765 : Int32))) &&& (858993459 : Int32)) + ((((p0 - (((p0.toUInt32 >>> ((1 : Int32) &&& 31).toUInt32).toInt32) &&& (1431655765 : Int32))).toUInt32 >>> ((2 : Int32) &&& 31).toUInt32).toInt32) &&& (858993459 : Int32))) + (((((p0 - (((p0.toUInt32 >>> ((1 : Int32) &&& 31).toUInt32).toInt32) &&& (1431655765 : Int32))) &&& (858993459 : Int32)) + ((((p0 - (((p0.toUInt32 >>> ((1 : Int32) &&& 31).toUInt32).toInt32) &&& (1431655765 : Int32))).toUInt32 >>> ((2 : Int32) &&& 31).toUInt32).toInt32) &&& (858993459 : Int32))).toUInt32 >>> ((4 : Int32) &&& 31).toUInt32).toInt32)) &&& (252645135 : Int32)).toUInt32 >>> ((8 : Int32) &&& 31).toUInt32).toInt32)))])) _
    refine XS.istoreN X0.here hx rfl (hb hby d16_40) rfl (l' := #[.val (.int ((((((p0 - (((p0.toUInt32 >>> ((1 : Int32) &&& 31).toUInt32).toInt32) &&& (1431655765 : Int32))) &&& (858993459 : Int32)) + ((((p0 - (((p0.toUInt32 >>> ((1 : Int32) &&& 31).toUInt32).toInt32) &&& (1431655765 : Int32))).toUInt32 >>> ((2 : Int32) &&& 31).toUInt32).toInt32) &&& (858993459 : Int32))) + (((((p0 - (((p0.toUInt32 >>> ((1 : Int32) &&& 31).toUInt32).toInt32) &&& (1431655765 : Int32))) &&& (858993459 : Int32)) + ((((p0 - (((p0.toUInt32 >>> ((1 : Int32) &&& 31).toUInt32).toInt32) &&& (1431655765 : Int32))).toUInt32 >>> ((2 : Int32) &&& 31).toUInt32).toInt32) &&& (858993459 : Int32))).toUInt32 >>> ((4 : Int32) &&& 31).toUInt32).toInt32)) &&& (252645135 : Int32)) + (((((((p0 - (((p0.toUInt32 >>> ((1 : Int32) &&& 31).toUInt32).toInt32) &&& (1431655765 : Int32))) &&& (858993459 : Int32)) + ((((p0 - (((p0.toUInt32 >>> ((1 : Int32) &&& 31).toUInt32).toInt32) &&& (1431655765 : Int32))).toUInt32 >>> ((2 : Int32) &&& 31).toUInt32).toInt32) &&& (858993459 : Int32))) + (((((p0 - (((p0.toUInt32 >>> ((1 : Int32) &&& 31).toUInt32).toInt32) &&& (1431655765 : Int32))) &&& (858993459 : Int32)) + ((((p0 - (((p0.toUInt32 >>> ((1 : Int32) &&& 31).toUInt32).toInt32) &&& (1431655765 : Int32))).toUInt32 >>> ((2 : Int32) &&& 31).toUInt32).toInt32) &&& (858993459 : Int32))).toUInt32 >>> ((4 : Int32) &&& 31).toUInt32).toInt32)) &&& (252645135 : Int32)).toUInt32 >>> ((8 : Int32) &&& 31).toUInt32).toInt32)))]) rfl ?_
    show Steps p.tables e below (s₁.setTop (mkF m 41 #[.val (.int ((((((p0 - (((p0.toUInt32 >>> ((1 : Int32) &&& 31).toUInt32).toInt32) &&& (1431655765 : Int32))) &&& (858993459 : Int32)) + ((((p0 - (((p0.toUInt32 >>> ((1 : Int32) &&& 31).toUInt32).toInt32) &&& (1431655765 : Int32))).toUInt32 >>> ((2 : Int32) &&& 31).toUInt32).toInt32) &&& (858993459 : Int32))) + (((((p0 - (((p0.toUInt32 >>> ((1 : Int32) &&& 31).toUInt32).toInt32) &&& (1431655765 : Int32))) &&& (858993459 : Int32)) + ((((p0 - (((p0.toUInt32 >>> ((1 : Int32) &&& 31).toUInt32).toInt32) &&& (1431655765 : Int32))).toUInt32 >>> ((2 : Int32) &&& 31).toUInt32).toInt32) &&& (858993459 : Int32))).toUInt32 >>> ((4 : Int32) &&& 31).toUInt32).toInt32)) &&& (252645135 : Int32)) + (((((((p0 - (((p0.toUInt32 >>> ((1 : Int32) &&& 31).toUInt32).toInt32) &&& (1431655765 : Int32))) &&& (858993459 : Int32)) + ((((p0 - (((p0.toUInt32 >>> ((1 : Int32) &&& 31).toUInt32).toInt32) &&& (1431655765 : Int32))).toUInt32 >>> ((2 : Int32) &&& 31).toUInt32).toInt32) &&& (858993459 : Int32))) + (((((p0 - (((p0.toUInt32 >>> ((1 : Int32) &&& 31).toUInt32).toInt32) &&& (1431655765 : Int32))) &&& (858993459 : Int32)) + ((((p0 - (((p0.toUInt32 >>> ((1 : Int32) &&& 31).toUInt32).toInt32) &&& (1431655765 : Int32))).toUInt32 >>> ((2 : Int32) &&& 31).toUInt32).toInt32) &&& (858993459 : Int32))).toUInt32 >>> ((4 : Int32) &&& 31).toUInt32).toInt32)) &&& (252645135 : Int32)).toUInt32 >>> ((8 : Int32) &&& 31).toUInt32).toInt32)))] [])) _
    refine XS.iloadN X0.here hx rfl (hb hby d16_41) rfl ?_
    show Steps p.tables e below (s₁.setTop (mkF m 42 #[.val (.int ((((((p0 - (((p0.toUInt32 >>> ((1 : Int32) &&& 31).toUInt32).toInt32) &&& (1431655765 : Int32))) &&& (858993459 : Int32)) + ((((p0 - (((p0.toUInt32 >>> ((1 : Int32) &&& 31).toUInt32).toInt32) &&& (1431655765 : Int32))).toUInt32 >>> ((2 : Int32) &&& 31).toUInt32).toInt32) &&& (858993459 : Int32))) + (((((p0 - (((p0.toUInt32 >>> ((1 : Int32) &&& 31).toUInt32).toInt32) &&& (1431655765 : Int32))) &&& (858993459 : Int32)) + ((((p0 - (((p0.toUInt32 >>> ((1 : Int32) &&& 31).toUInt32).toInt32) &&& (1431655765 : Int32))).toUInt32 >>> ((2 : Int32) &&& 31).toUInt32).toInt32) &&& (858993459 : Int32))).toUInt32 >>> ((4 : Int32) &&& 31).toUInt32).toInt32)) &&& (252645135 : Int32)) + (((((((p0 - (((p0.toUInt32 >>> ((1 : Int32) &&& 31).toUInt32).toInt32) &&& (1431655765 : Int32))) &&& (858993459 : Int32)) + ((((p0 - (((p0.toUInt32 >>> ((1 : Int32) &&& 31).toUInt32).toInt32) &&& (1431655765 : Int32))).toUInt32 >>> ((2 : Int32) &&& 31).toUInt32).toInt32) &&& (858993459 : Int32))) + (((((p0 - (((p0.toUInt32 >>> ((1 : Int32) &&& 31).toUInt32).toInt32) &&& (1431655765 : Int32))) &&& (858993459 : Int32)) + ((((p0 - (((p0.toUInt32 >>> ((1 : Int32) &&& 31).toUInt32).toInt32) &&& (1431655765 : Int32))).toUInt32 >>> ((2 : Int32) &&& 31).toUInt32).toInt32) &&& (858993459 : Int32))).toUInt32 >>> ((4 : Int32) &&& 31).toUInt32).toInt32)) &&& (252645135 : Int32)).toUInt32 >>> ((8 : Int32) &&& 31).toUInt32).toInt32)))] [(.int ((((((p0 - (((p0.toUInt32 >>> ((1 : Int32) &&& 31).toUInt32).toInt32) &&& (1431655765 : Int32))) &&& (858993459 : Int32)) + ((((p0 - (((p0.toUInt32 >>> ((1 : Int32) &&& 31).toUInt32).toInt32) &&& (1431655765 : Int32))).toUInt32 >>> ((2 : Int32) &&& 31).toUInt32).toInt32) &&& (858993459 : Int32))) + (((((p0 - (((p0.toUInt32 >>> ((1 : Int32) &&& 31).toUInt32).toInt32) &&& (1431655765 : Int32))) &&& (858993459 : Int32)) + ((((p0 - (((p0.toUInt32 >>> ((1 : Int32) &&& 31).toUInt32).toInt32) &&& (1431655765 : Int32))).toUInt32 >>> ((2 : Int32) &&& 31).toUInt32).toInt32) &&& (858993459 : Int32))).toUInt32 >>> ((4 : Int32) &&& 31).toUInt32).toInt32)) &&& (252645135 : Int32)) + (((((((p0 - (((p0.toUInt32 >>> ((1 : Int32) &&& 31).toUInt32).toInt32) &&& (1431655765 : Int32))) &&& (858993459 : Int32)) + ((((p0 - (((p0.toUInt32 >>> ((1 : Int32) &&& 31).toUInt32).toInt32) &&& (1431655765 : Int32))).toUInt32 >>> ((2 : Int32) &&& 31).toUInt32).toInt32) &&& (858993459 : Int32))) + (((((p0 - (((p0.toUInt32 >>> ((1 : Int32) &&& 31).toUInt32).toInt32) &&& (1431655765 : Int32))) &&& (858993459 : Int32)) + ((((p0 - (((p0.toUInt32 >>> ((1 : Int32) &&& 31).toUInt32).toInt32) &&& (1431655765 : Int32))).toUInt32 >>> ((2 : Int32) &&& 31).toUInt32).toInt32) &&& (858993459 : Int32))).toUInt32 >>> ((4 : Int32) &&& 31).toUInt32).toInt32)) &&& (252645135 : Int32)).toUInt32 >>> ((8 : Int32) &&& 31).toUInt32).toInt32)))])) _
    refine XS.iloadN X0.here hx rfl (hb hby d16_42) rfl ?_
    show Steps p.tables e below (s₁.setTop (mkF m 43 #[.val (.int ((((((p0 - (((p0.toUInt32 >>> ((1 : Int32) &&& 31).toUInt32).toInt32) &&& (1431655765 : Int32))) &&& (858993459 : Int32)) + ((((p0 - (((p0.toUInt32 >>> ((1 : Int32) &&& 31).toUInt32).toInt32) &&& (1431655765 : Int32))).toUInt32 >>> ((2 : Int32) &&& 31).toUInt32).toInt32) &&& (858993459 : Int32))) + (((((p0 - (((p0.toUInt32 >>> ((1 : Int32) &&& 31).toUInt32).toInt32) &&& (1431655765 : Int32))) &&& (858993459 : Int32)) + ((((p0 - (((p0.toUInt32 >>> ((1 : Int32) &&& 31).toUInt32).toInt32) &&& (1431655765 : Int32))).toUInt32 >>> ((2 : Int32) &&& 31).toUInt32).toInt32) &&& (858993459 : Int32))).toUInt32 >>> ((4 : Int32) &&& 31).toUInt32).toInt32)) &&& (252645135 : Int32)) + (((((((p0 - (((p0.toUInt32 >>> ((1 : Int32) &&& 31).toUInt32).toInt32) &&& (1431655765 : Int32))) &&& (858993459 : Int32)) + ((((p0 - (((p0.toUInt32 >>> ((1 : Int32) &&& 31).toUInt32).toInt32) &&& (1431655765 : Int32))).toUInt32 >>> ((2 : Int32) &&& 31).toUInt32).toInt32) &&& (858993459 : Int32))) + (((((p0 - (((p0.toUInt32 >>> ((1 : Int32) &&& 31).toUInt32).toInt32) &&& (1431655765 : Int32))) &&& (858993459 : Int32)) + ((((p0 - (((p0.toUInt32 >>> ((1 : Int32) &&& 31).toUInt32).toInt32) &&& (1431655765 : Int32))).toUInt32 >>> ((2 : Int32) &&& 31).toUInt32).toInt32) &&& (858993459 : Int32))).toUInt32 >>> ((4 : Int32) &&& 31).toUInt32).toInt32)) &&& (252645135 : Int32)).toUInt32 >>> ((8 : Int32) &&& 31).toUInt32).toInt32)))] [(.int ((((((p0 - (((p0.toUInt32 >>> ((1 : Int32) &&& 31).toUInt32).toInt32) &&& (1431655765 : Int32))) &&& (858993459 : Int32)) + ((((p0 - (((p0.toUInt32 >>> ((1 : Int32) &&& 31).toUInt32).toInt32) &&& (1431655765 : Int32))).toUInt32 >>> ((2 : Int32) &&& 31).toUInt32).toInt32) &&& (858993459 : Int32))) + (((((p0 - (((p0.toUInt32 >>> ((1 : Int32) &&& 31).toUInt32).toInt32) &&& (1431655765 : Int32))) &&& (858993459 : Int32)) + ((((p0 - (((p0.toUInt32 >>> ((1 : Int32) &&& 31).toUInt32).toInt32) &&& (1431655765 : Int32))).toUInt32 >>> ((2 : Int32) &&& 31).toUInt32).toInt32) &&& (858993459 : Int32))).toUInt32 >>> ((4 : Int32) &&& 31).toUInt32).toInt32)) &&& (252645135 : Int32)) + (((((((p0 - (((p0.toUInt32 >>> ((1 : Int32) &&& 31).toUInt32).toInt32) &&& (1431655765 : Int32))) &&& (858993459 : Int32)) + ((((p0 - (((p0.toUInt32 >>> ((1 : Int32) &&& 31).toUInt32).toInt32) &&& (1431655765 : Int32))).toUInt32 >>> ((2 : Int32) &&& 31).toUInt32).toInt32) &&& (858993459 : Int32))) + (((((p0 - (((p0.toUInt32 >>> ((1 : Int32) &&& 31).toUInt32).toInt32) &&& (1431655765 : Int32))) &&& (858993459 : Int32)) + ((((p0 - (((p0.toUInt32 >>> ((1 : Int32) &&& 31).toUInt32).toInt32) &&& (1431655765 : Int32))).toUInt32 >>> ((2 : Int32) &&& 31).toUInt32).toInt32) &&& (858993459 : Int32))).toUInt32 >>> ((4 : Int32) &&& 31).toUInt32).toInt32)) &&& (252645135 : Int32)).toUInt32 >>> ((8 : Int32) &&& 31).toUInt32).toInt32))), (.int ((((((p0 - (((p0.toUInt32 >>> ((1 : Int32) &&& 31).toUInt32).toInt32) &&& (1431655765 : Int32))) &&& (858993459 : Int32)) + ((((p0 - (((p0.toUInt32 >>> ((1 : Int32) &&& 31).toUInt32).toInt32) &&& (1431655765 : Int32))).toUInt32 >>> ((2 : Int32) &&& 31).toUInt32).toInt32) &&& (858993459 : Int32))) + (((((p0 - (((p0.toUInt32 >>> ((1 : Int32) &&& 31).toUInt32).toInt32) &&& (1431655765 : Int32))) &&& (858993459 : Int32)) + ((((p0 - (((p0.toUInt32 >>> ((1 : Int32) &&& 31).toUInt32).toInt32) &&& (1431655765 : Int32))).toUInt32 >>> ((2 : Int32) &&& 31).toUInt32).toInt32) &&& (858993459 : Int32))).toUInt32 >>> ((4 : Int32) &&& 31).toUInt32).toInt32)) &&& (252645135 : Int32)) + (((((((p0 - (((p0.toUInt32 >>> ((1 : Int32) &&& 31).toUInt32).toInt32) &&& (1431655765 : Int32))) &&& (858993459 : Int32)) + ((((p0 - (((p0.toUInt32 >>> ((1 : Int32) &&& 31).toUInt32).toInt32) &&& (1431655765 : Int32))).toUInt32 >>> ((2 : Int32) &&& 31).toUInt32).toInt32) &&& (858993459 : Int32))) + (((((p0 - (((p0.toUInt32 >>> ((1 : Int32) &&& 31).toUInt32).toInt32) &&& (1431655765 : Int32))) &&& (858993459 : Int32)) + ((((p0 - (((p0.toUInt32 >>> ((1 : Int32) &&& 31).toUInt32).toInt32) &&& (1431655765 : Int32))).toUInt32 >>> ((2 : Int32) &&& 31).toUInt32).toInt32) &&& (858993459 : Int32))).toUInt32 >>> ((4 : Int32) &&& 31).toUInt32).toInt32)) &&& (252645135 : Int32)).toUInt32 >>> ((8 : Int32) &&& 31).toUInt32).toInt32)))])) _
    refine XS.bipush X0.here hx rfl (hb hby d16_43) ?_
    show Steps p.tables e below (s₁.setTop (mkF m 45 #[.val (.int ((((((p0 - (((p0.toUInt32 >>> ((1 : Int32) &&& 31).toUInt32).toInt32) &&& (1431655765 : Int32))) &&& (858993459 : Int32)) + ((((p0 - (((p0.toUInt32 >>> ((1 : Int32) &&& 31).toUInt32).toInt32) &&& (1431655765 : Int32))).toUInt32 >>> ((2 : Int32) &&& 31).toUInt32).toInt32) &&& (858993459 : Int32))) + (((((p0 - (((p0.toUInt32 >>> ((1 : Int32) &&& 31).toUInt32).toInt32) &&& (1431655765 : Int32))) &&& (858993459 : Int32)) + ((((p0 - (((p0.toUInt32 >>> ((1 : Int32) &&& 31).toUInt32).toInt32) &&& (1431655765 : Int32))).toUInt32 >>> ((2 : Int32) &&& 31).toUInt32).toInt32) &&& (858993459 : Int32))).toUInt32 >>> ((4 : Int32) &&& 31).toUInt32).toInt32)) &&& (252645135 : Int32)) + (((((((p0 - (((p0.toUInt32 >>> ((1 : Int32) &&& 31).toUInt32).toInt32) &&& (1431655765 : Int32))) &&& (858993459 : Int32)) + ((((p0 - (((p0.toUInt32 >>> ((1 : Int32) &&& 31).toUInt32).toInt32) &&& (1431655765 : Int32))).toUInt32 >>> ((2 : Int32) &&& 31).toUInt32).toInt32) &&& (858993459 : Int32))) + (((((p0 - (((p0.toUInt32 >>> ((1 : Int32) &&& 31).toUInt32).toInt32) &&& (1431655765 : Int32))) &&& (858993459 : Int32)) + ((((p0 - (((p0.toUInt32 >>> ((1 : Int32) &&& 31).toUInt32).toInt32) &&& (1431655765 : Int32))).toUInt32 >>> ((2 : Int32) &&& 31).toUInt32).toInt32) &&& (858993459 : Int32))).toUInt32 >>> ((4 : Int32) &&& 31).toUInt32).toInt32)) &&& (252645135 : Int32)).toUInt32 >>> ((8 : Int32) &&& 31).toUInt32).toInt32)))] [(.int (16 : Int32)), (.int ((((((p0 - (((p0.toUInt32 >>> ((1 : Int32) &&& 31).toUInt32).toInt32) &&& (1431655765 : Int32))) &&& (858993459 : Int32)) + ((((p0 - (((p0.toUInt32 >>> ((1 : Int32) &&& 31).toUInt32).toInt32) &&& (1431655765 : Int32))).toUInt32 >>> ((2 : Int32) &&& 31).toUInt32).toInt32) &&& (858993459 : Int32))) + (((((p0 - (((p0.toUInt32 >>> ((1 : Int32) &&& 31).toUInt32).toInt32) &&& (1431655765 : Int32))) &&& (858993459 : Int32)) + ((((p0 - (((p0.toUInt32 >>> ((1 : Int32) &&& 31).toUInt32).toInt32) &&& (1431655765 : Int32))).toUInt32 >>> ((2 : Int32) &&& 31).toUInt32).toInt32) &&& (858993459 : Int32))).toUInt32 >>> ((4 : Int32) &&& 31).toUInt32).toInt32)) &&& (252645135 : Int32)) + (((((((p0 - (((p0.toUInt32 >>> ((1 : Int32) &&& 31).toUInt32).toInt32) &&& (1431655765 : Int32))) &&& (858993459 : Int32)) + ((((p0 - (((p0.toUInt32 >>> ((1 : Int32) &&& 31).toUInt32).toInt32) &&& (1431655765 : Int32))).toUInt32 >>> ((2 : Int32) &&& 31).toUInt32).toInt32) &&& (858993459 : Int32))) + (((((p0 - (((p0.toUInt32 >>> ((1 : Int32) &&& 31).toUInt32).toInt32) &&& (1431655765 : Int32))) &&& (858993459 : Int32)) + ((((p0 - (((p0.toUInt32 >>> ((1 : Int32) &&& 31).toUInt32).toInt32) &&& (1431655765 : Int32))).toUInt32 >>> ((2 : Int32) &&& 31).toUInt32).toInt32) &&& (858993459 : Int32))).toUInt32 >>> ((4 : Int32) &&& 31).toUInt32).toInt32)) &&& (252645135 : Int32)).toUInt32 >>> ((8 : Int32) &&& 31).toUInt32).toInt32))), (.int ((((((p0 - (((p0.toUInt32 >>> ((1 : Int32) &&& 31).toUInt32).toInt32) &&& (1431655765 : Int32))) &&& (858993459 : Int32)) + ((((p0 - (((p0.toUInt32 >>> ((1 : Int32) &&& 31).toUInt32).toInt32) &&& (1431655765 : Int32))).toUInt32 >>> ((2 : Int32) &&& 31).toUInt32).toInt32) &&& (858993459 : Int32))) + (((((p0 - (((p0.toUInt32 >>> ((1 : Int32) &&& 31).toUInt32).toInt32) &&& (1431655765 : Int32))) &&& (858993459 : Int32)) + ((((p0 - (((p0.toUInt32 >>> ((1 : Int32) &&& 31).toUInt32).toInt32) &&& (1431655765 : Int32))).toUInt32 >>> ((2 : Int32) &&& 31).toUInt32).toInt32) &&& (858993459 : Int32))).toUInt32 >>> ((4 : Int32) &&& 31).toUInt32).toInt32)) &&& (252645135 : Int32)) + (((((((p0 - (((p0.toUInt32 >>> ((1 : Int32) &&& 31).toUInt32).toInt32) &&& (1431655765 : Int32))) &&& (858993459 : Int32)) + ((((p0 - (((p0.toUInt32 >>> ((1 : Int32) &&& 31).toUInt32).toInt32) &&& (1431655765 : Int32))).toUInt32 >>> ((2 : Int32) &&& 31).toUInt32).toInt32) &&& (858993459 : Int32))) + (((((p0 - (((p0.toUInt32 >>> ((1 : Int32) &&& 31).toUInt32).toInt32) &&& (1431655765 : Int32))) &&& (858993459 : Int32)) + ((((p0 - (((p0.toUInt32 >>> ((1 : Int32) &&& 31).toUInt32).toInt32) &&& (1431655765 : Int32))).toUInt32 >>> ((2 : Int32) &&& 31).toUInt32).toInt32) &&& (858993459 : Int32))).toUInt32 >>> ((4 : Int32) &&& 31).toUInt32).toInt32)) &&& (252645135 : Int32)).toUInt32 >>> ((8 : Int32) &&& 31).toUInt32).toInt32)))])) _
    refine XS.iushr X0.here hx rfl (hb hby d16_45) rfl ?_
    show Steps p.tables e below (s₁.setTop (mkF m 46 #[.val (.int ((((((p0 - (((p0.toUInt32 >>> ((1 : Int32) &&& 31).toUInt32).toInt32) &&& (1431655765 : Int32))) &&& (858993459 : Int32)) + ((((p0 - (((p0.toUInt32 >>> ((1 : Int32) &&& 31).toUInt32).toInt32) &&& (1431655765 : Int32))).toUInt32 >>> ((2 : Int32) &&& 31).toUInt32).toInt32) &&& (858993459 : Int32))) + (((((p0 - (((p0.toUInt32 >>> ((1 : Int32) &&& 31).toUInt32).toInt32) &&& (1431655765 : Int32))) &&& (858993459 : Int32)) + ((((p0 - (((p0.toUInt32 >>> ((1 : Int32) &&& 31).toUInt32).toInt32) &&& (1431655765 : Int32))).toUInt32 >>> ((2 : Int32) &&& 31).toUInt32).toInt32) &&& (858993459 : Int32))).toUInt32 >>> ((4 : Int32) &&& 31).toUInt32).toInt32)) &&& (252645135 : Int32)) + (((((((p0 - (((p0.toUInt32 >>> ((1 : Int32) &&& 31).toUInt32).toInt32) &&& (1431655765 : Int32))) &&& (858993459 : Int32)) + ((((p0 - (((p0.toUInt32 >>> ((1 : Int32) &&& 31).toUInt32).toInt32) &&& (1431655765 : Int32))).toUInt32 >>> ((2 : Int32) &&& 31).toUInt32).toInt32) &&& (858993459 : Int32))) + (((((p0 - (((p0.toUInt32 >>> ((1 : Int32) &&& 31).toUInt32).toInt32) &&& (1431655765 : Int32))) &&& (858993459 : Int32)) + ((((p0 - (((p0.toUInt32 >>> ((1 : Int32) &&& 31).toUInt32).toInt32) &&& (1431655765 : Int32))).toUInt32 >>> ((2 : Int32) &&& 31).toUInt32).toInt32) &&& (858993459 : Int32))).toUInt32 >>> ((4 : Int32) &&& 31).toUInt32).toInt32)) &&& (252645135 : Int32)).toUInt32 >>> ((8 : Int32) &&& 31).toUInt32).toInt32)))] [(.int ((((((((p0 - (((p0.toUInt32 >>> ((1 : Int32) &&& 31).toUInt32).toInt32) &&& (1431655765 : Int32))) &&& (858993459 : Int32)) + ((((p0 - (((p0.toUInt32 >>> ((1 : Int32) &&& 31).toUInt32).toInt32) &&& (1431655765 : Int32))).toUInt32 >>> ((2 : Int32) &&& 31).toUInt32).toInt32) &&& (858993459 : Int32))) + (((((p0 - (((p0.toUInt32 >>> ((1 : Int32) &&& 31).toUInt32).toInt32) &&& (1431655765 : Int32))) &&& (858993459 : Int32)) + ((((p0 - (((p0.toUInt32 >>> ((1 : Int32) &&& 31).toUInt32).toInt32) &&& (1431655765 : Int32))).toUInt32 >>> ((2 : Int32) &&& 31).toUInt32).toInt32) &&& (858993459 : Int32))).toUInt32 >>> ((4 : Int32) &&& 31).toUInt32).toInt32)) &&& (252645135 : Int32)) + (((((((p0 - (((p0.toUInt32 >>> ((1 : Int32) &&& 31).toUInt32).toInt32) &&& (1431655765 : Int32))) &&& (858993459 : Int32)) + ((((p0 - (((p0.toUInt32 >>> ((1 : Int32) &&& 31).toUInt32).toInt32) &&& (1431655765 : Int32))).toUInt32 >>> ((2 : Int32) &&& 31).toUInt32).toInt32) &&& (858993459 : Int32))) + (((((p0 - (((p0.toUInt32 >>> ((1 : Int32) &&& 31).toUInt32).toInt32) &&& (1431655765 : Int32))) &&& (858993459 : Int32)) + ((((p0 - (((p0.toUInt32 >>> ((1 : Int32) &&& 31).toUInt32).toInt32) &&& (1431655765 : Int32))).toUInt32 >>> ((2 : Int32) &&& 31).toUInt32).toInt32) &&& (858993459 : Int32))).toUInt32 >>> ((4 : Int32) &&& 31).toUInt32).toInt32)) &&& (252645135 : Int32)).toUInt32 >>> ((8 : Int32) &&& 31).toUInt32).toInt32)).toUInt32 >>> ((16 : Int32) &&& 31).toUInt32).toInt32)), (.int ((((((p0 - (((p0.toUInt32 >>> ((1 : Int32) &&& 31).toUInt32).toInt32) &&& (1431655765 : Int32))) &&& (858993459 : Int32)) + ((((p0 - (((p0.toUInt32 >>> ((1 : Int32) &&& 31).toUInt32).toInt32) &&& (1431655765 : Int32))).toUInt32 >>> ((2 : Int32) &&& 31).toUInt32).toInt32) &&& (858993459 : Int32))) + (((((p0 - (((p0.toUInt32 >>> ((1 : Int32) &&& 31).toUInt32).toInt32) &&& (1431655765 : Int32))) &&& (858993459 : Int32)) + ((((p0 - (((p0.toUInt32 >>> ((1 : Int32) &&& 31).toUInt32).toInt32) &&& (1431655765 : Int32))).toUInt32 >>> ((2 : Int32) &&& 31).toUInt32).toInt32) &&& (858993459 : Int32))).toUInt32 >>> ((4 : Int32) &&& 31).toUInt32).toInt32)) &&& (252645135 : Int32)) + (((((((p0 - (((p0.toUInt32 >>> ((1 : Int32) &&& 31).toUInt32).toInt32) &&& (1431655765 : Int32))) &&& (858993459 : Int32)) + ((((p0 - (((p0.toUInt32 >>> ((1 : Int32) &&& 31).toUInt32).toInt32) &&& (1431655765 : Int32))).toUInt32 >>> ((2 : Int32) &&& 31).toUInt32).toInt32) &&& (858993459 : Int32))) + (((((p0 - (((p0.toUInt32 >>> ((1 : Int32) &&& 31).toUInt32).toInt32) &&& (1431655765 : Int32))) &&& (858993459 : Int32)) + ((((p0 - (((p0.toUInt32 >>> ((1 : Int32) &&& 31).toUInt32).toInt32) &&& (1431655765 : Int32))).toUInt32 >>> ((2 : Int32) &&& 31).toUInt32).toInt32) &&& (858993459 : Int32))).toUInt32 >>> ((4 : Int32) &&& 31).toUInt32).toInt32)) &&& (252645135 : Int32)).toUInt32 >>> ((8 : Int32) &&& 31).toUInt32).toInt32)))])) _
    refine XS.iadd X0.here hx rfl (hb hby d16_46) rfl ?_
    show Steps p.tables e below (s₁.setTop (mkF m 47 #[.val (.int ((((((p0 - (((p0.toUInt32 >>> ((1 : Int32) &&& 31).toUInt32).toInt32) &&& (1431655765 : Int32))) &&& (858993459 : Int32)) + ((((p0 - (((p0.toUInt32 >>> ((1 : Int32) &&& 31).toUInt32).toInt32) &&& (1431655765 : Int32))).toUInt32 >>> ((2 : Int32) &&& 31).toUInt32).toInt32) &&& (858993459 : Int32))) + (((((p0 - (((p0.toUInt32 >>> ((1 : Int32) &&& 31).toUInt32).toInt32) &&& (1431655765 : Int32))) &&& (858993459 : Int32)) + ((((p0 - (((p0.toUInt32 >>> ((1 : Int32) &&& 31).toUInt32).toInt32) &&& (1431655765 : Int32))).toUInt32 >>> ((2 : Int32) &&& 31).toUInt32).toInt32) &&& (858993459 : Int32))).toUInt32 >>> ((4 : Int32) &&& 31).toUInt32).toInt32)) &&& (252645135 : Int32)) + (((((((p0 - (((p0.toUInt32 >>> ((1 : Int32) &&& 31).toUInt32).toInt32) &&& (1431655765 : Int32))) &&& (858993459 : Int32)) + ((((p0 - (((p0.toUInt32 >>> ((1 : Int32) &&& 31).toUInt32).toInt32) &&& (1431655765 : Int32))).toUInt32 >>> ((2 : Int32) &&& 31).toUInt32).toInt32) &&& (858993459 : Int32))) + (((((p0 - (((p0.toUInt32 >>> ((1 : Int32) &&& 31).toUInt32).toInt32) &&& (1431655765 : Int32))) &&& (858993459 : Int32)) + ((((p0 - (((p0.toUInt32 >>> ((1 : Int32) &&& 31).toUInt32).toInt32) &&& (1431655765 : Int32))).toUInt32 >>> ((2 : Int32) &&& 31).toUInt32).toInt32) &&& (858993459 : Int32))).toUInt32 >>> ((4 : Int32) &&& 31).toUInt32).toInt32)) &&& (252645135 : Int32)).toUInt32 >>> ((8 : Int32) &&& 31).toUInt32).toInt32)))] [(.int (((((((p0 - (((p0.toUInt32 >>> ((1 : Int32) &&& 31).toUInt32).toInt32) &&& (1431655765 : Int32))) &&& (858993459 : Int32)) + ((((p0 - (((p0.toUInt32 >>> ((1 : Int32) &&& 31).toUInt32).toInt32) &&& (1431655765 : Int32))).toUInt32 >>> ((2 : Int32) &&& 31).toUInt32).toInt32) &&& (858993459 : Int32))) + (((((p0 - (((p0.toUInt32 >>> ((1 : Int32) &&& 31).toUInt32).toInt32) &&& (1431655765 : Int32))) &&& (858993459 : Int32)) + ((((p0 - (((p0.toUInt32 >>> ((1 : Int32) &&& 31).toUInt32).toInt32) &&& (1431655765 : Int32))).toUInt32 >>> ((2 : Int32) &&& 31).toUInt32).toInt32) &&& (858993459 : Int32))).toUInt32 >>> ((4 : Int32) &&& 31).toUInt32).toInt32)) &&& (252645135 : Int32)) + (((((((p0 - (((p0.toUInt32 >>> ((1 : Int32) &&& 31).toUInt32).toInt32) &&& (1431655765 : Int32))) &&& (858993459 : Int32)) + ((((p0 - (((p0.toUInt32 >>> ((1 : Int32) &&& 31).toUInt32).toInt32) &&& (1431655765 : Int32))).toUInt32 >>> ((2 : Int32) &&& 31).toUInt32).toInt32) &&& (858993459 : Int32))) + (((((p0 - (((p0.toUInt32 >>> ((1 : Int32) &&& 31).toUInt32).toInt32) &&& (1431655765 : Int32))) &&& (858993459 : Int32)) + ((((p0 - (((p0.toUInt32 >>> ((1 : Int32) &&& 31).toUInt32).toInt32) &&& (1431655765 : Int32))).toUInt32 >>> ((2 : Int32) &&& 31).toUInt32).toInt32) &&& (858993459 : Int32))).toUInt32 >>> ((4 : Int32) &&& 31).toUInt32).toInt32)) &&& (252645135 : Int32)).toUInt32 >>> ((8 : Int32) &&& 31).toUInt32).toInt32)) + ((((((((p0 - (((p0.toUInt32 >>> ((1 : Int32) &&& 31).toUInt32).toInt32) &&& (1431655765 : Int32))) &&& (858993459 : Int32)) + ((((p0 - (((p0.toUInt32 >>> ((1 : Int32) &&& 31).toUInt32).toInt32) &&& (1431655765 : Int32))).toUInt32 >>> ((2 : Int32) &&& 31).toUInt32).toInt32) &&& (858993459 : Int32))) + (((((p0 - (((p0.toUInt32 >>> ((1 : Int32) &&& 31).toUInt32).toInt32) &&& (1431655765 : Int32))) &&& (858993459 : Int32)) + ((((p0 - (((p0.toUInt32 >>> ((1 : Int32) &&& 31).toUInt32).toInt32) &&& (1431655765 : Int32))).toUInt32 >>> ((2 : Int32) &&& 31).toUInt32).toInt32) &&& (858993459 : Int32))).toUInt32 >>> ((4 : Int32) &&& 31).toUInt32).toInt32)) &&& (252645135 : Int32)) + (((((((p0 - (((p0.toUInt32 >>> ((1 : Int32) &&& 31).toUInt32).toInt32) &&& (1431655765 : Int32))) &&& (858993459 : Int32)) + ((((p0 - (((p0.toUInt32 >>> ((1 : Int32) &&& 31).toUInt32).toInt32) &&& (1431655765 : Int32))).toUInt32 >>> ((2 : Int32) &&& 31).toUInt32).toInt32) &&& (858993459 : Int32))) + (((((p0 - (((p0.toUInt32 >>> ((1 : Int32) &&& 31).toUInt32).toInt32) &&& (1431655765 : Int32))) &&& (858993459 : Int32)) + ((((p0 - (((p0.toUInt32 >>> ((1 : Int32) &&& 31).toUInt32).toInt32) &&& (1431655765 : Int32))).toUInt32 >>> ((2 : Int32) &&& 31).toUInt32).toInt32) &&& (858993459 : Int32))).toUInt32 >>> ((4 : Int32) &&& 31).toUInt32).toInt32)) &&& (252645135 : Int32)).toUInt32 >>> ((8 : Int32) &&& 31).toUInt32).toInt32)).toUInt32 >>> ((16 : Int32) &&& 31).toUInt32).toInt32)))])) _
    refine XS.istoreN X0.here hx rfl (hb hby d16_47) rfl (l' := #[.val (.int (((((((p0 - (((p0.toUInt32 >>> ((1 : Int32) &&& 31).toUInt32).toInt32) &&& (1431655765 : Int32))) &&& (858993459 : Int32)) + ((((p0 - (((p0.toUInt32 >>> ((1 : Int32) &&& 31).toUInt32).toInt32) &&& (1431655765 : Int32))).toUInt32 >>> ((2 : Int32) &&& 31).toUInt32).toInt32) &&& (858993459 : Int32))) + (((((p0 - (((p0.toUInt32 >>> ((1 : Int32) &&& 31).toUInt32).toInt32) &&& (1431655765 : Int32))) &&& (858993459 : Int32)) + ((((p0 - (((p0.toUInt32 >>> ((1 : Int32) &&& 31).toUInt32).toInt32) &&& (1431655765 : Int32))).toUInt32 >>> ((2 : Int32) &&& 31).toUInt32).toInt32) &&& (858993459 : Int32))).toUInt32 >>> ((4 : Int32) &&& 31).toUInt32).toInt32)) &&& (252645135 : Int32)) + (((((((p0 - (((p0.toUInt32 >>> ((1 : Int32) &&& 31).toUInt32).toInt32) &&& (1431655765 : Int32))) &&& (858993459 : Int32)) + ((((p0 - (((p0.toUInt32 >>> ((1 : Int32) &&& 31).toUInt32).toInt32) &&& (1431655765 : Int32))).toUInt32 >>> ((2 : Int32) &&& 31).toUInt32).toInt32) &&& (858993459 : Int32))) + (((((p0 - (((p0.toUInt32 >>> ((1 : Int32) &&& 31).toUInt32).toInt32) &&& (1431655765 : Int32))) &&& (858993459 : Int32)) + ((((p0 - (((p0.toUInt32 >>> ((1 : Int32) &&& 31).toUInt32).toInt32) &&& (1431655765 : Int32))).toUInt32 >>> ((2 : Int32) &&& 31).toUInt32).toInt32) &&& (858993459 : Int32))).toUInt32 >>> ((4 : Int32) &&& 31).toUInt32).toInt32)) &&& (252645135 : Int32)).toUInt32 >>> ((8 : Int32) &&& 31).toUInt32).toInt32)) + ((((((((p0 - (((p0.toUInt32 >>> ((1 : Int32) &&& 31).toUInt32).toInt32) &&& (1431655765 : Int32))) &&& (858993459 : Int32)) + ((((p0 - (((p0.toUInt32 >>> ((1 : Int32) &&& 31).toUInt32).toInt32) &&& (1431655765 : Int32))).toUInt32 >>> ((2 : Int32) &&& 31).toUInt32).toInt32) &&& (858993459 : Int32))) + (((((p0 - (((p0.toUInt32 >>> ((1 : Int32) &&& 31).toUInt32).toInt32) &&& (1431655765 : Int32))) &&& (858993459 : Int32)) + ((((p0 - (((p0.toUInt32 >>> ((1 : Int32) &&& 31).toUInt32).toInt32) &&& (1431655765 : Int32))).toUInt32 >>> ((2 : Int32) &&& 31).toUInt32).toInt32) &&& (858993459 : Int32))).toUInt32 >>> ((4 : Int32) &&& 31).toUInt32).toInt32)) &&& (252645135 : Int32)) + (((((((p0 - (((p0.toUInt32 >>> ((1 : Int32) &&& 31).toUInt32).toInt32) &&& (1431655765 : Int32))) &&& (858993459 : Int32)) + ((((p0 - (((p0.toUInt32 >>> ((1 : Int32) &&& 31).toUInt32).toInt32) &&& (1431655765 : Int32))).toUInt32 >>> ((2 : Int32) &&& 31).toUInt32).toInt32) &&& (858993459 : Int32))) + (((((p0 - (((p0.toUInt32 >>> ((1 : Int32) &&& 31).toUInt32).toInt32) &&& (1431655765 : Int32))) &&& (858993459 : Int32)) + ((((p0 - (((p0.toUInt32 >>> ((1 : Int32) &&& 31).toUInt32).toInt32) &&& (1431655765 : Int32))).toUInt32 >>> ((2 : Int32) &&& 31).toUInt32).toInt32) &&& (858993459 : Int32))).toUInt32 >>> ((4 : Int32) &&& 31).toUInt32).toInt32)) &&& (252645135 : Int32)).toUInt32 >>> ((8 : Int32) &&& 31).toUInt32).toInt32)).toUInt32 >>> ((16 : Int32) &&& 31).toUInt32).toInt32)))]) rfl ?_
    show Steps p.tables e below (s₁.setTop (mkF m 48 #[.val (.int (((((((p0 - (((p0.toUInt32 >>> ((1 : Int32) &&& 31).toUInt32).toInt32) &&& (1431655765 : Int32))) &&& (858993459 : Int32)) + ((((p0 - (((p0.toUInt32 >>> ((1 : Int32) &&& 31).toUInt32).toInt32) &&& (1431655765 : Int32))).toUInt32 >>> ((2 : Int32) &&& 31).toUInt32).toInt32) &&& (858993459 : Int32))) + (((((p0 - (((p0.toUInt32 >>> ((1 : Int32) &&& 31).toUInt32).toInt32) &&& (1431655765 : Int32))) &&& (858993459 : Int32)) + ((((p0 - (((p0.toUInt32 >>> ((1 : Int32) &&& 31).toUInt32).toInt32) &&& (1431655765 : Int32))).toUInt32 >>> ((2 : Int32) &&& 31).toUInt32).toInt32) &&& (858993459 : Int32))).toUInt32 >>> ((4 : Int32) &&& 31).toUInt32).toInt32)) &&& (252645135 : Int32)) + (((((((p0 - (((p0.toUInt32 >>> ((1 : Int32) &&& 31).toUInt32).toInt32) &&& (1431655765 : Int32))) &&& (858993459 : Int32)) + ((((p0 - (((p0.toUInt32 >>> ((1 : Int32) &&& 31).toUInt32).toInt32) &&& (1431655765 : Int32))).toUInt32 >>> ((2 : Int32) &&& 31).toUInt32).toInt32) &&& (858993459 : Int32))) + (((((p0 - (((p0.toUInt32 >>> ((1 : Int32) &&& 31).toUInt32).toInt32) &&& (1431655765 : Int32))) &&& (858993459 : Int32)) + ((((p0 - (((p0.toUInt32 >>> ((1 : Int32) &&& 31).toUInt32).toInt32) &&& (1431655765 : Int32))).toUInt32 >>> ((2 : Int32) &&& 31).toUInt32).toInt32) &&& (858993459 : Int32))).toUInt32 >>> ((4 : Int32) &&& 31).toUInt32).toInt32)) &&& (252645135 : Int32)).toUInt32 >>> ((8 : Int32) &&& 31).toUInt32).toInt32)) + ((((((((p0 - (((p0.toUInt32 >>> ((1 : Int32) &&& 31).toUInt32).toInt32) &&& (1431655765 : Int32))) &&& (858993459 : Int32)) + ((((p0 - (((p0.toUInt32 >>> ((1 : Int32) &&& 31).toUInt32).toInt32) &&& (1431655765 : Int32))).toUInt32 >>> ((2 : Int32) &&& 31).toUInt32).toInt32) &&& (858993459 : Int32))) + (((((p0 - (((p0.toUInt32 >>> ((1 : Int32) &&& 31).toUInt32).toInt32) &&& (1431655765 : Int32))) &&& (858993459 : Int32)) + ((((p0 - (((p0.toUInt32 >>> ((1 : Int32) &&& 31).toUInt32).toInt32) &&& (1431655765 : Int32))).toUInt32 >>> ((2 : Int32) &&& 31).toUInt32).toInt32) &&& (858993459 : Int32))).toUInt32 >>> ((4 : Int32) &&& 31).toUInt32).toInt32)) &&& (252645135 : Int32)) + (((((((p0 - (((p0.toUInt32 >>> ((1 : Int32) &&& 31).toUInt32).toInt32) &&& (1431655765 : Int32))) &&& (858993459 : Int32)) + ((((p0 - (((p0.toUInt32 >>> ((1 : Int32) &&& 31).toUInt32).toInt32) &&& (1431655765 : Int32))).toUInt32 >>> ((2 : Int32) &&& 31).toUInt32).toInt32) &&& (858993459 : Int32))) + (((((p0 - (((p0.toUInt32 >>> ((1 : Int32) &&& 31).toUInt32).toInt32) &&& (1431655765 : Int32))) &&& (858993459 : Int32)) + ((((p0 - (((p0.toUInt32 >>> ((1 : Int32) &&& 31).toUInt32).toInt32) &&& (1431655765 : Int32))).toUInt32 >>> ((2 : Int32) &&& 31).toUInt32).toInt32) &&& (858993459 : Int32))).toUInt32 >>> ((4 : Int32) &&& 31).toUInt32).toInt32)) &&& (252645135 : Int32)).toUInt32 >>> ((8 : Int32) &&& 31).toUInt32).toInt32)).toUInt32 >>> ((16 : Int32) &&& 31).toUInt32).toInt32)))] [])) _
    refine XS.iloadN X0.here hx rfl (hb hby d16_48) rfl ?_
    show Steps p.tables e below (s₁.setTop (mkF m 49 #[.val (.int (((((((p0 - (((p0.toUInt32 >>> ((1 : Int32) &&& 31).toUInt32).toInt32) &&& (1431655765 : Int32))) &&& (858993459 : Int32)) + ((((p0 - (((p0.toUInt32 >>> ((1 : Int32) &&& 31).toUInt32).toInt32) &&& (1431655765 : Int32))).toUInt32 >>> ((2 : Int32) &&& 31).toUInt32).toInt32) &&& (858993459 : Int32))) + (((((p0 - (((p0.toUInt32 >>> ((1 : Int32) &&& 31).toUInt32).toInt32) &&& (1431655765 : Int32))) &&& (858993459 : Int32)) + ((((p0 - (((p0.toUInt32 >>> ((1 : Int32) &&& 31).toUInt32).toInt32) &&& (1431655765 : Int32))).toUInt32 >>> ((2 : Int32) &&& 31).toUInt32).toInt32) &&& (858993459 : Int32))).toUInt32 >>> ((4 : Int32) &&& 31).toUInt32).toInt32)) &&& (252645135 : Int32)) + (((((((p0 - (((p0.toUInt32 >>> ((1 : Int32) &&& 31).toUInt32).toInt32) &&& (1431655765 : Int32))) &&& (858993459 : Int32)) + ((((p0 - (((p0.toUInt32 >>> ((1 : Int32) &&& 31).toUInt32).toInt32) &&& (1431655765 : Int32))).toUInt32 >>> ((2 : Int32) &&& 31).toUInt32).toInt32) &&& (858993459 : Int32))) + (((((p0 - (((p0.toUInt32 >>> ((1 : Int32) &&& 31).toUInt32).toInt32) &&& (1431655765 : Int32))) &&& (858993459 : Int32)) + ((((p0 - (((p0.toUInt32 >>> ((1 : Int32) &&& 31).toUInt32).toInt32) &&& (1431655765 : Int32))).toUInt32 >>> ((2 : Int32) &&& 31).toUInt32).toInt32) &&& (858993459 : Int32))).toUInt32 >>> ((4 : Int32) &&& 31).toUInt32).toInt32)) &&& (252645135 : Int32)).toUInt32 >>> ((8 : Int32) &&& 31).toUInt32).toInt32)) + ((((((((p0 - (((p0.toUInt32 >>> ((1 : Int32) &&& 31).toUInt32).toInt32) &&& (1431655765 : Int32))) &&& (858993459 : Int32)) + ((((p0 - (((p0.toUInt32 >>> ((1 : Int32) &&& 31).toUInt32).toInt32) &&& (1431655765 : Int32))).toUInt32 >>> ((2 : Int32) &&& 31).toUInt32).toInt32) &&& (858993459 : Int32))) + (((((p0 - (((p0.toUInt32 >>> ((1 : Int32) &&& 31).toUInt32).toInt32) &&& (1431655765 : Int32))) &&& (858993459 : Int32)) + ((((p0 - (((p0.toUInt32 >>> ((1 : Int32) &&& 31).toUInt32).toInt32) &&& (1431655765 : Int32))).toUInt32 >>> ((2 : Int32) &&& 31).toUInt32).toInt32) &&& (858993459 : Int32))).toUInt32 >>> ((4 : Int32) &&& 31).toUInt32).toInt32)) &&& (252645135 : Int32)) + (((((((p0 - (((p0.toUInt32 >>> ((1 : Int32) &&& 31).toUInt32).toInt32) &&& (1431655765 : Int32))) &&& (858993459 : Int32)) + ((((p0 - (((p0.toUInt32 >>> ((1 : Int32) &&& 31).toUInt32).toInt32) &&& (1431655765 : Int32))).toUInt32 >>> ((2 : Int32) &&& 31).toUInt32).toInt32) &&& (858993459 : Int32))) + (((((p0 - (((p0.toUInt32 >>> ((1 : Int32) &&& 31).toUInt32).toInt32) &&& (1431655765 : Int32))) &&& (858993459 : Int32)) + ((((p0 - (((p0.toUInt32 >>> ((1 : Int32) &&& 31).toUInt32).toInt32) &&& (1431655765 : Int32))).toUInt32 >>> ((2 : Int32) &&& 31).toUInt32).toInt32) &&& (858993459 : Int32))).toUInt32 >>> ((4 : Int32) &&& 31).toUInt32).toInt32)) &&& (252645135 : Int32)).toUInt32 >>> ((8 : Int32) &&& 31).toUInt32).toInt32)).toUInt32 >>> ((16 : Int32) &&& 31).toUInt32).toInt32)))] [(.int (((((((p0 - (((p0.toUInt32 >>> ((1 : Int32) &&& 31).toUInt32).toInt32) &&& (1431655765 : Int32))) &&& (858993459 : Int32)) + ((((p0 - (((p0.toUInt32 >>> ((1 : Int32) &&& 31).toUInt32).toInt32) &&& (1431655765 : Int32))).toUInt32 >>> ((2 : Int32) &&& 31).toUInt32).toInt32) &&& (858993459 : Int32))) + (((((p0 - (((p0.toUInt32 >>> ((1 : Int32) &&& 31).toUInt32).toInt32) &&& (1431655765 : Int32))) &&& (858993459 : Int32)) + ((((p0 - (((p0.toUInt32 >>> ((1 : Int32) &&& 31).toUInt32).toInt32) &&& (1431655765 : Int32))).toUInt32 >>> ((2 : Int32) &&& 31).toUInt32).toInt32) &&& (858993459 : Int32))).toUInt32 >>> ((4 : Int32) &&& 31).toUInt32).toInt32)) &&& (252645135 : Int32)) + (((((((p0 - (((p0.toUInt32 >>> ((1 : Int32) &&& 31).toUInt32).toInt32) &&& (1431655765 : Int32))) &&& (858993459 : Int32)) + ((((p0 - (((p0.toUInt32 >>> ((1 : Int32) &&& 31).toUInt32).toInt32) &&& (1431655765 : Int32))).toUInt32 >>> ((2 : Int32) &&& 31).toUInt32).toInt32) &&& (858993459 : Int32))) + (((((p0 - (((p0.toUInt32 >>> ((1 : Int32) &&& 31).toUInt32).toInt32) &&& (1431655765 : Int32))) &&& (858993459 : Int32)) + ((((p0 - (((p0.toUInt32 >>> ((1 : Int32) &&& 31).toUInt32).toInt32) &&& (1431655765 : Int32))).toUInt32 >>> ((2 : Int32) &&& 31).toUInt32).toInt32) &&& (858993459 : Int32))).toUInt32 >>> ((4 : Int32) &&& 31).toUInt32).toInt32)) &&& (252645135 : Int32)).toUInt32 >>> ((8 : Int32) &&& 31).toUInt32).toInt32)) + ((((((((p0 - (((p0.toUInt32 >>> ((1 : Int32) &&& 31).toUInt32).toInt32) &&& (1431655765 : Int32))) &&& (858993459 : Int32)) + ((((p0 - (((p0.toUInt32 >>> ((1 : Int32) &&& 31).toUInt32).toInt32) &&& (1431655765 : Int32))).toUInt32 >>> ((2 : Int32) &&& 31).toUInt32).toInt32) &&& (858993459 : Int32))) + (((((p0 - (((p0.toUInt32 >>> ((1 : Int32) &&& 31).toUInt32).toInt32) &&& (1431655765 : Int32))) &&& (858993459 : Int32)) + ((((p0 - (((p0.toUInt32 >>> ((1 : Int32) &&& 31).toUInt32).toInt32) &&& (1431655765 : Int32))).toUInt32 >>> ((2 : Int32) &&& 31).toUInt32).toInt32) &&& (858993459 : Int32))).toUInt32 >>> ((4 : Int32) &&& 31).toUInt32).toInt32)) &&& (252645135 : Int32)) + (((((((p0 - (((p0.toUInt32 >>> ((1 : Int32) &&& 31).toUInt32).toInt32) &&& (1431655765 : Int32))) &&& (858993459 : Int32)) + ((((p0 - (((p0.toUInt32 >>> ((1 : Int32) &&& 31).toUInt32).toInt32) &&& (1431655765 : Int32))).toUInt32 >>> ((2 : Int32) &&& 31).toUInt32).toInt32) &&& (858993459 : Int32))) + (((((p0 - (((p0.toUInt32 >>> ((1 : Int32) &&& 31).toUInt32).toInt32) &&& (1431655765 : Int32))) &&& (858993459 : Int32)) + ((((p0 - (((p0.toUInt32 >>> ((1 : Int32) &&& 31).toUInt32).toInt32) &&& (1431655765 : Int32))).toUInt32 >>> ((2 : Int32) &&& 31).toUInt32).toInt32) &&& (858993459 : Int32))).toUInt32 >>> ((4 : Int32) &&& 31).toUInt32).toInt32)) &&& (252645135 : Int32)).toUInt32 >>> ((8 : Int32) &&& 31).toUInt32).toInt32)).toUInt32 >>> ((16 : Int32) &&& 31).toUInt32).toInt32)))])) _
    refine XS.bipush X0.here hx rfl (hb hby d16_49) ?_
    show Steps p.tables e below (s₁.setTop (mkF m 51 #[.val (.int (((((((p0 - (((p0.toUInt32 >>> ((1 : Int32) &&& 31).toUInt32).toInt32) &&& (1431655765 : Int32))) &&& (858993459 : Int32)) + ((((p0 - (((p0.toUInt32 >>> ((1 : Int32) &&& 31).toUInt32).toInt32) &&& (1431655765 : Int32))).toUInt32 >>> ((2 : Int32) &&& 31).toUInt32).toInt32) &&& (858993459 : Int32))) + (((((p0 - (((p0.toUInt32 >>> ((1 : Int32) &&& 31).toUInt32).toInt32) &&& (1431655765 : Int32))) &&& (858993459 : Int32)) + ((((p0 - (((p0.toUInt32 >>> ((1 : Int32) &&& 31).toUInt32).toInt32) &&& (1431655765 : Int32))).toUInt32 >>> ((2 : Int32) &&& 31).toUInt32).toInt32) &&& (858993459 : Int32))).toUInt32 >>> ((4 : Int32) &&& 31).toUInt32).toInt32)) &&& (252645135 : Int32)) + (((((((p0 - (((p0.toUInt32 >>> ((1 : Int32) &&& 31).toUInt32).toInt32) &&& (1431655765 : Int32))) &&& (858993459 : Int32)) + ((((p0 - (((p0.toUInt32 >>> ((1 : Int32) &&& 31).toUInt32).toInt32) &&& (1431655765 : Int32))).toUInt32 >>> ((2 : Int32) &&& 31).toUInt32).toInt32) &&& (858993459 : Int32))) + (((((p0 - (((p0.toUInt32 >>> ((1 : Int32) &&& 31).toUInt32).toInt32) &&& (1431655765 : Int32))) &&& (858993459 : Int32)) + ((((p0 - (((p0.toUInt32 >>> ((1 : Int32) &&& 31).toUInt32).toInt32) &&& (1431655765 : Int32))).toUInt32 >>> ((2 : Int32) &&& 31).toUInt32).toInt32) &&& (858993459 : Int32))).toUInt32 >>> ((4 : Int32) &&& 31).toUInt32).toInt32)) &&& (252645135 : Int32)).toUInt32 >>> ((8 : Int32) &&& 31).toUInt32).toInt32)) + ((((((((p0 - (((p0.toUInt32 >>> ((1 : Int32) &&& 31).toUInt32).toInt32) &&& (1431655765 : Int32))) &&& (858993459 : Int32)) + ((((p0 - (((p0.toUInt32 >>> ((1 : Int32) &&& 31).toUInt32).toInt32) &&& (1431655765 : Int32))).toUInt32 >>> ((2 : Int32) &&& 31).toUInt32).toInt32) &&& (858993459 : Int32))) + (((((p0 - (((p0.toUInt32 >>> ((1 : Int32) &&& 31).toUInt32).toInt32) &&& (1431655765 : Int32))) &&& (858993459 : Int32)) + ((((p0 - (((p0.toUInt32 >>> ((1 : Int32) &&& 31).toUInt32).toInt32) &&& (1431655765 : Int32))).toUInt32 >>> ((2 : Int32) &&& 31).toUInt32).toInt32) &&& (858993459 : Int32))).toUInt32 >>> ((4 : Int32) &&& 31).toUInt32).toInt32)) &&& (252645135 : Int32)) + (((((((p0 - (((p0.toUInt32 >>> ((1 : Int32) &&& 31).toUInt32).toInt32) &&& (1431655765 : Int32))) &&& (858993459 : Int32)) + ((((p0 - (((p0.toUInt32 >>> ((1 : Int32) &&& 31).toUInt32).toInt32) &&& (1431655765 : Int32))).toUInt32 >>> ((2 : Int32) &&& 31).toUInt32).toInt32) &&& (858993459 : Int32))) + (((((p0 - (((p0.toUInt32 >>> ((1 : Int32) &&& 31).toUInt32).toInt32) &&& (1431655765 : Int32))) &&& (858993459 : Int32)) + ((((p0 - (((p0.toUInt32 >>> ((1 : Int32) &&& 31).toUInt32).toInt32) &&& (1431655765 : Int32))).toUInt32 >>> ((2 : Int32) &&& 31).toUInt32).toInt32) &&& (858993459 : Int32))).toUInt32 >>> ((4 : Int32) &&& 31).toUInt32).toInt32)) &&& (252645135 : Int32)).toUInt32 >>> ((8 : Int32) &&& 31).toUInt32).toInt32)).toUInt32 >>> ((16 : Int32) &&& 31).toUInt32).toInt32)))] [(.int (63 : Int32)), (.int (((((((p0 - (((p0.toUInt32 >>> ((1 : Int32) &&& 31).toUInt32).toInt32) &&& (1431655765 : Int32))) &&& (858993459 : Int32)) + ((((p0 - (((p0.toUInt32 >>> ((1 : Int32) &&& 31).toUInt32).toInt32) &&& (1431655765 : Int32))).toUInt32 >>> ((2 : Int32) &&& 31).toUInt32).toInt32) &&& (858993459 : Int32))) + (((((p0 - (((p0.toUInt32 >>> ((1 : Int32) &&& 31).toUInt32).toInt32) &&& (1431655765 : Int32))) &&& (858993459 : Int32)) + ((((p0 - (((p0.toUInt32 >>> ((1 : Int32) &&& 31).toUInt32).toInt32) &&& (1431655765 : Int32))).toUInt32 >>> ((2 : Int32) &&& 31).toUInt32).toInt32) &&& (858993459 : Int32))).toUInt32 >>> ((4 : Int32) &&& 31).toUInt32).toInt32)) &&& (252645135 : Int32)) + (((((((p0 - (((p0.toUInt32 >>> ((1 : Int32) &&& 31).toUInt32).toInt32) &&& (1431655765 : Int32))) &&& (858993459 : Int32)) + ((((p0 - (((p0.toUInt32 >>> ((1 : Int32) &&& 31).toUInt32).toInt32) &&& (1431655765 : Int32))).toUInt32 >>> ((2 : Int32) &&& 31).toUInt32).toInt32) &&& (858993459 : Int32))) + (((((p0 - (((p0.toUInt32 >>> ((1 : Int32) &&& 31).toUInt32).toInt32) &&& (1431655765 : Int32))) &&& (858993459 : Int32)) + ((((p0 - (((p0.toUInt32 >>> ((1 : Int32) &&& 31).toUInt32).toInt32) &&& (1431655765 : Int32))).toUInt32 >>> ((2 : Int32) &&& 31).toUInt32).toInt32) &&& (858993459 : Int32))).toUInt32 >>> ((4 : Int32) &&& 31).toUInt32).toInt32)) &&& (252645135 : Int32)).toUInt32 >>> ((8 : Int32) &&& 31).toUInt32).toInt32)) + ((((((((p0 - (((p0.toUInt32 >>> ((1 : Int32) &&& 31).toUInt32).toInt32) &&& (1431655765 : Int32))) &&& (858993459 : Int32)) + ((((p0 - (((p0.toUInt32 >>> ((1 : Int32) &&& 31).toUInt32).toInt32) &&& (1431655765 : Int32))).toUInt32 >>> ((2 : Int32) &&& 31).toUInt32).toInt32) &&& (858993459 : Int32))) + (((((p0 - (((p0.toUInt32 >>> ((1 : Int32) &&& 31).toUInt32).toInt32) &&& (1431655765 : Int32))) &&& (858993459 : Int32)) + ((((p0 - (((p0.toUInt32 >>> ((1 : Int32) &&& 31).toUInt32).toInt32) &&& (1431655765 : Int32))).toUInt32 >>> ((2 : Int32) &&& 31).toUInt32).toInt32) &&& (858993459 : Int32))).toUInt32 >>> ((4 : Int32) &&& 31).toUInt32).toInt32)) &&& (252645135 : Int32)) + (((((((p0 - (((p0.toUInt32 >>> ((1 : Int32) &&& 31).toUInt32).toInt32) &&& (1431655765 : Int32))) &&& (858993459 : Int32)) + ((((p0 - (((p0.toUInt32 >>> ((1 : Int32) &&& 31).toUInt32).toInt32) &&& (1431655765 : Int32))).toUInt32 >>> ((2 : Int32) &&& 31).toUInt32).toInt32) &&& (858993459 : Int32))) + (((((p0 - (((p0.toUInt32 >>> ((1 : Int32) &&& 31).toUInt32).toInt32) &&& (1431655765 : Int32))) &&& (858993459 : Int32)) + ((((p0 - (((p0.toUInt32 >>> ((1 : Int32) &&& 31).toUInt32).toInt32) &&& (1431655765 : Int32))).toUInt32 >>> ((2 : Int32) &&& 31).toUInt32).toInt32) &&& (858993459 : Int32))).toUInt32 >>> ((4 : Int32) &&& 31).toUInt32).toInt32)) &&& (252645135 : Int32)).toUInt32 >>> ((8 : Int32) &&& 31).toUInt32).toInt32)).toUInt32 >>> ((16 : Int32) &&& 31).toUInt32).toInt32)))])) _
    refine XS.iand X0.here hx rfl (hb hby d16_51) rfl ?_
    show Steps p.tables e below (s₁.setTop (mkF m 52 #[.val (.int (((((((p0 - (((p0.toUInt32 >>> ((1 : Int32) &&& 31).toUInt32).toInt32) &&& (1431655765 : Int32))) &&& (858993459 : Int32)) + ((((p0 - (((p0.toUInt32 >>> ((1 : Int32) &&& 31).toUInt32).toInt32) &&& (1431655765 : Int32))).toUInt32 >>> ((2 : Int32) &&& 31).toUInt32).toInt32) &&& (858993459 : Int32))) + (((((p0 - (((p0.toUInt32 >>> ((1 : Int32) &&& 31).toUInt32).toInt32) &&& (1431655765 : Int32))) &&& (858993459 : Int32)) + ((((p0 - (((p0.toUInt32 >>> ((1 : Int32) &&& 31).toUInt32).toInt32) &&& (1431655765 : Int32))).toUInt32 >>> ((2 : Int32) &&& 31).toUInt32).toInt32) &&& (858993459 : Int32))).toUInt32 >>> ((4 : Int32) &&& 31).toUInt32).toInt32)) &&& (252645135 : Int32)) + (((((((p0 - (((p0.toUInt32 >>> ((1 : Int32) &&& 31).toUInt32).toInt32) &&& (1431655765 : Int32))) &&& (858993459 : Int32)) + ((((p0 - (((p0.toUInt32 >>> ((1 : Int32) &&& 31).toUInt32).toInt32) &&& (1431655765 : Int32))).toUInt32 >>> ((2 : Int32) &&& 31).toUInt32).toInt32) &&& (858993459 : Int32))) + (((((p0 - (((p0.toUInt32 >>> ((1 : Int32) &&& 31).toUInt32).toInt32) &&& (1431655765 : Int32))) &&& (858993459 : Int32)) + ((((p0 - (((p0.toUInt32 >>> ((1 : Int32) &&& 31).toUInt32).toInt32) &&& (1431655765 : Int32))).toUInt32 >>> ((2 : Int32) &&& 31).toUInt32).toInt32) &&& (858993459 : Int32))).toUInt32 >>> ((4 : Int32) &&& 31).toUInt32).toInt32)) &&& (252645135 : Int32)).toUInt32 >>> ((8 : Int32) &&& 31).toUInt32).toInt32)) + ((((((((p0 - (((p0.toUInt32 >>> ((1 : Int32) &&& 31).toUInt32).toInt32) &&& (1431655765 : Int32))) &&& (858993459 : Int32)) + ((((p0 - (((p0.toUInt32 >>> ((1 : Int32) &&& 31).toUInt32).toInt32) &&& (1431655765 : Int32))).toUInt32 >>> ((2 : Int32) &&& 31).toUInt32).toInt32) &&& (858993459 : Int32))) + (((((p0 - (((p0.toUInt32 >>> ((1 : Int32) &&& 31).toUInt32).toInt32) &&& (1431655765 : Int32))) &&& (858993459 : Int32)) + ((((p0 - (((p0.toUInt32 >>> ((1 : Int32) &&& 31).toUInt32).toInt32) &&& (1431655765 : Int32))).toUInt32 >>> ((2 : Int32) &&& 31).toUInt32).toInt32) &&& (858993459 : Int32))).toUInt32 >>> ((4 : Int32) &&& 31).toUInt32).toInt32)) &&& (252645135 : Int32)) + (((((((p0 - (((p0.toUInt32 >>> ((1 : Int32) &&& 31).toUInt32).toInt32) &&& (1431655765 : Int32))) &&& (858993459 : Int32)) + ((((p0 - (((p0.toUInt32 >>> ((1 : Int32) &&& 31).toUInt32).toInt32) &&& (1431655765 : Int32))).toUInt32 >>> ((2 : Int32) &&& 31).toUInt32).toInt32) &&& (858993459 : Int32))) + (((((p0 - (((p0.toUInt32 >>> ((1 : Int32) &&& 31).toUInt32).toInt32) &&& (1431655765 : Int32))) &&& (858993459 : Int32)) + ((((p0 - (((p0.toUInt32 >>> ((1 : Int32) &&& 31).toUInt32).toInt32) &&& (1431655765 : Int32))).toUInt32 >>> ((2 : Int32) &&& 31).toUInt32).toInt32) &&& (858993459 : Int32))).toUInt32 >>> ((4 : Int32) &&& 31).toUInt32).toInt32)) &&& (252645135 : Int32)).toUInt32 >>> ((8 : Int32) &&& 31).toUInt32).toInt32)).toUInt32 >>> ((16 : Int32) &&& 31).toUInt32).toInt32)))] [(.int ((((((((p0 - (((p0.toUInt32 >>> ((1 : Int32) &&& 31).toUInt32).toInt32) &&& (1431655765 : Int32))) &&& (858993459 : Int32)) + ((((p0 - (((p0.toUInt32 >>> ((1 : Int32) &&& 31).toUInt32).toInt32) &&& (1431655765 : Int32))).toUInt32 >>> ((2 : Int32) &&& 31).toUInt32).toInt32) &&& (858993459 : Int32))) + (((((p0 - (((p0.toUInt32 >>> ((1 : Int32) &&& 31).toUInt32).toInt32) &&& (1431655765 : Int32))) &&& (858993459 : Int32)) + ((((p0 - (((p0.toUInt32 >>> ((1 : Int32) &&& 31).toUInt32).toInt32) &&& (1431655765 : Int32))).toUInt32 >>> ((2 : Int32) &&& 31).toUInt32).toInt32) &&& (858993459 : Int32))).toUInt32 >>> ((4 : Int32) &&& 31).toUInt32).toInt32)) &&& (252645135 : Int32)) + (((((((p0 - (((p0.toUInt32 >>> ((1 : Int32) &&& 31).toUInt32).toInt32) &&& (1431655765 : Int32))) &&& (858993459 : Int32)) + ((((p0 - (((p0.toUInt32 >>> ((1 : Int32) &&& 31).toUInt32).toInt32) &&& (1431655765 : Int32))).toUInt32 >>> ((2 : Int32) &&& 31).toUInt32).toInt32) &&& (858993459 : Int32))) + (((((p0 - (((p0.toUInt32 >>> ((1 : Int32) &&& 31).toUInt32).toInt32) &&& (1431655765 : Int32))) &&& (858993459 : Int32)) + ((((p0 - (((p0.toUInt32 >>> ((1 : Int32) &&& 31).toUInt32).toInt32) &&& (1431655765 : Int32))).toUInt32 >>> ((2 : Int32) &&& 31).toUInt32).toInt32) &&& (858993459 : Int32))).toUInt32 >>> ((4 : Int32) &&& 31).toUInt32).toInt32)) &&& (252645135 : Int32)).toUInt32 >>> ((8 : Int32) &&& 31).toUInt32).toInt32)) + ((((((((p0 - (((p0.toUInt32 >>> ((1 : Int32) &&& 31).toUInt32).toInt32) &&& (1431655765 : Int32))) &&& (858993459 : Int32)) + ((((p0 - (((p0.toUInt32 >>> ((1 : Int32) &&& 31).toUInt32).toInt32) &&& (1431655765 : Int32))).toUInt32 >>> ((2 : Int32) &&& 31).toUInt32).toInt32) &&& (858993459 : Int32))) + (((((p0 - (((p0.toUInt32 >>> ((1 : Int32) &&& 31).toUInt32).toInt32) &&& (1431655765 : Int32))) &&& (858993459 : Int32)) + ((((p0 - (((p0.toUInt32 >>> ((1 : Int32) &&& 31).toUInt32).toInt32) &&& (1431655765 : Int32))).toUInt32 >>> ((2 : Int32) &&& 31).toUInt32).toInt32) &&& (858993459 : Int32))).toUInt32 >>> ((4 : Int32) &&& 31).toUInt32).toInt32)) &&& (252645135 : Int32)) + (((((((p0 - (((p0.toUInt32 >>> ((1 : Int32) &&& 31).toUInt32).toInt32) &&& (1431655765 : Int32))) &&& (858993459 : Int32)) + ((((p0 - (((p0.toUInt32 >>> ((1 : Int32) &&& 31).toUInt32).toInt32) &&& (1431655765 : Int32))).toUInt32 >>> ((2 : Int32) &&& 31).toUInt32).toInt32) &&& (858993459 : Int32))) + (((((p0 - (((p0.toUInt32 >>> ((1 : Int32) &&& 31).toUInt32).toInt32) &&& (1431655765 : Int32))) &&& (858993459 : Int32)) + ((((p0 - (((p0.toUInt32 >>> ((1 : Int32) &&& 31).toUInt32).toInt32) &&& (1431655765 : Int32))).toUInt32 >>> ((2 : Int32) &&& 31).toUInt32).toInt32) &&& (858993459 : Int32))).toUInt32 >>> ((4 : Int32) &&& 31).toUInt32).toInt32)) &&& (252645135 : Int32)).toUInt32 >>> ((8 : Int32) &&& 31).toUInt32).toInt32)).toUInt32 >>> ((16 : Int32) &&& 31).toUInt32).toInt32)) &&& (63 : Int32)))])) _
    exact retI X0 hx Bd.returns (hb hby d16_52) hr
  · show Q16 Z p0 h0 n0 _ s₁.heap _
    rw [e0]
    exact ⟨rfl, N0, rfl⟩
theorem d18_0 : decode jdk_29_method_59_code 0 = .ok (.iload_n 0, 1) := by decide +kernel
theorem d18_1 : decode jdk_29_method_59_code 1 = .ok (.ifCond .ge 8, 3) := by decide +kernel
theorem d18_4 : decode jdk_29_method_59_code 4 = .ok (.iload_n 0, 1) := by decide +kernel
theorem d18_5 : decode jdk_29_method_59_code 5 = .ok (.ineg, 1) := by decide +kernel
theorem d18_6 : decode jdk_29_method_59_code 6 = .ok (.goto 4, 3) := by decide +kernel
theorem d18_10 : decode jdk_29_method_59_code 10 = .ok (.ireturn, 1) := by decide +kernel
theorem ef_rm18 (m : MethodId)  : entryFrame m #[(.int (-2147483648 : Int32))] 1 = mkF m 0 #[.val (.int (-2147483648 : Int32))] [] := by first | (simp [entryFrame, mkF, argsToLocals, Value.category]; done) | rfl
def Q18 (Z : State)  (h0 : Heap) (n0 : Nat) (v : Option Value) (h : Heap) (L : List Loc) : Prop := v = some (.int (-2147483648 : Int32)) ∧ Fr n0 L ∧ h = h0
set_option maxRecDepth 65536 in
set_option maxHeartbeats 40000000 in
theorem rm18 (l : Launch) (Z : State) (az : Array Value) (hw : ∀ d ∈ tables_1, d.before az Z = true) (ws : List Jvm.Cond)  (h0 : Heap) (n0 : Nat) (Z0 : n0 ≤ h0.size) :
    MetFree l (⟨"java/lang/Math", "abs", "(I)I"⟩ : MethodName) (head1 (Jvm.Cond.code (⟨"java/lang/Math", "abs", "(I)I"⟩ : MethodName) jdk_29_method_59_code 1 (some .int) :: ws) ({ frames := 0, cells := 0, slots := 0, locals := 0 } : Room)) (fun a U => a = #[(.int (-2147483648 : Int32))] ∧ Z.Warmed39 U.vm ∧ U.heap = h0) (fun _ _ _ _ _ => True) (fun _ U o U' => ∃ v L, o = .returned v ∧ Q18 Z  h0 n0 v U'.heap L ∧ FrameEnd U o U' L ({ frames := 0, cells := 0, slots := 0, locals := 0 } : Room).cells ({ frames := 0, cells := 0, slots := 0, locals := 0 } : Room).slots) := by
  refine MetFree.of_bodySF (Jvm.Free.JP.mathPlain rfl (by decide +kernel)) hisR ?_
  intro p e s m args below meth c s₁ Bd hml0 hP hK
  obtain ⟨rfl, hZ, hh⟩ := hP
  have hx := Bd.exec
  have hby := Bd.bytes
  have hml : c.maxLocals = 1 := hml0
  have hown : s.vm.findClass "java/lang/Math" = some m.cls := findClass_of_methodNamed Bd.named
  have hnm := (name_of_methodNamed Bd.named Bd.method).1
  have X0 : Stand p l e ({ frames := 0, cells := 0, slots := 0, locals := 0 } : Room) s m #[(.int (-2147483648 : Int32))] below meth c s₁ [] 0 0 := Stand.of_body Bd
  have e0 : s₁.heap = h0 := by rw [← hh, Bd.state]; rfl
  have N0 := Fr.nil n0
  have pre0 : ∀ t, Steps p.tables e below (s₁.setTop (mkF m 0 #[.val (.int (-2147483648 : Int32))] [])) t → Steps p.tables e below (s₁.setTop (entryFrame m #[(.int (-2147483648 : Int32))] 1)) t := fun t k => castTop (ef_rm18 m ) k
  obtain ⟨fs, hr, hrun, hended, hW, hsame⟩ := X0.leave (v := some (.int (-2147483648 : Int32))) (fun h => by rw [Bd.returns] at h; cases h)
  refine ⟨_, _, pre0 _ ?_, hrun, hended, _, _, rfl, ?_, ⟨_, rfl⟩, hW, hsame.mono (by decide) (by decide)⟩
  · show Steps p.tables e below (s₁.setTop (mkF m 0 #[.val (.int (-2147483648 : Int32))] [])) _
    refine XS.iloadN X0.here hx rfl (hb hby d18_0) rfl ?_
    show Steps p.tables e below (s₁.setTop (mkF m 1 #[.val (.int (-2147483648 : Int32))] [(.int (-2147483648 : Int32))])) _
    refine XS.ifNo X0.here hx rfl (hb hby d18_1) rfl ((if0 _ _).trans (tlt (by decide : (-2147483648 : Int32) < (0 : Int32))).2.1) ?_
    show Steps p.tables e below (s₁.setTop (mkF m 4 #[.val (.int (-2147483648 : Int32))] [])) _
    refine XS.iloadN X0.here hx rfl (hb hby d18_4) rfl ?_
    show Steps p.tables e below (s₁.setTop (mkF m 5 #[.val (.int (-2147483648 : Int32))] [(.int (-2147483648 : Int32))])) _
    refine XS.ineg X0.here hx rfl (hb hby d18_5) rfl ?_
    show Steps p.tables e below (s₁.setTop (mkF m 6 #[.val (.int (-2147483648 : Int32))] [(.int (-2147483648 : Int32))])) _
    refine XS.goto X0.here hx rfl (pc0 := 6) (pc' := 10) rfl (hb hby d18_6) (by decide) (by decide) ?_
    show Steps p.tables e below (s₁.setTop (mkF m 10 #[.val (.int (-2147483648 : Int32))] [(.int (-2147483648 : Int32))])) _
    exact retI X0 hx Bd.returns (hb hby d18_10) hr
  · show Q18 Z  h0 n0 _ s₁.heap _
    rw [e0]
    exact ⟨rfl, N0, rfl⟩
theorem d19_0 : decode jdk_2056_method_24_code 0 = .ok (.iload_n 0, 1) := by decide +kernel
theorem d19_1 : decode jdk_2056_method_24_code 1 = .ok (.sipush 255, 3) := by decide +kernel
theorem d19_4 : decode jdk_2056_method_24_code 4 = .ok (.iand, 1) := by decide +kernel
theorem d19_5 : decode jdk_2056_method_24_code 5 = .ok (.ireturn, 1) := by decide +kernel
theorem pn_java_lang_Byte : plainName "java/lang/Byte" = true := by first | (simp [plainName, overriddenIn]; done) | decide +kernel
theorem ef_rm19 (m : MethodId) (p0 : Int32) : entryFrame m #[(.int p0)] 1 = mkF m 0 #[.val (.int p0)] [] := by first | (simp [entryFrame, mkF, argsToLocals, Value.category]; done) | rfl
def Q19 (Z : State) (p0 : Int32) (h0 : Heap) (n0 : Nat) (v : Option Value) (h : Heap) (L : List Loc) : Prop := v = some (.int (p0 &&& (255 : Int32))) ∧ Fr n0 L ∧ h = h0
set_option maxRecDepth 65536 in
set_option maxHeartbeats 40000000 in
theorem rm19 (l : Launch) (Z : State) (az : Array Value) (hw : ∀ d ∈ tables_1, d.before az Z = true) (ws : List Jvm.Cond) (p0 : Int32) (h0 : Heap) (n0 : Nat) (Z0 : n0 ≤ h0.size) :
    MetFree l (⟨"java/lang/Byte", "toUnsignedInt", "(B)I"⟩ : MethodName) (head1 (Jvm.Cond.code (⟨"java/lang/Byte", "toUnsignedInt", "(B)I"⟩ : MethodName) jdk_2056_method_24_code 1 (some .int) :: ws) ({ frames := 0, cells := 0, slots := 0, locals := 0 } : Room)) (fun a U => a = #[(.int p0)] ∧ Z.Warmed39 U.vm ∧ U.heap = h0) (fun _ _ _ _ _ => True) (fun _ U o U' => ∃ v L, o = .returned v ∧ Q19 Z p0 h0 n0 v U'.heap L ∧ FrameEnd U o U' L ({ frames := 0, cells := 0, slots := 0, locals := 0 } : Room).cells ({ frames := 0, cells := 0, slots := 0, locals := 0 } : Room).slots) := by
  refine MetFree.of_bodySF (plainFor_of_name pn_java_lang_Byte) hisR ?_
  intro p e s m args below meth c s₁ Bd hml0 hP hK
  obtain ⟨rfl, hZ, hh⟩ := hP
  have hx := Bd.exec
  have hby := Bd.bytes
  have hml : c.maxLocals = 1 := hml0
  have hown : s.vm.findClass "java/lang/Byte" = some m.cls := findClass_of_methodNamed Bd.named
  have hnm := (name_of_methodNamed Bd.named Bd.method).1
  have X0 : Stand p l e ({ frames := 0, cells := 0, slots := 0, locals := 0 } : Room) s m #[(.int p0)] below meth c s₁ [] 0 0 := Stand.of_body Bd
  have e0 : s₁.heap = h0 := by rw [← hh, Bd.state]; rfl
  have N0 := Fr.nil n0
  have pre0 : ∀ t, Steps p.tables e below (s₁.setTop (mkF m 0 #[.val (.int p0)] [])) t → Steps p.tables e below (s₁.setTop (entryFrame m #[(.int p0)] 1)) t := fun t k => castTop (ef_rm19 m p0) k
  obtain ⟨fs, hr, hrun, hended, hW, hsame⟩ := X0.leave (v := some (.int (p0 &&& (255 : Int32)))) (fun h => by rw [Bd.returns] at h; cases h)
  refine ⟨_, _, pre0 _ ?_, hrun, hended, _, _, rfl, ?_, ⟨_, rfl⟩, hW, hsame.mono (by decide) (by decide)⟩
  · show Steps p.tables e below (s₁.setTop (mkF m 0 #[.val (.int p0)] [])) _
    refine XS.iloadN X0.here hx rfl (hb hby d19_0) rfl ?_
    show Steps p.tables e below (s₁.setTop (mkF m 1 #[.val (.int p0)] [(.int p0)])) _
    refine XS.sipush X0.here hx rfl (hb hby d19_1) ?_
    show Steps p.tables e below (s₁.setTop (mkF m 4 #[.val (.int p0)] [(.int (255 : Int32)), (.int p0)])) _
    refine XS.iand X0.here hx rfl (hb hby d19_4) rfl ?_
    show Steps p.tables e below (s₁.setTop (mkF m 5 #[.val (.int p0)] [(.int (p0 &&& (255 : Int32)))])) _
    exact retI X0 hx Bd.returns (hb hby d19_5) hr
  · show Q19 Z p0 h0 n0 _ s₁.heap _
    rw [e0]
    exact ⟨rfl, N0, rfl⟩
theorem d17_0 : decode prog_7_method_13_code 0 = .ok (.iload_n 1, 1) := by decide +kernel
theorem d17_1 : decode prog_7_method_13_code 1 = .ok (.invokestatic 96, 3) := by decide +kernel
theorem d17_4 : decode prog_7_method_13_code 4 = .ok (.istore_n 2, 1) := by decide +kernel
theorem d17_5 : decode prog_7_method_13_code 5 = .ok (.aload_n 0, 1) := by decide +kernel
theorem d17_6 : decode prog_7_method_13_code 6 = .ok (.getfield 36, 3) := by decide +kernel
theorem d17_9 : decode prog_7_method_13_code 9 = .ok (.ifCond .lt 12, 3) := by decide +kernel
theorem d17_12 : decode prog_7_method_13_code 12 = .ok (.iload_n 2, 1) := by decide +kernel
theorem d17_13 : decode prog_7_method_13_code 13 = .ok (.aload_n 0, 1) := by decide +kernel
theorem d17_14 : decode prog_7_method_13_code 14 = .ok (.getfield 36, 3) := by decide +kernel
theorem d17_17 : decode prog_7_method_13_code 17 = .ok (.iand, 1) := by decide +kernel
theorem d17_18 : decode prog_7_method_13_code 18 = .ok (.goto 9, 3) := by decide +kernel
theorem d17_27 : decode prog_7_method_13_code 27 = .ok (.i2b, 1) := by decide +kernel
theorem d17_28 : decode prog_7_method_13_code 28 = .ok (.ireturn, 1) := by decide +kernel
theorem pn_com_example_fireweed_fireweed_layout_Java31ByteSalt : plainName "com/example/fireweed/fireweed/layout/Java31ByteSalt" = true := by first | (simp [plainName, overriddenIn]; done) | decide +kernel
theorem ef_rm17m (m : MethodId) (a0 : Addr) : entryFrame m #[(.ref a0), (.int (-2147483648 : Int32))] 3 = mkF m 0 #[.val (.ref a0), .val (.int (-2147483648 : Int32)), .unset] [] := by first | (simp [entryFrame, mkF, argsToLocals, Value.category]; done) | rfl
def Q17m (Z : State) (a0 : Addr) (w_mask_a0 : Int32) (h0 : Heap) (n0 : Nat) (v : Option Value) (h : Heap) (L : List Loc) : Prop := v = some (.int (((-2147483648 : Int32) &&& w_mask_a0).toInt8.toInt32)) ∧ Fr n0 L ∧ h = h0
set_option maxRecDepth 65536 in
set_option maxHeartbeats 40000000 in
theorem rm17m (l : Launch) (Z : State) (az : Array Value) (hw : ∀ d ∈ tables_1, d.before az Z = true) (ws : List Jvm.Cond) (a0 : Addr) (w_mask_a0 : Int32) (h0 : Heap) (n0 : Nat) (Z0 : n0 ≤ h0.size) (F_mask_a0 : Fld Z h0 a0 "com/example/fireweed/fireweed/layout/Java31ByteSalt" "mask" "I" (.int w_mask_a0)) (hc1 : ¬ (w_mask_a0 < (0 : Int32))) :
    MetFree l (⟨"com/example/fireweed/fireweed/layout/Java31ByteSalt", "saltOf", "(I)B"⟩ : MethodName) (head1 (Jvm.Cond.code (⟨"com/example/fireweed/fireweed/layout/Java31ByteSalt", "saltOf", "(I)B"⟩ : MethodName) prog_7_method_13_code 3 (some .byte) :: ws) ({ frames := 1, cells := 0, slots := 0, locals := 12 } : Room)) (fun a U => a = #[(.ref a0), (.int (-2147483648 : Int32))] ∧ Z.Warmed39 U.vm ∧ U.heap = h0) (fun _ _ _ _ _ => True) (fun _ U o U' => ∃ v L, o = .returned v ∧ Q17m Z a0 w_mask_a0 h0 n0 v U'.heap L ∧ FrameEnd U o U' L ({ frames := 1, cells := 0, slots := 0, locals := 12 } : Room).cells ({ frames := 1, cells := 0, slots := 0, locals := 12 } : Room).slots) := by
  refine MetFree.of_bodySF (plainFor_of_name pn_com_example_fireweed_fireweed_layout_Java31ByteSalt) hisR ?_
  intro p e s m args below meth c s₁ Bd hml0 hP hK
  obtain ⟨rfl, hZ, hh⟩ := hP
  have hx := Bd.exec
  have hby := Bd.bytes
  have hml : c.maxLocals = 3 := hml0
  have hown : s.vm.findClass "com/example/fireweed/fireweed/layout/Java31ByteSalt" = some m.cls := findClass_of_methodNamed Bd.named
  have hnm := (name_of_methodNamed Bd.named Bd.method).1
  have X0 : Stand p l e ({ frames := 1, cells := 0, slots := 0, locals := 12 } : Room) s m #[(.ref a0), (.int (-2147483648 : Int32))] below meth c s₁ [] 0 0 := Stand.of_body Bd
  have e0 : s₁.heap = h0 := by rw [← hh, Bd.state]; rfl
  have N0 := Fr.nil n0
  have pre0 : ∀ t, Steps p.tables e below (s₁.setTop (mkF m 0 #[.val (.ref a0), .val (.int (-2147483648 : Int32)), .unset] [])) t → Steps p.tables e below (s₁.setTop (entryFrame m #[(.ref a0), (.int (-2147483648 : Int32))] 3)) t := fun t k => castTop (ef_rm17m m a0) k
  obtain ⟨_, _, ⟨T1, L1, k1', n1'⟩, -, X1, ⟨Lc1, hQ1, l1, y1, z1⟩, st1⟩ := Jvm.LawKit.callS X0 hx (y := (⟨"java/lang/Math", "abs", "(I)I"⟩ : MethodName)) hown (mvT hZ (hw _ (List.mem_of_getElem? (i := 107) rfl))) (mvT hZ (hw _ (List.mem_of_getElem? (i := 108) rfl))) (mvT hZ (hw _ (List.mem_of_getElem? (i := 109) rfl))) (mvT hZ (hw _ (List.mem_of_getElem? (i := 110) rfl))) (by decide) (backOf (W := 0) (rm18 l Z az hw []  h0 n0 Z0) hZ (hw _ (List.mem_of_getElem? (i := 110) rfl)) (hw _ (List.mem_of_getElem? (i := 109) rfl)) (by decide) (by decide)) (g := (mkF m 1 #[.val (.ref a0), .val (.int (-2147483648 : Int32)), .unset] [(.int (-2147483648 : Int32))])) rfl (by rw [hml]; rfl) (argsL := [(.int (-2147483648 : Int32))]) (rest := []) (lenOf pd_8 rfl) rfl (by show 2 * 0 + _ ≤ _; exact Nat.le_of_eq rfl) (hb hby d17_1) (fun _ _ => ⟨rfl, e0, (by decide : 0 + 0 ≤ _), (by decide : 0 + 0 ≤ _)⟩)
  dsimp only [Pt.U, Pt.locs, Pt.cells, Pt.slots] at X1 l1 y1 z1 st1 hQ1
  subst l1 y1 z1
  obtain ⟨rfl, N1q, e1⟩ := hQ1
  have N1 := Fr.app N0 N1q
  obtain ⟨T2, X2, e2, st2⟩ := getF X1 hx hZ hown (host := "") (Or.inl (hw _ (List.mem_of_getElem? (i := 100) rfl))) Via.refl e1 F_mask_a0 (g := (mkF m 6 #[.val (.ref a0), .val (.int (-2147483648 : Int32)), .val (.int (-2147483648 : Int32))] [(.ref a0)])) rfl rfl (hb hby d17_6)
  obtain ⟨T3, X3, e3, st3⟩ := getF X2 hx hZ hown (host := "") (Or.inl (hw _ (List.mem_of_getElem? (i := 100) rfl))) Via.refl e2 F_mask_a0 (g := (mkF m 14 #[.val (.ref a0), .val (.int (-2147483648 : Int32)), .val (.int (-2147483648 : Int32))] [(.ref a0), (.int (-2147483648 : Int32))])) rfl rfl (hb hby d17_14)
  obtain ⟨fs, hr, hrun, hended, hW, hsame⟩ := X3.leave (v := some (.int (((-2147483648 : Int32) &&& w_mask_a0).toInt8.toInt32))) (fun h => by rw [Bd.returns] at h; cases h)
  refine ⟨_, _, pre0 _ ?_, hrun, hended, _, _, rfl, ?_, ⟨_, rfl⟩, hW, hsame.mono (by decide) (by decide)⟩
  · show Steps p.tables e below (s₁.setTop (mkF m 0 #[.val (.ref a0), .val (.int (-2147483648 : Int32)), .unset] [])) _
    refine XS.iloadN X0.here hx rfl (hb hby d17_0) rfl ?_
    show Steps p.tables e below (s₁.setTop (mkF m 1 #[.val (.ref a0), .val (.int (-2147483648 : Int32)), .unset] [(.int (-2147483648 : Int32))])) _
    refine st1 _ ?_
    show Steps p.tables e below (T1.setTop (mkF m 4 #[.val (.ref a0), .val (.int (-2147483648 : Int32)), .unset] [(.int (-2147483648 : Int32))])) _
    refine XS.istoreN X1.here hx rfl (hb hby d17_4) rfl (l' := #[.val (.ref a0), .val (.int (-2147483648 : Int32)), .val (.int (-2147483648 : Int32))]) rfl ?_
    show Steps p.tables e below (T1.setTop (mkF m 5 #[.val (.ref a0), .val (.int (-2147483648 : Int32)), .val (.int (-2147483648 : Int32))] [])) _
    refine XS.aloadN X1.here hx rfl (hb hby d17_5) rfl rfl ?_
    show Steps p.tables e below (T1.setTop (mkF m 6 #[.val (.ref a0), .val (.int (-2147483648 : Int32)), .val (.int (-2147483648 : Int32))] [(.ref a0)])) _
    refine st2 _ ?_
    show Steps p.tables e below (T2.setTop (mkF m 9 #[.val (.ref a0), .val (.int (-2147483648 : Int32)), .val (.int (-2147483648 : Int32))] [(.int w_mask_a0)])) _
    refine XS.ifNo X2.here hx rfl (hb hby d17_9) rfl ((if0 _ _).trans (flt hc1).1) ?_
    show Steps p.tables e below (T2.setTop (mkF m 12 #[.val (.ref a0), .val (.int (-2147483648 : Int32)), .val (.int (-2147483648 : Int32))] [])) _
    refine XS.iloadN X2.here hx rfl (hb hby d17_12) rfl ?_
    show Steps p.tables e below (T2.setTop (mkF m 13 #[.val (.ref a0), .val (.int (-2147483648 : Int32)), .val (.int (-2147483648 : Int32))] [(.int (-2147483648 : Int32))])) _
    refine XS.aloadN X2.here hx rfl (hb hby d17_13) rfl rfl ?_
    show Steps p.tables e below (T2.setTop (mkF m 14 #[.val (.ref a0), .val (.int (-2147483648 : Int32)), .val (.int (-2147483648 : Int32))] [(.ref a0), (.int (-2147483648 : Int32))])) _
    refine st3 _ ?_
    show Steps p.tables e below (T3.setTop (mkF m 17 #[.val (.ref a0), .val (.int (-2147483648 : Int32)), .val (.int (-2147483648 : Int32))] [(.int w_mask_a0), (.int (-2147483648 : Int32))])) _
    refine XS.iand X3.here hx rfl (hb hby d17_17) rfl ?_
    show Steps p.tables e below (T3.setTop (mkF m 18 #[.val (.ref a0), .val (.int (-2147483648 : Int32)), .val (.int (-2147483648 : Int32))] [(.int ((-2147483648 : Int32) &&& w_mask_a0))])) _
    refine XS.goto X3.here hx rfl (pc0 := 18) (pc' := 27) rfl (hb hby d17_18) (by decide) (by decide) ?_
    show Steps p.tables e below (T3.setTop (mkF m 27 #[.val (.ref a0), .val (.int (-2147483648 : Int32)), .val (.int (-2147483648 : Int32))] [(.int ((-2147483648 : Int32) &&& w_mask_a0))])) _
    refine XS.i2b X3.here hx rfl (hb hby d17_27) rfl ?_
    show Steps p.tables e below (T3.setTop (mkF m 28 #[.val (.ref a0), .val (.int (-2147483648 : Int32)), .val (.int (-2147483648 : Int32))] [(.int (((-2147483648 : Int32) &&& w_mask_a0).toInt8.toInt32))])) _
    exact retN X3 hx (t := .byte) Bd.returns (by simp) (hb hby d17_28) (fun f acts q1 q2 q3 => by rw [(own_nb _)]; exact hr f acts q1 q2 q3)
  · show Q17m Z a0 w_mask_a0 h0 n0 _ T3.heap _
    rw [e3]
    exact ⟨rfl, N1, rfl⟩
theorem d17_21 : decode prog_7_method_13_code 21 = .ok (.iload_n 2, 1) := by decide +kernel
theorem d17_22 : decode prog_7_method_13_code 22 = .ok (.aload_n 0, 1) := by decide +kernel
theorem d17_23 : decode prog_7_method_13_code 23 = .ok (.getfield 28, 3) := by decide +kernel
theorem d17_26 : decode prog_7_method_13_code 26 = .ok (.irem, 1) := by decide +kernel
theorem ef_rm17b (m : MethodId) (a0 : Addr) : entryFrame m #[(.ref a0), (.int (-2147483648 : Int32))] 3 = mkF m 0 #[.val (.ref a0), .val (.int (-2147483648 : Int32)), .unset] [] := by first | (simp [entryFrame, mkF, argsToLocals, Value.category]; done) | rfl
def Q17b (Z : State) (a0 : Addr) (w_buckets_a0 : Int32) (h0 : Heap) (n0 : Nat) (v : Option Value) (h : Heap) (L : List Loc) : Prop := v = some (.int (((-2147483648 : Int32) % w_buckets_a0).toInt8.toInt32)) ∧ Fr n0 L ∧ h = h0
set_option maxRecDepth 65536 in
set_option maxHeartbeats 40000000 in
theorem rm17b (l : Launch) (Z : State) (az : Array Value) (hw : ∀ d ∈ tables_1, d.before az Z = true) (ws : List Jvm.Cond) (a0 : Addr) (w_buckets_a0 : Int32) (h0 : Heap) (n0 : Nat) (Z0 : n0 ≤ h0.size) (F_mask_a0 : Fld Z h0 a0 "com/example/fireweed/fireweed/layout/Java31ByteSalt" "mask" "I" (.int (-1 : Int32))) (F_buckets_a0 : Fld Z h0 a0 "com/example/fireweed/fireweed/layout/Java31ByteSalt" "buckets" "I" (.int w_buckets_a0)) (hc2 : w_buckets_a0 ≠ (0 : Int32)) :
    MetFree l (⟨"com/example/fireweed/fireweed/layout/Java31ByteSalt", "saltOf", "(I)B"⟩ : MethodName) (head1 (Jvm.Cond.code (⟨"com/example/fireweed/fireweed/layout/Java31ByteSalt", "saltOf", "(I)B"⟩ : MethodName) prog_7_method_13_code 3 (some .byte) :: ws) ({ frames := 1, cells := 0, slots := 0, locals := 12 } : Room)) (fun a U => a = #[(.ref a0), (.int (-2147483648 : Int32))] ∧ Z.Warmed39 U.vm ∧ U.heap = h0) (fun _ _ _ _ _ => True) (fun _ U o U' => ∃ v L, o = .returned v ∧ Q17b Z a0 w_buckets_a0 h0 n0 v U'.heap L ∧ FrameEnd U o U' L ({ frames := 1, cells := 0, slots := 0, locals := 12 } : Room).cells ({ frames := 1, cells := 0, slots := 0, locals := 12 } : Room).slots) := by
  refine MetFree.of_bodySF (plainFor_of_name pn_com_example_fireweed_fireweed_layout_Java31ByteSalt) hisR ?_
  intro p e s m args below meth c s₁ Bd hml0 hP hK
  obtain ⟨rfl, hZ, hh⟩ := hP
  have hx := Bd.exec
  have hby := Bd.bytes
  have hml : c.maxLocals = 3 := hml0
  have hown : s.vm.findClass "com/example/fireweed/fireweed/layout/Java31ByteSalt" = some m.cls := findClass_of_methodNamed Bd.named
  have hnm := (name_of_methodNamed Bd.named Bd.method).1
  have X0 : Stand p l e ({ frames := 1, cells := 0, slots := 0, locals := 12 } : Room) s m #[(.ref a0), (.int (-2147483648 : Int32))] below meth c s₁ [] 0 0 := Stand.of_body Bd
  have e0 : s₁.heap = h0 := by rw [← hh, Bd.state]; rfl
  have N0 := Fr.nil n0
  have pre0 : ∀ t, Steps p.tables e below (s₁.setTop (mkF m 0 #[.val (.ref a0), .val (.int (-2147483648 : Int32)), .unset] [])) t → Steps p.tables e below (s₁.setTop (entryFrame m #[(.ref a0), (.int (-2147483648 : Int32))] 3)) t := fun t k => castTop (ef_rm17b m a0) k
  obtain ⟨_, _, ⟨T1, L1, k1', n1'⟩, -, X1, ⟨Lc1, hQ1, l1, y1, z1⟩, st1⟩ := Jvm.LawKit.callS X0 hx (y := (⟨"java/lang/Math", "abs", "(I)I"⟩ : MethodName)) hown (mvT hZ (hw _ (List.mem_of_getElem? (i := 107) rfl))) (mvT hZ (hw _ (List.mem_of_getElem? (i := 108) rfl))) (mvT hZ (hw _ (List.mem_of_getElem? (i := 109) rfl))) (mvT hZ (hw _ (List.mem_of_getElem? (i := 110) rfl))) (by decide) (backOf (W := 0) (rm18 l Z az hw []  h0 n0 Z0) hZ (hw _ (List.mem_of_getElem? (i := 110) rfl)) (hw _ (List.mem_of_getElem? (i := 109) rfl)) (by decide) (by decide)) (g := (mkF m 1 #[.val (.ref a0), .val (.int (-2147483648 : Int32)), .unset] [(.int (-2147483648 : Int32))])) rfl (by rw [hml]; rfl) (argsL := [(.int (-2147483648 : Int32))]) (rest := []) (lenOf pd_8 rfl) rfl (by show 2 * 0 + _ ≤ _; exact Nat.le_of_eq rfl) (hb hby d17_1) (fun _ _ => ⟨rfl, e0, (by decide : 0 + 0 ≤ _), (by decide : 0 + 0 ≤ _)⟩)
  dsimp only [Pt.U, Pt.locs, Pt.cells, Pt.slots] at X1 l1 y1 z1 st1 hQ1
  subst l1 y1 z1
  obtain ⟨rfl, N1q, e1⟩ := hQ1
  have N1 := Fr.app N0 N1q
  obtain ⟨T2, X2, e2, st2⟩ := getF X1 hx hZ hown (host := "") (Or.inl (hw _ (List.mem_of_getElem? (i := 100) rfl))) Via.refl e1 F_mask_a0 (g := (mkF m 6 #[.val (.ref a0), .val (.int (-2147483648 : Int32)), .val (.int (-2147483648 : Int32))] [(.ref a0)])) rfl rfl (hb hby d17_6)
  obtain ⟨T3, X3, e3, st3⟩ := getF X2 hx hZ hown (host := "") (Or.inl (hw _ (List.mem_of_getElem? (i := 91) rfl))) Via.refl e2 F_buckets_a0 (g := (mkF m 23 #[.val (.ref a0), .val (.int (-2147483648 : Int32)), .val (.int (-2147483648 : Int32))] [(.ref a0), (.int (-2147483648 : Int32))])) rfl rfl (hb hby d17_23)
  obtain ⟨fs, hr, hrun, hended, hW, hsame⟩ := X3.leave (v := some (.int (((-2147483648 : Int32) % w_buckets_a0).toInt8.toInt32))) (fun h => by rw [Bd.returns] at h; cases h)
  refine ⟨_, _, pre0 _ ?_, hrun, hended, _, _, rfl, ?_, ⟨_, rfl⟩, hW, hsame.mono (by decide) (by decide)⟩
  · show Steps p.tables e below (s₁.setTop (mkF m 0 #[.val (.ref a0), .val (.int (-2147483648 : Int32)), .unset] [])) _
    refine XS.iloadN X0.here hx rfl (hb hby d17_0) rfl ?_
    show Steps p.tables e below (s₁.setTop (mkF m 1 #[.val (.ref a0), .val (.int (-2147483648 : Int32)), .unset] [(.int (-2147483648 : Int32))])) _
    refine st1 _ ?_
    show Steps p.tables e below (T1.setTop (mkF m 4 #[.val (.ref a0), .val (.int (-2147483648 : Int32)), .unset] [(.int (-2147483648 : Int32))])) _
    refine XS.istoreN X1.here hx rfl (hb hby d17_4) rfl (l' := #[.val (.ref a0), .val (.int (-2147483648 : Int32)), .val (.int (-2147483648 : Int32))]) rfl ?_
    show Steps p.tables e below (T1.setTop (mkF m 5 #[.val (.ref a0), .val (.int (-2147483648 : Int32)), .val (.int (-2147483648 : Int32))] [])) _
    refine XS.aloadN X1.here hx rfl (hb hby d17_5) rfl rfl ?_
    show Steps p.tables e below (T1.setTop (mkF m 6 #[.val (.ref a0), .val (.int (-2147483648 : Int32)), .val (.int (-2147483648 : Int32))] [(.ref a0)])) _
    refine st2 _ ?_
    show Steps p.tables e below (T2.setTop (mkF m 9 #[.val (.ref a0), .val (.int (-2147483648 : Int32)), .val (.int (-2147483648 : Int32))] [(.int (-1 : Int32))])) _
    refine XS.ifYes X2.here hx rfl (pc0 := 9) (pc' := 21) rfl (hb hby d17_9) rfl ((if0 _ _).trans (tlt (by decide : (-1 : Int32) < (0 : Int32))).1) (by decide) (by decide) ?_
    show Steps p.tables e below (T2.setTop (mkF m 21 #[.val (.ref a0), .val (.int (-2147483648 : Int32)), .val (.int (-2147483648 : Int32))] [])) _
    refine XS.iloadN X2.here hx rfl (hb hby d17_21) rfl ?_
    show Steps p.tables e below (T2.setTop (mkF m 22 #[.val (.ref a0), .val (.int (-2147483648 : Int32)), .val (.int (-2147483648 : Int32))] [(.int (-2147483648 : Int32))])) _
    refine XS.aloadN X2.here hx rfl (hb hby d17_22) rfl rfl ?_
    show Steps p.tables e below (T2.setTop (mkF m 23 #[.val (.ref a0), .val (.int (-2147483648 : Int32)), .val (.int (-2147483648 : Int32))] [(.ref a0), (.int (-2147483648 : Int32))])) _
    refine st3 _ ?_
    show Steps p.tables e below (T3.setTop (mkF m 26 #[.val (.ref a0), .val (.int (-2147483648 : Int32)), .val (.int (-2147483648 : Int32))] [(.int w_buckets_a0), (.int (-2147483648 : Int32))])) _
    refine iremM X3 hx rfl (hb hby d17_26) rfl hc2 ?_
    show Steps p.tables e below (T3.setTop (mkF m 27 #[.val (.ref a0), .val (.int (-2147483648 : Int32)), .val (.int (-2147483648 : Int32))] [(.int ((-2147483648 : Int32) % w_buckets_a0))])) _
    refine XS.i2b X3.here hx rfl (hb hby d17_27) rfl ?_
    show Steps p.tables e below (T3.setTop (mkF m 28 #[.val (.ref a0), .val (.int (-2147483648 : Int32)), .val (.int (-2147483648 : Int32))] [(.int (((-2147483648 : Int32) % w_buckets_a0).toInt8.toInt32))])) _
    exact retN X3 hx (t := .byte) Bd.returns (by simp) (hb hby d17_28) (fun f acts q1 q2 q3 => by rw [(own_nb _)]; exact hr f acts q1 q2 q3)
  · show Q17b Z a0 w_buckets_a0 h0 n0 _ T3.heap _
    rw [e3]
    exact ⟨rfl, N1, rfl⟩
theorem d6_0 : decode prog_7_method_1_code 0 = .ok (.aload_n 0, 1) := by decide +kernel
theorem d6_1 : decode prog_7_method_1_code 1 = .ok (.aload_n 2, 1) := by decide +kernel
theorem d6_2 : decode prog_7_method_1_code 2 = .ok (.invokespecial 3, 3) := by decide +kernel
theorem d6_5 : decode prog_7_method_1_code 5 = .ok (.iload_n 1, 1) := by decide +kernel
theorem d6_6 : decode prog_7_method_1_code 6 = .ok (.iconst 1, 1) := by decide +kernel
theorem d6_7 : decode prog_7_method_1_code 7 = .ok (.if_icmp .lt 10, 3) := by decide +kernel
theorem d6_10 : decode prog_7_method_1_code 10 = .ok (.iload_n 1, 1) := by decide +kernel
theorem d6_11 : decode prog_7_method_1_code 11 = .ok (.sipush 256, 3) := by decide +kernel
theorem d6_14 : decode prog_7_method_1_code 14 = .ok (.if_icmp .le 36, 3) := by decide +kernel
theorem d6_50 : decode prog_7_method_1_code 50 = .ok (.aload_n 0, 1) := by decide +kernel
theorem d6_51 : decode prog_7_method_1_code 51 = .ok (.iload_n 1, 1) := by decide +kernel
theorem d6_52 : decode prog_7_method_1_code 52 = .ok (.putfield 28, 3) := by decide +kernel
theorem d6_55 : decode prog_7_method_1_code 55 = .ok (.aload_n 0, 1) := by decide +kernel
theorem d6_56 : decode prog_7_method_1_code 56 = .ok (.iload_n 1, 1) := by decide +kernel
theorem d6_57 : decode prog_7_method_1_code 57 = .ok (.invokestatic 32, 3) := by decide +kernel
theorem d6_60 : decode prog_7_method_1_code 60 = .ok (.iconst 1, 1) := by decide +kernel
theorem d6_61 : decode prog_7_method_1_code 61 = .ok (.if_icmp .ne 9, 3) := by decide +kernel
theorem d6_64 : decode prog_7_method_1_code 64 = .ok (.iload_n 1, 1) := by decide +kernel
theorem d6_65 : decode prog_7_method_1_code 65 = .ok (.iconst 1, 1) := by decide +kernel
theorem d6_66 : decode prog_7_method_1_code 66 = .ok (.isub, 1) := by decide +kernel
theorem d6_67 : decode prog_7_method_1_code 67 = .ok (.goto 4, 3) := by decide +kernel
theorem d6_71 : decode prog_7_method_1_code 71 = .ok (.putfield 36, 3) := by decide +kernel
theorem d6_74 : decode prog_7_method_1_code 74 = .ok (.aload_n 0, 1) := by decide +kernel
theorem d6_75 : decode prog_7_method_1_code 75 = .ok (.aload_n 0, 1) := by decide +kernel
theorem d6_76 : decode prog_7_method_1_code 76 = .ok (.ldc 39, 2) := by decide +kernel
theorem d6_78 : decode prog_7_method_1_code 78 = .ok (.invokevirtual 40, 3) := by decide +kernel
theorem pd_10 : parseMethodDescriptor "(I)B" = some ⟨[.int], some .byte⟩ := by decide +kernel
theorem d6_81 : decode prog_7_method_1_code 81 = .ok (.invokestatic 44, 3) := by decide +kernel
theorem pd_11 : parseMethodDescriptor "(B)I" = some ⟨[.byte], some .int⟩ := by decide +kernel
theorem d6_84 : decode prog_7_method_1_code 84 = .ok (.putfield 50, 3) := by decide +kernel
theorem d6_87 : decode prog_7_method_1_code 87 = .ok (.return_, 1) := by decide +kernel
theorem ef_rm6pA (m : MethodId) (a0 : Addr) (p1 : Int32) (a2 : Addr) : entryFrame m #[(.ref a0), (.int p1), (.ref a2)] 3 = mkF m 0 #[.val (.ref a0), .val (.int p1), .val (.ref a2)] [] := by first | (simp [entryFrame, mkF, argsToLocals, Value.category]; done) | rfl
def Q6pA (Z : State) (a0 : Addr) (p1 : Int32) (a2 : Addr) (aB : Addr) (kB : ClassId) (pv : Int32) (aU : Addr) (s_COMPACT_STRINGS : Int32) (h0 : Heap) (n0 : Nat) (v : Option Value) (h : Heap) (L : List Loc) : Prop := ∃ r0 : Addr, v = none ∧ Fr n0 L ∧ h0.size ≤ r0 ∧ Keep h0 h [a0] ∧ Exa Z h a0 "com/example/fireweed/fireweed/layout/Java31ByteSalt" ∧ Fld Z h a0 "com/example/fireweed/fireweed/layout/Salt" "suffix" "Ljava/lang/String;" (.ref a2) ∧ Fld Z h a0 "com/example/fireweed/fireweed/layout/Salt" "suffixBytes" "[B" (.ref r0) ∧ Fld Z h a0 "com/example/fireweed/fireweed/layout/Java31ByteSalt" "buckets" "I" (.int p1) ∧ Fld Z h a0 "com/example/fireweed/fireweed/layout/Java31ByteSalt" "mask" "I" (.int (p1 - (1 : Int32))) ∧ Fld Z h a0 "com/example/fireweed/fireweed/layout/Java31ByteSalt" "overflow" "I" (.int ((((-2147483648 : Int32) &&& (p1 - (1 : Int32))).toInt8.toInt32) &&& (255 : Int32))) ∧ Exa Z h r0 "[B" ∧ Arv Z h r0 kB .byte (1 : Int32) [(.int pv)] (.int (0 : Int32))
set_option maxRecDepth 65536 in
set_option maxHeartbeats 40000000 in
theorem rm6pA (l : Launch) (Z : State) (az : Array Value) (hw : ∀ d ∈ tables_1, d.before az Z = true) (ws : List Jvm.Cond) (a0 : Addr) (p1 : Int32) (a2 : Addr) (aB : Addr) (kB : ClassId) (pv : Int32) (aU : Addr) (s_COMPACT_STRINGS : Int32) (h0 : Heap) (n0 : Nat) (Z0 : n0 ≤ h0.size) (E_a0 : Exa Z h0 a0 "com/example/fireweed/fireweed/layout/Java31ByteSalt") (F_suffix_a0 : Fld Z h0 a0 "com/example/fireweed/fireweed/layout/Salt" "suffix" "Ljava/lang/String;" .null) (F_suffixBytes_a0 : Fld Z h0 a0 "com/example/fireweed/fireweed/layout/Salt" "suffixBytes" "[B" .null) (F_buckets_a0 : Fld Z h0 a0 "com/example/fireweed/fireweed/layout/Java31ByteSalt" "buckets" "I" (.int (0 : Int32))) (F_mask_a0 : Fld Z h0 a0 "com/example/fireweed/fireweed/layout/Java31ByteSalt" "mask" "I" (.int (0 : Int32))) (F_overflow_a0 : Fld Z h0 a0 "com/example/fireweed/fireweed/layout/Java31ByteSalt" "overflow" "I" (.int (0 : Int32))) (E_a2 : Exa Z h0 a2 "java/lang/String") (F_coder_a2 : Fld Z h0 a2 "java/lang/String" "coder" "B" (.int (0 : Int32))) (F_value_a2 : Fld Z h0 a2 "java/lang/String" "value" "[B" (.ref aB)) (V_aB : Arv Z h0 aB kB .byte (1 : Int32) [(.int pv)] (.int (0 : Int32))) (E_aB : Exa Z h0 aB "[B") (S_INSTANCE : Sta Z h0 "sun/nio/cs/UTF_8" "INSTANCE" "Lsun/nio/cs/UTF_8;" (.ref aU)) (S_UTF_8 : Sta Z h0 "java/nio/charset/StandardCharsets" "UTF_8" "Ljava/nio/charset/Charset;" (.ref aU)) (hc13 : ¬ (pv < (0 : Int32))) (S_COMPACT_STRINGS : Sta Z h0 "java/lang/String" "COMPACT_STRINGS" "Z" (.int s_COMPACT_STRINGS)) (g_a0 : n0 ≤ a0) (hne_a2_a0 : a2 ≠ a0) (hne_aB_a0 : aB ≠ a0) (hc18 : ¬ (s_COMPACT_STRINGS = (0 : Int32))) (hc19 : ¬ (p1 < (1 : Int32))) (hc20 : ¬ ((256 : Int32) < p1)) (hc21 : (own_bc p1) = (1 : Int32)) (hc22 : ¬ ((p1 - (1 : Int32)) < (0 : Int32))) :
    MetFree l (⟨"com/example/fireweed/fireweed/layout/Java31ByteSalt", "<init>", "(ILjava/lang/String;)V"⟩ : MethodName) (head1 (Jvm.Cond.code (⟨"com/example/fireweed/fireweed/layout/Java31ByteSalt", "<init>", "(ILjava/lang/String;)V"⟩ : MethodName) prog_7_method_1_code 3 none :: ws) ({ frames := 7, cells := 3, slots := 29, locals := 104 } : Room)) (fun a U => a = #[(.ref a0), (.int p1), (.ref a2)] ∧ Z.Warmed39 U.vm ∧ U.heap = h0) (fun _ _ _ _ _ => True) (fun _ U o U' => ∃ v L, o = .returned v ∧ Q6pA Z a0 p1 a2 aB kB pv aU s_COMPACT_STRINGS h0 n0 v U'.heap L ∧ ReturnedEndW U o U' L ({ frames := 7, cells := 3, slots := 29, locals := 104 } : Room).cells ({ frames := 7, cells := 3, slots := 29, locals := 104 } : Room).slots) := by
  refine MetFree.of_bodySF (plainFor_of_name pn_com_example_fireweed_fireweed_layout_Java31ByteSalt) hisR ?_
  intro p e s m args below meth c s₁ Bd hml0 hP hK
  obtain ⟨rfl, hZ, hh⟩ := hP
  have hx := Bd.exec
  have hby := Bd.bytes
  have hml : c.maxLocals = 3 := hml0
  have hown : s.vm.findClass "com/example/fireweed/fireweed/layout/Java31ByteSalt" = some m.cls := findClass_of_methodNamed Bd.named
  have hnm := (name_of_methodNamed Bd.named Bd.method).1
  have X0 : Stand p l e ({ frames := 7, cells := 3, slots := 29, locals := 104 } : Room) s m #[(.ref a0), (.int p1), (.ref a2)] below meth c s₁ [] 0 0 := Stand.of_body Bd
  have e0 : s₁.heap = h0 := by rw [← hh, Bd.state]; rfl
  have N0 := Fr.nil n0
  have pre0 : ∀ t, Steps p.tables e below (s₁.setTop (mkF m 0 #[.val (.ref a0), .val (.int p1), .val (.ref a2)] [])) t → Steps p.tables e below (s₁.setTop (entryFrame m #[(.ref a0), (.int p1), (.ref a2)] 3)) t := fun t k => castTop (ef_rm6pA m a0 p1 a2) k
  have hS0 : s.Since s.vm 0 := (State.WarmedH.refl s).since 0
  have wS : ∀ a ∈ Bundle.stringAtoms, a.before az Z = true := fun d hd => by
    simp only [Bundle.stringAtoms, List.mem_cons, List.not_mem_nil, or_false] at hd
    rcases hd with rfl | rfl | rfl | rfl | rfl | rfl | rfl
    · exact (hw _ (List.mem_of_getElem? (i := 2) rfl))
    · exact (hw _ (List.mem_of_getElem? (i := 10) rfl))
    · exact (hw _ (List.mem_of_getElem? (i := 14) rfl))
    · exact (hw _ (List.mem_of_getElem? (i := 23) rfl))
    · exact (hw _ (List.mem_of_getElem? (i := 25) rfl))
    · exact (hw _ (List.mem_of_getElem? (i := 44) rfl))
    · exact (hw _ (List.mem_of_getElem? (i := 45) rfl))
  obtain ⟨_, _, ⟨T1, L1, k1', n1'⟩, -, Y1, yS1, yg1, ⟨Lc1, hQ1, l1, y1, z1⟩, st1⟩ := X0.specialBackS hx (y := (⟨"com/example/fireweed/fireweed/layout/BucketSalt", "<init>", "(Ljava/lang/String;)V"⟩ : MethodName)) rfl hown (mvT hZ (hw _ (List.mem_of_getElem? (i := 32) rfl))) (mvT hZ (hw _ (List.mem_of_getElem? (i := 33) rfl))) (mvT hZ (hw _ (List.mem_of_getElem? (i := 36) rfl))) (by decide) (backOfS (W := 0) (rm7p l Z az hw [] a0 a2 aB kB pv aU s_COMPACT_STRINGS h0 n0 Z0 E_a0 F_suffix_a0 F_suffixBytes_a0 F_buckets_a0 F_mask_a0 F_overflow_a0 E_a2 F_coder_a2 F_value_a2 V_aB E_aB S_INSTANCE S_UTF_8 hc13 S_COMPACT_STRINGS g_a0 hne_a2_a0 hne_aB_a0 hc18) hZ (hw _ (List.mem_of_getElem? (i := 36) rfl)) (hw _ (List.mem_of_getElem? (i := 35) rfl)) (by decide) (by decide)) (g := (mkF m 2 #[.val (.ref a0), .val (.int p1), .val (.ref a2)] [(.ref a2), (.ref a0)])) rfl (by rw [hml]; rfl) (Steps.refl _) (a := a0) (argsL := [(.ref a2)]) (rest := []) (lenOf pd_7 rfl) rfl (by show 2 * 0 + _ ≤ _; exact Nat.le_of_eq rfl) (hb hby d6_2) (fun _ _ => ⟨rfl, e0, (by decide : 0 + 3 ≤ _), (by decide : 0 + 29 ≤ _)⟩)
  dsimp only [Pt.U, Pt.locs, Pt.cells, Pt.slots] at Y1 yS1 yg1 l1 y1 z1 st1 hQ1
  subst l1 y1 z1
  obtain ⟨X1, hS1, hZ1, hown1⟩ := rebS (s := s) (vm0 := s.vm) hS0 (by rw [e0]; exact (Nat.zero_le _)) Y1 yS1 yg1 hZ hown
  obtain ⟨b1_0, rfl, N1q, s1_0, kq1, pf1_0, pf1_1, pf1_2, pf1_3, pf1_4, pf1_5, pf1_6, pf1_7⟩ := hQ1
  have N1 := Fr.app N0 N1q
  have g_b1_0 : n0 ≤ b1_0 := Nat.le_trans Z0 s1_0
  have sz_b1_0 : h0.size ≤ b1_0 := Nat.le_trans (Nat.le_refl _) s1_0
  have K1 : Keep h0 T1.heap [a0] := (Keep.refl h0 [a0]).trans kq1 (allS (Or.inl (List.mem_of_getElem? (i := 0) rfl)) all0)
  have Z1 : n0 ≤ T1.heap.size := Nat.le_trans Z0 kq1.1
  obtain ⟨T2, h2, X2, e2, W2, st2⟩ := putF X1 hx hZ1 hown1 (host := "") (Or.inl (hw _ (List.mem_of_getElem? (i := 91) rfl))) Via.refl rfl pf1_3 pf1_0 (Or.inr ⟨(hw _ (List.mem_of_getElem? (i := 92) rfl)), rfl, hnm⟩) (hw _ (List.mem_of_getElem? (i := 27) rfl)) (ty := .int) (by decide) rfl rfl (g := (mkF m 52 #[.val (.ref a0), .val (.int p1), .val (.ref a2)] [(.int p1), (.ref a0)])) rfl rfl (hb hby d6_52)
  have K2 : Keep h0 h2 [a0] := K1.wr W2 (Or.inl (List.mem_of_getElem? (i := 0) rfl))
  have Fw2 := pf1_3.same W2
  have Z2 : n0 ≤ h2.size := Nat.le_trans Z1 (Keep.of_wr W2).1
  have N2 := Fr.snoc X2 N1 g_a0
  obtain ⟨_, _, ⟨T3, L3, k3', n3'⟩, -, X3, ⟨Lc3, hQ3, l3, y3, z3⟩, st3⟩ := Jvm.LawKit.callS X2 hx (y := (⟨"java/lang/Integer", "bitCount", "(I)I"⟩ : MethodName)) hown1 (mvT hZ1 (hw _ (List.mem_of_getElem? (i := 93) rfl))) (mvT hZ1 (hw _ (List.mem_of_getElem? (i := 94) rfl))) (mvT hZ1 (hw _ (List.mem_of_getElem? (i := 95) rfl))) (mvT hZ1 (hw _ (List.mem_of_getElem? (i := 96) rfl))) (by decide) (backOf (W := 1) (rm16 l Z az hw [] p1 h2 n0 Z2) hZ1 (hw _ (List.mem_of_getElem? (i := 96) rfl)) (hw _ (List.mem_of_getElem? (i := 95) rfl)) (by decide) (by decide)) (g := (mkF m 57 #[.val (.ref a0), .val (.int p1), .val (.ref a2)] [(.int p1), (.ref a0)])) rfl (by rw [hml]; rfl) (argsL := [(.int p1)]) (rest := [(.ref a0)]) (lenOf pd_8 rfl) rfl (by show 2 * 0 + _ ≤ _; exact Nat.le_of_eq rfl) (hb hby d6_57) (fun _ _ => ⟨rfl, e2, (by decide : 3 + 0 ≤ _), (by decide : 29 + 0 ≤ _)⟩)
  dsimp only [Pt.U, Pt.locs, Pt.cells, Pt.slots] at X3 l3 y3 z3 st3 hQ3
  subst l3 y3 z3
  obtain ⟨rfl, N3q, e3⟩ := hQ3
  have N3 := Fr.app N2 N3q
  have F_a0_mask_u4 : Fld Z h2 a0 "com/example/fireweed/fireweed/layout/Java31ByteSalt" "mask" "I" (.int (0 : Int32)) := (pf1_4.other W2 (Or.inr (slot_ne (Or.inr (hw _ (List.mem_of_getElem? (i := 101) rfl))) (Or.inr (hw _ (List.mem_of_getElem? (i := 92) rfl))) (by decide) (t := .int) (t' := .int) (by decide) (by decide))))
  have E_a0_u5 : Exa Z h2 a0 "com/example/fireweed/fireweed/layout/Java31ByteSalt" := (pf1_0.wr W2)
  obtain ⟨T6, h6, X6, e6, W6, st6⟩ := putF X3 hx hZ1 hown1 (host := "") (Or.inl (hw _ (List.mem_of_getElem? (i := 100) rfl))) Via.refl e3 F_a0_mask_u4 E_a0_u5 (Or.inr ⟨(hw _ (List.mem_of_getElem? (i := 101) rfl)), rfl, hnm⟩) (hw _ (List.mem_of_getElem? (i := 27) rfl)) (ty := .int) (by decide) rfl rfl (g := (mkF m 71 #[.val (.ref a0), .val (.int p1), .val (.ref a2)] [(.int (p1 - (1 : Int32))), (.ref a0)])) rfl rfl (hb hby d6_71)
  have K6 : Keep h0 h6 [a0] := K2.wr W6 (Or.inl (List.mem_of_getElem? (i := 0) rfl))
  have Fw6 := F_a0_mask_u4.same W6
  have Z6 : n0 ≤ h6.size := Nat.le_trans Z2 (Keep.of_wr W6).1
  have N6 := Fr.snoc X6 N3 g_a0
  have E_a0_u8 : Exa Z h6 a0 "com/example/fireweed/fireweed/layout/Java31ByteSalt" := (E_a0_u5.wr W6)
  obtain ⟨cq7, q7, q7'⟩ := E_a0_u8.cell
  obtain ⟨_, _, ⟨T7, L7, k7', n7'⟩, -, X7, ⟨Lc7, hQ7, l7, y7, z7⟩, st7⟩ := X6.privateBack hx (y := (⟨"com/example/fireweed/fireweed/layout/Java31ByteSalt", "saltOf", "(I)B"⟩ : MethodName)) hown1 (mvT hZ1 (hw _ (List.mem_of_getElem? (i := 103) rfl))) (mvT hZ1 (hw _ (List.mem_of_getElem? (i := 104) rfl))) (own_priv (mvT hZ1 (hw _ (List.mem_of_getElem? (i := 27) rfl))) (Cond.privateMethod_at (mvP hZ1 (hw _ (List.mem_of_getElem? (i := 105) rfl)) (args := #[]))) (mvT hZ1 (hw _ (List.mem_of_getElem? (i := 104) rfl))) (by decide)) (Cond.privateMethod_at (mvP hZ1 (hw _ (List.mem_of_getElem? (i := 105) rfl)) (args := #[]))) (mvT hZ1 (hw _ (List.mem_of_getElem? (i := 106) rfl))) (by decide) (backOf (W := 1) (rm17m l Z az hw [] a0 (p1 - (1 : Int32)) h6 n0 Z6 Fw6 hc22) hZ1 (hw _ (List.mem_of_getElem? (i := 106) rfl)) (hw _ (List.mem_of_getElem? (i := 28) rfl)) (by decide) (by decide)) (g := (mkF m 78 #[.val (.ref a0), .val (.int p1), .val (.ref a2)] [(.int (-2147483648 : Int32)), (.ref a0), (.ref a0)])) rfl (by rw [hml]; rfl) (Steps.refl _) (a := a0) (by rw [e6]; exact q7) q7' (argsL := [(.int (-2147483648 : Int32))]) (rest := [(.ref a0)]) (lenOf pd_10 rfl) rfl (by show 2 * 0 + _ ≤ _; exact Nat.le_of_eq rfl) (hb hby d6_78) (fun _ _ => ⟨rfl, e6, (by decide : 3 + 0 ≤ _), (by decide : 29 + 0 ≤ _)⟩)
  dsimp only [Pt.U, Pt.locs, Pt.cells, Pt.slots] at X7 l7 y7 z7 st7 hQ7
  subst l7 y7 z7
  obtain ⟨rfl, N7q, e7⟩ := hQ7
  have N7 := Fr.app N6 N7q
  obtain ⟨_, _, ⟨T9, L9, k9', n9'⟩, -, X9, ⟨Lc9, hQ9, l9, y9, z9⟩, st9⟩ := Jvm.LawKit.callS X7 hx (y := (⟨"java/lang/Byte", "toUnsignedInt", "(B)I"⟩ : MethodName)) hown1 (mvT hZ1 (hw _ (List.mem_of_getElem? (i := 111) rfl))) (mvT hZ1 (hw _ (List.mem_of_getElem? (i := 112) rfl))) (mvT hZ1 (hw _ (List.mem_of_getElem? (i := 113) rfl))) (mvT hZ1 (hw _ (List.mem_of_getElem? (i := 114) rfl))) (by decide) (backOf (W := 1) (rm19 l Z az hw [] (((-2147483648 : Int32) &&& (p1 - (1 : Int32))).toInt8.toInt32) h6 n0 Z6) hZ1 (hw _ (List.mem_of_getElem? (i := 114) rfl)) (hw _ (List.mem_of_getElem? (i := 113) rfl)) (by decide) (by decide)) (g := (mkF m 81 #[.val (.ref a0), .val (.int p1), .val (.ref a2)] [(.int (((-2147483648 : Int32) &&& (p1 - (1 : Int32))).toInt8.toInt32)), (.ref a0)])) rfl (by rw [hml]; rfl) (argsL := [(.int (((-2147483648 : Int32) &&& (p1 - (1 : Int32))).toInt8.toInt32))]) (rest := [(.ref a0)]) (lenOf pd_11 rfl) rfl (by show 2 * 0 + _ ≤ _; exact Nat.le_of_eq rfl) (hb hby d6_81) (fun _ _ => ⟨rfl, e7, (by decide : 3 + 0 ≤ _), (by decide : 29 + 0 ≤ _)⟩)
  dsimp only [Pt.U, Pt.locs, Pt.cells, Pt.slots] at X9 l9 y9 z9 st9 hQ9
  subst l9 y9 z9
  obtain ⟨rfl, N9q, e9⟩ := hQ9
  have N9 := Fr.app N7 N9q
  have F_a0_overflow_u10 : Fld Z h6 a0 "com/example/fireweed/fireweed/layout/Java31ByteSalt" "overflow" "I" (.int (0 : Int32)) := ((pf1_5.other W2 (Or.inr (slot_ne (Or.inr (hw _ (List.mem_of_getElem? (i := 116) rfl))) (Or.inr (hw _ (List.mem_of_getElem? (i := 92) rfl))) (by decide) (t := .int) (t' := .int) (by decide) (by decide)))).other W6 (Or.inr (slot_ne (Or.inr (hw _ (List.mem_of_getElem? (i := 116) rfl))) (Or.inr (hw _ (List.mem_of_getElem? (i := 101) rfl))) (by decide) (t := .int) (t' := .int) (by decide) (by decide))))
  obtain ⟨T11, h11, X11, e11, W11, st11⟩ := putF X9 hx hZ1 hown1 (host := "") (Or.inl (hw _ (List.mem_of_getElem? (i := 115) rfl))) Via.refl e9 F_a0_overflow_u10 E_a0_u8 (Or.inr ⟨(hw _ (List.mem_of_getElem? (i := 116) rfl)), rfl, hnm⟩) (hw _ (List.mem_of_getElem? (i := 27) rfl)) (ty := .int) (by decide) rfl rfl (g := (mkF m 84 #[.val (.ref a0), .val (.int p1), .val (.ref a2)] [(.int ((((-2147483648 : Int32) &&& (p1 - (1 : Int32))).toInt8.toInt32) &&& (255 : Int32))), (.ref a0)])) rfl rfl (hb hby d6_84)
  have K11 : Keep h0 h11 [a0] := K6.wr W11 (Or.inl (List.mem_of_getElem? (i := 0) rfl))
  have Fw11 := F_a0_overflow_u10.same W11
  have Z11 : n0 ≤ h11.size := Nat.le_trans Z6 (Keep.of_wr W11).1
  have N11 := Fr.snoc X11 N9 g_a0
  have E_a0_u12 : Exa Z h11 a0 "com/example/fireweed/fireweed/layout/Java31ByteSalt" := (E_a0_u8.wr W11)
  have F_a0_suffix_u13 : Fld Z h11 a0 "com/example/fireweed/fireweed/layout/Salt" "suffix" "Ljava/lang/String;" (.ref a2) := (((pf1_1.other W2 (Or.inr (slot_ne (Or.inr (hw _ (List.mem_of_getElem? (i := 52) rfl))) (Or.inr (hw _ (List.mem_of_getElem? (i := 92) rfl))) (by decide) (t := (.object "java/lang/String")) (t' := .int) (by decide) (by decide)))).other W6 (Or.inr (slot_ne (Or.inr (hw _ (List.mem_of_getElem? (i := 52) rfl))) (Or.inr (hw _ (List.mem_of_getElem? (i := 101) rfl))) (by decide) (t := (.object "java/lang/String")) (t' := .int) (by decide) (by decide)))).other W11 (Or.inr (slot_ne (Or.inr (hw _ (List.mem_of_getElem? (i := 52) rfl))) (Or.inr (hw _ (List.mem_of_getElem? (i := 116) rfl))) (by decide) (t := (.object "java/lang/String")) (t' := .int) (by decide) (by decide))))
  have F_a0_suffixBytes_u14 : Fld Z h11 a0 "com/example/fireweed/fireweed/layout/Salt" "suffixBytes" "[B" (.ref b1_0) := (((pf1_2.other W2 (Or.inr (slot_ne (Or.inr (hw _ (List.mem_of_getElem? (i := 90) rfl))) (Or.inr (hw _ (List.mem_of_getElem? (i := 92) rfl))) (by decide) (t := (.array .byte)) (t' := .int) (by decide) (by decide)))).other W6 (Or.inr (slot_ne (Or.inr (hw _ (List.mem_of_getElem? (i := 90) rfl))) (Or.inr (hw _ (List.mem_of_getElem? (i := 101) rfl))) (by decide) (t := (.array .byte)) (t' := .int) (by decide) (by decide)))).other W11 (Or.inr (slot_ne (Or.inr (hw _ (List.mem_of_getElem? (i := 90) rfl))) (Or.inr (hw _ (List.mem_of_getElem? (i := 116) rfl))) (by decide) (t := (.array .byte)) (t' := .int) (by decide) (by decide))))
  have F_a0_buckets_u15 : Fld Z h11 a0 "com/example/fireweed/fireweed/layout/Java31ByteSalt" "buckets" "I" (.int p1) := ((Fw2.other W6 (Or.inr (slot_ne (Or.inr (hw _ (List.mem_of_getElem? (i := 92) rfl))) (Or.inr (hw _ (List.mem_of_getElem? (i := 101) rfl))) (by decide) (t := .int) (t' := .int) (by decide) (by decide)))).other W11 (Or.inr (slot_ne (Or.inr (hw _ (List.mem_of_getElem? (i := 92) rfl))) (Or.inr (hw _ (List.mem_of_getElem? (i := 116) rfl))) (by decide) (t := .int) (t' := .int) (by decide) (by decide))))
  have F_a0_mask_u16 : Fld Z h11 a0 "com/example/fireweed/fireweed/layout/Java31ByteSalt" "mask" "I" (.int (p1 - (1 : Int32))) := (Fw6.other W11 (Or.inr (slot_ne (Or.inr (hw _ (List.mem_of_getElem? (i := 101) rfl))) (Or.inr (hw _ (List.mem_of_getElem? (i := 116) rfl))) (by decide) (t := .int) (t' := .int) (by decide) (by decide))))
  have E_b1_0_u17 : Exa Z h11 b1_0 "[B" := (((pf1_6.wr W2).wr W6).wr W11)
  have ne_a0_b1_0 : a0 ≠ b1_0 := own_ne (Nat.lt_of_lt_of_le E_a0.lt s1_0)
  have V_b1_0_u18 : Arv Z h11 b1_0 kB .byte (1 : Int32) [(.int pv)] (.int (0 : Int32)) := (((pf1_7.other W2 (Ne.symm ne_a0_b1_0)).other W6 (Ne.symm ne_a0_b1_0)).other W11 (Ne.symm ne_a0_b1_0))
  obtain ⟨fs, hr, hrun, hended, hWE⟩ := X11.leaveW (s := s) hS1 (by rw [e11]; exact (Nat.le_trans (Nat.le_trans (Nat.le_trans (Nat.le_refl _) (Keep.of_wr W2).1) (Keep.of_wr W6).1) (Keep.of_wr W11).1)) (v := none) (fun _ => rfl)
  refine ⟨_, _, pre0 _ ?_, hrun, hended, _, _, rfl, ?_, hWE.1, hWE.2.1, hWE.2.2.1, hWE.2.2.2.mono (by decide) (by decide)⟩
  · show Steps p.tables e below (s₁.setTop (mkF m 0 #[.val (.ref a0), .val (.int p1), .val (.ref a2)] [])) _
    refine XS.aloadN X0.here hx rfl (hb hby d6_0) rfl rfl ?_
    show Steps p.tables e below (s₁.setTop (mkF m 1 #[.val (.ref a0), .val (.int p1), .val (.ref a2)] [(.ref a0)])) _
    refine XS.aloadN X0.here hx rfl (hb hby d6_1) rfl rfl ?_
    show Steps p.tables e below (s₁.setTop (mkF m 2 #[.val (.ref a0), .val (.int p1), .val (.ref a2)] [(.ref a2), (.ref a0)])) _
    refine st1.trans ?_
    show Steps p.tables e below (T1.setTop (mkF m 5 #[.val (.ref a0), .val (.int p1), .val (.ref a2)] [])) _
    refine XS.iloadN X1.here hx rfl (hb hby d6_5) rfl ?_
    show Steps p.tables e below (T1.setTop (mkF m 6 #[.val (.ref a0), .val (.int p1), .val (.ref a2)] [(.int p1)])) _
    refine XS.iconst X1.here hx rfl (hb hby d6_6) ?_
    show Steps p.tables e below (T1.setTop (mkF m 7 #[.val (.ref a0), .val (.int p1), .val (.ref a2)] [(.int (1 : Int32)), (.int p1)])) _
    refine XS.icmpNo X1.here hx rfl (hb hby d6_7) rfl (flt hc19).1 ?_
    show Steps p.tables e below (T1.setTop (mkF m 10 #[.val (.ref a0), .val (.int p1), .val (.ref a2)] [])) _
    refine XS.iloadN X1.here hx rfl (hb hby d6_10) rfl ?_
    show Steps p.tables e below (T1.setTop (mkF m 11 #[.val (.ref a0), .val (.int p1), .val (.ref a2)] [(.int p1)])) _
    refine XS.sipush X1.here hx rfl (hb hby d6_11) ?_
    show Steps p.tables e below (T1.setTop (mkF m 14 #[.val (.ref a0), .val (.int p1), .val (.ref a2)] [(.int (256 : Int32)), (.int p1)])) _
    refine XS.icmpYes X1.here hx rfl (pc0 := 14) (pc' := 50) rfl (hb hby d6_14) rfl (flt hc20).2.2.2 (by decide) (by decide) ?_
    show Steps p.tables e below (T1.setTop (mkF m 50 #[.val (.ref a0), .val (.int p1), .val (.ref a2)] [])) _
    refine XS.aloadN X1.here hx rfl (hb hby d6_50) rfl rfl ?_
    show Steps p.tables e below (T1.setTop (mkF m 51 #[.val (.ref a0), .val (.int p1), .val (.ref a2)] [(.ref a0)])) _
    refine XS.iloadN X1.here hx rfl (hb hby d6_51) rfl ?_
    show Steps p.tables e below (T1.setTop (mkF m 52 #[.val (.ref a0), .val (.int p1), .val (.ref a2)] [(.int p1), (.ref a0)])) _
    refine st2 _ ?_
    show Steps p.tables e below (T2.setTop (mkF m 55 #[.val (.ref a0), .val (.int p1), .val (.ref a2)] [])) _
    refine XS.aloadN X2.here hx rfl (hb hby d6_55) rfl rfl ?_
    show Steps p.tables e below (T2.setTop (mkF m 56 #[.val (.ref a0), .val (.int p1), .val (.ref a2)] [(.ref a0)])) _
    refine XS.iloadN X2.here hx rfl (hb hby d6_56) rfl ?_
    show Steps p.tables e below (T2.setTop (mkF m 57 #[.val (.ref a0), .val (.int p1), .val (.ref a2)] [(.int p1), (.ref a0)])) _
    refine st3 _ ?_
    show Steps p.tables e below (T3.setTop (mkF m 60 #[.val (.ref a0), .val (.int p1), .val (.ref a2)] [(.int (own_bc p1)), (.ref a0)])) _
    refine XS.iconst X3.here hx rfl (hb hby d6_60) ?_
    show Steps p.tables e below (T3.setTop (mkF m 61 #[.val (.ref a0), .val (.int p1), .val (.ref a2)] [(.int (1 : Int32)), (.int (own_bc p1)), (.ref a0)])) _
    refine XS.icmpNo X3.here hx rfl (hb hby d6_61) rfl (teq hc21).2 ?_
    show Steps p.tables e below (T3.setTop (mkF m 64 #[.val (.ref a0), .val (.int p1), .val (.ref a2)] [(.ref a0)])) _
    refine XS.iloadN X3.here hx rfl (hb hby d6_64) rfl ?_
    show Steps p.tables e below (T3.setTop (mkF m 65 #[.val (.ref a0), .val (.int p1), .val (.ref a2)] [(.int p1), (.ref a0)])) _
    refine XS.iconst X3.here hx rfl (hb hby d6_65) ?_
    show Steps p.tables e below (T3.setTop (mkF m 66 #[.val (.ref a0), .val (.int p1), .val (.ref a2)] [(.int (1 : Int32)), (.int p1), (.ref a0)])) _
    refine XS.isub X3.here hx rfl (hb hby d6_66) rfl ?_
    show Steps p.tables e below (T3.setTop (mkF m 67 #[.val (.ref a0), .val (.int p1), .val (.ref a2)] [(.int (p1 - (1 : Int32))), (.ref a0)])) _
    refine XS.goto X3.here hx rfl (pc0 := 67) (pc' := 71) rfl (hb hby d6_67) (by decide) (by decide) ?_
    show Steps p.tables e below (T3.setTop (mkF m 71 #[.val (.ref a0), .val (.int p1), .val (.ref a2)] [(.int (p1 - (1 : Int32))), (.ref a0)])) _
    refine st6 _ ?_
    show Steps p.tables e below (T6.setTop (mkF m 74 #[.val (.ref a0), .val (.int p1), .val (.ref a2)] [])) _
    refine XS.aloadN X6.here hx rfl (hb hby d6_74) rfl rfl ?_
    show Steps p.tables e below (T6.setTop (mkF m 75 #[.val (.ref a0), .val (.int p1), .val (.ref a2)] [(.ref a0)])) _
    refine XS.aloadN X6.here hx rfl (hb hby d6_75) rfl rfl ?_
    show Steps p.tables e below (T6.setTop (mkF m 76 #[.val (.ref a0), .val (.int p1), .val (.ref a2)] [(.ref a0), (.ref a0)])) _
    refine X6.ldcInt hx hown1 (mvT hZ1 (hw _ (List.mem_of_getElem? (i := 102) rfl))) (g := (mkF m 76 #[.val (.ref a0), .val (.int p1), .val (.ref a2)] [(.ref a0), (.ref a0)])) rfl (hb hby d6_76) _ ?_
    show Steps p.tables e below (T6.setTop (mkF m 78 #[.val (.ref a0), .val (.int p1), .val (.ref a2)] [(.int (-2147483648 : Int32)), (.ref a0), (.ref a0)])) _
    refine st7.trans ?_
    show Steps p.tables e below (T7.setTop (mkF m 81 #[.val (.ref a0), .val (.int p1), .val (.ref a2)] [(.int (((-2147483648 : Int32) &&& (p1 - (1 : Int32))).toInt8.toInt32)), (.ref a0)])) _
    refine st9 _ ?_
    show Steps p.tables e below (T9.setTop (mkF m 84 #[.val (.ref a0), .val (.int p1), .val (.ref a2)] [(.int ((((-2147483648 : Int32) &&& (p1 - (1 : Int32))).toInt8.toInt32) &&& (255 : Int32))), (.ref a0)])) _
    refine st11 _ ?_
    show Steps p.tables e below (T11.setTop (mkF m 87 #[.val (.ref a0), .val (.int p1), .val (.ref a2)] [])) _
    exact X11.returnOut hx Bd.returns (hb hby d6_87) hr
  · show Q6pA Z a0 p1 a2 aB kB pv aU s_COMPACT_STRINGS h0 n0 _ T11.heap _
    rw [e11]
    exact ⟨b1_0, rfl, N11, sz_b1_0, K11, E_a0_u12, F_a0_suffix_u13, F_a0_suffixBytes_u14, F_a0_buckets_u15, F_a0_mask_u16, Fw11, E_b1_0_u17, V_b1_0_u18⟩
theorem d6_70 : decode prog_7_method_1_code 70 = .ok (.iconst (-1), 1) := by decide +kernel
theorem ef_rm6pB (m : MethodId) (a0 : Addr) (p1 : Int32) (a2 : Addr) : entryFrame m #[(.ref a0), (.int p1), (.ref a2)] 3 = mkF m 0 #[.val (.ref a0), .val (.int p1), .val (.ref a2)] [] := by first | (simp [entryFrame, mkF, argsToLocals, Value.category]; done) | rfl
def Q6pB (Z : State) (a0 : Addr) (p1 : Int32) (a2 : Addr) (aB : Addr) (kB : ClassId) (pv : Int32) (aU : Addr) (s_COMPACT_STRINGS : Int32) (h0 : Heap) (n0 : Nat) (v : Option Value) (h : Heap) (L : List Loc) : Prop := ∃ r0 : Addr, v = none ∧ Fr n0 L ∧ h0.size ≤ r0 ∧ Keep h0 h [a0] ∧ Exa Z h a0 "com/example/fireweed/fireweed/layout/Java31ByteSalt" ∧ Fld Z h a0 "com/example/fireweed/fireweed/layout/Salt" "suffix" "Ljava/lang/String;" (.ref a2) ∧ Fld Z h a0 "com/example/fireweed/fireweed/layout/Salt" "suffixBytes" "[B" (.ref r0) ∧ Fld Z h a0 "com/example/fireweed/fireweed/layout/Java31ByteSalt" "buckets" "I" (.int p1) ∧ Fld Z h a0 "com/example/fireweed/fireweed/layout/Java31ByteSalt" "mask" "I" (.int (-1 : Int32)) ∧ Fld Z h a0 "com/example/fireweed/fireweed/layout/Java31ByteSalt" "overflow" "I" (.int ((((-2147483648 : Int32) % p1).toInt8.toInt32) &&& (255 : Int32))) ∧ Exa Z h r0 "[B" ∧ Arv Z h r0 kB .byte (1 : Int32) [(.int pv)] (.int (0 : Int32))
set_option maxRecDepth 65536 in
set_option maxHeartbeats 40000000 in
theorem rm6pB (l : Launch) (Z : State) (az : Array Value) (hw : ∀ d ∈ tables_1, d.before az Z = true) (ws : List Jvm.Cond) (a0 : Addr) (p1 : Int32) (a2 : Addr) (aB : Addr) (kB : ClassId) (pv : Int32) (aU : Addr) (s_COMPACT_STRINGS : Int32) (h0 : Heap) (n0 : Nat) (Z0 : n0 ≤ h0.size) (E_a0 : Exa Z h0 a0 "com/example/fireweed/fireweed/layout/Java31ByteSalt") (F_suffix_a0 : Fld Z h0 a0 "com/example/fireweed/fireweed/layout/Salt" "suffix" "Ljava/lang/String;" .null) (F_suffixBytes_a0 : Fld Z h0 a0 "com/example/fireweed/fireweed/layout/Salt" "suffixBytes" "[B" .null) (F_buckets_a0 : Fld Z h0 a0 "com/example/fireweed/fireweed/layout/Java31ByteSalt" "buckets" "I" (.int (0 : Int32))) (F_mask_a0 : Fld Z h0 a0 "com/example/fireweed/fireweed/layout/Java31ByteSalt" "mask" "I" (.int (0 : Int32))) (F_overflow_a0 : Fld Z h0 a0 "com/example/fireweed/fireweed/layout/Java31ByteSalt" "overflow" "I" (.int (0 : Int32))) (E_a2 : Exa Z h0 a2 "java/lang/String") (F_coder_a2 : Fld Z h0 a2 "java/lang/String" "coder" "B" (.int (0 : Int32))) (F_value_a2 : Fld Z h0 a2 "java/lang/String" "value" "[B" (.ref aB)) (V_aB : Arv Z h0 aB kB .byte (1 : Int32) [(.int pv)] (.int (0 : Int32))) (E_aB : Exa Z h0 aB "[B") (S_INSTANCE : Sta Z h0 "sun/nio/cs/UTF_8" "INSTANCE" "Lsun/nio/cs/UTF_8;" (.ref aU)) (S_UTF_8 : Sta Z h0 "java/nio/charset/StandardCharsets" "UTF_8" "Ljava/nio/charset/Charset;" (.ref aU)) (hc13 : ¬ (pv < (0 : Int32))) (S_COMPACT_STRINGS : Sta Z h0 "java/lang/String" "COMPACT_STRINGS" "Z" (.int s_COMPACT_STRINGS)) (g_a0 : n0 ≤ a0) (hne_a2_a0 : a2 ≠ a0) (hne_aB_a0 : aB ≠ a0) (hc18 : ¬ (s_COMPACT_STRINGS = (0 : Int32))) (hc19 : ¬ (p1 < (1 : Int32))) (hc20 : ¬ ((256 : Int32) < p1)) (hc21 : ¬ ((own_bc p1) = (1 : Int32))) (hc22 : p1 ≠ (0 : Int32)) :
    MetFree l (⟨"com/example/fireweed/fireweed/layout/Java31ByteSalt", "<init>", "(ILjava/lang/String;)V"⟩ : MethodName) (head1 (Jvm.Cond.code (⟨"com/example/fireweed/fireweed/layout/Java31ByteSalt", "<init>", "(ILjava/lang/String;)V"⟩ : MethodName) prog_7_method_1_code 3 none :: ws) ({ frames := 7, cells := 3, slots := 29, locals := 104 } : Room)) (fun a U => a = #[(.ref a0), (.int p1), (.ref a2)] ∧ Z.Warmed39 U.vm ∧ U.heap = h0) (fun _ _ _ _ _ => True) (fun _ U o U' => ∃ v L, o = .returned v ∧ Q6pB Z a0 p1 a2 aB kB pv aU s_COMPACT_STRINGS h0 n0 v U'.heap L ∧ ReturnedEndW U o U' L ({ frames := 7, cells := 3, slots := 29, locals := 104 } : Room).cells ({ frames := 7, cells := 3, slots := 29, locals := 104 } : Room).slots) := by
  refine MetFree.of_bodySF (plainFor_of_name pn_com_example_fireweed_fireweed_layout_Java31ByteSalt) hisR ?_
  intro p e s m args below meth c s₁ Bd hml0 hP hK
  obtain ⟨rfl, hZ, hh⟩ := hP
  have hx := Bd.exec
  have hby := Bd.bytes
  have hml : c.maxLocals = 3 := hml0
  have hown : s.vm.findClass "com/example/fireweed/fireweed/layout/Java31ByteSalt" = some m.cls := findClass_of_methodNamed Bd.named
  have hnm := (name_of_methodNamed Bd.named Bd.method).1
  have X0 : Stand p l e ({ frames := 7, cells := 3, slots := 29, locals := 104 } : Room) s m #[(.ref a0), (.int p1), (.ref a2)] below meth c s₁ [] 0 0 := Stand.of_body Bd
  have e0 : s₁.heap = h0 := by rw [← hh, Bd.state]; rfl
  have N0 := Fr.nil n0
  have pre0 : ∀ t, Steps p.tables e below (s₁.setTop (mkF m 0 #[.val (.ref a0), .val (.int p1), .val (.ref a2)] [])) t → Steps p.tables e below (s₁.setTop (entryFrame m #[(.ref a0), (.int p1), (.ref a2)] 3)) t := fun t k => castTop (ef_rm6pB m a0 p1 a2) k
  have hS0 : s.Since s.vm 0 := (State.WarmedH.refl s).since 0
  have wS : ∀ a ∈ Bundle.stringAtoms, a.before az Z = true := fun d hd => by
    simp only [Bundle.stringAtoms, List.mem_cons, List.not_mem_nil, or_false] at hd
    rcases hd with rfl | rfl | rfl | rfl | rfl | rfl | rfl
    · exact (hw _ (List.mem_of_getElem? (i := 2) rfl))
    · exact (hw _ (List.mem_of_getElem? (i := 10) rfl))
    · exact (hw _ (List.mem_of_getElem? (i := 14) rfl))
    · exact (hw _ (List.mem_of_getElem? (i := 23) rfl))
    · exact (hw _ (List.mem_of_getElem? (i := 25) rfl))
    · exact (hw _ (List.mem_of_getElem? (i := 44) rfl))
    · exact (hw _ (List.mem_of_getElem? (i := 45) rfl))
  obtain ⟨_, _, ⟨T1, L1, k1', n1'⟩, -, Y1, yS1, yg1, ⟨Lc1, hQ1, l1, y1, z1⟩, st1⟩ := X0.specialBackS hx (y := (⟨"com/example/fireweed/fireweed/layout/BucketSalt", "<init>", "(Ljava/lang/String;)V"⟩ : MethodName)) rfl hown (mvT hZ (hw _ (List.mem_of_getElem? (i := 32) rfl))) (mvT hZ (hw _ (List.mem_of_getElem? (i := 33) rfl))) (mvT hZ (hw _ (List.mem_of_getElem? (i := 36) rfl))) (by decide) (backOfS (W := 0) (rm7p l Z az hw [] a0 a2 aB kB pv aU s_COMPACT_STRINGS h0 n0 Z0 E_a0 F_suffix_a0 F_suffixBytes_a0 F_buckets_a0 F_mask_a0 F_overflow_a0 E_a2 F_coder_a2 F_value_a2 V_aB E_aB S_INSTANCE S_UTF_8 hc13 S_COMPACT_STRINGS g_a0 hne_a2_a0 hne_aB_a0 hc18) hZ (hw _ (List.mem_of_getElem? (i := 36) rfl)) (hw _ (List.mem_of_getElem? (i := 35) rfl)) (by decide) (by decide)) (g := (mkF m 2 #[.val (.ref a0), .val (.int p1), .val (.ref a2)] [(.ref a2), (.ref a0)])) rfl (by rw [hml]; rfl) (Steps.refl _) (a := a0) (argsL := [(.ref a2)]) (rest := []) (lenOf pd_7 rfl) rfl (by show 2 * 0 + _ ≤ _; exact Nat.le_of_eq rfl) (hb hby d6_2) (fun _ _ => ⟨rfl, e0, (by decide : 0 + 3 ≤ _), (by decide : 0 + 29 ≤ _)⟩)
  dsimp only [Pt.U, Pt.locs, Pt.cells, Pt.slots] at Y1 yS1 yg1 l1 y1 z1 st1 hQ1
  subst l1 y1 z1
  obtain ⟨X1, hS1, hZ1, hown1⟩ := rebS (s := s) (vm0 := s.vm) hS0 (by rw [e0]; exact (Nat.zero_le _)) Y1 yS1 yg1 hZ hown
  obtain ⟨b1_0, rfl, N1q, s1_0, kq1, pf1_0, pf1_1, pf1_2, pf1_3, pf1_4, pf1_5, pf1_6, pf1_7⟩ := hQ1
  have N1 := Fr.app N0 N1q
  have g_b1_0 : n0 ≤ b1_0 := Nat.le_trans Z0 s1_0
  have sz_b1_0 : h0.size ≤ b1_0 := Nat.le_trans (Nat.le_refl _) s1_0
  have K1 : Keep h0 T1.heap [a0] := (Keep.refl h0 [a0]).trans kq1 (allS (Or.inl (List.mem_of_getElem? (i := 0) rfl)) all0)
  have Z1 : n0 ≤ T1.heap.size := Nat.le_trans Z0 kq1.1
  obtain ⟨T2, h2, X2, e2, W2, st2⟩ := putF X1 hx hZ1 hown1 (host := "") (Or.inl (hw _ (List.mem_of_getElem? (i := 91) rfl))) Via.refl rfl pf1_3 pf1_0 (Or.inr ⟨(hw _ (List.mem_of_getElem? (i := 92) rfl)), rfl, hnm⟩) (hw _ (List.mem_of_getElem? (i := 27) rfl)) (ty := .int) (by decide) rfl rfl (g := (mkF m 52 #[.val (.ref a0), .val (.int p1), .val (.ref a2)] [(.int p1), (.ref a0)])) rfl rfl (hb hby d6_52)
  have K2 : Keep h0 h2 [a0] := K1.wr W2 (Or.inl (List.mem_of_getElem? (i := 0) rfl))
  have Fw2 := pf1_3.same W2
  have Z2 : n0 ≤ h2.size := Nat.le_trans Z1 (Keep.of_wr W2).1
  have N2 := Fr.snoc X2 N1 g_a0
  obtain ⟨_, _, ⟨T3, L3, k3', n3'⟩, -, X3, ⟨Lc3, hQ3, l3, y3, z3⟩, st3⟩ := Jvm.LawKit.callS X2 hx (y := (⟨"java/lang/Integer", "bitCount", "(I)I"⟩ : MethodName)) hown1 (mvT hZ1 (hw _ (List.mem_of_getElem? (i := 93) rfl))) (mvT hZ1 (hw _ (List.mem_of_getElem? (i := 94) rfl))) (mvT hZ1 (hw _ (List.mem_of_getElem? (i := 95) rfl))) (mvT hZ1 (hw _ (List.mem_of_getElem? (i := 96) rfl))) (by decide) (backOf (W := 1) (rm16 l Z az hw [] p1 h2 n0 Z2) hZ1 (hw _ (List.mem_of_getElem? (i := 96) rfl)) (hw _ (List.mem_of_getElem? (i := 95) rfl)) (by decide) (by decide)) (g := (mkF m 57 #[.val (.ref a0), .val (.int p1), .val (.ref a2)] [(.int p1), (.ref a0)])) rfl (by rw [hml]; rfl) (argsL := [(.int p1)]) (rest := [(.ref a0)]) (lenOf pd_8 rfl) rfl (by show 2 * 0 + _ ≤ _; exact Nat.le_of_eq rfl) (hb hby d6_57) (fun _ _ => ⟨rfl, e2, (by decide : 3 + 0 ≤ _), (by decide : 29 + 0 ≤ _)⟩)
  dsimp only [Pt.U, Pt.locs, Pt.cells, Pt.slots] at X3 l3 y3 z3 st3 hQ3
  subst l3 y3 z3
  obtain ⟨rfl, N3q, e3⟩ := hQ3
  have N3 := Fr.app N2 N3q
  have F_a0_mask_u4 : Fld Z h2 a0 "com/example/fireweed/fireweed/layout/Java31ByteSalt" "mask" "I" (.int (0 : Int32)) := (pf1_4.other W2 (Or.inr (slot_ne (Or.inr (hw _ (List.mem_of_getElem? (i := 101) rfl))) (Or.inr (hw _ (List.mem_of_getElem? (i := 92) rfl))) (by decide) (t := .int) (t' := .int) (by decide) (by decide))))
  have E_a0_u5 : Exa Z h2 a0 "com/example/fireweed/fireweed/layout/Java31ByteSalt" := (pf1_0.wr W2)
  obtain ⟨T6, h6, X6, e6, W6, st6⟩ := putF X3 hx hZ1 hown1 (host := "") (Or.inl (hw _ (List.mem_of_getElem? (i := 100) rfl))) Via.refl e3 F_a0_mask_u4 E_a0_u5 (Or.inr ⟨(hw _ (List.mem_of_getElem? (i := 101) rfl)), rfl, hnm⟩) (hw _ (List.mem_of_getElem? (i := 27) rfl)) (ty := .int) (by decide) rfl rfl (g := (mkF m 71 #[.val (.ref a0), .val (.int p1), .val (.ref a2)] [(.int (-1 : Int32)), (.ref a0)])) rfl rfl (hb hby d6_71)
  have K6 : Keep h0 h6 [a0] := K2.wr W6 (Or.inl (List.mem_of_getElem? (i := 0) rfl))
  have Fw6 := F_a0_mask_u4.same W6
  have Z6 : n0 ≤ h6.size := Nat.le_trans Z2 (Keep.of_wr W6).1
  have N6 := Fr.snoc X6 N3 g_a0
  have F_a0_buckets_u8 : Fld Z h6 a0 "com/example/fireweed/fireweed/layout/Java31ByteSalt" "buckets" "I" (.int p1) := (Fw2.other W6 (Or.inr (slot_ne (Or.inr (hw _ (List.mem_of_getElem? (i := 92) rfl))) (Or.inr (hw _ (List.mem_of_getElem? (i := 101) rfl))) (by decide) (t := .int) (t' := .int) (by decide) (by decide))))
  have E_a0_u9 : Exa Z h6 a0 "com/example/fireweed/fireweed/layout/Java31ByteSalt" := (E_a0_u5.wr W6)
  obtain ⟨cq7, q7, q7'⟩ := E_a0_u9.cell
  obtain ⟨_, _, ⟨T7, L7, k7', n7'⟩, -, X7, ⟨Lc7, hQ7, l7, y7, z7⟩, st7⟩ := X6.privateBack hx (y := (⟨"com/example/fireweed/fireweed/layout/Java31ByteSalt", "saltOf", "(I)B"⟩ : MethodName)) hown1 (mvT hZ1 (hw _ (List.mem_of_getElem? (i := 103) rfl))) (mvT hZ1 (hw _ (List.mem_of_getElem? (i := 104) rfl))) (own_priv (mvT hZ1 (hw _ (List.mem_of_getElem? (i := 27) rfl))) (Cond.privateMethod_at (mvP hZ1 (hw _ (List.mem_of_getElem? (i := 105) rfl)) (args := #[]))) (mvT hZ1 (hw _ (List.mem_of_getElem? (i := 104) rfl))) (by decide)) (Cond.privateMethod_at (mvP hZ1 (hw _ (List.mem_of_getElem? (i := 105) rfl)) (args := #[]))) (mvT hZ1 (hw _ (List.mem_of_getElem? (i := 106) rfl))) (by decide) (backOf (W := 1) (rm17b l Z az hw [] a0 p1 h6 n0 Z6 Fw6 F_a0_buckets_u8 hc22) hZ1 (hw _ (List.mem_of_getElem? (i := 106) rfl)) (hw _ (List.mem_of_getElem? (i := 28) rfl)) (by decide) (by decide)) (g := (mkF m 78 #[.val (.ref a0), .val (.int p1), .val (.ref a2)] [(.int (-2147483648 : Int32)), (.ref a0), (.ref a0)])) rfl (by rw [hml]; rfl) (Steps.refl _) (a := a0) (by rw [e6]; exact q7) q7' (argsL := [(.int (-2147483648 : Int32))]) (rest := [(.ref a0)]) (lenOf pd_10 rfl) rfl (by show 2 * 0 + _ ≤ _; exact Nat.le_of_eq rfl) (hb hby d6_78) (fun _ _ => ⟨rfl, e6, (by decide : 3 + 0 ≤ _), (by decide : 29 + 0 ≤ _)⟩)
  dsimp only [Pt.U, Pt.locs, Pt.cells, Pt.slots] at X7 l7 y7 z7 st7 hQ7
  subst l7 y7 z7
  obtain ⟨rfl, N7q, e7⟩ := hQ7
  have N7 := Fr.app N6 N7q
  obtain ⟨_, _, ⟨T10, L10, k10', n10'⟩, -, X10, ⟨Lc10, hQ10, l10, y10, z10⟩, st10⟩ := Jvm.LawKit.callS X7 hx (y := (⟨"java/lang/Byte", "toUnsignedInt", "(B)I"⟩ : MethodName)) hown1 (mvT hZ1 (hw _ (List.mem_of_getElem? (i := 111) rfl))) (mvT hZ1 (hw _ (List.mem_of_getElem? (i := 112) rfl))) (mvT hZ1 (hw _ (List.mem_of_getElem? (i := 113) rfl))) (mvT hZ1 (hw _ (List.mem_of_getElem? (i := 114) rfl))) (by decide) (backOf (W := 1) (rm19 l Z az hw [] (((-2147483648 : Int32) % p1).toInt8.toInt32) h6 n0 Z6) hZ1 (hw _ (List.mem_of_getElem? (i := 114) rfl)) (hw _ (List.mem_of_getElem? (i := 113) rfl)) (by decide) (by decide)) (g := (mkF m 81 #[.val (.ref a0), .val (.int p1), .val (.ref a2)] [(.int (((-2147483648 : Int32) % p1).toInt8.toInt32)), (.ref a0)])) rfl (by rw [hml]; rfl) (argsL := [(.int (((-2147483648 : Int32) % p1).toInt8.toInt32))]) (rest := [(.ref a0)]) (lenOf pd_11 rfl) rfl (by show 2 * 0 + _ ≤ _; exact Nat.le_of_eq rfl) (hb hby d6_81) (fun _ _ => ⟨rfl, e7, (by decide : 3 + 0 ≤ _), (by decide : 29 + 0 ≤ _)⟩)
  dsimp only [Pt.U, Pt.locs, Pt.cells, Pt.slots] at X10 l10 y10 z10 st10 hQ10
  subst l10 y10 z10
  obtain ⟨rfl, N10q, e10⟩ := hQ10
  have N10 := Fr.app N7 N10q
  have F_a0_overflow_u11 : Fld Z h6 a0 "com/example/fireweed/fireweed/layout/Java31ByteSalt" "overflow" "I" (.int (0 : Int32)) := ((pf1_5.other W2 (Or.inr (slot_ne (Or.inr (hw _ (List.mem_of_getElem? (i := 116) rfl))) (Or.inr (hw _ (List.mem_of_getElem? (i := 92) rfl))) (by decide) (t := .int) (t' := .int) (by decide) (by decide)))).other W6 (Or.inr (slot_ne (Or.inr (hw _ (List.mem_of_getElem? (i := 116) rfl))) (Or.inr (hw _ (List.mem_of_getElem? (i := 101) rfl))) (by decide) (t := .int) (t' := .int) (by decide) (by decide))))
  obtain ⟨T12, h12, X12, e12, W12, st12⟩ := putF X10 hx hZ1 hown1 (host := "") (Or.inl (hw _ (List.mem_of_getElem? (i := 115) rfl))) Via.refl e10 F_a0_overflow_u11 E_a0_u9 (Or.inr ⟨(hw _ (List.mem_of_getElem? (i := 116) rfl)), rfl, hnm⟩) (hw _ (List.mem_of_getElem? (i := 27) rfl)) (ty := .int) (by decide) rfl rfl (g := (mkF m 84 #[.val (.ref a0), .val (.int p1), .val (.ref a2)] [(.int ((((-2147483648 : Int32) % p1).toInt8.toInt32) &&& (255 : Int32))), (.ref a0)])) rfl rfl (hb hby d6_84)
  have K12 : Keep h0 h12 [a0] := K6.wr W12 (Or.inl (List.mem_of_getElem? (i := 0) rfl))
  have Fw12 := F_a0_overflow_u11.same W12
  have Z12 : n0 ≤ h12.size := Nat.le_trans Z6 (Keep.of_wr W12).1
  have N12 := Fr.snoc X12 N10 g_a0
  have E_a0_u13 : Exa Z h12 a0 "com/example/fireweed/fireweed/layout/Java31ByteSalt" := (E_a0_u9.wr W12)
  have F_a0_suffix_u14 : Fld Z h12 a0 "com/example/fireweed/fireweed/layout/Salt" "suffix" "Ljava/lang/String;" (.ref a2) := (((pf1_1.other W2 (Or.inr (slot_ne (Or.inr (hw _ (List.mem_of_getElem? (i := 52) rfl))) (Or.inr (hw _ (List.mem_of_getElem? (i := 92) rfl))) (by decide) (t := (.object "java/lang/String")) (t' := .int) (by decide) (by decide)))).other W6 (Or.inr (slot_ne (Or.inr (hw _ (List.mem_of_getElem? (i := 52) rfl))) (Or.inr (hw _ (List.mem_of_getElem? (i := 101) rfl))) (by decide) (t := (.object "java/lang/String")) (t' := .int) (by decide) (by decide)))).other W12 (Or.inr (slot_ne (Or.inr (hw _ (List.mem_of_getElem? (i := 52) rfl))) (Or.inr (hw _ (List.mem_of_getElem? (i := 116) rfl))) (by decide) (t := (.object "java/lang/String")) (t' := .int) (by decide) (by decide))))
  have F_a0_suffixBytes_u15 : Fld Z h12 a0 "com/example/fireweed/fireweed/layout/Salt" "suffixBytes" "[B" (.ref b1_0) := (((pf1_2.other W2 (Or.inr (slot_ne (Or.inr (hw _ (List.mem_of_getElem? (i := 90) rfl))) (Or.inr (hw _ (List.mem_of_getElem? (i := 92) rfl))) (by decide) (t := (.array .byte)) (t' := .int) (by decide) (by decide)))).other W6 (Or.inr (slot_ne (Or.inr (hw _ (List.mem_of_getElem? (i := 90) rfl))) (Or.inr (hw _ (List.mem_of_getElem? (i := 101) rfl))) (by decide) (t := (.array .byte)) (t' := .int) (by decide) (by decide)))).other W12 (Or.inr (slot_ne (Or.inr (hw _ (List.mem_of_getElem? (i := 90) rfl))) (Or.inr (hw _ (List.mem_of_getElem? (i := 116) rfl))) (by decide) (t := (.array .byte)) (t' := .int) (by decide) (by decide))))
  have F_a0_buckets_u16 : Fld Z h12 a0 "com/example/fireweed/fireweed/layout/Java31ByteSalt" "buckets" "I" (.int p1) := (F_a0_buckets_u8.other W12 (Or.inr (slot_ne (Or.inr (hw _ (List.mem_of_getElem? (i := 92) rfl))) (Or.inr (hw _ (List.mem_of_getElem? (i := 116) rfl))) (by decide) (t := .int) (t' := .int) (by decide) (by decide))))
  have F_a0_mask_u17 : Fld Z h12 a0 "com/example/fireweed/fireweed/layout/Java31ByteSalt" "mask" "I" (.int (-1 : Int32)) := (Fw6.other W12 (Or.inr (slot_ne (Or.inr (hw _ (List.mem_of_getElem? (i := 101) rfl))) (Or.inr (hw _ (List.mem_of_getElem? (i := 116) rfl))) (by decide) (t := .int) (t' := .int) (by decide) (by decide))))
  have E_b1_0_u18 : Exa Z h12 b1_0 "[B" := (((pf1_6.wr W2).wr W6).wr W12)
  have ne_a0_b1_0 : a0 ≠ b1_0 := own_ne (Nat.lt_of_lt_of_le E_a0.lt s1_0)
  have V_b1_0_u19 : Arv Z h12 b1_0 kB .byte (1 : Int32) [(.int pv)] (.int (0 : Int32)) := (((pf1_7.other W2 (Ne.symm ne_a0_b1_0)).other W6 (Ne.symm ne_a0_b1_0)).other W12 (Ne.symm ne_a0_b1_0))
  obtain ⟨fs, hr, hrun, hended, hWE⟩ := X12.leaveW (s := s) hS1 (by rw [e12]; exact (Nat.le_trans (Nat.le_trans (Nat.le_trans (Nat.le_refl _) (Keep.of_wr W2).1) (Keep.of_wr W6).1) (Keep.of_wr W12).1)) (v := none) (fun _ => rfl)
  refine ⟨_, _, pre0 _ ?_, hrun, hended, _, _, rfl, ?_, hWE.1, hWE.2.1, hWE.2.2.1, hWE.2.2.2.mono (by decide) (by decide)⟩
  · show Steps p.tables e below (s₁.setTop (mkF m 0 #[.val (.ref a0), .val (.int p1), .val (.ref a2)] [])) _
    refine XS.aloadN X0.here hx rfl (hb hby d6_0) rfl rfl ?_
    show Steps p.tables e below (s₁.setTop (mkF m 1 #[.val (.ref a0), .val (.int p1), .val (.ref a2)] [(.ref a0)])) _
    refine XS.aloadN X0.here hx rfl (hb hby d6_1) rfl rfl ?_
    show Steps p.tables e below (s₁.setTop (mkF m 2 #[.val (.ref a0), .val (.int p1), .val (.ref a2)] [(.ref a2), (.ref a0)])) _
    refine st1.trans ?_
    show Steps p.tables e below (T1.setTop (mkF m 5 #[.val (.ref a0), .val (.int p1), .val (.ref a2)] [])) _
    refine XS.iloadN X1.here hx rfl (hb hby d6_5) rfl ?_
    show Steps p.tables e below (T1.setTop (mkF m 6 #[.val (.ref a0), .val (.int p1), .val (.ref a2)] [(.int p1)])) _
    refine XS.iconst X1.here hx rfl (hb hby d6_6) ?_
    show Steps p.tables e below (T1.setTop (mkF m 7 #[.val (.ref a0), .val (.int p1), .val (.ref a2)] [(.int (1 : Int32)), (.int p1)])) _
    refine XS.icmpNo X1.here hx rfl (hb hby d6_7) rfl (flt hc19).1 ?_
    show Steps p.tables e below (T1.setTop (mkF m 10 #[.val (.ref a0), .val (.int p1), .val (.ref a2)] [])) _
    refine XS.iloadN X1.here hx rfl (hb hby d6_10) rfl ?_
    show Steps p.tables e below (T1.setTop (mkF m 11 #[.val (.ref a0), .val (.int p1), .val (.ref a2)] [(.int p1)])) _
    refine XS.sipush X1.here hx rfl (hb hby d6_11) ?_
    show Steps p.tables e below (T1.setTop (mkF m 14 #[.val (.ref a0), .val (.int p1), .val (.ref a2)] [(.int (256 : Int32)), (.int p1)])) _
    refine XS.icmpYes X1.here hx rfl (pc0 := 14) (pc' := 50) rfl (hb hby d6_14) rfl (flt hc20).2.2.2 (by decide) (by decide) ?_
    show Steps p.tables e below (T1.setTop (mkF m 50 #[.val (.ref a0), .val (.int p1), .val (.ref a2)] [])) _
    refine XS.aloadN X1.here hx rfl (hb hby d6_50) rfl rfl ?_
    show Steps p.tables e below (T1.setTop (mkF m 51 #[.val (.ref a0), .val (.int p1), .val (.ref a2)] [(.ref a0)])) _
    refine XS.iloadN X1.here hx rfl (hb hby d6_51) rfl ?_
    show Steps p.tables e below (T1.setTop (mkF m 52 #[.val (.ref a0), .val (.int p1), .val (.ref a2)] [(.int p1), (.ref a0)])) _
    refine st2 _ ?_
    show Steps p.tables e below (T2.setTop (mkF m 55 #[.val (.ref a0), .val (.int p1), .val (.ref a2)] [])) _
    refine XS.aloadN X2.here hx rfl (hb hby d6_55) rfl rfl ?_
    show Steps p.tables e below (T2.setTop (mkF m 56 #[.val (.ref a0), .val (.int p1), .val (.ref a2)] [(.ref a0)])) _
    refine XS.iloadN X2.here hx rfl (hb hby d6_56) rfl ?_
    show Steps p.tables e below (T2.setTop (mkF m 57 #[.val (.ref a0), .val (.int p1), .val (.ref a2)] [(.int p1), (.ref a0)])) _
    refine st3 _ ?_
    show Steps p.tables e below (T3.setTop (mkF m 60 #[.val (.ref a0), .val (.int p1), .val (.ref a2)] [(.int (own_bc p1)), (.ref a0)])) _
    refine XS.iconst X3.here hx rfl (hb hby d6_60) ?_
    show Steps p.tables e below (T3.setTop (mkF m 61 #[.val (.ref a0), .val (.int p1), .val (.ref a2)] [(.int (1 : Int32)), (.int (own_bc p1)), (.ref a0)])) _
    refine XS.icmpYes X3.here hx rfl (pc0 := 61) (pc' := 70) rfl (hb hby d6_61) rfl (feq hc21).2 (by decide) (by decide) ?_
    show Steps p.tables e below (T3.setTop (mkF m 70 #[.val (.ref a0), .val (.int p1), .val (.ref a2)] [(.ref a0)])) _
    refine XS.iconst X3.here hx rfl (hb hby d6_70) ?_
    show Steps p.tables e below (T3.setTop (mkF m 71 #[.val (.ref a0), .val (.int p1), .val (.ref a2)] [(.int (-1 : Int32)), (.ref a0)])) _
    refine st6 _ ?_
    show Steps p.tables e below (T6.setTop (mkF m 74 #[.val (.ref a0), .val (.int p1), .val (.ref a2)] [])) _
    refine XS.aloadN X6.here hx rfl (hb hby d6_74) rfl rfl ?_
    show Steps p.tables e below (T6.setTop (mkF m 75 #[.val (.ref a0), .val (.int p1), .val (.ref a2)] [(.ref a0)])) _
    refine XS.aloadN X6.here hx rfl (hb hby d6_75) rfl rfl ?_
    show Steps p.tables e below (T6.setTop (mkF m 76 #[.val (.ref a0), .val (.int p1), .val (.ref a2)] [(.ref a0), (.ref a0)])) _
    refine X6.ldcInt hx hown1 (mvT hZ1 (hw _ (List.mem_of_getElem? (i := 102) rfl))) (g := (mkF m 76 #[.val (.ref a0), .val (.int p1), .val (.ref a2)] [(.ref a0), (.ref a0)])) rfl (hb hby d6_76) _ ?_
    show Steps p.tables e below (T6.setTop (mkF m 78 #[.val (.ref a0), .val (.int p1), .val (.ref a2)] [(.int (-2147483648 : Int32)), (.ref a0), (.ref a0)])) _
    refine st7.trans ?_
    show Steps p.tables e below (T7.setTop (mkF m 81 #[.val (.ref a0), .val (.int p1), .val (.ref a2)] [(.int (((-2147483648 : Int32) % p1).toInt8.toInt32)), (.ref a0)])) _
    refine st10 _ ?_
    show Steps p.tables e below (T10.setTop (mkF m 84 #[.val (.ref a0), .val (.int p1), .val (.ref a2)] [(.int ((((-2147483648 : Int32) % p1).toInt8.toInt32) &&& (255 : Int32))), (.ref a0)])) _
    refine st12 _ ?_
    show Steps p.tables e below (T12.setTop (mkF m 87 #[.val (.ref a0), .val (.int p1), .val (.ref a2)] [])) _
    exact X12.returnOut hx Bd.returns (hb hby d6_87) hr
  · show Q6pB Z a0 p1 a2 aB kB pv aU s_COMPACT_STRINGS h0 n0 _ T12.heap _
    rw [e12]
    exact ⟨b1_0, rfl, N12, sz_b1_0, K12, E_a0_u13, F_a0_suffix_u14, F_a0_suffixBytes_u15, F_a0_buckets_u16, F_a0_mask_u17, Fw12, E_b1_0_u18, V_b1_0_u19⟩
theorem ef_rm6nA (m : MethodId) (a0 : Addr) (p1 : Int32) (a2 : Addr) : entryFrame m #[(.ref a0), (.int p1), (.ref a2)] 3 = mkF m 0 #[.val (.ref a0), .val (.int p1), .val (.ref a2)] [] := by first | (simp [entryFrame, mkF, argsToLocals, Value.category]; done) | rfl
def Q6nA (Z : State) (a0 : Addr) (p1 : Int32) (a2 : Addr) (aB : Addr) (kB : ClassId) (pv : Int32) (aU : Addr) (s_COMPACT_STRINGS : Int32) (h0 : Heap) (n0 : Nat) (v : Option Value) (h : Heap) (L : List Loc) : Prop := ∃ r0 : Addr, ∃ rk0 : ClassId, v = none ∧ Fr n0 L ∧ h0.size ≤ r0 ∧ Keep h0 h [a0] ∧ Exa Z h a0 "com/example/fireweed/fireweed/layout/Java31ByteSalt" ∧ Fld Z h a0 "com/example/fireweed/fireweed/layout/Salt" "suffix" "Ljava/lang/String;" (.ref a2) ∧ Fld Z h a0 "com/example/fireweed/fireweed/layout/Salt" "suffixBytes" "[B" (.ref r0) ∧ Fld Z h a0 "com/example/fireweed/fireweed/layout/Java31ByteSalt" "buckets" "I" (.int p1) ∧ Fld Z h a0 "com/example/fireweed/fireweed/layout/Java31ByteSalt" "mask" "I" (.int (p1 - (1 : Int32))) ∧ Fld Z h a0 "com/example/fireweed/fireweed/layout/Java31ByteSalt" "overflow" "I" (.int ((((-2147483648 : Int32) &&& (p1 - (1 : Int32))).toInt8.toInt32) &&& (255 : Int32))) ∧ Exa Z h r0 "[B" ∧ Arv Z h r0 rk0 .byte (2 : Int32) [(.int (((192 : Int32) ||| ((pv &&& (255 : Int32)) >>> ((6 : Int32) &&& 31))).toInt8.toInt32)), (.int (((128 : Int32) ||| (pv &&& (63 : Int32))).toInt8.toInt32))] (.int (0 : Int32))
set_option maxRecDepth 65536 in
set_option maxHeartbeats 40000000 in
theorem rm6nA (l : Launch) (Z : State) (az : Array Value) (hw : ∀ d ∈ tables_1, d.before az Z = true) (ws : List Jvm.Cond) (a0 : Addr) (p1 : Int32) (a2 : Addr) (aB : Addr) (kB : ClassId) (pv : Int32) (aU : Addr) (s_COMPACT_STRINGS : Int32) (h0 : Heap) (n0 : Nat) (Z0 : n0 ≤ h0.size) (E_a0 : Exa Z h0 a0 "com/example/fireweed/fireweed/layout/Java31ByteSalt") (F_suffix_a0 : Fld Z h0 a0 "com/example/fireweed/fireweed/layout/Salt" "suffix" "Ljava/lang/String;" .null) (F_suffixBytes_a0 : Fld Z h0 a0 "com/example/fireweed/fireweed/layout/Salt" "suffixBytes" "[B" .null) (F_buckets_a0 : Fld Z h0 a0 "com/example/fireweed/fireweed/layout/Java31ByteSalt" "buckets" "I" (.int (0 : Int32))) (F_mask_a0 : Fld Z h0 a0 "com/example/fireweed/fireweed/layout/Java31ByteSalt" "mask" "I" (.int (0 : Int32))) (F_overflow_a0 : Fld Z h0 a0 "com/example/fireweed/fireweed/layout/Java31ByteSalt" "overflow" "I" (.int (0 : Int32))) (E_a2 : Exa Z h0 a2 "java/lang/String") (F_coder_a2 : Fld Z h0 a2 "java/lang/String" "coder" "B" (.int (0 : Int32))) (F_value_a2 : Fld Z h0 a2 "java/lang/String" "value" "[B" (.ref aB)) (V_aB : Arv Z h0 aB kB .byte (1 : Int32) [(.int pv)] (.int (0 : Int32))) (E_aB : Exa Z h0 aB "[B") (S_INSTANCE : Sta Z h0 "sun/nio/cs/UTF_8" "INSTANCE" "Lsun/nio/cs/UTF_8;" (.ref aU)) (S_UTF_8 : Sta Z h0 "java/nio/charset/StandardCharsets" "UTF_8" "Ljava/nio/charset/Charset;" (.ref aU)) (hc13 : pv < (0 : Int32)) (S_COMPACT_STRINGS : Sta Z h0 "java/lang/String" "COMPACT_STRINGS" "Z" (.int s_COMPACT_STRINGS)) (g_a0 : n0 ≤ a0) (hne_a2_a0 : a2 ≠ a0) (hne_aB_a0 : aB ≠ a0) (hc18 : ¬ (s_COMPACT_STRINGS = (0 : Int32))) (hc19 : ¬ (p1 < (1 : Int32))) (hc20 : ¬ ((256 : Int32) < p1)) (hc21 : (own_bc p1) = (1 : Int32)) (hc22 : ¬ ((p1 - (1 : Int32)) < (0 : Int32))) :
    MetFree l (⟨"com/example/fireweed/fireweed/layout/Java31ByteSalt", "<init>", "(ILjava/lang/String;)V"⟩ : MethodName) (head1 (Jvm.Cond.code (⟨"com/example/fireweed/fireweed/layout/Java31ByteSalt", "<init>", "(ILjava/lang/String;)V"⟩ : MethodName) prog_7_method_1_code 3 none :: ws) ({ frames := 7, cells := 3, slots := 30, locals := 104 } : Room)) (fun a U => a = #[(.ref a0), (.int p1), (.ref a2)] ∧ Z.Warmed39 U.vm ∧ U.heap = h0) (fun _ _ _ _ _ => True) (fun _ U o U' => ∃ v L, o = .returned v ∧ Q6nA Z a0 p1 a2 aB kB pv aU s_COMPACT_STRINGS h0 n0 v U'.heap L ∧ ReturnedEndW U o U' L ({ frames := 7, cells := 3, slots := 30, locals := 104 } : Room).cells ({ frames := 7, cells := 3, slots := 30, locals := 104 } : Room).slots) := by
  refine MetFree.of_bodySF (plainFor_of_name pn_com_example_fireweed_fireweed_layout_Java31ByteSalt) hisR ?_
  intro p e s m args below meth c s₁ Bd hml0 hP hK
  obtain ⟨rfl, hZ, hh⟩ := hP
  have hx := Bd.exec
  have hby := Bd.bytes
  have hml : c.maxLocals = 3 := hml0
  have hown : s.vm.findClass "com/example/fireweed/fireweed/layout/Java31ByteSalt" = some m.cls := findClass_of_methodNamed Bd.named
  have hnm := (name_of_methodNamed Bd.named Bd.method).1
  have X0 : Stand p l e ({ frames := 7, cells := 3, slots := 30, locals := 104 } : Room) s m #[(.ref a0), (.int p1), (.ref a2)] below meth c s₁ [] 0 0 := Stand.of_body Bd
  have e0 : s₁.heap = h0 := by rw [← hh, Bd.state]; rfl
  have N0 := Fr.nil n0
  have pre0 : ∀ t, Steps p.tables e below (s₁.setTop (mkF m 0 #[.val (.ref a0), .val (.int p1), .val (.ref a2)] [])) t → Steps p.tables e below (s₁.setTop (entryFrame m #[(.ref a0), (.int p1), (.ref a2)] 3)) t := fun t k => castTop (ef_rm6nA m a0 p1 a2) k
  have hS0 : s.Since s.vm 0 := (State.WarmedH.refl s).since 0
  have wS : ∀ a ∈ Bundle.stringAtoms, a.before az Z = true := fun d hd => by
    simp only [Bundle.stringAtoms, List.mem_cons, List.not_mem_nil, or_false] at hd
    rcases hd with rfl | rfl | rfl | rfl | rfl | rfl | rfl
    · exact (hw _ (List.mem_of_getElem? (i := 2) rfl))
    · exact (hw _ (List.mem_of_getElem? (i := 10) rfl))
    · exact (hw _ (List.mem_of_getElem? (i := 14) rfl))
    · exact (hw _ (List.mem_of_getElem? (i := 23) rfl))
    · exact (hw _ (List.mem_of_getElem? (i := 25) rfl))
    · exact (hw _ (List.mem_of_getElem? (i := 44) rfl))
    · exact (hw _ (List.mem_of_getElem? (i := 45) rfl))
  obtain ⟨_, _, ⟨T1, L1, k1', n1'⟩, -, Y1, yS1, yg1, ⟨Lc1, hQ1, l1, y1, z1⟩, st1⟩ := X0.specialBackS hx (y := (⟨"com/example/fireweed/fireweed/layout/BucketSalt", "<init>", "(Ljava/lang/String;)V"⟩ : MethodName)) rfl hown (mvT hZ (hw _ (List.mem_of_getElem? (i := 32) rfl))) (mvT hZ (hw _ (List.mem_of_getElem? (i := 33) rfl))) (mvT hZ (hw _ (List.mem_of_getElem? (i := 36) rfl))) (by decide) (backOfS (W := 0) (rm7n l Z az hw [] a0 a2 aB kB pv aU s_COMPACT_STRINGS h0 n0 Z0 E_a0 F_suffix_a0 F_suffixBytes_a0 F_buckets_a0 F_mask_a0 F_overflow_a0 E_a2 F_coder_a2 F_value_a2 V_aB E_aB S_INSTANCE S_UTF_8 hc13 S_COMPACT_STRINGS g_a0 hne_a2_a0 hne_aB_a0 hc18) hZ (hw _ (List.mem_of_getElem? (i := 36) rfl)) (hw _ (List.mem_of_getElem? (i := 35) rfl)) (by decide) (by decide)) (g := (mkF m 2 #[.val (.ref a0), .val (.int p1), .val (.ref a2)] [(.ref a2), (.ref a0)])) rfl (by rw [hml]; rfl) (Steps.refl _) (a := a0) (argsL := [(.ref a2)]) (rest := []) (lenOf pd_7 rfl) rfl (by show 2 * 0 + _ ≤ _; exact Nat.le_of_eq rfl) (hb hby d6_2) (fun _ _ => ⟨rfl, e0, (by decide : 0 + 3 ≤ _), (by decide : 0 + 30 ≤ _)⟩)
  dsimp only [Pt.U, Pt.locs, Pt.cells, Pt.slots] at Y1 yS1 yg1 l1 y1 z1 st1 hQ1
  subst l1 y1 z1
  obtain ⟨X1, hS1, hZ1, hown1⟩ := rebS (s := s) (vm0 := s.vm) hS0 (by rw [e0]; exact (Nat.zero_le _)) Y1 yS1 yg1 hZ hown
  obtain ⟨b1_0, kk1_0, rfl, N1q, s1_0, kq1, pf1_0, pf1_1, pf1_2, pf1_3, pf1_4, pf1_5, pf1_6, pf1_7⟩ := hQ1
  have N1 := Fr.app N0 N1q
  have g_b1_0 : n0 ≤ b1_0 := Nat.le_trans Z0 s1_0
  have sz_b1_0 : h0.size ≤ b1_0 := Nat.le_trans (Nat.le_refl _) s1_0
  have K1 : Keep h0 T1.heap [a0] := (Keep.refl h0 [a0]).trans kq1 (allS (Or.inl (List.mem_of_getElem? (i := 0) rfl)) all0)
  have Z1 : n0 ≤ T1.heap.size := Nat.le_trans Z0 kq1.1
  obtain ⟨T2, h2, X2, e2, W2, st2⟩ := putF X1 hx hZ1 hown1 (host := "") (Or.inl (hw _ (List.mem_of_getElem? (i := 91) rfl))) Via.refl rfl pf1_3 pf1_0 (Or.inr ⟨(hw _ (List.mem_of_getElem? (i := 92) rfl)), rfl, hnm⟩) (hw _ (List.mem_of_getElem? (i := 27) rfl)) (ty := .int) (by decide) rfl rfl (g := (mkF m 52 #[.val (.ref a0), .val (.int p1), .val (.ref a2)] [(.int p1), (.ref a0)])) rfl rfl (hb hby d6_52)
  have K2 : Keep h0 h2 [a0] := K1.wr W2 (Or.inl (List.mem_of_getElem? (i := 0) rfl))
  have Fw2 := pf1_3.same W2
  have Z2 : n0 ≤ h2.size := Nat.le_trans Z1 (Keep.of_wr W2).1
  have N2 := Fr.snoc X2 N1 g_a0
  obtain ⟨_, _, ⟨T3, L3, k3', n3'⟩, -, X3, ⟨Lc3, hQ3, l3, y3, z3⟩, st3⟩ := Jvm.LawKit.callS X2 hx (y := (⟨"java/lang/Integer", "bitCount", "(I)I"⟩ : MethodName)) hown1 (mvT hZ1 (hw _ (List.mem_of_getElem? (i := 93) rfl))) (mvT hZ1 (hw _ (List.mem_of_getElem? (i := 94) rfl))) (mvT hZ1 (hw _ (List.mem_of_getElem? (i := 95) rfl))) (mvT hZ1 (hw _ (List.mem_of_getElem? (i := 96) rfl))) (by decide) (backOf (W := 1) (rm16 l Z az hw [] p1 h2 n0 Z2) hZ1 (hw _ (List.mem_of_getElem? (i := 96) rfl)) (hw _ (List.mem_of_getElem? (i := 95) rfl)) (by decide) (by decide)) (g := (mkF m 57 #[.val (.ref a0), .val (.int p1), .val (.ref a2)] [(.int p1), (.ref a0)])) rfl (by rw [hml]; rfl) (argsL := [(.int p1)]) (rest := [(.ref a0)]) (lenOf pd_8 rfl) rfl (by show 2 * 0 + _ ≤ _; exact Nat.le_of_eq rfl) (hb hby d6_57) (fun _ _ => ⟨rfl, e2, (by decide : 3 + 0 ≤ _), (by decide : 30 + 0 ≤ _)⟩)
  dsimp only [Pt.U, Pt.locs, Pt.cells, Pt.slots] at X3 l3 y3 z3 st3 hQ3
  subst l3 y3 z3
  obtain ⟨rfl, N3q, e3⟩ := hQ3
  have N3 := Fr.app N2 N3q
  have F_a0_mask_u4 : Fld Z h2 a0 "com/example/fireweed/fireweed/layout/Java31ByteSalt" "mask" "I" (.int (0 : Int32)) := (pf1_4.other W2 (Or.inr (slot_ne (Or.inr (hw _ (List.mem_of_getElem? (i := 101) rfl))) (Or.inr (hw _ (List.mem_of_getElem? (i := 92) rfl))) (by decide) (t := .int) (t' := .int) (by decide) (by decide))))
  have E_a0_u5 : Exa Z h2 a0 "com/example/fireweed/fireweed/layout/Java31ByteSalt" := (pf1_0.wr W2)
  obtain ⟨T6, h6, X6, e6, W6, st6⟩ := putF X3 hx hZ1 hown1 (host := "") (Or.inl (hw _ (List.mem_of_getElem? (i := 100) rfl))) Via.refl e3 F_a0_mask_u4 E_a0_u5 (Or.inr ⟨(hw _ (List.mem_of_getElem? (i := 101) rfl)), rfl, hnm⟩) (hw _ (List.mem_of_getElem? (i := 27) rfl)) (ty := .int) (by decide) rfl rfl (g := (mkF m 71 #[.val (.ref a0), .val (.int p1), .val (.ref a2)] [(.int (p1 - (1 : Int32))), (.ref a0)])) rfl rfl (hb hby d6_71)
  have K6 : Keep h0 h6 [a0] := K2.wr W6 (Or.inl (List.mem_of_getElem? (i := 0) rfl))
  have Fw6 := F_a0_mask_u4.same W6
  have Z6 : n0 ≤ h6.size := Nat.le_trans Z2 (Keep.of_wr W6).1
  have N6 := Fr.snoc X6 N3 g_a0
  have E_a0_u8 : Exa Z h6 a0 "com/example/fireweed/fireweed/layout/Java31ByteSalt" := (E_a0_u5.wr W6)
  obtain ⟨cq7, q7, q7'⟩ := E_a0_u8.cell
  obtain ⟨_, _, ⟨T7, L7, k7', n7'⟩, -, X7, ⟨Lc7, hQ7, l7, y7, z7⟩, st7⟩ := X6.privateBack hx (y := (⟨"com/example/fireweed/fireweed/layout/Java31ByteSalt", "saltOf", "(I)B"⟩ : MethodName)) hown1 (mvT hZ1 (hw _ (List.mem_of_getElem? (i := 103) rfl))) (mvT hZ1 (hw _ (List.mem_of_getElem? (i := 104) rfl))) (own_priv (mvT hZ1 (hw _ (List.mem_of_getElem? (i := 27) rfl))) (Cond.privateMethod_at (mvP hZ1 (hw _ (List.mem_of_getElem? (i := 105) rfl)) (args := #[]))) (mvT hZ1 (hw _ (List.mem_of_getElem? (i := 104) rfl))) (by decide)) (Cond.privateMethod_at (mvP hZ1 (hw _ (List.mem_of_getElem? (i := 105) rfl)) (args := #[]))) (mvT hZ1 (hw _ (List.mem_of_getElem? (i := 106) rfl))) (by decide) (backOf (W := 1) (rm17m l Z az hw [] a0 (p1 - (1 : Int32)) h6 n0 Z6 Fw6 hc22) hZ1 (hw _ (List.mem_of_getElem? (i := 106) rfl)) (hw _ (List.mem_of_getElem? (i := 28) rfl)) (by decide) (by decide)) (g := (mkF m 78 #[.val (.ref a0), .val (.int p1), .val (.ref a2)] [(.int (-2147483648 : Int32)), (.ref a0), (.ref a0)])) rfl (by rw [hml]; rfl) (Steps.refl _) (a := a0) (by rw [e6]; exact q7) q7' (argsL := [(.int (-2147483648 : Int32))]) (rest := [(.ref a0)]) (lenOf pd_10 rfl) rfl (by show 2 * 0 + _ ≤ _; exact Nat.le_of_eq rfl) (hb hby d6_78) (fun _ _ => ⟨rfl, e6, (by decide : 3 + 0 ≤ _), (by decide : 30 + 0 ≤ _)⟩)
  dsimp only [Pt.U, Pt.locs, Pt.cells, Pt.slots] at X7 l7 y7 z7 st7 hQ7
  subst l7 y7 z7
  obtain ⟨rfl, N7q, e7⟩ := hQ7
  have N7 := Fr.app N6 N7q
  obtain ⟨_, _, ⟨T9, L9, k9', n9'⟩, -, X9, ⟨Lc9, hQ9, l9, y9, z9⟩, st9⟩ := Jvm.LawKit.callS X7 hx (y := (⟨"java/lang/Byte", "toUnsignedInt", "(B)I"⟩ : MethodName)) hown1 (mvT hZ1 (hw _ (List.mem_of_getElem? (i := 111) rfl))) (mvT hZ1 (hw _ (List.mem_of_getElem? (i := 112) rfl))) (mvT hZ1 (hw _ (List.mem_of_getElem? (i := 113) rfl))) (mvT hZ1 (hw _ (List.mem_of_getElem? (i := 114) rfl))) (by decide) (backOf (W := 1) (rm19 l Z az hw [] (((-2147483648 : Int32) &&& (p1 - (1 : Int32))).toInt8.toInt32) h6 n0 Z6) hZ1 (hw _ (List.mem_of_getElem? (i := 114) rfl)) (hw _ (List.mem_of_getElem? (i := 113) rfl)) (by decide) (by decide)) (g := (mkF m 81 #[.val (.ref a0), .val (.int p1), .val (.ref a2)] [(.int (((-2147483648 : Int32) &&& (p1 - (1 : Int32))).toInt8.toInt32)), (.ref a0)])) rfl (by rw [hml]; rfl) (argsL := [(.int (((-2147483648 : Int32) &&& (p1 - (1 : Int32))).toInt8.toInt32))]) (rest := [(.ref a0)]) (lenOf pd_11 rfl) rfl (by show 2 * 0 + _ ≤ _; exact Nat.le_of_eq rfl) (hb hby d6_81) (fun _ _ => ⟨rfl, e7, (by decide : 3 + 0 ≤ _), (by decide : 30 + 0 ≤ _)⟩)
  dsimp only [Pt.U, Pt.locs, Pt.cells, Pt.slots] at X9 l9 y9 z9 st9 hQ9
  subst l9 y9 z9
  obtain ⟨rfl, N9q, e9⟩ := hQ9
  have N9 := Fr.app N7 N9q
  have F_a0_overflow_u10 : Fld Z h6 a0 "com/example/fireweed/fireweed/layout/Java31ByteSalt" "overflow" "I" (.int (0 : Int32)) := ((pf1_5.other W2 (Or.inr (slot_ne (Or.inr (hw _ (List.mem_of_getElem? (i := 116) rfl))) (Or.inr (hw _ (List.mem_of_getElem? (i := 92) rfl))) (by decide) (t := .int) (t' := .int) (by decide) (by decide)))).other W6 (Or.inr (slot_ne (Or.inr (hw _ (List.mem_of_getElem? (i := 116) rfl))) (Or.inr (hw _ (List.mem_of_getElem? (i := 101) rfl))) (by decide) (t := .int) (t' := .int) (by decide) (by decide))))
  obtain ⟨T11, h11, X11, e11, W11, st11⟩ := putF X9 hx hZ1 hown1 (host := "") (Or.inl (hw _ (List.mem_of_getElem? (i := 115) rfl))) Via.refl e9 F_a0_overflow_u10 E_a0_u8 (Or.inr ⟨(hw _ (List.mem_of_getElem? (i := 116) rfl)), rfl, hnm⟩) (hw _ (List.mem_of_getElem? (i := 27) rfl)) (ty := .int) (by decide) rfl rfl (g := (mkF m 84 #[.val (.ref a0), .val (.int p1), .val (.ref a2)] [(.int ((((-2147483648 : Int32) &&& (p1 - (1 : Int32))).toInt8.toInt32) &&& (255 : Int32))), (.ref a0)])) rfl rfl (hb hby d6_84)
  have K11 : Keep h0 h11 [a0] := K6.wr W11 (Or.inl (List.mem_of_getElem? (i := 0) rfl))
  have Fw11 := F_a0_overflow_u10.same W11
  have Z11 : n0 ≤ h11.size := Nat.le_trans Z6 (Keep.of_wr W11).1
  have N11 := Fr.snoc X11 N9 g_a0
  have E_a0_u12 : Exa Z h11 a0 "com/example/fireweed/fireweed/layout/Java31ByteSalt" := (E_a0_u8.wr W11)
  have F_a0_suffix_u13 : Fld Z h11 a0 "com/example/fireweed/fireweed/layout/Salt" "suffix" "Ljava/lang/String;" (.ref a2) := (((pf1_1.other W2 (Or.inr (slot_ne (Or.inr (hw _ (List.mem_of_getElem? (i := 52) rfl))) (Or.inr (hw _ (List.mem_of_getElem? (i := 92) rfl))) (by decide) (t := (.object "java/lang/String")) (t' := .int) (by decide) (by decide)))).other W6 (Or.inr (slot_ne (Or.inr (hw _ (List.mem_of_getElem? (i := 52) rfl))) (Or.inr (hw _ (List.mem_of_getElem? (i := 101) rfl))) (by decide) (t := (.object "java/lang/String")) (t' := .int) (by decide) (by decide)))).other W11 (Or.inr (slot_ne (Or.inr (hw _ (List.mem_of_getElem? (i := 52) rfl))) (Or.inr (hw _ (List.mem_of_getElem? (i := 116) rfl))) (by decide) (t := (.object "java/lang/String")) (t' := .int) (by decide) (by decide))))
  have F_a0_suffixBytes_u14 : Fld Z h11 a0 "com/example/fireweed/fireweed/layout/Salt" "suffixBytes" "[B" (.ref b1_0) := (((pf1_2.other W2 (Or.inr (slot_ne (Or.inr (hw _ (List.mem_of_getElem? (i := 90) rfl))) (Or.inr (hw _ (List.mem_of_getElem? (i := 92) rfl))) (by decide) (t := (.array .byte)) (t' := .int) (by decide) (by decide)))).other W6 (Or.inr (slot_ne (Or.inr (hw _ (List.mem_of_getElem? (i := 90) rfl))) (Or.inr (hw _ (List.mem_of_getElem? (i := 101) rfl))) (by decide) (t := (.array .byte)) (t' := .int) (by decide) (by decide)))).other W11 (Or.inr (slot_ne (Or.inr (hw _ (List.mem_of_getElem? (i := 90) rfl))) (Or.inr (hw _ (List.mem_of_getElem? (i := 116) rfl))) (by decide) (t := (.array .byte)) (t' := .int) (by decide) (by decide))))
  have F_a0_buckets_u15 : Fld Z h11 a0 "com/example/fireweed/fireweed/layout/Java31ByteSalt" "buckets" "I" (.int p1) := ((Fw2.other W6 (Or.inr (slot_ne (Or.inr (hw _ (List.mem_of_getElem? (i := 92) rfl))) (Or.inr (hw _ (List.mem_of_getElem? (i := 101) rfl))) (by decide) (t := .int) (t' := .int) (by decide) (by decide)))).other W11 (Or.inr (slot_ne (Or.inr (hw _ (List.mem_of_getElem? (i := 92) rfl))) (Or.inr (hw _ (List.mem_of_getElem? (i := 116) rfl))) (by decide) (t := .int) (t' := .int) (by decide) (by decide))))
  have F_a0_mask_u16 : Fld Z h11 a0 "com/example/fireweed/fireweed/layout/Java31ByteSalt" "mask" "I" (.int (p1 - (1 : Int32))) := (Fw6.other W11 (Or.inr (slot_ne (Or.inr (hw _ (List.mem_of_getElem? (i := 101) rfl))) (Or.inr (hw _ (List.mem_of_getElem? (i := 116) rfl))) (by decide) (t := .int) (t' := .int) (by decide) (by decide))))
  have E_b1_0_u17 : Exa Z h11 b1_0 "[B" := (((pf1_6.wr W2).wr W6).wr W11)
  have ne_a0_b1_0 : a0 ≠ b1_0 := own_ne (Nat.lt_of_lt_of_le E_a0.lt s1_0)
  have V_b1_0_u18 : Arv Z h11 b1_0 kk1_0 .byte (2 : Int32) [(.int (((192 : Int32) ||| ((pv &&& (255 : Int32)) >>> ((6 : Int32) &&& 31))).toInt8.toInt32)), (.int (((128 : Int32) ||| (pv &&& (63 : Int32))).toInt8.toInt32))] (.int (0 : Int32)) := (((pf1_7.other W2 (Ne.symm ne_a0_b1_0)).other W6 (Ne.symm ne_a0_b1_0)).other W11 (Ne.symm ne_a0_b1_0))
  obtain ⟨fs, hr, hrun, hended, hWE⟩ := X11.leaveW (s := s) hS1 (by rw [e11]; exact (Nat.le_trans (Nat.le_trans (Nat.le_trans (Nat.le_refl _) (Keep.of_wr W2).1) (Keep.of_wr W6).1) (Keep.of_wr W11).1)) (v := none) (fun _ => rfl)
  refine ⟨_, _, pre0 _ ?_, hrun, hended, _, _, rfl, ?_, hWE.1, hWE.2.1, hWE.2.2.1, hWE.2.2.2.mono (by decide) (by decide)⟩
  · show Steps p.tables e below (s₁.setTop (mkF m 0 #[.val (.ref a0), .val (.int p1), .val (.ref a2)] [])) _
    refine XS.aloadN X0.here hx rfl (hb hby d6_0) rfl rfl ?_
    show Steps p.tables e below (s₁.setTop (mkF m 1 #[.val (.ref a0), .val (.int p1), .val (.ref a2)] [(.ref a0)])) _
    refine XS.aloadN X0.here hx rfl (hb hby d6_1) rfl rfl ?_
    show Steps p.tables e below (s₁.setTop (mkF m 2 #[.val (.ref a0), .val (.int p1), .val (.ref a2)] [(.ref a2), (.ref a0)])) _
    refine st1.trans ?_
    show Steps p.tables e below (T1.setTop (mkF m 5 #[.val (.ref a0), .val (.int p1), .val (.ref a2)] [])) _
    refine XS.iloadN X1.here hx rfl (hb hby d6_5) rfl ?_
    show Steps p.tables e below (T1.setTop (mkF m 6 #[.val (.ref a0), .val (.int p1), .val (.ref a2)] [(.int p1)])) _
    refine XS.iconst X1.here hx rfl (hb hby d6_6) ?_
    show Steps p.tables e below (T1.setTop (mkF m 7 #[.val (.ref a0), .val (.int p1), .val (.ref a2)] [(.int (1 : Int32)), (.int p1)])) _
    refine XS.icmpNo X1.here hx rfl (hb hby d6_7) rfl (flt hc19).1 ?_
    show Steps p.tables e below (T1.setTop (mkF m 10 #[.val (.ref a0), .val (.int p1), .val (.ref a2)] [])) _
    refine XS.iloadN X1.here hx rfl (hb hby d6_10) rfl ?_
    show Steps p.tables e below (T1.setTop (mkF m 11 #[.val (.ref a0), .val (.int p1), .val (.ref a2)] [(.int p1)])) _
    refine XS.sipush X1.here hx rfl (hb hby d6_11) ?_
    show Steps p.tables e below (T1.setTop (mkF m 14 #[.val (.ref a0), .val (.int p1), .val (.ref a2)] [(.int (256 : Int32)), (.int p1)])) _
    refine XS.icmpYes X1.here hx rfl (pc0 := 14) (pc' := 50) rfl (hb hby d6_14) rfl (flt hc20).2.2.2 (by decide) (by decide) ?_
    show Steps p.tables e below (T1.setTop (mkF m 50 #[.val (.ref a0), .val (.int p1), .val (.ref a2)] [])) _
    refine XS.aloadN X1.here hx rfl (hb hby d6_50) rfl rfl ?_
    show Steps p.tables e below (T1.setTop (mkF m 51 #[.val (.ref a0), .val (.int p1), .val (.ref a2)] [(.ref a0)])) _
    refine XS.iloadN X1.here hx rfl (hb hby d6_51) rfl ?_
    show Steps p.tables e below (T1.setTop (mkF m 52 #[.val (.ref a0), .val (.int p1), .val (.ref a2)] [(.int p1), (.ref a0)])) _
    refine st2 _ ?_
    show Steps p.tables e below (T2.setTop (mkF m 55 #[.val (.ref a0), .val (.int p1), .val (.ref a2)] [])) _
    refine XS.aloadN X2.here hx rfl (hb hby d6_55) rfl rfl ?_
    show Steps p.tables e below (T2.setTop (mkF m 56 #[.val (.ref a0), .val (.int p1), .val (.ref a2)] [(.ref a0)])) _
    refine XS.iloadN X2.here hx rfl (hb hby d6_56) rfl ?_
    show Steps p.tables e below (T2.setTop (mkF m 57 #[.val (.ref a0), .val (.int p1), .val (.ref a2)] [(.int p1), (.ref a0)])) _
    refine st3 _ ?_
    show Steps p.tables e below (T3.setTop (mkF m 60 #[.val (.ref a0), .val (.int p1), .val (.ref a2)] [(.int (own_bc p1)), (.ref a0)])) _
    refine XS.iconst X3.here hx rfl (hb hby d6_60) ?_
    show Steps p.tables e below (T3.setTop (mkF m 61 #[.val (.ref a0), .val (.int p1), .val (.ref a2)] [(.int (1 : Int32)), (.int (own_bc p1)), (.ref a0)])) _
    refine XS.icmpNo X3.here hx rfl (hb hby d6_61) rfl (teq hc21).2 ?_
    show Steps p.tables e below (T3.setTop (mkF m 64 #[.val (.ref a0), .val (.int p1), .val (.ref a2)] [(.ref a0)])) _
    refine XS.iloadN X3.here hx rfl (hb hby d6_64) rfl ?_
    show Steps p.tables e below (T3.setTop (mkF m 65 #[.val (.ref a0), .val (.int p1), .val (.ref a2)] [(.int p1), (.ref a0)])) _
    refine XS.iconst X3.here hx rfl (hb hby d6_65) ?_
    show Steps p.tables e below (T3.setTop (mkF m 66 #[.val (.ref a0), .val (.int p1), .val (.ref a2)] [(.int (1 : Int32)), (.int p1), (.ref a0)])) _
    refine XS.isub X3.here hx rfl (hb hby d6_66) rfl ?_
    show Steps p.tables e below (T3.setTop (mkF m 67 #[.val (.ref a0), .val (.int p1), .val (.ref a2)] [(.int (p1 - (1 : Int32))), (.ref a0)])) _
    refine XS.goto X3.here hx rfl (pc0 := 67) (pc' := 71) rfl (hb hby d6_67) (by decide) (by decide) ?_
    show Steps p.tables e below (T3.setTop (mkF m 71 #[.val (.ref a0), .val (.int p1), .val (.ref a2)] [(.int (p1 - (1 : Int32))), (.ref a0)])) _
    refine st6 _ ?_
    show Steps p.tables e below (T6.setTop (mkF m 74 #[.val (.ref a0), .val (.int p1), .val (.ref a2)] [])) _
    refine XS.aloadN X6.here hx rfl (hb hby d6_74) rfl rfl ?_
    show Steps p.tables e below (T6.setTop (mkF m 75 #[.val (.ref a0), .val (.int p1), .val (.ref a2)] [(.ref a0)])) _
    refine XS.aloadN X6.here hx rfl (hb hby d6_75) rfl rfl ?_
    show Steps p.tables e below (T6.setTop (mkF m 76 #[.val (.ref a0), .val (.int p1), .val (.ref a2)] [(.ref a0), (.ref a0)])) _
    refine X6.ldcInt hx hown1 (mvT hZ1 (hw _ (List.mem_of_getElem? (i := 102) rfl))) (g := (mkF m 76 #[.val (.ref a0), .val (.int p1), .val (.ref a2)] [(.ref a0), (.ref a0)])) rfl (hb hby d6_76) _ ?_
    show Steps p.tables e below (T6.setTop (mkF m 78 #[.val (.ref a0), .val (.int p1), .val (.ref a2)] [(.int (-2147483648 : Int32)), (.ref a0), (.ref a0)])) _
    refine st7.trans ?_
    show Steps p.tables e below (T7.setTop (mkF m 81 #[.val (.ref a0), .val (.int p1), .val (.ref a2)] [(.int (((-2147483648 : Int32) &&& (p1 - (1 : Int32))).toInt8.toInt32)), (.ref a0)])) _
    refine st9 _ ?_
    show Steps p.tables e below (T9.setTop (mkF m 84 #[.val (.ref a0), .val (.int p1), .val (.ref a2)] [(.int ((((-2147483648 : Int32) &&& (p1 - (1 : Int32))).toInt8.toInt32) &&& (255 : Int32))), (.ref a0)])) _
    refine st11 _ ?_
    show Steps p.tables e below (T11.setTop (mkF m 87 #[.val (.ref a0), .val (.int p1), .val (.ref a2)] [])) _
    exact X11.returnOut hx Bd.returns (hb hby d6_87) hr
  · show Q6nA Z a0 p1 a2 aB kB pv aU s_COMPACT_STRINGS h0 n0 _ T11.heap _
    rw [e11]
    exact ⟨b1_0, kk1_0, rfl, N11, sz_b1_0, K11, E_a0_u12, F_a0_suffix_u13, F_a0_suffixBytes_u14, F_a0_buckets_u15, F_a0_mask_u16, Fw11, E_b1_0_u17, V_b1_0_u18⟩
theorem ef_rm6nB (m : MethodId) (a0 : Addr) (p1 : Int32) (a2 : Addr) : entryFrame m #[(.ref a0), (.int p1), (.ref a2)] 3 = mkF m 0 #[.val (.ref a0), .val (.int p1), .val (.ref a2)] [] := by first | (simp [entryFrame, mkF, argsToLocals, Value.category]; done) | rfl
def Q6nB (Z : State) (a0 : Addr) (p1 : Int32) (a2 : Addr) (aB : Addr) (kB : ClassId) (pv : Int32) (aU : Addr) (s_COMPACT_STRINGS : Int32) (h0 : Heap) (n0 : Nat) (v : Option Value) (h : Heap) (L : List Loc) : Prop := ∃ r0 : Addr, ∃ rk0 : ClassId, v = none ∧ Fr n0 L ∧ h0.size ≤ r0 ∧ Keep h0 h [a0] ∧ Exa Z h a0 "com/example/fireweed/fireweed/layout/Java31ByteSalt" ∧ Fld Z h a0 "com/example/fireweed/fireweed/layout/Salt" "suffix" "Ljava/lang/String;" (.ref a2) ∧ Fld Z h a0 "com/example/fireweed/fireweed/layout/Salt" "suffixBytes" "[B" (.ref r0) ∧ Fld Z h a0 "com/example/fireweed/fireweed/layout/Java31ByteSalt" "buckets" "I" (.int p1) ∧ Fld Z h a0 "com/example/fireweed/fireweed/layout/Java31ByteSalt" "mask" "I" (.int (-1 : Int32)) ∧ Fld Z h a0 "com/example/fireweed/fireweed/layout/Java31ByteSalt" "overflow" "I" (.int ((((-2147483648 : Int32) % p1).toInt8.toInt32) &&& (255 : Int32))) ∧ Exa Z h r0 "[B" ∧ Arv Z h r0 rk0 .byte (2 : Int32) [(.int (((192 : Int32) ||| ((pv &&& (255 : Int32)) >>> ((6 : Int32) &&& 31))).toInt8.toInt32)), (.int (((128 : Int32) ||| (pv &&& (63 : Int32))).toInt8.toInt32))] (.int (0 : Int32))
set_option maxRecDepth 65536 in
set_option maxHeartbeats 40000000 in
theorem rm6nB (l : Launch) (Z : State) (az : Array Value) (hw : ∀ d ∈ tables_1, d.before az Z = true) (ws : List Jvm.Cond) (a0 : Addr) (p1 : Int32) (a2 : Addr) (aB : Addr) (kB : ClassId) (pv : Int32) (aU : Addr) (s_COMPACT_STRINGS : Int32) (h0 : Heap) (n0 : Nat) (Z0 : n0 ≤ h0.size) (E_a0 : Exa Z h0 a0 "com/example/fireweed/fireweed/layout/Java31ByteSalt") (F_suffix_a0 : Fld Z h0 a0 "com/example/fireweed/fireweed/layout/Salt" "suffix" "Ljava/lang/String;" .null) (F_suffixBytes_a0 : Fld Z h0 a0 "com/example/fireweed/fireweed/layout/Salt" "suffixBytes" "[B" .null) (F_buckets_a0 : Fld Z h0 a0 "com/example/fireweed/fireweed/layout/Java31ByteSalt" "buckets" "I" (.int (0 : Int32))) (F_mask_a0 : Fld Z h0 a0 "com/example/fireweed/fireweed/layout/Java31ByteSalt" "mask" "I" (.int (0 : Int32))) (F_overflow_a0 : Fld Z h0 a0 "com/example/fireweed/fireweed/layout/Java31ByteSalt" "overflow" "I" (.int (0 : Int32))) (E_a2 : Exa Z h0 a2 "java/lang/String") (F_coder_a2 : Fld Z h0 a2 "java/lang/String" "coder" "B" (.int (0 : Int32))) (F_value_a2 : Fld Z h0 a2 "java/lang/String" "value" "[B" (.ref aB)) (V_aB : Arv Z h0 aB kB .byte (1 : Int32) [(.int pv)] (.int (0 : Int32))) (E_aB : Exa Z h0 aB "[B") (S_INSTANCE : Sta Z h0 "sun/nio/cs/UTF_8" "INSTANCE" "Lsun/nio/cs/UTF_8;" (.ref aU)) (S_UTF_8 : Sta Z h0 "java/nio/charset/StandardCharsets" "UTF_8" "Ljava/nio/charset/Charset;" (.ref aU)) (hc13 : pv < (0 : Int32)) (S_COMPACT_STRINGS : Sta Z h0 "java/lang/String" "COMPACT_STRINGS" "Z" (.int s_COMPACT_STRINGS)) (g_a0 : n0 ≤ a0) (hne_a2_a0 : a2 ≠ a0) (hne_aB_a0 : aB ≠ a0) (hc18 : ¬ (s_COMPACT_STRINGS = (0 : Int32))) (hc19 : ¬ (p1 < (1 : Int32))) (hc20 : ¬ ((256 : Int32) < p1)) (hc21 : ¬ ((own_bc p1) = (1 : Int32))) (hc22 : p1 ≠ (0 : Int32)) :
    MetFree l (⟨"com/example/fireweed/fireweed/layout/Java31ByteSalt", "<init>", "(ILjava/lang/String;)V"⟩ : MethodName) (head1 (Jvm.Cond.code (⟨"com/example/fireweed/fireweed/layout/Java31ByteSalt", "<init>", "(ILjava/lang/String;)V"⟩ : MethodName) prog_7_method_1_code 3 none :: ws) ({ frames := 7, cells := 3, slots := 30, locals := 104 } : Room)) (fun a U => a = #[(.ref a0), (.int p1), (.ref a2)] ∧ Z.Warmed39 U.vm ∧ U.heap = h0) (fun _ _ _ _ _ => True) (fun _ U o U' => ∃ v L, o = .returned v ∧ Q6nB Z a0 p1 a2 aB kB pv aU s_COMPACT_STRINGS h0 n0 v U'.heap L ∧ ReturnedEndW U o U' L ({ frames := 7, cells := 3, slots := 30, locals := 104 } : Room).cells ({ frames := 7, cells := 3, slots := 30, locals := 104 } : Room).slots) := by
  refine MetFree.of_bodySF (plainFor_of_name pn_com_example_fireweed_fireweed_layout_Java31ByteSalt) hisR ?_
  intro p e s m args below meth c s₁ Bd hml0 hP hK
  obtain ⟨rfl, hZ, hh⟩ := hP
  have hx := Bd.exec
  have hby := Bd.bytes
  have hml : c.maxLocals = 3 := hml0
  have hown : s.vm.findClass "com/example/fireweed/fireweed/layout/Java31ByteSalt" = some m.cls := findClass_of_methodNamed Bd.named
  have hnm := (name_of_methodNamed Bd.named Bd.method).1
  have X0 : Stand p l e ({ frames := 7, cells := 3, slots := 30, locals := 104 } : Room) s m #[(.ref a0), (.int p1), (.ref a2)] below meth c s₁ [] 0 0 := Stand.of_body Bd
  have e0 : s₁.heap = h0 := by rw [← hh, Bd.state]; rfl
  have N0 := Fr.nil n0
  have pre0 : ∀ t, Steps p.tables e below (s₁.setTop (mkF m 0 #[.val (.ref a0), .val (.int p1), .val (.ref a2)] [])) t → Steps p.tables e below (s₁.setTop (entryFrame m #[(.ref a0), (.int p1), (.ref a2)] 3)) t := fun t k => castTop (ef_rm6nB m a0 p1 a2) k
  have hS0 : s.Since s.vm 0 := (State.WarmedH.refl s).since 0
  have wS : ∀ a ∈ Bundle.stringAtoms, a.before az Z = true := fun d hd => by
    simp only [Bundle.stringAtoms, List.mem_cons, List.not_mem_nil, or_false] at hd
    rcases hd with rfl | rfl | rfl | rfl | rfl | rfl | rfl
    · exact (hw _ (List.mem_of_getElem? (i := 2) rfl))
    · exact (hw _ (List.mem_of_getElem? (i := 10) rfl))
    · exact (hw _ (List.mem_of_getElem? (i := 14) rfl))
    · exact (hw _ (List.mem_of_getElem? (i := 23) rfl))
    · exact (hw _ (List.mem_of_getElem? (i := 25) rfl))
    · exact (hw _ (List.mem_of_getElem? (i := 44) rfl))
    · exact (hw _ (List.mem_of_getElem? (i := 45) rfl))
  obtain ⟨_, _, ⟨T1, L1, k1', n1'⟩, -, Y1, yS1, yg1, ⟨Lc1, hQ1, l1, y1, z1⟩, st1⟩ := X0.specialBackS hx (y := (⟨"com/example/fireweed/fireweed/layout/BucketSalt", "<init>", "(Ljava/lang/String;)V"⟩ : MethodName)) rfl hown (mvT hZ (hw _ (List.mem_of_getElem? (i := 32) rfl))) (mvT hZ (hw _ (List.mem_of_getElem? (i := 33) rfl))) (mvT hZ (hw _ (List.mem_of_getElem? (i := 36) rfl))) (by decide) (backOfS (W := 0) (rm7n l Z az hw [] a0 a2 aB kB pv aU s_COMPACT_STRINGS h0 n0 Z0 E_a0 F_suffix_a0 F_suffixBytes_a0 F_buckets_a0 F_mask_a0 F_overflow_a0 E_a2 F_coder_a2 F_value_a2 V_aB E_aB S_INSTANCE S_UTF_8 hc13 S_COMPACT_STRINGS g_a0 hne_a2_a0 hne_aB_a0 hc18) hZ (hw _ (List.mem_of_getElem? (i := 36) rfl)) (hw _ (List.mem_of_getElem? (i := 35) rfl)) (by decide) (by decide)) (g := (mkF m 2 #[.val (.ref a0), .val (.int p1), .val (.ref a2)] [(.ref a2), (.ref a0)])) rfl (by rw [hml]; rfl) (Steps.refl _) (a := a0) (argsL := [(.ref a2)]) (rest := []) (lenOf pd_7 rfl) rfl (by show 2 * 0 + _ ≤ _; exact Nat.le_of_eq rfl) (hb hby d6_2) (fun _ _ => ⟨rfl, e0, (by decide : 0 + 3 ≤ _), (by decide : 0 + 30 ≤ _)⟩)
  dsimp only [Pt.U, Pt.locs, Pt.cells, Pt.slots] at Y1 yS1 yg1 l1 y1 z1 st1 hQ1
  subst l1 y1 z1
  obtain ⟨X1, hS1, hZ1, hown1⟩ := rebS (s := s) (vm0 := s.vm) hS0 (by rw [e0]; exact (Nat.zero_le _)) Y1 yS1 yg1 hZ hown
  obtain ⟨b1_0, kk1_0, rfl, N1q, s1_0, kq1, pf1_0, pf1_1, pf1_2, pf1_3, pf1_4, pf1_5, pf1_6, pf1_7⟩ := hQ1
  have N1 := Fr.app N0 N1q
  have g_b1_0 : n0 ≤ b1_0 := Nat.le_trans Z0 s1_0
  have sz_b1_0 : h0.size ≤ b1_0 := Nat.le_trans (Nat.le_refl _) s1_0
  have K1 : Keep h0 T1.heap [a0] := (Keep.refl h0 [a0]).trans kq1 (allS (Or.inl (List.mem_of_getElem? (i := 0) rfl)) all0)
  have Z1 : n0 ≤ T1.heap.size := Nat.le_trans Z0 kq1.1
  obtain ⟨T2, h2, X2, e2, W2, st2⟩ := putF X1 hx hZ1 hown1 (host := "") (Or.inl (hw _ (List.mem_of_getElem? (i := 91) rfl))) Via.refl rfl pf1_3 pf1_0 (Or.inr ⟨(hw _ (List.mem_of_getElem? (i := 92) rfl)), rfl, hnm⟩) (hw _ (List.mem_of_getElem? (i := 27) rfl)) (ty := .int) (by decide) rfl rfl (g := (mkF m 52 #[.val (.ref a0), .val (.int p1), .val (.ref a2)] [(.int p1), (.ref a0)])) rfl rfl (hb hby d6_52)
  have K2 : Keep h0 h2 [a0] := K1.wr W2 (Or.inl (List.mem_of_getElem? (i := 0) rfl))
  have Fw2 := pf1_3.same W2
  have Z2 : n0 ≤ h2.size := Nat.le_trans Z1 (Keep.of_wr W2).1
  have N2 := Fr.snoc X2 N1 g_a0
  obtain ⟨_, _, ⟨T3, L3, k3', n3'⟩, -, X3, ⟨Lc3, hQ3, l3, y3, z3⟩, st3⟩ := Jvm.LawKit.callS X2 hx (y := (⟨"java/lang/Integer", "bitCount", "(I)I"⟩ : MethodName)) hown1 (mvT hZ1 (hw _ (List.mem_of_getElem? (i := 93) rfl))) (mvT hZ1 (hw _ (List.mem_of_getElem? (i := 94) rfl))) (mvT hZ1 (hw _ (List.mem_of_getElem? (i := 95) rfl))) (mvT hZ1 (hw _ (List.mem_of_getElem? (i := 96) rfl))) (by decide) (backOf (W := 1) (rm16 l Z az hw [] p1 h2 n0 Z2) hZ1 (hw _ (List.mem_of_getElem? (i := 96) rfl)) (hw _ (List.mem_of_getElem? (i := 95) rfl)) (by decide) (by decide)) (g := (mkF m 57 #[.val (.ref a0), .val (.int p1), .val (.ref a2)] [(.int p1), (.ref a0)])) rfl (by rw [hml]; rfl) (argsL := [(.int p1)]) (rest := [(.ref a0)]) (lenOf pd_8 rfl) rfl (by show 2 * 0 + _ ≤ _; exact Nat.le_of_eq rfl) (hb hby d6_57) (fun _ _ => ⟨rfl, e2, (by decide : 3 + 0 ≤ _), (by decide : 30 + 0 ≤ _)⟩)
  dsimp only [Pt.U, Pt.locs, Pt.cells, Pt.slots] at X3 l3 y3 z3 st3 hQ3
  subst l3 y3 z3
  obtain ⟨rfl, N3q, e3⟩ := hQ3
  have N3 := Fr.app N2 N3q
  have F_a0_mask_u4 : Fld Z h2 a0 "com/example/fireweed/fireweed/layout/Java31ByteSalt" "mask" "I" (.int (0 : Int32)) := (pf1_4.other W2 (Or.inr (slot_ne (Or.inr (hw _ (List.mem_of_getElem? (i := 101) rfl))) (Or.inr (hw _ (List.mem_of_getElem? (i := 92) rfl))) (by decide) (t := .int) (t' := .int) (by decide) (by decide))))
  have E_a0_u5 : Exa Z h2 a0 "com/example/fireweed/fireweed/layout/Java31ByteSalt" := (pf1_0.wr W2)
  obtain ⟨T6, h6, X6, e6, W6, st6⟩ := putF X3 hx hZ1 hown1 (host := "") (Or.inl (hw _ (List.mem_of_getElem? (i := 100) rfl))) Via.refl e3 F_a0_mask_u4 E_a0_u5 (Or.inr ⟨(hw _ (List.mem_of_getElem? (i := 101) rfl)), rfl, hnm⟩) (hw _ (List.mem_of_getElem? (i := 27) rfl)) (ty := .int) (by decide) rfl rfl (g := (mkF m 71 #[.val (.ref a0), .val (.int p1), .val (.ref a2)] [(.int (-1 : Int32)), (.ref a0)])) rfl rfl (hb hby d6_71)
  have K6 : Keep h0 h6 [a0] := K2.wr W6 (Or.inl (List.mem_of_getElem? (i := 0) rfl))
  have Fw6 := F_a0_mask_u4.same W6
  have Z6 : n0 ≤ h6.size := Nat.le_trans Z2 (Keep.of_wr W6).1
  have N6 := Fr.snoc X6 N3 g_a0
  have F_a0_buckets_u8 : Fld Z h6 a0 "com/example/fireweed/fireweed/layout/Java31ByteSalt" "buckets" "I" (.int p1) := (Fw2.other W6 (Or.inr (slot_ne (Or.inr (hw _ (List.mem_of_getElem? (i := 92) rfl))) (Or.inr (hw _ (List.mem_of_getElem? (i := 101) rfl))) (by decide) (t := .int) (t' := .int) (by decide) (by decide))))
  have E_a0_u9 : Exa Z h6 a0 "com/example/fireweed/fireweed/layout/Java31ByteSalt" := (E_a0_u5.wr W6)
  obtain ⟨cq7, q7, q7'⟩ := E_a0_u9.cell
  obtain ⟨_, _, ⟨T7, L7, k7', n7'⟩, -, X7, ⟨Lc7, hQ7, l7, y7, z7⟩, st7⟩ := X6.privateBack hx (y := (⟨"com/example/fireweed/fireweed/layout/Java31ByteSalt", "saltOf", "(I)B"⟩ : MethodName)) hown1 (mvT hZ1 (hw _ (List.mem_of_getElem? (i := 103) rfl))) (mvT hZ1 (hw _ (List.mem_of_getElem? (i := 104) rfl))) (own_priv (mvT hZ1 (hw _ (List.mem_of_getElem? (i := 27) rfl))) (Cond.privateMethod_at (mvP hZ1 (hw _ (List.mem_of_getElem? (i := 105) rfl)) (args := #[]))) (mvT hZ1 (hw _ (List.mem_of_getElem? (i := 104) rfl))) (by decide)) (Cond.privateMethod_at (mvP hZ1 (hw _ (List.mem_of_getElem? (i := 105) rfl)) (args := #[]))) (mvT hZ1 (hw _ (List.mem_of_getElem? (i := 106) rfl))) (by decide) (backOf (W := 1) (rm17b l Z az hw [] a0 p1 h6 n0 Z6 Fw6 F_a0_buckets_u8 hc22) hZ1 (hw _ (List.mem_of_getElem? (i := 106) rfl)) (hw _ (List.mem_of_getElem? (i := 28) rfl)) (by decide) (by decide)) (g := (mkF m 78 #[.val (.ref a0), .val (.int p1), .val (.ref a2)] [(.int (-2147483648 : Int32)), (.ref a0), (.ref a0)])) rfl (by rw [hml]; rfl) (Steps.refl _) (a := a0) (by rw [e6]; exact q7) q7' (argsL := [(.int (-2147483648 : Int32))]) (rest := [(.ref a0)]) (lenOf pd_10 rfl) rfl (by show 2 * 0 + _ ≤ _; exact Nat.le_of_eq rfl) (hb hby d6_78) (fun _ _ => ⟨rfl, e6, (by decide : 3 + 0 ≤ _), (by decide : 30 + 0 ≤ _)⟩)
  dsimp only [Pt.U, Pt.locs, Pt.cells, Pt.slots] at X7 l7 y7 z7 st7 hQ7
  subst l7 y7 z7
  obtain ⟨rfl, N7q, e7⟩ := hQ7
  have N7 := Fr.app N6 N7q
  obtain ⟨_, _, ⟨T10, L10, k10', n10'⟩, -, X10, ⟨Lc10, hQ10, l10, y10, z10⟩, st10⟩ := Jvm.LawKit.callS X7 hx (y := (⟨"java/lang/Byte", "toUnsignedInt", "(B)I"⟩ : MethodName)) hown1 (mvT hZ1 (hw _ (List.mem_of_getElem? (i := 111) rfl))) (mvT hZ1 (hw _ (List.mem_of_getElem? (i := 112) rfl))) (mvT hZ1 (hw _ (List.mem_of_getElem? (i := 113) rfl))) (mvT hZ1 (hw _ (List.mem_of_getElem? (i := 114) rfl))) (by decide) (backOf (W := 1) (rm19 l Z az hw [] (((-2147483648 : Int32) % p1).toInt8.toInt32) h6 n0 Z6) hZ1 (hw _ (List.mem_of_getElem? (i := 114) rfl)) (hw _ (List.mem_of_getElem? (i := 113) rfl)) (by decide) (by decide)) (g := (mkF m 81 #[.val (.ref a0), .val (.int p1), .val (.ref a2)] [(.int (((-2147483648 : Int32) % p1).toInt8.toInt32)), (.ref a0)])) rfl (by rw [hml]; rfl) (argsL := [(.int (((-2147483648 : Int32) % p1).toInt8.toInt32))]) (rest := [(.ref a0)]) (lenOf pd_11 rfl) rfl (by show 2 * 0 + _ ≤ _; exact Nat.le_of_eq rfl) (hb hby d6_81) (fun _ _ => ⟨rfl, e7, (by decide : 3 + 0 ≤ _), (by decide : 30 + 0 ≤ _)⟩)
  dsimp only [Pt.U, Pt.locs, Pt.cells, Pt.slots] at X10 l10 y10 z10 st10 hQ10
  subst l10 y10 z10
  obtain ⟨rfl, N10q, e10⟩ := hQ10
  have N10 := Fr.app N7 N10q
  have F_a0_overflow_u11 : Fld Z h6 a0 "com/example/fireweed/fireweed/layout/Java31ByteSalt" "overflow" "I" (.int (0 : Int32)) := ((pf1_5.other W2 (Or.inr (slot_ne (Or.inr (hw _ (List.mem_of_getElem? (i := 116) rfl))) (Or.inr (hw _ (List.mem_of_getElem? (i := 92) rfl))) (by decide) (t := .int) (t' := .int) (by decide) (by decide)))).other W6 (Or.inr (slot_ne (Or.inr (hw _ (List.mem_of_getElem? (i := 116) rfl))) (Or.inr (hw _ (List.mem_of_getElem? (i := 101) rfl))) (by decide) (t := .int) (t' := .int) (by decide) (by decide))))
  obtain ⟨T12, h12, X12, e12, W12, st12⟩ := putF X10 hx hZ1 hown1 (host := "") (Or.inl (hw _ (List.mem_of_getElem? (i := 115) rfl))) Via.refl e10 F_a0_overflow_u11 E_a0_u9 (Or.inr ⟨(hw _ (List.mem_of_getElem? (i := 116) rfl)), rfl, hnm⟩) (hw _ (List.mem_of_getElem? (i := 27) rfl)) (ty := .int) (by decide) rfl rfl (g := (mkF m 84 #[.val (.ref a0), .val (.int p1), .val (.ref a2)] [(.int ((((-2147483648 : Int32) % p1).toInt8.toInt32) &&& (255 : Int32))), (.ref a0)])) rfl rfl (hb hby d6_84)
  have K12 : Keep h0 h12 [a0] := K6.wr W12 (Or.inl (List.mem_of_getElem? (i := 0) rfl))
  have Fw12 := F_a0_overflow_u11.same W12
  have Z12 : n0 ≤ h12.size := Nat.le_trans Z6 (Keep.of_wr W12).1
  have N12 := Fr.snoc X12 N10 g_a0
  have E_a0_u13 : Exa Z h12 a0 "com/example/fireweed/fireweed/layout/Java31ByteSalt" := (E_a0_u9.wr W12)
  have F_a0_suffix_u14 : Fld Z h12 a0 "com/example/fireweed/fireweed/layout/Salt" "suffix" "Ljava/lang/String;" (.ref a2) := (((pf1_1.other W2 (Or.inr (slot_ne (Or.inr (hw _ (List.mem_of_getElem? (i := 52) rfl))) (Or.inr (hw _ (List.mem_of_getElem? (i := 92) rfl))) (by decide) (t := (.object "java/lang/String")) (t' := .int) (by decide) (by decide)))).other W6 (Or.inr (slot_ne (Or.inr (hw _ (List.mem_of_getElem? (i := 52) rfl))) (Or.inr (hw _ (List.mem_of_getElem? (i := 101) rfl))) (by decide) (t := (.object "java/lang/String")) (t' := .int) (by decide) (by decide)))).other W12 (Or.inr (slot_ne (Or.inr (hw _ (List.mem_of_getElem? (i := 52) rfl))) (Or.inr (hw _ (List.mem_of_getElem? (i := 116) rfl))) (by decide) (t := (.object "java/lang/String")) (t' := .int) (by decide) (by decide))))
  have F_a0_suffixBytes_u15 : Fld Z h12 a0 "com/example/fireweed/fireweed/layout/Salt" "suffixBytes" "[B" (.ref b1_0) := (((pf1_2.other W2 (Or.inr (slot_ne (Or.inr (hw _ (List.mem_of_getElem? (i := 90) rfl))) (Or.inr (hw _ (List.mem_of_getElem? (i := 92) rfl))) (by decide) (t := (.array .byte)) (t' := .int) (by decide) (by decide)))).other W6 (Or.inr (slot_ne (Or.inr (hw _ (List.mem_of_getElem? (i := 90) rfl))) (Or.inr (hw _ (List.mem_of_getElem? (i := 101) rfl))) (by decide) (t := (.array .byte)) (t' := .int) (by decide) (by decide)))).other W12 (Or.inr (slot_ne (Or.inr (hw _ (List.mem_of_getElem? (i := 90) rfl))) (Or.inr (hw _ (List.mem_of_getElem? (i := 116) rfl))) (by decide) (t := (.array .byte)) (t' := .int) (by decide) (by decide))))
  have F_a0_buckets_u16 : Fld Z h12 a0 "com/example/fireweed/fireweed/layout/Java31ByteSalt" "buckets" "I" (.int p1) := (F_a0_buckets_u8.other W12 (Or.inr (slot_ne (Or.inr (hw _ (List.mem_of_getElem? (i := 92) rfl))) (Or.inr (hw _ (List.mem_of_getElem? (i := 116) rfl))) (by decide) (t := .int) (t' := .int) (by decide) (by decide))))
  have F_a0_mask_u17 : Fld Z h12 a0 "com/example/fireweed/fireweed/layout/Java31ByteSalt" "mask" "I" (.int (-1 : Int32)) := (Fw6.other W12 (Or.inr (slot_ne (Or.inr (hw _ (List.mem_of_getElem? (i := 101) rfl))) (Or.inr (hw _ (List.mem_of_getElem? (i := 116) rfl))) (by decide) (t := .int) (t' := .int) (by decide) (by decide))))
  have E_b1_0_u18 : Exa Z h12 b1_0 "[B" := (((pf1_6.wr W2).wr W6).wr W12)
  have ne_a0_b1_0 : a0 ≠ b1_0 := own_ne (Nat.lt_of_lt_of_le E_a0.lt s1_0)
  have V_b1_0_u19 : Arv Z h12 b1_0 kk1_0 .byte (2 : Int32) [(.int (((192 : Int32) ||| ((pv &&& (255 : Int32)) >>> ((6 : Int32) &&& 31))).toInt8.toInt32)), (.int (((128 : Int32) ||| (pv &&& (63 : Int32))).toInt8.toInt32))] (.int (0 : Int32)) := (((pf1_7.other W2 (Ne.symm ne_a0_b1_0)).other W6 (Ne.symm ne_a0_b1_0)).other W12 (Ne.symm ne_a0_b1_0))
  obtain ⟨fs, hr, hrun, hended, hWE⟩ := X12.leaveW (s := s) hS1 (by rw [e12]; exact (Nat.le_trans (Nat.le_trans (Nat.le_trans (Nat.le_refl _) (Keep.of_wr W2).1) (Keep.of_wr W6).1) (Keep.of_wr W12).1)) (v := none) (fun _ => rfl)
  refine ⟨_, _, pre0 _ ?_, hrun, hended, _, _, rfl, ?_, hWE.1, hWE.2.1, hWE.2.2.1, hWE.2.2.2.mono (by decide) (by decide)⟩
  · show Steps p.tables e below (s₁.setTop (mkF m 0 #[.val (.ref a0), .val (.int p1), .val (.ref a2)] [])) _
    refine XS.aloadN X0.here hx rfl (hb hby d6_0) rfl rfl ?_
    show Steps p.tables e below (s₁.setTop (mkF m 1 #[.val (.ref a0), .val (.int p1), .val (.ref a2)] [(.ref a0)])) _
    refine XS.aloadN X0.here hx rfl (hb hby d6_1) rfl rfl ?_
    show Steps p.tables e below (s₁.setTop (mkF m 2 #[.val (.ref a0), .val (.int p1), .val (.ref a2)] [(.ref a2), (.ref a0)])) _
    refine st1.trans ?_
    show Steps p.tables e below (T1.setTop (mkF m 5 #[.val (.ref a0), .val (.int p1), .val (.ref a2)] [])) _
    refine XS.iloadN X1.here hx rfl (hb hby d6_5) rfl ?_
    show Steps p.tables e below (T1.setTop (mkF m 6 #[.val (.ref a0), .val (.int p1), .val (.ref a2)] [(.int p1)])) _
    refine XS.iconst X1.here hx rfl (hb hby d6_6) ?_
    show Steps p.tables e below (T1.setTop (mkF m 7 #[.val (.ref a0), .val (.int p1), .val (.ref a2)] [(.int (1 : Int32)), (.int p1)])) _
    refine XS.icmpNo X1.here hx rfl (hb hby d6_7) rfl (flt hc19).1 ?_
    show Steps p.tables e below (T1.setTop (mkF m 10 #[.val (.ref a0), .val (.int p1), .val (.ref a2)] [])) _
    refine XS.iloadN X1.here hx rfl (hb hby d6_10) rfl ?_
    show Steps p.tables e below (T1.setTop (mkF m 11 #[.val (.ref a0), .val (.int p1), .val (.ref a2)] [(.int p1)])) _
    refine XS.sipush X1.here hx rfl (hb hby d6_11) ?_
    show Steps p.tables e below (T1.setTop (mkF m 14 #[.val (.ref a0), .val (.int p1), .val (.ref a2)] [(.int (256 : Int32)), (.int p1)])) _
    refine XS.icmpYes X1.here hx rfl (pc0 := 14) (pc' := 50) rfl (hb hby d6_14) rfl (flt hc20).2.2.2 (by decide) (by decide) ?_
    show Steps p.tables e below (T1.setTop (mkF m 50 #[.val (.ref a0), .val (.int p1), .val (.ref a2)] [])) _
    refine XS.aloadN X1.here hx rfl (hb hby d6_50) rfl rfl ?_
    show Steps p.tables e below (T1.setTop (mkF m 51 #[.val (.ref a0), .val (.int p1), .val (.ref a2)] [(.ref a0)])) _
    refine XS.iloadN X1.here hx rfl (hb hby d6_51) rfl ?_
    show Steps p.tables e below (T1.setTop (mkF m 52 #[.val (.ref a0), .val (.int p1), .val (.ref a2)] [(.int p1), (.ref a0)])) _
    refine st2 _ ?_
    show Steps p.tables e below (T2.setTop (mkF m 55 #[.val (.ref a0), .val (.int p1), .val (.ref a2)] [])) _
    refine XS.aloadN X2.here hx rfl (hb hby d6_55) rfl rfl ?_
    show Steps p.tables e below (T2.setTop (mkF m 56 #[.val (.ref a0), .val (.int p1), .val (.ref a2)] [(.ref a0)])) _
    refine XS.iloadN X2.here hx rfl (hb hby d6_56) rfl ?_
    show Steps p.tables e below (T2.setTop (mkF m 57 #[.val (.ref a0), .val (.int p1), .val (.ref a2)] [(.int p1), (.ref a0)])) _
    refine st3 _ ?_
    show Steps p.tables e below (T3.setTop (mkF m 60 #[.val (.ref a0), .val (.int p1), .val (.ref a2)] [(.int (own_bc p1)), (.ref a0)])) _
    refine XS.iconst X3.here hx rfl (hb hby d6_60) ?_
    show Steps p.tables e below (T3.setTop (mkF m 61 #[.val (.ref a0), .val (.int p1), .val (.ref a2)] [(.int (1 : Int32)), (.int (own_bc p1)), (.ref a0)])) _
    refine XS.icmpYes X3.here hx rfl (pc0 := 61) (pc' := 70) rfl (hb hby d6_61) rfl (feq hc21).2 (by decide) (by decide) ?_
    show Steps p.tables e below (T3.setTop (mkF m 70 #[.val (.ref a0), .val (.int p1), .val (.ref a2)] [(.ref a0)])) _
    refine XS.iconst X3.here hx rfl (hb hby d6_70) ?_
    show Steps p.tables e below (T3.setTop (mkF m 71 #[.val (.ref a0), .val (.int p1), .val (.ref a2)] [(.int (-1 : Int32)), (.ref a0)])) _
    refine st6 _ ?_
    show Steps p.tables e below (T6.setTop (mkF m 74 #[.val (.ref a0), .val (.int p1), .val (.ref a2)] [])) _
    refine XS.aloadN X6.here hx rfl (hb hby d6_74) rfl rfl ?_
    show Steps p.tables e below (T6.setTop (mkF m 75 #[.val (.ref a0), .val (.int p1), .val (.ref a2)] [(.ref a0)])) _
    refine XS.aloadN X6.here hx rfl (hb hby d6_75) rfl rfl ?_
    show Steps p.tables e below (T6.setTop (mkF m 76 #[.val (.ref a0), .val (.int p1), .val (.ref a2)] [(.ref a0), (.ref a0)])) _
    refine X6.ldcInt hx hown1 (mvT hZ1 (hw _ (List.mem_of_getElem? (i := 102) rfl))) (g := (mkF m 76 #[.val (.ref a0), .val (.int p1), .val (.ref a2)] [(.ref a0), (.ref a0)])) rfl (hb hby d6_76) _ ?_
    show Steps p.tables e below (T6.setTop (mkF m 78 #[.val (.ref a0), .val (.int p1), .val (.ref a2)] [(.int (-2147483648 : Int32)), (.ref a0), (.ref a0)])) _
    refine st7.trans ?_
    show Steps p.tables e below (T7.setTop (mkF m 81 #[.val (.ref a0), .val (.int p1), .val (.ref a2)] [(.int (((-2147483648 : Int32) % p1).toInt8.toInt32)), (.ref a0)])) _
    refine st10 _ ?_
    show Steps p.tables e below (T10.setTop (mkF m 84 #[.val (.ref a0), .val (.int p1), .val (.ref a2)] [(.int ((((-2147483648 : Int32) % p1).toInt8.toInt32) &&& (255 : Int32))), (.ref a0)])) _
    refine st12 _ ?_
    show Steps p.tables e below (T12.setTop (mkF m 87 #[.val (.ref a0), .val (.int p1), .val (.ref a2)] [])) _
    exact X12.returnOut hx Bd.returns (hb hby d6_87) hr
  · show Q6nB Z a0 p1 a2 aB kB pv aU s_COMPACT_STRINGS h0 n0 _ T12.heap _
    rw [e12]
    exact ⟨b1_0, kk1_0, rfl, N12, sz_b1_0, K12, E_a0_u13, F_a0_suffix_u14, F_a0_suffixBytes_u15, F_a0_buckets_u16, F_a0_mask_u17, Fw12, E_b1_0_u18, V_b1_0_u19⟩
theorem d2_0 : decode jdk_43_method_3_code 0 = .ok (.iload_n 0, 1) := by decide +kernel
theorem d2_1 : decode jdk_43_method_3_code 1 = .ok (.sipush 255, 3) := by decide +kernel
theorem d2_4 : decode jdk_43_method_3_code 4 = .ok (.if_icmp .gt 7, 3) := by decide +kernel
theorem d2_7 : decode jdk_43_method_3_code 7 = .ok (.iconst 1, 1) := by decide +kernel
theorem d2_8 : decode jdk_43_method_3_code 8 = .ok (.goto 4, 3) := by decide +kernel
theorem d2_12 : decode jdk_43_method_3_code 12 = .ok (.ireturn, 1) := by decide +kernel
theorem pn_java_lang_StringLatin1 : plainName "java/lang/StringLatin1" = true := by first | (simp [plainName, overriddenIn]; done) | decide +kernel
theorem ef_rm2 (m : MethodId) (p0 : Int32) : entryFrame m #[(.int p0)] 1 = mkF m 0 #[.val (.int p0)] [] := by first | (simp [entryFrame, mkF, argsToLocals, Value.category]; done) | rfl
def Q2 (Z : State) (p0 : Int32) (h0 : Heap) (n0 : Nat) (v : Option Value) (h : Heap) (L : List Loc) : Prop := v = some (.int (1 : Int32)) ∧ Fr n0 L ∧ h = h0
set_option maxRecDepth 65536 in
set_option maxHeartbeats 40000000 in
theorem rm2 (l : Launch) (Z : State) (az : Array Value) (hw : ∀ d ∈ tables_1, d.before az Z = true) (ws : List Jvm.Cond) (p0 : Int32) (h0 : Heap) (n0 : Nat) (Z0 : n0 ≤ h0.size) (hc0 : ¬ ((255 : Int32) < p0)) :
    MetFree l (⟨"java/lang/StringLatin1", "canEncode", "(C)Z"⟩ : MethodName) (head1 (Jvm.Cond.code (⟨"java/lang/StringLatin1", "canEncode", "(C)Z"⟩ : MethodName) jdk_43_method_3_code 1 (some .boolean) :: ws) ({ frames := 0, cells := 0, slots := 0, locals := 0 } : Room)) (fun a U => a = #[(.int p0)] ∧ Z.Warmed39 U.vm ∧ U.heap = h0) (fun _ _ _ _ _ => True) (fun _ U o U' => ∃ v L, o = .returned v ∧ Q2 Z p0 h0 n0 v U'.heap L ∧ FrameEnd U o U' L ({ frames := 0, cells := 0, slots := 0, locals := 0 } : Room).cells ({ frames := 0, cells := 0, slots := 0, locals := 0 } : Room).slots) := by
  refine MetFree.of_bodySF (plainFor_of_name pn_java_lang_StringLatin1) hisR ?_
  intro p e s m args below meth c s₁ Bd hml0 hP hK
  obtain ⟨rfl, hZ, hh⟩ := hP
  have hx := Bd.exec
  have hby := Bd.bytes
  have hml : c.maxLocals = 1 := hml0
  have hown : s.vm.findClass "java/lang/StringLatin1" = some m.cls := findClass_of_methodNamed Bd.named
  have hnm := (name_of_methodNamed Bd.named Bd.method).1
  have X0 : Stand p l e ({ frames := 0, cells := 0, slots := 0, locals := 0 } : Room) s m #[(.int p0)] below meth c s₁ [] 0 0 := Stand.of_body Bd
  have e0 : s₁.heap = h0 := by rw [← hh, Bd.state]; rfl
  have N0 := Fr.nil n0
  have pre0 : ∀ t, Steps p.tables e below (s₁.setTop (mkF m 0 #[.val (.int p0)] [])) t → Steps p.tables e below (s₁.setTop (entryFrame m #[(.int p0)] 1)) t := fun t k => castTop (ef_rm2 m p0) k
  obtain ⟨fs, hr, hrun, hended, hW, hsame⟩ := X0.leave (v := some (.int (1 : Int32))) (fun h => by rw [Bd.returns] at h; cases h)
  refine ⟨_, _, pre0 _ ?_, hrun, hended, _, _, rfl, ?_, ⟨_, rfl⟩, hW, hsame.mono (by decide) (by decide)⟩
  · show Steps p.tables e below (s₁.setTop (mkF m 0 #[.val (.int p0)] [])) _
    refine XS.iloadN X0.here hx rfl (hb hby d2_0) rfl ?_
    show Steps p.tables e below (s₁.setTop (mkF m 1 #[.val (.int p0)] [(.int p0)])) _
    refine XS.sipush X0.here hx rfl (hb hby d2_1) ?_
    show Steps p.tables e below (s₁.setTop (mkF m 4 #[.val (.int p0)] [(.int (255 : Int32)), (.int p0)])) _
    refine XS.icmpNo X0.here hx rfl (hb hby d2_4) rfl (flt hc0).2.2.1 ?_
    show Steps p.tables e below (s₁.setTop (mkF m 7 #[.val (.int p0)] [])) _
    refine XS.iconst X0.here hx rfl (hb hby d2_7) ?_
    show Steps p.tables e below (s₁.setTop (mkF m 8 #[.val (.int p0)] [(.int (1 : Int32))])) _
    refine XS.goto X0.here hx rfl (pc0 := 8) (pc' := 12) rfl (hb hby d2_8) (by decide) (by decide) ?_
    show Steps p.tables e below (s₁.setTop (mkF m 12 #[.val (.int p0)] [(.int (1 : Int32))])) _
    exact retN X0 hx (t := .boolean) Bd.returns (by simp) (hb hby d2_12) hr
  · show Q2 Z p0 h0 n0 _ s₁.heap _
    rw [e0]
    exact ⟨rfl, N0, rfl⟩
theorem d3_0 : decode jdk_43_method_46_code 0 = .ok (.iconst 1, 1) := by decide +kernel
theorem d3_1 : decode jdk_43_method_46_code 1 = .ok (.newarray .byte, 2) := by decide +kernel
theorem d3_3 : decode jdk_43_method_46_code 3 = .ok (.dup, 1) := by decide +kernel
theorem d3_4 : decode jdk_43_method_46_code 4 = .ok (.iconst 0, 1) := by decide +kernel
theorem d3_5 : decode jdk_43_method_46_code 5 = .ok (.iload_n 0, 1) := by decide +kernel
theorem d3_6 : decode jdk_43_method_46_code 6 = .ok (.i2b, 1) := by decide +kernel
theorem d3_7 : decode jdk_43_method_46_code 7 = .ok (.bastore, 1) := by decide +kernel
theorem d3_8 : decode jdk_43_method_46_code 8 = .ok (.areturn, 1) := by decide +kernel
theorem ef_rm3 (m : MethodId) (p0 : Int32) : entryFrame m #[(.int p0)] 1 = mkF m 0 #[.val (.int p0)] [] := by first | (simp [entryFrame, mkF, argsToLocals, Value.category]; done) | rfl
def Q3 (Z : State) (p0 : Int32) (h0 : Heap) (n0 : Nat) (v : Option Value) (h : Heap) (L : List Loc) : Prop := ∃ r0 : Addr, ∃ rk0 : ClassId, v = some (.ref r0) ∧ Fr n0 L ∧ h0.size ≤ r0 ∧ Keep h0 h [] ∧ Exa Z h r0 "[B" ∧ Arv Z h r0 rk0 .byte (1 : Int32) [(.int (p0.toInt8.toInt32))] (.int (0 : Int32))
set_option maxRecDepth 65536 in
set_option maxHeartbeats 40000000 in
theorem rm3 (l : Launch) (Z : State) (az : Array Value) (hw : ∀ d ∈ tables_1, d.before az Z = true) (ws : List Jvm.Cond) (p0 : Int32) (h0 : Heap) (n0 : Nat) (Z0 : n0 ≤ h0.size) :
    MetFree l (⟨"java/lang/StringLatin1", "toBytes", "(C)[B"⟩ : MethodName) (head1 (Jvm.Cond.code (⟨"java/lang/StringLatin1", "toBytes", "(C)[B"⟩ : MethodName) jdk_43_method_46_code 1 (some (.array .byte)) :: ws) ({ frames := 0, cells := 1, slots := 1, locals := 0 } : Room)) (fun a U => a = #[(.int p0)] ∧ Z.Warmed39 U.vm ∧ U.heap = h0) (fun _ _ _ _ _ => True) (fun _ U o U' => ∃ v L, o = .returned v ∧ Q3 Z p0 h0 n0 v U'.heap L ∧ FrameEnd U o U' L ({ frames := 0, cells := 1, slots := 1, locals := 0 } : Room).cells ({ frames := 0, cells := 1, slots := 1, locals := 0 } : Room).slots) := by
  refine MetFree.of_bodySF (plainFor_of_name pn_java_lang_StringLatin1) hisR ?_
  intro p e s m args below meth c s₁ Bd hml0 hP hK
  obtain ⟨rfl, hZ, hh⟩ := hP
  have hx := Bd.exec
  have hby := Bd.bytes
  have hml : c.maxLocals = 1 := hml0
  have hown : s.vm.findClass "java/lang/StringLatin1" = some m.cls := findClass_of_methodNamed Bd.named
  have hnm := (name_of_methodNamed Bd.named Bd.method).1
  have X0 : Stand p l e ({ frames := 0, cells := 1, slots := 1, locals := 0 } : Room) s m #[(.int p0)] below meth c s₁ [] 0 0 := Stand.of_body Bd
  have e0 : s₁.heap = h0 := by rw [← hh, Bd.state]; rfl
  have N0 := Fr.nil n0
  have pre0 : ∀ t, Steps p.tables e below (s₁.setTop (mkF m 0 #[.val (.int p0)] [])) t → Steps p.tables e below (s₁.setTop (entryFrame m #[(.int p0)] 1)) t := fun t k => castTop (ef_rm3 m p0) k
  obtain ⟨T1, h1, k1, X1, e1, E1, A1, x1, st1⟩ := newPE X0 hx hZ (hw _ (List.mem_of_getElem? (i := 14) rfl)) e0 (g := (mkF m 1 #[.val (.int p0)] [(.int (1 : Int32))])) rfl (hb hby d3_1) rfl (by decide) (cap := 1) (by decide) (by decide) (by decide) (by decide) (ad := "[B") (by decide)
  obtain ⟨b1, g1⟩ : ∃ z, z = h0.size := ⟨_, rfl⟩
  rw [← g1] at A1 x1 st1
  have g_b1 : n0 ≤ b1 := Nat.le_trans Z0 (Nat.le_of_eq g1.symm)
  have sz_b1 : h0.size ≤ b1 := Nat.le_trans (Nat.le_refl _) (Nat.le_of_eq g1.symm)
  have Z1 : n0 ≤ h1.size := Nat.le_trans Z0 E1.1
  have K1 : Keep h0 h1 [] := (Keep.refl h0 []).ext E1
  have E_b1 := x1
  have V_b1 : Arv Z h1 b1 k1 .byte (1 : Int32) [(.int (0 : Int32))] (.int (0 : Int32)) := (Arv.new A1 (by decide)).pad (pad_rep [] (.int (0 : Int32)) 1)
  obtain ⟨cl2, Ar2, qk2, Sz2, Ng2, Hs2, Gf2⟩ := id V_b1
  have hin3 : ¬ ((0 : Int32) < 0 ∨ cl2.slots.size ≤ ((0 : Int32)).toNatClampNeg) := inb_of Sz2 ⟨by decide, by decide⟩
  obtain ⟨T4, h4, X4, e4, W4, st4⟩ := stB X1 hx hZ e1 Ar2 (j := (0 : Int32)) hin3 (g := (mkF m 7 #[.val (.int p0)] [(.int (p0.toInt8.toInt32)), (.int (0 : Int32)), (.ref b1), (.ref b1)])) rfl rfl (hb hby d3_7)
  rw [(own_nb _)] at W4
  have K4 : Keep h0 h4 [] := K1.wr W4 (Or.inr sz_b1)
  have V_b1_4 : Arv Z h4 b1 k1 .byte (1 : Int32) [(.int (p0.toInt8.toInt32))] (.int (0 : Int32)) := Arv.set (v := (.int (p0.toInt8.toInt32))) Ar2 qk2 Sz2 Ng2 Hs2 Gf2 (own_fits (own_nb _) (fits_nar_byte _)) W4 0 rfl (Nat.le_of_ble_eq_true rfl)
  have Z4 : n0 ≤ h4.size := Nat.le_trans Z1 (Keep.of_wr W4).1
  have N4 := Fr.snoc X4 N0 g_b1
  have E_b1_u5 : Exa Z h4 b1 "[B" := (E_b1.wr W4)
  obtain ⟨fs, hr, hrun, hended, hW, hsame⟩ := X4.leave (v := some (.ref b1)) (fun h => by rw [Bd.returns] at h; cases h)
  refine ⟨_, _, pre0 _ ?_, hrun, hended, _, _, rfl, ?_, ⟨_, rfl⟩, hW, hsame.mono (by decide) (by decide)⟩
  · show Steps p.tables e below (s₁.setTop (mkF m 0 #[.val (.int p0)] [])) _
    refine XS.iconst X0.here hx rfl (hb hby d3_0) ?_
    show Steps p.tables e below (s₁.setTop (mkF m 1 #[.val (.int p0)] [(.int (1 : Int32))])) _
    refine st1 _ ?_
    show Steps p.tables e below (T1.setTop (mkF m 3 #[.val (.int p0)] [(.ref b1)])) _
    refine XS.dup X1.here hx rfl (hb hby d3_3) rfl rfl ?_
    show Steps p.tables e below (T1.setTop (mkF m 4 #[.val (.int p0)] [(.ref b1), (.ref b1)])) _
    refine XS.iconst X1.here hx rfl (hb hby d3_4) ?_
    show Steps p.tables e below (T1.setTop (mkF m 5 #[.val (.int p0)] [(.int (0 : Int32)), (.ref b1), (.ref b1)])) _
    refine XS.iloadN X1.here hx rfl (hb hby d3_5) rfl ?_
    show Steps p.tables e below (T1.setTop (mkF m 6 #[.val (.int p0)] [(.int p0), (.int (0 : Int32)), (.ref b1), (.ref b1)])) _
    refine XS.i2b X1.here hx rfl (hb hby d3_6) rfl ?_
    show Steps p.tables e below (T1.setTop (mkF m 7 #[.val (.int p0)] [(.int (p0.toInt8.toInt32)), (.int (0 : Int32)), (.ref b1), (.ref b1)])) _
    refine st4 _ ?_
    show Steps p.tables e below (T4.setTop (mkF m 8 #[.val (.int p0)] [(.ref b1)])) _
    jvm_step X4.here [X4.here.top, hx, (hb hby d3_8), X4.method', Bd.returns, Value.isRef, FieldType.isReference]
    first | (intro acts; rw [hr _ acts rfl rfl rfl]) | rw [hr _ _ rfl rfl rfl]
    exact Steps.refl _
  · show Q3 Z p0 h0 n0 _ T4.heap _
    rw [e4]
    exact ⟨b1, k1, rfl, N4, sz_b1, K4, E_b1_u5, V_b1_4⟩
theorem d4_0 : decode jdk_42_method_151_code 0 = .ok (.aload_n 0, 1) := by decide +kernel
theorem d4_1 : decode jdk_42_method_151_code 1 = .ok (.invokespecial 1, 3) := by decide +kernel
theorem d4_4 : decode jdk_42_method_151_code 4 = .ok (.aload_n 0, 1) := by decide +kernel
theorem d4_5 : decode jdk_42_method_151_code 5 = .ok (.aload_n 1, 1) := by decide +kernel
theorem d4_6 : decode jdk_42_method_151_code 6 = .ok (.putfield 9, 3) := by decide +kernel
theorem d4_9 : decode jdk_42_method_151_code 9 = .ok (.aload_n 0, 1) := by decide +kernel
theorem d4_10 : decode jdk_42_method_151_code 10 = .ok (.iload_n 2, 1) := by decide +kernel
theorem d4_11 : decode jdk_42_method_151_code 11 = .ok (.putfield 15, 3) := by decide +kernel
theorem d4_14 : decode jdk_42_method_151_code 14 = .ok (.return_, 1) := by decide +kernel
theorem ef_rm4 (m : MethodId) (a0 : Addr) (a1 : Addr) : entryFrame m #[(.ref a0), (.ref a1), (.int (0 : Int32))] 3 = mkF m 0 #[.val (.ref a0), .val (.ref a1), .val (.int (0 : Int32))] [] := by first | (simp [entryFrame, mkF, argsToLocals, Value.category]; done) | rfl
def Q4 (Z : State) (a0 : Addr) (a1 : Addr) (h0 : Heap) (n0 : Nat) (v : Option Value) (h : Heap) (L : List Loc) : Prop := v = none ∧ Fr n0 L ∧ Keep h0 h [a0] ∧ Exa Z h a0 "java/lang/String" ∧ Fld Z h a0 "java/lang/String" "value" "[B" (.ref a1) ∧ Fld Z h a0 "java/lang/String" "coder" "B" (.int (0 : Int32))
set_option maxRecDepth 65536 in
set_option maxHeartbeats 40000000 in
theorem rm4 (l : Launch) (Z : State) (az : Array Value) (hw : ∀ d ∈ tables_1, d.before az Z = true) (ws : List Jvm.Cond) (a0 : Addr) (a1 : Addr) (h0 : Heap) (n0 : Nat) (Z0 : n0 ≤ h0.size) (E_a0 : Exa Z h0 a0 "java/lang/String") (F_value_a0 : Fld Z h0 a0 "java/lang/String" "value" "[B" .null) (F_coder_a0 : Fld Z h0 a0 "java/lang/String" "coder" "B" (.int (0 : Int32))) (g_a0 : n0 ≤ a0) :
    MetFree l (⟨"java/lang/String", "<init>", "([BB)V"⟩ : MethodName) (head1 (Jvm.Cond.code (⟨"java/lang/String", "<init>", "([BB)V"⟩ : MethodName) jdk_42_method_151_code 3 none :: ws) ({ frames := 1, cells := 0, slots := 0, locals := 12 } : Room)) (fun a U => a = #[(.ref a0), (.ref a1), (.int (0 : Int32))] ∧ Z.Warmed39 U.vm ∧ U.heap = h0) (fun _ _ _ _ _ => True) (fun _ U o U' => ∃ v L, o = .returned v ∧ Q4 Z a0 a1 h0 n0 v U'.heap L ∧ FrameEnd U o U' L ({ frames := 1, cells := 0, slots := 0, locals := 12 } : Room).cells ({ frames := 1, cells := 0, slots := 0, locals := 12 } : Room).slots) := by
  refine MetFree.of_bodySF (plainFor_of_name pn_java_lang_String) hisR ?_
  intro p e s m args below meth c s₁ Bd hml0 hP hK
  obtain ⟨rfl, hZ, hh⟩ := hP
  have hx := Bd.exec
  have hby := Bd.bytes
  have hml : c.maxLocals = 3 := hml0
  have hown : s.vm.findClass "java/lang/String" = some m.cls := findClass_of_methodNamed Bd.named
  have hnm := (name_of_methodNamed Bd.named Bd.method).1
  have X0 : Stand p l e ({ frames := 1, cells := 0, slots := 0, locals := 12 } : Room) s m #[(.ref a0), (.ref a1), (.int (0 : Int32))] below meth c s₁ [] 0 0 := Stand.of_body Bd
  have e0 : s₁.heap = h0 := by rw [← hh, Bd.state]; rfl
  have N0 := Fr.nil n0
  have pre0 : ∀ t, Steps p.tables e below (s₁.setTop (mkF m 0 #[.val (.ref a0), .val (.ref a1), .val (.int (0 : Int32))] [])) t → Steps p.tables e below (s₁.setTop (entryFrame m #[(.ref a0), (.ref a1), (.int (0 : Int32))] 3)) t := fun t k => castTop (ef_rm4 m a0 a1) k
  obtain ⟨T1, X1, e1, st1⟩ := initO X0 hx hZ hown (hw _ (List.mem_of_getElem? (i := 19) rfl)) (hw _ (List.mem_of_getElem? (i := 20) rfl)) (hw _ (List.mem_of_getElem? (i := 21) rfl)) e0 (g := (mkF m 1 #[.val (.ref a0), .val (.ref a1), .val (.int (0 : Int32))] [(.ref a0)])) rfl (by rw [hml]; rfl) rfl (hb hby d4_1) (by decide) (W := 0) (by show 2 * 0 + _ ≤ _; exact Nat.le_of_eq rfl) (by decide)
  obtain ⟨T2, h2, X2, e2, W2, st2⟩ := putF X1 hx hZ hown (host := "") (Or.inl (hw _ (List.mem_of_getElem? (i := 22) rfl))) Via.refl e1 F_value_a0 E_a0 (Or.inr ⟨(hw _ (List.mem_of_getElem? (i := 23) rfl)), rfl, hnm⟩) (hw _ (List.mem_of_getElem? (i := 10) rfl)) (ty := (.array .byte)) (by decide) rfl rfl (g := (mkF m 6 #[.val (.ref a0), .val (.ref a1), .val (.int (0 : Int32))] [(.ref a1), (.ref a0)])) rfl rfl (hb hby d4_6)
  have K2 : Keep h0 h2 [a0] := (Keep.refl h0 [a0]).wr W2 (Or.inl (List.mem_of_getElem? (i := 0) rfl))
  have Fw2 := F_value_a0.same W2
  have Z2 : n0 ≤ h2.size := Nat.le_trans Z0 (Keep.of_wr W2).1
  have N2 := Fr.snoc X2 N0 g_a0
  have F_a0_coder_u3 : Fld Z h2 a0 "java/lang/String" "coder" "B" (.int (0 : Int32)) := (F_coder_a0.other W2 (Or.inr (slot_ne (Or.inr (hw _ (List.mem_of_getElem? (i := 25) rfl))) (Or.inr (hw _ (List.mem_of_getElem? (i := 23) rfl))) (by decide) (t := .byte) (t' := (.array .byte)) (by decide) (by decide))))
  have E_a0_u4 : Exa Z h2 a0 "java/lang/String" := (E_a0.wr W2)
  obtain ⟨T5, h5, X5, e5, W5, st5⟩ := putFN X2 hx hZ hown (hw _ (List.mem_of_getElem? (i := 24) rfl)) Via.refl e2 F_a0_coder_u3 E_a0_u4 (Or.inr ⟨(hw _ (List.mem_of_getElem? (i := 25) rfl)), rfl, hnm⟩) (hw _ (List.mem_of_getElem? (i := 10) rfl)) (ty := .byte) (v := (.int (0 : Int32))) (v' := (.int (0 : Int32))) (by decide) (by decide) (by decide) (g := (mkF m 11 #[.val (.ref a0), .val (.ref a1), .val (.int (0 : Int32))] [(.int (0 : Int32)), (.ref a0)])) rfl rfl (hb hby d4_11)
  have K5 : Keep h0 h5 [a0] := K2.wr W5 (Or.inl (List.mem_of_getElem? (i := 0) rfl))
  have Fw5 := F_a0_coder_u3.same W5
  have Z5 : n0 ≤ h5.size := Nat.le_trans Z2 (Keep.of_wr W5).1
  have N5 := Fr.snoc X5 N2 g_a0
  have E_a0_u6 : Exa Z h5 a0 "java/lang/String" := (E_a0_u4.wr W5)
  have F_a0_value_u7 : Fld Z h5 a0 "java/lang/String" "value" "[B" (.ref a1) := (Fw2.other W5 (Or.inr (slot_ne (Or.inr (hw _ (List.mem_of_getElem? (i := 23) rfl))) (Or.inr (hw _ (List.mem_of_getElem? (i := 25) rfl))) (by decide) (t := (.array .byte)) (t' := .byte) (by decide) (by decide))))
  obtain ⟨fs, hr, hrun, hended, hW, hsame⟩ := X5.leave (v := none) (fun _ => rfl)
  refine ⟨_, _, pre0 _ ?_, hrun, hended, _, _, rfl, ?_, ⟨_, rfl⟩, hW, hsame.mono (by decide) (by decide)⟩
  · show Steps p.tables e below (s₁.setTop (mkF m 0 #[.val (.ref a0), .val (.ref a1), .val (.int (0 : Int32))] [])) _
    refine XS.aloadN X0.here hx rfl (hb hby d4_0) rfl rfl ?_
    show Steps p.tables e below (s₁.setTop (mkF m 1 #[.val (.ref a0), .val (.ref a1), .val (.int (0 : Int32))] [(.ref a0)])) _
    refine st1 _ ?_
    show Steps p.tables e below (T1.setTop (mkF m 4 #[.val (.ref a0), .val (.ref a1), .val (.int (0 : Int32))] [])) _
    refine XS.aloadN X1.here hx rfl (hb hby d4_4) rfl rfl ?_
    show Steps p.tables e below (T1.setTop (mkF m 5 #[.val (.ref a0), .val (.ref a1), .val (.int (0 : Int32))] [(.ref a0)])) _
    refine XS.aloadN X1.here hx rfl (hb hby d4_5) rfl rfl ?_
    show Steps p.tables e below (T1.setTop (mkF m 6 #[.val (.ref a0), .val (.ref a1), .val (.int (0 : Int32))] [(.ref a1), (.ref a0)])) _
    refine st2 _ ?_
    show Steps p.tables e below (T2.setTop (mkF m 9 #[.val (.ref a0), .val (.ref a1), .val (.int (0 : Int32))] [])) _
    refine XS.aloadN X2.here hx rfl (hb hby d4_9) rfl rfl ?_
    show Steps p.tables e below (T2.setTop (mkF m 10 #[.val (.ref a0), .val (.ref a1), .val (.int (0 : Int32))] [(.ref a0)])) _
    refine XS.iloadN X2.here hx rfl (hb hby d4_10) rfl ?_
    show Steps p.tables e below (T2.setTop (mkF m 11 #[.val (.ref a0), .val (.ref a1), .val (.int (0 : Int32))] [(.int (0 : Int32)), (.ref a0)])) _
    refine st5 _ ?_
    show Steps p.tables e below (T5.setTop (mkF m 14 #[.val (.ref a0), .val (.ref a1), .val (.int (0 : Int32))] [])) _
    exact X5.returnOut hx Bd.returns (hb hby d4_14) hr
  · show Q4 Z a0 a1 h0 n0 _ T5.heap _
    rw [e5]
    exact ⟨rfl, N5, K5, E_a0_u6, F_a0_value_u7, Fw5⟩
theorem d1_0 : decode jdk_42_method_139_code 0 = .ok (.getstatic 38, 3) := by decide +kernel
theorem d1_3 : decode jdk_42_method_139_code 3 = .ok (.ifCond .eq 23, 3) := by decide +kernel
theorem d1_6 : decode jdk_42_method_139_code 6 = .ok (.iload_n 0, 1) := by decide +kernel
theorem d1_7 : decode jdk_42_method_139_code 7 = .ok (.invokestatic 1015, 3) := by decide +kernel
theorem pd_12 : parseMethodDescriptor "(C)Z" = some ⟨[.char], some .boolean⟩ := by decide +kernel
theorem d1_10 : decode jdk_42_method_139_code 10 = .ok (.ifCond .eq 16, 3) := by decide +kernel
theorem d1_13 : decode jdk_42_method_139_code 13 = .ok (.new 10, 3) := by decide +kernel
theorem d1_16 : decode jdk_42_method_139_code 16 = .ok (.dup, 1) := by decide +kernel
theorem d1_17 : decode jdk_42_method_139_code 17 = .ok (.iload_n 0, 1) := by decide +kernel
theorem d1_18 : decode jdk_42_method_139_code 18 = .ok (.invokestatic 1018, 3) := by decide +kernel
theorem pd_13 : parseMethodDescriptor "(C)[B" = some ⟨[.char], some (.array .byte)⟩ := by decide +kernel
theorem d1_21 : decode jdk_42_method_139_code 21 = .ok (.iconst 0, 1) := by decide +kernel
theorem d1_22 : decode jdk_42_method_139_code 22 = .ok (.invokespecial 209, 3) := by decide +kernel
theorem pd_14 : parseMethodDescriptor "([BB)V" = some ⟨[(.array .byte), .byte], none⟩ := by decide +kernel
theorem d1_25 : decode jdk_42_method_139_code 25 = .ok (.areturn, 1) := by decide +kernel
theorem ef_rm1 (m : MethodId) (p0 : Int32) : entryFrame m #[(.int p0)] 1 = mkF m 0 #[.val (.int p0)] [] := by first | (simp [entryFrame, mkF, argsToLocals, Value.category]; done) | rfl
def Q1 (Z : State) (p0 : Int32) (s_COMPACT_STRINGS : Int32) (h0 : Heap) (n0 : Nat) (v : Option Value) (h : Heap) (L : List Loc) : Prop := ∃ r0 : Addr, ∃ r1 : Addr, ∃ rk0 : ClassId, v = some (.ref r0) ∧ Fr n0 L ∧ h0.size ≤ r0 ∧ r0 < r1 ∧ Keep h0 h [] ∧ Exa Z h r0 "java/lang/String" ∧ Fld Z h r0 "java/lang/String" "value" "[B" (.ref r1) ∧ Fld Z h r0 "java/lang/String" "coder" "B" (.int (0 : Int32)) ∧ Exa Z h r1 "[B" ∧ Arv Z h r1 rk0 .byte (1 : Int32) [(.int (p0.toInt8.toInt32))] (.int (0 : Int32))
set_option maxRecDepth 65536 in
set_option maxHeartbeats 40000000 in
theorem rm1 (l : Launch) (Z : State) (az : Array Value) (hw : ∀ d ∈ tables_1, d.before az Z = true) (ws : List Jvm.Cond) (p0 : Int32) (s_COMPACT_STRINGS : Int32) (h0 : Heap) (n0 : Nat) (Z0 : n0 ≤ h0.size) (S_COMPACT_STRINGS : Sta Z h0 "java/lang/String" "COMPACT_STRINGS" "Z" (.int s_COMPACT_STRINGS)) (hc1 : ¬ (s_COMPACT_STRINGS = (0 : Int32))) (hc2 : ¬ ((255 : Int32) < p0)) :
    MetFree l (⟨"java/lang/String", "valueOf", "(C)Ljava/lang/String;"⟩ : MethodName) (head1 (Jvm.Cond.code (⟨"java/lang/String", "valueOf", "(C)Ljava/lang/String;"⟩ : MethodName) jdk_42_method_139_code 1 (some (.object "java/lang/String")) :: ws) ({ frames := 2, cells := 2, slots := 5, locals := 27 } : Room)) (fun a U => a = #[(.int p0)] ∧ Z.Warmed39 U.vm ∧ U.heap = h0) (fun _ _ _ _ _ => True) (fun _ U o U' => ∃ v L, o = .returned v ∧ Q1 Z p0 s_COMPACT_STRINGS h0 n0 v U'.heap L ∧ FrameEnd U o U' L ({ frames := 2, cells := 2, slots := 5, locals := 27 } : Room).cells ({ frames := 2, cells := 2, slots := 5, locals := 27 } : Room).slots) := by
  refine MetFree.of_bodySF (plainFor_of_name pn_java_lang_String) hisR ?_
  intro p e s m args below meth c s₁ Bd hml0 hP hK
  obtain ⟨rfl, hZ, hh⟩ := hP
  have hx := Bd.exec
  have hby := Bd.bytes
  have hml : c.maxLocals = 1 := hml0
  have hown : s.vm.findClass "java/lang/String" = some m.cls := findClass_of_methodNamed Bd.named
  have hnm := (name_of_methodNamed Bd.named Bd.method).1
  have X0 : Stand p l e ({ frames := 2, cells := 2, slots := 5, locals := 27 } : Room) s m #[(.int p0)] below meth c s₁ [] 0 0 := Stand.of_body Bd
  have e0 : s₁.heap = h0 := by rw [← hh, Bd.state]; rfl
  have N0 := Fr.nil n0
  have pre0 : ∀ t, Steps p.tables e below (s₁.setTop (mkF m 0 #[.val (.int p0)] [])) t → Steps p.tables e below (s₁.setTop (entryFrame m #[(.int p0)] 1)) t := fun t k => castTop (ef_rm1 m p0) k
  obtain ⟨T1, X1, e1, st1⟩ := getS2 X0 hx hZ hown (host := "") (Or.inl (hw _ (List.mem_of_getElem? (i := 4) rfl))) Via.refl e0 S_COMPACT_STRINGS (g := (mkF m 0 #[.val (.int p0)] [])) rfl (hb hby d1_0)
  obtain ⟨_, _, ⟨T2, L2, k2', n2'⟩, -, X2, ⟨Lc2, hQ2, l2, y2, z2⟩, st2⟩ := Jvm.LawKit.callS X1 hx (y := (⟨"java/lang/StringLatin1", "canEncode", "(C)Z"⟩ : MethodName)) hown (mvT hZ (hw _ (List.mem_of_getElem? (i := 5) rfl))) (mvT hZ (hw _ (List.mem_of_getElem? (i := 6) rfl))) (mvT hZ (hw _ (List.mem_of_getElem? (i := 7) rfl))) (mvT hZ (hw _ (List.mem_of_getElem? (i := 8) rfl))) (by decide) (backOf (W := 0) (rm2 l Z az hw [] p0 h0 n0 Z0 hc2) hZ (hw _ (List.mem_of_getElem? (i := 8) rfl)) (hw _ (List.mem_of_getElem? (i := 7) rfl)) (by decide) (by decide)) (g := (mkF m 7 #[.val (.int p0)] [(.int p0)])) rfl (by rw [hml]; rfl) (argsL := [(.int p0)]) (rest := []) (lenOf pd_12 rfl) rfl (by show 2 * 0 + _ ≤ _; exact Nat.le_of_eq rfl) (hb hby d1_7) (fun _ _ => ⟨rfl, e1, (by decide : 0 + 0 ≤ _), (by decide : 0 + 0 ≤ _)⟩)
  dsimp only [Pt.U, Pt.locs, Pt.cells, Pt.slots] at X2 l2 y2 z2 st2 hQ2
  subst l2 y2 z2
  obtain ⟨rfl, N2q, e2⟩ := hQ2
  have N2 := Fr.app N0 N2q
  obtain ⟨T3, h3, X3, e3, E3, A3, D3, -, st3⟩ := newO X2 hx hZ hown (hw _ (List.mem_of_getElem? (i := 9) rfl)) (hw _ (List.mem_of_getElem? (i := 10) rfl)) (hw _ (List.mem_of_getElem? (i := 2) rfl)) e2 (g := (mkF m 13 #[.val (.int p0)] [])) rfl (hb hby d1_13) (by decide) (by decide)
  obtain ⟨b3, g3⟩ : ∃ z, z = h0.size := ⟨_, rfl⟩
  rw [← g3] at A3 D3 st3
  have g_b3 : n0 ≤ b3 := Nat.le_trans Z0 (Nat.le_of_eq g3.symm)
  have sz_b3 : h0.size ≤ b3 := Nat.le_trans (Nat.le_refl _) (Nat.le_of_eq g3.symm)
  have Z3 : n0 ≤ h3.size := Nat.le_trans Z0 E3.1
  have K3 : Keep h0 h3 [] := (Keep.refl h0 []).ext E3
  have E_b3 := A3
  have F_value_b3 : Fld Z h3 b3 "java/lang/String" "value" "[B" .null := D3 (Or.inr (hw _ (List.mem_of_getElem? (i := 23) rfl))) (ty := (.array .byte)) (by decide)
  have F_coder_b3 : Fld Z h3 b3 "java/lang/String" "coder" "B" (.int (0 : Int32)) := D3 (Or.inr (hw _ (List.mem_of_getElem? (i := 25) rfl))) (ty := .byte) (by decide)
  obtain ⟨_, _, ⟨T4, L4, k4', n4'⟩, -, X4, ⟨Lc4, hQ4, l4, y4, z4⟩, st4⟩ := Jvm.LawKit.callS X3 hx (y := (⟨"java/lang/StringLatin1", "toBytes", "(C)[B"⟩ : MethodName)) hown (mvT hZ (hw _ (List.mem_of_getElem? (i := 11) rfl))) (mvT hZ (hw _ (List.mem_of_getElem? (i := 12) rfl))) (mvT hZ (hw _ (List.mem_of_getElem? (i := 7) rfl))) (mvT hZ (hw _ (List.mem_of_getElem? (i := 13) rfl))) (by decide) (backOf (W := 2) (rm3 l Z az hw [] p0 h3 n0 Z3) hZ (hw _ (List.mem_of_getElem? (i := 13) rfl)) (hw _ (List.mem_of_getElem? (i := 7) rfl)) (by decide) (by decide)) (g := (mkF m 18 #[.val (.int p0)] [(.int p0), (.ref b3), (.ref b3)])) rfl (by rw [hml]; rfl) (argsL := [(.int p0)]) (rest := [(.ref b3), (.ref b3)]) (lenOf pd_13 rfl) rfl (by show 2 * 0 + _ ≤ _; exact Nat.le_of_eq rfl) (hb hby d1_18) (fun _ _ => ⟨rfl, e3, (by decide : 1 + 1 ≤ _), (by decide : 4 + 1 ≤ _)⟩)
  dsimp only [Pt.U, Pt.locs, Pt.cells, Pt.slots] at X4 l4 y4 z4 st4 hQ4
  subst l4 y4 z4
  obtain ⟨b4_0, kk4_0, rfl, N4q, s4_0, kq4, pf4_0, pf4_1⟩ := hQ4
  have N4 := Fr.app N2 N4q
  have g_b4_0 : n0 ≤ b4_0 := Nat.le_trans Z3 s4_0
  have sz_b4_0 : h0.size ≤ b4_0 := Nat.le_trans K3.1 s4_0
  have K4 : Keep h0 T4.heap [] := K3.trans kq4 all0
  have Z4 : n0 ≤ T4.heap.size := Nat.le_trans Z3 kq4.1
  have E_b3_u6 : Exa Z T4.heap b3 "java/lang/String" := (E_b3.keep kq4)
  have F_b3_value_u7 : Fld Z T4.heap b3 "java/lang/String" "value" "[B" .null := (F_value_b3.keep kq4 nin0)
  have F_b3_coder_u8 : Fld Z T4.heap b3 "java/lang/String" "coder" "B" (.int (0 : Int32)) := (F_coder_b3.keep kq4 nin0)
  obtain ⟨_, _, ⟨T5, L5, k5', n5'⟩, -, X5, ⟨Lc5, hQ5, l5, y5, z5⟩, st5⟩ := X4.specialBack hx (y := (⟨"java/lang/String", "<init>", "([BB)V"⟩ : MethodName)) rfl hown (mvT hZ (hw _ (List.mem_of_getElem? (i := 15) rfl))) (mvT hZ (hw _ (List.mem_of_getElem? (i := 16) rfl))) (mvT hZ (hw _ (List.mem_of_getElem? (i := 18) rfl))) (by decide) (backOf (W := 1) (rm4 l Z az hw [] b3 b4_0 T4.heap n0 Z4 E_b3_u6 F_b3_value_u7 F_b3_coder_u8 g_b3) hZ (hw _ (List.mem_of_getElem? (i := 18) rfl)) (hw _ (List.mem_of_getElem? (i := 2) rfl)) (by decide) (by decide)) (g := (mkF m 22 #[.val (.int p0)] [(.int (0 : Int32)), (.ref b4_0), (.ref b3), (.ref b3)])) rfl (by rw [hml]; rfl) (Steps.refl _) (a := b3) (argsL := [(.ref b4_0), (.int (0 : Int32))]) (rest := [(.ref b3)]) (lenOf pd_14 rfl) rfl (by show 2 * 0 + _ ≤ _; exact Nat.le_of_eq rfl) (hb hby d1_22) (fun _ _ => ⟨rfl, rfl, (by decide : 2 + 0 ≤ _), (by decide : 5 + 0 ≤ _)⟩)
  dsimp only [Pt.U, Pt.locs, Pt.cells, Pt.slots] at X5 l5 y5 z5 st5 hQ5
  subst l5 y5 z5
  obtain ⟨rfl, N5q, kq5, pf5_0, pf5_1, pf5_2⟩ := hQ5
  have N5 := Fr.app N4 N5q
  have K5 : Keep h0 T5.heap [] := K4.trans kq5 (allS (Or.inr sz_b3) all0)
  have Z5 : n0 ≤ T5.heap.size := Nat.le_trans Z4 kq5.1
  have E_b4_0_u9 : Exa Z T5.heap b4_0 "[B" := (pf4_0.keep kq5)
  have ne_b3_b4_0 : b3 ≠ b4_0 := own_ne (Nat.lt_of_lt_of_le E_b3.lt s4_0)
  have V_b4_0_u10 : Arv Z T5.heap b4_0 kk4_0 .byte (1 : Int32) [(.int (p0.toInt8.toInt32))] (.int (0 : Int32)) := (pf4_1.keep kq5 (ninS (Ne.symm ne_b3_b4_0) nin0))
  obtain ⟨fs, hr, hrun, hended, hW, hsame⟩ := X5.leave (v := some (.ref b3)) (fun h => by rw [Bd.returns] at h; cases h)
  refine ⟨_, _, pre0 _ ?_, hrun, hended, _, _, rfl, ?_, ⟨_, rfl⟩, hW, hsame.mono (by decide) (by decide)⟩
  · show Steps p.tables e below (s₁.setTop (mkF m 0 #[.val (.int p0)] [])) _
    refine st1 _ ?_
    show Steps p.tables e below (T1.setTop (mkF m 3 #[.val (.int p0)] [(.int s_COMPACT_STRINGS)])) _
    refine XS.ifNo X1.here hx rfl (hb hby d1_3) rfl ((if0 _ _).trans (feq hc1).1) ?_
    show Steps p.tables e below (T1.setTop (mkF m 6 #[.val (.int p0)] [])) _
    refine XS.iloadN X1.here hx rfl (hb hby d1_6) rfl ?_
    show Steps p.tables e below (T1.setTop (mkF m 7 #[.val (.int p0)] [(.int p0)])) _
    refine st2 _ ?_
    show Steps p.tables e below (T2.setTop (mkF m 10 #[.val (.int p0)] [(.int (1 : Int32))])) _
    refine XS.ifNo X2.here hx rfl (hb hby d1_10) rfl ((if0 _ _).trans (feq (by decide : ¬ ((1 : Int32) = (0 : Int32)))).1) ?_
    show Steps p.tables e below (T2.setTop (mkF m 13 #[.val (.int p0)] [])) _
    refine st3 _ ?_
    show Steps p.tables e below (T3.setTop (mkF m 16 #[.val (.int p0)] [(.ref b3)])) _
    refine XS.dup X3.here hx rfl (hb hby d1_16) rfl rfl ?_
    show Steps p.tables e below (T3.setTop (mkF m 17 #[.val (.int p0)] [(.ref b3), (.ref b3)])) _
    refine XS.iloadN X3.here hx rfl (hb hby d1_17) rfl ?_
    show Steps p.tables e below (T3.setTop (mkF m 18 #[.val (.int p0)] [(.int p0), (.ref b3), (.ref b3)])) _
    refine st4 _ ?_
    show Steps p.tables e below (T4.setTop (mkF m 21 #[.val (.int p0)] [(.ref b4_0), (.ref b3), (.ref b3)])) _
    refine XS.iconst X4.here hx rfl (hb hby d1_21) ?_
    show Steps p.tables e below (T4.setTop (mkF m 22 #[.val (.int p0)] [(.int (0 : Int32)), (.ref b4_0), (.ref b3), (.ref b3)])) _
    refine st5.trans ?_
    show Steps p.tables e below (T5.setTop (mkF m 25 #[.val (.int p0)] [(.ref b3)])) _
    jvm_step X5.here [X5.here.top, hx, (hb hby d1_25), X5.method', Bd.returns, Value.isRef, FieldType.isReference]
    first | (intro acts; rw [hr _ acts rfl rfl rfl]) | rw [hr _ _ rfl rfl rfl]
    exact Steps.refl _
  · show Q1 Z p0 s_COMPACT_STRINGS h0 n0 _ T5.heap _
    exact ⟨b3, b4_0, kk4_0, rfl, N5, sz_b3, (Nat.lt_of_lt_of_le E_b3.lt s4_0), K5, pf5_0, pf5_1, pf5_2, E_b4_0_u9, V_b4_0_u10⟩
theorem d21_0 : decode jdk_29_method_65_code 0 = .ok (.iload_n 0, 1) := by decide +kernel
theorem d21_1 : decode jdk_29_method_65_code 1 = .ok (.iload_n 1, 1) := by decide +kernel
theorem d21_2 : decode jdk_29_method_65_code 2 = .ok (.if_icmp .lt 7, 3) := by decide +kernel
theorem d21_9 : decode jdk_29_method_65_code 9 = .ok (.iload_n 1, 1) := by decide +kernel
theorem d21_10 : decode jdk_29_method_65_code 10 = .ok (.ireturn, 1) := by decide +kernel
theorem ef_rm21t (m : MethodId) (p0 : Int32) (p1 : Int32) : entryFrame m #[(.int p0), (.int p1)] 2 = mkF m 0 #[.val (.int p0), .val (.int p1)] [] := by first | (simp [entryFrame, mkF, argsToLocals, Value.category]; done) | rfl
def Q21t (Z : State) (p0 : Int32) (p1 : Int32) (h0 : Heap) (n0 : Nat) (v : Option Value) (h : Heap) (L : List Loc) : Prop := v = some (.int p1) ∧ Fr n0 L ∧ h = h0
set_option maxRecDepth 65536 in
set_option maxHeartbeats 40000000 in
theorem rm21t (l : Launch) (Z : State) (az : Array Value) (hw : ∀ d ∈ tables_1, d.before az Z = true) (ws : List Jvm.Cond) (p0 : Int32) (p1 : Int32) (h0 : Heap) (n0 : Nat) (Z0 : n0 ≤ h0.size) (hc0 : p0 < p1) :
    MetFree l (⟨"java/lang/Math", "max", "(II)I"⟩ : MethodName) (head1 (Jvm.Cond.code (⟨"java/lang/Math", "max", "(II)I"⟩ : MethodName) jdk_29_method_65_code 2 (some .int) :: ws) ({ frames := 0, cells := 0, slots := 0, locals := 0 } : Room)) (fun a U => a = #[(.int p0), (.int p1)] ∧ Z.Warmed39 U.vm ∧ U.heap = h0) (fun _ _ _ _ _ => True) (fun _ U o U' => ∃ v L, o = .returned v ∧ Q21t Z p0 p1 h0 n0 v U'.heap L ∧ FrameEnd U o U' L ({ frames := 0, cells := 0, slots := 0, locals := 0 } : Room).cells ({ frames := 0, cells := 0, slots := 0, locals := 0 } : Room).slots) := by
  refine MetFree.of_bodySF (Jvm.Free.JP.mathPlain rfl (by decide +kernel)) hisR ?_
  intro p e s m args below meth c s₁ Bd hml0 hP hK
  obtain ⟨rfl, hZ, hh⟩ := hP
  have hx := Bd.exec
  have hby := Bd.bytes
  have hml : c.maxLocals = 2 := hml0
  have hown : s.vm.findClass "java/lang/Math" = some m.cls := findClass_of_methodNamed Bd.named
  have hnm := (name_of_methodNamed Bd.named Bd.method).1
  have X0 : Stand p l e ({ frames := 0, cells := 0, slots := 0, locals := 0 } : Room) s m #[(.int p0), (.int p1)] below meth c s₁ [] 0 0 := Stand.of_body Bd
  have e0 : s₁.heap = h0 := by rw [← hh, Bd.state]; rfl
  have N0 := Fr.nil n0
  have pre0 : ∀ t, Steps p.tables e below (s₁.setTop (mkF m 0 #[.val (.int p0), .val (.int p1)] [])) t → Steps p.tables e below (s₁.setTop (entryFrame m #[(.int p0), (.int p1)] 2)) t := fun t k => castTop (ef_rm21t m p0 p1) k
  obtain ⟨fs, hr, hrun, hended, hW, hsame⟩ := X0.leave (v := some (.int p1)) (fun h => by rw [Bd.returns] at h; cases h)
  refine ⟨_, _, pre0 _ ?_, hrun, hended, _, _, rfl, ?_, ⟨_, rfl⟩, hW, hsame.mono (by decide) (by decide)⟩
  · show Steps p.tables e below (s₁.setTop (mkF m 0 #[.val (.int p0), .val (.int p1)] [])) _
    refine XS.iloadN X0.here hx rfl (hb hby d21_0) rfl ?_
    show Steps p.tables e below (s₁.setTop (mkF m 1 #[.val (.int p0), .val (.int p1)] [(.int p0)])) _
    refine XS.iloadN X0.here hx rfl (hb hby d21_1) rfl ?_
    show Steps p.tables e below (s₁.setTop (mkF m 2 #[.val (.int p0), .val (.int p1)] [(.int p1), (.int p0)])) _
    refine XS.icmpYes X0.here hx rfl (pc0 := 2) (pc' := 9) rfl (hb hby d21_2) rfl (tlt hc0).1 (by decide) (by decide) ?_
    show Steps p.tables e below (s₁.setTop (mkF m 9 #[.val (.int p0), .val (.int p1)] [])) _
    refine XS.iloadN X0.here hx rfl (hb hby d21_9) rfl ?_
    show Steps p.tables e below (s₁.setTop (mkF m 10 #[.val (.int p0), .val (.int p1)] [(.int p1)])) _
    exact retI X0 hx Bd.returns (hb hby d21_10) hr
  · show Q21t Z p0 p1 h0 n0 _ s₁.heap _
    rw [e0]
    exact ⟨rfl, N0, rfl⟩
theorem d21_5 : decode jdk_29_method_65_code 5 = .ok (.iload_n 0, 1) := by decide +kernel
theorem d21_6 : decode jdk_29_method_65_code 6 = .ok (.goto 4, 3) := by decide +kernel
theorem ef_rm21f (m : MethodId) (p0 : Int32) (p1 : Int32) : entryFrame m #[(.int p0), (.int p1)] 2 = mkF m 0 #[.val (.int p0), .val (.int p1)] [] := by first | (simp [entryFrame, mkF, argsToLocals, Value.category]; done) | rfl
def Q21f (Z : State) (p0 : Int32) (p1 : Int32) (h0 : Heap) (n0 : Nat) (v : Option Value) (h : Heap) (L : List Loc) : Prop := v = some (.int p0) ∧ Fr n0 L ∧ h = h0
set_option maxRecDepth 65536 in
set_option maxHeartbeats 40000000 in
theorem rm21f (l : Launch) (Z : State) (az : Array Value) (hw : ∀ d ∈ tables_1, d.before az Z = true) (ws : List Jvm.Cond) (p0 : Int32) (p1 : Int32) (h0 : Heap) (n0 : Nat) (Z0 : n0 ≤ h0.size) (hc0 : ¬ (p0 < p1)) :
    MetFree l (⟨"java/lang/Math", "max", "(II)I"⟩ : MethodName) (head1 (Jvm.Cond.code (⟨"java/lang/Math", "max", "(II)I"⟩ : MethodName) jdk_29_method_65_code 2 (some .int) :: ws) ({ frames := 0, cells := 0, slots := 0, locals := 0 } : Room)) (fun a U => a = #[(.int p0), (.int p1)] ∧ Z.Warmed39 U.vm ∧ U.heap = h0) (fun _ _ _ _ _ => True) (fun _ U o U' => ∃ v L, o = .returned v ∧ Q21f Z p0 p1 h0 n0 v U'.heap L ∧ FrameEnd U o U' L ({ frames := 0, cells := 0, slots := 0, locals := 0 } : Room).cells ({ frames := 0, cells := 0, slots := 0, locals := 0 } : Room).slots) := by
  refine MetFree.of_bodySF (Jvm.Free.JP.mathPlain rfl (by decide +kernel)) hisR ?_
  intro p e s m args below meth c s₁ Bd hml0 hP hK
  obtain ⟨rfl, hZ, hh⟩ := hP
  have hx := Bd.exec
  have hby := Bd.bytes
  have hml : c.maxLocals = 2 := hml0
  have hown : s.vm.findClass "java/lang/Math" = some m.cls := findClass_of_methodNamed Bd.named
  have hnm := (name_of_methodNamed Bd.named Bd.method).1
  have X0 : Stand p l e ({ frames := 0, cells := 0, slots := 0, locals := 0 } : Room) s m #[(.int p0), (.int p1)] below meth c s₁ [] 0 0 := Stand.of_body Bd
  have e0 : s₁.heap = h0 := by rw [← hh, Bd.state]; rfl
  have N0 := Fr.nil n0
  have pre0 : ∀ t, Steps p.tables e below (s₁.setTop (mkF m 0 #[.val (.int p0), .val (.int p1)] [])) t → Steps p.tables e below (s₁.setTop (entryFrame m #[(.int p0), (.int p1)] 2)) t := fun t k => castTop (ef_rm21f m p0 p1) k
  obtain ⟨fs, hr, hrun, hended, hW, hsame⟩ := X0.leave (v := some (.int p0)) (fun h => by rw [Bd.returns] at h; cases h)
  refine ⟨_, _, pre0 _ ?_, hrun, hended, _, _, rfl, ?_, ⟨_, rfl⟩, hW, hsame.mono (by decide) (by decide)⟩
  · show Steps p.tables e below (s₁.setTop (mkF m 0 #[.val (.int p0), .val (.int p1)] [])) _
    refine XS.iloadN X0.here hx rfl (hb hby d21_0) rfl ?_
    show Steps p.tables e below (s₁.setTop (mkF m 1 #[.val (.int p0), .val (.int p1)] [(.int p0)])) _
    refine XS.iloadN X0.here hx rfl (hb hby d21_1) rfl ?_
    show Steps p.tables e below (s₁.setTop (mkF m 2 #[.val (.int p0), .val (.int p1)] [(.int p1), (.int p0)])) _
    refine XS.icmpNo X0.here hx rfl (hb hby d21_2) rfl (flt hc0).1 ?_
    show Steps p.tables e below (s₁.setTop (mkF m 5 #[.val (.int p0), .val (.int p1)] [])) _
    refine XS.iloadN X0.here hx rfl (hb hby d21_5) rfl ?_
    show Steps p.tables e below (s₁.setTop (mkF m 6 #[.val (.int p0), .val (.int p1)] [(.int p0)])) _
    refine XS.goto X0.here hx rfl (pc0 := 6) (pc' := 10) rfl (hb hby d21_6) (by decide) (by decide) ?_
    show Steps p.tables e below (s₁.setTop (mkF m 10 #[.val (.int p0), .val (.int p1)] [(.int p0)])) _
    exact retI X0 hx Bd.returns (hb hby d21_10) hr
  · show Q21f Z p0 p1 h0 n0 _ s₁.heap _
    rw [e0]
    exact ⟨rfl, N0, rfl⟩
def Q21 (Z : State) (p0 : Int32) (p1 : Int32) (w : Int32) (h0 : Heap) (n0 : Nat) (v : Option Value) (h : Heap) (L : List Loc) : Prop := v = some (.int w) ∧ Fr n0 L ∧ h = h0
theorem rm21 (l : Launch) (Z : State) (az : Array Value) (hw : ∀ d ∈ tables_1, d.before az Z = true) (ws : List Jvm.Cond) (p0 : Int32) (p1 : Int32) (w : Int32) (h0 : Heap) (n0 : Nat) (Z0 : n0 ≤ h0.size) (hJ : ((p0 < p1) ∧ w = p1) ∨ ((¬ (p0 < p1)) ∧ w = p0)) :
    MetFree l (⟨"java/lang/Math", "max", "(II)I"⟩ : MethodName) (head1 (Jvm.Cond.code (⟨"java/lang/Math", "max", "(II)I"⟩ : MethodName) jdk_29_method_65_code 2 (some .int) :: ws) ({ frames := 0, cells := 0, slots := 0, locals := 0 } : Room)) (fun a U => a = #[(.int p0), (.int p1)] ∧ Z.Warmed39 U.vm ∧ U.heap = h0) (fun _ _ _ _ _ => True) (fun _ U o U' => ∃ v L, o = .returned v ∧ Q21 Z p0 p1 w h0 n0 v U'.heap L ∧ FrameEnd U o U' L ({ frames := 0, cells := 0, slots := 0, locals := 0 } : Room).cells ({ frames := 0, cells := 0, slots := 0, locals := 0 } : Room).slots) := by
  rcases hJ with ⟨j0, jw⟩ | ⟨j0, jw⟩
  · have jz := jw.symm
    subst jz
    exact rm21t l Z az hw ws p0 p1 h0 n0 Z0 j0
  · have jz := jw.symm
    subst jz
    exact rm21f l Z az hw ws p0 p1 h0 n0 Z0 j0
theorem d20_0 : decode prog_7_method_8_code 0 = .ok (.iconst 1, 1) := by decide +kernel
theorem d20_1 : decode prog_7_method_8_code 1 = .ok (.newarray .byte, 2) := by decide +kernel
theorem d20_3 : decode prog_7_method_8_code 3 = .ok (.dup, 1) := by decide +kernel
theorem d20_4 : decode prog_7_method_8_code 4 = .ok (.iconst 0, 1) := by decide +kernel
theorem d20_5 : decode prog_7_method_8_code 5 = .ok (.aload_n 0, 1) := by decide +kernel
theorem d20_6 : decode prog_7_method_8_code 6 = .ok (.getfield 28, 3) := by decide +kernel
theorem d20_9 : decode prog_7_method_8_code 9 = .ok (.iconst 1, 1) := by decide +kernel
theorem d20_10 : decode prog_7_method_8_code 10 = .ok (.isub, 1) := by decide +kernel
theorem d20_11 : decode prog_7_method_8_code 11 = .ok (.aload_n 0, 1) := by decide +kernel
theorem d20_12 : decode prog_7_method_8_code 12 = .ok (.getfield 50, 3) := by decide +kernel
theorem d20_15 : decode prog_7_method_8_code 15 = .ok (.invokestatic 78, 3) := by decide +kernel
theorem pd_15 : parseMethodDescriptor "(II)I" = some ⟨[.int, .int], some .int⟩ := by decide +kernel
theorem d20_18 : decode prog_7_method_8_code 18 = .ok (.i2b, 1) := by decide +kernel
theorem d20_19 : decode prog_7_method_8_code 19 = .ok (.bastore, 1) := by decide +kernel
theorem d20_20 : decode prog_7_method_8_code 20 = .ok (.areturn, 1) := by decide +kernel
theorem ef_rm20 (m : MethodId) (a0 : Addr) : entryFrame m #[(.ref a0)] 1 = mkF m 0 #[.val (.ref a0)] [] := by first | (simp [entryFrame, mkF, argsToLocals, Value.category]; done) | rfl
def Q20 (Z : State) (a0 : Addr) (wm : Int32) (w_buckets_a0 : Int32) (w_overflow_a0 : Int32) (h0 : Heap) (n0 : Nat) (v : Option Value) (h : Heap) (L : List Loc) : Prop := ∃ r0 : Addr, ∃ rk0 : ClassId, v = some (.ref r0) ∧ Fr n0 L ∧ h0.size ≤ r0 ∧ Keep h0 h [] ∧ Exa Z h r0 "[B" ∧ Arv Z h r0 rk0 .byte (1 : Int32) [(.int (wm.toInt8.toInt32))] (.int (0 : Int32))
set_option maxRecDepth 65536 in
set_option maxHeartbeats 40000000 in
theorem rm20 (l : Launch) (Z : State) (az : Array Value) (hw : ∀ d ∈ tables_1, d.before az Z = true) (ws : List Jvm.Cond) (a0 : Addr) (wm : Int32) (w_buckets_a0 : Int32) (w_overflow_a0 : Int32) (h0 : Heap) (n0 : Nat) (Z0 : n0 ≤ h0.size) (F_buckets_a0 : Fld Z h0 a0 "com/example/fireweed/fireweed/layout/Java31ByteSalt" "buckets" "I" (.int w_buckets_a0)) (F_overflow_a0 : Fld Z h0 a0 "com/example/fireweed/fireweed/layout/Java31ByteSalt" "overflow" "I" (.int w_overflow_a0)) (hc2 : (((w_buckets_a0 - (1 : Int32)) < w_overflow_a0) ∧ wm = w_overflow_a0) ∨ ((¬ ((w_buckets_a0 - (1 : Int32)) < w_overflow_a0)) ∧ wm = (w_buckets_a0 - (1 : Int32)))) :
    MetFree l (⟨"com/example/fireweed/fireweed/layout/Java31ByteSalt", "highest", "()[B"⟩ : MethodName) (head1 (Jvm.Cond.code (⟨"com/example/fireweed/fireweed/layout/Java31ByteSalt", "highest", "()[B"⟩ : MethodName) prog_7_method_8_code 1 (some (.array .byte)) :: ws) ({ frames := 1, cells := 1, slots := 1, locals := 16 } : Room)) (fun a U => a = #[(.ref a0)] ∧ Z.Warmed39 U.vm ∧ U.heap = h0) (fun _ _ _ _ _ => True) (fun _ U o U' => ∃ v L, o = .returned v ∧ Q20 Z a0 wm w_buckets_a0 w_overflow_a0 h0 n0 v U'.heap L ∧ FrameEnd U o U' L ({ frames := 1, cells := 1, slots := 1, locals := 16 } : Room).cells ({ frames := 1, cells := 1, slots := 1, locals := 16 } : Room).slots) := by
  refine MetFree.of_bodySF (plainFor_of_name pn_com_example_fireweed_fireweed_layout_Java31ByteSalt) hisR ?_
  intro p e s m args below meth c s₁ Bd hml0 hP hK
  obtain ⟨rfl, hZ, hh⟩ := hP
  have hx := Bd.exec
  have hby := Bd.bytes
  have hml : c.maxLocals = 1 := hml0
  have hown : s.vm.findClass "com/example/fireweed/fireweed/layout/Java31ByteSalt" = some m.cls := findClass_of_methodNamed Bd.named
  have hnm := (name_of_methodNamed Bd.named Bd.method).1
  have X0 : Stand p l e ({ frames := 1, cells := 1, slots := 1, locals := 16 } : Room) s m #[(.ref a0)] below meth c s₁ [] 0 0 := Stand.of_body Bd
  have e0 : s₁.heap = h0 := by rw [← hh, Bd.state]; rfl
  have N0 := Fr.nil n0
  have pre0 : ∀ t, Steps p.tables e below (s₁.setTop (mkF m 0 #[.val (.ref a0)] [])) t → Steps p.tables e below (s₁.setTop (entryFrame m #[(.ref a0)] 1)) t := fun t k => castTop (ef_rm20 m a0) k
  obtain ⟨T1, h1, k1, X1, e1, E1, A1, x1, st1⟩ := newPE X0 hx hZ (hw _ (List.mem_of_getElem? (i := 14) rfl)) e0 (g := (mkF m 1 #[.val (.ref a0)] [(.int (1 : Int32))])) rfl (hb hby d20_1) rfl (by decide) (cap := 1) (by decide) (by decide) (by decide) (by decide) (ad := "[B") (by decide)
  obtain ⟨b1, g1⟩ : ∃ z, z = h0.size := ⟨_, rfl⟩
  rw [← g1] at A1 x1 st1
  have g_b1 : n0 ≤ b1 := Nat.le_trans Z0 (Nat.le_of_eq g1.symm)
  have sz_b1 : h0.size ≤ b1 := Nat.le_trans (Nat.le_refl _) (Nat.le_of_eq g1.symm)
  have Z1 : n0 ≤ h1.size := Nat.le_trans Z0 E1.1
  have K1 : Keep h0 h1 [] := (Keep.refl h0 []).ext E1
  have E_b1 := x1
  have V_b1 : Arv Z h1 b1 k1 .byte (1 : Int32) [(.int (0 : Int32))] (.int (0 : Int32)) := (Arv.new A1 (by decide)).pad (pad_rep [] (.int (0 : Int32)) 1)
  have F_a0_buckets_u2 : Fld Z h1 a0 "com/example/fireweed/fireweed/layout/Java31ByteSalt" "buckets" "I" (.int w_buckets_a0) := (F_buckets_a0.ext E1)
  obtain ⟨T3, X3, e3, st3⟩ := getF X1 hx hZ hown (host := "") (Or.inl (hw _ (List.mem_of_getElem? (i := 91) rfl))) Via.refl e1 F_a0_buckets_u2 (g := (mkF m 6 #[.val (.ref a0)] [(.ref a0), (.int (0 : Int32)), (.ref b1), (.ref b1)])) rfl rfl (hb hby d20_6)
  have F_a0_overflow_u4 : Fld Z h1 a0 "com/example/fireweed/fireweed/layout/Java31ByteSalt" "overflow" "I" (.int w_overflow_a0) := (F_overflow_a0.ext E1)
  obtain ⟨T5, X5, e5, st5⟩ := getF X3 hx hZ hown (host := "") (Or.inl (hw _ (List.mem_of_getElem? (i := 115) rfl))) Via.refl e3 F_a0_overflow_u4 (g := (mkF m 12 #[.val (.ref a0)] [(.ref a0), (.int (w_buckets_a0 - (1 : Int32))), (.int (0 : Int32)), (.ref b1), (.ref b1)])) rfl rfl (hb hby d20_12)
  obtain ⟨_, _, ⟨T6, L6, k6', n6'⟩, -, X6, ⟨Lc6, hQ6, l6, y6, z6⟩, st6⟩ := Jvm.LawKit.callS X5 hx (y := (⟨"java/lang/Math", "max", "(II)I"⟩ : MethodName)) hown (mvT hZ (hw _ (List.mem_of_getElem? (i := 122) rfl))) (mvT hZ (hw _ (List.mem_of_getElem? (i := 123) rfl))) (mvT hZ (hw _ (List.mem_of_getElem? (i := 109) rfl))) (mvT hZ (hw _ (List.mem_of_getElem? (i := 124) rfl))) (by decide) (backOf (W := 3) (rm21 l Z az hw [] (w_buckets_a0 - (1 : Int32)) w_overflow_a0 wm h1 n0 Z1 hc2) hZ (hw _ (List.mem_of_getElem? (i := 124) rfl)) (hw _ (List.mem_of_getElem? (i := 109) rfl)) (by decide) (by decide)) (g := (mkF m 15 #[.val (.ref a0)] [(.int w_overflow_a0), (.int (w_buckets_a0 - (1 : Int32))), (.int (0 : Int32)), (.ref b1), (.ref b1)])) rfl (by rw [hml]; rfl) (argsL := [(.int (w_buckets_a0 - (1 : Int32))), (.int w_overflow_a0)]) (rest := [(.int (0 : Int32)), (.ref b1), (.ref b1)]) (lenOf pd_15 rfl) rfl (by show 2 * 0 + _ ≤ _; exact Nat.le_of_eq rfl) (hb hby d20_15) (fun _ _ => ⟨rfl, e5, (by decide : 1 + 0 ≤ _), (by decide : 1 + 0 ≤ _)⟩)
  dsimp only [Pt.U, Pt.locs, Pt.cells, Pt.slots] at X6 l6 y6 z6 st6 hQ6
  subst l6 y6 z6
  obtain ⟨rfl, N6q, e6⟩ := hQ6
  have N6 := Fr.app N0 N6q
  obtain ⟨cl7, Ar7, qk7, Sz7, Ng7, Hs7, Gf7⟩ := id V_b1
  have hin8 : ¬ ((0 : Int32) < 0 ∨ cl7.slots.size ≤ ((0 : Int32)).toNatClampNeg) := inb_of Sz7 ⟨by decide, by decide⟩
  obtain ⟨T9, h9, X9, e9, W9, st9⟩ := stB X6 hx hZ e6 Ar7 (j := (0 : Int32)) hin8 (g := (mkF m 19 #[.val (.ref a0)] [(.int (wm.toInt8.toInt32)), (.int (0 : Int32)), (.ref b1), (.ref b1)])) rfl rfl (hb hby d20_19)
  rw [(own_nb _)] at W9
  have K9 : Keep h0 h9 [] := K1.wr W9 (Or.inr sz_b1)
  have V_b1_9 : Arv Z h9 b1 k1 .byte (1 : Int32) [(.int (wm.toInt8.toInt32))] (.int (0 : Int32)) := Arv.set (v := (.int (wm.toInt8.toInt32))) Ar7 qk7 Sz7 Ng7 Hs7 Gf7 (own_fits (own_nb _) (fits_nar_byte _)) W9 0 rfl (Nat.le_of_ble_eq_true rfl)
  have Z9 : n0 ≤ h9.size := Nat.le_trans Z1 (Keep.of_wr W9).1
  have N9 := Fr.snoc X9 N6 g_b1
  have E_b1_u10 : Exa Z h9 b1 "[B" := (E_b1.wr W9)
  obtain ⟨fs, hr, hrun, hended, hW, hsame⟩ := X9.leave (v := some (.ref b1)) (fun h => by rw [Bd.returns] at h; cases h)
  refine ⟨_, _, pre0 _ ?_, hrun, hended, _, _, rfl, ?_, ⟨_, rfl⟩, hW, hsame.mono (by decide) (by decide)⟩
  · show Steps p.tables e below (s₁.setTop (mkF m 0 #[.val (.ref a0)] [])) _
    refine XS.iconst X0.here hx rfl (hb hby d20_0) ?_
    show Steps p.tables e below (s₁.setTop (mkF m 1 #[.val (.ref a0)] [(.int (1 : Int32))])) _
    refine st1 _ ?_
    show Steps p.tables e below (T1.setTop (mkF m 3 #[.val (.ref a0)] [(.ref b1)])) _
    refine XS.dup X1.here hx rfl (hb hby d20_3) rfl rfl ?_
    show Steps p.tables e below (T1.setTop (mkF m 4 #[.val (.ref a0)] [(.ref b1), (.ref b1)])) _
    refine XS.iconst X1.here hx rfl (hb hby d20_4) ?_
    show Steps p.tables e below (T1.setTop (mkF m 5 #[.val (.ref a0)] [(.int (0 : Int32)), (.ref b1), (.ref b1)])) _
    refine XS.aloadN X1.here hx rfl (hb hby d20_5) rfl rfl ?_
    show Steps p.tables e below (T1.setTop (mkF m 6 #[.val (.ref a0)] [(.ref a0), (.int (0 : Int32)), (.ref b1), (.ref b1)])) _
    refine st3 _ ?_
    show Steps p.tables e below (T3.setTop (mkF m 9 #[.val (.ref a0)] [(.int w_buckets_a0), (.int (0 : Int32)), (.ref b1), (.ref b1)])) _
    refine XS.iconst X3.here hx rfl (hb hby d20_9) ?_
    show Steps p.tables e below (T3.setTop (mkF m 10 #[.val (.ref a0)] [(.int (1 : Int32)), (.int w_buckets_a0), (.int (0 : Int32)), (.ref b1), (.ref b1)])) _
    refine XS.isub X3.here hx rfl (hb hby d20_10) rfl ?_
    show Steps p.tables e below (T3.setTop (mkF m 11 #[.val (.ref a0)] [(.int (w_buckets_a0 - (1 : Int32))), (.int (0 : Int32)), (.ref b1), (.ref b1)])) _
    refine XS.aloadN X3.here hx rfl (hb hby d20_11) rfl rfl ?_
    show Steps p.tables e below (T3.setTop (mkF m 12 #[.val (.ref a0)] [(.ref a0), (.int (w_buckets_a0 - (1 : Int32))), (.int (0 : Int32)), (.ref b1), (.ref b1)])) _
    refine st5 _ ?_
    show Steps p.tables e below (T5.setTop (mkF m 15 #[.val (.ref a0)] [(.int w_overflow_a0), (.int (w_buckets_a0 - (1 : Int32))), (.int (0 : Int32)), (.ref b1), (.ref b1)])) _
    refine st6 _ ?_
    show Steps p.tables e below (T6.setTop (mkF m 18 #[.val (.ref a0)] [(.int wm), (.int (0 : Int32)), (.ref b1), (.ref b1)])) _
    refine XS.i2b X6.here hx rfl (hb hby d20_18) rfl ?_
    show Steps p.tables e below (T6.setTop (mkF m 19 #[.val (.ref a0)] [(.int (wm.toInt8.toInt32)), (.int (0 : Int32)), (.ref b1), (.ref b1)])) _
    refine st9 _ ?_
    show Steps p.tables e below (T9.setTop (mkF m 20 #[.val (.ref a0)] [(.ref b1)])) _
    jvm_step X9.here [X9.here.top, hx, (hb hby d20_20), X9.method', Bd.returns, Value.isRef, FieldType.isReference]
    first | (intro acts; rw [hr _ acts rfl rfl rfl]) | rw [hr _ _ rfl rfl rfl]
    exact Steps.refl _
  · show Q20 Z a0 wm w_buckets_a0 w_overflow_a0 h0 n0 _ T9.heap _
    rw [e9]
    exact ⟨b1, k1, rfl, N9, sz_b1, K9, E_b1_u10, V_b1_9⟩
theorem d22_0 : decode method_3_code 0 = .ok (.ldc2_w 28, 3) := by decide +kernel
theorem d22_3 : decode method_3_code 3 = .ok (.iload_n 0, 1) := by decide +kernel
theorem d22_4 : decode method_3_code 4 = .ok (.i2l, 1) := by decide +kernel
theorem d22_5 : decode method_3_code 5 = .ok (.lrem, 1) := by decide +kernel
theorem d22_6 : decode method_3_code 6 = .ok (.lstore_n 1, 1) := by decide +kernel
theorem d22_7 : decode method_3_code 7 = .ok (.iload_n 0, 1) := by decide +kernel
theorem d22_8 : decode method_3_code 8 = .ok (.iconst 1, 1) := by decide +kernel
theorem d22_9 : decode method_3_code 9 = .ok (.isub, 1) := by decide +kernel
theorem d22_10 : decode method_3_code 10 = .ok (.istore_n 3, 1) := by decide +kernel
theorem d22_11 : decode method_3_code 11 = .ok (.lload_n 1, 1) := by decide +kernel
theorem d22_12 : decode method_3_code 12 = .ok (.lconst 0, 1) := by decide +kernel
theorem d22_13 : decode method_3_code 13 = .ok (.lcmp, 1) := by decide +kernel
theorem d22_14 : decode method_3_code 14 = .ok (.ifCond .ne 5, 3) := by decide +kernel
theorem d22_17 : decode method_3_code 17 = .ok (.iload_n 3, 1) := by decide +kernel
theorem d22_18 : decode method_3_code 18 = .ok (.ireturn, 1) := by decide +kernel
theorem pn_com_example_fireweed_fireweed_layout_Java31ByteSaltHighestPinLaw : plainName "com/example/fireweed/fireweed/layout/Java31ByteSaltHighestPinLaw" = true := by first | (simp [plainName, overriddenIn]; done) | decide +kernel
theorem ef_rm22z (m : MethodId) (p0 : Int32) : entryFrame m #[(.int p0)] 5 = mkF m 0 #[.val (.int p0), .unset, .unset, .unset, .unset] [] := by first | (simp [entryFrame, mkF, argsToLocals, Value.category]; done) | rfl
def Q22z (Z : State) (p0 : Int32) (h0 : Heap) (n0 : Nat) (v : Option Value) (h : Heap) (L : List Loc) : Prop := v = some (.int (p0 - (1 : Int32))) ∧ Fr n0 L ∧ h = h0
set_option maxRecDepth 65536 in
set_option maxHeartbeats 40000000 in
theorem rm22z (l : Launch) (Z : State) (az : Array Value) (hw : ∀ d ∈ tables_1, d.before az Z = true) (ws : List Jvm.Cond) (p0 : Int32) (h0 : Heap) (n0 : Nat) (Z0 : n0 ≤ h0.size) (hc0 : (p0.toInt64) ≠ (0 : Int64)) (hc1 : (lcmpW ((2147483648 : Int64) % (p0.toInt64)) (0 : Int64)) = (0 : Int32)) :
    MetFree l (⟨"com/example/fireweed/fireweed/layout/Java31ByteSaltHighestPinLaw", "expected", "(I)I"⟩ : MethodName) (head1 (Jvm.Cond.code (⟨"com/example/fireweed/fireweed/layout/Java31ByteSaltHighestPinLaw", "expected", "(I)I"⟩ : MethodName) method_3_code 5 (some .int) :: ws) ({ frames := 0, cells := 0, slots := 0, locals := 0 } : Room)) (fun a U => a = #[(.int p0)] ∧ Z.Warmed39 U.vm ∧ U.heap = h0) (fun _ _ _ _ _ => True) (fun _ U o U' => ∃ v L, o = .returned v ∧ Q22z Z p0 h0 n0 v U'.heap L ∧ FrameEnd U o U' L ({ frames := 0, cells := 0, slots := 0, locals := 0 } : Room).cells ({ frames := 0, cells := 0, slots := 0, locals := 0 } : Room).slots) := by
  refine MetFree.of_bodySF (plainFor_of_name pn_com_example_fireweed_fireweed_layout_Java31ByteSaltHighestPinLaw) hisR ?_
  intro p e s m args below meth c s₁ Bd hml0 hP hK
  obtain ⟨rfl, hZ, hh⟩ := hP
  have hx := Bd.exec
  have hby := Bd.bytes
  have hml : c.maxLocals = 5 := hml0
  have hown : s.vm.findClass "com/example/fireweed/fireweed/layout/Java31ByteSaltHighestPinLaw" = some m.cls := findClass_of_methodNamed Bd.named
  have hnm := (name_of_methodNamed Bd.named Bd.method).1
  have X0 : Stand p l e ({ frames := 0, cells := 0, slots := 0, locals := 0 } : Room) s m #[(.int p0)] below meth c s₁ [] 0 0 := Stand.of_body Bd
  have e0 : s₁.heap = h0 := by rw [← hh, Bd.state]; rfl
  have N0 := Fr.nil n0
  have pre0 : ∀ t, Steps p.tables e below (s₁.setTop (mkF m 0 #[.val (.int p0), .unset, .unset, .unset, .unset] [])) t → Steps p.tables e below (s₁.setTop (entryFrame m #[(.int p0)] 5)) t := fun t k => castTop (ef_rm22z m p0) k
  obtain ⟨fs, hr, hrun, hended, hW, hsame⟩ := X0.leave (v := some (.int (p0 - (1 : Int32)))) (fun h => by rw [Bd.returns] at h; cases h)
  refine ⟨_, _, pre0 _ ?_, hrun, hended, _, _, rfl, ?_, ⟨_, rfl⟩, hW, hsame.mono (by decide) (by decide)⟩
  · show Steps p.tables e below (s₁.setTop (mkF m 0 #[.val (.int p0), .unset, .unset, .unset, .unset] [])) _
    refine X0.ldc2Long hx hown (mvT hZ (hw _ (List.mem_of_getElem? (i := 129) rfl))) (g := (mkF m 0 #[.val (.int p0), .unset, .unset, .unset, .unset] [])) rfl (hb hby d22_0) _ ?_
    show Steps p.tables e below (s₁.setTop (mkF m 3 #[.val (.int p0), .unset, .unset, .unset, .unset] [(.long (2147483648 : Int64))])) _
    refine XS.iloadN X0.here hx rfl (hb hby d22_3) rfl ?_
    show Steps p.tables e below (s₁.setTop (mkF m 4 #[.val (.int p0), .unset, .unset, .unset, .unset] [(.int p0), (.long (2147483648 : Int64))])) _
    refine XS.i2l X0.here hx rfl (hb hby d22_4) rfl ?_
    show Steps p.tables e below (s₁.setTop (mkF m 5 #[.val (.int p0), .unset, .unset, .unset, .unset] [(.long (p0.toInt64)), (.long (2147483648 : Int64))])) _
    refine own_lremM X0 hx rfl (hb hby d22_5) rfl hc0 ?_
    show Steps p.tables e below (s₁.setTop (mkF m 6 #[.val (.int p0), .unset, .unset, .unset, .unset] [(.long ((2147483648 : Int64) % (p0.toInt64)))])) _
    refine XS.lstoreN X0.here hx rfl (hb hby d22_6) rfl (l' := #[.val (.int p0), .val (.long ((2147483648 : Int64) % (p0.toInt64))), .second, .unset, .unset]) rfl ?_
    show Steps p.tables e below (s₁.setTop (mkF m 7 #[.val (.int p0), .val (.long ((2147483648 : Int64) % (p0.toInt64))), .second, .unset, .unset] [])) _
    refine XS.iloadN X0.here hx rfl (hb hby d22_7) rfl ?_
    show Steps p.tables e below (s₁.setTop (mkF m 8 #[.val (.int p0), .val (.long ((2147483648 : Int64) % (p0.toInt64))), .second, .unset, .unset] [(.int p0)])) _
    refine XS.iconst X0.here hx rfl (hb hby d22_8) ?_
    show Steps p.tables e below (s₁.setTop (mkF m 9 #[.val (.int p0), .val (.long ((2147483648 : Int64) % (p0.toInt64))), .second, .unset, .unset] [(.int (1 : Int32)), (.int p0)])) _
    refine XS.isub X0.here hx rfl (hb hby d22_9) rfl ?_
    show Steps p.tables e below (s₁.setTop (mkF m 10 #[.val (.int p0), .val (.long ((2147483648 : Int64) % (p0.toInt64))), .second, .unset, .unset] [(.int (p0 - (1 : Int32)))])) _
    refine XS.istoreN X0.here hx rfl (hb hby d22_10) rfl (l' := #[.val (.int p0), .val (.long ((2147483648 : Int64) % (p0.toInt64))), .second, .val (.int (p0 - (1 : Int32))), .unset]) rfl ?_
    show Steps p.tables e below (s₁.setTop (mkF m 11 #[.val (.int p0), .val (.long ((2147483648 : Int64) % (p0.toInt64))), .second, .val (.int (p0 - (1 : Int32))), .unset] [])) _
    refine XS.lloadN X0.here hx rfl (hb hby d22_11) rfl ?_
    show Steps p.tables e below (s₁.setTop (mkF m 12 #[.val (.int p0), .val (.long ((2147483648 : Int64) % (p0.toInt64))), .second, .val (.int (p0 - (1 : Int32))), .unset] [(.long ((2147483648 : Int64) % (p0.toInt64)))])) _
    refine XS.lconst X0.here hx rfl (hb hby d22_12) ?_
    show Steps p.tables e below (s₁.setTop (mkF m 13 #[.val (.int p0), .val (.long ((2147483648 : Int64) % (p0.toInt64))), .second, .val (.int (p0 - (1 : Int32))), .unset] [(.long (0 : Int64)), (.long ((2147483648 : Int64) % (p0.toInt64)))])) _
    refine XS.lcmp X0.here hx rfl (hb hby d22_13) rfl ?_
    show Steps p.tables e below (s₁.setTop (mkF m 14 #[.val (.int p0), .val (.long ((2147483648 : Int64) % (p0.toInt64))), .second, .val (.int (p0 - (1 : Int32))), .unset] [(.int (lcmpW ((2147483648 : Int64) % (p0.toInt64)) (0 : Int64)))])) _
    refine XS.ifNo X0.here hx rfl (hb hby d22_14) rfl ((if0 _ _).trans (teq hc1).2) ?_
    show Steps p.tables e below (s₁.setTop (mkF m 17 #[.val (.int p0), .val (.long ((2147483648 : Int64) % (p0.toInt64))), .second, .val (.int (p0 - (1 : Int32))), .unset] [])) _
    refine XS.iloadN X0.here hx rfl (hb hby d22_17) rfl ?_
    show Steps p.tables e below (s₁.setTop (mkF m 18 #[.val (.int p0), .val (.long ((2147483648 : Int64) % (p0.toInt64))), .second, .val (.int (p0 - (1 : Int32))), .unset] [(.int (p0 - (1 : Int32)))])) _
    exact retI X0 hx Bd.returns (hb hby d22_18) hr
  · show Q22z Z p0 h0 n0 _ s₁.heap _
    rw [e0]
    exact ⟨rfl, N0, rfl⟩
theorem d22_19 : decode method_3_code 19 = .ok (.sipush 256, 3) := by decide +kernel
theorem d22_22 : decode method_3_code 22 = .ok (.lload_n 1, 1) := by decide +kernel
theorem d22_23 : decode method_3_code 23 = .ok (.l2i, 1) := by decide +kernel
theorem d22_24 : decode method_3_code 24 = .ok (.isub, 1) := by decide +kernel
theorem d22_25 : decode method_3_code 25 = .ok (.istore 4, 2) := by decide +kernel
theorem d22_27 : decode method_3_code 27 = .ok (.iload_n 3, 1) := by decide +kernel
theorem d22_28 : decode method_3_code 28 = .ok (.iload 4, 2) := by decide +kernel
theorem d22_30 : decode method_3_code 30 = .ok (.invokestatic 30, 3) := by decide +kernel
theorem d22_33 : decode method_3_code 33 = .ok (.ireturn, 1) := by decide +kernel
theorem ef_rm22m (m : MethodId) (p0 : Int32) : entryFrame m #[(.int p0)] 5 = mkF m 0 #[.val (.int p0), .unset, .unset, .unset, .unset] [] := by first | (simp [entryFrame, mkF, argsToLocals, Value.category]; done) | rfl
def Q22m (Z : State) (p0 : Int32) (wx : Int32) (h0 : Heap) (n0 : Nat) (v : Option Value) (h : Heap) (L : List Loc) : Prop := v = some (.int wx) ∧ Fr n0 L ∧ h = h0
set_option maxRecDepth 65536 in
set_option maxHeartbeats 40000000 in
theorem rm22m (l : Launch) (Z : State) (az : Array Value) (hw : ∀ d ∈ tables_1, d.before az Z = true) (ws : List Jvm.Cond) (p0 : Int32) (wx : Int32) (h0 : Heap) (n0 : Nat) (Z0 : n0 ≤ h0.size) (hc0 : (p0.toInt64) ≠ (0 : Int64)) (hc1 : ¬ ((lcmpW ((2147483648 : Int64) % (p0.toInt64)) (0 : Int64)) = (0 : Int32))) (hc2 : (((p0 - (1 : Int32)) < ((256 : Int32) - (((2147483648 : Int64) % (p0.toInt64)).toInt32))) ∧ wx = ((256 : Int32) - (((2147483648 : Int64) % (p0.toInt64)).toInt32))) ∨ ((¬ ((p0 - (1 : Int32)) < ((256 : Int32) - (((2147483648 : Int64) % (p0.toInt64)).toInt32)))) ∧ wx = (p0 - (1 : Int32)))) :
    MetFree l (⟨"com/example/fireweed/fireweed/layout/Java31ByteSaltHighestPinLaw", "expected", "(I)I"⟩ : MethodName) (head1 (Jvm.Cond.code (⟨"com/example/fireweed/fireweed/layout/Java31ByteSaltHighestPinLaw", "expected", "(I)I"⟩ : MethodName) method_3_code 5 (some .int) :: ws) ({ frames := 1, cells := 0, slots := 0, locals := 13 } : Room)) (fun a U => a = #[(.int p0)] ∧ Z.Warmed39 U.vm ∧ U.heap = h0) (fun _ _ _ _ _ => True) (fun _ U o U' => ∃ v L, o = .returned v ∧ Q22m Z p0 wx h0 n0 v U'.heap L ∧ FrameEnd U o U' L ({ frames := 1, cells := 0, slots := 0, locals := 13 } : Room).cells ({ frames := 1, cells := 0, slots := 0, locals := 13 } : Room).slots) := by
  refine MetFree.of_bodySF (plainFor_of_name pn_com_example_fireweed_fireweed_layout_Java31ByteSaltHighestPinLaw) hisR ?_
  intro p e s m args below meth c s₁ Bd hml0 hP hK
  obtain ⟨rfl, hZ, hh⟩ := hP
  have hx := Bd.exec
  have hby := Bd.bytes
  have hml : c.maxLocals = 5 := hml0
  have hown : s.vm.findClass "com/example/fireweed/fireweed/layout/Java31ByteSaltHighestPinLaw" = some m.cls := findClass_of_methodNamed Bd.named
  have hnm := (name_of_methodNamed Bd.named Bd.method).1
  have X0 : Stand p l e ({ frames := 1, cells := 0, slots := 0, locals := 13 } : Room) s m #[(.int p0)] below meth c s₁ [] 0 0 := Stand.of_body Bd
  have e0 : s₁.heap = h0 := by rw [← hh, Bd.state]; rfl
  have N0 := Fr.nil n0
  have pre0 : ∀ t, Steps p.tables e below (s₁.setTop (mkF m 0 #[.val (.int p0), .unset, .unset, .unset, .unset] [])) t → Steps p.tables e below (s₁.setTop (entryFrame m #[(.int p0)] 5)) t := fun t k => castTop (ef_rm22m m p0) k
  obtain ⟨_, _, ⟨T1, L1, k1', n1'⟩, -, X1, ⟨Lc1, hQ1, l1, y1, z1⟩, st1⟩ := Jvm.LawKit.callS X0 hx (y := (⟨"java/lang/Math", "max", "(II)I"⟩ : MethodName)) hown (mvT hZ (hw _ (List.mem_of_getElem? (i := 130) rfl))) (mvT hZ (hw _ (List.mem_of_getElem? (i := 123) rfl))) (mvT hZ (hw _ (List.mem_of_getElem? (i := 109) rfl))) (mvT hZ (hw _ (List.mem_of_getElem? (i := 124) rfl))) (by decide) (backOf (W := 0) (rm21 l Z az hw [] (p0 - (1 : Int32)) ((256 : Int32) - (((2147483648 : Int64) % (p0.toInt64)).toInt32)) wx h0 n0 Z0 hc2) hZ (hw _ (List.mem_of_getElem? (i := 124) rfl)) (hw _ (List.mem_of_getElem? (i := 109) rfl)) (by decide) (by decide)) (g := (mkF m 30 #[.val (.int p0), .val (.long ((2147483648 : Int64) % (p0.toInt64))), .second, .val (.int (p0 - (1 : Int32))), .val (.int ((256 : Int32) - (((2147483648 : Int64) % (p0.toInt64)).toInt32)))] [(.int ((256 : Int32) - (((2147483648 : Int64) % (p0.toInt64)).toInt32))), (.int (p0 - (1 : Int32)))])) rfl (by rw [hml]; rfl) (argsL := [(.int (p0 - (1 : Int32))), (.int ((256 : Int32) - (((2147483648 : Int64) % (p0.toInt64)).toInt32)))]) (rest := []) (lenOf pd_15 rfl) rfl (by show 2 * 0 + _ ≤ _; exact Nat.le_of_eq rfl) (hb hby d22_30) (fun _ _ => ⟨rfl, e0, (by decide : 0 + 0 ≤ _), (by decide : 0 + 0 ≤ _)⟩)
  dsimp only [Pt.U, Pt.locs, Pt.cells, Pt.slots] at X1 l1 y1 z1 st1 hQ1
  subst l1 y1 z1
  obtain ⟨rfl, N1q, e1⟩ := hQ1
  have N1 := Fr.app N0 N1q
  obtain ⟨fs, hr, hrun, hended, hW, hsame⟩ := X1.leave (v := some (.int wx)) (fun h => by rw [Bd.returns] at h; cases h)
  refine ⟨_, _, pre0 _ ?_, hrun, hended, _, _, rfl, ?_, ⟨_, rfl⟩, hW, hsame.mono (by decide) (by decide)⟩
  · show Steps p.tables e below (s₁.setTop (mkF m 0 #[.val (.int p0), .unset, .unset, .unset, .unset] [])) _
    refine X0.ldc2Long hx hown (mvT hZ (hw _ (List.mem_of_getElem? (i := 129) rfl))) (g := (mkF m 0 #[.val (.int p0), .unset, .unset, .unset, .unset] [])) rfl (hb hby d22_0) _ ?_
    show Steps p.tables e below (s₁.setTop (mkF m 3 #[.val (.int p0), .unset, .unset, .unset, .unset] [(.long (2147483648 : Int64))])) _
    refine XS.iloadN X0.here hx rfl (hb hby d22_3) rfl ?_
    show Steps p.tables e below (s₁.setTop (mkF m 4 #[.val (.int p0), .unset, .unset, .unset, .unset] [(.int p0), (.long (2147483648 : Int64))])) _
    refine XS.i2l X0.here hx rfl (hb hby d22_4) rfl ?_
    show Steps p.tables e below (s₁.setTop (mkF m 5 #[.val (.int p0), .unset, .unset, .unset, .unset] [(.long (p0.toInt64)), (.long (2147483648 : Int64))])) _
    refine own_lremM X0 hx rfl (hb hby d22_5) rfl hc0 ?_
    show Steps p.tables e below (s₁.setTop (mkF m 6 #[.val (.int p0), .unset, .unset, .unset, .unset] [(.long ((2147483648 : Int64) % (p0.toInt64)))])) _
    refine XS.lstoreN X0.here hx rfl (hb hby d22_6) rfl (l' := #[.val (.int p0), .val (.long ((2147483648 : Int64) % (p0.toInt64))), .second, .unset, .unset]) rfl ?_
    show Steps p.tables e below (s₁.setTop (mkF m 7 #[.val (.int p0), .val (.long ((2147483648 : Int64) % (p0.toInt64))), .second, .unset, .unset] [])) _
    refine XS.iloadN X0.here hx rfl (hb hby d22_7) rfl ?_
    show Steps p.tables e below (s₁.setTop (mkF m 8 #[.val (.int p0), .val (.long ((2147483648 : Int64) % (p0.toInt64))), .second, .unset, .unset] [(.int p0)])) _
    refine XS.iconst X0.here hx rfl (hb hby d22_8) ?_
    show Steps p.tables e below (s₁.setTop (mkF m 9 #[.val (.int p0), .val (.long ((2147483648 : Int64) % (p0.toInt64))), .second, .unset, .unset] [(.int (1 : Int32)), (.int p0)])) _
    refine XS.isub X0.here hx rfl (hb hby d22_9) rfl ?_
    show Steps p.tables e below (s₁.setTop (mkF m 10 #[.val (.int p0), .val (.long ((2147483648 : Int64) % (p0.toInt64))), .second, .unset, .unset] [(.int (p0 - (1 : Int32)))])) _
    refine XS.istoreN X0.here hx rfl (hb hby d22_10) rfl (l' := #[.val (.int p0), .val (.long ((2147483648 : Int64) % (p0.toInt64))), .second, .val (.int (p0 - (1 : Int32))), .unset]) rfl ?_
    show Steps p.tables e below (s₁.setTop (mkF m 11 #[.val (.int p0), .val (.long ((2147483648 : Int64) % (p0.toInt64))), .second, .val (.int (p0 - (1 : Int32))), .unset] [])) _
    refine XS.lloadN X0.here hx rfl (hb hby d22_11) rfl ?_
    show Steps p.tables e below (s₁.setTop (mkF m 12 #[.val (.int p0), .val (.long ((2147483648 : Int64) % (p0.toInt64))), .second, .val (.int (p0 - (1 : Int32))), .unset] [(.long ((2147483648 : Int64) % (p0.toInt64)))])) _
    refine XS.lconst X0.here hx rfl (hb hby d22_12) ?_
    show Steps p.tables e below (s₁.setTop (mkF m 13 #[.val (.int p0), .val (.long ((2147483648 : Int64) % (p0.toInt64))), .second, .val (.int (p0 - (1 : Int32))), .unset] [(.long (0 : Int64)), (.long ((2147483648 : Int64) % (p0.toInt64)))])) _
    refine XS.lcmp X0.here hx rfl (hb hby d22_13) rfl ?_
    show Steps p.tables e below (s₁.setTop (mkF m 14 #[.val (.int p0), .val (.long ((2147483648 : Int64) % (p0.toInt64))), .second, .val (.int (p0 - (1 : Int32))), .unset] [(.int (lcmpW ((2147483648 : Int64) % (p0.toInt64)) (0 : Int64)))])) _
    refine XS.ifYes X0.here hx rfl (pc0 := 14) (pc' := 19) rfl (hb hby d22_14) rfl ((if0 _ _).trans (feq hc1).2) (by decide) (by decide) ?_
    show Steps p.tables e below (s₁.setTop (mkF m 19 #[.val (.int p0), .val (.long ((2147483648 : Int64) % (p0.toInt64))), .second, .val (.int (p0 - (1 : Int32))), .unset] [])) _
    refine XS.sipush X0.here hx rfl (hb hby d22_19) ?_
    show Steps p.tables e below (s₁.setTop (mkF m 22 #[.val (.int p0), .val (.long ((2147483648 : Int64) % (p0.toInt64))), .second, .val (.int (p0 - (1 : Int32))), .unset] [(.int (256 : Int32))])) _
    refine XS.lloadN X0.here hx rfl (hb hby d22_22) rfl ?_
    show Steps p.tables e below (s₁.setTop (mkF m 23 #[.val (.int p0), .val (.long ((2147483648 : Int64) % (p0.toInt64))), .second, .val (.int (p0 - (1 : Int32))), .unset] [(.long ((2147483648 : Int64) % (p0.toInt64))), (.int (256 : Int32))])) _
    refine XS.l2i X0.here hx rfl (hb hby d22_23) rfl ?_
    show Steps p.tables e below (s₁.setTop (mkF m 24 #[.val (.int p0), .val (.long ((2147483648 : Int64) % (p0.toInt64))), .second, .val (.int (p0 - (1 : Int32))), .unset] [(.int (((2147483648 : Int64) % (p0.toInt64)).toInt32)), (.int (256 : Int32))])) _
    refine XS.isub X0.here hx rfl (hb hby d22_24) rfl ?_
    show Steps p.tables e below (s₁.setTop (mkF m 25 #[.val (.int p0), .val (.long ((2147483648 : Int64) % (p0.toInt64))), .second, .val (.int (p0 - (1 : Int32))), .unset] [(.int ((256 : Int32) - (((2147483648 : Int64) % (p0.toInt64)).toInt32)))])) _
    refine XS.istore X0.here hx rfl (hb hby d22_25) rfl (l' := #[.val (.int p0), .val (.long ((2147483648 : Int64) % (p0.toInt64))), .second, .val (.int (p0 - (1 : Int32))), .val (.int ((256 : Int32) - (((2147483648 : Int64) % (p0.toInt64)).toInt32)))]) rfl ?_
    show Steps p.tables e below (s₁.setTop (mkF m 27 #[.val (.int p0), .val (.long ((2147483648 : Int64) % (p0.toInt64))), .second, .val (.int (p0 - (1 : Int32))), .val (.int ((256 : Int32) - (((2147483648 : Int64) % (p0.toInt64)).toInt32)))] [])) _
    refine XS.iloadN X0.here hx rfl (hb hby d22_27) rfl ?_
    show Steps p.tables e below (s₁.setTop (mkF m 28 #[.val (.int p0), .val (.long ((2147483648 : Int64) % (p0.toInt64))), .second, .val (.int (p0 - (1 : Int32))), .val (.int ((256 : Int32) - (((2147483648 : Int64) % (p0.toInt64)).toInt32)))] [(.int (p0 - (1 : Int32)))])) _
    refine XS.iload X0.here hx rfl (hb hby d22_28) rfl ?_
    show Steps p.tables e below (s₁.setTop (mkF m 30 #[.val (.int p0), .val (.long ((2147483648 : Int64) % (p0.toInt64))), .second, .val (.int (p0 - (1 : Int32))), .val (.int ((256 : Int32) - (((2147483648 : Int64) % (p0.toInt64)).toInt32)))] [(.int ((256 : Int32) - (((2147483648 : Int64) % (p0.toInt64)).toInt32))), (.int (p0 - (1 : Int32)))])) _
    refine st1 _ ?_
    show Steps p.tables e below (T1.setTop (mkF m 33 #[.val (.int p0), .val (.long ((2147483648 : Int64) % (p0.toInt64))), .second, .val (.int (p0 - (1 : Int32))), .val (.int ((256 : Int32) - (((2147483648 : Int64) % (p0.toInt64)).toInt32)))] [(.int wx)])) _
    exact retI X1 hx Bd.returns (hb hby d22_33) hr
  · show Q22m Z p0 wx h0 n0 _ T1.heap _
    rw [e1]
    exact ⟨rfl, N1, rfl⟩
theorem pd_16 : parseMethodDescriptor "(C)Ljava/lang/String;" = some ⟨[.char], some (.object "java/lang/String")⟩ := by decide +kernel
theorem pd_17 : parseMethodDescriptor "(ILjava/lang/String;)V" = some ⟨[.int, (.object "java/lang/String")], none⟩ := by decide +kernel
theorem pd_18 : parseMethodDescriptor "()[B" = some ⟨[], some (.array .byte)⟩ := by decide +kernel
theorem ef_rm0pA (m : MethodId) (p0 : Int32) (p1 : Int32) : entryFrame m #[(.int p0), (.int p1)] maxLocals = mkF m 0 #[.val (.int p0), .val (.int p1), .unset, .unset, .unset, .unset] [] := by first | (simp [entryFrame, mkF, argsToLocals, Value.category, maxLocals]; done) | rfl
def Q0pA (Z : State) (p0 : Int32) (p1 : Int32) (wm : Int32) (aU : Addr) (s_COMPACT_STRINGS : Int32) (h0 : Heap) (n0 : Nat) (v : Option Value) (h : Heap) (L : List Loc) : Prop := v = some (.int (1 : Int32)) ∧ Fr n0 L
set_option maxRecDepth 65536 in
set_option maxHeartbeats 40000000 in
theorem rm0pA (l : Launch) (Z : State) (az : Array Value) (hw : ∀ d ∈ tables_1, d.before az Z = true) (ws : List Jvm.Cond) (p0 : Int32) (p1 : Int32) (wm : Int32) (aU : Addr) (s_COMPACT_STRINGS : Int32) (h0 : Heap) (n0 : Nat) (Z0 : n0 ≤ h0.size) (S_INSTANCE : Sta Z h0 "sun/nio/cs/UTF_8" "INSTANCE" "Lsun/nio/cs/UTF_8;" (.ref aU)) (S_UTF_8 : Sta Z h0 "java/nio/charset/StandardCharsets" "UTF_8" "Ljava/nio/charset/Charset;" (.ref aU)) (S_COMPACT_STRINGS : Sta Z h0 "java/lang/String" "COMPACT_STRINGS" "Z" (.int s_COMPACT_STRINGS)) (hc3 : ¬ (s_COMPACT_STRINGS = (0 : Int32))) (hc4 : ¬ ((255 : Int32) < ((p1 &&& (255 : Int32)).toUInt32.toUInt16.toUInt32.toInt32))) (hc5 : ¬ ((((p1 &&& (255 : Int32)).toUInt32.toUInt16.toUInt32.toInt32).toInt8.toInt32) < (0 : Int32))) (hc6 : ¬ (((p0 &&& (255 : Int32)) + (1 : Int32)) < (1 : Int32))) (hc7 : ¬ ((256 : Int32) < ((p0 &&& (255 : Int32)) + (1 : Int32)))) (hc8 : (own_bc ((p0 &&& (255 : Int32)) + (1 : Int32))) = (1 : Int32)) (hc9 : ¬ ((((p0 &&& (255 : Int32)) + (1 : Int32)) - (1 : Int32)) < (0 : Int32))) (hc10 : (((((p0 &&& (255 : Int32)) + (1 : Int32)) - (1 : Int32)) < ((((-2147483648 : Int32) &&& (((p0 &&& (255 : Int32)) + (1 : Int32)) - (1 : Int32))).toInt8.toInt32) &&& (255 : Int32))) ∧ wm = ((((-2147483648 : Int32) &&& (((p0 &&& (255 : Int32)) + (1 : Int32)) - (1 : Int32))).toInt8.toInt32) &&& (255 : Int32))) ∨ ((¬ ((((p0 &&& (255 : Int32)) + (1 : Int32)) - (1 : Int32)) < ((((-2147483648 : Int32) &&& (((p0 &&& (255 : Int32)) + (1 : Int32)) - (1 : Int32))).toInt8.toInt32) &&& (255 : Int32)))) ∧ wm = (((p0 &&& (255 : Int32)) + (1 : Int32)) - (1 : Int32)))) (hc11 : (((p0 &&& (255 : Int32)) + (1 : Int32)).toInt64) ≠ (0 : Int64)) (hc12 : (lcmpW ((2147483648 : Int64) % (((p0 &&& (255 : Int32)) + (1 : Int32)).toInt64)) (0 : Int64)) = (0 : Int32)) (hc13 : ((wm.toInt8.toInt32) &&& (255 : Int32)) = (((p0 &&& (255 : Int32)) + (1 : Int32)) - (1 : Int32))) :
    MetFree l x (head1 (Jvm.Cond.code x code maxLocals ret :: ws) room_1) (fun a U => a = #[(.int p0), (.int p1)] ∧ Z.Warmed39 U.vm ∧ U.heap = h0) (fun _ _ _ _ _ => True) (fun _ U o U' => ∃ v L, o = .returned v ∧ Q0pA Z p0 p1 wm aU s_COMPACT_STRINGS h0 n0 v U'.heap L ∧ ReturnedEndW U o U' L room_1.cells room_1.slots) := by
  refine MetFree.of_bodySF (plainFor_of_name pn_com_example_fireweed_fireweed_layout_Java31ByteSaltHighestPinLaw) hisR ?_
  intro p e s m args below meth c s₁ Bd hml0 hP hK
  obtain ⟨rfl, hZ, hh⟩ := hP
  have hx := Bd.exec
  have hby := Bd.bytes
  have hml : c.maxLocals = 6 := hml0
  have hown : s.vm.findClass "com/example/fireweed/fireweed/layout/Java31ByteSaltHighestPinLaw" = some m.cls := findClass_of_methodNamed Bd.named
  have hnm := (name_of_methodNamed Bd.named Bd.method).1
  have X0 : Stand p l e room_1 s m #[(.int p0), (.int p1)] below meth c s₁ [] 0 0 := Stand.of_body Bd
  have e0 : s₁.heap = h0 := by rw [← hh, Bd.state]; rfl
  have N0 := Fr.nil n0
  have pre0 : ∀ t, Steps p.tables e below (s₁.setTop (mkF m 0 #[.val (.int p0), .val (.int p1), .unset, .unset, .unset, .unset] [])) t → Steps p.tables e below (s₁.setTop (entryFrame m #[(.int p0), (.int p1)] maxLocals)) t := fun t k => castTop (ef_rm0pA m p0 p1) k
  have hS0 : s.Since s.vm 0 := (State.WarmedH.refl s).since 0
  have wS : ∀ a ∈ Bundle.stringAtoms, a.before az Z = true := fun d hd => by
    simp only [Bundle.stringAtoms, List.mem_cons, List.not_mem_nil, or_false] at hd
    rcases hd with rfl | rfl | rfl | rfl | rfl | rfl | rfl
    · exact (hw _ (List.mem_of_getElem? (i := 2) rfl))
    · exact (hw _ (List.mem_of_getElem? (i := 10) rfl))
    · exact (hw _ (List.mem_of_getElem? (i := 14) rfl))
    · exact (hw _ (List.mem_of_getElem? (i := 23) rfl))
    · exact (hw _ (List.mem_of_getElem? (i := 25) rfl))
    · exact (hw _ (List.mem_of_getElem? (i := 44) rfl))
    · exact (hw _ (List.mem_of_getElem? (i := 45) rfl))
  obtain ⟨_, _, ⟨T1, L1, k1', n1'⟩, -, X1, ⟨Lc1, hQ1, l1, y1, z1⟩, st1⟩ := Jvm.LawKit.callS X0 hx (y := (⟨"java/lang/String", "valueOf", "(C)Ljava/lang/String;"⟩ : MethodName)) hown (mvT hZ (hw _ (List.mem_of_getElem? (i := 0) rfl))) (mvT hZ (hw _ (List.mem_of_getElem? (i := 1) rfl))) (mvT hZ (hw _ (List.mem_of_getElem? (i := 2) rfl))) (mvT hZ (hw _ (List.mem_of_getElem? (i := 3) rfl))) (by decide) (backOf (W := 0) (rm1 l Z az hw [] ((p1 &&& (255 : Int32)).toUInt32.toUInt16.toUInt32.toInt32) s_COMPACT_STRINGS h0 n0 Z0 S_COMPACT_STRINGS hc3 hc4) hZ (hw _ (List.mem_of_getElem? (i := 3) rfl)) (hw _ (List.mem_of_getElem? (i := 2) rfl)) (by decide) (by decide)) (g := (mkF m 14 #[.val (.int p0), .val (.int p1), .val (.int ((p0 &&& (255 : Int32)) + (1 : Int32))), .unset, .unset, .unset] [(.int ((p1 &&& (255 : Int32)).toUInt32.toUInt16.toUInt32.toInt32))])) rfl (by rw [hml]; rfl) (argsL := [(.int ((p1 &&& (255 : Int32)).toUInt32.toUInt16.toUInt32.toInt32))]) (rest := []) (lenOf pd_16 rfl) rfl (by show 2 * 0 + _ ≤ _; exact Nat.le_of_eq rfl) (hb hby at_14) (fun _ _ => ⟨rfl, e0, (by decide : 0 + 2 ≤ _), (by decide : 0 + 5 ≤ _)⟩)
  dsimp only [Pt.U, Pt.locs, Pt.cells, Pt.slots] at X1 l1 y1 z1 st1 hQ1
  subst l1 y1 z1
  obtain ⟨b1_0, b1_1, kk1_0, rfl, N1q, s1_0, lt_b1_0_b1_1, kq1, pf1_0, pf1_1, pf1_2, pf1_3, pf1_4⟩ := hQ1
  have N1 := Fr.app N0 N1q
  have g_b1_0 : n0 ≤ b1_0 := Nat.le_trans Z0 s1_0
  have sz_b1_0 : h0.size ≤ b1_0 := Nat.le_trans (Nat.le_refl _) s1_0
  have g_b1_1 : n0 ≤ b1_1 := Nat.le_trans Z0 (Nat.le_trans s1_0 (Nat.le_of_lt lt_b1_0_b1_1))
  have sz_b1_1 : h0.size ≤ b1_1 := Nat.le_trans (Nat.le_refl _) (Nat.le_trans s1_0 (Nat.le_of_lt lt_b1_0_b1_1))
  have K1 : Keep h0 T1.heap [] := (Keep.refl h0 []).trans kq1 all0
  have Z1 : n0 ≤ T1.heap.size := Nat.le_trans Z0 kq1.1
  obtain ⟨T2, h2, X2, e2, E2, A2, D2, -, st2⟩ := newO X1 hx hZ hown (hw _ (List.mem_of_getElem? (i := 26) rfl)) (hw _ (List.mem_of_getElem? (i := 27) rfl)) (hw _ (List.mem_of_getElem? (i := 28) rfl)) rfl (g := (mkF m 18 #[.val (.int p0), .val (.int p1), .val (.int ((p0 &&& (255 : Int32)) + (1 : Int32))), .val (.ref b1_0), .unset, .unset] [])) rfl (hb hby at_18) (by decide) (by decide)
  obtain ⟨b2, g2⟩ : ∃ z, z = T1.heap.size := ⟨_, rfl⟩
  rw [← g2] at A2 D2 st2
  have g_b2 : n0 ≤ b2 := Nat.le_trans Z1 (Nat.le_of_eq g2.symm)
  have sz_b2 : h0.size ≤ b2 := Nat.le_trans K1.1 (Nat.le_of_eq g2.symm)
  have Z2 : n0 ≤ h2.size := Nat.le_trans Z1 E2.1
  have K2 : Keep h0 h2 [] := K1.ext E2
  have E_b2 := A2
  have F_suffix_b2 : Fld Z h2 b2 "com/example/fireweed/fireweed/layout/Salt" "suffix" "Ljava/lang/String;" .null := D2 (Or.inr (hw _ (List.mem_of_getElem? (i := 52) rfl))) (ty := (.object "java/lang/String")) (by decide)
  have F_suffixBytes_b2 : Fld Z h2 b2 "com/example/fireweed/fireweed/layout/Salt" "suffixBytes" "[B" .null := D2 (Or.inr (hw _ (List.mem_of_getElem? (i := 90) rfl))) (ty := (.array .byte)) (by decide)
  have F_buckets_b2 : Fld Z h2 b2 "com/example/fireweed/fireweed/layout/Java31ByteSalt" "buckets" "I" (.int (0 : Int32)) := D2 (Or.inr (hw _ (List.mem_of_getElem? (i := 92) rfl))) (ty := .int) (by decide)
  have F_mask_b2 : Fld Z h2 b2 "com/example/fireweed/fireweed/layout/Java31ByteSalt" "mask" "I" (.int (0 : Int32)) := D2 (Or.inr (hw _ (List.mem_of_getElem? (i := 101) rfl))) (ty := .int) (by decide)
  have F_overflow_b2 : Fld Z h2 b2 "com/example/fireweed/fireweed/layout/Java31ByteSalt" "overflow" "I" (.int (0 : Int32)) := D2 (Or.inr (hw _ (List.mem_of_getElem? (i := 116) rfl))) (ty := .int) (by decide)
  have E_b1_0_u4 : Exa Z h2 b1_0 "java/lang/String" := (pf1_0.ext E2)
  have F_b1_0_coder_u5 : Fld Z h2 b1_0 "java/lang/String" "coder" "B" (.int (0 : Int32)) := (pf1_2.ext E2)
  have F_b1_0_value_u6 : Fld Z h2 b1_0 "java/lang/String" "value" "[B" (.ref b1_1) := (pf1_1.ext E2)
  have V_b1_1_u7 : Arv Z h2 b1_1 kk1_0 .byte (1 : Int32) [(.int (((p1 &&& (255 : Int32)).toUInt32.toUInt16.toUInt32.toInt32).toInt8.toInt32))] (.int (0 : Int32)) := (pf1_4.ext E2)
  have E_b1_1_u8 : Exa Z h2 b1_1 "[B" := (pf1_3.ext E2)
  have S_UTF_8_INSTANCE_u9 : Sta Z h2 "sun/nio/cs/UTF_8" "INSTANCE" "Lsun/nio/cs/UTF_8;" (.ref aU) := ((own_Sta S_INSTANCE kq1 (fun _ m => nomatch m)).ext E2)
  have S_StandardCharsets_UTF_8_u10 : Sta Z h2 "java/nio/charset/StandardCharsets" "UTF_8" "Ljava/nio/charset/Charset;" (.ref aU) := ((own_Sta S_UTF_8 kq1 (fun _ m => nomatch m)).ext E2)
  have S_String_COMPACT_STRINGS_u11 : Sta Z h2 "java/lang/String" "COMPACT_STRINGS" "Z" (.int s_COMPACT_STRINGS) := ((own_Sta S_COMPACT_STRINGS kq1 (fun _ m => nomatch m)).ext E2)
  have ne_b1_0_b2 : b1_0 ≠ b2 := own_ne (Nat.lt_of_lt_of_le pf1_0.lt (Nat.le_of_eq g2.symm))
  have ne_b1_1_b2 : b1_1 ≠ b2 := own_ne (Nat.lt_of_lt_of_le pf1_3.lt (Nat.le_of_eq g2.symm))
  obtain ⟨_, _, ⟨T3, L3, k3', n3'⟩, -, Y3, yS3, yg3, ⟨Lc3, hQ3, l3, y3, z3⟩, st3⟩ := X2.specialBackS hx (y := (⟨"com/example/fireweed/fireweed/layout/Java31ByteSalt", "<init>", "(ILjava/lang/String;)V"⟩ : MethodName)) rfl hown (mvT hZ (hw _ (List.mem_of_getElem? (i := 29) rfl))) (mvT hZ (hw _ (List.mem_of_getElem? (i := 30) rfl))) (mvT hZ (hw _ (List.mem_of_getElem? (i := 31) rfl))) (by decide) (backOfS (W := 1) (rm6pA l Z az hw [] b2 ((p0 &&& (255 : Int32)) + (1 : Int32)) b1_0 b1_1 kk1_0 (((p1 &&& (255 : Int32)).toUInt32.toUInt16.toUInt32.toInt32).toInt8.toInt32) aU s_COMPACT_STRINGS h2 n0 Z2 E_b2 F_suffix_b2 F_suffixBytes_b2 F_buckets_b2 F_mask_b2 F_overflow_b2 E_b1_0_u4 F_b1_0_coder_u5 F_b1_0_value_u6 V_b1_1_u7 E_b1_1_u8 S_UTF_8_INSTANCE_u9 S_StandardCharsets_UTF_8_u10 hc5 S_String_COMPACT_STRINGS_u11 g_b2 ne_b1_0_b2 ne_b1_1_b2 hc3 hc6 hc7 hc8 hc9) hZ (hw _ (List.mem_of_getElem? (i := 31) rfl)) (hw _ (List.mem_of_getElem? (i := 28) rfl)) (by decide) (by decide)) (g := (mkF m 24 #[.val (.int p0), .val (.int p1), .val (.int ((p0 &&& (255 : Int32)) + (1 : Int32))), .val (.ref b1_0), .unset, .unset] [(.ref b1_0), (.int ((p0 &&& (255 : Int32)) + (1 : Int32))), (.ref b2), (.ref b2)])) rfl (by rw [hml]; rfl) (Steps.refl _) (a := b2) (argsL := [(.int ((p0 &&& (255 : Int32)) + (1 : Int32))), (.ref b1_0)]) (rest := [(.ref b2)]) (lenOf pd_17 rfl) rfl (by show 2 * 0 + _ ≤ _; exact Nat.le_of_eq rfl) (hb hby at_24) (fun _ _ => ⟨rfl, e2, (by decide : 3 + 3 ≤ _), (by decide : 10 + 29 ≤ _)⟩)
  dsimp only [Pt.U, Pt.locs, Pt.cells, Pt.slots] at Y3 yS3 yg3 l3 y3 z3 st3 hQ3
  subst l3 y3 z3
  obtain ⟨X3, hS3, hZ3, hown3⟩ := rebS (s := s) (vm0 := s.vm) hS0 (by rw [e2]; exact (Nat.le_trans (Nat.le_trans (Nat.zero_le _) kq1.1) E2.1)) Y3 yS3 yg3 hZ hown
  obtain ⟨b3_0, rfl, N3q, s3_0, kq3, pf3_0, pf3_1, pf3_2, pf3_3, pf3_4, pf3_5, pf3_6, pf3_7⟩ := hQ3
  have N3 := Fr.app N1 N3q
  have g_b3_0 : n0 ≤ b3_0 := Nat.le_trans Z2 s3_0
  have sz_b3_0 : h0.size ≤ b3_0 := Nat.le_trans K2.1 s3_0
  have K3 : Keep h0 T3.heap [] := K2.trans kq3 (allS (Or.inr sz_b2) all0)
  have Z3 : n0 ≤ T3.heap.size := Nat.le_trans Z2 kq3.1
  obtain ⟨cq12, kq12, q12a, q12b, q12c⟩ := isOf hZ3 rfl pf3_0
  obtain ⟨_, _, ⟨T12, L12, k12', n12'⟩, -, X12, ⟨Lc12, hQ12, l12, y12, z12⟩, st12⟩ := X3.virtualBack hx (y := (⟨"com/example/fireweed/fireweed/layout/Java31ByteSalt", "highest", "()[B"⟩ : MethodName)) (z := (⟨"com/example/fireweed/fireweed/layout/Java31ByteSalt", "highest", "()[B"⟩ : MethodName)) hown3 (mvT hZ3 (hw _ (List.mem_of_getElem? (i := 117) rfl))) (mvT hZ3 (hw _ (List.mem_of_getElem? (i := 118) rfl))) (notFace_of_selects (args := #[]) (mvT hZ3 (hw _ (List.mem_of_getElem? (i := 120) rfl)))) (mvT hZ3 (hw _ (List.mem_of_getElem? (i := 120) rfl))) (mvT hZ3 (hw _ (List.mem_of_getElem? (i := 119) rfl))) (by decide) (backOf (W := 0) (rm20 l Z az hw [] b2 wm ((p0 &&& (255 : Int32)) + (1 : Int32)) ((((-2147483648 : Int32) &&& (((p0 &&& (255 : Int32)) + (1 : Int32)) - (1 : Int32))).toInt8.toInt32) &&& (255 : Int32)) T3.heap n0 Z3 pf3_3 pf3_5 hc10) hZ3 (hw _ (List.mem_of_getElem? (i := 121) rfl)) (hw _ (List.mem_of_getElem? (i := 28) rfl)) (by decide) (by decide)) q12a q12c (g := (mkF m 31 #[.val (.int p0), .val (.int p1), .val (.int ((p0 &&& (255 : Int32)) + (1 : Int32))), .val (.ref b1_0), .val (.ref b2), .unset] [(.ref b2)])) rfl (by rw [hml]; rfl) (Steps.refl _) (argsL := []) (rest := []) (lenOf pd_18 rfl) rfl (by show 2 * 0 + _ ≤ _; exact Nat.le_of_eq rfl) (hb hby at_31) (fun _ _ => ⟨rfl, rfl, (by decide : 6 + 1 ≤ _), (by decide : 39 + 1 ≤ _)⟩)
  dsimp only [Pt.U, Pt.locs, Pt.cells, Pt.slots] at X12 l12 y12 z12 st12 hQ12
  subst l12 y12 z12
  obtain ⟨b12_0, kk12_0, rfl, N12q, s12_0, kq12, pf12_0, pf12_1⟩ := hQ12
  have N12 := Fr.app N3 N12q
  have g_b12_0 : n0 ≤ b12_0 := Nat.le_trans Z3 s12_0
  have sz_b12_0 : h0.size ≤ b12_0 := Nat.le_trans K3.1 s12_0
  have K12 : Keep h0 T12.heap [] := K3.trans kq12 all0
  have Z12 : n0 ≤ T12.heap.size := Nat.le_trans Z3 kq12.1
  obtain ⟨cl13, Ar13, qk13, Sz13, Ng13, Hs13, Gf13⟩ := id pf12_1
  have hin14 : ¬ ((0 : Int32) < 0 ∨ cl13.slots.size ≤ ((0 : Int32)).toNatClampNeg) := inb_of Sz13 ⟨by decide, by decide⟩
  have hat15 : cl13.slots[((0 : Int32)).toNatClampNeg]? = some (.int (wm.toInt8.toInt32)) := Hs13.at hin14 rfl
  obtain ⟨_, _, ⟨T16, L16, k16', n16'⟩, -, X16, ⟨Lc16, hQ16, l16, y16, z16⟩, st16⟩ := Jvm.LawKit.callS X12 hx (y := (⟨"com/example/fireweed/fireweed/layout/Java31ByteSaltHighestPinLaw", "expected", "(I)I"⟩ : MethodName)) hown3 (mvT hZ3 (hw _ (List.mem_of_getElem? (i := 125) rfl))) (mvT hZ3 (hw _ (List.mem_of_getElem? (i := 126) rfl))) (mvT hZ3 (hw _ (List.mem_of_getElem? (i := 127) rfl))) (mvT hZ3 (hw _ (List.mem_of_getElem? (i := 128) rfl))) (by decide) (backOf (W := 1) (rm22z l Z az hw [] ((p0 &&& (255 : Int32)) + (1 : Int32)) T12.heap n0 Z12 hc11 hc12) hZ3 (hw _ (List.mem_of_getElem? (i := 128) rfl)) (hw _ (List.mem_of_getElem? (i := 127) rfl)) (by decide) (by decide)) (g := (mkF m 59 #[.val (.int p0), .val (.int p1), .val (.int ((p0 &&& (255 : Int32)) + (1 : Int32))), .val (.ref b1_0), .val (.ref b2), .val (.ref b12_0)] [(.int ((p0 &&& (255 : Int32)) + (1 : Int32))), (.int ((wm.toInt8.toInt32) &&& (255 : Int32)))])) rfl (by rw [hml]; rfl) (argsL := [(.int ((p0 &&& (255 : Int32)) + (1 : Int32)))]) (rest := [(.int ((wm.toInt8.toInt32) &&& (255 : Int32)))]) (lenOf pd_8 rfl) rfl (by show 2 * 0 + _ ≤ _; exact Nat.le_of_eq rfl) (hb hby at_59) (fun _ _ => ⟨rfl, rfl, (by decide : 7 + 0 ≤ _), (by decide : 40 + 0 ≤ _)⟩)
  dsimp only [Pt.U, Pt.locs, Pt.cells, Pt.slots] at X16 l16 y16 z16 st16 hQ16
  subst l16 y16 z16
  obtain ⟨rfl, N16q, e16⟩ := hQ16
  have N16 := Fr.app N12 N16q
  obtain ⟨fs, hr, hrun, hended, hWE⟩ := X16.leaveW (s := s) hS3 (by rw [e16]; exact (Nat.le_trans (Nat.le_refl _) kq12.1)) (v := some (.int (1 : Int32))) (fun h => by rw [Bd.returns] at h; cases h)
  refine ⟨_, _, pre0 _ ?_, hrun, hended, _, _, rfl, ?_, hWE.1, hWE.2.1, hWE.2.2.1, hWE.2.2.2.mono (by decide) (by decide)⟩
  · show Steps p.tables e below (s₁.setTop (mkF m 0 #[.val (.int p0), .val (.int p1), .unset, .unset, .unset, .unset] [])) _
    refine XS.iloadN X0.here hx rfl (hb hby at_0) rfl ?_
    show Steps p.tables e below (s₁.setTop (mkF m 1 #[.val (.int p0), .val (.int p1), .unset, .unset, .unset, .unset] [(.int p0)])) _
    refine XS.sipush X0.here hx rfl (hb hby at_1) ?_
    show Steps p.tables e below (s₁.setTop (mkF m 4 #[.val (.int p0), .val (.int p1), .unset, .unset, .unset, .unset] [(.int (255 : Int32)), (.int p0)])) _
    refine XS.iand X0.here hx rfl (hb hby at_4) rfl ?_
    show Steps p.tables e below (s₁.setTop (mkF m 5 #[.val (.int p0), .val (.int p1), .unset, .unset, .unset, .unset] [(.int (p0 &&& (255 : Int32)))])) _
    refine XS.iconst X0.here hx rfl (hb hby at_5) ?_
    show Steps p.tables e below (s₁.setTop (mkF m 6 #[.val (.int p0), .val (.int p1), .unset, .unset, .unset, .unset] [(.int (1 : Int32)), (.int (p0 &&& (255 : Int32)))])) _
    refine XS.iadd X0.here hx rfl (hb hby at_6) rfl ?_
    show Steps p.tables e below (s₁.setTop (mkF m 7 #[.val (.int p0), .val (.int p1), .unset, .unset, .unset, .unset] [(.int ((p0 &&& (255 : Int32)) + (1 : Int32)))])) _
    refine XS.istoreN X0.here hx rfl (hb hby at_7) rfl (l' := #[.val (.int p0), .val (.int p1), .val (.int ((p0 &&& (255 : Int32)) + (1 : Int32))), .unset, .unset, .unset]) rfl ?_
    show Steps p.tables e below (s₁.setTop (mkF m 8 #[.val (.int p0), .val (.int p1), .val (.int ((p0 &&& (255 : Int32)) + (1 : Int32))), .unset, .unset, .unset] [])) _
    refine XS.iloadN X0.here hx rfl (hb hby at_8) rfl ?_
    show Steps p.tables e below (s₁.setTop (mkF m 9 #[.val (.int p0), .val (.int p1), .val (.int ((p0 &&& (255 : Int32)) + (1 : Int32))), .unset, .unset, .unset] [(.int p1)])) _
    refine XS.sipush X0.here hx rfl (hb hby at_9) ?_
    show Steps p.tables e below (s₁.setTop (mkF m 12 #[.val (.int p0), .val (.int p1), .val (.int ((p0 &&& (255 : Int32)) + (1 : Int32))), .unset, .unset, .unset] [(.int (255 : Int32)), (.int p1)])) _
    refine XS.iand X0.here hx rfl (hb hby at_12) rfl ?_
    show Steps p.tables e below (s₁.setTop (mkF m 13 #[.val (.int p0), .val (.int p1), .val (.int ((p0 &&& (255 : Int32)) + (1 : Int32))), .unset, .unset, .unset] [(.int (p1 &&& (255 : Int32)))])) _
    refine XS.i2c X0.here hx rfl (hb hby at_13) rfl ?_
    show Steps p.tables e below (s₁.setTop (mkF m 14 #[.val (.int p0), .val (.int p1), .val (.int ((p0 &&& (255 : Int32)) + (1 : Int32))), .unset, .unset, .unset] [(.int ((p1 &&& (255 : Int32)).toUInt32.toUInt16.toUInt32.toInt32))])) _
    refine st1 _ ?_
    show Steps p.tables e below (T1.setTop (mkF m 17 #[.val (.int p0), .val (.int p1), .val (.int ((p0 &&& (255 : Int32)) + (1 : Int32))), .unset, .unset, .unset] [(.ref b1_0)])) _
    refine XS.astoreN X1.here hx rfl (hb hby at_17) rfl rfl (l' := #[.val (.int p0), .val (.int p1), .val (.int ((p0 &&& (255 : Int32)) + (1 : Int32))), .val (.ref b1_0), .unset, .unset]) rfl ?_
    show Steps p.tables e below (T1.setTop (mkF m 18 #[.val (.int p0), .val (.int p1), .val (.int ((p0 &&& (255 : Int32)) + (1 : Int32))), .val (.ref b1_0), .unset, .unset] [])) _
    refine st2 _ ?_
    show Steps p.tables e below (T2.setTop (mkF m 21 #[.val (.int p0), .val (.int p1), .val (.int ((p0 &&& (255 : Int32)) + (1 : Int32))), .val (.ref b1_0), .unset, .unset] [(.ref b2)])) _
    refine XS.dup X2.here hx rfl (hb hby at_21) rfl rfl ?_
    show Steps p.tables e below (T2.setTop (mkF m 22 #[.val (.int p0), .val (.int p1), .val (.int ((p0 &&& (255 : Int32)) + (1 : Int32))), .val (.ref b1_0), .unset, .unset] [(.ref b2), (.ref b2)])) _
    refine XS.iloadN X2.here hx rfl (hb hby at_22) rfl ?_
    show Steps p.tables e below (T2.setTop (mkF m 23 #[.val (.int p0), .val (.int p1), .val (.int ((p0 &&& (255 : Int32)) + (1 : Int32))), .val (.ref b1_0), .unset, .unset] [(.int ((p0 &&& (255 : Int32)) + (1 : Int32))), (.ref b2), (.ref b2)])) _
    refine XS.aloadN X2.here hx rfl (hb hby at_23) rfl rfl ?_
    show Steps p.tables e below (T2.setTop (mkF m 24 #[.val (.int p0), .val (.int p1), .val (.int ((p0 &&& (255 : Int32)) + (1 : Int32))), .val (.ref b1_0), .unset, .unset] [(.ref b1_0), (.int ((p0 &&& (255 : Int32)) + (1 : Int32))), (.ref b2), (.ref b2)])) _
    refine st3.trans ?_
    show Steps p.tables e below (T3.setTop (mkF m 27 #[.val (.int p0), .val (.int p1), .val (.int ((p0 &&& (255 : Int32)) + (1 : Int32))), .val (.ref b1_0), .unset, .unset] [(.ref b2)])) _
    refine XS.astore X3.here hx rfl (hb hby at_27) rfl rfl (l' := #[.val (.int p0), .val (.int p1), .val (.int ((p0 &&& (255 : Int32)) + (1 : Int32))), .val (.ref b1_0), .val (.ref b2), .unset]) rfl ?_
    show Steps p.tables e below (T3.setTop (mkF m 29 #[.val (.int p0), .val (.int p1), .val (.int ((p0 &&& (255 : Int32)) + (1 : Int32))), .val (.ref b1_0), .val (.ref b2), .unset] [])) _
    refine XS.aload X3.here hx rfl (hb hby at_29) rfl rfl ?_
    show Steps p.tables e below (T3.setTop (mkF m 31 #[.val (.int p0), .val (.int p1), .val (.int ((p0 &&& (255 : Int32)) + (1 : Int32))), .val (.ref b1_0), .val (.ref b2), .unset] [(.ref b2)])) _
    refine st12.trans ?_
    show Steps p.tables e below (T12.setTop (mkF m 34 #[.val (.int p0), .val (.int p1), .val (.int ((p0 &&& (255 : Int32)) + (1 : Int32))), .val (.ref b1_0), .val (.ref b2), .unset] [(.ref b12_0)])) _
    refine XS.astore X12.here hx rfl (hb hby at_34) rfl rfl (l' := #[.val (.int p0), .val (.int p1), .val (.int ((p0 &&& (255 : Int32)) + (1 : Int32))), .val (.ref b1_0), .val (.ref b2), .val (.ref b12_0)]) rfl ?_
    show Steps p.tables e below (T12.setTop (mkF m 36 #[.val (.int p0), .val (.int p1), .val (.int ((p0 &&& (255 : Int32)) + (1 : Int32))), .val (.ref b1_0), .val (.ref b2), .val (.ref b12_0)] [])) _
    refine XS.aload X12.here hx rfl (hb hby at_36) rfl rfl ?_
    show Steps p.tables e below (T12.setTop (mkF m 38 #[.val (.int p0), .val (.int p1), .val (.int ((p0 &&& (255 : Int32)) + (1 : Int32))), .val (.ref b1_0), .val (.ref b2), .val (.ref b12_0)] [(.ref b12_0)])) _
    refine XS.ifnullNo X12.here hx rfl (hb hby at_38) rfl ?_
    show Steps p.tables e below (T12.setTop (mkF m 41 #[.val (.int p0), .val (.int p1), .val (.int ((p0 &&& (255 : Int32)) + (1 : Int32))), .val (.ref b1_0), .val (.ref b2), .val (.ref b12_0)] [])) _
    refine XS.aload X12.here hx rfl (hb hby at_41) rfl rfl ?_
    show Steps p.tables e below (T12.setTop (mkF m 43 #[.val (.int p0), .val (.int p1), .val (.int ((p0 &&& (255 : Int32)) + (1 : Int32))), .val (.ref b1_0), .val (.ref b2), .val (.ref b12_0)] [(.ref b12_0)])) _
    refine X12.arraylength hx Ar13.1 (State.isArrayOf_alike hZ3.alike Ar13.2.1) (g := (mkF m 43 #[.val (.int p0), .val (.int p1), .val (.int ((p0 &&& (255 : Int32)) + (1 : Int32))), .val (.ref b1_0), .val (.ref b2), .val (.ref b12_0)] [(.ref b12_0)])) rfl rfl (hb hby at_43) _ ?_
    rw [len_of Sz13 Ng13]
    show Steps p.tables e below (T12.setTop (mkF m 44 #[.val (.int p0), .val (.int p1), .val (.int ((p0 &&& (255 : Int32)) + (1 : Int32))), .val (.ref b1_0), .val (.ref b2), .val (.ref b12_0)] [(.int (1 : Int32))])) _
    refine XS.iconst X12.here hx rfl (hb hby at_44) ?_
    show Steps p.tables e below (T12.setTop (mkF m 45 #[.val (.int p0), .val (.int p1), .val (.int ((p0 &&& (255 : Int32)) + (1 : Int32))), .val (.ref b1_0), .val (.ref b2), .val (.ref b12_0)] [(.int (1 : Int32)), (.int (1 : Int32))])) _
    refine XS.icmpYes X12.here hx rfl (pc0 := 45) (pc' := 50) rfl (hb hby at_45) rfl (teq (by decide : (1 : Int32) = (1 : Int32))).1 (by decide) (by decide) ?_
    show Steps p.tables e below (T12.setTop (mkF m 50 #[.val (.int p0), .val (.int p1), .val (.int ((p0 &&& (255 : Int32)) + (1 : Int32))), .val (.ref b1_0), .val (.ref b2), .val (.ref b12_0)] [])) _
    refine XS.aload X12.here hx rfl (hb hby at_50) rfl rfl ?_
    show Steps p.tables e below (T12.setTop (mkF m 52 #[.val (.int p0), .val (.int p1), .val (.int ((p0 &&& (255 : Int32)) + (1 : Int32))), .val (.ref b1_0), .val (.ref b2), .val (.ref b12_0)] [(.ref b12_0)])) _
    refine XS.iconst X12.here hx rfl (hb hby at_52) ?_
    show Steps p.tables e below (T12.setTop (mkF m 53 #[.val (.int p0), .val (.int p1), .val (.int ((p0 &&& (255 : Int32)) + (1 : Int32))), .val (.ref b1_0), .val (.ref b2), .val (.ref b12_0)] [(.int (0 : Int32)), (.ref b12_0)])) _
    refine X12.baloadBytes hx (j := (0 : Int32)) (v := (.int (wm.toInt8.toInt32))) Ar13.1 (State.isArrayOf_alike hZ3.alike Ar13.2.1) Ar13.2.2 hin14 hat15 (g := (mkF m 53 #[.val (.int p0), .val (.int p1), .val (.int ((p0 &&& (255 : Int32)) + (1 : Int32))), .val (.ref b1_0), .val (.ref b2), .val (.ref b12_0)] [(.int (0 : Int32)), (.ref b12_0)])) rfl rfl (hb hby at_53) _ ?_
    show Steps p.tables e below (T12.setTop (mkF m 54 #[.val (.int p0), .val (.int p1), .val (.int ((p0 &&& (255 : Int32)) + (1 : Int32))), .val (.ref b1_0), .val (.ref b2), .val (.ref b12_0)] [(.int (wm.toInt8.toInt32))])) _
    refine XS.sipush X12.here hx rfl (hb hby at_54) ?_
    show Steps p.tables e below (T12.setTop (mkF m 57 #[.val (.int p0), .val (.int p1), .val (.int ((p0 &&& (255 : Int32)) + (1 : Int32))), .val (.ref b1_0), .val (.ref b2), .val (.ref b12_0)] [(.int (255 : Int32)), (.int (wm.toInt8.toInt32))])) _
    refine XS.iand X12.here hx rfl (hb hby at_57) rfl ?_
    show Steps p.tables e below (T12.setTop (mkF m 58 #[.val (.int p0), .val (.int p1), .val (.int ((p0 &&& (255 : Int32)) + (1 : Int32))), .val (.ref b1_0), .val (.ref b2), .val (.ref b12_0)] [(.int ((wm.toInt8.toInt32) &&& (255 : Int32)))])) _
    refine XS.iloadN X12.here hx rfl (hb hby at_58) rfl ?_
    show Steps p.tables e below (T12.setTop (mkF m 59 #[.val (.int p0), .val (.int p1), .val (.int ((p0 &&& (255 : Int32)) + (1 : Int32))), .val (.ref b1_0), .val (.ref b2), .val (.ref b12_0)] [(.int ((p0 &&& (255 : Int32)) + (1 : Int32))), (.int ((wm.toInt8.toInt32) &&& (255 : Int32)))])) _
    refine st16 _ ?_
    show Steps p.tables e below (T16.setTop (mkF m 62 #[.val (.int p0), .val (.int p1), .val (.int ((p0 &&& (255 : Int32)) + (1 : Int32))), .val (.ref b1_0), .val (.ref b2), .val (.ref b12_0)] [(.int (((p0 &&& (255 : Int32)) + (1 : Int32)) - (1 : Int32))), (.int ((wm.toInt8.toInt32) &&& (255 : Int32)))])) _
    refine XS.icmpNo X16.here hx rfl (hb hby at_62) rfl (teq hc13).2 ?_
    show Steps p.tables e below (T16.setTop (mkF m 65 #[.val (.int p0), .val (.int p1), .val (.int ((p0 &&& (255 : Int32)) + (1 : Int32))), .val (.ref b1_0), .val (.ref b2), .val (.ref b12_0)] [])) _
    refine XS.iconst X16.here hx rfl (hb hby at_65) ?_
    show Steps p.tables e below (T16.setTop (mkF m 66 #[.val (.int p0), .val (.int p1), .val (.int ((p0 &&& (255 : Int32)) + (1 : Int32))), .val (.ref b1_0), .val (.ref b2), .val (.ref b12_0)] [(.int (1 : Int32))])) _
    refine XS.goto X16.here hx rfl (pc0 := 66) (pc' := 70) rfl (hb hby at_66) (by decide) (by decide) ?_
    show Steps p.tables e below (T16.setTop (mkF m 70 #[.val (.int p0), .val (.int p1), .val (.int ((p0 &&& (255 : Int32)) + (1 : Int32))), .val (.ref b1_0), .val (.ref b2), .val (.ref b12_0)] [(.int (1 : Int32))])) _
    exact retN X16 hx (t := .boolean) Bd.returns (by simp) (hb hby at_70) hr
  · show Q0pA Z p0 p1 wm aU s_COMPACT_STRINGS h0 n0 _ T16.heap _
    rw [e16]
    exact ⟨rfl, N16⟩
theorem ef_rm0pB (m : MethodId) (p0 : Int32) (p1 : Int32) : entryFrame m #[(.int p0), (.int p1)] maxLocals = mkF m 0 #[.val (.int p0), .val (.int p1), .unset, .unset, .unset, .unset] [] := by first | (simp [entryFrame, mkF, argsToLocals, Value.category, maxLocals]; done) | rfl
def Q0pB (Z : State) (p0 : Int32) (p1 : Int32) (wm : Int32) (wx : Int32) (aU : Addr) (s_COMPACT_STRINGS : Int32) (h0 : Heap) (n0 : Nat) (v : Option Value) (h : Heap) (L : List Loc) : Prop := v = some (.int (1 : Int32)) ∧ Fr n0 L
set_option maxRecDepth 65536 in
set_option maxHeartbeats 40000000 in
theorem rm0pB (l : Launch) (Z : State) (az : Array Value) (hw : ∀ d ∈ tables_1, d.before az Z = true) (ws : List Jvm.Cond) (p0 : Int32) (p1 : Int32) (wm : Int32) (wx : Int32) (aU : Addr) (s_COMPACT_STRINGS : Int32) (h0 : Heap) (n0 : Nat) (Z0 : n0 ≤ h0.size) (S_INSTANCE : Sta Z h0 "sun/nio/cs/UTF_8" "INSTANCE" "Lsun/nio/cs/UTF_8;" (.ref aU)) (S_UTF_8 : Sta Z h0 "java/nio/charset/StandardCharsets" "UTF_8" "Ljava/nio/charset/Charset;" (.ref aU)) (S_COMPACT_STRINGS : Sta Z h0 "java/lang/String" "COMPACT_STRINGS" "Z" (.int s_COMPACT_STRINGS)) (hc3 : ¬ (s_COMPACT_STRINGS = (0 : Int32))) (hc4 : ¬ ((255 : Int32) < ((p1 &&& (255 : Int32)).toUInt32.toUInt16.toUInt32.toInt32))) (hc5 : ¬ ((((p1 &&& (255 : Int32)).toUInt32.toUInt16.toUInt32.toInt32).toInt8.toInt32) < (0 : Int32))) (hc6 : ¬ (((p0 &&& (255 : Int32)) + (1 : Int32)) < (1 : Int32))) (hc7 : ¬ ((256 : Int32) < ((p0 &&& (255 : Int32)) + (1 : Int32)))) (hc8 : ¬ ((own_bc ((p0 &&& (255 : Int32)) + (1 : Int32))) = (1 : Int32))) (hc9 : ((p0 &&& (255 : Int32)) + (1 : Int32)) ≠ (0 : Int32)) (hc10 : (((((p0 &&& (255 : Int32)) + (1 : Int32)) - (1 : Int32)) < ((((-2147483648 : Int32) % ((p0 &&& (255 : Int32)) + (1 : Int32))).toInt8.toInt32) &&& (255 : Int32))) ∧ wm = ((((-2147483648 : Int32) % ((p0 &&& (255 : Int32)) + (1 : Int32))).toInt8.toInt32) &&& (255 : Int32))) ∨ ((¬ ((((p0 &&& (255 : Int32)) + (1 : Int32)) - (1 : Int32)) < ((((-2147483648 : Int32) % ((p0 &&& (255 : Int32)) + (1 : Int32))).toInt8.toInt32) &&& (255 : Int32)))) ∧ wm = (((p0 &&& (255 : Int32)) + (1 : Int32)) - (1 : Int32)))) (hc11 : (((p0 &&& (255 : Int32)) + (1 : Int32)).toInt64) ≠ (0 : Int64)) (hc12 : ¬ ((lcmpW ((2147483648 : Int64) % (((p0 &&& (255 : Int32)) + (1 : Int32)).toInt64)) (0 : Int64)) = (0 : Int32))) (hc13 : (((((p0 &&& (255 : Int32)) + (1 : Int32)) - (1 : Int32)) < ((256 : Int32) - (((2147483648 : Int64) % (((p0 &&& (255 : Int32)) + (1 : Int32)).toInt64)).toInt32))) ∧ wx = ((256 : Int32) - (((2147483648 : Int64) % (((p0 &&& (255 : Int32)) + (1 : Int32)).toInt64)).toInt32))) ∨ ((¬ ((((p0 &&& (255 : Int32)) + (1 : Int32)) - (1 : Int32)) < ((256 : Int32) - (((2147483648 : Int64) % (((p0 &&& (255 : Int32)) + (1 : Int32)).toInt64)).toInt32)))) ∧ wx = (((p0 &&& (255 : Int32)) + (1 : Int32)) - (1 : Int32)))) (hc14 : ((wm.toInt8.toInt32) &&& (255 : Int32)) = wx) :
    MetFree l x (head1 (Jvm.Cond.code x code maxLocals ret :: ws) room_1) (fun a U => a = #[(.int p0), (.int p1)] ∧ Z.Warmed39 U.vm ∧ U.heap = h0) (fun _ _ _ _ _ => True) (fun _ U o U' => ∃ v L, o = .returned v ∧ Q0pB Z p0 p1 wm wx aU s_COMPACT_STRINGS h0 n0 v U'.heap L ∧ ReturnedEndW U o U' L room_1.cells room_1.slots) := by
  refine MetFree.of_bodySF (plainFor_of_name pn_com_example_fireweed_fireweed_layout_Java31ByteSaltHighestPinLaw) hisR ?_
  intro p e s m args below meth c s₁ Bd hml0 hP hK
  obtain ⟨rfl, hZ, hh⟩ := hP
  have hx := Bd.exec
  have hby := Bd.bytes
  have hml : c.maxLocals = 6 := hml0
  have hown : s.vm.findClass "com/example/fireweed/fireweed/layout/Java31ByteSaltHighestPinLaw" = some m.cls := findClass_of_methodNamed Bd.named
  have hnm := (name_of_methodNamed Bd.named Bd.method).1
  have X0 : Stand p l e room_1 s m #[(.int p0), (.int p1)] below meth c s₁ [] 0 0 := Stand.of_body Bd
  have e0 : s₁.heap = h0 := by rw [← hh, Bd.state]; rfl
  have N0 := Fr.nil n0
  have pre0 : ∀ t, Steps p.tables e below (s₁.setTop (mkF m 0 #[.val (.int p0), .val (.int p1), .unset, .unset, .unset, .unset] [])) t → Steps p.tables e below (s₁.setTop (entryFrame m #[(.int p0), (.int p1)] maxLocals)) t := fun t k => castTop (ef_rm0pB m p0 p1) k
  have hS0 : s.Since s.vm 0 := (State.WarmedH.refl s).since 0
  have wS : ∀ a ∈ Bundle.stringAtoms, a.before az Z = true := fun d hd => by
    simp only [Bundle.stringAtoms, List.mem_cons, List.not_mem_nil, or_false] at hd
    rcases hd with rfl | rfl | rfl | rfl | rfl | rfl | rfl
    · exact (hw _ (List.mem_of_getElem? (i := 2) rfl))
    · exact (hw _ (List.mem_of_getElem? (i := 10) rfl))
    · exact (hw _ (List.mem_of_getElem? (i := 14) rfl))
    · exact (hw _ (List.mem_of_getElem? (i := 23) rfl))
    · exact (hw _ (List.mem_of_getElem? (i := 25) rfl))
    · exact (hw _ (List.mem_of_getElem? (i := 44) rfl))
    · exact (hw _ (List.mem_of_getElem? (i := 45) rfl))
  obtain ⟨_, _, ⟨T1, L1, k1', n1'⟩, -, X1, ⟨Lc1, hQ1, l1, y1, z1⟩, st1⟩ := Jvm.LawKit.callS X0 hx (y := (⟨"java/lang/String", "valueOf", "(C)Ljava/lang/String;"⟩ : MethodName)) hown (mvT hZ (hw _ (List.mem_of_getElem? (i := 0) rfl))) (mvT hZ (hw _ (List.mem_of_getElem? (i := 1) rfl))) (mvT hZ (hw _ (List.mem_of_getElem? (i := 2) rfl))) (mvT hZ (hw _ (List.mem_of_getElem? (i := 3) rfl))) (by decide) (backOf (W := 0) (rm1 l Z az hw [] ((p1 &&& (255 : Int32)).toUInt32.toUInt16.toUInt32.toInt32) s_COMPACT_STRINGS h0 n0 Z0 S_COMPACT_STRINGS hc3 hc4) hZ (hw _ (List.mem_of_getElem? (i := 3) rfl)) (hw _ (List.mem_of_getElem? (i := 2) rfl)) (by decide) (by decide)) (g := (mkF m 14 #[.val (.int p0), .val (.int p1), .val (.int ((p0 &&& (255 : Int32)) + (1 : Int32))), .unset, .unset, .unset] [(.int ((p1 &&& (255 : Int32)).toUInt32.toUInt16.toUInt32.toInt32))])) rfl (by rw [hml]; rfl) (argsL := [(.int ((p1 &&& (255 : Int32)).toUInt32.toUInt16.toUInt32.toInt32))]) (rest := []) (lenOf pd_16 rfl) rfl (by show 2 * 0 + _ ≤ _; exact Nat.le_of_eq rfl) (hb hby at_14) (fun _ _ => ⟨rfl, e0, (by decide : 0 + 2 ≤ _), (by decide : 0 + 5 ≤ _)⟩)
  dsimp only [Pt.U, Pt.locs, Pt.cells, Pt.slots] at X1 l1 y1 z1 st1 hQ1
  subst l1 y1 z1
  obtain ⟨b1_0, b1_1, kk1_0, rfl, N1q, s1_0, lt_b1_0_b1_1, kq1, pf1_0, pf1_1, pf1_2, pf1_3, pf1_4⟩ := hQ1
  have N1 := Fr.app N0 N1q
  have g_b1_0 : n0 ≤ b1_0 := Nat.le_trans Z0 s1_0
  have sz_b1_0 : h0.size ≤ b1_0 := Nat.le_trans (Nat.le_refl _) s1_0
  have g_b1_1 : n0 ≤ b1_1 := Nat.le_trans Z0 (Nat.le_trans s1_0 (Nat.le_of_lt lt_b1_0_b1_1))
  have sz_b1_1 : h0.size ≤ b1_1 := Nat.le_trans (Nat.le_refl _) (Nat.le_trans s1_0 (Nat.le_of_lt lt_b1_0_b1_1))
  have K1 : Keep h0 T1.heap [] := (Keep.refl h0 []).trans kq1 all0
  have Z1 : n0 ≤ T1.heap.size := Nat.le_trans Z0 kq1.1
  obtain ⟨T2, h2, X2, e2, E2, A2, D2, -, st2⟩ := newO X1 hx hZ hown (hw _ (List.mem_of_getElem? (i := 26) rfl)) (hw _ (List.mem_of_getElem? (i := 27) rfl)) (hw _ (List.mem_of_getElem? (i := 28) rfl)) rfl (g := (mkF m 18 #[.val (.int p0), .val (.int p1), .val (.int ((p0 &&& (255 : Int32)) + (1 : Int32))), .val (.ref b1_0), .unset, .unset] [])) rfl (hb hby at_18) (by decide) (by decide)
  obtain ⟨b2, g2⟩ : ∃ z, z = T1.heap.size := ⟨_, rfl⟩
  rw [← g2] at A2 D2 st2
  have g_b2 : n0 ≤ b2 := Nat.le_trans Z1 (Nat.le_of_eq g2.symm)
  have sz_b2 : h0.size ≤ b2 := Nat.le_trans K1.1 (Nat.le_of_eq g2.symm)
  have Z2 : n0 ≤ h2.size := Nat.le_trans Z1 E2.1
  have K2 : Keep h0 h2 [] := K1.ext E2
  have E_b2 := A2
  have F_suffix_b2 : Fld Z h2 b2 "com/example/fireweed/fireweed/layout/Salt" "suffix" "Ljava/lang/String;" .null := D2 (Or.inr (hw _ (List.mem_of_getElem? (i := 52) rfl))) (ty := (.object "java/lang/String")) (by decide)
  have F_suffixBytes_b2 : Fld Z h2 b2 "com/example/fireweed/fireweed/layout/Salt" "suffixBytes" "[B" .null := D2 (Or.inr (hw _ (List.mem_of_getElem? (i := 90) rfl))) (ty := (.array .byte)) (by decide)
  have F_buckets_b2 : Fld Z h2 b2 "com/example/fireweed/fireweed/layout/Java31ByteSalt" "buckets" "I" (.int (0 : Int32)) := D2 (Or.inr (hw _ (List.mem_of_getElem? (i := 92) rfl))) (ty := .int) (by decide)
  have F_mask_b2 : Fld Z h2 b2 "com/example/fireweed/fireweed/layout/Java31ByteSalt" "mask" "I" (.int (0 : Int32)) := D2 (Or.inr (hw _ (List.mem_of_getElem? (i := 101) rfl))) (ty := .int) (by decide)
  have F_overflow_b2 : Fld Z h2 b2 "com/example/fireweed/fireweed/layout/Java31ByteSalt" "overflow" "I" (.int (0 : Int32)) := D2 (Or.inr (hw _ (List.mem_of_getElem? (i := 116) rfl))) (ty := .int) (by decide)
  have E_b1_0_u4 : Exa Z h2 b1_0 "java/lang/String" := (pf1_0.ext E2)
  have F_b1_0_coder_u5 : Fld Z h2 b1_0 "java/lang/String" "coder" "B" (.int (0 : Int32)) := (pf1_2.ext E2)
  have F_b1_0_value_u6 : Fld Z h2 b1_0 "java/lang/String" "value" "[B" (.ref b1_1) := (pf1_1.ext E2)
  have V_b1_1_u7 : Arv Z h2 b1_1 kk1_0 .byte (1 : Int32) [(.int (((p1 &&& (255 : Int32)).toUInt32.toUInt16.toUInt32.toInt32).toInt8.toInt32))] (.int (0 : Int32)) := (pf1_4.ext E2)
  have E_b1_1_u8 : Exa Z h2 b1_1 "[B" := (pf1_3.ext E2)
  have S_UTF_8_INSTANCE_u9 : Sta Z h2 "sun/nio/cs/UTF_8" "INSTANCE" "Lsun/nio/cs/UTF_8;" (.ref aU) := ((own_Sta S_INSTANCE kq1 (fun _ m => nomatch m)).ext E2)
  have S_StandardCharsets_UTF_8_u10 : Sta Z h2 "java/nio/charset/StandardCharsets" "UTF_8" "Ljava/nio/charset/Charset;" (.ref aU) := ((own_Sta S_UTF_8 kq1 (fun _ m => nomatch m)).ext E2)
  have S_String_COMPACT_STRINGS_u11 : Sta Z h2 "java/lang/String" "COMPACT_STRINGS" "Z" (.int s_COMPACT_STRINGS) := ((own_Sta S_COMPACT_STRINGS kq1 (fun _ m => nomatch m)).ext E2)
  have ne_b1_0_b2 : b1_0 ≠ b2 := own_ne (Nat.lt_of_lt_of_le pf1_0.lt (Nat.le_of_eq g2.symm))
  have ne_b1_1_b2 : b1_1 ≠ b2 := own_ne (Nat.lt_of_lt_of_le pf1_3.lt (Nat.le_of_eq g2.symm))
  obtain ⟨_, _, ⟨T3, L3, k3', n3'⟩, -, Y3, yS3, yg3, ⟨Lc3, hQ3, l3, y3, z3⟩, st3⟩ := X2.specialBackS hx (y := (⟨"com/example/fireweed/fireweed/layout/Java31ByteSalt", "<init>", "(ILjava/lang/String;)V"⟩ : MethodName)) rfl hown (mvT hZ (hw _ (List.mem_of_getElem? (i := 29) rfl))) (mvT hZ (hw _ (List.mem_of_getElem? (i := 30) rfl))) (mvT hZ (hw _ (List.mem_of_getElem? (i := 31) rfl))) (by decide) (backOfS (W := 1) (rm6pB l Z az hw [] b2 ((p0 &&& (255 : Int32)) + (1 : Int32)) b1_0 b1_1 kk1_0 (((p1 &&& (255 : Int32)).toUInt32.toUInt16.toUInt32.toInt32).toInt8.toInt32) aU s_COMPACT_STRINGS h2 n0 Z2 E_b2 F_suffix_b2 F_suffixBytes_b2 F_buckets_b2 F_mask_b2 F_overflow_b2 E_b1_0_u4 F_b1_0_coder_u5 F_b1_0_value_u6 V_b1_1_u7 E_b1_1_u8 S_UTF_8_INSTANCE_u9 S_StandardCharsets_UTF_8_u10 hc5 S_String_COMPACT_STRINGS_u11 g_b2 ne_b1_0_b2 ne_b1_1_b2 hc3 hc6 hc7 hc8 hc9) hZ (hw _ (List.mem_of_getElem? (i := 31) rfl)) (hw _ (List.mem_of_getElem? (i := 28) rfl)) (by decide) (by decide)) (g := (mkF m 24 #[.val (.int p0), .val (.int p1), .val (.int ((p0 &&& (255 : Int32)) + (1 : Int32))), .val (.ref b1_0), .unset, .unset] [(.ref b1_0), (.int ((p0 &&& (255 : Int32)) + (1 : Int32))), (.ref b2), (.ref b2)])) rfl (by rw [hml]; rfl) (Steps.refl _) (a := b2) (argsL := [(.int ((p0 &&& (255 : Int32)) + (1 : Int32))), (.ref b1_0)]) (rest := [(.ref b2)]) (lenOf pd_17 rfl) rfl (by show 2 * 0 + _ ≤ _; exact Nat.le_of_eq rfl) (hb hby at_24) (fun _ _ => ⟨rfl, e2, (by decide : 3 + 3 ≤ _), (by decide : 10 + 29 ≤ _)⟩)
  dsimp only [Pt.U, Pt.locs, Pt.cells, Pt.slots] at Y3 yS3 yg3 l3 y3 z3 st3 hQ3
  subst l3 y3 z3
  obtain ⟨X3, hS3, hZ3, hown3⟩ := rebS (s := s) (vm0 := s.vm) hS0 (by rw [e2]; exact (Nat.le_trans (Nat.le_trans (Nat.zero_le _) kq1.1) E2.1)) Y3 yS3 yg3 hZ hown
  obtain ⟨b3_0, rfl, N3q, s3_0, kq3, pf3_0, pf3_1, pf3_2, pf3_3, pf3_4, pf3_5, pf3_6, pf3_7⟩ := hQ3
  have N3 := Fr.app N1 N3q
  have g_b3_0 : n0 ≤ b3_0 := Nat.le_trans Z2 s3_0
  have sz_b3_0 : h0.size ≤ b3_0 := Nat.le_trans K2.1 s3_0
  have K3 : Keep h0 T3.heap [] := K2.trans kq3 (allS (Or.inr sz_b2) all0)
  have Z3 : n0 ≤ T3.heap.size := Nat.le_trans Z2 kq3.1
  obtain ⟨cq12, kq12, q12a, q12b, q12c⟩ := isOf hZ3 rfl pf3_0
  obtain ⟨_, _, ⟨T12, L12, k12', n12'⟩, -, X12, ⟨Lc12, hQ12, l12, y12, z12⟩, st12⟩ := X3.virtualBack hx (y := (⟨"com/example/fireweed/fireweed/layout/Java31ByteSalt", "highest", "()[B"⟩ : MethodName)) (z := (⟨"com/example/fireweed/fireweed/layout/Java31ByteSalt", "highest", "()[B"⟩ : MethodName)) hown3 (mvT hZ3 (hw _ (List.mem_of_getElem? (i := 117) rfl))) (mvT hZ3 (hw _ (List.mem_of_getElem? (i := 118) rfl))) (notFace_of_selects (args := #[]) (mvT hZ3 (hw _ (List.mem_of_getElem? (i := 120) rfl)))) (mvT hZ3 (hw _ (List.mem_of_getElem? (i := 120) rfl))) (mvT hZ3 (hw _ (List.mem_of_getElem? (i := 119) rfl))) (by decide) (backOf (W := 0) (rm20 l Z az hw [] b2 wm ((p0 &&& (255 : Int32)) + (1 : Int32)) ((((-2147483648 : Int32) % ((p0 &&& (255 : Int32)) + (1 : Int32))).toInt8.toInt32) &&& (255 : Int32)) T3.heap n0 Z3 pf3_3 pf3_5 hc10) hZ3 (hw _ (List.mem_of_getElem? (i := 121) rfl)) (hw _ (List.mem_of_getElem? (i := 28) rfl)) (by decide) (by decide)) q12a q12c (g := (mkF m 31 #[.val (.int p0), .val (.int p1), .val (.int ((p0 &&& (255 : Int32)) + (1 : Int32))), .val (.ref b1_0), .val (.ref b2), .unset] [(.ref b2)])) rfl (by rw [hml]; rfl) (Steps.refl _) (argsL := []) (rest := []) (lenOf pd_18 rfl) rfl (by show 2 * 0 + _ ≤ _; exact Nat.le_of_eq rfl) (hb hby at_31) (fun _ _ => ⟨rfl, rfl, (by decide : 6 + 1 ≤ _), (by decide : 39 + 1 ≤ _)⟩)
  dsimp only [Pt.U, Pt.locs, Pt.cells, Pt.slots] at X12 l12 y12 z12 st12 hQ12
  subst l12 y12 z12
  obtain ⟨b12_0, kk12_0, rfl, N12q, s12_0, kq12, pf12_0, pf12_1⟩ := hQ12
  have N12 := Fr.app N3 N12q
  have g_b12_0 : n0 ≤ b12_0 := Nat.le_trans Z3 s12_0
  have sz_b12_0 : h0.size ≤ b12_0 := Nat.le_trans K3.1 s12_0
  have K12 : Keep h0 T12.heap [] := K3.trans kq12 all0
  have Z12 : n0 ≤ T12.heap.size := Nat.le_trans Z3 kq12.1
  obtain ⟨cl13, Ar13, qk13, Sz13, Ng13, Hs13, Gf13⟩ := id pf12_1
  have hin14 : ¬ ((0 : Int32) < 0 ∨ cl13.slots.size ≤ ((0 : Int32)).toNatClampNeg) := inb_of Sz13 ⟨by decide, by decide⟩
  have hat15 : cl13.slots[((0 : Int32)).toNatClampNeg]? = some (.int (wm.toInt8.toInt32)) := Hs13.at hin14 rfl
  obtain ⟨_, _, ⟨T16, L16, k16', n16'⟩, -, X16, ⟨Lc16, hQ16, l16, y16, z16⟩, st16⟩ := Jvm.LawKit.callS X12 hx (y := (⟨"com/example/fireweed/fireweed/layout/Java31ByteSaltHighestPinLaw", "expected", "(I)I"⟩ : MethodName)) hown3 (mvT hZ3 (hw _ (List.mem_of_getElem? (i := 125) rfl))) (mvT hZ3 (hw _ (List.mem_of_getElem? (i := 126) rfl))) (mvT hZ3 (hw _ (List.mem_of_getElem? (i := 127) rfl))) (mvT hZ3 (hw _ (List.mem_of_getElem? (i := 128) rfl))) (by decide) (backOf (W := 1) (rm22m l Z az hw [] ((p0 &&& (255 : Int32)) + (1 : Int32)) wx T12.heap n0 Z12 hc11 hc12 hc13) hZ3 (hw _ (List.mem_of_getElem? (i := 128) rfl)) (hw _ (List.mem_of_getElem? (i := 127) rfl)) (by decide) (by decide)) (g := (mkF m 59 #[.val (.int p0), .val (.int p1), .val (.int ((p0 &&& (255 : Int32)) + (1 : Int32))), .val (.ref b1_0), .val (.ref b2), .val (.ref b12_0)] [(.int ((p0 &&& (255 : Int32)) + (1 : Int32))), (.int ((wm.toInt8.toInt32) &&& (255 : Int32)))])) rfl (by rw [hml]; rfl) (argsL := [(.int ((p0 &&& (255 : Int32)) + (1 : Int32)))]) (rest := [(.int ((wm.toInt8.toInt32) &&& (255 : Int32)))]) (lenOf pd_8 rfl) rfl (by show 2 * 0 + _ ≤ _; exact Nat.le_of_eq rfl) (hb hby at_59) (fun _ _ => ⟨rfl, rfl, (by decide : 7 + 0 ≤ _), (by decide : 40 + 0 ≤ _)⟩)
  dsimp only [Pt.U, Pt.locs, Pt.cells, Pt.slots] at X16 l16 y16 z16 st16 hQ16
  subst l16 y16 z16
  obtain ⟨rfl, N16q, e16⟩ := hQ16
  have N16 := Fr.app N12 N16q
  obtain ⟨fs, hr, hrun, hended, hWE⟩ := X16.leaveW (s := s) hS3 (by rw [e16]; exact (Nat.le_trans (Nat.le_refl _) kq12.1)) (v := some (.int (1 : Int32))) (fun h => by rw [Bd.returns] at h; cases h)
  refine ⟨_, _, pre0 _ ?_, hrun, hended, _, _, rfl, ?_, hWE.1, hWE.2.1, hWE.2.2.1, hWE.2.2.2.mono (by decide) (by decide)⟩
  · show Steps p.tables e below (s₁.setTop (mkF m 0 #[.val (.int p0), .val (.int p1), .unset, .unset, .unset, .unset] [])) _
    refine XS.iloadN X0.here hx rfl (hb hby at_0) rfl ?_
    show Steps p.tables e below (s₁.setTop (mkF m 1 #[.val (.int p0), .val (.int p1), .unset, .unset, .unset, .unset] [(.int p0)])) _
    refine XS.sipush X0.here hx rfl (hb hby at_1) ?_
    show Steps p.tables e below (s₁.setTop (mkF m 4 #[.val (.int p0), .val (.int p1), .unset, .unset, .unset, .unset] [(.int (255 : Int32)), (.int p0)])) _
    refine XS.iand X0.here hx rfl (hb hby at_4) rfl ?_
    show Steps p.tables e below (s₁.setTop (mkF m 5 #[.val (.int p0), .val (.int p1), .unset, .unset, .unset, .unset] [(.int (p0 &&& (255 : Int32)))])) _
    refine XS.iconst X0.here hx rfl (hb hby at_5) ?_
    show Steps p.tables e below (s₁.setTop (mkF m 6 #[.val (.int p0), .val (.int p1), .unset, .unset, .unset, .unset] [(.int (1 : Int32)), (.int (p0 &&& (255 : Int32)))])) _
    refine XS.iadd X0.here hx rfl (hb hby at_6) rfl ?_
    show Steps p.tables e below (s₁.setTop (mkF m 7 #[.val (.int p0), .val (.int p1), .unset, .unset, .unset, .unset] [(.int ((p0 &&& (255 : Int32)) + (1 : Int32)))])) _
    refine XS.istoreN X0.here hx rfl (hb hby at_7) rfl (l' := #[.val (.int p0), .val (.int p1), .val (.int ((p0 &&& (255 : Int32)) + (1 : Int32))), .unset, .unset, .unset]) rfl ?_
    show Steps p.tables e below (s₁.setTop (mkF m 8 #[.val (.int p0), .val (.int p1), .val (.int ((p0 &&& (255 : Int32)) + (1 : Int32))), .unset, .unset, .unset] [])) _
    refine XS.iloadN X0.here hx rfl (hb hby at_8) rfl ?_
    show Steps p.tables e below (s₁.setTop (mkF m 9 #[.val (.int p0), .val (.int p1), .val (.int ((p0 &&& (255 : Int32)) + (1 : Int32))), .unset, .unset, .unset] [(.int p1)])) _
    refine XS.sipush X0.here hx rfl (hb hby at_9) ?_
    show Steps p.tables e below (s₁.setTop (mkF m 12 #[.val (.int p0), .val (.int p1), .val (.int ((p0 &&& (255 : Int32)) + (1 : Int32))), .unset, .unset, .unset] [(.int (255 : Int32)), (.int p1)])) _
    refine XS.iand X0.here hx rfl (hb hby at_12) rfl ?_
    show Steps p.tables e below (s₁.setTop (mkF m 13 #[.val (.int p0), .val (.int p1), .val (.int ((p0 &&& (255 : Int32)) + (1 : Int32))), .unset, .unset, .unset] [(.int (p1 &&& (255 : Int32)))])) _
    refine XS.i2c X0.here hx rfl (hb hby at_13) rfl ?_
    show Steps p.tables e below (s₁.setTop (mkF m 14 #[.val (.int p0), .val (.int p1), .val (.int ((p0 &&& (255 : Int32)) + (1 : Int32))), .unset, .unset, .unset] [(.int ((p1 &&& (255 : Int32)).toUInt32.toUInt16.toUInt32.toInt32))])) _
    refine st1 _ ?_
    show Steps p.tables e below (T1.setTop (mkF m 17 #[.val (.int p0), .val (.int p1), .val (.int ((p0 &&& (255 : Int32)) + (1 : Int32))), .unset, .unset, .unset] [(.ref b1_0)])) _
    refine XS.astoreN X1.here hx rfl (hb hby at_17) rfl rfl (l' := #[.val (.int p0), .val (.int p1), .val (.int ((p0 &&& (255 : Int32)) + (1 : Int32))), .val (.ref b1_0), .unset, .unset]) rfl ?_
    show Steps p.tables e below (T1.setTop (mkF m 18 #[.val (.int p0), .val (.int p1), .val (.int ((p0 &&& (255 : Int32)) + (1 : Int32))), .val (.ref b1_0), .unset, .unset] [])) _
    refine st2 _ ?_
    show Steps p.tables e below (T2.setTop (mkF m 21 #[.val (.int p0), .val (.int p1), .val (.int ((p0 &&& (255 : Int32)) + (1 : Int32))), .val (.ref b1_0), .unset, .unset] [(.ref b2)])) _
    refine XS.dup X2.here hx rfl (hb hby at_21) rfl rfl ?_
    show Steps p.tables e below (T2.setTop (mkF m 22 #[.val (.int p0), .val (.int p1), .val (.int ((p0 &&& (255 : Int32)) + (1 : Int32))), .val (.ref b1_0), .unset, .unset] [(.ref b2), (.ref b2)])) _
    refine XS.iloadN X2.here hx rfl (hb hby at_22) rfl ?_
    show Steps p.tables e below (T2.setTop (mkF m 23 #[.val (.int p0), .val (.int p1), .val (.int ((p0 &&& (255 : Int32)) + (1 : Int32))), .val (.ref b1_0), .unset, .unset] [(.int ((p0 &&& (255 : Int32)) + (1 : Int32))), (.ref b2), (.ref b2)])) _
    refine XS.aloadN X2.here hx rfl (hb hby at_23) rfl rfl ?_
    show Steps p.tables e below (T2.setTop (mkF m 24 #[.val (.int p0), .val (.int p1), .val (.int ((p0 &&& (255 : Int32)) + (1 : Int32))), .val (.ref b1_0), .unset, .unset] [(.ref b1_0), (.int ((p0 &&& (255 : Int32)) + (1 : Int32))), (.ref b2), (.ref b2)])) _
    refine st3.trans ?_
    show Steps p.tables e below (T3.setTop (mkF m 27 #[.val (.int p0), .val (.int p1), .val (.int ((p0 &&& (255 : Int32)) + (1 : Int32))), .val (.ref b1_0), .unset, .unset] [(.ref b2)])) _
    refine XS.astore X3.here hx rfl (hb hby at_27) rfl rfl (l' := #[.val (.int p0), .val (.int p1), .val (.int ((p0 &&& (255 : Int32)) + (1 : Int32))), .val (.ref b1_0), .val (.ref b2), .unset]) rfl ?_
    show Steps p.tables e below (T3.setTop (mkF m 29 #[.val (.int p0), .val (.int p1), .val (.int ((p0 &&& (255 : Int32)) + (1 : Int32))), .val (.ref b1_0), .val (.ref b2), .unset] [])) _
    refine XS.aload X3.here hx rfl (hb hby at_29) rfl rfl ?_
    show Steps p.tables e below (T3.setTop (mkF m 31 #[.val (.int p0), .val (.int p1), .val (.int ((p0 &&& (255 : Int32)) + (1 : Int32))), .val (.ref b1_0), .val (.ref b2), .unset] [(.ref b2)])) _
    refine st12.trans ?_
    show Steps p.tables e below (T12.setTop (mkF m 34 #[.val (.int p0), .val (.int p1), .val (.int ((p0 &&& (255 : Int32)) + (1 : Int32))), .val (.ref b1_0), .val (.ref b2), .unset] [(.ref b12_0)])) _
    refine XS.astore X12.here hx rfl (hb hby at_34) rfl rfl (l' := #[.val (.int p0), .val (.int p1), .val (.int ((p0 &&& (255 : Int32)) + (1 : Int32))), .val (.ref b1_0), .val (.ref b2), .val (.ref b12_0)]) rfl ?_
    show Steps p.tables e below (T12.setTop (mkF m 36 #[.val (.int p0), .val (.int p1), .val (.int ((p0 &&& (255 : Int32)) + (1 : Int32))), .val (.ref b1_0), .val (.ref b2), .val (.ref b12_0)] [])) _
    refine XS.aload X12.here hx rfl (hb hby at_36) rfl rfl ?_
    show Steps p.tables e below (T12.setTop (mkF m 38 #[.val (.int p0), .val (.int p1), .val (.int ((p0 &&& (255 : Int32)) + (1 : Int32))), .val (.ref b1_0), .val (.ref b2), .val (.ref b12_0)] [(.ref b12_0)])) _
    refine XS.ifnullNo X12.here hx rfl (hb hby at_38) rfl ?_
    show Steps p.tables e below (T12.setTop (mkF m 41 #[.val (.int p0), .val (.int p1), .val (.int ((p0 &&& (255 : Int32)) + (1 : Int32))), .val (.ref b1_0), .val (.ref b2), .val (.ref b12_0)] [])) _
    refine XS.aload X12.here hx rfl (hb hby at_41) rfl rfl ?_
    show Steps p.tables e below (T12.setTop (mkF m 43 #[.val (.int p0), .val (.int p1), .val (.int ((p0 &&& (255 : Int32)) + (1 : Int32))), .val (.ref b1_0), .val (.ref b2), .val (.ref b12_0)] [(.ref b12_0)])) _
    refine X12.arraylength hx Ar13.1 (State.isArrayOf_alike hZ3.alike Ar13.2.1) (g := (mkF m 43 #[.val (.int p0), .val (.int p1), .val (.int ((p0 &&& (255 : Int32)) + (1 : Int32))), .val (.ref b1_0), .val (.ref b2), .val (.ref b12_0)] [(.ref b12_0)])) rfl rfl (hb hby at_43) _ ?_
    rw [len_of Sz13 Ng13]
    show Steps p.tables e below (T12.setTop (mkF m 44 #[.val (.int p0), .val (.int p1), .val (.int ((p0 &&& (255 : Int32)) + (1 : Int32))), .val (.ref b1_0), .val (.ref b2), .val (.ref b12_0)] [(.int (1 : Int32))])) _
    refine XS.iconst X12.here hx rfl (hb hby at_44) ?_
    show Steps p.tables e below (T12.setTop (mkF m 45 #[.val (.int p0), .val (.int p1), .val (.int ((p0 &&& (255 : Int32)) + (1 : Int32))), .val (.ref b1_0), .val (.ref b2), .val (.ref b12_0)] [(.int (1 : Int32)), (.int (1 : Int32))])) _
    refine XS.icmpYes X12.here hx rfl (pc0 := 45) (pc' := 50) rfl (hb hby at_45) rfl (teq (by decide : (1 : Int32) = (1 : Int32))).1 (by decide) (by decide) ?_
    show Steps p.tables e below (T12.setTop (mkF m 50 #[.val (.int p0), .val (.int p1), .val (.int ((p0 &&& (255 : Int32)) + (1 : Int32))), .val (.ref b1_0), .val (.ref b2), .val (.ref b12_0)] [])) _
    refine XS.aload X12.here hx rfl (hb hby at_50) rfl rfl ?_
    show Steps p.tables e below (T12.setTop (mkF m 52 #[.val (.int p0), .val (.int p1), .val (.int ((p0 &&& (255 : Int32)) + (1 : Int32))), .val (.ref b1_0), .val (.ref b2), .val (.ref b12_0)] [(.ref b12_0)])) _
    refine XS.iconst X12.here hx rfl (hb hby at_52) ?_
    show Steps p.tables e below (T12.setTop (mkF m 53 #[.val (.int p0), .val (.int p1), .val (.int ((p0 &&& (255 : Int32)) + (1 : Int32))), .val (.ref b1_0), .val (.ref b2), .val (.ref b12_0)] [(.int (0 : Int32)), (.ref b12_0)])) _
    refine X12.baloadBytes hx (j := (0 : Int32)) (v := (.int (wm.toInt8.toInt32))) Ar13.1 (State.isArrayOf_alike hZ3.alike Ar13.2.1) Ar13.2.2 hin14 hat15 (g := (mkF m 53 #[.val (.int p0), .val (.int p1), .val (.int ((p0 &&& (255 : Int32)) + (1 : Int32))), .val (.ref b1_0), .val (.ref b2), .val (.ref b12_0)] [(.int (0 : Int32)), (.ref b12_0)])) rfl rfl (hb hby at_53) _ ?_
    show Steps p.tables e below (T12.setTop (mkF m 54 #[.val (.int p0), .val (.int p1), .val (.int ((p0 &&& (255 : Int32)) + (1 : Int32))), .val (.ref b1_0), .val (.ref b2), .val (.ref b12_0)] [(.int (wm.toInt8.toInt32))])) _
    refine XS.sipush X12.here hx rfl (hb hby at_54) ?_
    show Steps p.tables e below (T12.setTop (mkF m 57 #[.val (.int p0), .val (.int p1), .val (.int ((p0 &&& (255 : Int32)) + (1 : Int32))), .val (.ref b1_0), .val (.ref b2), .val (.ref b12_0)] [(.int (255 : Int32)), (.int (wm.toInt8.toInt32))])) _
    refine XS.iand X12.here hx rfl (hb hby at_57) rfl ?_
    show Steps p.tables e below (T12.setTop (mkF m 58 #[.val (.int p0), .val (.int p1), .val (.int ((p0 &&& (255 : Int32)) + (1 : Int32))), .val (.ref b1_0), .val (.ref b2), .val (.ref b12_0)] [(.int ((wm.toInt8.toInt32) &&& (255 : Int32)))])) _
    refine XS.iloadN X12.here hx rfl (hb hby at_58) rfl ?_
    show Steps p.tables e below (T12.setTop (mkF m 59 #[.val (.int p0), .val (.int p1), .val (.int ((p0 &&& (255 : Int32)) + (1 : Int32))), .val (.ref b1_0), .val (.ref b2), .val (.ref b12_0)] [(.int ((p0 &&& (255 : Int32)) + (1 : Int32))), (.int ((wm.toInt8.toInt32) &&& (255 : Int32)))])) _
    refine st16 _ ?_
    show Steps p.tables e below (T16.setTop (mkF m 62 #[.val (.int p0), .val (.int p1), .val (.int ((p0 &&& (255 : Int32)) + (1 : Int32))), .val (.ref b1_0), .val (.ref b2), .val (.ref b12_0)] [(.int wx), (.int ((wm.toInt8.toInt32) &&& (255 : Int32)))])) _
    refine XS.icmpNo X16.here hx rfl (hb hby at_62) rfl (teq hc14).2 ?_
    show Steps p.tables e below (T16.setTop (mkF m 65 #[.val (.int p0), .val (.int p1), .val (.int ((p0 &&& (255 : Int32)) + (1 : Int32))), .val (.ref b1_0), .val (.ref b2), .val (.ref b12_0)] [])) _
    refine XS.iconst X16.here hx rfl (hb hby at_65) ?_
    show Steps p.tables e below (T16.setTop (mkF m 66 #[.val (.int p0), .val (.int p1), .val (.int ((p0 &&& (255 : Int32)) + (1 : Int32))), .val (.ref b1_0), .val (.ref b2), .val (.ref b12_0)] [(.int (1 : Int32))])) _
    refine XS.goto X16.here hx rfl (pc0 := 66) (pc' := 70) rfl (hb hby at_66) (by decide) (by decide) ?_
    show Steps p.tables e below (T16.setTop (mkF m 70 #[.val (.int p0), .val (.int p1), .val (.int ((p0 &&& (255 : Int32)) + (1 : Int32))), .val (.ref b1_0), .val (.ref b2), .val (.ref b12_0)] [(.int (1 : Int32))])) _
    exact retN X16 hx (t := .boolean) Bd.returns (by simp) (hb hby at_70) hr
  · show Q0pB Z p0 p1 wm wx aU s_COMPACT_STRINGS h0 n0 _ T16.heap _
    rw [e16]
    exact ⟨rfl, N16⟩
theorem ef_rm0nA (m : MethodId) (p0 : Int32) (p1 : Int32) : entryFrame m #[(.int p0), (.int p1)] maxLocals = mkF m 0 #[.val (.int p0), .val (.int p1), .unset, .unset, .unset, .unset] [] := by first | (simp [entryFrame, mkF, argsToLocals, Value.category, maxLocals]; done) | rfl
def Q0nA (Z : State) (p0 : Int32) (p1 : Int32) (wm : Int32) (aU : Addr) (s_COMPACT_STRINGS : Int32) (h0 : Heap) (n0 : Nat) (v : Option Value) (h : Heap) (L : List Loc) : Prop := v = some (.int (1 : Int32)) ∧ Fr n0 L
set_option maxRecDepth 65536 in
set_option maxHeartbeats 40000000 in
theorem rm0nA (l : Launch) (Z : State) (az : Array Value) (hw : ∀ d ∈ tables_1, d.before az Z = true) (ws : List Jvm.Cond) (p0 : Int32) (p1 : Int32) (wm : Int32) (aU : Addr) (s_COMPACT_STRINGS : Int32) (h0 : Heap) (n0 : Nat) (Z0 : n0 ≤ h0.size) (S_INSTANCE : Sta Z h0 "sun/nio/cs/UTF_8" "INSTANCE" "Lsun/nio/cs/UTF_8;" (.ref aU)) (S_UTF_8 : Sta Z h0 "java/nio/charset/StandardCharsets" "UTF_8" "Ljava/nio/charset/Charset;" (.ref aU)) (S_COMPACT_STRINGS : Sta Z h0 "java/lang/String" "COMPACT_STRINGS" "Z" (.int s_COMPACT_STRINGS)) (hc3 : ¬ (s_COMPACT_STRINGS = (0 : Int32))) (hc4 : ¬ ((255 : Int32) < ((p1 &&& (255 : Int32)).toUInt32.toUInt16.toUInt32.toInt32))) (hc5 : (((p1 &&& (255 : Int32)).toUInt32.toUInt16.toUInt32.toInt32).toInt8.toInt32) < (0 : Int32)) (hc6 : ¬ (((p0 &&& (255 : Int32)) + (1 : Int32)) < (1 : Int32))) (hc7 : ¬ ((256 : Int32) < ((p0 &&& (255 : Int32)) + (1 : Int32)))) (hc8 : (own_bc ((p0 &&& (255 : Int32)) + (1 : Int32))) = (1 : Int32)) (hc9 : ¬ ((((p0 &&& (255 : Int32)) + (1 : Int32)) - (1 : Int32)) < (0 : Int32))) (hc10 : (((((p0 &&& (255 : Int32)) + (1 : Int32)) - (1 : Int32)) < ((((-2147483648 : Int32) &&& (((p0 &&& (255 : Int32)) + (1 : Int32)) - (1 : Int32))).toInt8.toInt32) &&& (255 : Int32))) ∧ wm = ((((-2147483648 : Int32) &&& (((p0 &&& (255 : Int32)) + (1 : Int32)) - (1 : Int32))).toInt8.toInt32) &&& (255 : Int32))) ∨ ((¬ ((((p0 &&& (255 : Int32)) + (1 : Int32)) - (1 : Int32)) < ((((-2147483648 : Int32) &&& (((p0 &&& (255 : Int32)) + (1 : Int32)) - (1 : Int32))).toInt8.toInt32) &&& (255 : Int32)))) ∧ wm = (((p0 &&& (255 : Int32)) + (1 : Int32)) - (1 : Int32)))) (hc11 : (((p0 &&& (255 : Int32)) + (1 : Int32)).toInt64) ≠ (0 : Int64)) (hc12 : (lcmpW ((2147483648 : Int64) % (((p0 &&& (255 : Int32)) + (1 : Int32)).toInt64)) (0 : Int64)) = (0 : Int32)) (hc13 : ((wm.toInt8.toInt32) &&& (255 : Int32)) = (((p0 &&& (255 : Int32)) + (1 : Int32)) - (1 : Int32))) :
    MetFree l x (head1 (Jvm.Cond.code x code maxLocals ret :: ws) room_1) (fun a U => a = #[(.int p0), (.int p1)] ∧ Z.Warmed39 U.vm ∧ U.heap = h0) (fun _ _ _ _ _ => True) (fun _ U o U' => ∃ v L, o = .returned v ∧ Q0nA Z p0 p1 wm aU s_COMPACT_STRINGS h0 n0 v U'.heap L ∧ ReturnedEndW U o U' L room_1.cells room_1.slots) := by
  refine MetFree.of_bodySF (plainFor_of_name pn_com_example_fireweed_fireweed_layout_Java31ByteSaltHighestPinLaw) hisR ?_
  intro p e s m args below meth c s₁ Bd hml0 hP hK
  obtain ⟨rfl, hZ, hh⟩ := hP
  have hx := Bd.exec
  have hby := Bd.bytes
  have hml : c.maxLocals = 6 := hml0
  have hown : s.vm.findClass "com/example/fireweed/fireweed/layout/Java31ByteSaltHighestPinLaw" = some m.cls := findClass_of_methodNamed Bd.named
  have hnm := (name_of_methodNamed Bd.named Bd.method).1
  have X0 : Stand p l e room_1 s m #[(.int p0), (.int p1)] below meth c s₁ [] 0 0 := Stand.of_body Bd
  have e0 : s₁.heap = h0 := by rw [← hh, Bd.state]; rfl
  have N0 := Fr.nil n0
  have pre0 : ∀ t, Steps p.tables e below (s₁.setTop (mkF m 0 #[.val (.int p0), .val (.int p1), .unset, .unset, .unset, .unset] [])) t → Steps p.tables e below (s₁.setTop (entryFrame m #[(.int p0), (.int p1)] maxLocals)) t := fun t k => castTop (ef_rm0nA m p0 p1) k
  have hS0 : s.Since s.vm 0 := (State.WarmedH.refl s).since 0
  have wS : ∀ a ∈ Bundle.stringAtoms, a.before az Z = true := fun d hd => by
    simp only [Bundle.stringAtoms, List.mem_cons, List.not_mem_nil, or_false] at hd
    rcases hd with rfl | rfl | rfl | rfl | rfl | rfl | rfl
    · exact (hw _ (List.mem_of_getElem? (i := 2) rfl))
    · exact (hw _ (List.mem_of_getElem? (i := 10) rfl))
    · exact (hw _ (List.mem_of_getElem? (i := 14) rfl))
    · exact (hw _ (List.mem_of_getElem? (i := 23) rfl))
    · exact (hw _ (List.mem_of_getElem? (i := 25) rfl))
    · exact (hw _ (List.mem_of_getElem? (i := 44) rfl))
    · exact (hw _ (List.mem_of_getElem? (i := 45) rfl))
  obtain ⟨_, _, ⟨T1, L1, k1', n1'⟩, -, X1, ⟨Lc1, hQ1, l1, y1, z1⟩, st1⟩ := Jvm.LawKit.callS X0 hx (y := (⟨"java/lang/String", "valueOf", "(C)Ljava/lang/String;"⟩ : MethodName)) hown (mvT hZ (hw _ (List.mem_of_getElem? (i := 0) rfl))) (mvT hZ (hw _ (List.mem_of_getElem? (i := 1) rfl))) (mvT hZ (hw _ (List.mem_of_getElem? (i := 2) rfl))) (mvT hZ (hw _ (List.mem_of_getElem? (i := 3) rfl))) (by decide) (backOf (W := 0) (rm1 l Z az hw [] ((p1 &&& (255 : Int32)).toUInt32.toUInt16.toUInt32.toInt32) s_COMPACT_STRINGS h0 n0 Z0 S_COMPACT_STRINGS hc3 hc4) hZ (hw _ (List.mem_of_getElem? (i := 3) rfl)) (hw _ (List.mem_of_getElem? (i := 2) rfl)) (by decide) (by decide)) (g := (mkF m 14 #[.val (.int p0), .val (.int p1), .val (.int ((p0 &&& (255 : Int32)) + (1 : Int32))), .unset, .unset, .unset] [(.int ((p1 &&& (255 : Int32)).toUInt32.toUInt16.toUInt32.toInt32))])) rfl (by rw [hml]; rfl) (argsL := [(.int ((p1 &&& (255 : Int32)).toUInt32.toUInt16.toUInt32.toInt32))]) (rest := []) (lenOf pd_16 rfl) rfl (by show 2 * 0 + _ ≤ _; exact Nat.le_of_eq rfl) (hb hby at_14) (fun _ _ => ⟨rfl, e0, (by decide : 0 + 2 ≤ _), (by decide : 0 + 5 ≤ _)⟩)
  dsimp only [Pt.U, Pt.locs, Pt.cells, Pt.slots] at X1 l1 y1 z1 st1 hQ1
  subst l1 y1 z1
  obtain ⟨b1_0, b1_1, kk1_0, rfl, N1q, s1_0, lt_b1_0_b1_1, kq1, pf1_0, pf1_1, pf1_2, pf1_3, pf1_4⟩ := hQ1
  have N1 := Fr.app N0 N1q
  have g_b1_0 : n0 ≤ b1_0 := Nat.le_trans Z0 s1_0
  have sz_b1_0 : h0.size ≤ b1_0 := Nat.le_trans (Nat.le_refl _) s1_0
  have g_b1_1 : n0 ≤ b1_1 := Nat.le_trans Z0 (Nat.le_trans s1_0 (Nat.le_of_lt lt_b1_0_b1_1))
  have sz_b1_1 : h0.size ≤ b1_1 := Nat.le_trans (Nat.le_refl _) (Nat.le_trans s1_0 (Nat.le_of_lt lt_b1_0_b1_1))
  have K1 : Keep h0 T1.heap [] := (Keep.refl h0 []).trans kq1 all0
  have Z1 : n0 ≤ T1.heap.size := Nat.le_trans Z0 kq1.1
  obtain ⟨T2, h2, X2, e2, E2, A2, D2, -, st2⟩ := newO X1 hx hZ hown (hw _ (List.mem_of_getElem? (i := 26) rfl)) (hw _ (List.mem_of_getElem? (i := 27) rfl)) (hw _ (List.mem_of_getElem? (i := 28) rfl)) rfl (g := (mkF m 18 #[.val (.int p0), .val (.int p1), .val (.int ((p0 &&& (255 : Int32)) + (1 : Int32))), .val (.ref b1_0), .unset, .unset] [])) rfl (hb hby at_18) (by decide) (by decide)
  obtain ⟨b2, g2⟩ : ∃ z, z = T1.heap.size := ⟨_, rfl⟩
  rw [← g2] at A2 D2 st2
  have g_b2 : n0 ≤ b2 := Nat.le_trans Z1 (Nat.le_of_eq g2.symm)
  have sz_b2 : h0.size ≤ b2 := Nat.le_trans K1.1 (Nat.le_of_eq g2.symm)
  have Z2 : n0 ≤ h2.size := Nat.le_trans Z1 E2.1
  have K2 : Keep h0 h2 [] := K1.ext E2
  have E_b2 := A2
  have F_suffix_b2 : Fld Z h2 b2 "com/example/fireweed/fireweed/layout/Salt" "suffix" "Ljava/lang/String;" .null := D2 (Or.inr (hw _ (List.mem_of_getElem? (i := 52) rfl))) (ty := (.object "java/lang/String")) (by decide)
  have F_suffixBytes_b2 : Fld Z h2 b2 "com/example/fireweed/fireweed/layout/Salt" "suffixBytes" "[B" .null := D2 (Or.inr (hw _ (List.mem_of_getElem? (i := 90) rfl))) (ty := (.array .byte)) (by decide)
  have F_buckets_b2 : Fld Z h2 b2 "com/example/fireweed/fireweed/layout/Java31ByteSalt" "buckets" "I" (.int (0 : Int32)) := D2 (Or.inr (hw _ (List.mem_of_getElem? (i := 92) rfl))) (ty := .int) (by decide)
  have F_mask_b2 : Fld Z h2 b2 "com/example/fireweed/fireweed/layout/Java31ByteSalt" "mask" "I" (.int (0 : Int32)) := D2 (Or.inr (hw _ (List.mem_of_getElem? (i := 101) rfl))) (ty := .int) (by decide)
  have F_overflow_b2 : Fld Z h2 b2 "com/example/fireweed/fireweed/layout/Java31ByteSalt" "overflow" "I" (.int (0 : Int32)) := D2 (Or.inr (hw _ (List.mem_of_getElem? (i := 116) rfl))) (ty := .int) (by decide)
  have E_b1_0_u4 : Exa Z h2 b1_0 "java/lang/String" := (pf1_0.ext E2)
  have F_b1_0_coder_u5 : Fld Z h2 b1_0 "java/lang/String" "coder" "B" (.int (0 : Int32)) := (pf1_2.ext E2)
  have F_b1_0_value_u6 : Fld Z h2 b1_0 "java/lang/String" "value" "[B" (.ref b1_1) := (pf1_1.ext E2)
  have V_b1_1_u7 : Arv Z h2 b1_1 kk1_0 .byte (1 : Int32) [(.int (((p1 &&& (255 : Int32)).toUInt32.toUInt16.toUInt32.toInt32).toInt8.toInt32))] (.int (0 : Int32)) := (pf1_4.ext E2)
  have E_b1_1_u8 : Exa Z h2 b1_1 "[B" := (pf1_3.ext E2)
  have S_UTF_8_INSTANCE_u9 : Sta Z h2 "sun/nio/cs/UTF_8" "INSTANCE" "Lsun/nio/cs/UTF_8;" (.ref aU) := ((own_Sta S_INSTANCE kq1 (fun _ m => nomatch m)).ext E2)
  have S_StandardCharsets_UTF_8_u10 : Sta Z h2 "java/nio/charset/StandardCharsets" "UTF_8" "Ljava/nio/charset/Charset;" (.ref aU) := ((own_Sta S_UTF_8 kq1 (fun _ m => nomatch m)).ext E2)
  have S_String_COMPACT_STRINGS_u11 : Sta Z h2 "java/lang/String" "COMPACT_STRINGS" "Z" (.int s_COMPACT_STRINGS) := ((own_Sta S_COMPACT_STRINGS kq1 (fun _ m => nomatch m)).ext E2)
  have ne_b1_0_b2 : b1_0 ≠ b2 := own_ne (Nat.lt_of_lt_of_le pf1_0.lt (Nat.le_of_eq g2.symm))
  have ne_b1_1_b2 : b1_1 ≠ b2 := own_ne (Nat.lt_of_lt_of_le pf1_3.lt (Nat.le_of_eq g2.symm))
  obtain ⟨_, _, ⟨T3, L3, k3', n3'⟩, -, Y3, yS3, yg3, ⟨Lc3, hQ3, l3, y3, z3⟩, st3⟩ := X2.specialBackS hx (y := (⟨"com/example/fireweed/fireweed/layout/Java31ByteSalt", "<init>", "(ILjava/lang/String;)V"⟩ : MethodName)) rfl hown (mvT hZ (hw _ (List.mem_of_getElem? (i := 29) rfl))) (mvT hZ (hw _ (List.mem_of_getElem? (i := 30) rfl))) (mvT hZ (hw _ (List.mem_of_getElem? (i := 31) rfl))) (by decide) (backOfS (W := 1) (rm6nA l Z az hw [] b2 ((p0 &&& (255 : Int32)) + (1 : Int32)) b1_0 b1_1 kk1_0 (((p1 &&& (255 : Int32)).toUInt32.toUInt16.toUInt32.toInt32).toInt8.toInt32) aU s_COMPACT_STRINGS h2 n0 Z2 E_b2 F_suffix_b2 F_suffixBytes_b2 F_buckets_b2 F_mask_b2 F_overflow_b2 E_b1_0_u4 F_b1_0_coder_u5 F_b1_0_value_u6 V_b1_1_u7 E_b1_1_u8 S_UTF_8_INSTANCE_u9 S_StandardCharsets_UTF_8_u10 hc5 S_String_COMPACT_STRINGS_u11 g_b2 ne_b1_0_b2 ne_b1_1_b2 hc3 hc6 hc7 hc8 hc9) hZ (hw _ (List.mem_of_getElem? (i := 31) rfl)) (hw _ (List.mem_of_getElem? (i := 28) rfl)) (by decide) (by decide)) (g := (mkF m 24 #[.val (.int p0), .val (.int p1), .val (.int ((p0 &&& (255 : Int32)) + (1 : Int32))), .val (.ref b1_0), .unset, .unset] [(.ref b1_0), (.int ((p0 &&& (255 : Int32)) + (1 : Int32))), (.ref b2), (.ref b2)])) rfl (by rw [hml]; rfl) (Steps.refl _) (a := b2) (argsL := [(.int ((p0 &&& (255 : Int32)) + (1 : Int32))), (.ref b1_0)]) (rest := [(.ref b2)]) (lenOf pd_17 rfl) rfl (by show 2 * 0 + _ ≤ _; exact Nat.le_of_eq rfl) (hb hby at_24) (fun _ _ => ⟨rfl, e2, (by decide : 3 + 3 ≤ _), (by decide : 10 + 30 ≤ _)⟩)
  dsimp only [Pt.U, Pt.locs, Pt.cells, Pt.slots] at Y3 yS3 yg3 l3 y3 z3 st3 hQ3
  subst l3 y3 z3
  obtain ⟨X3, hS3, hZ3, hown3⟩ := rebS (s := s) (vm0 := s.vm) hS0 (by rw [e2]; exact (Nat.le_trans (Nat.le_trans (Nat.zero_le _) kq1.1) E2.1)) Y3 yS3 yg3 hZ hown
  obtain ⟨b3_0, kk3_0, rfl, N3q, s3_0, kq3, pf3_0, pf3_1, pf3_2, pf3_3, pf3_4, pf3_5, pf3_6, pf3_7⟩ := hQ3
  have N3 := Fr.app N1 N3q
  have g_b3_0 : n0 ≤ b3_0 := Nat.le_trans Z2 s3_0
  have sz_b3_0 : h0.size ≤ b3_0 := Nat.le_trans K2.1 s3_0
  have K3 : Keep h0 T3.heap [] := K2.trans kq3 (allS (Or.inr sz_b2) all0)
  have Z3 : n0 ≤ T3.heap.size := Nat.le_trans Z2 kq3.1
  obtain ⟨cq12, kq12, q12a, q12b, q12c⟩ := isOf hZ3 rfl pf3_0
  obtain ⟨_, _, ⟨T12, L12, k12', n12'⟩, -, X12, ⟨Lc12, hQ12, l12, y12, z12⟩, st12⟩ := X3.virtualBack hx (y := (⟨"com/example/fireweed/fireweed/layout/Java31ByteSalt", "highest", "()[B"⟩ : MethodName)) (z := (⟨"com/example/fireweed/fireweed/layout/Java31ByteSalt", "highest", "()[B"⟩ : MethodName)) hown3 (mvT hZ3 (hw _ (List.mem_of_getElem? (i := 117) rfl))) (mvT hZ3 (hw _ (List.mem_of_getElem? (i := 118) rfl))) (notFace_of_selects (args := #[]) (mvT hZ3 (hw _ (List.mem_of_getElem? (i := 120) rfl)))) (mvT hZ3 (hw _ (List.mem_of_getElem? (i := 120) rfl))) (mvT hZ3 (hw _ (List.mem_of_getElem? (i := 119) rfl))) (by decide) (backOf (W := 0) (rm20 l Z az hw [] b2 wm ((p0 &&& (255 : Int32)) + (1 : Int32)) ((((-2147483648 : Int32) &&& (((p0 &&& (255 : Int32)) + (1 : Int32)) - (1 : Int32))).toInt8.toInt32) &&& (255 : Int32)) T3.heap n0 Z3 pf3_3 pf3_5 hc10) hZ3 (hw _ (List.mem_of_getElem? (i := 121) rfl)) (hw _ (List.mem_of_getElem? (i := 28) rfl)) (by decide) (by decide)) q12a q12c (g := (mkF m 31 #[.val (.int p0), .val (.int p1), .val (.int ((p0 &&& (255 : Int32)) + (1 : Int32))), .val (.ref b1_0), .val (.ref b2), .unset] [(.ref b2)])) rfl (by rw [hml]; rfl) (Steps.refl _) (argsL := []) (rest := []) (lenOf pd_18 rfl) rfl (by show 2 * 0 + _ ≤ _; exact Nat.le_of_eq rfl) (hb hby at_31) (fun _ _ => ⟨rfl, rfl, (by decide : 6 + 1 ≤ _), (by decide : 40 + 1 ≤ _)⟩)
  dsimp only [Pt.U, Pt.locs, Pt.cells, Pt.slots] at X12 l12 y12 z12 st12 hQ12
  subst l12 y12 z12
  obtain ⟨b12_0, kk12_0, rfl, N12q, s12_0, kq12, pf12_0, pf12_1⟩ := hQ12
  have N12 := Fr.app N3 N12q
  have g_b12_0 : n0 ≤ b12_0 := Nat.le_trans Z3 s12_0
  have sz_b12_0 : h0.size ≤ b12_0 := Nat.le_trans K3.1 s12_0
  have K12 : Keep h0 T12.heap [] := K3.trans kq12 all0
  have Z12 : n0 ≤ T12.heap.size := Nat.le_trans Z3 kq12.1
  obtain ⟨cl13, Ar13, qk13, Sz13, Ng13, Hs13, Gf13⟩ := id pf12_1
  have hin14 : ¬ ((0 : Int32) < 0 ∨ cl13.slots.size ≤ ((0 : Int32)).toNatClampNeg) := inb_of Sz13 ⟨by decide, by decide⟩
  have hat15 : cl13.slots[((0 : Int32)).toNatClampNeg]? = some (.int (wm.toInt8.toInt32)) := Hs13.at hin14 rfl
  obtain ⟨_, _, ⟨T16, L16, k16', n16'⟩, -, X16, ⟨Lc16, hQ16, l16, y16, z16⟩, st16⟩ := Jvm.LawKit.callS X12 hx (y := (⟨"com/example/fireweed/fireweed/layout/Java31ByteSaltHighestPinLaw", "expected", "(I)I"⟩ : MethodName)) hown3 (mvT hZ3 (hw _ (List.mem_of_getElem? (i := 125) rfl))) (mvT hZ3 (hw _ (List.mem_of_getElem? (i := 126) rfl))) (mvT hZ3 (hw _ (List.mem_of_getElem? (i := 127) rfl))) (mvT hZ3 (hw _ (List.mem_of_getElem? (i := 128) rfl))) (by decide) (backOf (W := 1) (rm22z l Z az hw [] ((p0 &&& (255 : Int32)) + (1 : Int32)) T12.heap n0 Z12 hc11 hc12) hZ3 (hw _ (List.mem_of_getElem? (i := 128) rfl)) (hw _ (List.mem_of_getElem? (i := 127) rfl)) (by decide) (by decide)) (g := (mkF m 59 #[.val (.int p0), .val (.int p1), .val (.int ((p0 &&& (255 : Int32)) + (1 : Int32))), .val (.ref b1_0), .val (.ref b2), .val (.ref b12_0)] [(.int ((p0 &&& (255 : Int32)) + (1 : Int32))), (.int ((wm.toInt8.toInt32) &&& (255 : Int32)))])) rfl (by rw [hml]; rfl) (argsL := [(.int ((p0 &&& (255 : Int32)) + (1 : Int32)))]) (rest := [(.int ((wm.toInt8.toInt32) &&& (255 : Int32)))]) (lenOf pd_8 rfl) rfl (by show 2 * 0 + _ ≤ _; exact Nat.le_of_eq rfl) (hb hby at_59) (fun _ _ => ⟨rfl, rfl, (by decide : 7 + 0 ≤ _), (by decide : 41 + 0 ≤ _)⟩)
  dsimp only [Pt.U, Pt.locs, Pt.cells, Pt.slots] at X16 l16 y16 z16 st16 hQ16
  subst l16 y16 z16
  obtain ⟨rfl, N16q, e16⟩ := hQ16
  have N16 := Fr.app N12 N16q
  obtain ⟨fs, hr, hrun, hended, hWE⟩ := X16.leaveW (s := s) hS3 (by rw [e16]; exact (Nat.le_trans (Nat.le_refl _) kq12.1)) (v := some (.int (1 : Int32))) (fun h => by rw [Bd.returns] at h; cases h)
  refine ⟨_, _, pre0 _ ?_, hrun, hended, _, _, rfl, ?_, hWE.1, hWE.2.1, hWE.2.2.1, hWE.2.2.2.mono (by decide) (by decide)⟩
  · show Steps p.tables e below (s₁.setTop (mkF m 0 #[.val (.int p0), .val (.int p1), .unset, .unset, .unset, .unset] [])) _
    refine XS.iloadN X0.here hx rfl (hb hby at_0) rfl ?_
    show Steps p.tables e below (s₁.setTop (mkF m 1 #[.val (.int p0), .val (.int p1), .unset, .unset, .unset, .unset] [(.int p0)])) _
    refine XS.sipush X0.here hx rfl (hb hby at_1) ?_
    show Steps p.tables e below (s₁.setTop (mkF m 4 #[.val (.int p0), .val (.int p1), .unset, .unset, .unset, .unset] [(.int (255 : Int32)), (.int p0)])) _
    refine XS.iand X0.here hx rfl (hb hby at_4) rfl ?_
    show Steps p.tables e below (s₁.setTop (mkF m 5 #[.val (.int p0), .val (.int p1), .unset, .unset, .unset, .unset] [(.int (p0 &&& (255 : Int32)))])) _
    refine XS.iconst X0.here hx rfl (hb hby at_5) ?_
    show Steps p.tables e below (s₁.setTop (mkF m 6 #[.val (.int p0), .val (.int p1), .unset, .unset, .unset, .unset] [(.int (1 : Int32)), (.int (p0 &&& (255 : Int32)))])) _
    refine XS.iadd X0.here hx rfl (hb hby at_6) rfl ?_
    show Steps p.tables e below (s₁.setTop (mkF m 7 #[.val (.int p0), .val (.int p1), .unset, .unset, .unset, .unset] [(.int ((p0 &&& (255 : Int32)) + (1 : Int32)))])) _
    refine XS.istoreN X0.here hx rfl (hb hby at_7) rfl (l' := #[.val (.int p0), .val (.int p1), .val (.int ((p0 &&& (255 : Int32)) + (1 : Int32))), .unset, .unset, .unset]) rfl ?_
    show Steps p.tables e below (s₁.setTop (mkF m 8 #[.val (.int p0), .val (.int p1), .val (.int ((p0 &&& (255 : Int32)) + (1 : Int32))), .unset, .unset, .unset] [])) _
    refine XS.iloadN X0.here hx rfl (hb hby at_8) rfl ?_
    show Steps p.tables e below (s₁.setTop (mkF m 9 #[.val (.int p0), .val (.int p1), .val (.int ((p0 &&& (255 : Int32)) + (1 : Int32))), .unset, .unset, .unset] [(.int p1)])) _
    refine XS.sipush X0.here hx rfl (hb hby at_9) ?_
    show Steps p.tables e below (s₁.setTop (mkF m 12 #[.val (.int p0), .val (.int p1), .val (.int ((p0 &&& (255 : Int32)) + (1 : Int32))), .unset, .unset, .unset] [(.int (255 : Int32)), (.int p1)])) _
    refine XS.iand X0.here hx rfl (hb hby at_12) rfl ?_
    show Steps p.tables e below (s₁.setTop (mkF m 13 #[.val (.int p0), .val (.int p1), .val (.int ((p0 &&& (255 : Int32)) + (1 : Int32))), .unset, .unset, .unset] [(.int (p1 &&& (255 : Int32)))])) _
    refine XS.i2c X0.here hx rfl (hb hby at_13) rfl ?_
    show Steps p.tables e below (s₁.setTop (mkF m 14 #[.val (.int p0), .val (.int p1), .val (.int ((p0 &&& (255 : Int32)) + (1 : Int32))), .unset, .unset, .unset] [(.int ((p1 &&& (255 : Int32)).toUInt32.toUInt16.toUInt32.toInt32))])) _
    refine st1 _ ?_
    show Steps p.tables e below (T1.setTop (mkF m 17 #[.val (.int p0), .val (.int p1), .val (.int ((p0 &&& (255 : Int32)) + (1 : Int32))), .unset, .unset, .unset] [(.ref b1_0)])) _
    refine XS.astoreN X1.here hx rfl (hb hby at_17) rfl rfl (l' := #[.val (.int p0), .val (.int p1), .val (.int ((p0 &&& (255 : Int32)) + (1 : Int32))), .val (.ref b1_0), .unset, .unset]) rfl ?_
    show Steps p.tables e below (T1.setTop (mkF m 18 #[.val (.int p0), .val (.int p1), .val (.int ((p0 &&& (255 : Int32)) + (1 : Int32))), .val (.ref b1_0), .unset, .unset] [])) _
    refine st2 _ ?_
    show Steps p.tables e below (T2.setTop (mkF m 21 #[.val (.int p0), .val (.int p1), .val (.int ((p0 &&& (255 : Int32)) + (1 : Int32))), .val (.ref b1_0), .unset, .unset] [(.ref b2)])) _
    refine XS.dup X2.here hx rfl (hb hby at_21) rfl rfl ?_
    show Steps p.tables e below (T2.setTop (mkF m 22 #[.val (.int p0), .val (.int p1), .val (.int ((p0 &&& (255 : Int32)) + (1 : Int32))), .val (.ref b1_0), .unset, .unset] [(.ref b2), (.ref b2)])) _
    refine XS.iloadN X2.here hx rfl (hb hby at_22) rfl ?_
    show Steps p.tables e below (T2.setTop (mkF m 23 #[.val (.int p0), .val (.int p1), .val (.int ((p0 &&& (255 : Int32)) + (1 : Int32))), .val (.ref b1_0), .unset, .unset] [(.int ((p0 &&& (255 : Int32)) + (1 : Int32))), (.ref b2), (.ref b2)])) _
    refine XS.aloadN X2.here hx rfl (hb hby at_23) rfl rfl ?_
    show Steps p.tables e below (T2.setTop (mkF m 24 #[.val (.int p0), .val (.int p1), .val (.int ((p0 &&& (255 : Int32)) + (1 : Int32))), .val (.ref b1_0), .unset, .unset] [(.ref b1_0), (.int ((p0 &&& (255 : Int32)) + (1 : Int32))), (.ref b2), (.ref b2)])) _
    refine st3.trans ?_
    show Steps p.tables e below (T3.setTop (mkF m 27 #[.val (.int p0), .val (.int p1), .val (.int ((p0 &&& (255 : Int32)) + (1 : Int32))), .val (.ref b1_0), .unset, .unset] [(.ref b2)])) _
    refine XS.astore X3.here hx rfl (hb hby at_27) rfl rfl (l' := #[.val (.int p0), .val (.int p1), .val (.int ((p0 &&& (255 : Int32)) + (1 : Int32))), .val (.ref b1_0), .val (.ref b2), .unset]) rfl ?_
    show Steps p.tables e below (T3.setTop (mkF m 29 #[.val (.int p0), .val (.int p1), .val (.int ((p0 &&& (255 : Int32)) + (1 : Int32))), .val (.ref b1_0), .val (.ref b2), .unset] [])) _
    refine XS.aload X3.here hx rfl (hb hby at_29) rfl rfl ?_
    show Steps p.tables e below (T3.setTop (mkF m 31 #[.val (.int p0), .val (.int p1), .val (.int ((p0 &&& (255 : Int32)) + (1 : Int32))), .val (.ref b1_0), .val (.ref b2), .unset] [(.ref b2)])) _
    refine st12.trans ?_
    show Steps p.tables e below (T12.setTop (mkF m 34 #[.val (.int p0), .val (.int p1), .val (.int ((p0 &&& (255 : Int32)) + (1 : Int32))), .val (.ref b1_0), .val (.ref b2), .unset] [(.ref b12_0)])) _
    refine XS.astore X12.here hx rfl (hb hby at_34) rfl rfl (l' := #[.val (.int p0), .val (.int p1), .val (.int ((p0 &&& (255 : Int32)) + (1 : Int32))), .val (.ref b1_0), .val (.ref b2), .val (.ref b12_0)]) rfl ?_
    show Steps p.tables e below (T12.setTop (mkF m 36 #[.val (.int p0), .val (.int p1), .val (.int ((p0 &&& (255 : Int32)) + (1 : Int32))), .val (.ref b1_0), .val (.ref b2), .val (.ref b12_0)] [])) _
    refine XS.aload X12.here hx rfl (hb hby at_36) rfl rfl ?_
    show Steps p.tables e below (T12.setTop (mkF m 38 #[.val (.int p0), .val (.int p1), .val (.int ((p0 &&& (255 : Int32)) + (1 : Int32))), .val (.ref b1_0), .val (.ref b2), .val (.ref b12_0)] [(.ref b12_0)])) _
    refine XS.ifnullNo X12.here hx rfl (hb hby at_38) rfl ?_
    show Steps p.tables e below (T12.setTop (mkF m 41 #[.val (.int p0), .val (.int p1), .val (.int ((p0 &&& (255 : Int32)) + (1 : Int32))), .val (.ref b1_0), .val (.ref b2), .val (.ref b12_0)] [])) _
    refine XS.aload X12.here hx rfl (hb hby at_41) rfl rfl ?_
    show Steps p.tables e below (T12.setTop (mkF m 43 #[.val (.int p0), .val (.int p1), .val (.int ((p0 &&& (255 : Int32)) + (1 : Int32))), .val (.ref b1_0), .val (.ref b2), .val (.ref b12_0)] [(.ref b12_0)])) _
    refine X12.arraylength hx Ar13.1 (State.isArrayOf_alike hZ3.alike Ar13.2.1) (g := (mkF m 43 #[.val (.int p0), .val (.int p1), .val (.int ((p0 &&& (255 : Int32)) + (1 : Int32))), .val (.ref b1_0), .val (.ref b2), .val (.ref b12_0)] [(.ref b12_0)])) rfl rfl (hb hby at_43) _ ?_
    rw [len_of Sz13 Ng13]
    show Steps p.tables e below (T12.setTop (mkF m 44 #[.val (.int p0), .val (.int p1), .val (.int ((p0 &&& (255 : Int32)) + (1 : Int32))), .val (.ref b1_0), .val (.ref b2), .val (.ref b12_0)] [(.int (1 : Int32))])) _
    refine XS.iconst X12.here hx rfl (hb hby at_44) ?_
    show Steps p.tables e below (T12.setTop (mkF m 45 #[.val (.int p0), .val (.int p1), .val (.int ((p0 &&& (255 : Int32)) + (1 : Int32))), .val (.ref b1_0), .val (.ref b2), .val (.ref b12_0)] [(.int (1 : Int32)), (.int (1 : Int32))])) _
    refine XS.icmpYes X12.here hx rfl (pc0 := 45) (pc' := 50) rfl (hb hby at_45) rfl (teq (by decide : (1 : Int32) = (1 : Int32))).1 (by decide) (by decide) ?_
    show Steps p.tables e below (T12.setTop (mkF m 50 #[.val (.int p0), .val (.int p1), .val (.int ((p0 &&& (255 : Int32)) + (1 : Int32))), .val (.ref b1_0), .val (.ref b2), .val (.ref b12_0)] [])) _
    refine XS.aload X12.here hx rfl (hb hby at_50) rfl rfl ?_
    show Steps p.tables e below (T12.setTop (mkF m 52 #[.val (.int p0), .val (.int p1), .val (.int ((p0 &&& (255 : Int32)) + (1 : Int32))), .val (.ref b1_0), .val (.ref b2), .val (.ref b12_0)] [(.ref b12_0)])) _
    refine XS.iconst X12.here hx rfl (hb hby at_52) ?_
    show Steps p.tables e below (T12.setTop (mkF m 53 #[.val (.int p0), .val (.int p1), .val (.int ((p0 &&& (255 : Int32)) + (1 : Int32))), .val (.ref b1_0), .val (.ref b2), .val (.ref b12_0)] [(.int (0 : Int32)), (.ref b12_0)])) _
    refine X12.baloadBytes hx (j := (0 : Int32)) (v := (.int (wm.toInt8.toInt32))) Ar13.1 (State.isArrayOf_alike hZ3.alike Ar13.2.1) Ar13.2.2 hin14 hat15 (g := (mkF m 53 #[.val (.int p0), .val (.int p1), .val (.int ((p0 &&& (255 : Int32)) + (1 : Int32))), .val (.ref b1_0), .val (.ref b2), .val (.ref b12_0)] [(.int (0 : Int32)), (.ref b12_0)])) rfl rfl (hb hby at_53) _ ?_
    show Steps p.tables e below (T12.setTop (mkF m 54 #[.val (.int p0), .val (.int p1), .val (.int ((p0 &&& (255 : Int32)) + (1 : Int32))), .val (.ref b1_0), .val (.ref b2), .val (.ref b12_0)] [(.int (wm.toInt8.toInt32))])) _
    refine XS.sipush X12.here hx rfl (hb hby at_54) ?_
    show Steps p.tables e below (T12.setTop (mkF m 57 #[.val (.int p0), .val (.int p1), .val (.int ((p0 &&& (255 : Int32)) + (1 : Int32))), .val (.ref b1_0), .val (.ref b2), .val (.ref b12_0)] [(.int (255 : Int32)), (.int (wm.toInt8.toInt32))])) _
    refine XS.iand X12.here hx rfl (hb hby at_57) rfl ?_
    show Steps p.tables e below (T12.setTop (mkF m 58 #[.val (.int p0), .val (.int p1), .val (.int ((p0 &&& (255 : Int32)) + (1 : Int32))), .val (.ref b1_0), .val (.ref b2), .val (.ref b12_0)] [(.int ((wm.toInt8.toInt32) &&& (255 : Int32)))])) _
    refine XS.iloadN X12.here hx rfl (hb hby at_58) rfl ?_
    show Steps p.tables e below (T12.setTop (mkF m 59 #[.val (.int p0), .val (.int p1), .val (.int ((p0 &&& (255 : Int32)) + (1 : Int32))), .val (.ref b1_0), .val (.ref b2), .val (.ref b12_0)] [(.int ((p0 &&& (255 : Int32)) + (1 : Int32))), (.int ((wm.toInt8.toInt32) &&& (255 : Int32)))])) _
    refine st16 _ ?_
    show Steps p.tables e below (T16.setTop (mkF m 62 #[.val (.int p0), .val (.int p1), .val (.int ((p0 &&& (255 : Int32)) + (1 : Int32))), .val (.ref b1_0), .val (.ref b2), .val (.ref b12_0)] [(.int (((p0 &&& (255 : Int32)) + (1 : Int32)) - (1 : Int32))), (.int ((wm.toInt8.toInt32) &&& (255 : Int32)))])) _
    refine XS.icmpNo X16.here hx rfl (hb hby at_62) rfl (teq hc13).2 ?_
    show Steps p.tables e below (T16.setTop (mkF m 65 #[.val (.int p0), .val (.int p1), .val (.int ((p0 &&& (255 : Int32)) + (1 : Int32))), .val (.ref b1_0), .val (.ref b2), .val (.ref b12_0)] [])) _
    refine XS.iconst X16.here hx rfl (hb hby at_65) ?_
    show Steps p.tables e below (T16.setTop (mkF m 66 #[.val (.int p0), .val (.int p1), .val (.int ((p0 &&& (255 : Int32)) + (1 : Int32))), .val (.ref b1_0), .val (.ref b2), .val (.ref b12_0)] [(.int (1 : Int32))])) _
    refine XS.goto X16.here hx rfl (pc0 := 66) (pc' := 70) rfl (hb hby at_66) (by decide) (by decide) ?_
    show Steps p.tables e below (T16.setTop (mkF m 70 #[.val (.int p0), .val (.int p1), .val (.int ((p0 &&& (255 : Int32)) + (1 : Int32))), .val (.ref b1_0), .val (.ref b2), .val (.ref b12_0)] [(.int (1 : Int32))])) _
    exact retN X16 hx (t := .boolean) Bd.returns (by simp) (hb hby at_70) hr
  · show Q0nA Z p0 p1 wm aU s_COMPACT_STRINGS h0 n0 _ T16.heap _
    rw [e16]
    exact ⟨rfl, N16⟩
theorem ef_rm0nB (m : MethodId) (p0 : Int32) (p1 : Int32) : entryFrame m #[(.int p0), (.int p1)] maxLocals = mkF m 0 #[.val (.int p0), .val (.int p1), .unset, .unset, .unset, .unset] [] := by first | (simp [entryFrame, mkF, argsToLocals, Value.category, maxLocals]; done) | rfl
def Q0nB (Z : State) (p0 : Int32) (p1 : Int32) (wm : Int32) (wx : Int32) (aU : Addr) (s_COMPACT_STRINGS : Int32) (h0 : Heap) (n0 : Nat) (v : Option Value) (h : Heap) (L : List Loc) : Prop := v = some (.int (1 : Int32)) ∧ Fr n0 L
set_option maxRecDepth 65536 in
set_option maxHeartbeats 40000000 in
theorem rm0nB (l : Launch) (Z : State) (az : Array Value) (hw : ∀ d ∈ tables_1, d.before az Z = true) (ws : List Jvm.Cond) (p0 : Int32) (p1 : Int32) (wm : Int32) (wx : Int32) (aU : Addr) (s_COMPACT_STRINGS : Int32) (h0 : Heap) (n0 : Nat) (Z0 : n0 ≤ h0.size) (S_INSTANCE : Sta Z h0 "sun/nio/cs/UTF_8" "INSTANCE" "Lsun/nio/cs/UTF_8;" (.ref aU)) (S_UTF_8 : Sta Z h0 "java/nio/charset/StandardCharsets" "UTF_8" "Ljava/nio/charset/Charset;" (.ref aU)) (S_COMPACT_STRINGS : Sta Z h0 "java/lang/String" "COMPACT_STRINGS" "Z" (.int s_COMPACT_STRINGS)) (hc3 : ¬ (s_COMPACT_STRINGS = (0 : Int32))) (hc4 : ¬ ((255 : Int32) < ((p1 &&& (255 : Int32)).toUInt32.toUInt16.toUInt32.toInt32))) (hc5 : (((p1 &&& (255 : Int32)).toUInt32.toUInt16.toUInt32.toInt32).toInt8.toInt32) < (0 : Int32)) (hc6 : ¬ (((p0 &&& (255 : Int32)) + (1 : Int32)) < (1 : Int32))) (hc7 : ¬ ((256 : Int32) < ((p0 &&& (255 : Int32)) + (1 : Int32)))) (hc8 : ¬ ((own_bc ((p0 &&& (255 : Int32)) + (1 : Int32))) = (1 : Int32))) (hc9 : ((p0 &&& (255 : Int32)) + (1 : Int32)) ≠ (0 : Int32)) (hc10 : (((((p0 &&& (255 : Int32)) + (1 : Int32)) - (1 : Int32)) < ((((-2147483648 : Int32) % ((p0 &&& (255 : Int32)) + (1 : Int32))).toInt8.toInt32) &&& (255 : Int32))) ∧ wm = ((((-2147483648 : Int32) % ((p0 &&& (255 : Int32)) + (1 : Int32))).toInt8.toInt32) &&& (255 : Int32))) ∨ ((¬ ((((p0 &&& (255 : Int32)) + (1 : Int32)) - (1 : Int32)) < ((((-2147483648 : Int32) % ((p0 &&& (255 : Int32)) + (1 : Int32))).toInt8.toInt32) &&& (255 : Int32)))) ∧ wm = (((p0 &&& (255 : Int32)) + (1 : Int32)) - (1 : Int32)))) (hc11 : (((p0 &&& (255 : Int32)) + (1 : Int32)).toInt64) ≠ (0 : Int64)) (hc12 : ¬ ((lcmpW ((2147483648 : Int64) % (((p0 &&& (255 : Int32)) + (1 : Int32)).toInt64)) (0 : Int64)) = (0 : Int32))) (hc13 : (((((p0 &&& (255 : Int32)) + (1 : Int32)) - (1 : Int32)) < ((256 : Int32) - (((2147483648 : Int64) % (((p0 &&& (255 : Int32)) + (1 : Int32)).toInt64)).toInt32))) ∧ wx = ((256 : Int32) - (((2147483648 : Int64) % (((p0 &&& (255 : Int32)) + (1 : Int32)).toInt64)).toInt32))) ∨ ((¬ ((((p0 &&& (255 : Int32)) + (1 : Int32)) - (1 : Int32)) < ((256 : Int32) - (((2147483648 : Int64) % (((p0 &&& (255 : Int32)) + (1 : Int32)).toInt64)).toInt32)))) ∧ wx = (((p0 &&& (255 : Int32)) + (1 : Int32)) - (1 : Int32)))) (hc14 : ((wm.toInt8.toInt32) &&& (255 : Int32)) = wx) :
    MetFree l x (head1 (Jvm.Cond.code x code maxLocals ret :: ws) room_1) (fun a U => a = #[(.int p0), (.int p1)] ∧ Z.Warmed39 U.vm ∧ U.heap = h0) (fun _ _ _ _ _ => True) (fun _ U o U' => ∃ v L, o = .returned v ∧ Q0nB Z p0 p1 wm wx aU s_COMPACT_STRINGS h0 n0 v U'.heap L ∧ ReturnedEndW U o U' L room_1.cells room_1.slots) := by
  refine MetFree.of_bodySF (plainFor_of_name pn_com_example_fireweed_fireweed_layout_Java31ByteSaltHighestPinLaw) hisR ?_
  intro p e s m args below meth c s₁ Bd hml0 hP hK
  obtain ⟨rfl, hZ, hh⟩ := hP
  have hx := Bd.exec
  have hby := Bd.bytes
  have hml : c.maxLocals = 6 := hml0
  have hown : s.vm.findClass "com/example/fireweed/fireweed/layout/Java31ByteSaltHighestPinLaw" = some m.cls := findClass_of_methodNamed Bd.named
  have hnm := (name_of_methodNamed Bd.named Bd.method).1
  have X0 : Stand p l e room_1 s m #[(.int p0), (.int p1)] below meth c s₁ [] 0 0 := Stand.of_body Bd
  have e0 : s₁.heap = h0 := by rw [← hh, Bd.state]; rfl
  have N0 := Fr.nil n0
  have pre0 : ∀ t, Steps p.tables e below (s₁.setTop (mkF m 0 #[.val (.int p0), .val (.int p1), .unset, .unset, .unset, .unset] [])) t → Steps p.tables e below (s₁.setTop (entryFrame m #[(.int p0), (.int p1)] maxLocals)) t := fun t k => castTop (ef_rm0nB m p0 p1) k
  have hS0 : s.Since s.vm 0 := (State.WarmedH.refl s).since 0
  have wS : ∀ a ∈ Bundle.stringAtoms, a.before az Z = true := fun d hd => by
    simp only [Bundle.stringAtoms, List.mem_cons, List.not_mem_nil, or_false] at hd
    rcases hd with rfl | rfl | rfl | rfl | rfl | rfl | rfl
    · exact (hw _ (List.mem_of_getElem? (i := 2) rfl))
    · exact (hw _ (List.mem_of_getElem? (i := 10) rfl))
    · exact (hw _ (List.mem_of_getElem? (i := 14) rfl))
    · exact (hw _ (List.mem_of_getElem? (i := 23) rfl))
    · exact (hw _ (List.mem_of_getElem? (i := 25) rfl))
    · exact (hw _ (List.mem_of_getElem? (i := 44) rfl))
    · exact (hw _ (List.mem_of_getElem? (i := 45) rfl))
  obtain ⟨_, _, ⟨T1, L1, k1', n1'⟩, -, X1, ⟨Lc1, hQ1, l1, y1, z1⟩, st1⟩ := Jvm.LawKit.callS X0 hx (y := (⟨"java/lang/String", "valueOf", "(C)Ljava/lang/String;"⟩ : MethodName)) hown (mvT hZ (hw _ (List.mem_of_getElem? (i := 0) rfl))) (mvT hZ (hw _ (List.mem_of_getElem? (i := 1) rfl))) (mvT hZ (hw _ (List.mem_of_getElem? (i := 2) rfl))) (mvT hZ (hw _ (List.mem_of_getElem? (i := 3) rfl))) (by decide) (backOf (W := 0) (rm1 l Z az hw [] ((p1 &&& (255 : Int32)).toUInt32.toUInt16.toUInt32.toInt32) s_COMPACT_STRINGS h0 n0 Z0 S_COMPACT_STRINGS hc3 hc4) hZ (hw _ (List.mem_of_getElem? (i := 3) rfl)) (hw _ (List.mem_of_getElem? (i := 2) rfl)) (by decide) (by decide)) (g := (mkF m 14 #[.val (.int p0), .val (.int p1), .val (.int ((p0 &&& (255 : Int32)) + (1 : Int32))), .unset, .unset, .unset] [(.int ((p1 &&& (255 : Int32)).toUInt32.toUInt16.toUInt32.toInt32))])) rfl (by rw [hml]; rfl) (argsL := [(.int ((p1 &&& (255 : Int32)).toUInt32.toUInt16.toUInt32.toInt32))]) (rest := []) (lenOf pd_16 rfl) rfl (by show 2 * 0 + _ ≤ _; exact Nat.le_of_eq rfl) (hb hby at_14) (fun _ _ => ⟨rfl, e0, (by decide : 0 + 2 ≤ _), (by decide : 0 + 5 ≤ _)⟩)
  dsimp only [Pt.U, Pt.locs, Pt.cells, Pt.slots] at X1 l1 y1 z1 st1 hQ1
  subst l1 y1 z1
  obtain ⟨b1_0, b1_1, kk1_0, rfl, N1q, s1_0, lt_b1_0_b1_1, kq1, pf1_0, pf1_1, pf1_2, pf1_3, pf1_4⟩ := hQ1
  have N1 := Fr.app N0 N1q
  have g_b1_0 : n0 ≤ b1_0 := Nat.le_trans Z0 s1_0
  have sz_b1_0 : h0.size ≤ b1_0 := Nat.le_trans (Nat.le_refl _) s1_0
  have g_b1_1 : n0 ≤ b1_1 := Nat.le_trans Z0 (Nat.le_trans s1_0 (Nat.le_of_lt lt_b1_0_b1_1))
  have sz_b1_1 : h0.size ≤ b1_1 := Nat.le_trans (Nat.le_refl _) (Nat.le_trans s1_0 (Nat.le_of_lt lt_b1_0_b1_1))
  have K1 : Keep h0 T1.heap [] := (Keep.refl h0 []).trans kq1 all0
  have Z1 : n0 ≤ T1.heap.size := Nat.le_trans Z0 kq1.1
  obtain ⟨T2, h2, X2, e2, E2, A2, D2, -, st2⟩ := newO X1 hx hZ hown (hw _ (List.mem_of_getElem? (i := 26) rfl)) (hw _ (List.mem_of_getElem? (i := 27) rfl)) (hw _ (List.mem_of_getElem? (i := 28) rfl)) rfl (g := (mkF m 18 #[.val (.int p0), .val (.int p1), .val (.int ((p0 &&& (255 : Int32)) + (1 : Int32))), .val (.ref b1_0), .unset, .unset] [])) rfl (hb hby at_18) (by decide) (by decide)
  obtain ⟨b2, g2⟩ : ∃ z, z = T1.heap.size := ⟨_, rfl⟩
  rw [← g2] at A2 D2 st2
  have g_b2 : n0 ≤ b2 := Nat.le_trans Z1 (Nat.le_of_eq g2.symm)
  have sz_b2 : h0.size ≤ b2 := Nat.le_trans K1.1 (Nat.le_of_eq g2.symm)
  have Z2 : n0 ≤ h2.size := Nat.le_trans Z1 E2.1
  have K2 : Keep h0 h2 [] := K1.ext E2
  have E_b2 := A2
  have F_suffix_b2 : Fld Z h2 b2 "com/example/fireweed/fireweed/layout/Salt" "suffix" "Ljava/lang/String;" .null := D2 (Or.inr (hw _ (List.mem_of_getElem? (i := 52) rfl))) (ty := (.object "java/lang/String")) (by decide)
  have F_suffixBytes_b2 : Fld Z h2 b2 "com/example/fireweed/fireweed/layout/Salt" "suffixBytes" "[B" .null := D2 (Or.inr (hw _ (List.mem_of_getElem? (i := 90) rfl))) (ty := (.array .byte)) (by decide)
  have F_buckets_b2 : Fld Z h2 b2 "com/example/fireweed/fireweed/layout/Java31ByteSalt" "buckets" "I" (.int (0 : Int32)) := D2 (Or.inr (hw _ (List.mem_of_getElem? (i := 92) rfl))) (ty := .int) (by decide)
  have F_mask_b2 : Fld Z h2 b2 "com/example/fireweed/fireweed/layout/Java31ByteSalt" "mask" "I" (.int (0 : Int32)) := D2 (Or.inr (hw _ (List.mem_of_getElem? (i := 101) rfl))) (ty := .int) (by decide)
  have F_overflow_b2 : Fld Z h2 b2 "com/example/fireweed/fireweed/layout/Java31ByteSalt" "overflow" "I" (.int (0 : Int32)) := D2 (Or.inr (hw _ (List.mem_of_getElem? (i := 116) rfl))) (ty := .int) (by decide)
  have E_b1_0_u4 : Exa Z h2 b1_0 "java/lang/String" := (pf1_0.ext E2)
  have F_b1_0_coder_u5 : Fld Z h2 b1_0 "java/lang/String" "coder" "B" (.int (0 : Int32)) := (pf1_2.ext E2)
  have F_b1_0_value_u6 : Fld Z h2 b1_0 "java/lang/String" "value" "[B" (.ref b1_1) := (pf1_1.ext E2)
  have V_b1_1_u7 : Arv Z h2 b1_1 kk1_0 .byte (1 : Int32) [(.int (((p1 &&& (255 : Int32)).toUInt32.toUInt16.toUInt32.toInt32).toInt8.toInt32))] (.int (0 : Int32)) := (pf1_4.ext E2)
  have E_b1_1_u8 : Exa Z h2 b1_1 "[B" := (pf1_3.ext E2)
  have S_UTF_8_INSTANCE_u9 : Sta Z h2 "sun/nio/cs/UTF_8" "INSTANCE" "Lsun/nio/cs/UTF_8;" (.ref aU) := ((own_Sta S_INSTANCE kq1 (fun _ m => nomatch m)).ext E2)
  have S_StandardCharsets_UTF_8_u10 : Sta Z h2 "java/nio/charset/StandardCharsets" "UTF_8" "Ljava/nio/charset/Charset;" (.ref aU) := ((own_Sta S_UTF_8 kq1 (fun _ m => nomatch m)).ext E2)
  have S_String_COMPACT_STRINGS_u11 : Sta Z h2 "java/lang/String" "COMPACT_STRINGS" "Z" (.int s_COMPACT_STRINGS) := ((own_Sta S_COMPACT_STRINGS kq1 (fun _ m => nomatch m)).ext E2)
  have ne_b1_0_b2 : b1_0 ≠ b2 := own_ne (Nat.lt_of_lt_of_le pf1_0.lt (Nat.le_of_eq g2.symm))
  have ne_b1_1_b2 : b1_1 ≠ b2 := own_ne (Nat.lt_of_lt_of_le pf1_3.lt (Nat.le_of_eq g2.symm))
  obtain ⟨_, _, ⟨T3, L3, k3', n3'⟩, -, Y3, yS3, yg3, ⟨Lc3, hQ3, l3, y3, z3⟩, st3⟩ := X2.specialBackS hx (y := (⟨"com/example/fireweed/fireweed/layout/Java31ByteSalt", "<init>", "(ILjava/lang/String;)V"⟩ : MethodName)) rfl hown (mvT hZ (hw _ (List.mem_of_getElem? (i := 29) rfl))) (mvT hZ (hw _ (List.mem_of_getElem? (i := 30) rfl))) (mvT hZ (hw _ (List.mem_of_getElem? (i := 31) rfl))) (by decide) (backOfS (W := 1) (rm6nB l Z az hw [] b2 ((p0 &&& (255 : Int32)) + (1 : Int32)) b1_0 b1_1 kk1_0 (((p1 &&& (255 : Int32)).toUInt32.toUInt16.toUInt32.toInt32).toInt8.toInt32) aU s_COMPACT_STRINGS h2 n0 Z2 E_b2 F_suffix_b2 F_suffixBytes_b2 F_buckets_b2 F_mask_b2 F_overflow_b2 E_b1_0_u4 F_b1_0_coder_u5 F_b1_0_value_u6 V_b1_1_u7 E_b1_1_u8 S_UTF_8_INSTANCE_u9 S_StandardCharsets_UTF_8_u10 hc5 S_String_COMPACT_STRINGS_u11 g_b2 ne_b1_0_b2 ne_b1_1_b2 hc3 hc6 hc7 hc8 hc9) hZ (hw _ (List.mem_of_getElem? (i := 31) rfl)) (hw _ (List.mem_of_getElem? (i := 28) rfl)) (by decide) (by decide)) (g := (mkF m 24 #[.val (.int p0), .val (.int p1), .val (.int ((p0 &&& (255 : Int32)) + (1 : Int32))), .val (.ref b1_0), .unset, .unset] [(.ref b1_0), (.int ((p0 &&& (255 : Int32)) + (1 : Int32))), (.ref b2), (.ref b2)])) rfl (by rw [hml]; rfl) (Steps.refl _) (a := b2) (argsL := [(.int ((p0 &&& (255 : Int32)) + (1 : Int32))), (.ref b1_0)]) (rest := [(.ref b2)]) (lenOf pd_17 rfl) rfl (by show 2 * 0 + _ ≤ _; exact Nat.le_of_eq rfl) (hb hby at_24) (fun _ _ => ⟨rfl, e2, (by decide : 3 + 3 ≤ _), (by decide : 10 + 30 ≤ _)⟩)
  dsimp only [Pt.U, Pt.locs, Pt.cells, Pt.slots] at Y3 yS3 yg3 l3 y3 z3 st3 hQ3
  subst l3 y3 z3
  obtain ⟨X3, hS3, hZ3, hown3⟩ := rebS (s := s) (vm0 := s.vm) hS0 (by rw [e2]; exact (Nat.le_trans (Nat.le_trans (Nat.zero_le _) kq1.1) E2.1)) Y3 yS3 yg3 hZ hown
  obtain ⟨b3_0, kk3_0, rfl, N3q, s3_0, kq3, pf3_0, pf3_1, pf3_2, pf3_3, pf3_4, pf3_5, pf3_6, pf3_7⟩ := hQ3
  have N3 := Fr.app N1 N3q
  have g_b3_0 : n0 ≤ b3_0 := Nat.le_trans Z2 s3_0
  have sz_b3_0 : h0.size ≤ b3_0 := Nat.le_trans K2.1 s3_0
  have K3 : Keep h0 T3.heap [] := K2.trans kq3 (allS (Or.inr sz_b2) all0)
  have Z3 : n0 ≤ T3.heap.size := Nat.le_trans Z2 kq3.1
  obtain ⟨cq12, kq12, q12a, q12b, q12c⟩ := isOf hZ3 rfl pf3_0
  obtain ⟨_, _, ⟨T12, L12, k12', n12'⟩, -, X12, ⟨Lc12, hQ12, l12, y12, z12⟩, st12⟩ := X3.virtualBack hx (y := (⟨"com/example/fireweed/fireweed/layout/Java31ByteSalt", "highest", "()[B"⟩ : MethodName)) (z := (⟨"com/example/fireweed/fireweed/layout/Java31ByteSalt", "highest", "()[B"⟩ : MethodName)) hown3 (mvT hZ3 (hw _ (List.mem_of_getElem? (i := 117) rfl))) (mvT hZ3 (hw _ (List.mem_of_getElem? (i := 118) rfl))) (notFace_of_selects (args := #[]) (mvT hZ3 (hw _ (List.mem_of_getElem? (i := 120) rfl)))) (mvT hZ3 (hw _ (List.mem_of_getElem? (i := 120) rfl))) (mvT hZ3 (hw _ (List.mem_of_getElem? (i := 119) rfl))) (by decide) (backOf (W := 0) (rm20 l Z az hw [] b2 wm ((p0 &&& (255 : Int32)) + (1 : Int32)) ((((-2147483648 : Int32) % ((p0 &&& (255 : Int32)) + (1 : Int32))).toInt8.toInt32) &&& (255 : Int32)) T3.heap n0 Z3 pf3_3 pf3_5 hc10) hZ3 (hw _ (List.mem_of_getElem? (i := 121) rfl)) (hw _ (List.mem_of_getElem? (i := 28) rfl)) (by decide) (by decide)) q12a q12c (g := (mkF m 31 #[.val (.int p0), .val (.int p1), .val (.int ((p0 &&& (255 : Int32)) + (1 : Int32))), .val (.ref b1_0), .val (.ref b2), .unset] [(.ref b2)])) rfl (by rw [hml]; rfl) (Steps.refl _) (argsL := []) (rest := []) (lenOf pd_18 rfl) rfl (by show 2 * 0 + _ ≤ _; exact Nat.le_of_eq rfl) (hb hby at_31) (fun _ _ => ⟨rfl, rfl, (by decide : 6 + 1 ≤ _), (by decide : 40 + 1 ≤ _)⟩)
  dsimp only [Pt.U, Pt.locs, Pt.cells, Pt.slots] at X12 l12 y12 z12 st12 hQ12
  subst l12 y12 z12
  obtain ⟨b12_0, kk12_0, rfl, N12q, s12_0, kq12, pf12_0, pf12_1⟩ := hQ12
  have N12 := Fr.app N3 N12q
  have g_b12_0 : n0 ≤ b12_0 := Nat.le_trans Z3 s12_0
  have sz_b12_0 : h0.size ≤ b12_0 := Nat.le_trans K3.1 s12_0
  have K12 : Keep h0 T12.heap [] := K3.trans kq12 all0
  have Z12 : n0 ≤ T12.heap.size := Nat.le_trans Z3 kq12.1
  obtain ⟨cl13, Ar13, qk13, Sz13, Ng13, Hs13, Gf13⟩ := id pf12_1
  have hin14 : ¬ ((0 : Int32) < 0 ∨ cl13.slots.size ≤ ((0 : Int32)).toNatClampNeg) := inb_of Sz13 ⟨by decide, by decide⟩
  have hat15 : cl13.slots[((0 : Int32)).toNatClampNeg]? = some (.int (wm.toInt8.toInt32)) := Hs13.at hin14 rfl
  obtain ⟨_, _, ⟨T16, L16, k16', n16'⟩, -, X16, ⟨Lc16, hQ16, l16, y16, z16⟩, st16⟩ := Jvm.LawKit.callS X12 hx (y := (⟨"com/example/fireweed/fireweed/layout/Java31ByteSaltHighestPinLaw", "expected", "(I)I"⟩ : MethodName)) hown3 (mvT hZ3 (hw _ (List.mem_of_getElem? (i := 125) rfl))) (mvT hZ3 (hw _ (List.mem_of_getElem? (i := 126) rfl))) (mvT hZ3 (hw _ (List.mem_of_getElem? (i := 127) rfl))) (mvT hZ3 (hw _ (List.mem_of_getElem? (i := 128) rfl))) (by decide) (backOf (W := 1) (rm22m l Z az hw [] ((p0 &&& (255 : Int32)) + (1 : Int32)) wx T12.heap n0 Z12 hc11 hc12 hc13) hZ3 (hw _ (List.mem_of_getElem? (i := 128) rfl)) (hw _ (List.mem_of_getElem? (i := 127) rfl)) (by decide) (by decide)) (g := (mkF m 59 #[.val (.int p0), .val (.int p1), .val (.int ((p0 &&& (255 : Int32)) + (1 : Int32))), .val (.ref b1_0), .val (.ref b2), .val (.ref b12_0)] [(.int ((p0 &&& (255 : Int32)) + (1 : Int32))), (.int ((wm.toInt8.toInt32) &&& (255 : Int32)))])) rfl (by rw [hml]; rfl) (argsL := [(.int ((p0 &&& (255 : Int32)) + (1 : Int32)))]) (rest := [(.int ((wm.toInt8.toInt32) &&& (255 : Int32)))]) (lenOf pd_8 rfl) rfl (by show 2 * 0 + _ ≤ _; exact Nat.le_of_eq rfl) (hb hby at_59) (fun _ _ => ⟨rfl, rfl, (by decide : 7 + 0 ≤ _), (by decide : 41 + 0 ≤ _)⟩)
  dsimp only [Pt.U, Pt.locs, Pt.cells, Pt.slots] at X16 l16 y16 z16 st16 hQ16
  subst l16 y16 z16
  obtain ⟨rfl, N16q, e16⟩ := hQ16
  have N16 := Fr.app N12 N16q
  obtain ⟨fs, hr, hrun, hended, hWE⟩ := X16.leaveW (s := s) hS3 (by rw [e16]; exact (Nat.le_trans (Nat.le_refl _) kq12.1)) (v := some (.int (1 : Int32))) (fun h => by rw [Bd.returns] at h; cases h)
  refine ⟨_, _, pre0 _ ?_, hrun, hended, _, _, rfl, ?_, hWE.1, hWE.2.1, hWE.2.2.1, hWE.2.2.2.mono (by decide) (by decide)⟩
  · show Steps p.tables e below (s₁.setTop (mkF m 0 #[.val (.int p0), .val (.int p1), .unset, .unset, .unset, .unset] [])) _
    refine XS.iloadN X0.here hx rfl (hb hby at_0) rfl ?_
    show Steps p.tables e below (s₁.setTop (mkF m 1 #[.val (.int p0), .val (.int p1), .unset, .unset, .unset, .unset] [(.int p0)])) _
    refine XS.sipush X0.here hx rfl (hb hby at_1) ?_
    show Steps p.tables e below (s₁.setTop (mkF m 4 #[.val (.int p0), .val (.int p1), .unset, .unset, .unset, .unset] [(.int (255 : Int32)), (.int p0)])) _
    refine XS.iand X0.here hx rfl (hb hby at_4) rfl ?_
    show Steps p.tables e below (s₁.setTop (mkF m 5 #[.val (.int p0), .val (.int p1), .unset, .unset, .unset, .unset] [(.int (p0 &&& (255 : Int32)))])) _
    refine XS.iconst X0.here hx rfl (hb hby at_5) ?_
    show Steps p.tables e below (s₁.setTop (mkF m 6 #[.val (.int p0), .val (.int p1), .unset, .unset, .unset, .unset] [(.int (1 : Int32)), (.int (p0 &&& (255 : Int32)))])) _
    refine XS.iadd X0.here hx rfl (hb hby at_6) rfl ?_
    show Steps p.tables e below (s₁.setTop (mkF m 7 #[.val (.int p0), .val (.int p1), .unset, .unset, .unset, .unset] [(.int ((p0 &&& (255 : Int32)) + (1 : Int32)))])) _
    refine XS.istoreN X0.here hx rfl (hb hby at_7) rfl (l' := #[.val (.int p0), .val (.int p1), .val (.int ((p0 &&& (255 : Int32)) + (1 : Int32))), .unset, .unset, .unset]) rfl ?_
    show Steps p.tables e below (s₁.setTop (mkF m 8 #[.val (.int p0), .val (.int p1), .val (.int ((p0 &&& (255 : Int32)) + (1 : Int32))), .unset, .unset, .unset] [])) _
    refine XS.iloadN X0.here hx rfl (hb hby at_8) rfl ?_
    show Steps p.tables e below (s₁.setTop (mkF m 9 #[.val (.int p0), .val (.int p1), .val (.int ((p0 &&& (255 : Int32)) + (1 : Int32))), .unset, .unset, .unset] [(.int p1)])) _
    refine XS.sipush X0.here hx rfl (hb hby at_9) ?_
    show Steps p.tables e below (s₁.setTop (mkF m 12 #[.val (.int p0), .val (.int p1), .val (.int ((p0 &&& (255 : Int32)) + (1 : Int32))), .unset, .unset, .unset] [(.int (255 : Int32)), (.int p1)])) _
    refine XS.iand X0.here hx rfl (hb hby at_12) rfl ?_
    show Steps p.tables e below (s₁.setTop (mkF m 13 #[.val (.int p0), .val (.int p1), .val (.int ((p0 &&& (255 : Int32)) + (1 : Int32))), .unset, .unset, .unset] [(.int (p1 &&& (255 : Int32)))])) _
    refine XS.i2c X0.here hx rfl (hb hby at_13) rfl ?_
    show Steps p.tables e below (s₁.setTop (mkF m 14 #[.val (.int p0), .val (.int p1), .val (.int ((p0 &&& (255 : Int32)) + (1 : Int32))), .unset, .unset, .unset] [(.int ((p1 &&& (255 : Int32)).toUInt32.toUInt16.toUInt32.toInt32))])) _
    refine st1 _ ?_
    show Steps p.tables e below (T1.setTop (mkF m 17 #[.val (.int p0), .val (.int p1), .val (.int ((p0 &&& (255 : Int32)) + (1 : Int32))), .unset, .unset, .unset] [(.ref b1_0)])) _
    refine XS.astoreN X1.here hx rfl (hb hby at_17) rfl rfl (l' := #[.val (.int p0), .val (.int p1), .val (.int ((p0 &&& (255 : Int32)) + (1 : Int32))), .val (.ref b1_0), .unset, .unset]) rfl ?_
    show Steps p.tables e below (T1.setTop (mkF m 18 #[.val (.int p0), .val (.int p1), .val (.int ((p0 &&& (255 : Int32)) + (1 : Int32))), .val (.ref b1_0), .unset, .unset] [])) _
    refine st2 _ ?_
    show Steps p.tables e below (T2.setTop (mkF m 21 #[.val (.int p0), .val (.int p1), .val (.int ((p0 &&& (255 : Int32)) + (1 : Int32))), .val (.ref b1_0), .unset, .unset] [(.ref b2)])) _
    refine XS.dup X2.here hx rfl (hb hby at_21) rfl rfl ?_
    show Steps p.tables e below (T2.setTop (mkF m 22 #[.val (.int p0), .val (.int p1), .val (.int ((p0 &&& (255 : Int32)) + (1 : Int32))), .val (.ref b1_0), .unset, .unset] [(.ref b2), (.ref b2)])) _
    refine XS.iloadN X2.here hx rfl (hb hby at_22) rfl ?_
    show Steps p.tables e below (T2.setTop (mkF m 23 #[.val (.int p0), .val (.int p1), .val (.int ((p0 &&& (255 : Int32)) + (1 : Int32))), .val (.ref b1_0), .unset, .unset] [(.int ((p0 &&& (255 : Int32)) + (1 : Int32))), (.ref b2), (.ref b2)])) _
    refine XS.aloadN X2.here hx rfl (hb hby at_23) rfl rfl ?_
    show Steps p.tables e below (T2.setTop (mkF m 24 #[.val (.int p0), .val (.int p1), .val (.int ((p0 &&& (255 : Int32)) + (1 : Int32))), .val (.ref b1_0), .unset, .unset] [(.ref b1_0), (.int ((p0 &&& (255 : Int32)) + (1 : Int32))), (.ref b2), (.ref b2)])) _
    refine st3.trans ?_
    show Steps p.tables e below (T3.setTop (mkF m 27 #[.val (.int p0), .val (.int p1), .val (.int ((p0 &&& (255 : Int32)) + (1 : Int32))), .val (.ref b1_0), .unset, .unset] [(.ref b2)])) _
    refine XS.astore X3.here hx rfl (hb hby at_27) rfl rfl (l' := #[.val (.int p0), .val (.int p1), .val (.int ((p0 &&& (255 : Int32)) + (1 : Int32))), .val (.ref b1_0), .val (.ref b2), .unset]) rfl ?_
    show Steps p.tables e below (T3.setTop (mkF m 29 #[.val (.int p0), .val (.int p1), .val (.int ((p0 &&& (255 : Int32)) + (1 : Int32))), .val (.ref b1_0), .val (.ref b2), .unset] [])) _
    refine XS.aload X3.here hx rfl (hb hby at_29) rfl rfl ?_
    show Steps p.tables e below (T3.setTop (mkF m 31 #[.val (.int p0), .val (.int p1), .val (.int ((p0 &&& (255 : Int32)) + (1 : Int32))), .val (.ref b1_0), .val (.ref b2), .unset] [(.ref b2)])) _
    refine st12.trans ?_
    show Steps p.tables e below (T12.setTop (mkF m 34 #[.val (.int p0), .val (.int p1), .val (.int ((p0 &&& (255 : Int32)) + (1 : Int32))), .val (.ref b1_0), .val (.ref b2), .unset] [(.ref b12_0)])) _
    refine XS.astore X12.here hx rfl (hb hby at_34) rfl rfl (l' := #[.val (.int p0), .val (.int p1), .val (.int ((p0 &&& (255 : Int32)) + (1 : Int32))), .val (.ref b1_0), .val (.ref b2), .val (.ref b12_0)]) rfl ?_
    show Steps p.tables e below (T12.setTop (mkF m 36 #[.val (.int p0), .val (.int p1), .val (.int ((p0 &&& (255 : Int32)) + (1 : Int32))), .val (.ref b1_0), .val (.ref b2), .val (.ref b12_0)] [])) _
    refine XS.aload X12.here hx rfl (hb hby at_36) rfl rfl ?_
    show Steps p.tables e below (T12.setTop (mkF m 38 #[.val (.int p0), .val (.int p1), .val (.int ((p0 &&& (255 : Int32)) + (1 : Int32))), .val (.ref b1_0), .val (.ref b2), .val (.ref b12_0)] [(.ref b12_0)])) _
    refine XS.ifnullNo X12.here hx rfl (hb hby at_38) rfl ?_
    show Steps p.tables e below (T12.setTop (mkF m 41 #[.val (.int p0), .val (.int p1), .val (.int ((p0 &&& (255 : Int32)) + (1 : Int32))), .val (.ref b1_0), .val (.ref b2), .val (.ref b12_0)] [])) _
    refine XS.aload X12.here hx rfl (hb hby at_41) rfl rfl ?_
    show Steps p.tables e below (T12.setTop (mkF m 43 #[.val (.int p0), .val (.int p1), .val (.int ((p0 &&& (255 : Int32)) + (1 : Int32))), .val (.ref b1_0), .val (.ref b2), .val (.ref b12_0)] [(.ref b12_0)])) _
    refine X12.arraylength hx Ar13.1 (State.isArrayOf_alike hZ3.alike Ar13.2.1) (g := (mkF m 43 #[.val (.int p0), .val (.int p1), .val (.int ((p0 &&& (255 : Int32)) + (1 : Int32))), .val (.ref b1_0), .val (.ref b2), .val (.ref b12_0)] [(.ref b12_0)])) rfl rfl (hb hby at_43) _ ?_
    rw [len_of Sz13 Ng13]
    show Steps p.tables e below (T12.setTop (mkF m 44 #[.val (.int p0), .val (.int p1), .val (.int ((p0 &&& (255 : Int32)) + (1 : Int32))), .val (.ref b1_0), .val (.ref b2), .val (.ref b12_0)] [(.int (1 : Int32))])) _
    refine XS.iconst X12.here hx rfl (hb hby at_44) ?_
    show Steps p.tables e below (T12.setTop (mkF m 45 #[.val (.int p0), .val (.int p1), .val (.int ((p0 &&& (255 : Int32)) + (1 : Int32))), .val (.ref b1_0), .val (.ref b2), .val (.ref b12_0)] [(.int (1 : Int32)), (.int (1 : Int32))])) _
    refine XS.icmpYes X12.here hx rfl (pc0 := 45) (pc' := 50) rfl (hb hby at_45) rfl (teq (by decide : (1 : Int32) = (1 : Int32))).1 (by decide) (by decide) ?_
    show Steps p.tables e below (T12.setTop (mkF m 50 #[.val (.int p0), .val (.int p1), .val (.int ((p0 &&& (255 : Int32)) + (1 : Int32))), .val (.ref b1_0), .val (.ref b2), .val (.ref b12_0)] [])) _
    refine XS.aload X12.here hx rfl (hb hby at_50) rfl rfl ?_
    show Steps p.tables e below (T12.setTop (mkF m 52 #[.val (.int p0), .val (.int p1), .val (.int ((p0 &&& (255 : Int32)) + (1 : Int32))), .val (.ref b1_0), .val (.ref b2), .val (.ref b12_0)] [(.ref b12_0)])) _
    refine XS.iconst X12.here hx rfl (hb hby at_52) ?_
    show Steps p.tables e below (T12.setTop (mkF m 53 #[.val (.int p0), .val (.int p1), .val (.int ((p0 &&& (255 : Int32)) + (1 : Int32))), .val (.ref b1_0), .val (.ref b2), .val (.ref b12_0)] [(.int (0 : Int32)), (.ref b12_0)])) _
    refine X12.baloadBytes hx (j := (0 : Int32)) (v := (.int (wm.toInt8.toInt32))) Ar13.1 (State.isArrayOf_alike hZ3.alike Ar13.2.1) Ar13.2.2 hin14 hat15 (g := (mkF m 53 #[.val (.int p0), .val (.int p1), .val (.int ((p0 &&& (255 : Int32)) + (1 : Int32))), .val (.ref b1_0), .val (.ref b2), .val (.ref b12_0)] [(.int (0 : Int32)), (.ref b12_0)])) rfl rfl (hb hby at_53) _ ?_
    show Steps p.tables e below (T12.setTop (mkF m 54 #[.val (.int p0), .val (.int p1), .val (.int ((p0 &&& (255 : Int32)) + (1 : Int32))), .val (.ref b1_0), .val (.ref b2), .val (.ref b12_0)] [(.int (wm.toInt8.toInt32))])) _
    refine XS.sipush X12.here hx rfl (hb hby at_54) ?_
    show Steps p.tables e below (T12.setTop (mkF m 57 #[.val (.int p0), .val (.int p1), .val (.int ((p0 &&& (255 : Int32)) + (1 : Int32))), .val (.ref b1_0), .val (.ref b2), .val (.ref b12_0)] [(.int (255 : Int32)), (.int (wm.toInt8.toInt32))])) _
    refine XS.iand X12.here hx rfl (hb hby at_57) rfl ?_
    show Steps p.tables e below (T12.setTop (mkF m 58 #[.val (.int p0), .val (.int p1), .val (.int ((p0 &&& (255 : Int32)) + (1 : Int32))), .val (.ref b1_0), .val (.ref b2), .val (.ref b12_0)] [(.int ((wm.toInt8.toInt32) &&& (255 : Int32)))])) _
    refine XS.iloadN X12.here hx rfl (hb hby at_58) rfl ?_
    show Steps p.tables e below (T12.setTop (mkF m 59 #[.val (.int p0), .val (.int p1), .val (.int ((p0 &&& (255 : Int32)) + (1 : Int32))), .val (.ref b1_0), .val (.ref b2), .val (.ref b12_0)] [(.int ((p0 &&& (255 : Int32)) + (1 : Int32))), (.int ((wm.toInt8.toInt32) &&& (255 : Int32)))])) _
    refine st16 _ ?_
    show Steps p.tables e below (T16.setTop (mkF m 62 #[.val (.int p0), .val (.int p1), .val (.int ((p0 &&& (255 : Int32)) + (1 : Int32))), .val (.ref b1_0), .val (.ref b2), .val (.ref b12_0)] [(.int wx), (.int ((wm.toInt8.toInt32) &&& (255 : Int32)))])) _
    refine XS.icmpNo X16.here hx rfl (hb hby at_62) rfl (teq hc14).2 ?_
    show Steps p.tables e below (T16.setTop (mkF m 65 #[.val (.int p0), .val (.int p1), .val (.int ((p0 &&& (255 : Int32)) + (1 : Int32))), .val (.ref b1_0), .val (.ref b2), .val (.ref b12_0)] [])) _
    refine XS.iconst X16.here hx rfl (hb hby at_65) ?_
    show Steps p.tables e below (T16.setTop (mkF m 66 #[.val (.int p0), .val (.int p1), .val (.int ((p0 &&& (255 : Int32)) + (1 : Int32))), .val (.ref b1_0), .val (.ref b2), .val (.ref b12_0)] [(.int (1 : Int32))])) _
    refine XS.goto X16.here hx rfl (pc0 := 66) (pc' := 70) rfl (hb hby at_66) (by decide) (by decide) ?_
    show Steps p.tables e below (T16.setTop (mkF m 70 #[.val (.int p0), .val (.int p1), .val (.int ((p0 &&& (255 : Int32)) + (1 : Int32))), .val (.ref b1_0), .val (.ref b2), .val (.ref b12_0)] [(.int (1 : Int32))])) _
    exact retN X16 hx (t := .boolean) Bd.returns (by simp) (hb hby at_70) hr
  · show Q0nB Z p0 p1 wm wx aU s_COMPACT_STRINGS h0 n0 _ T16.heap _
    rw [e16]
    exact ⟨rfl, N16⟩
def own_max (x y : Int32) : Int32 := if x < y then y else x
theorem own_maxJ (x y : Int32) : ((x < y) ∧ own_max x y = y) ∨ ((¬ (x < y)) ∧ own_max x y = x) := by
  unfold own_max
  by_cases h : x < y
  · exact Or.inl ⟨h, if_pos h⟩
  · exact Or.inr ⟨h, if_neg h⟩
theorem own_low (x : Int32) : ∃ n : Fin 256, x &&& (255 : Int32) = Int32.ofNat n.val := by
  have e := c_mask x (255 : Int32) 8 (by decide) (by decide)
  have h1 : 0 ≤ (x &&& (255 : Int32)).toInt ∧ (x &&& (255 : Int32)).toInt < 256 := by rw [e]; omega
  refine ⟨⟨(x &&& (255 : Int32)).toInt.toNat, by omega⟩, Int32.toInt_inj.mp ?_⟩
  rw [Int32.toInt_ofNat_of_lt (by simp only []; omega)]
  simp only []
  omega
theorem own_all (P : Int32 → Prop) (h : ∀ n : Fin 256, P (Int32.ofNat n.val + 1)) (x : Int32) : P ((x &&& (255 : Int32)) + (1 : Int32)) := by
  obtain ⟨n, e⟩ := own_low x
  rw [e]; exact h n
theorem own_allc (P : Int32 → Prop) (h : ∀ n : Fin 256, P (Int32.ofNat n.val)) (x : Int32) : P (x &&& (255 : Int32)) := by
  obtain ⟨n, e⟩ := own_low x
  rw [e]; exact h n
set_option maxRecDepth 65536 in
set_option maxHeartbeats 40000000 in
theorem comes_1 {Post : Tables → Env → Array Value → State → Outcome → State → Prop} (hpost : ∀ tb e args s v u, (limb_1_1.after args s (.returned v) u = true ∧ limb_1_2.after args s (.returned v) u = true ∧ True) → ReturnedEndW s (.returned v) u (Jvm.fieldLocs frame_1_writes args s ++ Jvm.arrayLocs frame_1_arrays args s ++ Jvm.staticLocs frame_1_statics s) 24 1152 → Post tb e args s (.returned v) u) :
    ArmFor flags0 classFile x code maxLocals ret World_1 tables_1 room_1 Calls_1 rest_1 Pre_1 Post := by
  intro l hfl _ _ p e ha hc hk s m args below hf hA hF happ hP
  obtain ⟨hcalls, hrest, hpre⟩ := hP
  obtain ⟨-, -, -, hnamed, -, -, -, hat⟩ := (Spec.applies_iff hf).mp happ
  obtain ⟨hg, hn⟩ := and_e (Cond.before_iff.mp (show (Jvm.Cond.and given_1 narrow_1).before args s = true from hpre))
  obtain ⟨gc, hg⟩ := and_e hg
  obtain ⟨gi0, hg⟩ := and_e hg
  have gi1 := hg
  obtain ⟨w0, w1, rfl⟩ : ∃ w0 w1 : Value, args = #[w0, w1] := by
    have hs : args.size = 2 := by simpa [Cond.value, given_1] using gc
    obtain ⟨L⟩ := args
    match L, hs with
    | [w0, w1], _ => exact ⟨w0, w1, rfl⟩
  have hw := fun d (hd : d ∈ tables_1) => atoms_spec (ws := Jvm.Cond.code x code maxLocals ret :: tables_1) hat d (List.mem_cons_of_mem _ hd)
  obtain ⟨hsets, hown0⟩ := atoms_of _ (rest_1_c_eq ▸ (show rest_1_c.before _ s = true from hrest))
  obtain ⟨i0, ei0⟩ := is_v gi0
  obtain rfl : w0 = (.int i0) := Option.some.inj ei0
  obtain ⟨i1, ei1⟩ := is_v gi1
  obtain rfl : w1 = (.int i1) := Option.some.inj ei1
  have hU := Cond.before_iff.mp (hsets _ (List.mem_of_getElem? (i := 14) rfl))
  have hI := Cond.before_iff.mp (hsets _ (List.mem_of_getElem? (i := 17) rfl))
  have hUI := Cond.before_iff.mp (hsets _ (List.mem_of_getElem? (i := 13) rfl))
  have hC := Cond.before_iff.mp (hsets _ (List.mem_of_getElem? (i := 1) rfl))
  have hC0 := Cond.before_iff.mp (hsets _ (List.mem_of_getElem? (i := 2) rfl))
  obtain ⟨aU, vU⟩ := exa_v hU
  obtain ⟨aI, vI⟩ := exa_v hI
  obtain ⟨sC, vC⟩ := is_v hC
  have sU := Sta.start vU (Or.inl (hsets _ (List.mem_of_getElem? (i := 10) rfl)))
  have sI := Sta.start vI (Or.inl (hsets _ (List.mem_of_getElem? (i := 12) rfl)))
  have sS := Sta.start vC (Or.inl (hsets _ (List.mem_of_getElem? (i := 0) rfl)))
  have eUI := Value.ref.inj (gotT (eq_R vU vI rfl rfl) hUI)
  subst eUI
  have nC : ¬ (sC = (0 : Int32)) := gotF (by simp [Cond.value, vC, show (Term.int 0).eval #[Value.int i0, Value.int i1] s none [] s = some (.int 0) from rfl]) (not_v hC0)
  by_cases hbc : own_bc ((i0 &&& (255 : Int32)) + (1 : Int32)) = (1 : Int32)
  · by_cases hneg : ((((i1 &&& (255 : Int32)).toUInt32.toUInt16.toUInt32.toInt32).toInt8.toInt32) < (0 : Int32))
    · obtain ⟨n, o, h1, h2, h3, _, L, rfl, ⟨rfl, N⟩, hq⟩ := rm0nA l s _ hw tables_1 i0 i1 (own_max (((i0 &&& (255 : Int32)) + (1 : Int32)) - (1 : Int32)) ((((-2147483648 : Int32) &&& (((i0 &&& (255 : Int32)) + (1 : Int32)) - (1 : Int32))).toInt8.toInt32) &&& (255 : Int32))) aU sC s.heap s.heap.size (Nat.le_refl _) sI sU sS nC (own_allc (fun c => ¬ ((255 : Int32) < (c.toUInt32.toUInt16.toUInt32.toInt32))) (by decide +kernel) i1) hneg (own_all (fun b => own_bc b = (1 : Int32) → ¬ (b < (1 : Int32))) (by decide +kernel) i0 hbc) (own_all (fun b => own_bc b = (1 : Int32) → ¬ ((256 : Int32) < b)) (by decide +kernel) i0 hbc) hbc (own_all (fun b => own_bc b = (1 : Int32) → ¬ ((b - (1 : Int32)) < (0 : Int32))) (by decide +kernel) i0 hbc) (own_maxJ _ _) (own_all (fun b => own_bc b = (1 : Int32) → (b.toInt64) ≠ (0 : Int64)) (by decide +kernel) i0 hbc) (own_all (fun b => own_bc b = (1 : Int32) → (lcmpW ((2147483648 : Int64) % (b.toInt64)) (0 : Int64)) = (0 : Int32)) (by decide +kernel) i0 hbc) (own_all (fun b => own_bc b = (1 : Int32) → (((own_max (b - (1 : Int32)) ((((-2147483648 : Int32) &&& (b - (1 : Int32))).toInt8.toInt32) &&& (255 : Int32))).toInt8.toInt32) &&& (255 : Int32)) = (b - (1 : Int32))) (by decide +kernel) i0 hbc) p e ha hc hk s m _ below hf ((Spec.applies_iff_loose hf).mp happ).1 ⟨rfl, State.Warmed39.refl s, rfl⟩ trivial
      refine ⟨n, _, h1, h2, h3, hpost _ _ _ _ _ _ ⟨Cond.after_iff.mpr rfl, Cond.after_iff.mpr (eq_i res_at (Term.int_eval (1)) rfl), trivial⟩ ⟨hq.1, hq.2.1, hq.2.2.1, (hq.2.2.2.sift fun y hy => Or.inr (N y hy)).mono (by decide) (by decide)⟩⟩
    obtain ⟨n, o, h1, h2, h3, _, L, rfl, ⟨rfl, N⟩, hq⟩ := rm0pA l s _ hw tables_1 i0 i1 (own_max (((i0 &&& (255 : Int32)) + (1 : Int32)) - (1 : Int32)) ((((-2147483648 : Int32) &&& (((i0 &&& (255 : Int32)) + (1 : Int32)) - (1 : Int32))).toInt8.toInt32) &&& (255 : Int32))) aU sC s.heap s.heap.size (Nat.le_refl _) sI sU sS nC (own_allc (fun c => ¬ ((255 : Int32) < (c.toUInt32.toUInt16.toUInt32.toInt32))) (by decide +kernel) i1) hneg (own_all (fun b => own_bc b = (1 : Int32) → ¬ (b < (1 : Int32))) (by decide +kernel) i0 hbc) (own_all (fun b => own_bc b = (1 : Int32) → ¬ ((256 : Int32) < b)) (by decide +kernel) i0 hbc) hbc (own_all (fun b => own_bc b = (1 : Int32) → ¬ ((b - (1 : Int32)) < (0 : Int32))) (by decide +kernel) i0 hbc) (own_maxJ _ _) (own_all (fun b => own_bc b = (1 : Int32) → (b.toInt64) ≠ (0 : Int64)) (by decide +kernel) i0 hbc) (own_all (fun b => own_bc b = (1 : Int32) → (lcmpW ((2147483648 : Int64) % (b.toInt64)) (0 : Int64)) = (0 : Int32)) (by decide +kernel) i0 hbc) (own_all (fun b => own_bc b = (1 : Int32) → (((own_max (b - (1 : Int32)) ((((-2147483648 : Int32) &&& (b - (1 : Int32))).toInt8.toInt32) &&& (255 : Int32))).toInt8.toInt32) &&& (255 : Int32)) = (b - (1 : Int32))) (by decide +kernel) i0 hbc) p e ha hc hk s m _ below hf ((Spec.applies_iff_loose hf).mp happ).1 ⟨rfl, State.Warmed39.refl s, rfl⟩ trivial
    refine ⟨n, _, h1, h2, h3, hpost _ _ _ _ _ _ ⟨Cond.after_iff.mpr rfl, Cond.after_iff.mpr (eq_i res_at (Term.int_eval (1)) rfl), trivial⟩ ⟨hq.1, hq.2.1, hq.2.2.1, (hq.2.2.2.sift fun y hy => Or.inr (N y hy)).mono (by decide) (by decide)⟩⟩
  by_cases hneg : ((((i1 &&& (255 : Int32)).toUInt32.toUInt16.toUInt32.toInt32).toInt8.toInt32) < (0 : Int32))
  · obtain ⟨n, o, h1, h2, h3, _, L, rfl, ⟨rfl, N⟩, hq⟩ := rm0nB l s _ hw tables_1 i0 i1 (own_max (((i0 &&& (255 : Int32)) + (1 : Int32)) - (1 : Int32)) ((((-2147483648 : Int32) % ((i0 &&& (255 : Int32)) + (1 : Int32))).toInt8.toInt32) &&& (255 : Int32))) (own_max (((i0 &&& (255 : Int32)) + (1 : Int32)) - (1 : Int32)) ((256 : Int32) - (((2147483648 : Int64) % (((i0 &&& (255 : Int32)) + (1 : Int32)).toInt64)).toInt32))) aU sC s.heap s.heap.size (Nat.le_refl _) sI sU sS nC (own_allc (fun c => ¬ ((255 : Int32) < (c.toUInt32.toUInt16.toUInt32.toInt32))) (by decide +kernel) i1) hneg (own_all (fun b => ¬ (own_bc b = (1 : Int32)) → ¬ (b < (1 : Int32))) (by decide +kernel) i0 hbc) (own_all (fun b => ¬ (own_bc b = (1 : Int32)) → ¬ ((256 : Int32) < b)) (by decide +kernel) i0 hbc) hbc (own_all (fun b => ¬ (own_bc b = (1 : Int32)) → b ≠ (0 : Int32)) (by decide +kernel) i0 hbc) (own_maxJ _ _) (own_all (fun b => ¬ (own_bc b = (1 : Int32)) → (b.toInt64) ≠ (0 : Int64)) (by decide +kernel) i0 hbc) (own_all (fun b => ¬ (own_bc b = (1 : Int32)) → ¬ ((lcmpW ((2147483648 : Int64) % (b.toInt64)) (0 : Int64)) = (0 : Int32))) (by decide +kernel) i0 hbc) (own_maxJ _ _) (own_all (fun b => ¬ (own_bc b = (1 : Int32)) → (((own_max (b - (1 : Int32)) ((((-2147483648 : Int32) % b).toInt8.toInt32) &&& (255 : Int32))).toInt8.toInt32) &&& (255 : Int32)) = (own_max (b - (1 : Int32)) ((256 : Int32) - (((2147483648 : Int64) % (b.toInt64)).toInt32)))) (by decide +kernel) i0 hbc) p e ha hc hk s m _ below hf ((Spec.applies_iff_loose hf).mp happ).1 ⟨rfl, State.Warmed39.refl s, rfl⟩ trivial
    refine ⟨n, _, h1, h2, h3, hpost _ _ _ _ _ _ ⟨Cond.after_iff.mpr rfl, Cond.after_iff.mpr (eq_i res_at (Term.int_eval (1)) rfl), trivial⟩ ⟨hq.1, hq.2.1, hq.2.2.1, (hq.2.2.2.sift fun y hy => Or.inr (N y hy)).mono (by decide) (by decide)⟩⟩
  obtain ⟨n, o, h1, h2, h3, _, L, rfl, ⟨rfl, N⟩, hq⟩ := rm0pB l s _ hw tables_1 i0 i1 (own_max (((i0 &&& (255 : Int32)) + (1 : Int32)) - (1 : Int32)) ((((-2147483648 : Int32) % ((i0 &&& (255 : Int32)) + (1 : Int32))).toInt8.toInt32) &&& (255 : Int32))) (own_max (((i0 &&& (255 : Int32)) + (1 : Int32)) - (1 : Int32)) ((256 : Int32) - (((2147483648 : Int64) % (((i0 &&& (255 : Int32)) + (1 : Int32)).toInt64)).toInt32))) aU sC s.heap s.heap.size (Nat.le_refl _) sI sU sS nC (own_allc (fun c => ¬ ((255 : Int32) < (c.toUInt32.toUInt16.toUInt32.toInt32))) (by decide +kernel) i1) hneg (own_all (fun b => ¬ (own_bc b = (1 : Int32)) → ¬ (b < (1 : Int32))) (by decide +kernel) i0 hbc) (own_all (fun b => ¬ (own_bc b = (1 : Int32)) → ¬ ((256 : Int32) < b)) (by decide +kernel) i0 hbc) hbc (own_all (fun b => ¬ (own_bc b = (1 : Int32)) → b ≠ (0 : Int32)) (by decide +kernel) i0 hbc) (own_maxJ _ _) (own_all (fun b => ¬ (own_bc b = (1 : Int32)) → (b.toInt64) ≠ (0 : Int64)) (by decide +kernel) i0 hbc) (own_all (fun b => ¬ (own_bc b = (1 : Int32)) → ¬ ((lcmpW ((2147483648 : Int64) % (b.toInt64)) (0 : Int64)) = (0 : Int32))) (by decide +kernel) i0 hbc) (own_maxJ _ _) (own_all (fun b => ¬ (own_bc b = (1 : Int32)) → (((own_max (b - (1 : Int32)) ((((-2147483648 : Int32) % b).toInt8.toInt32) &&& (255 : Int32))).toInt8.toInt32) &&& (255 : Int32)) = (own_max (b - (1 : Int32)) ((256 : Int32) - (((2147483648 : Int64) % (b.toInt64)).toInt32)))) (by decide +kernel) i0 hbc) p e ha hc hk s m _ below hf ((Spec.applies_iff_loose hf).mp happ).1 ⟨rfl, State.Warmed39.refl s, rfl⟩ trivial
  refine ⟨n, _, h1, h2, h3, hpost _ _ _ _ _ _ ⟨Cond.after_iff.mpr rfl, Cond.after_iff.mpr (eq_i res_at (Term.int_eval (1)) rfl), trivial⟩ ⟨hq.1, hq.2.1, hq.2.2.1, (hq.2.2.2.sift fun y hy => Or.inr (N y hy)).mono (by decide) (by decide)⟩⟩
theorem main_1_1 : Claimed_1_1 := comes_1 fun _ _ _ _ _ _ h hF => ⟨h.1, hF⟩
theorem main_1_2 : Claimed_1_2 := comes_1 fun _ _ _ _ _ _ h hF => ⟨h.2.1, hF⟩
end Jvm.Pilot.@@N@@
namespace Jvm.Pilot.@@N@@
open Jvm Jvm.ClassFile Sem Op Lib Jvm.Free Jvm.Stand Jvm.Pilot.@@N@@.Jvm.D
/-! MADE BY PROGRAM (witnessworld.py) out of the Statement's table words and the real class files: 31 classes; the members and pool entries that the words name. The judged class is class 1, her method 1. -/
namespace start1
open Jvm.ClassFile
def u (s : String) : CpInfo := .utf8 (stringToUtf16 s)
/-- a pool by its gaps: so many unusable entries, then the entry; so many at the end -/
def gap : Nat → List CpInfo → List CpInfo
  | 0, r => r
  | n + 1, r => .unusable :: gap n r
def poolList (es : List (Nat × CpInfo)) (last : Nat) : List CpInfo := es.foldr (fun e r => gap e.1 (e.2 :: r)) (gap last [])
def pool (es : List (Nat × CpInfo)) (last : Nat) : Array CpInfo := ⟨poolList es last⟩
def fileOf (pool : Array CpInfo) (this : Nat) (attrs : Array Attribute := #[]) (ms : Array MethodInfo := #[]) (fl : Nat := 33) (sup : Nat := 0) (ifs : Array Nat := #[]) (fds : Array FieldInfo := #[]) : ClassFile where
  minorVersion := 0
  majorVersion := 65
  constantPool := pool
  accessFlags := fl
  thisClass := this
  superClass := sup
  interfaces := ifs
  fields := fds
  methods := ms
  attributes := attrs
def plain (name : String) (sup : Option ClassId) : Class where
  name := name
  kind := .ordinary
  loader := none
  accessFlags := 33
  super := sup
  interfaces := #[]
  cf := none
  fields := #[]
  methods := #[]
  instanceTypes := #[]
  staticTypes := #[]
  resolved := #[]
  callSites := []
  init := .initialized
  statics := none
  mirror := none

def pool0 : Array CpInfo := pool [(5, u "<init>"), (0, u "()V"), (1, .class_ 10), (1, u "java/lang/Object"), (85, u "clone"), (0, u "()Ljava/lang/Object;")] 26

def k0c0 : Code := { maxStack := 0, maxLocals := 1, code := object_method_1_code, exceptionTable := #[], attributes := #[] }
def k0m0 : Method := { name := "<init>", desc := "()V", sig := { parameters := [], returnType := none }, accessFlags := 1, code := some k0c0 }
def k0m1 : Method := { name := "clone", desc := "()Ljava/lang/Object;", sig := { parameters := [], returnType := some (.object "java/lang/Object") }, accessFlags := 260, code := none }
/-- java/lang/Object -/
def k0 : Class := { plain "java/lang/Object" none with
  accessFlags := 33
  interfaces := #[]
  cf := some (fileOf pool0 8 #[] #[{ accessFlags := 1, nameIndex := 5, descriptorIndex := 6, attributes := #[] }, { accessFlags := 260, nameIndex := 96, descriptorIndex := 97, attributes := #[] }] 33 0 #[] #[])
  fields := #[]
  methods := #[k0m0, k0m1]
  instanceTypes := #[]
  staticTypes := #[]
  resolved := Array.replicate 124 none
  statics := none }

def pool1 : Array CpInfo := pool [(2, .class_ 4), (1, u "java/lang/Object"), (0, u "<init>"), (0, u "()V"), (0, .methodref 8 9), (0, .class_ 10), (0, .nameAndType 11 12), (0, u "java/lang/String"), (0, u "valueOf"), (0, u "(C)Ljava/lang/String;"), (0, .class_ 14), (0, u "com/example/fireweed/fireweed/layout/Java31ByteSalt"), (0, .methodref 13 16), (0, .nameAndType 5 17), (0, u "(ILjava/lang/String;)V"), (0, .methodref 13 19), (0, .nameAndType 20 21), (0, u "highest"), (0, u "()[B"), (0, .methodref 23 24), (0, .class_ 25), (0, .nameAndType 26 27), (0, u "com/example/fireweed/fireweed/layout/Java31ByteSaltHighestPinLaw"), (0, u "expected"), (0, u "(I)I"), (0, .long 2147483648), (1, .methodref 31 32), (0, .class_ 33), (0, .nameAndType 34 35), (0, u "java/lang/Math"), (0, u "max"), (0, u "(II)I"), (2, u "law"), (0, u "(II)Z")] 5

def k1m0 : Method := { name := "<init>", desc := "()V", sig := { parameters := [], returnType := none }, accessFlags := 1, code := none }
def k1c1 : Code := { maxStack := 4, maxLocals := 6, code := code, exceptionTable := #[], attributes := #[] }
def k1m1 : Method := { name := "law", desc := "(II)Z", sig := { parameters := [.int, .int], returnType := some .boolean }, accessFlags := 9, code := some k1c1 }
def k1c2 : Code := { maxStack := 4, maxLocals := 5, code := method_3_code, exceptionTable := #[], attributes := #[] }
def k1m2 : Method := { name := "expected", desc := "(I)I", sig := { parameters := [.int], returnType := some .int }, accessFlags := 10, code := some k1c2 }
/-- com/example/fireweed/fireweed/layout/Java31ByteSaltHighestPinLaw -/
def k1 : Class := { plain "com/example/fireweed/fireweed/layout/Java31ByteSaltHighestPinLaw" (some 0) with
  accessFlags := 49
  interfaces := #[]
  cf := some (fileOf pool1 23 #[] #[{ accessFlags := 1, nameIndex := 5, descriptorIndex := 6, attributes := #[] }, { accessFlags := 9, nameIndex := 38, descriptorIndex := 39, attributes := #[] }, { accessFlags := 10, nameIndex := 26, descriptorIndex := 27, attributes := #[] }] 49 2 #[] #[])
  fields := #[]
  methods := #[k1m0, k1m1, k1m2]
  instanceTypes := #[]
  staticTypes := #[]
  resolved := Array.replicate 45 none
  statics := none }

def pool2 : Array CpInfo := pool [(1, .class_ 2), (0, u "java/io/Serializable"), (0, .class_ 4), (0, u "java/lang/Object")] 2

/-- java/io/Serializable -/
def k2 : Class := { plain "java/io/Serializable" (some 0) with
  accessFlags := 1537
  interfaces := #[]
  cf := some (fileOf pool2 1 #[] #[] 1537 3 #[] #[])
  fields := #[]
  methods := #[]
  instanceTypes := #[]
  staticTypes := #[]
  resolved := Array.replicate 7 none
  statics := none }

def pool3 : Array CpInfo := pool [(1, .class_ 2), (0, u "java/lang/Comparable"), (0, .class_ 4), (0, u "java/lang/Object")] 7

/-- java/lang/Comparable -/
def k3 : Class := { plain "java/lang/Comparable" (some 0) with
  accessFlags := 1537
  interfaces := #[]
  cf := some (fileOf pool3 1 #[] #[] 1537 3 #[] #[])
  fields := #[]
  methods := #[]
  instanceTypes := #[]
  staticTypes := #[]
  resolved := Array.replicate 12 none
  statics := none }

def pool4 : Array CpInfo := pool [(2, .class_ 4), (1, u "java/lang/CharSequence"), (42, .class_ 48), (0, u "java/lang/CharSequence$1CodePointIterator"), (10, .class_ 60), (0, u "java/lang/CharSequence$1CharIterator"), (5, .class_ 67), (0, u "java/lang/Object")] 63

/-- java/lang/CharSequence -/
def k4 : Class := { plain "java/lang/CharSequence" (some 0) with
  accessFlags := 1537
  interfaces := #[]
  cf := some (fileOf pool4 2 #[.nestMembers #[47, 59]] #[] 1537 66 #[] #[])
  fields := #[]
  methods := #[]
  instanceTypes := #[]
  staticTypes := #[]
  resolved := Array.replicate 131 none
  statics := none }

def pool5 : Array CpInfo := pool [(1, .class_ 2), (0, u "java/lang/constant/Constable"), (0, .class_ 4), (0, u "java/lang/Object")] 6

/-- java/lang/constant/Constable -/
def k5 : Class := { plain "java/lang/constant/Constable" (some 0) with
  accessFlags := 1537
  interfaces := #[]
  cf := some (fileOf pool5 1 #[] #[] 1537 3 #[] #[])
  fields := #[]
  methods := #[]
  instanceTypes := #[]
  staticTypes := #[]
  resolved := Array.replicate 11 none
  statics := none }

def pool6 : Array CpInfo := pool [(1, .class_ 2), (0, u "java/lang/constant/ConstantDesc"), (0, .class_ 4), (0, u "java/lang/Object")] 32

/-- java/lang/constant/ConstantDesc -/
def k6 : Class := { plain "java/lang/constant/ConstantDesc" (some 0) with
  accessFlags := 1537
  interfaces := #[]
  cf := some (fileOf pool6 1 #[] #[] 1537 3 #[] #[])
  fields := #[]
  methods := #[]
  instanceTypes := #[]
  staticTypes := #[]
  resolved := Array.replicate 37 none
  statics := none }

def pool7 : Array CpInfo := pool [(1, .methodref 2 3), (0, .class_ 4), (0, .nameAndType 5 6), (0, u "java/lang/Object"), (0, u "<init>"), (0, u "()V"), (2, .fieldref 10 11), (0, .class_ 12), (0, .nameAndType 13 14), (0, u "java/lang/String"), (0, u "value"), (0, u "[B"), (0, .fieldref 10 16), (0, .nameAndType 17 18), (0, u "coder"), (0, u "B"), (2, u "hash"), (0, u "I"), (2, u "hashIsZero"), (0, u "Z"), (11, .fieldref 10 39), (0, .nameAndType 40 26), (0, u "COMPACT_STRINGS"), (1, .class_ 44), (1, u "java/lang/StringUTF16"), (8, u "toBytes"), (6, .methodref 42 61), (0, .nameAndType 62 63), (0, u "newBytesFor"), (0, u "(I)[B"), (22, .fieldref 87 88), (0, .class_ 89), (0, .nameAndType 90 91), (0, u "sun/nio/cs/UTF_8"), (0, u "INSTANCE"), (0, u "Lsun/nio/cs/UTF_8;"), (1, .class_ 95), (1, u "java/lang/StringCoding"), (11, .class_ 109), (1, u "java/lang/StringLatin1"), (18, .methodref 93 129), (0, .nameAndType 130 131), (0, u "hasNegatives"), (0, u "([BII)Z"), (77, .methodref 10 210), (0, .nameAndType 5 211), (0, u "([BB)V"), (40, .methodref 10 253), (0, .nameAndType 254 255), (0, u "encodeUTF8"), (0, u "(B[BZ)[B"), (23, .methodref 280 281), (0, .class_ 14), (0, .nameAndType 282 283), (0, u "clone"), (0, u "()Ljava/lang/Object;"), (33, u "encode"), (17, .methodref 10 336), (0, .nameAndType 17 337), (0, u "()B"), (31, u "(C)Z"), (162, u "getBytes"), (2, .methodref 10 536), (0, .nameAndType 317 537), (0, u "(Ljava/nio/charset/Charset;B[B)[B"), (37, .class_ 576), (0, u "java/lang/CharSequence"), (22, u "CASE_INSENSITIVE_ORDER"), (0, u "Ljava/util/Comparator;"), (181, u "valueOf"), (0, u "(C)Ljava/lang/String;"), (231, .methodref 107 1016), (0, .nameAndType 1017 369), (0, u "canEncode"), (0, .methodref 107 1019), (0, .nameAndType 53 1020), (0, u "(C)[B"), (80, u "serialPersistentFields"), (0, u "[Ljava/io/ObjectStreamField;"), (0, .class_ 1104), (0, u "java/lang/String$CaseInsensitiveComparator"), (1, .class_ 1107), (0, u "java/io/Serializable"), (0, .class_ 1109), (0, u "java/lang/Comparable"), (0, .class_ 1111), (0, u "java/lang/constant/Constable"), (0, .class_ 1113), (0, u "java/lang/constant/ConstantDesc"), (2, u "serialVersionUID"), (0, u "J"), (3, u "REPL"), (0, u "C"), (2, u "LATIN1"), (1, u "UTF16"), (117, u "(Ljava/nio/charset/Charset;)[B")] 205

def k7m0 : Method := { name := "<init>", desc := "()V", sig := { parameters := [], returnType := none }, accessFlags := 1, code := none }
def k7c1 : Code := { maxStack := 4, maxLocals := 3, code := jdk_42_method_18_code, exceptionTable := #[], attributes := #[] }
def k7m1 : Method := { name := "encode", desc := "(Ljava/nio/charset/Charset;B[B)[B", sig := { parameters := [(.object "java/nio/charset/Charset"), .byte, (.array .byte)], returnType := some (.array .byte) }, accessFlags := 10, code := some k7c1 }
def k7c2 : Code := { maxStack := 5, maxLocals := 9, code := jdk_42_method_46_code, exceptionTable := #[], attributes := #[] }
def k7m2 : Method := { name := "encodeUTF8", desc := "(B[BZ)[B", sig := { parameters := [.byte, (.array .byte), .boolean], returnType := some (.array .byte) }, accessFlags := 10, code := some k7c2 }
def k7c3 : Code := { maxStack := 3, maxLocals := 2, code := jdk_42_method_64_code, exceptionTable := #[], attributes := #[] }
def k7m3 : Method := { name := "getBytes", desc := "(Ljava/nio/charset/Charset;)[B", sig := { parameters := [(.object "java/nio/charset/Charset")], returnType := some (.array .byte) }, accessFlags := 1, code := some k7c3 }
def k7c4 : Code := { maxStack := 4, maxLocals := 1, code := jdk_42_method_139_code, exceptionTable := #[], attributes := #[] }
def k7m4 : Method := { name := "valueOf", desc := "(C)Ljava/lang/String;", sig := { parameters := [.char], returnType := some (.object "java/lang/String") }, accessFlags := 9, code := some k7c4 }
def k7c5 : Code := { maxStack := 2, maxLocals := 3, code := jdk_42_method_151_code, exceptionTable := #[], attributes := #[] }
def k7m5 : Method := { name := "<init>", desc := "([BB)V", sig := { parameters := [(.array .byte), .byte], returnType := none }, accessFlags := 0, code := some k7c5 }
def k7c6 : Code := { maxStack := 1, maxLocals := 1, code := jdk_42_method_152_code, exceptionTable := #[], attributes := #[] }
def k7m6 : Method := { name := "coder", desc := "()B", sig := { parameters := [], returnType := some .byte }, accessFlags := 0, code := some k7c6 }
/-- java/lang/String -/
def k7 : Class := { plain "java/lang/String" (some 0) with
  accessFlags := 49
  interfaces := #[2, 3, 4, 5, 6]
  cf := some (fileOf pool7 10 #[.nestMembers #[1103]] #[{ accessFlags := 1, nameIndex := 5, descriptorIndex := 6, attributes := #[] }, { accessFlags := 10, nameIndex := 317, descriptorIndex := 537, attributes := #[] }, { accessFlags := 10, nameIndex := 254, descriptorIndex := 255, attributes := #[] }, { accessFlags := 1, nameIndex := 532, descriptorIndex := 1245, attributes := #[] }, { accessFlags := 9, nameIndex := 782, descriptorIndex := 783, attributes := #[] }, { accessFlags := 0, nameIndex := 5, descriptorIndex := 211, attributes := #[] }, { accessFlags := 0, nameIndex := 17, descriptorIndex := 337, attributes := #[] }] 49 2 #[1106, 1108, 575, 1110, 1112] #[{ accessFlags := 18, nameIndex := 13, descriptorIndex := 14, attributes := #[] }, { accessFlags := 18, nameIndex := 17, descriptorIndex := 18, attributes := #[] }, { accessFlags := 2, nameIndex := 21, descriptorIndex := 22, attributes := #[] }, { accessFlags := 2, nameIndex := 25, descriptorIndex := 26, attributes := #[] }, { accessFlags := 26, nameIndex := 1116, descriptorIndex := 1117, attributes := #[] }, { accessFlags := 24, nameIndex := 40, descriptorIndex := 26, attributes := #[] }, { accessFlags := 26, nameIndex := 1101, descriptorIndex := 1102, attributes := #[] }, { accessFlags := 26, nameIndex := 1121, descriptorIndex := 1122, attributes := #[] }, { accessFlags := 25, nameIndex := 599, descriptorIndex := 600, attributes := #[] }, { accessFlags := 24, nameIndex := 1125, descriptorIndex := 18, attributes := #[] }, { accessFlags := 24, nameIndex := 1127, descriptorIndex := 18, attributes := #[] }])
  fields := #[{ name := "value", type := (.array .byte), accessFlags := 18, slot := 0, constantValue := 0 }, { name := "coder", type := .byte, accessFlags := 18, slot := 1, constantValue := 0 }, { name := "hash", type := .int, accessFlags := 2, slot := 2, constantValue := 0 }, { name := "hashIsZero", type := .boolean, accessFlags := 2, slot := 3, constantValue := 0 }, { name := "serialVersionUID", type := .long, accessFlags := 26, slot := 0, constantValue := 0 }, { name := "COMPACT_STRINGS", type := .boolean, accessFlags := 24, slot := 1, constantValue := 0 }, { name := "serialPersistentFields", type := (.array (.object "java/io/ObjectStreamField")), accessFlags := 26, slot := 2, constantValue := 0 }, { name := "REPL", type := .char, accessFlags := 26, slot := 3, constantValue := 0 }, { name := "CASE_INSENSITIVE_ORDER", type := (.object "java/util/Comparator"), accessFlags := 25, slot := 4, constantValue := 0 }, { name := "LATIN1", type := .byte, accessFlags := 24, slot := 5, constantValue := 0 }, { name := "UTF16", type := .byte, accessFlags := 24, slot := 6, constantValue := 0 }]
  methods := #[k7m0, k7m1, k7m2, k7m3, k7m4, k7m5, k7m6]
  instanceTypes := #[(.array .byte), .byte, .int, .boolean]
  staticTypes := #[.long, .boolean, (.array (.object "java/io/ObjectStreamField")), .char, (.object "java/util/Comparator"), .byte, .byte]
  resolved := Array.replicate 1451 none
  statics := some 0 }

def pool8 : Array CpInfo := pool [(4, .class_ 6), (1, u "java/lang/Object"), (0, u "<init>"), (0, u "()V"), (5, .class_ 16), (1, u "java/lang/StringLatin1"), (73, u "canEncode"), (14, u "(C)Z"), (15, u "$assertionsDisabled"), (0, u "Z"), (98, .class_ 223), (1, u "java/lang/StringLatin1$LinesSpliterator"), (156, u "toBytes"), (1, u "(C)[B"), (7, .class_ 391), (0, u "java/lang/StringLatin1$CharsSpliterator")] 3

def k8m0 : Method := { name := "<init>", desc := "()V", sig := { parameters := [], returnType := none }, accessFlags := 0, code := none }
def k8c1 : Code := { maxStack := 2, maxLocals := 1, code := jdk_43_method_3_code, exceptionTable := #[], attributes := #[] }
def k8m1 : Method := { name := "canEncode", desc := "(C)Z", sig := { parameters := [.char], returnType := some .boolean }, accessFlags := 9, code := some k8c1 }
def k8c2 : Code := { maxStack := 4, maxLocals := 1, code := jdk_43_method_46_code, exceptionTable := #[], attributes := #[] }
def k8m2 : Method := { name := "toBytes", desc := "(C)[B", sig := { parameters := [.char], returnType := some (.array .byte) }, accessFlags := 9, code := some k8c2 }
/-- java/lang/StringLatin1 -/
def k8 : Class := { plain "java/lang/StringLatin1" (some 0) with
  accessFlags := 48
  interfaces := #[]
  cf := some (fileOf pool8 14 #[.nestMembers #[390, 221]] #[{ accessFlags := 0, nameIndex := 7, descriptorIndex := 8, attributes := #[] }, { accessFlags := 9, nameIndex := 90, descriptorIndex := 105, attributes := #[] }, { accessFlags := 9, nameIndex := 380, descriptorIndex := 382, attributes := #[] }] 48 4 #[] #[{ accessFlags := 4120, nameIndex := 121, descriptorIndex := 122, attributes := #[] }])
  fields := #[{ name := "$assertionsDisabled", type := .boolean, accessFlags := 4120, slot := 0, constantValue := 0 }]
  methods := #[k8m0, k8m1, k8m2]
  instanceTypes := #[]
  staticTypes := #[.boolean]
  resolved := Array.replicate 395 none
  statics := none }

def pool9 : Array CpInfo := pool [(1, .methodref 2 3), (0, .class_ 4), (0, .nameAndType 5 6), (0, u "java/lang/Object"), (0, u "<init>"), (0, u "()V"), (0, .string 8), (0, u "suffix"), (0, .methodref 10 11), (0, .class_ 12), (0, .nameAndType 13 14), (0, u "java/util/Objects"), (0, u "requireNonNull"), (0, u "(Ljava/lang/Object;Ljava/lang/String;)Ljava/lang/Object;"), (0, .class_ 16), (0, u "java/lang/String"), (0, .fieldref 18 19), (0, .class_ 20), (0, .nameAndType 8 21), (0, u "com/example/fireweed/fireweed/layout/Salt"), (0, u "Ljava/lang/String;"), (0, .fieldref 23 24), (0, .class_ 25), (0, .nameAndType 26 27), (0, u "java/nio/charset/StandardCharsets"), (0, u "UTF_8"), (0, u "Ljava/nio/charset/Charset;"), (0, .methodref 15 29), (0, .nameAndType 30 31), (0, u "getBytes"), (0, u "(Ljava/nio/charset/Charset;)[B"), (0, .fieldref 18 33), (0, .nameAndType 34 35), (0, u "suffixBytes"), (0, u "[B"), (63, u "MD5"), (0, u "Ljava/lang/ThreadLocal;"), (33, u "(Ljava/lang/String;)V")] 44

def k9c0 : Code := { maxStack := 3, maxLocals := 2, code := prog_11_method_1_code, exceptionTable := #[], attributes := #[] }
def k9m0 : Method := { name := "<init>", desc := "(Ljava/lang/String;)V", sig := { parameters := [(.object "java/lang/String")], returnType := none }, accessFlags := 0, code := some k9c0 }
/-- com/example/fireweed/fireweed/layout/Salt -/
def k9 : Class := { plain "com/example/fireweed/fireweed/layout/Salt" (some 0) with
  accessFlags := 1057
  interfaces := #[]
  cf := some (fileOf pool9 18 #[] #[{ accessFlags := 0, nameIndex := 5, descriptorIndex := 134, attributes := #[] }] 1057 2 #[] #[{ accessFlags := 26, nameIndex := 99, descriptorIndex := 100, attributes := #[] }, { accessFlags := 18, nameIndex := 8, descriptorIndex := 21, attributes := #[] }, { accessFlags := 18, nameIndex := 34, descriptorIndex := 35, attributes := #[] }])
  fields := #[{ name := "MD5", type := (.object "java/lang/ThreadLocal"), accessFlags := 26, slot := 0, constantValue := 0 }, { name := "suffix", type := (.object "java/lang/String"), accessFlags := 18, slot := 0, constantValue := 0 }, { name := "suffixBytes", type := (.array .byte), accessFlags := 18, slot := 1, constantValue := 0 }]
  methods := #[k9m0]
  instanceTypes := #[(.object "java/lang/String"), (.array .byte)]
  staticTypes := #[(.object "java/lang/ThreadLocal")]
  resolved := Array.replicate 179 none
  statics := none }

def pool10 : Array CpInfo := pool [(1, .methodref 2 3), (0, .class_ 4), (0, .nameAndType 5 6), (0, u "com/example/fireweed/fireweed/layout/Salt"), (0, u "<init>"), (0, u "(Ljava/lang/String;)V"), (1, .class_ 10), (1, u "com/example/fireweed/fireweed/layout/BucketSalt")] 56

def k10c0 : Code := { maxStack := 2, maxLocals := 2, code := prog_5_method_1_code, exceptionTable := #[], attributes := #[] }
def k10m0 : Method := { name := "<init>", desc := "(Ljava/lang/String;)V", sig := { parameters := [(.object "java/lang/String")], returnType := none }, accessFlags := 0, code := some k10c0 }
/-- com/example/fireweed/fireweed/layout/BucketSalt -/
def k10 : Class := { plain "com/example/fireweed/fireweed/layout/BucketSalt" (some 9) with
  accessFlags := 1057
  interfaces := #[]
  cf := some (fileOf pool10 8 #[] #[{ accessFlags := 0, nameIndex := 5, descriptorIndex := 6, attributes := #[] }] 1057 2 #[] #[])
  fields := #[]
  methods := #[k10m0]
  instanceTypes := #[(.object "java/lang/String"), (.array .byte)]
  staticTypes := #[]
  resolved := Array.replicate 67 none
  statics := none }

def pool11 : Array CpInfo := pool [(1, .class_ 2), (0, u "com/example/fireweed/fireweed/layout/Java31ByteSalt"), (0, .methodref 4 5), (0, .class_ 6), (0, .nameAndType 7 8), (0, u "com/example/fireweed/fireweed/layout/BucketSalt"), (0, u "<init>"), (0, u "(Ljava/lang/String;)V"), (7, .class_ 18), (1, u "java/lang/Integer"), (9, .fieldref 1 29), (0, .nameAndType 30 31), (0, u "buckets"), (0, u "I"), (0, .methodref 16 33), (0, .nameAndType 34 35), (0, u "bitCount"), (0, u "(I)I"), (0, .fieldref 1 37), (0, .nameAndType 38 31), (0, u "mask"), (0, .integer 2147483648), (0, .methodref 1 41), (0, .nameAndType 42 43), (0, u "saltOf"), (0, u "(I)B"), (0, .methodref 45 46), (0, .class_ 47), (0, .nameAndType 48 49), (0, u "java/lang/Byte"), (0, u "toUnsignedInt"), (0, u "(B)I"), (0, .fieldref 1 51), (0, .nameAndType 52 31), (0, u "overflow"), (9, u "(II)I"), (15, .methodref 79 80), (0, .class_ 81), (0, .nameAndType 82 62), (0, u "java/lang/Math"), (0, u "max"), (13, .methodref 79 97), (0, .nameAndType 98 35), (0, u "abs"), (0, u "KIND"), (0, u "Ljava/lang/String;"), (3, u "MAX_BUCKETS"), (1, u "MULTIPLIER"), (1, u "STEP"), (1, u "POWER_2"), (1, u "POWER_3"), (1, u "POWER_4"), (0, u "POWER_5"), (0, u "POWER_6"), (0, u "POWER_7"), (0, u "POWER_8"), (0, u "(ILjava/lang/String;)V"), (13, u "highest"), (0, u "()[B")] 10

def k11c0 : Code := { maxStack := 7, maxLocals := 3, code := prog_7_method_1_code, exceptionTable := #[], attributes := #[] }
def k11m0 : Method := { name := "<init>", desc := "(ILjava/lang/String;)V", sig := { parameters := [.int, (.object "java/lang/String")], returnType := none }, accessFlags := 1, code := some k11c0 }
def k11c1 : Code := { maxStack := 5, maxLocals := 1, code := prog_7_method_8_code, exceptionTable := #[], attributes := #[] }
def k11m1 : Method := { name := "highest", desc := "()[B", sig := { parameters := [], returnType := some (.array .byte) }, accessFlags := 1, code := some k11c1 }
def k11c2 : Code := { maxStack := 2, maxLocals := 3, code := prog_7_method_13_code, exceptionTable := #[], attributes := #[] }
def k11m2 : Method := { name := "saltOf", desc := "(I)B", sig := { parameters := [.int], returnType := some .byte }, accessFlags := 2, code := some k11c2 }
/-- com/example/fireweed/fireweed/layout/Java31ByteSalt -/
def k11 : Class := { plain "com/example/fireweed/fireweed/layout/Java31ByteSalt" (some 10) with
  accessFlags := 49
  interfaces := #[]
  cf := some (fileOf pool11 1 #[] #[{ accessFlags := 1, nameIndex := 7, descriptorIndex := 119, attributes := #[] }, { accessFlags := 1, nameIndex := 133, descriptorIndex := 134, attributes := #[] }, { accessFlags := 2, nameIndex := 42, descriptorIndex := 43, attributes := #[] }] 49 4 #[] #[{ accessFlags := 25, nameIndex := 99, descriptorIndex := 100, attributes := #[] }, { accessFlags := 25, nameIndex := 104, descriptorIndex := 31, attributes := #[] }, { accessFlags := 26, nameIndex := 106, descriptorIndex := 31, attributes := #[] }, { accessFlags := 26, nameIndex := 108, descriptorIndex := 31, attributes := #[] }, { accessFlags := 26, nameIndex := 110, descriptorIndex := 31, attributes := #[] }, { accessFlags := 26, nameIndex := 112, descriptorIndex := 31, attributes := #[] }, { accessFlags := 26, nameIndex := 114, descriptorIndex := 31, attributes := #[] }, { accessFlags := 26, nameIndex := 115, descriptorIndex := 31, attributes := #[] }, { accessFlags := 26, nameIndex := 116, descriptorIndex := 31, attributes := #[] }, { accessFlags := 26, nameIndex := 117, descriptorIndex := 31, attributes := #[] }, { accessFlags := 26, nameIndex := 118, descriptorIndex := 31, attributes := #[] }, { accessFlags := 18, nameIndex := 30, descriptorIndex := 31, attributes := #[] }, { accessFlags := 18, nameIndex := 38, descriptorIndex := 31, attributes := #[] }, { accessFlags := 18, nameIndex := 52, descriptorIndex := 31, attributes := #[] }])
  fields := #[{ name := "KIND", type := (.object "java/lang/String"), accessFlags := 25, slot := 0, constantValue := 0 }, { name := "MAX_BUCKETS", type := .int, accessFlags := 25, slot := 1, constantValue := 0 }, { name := "MULTIPLIER", type := .int, accessFlags := 26, slot := 2, constantValue := 0 }, { name := "STEP", type := .int, accessFlags := 26, slot := 3, constantValue := 0 }, { name := "POWER_2", type := .int, accessFlags := 26, slot := 4, constantValue := 0 }, { name := "POWER_3", type := .int, accessFlags := 26, slot := 5, constantValue := 0 }, { name := "POWER_4", type := .int, accessFlags := 26, slot := 6, constantValue := 0 }, { name := "POWER_5", type := .int, accessFlags := 26, slot := 7, constantValue := 0 }, { name := "POWER_6", type := .int, accessFlags := 26, slot := 8, constantValue := 0 }, { name := "POWER_7", type := .int, accessFlags := 26, slot := 9, constantValue := 0 }, { name := "POWER_8", type := .int, accessFlags := 26, slot := 10, constantValue := 0 }, { name := "buckets", type := .int, accessFlags := 18, slot := 2, constantValue := 0 }, { name := "mask", type := .int, accessFlags := 18, slot := 3, constantValue := 0 }, { name := "overflow", type := .int, accessFlags := 18, slot := 4, constantValue := 0 }]
  methods := #[k11m0, k11m1, k11m2]
  instanceTypes := #[(.object "java/lang/String"), (.array .byte), .int, .int, .int]
  staticTypes := #[(.object "java/lang/String"), .int, .int, .int, .int, .int, .int, .int, .int, .int, .int]
  resolved := Array.replicate 145 none
  statics := none }

def pool12 : Array CpInfo := pool [(2, .class_ 4), (1, u "java/lang/Object"), (0, u "<init>"), (0, u "()V"), (35, .class_ 44), (1, u "java/util/Objects"), (0, u "requireNonNull"), (48, u "(Ljava/lang/Object;Ljava/lang/String;)Ljava/lang/Object;")] 89

def k12m0 : Method := { name := "<init>", desc := "()V", sig := { parameters := [], returnType := none }, accessFlags := 2, code := none }
def k12c1 : Code := { maxStack := 3, maxLocals := 2, code := jdk_31_method_11_code, exceptionTable := #[], attributes := #[] }
def k12m1 : Method := { name := "requireNonNull", desc := "(Ljava/lang/Object;Ljava/lang/String;)Ljava/lang/Object;", sig := { parameters := [(.object "java/lang/Object"), (.object "java/lang/String")], returnType := some (.object "java/lang/Object") }, accessFlags := 9, code := some k12c1 }
/-- java/util/Objects -/
def k12 : Class := { plain "java/util/Objects" (some 0) with
  accessFlags := 49
  interfaces := #[]
  cf := some (fileOf pool12 42 #[] #[{ accessFlags := 2, nameIndex := 5, descriptorIndex := 6, attributes := #[] }, { accessFlags := 9, nameIndex := 45, descriptorIndex := 94, attributes := #[] }] 49 2 #[] #[])
  fields := #[]
  methods := #[k12m0, k12m1]
  instanceTypes := #[]
  staticTypes := #[]
  resolved := Array.replicate 184 none
  statics := none }

def pool13 : Array CpInfo := pool [(2, .class_ 4), (1, u "java/lang/Object"), (0, u "<init>"), (0, u "()V"), (14, .class_ 23), (1, u "java/nio/charset/StandardCharsets"), (0, u "US_ASCII"), (0, u "Ljava/nio/charset/Charset;"), (7, u "ISO_8859_1"), (7, u "UTF_8"), (5, u "UTF_16BE"), (5, u "UTF_16LE"), (5, u "UTF_16")] 8

def k13m0 : Method := { name := "<init>", desc := "()V", sig := { parameters := [], returnType := none }, accessFlags := 2, code := none }
/-- java/nio/charset/StandardCharsets -/
def k13 : Class := { plain "java/nio/charset/StandardCharsets" (some 0) with
  accessFlags := 49
  interfaces := #[]
  cf := some (fileOf pool13 21 #[] #[{ accessFlags := 2, nameIndex := 5, descriptorIndex := 6, attributes := #[] }] 49 2 #[] #[{ accessFlags := 25, nameIndex := 24, descriptorIndex := 25, attributes := #[] }, { accessFlags := 25, nameIndex := 33, descriptorIndex := 25, attributes := #[] }, { accessFlags := 25, nameIndex := 41, descriptorIndex := 25, attributes := #[] }, { accessFlags := 25, nameIndex := 47, descriptorIndex := 25, attributes := #[] }, { accessFlags := 25, nameIndex := 53, descriptorIndex := 25, attributes := #[] }, { accessFlags := 25, nameIndex := 59, descriptorIndex := 25, attributes := #[] }])
  fields := #[{ name := "US_ASCII", type := (.object "java/nio/charset/Charset"), accessFlags := 25, slot := 0, constantValue := 0 }, { name := "ISO_8859_1", type := (.object "java/nio/charset/Charset"), accessFlags := 25, slot := 1, constantValue := 0 }, { name := "UTF_8", type := (.object "java/nio/charset/Charset"), accessFlags := 25, slot := 2, constantValue := 0 }, { name := "UTF_16BE", type := (.object "java/nio/charset/Charset"), accessFlags := 25, slot := 3, constantValue := 0 }, { name := "UTF_16LE", type := (.object "java/nio/charset/Charset"), accessFlags := 25, slot := 4, constantValue := 0 }, { name := "UTF_16", type := (.object "java/nio/charset/Charset"), accessFlags := 25, slot := 5, constantValue := 0 }]
  methods := #[k13m0]
  instanceTypes := #[]
  staticTypes := #[(.object "java/nio/charset/Charset"), (.object "java/nio/charset/Charset"), (.object "java/nio/charset/Charset"), (.object "java/nio/charset/Charset"), (.object "java/nio/charset/Charset"), (.object "java/nio/charset/Charset")]
  resolved := Array.replicate 68 none
  statics := some 1 }

def pool14 : Array CpInfo := pool [(18, .class_ 20), (1, u "java/nio/charset/Charset"), (0, u "cache1"), (0, u "[Ljava/lang/Object;"), (2, u "cache2"), (0, .class_ 27), (0, u "java/lang/Object"), (0, .class_ 29), (0, u "java/nio/charset/Charset$1"), (4, .class_ 36), (1, u "java/nio/charset/Charset$ThreadTrackHolder"), (21, .class_ 59), (0, u "java/nio/charset/Charset$2"), (11, .class_ 73), (1, u "java/nio/charset/Charset$ExtendedProviderHolder"), (22, u "standardProvider"), (0, u "Ljava/nio/charset/spi/CharsetProvider;"), (29, u "name"), (7, .class_ 136), (0, u "java/nio/charset/Charset$3"), (5, u "defaultCharset"), (0, u "Ljava/nio/charset/Charset;"), (14, u "zeroAliases"), (0, u "[Ljava/lang/String;"), (29, u "Ljava/lang/String;"), (2, u "aliases"), (2, u "aliasSet"), (0, u "Ljava/util/Set;"), (82, .class_ 280), (0, u "java/lang/Comparable"), (84, .class_ 366), (0, u "java/nio/charset/Charset$ExtendedProviderHolder$1")] 3

/-- java/nio/charset/Charset -/
def k14 : Class := { plain "java/nio/charset/Charset" (some 0) with
  accessFlags := 1057
  interfaces := #[3]
  cf := some (fileOf pool14 18 #[.nestMembers #[71, 365, 34, 135, 58, 28]] #[] 1057 26 #[279] #[{ accessFlags := 26, nameIndex := 96, descriptorIndex := 97, attributes := #[] }, { accessFlags := 26, nameIndex := 158, descriptorIndex := 159, attributes := #[] }, { accessFlags := 74, nameIndex := 21, descriptorIndex := 22, attributes := #[] }, { accessFlags := 74, nameIndex := 25, descriptorIndex := 22, attributes := #[] }, { accessFlags := 10, nameIndex := 142, descriptorIndex := 143, attributes := #[] }, { accessFlags := 18, nameIndex := 127, descriptorIndex := 189, attributes := #[] }, { accessFlags := 18, nameIndex := 192, descriptorIndex := 159, attributes := #[] }, { accessFlags := 2, nameIndex := 195, descriptorIndex := 196, attributes := #[] }])
  fields := #[{ name := "standardProvider", type := (.object "java/nio/charset/spi/CharsetProvider"), accessFlags := 26, slot := 0, constantValue := 0 }, { name := "zeroAliases", type := (.array (.object "java/lang/String")), accessFlags := 26, slot := 1, constantValue := 0 }, { name := "cache1", type := (.array (.object "java/lang/Object")), accessFlags := 74, slot := 2, constantValue := 0 }, { name := "cache2", type := (.array (.object "java/lang/Object")), accessFlags := 74, slot := 3, constantValue := 0 }, { name := "defaultCharset", type := (.object "java/nio/charset/Charset"), accessFlags := 10, slot := 4, constantValue := 0 }, { name := "name", type := (.object "java/lang/String"), accessFlags := 18, slot := 0, constantValue := 0 }, { name := "aliases", type := (.array (.object "java/lang/String")), accessFlags := 18, slot := 1, constantValue := 0 }, { name := "aliasSet", type := (.object "java/util/Set"), accessFlags := 2, slot := 2, constantValue := 0 }]
  methods := #[]
  instanceTypes := #[(.object "java/lang/String"), (.array (.object "java/lang/String")), (.object "java/util/Set")]
  staticTypes := #[(.object "java/nio/charset/spi/CharsetProvider"), (.array (.object "java/lang/String")), (.array (.object "java/lang/Object")), (.array (.object "java/lang/Object")), (.object "java/nio/charset/Charset")]
  resolved := Array.replicate 370 none
  statics := none }

def pool15 : Array CpInfo := pool [(1, .class_ 2), (0, u "sun/nio/cs/HistoricallyNamedCharset"), (0, .class_ 4), (0, u "java/lang/Object")] 4

/-- sun/nio/cs/HistoricallyNamedCharset -/
def k15 : Class := { plain "sun/nio/cs/HistoricallyNamedCharset" (some 0) with
  accessFlags := 1537
  interfaces := #[]
  cf := some (fileOf pool15 1 #[] #[] 1537 3 #[] #[])
  fields := #[]
  methods := #[]
  instanceTypes := #[]
  staticTypes := #[]
  resolved := Array.replicate 9 none
  statics := none }

def pool16 : Array CpInfo := pool [(2, .class_ 4), (1, u "java/nio/charset/Charset"), (130, .class_ 136), (0, u "sun/nio/cs/Unicode"), (0, .class_ 138), (0, u "sun/nio/cs/HistoricallyNamedCharset")] 15

/-- sun/nio/cs/Unicode -/
def k16 : Class := { plain "sun/nio/cs/Unicode" (some 14) with
  accessFlags := 1056
  interfaces := #[15]
  cf := some (fileOf pool16 135 #[] #[] 1056 2 #[137] #[])
  fields := #[]
  methods := #[]
  instanceTypes := #[(.object "java/lang/String"), (.array (.object "java/lang/String")), (.object "java/util/Set")]
  staticTypes := #[]
  resolved := Array.replicate 154 none
  statics := none }

def pool17 : Array CpInfo := pool [(10, .class_ 12), (1, u "sun/nio/cs/Unicode"), (0, u "<init>"), (3, .class_ 18), (0, u "sun/nio/cs/UTF_8$Decoder"), (3, .class_ 23), (0, u "sun/nio/cs/UTF_8$Encoder"), (15, .class_ 40), (0, u "sun/nio/cs/UTF_8"), (2, u "()V"), (2, u "INSTANCE"), (0, u "Lsun/nio/cs/UTF_8;"), (8, u "JLA"), (0, u "Ljdk/internal/access/JavaLangAccess;")] 26

def k17m0 : Method := { name := "<init>", desc := "()V", sig := { parameters := [], returnType := none }, accessFlags := 1, code := none }
/-- sun/nio/cs/UTF_8 -/
def k17 : Class := { plain "sun/nio/cs/UTF_8" (some 16) with
  accessFlags := 49
  interfaces := #[]
  cf := some (fileOf pool17 39 #[.nestMembers #[22, 17]] #[{ accessFlags := 1, nameIndex := 13, descriptorIndex := 43, attributes := #[] }] 49 10 #[] #[{ accessFlags := 25, nameIndex := 46, descriptorIndex := 47, attributes := #[] }, { accessFlags := 26, nameIndex := 56, descriptorIndex := 57, attributes := #[] }])
  fields := #[{ name := "INSTANCE", type := (.object "sun/nio/cs/UTF_8"), accessFlags := 25, slot := 0, constantValue := 0 }, { name := "JLA", type := (.object "jdk/internal/access/JavaLangAccess"), accessFlags := 26, slot := 1, constantValue := 0 }]
  methods := #[k17m0]
  instanceTypes := #[(.object "java/lang/String"), (.array (.object "java/lang/String")), (.object "java/util/Set")]
  staticTypes := #[(.object "sun/nio/cs/UTF_8"), (.object "jdk/internal/access/JavaLangAccess")]
  resolved := Array.replicate 84 none
  statics := some 2 }

def pool18 : Array CpInfo := pool [(2, .class_ 4), (1, u "java/lang/Object"), (0, u "<init>"), (0, u "()V"), (0, .methodref 8 9), (0, .class_ 10), (0, .nameAndType 11 12), (0, u "java/lang/StringCoding"), (0, u "countPositives"), (0, u "([BII)I"), (11, u "hasNegatives"), (0, u "([BII)Z")] 23

def k18m0 : Method := { name := "<init>", desc := "()V", sig := { parameters := [], returnType := none }, accessFlags := 2, code := none }
def k18c1 : Code := { maxStack := 3, maxLocals := 3, code := jdk_123_method_2_code, exceptionTable := #[], attributes := #[] }
def k18m1 : Method := { name := "hasNegatives", desc := "([BII)Z", sig := { parameters := [(.array .byte), .int, .int], returnType := some .boolean }, accessFlags := 9, code := some k18c1 }
def k18c2 : Code := { maxStack := 2, maxLocals := 5, code := jdk_123_method_3_code, exceptionTable := #[], attributes := #[] }
def k18m2 : Method := { name := "countPositives", desc := "([BII)I", sig := { parameters := [(.array .byte), .int, .int], returnType := some .int }, accessFlags := 9, code := some k18c2 }
/-- java/lang/StringCoding -/
def k18 : Class := { plain "java/lang/StringCoding" (some 0) with
  accessFlags := 32
  interfaces := #[]
  cf := some (fileOf pool18 8 #[] #[{ accessFlags := 2, nameIndex := 5, descriptorIndex := 6, attributes := #[] }, { accessFlags := 9, nameIndex := 24, descriptorIndex := 25, attributes := #[] }, { accessFlags := 9, nameIndex := 11, descriptorIndex := 12, attributes := #[] }] 32 2 #[] #[])
  fields := #[]
  methods := #[k18m0, k18m1, k18m2]
  instanceTypes := #[]
  staticTypes := #[]
  resolved := Array.replicate 49 none
  statics := none }

def pool19 : Array CpInfo := pool [(1, .class_ 2), (0, u "java/lang/Cloneable"), (0, .class_ 4), (0, u "java/lang/Object")] 2

/-- java/lang/Cloneable -/
def k19 : Class := { plain "java/lang/Cloneable" (some 0) with
  accessFlags := 1537
  interfaces := #[]
  cf := some (fileOf pool19 1 #[] #[] 1537 3 #[] #[])
  fields := #[]
  methods := #[]
  instanceTypes := #[]
  staticTypes := #[]
  resolved := Array.replicate 7 none
  statics := none }

def pool20 : Array CpInfo := pool [(2, .class_ 4), (1, u "java/lang/Object"), (0, u "<init>"), (0, u "()V"), (1, .class_ 10), (1, u "java/lang/Number"), (2, .class_ 14), (0, u "java/io/Serializable"), (0, u "serialVersionUID"), (0, u "J")] 20

def k20m0 : Method := { name := "<init>", desc := "()V", sig := { parameters := [], returnType := none }, accessFlags := 1, code := none }
/-- java/lang/Number -/
def k20 : Class := { plain "java/lang/Number" (some 0) with
  accessFlags := 1057
  interfaces := #[2]
  cf := some (fileOf pool20 8 #[] #[{ accessFlags := 1, nameIndex := 5, descriptorIndex := 6, attributes := #[] }] 1057 2 #[13] #[{ accessFlags := 26, nameIndex := 15, descriptorIndex := 16, attributes := #[] }])
  fields := #[{ name := "serialVersionUID", type := .long, accessFlags := 26, slot := 0, constantValue := 0 }]
  methods := #[k20m0]
  instanceTypes := #[]
  staticTypes := #[.long]
  resolved := Array.replicate 37 none
  statics := none }

def pool21 : Array CpInfo := pool [(1, .class_ 2), (0, u "java/lang/Integer"), (16, u "digits"), (0, u "[C"), (33, u "(I)I"), (30, u "DigitOnes"), (0, u "[B"), (2, u "DigitTens"), (99, .class_ 190), (0, u "java/lang/Integer$IntegerCache"), (3, u "I"), (8, .class_ 204), (0, u "java/lang/Number"), (2, u "value"), (57, .integer 1431655765), (0, .integer 858993459), (0, .integer 252645135), (34, u "TYPE"), (0, u "Ljava/lang/Class;"), (0, .class_ 305), (0, u "java/lang/Comparable"), (0, .class_ 307), (0, u "java/lang/constant/Constable"), (0, .class_ 309), (0, u "java/lang/constant/ConstantDesc"), (0, u "MIN_VALUE"), (1, u "MAX_VALUE"), (3, u "SIZE"), (1, u "BYTES"), (1, u "serialVersionUID"), (0, u "J"), (85, u "bitCount")] 45

def k21c0 : Code := { maxStack := 3, maxLocals := 1, code := jdk_33_method_49_code, exceptionTable := #[], attributes := #[] }
def k21m0 : Method := { name := "bitCount", desc := "(I)I", sig := { parameters := [.int], returnType := some .int }, accessFlags := 9, code := some k21c0 }
/-- java/lang/Integer -/
def k21 : Class := { plain "java/lang/Integer" (some 20) with
  accessFlags := 49
  interfaces := #[3, 5, 6]
  cf := some (fileOf pool21 1 #[.nestMembers #[189]] #[{ accessFlags := 9, nameIndex := 407, descriptorIndex := 54, attributes := #[] }] 49 203 #[304, 306, 308] #[{ accessFlags := 25, nameIndex := 310, descriptorIndex := 194, attributes := #[] }, { accessFlags := 25, nameIndex := 312, descriptorIndex := 194, attributes := #[] }, { accessFlags := 25, nameIndex := 302, descriptorIndex := 303, attributes := #[] }, { accessFlags := 24, nameIndex := 19, descriptorIndex := 20, attributes := #[] }, { accessFlags := 24, nameIndex := 89, descriptorIndex := 86, attributes := #[] }, { accessFlags := 24, nameIndex := 85, descriptorIndex := 86, attributes := #[] }, { accessFlags := 18, nameIndex := 207, descriptorIndex := 194, attributes := #[] }, { accessFlags := 25, nameIndex := 316, descriptorIndex := 194, attributes := #[] }, { accessFlags := 25, nameIndex := 318, descriptorIndex := 194, attributes := #[] }, { accessFlags := 26, nameIndex := 320, descriptorIndex := 321, attributes := #[] }])
  fields := #[{ name := "MIN_VALUE", type := .int, accessFlags := 25, slot := 0, constantValue := 0 }, { name := "MAX_VALUE", type := .int, accessFlags := 25, slot := 1, constantValue := 0 }, { name := "TYPE", type := (.object "java/lang/Class"), accessFlags := 25, slot := 2, constantValue := 0 }, { name := "digits", type := (.array .char), accessFlags := 24, slot := 3, constantValue := 0 }, { name := "DigitTens", type := (.array .byte), accessFlags := 24, slot := 4, constantValue := 0 }, { name := "DigitOnes", type := (.array .byte), accessFlags := 24, slot := 5, constantValue := 0 }, { name := "value", type := .int, accessFlags := 18, slot := 0, constantValue := 0 }, { name := "SIZE", type := .int, accessFlags := 25, slot := 6, constantValue := 0 }, { name := "BYTES", type := .int, accessFlags := 25, slot := 7, constantValue := 0 }, { name := "serialVersionUID", type := .long, accessFlags := 26, slot := 8, constantValue := 0 }]
  methods := #[k21m0]
  instanceTypes := #[.int]
  staticTypes := #[.int, .int, (.object "java/lang/Class"), (.array .char), (.array .byte), (.array .byte), .int, .int, .long]
  resolved := Array.replicate 453 none
  statics := none }

def pool22 : Array CpInfo := pool [(1, .class_ 2), (0, u "java/lang/Math"), (1, .class_ 6), (1, u "java/lang/Object"), (0, u "<init>"), (0, u "()V"), (89, .class_ 100), (1, u "java/lang/Math$RandomNumberGeneratorHolder"), (23, u "abs"), (34, u "(I)I"), (12, u "negativeZeroFloatBits"), (0, u "J"), (2, u "negativeZeroDoubleBits"), (21, u "max"), (46, u "$assertionsDisabled"), (0, u "Z"), (88, u "(II)I"), (2, u "twoToTheDoubleScaleDown"), (0, u "D"), (4, u "twoToTheDoubleScaleUp"), (9, u "E"), (3, u "PI"), (2, u "TAU"), (2, u "DEGREES_TO_RADIANS"), (0, u "RADIANS_TO_DEGREES")] 94

def k22m0 : Method := { name := "<init>", desc := "()V", sig := { parameters := [], returnType := none }, accessFlags := 2, code := none }
def k22c1 : Code := { maxStack := 1, maxLocals := 1, code := jdk_29_method_59_code, exceptionTable := #[], attributes := #[] }
def k22m1 : Method := { name := "abs", desc := "(I)I", sig := { parameters := [.int], returnType := some .int }, accessFlags := 9, code := some k22c1 }
def k22c2 : Code := { maxStack := 2, maxLocals := 2, code := jdk_29_method_65_code, exceptionTable := #[], attributes := #[] }
def k22m2 : Method := { name := "max", desc := "(II)I", sig := { parameters := [.int, .int], returnType := some .int }, accessFlags := 9, code := some k22c2 }
/-- java/lang/Math -/
def k22 : Class := { plain "java/lang/Math" (some 0) with
  accessFlags := 49
  interfaces := #[]
  cf := some (fileOf pool22 1 #[.nestMembers #[98]] #[{ accessFlags := 2, nameIndex := 7, descriptorIndex := 8, attributes := #[] }, { accessFlags := 9, nameIndex := 124, descriptorIndex := 159, attributes := #[] }, { accessFlags := 9, nameIndex := 198, descriptorIndex := 335, attributes := #[] }] 49 4 #[] #[{ accessFlags := 25, nameIndex := 354, descriptorIndex := 339, attributes := #[] }, { accessFlags := 25, nameIndex := 358, descriptorIndex := 339, attributes := #[] }, { accessFlags := 25, nameIndex := 361, descriptorIndex := 339, attributes := #[] }, { accessFlags := 26, nameIndex := 364, descriptorIndex := 339, attributes := #[] }, { accessFlags := 26, nameIndex := 365, descriptorIndex := 339, attributes := #[] }, { accessFlags := 26, nameIndex := 172, descriptorIndex := 173, attributes := #[] }, { accessFlags := 26, nameIndex := 176, descriptorIndex := 173, attributes := #[] }, { accessFlags := 8, nameIndex := 344, descriptorIndex := 339, attributes := #[] }, { accessFlags := 8, nameIndex := 338, descriptorIndex := 339, attributes := #[] }, { accessFlags := 4120, nameIndex := 245, descriptorIndex := 246, attributes := #[] }])
  fields := #[{ name := "E", type := .double, accessFlags := 25, slot := 0, constantValue := 0 }, { name := "PI", type := .double, accessFlags := 25, slot := 1, constantValue := 0 }, { name := "TAU", type := .double, accessFlags := 25, slot := 2, constantValue := 0 }, { name := "DEGREES_TO_RADIANS", type := .double, accessFlags := 26, slot := 3, constantValue := 0 }, { name := "RADIANS_TO_DEGREES", type := .double, accessFlags := 26, slot := 4, constantValue := 0 }, { name := "negativeZeroFloatBits", type := .long, accessFlags := 26, slot := 5, constantValue := 0 }, { name := "negativeZeroDoubleBits", type := .long, accessFlags := 26, slot := 6, constantValue := 0 }, { name := "twoToTheDoubleScaleUp", type := .double, accessFlags := 8, slot := 7, constantValue := 0 }, { name := "twoToTheDoubleScaleDown", type := .double, accessFlags := 8, slot := 8, constantValue := 0 }, { name := "$assertionsDisabled", type := .boolean, accessFlags := 4120, slot := 9, constantValue := 0 }]
  methods := #[k22m0, k22m1, k22m2]
  instanceTypes := #[]
  staticTypes := #[.double, .double, .double, .double, .double, .long, .long, .double, .double, .boolean]
  resolved := Array.replicate 460 none
  statics := none }

def pool23 : Array CpInfo := pool [(1, .class_ 2), (0, u "java/lang/Byte"), (41, .class_ 46), (1, u "java/lang/Byte$ByteCache"), (51, .class_ 99), (0, u "java/lang/Number"), (2, u "value"), (0, u "B"), (3, u "(B)I"), (10, u "toUnsignedInt"), (16, u "TYPE"), (0, u "Ljava/lang/Class;"), (0, .class_ 138), (0, u "java/lang/Comparable"), (0, .class_ 140), (0, u "java/lang/constant/Constable"), (0, u "MIN_VALUE"), (2, u "MAX_VALUE"), (3, u "SIZE"), (0, u "I"), (1, u "BYTES"), (1, u "serialVersionUID"), (0, u "J")] 58

def k23c0 : Code := { maxStack := 2, maxLocals := 1, code := jdk_2056_method_24_code, exceptionTable := #[], attributes := #[] }
def k23m0 : Method := { name := "toUnsignedInt", desc := "(B)I", sig := { parameters := [.byte], returnType := some .int }, accessFlags := 9, code := some k23c0 }
/-- java/lang/Byte -/
def k23 : Class := { plain "java/lang/Byte" (some 20) with
  accessFlags := 49
  interfaces := #[3, 5]
  cf := some (fileOf pool23 1 #[.nestMembers #[44]] #[{ accessFlags := 9, nameIndex := 118, descriptorIndex := 107, attributes := #[] }] 49 98 #[137, 139] #[{ accessFlags := 25, nameIndex := 141, descriptorIndex := 103, attributes := #[] }, { accessFlags := 25, nameIndex := 144, descriptorIndex := 103, attributes := #[] }, { accessFlags := 25, nameIndex := 135, descriptorIndex := 136, attributes := #[] }, { accessFlags := 18, nameIndex := 102, descriptorIndex := 103, attributes := #[] }, { accessFlags := 25, nameIndex := 148, descriptorIndex := 149, attributes := #[] }, { accessFlags := 25, nameIndex := 151, descriptorIndex := 149, attributes := #[] }, { accessFlags := 26, nameIndex := 153, descriptorIndex := 154, attributes := #[] }])
  fields := #[{ name := "MIN_VALUE", type := .byte, accessFlags := 25, slot := 0, constantValue := 0 }, { name := "MAX_VALUE", type := .byte, accessFlags := 25, slot := 1, constantValue := 0 }, { name := "TYPE", type := (.object "java/lang/Class"), accessFlags := 25, slot := 2, constantValue := 0 }, { name := "value", type := .byte, accessFlags := 18, slot := 0, constantValue := 0 }, { name := "SIZE", type := .int, accessFlags := 25, slot := 3, constantValue := 0 }, { name := "BYTES", type := .int, accessFlags := 25, slot := 4, constantValue := 0 }, { name := "serialVersionUID", type := .long, accessFlags := 26, slot := 5, constantValue := 0 }]
  methods := #[k23m0]
  instanceTypes := #[.byte]
  staticTypes := #[.byte, .byte, (.object "java/lang/Class"), .int, .int, .long]
  resolved := Array.replicate 213 none
  statics := none }

def pool24 : Array CpInfo := pool [(6, .class_ 8), (1, u "java/lang/Object"), (0, u "<init>"), (0, u "()V"), (0, .methodref 12 13), (0, .class_ 14), (0, .nameAndType 15 16), (0, u "java/lang/StringUTF16"), (0, u "newBytesLength"), (0, u "(I)I"), (3, .integer 1073741823), (25, u "$assertionsDisabled"), (0, u "Z"), (13, u "HI_BYTE_SHIFT"), (0, u "I"), (2, u "LO_BYTE_SHIFT"), (43, u "newBytesFor"), (0, u "(I)[B"), (258, .class_ 371), (1, u "java/lang/StringUTF16$LinesSpliterator"), (58, u "MAX_LENGTH"), (196, .class_ 628), (0, u "java/lang/StringUTF16$CodePointsSpliterator"), (0, .class_ 630), (0, u "java/lang/StringUTF16$CharsSpliterator")] 4

def k24m0 : Method := { name := "<init>", desc := "()V", sig := { parameters := [], returnType := none }, accessFlags := 0, code := none }
def k24c1 : Code := { maxStack := 1, maxLocals := 1, code := jdk_52_method_2_code, exceptionTable := #[], attributes := #[] }
def k24m1 : Method := { name := "newBytesFor", desc := "(I)[B", sig := { parameters := [.int], returnType := some (.array .byte) }, accessFlags := 9, code := some k24c1 }
def k24c2 : Code := { maxStack := 4, maxLocals := 1, code := jdk_52_method_3_code, exceptionTable := #[], attributes := #[] }
def k24m2 : Method := { name := "newBytesLength", desc := "(I)I", sig := { parameters := [.int], returnType := some .int }, accessFlags := 9, code := some k24c2 }
/-- java/lang/StringUTF16 -/
def k24 : Class := { plain "java/lang/StringUTF16" (some 0) with
  accessFlags := 48
  interfaces := #[]
  cf := some (fileOf pool24 12 #[.nestMembers #[627, 629, 369]] #[{ accessFlags := 0, nameIndex := 9, descriptorIndex := 10, attributes := #[] }, { accessFlags := 9, nameIndex := 109, descriptorIndex := 110, attributes := #[] }, { accessFlags := 9, nameIndex := 15, descriptorIndex := 16, attributes := #[] }] 48 6 #[] #[{ accessFlags := 26, nameIndex := 61, descriptorIndex := 62, attributes := #[] }, { accessFlags := 26, nameIndex := 65, descriptorIndex := 62, attributes := #[] }, { accessFlags := 24, nameIndex := 430, descriptorIndex := 62, attributes := #[] }, { accessFlags := 4120, nameIndex := 46, descriptorIndex := 47, attributes := #[] }])
  fields := #[{ name := "HI_BYTE_SHIFT", type := .int, accessFlags := 26, slot := 0, constantValue := 0 }, { name := "LO_BYTE_SHIFT", type := .int, accessFlags := 26, slot := 1, constantValue := 0 }, { name := "MAX_LENGTH", type := .int, accessFlags := 24, slot := 2, constantValue := 0 }, { name := "$assertionsDisabled", type := .boolean, accessFlags := 4120, slot := 3, constantValue := 0 }]
  methods := #[k24m0, k24m1, k24m2]
  instanceTypes := #[]
  staticTypes := #[.int, .int, .int, .boolean]
  resolved := Array.replicate 635 none
  statics := none }

def pool25 : Array CpInfo := pool [(2, .class_ 4), (1, u "java/lang/Object"), (0, u "<init>"), (0, u "()V"), (17, .class_ 26), (1, u "jdk/internal/util/Preconditions"), (28, .class_ 56), (0, u "jdk/internal/util/Preconditions$4"), (57, .class_ 115), (0, u "jdk/internal/util/Preconditions$1"), (7, u "SIOOBE_FORMATTER"), (0, u "Ljava/util/function/BiFunction;"), (0, .class_ 126), (0, u "jdk/internal/util/Preconditions$2"), (3, u "AIOOBE_FORMATTER"), (0, .class_ 132), (0, u "jdk/internal/util/Preconditions$3"), (3, u "IOOBE_FORMATTER")] 57

def k25m0 : Method := { name := "<init>", desc := "()V", sig := { parameters := [], returnType := none }, accessFlags := 1, code := none }
/-- jdk/internal/util/Preconditions -/
def k25 : Class := { plain "jdk/internal/util/Preconditions" (some 0) with
  accessFlags := 33
  interfaces := #[]
  cf := some (fileOf pool25 24 #[.nestMembers #[55, 131, 125, 114]] #[{ accessFlags := 1, nameIndex := 5, descriptorIndex := 6, attributes := #[] }] 33 2 #[] #[{ accessFlags := 25, nameIndex := 123, descriptorIndex := 124, attributes := #[] }, { accessFlags := 25, nameIndex := 130, descriptorIndex := 124, attributes := #[] }, { accessFlags := 25, nameIndex := 136, descriptorIndex := 124, attributes := #[] }])
  fields := #[{ name := "SIOOBE_FORMATTER", type := (.object "java/util/function/BiFunction"), accessFlags := 25, slot := 0, constantValue := 0 }, { name := "AIOOBE_FORMATTER", type := (.object "java/util/function/BiFunction"), accessFlags := 25, slot := 1, constantValue := 0 }, { name := "IOOBE_FORMATTER", type := (.object "java/util/function/BiFunction"), accessFlags := 25, slot := 2, constantValue := 0 }]
  methods := #[k25m0]
  instanceTypes := #[]
  staticTypes := #[(.object "java/util/function/BiFunction"), (.object "java/util/function/BiFunction"), (.object "java/util/function/BiFunction")]
  resolved := Array.replicate 194 none
  statics := some 3 }

def pool26 : Array CpInfo := pool [(9, u "<init>"), (6, .class_ 18), (1, u "java/lang/Object"), (0, u "()V"), (1, .class_ 23), (1, u "jdk/internal/util/ArraysSupport"), (0, u "LOG2_ARRAY_LONG_INDEX_SCALE"), (0, u "I"), (2, u "U"), (0, u "Ljdk/internal/misc/Unsafe;"), (8, u "BIG_ENDIAN"), (0, u "Z"), (8, u "LOG2_BYTE_BIT_SIZE"), (4, u "LOG2_ARRAY_INT_INDEX_SCALE"), (54, u "JLA"), (0, u "Ljdk/internal/access/JavaLangAccess;"), (11, u "LOG2_ARRAY_BOOLEAN_INDEX_SCALE"), (9, u "LOG2_ARRAY_BYTE_INDEX_SCALE"), (5, u "LOG2_ARRAY_CHAR_INDEX_SCALE"), (5, u "LOG2_ARRAY_SHORT_INDEX_SCALE"), (18, u "LOG2_ARRAY_FLOAT_INDEX_SCALE"), (24, u "LOG2_ARRAY_DOUBLE_INDEX_SCALE"), (89, u "T_BOOLEAN"), (2, u "T_CHAR"), (1, u "T_FLOAT"), (1, u "T_DOUBLE"), (1, u "T_BYTE"), (1, u "T_SHORT"), (1, u "T_INT"), (1, u "T_LONG"), (1, u "SOFT_MAX_ARRAY_LENGTH")] 83

def k26m0 : Method := { name := "<init>", desc := "()V", sig := { parameters := [], returnType := none }, accessFlags := 2, code := none }
/-- jdk/internal/util/ArraysSupport -/
def k26 : Class := { plain "jdk/internal/util/ArraysSupport" (some 0) with
  accessFlags := 33
  interfaces := #[]
  cf := some (fileOf pool26 21 #[] #[{ accessFlags := 2, nameIndex := 9, descriptorIndex := 19, attributes := #[] }] 33 16 #[] #[{ accessFlags := 24, nameIndex := 28, descriptorIndex := 29, attributes := #[] }, { accessFlags := 26, nameIndex := 38, descriptorIndex := 39, attributes := #[] }, { accessFlags := 25, nameIndex := 121, descriptorIndex := 25, attributes := #[] }, { accessFlags := 25, nameIndex := 131, descriptorIndex := 25, attributes := #[] }, { accessFlags := 25, nameIndex := 137, descriptorIndex := 25, attributes := #[] }, { accessFlags := 25, nameIndex := 143, descriptorIndex := 25, attributes := #[] }, { accessFlags := 25, nameIndex := 53, descriptorIndex := 25, attributes := #[] }, { accessFlags := 25, nameIndex := 24, descriptorIndex := 25, attributes := #[] }, { accessFlags := 25, nameIndex := 162, descriptorIndex := 25, attributes := #[] }, { accessFlags := 25, nameIndex := 187, descriptorIndex := 25, attributes := #[] }, { accessFlags := 26, nameIndex := 48, descriptorIndex := 25, attributes := #[] }, { accessFlags := 25, nameIndex := 277, descriptorIndex := 25, attributes := #[] }, { accessFlags := 25, nameIndex := 280, descriptorIndex := 25, attributes := #[] }, { accessFlags := 25, nameIndex := 282, descriptorIndex := 25, attributes := #[] }, { accessFlags := 25, nameIndex := 284, descriptorIndex := 25, attributes := #[] }, { accessFlags := 25, nameIndex := 286, descriptorIndex := 25, attributes := #[] }, { accessFlags := 25, nameIndex := 288, descriptorIndex := 25, attributes := #[] }, { accessFlags := 25, nameIndex := 290, descriptorIndex := 25, attributes := #[] }, { accessFlags := 25, nameIndex := 292, descriptorIndex := 25, attributes := #[] }, { accessFlags := 26, nameIndex := 108, descriptorIndex := 109, attributes := #[] }, { accessFlags := 25, nameIndex := 294, descriptorIndex := 25, attributes := #[] }])
  fields := #[{ name := "U", type := (.object "jdk/internal/misc/Unsafe"), accessFlags := 24, slot := 0, constantValue := 0 }, { name := "BIG_ENDIAN", type := .boolean, accessFlags := 26, slot := 1, constantValue := 0 }, { name := "LOG2_ARRAY_BOOLEAN_INDEX_SCALE", type := .int, accessFlags := 25, slot := 2, constantValue := 0 }, { name := "LOG2_ARRAY_BYTE_INDEX_SCALE", type := .int, accessFlags := 25, slot := 3, constantValue := 0 }, { name := "LOG2_ARRAY_CHAR_INDEX_SCALE", type := .int, accessFlags := 25, slot := 4, constantValue := 0 }, { name := "LOG2_ARRAY_SHORT_INDEX_SCALE", type := .int, accessFlags := 25, slot := 5, constantValue := 0 }, { name := "LOG2_ARRAY_INT_INDEX_SCALE", type := .int, accessFlags := 25, slot := 6, constantValue := 0 }, { name := "LOG2_ARRAY_LONG_INDEX_SCALE", type := .int, accessFlags := 25, slot := 7, constantValue := 0 }, { name := "LOG2_ARRAY_FLOAT_INDEX_SCALE", type := .int, accessFlags := 25, slot := 8, constantValue := 0 }, { name := "LOG2_ARRAY_DOUBLE_INDEX_SCALE", type := .int, accessFlags := 25, slot := 9, constantValue := 0 }, { name := "LOG2_BYTE_BIT_SIZE", type := .int, accessFlags := 26, slot := 10, constantValue := 0 }, { name := "T_BOOLEAN", type := .int, accessFlags := 25, slot := 11, constantValue := 0 }, { name := "T_CHAR", type := .int, accessFlags := 25, slot := 12, constantValue := 0 }, { name := "T_FLOAT", type := .int, accessFlags := 25, slot := 13, constantValue := 0 }, { name := "T_DOUBLE", type := .int, accessFlags := 25, slot := 14, constantValue := 0 }, { name := "T_BYTE", type := .int, accessFlags := 25, slot := 15, constantValue := 0 }, { name := "T_SHORT", type := .int, accessFlags := 25, slot := 16, constantValue := 0 }, { name := "T_INT", type := .int, accessFlags := 25, slot := 17, constantValue := 0 }, { name := "T_LONG", type := .int, accessFlags := 25, slot := 18, constantValue := 0 }, { name := "JLA", type := (.object "jdk/internal/access/JavaLangAccess"), accessFlags := 26, slot := 19, constantValue := 0 }, { name := "SOFT_MAX_ARRAY_LENGTH", type := .int, accessFlags := 25, slot := 20, constantValue := 0 }]
  methods := #[k26m0]
  instanceTypes := #[]
  staticTypes := #[(.object "jdk/internal/misc/Unsafe"), .boolean, .int, .int, .int, .int, .int, .int, .int, .int, .int, .int, .int, .int, .int, .int, .int, .int, .int, (.object "jdk/internal/access/JavaLangAccess"), .int]
  resolved := Array.replicate 378 none
  statics := none }

/-- the primitive byte -/
def k27 : Class := { plain "byte" none with kind := .primitive 'B', accessFlags := 0x411 }
/-- [B -/
def k28 : Class := { plain "[B" (some 0) with kind := .array 27 .byte, interfaces := #[19, 2], accessFlags := 1041 }

/-- the primitive int -/
def k29 : Class := { plain "int" none with kind := .primitive 'I', accessFlags := 0x411 }
/-- [I -/
def k30 : Class := { plain "[I" (some 0) with kind := .array 29 .int, interfaces := #[19, 2], accessFlags := 1041 }

def heap : Heap := #[{ cls := 7, slots := #[.long 0, .int 1, .null, .int 0, .null, .int 0, .int 0], vm := .statics 7 },
  { cls := 13, slots := #[.null, .null, .ref 4, .null, .null, .null], vm := .statics 13 },
  { cls := 17, slots := #[.ref 4, .null], vm := .statics 17 },
  { cls := 25, slots := #[.null, .null, .null], vm := .statics 25 },
  { cls := 17, slots := #[.null, .null, .null], vm := .none }]
def classes : Array Class := #[k0, k1, k2, k3, k4, k5, k6, k7, k8, k9, k10, k11, k12, k13, k14, k15, k16, k17, k18, k19, k20, k21, k22, k23, k24, k25, k26, k27, k28, k29, k30]
def interned : List (Array UInt16 × Addr) := []
def slotsUsed : Nat := 21
def theMethod : MethodId := ⟨1, 1⟩
def args0 : Array Value := #[.int 5, .int 7]
def aboutOver (below : List Frame) : State where
  vm := { classes := classes, interned := interned.toArray }
  heap := heap
  slotsUsed := slotsUsed
  threads := #[{ frames := .invoking theMethod args0 :: below }]
def below0 : List Frame := [.native { method := ⟨0, 0⟩, args := #[] }]
def about1 : State := aboutOver below0
def p0 : Program := .bare "" "" ""
def e0 : Env := launch0.env 0 0 0
theorem w_frames : about1.frames = Frame.invoking theMethod args0 :: below0 := rfl
set_option maxRecDepth 65536 in
theorem w_args : argsFit about1.vm theMethod args0 = true := by decide +kernel
set_option maxRecDepth 65536 in
theorem w_heap : heapFits about1 = true := by decide +kernel
set_option maxRecDepth 65536 in
theorem w_runnable : about1.curStatus? = some .runnable := by decide +kernel
set_option maxRecDepth 65536 in
theorem w_alone : about1.alone = true := by decide +kernel
set_option maxRecDepth 65536 in
theorem w_named : about1.methodNamed? x = some theMethod := by decide +kernel
set_option maxRecDepth 65536 in
theorem w_hears : about1.hears theMethod below0 = true := by decide +kernel
set_option maxRecDepth 65536 in
theorem w_ripe : about1.ripe theMethod args0 below0 = true := by decide +kernel
theorem w_running : about1.status = .running := rfl
set_option maxRecDepth 65536 in
theorem w_room : about1.hasRoom e0.platform room_1 = true :=
  launch0.hasRoom_least _ room_1 (by decide +kernel) (by decide +kernel) (by decide +kernel) (by decide +kernel) (by decide +kernel) (by decide +kernel)
theorem allAtoms_all (ts : List Jvm.Cond) (a : Array Jvm.Value) (st : Jvm.State) : (allAtoms ts).before a st = ts.all (fun c => c.before a st) := by
  induction ts with
  | nil => rfl
  | cons c t ih =>
    show (Jvm.Cond.and c (allAtoms t)).before a st = _
    rw [Jvm.Cond.before_and, ih, List.all_cons]
def words1 : List Jvm.Cond := Jvm.Cond.code x code maxLocals ret :: tables_1
/-- a 'code' word, met by the world's own term for the bytes: nothing is compared byte by byte -/
theorem code_word {y : MethodName} {bytes : ByteArray} {mx : Nat} {rt : Option FieldType} {a : Array Value} {s : State} {m : MethodId} {meth : Method} {c : Code} (h1 : s.methodNamed? y = some m) (h2 : s.vm.method? m = some meth) (h3 : meth.code = some c) (h4 : c.code = bytes)
    (h5 : (c.maxLocals == mx && c.exceptionTable.isEmpty && decide (c.maxStack ≤ mostOperands) && decide (meth.sig.returnType = rt) && !meth.locks && decide (parseMethodDescriptor y.desc = some meth.sig)) = true) : (Jvm.Cond.code y bytes mx rt).before a s = true := by
  simp only [Bool.and_eq_true, beq_iff_eq, Bool.not_eq_true', decide_eq_true_eq] at h5
  obtain ⟨⟨⟨⟨⟨g1, g2⟩, g3⟩, g4⟩, g5⟩, g6⟩ := h5
  simp [Cond.before, Cond.holds, Cond.value, h1, h2, h3, h4, g1, g2, g3, g4, g5, g6]
def isCode : Jvm.Cond → Bool
  | .code _ _ _ _ => true
  | _ => false
theorem all_split {L : List Jvm.Cond} {P : Jvm.Cond → Bool} (h1 : L.all (fun c => isCode c || P c) = true) (h2 : ∀ c ∈ L.filter isCode, P c = true) : L.all P = true := by
  refine List.all_eq_true.mpr fun c hc => ?_
  have h := List.all_eq_true.mp h1 c hc
  rcases Bool.eq_false_or_eq_true (isCode c) with hi | hi
  · exact h2 c (List.mem_filter.mpr ⟨hc, hi⟩)
  · simpa [hi] using h
set_option maxRecDepth 65536 in
theorem w_c0 : (Jvm.Cond.code x code maxLocals ret).before args0 about1 = true := code_word (m := ⟨1, 1⟩) (meth := k1m1) (c := k1c1) (by decide +kernel) rfl rfl rfl (by decide +kernel)
set_option maxRecDepth 65536 in
theorem w_c1 : (Jvm.Cond.code ({ cls := "java/lang/String", name := "valueOf", desc := "(C)Ljava/lang/String;" } : Jvm.MethodName) jdk_42_method_139_code (1 : Nat) (Option.some (Jvm.ClassFile.FieldType.object "java/lang/String"))).before args0 about1 = true := code_word (m := ⟨7, 4⟩) (meth := k7m4) (c := k7c4) (by decide +kernel) rfl rfl rfl (by decide +kernel)
set_option maxRecDepth 65536 in
theorem w_c2 : (Jvm.Cond.code ({ cls := "java/lang/StringLatin1", name := "canEncode", desc := "(C)Z" } : Jvm.MethodName) jdk_43_method_3_code (1 : Nat) (Option.some Jvm.ClassFile.FieldType.boolean)).before args0 about1 = true := code_word (m := ⟨8, 1⟩) (meth := k8m1) (c := k8c1) (by decide +kernel) rfl rfl rfl (by decide +kernel)
set_option maxRecDepth 65536 in
theorem w_c3 : (Jvm.Cond.code ({ cls := "java/lang/StringLatin1", name := "toBytes", desc := "(C)[B" } : Jvm.MethodName) jdk_43_method_46_code (1 : Nat) (Option.some (Jvm.ClassFile.FieldType.array Jvm.ClassFile.FieldType.byte))).before args0 about1 = true := code_word (m := ⟨8, 2⟩) (meth := k8m2) (c := k8c2) (by decide +kernel) rfl rfl rfl (by decide +kernel)
set_option maxRecDepth 65536 in
theorem w_c4 : (Jvm.Cond.code ({ cls := "java/lang/String", name := "<init>", desc := "([BB)V" } : Jvm.MethodName) jdk_42_method_151_code (3 : Nat) (Option.none : Option Jvm.ClassFile.FieldType)).before args0 about1 = true := code_word (m := ⟨7, 5⟩) (meth := k7m5) (c := k7c5) (by decide +kernel) rfl rfl rfl (by decide +kernel)
set_option maxRecDepth 65536 in
theorem w_c5 : (Jvm.Cond.code ({ cls := "java/lang/Object", name := "<init>", desc := "()V" } : Jvm.MethodName) object_method_1_code (1 : Nat) (Option.none : Option Jvm.ClassFile.FieldType)).before args0 about1 = true := code_word (m := ⟨0, 0⟩) (meth := k0m0) (c := k0c0) (by decide +kernel) rfl rfl rfl (by decide +kernel)
set_option maxRecDepth 65536 in
theorem w_c6 : (Jvm.Cond.code ({ cls := "com/example/fireweed/fireweed/layout/Java31ByteSalt", name := "<init>", desc := "(ILjava/lang/String;)V" } : Jvm.MethodName) prog_7_method_1_code (3 : Nat) (Option.none : Option Jvm.ClassFile.FieldType)).before args0 about1 = true := code_word (m := ⟨11, 0⟩) (meth := k11m0) (c := k11c0) (by decide +kernel) rfl rfl rfl (by decide +kernel)
set_option maxRecDepth 65536 in
theorem w_c7 : (Jvm.Cond.code ({ cls := "com/example/fireweed/fireweed/layout/BucketSalt", name := "<init>", desc := "(Ljava/lang/String;)V" } : Jvm.MethodName) prog_5_method_1_code (2 : Nat) (Option.none : Option Jvm.ClassFile.FieldType)).before args0 about1 = true := code_word (m := ⟨10, 0⟩) (meth := k10m0) (c := k10c0) (by decide +kernel) rfl rfl rfl (by decide +kernel)
set_option maxRecDepth 65536 in
theorem w_c8 : (Jvm.Cond.code ({ cls := "com/example/fireweed/fireweed/layout/Salt", name := "<init>", desc := "(Ljava/lang/String;)V" } : Jvm.MethodName) prog_11_method_1_code (2 : Nat) (Option.none : Option Jvm.ClassFile.FieldType)).before args0 about1 = true := code_word (m := ⟨9, 0⟩) (meth := k9m0) (c := k9c0) (by decide +kernel) rfl rfl rfl (by decide +kernel)
set_option maxRecDepth 65536 in
theorem w_c9 : (Jvm.Cond.code ({ cls := "java/util/Objects", name := "requireNonNull", desc := "(Ljava/lang/Object;Ljava/lang/String;)Ljava/lang/Object;" } : Jvm.MethodName) jdk_31_method_11_code (2 : Nat) (Option.some (Jvm.ClassFile.FieldType.object "java/lang/Object"))).before args0 about1 = true := code_word (m := ⟨12, 1⟩) (meth := k12m1) (c := k12c1) (by decide +kernel) rfl rfl rfl (by decide +kernel)
set_option maxRecDepth 65536 in
theorem w_c10 : (Jvm.Cond.code ({ cls := "java/lang/String", name := "getBytes", desc := "(Ljava/nio/charset/Charset;)[B" } : Jvm.MethodName) jdk_42_method_64_code (2 : Nat) (Option.some (Jvm.ClassFile.FieldType.array Jvm.ClassFile.FieldType.byte))).before args0 about1 = true := code_word (m := ⟨7, 3⟩) (meth := k7m3) (c := k7c3) (by decide +kernel) rfl rfl rfl (by decide +kernel)
set_option maxRecDepth 65536 in
theorem w_c11 : (Jvm.Cond.code ({ cls := "java/lang/String", name := "coder", desc := "()B" } : Jvm.MethodName) jdk_42_method_152_code (1 : Nat) (Option.some Jvm.ClassFile.FieldType.byte)).before args0 about1 = true := code_word (m := ⟨7, 6⟩) (meth := k7m6) (c := k7c6) (by decide +kernel) rfl rfl rfl (by decide +kernel)
set_option maxRecDepth 65536 in
theorem w_c12 : (Jvm.Cond.code ({ cls := "java/lang/String", name := "encode", desc := "(Ljava/nio/charset/Charset;B[B)[B" } : Jvm.MethodName) jdk_42_method_18_code (3 : Nat) (Option.some (Jvm.ClassFile.FieldType.array Jvm.ClassFile.FieldType.byte))).before args0 about1 = true := code_word (m := ⟨7, 1⟩) (meth := k7m1) (c := k7c1) (by decide +kernel) rfl rfl rfl (by decide +kernel)
set_option maxRecDepth 65536 in
theorem w_c13 : (Jvm.Cond.code ({ cls := "java/lang/String", name := "encodeUTF8", desc := "(B[BZ)[B" } : Jvm.MethodName) jdk_42_method_46_code (9 : Nat) (Option.some (Jvm.ClassFile.FieldType.array Jvm.ClassFile.FieldType.byte))).before args0 about1 = true := code_word (m := ⟨7, 2⟩) (meth := k7m2) (c := k7c2) (by decide +kernel) rfl rfl rfl (by decide +kernel)
set_option maxRecDepth 65536 in
theorem w_c14 : (Jvm.Cond.code ({ cls := "java/lang/StringCoding", name := "hasNegatives", desc := "([BII)Z" } : Jvm.MethodName) jdk_123_method_2_code (3 : Nat) (Option.some Jvm.ClassFile.FieldType.boolean)).before args0 about1 = true := code_word (m := ⟨18, 1⟩) (meth := k18m1) (c := k18c1) (by decide +kernel) rfl rfl rfl (by decide +kernel)
set_option maxRecDepth 65536 in
theorem w_c15 : (Jvm.Cond.code ({ cls := "java/lang/StringCoding", name := "countPositives", desc := "([BII)I" } : Jvm.MethodName) jdk_123_method_3_code (5 : Nat) (Option.some Jvm.ClassFile.FieldType.int)).before args0 about1 = true := code_word (m := ⟨18, 2⟩) (meth := k18m2) (c := k18c2) (by decide +kernel) rfl rfl rfl (by decide +kernel)
set_option maxRecDepth 65536 in
theorem w_c16 : (Jvm.Cond.code ({ cls := "java/lang/Integer", name := "bitCount", desc := "(I)I" } : Jvm.MethodName) jdk_33_method_49_code (1 : Nat) (Option.some Jvm.ClassFile.FieldType.int)).before args0 about1 = true := code_word (m := ⟨21, 0⟩) (meth := k21m0) (c := k21c0) (by decide +kernel) rfl rfl rfl (by decide +kernel)
set_option maxRecDepth 65536 in
theorem w_c17 : (Jvm.Cond.code ({ cls := "com/example/fireweed/fireweed/layout/Java31ByteSalt", name := "saltOf", desc := "(I)B" } : Jvm.MethodName) prog_7_method_13_code (3 : Nat) (Option.some Jvm.ClassFile.FieldType.byte)).before args0 about1 = true := code_word (m := ⟨11, 2⟩) (meth := k11m2) (c := k11c2) (by decide +kernel) rfl rfl rfl (by decide +kernel)
set_option maxRecDepth 65536 in
theorem w_c18 : (Jvm.Cond.code ({ cls := "java/lang/Math", name := "abs", desc := "(I)I" } : Jvm.MethodName) jdk_29_method_59_code (1 : Nat) (Option.some Jvm.ClassFile.FieldType.int)).before args0 about1 = true := code_word (m := ⟨22, 1⟩) (meth := k22m1) (c := k22c1) (by decide +kernel) rfl rfl rfl (by decide +kernel)
set_option maxRecDepth 65536 in
theorem w_c19 : (Jvm.Cond.code ({ cls := "java/lang/Byte", name := "toUnsignedInt", desc := "(B)I" } : Jvm.MethodName) jdk_2056_method_24_code (1 : Nat) (Option.some Jvm.ClassFile.FieldType.int)).before args0 about1 = true := code_word (m := ⟨23, 0⟩) (meth := k23m0) (c := k23c0) (by decide +kernel) rfl rfl rfl (by decide +kernel)
set_option maxRecDepth 65536 in
theorem w_c20 : (Jvm.Cond.code ({ cls := "com/example/fireweed/fireweed/layout/Java31ByteSalt", name := "highest", desc := "()[B" } : Jvm.MethodName) prog_7_method_8_code (1 : Nat) (Option.some (Jvm.ClassFile.FieldType.array Jvm.ClassFile.FieldType.byte))).before args0 about1 = true := code_word (m := ⟨11, 1⟩) (meth := k11m1) (c := k11c1) (by decide +kernel) rfl rfl rfl (by decide +kernel)
set_option maxRecDepth 65536 in
theorem w_c21 : (Jvm.Cond.code ({ cls := "java/lang/Math", name := "max", desc := "(II)I" } : Jvm.MethodName) jdk_29_method_65_code (2 : Nat) (Option.some Jvm.ClassFile.FieldType.int)).before args0 about1 = true := code_word (m := ⟨22, 2⟩) (meth := k22m2) (c := k22c2) (by decide +kernel) rfl rfl rfl (by decide +kernel)
set_option maxRecDepth 65536 in
theorem w_c22 : (Jvm.Cond.code ({ cls := "com/example/fireweed/fireweed/layout/Java31ByteSaltHighestPinLaw", name := "expected", desc := "(I)I" } : Jvm.MethodName) method_3_code (5 : Nat) (Option.some Jvm.ClassFile.FieldType.int)).before args0 about1 = true := code_word (m := ⟨1, 2⟩) (meth := k1m2) (c := k1c2) (by decide +kernel) rfl rfl rfl (by decide +kernel)
set_option maxRecDepth 65536 in
theorem w_c23 : (Jvm.Cond.code ({ cls := "java/lang/StringUTF16", name := "newBytesFor", desc := "(I)[B" } : Jvm.MethodName) jdk_52_method_2_code (1 : Nat) (Option.some (Jvm.ClassFile.FieldType.array Jvm.ClassFile.FieldType.byte))).before args0 about1 = true := code_word (m := ⟨24, 1⟩) (meth := k24m1) (c := k24c1) (by decide +kernel) rfl rfl rfl (by decide +kernel)
set_option maxRecDepth 65536 in
theorem w_c24 : (Jvm.Cond.code ({ cls := "java/lang/StringUTF16", name := "newBytesLength", desc := "(I)I" } : Jvm.MethodName) jdk_52_method_3_code (1 : Nat) (Option.some Jvm.ClassFile.FieldType.int)).before args0 about1 = true := code_word (m := ⟨24, 2⟩) (meth := k24m2) (c := k24c2) (by decide +kernel) rfl rfl rfl (by decide +kernel)
def codes1 : List Jvm.Cond := [Jvm.Cond.code x code maxLocals ret, Jvm.Cond.code ({ cls := "java/lang/String", name := "valueOf", desc := "(C)Ljava/lang/String;" } : Jvm.MethodName) jdk_42_method_139_code (1 : Nat) (Option.some (Jvm.ClassFile.FieldType.object "java/lang/String")), Jvm.Cond.code ({ cls := "java/lang/StringLatin1", name := "canEncode", desc := "(C)Z" } : Jvm.MethodName) jdk_43_method_3_code (1 : Nat) (Option.some Jvm.ClassFile.FieldType.boolean), Jvm.Cond.code ({ cls := "java/lang/StringLatin1", name := "toBytes", desc := "(C)[B" } : Jvm.MethodName) jdk_43_method_46_code (1 : Nat) (Option.some (Jvm.ClassFile.FieldType.array Jvm.ClassFile.FieldType.byte)), Jvm.Cond.code ({ cls := "java/lang/String", name := "<init>", desc := "([BB)V" } : Jvm.MethodName) jdk_42_method_151_code (3 : Nat) (Option.none : Option Jvm.ClassFile.FieldType), Jvm.Cond.code ({ cls := "java/lang/Object", name := "<init>", desc := "()V" } : Jvm.MethodName) object_method_1_code (1 : Nat) (Option.none : Option Jvm.ClassFile.FieldType), Jvm.Cond.code ({ cls := "com/example/fireweed/fireweed/layout/Java31ByteSalt", name := "<init>", desc := "(ILjava/lang/String;)V" } : Jvm.MethodName) prog_7_method_1_code (3 : Nat) (Option.none : Option Jvm.ClassFile.FieldType), Jvm.Cond.code ({ cls := "com/example/fireweed/fireweed/layout/BucketSalt", name := "<init>", desc := "(Ljava/lang/String;)V" } : Jvm.MethodName) prog_5_method_1_code (2 : Nat) (Option.none : Option Jvm.ClassFile.FieldType), Jvm.Cond.code ({ cls := "com/example/fireweed/fireweed/layout/Salt", name := "<init>", desc := "(Ljava/lang/String;)V" } : Jvm.MethodName) prog_11_method_1_code (2 : Nat) (Option.none : Option Jvm.ClassFile.FieldType), Jvm.Cond.code ({ cls := "java/util/Objects", name := "requireNonNull", desc := "(Ljava/lang/Object;Ljava/lang/String;)Ljava/lang/Object;" } : Jvm.MethodName) jdk_31_method_11_code (2 : Nat) (Option.some (Jvm.ClassFile.FieldType.object "java/lang/Object")), Jvm.Cond.code ({ cls := "java/lang/String", name := "getBytes", desc := "(Ljava/nio/charset/Charset;)[B" } : Jvm.MethodName) jdk_42_method_64_code (2 : Nat) (Option.some (Jvm.ClassFile.FieldType.array Jvm.ClassFile.FieldType.byte)), Jvm.Cond.code ({ cls := "java/lang/String", name := "coder", desc := "()B" } : Jvm.MethodName) jdk_42_method_152_code (1 : Nat) (Option.some Jvm.ClassFile.FieldType.byte), Jvm.Cond.code ({ cls := "java/lang/String", name := "encode", desc := "(Ljava/nio/charset/Charset;B[B)[B" } : Jvm.MethodName) jdk_42_method_18_code (3 : Nat) (Option.some (Jvm.ClassFile.FieldType.array Jvm.ClassFile.FieldType.byte)), Jvm.Cond.code ({ cls := "java/lang/String", name := "encodeUTF8", desc := "(B[BZ)[B" } : Jvm.MethodName) jdk_42_method_46_code (9 : Nat) (Option.some (Jvm.ClassFile.FieldType.array Jvm.ClassFile.FieldType.byte)), Jvm.Cond.code ({ cls := "java/lang/StringCoding", name := "hasNegatives", desc := "([BII)Z" } : Jvm.MethodName) jdk_123_method_2_code (3 : Nat) (Option.some Jvm.ClassFile.FieldType.boolean), Jvm.Cond.code ({ cls := "java/lang/StringCoding", name := "countPositives", desc := "([BII)I" } : Jvm.MethodName) jdk_123_method_3_code (5 : Nat) (Option.some Jvm.ClassFile.FieldType.int), Jvm.Cond.code ({ cls := "java/lang/Integer", name := "bitCount", desc := "(I)I" } : Jvm.MethodName) jdk_33_method_49_code (1 : Nat) (Option.some Jvm.ClassFile.FieldType.int), Jvm.Cond.code ({ cls := "com/example/fireweed/fireweed/layout/Java31ByteSalt", name := "saltOf", desc := "(I)B" } : Jvm.MethodName) prog_7_method_13_code (3 : Nat) (Option.some Jvm.ClassFile.FieldType.byte), Jvm.Cond.code ({ cls := "java/lang/Math", name := "abs", desc := "(I)I" } : Jvm.MethodName) jdk_29_method_59_code (1 : Nat) (Option.some Jvm.ClassFile.FieldType.int), Jvm.Cond.code ({ cls := "java/lang/Byte", name := "toUnsignedInt", desc := "(B)I" } : Jvm.MethodName) jdk_2056_method_24_code (1 : Nat) (Option.some Jvm.ClassFile.FieldType.int), Jvm.Cond.code ({ cls := "com/example/fireweed/fireweed/layout/Java31ByteSalt", name := "highest", desc := "()[B" } : Jvm.MethodName) prog_7_method_8_code (1 : Nat) (Option.some (Jvm.ClassFile.FieldType.array Jvm.ClassFile.FieldType.byte)), Jvm.Cond.code ({ cls := "java/lang/Math", name := "max", desc := "(II)I" } : Jvm.MethodName) jdk_29_method_65_code (2 : Nat) (Option.some Jvm.ClassFile.FieldType.int), Jvm.Cond.code ({ cls := "com/example/fireweed/fireweed/layout/Java31ByteSaltHighestPinLaw", name := "expected", desc := "(I)I" } : Jvm.MethodName) method_3_code (5 : Nat) (Option.some Jvm.ClassFile.FieldType.int), Jvm.Cond.code ({ cls := "java/lang/StringUTF16", name := "newBytesFor", desc := "(I)[B" } : Jvm.MethodName) jdk_52_method_2_code (1 : Nat) (Option.some (Jvm.ClassFile.FieldType.array Jvm.ClassFile.FieldType.byte)), Jvm.Cond.code ({ cls := "java/lang/StringUTF16", name := "newBytesLength", desc := "(I)I" } : Jvm.MethodName) jdk_52_method_3_code (1 : Nat) (Option.some Jvm.ClassFile.FieldType.int)]
set_option maxRecDepth 65536 in
theorem codes_eq : words1.filter isCode = codes1 := rfl
theorem w_codes : ∀ c ∈ words1.filter isCode, c.before args0 about1 = true := by
  rw [codes_eq]
  intro c hc
  simp only [codes1, List.mem_cons, List.not_mem_nil, or_false] at hc
  rcases hc with rfl | rfl | rfl | rfl | rfl | rfl | rfl | rfl | rfl | rfl | rfl | rfl | rfl | rfl | rfl | rfl | rfl | rfl | rfl | rfl | rfl | rfl | rfl | rfl | rfl
  · exact w_c0
  · exact w_c1
  · exact w_c2
  · exact w_c3
  · exact w_c4
  · exact w_c5
  · exact w_c6
  · exact w_c7
  · exact w_c8
  · exact w_c9
  · exact w_c10
  · exact w_c11
  · exact w_c12
  · exact w_c13
  · exact w_c14
  · exact w_c15
  · exact w_c16
  · exact w_c17
  · exact w_c18
  · exact w_c19
  · exact w_c20
  · exact w_c21
  · exact w_c22
  · exact w_c23
  · exact w_c24
set_option maxRecDepth 65536 in
theorem w_t1 : (words1.take 24).all (fun c => isCode c || c.before args0 about1) = true := by decide +kernel
set_option maxRecDepth 65536 in
theorem w_t2 : ((words1.drop 24).take 24).all (fun c => isCode c || c.before args0 about1) = true := by decide +kernel
set_option maxRecDepth 65536 in
theorem w_t3 : (((words1.drop 24).drop 24).take 24).all (fun c => isCode c || c.before args0 about1) = true := by decide +kernel
set_option maxRecDepth 65536 in
theorem w_t4 : ((((words1.drop 24).drop 24).drop 24).take 24).all (fun c => isCode c || c.before args0 about1) = true := by decide +kernel
set_option maxRecDepth 65536 in
theorem w_t5 : (((((words1.drop 24).drop 24).drop 24).drop 24).take 24).all (fun c => isCode c || c.before args0 about1) = true := by decide +kernel
set_option maxRecDepth 65536 in
theorem w_t6 : (((((words1.drop 24).drop 24).drop 24).drop 24).drop 24).all (fun c => isCode c || c.before args0 about1) = true := by decide +kernel
theorem w_tables : (allAtoms (Jvm.Cond.code x code maxLocals ret :: tables_1)).before args0 about1 = true := by
  rw [allAtoms_all]
  show words1.all (fun c => c.before args0 about1) = true
  refine all_split ?_ w_codes
  rw [← List.take_append_drop 24 words1, List.all_append, w_t1, ← List.take_append_drop 24 (words1.drop 24), List.all_append, w_t2, ← List.take_append_drop 24 ((words1.drop 24).drop 24), List.all_append, w_t3, ← List.take_append_drop 24 (((words1.drop 24).drop 24).drop 24), List.all_append, w_t4, ← List.take_append_drop 24 ((((words1.drop 24).drop 24).drop 24).drop 24), List.all_append, w_t5, w_t6]
  rfl
set_option maxRecDepth 65536 in
theorem w_rest : rest_1_c.before args0 about1 = true := by decide +kernel
set_option maxRecDepth 65536 in
theorem w_case : (Jvm.Cond.and given_1 narrow_1).before args0 about1 = true := by decide +kernel
theorem w_applies : (headSpec (Jvm.Cond.code x code maxLocals ret :: tables_1) room_1).applies x e0.platform about1 = true :=
  (Spec.applies_iff w_frames).mpr ⟨w_running, w_runnable, w_alone, w_named, w_hears, w_ripe, w_room, w_tables⟩
theorem atStart : AtStart classFile x code maxLocals ret World_1 tables_1 room_1 Calls_1 rest_1 Pre_1 launch0 p0 e0 about1 theMethod args0 below0 :=
  ⟨lists_1, trivial, launch0.admits_env _ _ _, launch0.least_env, fairChoices_fair.cas, fairChoices_fair.clock, w_frames, w_args, w_heap, w_applies, trivial, w_rest, w_case⟩
end start1
theorem witness_1 : WitnessClaimed_1 := ⟨start1.p0, start1.e0, start1.about1, start1.theMethod, start1.args0, start1.below0, start1.atStart⟩
end Jvm.Pilot.@@N@@
