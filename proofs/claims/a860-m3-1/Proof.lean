import JvmDerived
import JvmDerived.Pilot.@@N@@Statement
import JvmDerived.Pilot.@@N@@Code
set_option linter.unusedVariables false
set_option linter.unusedSimpArgs false
namespace Jvm.RoadKit
open Sem ClassFile Op Lib Jvm.Stand Jvm.Free Jvm.LawKit
section New
variable {p : Program} {l : Launch} {e : Env} {R : Room} {s : State} {m : MethodId} {args : Array Value} {below : List Frame} {meth : Method} {c : Code} {T : State} {locs : List Loc} {cells slots : Nat}
theorem retI (X : Stand p l e R s m args below meth c T locs cells slots) (hx : p.tables.exec = Jvm.exec) {pc : Nat} {Ls : Array Slot} {z : Int32} {rest : List Value} (hret : meth.sig.returnType = some .int) (hd : decode c.code pc = .ok (.ireturn, 1)) {fs : List Frame}
    (hl : ∀ (f : JFrame) (acts : List Action), f.method = m → f.locked = none → f.entered = [] → (doReturn e (T.setTop f) acts (some (.int z))).1 = T.setFrames fs) : Steps p.tables e below (T.setTop (mkF m pc Ls (.int z :: rest))) (T.setFrames fs) := by
  have hm' : T.vm.method? m = some meth := X.method'
  have hn : narrow .int (.int z) = .int z := rfl
  show Steps p.tables e below (T.setTop { method := m, pc := pc, locals := Ls, stack := _ :: rest, locked := none }) _
  jvm_step X.here [X.here.top, hx, hd, hm', hret, hn]
  first | (intro acts; rw [hl _ acts rfl rfl rfl]) | rw [hl _ _ rfl rfl rfl]
  exact Steps.refl _
end New
end Jvm.RoadKit
namespace Jvm.Pilot.@@N@@
open Jvm Jvm.ClassFile Sem Op Lib Jvm.Free Jvm.Stand Jvm.LawKit Jvm.RoadKit Bundle Jvm.Pilot.@@N@@.Jvm.D
theorem own_ext {h h' : Heap} (K : Keep h h' []) : Ext h h' := ⟨K.1, fun a c q => K.2.1 a c q nin0⟩
theorem own_fits {t : FieldType} {x : Int32} (h : nar t x = x) (f : fits t (.int (nar t x)) = true) : fits t (.int x) = true := by rw [h] at f; exact f
theorem own_nb (x : Int32) : nar .byte (x.toInt8.toInt32) = x.toInt8.toInt32 := by simp [nar]
theorem own_nc (x : Int32) : nar .char (x.toUInt32.toUInt16.toUInt32.toInt32) = x.toUInt32.toUInt16.toUInt32.toInt32 := by
  show (x.toUInt32.toUInt16.toUInt32.toInt32).toUInt32.toUInt16.toUInt32.toInt32 = _
  rw [UInt32.toUInt32_toInt32, UInt16.toUInt16_toUInt32]
theorem own_gen {p : Program} {l : Launch} {e : Env} {R : Room} {s : State} {m : MethodId} {args : Array Value} {below : List Frame} {meth : Method} {c : Code} {T : State} {locs : List Loc} {cells slots n0 : Nat} (X : Stand p l e R s m args below meth c T locs cells slots) (N : Fr n0 locs) : ∃ L, Stand p l e R s m args below meth c T L cells slots ∧ Fr n0 L := ⟨_, X, N⟩
theorem own_ne {a b : Addr} (h : a < b) : a ≠ b := Nat.ne_of_lt h
theorem own_Sta {Z : State} {h h' : Heap} {C n d : String} {v : Value} {ws : List Addr} (F : Sta Z h C n d v) (K : Keep h h' ws) (q : ∀ x ∈ ws, ∀ cell : Cell, h[x]? = some cell → cell.vm.isStatics = false) : Sta Z h' C n d v := by
  obtain ⟨cf, i, k, f, st, cell, h1, h2, h3, h4, h5, h6, h7⟩ := F
  refine ⟨cf, i, k, f, st, cell, h1, h2, h3, h4, K.2.1 st cell h5 (fun m => ?_), h6, h7⟩
  rw [q st m cell h5] at h6
  cases h6
theorem own_priv {s : State} {args : Array Value} {y : MethodName} {n : Nat} (wi : (Cond.instantiable y.cls n).before args s = true) (hp : s.PrivateAt y) (hi : (Cond.instanceMethod y).before args s = true) (hy : y.cls ≠ "java/lang/invoke/MethodHandle" ∧ y.cls ≠ "java/lang/invoke/VarHandle") : (Cond.selects y.cls y y).before args s = true := by
  obtain ⟨c, k, h1, h2, -, h4, -⟩ := Cond.instantiable_spec wi
  exact selects_self_of_private h1 h2 (by cases hk : k.isInterface <;> simp_all) hp hi hy
theorem own_exaB {Z : State} {az : Array Value} {EL : List (String × Nat)} {vm : Vm} {h : Heap} {own text : String} {index : Nat} {a b : Addr} {mc : ClassId} {s : State} (H : CHv Z EL vm h) (hmem : (own, index) ∈ EL) (hW : Z.Warmed39 vm) (w : (Cond.stringLink own index text).before az Z = true) (hown : vm.findClass own = some mc)
    (L : Lit (s.setVm vm) own index a) (F : Fld Z h a "java/lang/String" "value" "[B" (.ref b)) : Exa Z h b "[B" := by
  have hal : Z.vm.Alike vm := hW.alike
  have w2 : (Cond.stringLink own index text).before az (Wst Z vm h) = true := mvS (s := Wst Z vm h) hW w
  obtain ⟨kc, cf, i, units, hk, hcf, hp, hu, -, -, -⟩ := Cond.stringLink_spec (s := Wst Z vm h) hown w2
  have hk' : vm.classes[mc]? = some kc := hk
  have hres : kc.resolved[index]? = some (some (.string a)) := by
    have q : (s.setVm vm).resolvedAt? own index = some (.string a) := L
    have e1 : (s.setVm vm).vm = vm := rfl
    simp only [State.resolvedAt?, e1, hown, Option.bind_eq_bind, Option.bind_some] at q
    rw [hk'] at q
    simp only [Option.bind_some] at q
    cases hr : kc.resolved[index]? with
    | none => rw [hr] at q; cases q
    | some o => rw [hr] at q; cases o with
      | none => cases q
      | some r => simpa using q
  obtain ⟨q, rfl, G⟩ := SlB.of (H _ hmem units a ⟨mc, kc, cf, i, hown, hk', hcf, hp, hu, Or.inl hres⟩)
  have ga := G.ha
  have gd := G.hd
  obtain ⟨cS, ⟨⟨-, -, -, ⟨cv, kv, iv, s4, -⟩, -, -, -, s8, -, -, s11, -⟩, -, -⟩, -, hB, -⟩ := G
  obtain ⟨kv', z4⟩ := ff_back (U := Wst Z vm h) hal s4
  obtain ⟨cell, c1, k1, i1, f1, g1, g2, -, -, -, -, g7⟩ := F
  cases (show h[q.sa]? = some q.sC from ga).symm.trans g1
  cases z4.symm.trans g2
  cases s8.symm.trans g7
  have hBZ : Z.vm.findClass "[B" = some q.SA.cls := (hal.findClass _ _).symm.trans hB
  obtain ⟨kb, hkb, -⟩ := Vm.findClass_spec hBZ
  obtain ⟨kb', hkb', ekb⟩ := hal.2.2 _ _ hkb
  obtain ⟨hst, k9, hk9, comp, hkind⟩ := s11
  have e9 : k9 = kb' := Option.some.inj ((show vm.classes[q.SA.cls]? = some k9 from hk9).symm.trans hkb')
  refine ⟨q.SA, kb, gd, hBZ, hkb, ?_, fun ho => ?_⟩
  · cases hv : q.SA.vm <;> first | rfl | exact absurd hv (hst _)
  · rw [e9, ekb] at hkind
    exact absurd (ho.symm.trans hkind) (by simp)
theorem own_lremM {p : Program} {l : Launch} {e : Env} {R : Room} {s : State} {m : MethodId} {args : Array Value} {below : List Frame} {meth : Method} {c : Code} {T : State} {locs : List Loc} {cells slots : Nat} {g : JFrame} {target : State} (X : Stand p l e R s m args below meth c T locs cells slots) (hx : p.tables.exec = Jvm.exec) (hg : g.method = m) {x y : Int64} {rest : List Value} (hd : decode c.code g.pc = .ok (.lrem, 1)) (hs : g.stack = .long y :: .long x :: rest) (hy : y ≠ 0)
    (hr : Steps p.tables e below (T.setTop { g with pc := g.pc + 1, stack := .long (x % y) :: rest }) target) : Steps p.tables e below (T.setTop g) target := by
  have q : x - x / y * y = x % y := lrem_mod x y
  exact XS.lrem X.here hx hg hd hs hy (by rw [q]; exact hr)
theorem d5_0 : decode jdk_31_method_11_code 0 = .ok (.aload_n 0, 1) := by decide +kernel
theorem d5_1 : decode jdk_31_method_11_code 1 = .ok (.ifnonnull 12, 3) := by decide +kernel
theorem d5_13 : decode jdk_31_method_11_code 13 = .ok (.aload_n 0, 1) := by decide +kernel
theorem d5_14 : decode jdk_31_method_11_code 14 = .ok (.areturn, 1) := by decide +kernel
theorem pn_java_util_Objects : plainName "java/util/Objects" = true := by first | (simp [plainName, overriddenIn]; done) | decide +kernel
theorem ef_rm5 (m : MethodId) (a0 : Addr) (a1 : Addr) : entryFrame m #[(.ref a0), (.ref a1)] 2 = mkF m 0 #[.val (.ref a0), .val (.ref a1)] [] := by first | (simp [entryFrame, mkF, argsToLocals, Value.category]; done) | rfl
def Q5 (Z : State) (a0 : Addr) (a1 : Addr) (h0 : Heap) (n0 : Nat) (v : Option Value) (h : Heap) (L : List Loc) : Prop := v = some (.ref a0) ∧ Fr n0 L ∧ h = h0
set_option maxRecDepth 65536 in
set_option maxHeartbeats 40000000 in
theorem rm5 (l : Launch) (Z : State) (az : Array Value) (hw : ∀ d ∈ tables_1, d.before az Z = true) (ws : List Jvm.Cond) (a0 : Addr) (a1 : Addr) (h0 : Heap) (n0 : Nat) (Z0 : n0 ≤ h0.size) :
    MetFree l (⟨"java/util/Objects", "requireNonNull", "(Ljava/lang/Object;Ljava/lang/String;)Ljava/lang/Object;"⟩ : MethodName) (head1 (Jvm.Cond.code (⟨"java/util/Objects", "requireNonNull", "(Ljava/lang/Object;Ljava/lang/String;)Ljava/lang/Object;"⟩ : MethodName) jdk_31_method_11_code 2 (some (.object "java/lang/Object")) :: ws) ({ frames := 0, cells := 0, slots := 0, locals := 0 } : Room)) (fun a U => a = #[(.ref a0), (.ref a1)] ∧ Z.Warmed39 U.vm ∧ U.heap = h0) (fun _ _ _ _ _ => True) (fun _ U o U' => ∃ v L, o = .returned v ∧ Q5 Z a0 a1 h0 n0 v U'.heap L ∧ FrameEnd U o U' L ({ frames := 0, cells := 0, slots := 0, locals := 0 } : Room).cells ({ frames := 0, cells := 0, slots := 0, locals := 0 } : Room).slots) := by
  refine MetFree.of_bodySF (plainFor_of_name pn_java_util_Objects) hisR ?_
  intro p e s m args below meth c s₁ Bd hml0 hP hK
  obtain ⟨rfl, hZ, hh⟩ := hP
  have hx := Bd.exec
  have hby := Bd.bytes
  have hml : c.maxLocals = 2 := hml0
  have hown : s.vm.findClass "java/util/Objects" = some m.cls := findClass_of_methodNamed Bd.named
  have hnm := (name_of_methodNamed Bd.named Bd.method).1
  have X0 : Stand p l e ({ frames := 0, cells := 0, slots := 0, locals := 0 } : Room) s m #[(.ref a0), (.ref a1)] below meth c s₁ [] 0 0 := Stand.of_body Bd
  have e0 : s₁.heap = h0 := by rw [← hh, Bd.state]; rfl
  have N0 := Fr.nil n0
  have pre0 : ∀ t, Steps p.tables e below (s₁.setTop (mkF m 0 #[.val (.ref a0), .val (.ref a1)] [])) t → Steps p.tables e below (s₁.setTop (entryFrame m #[(.ref a0), (.ref a1)] 2)) t := fun t k => castTop (ef_rm5 m a0 a1) k
  obtain ⟨fs, hr, hrun, hended, hW, hsame⟩ := X0.leave (v := some (.ref a0)) (fun h => by rw [Bd.returns] at h; cases h)
  refine ⟨_, _, pre0 _ ?_, hrun, hended, _, _, rfl, ?_, ⟨_, rfl⟩, hW, hsame.mono (by decide) (by decide)⟩
  · show Steps p.tables e below (s₁.setTop (mkF m 0 #[.val (.ref a0), .val (.ref a1)] [])) _
    refine XS.aloadN X0.here hx rfl (hb hby d5_0) rfl rfl ?_
    show Steps p.tables e below (s₁.setTop (mkF m 1 #[.val (.ref a0), .val (.ref a1)] [(.ref a0)])) _
    refine XS.ifnonnullYes X0.here hx rfl (pc0 := 1) (pc' := 13) rfl (hb hby d5_1) rfl (by decide) (by decide) ?_
    show Steps p.tables e below (s₁.setTop (mkF m 13 #[.val (.ref a0), .val (.ref a1)] [])) _
    refine XS.aloadN X0.here hx rfl (hb hby d5_13) rfl rfl ?_
    show Steps p.tables e below (s₁.setTop (mkF m 14 #[.val (.ref a0), .val (.ref a1)] [(.ref a0)])) _
    jvm_step X0.here [X0.here.top, hx, (hb hby d5_14), X0.method', Bd.returns, Value.isRef, FieldType.isReference]
    first | (intro acts; rw [hr _ acts rfl rfl rfl]) | rw [hr _ _ rfl rfl rfl]
    exact Steps.refl _
  · show Q5 Z a0 a1 h0 n0 _ s₁.heap _
    rw [e0]
    exact ⟨rfl, N0, rfl⟩
theorem d7_0 : decode jdk_42_method_152_code 0 = .ok (.getstatic 38, 3) := by decide +kernel
theorem d7_3 : decode jdk_42_method_152_code 3 = .ok (.ifCond .eq 10, 3) := by decide +kernel
theorem d7_6 : decode jdk_42_method_152_code 6 = .ok (.aload_n 0, 1) := by decide +kernel
theorem d7_7 : decode jdk_42_method_152_code 7 = .ok (.getfield 15, 3) := by decide +kernel
theorem d7_10 : decode jdk_42_method_152_code 10 = .ok (.goto 4, 3) := by decide +kernel
theorem d7_14 : decode jdk_42_method_152_code 14 = .ok (.ireturn, 1) := by decide +kernel
theorem pn_java_lang_String : plainName "java/lang/String" = true := by first | (simp [plainName, overriddenIn]; done) | decide +kernel
theorem ef_rm7 (m : MethodId) (a0 : Addr) : entryFrame m #[(.ref a0)] 1 = mkF m 0 #[.val (.ref a0)] [] := by first | (simp [entryFrame, mkF, argsToLocals, Value.category]; done) | rfl
def Q7 (Z : State) (a0 : Addr) (s_COMPACT_STRINGS : Int32) (h0 : Heap) (n0 : Nat) (v : Option Value) (h : Heap) (L : List Loc) : Prop := v = some (.int (0 : Int32)) ∧ Fr n0 L ∧ h = h0
set_option maxRecDepth 65536 in
set_option maxHeartbeats 40000000 in
theorem rm7 (l : Launch) (Z : State) (az : Array Value) (hw : ∀ d ∈ tables_1, d.before az Z = true) (ws : List Jvm.Cond) (a0 : Addr) (s_COMPACT_STRINGS : Int32) (h0 : Heap) (n0 : Nat) (Z0 : n0 ≤ h0.size) (F_coder_a0 : Fld Z h0 a0 "java/lang/String" "coder" "B" (.int (0 : Int32))) (S_COMPACT_STRINGS : Sta Z h0 "java/lang/String" "COMPACT_STRINGS" "Z" (.int s_COMPACT_STRINGS)) (hc2 : ¬ (s_COMPACT_STRINGS = (0 : Int32))) :
    MetFree l (⟨"java/lang/String", "coder", "()B"⟩ : MethodName) (head1 (Jvm.Cond.code (⟨"java/lang/String", "coder", "()B"⟩ : MethodName) jdk_42_method_152_code 1 (some .byte) :: ws) ({ frames := 0, cells := 0, slots := 0, locals := 0 } : Room)) (fun a U => a = #[(.ref a0)] ∧ Z.Warmed39 U.vm ∧ U.heap = h0) (fun _ _ _ _ _ => True) (fun _ U o U' => ∃ v L, o = .returned v ∧ Q7 Z a0 s_COMPACT_STRINGS h0 n0 v U'.heap L ∧ FrameEnd U o U' L ({ frames := 0, cells := 0, slots := 0, locals := 0 } : Room).cells ({ frames := 0, cells := 0, slots := 0, locals := 0 } : Room).slots) := by
  refine MetFree.of_bodySF (plainFor_of_name pn_java_lang_String) hisR ?_
  intro p e s m args below meth c s₁ Bd hml0 hP hK
  obtain ⟨rfl, hZ, hh⟩ := hP
  have hx := Bd.exec
  have hby := Bd.bytes
  have hml : c.maxLocals = 1 := hml0
  have hown : s.vm.findClass "java/lang/String" = some m.cls := findClass_of_methodNamed Bd.named
  have hnm := (name_of_methodNamed Bd.named Bd.method).1
  have X0 : Stand p l e ({ frames := 0, cells := 0, slots := 0, locals := 0 } : Room) s m #[(.ref a0)] below meth c s₁ [] 0 0 := Stand.of_body Bd
  have e0 : s₁.heap = h0 := by rw [← hh, Bd.state]; rfl
  have N0 := Fr.nil n0
  have pre0 : ∀ t, Steps p.tables e below (s₁.setTop (mkF m 0 #[.val (.ref a0)] [])) t → Steps p.tables e below (s₁.setTop (entryFrame m #[(.ref a0)] 1)) t := fun t k => castTop (ef_rm7 m a0) k
  obtain ⟨T1, X1, e1, st1⟩ := getS2 X0 hx hZ hown (host := "") (Or.inl (hw _ (List.mem_of_getElem? (i := 49) rfl))) Via.refl e0 S_COMPACT_STRINGS (g := (mkF m 0 #[.val (.ref a0)] [])) rfl (hb hby d7_0)
  obtain ⟨T2, X2, e2, st2⟩ := getF X1 hx hZ hown (host := "") (Or.inl (hw _ (List.mem_of_getElem? (i := 50) rfl))) Via.refl e1 F_coder_a0 (g := (mkF m 7 #[.val (.ref a0)] [(.ref a0)])) rfl rfl (hb hby d7_7)
  obtain ⟨fs, hr, hrun, hended, hW, hsame⟩ := X2.leave (v := some (.int (0 : Int32))) (fun h => by rw [Bd.returns] at h; cases h)
  refine ⟨_, _, pre0 _ ?_, hrun, hended, _, _, rfl, ?_, ⟨_, rfl⟩, hW, hsame.mono (by decide) (by decide)⟩
  · show Steps p.tables e below (s₁.setTop (mkF m 0 #[.val (.ref a0)] [])) _
    refine st1 _ ?_
    show Steps p.tables e below (T1.setTop (mkF m 3 #[.val (.ref a0)] [(.int s_COMPACT_STRINGS)])) _
    refine XS.ifNo X1.here hx rfl (hb hby d7_3) rfl ((if0 _ _).trans (feq hc2).1) ?_
    show Steps p.tables e below (T1.setTop (mkF m 6 #[.val (.ref a0)] [])) _
    refine XS.aloadN X1.here hx rfl (hb hby d7_6) rfl rfl ?_
    show Steps p.tables e below (T1.setTop (mkF m 7 #[.val (.ref a0)] [(.ref a0)])) _
    refine st2 _ ?_
    show Steps p.tables e below (T2.setTop (mkF m 10 #[.val (.ref a0)] [(.int (0 : Int32))])) _
    refine XS.goto X2.here hx rfl (pc0 := 10) (pc' := 14) rfl (hb hby d7_10) (by decide) (by decide) ?_
    show Steps p.tables e below (T2.setTop (mkF m 14 #[.val (.ref a0)] [(.int (0 : Int32))])) _
    exact retN X2 hx (t := .byte) Bd.returns (by simp) (hb hby d7_14) hr
  · show Q7 Z a0 s_COMPACT_STRINGS h0 n0 _ T2.heap _
    rw [e2]
    exact ⟨rfl, N0, rfl⟩
theorem d11_0 : decode jdk_123_method_3_code 0 = .ok (.iload_n 1, 1) := by decide +kernel
theorem d11_1 : decode jdk_123_method_3_code 1 = .ok (.iload_n 2, 1) := by decide +kernel
theorem d11_2 : decode jdk_123_method_3_code 2 = .ok (.iadd, 1) := by decide +kernel
theorem d11_3 : decode jdk_123_method_3_code 3 = .ok (.istore_n 3, 1) := by decide +kernel
theorem d11_4 : decode jdk_123_method_3_code 4 = .ok (.iload_n 1, 1) := by decide +kernel
theorem d11_5 : decode jdk_123_method_3_code 5 = .ok (.istore 4, 2) := by decide +kernel
theorem d11_7 : decode jdk_123_method_3_code 7 = .ok (.iload 4, 2) := by decide +kernel
theorem d11_9 : decode jdk_123_method_3_code 9 = .ok (.iload_n 3, 1) := by decide +kernel
theorem d11_10 : decode jdk_123_method_3_code 10 = .ok (.if_icmp .ge 21, 3) := by decide +kernel
theorem d11_31 : decode jdk_123_method_3_code 31 = .ok (.iload_n 2, 1) := by decide +kernel
theorem d11_32 : decode jdk_123_method_3_code 32 = .ok (.ireturn, 1) := by decide +kernel
theorem pn_java_lang_StringCoding : plainName "java/lang/StringCoding" = true := by first | (simp [plainName, overriddenIn]; done) | decide +kernel
theorem ef_rm110 (m : MethodId) (a0 : Addr) : entryFrame m #[(.ref a0), (.int (0 : Int32)), (.int (0 : Int32))] 5 = mkF m 0 #[.val (.ref a0), .val (.int (0 : Int32)), .val (.int (0 : Int32)), .unset, .unset] [] := by first | (simp [entryFrame, mkF, argsToLocals, Value.category]; done) | rfl
def Q110 (Z : State) (a0 : Addr) (k0 : ClassId) (h0 : Heap) (n0 : Nat) (v : Option Value) (h : Heap) (L : List Loc) : Prop := v = some (.int (0 : Int32)) ∧ Fr n0 L ∧ h = h0
set_option maxRecDepth 65536 in
set_option maxHeartbeats 40000000 in
theorem rm110 (l : Launch) (Z : State) (az : Array Value) (hw : ∀ d ∈ tables_1, d.before az Z = true) (ws : List Jvm.Cond) (a0 : Addr) (k0 : ClassId) (h0 : Heap) (n0 : Nat) (Z0 : n0 ≤ h0.size) (V_a0 : Arv Z h0 a0 k0 .byte (0 : Int32) [] (.int (0 : Int32))) :
    MetFree l (⟨"java/lang/StringCoding", "countPositives", "([BII)I"⟩ : MethodName) (head1 (Jvm.Cond.code (⟨"java/lang/StringCoding", "countPositives", "([BII)I"⟩ : MethodName) jdk_123_method_3_code 5 (some .int) :: ws) ({ frames := 0, cells := 0, slots := 0, locals := 0 } : Room)) (fun a U => a = #[(.ref a0), (.int (0 : Int32)), (.int (0 : Int32))] ∧ Z.Warmed39 U.vm ∧ U.heap = h0) (fun _ _ _ _ _ => True) (fun _ U o U' => ∃ v L, o = .returned v ∧ Q110 Z a0 k0 h0 n0 v U'.heap L ∧ FrameEnd U o U' L ({ frames := 0, cells := 0, slots := 0, locals := 0 } : Room).cells ({ frames := 0, cells := 0, slots := 0, locals := 0 } : Room).slots) := by
  refine MetFree.of_bodySF (plainFor_of_name pn_java_lang_StringCoding) hisR ?_
  intro p e s m args below meth c s₁ Bd hml0 hP hK
  obtain ⟨rfl, hZ, hh⟩ := hP
  have hx := Bd.exec
  have hby := Bd.bytes
  have hml : c.maxLocals = 5 := hml0
  have hown : s.vm.findClass "java/lang/StringCoding" = some m.cls := findClass_of_methodNamed Bd.named
  have hnm := (name_of_methodNamed Bd.named Bd.method).1
  have X0 : Stand p l e ({ frames := 0, cells := 0, slots := 0, locals := 0 } : Room) s m #[(.ref a0), (.int (0 : Int32)), (.int (0 : Int32))] below meth c s₁ [] 0 0 := Stand.of_body Bd
  have e0 : s₁.heap = h0 := by rw [← hh, Bd.state]; rfl
  have N0 := Fr.nil n0
  have pre0 : ∀ t, Steps p.tables e below (s₁.setTop (mkF m 0 #[.val (.ref a0), .val (.int (0 : Int32)), .val (.int (0 : Int32)), .unset, .unset] [])) t → Steps p.tables e below (s₁.setTop (entryFrame m #[(.ref a0), (.int (0 : Int32)), (.int (0 : Int32))] 5)) t := fun t k => castTop (ef_rm110 m a0) k
  obtain ⟨fs, hr, hrun, hended, hW, hsame⟩ := X0.leave (v := some (.int (0 : Int32))) (fun h => by rw [Bd.returns] at h; cases h)
  refine ⟨_, _, pre0 _ ?_, hrun, hended, _, _, rfl, ?_, ⟨_, rfl⟩, hW, hsame.mono (by decide) (by decide)⟩
  · show Steps p.tables e below (s₁.setTop (mkF m 0 #[.val (.ref a0), .val (.int (0 : Int32)), .val (.int (0 : Int32)), .unset, .unset] [])) _
    refine XS.iloadN X0.here hx rfl (hb hby d11_0) rfl ?_
    show Steps p.tables e below (s₁.setTop (mkF m 1 #[.val (.ref a0), .val (.int (0 : Int32)), .val (.int (0 : Int32)), .unset, .unset] [(.int (0 : Int32))])) _
    refine XS.iloadN X0.here hx rfl (hb hby d11_1) rfl ?_
    show Steps p.tables e below (s₁.setTop (mkF m 2 #[.val (.ref a0), .val (.int (0 : Int32)), .val (.int (0 : Int32)), .unset, .unset] [(.int (0 : Int32)), (.int (0 : Int32))])) _
    refine XS.iadd X0.here hx rfl (hb hby d11_2) rfl ?_
    show Steps p.tables e below (s₁.setTop (mkF m 3 #[.val (.ref a0), .val (.int (0 : Int32)), .val (.int (0 : Int32)), .unset, .unset] [(.int (0 : Int32))])) _
    refine XS.istoreN X0.here hx rfl (hb hby d11_3) rfl (l' := #[.val (.ref a0), .val (.int (0 : Int32)), .val (.int (0 : Int32)), .val (.int (0 : Int32)), .unset]) rfl ?_
    show Steps p.tables e below (s₁.setTop (mkF m 4 #[.val (.ref a0), .val (.int (0 : Int32)), .val (.int (0 : Int32)), .val (.int (0 : Int32)), .unset] [])) _
    refine XS.iloadN X0.here hx rfl (hb hby d11_4) rfl ?_
    show Steps p.tables e below (s₁.setTop (mkF m 5 #[.val (.ref a0), .val (.int (0 : Int32)), .val (.int (0 : Int32)), .val (.int (0 : Int32)), .unset] [(.int (0 : Int32))])) _
    refine XS.istore X0.here hx rfl (hb hby d11_5) rfl (l' := #[.val (.ref a0), .val (.int (0 : Int32)), .val (.int (0 : Int32)), .val (.int (0 : Int32)), .val (.int (0 : Int32))]) rfl ?_
    show Steps p.tables e below (s₁.setTop (mkF m 7 #[.val (.ref a0), .val (.int (0 : Int32)), .val (.int (0 : Int32)), .val (.int (0 : Int32)), .val (.int (0 : Int32))] [])) _
    refine XS.iload X0.here hx rfl (hb hby d11_7) rfl ?_
    show Steps p.tables e below (s₁.setTop (mkF m 9 #[.val (.ref a0), .val (.int (0 : Int32)), .val (.int (0 : Int32)), .val (.int (0 : Int32)), .val (.int (0 : Int32))] [(.int (0 : Int32))])) _
    refine XS.iloadN X0.here hx rfl (hb hby d11_9) rfl ?_
    show Steps p.tables e below (s₁.setTop (mkF m 10 #[.val (.ref a0), .val (.int (0 : Int32)), .val (.int (0 : Int32)), .val (.int (0 : Int32)), .val (.int (0 : Int32))] [(.int (0 : Int32)), (.int (0 : Int32))])) _
    refine XS.icmpYes X0.here hx rfl (pc0 := 10) (pc' := 31) rfl (hb hby d11_10) rfl (flt (by decide : ¬ ((0 : Int32) < (0 : Int32)))).2.1 (by decide) (by decide) ?_
    show Steps p.tables e below (s₁.setTop (mkF m 31 #[.val (.ref a0), .val (.int (0 : Int32)), .val (.int (0 : Int32)), .val (.int (0 : Int32)), .val (.int (0 : Int32))] [])) _
    refine XS.iloadN X0.here hx rfl (hb hby d11_31) rfl ?_
    show Steps p.tables e below (s₁.setTop (mkF m 32 #[.val (.ref a0), .val (.int (0 : Int32)), .val (.int (0 : Int32)), .val (.int (0 : Int32)), .val (.int (0 : Int32))] [(.int (0 : Int32))])) _
    exact retI X0 hx Bd.returns (hb hby d11_32) hr
  · show Q110 Z a0 k0 h0 n0 _ s₁.heap _
    rw [e0]
    exact ⟨rfl, N0, rfl⟩
theorem d10_0 : decode jdk_123_method_2_code 0 = .ok (.aload_n 0, 1) := by decide +kernel
theorem d10_1 : decode jdk_123_method_2_code 1 = .ok (.iload_n 1, 1) := by decide +kernel
theorem d10_2 : decode jdk_123_method_2_code 2 = .ok (.iload_n 2, 1) := by decide +kernel
theorem d10_3 : decode jdk_123_method_2_code 3 = .ok (.invokestatic 7, 3) := by decide +kernel
theorem pd_0 : parseMethodDescriptor "([BII)I" = some ⟨[(.array .byte), .int, .int], some .int⟩ := by decide +kernel
theorem d10_6 : decode jdk_123_method_2_code 6 = .ok (.iload_n 2, 1) := by decide +kernel
theorem d10_7 : decode jdk_123_method_2_code 7 = .ok (.if_icmp .eq 7, 3) := by decide +kernel
theorem d10_14 : decode jdk_123_method_2_code 14 = .ok (.iconst 0, 1) := by decide +kernel
theorem d10_15 : decode jdk_123_method_2_code 15 = .ok (.ireturn, 1) := by decide +kernel
theorem ef_rm100 (m : MethodId) (a0 : Addr) : entryFrame m #[(.ref a0), (.int (0 : Int32)), (.int (0 : Int32))] 3 = mkF m 0 #[.val (.ref a0), .val (.int (0 : Int32)), .val (.int (0 : Int32))] [] := by first | (simp [entryFrame, mkF, argsToLocals, Value.category]; done) | rfl
def Q100 (Z : State) (a0 : Addr) (k0 : ClassId) (h0 : Heap) (n0 : Nat) (v : Option Value) (h : Heap) (L : List Loc) : Prop := v = some (.int (0 : Int32)) ∧ Fr n0 L ∧ h = h0
set_option maxRecDepth 65536 in
set_option maxHeartbeats 40000000 in
theorem rm100 (l : Launch) (Z : State) (az : Array Value) (hw : ∀ d ∈ tables_1, d.before az Z = true) (ws : List Jvm.Cond) (a0 : Addr) (k0 : ClassId) (h0 : Heap) (n0 : Nat) (Z0 : n0 ≤ h0.size) (V_a0 : Arv Z h0 a0 k0 .byte (0 : Int32) [] (.int (0 : Int32))) :
    MetFree l (⟨"java/lang/StringCoding", "hasNegatives", "([BII)Z"⟩ : MethodName) (head1 (Jvm.Cond.code (⟨"java/lang/StringCoding", "hasNegatives", "([BII)Z"⟩ : MethodName) jdk_123_method_2_code 3 (some .boolean) :: ws) ({ frames := 1, cells := 0, slots := 0, locals := 16 } : Room)) (fun a U => a = #[(.ref a0), (.int (0 : Int32)), (.int (0 : Int32))] ∧ Z.Warmed39 U.vm ∧ U.heap = h0) (fun _ _ _ _ _ => True) (fun _ U o U' => ∃ v L, o = .returned v ∧ Q100 Z a0 k0 h0 n0 v U'.heap L ∧ FrameEnd U o U' L ({ frames := 1, cells := 0, slots := 0, locals := 16 } : Room).cells ({ frames := 1, cells := 0, slots := 0, locals := 16 } : Room).slots) := by
  refine MetFree.of_bodySF (plainFor_of_name pn_java_lang_StringCoding) hisR ?_
  intro p e s m args below meth c s₁ Bd hml0 hP hK
  obtain ⟨rfl, hZ, hh⟩ := hP
  have hx := Bd.exec
  have hby := Bd.bytes
  have hml : c.maxLocals = 3 := hml0
  have hown : s.vm.findClass "java/lang/StringCoding" = some m.cls := findClass_of_methodNamed Bd.named
  have hnm := (name_of_methodNamed Bd.named Bd.method).1
  have X0 : Stand p l e ({ frames := 1, cells := 0, slots := 0, locals := 16 } : Room) s m #[(.ref a0), (.int (0 : Int32)), (.int (0 : Int32))] below meth c s₁ [] 0 0 := Stand.of_body Bd
  have e0 : s₁.heap = h0 := by rw [← hh, Bd.state]; rfl
  have N0 := Fr.nil n0
  have pre0 : ∀ t, Steps p.tables e below (s₁.setTop (mkF m 0 #[.val (.ref a0), .val (.int (0 : Int32)), .val (.int (0 : Int32))] [])) t → Steps p.tables e below (s₁.setTop (entryFrame m #[(.ref a0), (.int (0 : Int32)), (.int (0 : Int32))] 3)) t := fun t k => castTop (ef_rm100 m a0) k
  obtain ⟨_, _, ⟨T1, L1, k1', n1'⟩, -, X1, ⟨Lc1, hQ1, l1, y1, z1⟩, st1⟩ := Jvm.LawKit.callS X0 hx (y := (⟨"java/lang/StringCoding", "countPositives", "([BII)I"⟩ : MethodName)) hown (mvT hZ (hw _ (List.mem_of_getElem? (i := 64) rfl))) (mvT hZ (hw _ (List.mem_of_getElem? (i := 65) rfl))) (mvT hZ (hw _ (List.mem_of_getElem? (i := 62) rfl))) (mvT hZ (hw _ (List.mem_of_getElem? (i := 66) rfl))) (by decide) (backOf (W := 0) (rm110 l Z az hw [] a0 k0 h0 n0 Z0 V_a0) hZ (hw _ (List.mem_of_getElem? (i := 66) rfl)) (hw _ (List.mem_of_getElem? (i := 62) rfl)) (by decide) (by decide)) (g := (mkF m 3 #[.val (.ref a0), .val (.int (0 : Int32)), .val (.int (0 : Int32))] [(.int (0 : Int32)), (.int (0 : Int32)), (.ref a0)])) rfl (by rw [hml]; rfl) (argsL := [(.ref a0), (.int (0 : Int32)), (.int (0 : Int32))]) (rest := []) (lenOf pd_0 rfl) rfl (by show 2 * 0 + _ ≤ _; exact Nat.le_of_eq rfl) (hb hby d10_3) (fun _ _ => ⟨rfl, e0, (by decide : 0 + 0 ≤ _), (by decide : 0 + 0 ≤ _)⟩)
  dsimp only [Pt.U, Pt.locs, Pt.cells, Pt.slots] at X1 l1 y1 z1 st1 hQ1
  subst l1 y1 z1
  obtain ⟨rfl, N1q, e1⟩ := hQ1
  obtain ⟨Lg1, X1', N1⟩ := own_gen X1 (Fr.app N0 N1q)
  obtain ⟨fs, hr, hrun, hended, hW, hsame⟩ := X1'.leave (v := some (.int (0 : Int32))) (fun h => by rw [Bd.returns] at h; cases h)
  refine ⟨_, _, pre0 _ ?_, hrun, hended, _, _, rfl, ?_, ⟨_, rfl⟩, hW, hsame.mono (by decide) (by decide)⟩
  · show Steps p.tables e below (s₁.setTop (mkF m 0 #[.val (.ref a0), .val (.int (0 : Int32)), .val (.int (0 : Int32))] [])) _
    refine XS.aloadN X0.here hx rfl (hb hby d10_0) rfl rfl ?_
    show Steps p.tables e below (s₁.setTop (mkF m 1 #[.val (.ref a0), .val (.int (0 : Int32)), .val (.int (0 : Int32))] [(.ref a0)])) _
    refine XS.iloadN X0.here hx rfl (hb hby d10_1) rfl ?_
    show Steps p.tables e below (s₁.setTop (mkF m 2 #[.val (.ref a0), .val (.int (0 : Int32)), .val (.int (0 : Int32))] [(.int (0 : Int32)), (.ref a0)])) _
    refine XS.iloadN X0.here hx rfl (hb hby d10_2) rfl ?_
    show Steps p.tables e below (s₁.setTop (mkF m 3 #[.val (.ref a0), .val (.int (0 : Int32)), .val (.int (0 : Int32))] [(.int (0 : Int32)), (.int (0 : Int32)), (.ref a0)])) _
    refine st1 _ ?_
    show Steps p.tables e below (T1.setTop (mkF m 6 #[.val (.ref a0), .val (.int (0 : Int32)), .val (.int (0 : Int32))] [(.int (0 : Int32))])) _
    refine XS.iloadN X1'.here hx rfl (hb hby d10_6) rfl ?_
    show Steps p.tables e below (T1.setTop (mkF m 7 #[.val (.ref a0), .val (.int (0 : Int32)), .val (.int (0 : Int32))] [(.int (0 : Int32)), (.int (0 : Int32))])) _
    refine XS.icmpYes X1'.here hx rfl (pc0 := 7) (pc' := 14) rfl (hb hby d10_7) rfl (teq (by decide : (0 : Int32) = (0 : Int32))).1 (by decide) (by decide) ?_
    show Steps p.tables e below (T1.setTop (mkF m 14 #[.val (.ref a0), .val (.int (0 : Int32)), .val (.int (0 : Int32))] [])) _
    refine XS.iconst X1'.here hx rfl (hb hby d10_14) ?_
    show Steps p.tables e below (T1.setTop (mkF m 15 #[.val (.ref a0), .val (.int (0 : Int32)), .val (.int (0 : Int32))] [(.int (0 : Int32))])) _
    exact retN X1' hx (t := .boolean) Bd.returns (by simp) (hb hby d10_15) hr
  · show Q100 Z a0 k0 h0 n0 _ T1.heap _
    rw [e1]
    exact ⟨rfl, N1, rfl⟩
theorem d9_0 : decode jdk_42_method_46_code 0 = .ok (.iload_n 0, 1) := by decide +kernel
theorem d9_1 : decode jdk_42_method_46_code 1 = .ok (.iconst 1, 1) := by decide +kernel
theorem d9_2 : decode jdk_42_method_46_code 2 = .ok (.if_icmp .ne 9, 3) := by decide +kernel
theorem d9_11 : decode jdk_42_method_46_code 11 = .ok (.aload_n 1, 1) := by decide +kernel
theorem d9_12 : decode jdk_42_method_46_code 12 = .ok (.iconst 0, 1) := by decide +kernel
theorem d9_13 : decode jdk_42_method_46_code 13 = .ok (.aload_n 1, 1) := by decide +kernel
theorem d9_14 : decode jdk_42_method_46_code 14 = .ok (.arraylength, 1) := by decide +kernel
theorem d9_15 : decode jdk_42_method_46_code 15 = .ok (.invokestatic 128, 3) := by decide +kernel
theorem pd_1 : parseMethodDescriptor "([BII)Z" = some ⟨[(.array .byte), .int, .int], some .boolean⟩ := by decide +kernel
theorem d9_18 : decode jdk_42_method_46_code 18 = .ok (.ifCond .ne 11, 3) := by decide +kernel
theorem d9_21 : decode jdk_42_method_46_code 21 = .ok (.aload_n 1, 1) := by decide +kernel
theorem d9_22 : decode jdk_42_method_46_code 22 = .ok (.invokevirtual 279, 3) := by decide +kernel
theorem d9_25 : decode jdk_42_method_46_code 25 = .ok (.checkcast 280, 3) := by decide +kernel
theorem d9_28 : decode jdk_42_method_46_code 28 = .ok (.areturn, 1) := by decide +kernel
theorem ef_rm90 (m : MethodId) (a1 : Addr) : entryFrame m #[(.int (0 : Int32)), (.ref a1), (.int (1 : Int32))] 9 = mkF m 0 #[.val (.int (0 : Int32)), .val (.ref a1), .val (.int (1 : Int32)), .unset, .unset, .unset, .unset, .unset, .unset] [] := by first | (simp [entryFrame, mkF, argsToLocals, Value.category]; done) | rfl
def Q90 (Z : State) (a1 : Addr) (k1 : ClassId) (h0 : Heap) (n0 : Nat) (v : Option Value) (h : Heap) (L : List Loc) : Prop := ∃ r0 : Addr, v = some (.ref r0) ∧ Fr n0 L ∧ h0.size ≤ r0 ∧ Keep h0 h [] ∧ Exa Z h r0 "[B" ∧ Arv Z h r0 k1 .byte (0 : Int32) [] (.int (0 : Int32))
set_option maxRecDepth 65536 in
set_option maxHeartbeats 40000000 in
theorem rm90 (l : Launch) (Z : State) (az : Array Value) (hw : ∀ d ∈ tables_1, d.before az Z = true) (ws : List Jvm.Cond) (a1 : Addr) (k1 : ClassId) (h0 : Heap) (n0 : Nat) (Z0 : n0 ≤ h0.size) (V_a1 : Arv Z h0 a1 k1 .byte (0 : Int32) [] (.int (0 : Int32))) (E_a1 : Exa Z h0 a1 "[B") :
    MetFree l (⟨"java/lang/String", "encodeUTF8", "(B[BZ)[B"⟩ : MethodName) (head1 (Jvm.Cond.code (⟨"java/lang/String", "encodeUTF8", "(B[BZ)[B"⟩ : MethodName) jdk_42_method_46_code 9 (some (.array .byte)) :: ws) ({ frames := 2, cells := 1, slots := 0, locals := 30 } : Room)) (fun a U => a = #[(.int (0 : Int32)), (.ref a1), (.int (1 : Int32))] ∧ Z.Warmed39 U.vm ∧ U.heap = h0) (fun _ _ _ _ _ => True) (fun _ U o U' => ∃ v L, o = .returned v ∧ Q90 Z a1 k1 h0 n0 v U'.heap L ∧ FrameEnd U o U' L ({ frames := 2, cells := 1, slots := 0, locals := 30 } : Room).cells ({ frames := 2, cells := 1, slots := 0, locals := 30 } : Room).slots) := by
  refine MetFree.of_bodySF (plainFor_of_name pn_java_lang_String) hisR ?_
  intro p e s m args below meth c s₁ Bd hml0 hP hK
  obtain ⟨rfl, hZ, hh⟩ := hP
  have hx := Bd.exec
  have hby := Bd.bytes
  have hml : c.maxLocals = 9 := hml0
  have hown : s.vm.findClass "java/lang/String" = some m.cls := findClass_of_methodNamed Bd.named
  have hnm := (name_of_methodNamed Bd.named Bd.method).1
  have X0 : Stand p l e ({ frames := 2, cells := 1, slots := 0, locals := 30 } : Room) s m #[(.int (0 : Int32)), (.ref a1), (.int (1 : Int32))] below meth c s₁ [] 0 0 := Stand.of_body Bd
  have e0 : s₁.heap = h0 := by rw [← hh, Bd.state]; rfl
  have N0 := Fr.nil n0
  have pre0 : ∀ t, Steps p.tables e below (s₁.setTop (mkF m 0 #[.val (.int (0 : Int32)), .val (.ref a1), .val (.int (1 : Int32)), .unset, .unset, .unset, .unset, .unset, .unset] [])) t → Steps p.tables e below (s₁.setTop (entryFrame m #[(.int (0 : Int32)), (.ref a1), (.int (1 : Int32))] 9)) t := fun t k => castTop (ef_rm90 m a1) k
  obtain ⟨cl1, Ar1, qk1, Sz1, Ng1, Hs1, Gf1⟩ := id V_a1
  obtain ⟨_, _, ⟨T2, L2, k2', n2'⟩, -, X2, ⟨Lc2, hQ2, l2, y2, z2⟩, st2⟩ := Jvm.LawKit.callS X0 hx (y := (⟨"java/lang/StringCoding", "hasNegatives", "([BII)Z"⟩ : MethodName)) hown (mvT hZ (hw _ (List.mem_of_getElem? (i := 60) rfl))) (mvT hZ (hw _ (List.mem_of_getElem? (i := 61) rfl))) (mvT hZ (hw _ (List.mem_of_getElem? (i := 62) rfl))) (mvT hZ (hw _ (List.mem_of_getElem? (i := 63) rfl))) (by decide) (backOf (W := 0) (rm100 l Z az hw [] a1 k1 h0 n0 Z0 V_a1) hZ (hw _ (List.mem_of_getElem? (i := 63) rfl)) (hw _ (List.mem_of_getElem? (i := 62) rfl)) (by decide) (by decide)) (g := (mkF m 15 #[.val (.int (0 : Int32)), .val (.ref a1), .val (.int (1 : Int32)), .unset, .unset, .unset, .unset, .unset, .unset] [(.int (0 : Int32)), (.int (0 : Int32)), (.ref a1)])) rfl (by rw [hml]; rfl) (argsL := [(.ref a1), (.int (0 : Int32)), (.int (0 : Int32))]) (rest := []) (lenOf pd_1 rfl) rfl (by show 2 * 0 + _ ≤ _; exact Nat.le_of_eq rfl) (hb hby d9_15) (fun _ _ => ⟨rfl, e0, (by decide : 0 + 0 ≤ _), (by decide : 0 + 0 ≤ _)⟩)
  dsimp only [Pt.U, Pt.locs, Pt.cells, Pt.slots] at X2 l2 y2 z2 st2 hQ2
  subst l2 y2 z2
  obtain ⟨rfl, N2q, e2⟩ := hQ2
  obtain ⟨Lg2, X2', N2⟩ := own_gen X2 (Fr.app N0 N2q)
  obtain ⟨T3, h3, X3, e3, E3, A3, x3, st3⟩ := cloneH X2' hx hZ hown (hw _ (List.mem_of_getElem? (i := 67) rfl)) (hw _ (List.mem_of_getElem? (i := 68) rfl)) (hw _ (List.mem_of_getElem? (i := 72) rfl)) (hw _ (List.mem_of_getElem? (i := 70) rfl)) (hw _ (List.mem_of_getElem? (i := 71) rfl)) (hw _ (List.mem_of_getElem? (i := 73) rfl)) e2 (Arv.arh V_a1) E_a1 (g := (mkF m 22 #[.val (.int (0 : Int32)), .val (.ref a1), .val (.int (1 : Int32)), .unset, .unset, .unset, .unset, .unset, .unset] [(.ref a1)])) rfl (by rw [hml]; rfl) rfl (hb hby d9_22) (by decide) (W := 0) (cap := 0) (by show 2 * 0 + _ ≤ _; exact Nat.le_of_eq rfl) (by decide) (by decide) (by decide) (by decide)
  obtain ⟨b3, g3⟩ : ∃ z, z = h0.size := ⟨_, rfl⟩
  rw [← g3] at A3 x3 st3
  have g_b3 : n0 ≤ b3 := Nat.le_trans Z0 (Nat.le_of_eq g3.symm)
  have sz_b3 : h0.size ≤ b3 := Nat.le_trans (Nat.le_refl _) (Nat.le_of_eq g3.symm)
  have Z3 : n0 ≤ h3.size := Nat.le_trans Z0 E3.1
  have K3 : Keep h0 h3 [] := (Keep.refl h0 []).ext E3
  have E_b3 := x3
  have V_b3 : Arv Z h3 b3 k1 .byte (0 : Int32) [] (.int (0 : Int32)) := A3
  obtain ⟨T4, X4, e4, st4⟩ := castY X3 hx hZ hown (hw _ (List.mem_of_getElem? (i := 74) rfl)) e3 (Ins.self E_b3) (g := (mkF m 25 #[.val (.int (0 : Int32)), .val (.ref a1), .val (.int (1 : Int32)), .unset, .unset, .unset, .unset, .unset, .unset] [(.ref b3)])) rfl rfl (hb hby d9_25)
  obtain ⟨fs, hr, hrun, hended, hW, hsame⟩ := X4.leave (v := some (.ref b3)) (fun h => by rw [Bd.returns] at h; cases h)
  refine ⟨_, _, pre0 _ ?_, hrun, hended, _, _, rfl, ?_, ⟨_, rfl⟩, hW, hsame.mono (by decide) (by decide)⟩
  · show Steps p.tables e below (s₁.setTop (mkF m 0 #[.val (.int (0 : Int32)), .val (.ref a1), .val (.int (1 : Int32)), .unset, .unset, .unset, .unset, .unset, .unset] [])) _
    refine XS.iloadN X0.here hx rfl (hb hby d9_0) rfl ?_
    show Steps p.tables e below (s₁.setTop (mkF m 1 #[.val (.int (0 : Int32)), .val (.ref a1), .val (.int (1 : Int32)), .unset, .unset, .unset, .unset, .unset, .unset] [(.int (0 : Int32))])) _
    refine XS.iconst X0.here hx rfl (hb hby d9_1) ?_
    show Steps p.tables e below (s₁.setTop (mkF m 2 #[.val (.int (0 : Int32)), .val (.ref a1), .val (.int (1 : Int32)), .unset, .unset, .unset, .unset, .unset, .unset] [(.int (1 : Int32)), (.int (0 : Int32))])) _
    refine XS.icmpYes X0.here hx rfl (pc0 := 2) (pc' := 11) rfl (hb hby d9_2) rfl (feq (by decide : ¬ ((0 : Int32) = (1 : Int32)))).2 (by decide) (by decide) ?_
    show Steps p.tables e below (s₁.setTop (mkF m 11 #[.val (.int (0 : Int32)), .val (.ref a1), .val (.int (1 : Int32)), .unset, .unset, .unset, .unset, .unset, .unset] [])) _
    refine XS.aloadN X0.here hx rfl (hb hby d9_11) rfl rfl ?_
    show Steps p.tables e below (s₁.setTop (mkF m 12 #[.val (.int (0 : Int32)), .val (.ref a1), .val (.int (1 : Int32)), .unset, .unset, .unset, .unset, .unset, .unset] [(.ref a1)])) _
    refine XS.iconst X0.here hx rfl (hb hby d9_12) ?_
    show Steps p.tables e below (s₁.setTop (mkF m 13 #[.val (.int (0 : Int32)), .val (.ref a1), .val (.int (1 : Int32)), .unset, .unset, .unset, .unset, .unset, .unset] [(.int (0 : Int32)), (.ref a1)])) _
    refine XS.aloadN X0.here hx rfl (hb hby d9_13) rfl rfl ?_
    show Steps p.tables e below (s₁.setTop (mkF m 14 #[.val (.int (0 : Int32)), .val (.ref a1), .val (.int (1 : Int32)), .unset, .unset, .unset, .unset, .unset, .unset] [(.ref a1), (.int (0 : Int32)), (.ref a1)])) _
    refine X0.arraylength hx (by rw [e0]; exact Ar1.1) (State.isArrayOf_alike hZ.alike Ar1.2.1) (g := (mkF m 14 #[.val (.int (0 : Int32)), .val (.ref a1), .val (.int (1 : Int32)), .unset, .unset, .unset, .unset, .unset, .unset] [(.ref a1), (.int (0 : Int32)), (.ref a1)])) rfl rfl (hb hby d9_14) _ ?_
    rw [len_of Sz1 Ng1]
    show Steps p.tables e below (s₁.setTop (mkF m 15 #[.val (.int (0 : Int32)), .val (.ref a1), .val (.int (1 : Int32)), .unset, .unset, .unset, .unset, .unset, .unset] [(.int (0 : Int32)), (.int (0 : Int32)), (.ref a1)])) _
    refine st2 _ ?_
    show Steps p.tables e below (T2.setTop (mkF m 18 #[.val (.int (0 : Int32)), .val (.ref a1), .val (.int (1 : Int32)), .unset, .unset, .unset, .unset, .unset, .unset] [(.int (0 : Int32))])) _
    refine XS.ifNo X2'.here hx rfl (hb hby d9_18) rfl ((if0 _ _).trans (teq (by decide : (0 : Int32) = (0 : Int32))).2) ?_
    show Steps p.tables e below (T2.setTop (mkF m 21 #[.val (.int (0 : Int32)), .val (.ref a1), .val (.int (1 : Int32)), .unset, .unset, .unset, .unset, .unset, .unset] [])) _
    refine XS.aloadN X2'.here hx rfl (hb hby d9_21) rfl rfl ?_
    show Steps p.tables e below (T2.setTop (mkF m 22 #[.val (.int (0 : Int32)), .val (.ref a1), .val (.int (1 : Int32)), .unset, .unset, .unset, .unset, .unset, .unset] [(.ref a1)])) _
    refine st3 _ ?_
    show Steps p.tables e below (T3.setTop (mkF m 25 #[.val (.int (0 : Int32)), .val (.ref a1), .val (.int (1 : Int32)), .unset, .unset, .unset, .unset, .unset, .unset] [(.ref b3)])) _
    refine st4 _ ?_
    show Steps p.tables e below (T4.setTop (mkF m 28 #[.val (.int (0 : Int32)), .val (.ref a1), .val (.int (1 : Int32)), .unset, .unset, .unset, .unset, .unset, .unset] [(.ref b3)])) _
    jvm_step X4.here [X4.here.top, hx, (hb hby d9_28), X4.method', Bd.returns, Value.isRef, FieldType.isReference]
    first | (intro acts; rw [hr _ acts rfl rfl rfl]) | rw [hr _ _ rfl rfl rfl]
    exact Steps.refl _
  · show Q90 Z a1 k1 h0 n0 _ T4.heap _
    rw [e4]
    exact ⟨b3, rfl, N2, sz_b3, K3, E_b3, V_b3⟩
theorem d8_0 : decode jdk_42_method_18_code 0 = .ok (.aload_n 0, 1) := by decide +kernel
theorem d8_1 : decode jdk_42_method_18_code 1 = .ok (.getstatic 86, 3) := by decide +kernel
theorem d8_4 : decode jdk_42_method_18_code 4 = .ok (.if_acmp .ne 10, 3) := by decide +kernel
theorem d8_7 : decode jdk_42_method_18_code 7 = .ok (.iload_n 1, 1) := by decide +kernel
theorem d8_8 : decode jdk_42_method_18_code 8 = .ok (.aload_n 2, 1) := by decide +kernel
theorem d8_9 : decode jdk_42_method_18_code 9 = .ok (.iconst 1, 1) := by decide +kernel
theorem d8_10 : decode jdk_42_method_18_code 10 = .ok (.invokestatic 252, 3) := by decide +kernel
theorem pd_2 : parseMethodDescriptor "(B[BZ)[B" = some ⟨[.byte, (.array .byte), .boolean], some (.array .byte)⟩ := by decide +kernel
theorem d8_13 : decode jdk_42_method_18_code 13 = .ok (.areturn, 1) := by decide +kernel
theorem ef_rm80 (m : MethodId) (aU : Addr) (a2 : Addr) : entryFrame m #[(.ref aU), (.int (0 : Int32)), (.ref a2)] 3 = mkF m 0 #[.val (.ref aU), .val (.int (0 : Int32)), .val (.ref a2)] [] := by first | (simp [entryFrame, mkF, argsToLocals, Value.category]; done) | rfl
def Q80 (Z : State) (aU : Addr) (a2 : Addr) (k2 : ClassId) (h0 : Heap) (n0 : Nat) (v : Option Value) (h : Heap) (L : List Loc) : Prop := ∃ r0 : Addr, v = some (.ref r0) ∧ Fr n0 L ∧ h0.size ≤ r0 ∧ Keep h0 h [] ∧ Exa Z h r0 "[B" ∧ Arv Z h r0 k2 .byte (0 : Int32) [] (.int (0 : Int32))
set_option maxRecDepth 65536 in
set_option maxHeartbeats 40000000 in
theorem rm80 (l : Launch) (Z : State) (az : Array Value) (hw : ∀ d ∈ tables_1, d.before az Z = true) (ws : List Jvm.Cond) (aU : Addr) (a2 : Addr) (k2 : ClassId) (h0 : Heap) (n0 : Nat) (Z0 : n0 ≤ h0.size) (S_INSTANCE : Sta Z h0 "sun/nio/cs/UTF_8" "INSTANCE" "Lsun/nio/cs/UTF_8;" (.ref aU)) (V_a2 : Arv Z h0 a2 k2 .byte (0 : Int32) [] (.int (0 : Int32))) (E_a2 : Exa Z h0 a2 "[B") :
    MetFree l (⟨"java/lang/String", "encode", "(Ljava/nio/charset/Charset;B[B)[B"⟩ : MethodName) (head1 (Jvm.Cond.code (⟨"java/lang/String", "encode", "(Ljava/nio/charset/Charset;B[B)[B"⟩ : MethodName) jdk_42_method_18_code 3 (some (.array .byte)) :: ws) ({ frames := 3, cells := 1, slots := 0, locals := 50 } : Room)) (fun a U => a = #[(.ref aU), (.int (0 : Int32)), (.ref a2)] ∧ Z.Warmed39 U.vm ∧ U.heap = h0) (fun _ _ _ _ _ => True) (fun _ U o U' => ∃ v L, o = .returned v ∧ Q80 Z aU a2 k2 h0 n0 v U'.heap L ∧ FrameEnd U o U' L ({ frames := 3, cells := 1, slots := 0, locals := 50 } : Room).cells ({ frames := 3, cells := 1, slots := 0, locals := 50 } : Room).slots) := by
  refine MetFree.of_bodySF (plainFor_of_name pn_java_lang_String) hisR ?_
  intro p e s m args below meth c s₁ Bd hml0 hP hK
  obtain ⟨rfl, hZ, hh⟩ := hP
  have hx := Bd.exec
  have hby := Bd.bytes
  have hml : c.maxLocals = 3 := hml0
  have hown : s.vm.findClass "java/lang/String" = some m.cls := findClass_of_methodNamed Bd.named
  have hnm := (name_of_methodNamed Bd.named Bd.method).1
  have X0 : Stand p l e ({ frames := 3, cells := 1, slots := 0, locals := 50 } : Room) s m #[(.ref aU), (.int (0 : Int32)), (.ref a2)] below meth c s₁ [] 0 0 := Stand.of_body Bd
  have e0 : s₁.heap = h0 := by rw [← hh, Bd.state]; rfl
  have N0 := Fr.nil n0
  have pre0 : ∀ t, Steps p.tables e below (s₁.setTop (mkF m 0 #[.val (.ref aU), .val (.int (0 : Int32)), .val (.ref a2)] [])) t → Steps p.tables e below (s₁.setTop (entryFrame m #[(.ref aU), (.int (0 : Int32)), (.ref a2)] 3)) t := fun t k => castTop (ef_rm80 m aU a2) k
  obtain ⟨T1, X1, e1, st1⟩ := getS2 X0 hx hZ hown (host := "") (Or.inl (hw _ (List.mem_of_getElem? (i := 55) rfl))) Via.refl e0 S_INSTANCE (g := (mkF m 1 #[.val (.ref aU), .val (.int (0 : Int32)), .val (.ref a2)] [(.ref aU)])) rfl (hb hby d8_1)
  obtain ⟨_, _, ⟨T2, L2, k2', n2'⟩, -, X2, ⟨Lc2, hQ2, l2, y2, z2⟩, st2⟩ := Jvm.LawKit.callS X1 hx (y := (⟨"java/lang/String", "encodeUTF8", "(B[BZ)[B"⟩ : MethodName)) hown (mvT hZ (hw _ (List.mem_of_getElem? (i := 57) rfl))) (mvT hZ (hw _ (List.mem_of_getElem? (i := 58) rfl))) (mvT hZ (hw _ (List.mem_of_getElem? (i := 5) rfl))) (mvT hZ (hw _ (List.mem_of_getElem? (i := 59) rfl))) (by decide) (backOf (W := 0) (rm90 l Z az hw [] a2 k2 h0 n0 Z0 V_a2 E_a2) hZ (hw _ (List.mem_of_getElem? (i := 59) rfl)) (hw _ (List.mem_of_getElem? (i := 5) rfl)) (by decide) (by decide)) (g := (mkF m 10 #[.val (.ref aU), .val (.int (0 : Int32)), .val (.ref a2)] [(.int (1 : Int32)), (.ref a2), (.int (0 : Int32))])) rfl (by rw [hml]; rfl) (argsL := [(.int (0 : Int32)), (.ref a2), (.int (1 : Int32))]) (rest := []) (lenOf pd_2 rfl) rfl (by show 2 * 0 + _ ≤ _; exact Nat.le_of_eq rfl) (hb hby d8_10) (fun _ _ => ⟨rfl, e1, (by decide : 0 + 1 ≤ _), (by decide : 0 + 0 ≤ _)⟩)
  dsimp only [Pt.U, Pt.locs, Pt.cells, Pt.slots] at X2 l2 y2 z2 st2 hQ2
  subst l2 y2 z2
  obtain ⟨b2_0, rfl, N2q, s2_0, kq2, pf2_0, pf2_1⟩ := hQ2
  obtain ⟨Lg2, X2', N2⟩ := own_gen X2 (Fr.app N0 N2q)
  have g_b2_0 : n0 ≤ b2_0 := Nat.le_trans Z0 s2_0
  have sz_b2_0 : h0.size ≤ b2_0 := Nat.le_trans (Nat.le_refl _) s2_0
  have K2 : Keep h0 T2.heap [] := (Keep.refl h0 []).trans kq2 all0
  have Z2 : n0 ≤ T2.heap.size := Nat.le_trans Z0 kq2.1
  obtain ⟨fs, hr, hrun, hended, hW, hsame⟩ := X2'.leave (v := some (.ref b2_0)) (fun h => by rw [Bd.returns] at h; cases h)
  refine ⟨_, _, pre0 _ ?_, hrun, hended, _, _, rfl, ?_, ⟨_, rfl⟩, hW, hsame.mono (by decide) (by decide)⟩
  · show Steps p.tables e below (s₁.setTop (mkF m 0 #[.val (.ref aU), .val (.int (0 : Int32)), .val (.ref a2)] [])) _
    refine XS.aloadN X0.here hx rfl (hb hby d8_0) rfl rfl ?_
    show Steps p.tables e below (s₁.setTop (mkF m 1 #[.val (.ref aU), .val (.int (0 : Int32)), .val (.ref a2)] [(.ref aU)])) _
    refine st1 _ ?_
    show Steps p.tables e below (T1.setTop (mkF m 4 #[.val (.ref aU), .val (.int (0 : Int32)), .val (.ref a2)] [(.ref aU), (.ref aU)])) _
    refine Jvm.RoadKit.acmp (g := (mkF m 4 #[.val (.ref aU), .val (.int (0 : Int32)), .val (.ref a2)] [(.ref aU), (.ref aU)])) X1 hx rfl rfl rfl (pc0 := 4) (pc' := 7) (same := true) rfl (hb hby d8_4) rfl (decide_eq_true rfl) (by decide) (by decide) ?_
    show Steps p.tables e below (T1.setTop (mkF m 7 #[.val (.ref aU), .val (.int (0 : Int32)), .val (.ref a2)] [])) _
    refine XS.iloadN X1.here hx rfl (hb hby d8_7) rfl ?_
    show Steps p.tables e below (T1.setTop (mkF m 8 #[.val (.ref aU), .val (.int (0 : Int32)), .val (.ref a2)] [(.int (0 : Int32))])) _
    refine XS.aloadN X1.here hx rfl (hb hby d8_8) rfl rfl ?_
    show Steps p.tables e below (T1.setTop (mkF m 9 #[.val (.ref aU), .val (.int (0 : Int32)), .val (.ref a2)] [(.ref a2), (.int (0 : Int32))])) _
    refine XS.iconst X1.here hx rfl (hb hby d8_9) ?_
    show Steps p.tables e below (T1.setTop (mkF m 10 #[.val (.ref aU), .val (.int (0 : Int32)), .val (.ref a2)] [(.int (1 : Int32)), (.ref a2), (.int (0 : Int32))])) _
    refine st2 _ ?_
    show Steps p.tables e below (T2.setTop (mkF m 13 #[.val (.ref aU), .val (.int (0 : Int32)), .val (.ref a2)] [(.ref b2_0)])) _
    jvm_step X2'.here [X2'.here.top, hx, (hb hby d8_13), X2'.method', Bd.returns, Value.isRef, FieldType.isReference]
    first | (intro acts; rw [hr _ acts rfl rfl rfl]) | rw [hr _ _ rfl rfl rfl]
    exact Steps.refl _
  · show Q80 Z aU a2 k2 h0 n0 _ T2.heap _
    exact ⟨b2_0, rfl, N2, sz_b2_0, K2, pf2_0, pf2_1⟩
theorem d6_0 : decode jdk_42_method_64_code 0 = .ok (.aload_n 1, 1) := by decide +kernel
theorem d6_1 : decode jdk_42_method_64_code 1 = .ok (.ifnonnull 11, 3) := by decide +kernel
theorem d6_12 : decode jdk_42_method_64_code 12 = .ok (.aload_n 1, 1) := by decide +kernel
theorem d6_13 : decode jdk_42_method_64_code 13 = .ok (.aload_n 0, 1) := by decide +kernel
theorem d6_14 : decode jdk_42_method_64_code 14 = .ok (.invokevirtual 335, 3) := by decide +kernel
theorem pd_3 : parseMethodDescriptor "()B" = some ⟨[], some .byte⟩ := by decide +kernel
theorem d6_17 : decode jdk_42_method_64_code 17 = .ok (.aload_n 0, 1) := by decide +kernel
theorem d6_18 : decode jdk_42_method_64_code 18 = .ok (.getfield 9, 3) := by decide +kernel
theorem d6_21 : decode jdk_42_method_64_code 21 = .ok (.invokestatic 535, 3) := by decide +kernel
theorem pd_4 : parseMethodDescriptor "(Ljava/nio/charset/Charset;B[B)[B" = some ⟨[(.object "java/nio/charset/Charset"), .byte, (.array .byte)], some (.array .byte)⟩ := by decide +kernel
theorem d6_24 : decode jdk_42_method_64_code 24 = .ok (.areturn, 1) := by decide +kernel
theorem ef_rm60 (m : MethodId) (a0 : Addr) (aU : Addr) : entryFrame m #[(.ref a0), (.ref aU)] 2 = mkF m 0 #[.val (.ref a0), .val (.ref aU)] [] := by first | (simp [entryFrame, mkF, argsToLocals, Value.category]; done) | rfl
def Q60 (Z : State) (a0 : Addr) (aU : Addr) (aB : Addr) (kB : ClassId) (s_COMPACT_STRINGS : Int32) (h0 : Heap) (n0 : Nat) (v : Option Value) (h : Heap) (L : List Loc) : Prop := ∃ r0 : Addr, v = some (.ref r0) ∧ Fr n0 L ∧ h0.size ≤ r0 ∧ Keep h0 h [] ∧ Exa Z h r0 "[B" ∧ Arv Z h r0 kB .byte (0 : Int32) [] (.int (0 : Int32))
set_option maxRecDepth 65536 in
set_option maxHeartbeats 40000000 in
theorem rm60 (l : Launch) (Z : State) (az : Array Value) (hw : ∀ d ∈ tables_1, d.before az Z = true) (ws : List Jvm.Cond) (a0 : Addr) (aU : Addr) (aB : Addr) (kB : ClassId) (s_COMPACT_STRINGS : Int32) (h0 : Heap) (n0 : Nat) (Z0 : n0 ≤ h0.size) (E_a0 : Exa Z h0 a0 "java/lang/String") (F_coder_a0 : Fld Z h0 a0 "java/lang/String" "coder" "B" (.int (0 : Int32))) (F_value_a0 : Fld Z h0 a0 "java/lang/String" "value" "[B" (.ref aB)) (V_aB : Arv Z h0 aB kB .byte (0 : Int32) [] (.int (0 : Int32))) (E_aB : Exa Z h0 aB "[B") (S_INSTANCE : Sta Z h0 "sun/nio/cs/UTF_8" "INSTANCE" "Lsun/nio/cs/UTF_8;" (.ref aU)) (S_COMPACT_STRINGS : Sta Z h0 "java/lang/String" "COMPACT_STRINGS" "Z" (.int s_COMPACT_STRINGS)) (hc7 : ¬ (s_COMPACT_STRINGS = (0 : Int32))) :
    MetFree l (⟨"java/lang/String", "getBytes", "(Ljava/nio/charset/Charset;)[B"⟩ : MethodName) (head1 (Jvm.Cond.code (⟨"java/lang/String", "getBytes", "(Ljava/nio/charset/Charset;)[B"⟩ : MethodName) jdk_42_method_64_code 2 (some (.array .byte)) :: ws) ({ frames := 4, cells := 1, slots := 0, locals := 64 } : Room)) (fun a U => a = #[(.ref a0), (.ref aU)] ∧ Z.Warmed39 U.vm ∧ U.heap = h0) (fun _ _ _ _ _ => True) (fun _ U o U' => ∃ v L, o = .returned v ∧ Q60 Z a0 aU aB kB s_COMPACT_STRINGS h0 n0 v U'.heap L ∧ FrameEnd U o U' L ({ frames := 4, cells := 1, slots := 0, locals := 64 } : Room).cells ({ frames := 4, cells := 1, slots := 0, locals := 64 } : Room).slots) := by
  refine MetFree.of_bodySF (plainFor_of_name pn_java_lang_String) hisR ?_
  intro p e s m args below meth c s₁ Bd hml0 hP hK
  obtain ⟨rfl, hZ, hh⟩ := hP
  have hx := Bd.exec
  have hby := Bd.bytes
  have hml : c.maxLocals = 2 := hml0
  have hown : s.vm.findClass "java/lang/String" = some m.cls := findClass_of_methodNamed Bd.named
  have hnm := (name_of_methodNamed Bd.named Bd.method).1
  have X0 : Stand p l e ({ frames := 4, cells := 1, slots := 0, locals := 64 } : Room) s m #[(.ref a0), (.ref aU)] below meth c s₁ [] 0 0 := Stand.of_body Bd
  have e0 : s₁.heap = h0 := by rw [← hh, Bd.state]; rfl
  have N0 := Fr.nil n0
  have pre0 : ∀ t, Steps p.tables e below (s₁.setTop (mkF m 0 #[.val (.ref a0), .val (.ref aU)] [])) t → Steps p.tables e below (s₁.setTop (entryFrame m #[(.ref a0), (.ref aU)] 2)) t := fun t k => castTop (ef_rm60 m a0 aU) k
  obtain ⟨cq1, kq1, q1a, q1b, q1c⟩ := isOf hZ e0 E_a0
  obtain ⟨_, _, ⟨T1, L1, k1', n1'⟩, -, X1, ⟨Lc1, hQ1, l1, y1, z1⟩, st1⟩ := X0.virtualBack hx (y := (⟨"java/lang/String", "coder", "()B"⟩ : MethodName)) (z := (⟨"java/lang/String", "coder", "()B"⟩ : MethodName)) hown (mvT hZ (hw _ (List.mem_of_getElem? (i := 44) rfl))) (mvT hZ (hw _ (List.mem_of_getElem? (i := 45) rfl))) (notFace_of_selects (args := #[]) (mvT hZ (hw _ (List.mem_of_getElem? (i := 47) rfl)))) (mvT hZ (hw _ (List.mem_of_getElem? (i := 47) rfl))) (mvT hZ (hw _ (List.mem_of_getElem? (i := 46) rfl))) (by decide) (backOf (W := 1) (rm7 l Z az hw [] a0 s_COMPACT_STRINGS h0 n0 Z0 F_coder_a0 S_COMPACT_STRINGS hc7) hZ (hw _ (List.mem_of_getElem? (i := 48) rfl)) (hw _ (List.mem_of_getElem? (i := 5) rfl)) (by decide) (by decide)) q1a q1c (g := (mkF m 14 #[.val (.ref a0), .val (.ref aU)] [(.ref a0), (.ref aU)])) rfl (by rw [hml]; rfl) (Steps.refl _) (argsL := []) (rest := [(.ref aU)]) (lenOf pd_3 rfl) rfl (by show 2 * 0 + _ ≤ _; exact Nat.le_of_eq rfl) (hb hby d6_14) (fun _ _ => ⟨rfl, e0, (by decide : 0 + 0 ≤ _), (by decide : 0 + 0 ≤ _)⟩)
  dsimp only [Pt.U, Pt.locs, Pt.cells, Pt.slots] at X1 l1 y1 z1 st1 hQ1
  subst l1 y1 z1
  obtain ⟨rfl, N1q, e1⟩ := hQ1
  obtain ⟨Lg1, X1', N1⟩ := own_gen X1 (Fr.app N0 N1q)
  obtain ⟨T2, X2, e2, st2⟩ := getF X1' hx hZ hown (host := "") (Or.inl (hw _ (List.mem_of_getElem? (i := 51) rfl))) Via.refl e1 F_value_a0 (g := (mkF m 18 #[.val (.ref a0), .val (.ref aU)] [(.ref a0), (.int (0 : Int32)), (.ref aU)])) rfl rfl (hb hby d6_18)
  obtain ⟨_, _, ⟨T3, L3, k3', n3'⟩, -, X3, ⟨Lc3, hQ3, l3, y3, z3⟩, st3⟩ := Jvm.LawKit.callS X2 hx (y := (⟨"java/lang/String", "encode", "(Ljava/nio/charset/Charset;B[B)[B"⟩ : MethodName)) hown (mvT hZ (hw _ (List.mem_of_getElem? (i := 52) rfl))) (mvT hZ (hw _ (List.mem_of_getElem? (i := 53) rfl))) (mvT hZ (hw _ (List.mem_of_getElem? (i := 5) rfl))) (mvT hZ (hw _ (List.mem_of_getElem? (i := 54) rfl))) (by decide) (backOf (W := 0) (rm80 l Z az hw [] aU aB kB h0 n0 Z0 S_INSTANCE V_aB E_aB) hZ (hw _ (List.mem_of_getElem? (i := 54) rfl)) (hw _ (List.mem_of_getElem? (i := 5) rfl)) (by decide) (by decide)) (g := (mkF m 21 #[.val (.ref a0), .val (.ref aU)] [(.ref aB), (.int (0 : Int32)), (.ref aU)])) rfl (by rw [hml]; rfl) (argsL := [(.ref aU), (.int (0 : Int32)), (.ref aB)]) (rest := []) (lenOf pd_4 rfl) rfl (by show 2 * 0 + _ ≤ _; exact Nat.le_of_eq rfl) (hb hby d6_21) (fun _ _ => ⟨rfl, e2, (by decide : 0 + 1 ≤ _), (by decide : 0 + 0 ≤ _)⟩)
  dsimp only [Pt.U, Pt.locs, Pt.cells, Pt.slots] at X3 l3 y3 z3 st3 hQ3
  subst l3 y3 z3
  obtain ⟨b3_0, rfl, N3q, s3_0, kq3, pf3_0, pf3_1⟩ := hQ3
  obtain ⟨Lg3, X3', N3⟩ := own_gen X3 (Fr.app N1 N3q)
  have g_b3_0 : n0 ≤ b3_0 := Nat.le_trans Z0 s3_0
  have sz_b3_0 : h0.size ≤ b3_0 := Nat.le_trans (Nat.le_refl _) s3_0
  have K3 : Keep h0 T3.heap [] := (Keep.refl h0 []).trans kq3 all0
  have Z3 : n0 ≤ T3.heap.size := Nat.le_trans Z0 kq3.1
  obtain ⟨fs, hr, hrun, hended, hW, hsame⟩ := X3'.leave (v := some (.ref b3_0)) (fun h => by rw [Bd.returns] at h; cases h)
  refine ⟨_, _, pre0 _ ?_, hrun, hended, _, _, rfl, ?_, ⟨_, rfl⟩, hW, hsame.mono (by decide) (by decide)⟩
  · show Steps p.tables e below (s₁.setTop (mkF m 0 #[.val (.ref a0), .val (.ref aU)] [])) _
    refine XS.aloadN X0.here hx rfl (hb hby d6_0) rfl rfl ?_
    show Steps p.tables e below (s₁.setTop (mkF m 1 #[.val (.ref a0), .val (.ref aU)] [(.ref aU)])) _
    refine XS.ifnonnullYes X0.here hx rfl (pc0 := 1) (pc' := 12) rfl (hb hby d6_1) rfl (by decide) (by decide) ?_
    show Steps p.tables e below (s₁.setTop (mkF m 12 #[.val (.ref a0), .val (.ref aU)] [])) _
    refine XS.aloadN X0.here hx rfl (hb hby d6_12) rfl rfl ?_
    show Steps p.tables e below (s₁.setTop (mkF m 13 #[.val (.ref a0), .val (.ref aU)] [(.ref aU)])) _
    refine XS.aloadN X0.here hx rfl (hb hby d6_13) rfl rfl ?_
    show Steps p.tables e below (s₁.setTop (mkF m 14 #[.val (.ref a0), .val (.ref aU)] [(.ref a0), (.ref aU)])) _
    refine st1.trans ?_
    show Steps p.tables e below (T1.setTop (mkF m 17 #[.val (.ref a0), .val (.ref aU)] [(.int (0 : Int32)), (.ref aU)])) _
    refine XS.aloadN X1'.here hx rfl (hb hby d6_17) rfl rfl ?_
    show Steps p.tables e below (T1.setTop (mkF m 18 #[.val (.ref a0), .val (.ref aU)] [(.ref a0), (.int (0 : Int32)), (.ref aU)])) _
    refine st2 _ ?_
    show Steps p.tables e below (T2.setTop (mkF m 21 #[.val (.ref a0), .val (.ref aU)] [(.ref aB), (.int (0 : Int32)), (.ref aU)])) _
    refine st3 _ ?_
    show Steps p.tables e below (T3.setTop (mkF m 24 #[.val (.ref a0), .val (.ref aU)] [(.ref b3_0)])) _
    jvm_step X3'.here [X3'.here.top, hx, (hb hby d6_24), X3'.method', Bd.returns, Value.isRef, FieldType.isReference]
    first | (intro acts; rw [hr _ acts rfl rfl rfl]) | rw [hr _ _ rfl rfl rfl]
    exact Steps.refl _
  · show Q60 Z a0 aU aB kB s_COMPACT_STRINGS h0 n0 _ T3.heap _
    exact ⟨b3_0, rfl, N3, sz_b3_0, K3, pf3_0, pf3_1⟩
theorem d3_0 : decode prog_11_method_1_code 0 = .ok (.aload_n 0, 1) := by decide +kernel
theorem d3_1 : decode prog_11_method_1_code 1 = .ok (.invokespecial 1, 3) := by decide +kernel
theorem d3_4 : decode prog_11_method_1_code 4 = .ok (.aload_n 0, 1) := by decide +kernel
theorem d3_5 : decode prog_11_method_1_code 5 = .ok (.aload_n 1, 1) := by decide +kernel
theorem d3_6 : decode prog_11_method_1_code 6 = .ok (.ldc 7, 2) := by decide +kernel
theorem d3_8 : decode prog_11_method_1_code 8 = .ok (.invokestatic 9, 3) := by decide +kernel
theorem pd_5 : parseMethodDescriptor "(Ljava/lang/Object;Ljava/lang/String;)Ljava/lang/Object;" = some ⟨[(.object "java/lang/Object"), (.object "java/lang/String")], some (.object "java/lang/Object")⟩ := by decide +kernel
theorem d3_11 : decode prog_11_method_1_code 11 = .ok (.checkcast 15, 3) := by decide +kernel
theorem d3_14 : decode prog_11_method_1_code 14 = .ok (.putfield 17, 3) := by decide +kernel
theorem d3_17 : decode prog_11_method_1_code 17 = .ok (.aload_n 0, 1) := by decide +kernel
theorem d3_18 : decode prog_11_method_1_code 18 = .ok (.aload_n 1, 1) := by decide +kernel
theorem d3_19 : decode prog_11_method_1_code 19 = .ok (.getstatic 22, 3) := by decide +kernel
theorem d3_22 : decode prog_11_method_1_code 22 = .ok (.invokevirtual 28, 3) := by decide +kernel
theorem pd_6 : parseMethodDescriptor "(Ljava/nio/charset/Charset;)[B" = some ⟨[(.object "java/nio/charset/Charset")], some (.array .byte)⟩ := by decide +kernel
theorem d3_25 : decode prog_11_method_1_code 25 = .ok (.putfield 32, 3) := by decide +kernel
theorem d3_28 : decode prog_11_method_1_code 28 = .ok (.return_, 1) := by decide +kernel
theorem pn_com_example_fireweed_fireweed_layout_Salt : plainName "com/example/fireweed/fireweed/layout/Salt" = true := by first | (simp [plainName, overriddenIn]; done) | decide +kernel
theorem ef_rm30 (m : MethodId) (a0 : Addr) (a1 : Addr) : entryFrame m #[(.ref a0), (.ref a1)] 2 = mkF m 0 #[.val (.ref a0), .val (.ref a1)] [] := by first | (simp [entryFrame, mkF, argsToLocals, Value.category]; done) | rfl
def Q30 (Z : State) (a0 : Addr) (a1 : Addr) (aB : Addr) (kB : ClassId) (aU : Addr) (s_COMPACT_STRINGS : Int32) (h0 : Heap) (n0 : Nat) (v : Option Value) (h : Heap) (L : List Loc) : Prop := ∃ r0 : Addr, v = none ∧ Fr n0 L ∧ h0.size ≤ r0 ∧ Keep h0 h [a0] ∧ Exa Z h a0 "com/example/fireweed/fireweed/layout/Java31ByteSalt" ∧ Fld Z h a0 "com/example/fireweed/fireweed/layout/Salt" "suffix" "Ljava/lang/String;" (.ref a1) ∧ Fld Z h a0 "com/example/fireweed/fireweed/layout/Salt" "suffixBytes" "[B" (.ref r0) ∧ Fld Z h a0 "com/example/fireweed/fireweed/layout/Java31ByteSalt" "buckets" "I" (.int (0 : Int32)) ∧ Fld Z h a0 "com/example/fireweed/fireweed/layout/Java31ByteSalt" "mask" "I" (.int (0 : Int32)) ∧ Fld Z h a0 "com/example/fireweed/fireweed/layout/Java31ByteSalt" "overflow" "I" (.int (0 : Int32)) ∧ Exa Z h r0 "[B" ∧ Arv Z h r0 kB .byte (0 : Int32) [] (.int (0 : Int32))
set_option maxRecDepth 65536 in
set_option maxHeartbeats 40000000 in
theorem rm30 (l : Launch) (Z : State) (az : Array Value) (hw : ∀ d ∈ tables_1, d.before az Z = true) (ws : List Jvm.Cond) (a0 : Addr) (a1 : Addr) (aB : Addr) (kB : ClassId) (aU : Addr) (s_COMPACT_STRINGS : Int32) (h0 : Heap) (n0 : Nat) (Z0 : n0 ≤ h0.size) (E_a0 : Exa Z h0 a0 "com/example/fireweed/fireweed/layout/Java31ByteSalt") (F_suffix_a0 : Fld Z h0 a0 "com/example/fireweed/fireweed/layout/Salt" "suffix" "Ljava/lang/String;" .null) (F_suffixBytes_a0 : Fld Z h0 a0 "com/example/fireweed/fireweed/layout/Salt" "suffixBytes" "[B" .null) (F_buckets_a0 : Fld Z h0 a0 "com/example/fireweed/fireweed/layout/Java31ByteSalt" "buckets" "I" (.int (0 : Int32))) (F_mask_a0 : Fld Z h0 a0 "com/example/fireweed/fireweed/layout/Java31ByteSalt" "mask" "I" (.int (0 : Int32))) (F_overflow_a0 : Fld Z h0 a0 "com/example/fireweed/fireweed/layout/Java31ByteSalt" "overflow" "I" (.int (0 : Int32))) (E_a1 : Exa Z h0 a1 "java/lang/String") (F_coder_a1 : Fld Z h0 a1 "java/lang/String" "coder" "B" (.int (0 : Int32))) (F_value_a1 : Fld Z h0 a1 "java/lang/String" "value" "[B" (.ref aB)) (V_aB : Arv Z h0 aB kB .byte (0 : Int32) [] (.int (0 : Int32))) (E_aB : Exa Z h0 aB "[B") (S_INSTANCE : Sta Z h0 "sun/nio/cs/UTF_8" "INSTANCE" "Lsun/nio/cs/UTF_8;" (.ref aU)) (S_UTF_8 : Sta Z h0 "java/nio/charset/StandardCharsets" "UTF_8" "Ljava/nio/charset/Charset;" (.ref aU)) (g_a0 : n0 ≤ a0) (S_COMPACT_STRINGS : Sta Z h0 "java/lang/String" "COMPACT_STRINGS" "Z" (.int s_COMPACT_STRINGS)) (hne_a1_a0 : a1 ≠ a0) (hne_aB_a0 : aB ≠ a0) (hc17 : ¬ (s_COMPACT_STRINGS = (0 : Int32))) :
    MetFree l (⟨"com/example/fireweed/fireweed/layout/Salt", "<init>", "(Ljava/lang/String;)V"⟩ : MethodName) (head1 (Jvm.Cond.code (⟨"com/example/fireweed/fireweed/layout/Salt", "<init>", "(Ljava/lang/String;)V"⟩ : MethodName) prog_11_method_1_code 2 none :: ws) ({ frames := 5, cells := 3, slots := 28, locals := 78 } : Room)) (fun a U => a = #[(.ref a0), (.ref a1)] ∧ Z.Warmed39 U.vm ∧ U.heap = h0) (fun _ _ _ _ _ => True) (fun _ U o U' => ∃ v L, o = .returned v ∧ Q30 Z a0 a1 aB kB aU s_COMPACT_STRINGS h0 n0 v U'.heap L ∧ ReturnedEndW U o U' L ({ frames := 5, cells := 3, slots := 28, locals := 78 } : Room).cells ({ frames := 5, cells := 3, slots := 28, locals := 78 } : Room).slots) := by
  refine MetFree.of_bodySF (plainFor_of_name pn_com_example_fireweed_fireweed_layout_Salt) hisR ?_
  intro p e s m args below meth c s₁ Bd hml0 hP hK
  obtain ⟨rfl, hZ, hh⟩ := hP
  have hx := Bd.exec
  have hby := Bd.bytes
  have hml : c.maxLocals = 2 := hml0
  have hown : s.vm.findClass "com/example/fireweed/fireweed/layout/Salt" = some m.cls := findClass_of_methodNamed Bd.named
  have hnm := (name_of_methodNamed Bd.named Bd.method).1
  have X0 : Stand p l e ({ frames := 5, cells := 3, slots := 28, locals := 78 } : Room) s m #[(.ref a0), (.ref a1)] below meth c s₁ [] 0 0 := Stand.of_body Bd
  have e0 : s₁.heap = h0 := by rw [← hh, Bd.state]; rfl
  have N0 := Fr.nil n0
  have pre0 : ∀ t, Steps p.tables e below (s₁.setTop (mkF m 0 #[.val (.ref a0), .val (.ref a1)] [])) t → Steps p.tables e below (s₁.setTop (entryFrame m #[(.ref a0), (.ref a1)] 2)) t := fun t k => castTop (ef_rm30 m a0 a1) k
  have hS0 : s.Since s.vm 0 := (State.WarmedH.refl s).since 0
  have wS : ∀ a ∈ Bundle.stringAtoms, a.before az Z = true := fun d hd => by
    simp only [Bundle.stringAtoms, List.mem_cons, List.not_mem_nil, or_false] at hd
    rcases hd with rfl | rfl | rfl | rfl | rfl | rfl | rfl
    · exact (hw _ (List.mem_of_getElem? (i := 5) rfl))
    · exact (hw _ (List.mem_of_getElem? (i := 6) rfl))
    · exact (hw _ (List.mem_of_getElem? (i := 7) rfl))
    · exact (hw _ (List.mem_of_getElem? (i := 8) rfl))
    · exact (hw _ (List.mem_of_getElem? (i := 9) rfl))
    · exact (hw _ (List.mem_of_getElem? (i := 10) rfl))
    · exact (hw _ (List.mem_of_getElem? (i := 11) rfl))
  obtain ⟨T1, X1, e1, st1⟩ := initO X0 hx hZ hown (hw _ (List.mem_of_getElem? (i := 25) rfl)) (hw _ (List.mem_of_getElem? (i := 26) rfl)) (hw _ (List.mem_of_getElem? (i := 27) rfl)) e0 (g := (mkF m 1 #[.val (.ref a0), .val (.ref a1)] [(.ref a0)])) rfl (by rw [hml]; rfl) rfl (hb hby d3_1) (by decide) (W := 0) (by show 2 * 0 + _ ≤ _; exact Nat.le_of_eq rfl) (by decide)
  obtain ⟨l2, T2, h2, kk2, X2, e2, E2, hS2, hk2, hZ2, hown2, st2⟩ := ldcS (s := s) (vm0 := s.vm) X1 hx hZ hown (hw _ (List.mem_of_getElem? (i := 28) rfl)) wS e1 hS0 (Nat.zero_le _) (g := (mkF m 6 #[.val (.ref a0), .val (.ref a1)] [(.ref a1), (.ref a0)])) rfl (hb hby d3_6) (n := 24) (by decide) (by decide) (by decide) (by decide)
  have Z2 : n0 ≤ h2.size := Nat.le_trans Z0 E2.1
  have K2 : Keep h0 h2 [a0] := (Keep.refl h0 [a0]).ext E2
  obtain ⟨_, _, ⟨T3, L3, k3', n3'⟩, -, X3, ⟨Lc3, hQ3, l3, y3, z3⟩, st3⟩ := Jvm.LawKit.callS X2 hx (y := (⟨"java/util/Objects", "requireNonNull", "(Ljava/lang/Object;Ljava/lang/String;)Ljava/lang/Object;"⟩ : MethodName)) hown2 (mvT hZ2 (hw _ (List.mem_of_getElem? (i := 29) rfl))) (mvT hZ2 (hw _ (List.mem_of_getElem? (i := 30) rfl))) (mvT hZ2 (hw _ (List.mem_of_getElem? (i := 31) rfl))) (mvT hZ2 (hw _ (List.mem_of_getElem? (i := 32) rfl))) (by decide) (backOf (W := 1) (rm5 l Z az hw [] a1 l2 h2 n0 Z2) hZ2 (hw _ (List.mem_of_getElem? (i := 32) rfl)) (hw _ (List.mem_of_getElem? (i := 31) rfl)) (by decide) (by decide)) (g := (mkF m 8 #[.val (.ref a0), .val (.ref a1)] [(.ref l2), (.ref a1), (.ref a0)])) rfl (by rw [hml]; rfl) (argsL := [(.ref a1), (.ref l2)]) (rest := [(.ref a0)]) (lenOf pd_5 rfl) rfl (by show 2 * 0 + _ ≤ _; exact Nat.le_of_eq rfl) (hb hby d3_8) (fun _ _ => ⟨rfl, e2, (by decide : 2 + 0 ≤ _), (by decide : 28 + 0 ≤ _)⟩)
  dsimp only [Pt.U, Pt.locs, Pt.cells, Pt.slots] at X3 l3 y3 z3 st3 hQ3
  subst l3 y3 z3
  obtain ⟨rfl, N3q, e3⟩ := hQ3
  obtain ⟨Lg3, X3', N3⟩ := own_gen X3 (Fr.app N0 N3q)
  have E_a1_u4 : Exa Z h2 a1 "java/lang/String" := (E_a1.ext E2)
  obtain ⟨T5, X5, e5, st5⟩ := castY X3' hx hZ2 hown2 (hw _ (List.mem_of_getElem? (i := 33) rfl)) e3 (Ins.self E_a1_u4) (g := (mkF m 11 #[.val (.ref a0), .val (.ref a1)] [(.ref a1), (.ref a0)])) rfl rfl (hb hby d3_11)
  have F_a0_suffix_u6 : Fld Z h2 a0 "com/example/fireweed/fireweed/layout/Salt" "suffix" "Ljava/lang/String;" .null := (F_suffix_a0.ext E2)
  have E_a0_u7 : Exa Z h2 a0 "com/example/fireweed/fireweed/layout/Java31ByteSalt" := (E_a0.ext E2)
  obtain ⟨T8, h8, X8, e8, W8, st8⟩ := putF X5 hx hZ2 hown2 (host := "") (Or.inl (hw _ (List.mem_of_getElem? (i := 35) rfl))) Via.refl e5 F_a0_suffix_u6 E_a0_u7 (Or.inr ⟨(hw _ (List.mem_of_getElem? (i := 36) rfl)), rfl, hnm⟩) (hw _ (List.mem_of_getElem? (i := 2) rfl)) (ty := (.object "java/lang/String")) (by decide) rfl rfl (g := (mkF m 14 #[.val (.ref a0), .val (.ref a1)] [(.ref a1), (.ref a0)])) rfl rfl (hb hby d3_14)
  have K8 : Keep h0 h8 [a0] := K2.wr W8 (Or.inl (List.mem_of_getElem? (i := 0) rfl))
  have Fw8 := F_a0_suffix_u6.same W8
  have Z8 : n0 ≤ h8.size := Nat.le_trans Z2 (Keep.of_wr W8).1
  obtain ⟨Lg8, X8', N8⟩ := own_gen X8 (Fr.snoc X8 N3 g_a0)
  have S_StandardCharsets_UTF_8_u9 : Sta Z h8 "java/nio/charset/StandardCharsets" "UTF_8" "Ljava/nio/charset/Charset;" (.ref aU) := ((S_UTF_8.ext E2).wr W8)
  obtain ⟨T10, X10, e10, st10⟩ := getS2 X8' hx hZ2 hown2 (host := "") (Or.inl (hw _ (List.mem_of_getElem? (i := 37) rfl))) Via.refl e8 S_StandardCharsets_UTF_8_u9 (g := (mkF m 19 #[.val (.ref a0), .val (.ref a1)] [(.ref a1), (.ref a0)])) rfl (hb hby d3_19)
  have E_a1_u12 : Exa Z h8 a1 "java/lang/String" := (E_a1_u4.wr W8)
  have F_a1_coder_u13 : Fld Z h8 a1 "java/lang/String" "coder" "B" (.int (0 : Int32)) := ((F_coder_a1.ext E2).other W8 (Or.inl hne_a1_a0))
  have F_a1_value_u14 : Fld Z h8 a1 "java/lang/String" "value" "[B" (.ref aB) := ((F_value_a1.ext E2).other W8 (Or.inl hne_a1_a0))
  have V_aB_u15 : Arv Z h8 aB kB .byte (0 : Int32) [] (.int (0 : Int32)) := ((V_aB.ext E2).other W8 hne_aB_a0)
  have E_aB_u16 : Exa Z h8 aB "[B" := ((E_aB.ext E2).wr W8)
  have S_UTF_8_INSTANCE_u17 : Sta Z h8 "sun/nio/cs/UTF_8" "INSTANCE" "Lsun/nio/cs/UTF_8;" (.ref aU) := ((S_INSTANCE.ext E2).wr W8)
  have S_String_COMPACT_STRINGS_u18 : Sta Z h8 "java/lang/String" "COMPACT_STRINGS" "Z" (.int s_COMPACT_STRINGS) := ((S_COMPACT_STRINGS.ext E2).wr W8)
  obtain ⟨cq11, kq11, q11a, q11b, q11c⟩ := isOf hZ2 e10 E_a1_u12
  obtain ⟨_, _, ⟨T11, L11, k11', n11'⟩, -, X11, ⟨Lc11, hQ11, l11, y11, z11⟩, st11⟩ := X10.virtualBack hx (y := (⟨"java/lang/String", "getBytes", "(Ljava/nio/charset/Charset;)[B"⟩ : MethodName)) (z := (⟨"java/lang/String", "getBytes", "(Ljava/nio/charset/Charset;)[B"⟩ : MethodName)) hown2 (mvT hZ2 (hw _ (List.mem_of_getElem? (i := 39) rfl))) (mvT hZ2 (hw _ (List.mem_of_getElem? (i := 40) rfl))) (notFace_of_selects (args := #[]) (mvT hZ2 (hw _ (List.mem_of_getElem? (i := 42) rfl)))) (mvT hZ2 (hw _ (List.mem_of_getElem? (i := 42) rfl))) (mvT hZ2 (hw _ (List.mem_of_getElem? (i := 41) rfl))) (by decide) (backOf (W := 1) (rm60 l Z az hw [] a1 aU aB kB s_COMPACT_STRINGS h8 n0 Z8 E_a1_u12 F_a1_coder_u13 F_a1_value_u14 V_aB_u15 E_aB_u16 S_UTF_8_INSTANCE_u17 S_String_COMPACT_STRINGS_u18 hc17) hZ2 (hw _ (List.mem_of_getElem? (i := 43) rfl)) (hw _ (List.mem_of_getElem? (i := 5) rfl)) (by decide) (by decide)) q11a q11c (g := (mkF m 22 #[.val (.ref a0), .val (.ref a1)] [(.ref aU), (.ref a1), (.ref a0)])) rfl (by rw [hml]; rfl) (Steps.refl _) (argsL := [(.ref aU)]) (rest := [(.ref a0)]) (lenOf pd_6 rfl) rfl (by show 2 * 0 + _ ≤ _; exact Nat.le_of_eq rfl) (hb hby d3_22) (fun _ _ => ⟨rfl, e10, (by decide : 2 + 1 ≤ _), (by decide : 28 + 0 ≤ _)⟩)
  dsimp only [Pt.U, Pt.locs, Pt.cells, Pt.slots] at X11 l11 y11 z11 st11 hQ11
  subst l11 y11 z11
  obtain ⟨b11_0, rfl, N11q, s11_0, kq11, pf11_0, pf11_1⟩ := hQ11
  obtain ⟨Lg11, X11', N11⟩ := own_gen X11 (Fr.app N8 N11q)
  have g_b11_0 : n0 ≤ b11_0 := Nat.le_trans Z8 s11_0
  have sz_b11_0 : h0.size ≤ b11_0 := Nat.le_trans K8.1 s11_0
  have K11 : Keep h0 T11.heap [a0] := K8.trans kq11 all0
  have Z11 : n0 ≤ T11.heap.size := Nat.le_trans Z8 kq11.1
  have sl19 := slot_ne (Z := Z) (Or.inr (hw _ (List.mem_of_getElem? (i := 77) rfl))) (Or.inr (hw _ (List.mem_of_getElem? (i := 36) rfl))) (by decide) (t := (.array .byte)) (t' := (.object "java/lang/String")) (by decide) (by decide)
  have F_a0_suffixBytes_u20 : Fld Z T11.heap a0 "com/example/fireweed/fireweed/layout/Salt" "suffixBytes" "[B" .null := (((F_suffixBytes_a0.ext E2).other W8 (Or.inr sl19)).keep kq11 nin0)
  have E_a0_u21 : Exa Z T11.heap a0 "com/example/fireweed/fireweed/layout/Java31ByteSalt" := ((E_a0_u7.wr W8).keep kq11)
  obtain ⟨T22, h22, X22, e22, W22, st22⟩ := putF X11' hx hZ2 hown2 (host := "") (Or.inl (hw _ (List.mem_of_getElem? (i := 76) rfl))) Via.refl rfl F_a0_suffixBytes_u20 E_a0_u21 (Or.inr ⟨(hw _ (List.mem_of_getElem? (i := 77) rfl)), rfl, hnm⟩) (hw _ (List.mem_of_getElem? (i := 2) rfl)) (ty := (.array .byte)) (by decide) rfl rfl (g := (mkF m 25 #[.val (.ref a0), .val (.ref a1)] [(.ref b11_0), (.ref a0)])) rfl rfl (hb hby d3_25)
  have K22 : Keep h0 h22 [a0] := K11.wr W22 (Or.inl (List.mem_of_getElem? (i := 0) rfl))
  have Fw22 := F_a0_suffixBytes_u20.same W22
  have Z22 : n0 ≤ h22.size := Nat.le_trans Z11 (Keep.of_wr W22).1
  obtain ⟨Lg22, X22', N22⟩ := own_gen X22 (Fr.snoc X22 N11 g_a0)
  have E_a0_u23 : Exa Z h22 a0 "com/example/fireweed/fireweed/layout/Java31ByteSalt" := (E_a0_u21.wr W22)
  have sl24 := slot_ne (Z := Z) (Or.inr (hw _ (List.mem_of_getElem? (i := 36) rfl))) (Or.inr (hw _ (List.mem_of_getElem? (i := 77) rfl))) (by decide) (t := (.object "java/lang/String")) (t' := (.array .byte)) (by decide) (by decide)
  have F_a0_suffix_u25 : Fld Z h22 a0 "com/example/fireweed/fireweed/layout/Salt" "suffix" "Ljava/lang/String;" (.ref a1) := ((Fw8.keep kq11 nin0).other W22 (Or.inr sl24))
  have sl26 := slot_ne (Z := Z) (Or.inr (hw _ (List.mem_of_getElem? (i := 79) rfl))) (Or.inr (hw _ (List.mem_of_getElem? (i := 36) rfl))) (by decide) (t := .int) (t' := (.object "java/lang/String")) (by decide) (by decide)
  have c27 : Fld Z T11.heap a0 "com/example/fireweed/fireweed/layout/Java31ByteSalt" "buckets" "I" (.int (0 : Int32)) := (((F_buckets_a0.ext E2).other W8 (Or.inr sl26)).keep kq11 nin0)
  have sl28 := slot_ne (Z := Z) (Or.inr (hw _ (List.mem_of_getElem? (i := 79) rfl))) (Or.inr (hw _ (List.mem_of_getElem? (i := 77) rfl))) (by decide) (t := .int) (t' := (.array .byte)) (by decide) (by decide)
  have F_a0_buckets_u29 : Fld Z h22 a0 "com/example/fireweed/fireweed/layout/Java31ByteSalt" "buckets" "I" (.int (0 : Int32)) := (c27.other W22 (Or.inr sl28))
  have sl30 := slot_ne (Z := Z) (Or.inr (hw _ (List.mem_of_getElem? (i := 88) rfl))) (Or.inr (hw _ (List.mem_of_getElem? (i := 36) rfl))) (by decide) (t := .int) (t' := (.object "java/lang/String")) (by decide) (by decide)
  have c31 : Fld Z T11.heap a0 "com/example/fireweed/fireweed/layout/Java31ByteSalt" "mask" "I" (.int (0 : Int32)) := (((F_mask_a0.ext E2).other W8 (Or.inr sl30)).keep kq11 nin0)
  have sl32 := slot_ne (Z := Z) (Or.inr (hw _ (List.mem_of_getElem? (i := 88) rfl))) (Or.inr (hw _ (List.mem_of_getElem? (i := 77) rfl))) (by decide) (t := .int) (t' := (.array .byte)) (by decide) (by decide)
  have F_a0_mask_u33 : Fld Z h22 a0 "com/example/fireweed/fireweed/layout/Java31ByteSalt" "mask" "I" (.int (0 : Int32)) := (c31.other W22 (Or.inr sl32))
  have sl34 := slot_ne (Z := Z) (Or.inr (hw _ (List.mem_of_getElem? (i := 103) rfl))) (Or.inr (hw _ (List.mem_of_getElem? (i := 36) rfl))) (by decide) (t := .int) (t' := (.object "java/lang/String")) (by decide) (by decide)
  have c35 : Fld Z T11.heap a0 "com/example/fireweed/fireweed/layout/Java31ByteSalt" "overflow" "I" (.int (0 : Int32)) := (((F_overflow_a0.ext E2).other W8 (Or.inr sl34)).keep kq11 nin0)
  have sl36 := slot_ne (Z := Z) (Or.inr (hw _ (List.mem_of_getElem? (i := 103) rfl))) (Or.inr (hw _ (List.mem_of_getElem? (i := 77) rfl))) (by decide) (t := .int) (t' := (.array .byte)) (by decide) (by decide)
  have F_a0_overflow_u37 : Fld Z h22 a0 "com/example/fireweed/fireweed/layout/Java31ByteSalt" "overflow" "I" (.int (0 : Int32)) := (c35.other W22 (Or.inr sl36))
  have E_b11_0_u38 : Exa Z h22 b11_0 "[B" := (pf11_0.wr W22)
  have ne_a0_b11_0 : a0 ≠ b11_0 := own_ne (Nat.lt_of_lt_of_le (E_a0_u7.wr W8).lt s11_0)
  have V_b11_0_u39 : Arv Z h22 b11_0 kB .byte (0 : Int32) [] (.int (0 : Int32)) := (pf11_1.other W22 (Ne.symm ne_a0_b11_0))
  obtain ⟨fs, hr, hrun, hended, hWE⟩ := X22'.leaveW (s := s) hS2 (by rw [e22]; exact (Nat.le_trans (Nat.le_trans (Nat.le_trans hk2 (Keep.of_wr W8).1) kq11.1) (Keep.of_wr W22).1)) (v := none) (fun _ => rfl)
  refine ⟨_, _, pre0 _ ?_, hrun, hended, _, _, rfl, ?_, hWE.1, hWE.2.1, hWE.2.2.1, hWE.2.2.2.mono (by decide) (by decide)⟩
  · show Steps p.tables e below (s₁.setTop (mkF m 0 #[.val (.ref a0), .val (.ref a1)] [])) _
    refine XS.aloadN X0.here hx rfl (hb hby d3_0) rfl rfl ?_
    show Steps p.tables e below (s₁.setTop (mkF m 1 #[.val (.ref a0), .val (.ref a1)] [(.ref a0)])) _
    refine st1 _ ?_
    show Steps p.tables e below (T1.setTop (mkF m 4 #[.val (.ref a0), .val (.ref a1)] [])) _
    refine XS.aloadN X1.here hx rfl (hb hby d3_4) rfl rfl ?_
    show Steps p.tables e below (T1.setTop (mkF m 5 #[.val (.ref a0), .val (.ref a1)] [(.ref a0)])) _
    refine XS.aloadN X1.here hx rfl (hb hby d3_5) rfl rfl ?_
    show Steps p.tables e below (T1.setTop (mkF m 6 #[.val (.ref a0), .val (.ref a1)] [(.ref a1), (.ref a0)])) _
    refine st2 _ ?_
    show Steps p.tables e below (T2.setTop (mkF m 8 #[.val (.ref a0), .val (.ref a1)] [(.ref l2), (.ref a1), (.ref a0)])) _
    refine st3 _ ?_
    show Steps p.tables e below (T3.setTop (mkF m 11 #[.val (.ref a0), .val (.ref a1)] [(.ref a1), (.ref a0)])) _
    refine st5 _ ?_
    show Steps p.tables e below (T5.setTop (mkF m 14 #[.val (.ref a0), .val (.ref a1)] [(.ref a1), (.ref a0)])) _
    refine st8 _ ?_
    show Steps p.tables e below (T8.setTop (mkF m 17 #[.val (.ref a0), .val (.ref a1)] [])) _
    refine XS.aloadN X8'.here hx rfl (hb hby d3_17) rfl rfl ?_
    show Steps p.tables e below (T8.setTop (mkF m 18 #[.val (.ref a0), .val (.ref a1)] [(.ref a0)])) _
    refine XS.aloadN X8'.here hx rfl (hb hby d3_18) rfl rfl ?_
    show Steps p.tables e below (T8.setTop (mkF m 19 #[.val (.ref a0), .val (.ref a1)] [(.ref a1), (.ref a0)])) _
    refine st10 _ ?_
    show Steps p.tables e below (T10.setTop (mkF m 22 #[.val (.ref a0), .val (.ref a1)] [(.ref aU), (.ref a1), (.ref a0)])) _
    refine st11.trans ?_
    show Steps p.tables e below (T11.setTop (mkF m 25 #[.val (.ref a0), .val (.ref a1)] [(.ref b11_0), (.ref a0)])) _
    refine st22 _ ?_
    show Steps p.tables e below (T22.setTop (mkF m 28 #[.val (.ref a0), .val (.ref a1)] [])) _
    exact X22'.returnOut hx Bd.returns (hb hby d3_28) hr
  · show Q30 Z a0 a1 aB kB aU s_COMPACT_STRINGS h0 n0 _ T22.heap _
    rw [e22]
    exact ⟨b11_0, rfl, N22, sz_b11_0, K22, E_a0_u23, F_a0_suffix_u25, Fw22, F_a0_buckets_u29, F_a0_mask_u33, F_a0_overflow_u37, E_b11_0_u38, V_b11_0_u39⟩
theorem d2_0 : decode prog_5_method_1_code 0 = .ok (.aload_n 0, 1) := by decide +kernel
theorem d2_1 : decode prog_5_method_1_code 1 = .ok (.aload_n 1, 1) := by decide +kernel
theorem d2_2 : decode prog_5_method_1_code 2 = .ok (.invokespecial 1, 3) := by decide +kernel
theorem pd_7 : parseMethodDescriptor "(Ljava/lang/String;)V" = some ⟨[(.object "java/lang/String")], none⟩ := by decide +kernel
theorem d2_5 : decode prog_5_method_1_code 5 = .ok (.return_, 1) := by decide +kernel
theorem pn_com_example_fireweed_fireweed_layout_BucketSalt : plainName "com/example/fireweed/fireweed/layout/BucketSalt" = true := by first | (simp [plainName, overriddenIn]; done) | decide +kernel
theorem ef_rm20 (m : MethodId) (a0 : Addr) (a1 : Addr) : entryFrame m #[(.ref a0), (.ref a1)] 2 = mkF m 0 #[.val (.ref a0), .val (.ref a1)] [] := by first | (simp [entryFrame, mkF, argsToLocals, Value.category]; done) | rfl
def Q20 (Z : State) (a0 : Addr) (a1 : Addr) (aB : Addr) (kB : ClassId) (aU : Addr) (s_COMPACT_STRINGS : Int32) (h0 : Heap) (n0 : Nat) (v : Option Value) (h : Heap) (L : List Loc) : Prop := ∃ r0 : Addr, v = none ∧ Fr n0 L ∧ h0.size ≤ r0 ∧ Keep h0 h [a0] ∧ Exa Z h a0 "com/example/fireweed/fireweed/layout/Java31ByteSalt" ∧ Fld Z h a0 "com/example/fireweed/fireweed/layout/Salt" "suffix" "Ljava/lang/String;" (.ref a1) ∧ Fld Z h a0 "com/example/fireweed/fireweed/layout/Salt" "suffixBytes" "[B" (.ref r0) ∧ Fld Z h a0 "com/example/fireweed/fireweed/layout/Java31ByteSalt" "buckets" "I" (.int (0 : Int32)) ∧ Fld Z h a0 "com/example/fireweed/fireweed/layout/Java31ByteSalt" "mask" "I" (.int (0 : Int32)) ∧ Fld Z h a0 "com/example/fireweed/fireweed/layout/Java31ByteSalt" "overflow" "I" (.int (0 : Int32)) ∧ Exa Z h r0 "[B" ∧ Arv Z h r0 kB .byte (0 : Int32) [] (.int (0 : Int32))
set_option maxRecDepth 65536 in
set_option maxHeartbeats 40000000 in
theorem rm20 (l : Launch) (Z : State) (az : Array Value) (hw : ∀ d ∈ tables_1, d.before az Z = true) (ws : List Jvm.Cond) (a0 : Addr) (a1 : Addr) (aB : Addr) (kB : ClassId) (aU : Addr) (s_COMPACT_STRINGS : Int32) (h0 : Heap) (n0 : Nat) (Z0 : n0 ≤ h0.size) (E_a0 : Exa Z h0 a0 "com/example/fireweed/fireweed/layout/Java31ByteSalt") (F_suffix_a0 : Fld Z h0 a0 "com/example/fireweed/fireweed/layout/Salt" "suffix" "Ljava/lang/String;" .null) (F_suffixBytes_a0 : Fld Z h0 a0 "com/example/fireweed/fireweed/layout/Salt" "suffixBytes" "[B" .null) (F_buckets_a0 : Fld Z h0 a0 "com/example/fireweed/fireweed/layout/Java31ByteSalt" "buckets" "I" (.int (0 : Int32))) (F_mask_a0 : Fld Z h0 a0 "com/example/fireweed/fireweed/layout/Java31ByteSalt" "mask" "I" (.int (0 : Int32))) (F_overflow_a0 : Fld Z h0 a0 "com/example/fireweed/fireweed/layout/Java31ByteSalt" "overflow" "I" (.int (0 : Int32))) (E_a1 : Exa Z h0 a1 "java/lang/String") (F_coder_a1 : Fld Z h0 a1 "java/lang/String" "coder" "B" (.int (0 : Int32))) (F_value_a1 : Fld Z h0 a1 "java/lang/String" "value" "[B" (.ref aB)) (V_aB : Arv Z h0 aB kB .byte (0 : Int32) [] (.int (0 : Int32))) (E_aB : Exa Z h0 aB "[B") (S_INSTANCE : Sta Z h0 "sun/nio/cs/UTF_8" "INSTANCE" "Lsun/nio/cs/UTF_8;" (.ref aU)) (S_UTF_8 : Sta Z h0 "java/nio/charset/StandardCharsets" "UTF_8" "Ljava/nio/charset/Charset;" (.ref aU)) (S_COMPACT_STRINGS : Sta Z h0 "java/lang/String" "COMPACT_STRINGS" "Z" (.int s_COMPACT_STRINGS)) (g_a0 : n0 ≤ a0) (hne_a1_a0 : a1 ≠ a0) (hne_aB_a0 : aB ≠ a0) (hc17 : ¬ (s_COMPACT_STRINGS = (0 : Int32))) :
    MetFree l (⟨"com/example/fireweed/fireweed/layout/BucketSalt", "<init>", "(Ljava/lang/String;)V"⟩ : MethodName) (head1 (Jvm.Cond.code (⟨"com/example/fireweed/fireweed/layout/BucketSalt", "<init>", "(Ljava/lang/String;)V"⟩ : MethodName) prog_5_method_1_code 2 none :: ws) ({ frames := 6, cells := 3, slots := 28, locals := 91 } : Room)) (fun a U => a = #[(.ref a0), (.ref a1)] ∧ Z.Warmed39 U.vm ∧ U.heap = h0) (fun _ _ _ _ _ => True) (fun _ U o U' => ∃ v L, o = .returned v ∧ Q20 Z a0 a1 aB kB aU s_COMPACT_STRINGS h0 n0 v U'.heap L ∧ ReturnedEndW U o U' L ({ frames := 6, cells := 3, slots := 28, locals := 91 } : Room).cells ({ frames := 6, cells := 3, slots := 28, locals := 91 } : Room).slots) := by
  refine MetFree.of_bodySF (plainFor_of_name pn_com_example_fireweed_fireweed_layout_BucketSalt) hisR ?_
  intro p e s m args below meth c s₁ Bd hml0 hP hK
  obtain ⟨rfl, hZ, hh⟩ := hP
  have hx := Bd.exec
  have hby := Bd.bytes
  have hml : c.maxLocals = 2 := hml0
  have hown : s.vm.findClass "com/example/fireweed/fireweed/layout/BucketSalt" = some m.cls := findClass_of_methodNamed Bd.named
  have hnm := (name_of_methodNamed Bd.named Bd.method).1
  have X0 : Stand p l e ({ frames := 6, cells := 3, slots := 28, locals := 91 } : Room) s m #[(.ref a0), (.ref a1)] below meth c s₁ [] 0 0 := Stand.of_body Bd
  have e0 : s₁.heap = h0 := by rw [← hh, Bd.state]; rfl
  have N0 := Fr.nil n0
  have pre0 : ∀ t, Steps p.tables e below (s₁.setTop (mkF m 0 #[.val (.ref a0), .val (.ref a1)] [])) t → Steps p.tables e below (s₁.setTop (entryFrame m #[(.ref a0), (.ref a1)] 2)) t := fun t k => castTop (ef_rm20 m a0 a1) k
  have hS0 : s.Since s.vm 0 := (State.WarmedH.refl s).since 0
  have wS : ∀ a ∈ Bundle.stringAtoms, a.before az Z = true := fun d hd => by
    simp only [Bundle.stringAtoms, List.mem_cons, List.not_mem_nil, or_false] at hd
    rcases hd with rfl | rfl | rfl | rfl | rfl | rfl | rfl
    · exact (hw _ (List.mem_of_getElem? (i := 5) rfl))
    · exact (hw _ (List.mem_of_getElem? (i := 6) rfl))
    · exact (hw _ (List.mem_of_getElem? (i := 7) rfl))
    · exact (hw _ (List.mem_of_getElem? (i := 8) rfl))
    · exact (hw _ (List.mem_of_getElem? (i := 9) rfl))
    · exact (hw _ (List.mem_of_getElem? (i := 10) rfl))
    · exact (hw _ (List.mem_of_getElem? (i := 11) rfl))
  obtain ⟨_, _, ⟨T1, L1, k1', n1'⟩, -, Y1, yS1, yg1, ⟨Lc1, hQ1, l1, y1, z1⟩, st1⟩ := X0.specialBackS hx (y := (⟨"com/example/fireweed/fireweed/layout/Salt", "<init>", "(Ljava/lang/String;)V"⟩ : MethodName)) rfl hown (mvT hZ (hw _ (List.mem_of_getElem? (i := 20) rfl))) (mvT hZ (hw _ (List.mem_of_getElem? (i := 21) rfl))) (mvT hZ (hw _ (List.mem_of_getElem? (i := 24) rfl))) (by decide) (backOfS (W := 0) (rm30 l Z az hw [] a0 a1 aB kB aU s_COMPACT_STRINGS h0 n0 Z0 E_a0 F_suffix_a0 F_suffixBytes_a0 F_buckets_a0 F_mask_a0 F_overflow_a0 E_a1 F_coder_a1 F_value_a1 V_aB E_aB S_INSTANCE S_UTF_8 g_a0 S_COMPACT_STRINGS hne_a1_a0 hne_aB_a0 hc17) hZ (hw _ (List.mem_of_getElem? (i := 24) rfl)) (hw _ (List.mem_of_getElem? (i := 23) rfl)) (by decide) (by decide)) (g := (mkF m 2 #[.val (.ref a0), .val (.ref a1)] [(.ref a1), (.ref a0)])) rfl (by rw [hml]; rfl) (Steps.refl _) (a := a0) (argsL := [(.ref a1)]) (rest := []) (lenOf pd_7 rfl) rfl (by show 2 * 0 + _ ≤ _; exact Nat.le_of_eq rfl) (hb hby d2_2) (fun _ _ => ⟨rfl, e0, (by decide : 0 + 3 ≤ _), (by decide : 0 + 28 ≤ _)⟩)
  dsimp only [Pt.U, Pt.locs, Pt.cells, Pt.slots] at Y1 yS1 yg1 l1 y1 z1 st1 hQ1
  subst l1 y1 z1
  obtain ⟨X1, hS1, hZ1, hown1⟩ := rebS (s := s) (vm0 := s.vm) hS0 (by rw [e0]; exact (Nat.zero_le _)) Y1 yS1 yg1 hZ hown
  obtain ⟨b1_0, rfl, N1q, s1_0, kq1, pf1_0, pf1_1, pf1_2, pf1_3, pf1_4, pf1_5, pf1_6, pf1_7⟩ := hQ1
  obtain ⟨Lg1, X1', N1⟩ := own_gen X1 (Fr.app N0 N1q)
  have g_b1_0 : n0 ≤ b1_0 := Nat.le_trans Z0 s1_0
  have sz_b1_0 : h0.size ≤ b1_0 := Nat.le_trans (Nat.le_refl _) s1_0
  have K1 : Keep h0 T1.heap [a0] := (Keep.refl h0 [a0]).trans kq1 (allS (Or.inl (List.mem_of_getElem? (i := 0) rfl)) all0)
  have Z1 : n0 ≤ T1.heap.size := Nat.le_trans Z0 kq1.1
  obtain ⟨fs, hr, hrun, hended, hWE⟩ := X1'.leaveW (s := s) hS1 (Nat.le_refl _) (v := none) (fun _ => rfl)
  refine ⟨_, _, pre0 _ ?_, hrun, hended, _, _, rfl, ?_, hWE.1, hWE.2.1, hWE.2.2.1, hWE.2.2.2.mono (by decide) (by decide)⟩
  · show Steps p.tables e below (s₁.setTop (mkF m 0 #[.val (.ref a0), .val (.ref a1)] [])) _
    refine XS.aloadN X0.here hx rfl (hb hby d2_0) rfl rfl ?_
    show Steps p.tables e below (s₁.setTop (mkF m 1 #[.val (.ref a0), .val (.ref a1)] [(.ref a0)])) _
    refine XS.aloadN X0.here hx rfl (hb hby d2_1) rfl rfl ?_
    show Steps p.tables e below (s₁.setTop (mkF m 2 #[.val (.ref a0), .val (.ref a1)] [(.ref a1), (.ref a0)])) _
    refine st1.trans ?_
    show Steps p.tables e below (T1.setTop (mkF m 5 #[.val (.ref a0), .val (.ref a1)] [])) _
    exact X1'.returnOut hx Bd.returns (hb hby d2_5) hr
  · show Q20 Z a0 a1 aB kB aU s_COMPACT_STRINGS h0 n0 _ T1.heap _
    exact ⟨b1_0, rfl, N1, sz_b1_0, K1, pf1_0, pf1_1, pf1_2, pf1_3, pf1_4, pf1_5, pf1_6, pf1_7⟩
theorem d12_0 : decode jdk_33_method_49_code 0 = .ok (.iload_n 0, 1) := by decide +kernel
theorem d12_1 : decode jdk_33_method_49_code 1 = .ok (.iload_n 0, 1) := by decide +kernel
theorem d12_2 : decode jdk_33_method_49_code 2 = .ok (.iconst 1, 1) := by decide +kernel
theorem d12_3 : decode jdk_33_method_49_code 3 = .ok (.iushr, 1) := by decide +kernel
theorem d12_4 : decode jdk_33_method_49_code 4 = .ok (.ldc_w 265, 3) := by decide +kernel
theorem d12_7 : decode jdk_33_method_49_code 7 = .ok (.iand, 1) := by decide +kernel
theorem d12_8 : decode jdk_33_method_49_code 8 = .ok (.isub, 1) := by decide +kernel
theorem d12_9 : decode jdk_33_method_49_code 9 = .ok (.istore_n 0, 1) := by decide +kernel
theorem d12_10 : decode jdk_33_method_49_code 10 = .ok (.iload_n 0, 1) := by decide +kernel
theorem d12_11 : decode jdk_33_method_49_code 11 = .ok (.ldc_w 266, 3) := by decide +kernel
theorem d12_14 : decode jdk_33_method_49_code 14 = .ok (.iand, 1) := by decide +kernel
theorem d12_15 : decode jdk_33_method_49_code 15 = .ok (.iload_n 0, 1) := by decide +kernel
theorem d12_16 : decode jdk_33_method_49_code 16 = .ok (.iconst 2, 1) := by decide +kernel
theorem d12_17 : decode jdk_33_method_49_code 17 = .ok (.iushr, 1) := by decide +kernel
theorem d12_18 : decode jdk_33_method_49_code 18 = .ok (.ldc_w 266, 3) := by decide +kernel
theorem d12_21 : decode jdk_33_method_49_code 21 = .ok (.iand, 1) := by decide +kernel
theorem d12_22 : decode jdk_33_method_49_code 22 = .ok (.iadd, 1) := by decide +kernel
theorem d12_23 : decode jdk_33_method_49_code 23 = .ok (.istore_n 0, 1) := by decide +kernel
theorem d12_24 : decode jdk_33_method_49_code 24 = .ok (.iload_n 0, 1) := by decide +kernel
theorem d12_25 : decode jdk_33_method_49_code 25 = .ok (.iload_n 0, 1) := by decide +kernel
theorem d12_26 : decode jdk_33_method_49_code 26 = .ok (.iconst 4, 1) := by decide +kernel
theorem d12_27 : decode jdk_33_method_49_code 27 = .ok (.iushr, 1) := by decide +kernel
theorem d12_28 : decode jdk_33_method_49_code 28 = .ok (.iadd, 1) := by decide +kernel
theorem d12_29 : decode jdk_33_method_49_code 29 = .ok (.ldc_w 267, 3) := by decide +kernel
theorem d12_32 : decode jdk_33_method_49_code 32 = .ok (.iand, 1) := by decide +kernel
theorem d12_33 : decode jdk_33_method_49_code 33 = .ok (.istore_n 0, 1) := by decide +kernel
theorem d12_34 : decode jdk_33_method_49_code 34 = .ok (.iload_n 0, 1) := by decide +kernel
theorem d12_35 : decode jdk_33_method_49_code 35 = .ok (.iload_n 0, 1) := by decide +kernel
theorem d12_36 : decode jdk_33_method_49_code 36 = .ok (.bipush 8, 2) := by decide +kernel
theorem d12_38 : decode jdk_33_method_49_code 38 = .ok (.iushr, 1) := by decide +kernel
theorem d12_39 : decode jdk_33_method_49_code 39 = .ok (.iadd, 1) := by decide +kernel
theorem d12_40 : decode jdk_33_method_49_code 40 = .ok (.istore_n 0, 1) := by decide +kernel
theorem d12_41 : decode jdk_33_method_49_code 41 = .ok (.iload_n 0, 1) := by decide +kernel
theorem d12_42 : decode jdk_33_method_49_code 42 = .ok (.iload_n 0, 1) := by decide +kernel
theorem d12_43 : decode jdk_33_method_49_code 43 = .ok (.bipush 16, 2) := by decide +kernel
theorem d12_45 : decode jdk_33_method_49_code 45 = .ok (.iushr, 1) := by decide +kernel
theorem d12_46 : decode jdk_33_method_49_code 46 = .ok (.iadd, 1) := by decide +kernel
theorem d12_47 : decode jdk_33_method_49_code 47 = .ok (.istore_n 0, 1) := by decide +kernel
theorem d12_48 : decode jdk_33_method_49_code 48 = .ok (.iload_n 0, 1) := by decide +kernel
theorem d12_49 : decode jdk_33_method_49_code 49 = .ok (.bipush 63, 2) := by decide +kernel
theorem d12_51 : decode jdk_33_method_49_code 51 = .ok (.iand, 1) := by decide +kernel
theorem d12_52 : decode jdk_33_method_49_code 52 = .ok (.ireturn, 1) := by decide +kernel
def own_bc (p0 : Int32) : Int32 := ((((((((p0 - (((p0.toUInt32 >>> ((1 : Int32) &&& 31).toUInt32).toInt32) &&& (1431655765 : Int32))) &&& (858993459 : Int32)) + ((((p0 - (((p0.toUInt32 >>> ((1 : Int32) &&& 31).toUInt32).toInt32) &&& (1431655765 : Int32))).toUInt32 >>> ((2 : Int32) &&& 31).toUInt32).toInt32) &&& (858993459 : Int32))) + (((((p0 - (((p0.toUInt32 >>> ((1 : Int32) &&& 31).toUInt32).toInt32) &&& (1431655765 : Int32))) &&& (858993459 : Int32)) + ((((p0 - (((p0.toUInt32 >>> ((1 : Int32) &&& 31).toUInt32).toInt32) &&& (1431655765 : Int32))).toUInt32 >>> ((2 : Int32) &&& 31).toUInt32).toInt32) &&& (858993459 : Int32))).toUInt32 >>> ((4 : Int32) &&& 31).toUInt32).toInt32)) &&& (252645135 : Int32)) + (((((((p0 - (((p0.toUInt32 >>> ((1 : Int32) &&& 31).toUInt32).toInt32) &&& (1431655765 : Int32))) &&& (858993459 : Int32)) + ((((p0 - (((p0.toUInt32 >>> ((1 : Int32) &&& 31).toUInt32).toInt32) &&& (1431655765 : Int32))).toUInt32 >>> ((2 : Int32) &&& 31).toUInt32).toInt32) &&& (858993459 : Int32))) + (((((p0 - (((p0.toUInt32 >>> ((1 : Int32) &&& 31).toUInt32).toInt32) &&& (1431655765 : Int32))) &&& (858993459 : Int32)) + ((((p0 - (((p0.toUInt32 >>> ((1 : Int32) &&& 31).toUInt32).toInt32) &&& (1431655765 : Int32))).toUInt32 >>> ((2 : Int32) &&& 31).toUInt32).toInt32) &&& (858993459 : Int32))).toUInt32 >>> ((4 : Int32) &&& 31).toUInt32).toInt32)) &&& (252645135 : Int32)).toUInt32 >>> ((8 : Int32) &&& 31).toUInt32).toInt32)) + ((((((((p0 - (((p0.toUInt32 >>> ((1 : Int32) &&& 31).toUInt32).toInt32) &&& (1431655765 : Int32))) &&& (858993459 : Int32)) + ((((p0 - (((p0.toUInt32 >>> ((1 : Int32) &&& 31).toUInt32).toInt32) &&& (1431655765 : Int32))).toUInt32 >>> ((2 : Int32) &&& 31).toUInt32).toInt32) &&& (858993459 : Int32))) + (((((p0 - (((p0.toUInt32 >>> ((1 : Int32) &&& 31).toUInt32).toInt32) &&& (1431655765 : Int32))) &&& (858993459 : Int32)) + ((((p0 - (((p0.toUInt32 >>> ((1 : Int32) &&& 31).toUInt32).toInt32) &&& (1431655765 : Int32))).toUInt32 >>> ((2 : Int32) &&& 31).toUInt32).toInt32) &&& (858993459 : Int32))).toUInt32 >>> ((4 : Int32) &&& 31).toUInt32).toInt32)) &&& (252645135 : Int32)) + (((((((p0 - (((p0.toUInt32 >>> ((1 : Int32) &&& 31).toUInt32).toInt32) &&& (1431655765 : Int32))) &&& (858993459 : Int32)) + ((((p0 - (((p0.toUInt32 >>> ((1 : Int32) &&& 31).toUInt32).toInt32) &&& (1431655765 : Int32))).toUInt32 >>> ((2 : Int32) &&& 31).toUInt32).toInt32) &&& (858993459 : Int32))) + (((((p0 - (((p0.toUInt32 >>> ((1 : Int32) &&& 31).toUInt32).toInt32) &&& (1431655765 : Int32))) &&& (858993459 : Int32)) + ((((p0 - (((p0.toUInt32 >>> ((1 : Int32) &&& 31).toUInt32).toInt32) &&& (1431655765 : Int32))).toUInt32 >>> ((2 : Int32) &&& 31).toUInt32).toInt32) &&& (858993459 : Int32))).toUInt32 >>> ((4 : Int32) &&& 31).toUInt32).toInt32)) &&& (252645135 : Int32)).toUInt32 >>> ((8 : Int32) &&& 31).toUInt32).toInt32)).toUInt32 >>> ((16 : Int32) &&& 31).toUInt32).toInt32)) &&& (63 : Int32))
theorem pn_java_lang_Integer : plainName "java/lang/Integer" = true := by first | (simp [plainName, overriddenIn]; done) | decide +kernel
theorem ef_rm12 (m : MethodId) (p0 : Int32) : entryFrame m #[(.int p0)] 1 = mkF m 0 #[.val (.int p0)] [] := by first | (simp [entryFrame, mkF, argsToLocals, Value.category]; done) | rfl
def Q12 (Z : State) (p0 : Int32) (h0 : Heap) (n0 : Nat) (v : Option Value) (h : Heap) (L : List Loc) : Prop := v = some (.int (own_bc p0)) ∧ Fr n0 L ∧ h = h0
set_option maxRecDepth 65536 in
set_option maxHeartbeats 40000000 in
theorem rm12 (l : Launch) (Z : State) (az : Array Value) (hw : ∀ d ∈ tables_1, d.before az Z = true) (ws : List Jvm.Cond) (p0 : Int32) (h0 : Heap) (n0 : Nat) (Z0 : n0 ≤ h0.size) :
    MetFree l (⟨"java/lang/Integer", "bitCount", "(I)I"⟩ : MethodName) (head1 (Jvm.Cond.code (⟨"java/lang/Integer", "bitCount", "(I)I"⟩ : MethodName) jdk_33_method_49_code 1 (some .int) :: ws) ({ frames := 0, cells := 0, slots := 0, locals := 0 } : Room)) (fun a U => a = #[(.int p0)] ∧ Z.Warmed39 U.vm ∧ U.heap = h0) (fun _ _ _ _ _ => True) (fun _ U o U' => ∃ v L, o = .returned v ∧ Q12 Z p0 h0 n0 v U'.heap L ∧ FrameEnd U o U' L ({ frames := 0, cells := 0, slots := 0, locals := 0 } : Room).cells ({ frames := 0, cells := 0, slots := 0, locals := 0 } : Room).slots) := by
  refine MetFree.of_bodySF (plainFor_of_name pn_java_lang_Integer) hisR ?_
  intro p e s m args below meth c s₁ Bd hml0 hP hK
  obtain ⟨rfl, hZ, hh⟩ := hP
  have hx := Bd.exec
  have hby := Bd.bytes
  have hml : c.maxLocals = 1 := hml0
  have hown : s.vm.findClass "java/lang/Integer" = some m.cls := findClass_of_methodNamed Bd.named
  have hnm := (name_of_methodNamed Bd.named Bd.method).1
  have X0 : Stand p l e ({ frames := 0, cells := 0, slots := 0, locals := 0 } : Room) s m #[(.int p0)] below meth c s₁ [] 0 0 := Stand.of_body Bd
  have e0 : s₁.heap = h0 := by rw [← hh, Bd.state]; rfl
  have N0 := Fr.nil n0
  have pre0 : ∀ t, Steps p.tables e below (s₁.setTop (mkF m 0 #[.val (.int p0)] [])) t → Steps p.tables e below (s₁.setTop (entryFrame m #[(.int p0)] 1)) t := fun t k => castTop (ef_rm12 m p0) k
  obtain ⟨fs, hr, hrun, hended, hW, hsame⟩ := X0.leave (v := some (.int (own_bc p0))) (fun h => by rw [Bd.returns] at h; cases h)
  refine ⟨_, _, pre0 _ ?_, hrun, hended, _, _, rfl, ?_, ⟨_, rfl⟩, hW, hsame.mono (by decide) (by decide)⟩
  · show Steps p.tables e below (s₁.setTop (mkF m 0 #[.val (.int p0)] [])) _
    refine XS.iloadN X0.here hx rfl (hb hby d12_0) rfl ?_
    show Steps p.tables e below (s₁.setTop (mkF m 1 #[.val (.int p0)] [(.int p0)])) _
    refine XS.iloadN X0.here hx rfl (hb hby d12_1) rfl ?_
    show Steps p.tables e below (s₁.setTop (mkF m 2 #[.val (.int p0)] [(.int p0), (.int p0)])) _
    refine XS.iconst X0.here hx rfl (hb hby d12_2) ?_
    show Steps p.tables e below (s₁.setTop (mkF m 3 #[.val (.int p0)] [(.int (1 : Int32)), (.int p0), (.int p0)])) _
    refine XS.iushr X0.here hx rfl (hb hby d12_3) rfl ?_
    show Steps p.tables e below (s₁.setTop (mkF m 4 #[.val (.int p0)] [(.int ((p0.toUInt32 >>> ((1 : Int32) &&& 31).toUInt32).toInt32)), (.int p0)])) _
    refine X0.ldcwInt hx hown (mvT hZ (hw _ (List.mem_of_getElem? (i := 84) rfl))) (g := (mkF m 4 #[.val (.int p0)] [(.int ((p0.toUInt32 >>> ((1 : Int32) &&& 31).toUInt32).toInt32)), (.int p0)])) rfl (hb hby d12_4) _ ?_
    show Steps p.tables e below (s₁.setTop (mkF m 7 #[.val (.int p0)] [(.int (1431655765 : Int32)), (.int ((p0.toUInt32 >>> ((1 : Int32) &&& 31).toUInt32).toInt32)), (.int p0)])) _
    refine XS.iand X0.here hx rfl (hb hby d12_7) rfl ?_
    show Steps p.tables e below (s₁.setTop (mkF m 8 #[.val (.int p0)] [(.int (((p0.toUInt32 >>> ((1 : Int32) &&& 31).toUInt32).toInt32) &&& (1431655765 : Int32))), (.int p0)])) _
    refine XS.isub X0.here hx rfl (hb hby d12_8) rfl ?_
    show Steps p.tables e below (s₁.setTop (mkF m 9 #[.val (.int p0)] [(.int (p0 - (((p0.toUInt32 >>> ((1 : Int32) &&& 31).toUInt32).toInt32) &&& (1431655765 : Int32))))])) _
    refine XS.istoreN X0.here hx rfl (hb hby d12_9) rfl (l' := #[.val (.int (p0 - (((p0.toUInt32 >>> ((1 : Int32) &&& 31).toUInt32).toInt32) &&& (1431655765 : Int32))))]) rfl ?_
    show Steps p.tables e below (s₁.setTop (mkF m 10 #[.val (.int (p0 - (((p0.toUInt32 >>> ((1 : Int32) &&& 31).toUInt32).toInt32) &&& (1431655765 : Int32))))] [])) _
    refine XS.iloadN X0.here hx rfl (hb hby d12_10) rfl ?_
    show Steps p.tables e below (s₁.setTop (mkF m 11 #[.val (.int (p0 - (((p0.toUInt32 >>> ((1 : Int32) &&& 31).toUInt32).toInt32) &&& (1431655765 : Int32))))] [(.int (p0 - (((p0.toUInt32 >>> ((1 : Int32) &&& 31).toUInt32).toInt32) &&& (1431655765 : Int32))))])) _
    refine X0.ldcwInt hx hown (mvT hZ (hw _ (List.mem_of_getElem? (i := 85) rfl))) (g := (mkF m 11 #[.val (.int (p0 - (((p0.toUInt32 >>> ((1 : Int32) &&& 31).toUInt32).toInt32) &&& (1431655765 : Int32))))] [(.int (p0 - (((p0.toUInt32 >>> ((1 : Int32) &&& 31).toUInt32).toInt32) &&& (1431655765 : Int32))))])) rfl (hb hby d12_11) _ ?_
    show Steps p.tables e below (s₁.setTop (mkF m 14 #[.val (.int (p0 - (((p0.toUInt32 >>> ((1 : Int32) &&& 31).toUInt32).toInt32) &&& (1431655765 : Int32))))] [(.int (858993459 : Int32)), (.int (p0 - (((p0.toUInt32 >>> ((1 : Int32) &&& 31).toUInt32).toInt32) &&& (1431655765 : Int32))))])) _
    refine XS.iand X0.here hx rfl (hb hby d12_14) rfl ?_
    show Steps p.tables e below (s₁.setTop (mkF m 15 #[.val (.int (p0 - (((p0.toUInt32 >>> ((1 : Int32) &&& 31).toUInt32).toInt32) &&& (1431655765 : Int32))))] [(.int ((p0 - (((p0.toUInt32 >>> ((1 : Int32) &&& 31).toUInt32).toInt32) &&& (1431655765 : Int32))) &&& (858993459 : Int32)))])) _
    refine XS.iloadN X0.here hx rfl (hb hby d12_15) rfl ?_
    show Steps p.tables e below (s₁.setTop (mkF m 16 #[.val (.int (p0 - (((p0.toUInt32 >>> ((1 : Int32) &&& 31).toUInt32).toInt32) &&& (1431655765 : Int32))))] [(.int (p0 - (((p0.toUInt32 >>> ((1 : Int32) &&& 31).toUInt32).toInt32) &&& (1431655765 : Int32)))), (.int ((p0 - (((p0.toUInt32 >>> ((1 : Int32) &&& 31).toUInt32).toInt32) &&& (1431655765 : Int32))) &&& (858993459 : Int32)))])) _
    refine XS.iconst X0.here hx rfl (hb hby d12_16) ?_
    show Steps p.tables e below (s₁.setTop (mkF m 17 #[.val (.int (p0 - (((p0.toUInt32 >>> ((1 : Int32) &&& 31).toUInt32).toInt32) &&& (1431655765 : Int32))))] [(.int (2 : Int32)), (.int (p0 - (((p0.toUInt32 >>> ((1 : Int32) &&& 31).toUInt32).toInt32) &&& (1431655765 : Int32)))), (.int ((p0 - (((p0.toUInt32 >>> ((1 : Int32) &&& 31).toUInt32).toInt32) &&& (1431655765 : Int32))) &&& (858993459 : Int32)))])) _
    refine XS.iushr X0.here hx rfl (hb hby d12_17) rfl ?_
    show Steps p.tables e below (s₁.setTop (mkF m 18 #[.val (.int (p0 - (((p0.toUInt32 >>> ((1 : Int32) &&& 31).toUInt32).toInt32) &&& (1431655765 : Int32))))] [(.int (((p0 - (((p0.toUInt32 >>> ((1 : Int32) &&& 31).toUInt32).toInt32) &&& (1431655765 : Int32))).toUInt32 >>> ((2 : Int32) &&& 31).toUInt32).toInt32)), (.int ((p0 - (((p0.toUInt32 >>> ((1 : Int32) &&& 31).toUInt32).toInt32) &&& (1431655765 : Int32))) &&& (858993459 : Int32)))])) _
    refine X0.ldcwInt hx hown (mvT hZ (hw _ (List.mem_of_getElem? (i := 85) rfl))) (g := (mkF m 18 #[.val (.int (p0 - (((p0.toUInt32 >>> ((1 : Int32) &&& 31).toUInt32).toInt32) &&& (1431655765 : Int32))))] [(.int (((p0 - (((p0.toUInt32 >>> ((1 : Int32) &&& 31).toUInt32).toInt32) &&& (1431655765 : Int32))).toUInt32 >>> ((2 : Int32) &&& 31).toUInt32).toInt32)), (.int ((p0 - (((p0.toUInt32 >>> ((1 : Int32) &&& 31).toUInt32).toInt32) &&& (1431655765 : Int32))) &&& (858993459 : Int32)))])) rfl (hb hby d12_18) _ ?_
    show Steps p.tables e below (s₁.setTop (mkF m 21 #[.val (.int (p0 - (((p0.toUInt32 >>> ((1 : Int32) &&& 31).toUInt32).toInt32) &&& (1431655765 : Int32))))] [(.int (858993459 : Int32)), (.int (((p0 - (((p0.toUInt32 >>> ((1 : Int32) &&& 31).toUInt32).toInt32) &&& (1431655765 : Int32))).toUInt32 >>> ((2 : Int32) &&& 31).toUInt32).toInt32)), (.int ((p0 - (((p0.toUInt32 >>> ((1 : Int32) &&& 31).toUInt32).toInt32) &&& (1431655765 : Int32))) &&& (858993459 : Int32)))])) _
    refine XS.iand X0.here hx rfl (hb hby d12_21) rfl ?_
    show Steps p.tables e below (s₁.setTop (mkF m 22 #[.val (.int (p0 - (((p0.toUInt32 >>> ((1 : Int32) &&& 31).toUInt32).toInt32) &&& (1431655765 : Int32))))] [(.int ((((p0 - (((p0.toUInt32 >>> ((1 : Int32) &&& 31).toUInt32).toInt32) &&& (1431655765 : Int32))).toUInt32 >>> ((2 : Int32) &&& 31).toUInt32).toInt32) &&& (858993459 : Int32))), (.int ((p0 - (((p0.toUInt32 >>> ((1 : Int32) &&& 31).toUInt32).toInt32) &&& (1431655765 : Int32))) &&& (858993459 : Int32)))])) _
    refine XS.iadd X0.here hx rfl (hb hby d12_22) rfl ?_
    show Steps p.tables e below (s₁.setTop (mkF m 23 #[.val (.int (p0 - (((p0.toUInt32 >>> ((1 : Int32) &&& 31).toUInt32).toInt32) &&& (1431655765 : Int32))))] [(.int (((p0 - (((p0.toUInt32 >>> ((1 : Int32) &&& 31).toUInt32).toInt32) &&& (1431655765 : Int32))) &&& (858993459 : Int32)) + ((((p0 - (((p0.toUInt32 >>> ((1 : Int32) &&& 31).toUInt32).toInt32) &&& (1431655765 : Int32))).toUInt32 >>> ((2 : Int32) &&& 31).toUInt32).toInt32) &&& (858993459 : Int32))))])) _
    refine XS.istoreN X0.here hx rfl (hb hby d12_23) rfl (l' := #[.val (.int (((p0 - (((p0.toUInt32 >>> ((1 : Int32) &&& 31).toUInt32).toInt32) &&& (1431655765 : Int32))) &&& (858993459 : Int32)) + ((((p0 - (((p0.toUInt32 >>> ((1 : Int32) &&& 31).toUInt32).toInt32) &&& (1431655765 : Int32))).toUInt32 >>> ((2 : Int32) &&& 31).toUInt32).toInt32) &&& (858993459 : Int32))))]) rfl ?_
    show Steps p.tables e below (s₁.setTop (mkF m 24 #[.val (.int (((p0 - (((p0.toUInt32 >>> ((1 : Int32) &&& 31).toUInt32).toInt32) &&& (1431655765 : Int32))) &&& (858993459 : Int32)) + ((((p0 - (((p0.toUInt32 >>> ((1 : Int32) &&& 31).toUInt32).toInt32) &&& (1431655765 : Int32))).toUInt32 >>> ((2 : Int32) &&& 31).toUInt32).toInt32) &&& (858993459 : Int32))))] [])) _
    refine XS.iloadN X0.here hx rfl (hb hby d12_24) rfl ?_
    show Steps p.tables e below (s₁.setTop (mkF m 25 #[.val (.int (((p0 - (((p0.toUInt32 >>> ((1 : Int32) &&& 31).toUInt32).toInt32) &&& (1431655765 : Int32))) &&& (858993459 : Int32)) + ((((p0 - (((p0.toUInt32 >>> ((1 : Int32) &&& 31).toUInt32).toInt32) &&& (1431655765 : Int32))).toUInt32 >>> ((2 : Int32) &&& 31).toUInt32).toInt32) &&& (858993459 : Int32))))] [(.int (((p0 - (((p0.toUInt32 >>> ((1 : Int32) &&& 31).toUInt32).toInt32) &&& (1431655765 : Int32))) &&& (858993459 : Int32)) + ((((p0 - (((p0.toUInt32 >>> ((1 : Int32) &&& 31).toUInt32).toInt32) &&& (1431655765 : Int32))).toUInt32 >>> ((2 : Int32) &&& 31).toUInt32).toInt32) &&& (858993459 : Int32))))])) _
    refine XS.iloadN X0.here hx rfl (hb hby d12_25) rfl ?_
    show Steps p.tables e below (s₁.setTop (mkF m 26 #[.val (.int (((p0 - (((p0.toUInt32 >>> ((1 : Int32) &&& 31).toUInt32).toInt32) &&& (1431655765 : Int32))) &&& (858993459 : Int32)) + ((((p0 - (((p0.toUInt32 >>> ((1 : Int32) &&& 31).toUInt32).toInt32) &&& (1431655765 : Int32))).toUInt32 >>> ((2 : Int32) &&& 31).toUInt32).toInt32) &&& (858993459 : Int32))))] [(.int (((p0 - (((p0.toUInt32 >>> ((1 : Int32) &&& 31).toUInt32).toInt32) &&& (1431655765 : Int32))) &&& (858993459 : Int32)) + ((((p0 - (((p0.toUInt32 >>> ((1 : Int32) &&& 31).toUInt32).toInt32) &&& (1431655765 : Int32))).toUInt32 >>> ((2 : Int32) &&& 31).toUInt32).toInt32) &&& (858993459 : Int32)))), (.int (((p0 - (((p0.toUInt32 >>> ((1 : Int32) &&& 31).toUInt32).toInt32) &&& (1431655765 : Int32))) &&& (858993459 : Int32)) + ((((p0 - (((p0.toUInt32 >>> ((1 : Int32) &&& 31).toUInt32).toInt32) &&& (1431655765 : Int32))).toUInt32 >>> ((2 : Int32) &&& 31).toUInt32).toInt32) &&& (858993459 : Int32))))])) _
    refine XS.iconst X0.here hx rfl (hb hby d12_26) ?_
    show Steps p.tables e below (s₁.setTop (mkF m 27 #[.val (.int (((p0 - (((p0.toUInt32 >>> ((1 : Int32) &&& 31).toUInt32).toInt32) &&& (1431655765 : Int32))) &&& (858993459 : Int32)) + ((((p0 - (((p0.toUInt32 >>> ((1 : Int32) &&& 31).toUInt32).toInt32) &&& (1431655765 : Int32))).toUInt32 >>> ((2 : Int32) &&& 31).toUInt32).toInt32) &&& (858993459 : Int32))))] [(.int (4 : Int32)), (.int (((p0 - (((p0.toUInt32 >>> ((1 : Int32) &&& 31).toUInt32).toInt32) &&& (1431655765 : Int32))) &&& (858993459 : Int32)) + ((((p0 - (((p0.toUInt32 >>> ((1 : Int32) &&& 31).toUInt32).toInt32) &&& (1431655765 : Int32))).toUInt32 >>> ((2 : Int32) &&& 31).toUInt32).toInt32) &&& (858993459 : Int32)))), (.int (((p0 - (((p0.toUInt32 >>> ((1 : Int32) &&& 31).toUInt32).toInt32) &&& (1431655765 : Int32))) &&& (858993459 : Int32)) + ((((p0 - (((p0.toUInt32 >>> ((1 : Int32) &&& 31).toUInt32).toInt32) &&& (1431655765 : Int32))).toUInt32 >>> ((2 : Int32) &&& 31).toUInt32).toInt32) &&& (858993459 : Int32))))])) _
    refine XS.iushr X0.here hx rfl (hb hby d12_27) rfl ?_
    show Steps p.tables e below (s₁.setTop (mkF m 28 #[.val (.int (((p0 - (((p0.toUInt32 >>> ((1 : Int32) &&& 31).toUInt32).toInt32) &&& (1431655765 : Int32))) &&& (858993459 : Int32)) + ((((p0 - (((p0.toUInt32 >>> ((1 : Int32) &&& 31).toUInt32).toInt32) &&& (1431655765 : Int32))).toUInt32 >>> ((2 : Int32) &&& 31).toUInt32).toInt32) &&& (858993459 : Int32))))] [(.int (((((p0 - (((p0.toUInt32 >>> ((1 : Int32) &&& 31).toUInt32).toInt32) &&& (1431655765 : Int32))) &&& (858993459 : Int32)) + ((((p0 - (((p0.toUInt32 >>> ((1 : Int32) &&& 31).toUInt32).toInt32) &&& (1431655765 : Int32))).toUInt32 >>> ((2 : Int32) &&& 31).toUInt32).toInt32) &&& (858993459 : Int32))).toUInt32 >>> ((4 : Int32) &&& 31).toUInt32).toInt32)), (.int (((p0 - (((p0.toUInt32 >>> ((1 : Int32) &&& 31).toUInt32).toInt32) &&& (1431655765 : Int32))) &&& (858993459 : Int32)) + ((((p0 - (((p0.toUInt32 >>> ((1 : Int32) &&& 31).toUInt32).toInt32) &&& (1431655765 : Int32))).toUInt32 >>> ((2 : Int32) &&& 31).toUInt32).toInt32) &&& (858993459 : Int32))))])) _
    refine XS.iadd X0.here hx rfl (hb hby d12_28) rfl ?_
    show Steps p.tables e below (s₁.setTop (mkF m 29 #[.val (.int (((p0 - (((p0.toUInt32 >>> ((1 : Int32) &&& 31).toUInt32).toInt32) &&& (1431655765 : Int32))) &&& (858993459 : Int32)) + ((((p0 - (((p0.toUInt32 >>> ((1 : Int32) &&& 31).toUInt32).toInt32) &&& (1431655765 : Int32))).toUInt32 >>> ((2 : Int32) &&& 31).toUInt32).toInt32) &&& (858993459 : Int32))))] [(.int ((((p0 - (((p0.toUInt32 >>> ((1 : Int32) &&& 31).toUInt32).toInt32) &&& (1431655765 : Int32))) &&& (858993459 : Int32)) + ((((p0 - (((p0.toUInt32 >>> ((1 : Int32) &&& 31).toUInt32).toInt32) &&& (1431655765 : Int32))).toUInt32 >>> ((2 : Int32) &&& 31).toUInt32).toInt32) &&& (858993459 : Int32))) + (((((p0 - (((p0.toUInt32 >>> ((1 : Int32) &&& 31).toUInt32).toInt32) &&& (1431655765 : Int32))) &&& (858993459 : Int32)) + ((((p0 - (((p0.toUInt32 >>> ((1 : Int32) &&& 31).toUInt32).toInt32) &&& (1431655765 : Int32))).toUInt32 >>> ((2 : Int32) &&& 31).toUInt32).toInt32) &&& (858993459 : Int32))).toUInt32 >>> ((4 : Int32) &&& 31).toUInt32).toInt32)))])) _
    refine X0.ldcwInt hx hown (mvT hZ (hw _ (List.mem_of_getElem? (i := 86) rfl))) (g := (mkF m 29 #[.val (.int (((p0 - (((p0.toUInt32 >>> ((1 : Int32) &&& 31).toUInt32).toInt32) &&& (1431655765 : Int32))) &&& (858993459 : Int32)) + ((((p0 - (((p0.toUInt32 >>> ((1 : Int32) &&& 31).toUInt32).toInt32) &&& (1431655765 : Int32))).toUInt32 >>> ((2 : Int32) &&& 31).toUInt32).toInt32) &&& (858993459 : Int32))))] [(.int ((((p0 - (((p0.toUInt32 >>> ((1 : Int32) &&& 31).toUInt32).toInt32) &&& (1431655765 : Int32))) &&& (858993459 : Int32)) + ((((p0 - (((p0.toUInt32 >>> ((1 : Int32) &&& 31).toUInt32).toInt32) &&& (1431655765 : Int32))).toUInt32 >>> ((2 : Int32) &&& 31).toUInt32).toInt32) &&& (858993459 : Int32))) + (((((p0 - (((p0.toUInt32 >>> ((1 : Int32) &&& 31).toUInt32).toInt32) &&& (1431655765 : Int32))) &&& (858993459 : Int32)) + ((((p0 - (((p0.toUInt32 >>> ((1 : Int32) &&& 31).toUInt32).toInt32) &&& (1431655765 : Int32))).toUInt32 >>> ((2 : Int32) &&& 31).toUInt32).toInt32) &&& (858993459 : Int32))).toUInt32 >>> ((4 : Int32) &&& 31).toUInt32).toInt32)))])) rfl (hb hby d12_29) _ ?_
    show Steps p.tables e below (s₁.setTop (mkF m 32 #[.val (.int (((p0 - (((p0.toUInt32 >>> ((1 : Int32) &&& 31).toUInt32).toInt32) &&& (1431655765 : Int32))) &&& (858993459 : Int32)) + ((((p0 - (((p0.toUInt32 >>> ((1 : Int32) &&& 31).toUInt32).toInt32) &&& (1431655765 : Int32))).toUInt32 >>> ((2 : Int32) &&& 31).toUInt32).toInt32) &&& (858993459 : Int32))))] [(.int (252645135 : Int32)), (.int ((((p0 - (((p0.toUInt32 >>> ((1 : Int32) &&& 31).toUInt32).toInt32) &&& (1431655765 : Int32))) &&& (858993459 : Int32)) + ((((p0 - (((p0.toUInt32 >>> ((1 : Int32) &&& 31).toUInt32).toInt32) &&& (1431655765 : Int32))).toUInt32 >>> ((2 : Int32) &&& 31).toUInt32).toInt32) &&& (858993459 : Int32))) + (((((p0 - (((p0.toUInt32 >>> ((1 : Int32) &&& 31).toUInt32).toInt32) &&& (1431655765 : Int32))) &&& (858993459 : Int32)) + ((((p0 - (((p0.toUInt32 >>> ((1 : Int32) &&& 31).toUInt32).toInt32) &&& (1431655765 : Int32))).toUInt32 >>> ((2 : Int32) &&& 31).toUInt32).toInt32) &&& (858993459 : Int32))).toUInt32 >>> ((4 : Int32) &&& 31).toUInt32).toInt32)))])) _
    refine XS.iand X0.here hx rfl (hb hby d12_32) rfl ?_
    show Steps p.tables e below (s₁.setTop (mkF m 33 #[.val (.int (((p0 - (((p0.toUInt32 >>> ((1 : Int32) &&& 31).toUInt32).toInt32) &&& (1431655765 : Int32))) &&& (858993459 : Int32)) + ((((p0 - (((p0.toUInt32 >>> ((1 : Int32) &&& 31).toUInt32).toInt32) &&& (1431655765 : Int32))).toUInt32 >>> ((2 : Int32) &&& 31).toUInt32).toInt32) &&& (858993459 : Int32))))] [(.int (((((p0 - (((p0.toUInt32 >>> ((1 : Int32) &&& 31).toUInt32).toInt32) &&& (1431655765 : Int32))) &&& (858993459 : Int32)) + ((((p0 - (((p0.toUInt32 >>> ((1 : Int32) &&& 31).toUInt32).toInt32) &&& (1431655765 : Int32))).toUInt32 >>> ((2 : Int32) &&& 31).toUInt32).toInt32) &&& (858993459 : Int32))) + (((((p0 - (((p0.toUInt32 >>> ((1 : Int32) &&& 31).toUInt32).toInt32) &&& (1431655765 : Int32))) &&& (858993459 : Int32)) + ((((p0 - (((p0.toUInt32 >>> ((1 : Int32) &&& 31).toUInt32).toInt32) &&& (1431655765 : Int32))).toUInt32 >>> ((2 : Int32) &&& 31).toUInt32).toInt32) &&& (858993459 : Int32))).toUInt32 >>> ((4 : Int32) &&& 31).toUInt32).toInt32)) &&& (252645135 : Int32)))])) _
    refine XS.istoreN X0.here hx rfl (hb hby d12_33) rfl (l' := #[.val (.int (((((p0 - (((p0.toUInt32 >>> ((1 : Int32) &&& 31).toUInt32).toInt32) &&& (1431655765 : Int32))) &&& (858993459 : Int32)) + ((((p0 - (((p0.toUInt32 >>> ((1 : Int32) &&& 31).toUInt32).toInt32) &&& (1431655765 : Int32))).toUInt32 >>> ((2 : Int32) &&& 31).toUInt32).toInt32) &&& (858993459 : Int32))) + (((((p0 - (((p0.toUInt32 >>> ((1 : Int32) &&& 31).toUInt32).toInt32) &&& (1431655765 : Int32))) &&& (858993459 : Int32)) + ((((p0 - (((p0.toUInt32 >>> ((1 : Int32) &&& 31).toUInt32).toInt32) &&& (1431655765 : Int32))).toUInt32 >>> ((2 : Int32) &&& 31).toUInt32).toInt32) &&& (858993459 : Int32))).toUInt32 >>> ((4 : Int32) &&& 31).toUInt32).toInt32)) &&& (252645135 : Int32)))]) rfl ?_
    show Steps p.tables e below (s₁.setTop (mkF m 34 #[.val (.int (((((p0 - (((p0.toUInt32 >>> ((1 : Int32) &&& 31).toUInt32).toInt32) &&& (1431655765 : Int32))) &&& (858993459 : Int32)) + ((((p0 - (((p0.toUInt32 >>> ((1 : Int32) &&& 31).toUInt32).toInt32) &&& (1431655765 : Int32))).toUInt32 >>> ((2 : Int32) &&& 31).toUInt32).toInt32) &&& (858993459 : Int32))) + (((((p0 - (((p0.toUInt32 >>> ((1 : Int32) &&& 31).toUInt32).toInt32) &&& (1431655765 : Int32))) &&& (858993459 : Int32)) + ((((p0 - (((p0.toUInt32 >>> ((1 : Int32) &&& 31).toUInt32).toInt32) &&& (1431655765 : Int32))).toUInt32 >>> ((2 : Int32) &&& 31).toUInt32).toInt32) &&& (858993459 : Int32))).toUInt32 >>> ((4 : Int32) &&& 31).toUInt32).toInt32)) &&& (252645135 : Int32)))] [])) _
    refine XS.iloadN X0.here hx rfl (hb hby d12_34) rfl ?_
    show Steps p.tables e below (s₁.setTop (mkF m 35 #[.val (.int (((((p0 - (((p0.toUInt32 >>> ((1 : Int32) &&& 31).toUInt32).toInt32) &&& (1431655765 : Int32))) &&& (858993459 : Int32)) + ((((p0 - (((p0.toUInt32 >>> ((1 : Int32) &&& 31).toUInt32).toInt32) &&& (1431655765 : Int32))).toUInt32 >>> ((2 : Int32) &&& 31).toUInt32).toInt32) &&& (858993459 : Int32))) + (((((p0 - (((p0.toUInt32 >>> ((1 : Int32) &&& 31).toUInt32).toInt32) &&& (1431655765 : Int32))) &&& (858993459 : Int32)) + ((((p0 - (((p0.toUInt32 >>> ((1 : Int32) &&& 31).toUInt32).toInt32) &&& (1431655765 : Int32))).toUInt32 >>> ((2 : Int32) &&& 31).toUInt32).toInt32) &&& (858993459 : Int32))).toUInt32 >>> ((4 : Int32) &&& 31).toUInt32).toInt32)) &&& (252645135 : Int32)))] [(.int (((((p0 - (((p0.toUInt32 >>> ((1 : Int32) &&& 31).toUInt32).toInt32) &&& (1431655765 : Int32))) &&& (858993459 : Int32)) + ((((p0 - (((p0.toUInt32 >>> ((1 : Int32) &&& 31).toUInt32).toInt32) &&& (1431655765 : Int32))).toUInt32 >>> ((2 : Int32) &&& 31).toUInt32).toInt32) &&& (858993459 : Int32))) + (((((p0 - (((p0.toUInt32 >>> ((1 : Int32) &&& 31).toUInt32).toInt32) &&& (1431655765 : Int32))) &&& (858993459 : Int32)) + ((((p0 - (((p0.toUInt32 >>> ((1 : Int32) &&& 31).toUInt32).toInt32) &&& (1431655765 : Int32))).toUInt32 >>> ((2 : Int32) &&& 31).toUInt32).toInt32) &&& (858993459 : Int32))).toUInt32 >>> ((4 : Int32) &&& 31).toUInt32).toInt32)) &&& (252645135 : Int32)))])) _
    refine XS.iloadN X0.here hx rfl (hb hby d12_35) rfl ?_
    show Steps p.tables e below (s₁.setTop (mkF m 36 #[.val (.int (((((p0 - (((p0.toUInt32 >>> ((1 : Int32) &&& 31).toUInt32).toInt32) &&& (1431655765 : Int32))) &&& (858993459 : Int32)) + ((((p0 - (((p0.toUInt32 >>> ((1 : Int32) &&& 31).toUInt32).toInt32) &&& (1431655765 : Int32))).toUInt32 >>> ((2 : Int32) &&& 31).toUInt32).toInt32) &&& (858993459 : Int32))) + (((((p0 - (((p0.toUInt32 >>> ((1 : Int32) &&& 31).toUInt32).toInt32) &&& (1431655765 : Int32))) &&& (858993459 : Int32)) + ((((p0 - (((p0.toUInt32 >>> ((1 : Int32) &&& 31).toUInt32).toInt32) &&& (1431655765 : Int32))).toUInt32 >>> ((2 : Int32) &&& 31).toUInt32).toInt32) &&& (858993459 : Int32))).toUInt32 >>> ((4 : Int32) &&& 31).toUInt32).toInt32)) &&& (252645135 : Int32)))] [(.int (((((p0 - (((p0.toUInt32 >>> ((1 : Int32) &&& 31).toUInt32).toInt32) &&& (1431655765 : Int32))) &&& (858993459 : Int32)) + ((((p0 - (((p0.toUInt32 >>> ((1 : Int32) &&& 31).toUInt32).toInt32) &&& (1431655765 : Int32))).toUInt32 >>> ((2 : Int32) &&& 31).toUInt32).toInt32) &&& (858993459 : Int32))) + (((((p0 - (((p0.toUInt32 >>> ((1 : Int32) &&& 31).toUInt32).toInt32) &&& (1431655765 : Int32))) &&& (858993459 : Int32)) + ((((p0 - (((p0.toUInt32 >>> ((1 : Int32) &&& 31).toUInt32).toInt32) &&& (1431655765 : Int32))).toUInt32 >>> ((2 : Int32) &&& 31).toUInt32).toInt32) &&& (858993459 : Int32))).toUInt32 >>> ((4 : Int32) &&& 31).toUInt32).toInt32)) &&& (252645135 : Int32))), (.int (((((p0 - (((p0.toUInt32 >>> ((1 : Int32) &&& 31).toUInt32).toInt32) &&& (1431655765 : Int32))) &&& (858993459 : Int32)) + ((((p0 - (((p0.toUInt32 >>> ((1 : Int32) &&& 31).toUInt32).toInt32) &&& (1431655765 : Int32))).toUInt32 >>> ((2 : Int32) &&& 31).toUInt32).toInt32) &&& (858993459 : Int32))) + (((((p0 - (((p0.toUInt32 >>> ((1 : Int32) &&& 31).toUInt32).toInt32) &&& (1431655765 : Int32))) &&& (858993459 : Int32)) + ((((p0 - (((p0.toUInt32 >>> ((1 : Int32) &&& 31).toUInt32).toInt32) &&& (1431655765 : Int32))).toUInt32 >>> ((2 : Int32) &&& 31).toUInt32).toInt32) &&& (858993459 : Int32))).toUInt32 >>> ((4 : Int32) &&& 31).toUInt32).toInt32)) &&& (252645135 : Int32)))])) _
    refine XS.bipush X0.here hx rfl (hb hby d12_36) ?_
    show Steps p.tables e below (s₁.setTop (mkF m 38 #[.val (.int (((((p0 - (((p0.toUInt32 >>> ((1 : Int32) &&& 31).toUInt32).toInt32) &&& (1431655765 : Int32))) &&& (858993459 : Int32)) + ((((p0 - (((p0.toUInt32 >>> ((1 : Int32) &&& 31).toUInt32).toInt32) &&& (1431655765 : Int32))).toUInt32 >>> ((2 : Int32) &&& 31).toUInt32).toInt32) &&& (858993459 : Int32))) + (((((p0 - (((p0.toUInt32 >>> ((1 : Int32) &&& 31).toUInt32).toInt32) &&& (1431655765 : Int32))) &&& (858993459 : Int32)) + ((((p0 - (((p0.toUInt32 >>> ((1 : Int32) &&& 31).toUInt32).toInt32) &&& (1431655765 : Int32))).toUInt32 >>> ((2 : Int32) &&& 31).toUInt32).toInt32) &&& (858993459 : Int32))).toUInt32 >>> ((4 : Int32) &&& 31).toUInt32).toInt32)) &&& (252645135 : Int32)))] [(.int (8 : Int32)), (.int (((((p0 - (((p0.toUInt32 >>> ((1 : Int32) &&& 31).toUInt32).toInt32) &&& (1431655765 : Int32))) &&& (858993459 : Int32)) + ((((p0 - (((p0.toUInt32 >>> ((1 : Int32) &&& 31).toUInt32).toInt32) &&& (1431655765 : Int32))).toUInt32 >>> ((2 : Int32) &&& 31).toUInt32).toInt32) &&& (858993459 : Int32))) + (((((p0 - (((p0.toUInt32 >>> ((1 : Int32) &&& 31).toUInt32).toInt32) &&& (1431655765 : Int32))) &&& (858993459 : Int32)) + ((((p0 - (((p0.toUInt32 >>> ((1 : Int32) &&& 31).toUInt32).toInt32) &&& (1431655765 : Int32))).toUInt32 >>> ((2 : Int32) &&& 31).toUInt32).toInt32) &&& (858993459 : Int32))).toUInt32 >>> ((4 : Int32) &&& 31).toUInt32).toInt32)) &&& (252645135 : Int32))), (.int (((((p0 - (((p0.toUInt32 >>> ((1 : Int32) &&& 31).toUInt32).toInt32) &&& (1431655765 : Int32))) &&& (858993459 : Int32)) + ((((p0 - (((p0.toUInt32 >>> ((1 : Int32) &&& 31).toUInt32).toInt32) &&& (1431655765 : Int32))).toUInt32 >>> ((2 : Int32) &&& 31).toUInt32).toInt32) &&& (858993459 : Int32))) + (((((p0 - (((p0.toUInt32 >>> ((1 : Int32) &&& 31).toUInt32).toInt32) &&& (1431655765 : Int32))) &&& (858993459 : Int32)) + ((((p0 - (((p0.toUInt32 >>> ((1 : Int32) &&& 31).toUInt32).toInt32) &&& (1431655765 : Int32))).toUInt32 >>> ((2 : Int32) &&& 31).toUInt32).toInt32) &&& (858993459 : Int32))).toUInt32 >>> ((4 : Int32) &&& 31).toUInt32).toInt32)) &&& (252645135 : Int32)))])) _
    refine XS.iushr X0.here hx rfl (hb hby d12_38) rfl ?_
    show Steps p.tables e below (s₁.setTop (mkF m 39 #[.val (.int (((((p0 - (((p0.toUInt32 >>> ((1 : Int32) &&& 31).toUInt32).toInt32) &&& (1431655765 : Int32))) &&& (858993459 : Int32)) + ((((p0 - (((p0.toUInt32 >>> ((1 : Int32) &&& 31).toUInt32).toInt32) &&& (1431655765 : Int32))).toUInt32 >>> ((2 : Int32) &&& 31).toUInt32).toInt32) &&& (858993459 : Int32))) + (((((p0 - (((p0.toUInt32 >>> ((1 : Int32) &&& 31).toUInt32).toInt32) &&& (1431655765 : Int32))) &&& (858993459 : Int32)) + ((((p0 - (((p0.toUInt32 >>> ((1 : Int32) &&& 31).toUInt32).toInt32) &&& (1431655765 : Int32))).toUInt32 >>> ((2 : Int32) &&& 31).toUInt32).toInt32) &&& (858993459 : Int32))).toUInt32 >>> ((4 : Int32) &&& 31).toUInt32).toInt32)) &&& (252645135 : Int32)))] [(.int (((((((p0 - (((p0.toUInt32 >>> ((1 : Int32) &&& 31).toUInt32).toInt32) &&& (1431655765 : Int32))) &&& (858993459 : Int32)) + ((((p0 - (((p0.toUInt32 >>> ((1 : Int32) &&& 31).toUInt32).toInt32) &&& (1431655765 : Int32))).toUInt32 >>> ((2 : Int32) &&& 31).toUInt32).toInt32) &&& (858993459 : Int32))) + (((((p0 - (((p0.toUInt32 >>> ((1 : Int32) &&& 31).toUInt32).toInt32) &&& (1431655765 : Int32))) &&& (858993459 : Int32)) + ((((p0 - (((p0.toUInt32 >>> ((1 : Int32) &&& 31).toUInt32).toInt32) &&& (1431655765 : Int32))).toUInt32 >>> ((2 : Int32) &&& 31).toUInt32).toInt32) &&& (858993459 : Int32))).toUInt32 >>> ((4 : Int32) &&& 31).toUInt32).toInt32)) &&& (252645135 : Int32)).toUInt32 >>> ((8 : Int32) &&& 31).toUInt32).toInt32)), (.int (((((p0 - (((p0.toUInt32 >>> ((1 : Int32) &&& 31).toUInt32).toInt32) &&& (1431655765 : Int32))) &&& (858993459 : Int32)) + ((((p0 - (((p0.toUInt32 >>> ((1 : Int32) &&& 31).toUInt32).toInt32) &&& (1431655765 : Int32))).toUInt32 >>> ((2 : Int32) &&& 31).toUInt32).toInt32) &&& (858993459 : Int32))) + (((((p0 - (((p0.toUInt32 >>> ((1 : Int32) &&& 31).toUInt32).toInt32) &&& (1431655765 : Int32))) &&& (858993459 : Int32)) + ((((p0 - (((p0.toUInt32 >>> ((1 : Int32) &&& 31).toUInt32).toInt32) &&& (1431655765 : Int32))).toUInt32 >>> ((2 : Int32) &&& 31).toUInt32).toInt32) &&& (858993459 : Int32))).toUInt32 >>> ((4 : Int32) &&& 31).toUInt32).toInt32)) &&& (252645135 : Int32)))])) _
    refine XS.iadd X0.here hx rfl (hb hby d12_39) rfl ?_
    show Steps p.tables e below (s₁.setTop (mkF m 40 #[.val (.int (((((p0 - (((p0.toUInt32 >>> ((1 : Int32) &&& 31).toUInt32).toInt32) &&& (1431655765 : Int32))) &&& (858993459 : Int32)) + ((((p0 - (((p0.toUInt32 >>> ((1 : Int32) &&& 31).toUInt32).toInt32) &&& (1431655765 : Int32))).toUInt32 >>> ((2 : Int32) &&& 31).toUInt32).toInt32) &&& (858993459 : Int32))) + (((((p0 - (((p0.toUInt32 >>> ((1 : Int32) &&& 31).toUInt32).toInt32) &&& (1431655765 : Int32))) &&& (858993459 : Int32)) + ((((p0 - (((p0.toUInt32 >>> ((1 : Int32) &&& 31).toUInt32).toInt32) &&& (1431655765 : Int32))).toUInt32 >>> ((2 : Int32) &&& 31).toUInt32).toInt32) &&& (858993459 : Int32))).toUInt32 >>> ((4 : Int32) &&& 31).toUInt32).toInt32)) &&& (252645135 : Int32)))] [(.int ((((((p0 - (((p0.toUInt32 >>> ((1 : Int32) &&& 31).toUInt32).toInt32) &&& (1431655765 : Int32))) &&& (858993459 : Int32)) + ((((p0 - (((p0.toUInt32 >>> ((1 : Int32) &&& 31).toUInt32).toInt32) &&& (1431655765 : Int32))).toUInt32 >>> ((2 : Int32) &&& 31).toUInt32).toInt32) &&& (858993459 : Int32))) + (((((p0 - (((p0.toUInt32 >>> ((1 : Int32) &&& 31).toUInt32).toInt32) &&& (1431655765 : Int32))) &&& (858993459 : Int32)) + ((((p0 - (((p0.toUInt32 >>> ((1 : Int32) &&& 31).toUInt32).toInt32) &&& (1431655765 : Int32))).toUInt32 >>> ((2 : Int32) &&& 31).toUInt32).toInt32) &&& (858993459 : Int32))).toUInt32 >>> ((4 : Int32) &&& 31).toUInt32).toInt32)) &&& (252645135 : Int32)) + (((((((p0 - (((p0.toUInt32 >>> ((1 : Int32) &&& 31).toUInt32).toInt32) &&& (1431655765 : Int32))) &&& (858993459 : Int32)) + ((((p0 - (((p0.toUInt32 >>> ((1 : Int32) &&& 31).toUInt32).toInt32) &&& (1431655765 : Int32))).toUInt32 >>> ((2 : Int32) &&& 31).toUInt32).toInt32) &&& (858993459 : Int32))) + (((((p0 - (((p0.toUInt32 >>> ((1 : Int32) &&& 31).toUInt32).toInt32) &&& (1431655765 : Int32))) &&& (858993459 : Int32)) + ((((p0 - (((p0.toUInt32 >>> ((1 : Int32) &&& 31).toUInt32).toInt32) &&& (1431655765 : Int32))).toUInt32 >>> ((2 : Int32) &&& 31).toUInt32).toInt32) &&& (858993459 : Int32))).toUInt32 >>> ((4 : Int32) &&& 31).toUInt32).toInt32)) &&& (252645135 : Int32)).toUInt32 >>> ((8 : Int32) &&& 31).toUInt32).toInt32)))])) _
    refine XS.istoreN X0.here hx rfl (hb hby d12_40) rfl (l' := #[.val (.int ((((((p0 - (((p0.toUInt32 >>> ((1 : Int32) &&& 31).toUInt32).toInt32) &&& (1431655765 : Int32))) &&& (858993459 : Int32)) + ((((p0 - (((p0.toUInt32 >>> ((1 : Int32) &&& 31).toUInt32).toInt32) &&& (1431655765 : Int32))).toUInt32 >>> ((2 : Int32) &&& 31).toUInt32).toInt32) &&& (858993459 : Int32))) + (((((p0 - (((p0.toUInt32 >>> ((1 : Int32) &&& 31).toUInt32).toInt32) &&& (1431655765 : Int32))) &&& (858993459 : Int32)) + ((((p0 - (((p0.toUInt32 >>> ((1 : Int32) &&& 31).toUInt32).toInt32) &&& (1431655765 : Int32))).toUInt32 >>> ((2 : Int32) &&& 31).toUInt32).toInt32) &&& (858993459 : Int32))).toUInt32 >>> ((4 : Int32) &&& 31).toUInt32).toInt32)) &&& (252645135 : Int32)) + (((((((p0 - (((p0.toUInt32 >>> ((1 : Int32) &&& 31).toUInt32).toInt32) &&& (1431655765 : Int32))) &&& (858993459 : Int32)) + ((((p0 - (((p0.toUInt32 >>> ((1 : Int32) &&& 31).toUInt32).toInt32) &&& (1431655765 : Int32))).toUInt32 >>> ((2 : Int32) &&& 31).toUInt32).toInt32) &&& (858993459 : Int32))) + (((((p0 - (((p0.toUInt32 >>> ((1 : Int32) &&& 31).toUInt32).toInt32) &&& (1431655765 : Int32))) &&& (858993459 : Int32)) + ((((p0 - (((p0.toUInt32 >>> ((1 : Int32) &&& 31).toUInt32).toInt32) &&& (1431655765 : Int32))).toUInt32 >>> ((2 : Int32) &&& 31).toUInt32).toInt32) &&& (858993459 : Int32))).toUInt32 >>> ((4 : Int32) &&& 31).toUInt32).toInt32)) &&& (252645135 : Int32)).toUInt32 >>> ((8 : Int32) &&& 31).toUInt32).toInt32)))]) rfl ?_
    show Steps p.tables e below (s₁.setTop (mkF m 41 #[.val (.int ((((((p0 - (((p0.toUInt32 >>> ((1 : Int32) &&& 31).toUInt32).toInt32) &&& (1431655765 : Int32))) &&& (858993459 : Int32)) + ((((p0 - (((p0.toUInt32 >>> ((1 : Int32) &&& 31).toUInt32).toInt32) &&& (1431655765 : Int32))).toUInt32 >>> ((2 : Int32) &&& 31).toUInt32).toInt32) &&& (858993459 : Int32))) + (((((p0 - (((p0.toUInt32 >>> ((1 : Int32) &&& 31).toUInt32).toInt32) &&& (1431655765 : Int32))) &&& (858993459 : Int32)) + ((((p0 - (((p0.toUInt32 >>> ((1 : Int32) &&& 31).toUInt32).toInt32) &&& (1431655765 : Int32))).toUInt32 >>> ((2 : Int32) &&& 31).toUInt32).toInt32) &&& (858993459 : Int32))).toUInt32 >>> ((4 : Int32) &&& 31).toUInt32).toInt32)) &&& (252645135 : Int32)) + (((((((p0 - (((p0.toUInt32 >>> ((1 : Int32) &&& 31).toUInt32).toInt32) &&& (1431655765 : Int32))) &&& (858993459 : Int32)) + ((((p0 - (((p0.toUInt32 >>> ((1 : Int32) &&& 31).toUInt32).toInt32) &&& (1431655765 : Int32))).toUInt32 >>> ((2 : Int32) &&& 31).toUInt32).toInt32) &&& (858993459 : Int32))) + (((((p0 - (((p0.toUInt32 >>> ((1 : Int32) &&& 31).toUInt32).toInt32) &&& (1431655765 : Int32))) &&& (858993459 : Int32)) + ((((p0 - (((p0.toUInt32 >>> ((1 : Int32) &&& 31).toUInt32).toInt32) &&& (1431655765 : Int32))).toUInt32 >>> ((2 : Int32) &&& 31).toUInt32).toInt32) &&& (858993459 : Int32))).toUInt32 >>> ((4 : Int32) &&& 31).toUInt32).toInt32)) &&& (252645135 : Int32)).toUInt32 >>> ((8 : Int32) &&& 31).toUInt32).toInt32)))] [])) _
    refine XS.iloadN X0.here hx rfl (hb hby d12_41) rfl ?_
    show Steps p.tables e below (s₁.setTop (mkF m 42 #[.val (.int ((((((p0 - (((p0.toUInt32 >>> ((1 : Int32) &&& 31).toUInt32).toInt32) &&& (1431655765 : Int32))) &&& (858993459 : Int32)) + ((((p0 - (((p0.toUInt32 >>> ((1 : Int32) &&& 31).toUInt32).toInt32) &&& (1431655765 : Int32))).toUInt32 >>> ((2 : Int32) &&& 31).toUInt32).toInt32) &&& (858993459 : Int32))) + (((((p0 - (((p0.toUInt32 >>> ((1 : Int32) &&& 31).toUInt32).toInt32) &&& (1431655765 : Int32))) &&& (858993459 : Int32)) + ((((p0 - (((p0.toUInt32 >>> ((1 : Int32) &&& 31).toUInt32).toInt32) &&& (1431655765 : Int32))).toUInt32 >>> ((2 : Int32) &&& 31).toUInt32).toInt32) &&& (858993459 : Int32))).toUInt32 >>> ((4 : Int32) &&& 31).toUInt32).toInt32)) &&& (252645135 : Int32)) + (((((((p0 - (((p0.toUInt32 >>> ((1 : Int32) &&& 31).toUInt32).toInt32) &&& (1431655765 : Int32))) &&& (858993459 : Int32)) + ((((p0 - (((p0.toUInt32 >>> ((1 : Int32) &&& 31).toUInt32).toInt32) &&& (1431655765 : Int32))).toUInt32 >>> ((2 : Int32) &&& 31).toUInt32).toInt32) &&& (858993459 : Int32))) + (((((p0 - (((p0.toUInt32 >>> ((1 : Int32) &&& 31).toUInt32).toInt32) &&& (1431655765 : Int32))) &&& (858993459 : Int32)) + ((((p0 - (((p0.toUInt32 >>> ((1 : Int32) &&& 31).toUInt32).toInt32) &&& (1431655765 : Int32))).toUInt32 >>> ((2 : Int32) &&& 31).toUInt32).toInt32) &&& (858993459 : Int32))).toUInt32 >>> ((4 : Int32) &&& 31).toUInt32).toInt32)) &&& (252645135 : Int32)).toUInt32 >>> ((8 : Int32) &&& 31).toUInt32).toInt32)))] [(.int ((((((p0 - (((p0.toUInt32 >>> ((1 : Int32) &&& 31).toUInt32).toInt32) &&& (1431655765 : Int32))) &&& (858993459 : Int32)) + ((((p0 - (((p0.toUInt32 >>> ((1 : Int32) &&& 31).toUInt32).toInt32) &&& (1431655765 : Int32))).toUInt32 >>> ((2 : Int32) &&& 31).toUInt32).toInt32) &&& (858993459 : Int32))) + (((((p0 - (((p0.toUInt32 >>> ((1 : Int32) &&& 31).toUInt32).toInt32) &&& (1431655765 : Int32))) &&& (858993459 : Int32)) + ((((p0 - (((p0.toUInt32 >>> ((1 : Int32) &&& 31).toUInt32).toInt32) &&& (1431655765 : Int32))).toUInt32 >>> ((2 : Int32) &&& 31).toUInt32).toInt32) &&& (858993459 : Int32))).toUInt32 >>> ((4 : Int32) &&& 31).toUInt32).toInt32)) &&& (252645135 : Int32)) + (((((((p0 - (((p0.toUInt32 >>> ((1 : Int32) &&& 31).toUInt32).toInt32) &&& (1431655765 : Int32))) &&& (858993459 : Int32)) + ((((p0 - (((p0.toUInt32 >>> ((1 : Int32) &&& 31).toUInt32).toInt32) &&& (1431655765 : Int32))).toUInt32 >>> ((2 : Int32) &&& 31).toUInt32).toInt32) &&& (858993459 : Int32))) + (((((p0 - (((p0.toUInt32 >>> ((1 : Int32) &&& 31).toUInt32).toInt32) &&& (1431655765 : Int32))) &&& (858993459 : Int32)) + ((((p0 - (((p0.toUInt32 >>> ((1 : Int32) &&& 31).toUInt32).toInt32) &&& (1431655765 : Int32))).toUInt32 >>> ((2 : Int32) &&& 31).toUInt32).toInt32) &&& (858993459 : Int32))).toUInt32 >>> ((4 : Int32) &&& 31).toUInt32).toInt32)) &&& (252645135 : Int32)).toUInt32 >>> ((8 : Int32) &&& 31).toUInt32).toInt32)))])) _
    refine XS.iloadN X0.here hx rfl (hb hby d12_42) rfl ?_
    show Steps p.tables e below (s₁.setTop (mkF m 43 #[.val (.int ((((((p0 - (((p0.toUInt32 >>> ((1 : Int32) &&& 31).toUInt32).toInt32) &&& (1431655765 : Int32))) &&& (858993459 : Int32)) + ((((p0 - (((p0.toUInt32 >>> ((1 : Int32) &&& 31).toUInt32).toInt32) &&& (1431655765 : Int32))).toUInt32 >>> ((2 : Int32) &&& 31).toUInt32).toInt32) &&& (858993459 : Int32))) + (((((p0 - (((p0.toUInt32 >>> ((1 : Int32) &&& 31).toUInt32).toInt32) &&& (1431655765 : Int32))) &&& (858993459 : Int32)) + ((((p0 - (((p0.toUInt32 >>> ((1 : Int32) &&& 31).toUInt32).toInt32) &&& (1431655765 : Int32))).toUInt32 >>> ((2 : Int32) &&& 31).toUInt32).toInt32) &&& (858993459 : Int32))).toUInt32 >>> ((4 : Int32) &&& 31).toUInt32).toInt32)) &&& (252645135 : Int32)) + (((((((p0 - (((p0.toUInt32 >>> ((1 : Int32) &&& 31).toUInt32).toInt32) &&& (1431655765 : Int32))) &&& (858993459 : Int32)) + ((((p0 - (((p0.toUInt32 >>> ((1 : Int32) &&& 31).toUInt32).toInt32) &&& (1431655765 : Int32))).toUInt32 >>> ((2 : Int32) &&& 31).toUInt32).toInt32) &&& (858993459 : Int32))) + (((((p0 - (((p0.toUInt32 >>> ((1 : Int32) &&& 31).toUInt32).toInt32) &&& (1431655765 : Int32))) &&& (858993459 : Int32)) + ((((p0 - (((p0.toUInt32 >>> ((1 : Int32) &&& 31).toUInt32).toInt32) &&& (1431655765 : Int32))).toUInt32 >>> ((2 : Int32) &&& 31).toUInt32).toInt32) &&& (858993459 : Int32))).toUInt32 >>> ((4 : Int32) &&& 31).toUInt32).toInt32)) &&& (252645135 : Int32)).toUInt32 >>> ((8 : Int32) &&& 31).toUInt32).toInt32)))] [(.int ((((((p0 - (((p0.toUInt32 >>> ((1 : Int32) &&& 31).toUInt32).toInt32) &&& (1431655765 : Int32))) &&& (858993459 : Int32)) + ((((p0 - (((p0.toUInt32 >>> ((1 : Int32) &&& 31).toUInt32).toInt32) &&& (1431655765 : Int32))).toUInt32 >>> ((2 : Int32) &&& 31).toUInt32).toInt32) &&& (858993459 : Int32))) + (((((p0 - (((p0.toUInt32 >>> ((1 : Int32) &&& 31).toUInt32).toInt32) &&& (1431655765 : Int32))) &&& (858993459 : Int32)) + ((((p0 - (((p0.toUInt32 >>> ((1 : Int32) &&& 31).toUInt32).toInt32) &&& (1431655765 : Int32))).toUInt32 >>> ((2 : Int32) &&& 31).toUInt32).toInt32) &&& (858993459 : Int32))).toUInt32 >>> ((4 : Int32) &&& 31).toUInt32).toInt32)) &&& (252645135 : Int32)) + (((((((p0 - (((p0.toUInt32 >>> ((1 : Int32) &&& 31).toUInt32).toInt32) &&& (1431655765 : Int32))) &&& (858993459 : Int32)) + ((((p0 - (((p0.toUInt32 >>> ((1 : Int32) &&& 31).toUInt32).toInt32) &&& (1431655765 : Int32))).toUInt32 >>> ((2 : Int32) &&& 31).toUInt32).toInt32) &&& (858993459 : Int32))) + (((((p0 - (((p0.toUInt32 >>> ((1 : Int32) &&& 31).toUInt32).toInt32) &&& (1431655765 : Int32))) &&& (858993459 : Int32)) + ((((p0 - (((p0.toUInt32 >>> ((1 : Int32) &&& 31).toUInt32).toInt32) &&& (1431655765 : Int32))).toUInt32 >>> ((2 : Int32) &&& 31).toUInt32).toInt32) &&& (858993459 : Int32))).toUInt32 >>> ((4 : Int32) &&& 31).toUInt32).toInt32)) &&& (252645135 : Int32)).toUInt32 >>> ((8 : Int32) &&& 31).toUInt32).toInt32))), (.int ((((((p0 - (((p0.toUInt32 >>> ((1 : Int32) &&& 31).toUInt32).toInt32) &&& (1431655765 : Int32))) &&& (858993459 : Int32)) + ((((p0 - (((p0.toUInt32 >>> ((1 : Int32) &&& 31).toUInt32).toInt32) &&& (1431655765 : Int32))).toUInt32 >>> ((2 : Int32) &&& 31).toUInt32).toInt32) &&& (858993459 : Int32))) + (((((p0 - (((p0.toUInt32 >>> ((1 : Int32) &&& 31).toUInt32).toInt32) &&& (1431655765 : Int32))) &&& (858993459 : Int32)) + ((((p0 - (((p0.toUInt32 >>> ((1 : Int32) &&& 31).toUInt32).toInt32) &&& (1431655765 : Int32))).toUInt32 >>> ((2 : Int32) &&& 31).toUInt32).toInt32) &&& (858993459 : Int32))).toUInt32 >>> ((4 : Int32) &&& 31).toUInt32).toInt32)) &&& (252645135 : Int32)) + (((((((p0 - (((p0.toUInt32 >>> ((1 : Int32) &&& 31).toUInt32).toInt32) &&& (1431655765 : Int32))) &&& (858993459 : Int32)) + ((((p0 - (((p0.toUInt32 >>> ((1 : Int32) &&& 31).toUInt32).toInt32) &&& (1431655765 : Int32))).toUInt32 >>> ((2 : Int32) &&& 31).toUInt32).toInt32) &&& (858993459 : Int32))) + (((((p0 - (((p0.toUInt32 >>> ((1 : Int32) &&& 31).toUInt32).toInt32) &&& (1431655765 : Int32))) &&& (858993459 : Int32)) + ((((p0 - (((p0.toUInt32 >>> ((1 : Int32) &&& 31).toUInt32).toInt32) &&& (1431655765 : Int32))).toUInt32 >>> ((2 : Int32) &&& 31).toUInt32).toInt32) &&& (858993459 : Int32))).toUInt32 >>> ((4 : Int32) &&& 31).toUInt32).toInt32)) &&& (252645135 : Int32)).toUInt32 >>> ((8 : Int32) &&& 31).toUInt32).toInt32)))])) _
    refine XS.bipush X0.here hx rfl (hb hby d12_43) ?_
    show Steps p.tables e below (s₁.setTop (mkF m 45 #[.val (.int ((((((p0 - (((p0.toUInt32 >>> ((1 : Int32) &&& 31).toUInt32).toInt32) &&& (1431655765 : Int32))) &&& (858993459 : Int32)) + ((((p0 - (((p0.toUInt32 >>> ((1 : Int32) &&& 31).toUInt32).toInt32) &&& (1431655765 : Int32))).toUInt32 >>> ((2 : Int32) &&& 31).toUInt32).toInt32) &&& (858993459 : Int32))) + (((((p0 - (((p0.toUInt32 >>> ((1 : Int32) &&& 31).toUInt32).toInt32) &&& (1431655765 : Int32))) &&& (858993459 : Int32)) + ((((p0 - (((p0.toUInt32 >>> ((1 : Int32) &&& 31).toUInt32).toInt32) &&& (1431655765 : Int32))).toUInt32 >>> ((2 : Int32) &&& 31).toUInt32).toInt32) &&& (858993459 : Int32))).toUInt32 >>> ((4 : Int32) &&& 31).toUInt32).toInt32)) &&& (252645135 : Int32)) + (((((((p0 - (((p0.toUInt32 >>> ((1 : Int32) &&& 31).toUInt32).toInt32) &&& (1431655765 : Int32))) &&& (858993459 : Int32)) + ((((p0 - (((p0.toUInt32 >>> ((1 : Int32) &&& 31).toUInt32).toInt32) &&& (1431655765 : Int32))).toUInt32 >>> ((2 : Int32) &&& 31).toUInt32).toInt32) &&& (858993459 : Int32))) + (((((p0 - (((p0.toUInt32 >>> ((1 : Int32) &&& 31).toUInt32).toInt32) &&& (1431655765 : Int32))) &&& (858993459 : Int32)) + ((((p0 - (((p0.toUInt32 >>> ((1 : Int32) &&& 31).toUInt32).toInt32) &&& (1431655765 : Int32))).toUInt32 >>> ((2 : Int32) &&& 31).toUInt32).toInt32) &&& (858993459 : Int32))).toUInt32 >>> ((4 : Int32) &&& 31).toUInt32).toInt32)) &&& (252645135 : Int32)).toUInt32 >>> ((8 : Int32) &&& 31).toUInt32).toInt32)))] [(.int (16 : Int32)), (.int ((((((p0 - (((p0.toUInt32 >>> ((1 : Int32) &&& 31).toUInt32).toInt32) &&& (1431655765 : Int32))) &&& (858993459 : Int32)) + ((((p0 - (((p0.toUInt32 >>> ((1 : Int32) &&& 31).toUInt32).toInt32) &&& (1431655765 : Int32))).toUInt32 >>> ((2 : Int32) &&& 31).toUInt32).toInt32) &&& (858993459 : Int32))) + (((((p0 - (((p0.toUInt32 >>> ((1 : Int32) &&& 31).toUInt32).toInt32) &&& (1431655765 : Int32))) &&& (858993459 : Int32)) + ((((p0 - (((p0.toUInt32 >>> ((1 : Int32) &&& 31).toUInt32).toInt32) &&& (1431655765 : Int32))).toUInt32 >>> ((2 : Int32) &&& 31).toUInt32).toInt32) &&& (858993459 : Int32))).toUInt32 >>> ((4 : Int32) &&& 31).toUInt32).toInt32)) &&& (252645135 : Int32)) + (((((((p0 - (((p0.toUInt32 >>> ((1 : Int32) &&& 31).toUInt32).toInt32) &&& (1431655765 : Int32))) &&& (858993459 : Int32)) + ((((p0 - (((p0.toUInt32 >>> ((1 : Int32) &&& 31).toUInt32).toInt32) &&& (1431655765 : Int32))).toUInt32 >>> ((2 : Int32) &&& 31).toUInt32).toInt32) &&& (858993459 : Int32))) + (((((p0 - (((p0.toUInt32 >>> ((1 : Int32) &&& 31).toUInt32).toInt32) &&& (1431655765 : Int32))) &&& (858993459 : Int32)) + ((((p0 - (((p0.toUInt32 >>> ((1 : Int32) &&& 31).toUInt32).toInt32) &&& (1431655765 : Int32))).toUInt32 >>> ((2 : Int32) &&& 31).toUInt32).toInt32) &&& (858993459 : Int32))).toUInt32 >>> ((4 : Int32) &&& 31).toUInt32).toInt32)) &&& (252645135 : Int32)).toUInt32 >>> ((8 : Int32) &&& 31).toUInt32).toInt32))), (.int ((((((p0 - (((p0.toUInt32 >>> ((1 : Int32) &&& 31).toUInt32).toInt32) &&& (1431655765 : Int32))) &&& (858993459 : Int32)) + ((((p0 - (((p0.toUInt32 >>> ((1 : Int32) &&& 31).toUInt32).toInt32) &&& (1431655765 : Int32))).toUInt32 >>> ((2 : Int32) &&& 31).toUInt32).toInt32) &&& (858993459 : Int32))) + (((((p0 - (((p0.toUInt32 >>> ((1 : Int32) &&& 31).toUInt32).toInt32) &&& (1431655765 : Int32))) &&& (858993459 : Int32)) + ((((p0 - (((p0.toUInt32 >>> ((1 : Int32) &&& 31).toUInt32).toInt32) &&& (1431655765 : Int32))).toUInt32 >>> ((2 : Int32) &&& 31).toUInt32).toInt32) &&& (858993459 : Int32))).toUInt32 >>> ((4 : Int32) &&& 31).toUInt32).toInt32)) &&& (252645135 : Int32)) + (((((((p0 - (((p0.toUInt32 >>> ((1 : Int32) &&& 31).toUInt32).toInt32) &&& (1431655765 : Int32))) &&& (858993459 : Int32)) + ((((p0 - (((p0.toUInt32 >>> ((1 : Int32) &&& 31).toUInt32).toInt32) &&& (1431655765 : Int32))).toUInt32 >>> ((2 : Int32) &&& 31).toUInt32).toInt32) &&& (858993459 : Int32))) + (((((p0 - (((p0.toUInt32 >>> ((1 : Int32) &&& 31).toUInt32).toInt32) &&& (1431655765 : Int32))) &&& (858993459 : Int32)) + ((((p0 - (((p0.toUInt32 >>> ((1 : Int32) &&& 31).toUInt32).toInt32) &&& (1431655765 : Int32))).toUInt32 >>> ((2 : Int32) &&& 31).toUInt32).toInt32) &&& (858993459 : Int32))).toUInt32 >>> ((4 : Int32) &&& 31).toUInt32).toInt32)) &&& (252645135 : Int32)).toUInt32 >>> ((8 : Int32) &&& 31).toUInt32).toInt32)))])) _
    refine XS.iushr X0.here hx rfl (hb hby d12_45) rfl ?_
    show Steps p.tables e below (s₁.setTop (mkF m 46 #[.val (.int ((((((p0 - (((p0.toUInt32 >>> ((1 : Int32) &&& 31).toUInt32).toInt32) &&& (1431655765 : Int32))) &&& (858993459 : Int32)) + ((((p0 - (((p0.toUInt32 >>> ((1 : Int32) &&& 31).toUInt32).toInt32) &&& (1431655765 : Int32))).toUInt32 >>> ((2 : Int32) &&& 31).toUInt32).toInt32) &&& (858993459 : Int32))) + (((((p0 - (((p0.toUInt32 >>> ((1 : Int32) &&& 31).toUInt32).toInt32) &&& (1431655765 : Int32))) &&& (858993459 : Int32)) + ((((p0 - (((p0.toUInt32 >>> ((1 : Int32) &&& 31).toUInt32).toInt32) &&& (1431655765 : Int32))).toUInt32 >>> ((2 : Int32) &&& 31).toUInt32).toInt32) &&& (858993459 : Int32))).toUInt32 >>> ((4 : Int32) &&& 31).toUInt32).toInt32)) &&& (252645135 : Int32)) + (((((((p0 - (((p0.toUInt32 >>> ((1 : Int32) &&& 31).toUInt32).toInt32) &&& (1431655765 : Int32))) &&& (858993459 : Int32)) + ((((p0 - (((p0.toUInt32 >>> ((1 : Int32) &&& 31).toUInt32).toInt32) &&& (1431655765 : Int32))).toUInt32 >>> ((2 : Int32) &&& 31).toUInt32).toInt32) &&& (858993459 : Int32))) + (((((p0 - (((p0.toUInt32 >>> ((1 : Int32) &&& 31).toUInt32).toInt32) &&& (1431655765 : Int32))) &&& (858993459 : Int32)) + ((((p0 - (((p0.toUInt32 >>> ((1 : Int32) &&& 31).toUInt32).toInt32) &&& (1431655765 : Int32))).toUInt32 >>> ((2 : Int32) &&& 31).toUInt32).toInt32) &&& (858993459 : Int32))).toUInt32 >>> ((4 : Int32) &&& 31).toUInt32).toInt32)) &&& (252645135 : Int32)).toUInt32 >>> ((8 : Int32) &&& 31).toUInt32).toInt32)))] [(.int ((((((((p0 - (((p0.toUInt32 >>> ((1 : Int32) &&& 31).toUInt32).toInt32) &&& (1431655765 : Int32))) &&& (858993459 : Int32)) + ((((p0 - (((p0.toUInt32 >>> ((1 : Int32) &&& 31).toUInt32).toInt32) &&& (1431655765 : Int32))).toUInt32 >>> ((2 : Int32) &&& 31).toUInt32).toInt32) &&& (858993459 : Int32))) + (((((p0 - (((p0.toUInt32 >>> ((1 : Int32) &&& 31).toUInt32).toInt32) &&& (1431655765 : Int32))) &&& (858993459 : Int32)) + ((((p0 - (((p0.toUInt32 >>> ((1 : Int32) &&& 31).toUInt32).toInt32) &&& (1431655765 : Int32))).toUInt32 >>> ((2 : Int32) &&& 31).toUInt32).toInt32) &&& (858993459 : Int32))).toUInt32 >>> ((4 : Int32) &&& 31).toUInt32).toInt32)) &&& (252645135 : Int32)) + (((((((p0 - (((p0.toUInt32 >>> ((1 : Int32) &&& 31).toUInt32).toInt32) &&& (1431655765 : Int32))) &&& (858993459 : Int32)) + ((((p0 - (((p0.toUInt32 >>> ((1 : Int32) &&& 31).toUInt32).toInt32) &&& (1431655765 : Int32))).toUInt32 >>> ((2 : Int32) &&& 31).toUInt32).toInt32) &&& (858993459 : Int32))) + (((((p0 - (((p0.toUInt32 >>> ((1 : Int32) &&& 31).toUInt32).toInt32) &&& (1431655765 : Int32))) &&& (858993459 : Int32)) + ((((p0 - (((p0.toUInt32 >>> ((1 : Int32) &&& 31).toUInt32).toInt32) &&& (1431655765 : Int32))).toUInt32 >>> ((2 : Int32) &&& 31).toUInt32).toInt32) &&& (858993459 : Int32))).toUInt32 >>> ((4 : Int32) &&& 31).toUInt32).toInt32)) &&& (252645135 : Int32)).toUInt32 >>> ((8 : Int32) &&& 31).toUInt32).toInt32)).toUInt32 >>> ((16 : Int32) &&& 31).toUInt32).toInt32)), (.int ((((((p0 - (((p0.toUInt32 >>> ((1 : Int32) &&& 31).toUInt32).toInt32) &&& (1431655765 : Int32))) &&& (858993459 : Int32)) + ((((p0 - (((p0.toUInt32 >>> ((1 : Int32) &&& 31).toUInt32).toInt32) &&& (1431655765 : Int32))).toUInt32 >>> ((2 : Int32) &&& 31).toUInt32).toInt32) &&& (858993459 : Int32))) + (((((p0 - (((p0.toUInt32 >>> ((1 : Int32) &&& 31).toUInt32).toInt32) &&& (1431655765 : Int32))) &&& (858993459 : Int32)) + ((((p0 - (((p0.toUInt32 >>> ((1 : Int32) &&& 31).toUInt32).toInt32) &&& (1431655765 : Int32))).toUInt32 >>> ((2 : Int32) &&& 31).toUInt32).toInt32) &&& (858993459 : Int32))).toUInt32 >>> ((4 : Int32) &&& 31).toUInt32).toInt32)) &&& (252645135 : Int32)) + (((((((p0 - (((p0.toUInt32 >>> ((1 : Int32) &&& 31).toUInt32).toInt32) &&& (1431655765 : Int32))) &&& (858993459 : Int32)) + ((((p0 - (((p0.toUInt32 >>> ((1 : Int32) &&& 31).toUInt32).toInt32) &&& (1431655765 : Int32))).toUInt32 >>> ((2 : Int32) &&& 31).toUInt32).toInt32) &&& (858993459 : Int32))) + (((((p0 - (((p0.toUInt32 >>> ((1 : Int32) &&& 31).toUInt32).toInt32) &&& (1431655765 : Int32))) &&& (858993459 : Int32)) + ((((p0 - (((p0.toUInt32 >>> ((1 : Int32) &&& 31).toUInt32).toInt32) &&& (1431655765 : Int32))).toUInt32 >>> ((2 : Int32) &&& 31).toUInt32).toInt32) &&& (858993459 : Int32))).toUInt32 >>> ((4 : Int32) &&& 31).toUInt32).toInt32)) &&& (252645135 : Int32)).toUInt32 >>> ((8 : Int32) &&& 31).toUInt32).toInt32)))])) _
    refine XS.iadd X0.here hx rfl (hb hby d12_46) rfl ?_
    show Steps p.tables e below (s₁.setTop (mkF m 47 #[.val (.int ((((((p0 - (((p0.toUInt32 >>> ((1 : Int32) &&& 31).toUInt32).toInt32) &&& (1431655765 : Int32))) &&& (858993459 : Int32)) + ((((p0 - (((p0.toUInt32 >>> ((1 : Int32) &&& 31).toUInt32).toInt32) &&& (1431655765 : Int32))).toUInt32 >>> ((2 : Int32) &&& 31).toUInt32).toInt32) &&& (858993459 : Int32))) + (((((p0 - (((p0.toUInt32 >>> ((1 : Int32) &&& 31).toUInt32).toInt32) &&& (1431655765 : Int32))) &&& (858993459 : Int32)) + ((((p0 - (((p0.toUInt32 >>> ((1 : Int32) &&& 31).toUInt32).toInt32) &&& (1431655765 : Int32))).toUInt32 >>> ((2 : Int32) &&& 31).toUInt32).toInt32) &&& (858993459 : Int32))).toUInt32 >>> ((4 : Int32) &&& 31).toUInt32).toInt32)) &&& (252645135 : Int32)) + (((((((p0 - (((p0.toUInt32 >>> ((1 : Int32) &&& 31).toUInt32).toInt32) &&& (1431655765 : Int32))) &&& (858993459 : Int32)) + ((((p0 - (((p0.toUInt32 >>> ((1 : Int32) &&& 31).toUInt32).toInt32) &&& (1431655765 : Int32))).toUInt32 >>> ((2 : Int32) &&& 31).toUInt32).toInt32) &&& (858993459 : Int32))) + (((((p0 - (((p0.toUInt32 >>> ((1 : Int32) &&& 31).toUInt32).toInt32) &&& (1431655765 : Int32))) &&& (858993459 : Int32)) + ((((p0 - (((p0.toUInt32 >>> ((1 : Int32) &&& 31).toUInt32).toInt32) &&& (1431655765 : Int32))).toUInt32 >>> ((2 : Int32) &&& 31).toUInt32).toInt32) &&& (858993459 : Int32))).toUInt32 >>> ((4 : Int32) &&& 31).toUInt32).toInt32)) &&& (252645135 : Int32)).toUInt32 >>> ((8 : Int32) &&& 31).toUInt32).toInt32)))] [(.int (((((((p0 - (((p0.toUInt32 >>> ((1 : Int32) &&& 31).toUInt32).toInt32) &&& (1431655765 : Int32))) &&& (858993459 : Int32)) + ((((p0 - (((p0.toUInt32 >>> ((1 : Int32) &&& 31).toUInt32).toInt32) &&& (1431655765 : Int32))).toUInt32 >>> ((2 : Int32) &&& 31).toUInt32).toInt32) &&& (858993459 : Int32))) + (((((p0 - (((p0.toUInt32 >>> ((1 : Int32) &&& 31).toUInt32).toInt32) &&& (1431655765 : Int32))) &&& (858993459 : Int32)) + ((((p0 - (((p0.toUInt32 >>> ((1 : Int32) &&& 31).toUInt32).toInt32) &&& (1431655765 : Int32))).toUInt32 >>> ((2 : Int32) &&& 31).toUInt32).toInt32) &&& (858993459 : Int32))).toUInt32 >>> ((4 : Int32) &&& 31).toUInt32).toInt32)) &&& (252645135 : Int32)) + (((((((p0 - (((p0.toUInt32 >>> ((1 : Int32) &&& 31).toUInt32).toInt32) &&& (1431655765 : Int32))) &&& (858993459 : Int32)) + ((((p0 - (((p0.toUInt32 >>> ((1 : Int32) &&& 31).toUInt32).toInt32) &&& (1431655765 : Int32))).toUInt32 >>> ((2 : Int32) &&& 31).toUInt32).toInt32) &&& (858993459 : Int32))) + (((((p0 - (((p0.toUInt32 >>> ((1 : Int32) &&& 31).toUInt32).toInt32) &&& (1431655765 : Int32))) &&& (858993459 : Int32)) + ((((p0 - (((p0.toUInt32 >>> ((1 : Int32) &&& 31).toUInt32).toInt32) &&& (1431655765 : Int32))).toUInt32 >>> ((2 : Int32) &&& 31).toUInt32).toInt32) &&& (858993459 : Int32))).toUInt32 >>> ((4 : Int32) &&& 31).toUInt32).toInt32)) &&& (252645135 : Int32)).toUInt32 >>> ((8 : Int32) &&& 31).toUInt32).toInt32)) + ((((((((p0 - (((p0.toUInt32 >>> ((1 : Int32) &&& 31).toUInt32).toInt32) &&& (1431655765 : Int32))) &&& (858993459 : Int32)) + ((((p0 - (((p0.toUInt32 >>> ((1 : Int32) &&& 31).toUInt32).toInt32) &&& (1431655765 : Int32))).toUInt32 >>> ((2 : Int32) &&& 31).toUInt32).toInt32) &&& (858993459 : Int32))) + (((((p0 - (((p0.toUInt32 >>> ((1 : Int32) &&& 31).toUInt32).toInt32) &&& (1431655765 : Int32))) &&& (858993459 : Int32)) + ((((p0 - (((p0.toUInt32 >>> ((1 : Int32) &&& 31).toUInt32).toInt32) &&& (1431655765 : Int32))).toUInt32 >>> ((2 : Int32) &&& 31).toUInt32).toInt32) &&& (858993459 : Int32))).toUInt32 >>> ((4 : Int32) &&& 31).toUInt32).toInt32)) &&& (252645135 : Int32)) + (((((((p0 - (((p0.toUInt32 >>> ((1 : Int32) &&& 31).toUInt32).toInt32) &&& (1431655765 : Int32))) &&& (858993459 : Int32)) + ((((p0 - (((p0.toUInt32 >>> ((1 : Int32) &&& 31).toUInt32).toInt32) &&& (1431655765 : Int32))).toUInt32 >>> ((2 : Int32) &&& 31).toUInt32).toInt32) &&& (858993459 : Int32))) + (((((p0 - (((p0.toUInt32 >>> ((1 : Int32) &&& 31).toUInt32).toInt32) &&& (1431655765 : Int32))) &&& (858993459 : Int32)) + ((((p0 - (((p0.toUInt32 >>> ((1 : Int32) &&& 31).toUInt32).toInt32) &&& (1431655765 : Int32))).toUInt32 >>> ((2 : Int32) &&& 31).toUInt32).toInt32) &&& (858993459 : Int32))).toUInt32 >>> ((4 : Int32) &&& 31).toUInt32).toInt32)) &&& (252645135 : Int32)).toUInt32 >>> ((8 : Int32) &&& 31).toUInt32).toInt32)).toUInt32 >>> ((16 : Int32) &&& 31).toUInt32).toInt32)))])) _
    refine XS.istoreN X0.here hx rfl (hb hby d12_47) rfl (l' := #[.val (.int (((((((p0 - (((p0.toUInt32 >>> ((1 : Int32) &&& 31).toUInt32).toInt32) &&& (1431655765 : Int32))) &&& (858993459 : Int32)) + ((((p0 - (((p0.toUInt32 >>> ((1 : Int32) &&& 31).toUInt32).toInt32) &&& (1431655765 : Int32))).toUInt32 >>> ((2 : Int32) &&& 31).toUInt32).toInt32) &&& (858993459 : Int32))) + (((((p0 - (((p0.toUInt32 >>> ((1 : Int32) &&& 31).toUInt32).toInt32) &&& (1431655765 : Int32))) &&& (858993459 : Int32)) + ((((p0 - (((p0.toUInt32 >>> ((1 : Int32) &&& 31).toUInt32).toInt32) &&& (1431655765 : Int32))).toUInt32 >>> ((2 : Int32) &&& 31).toUInt32).toInt32) &&& (858993459 : Int32))).toUInt32 >>> ((4 : Int32) &&& 31).toUInt32).toInt32)) &&& (252645135 : Int32)) + (((((((p0 - (((p0.toUInt32 >>> ((1 : Int32) &&& 31).toUInt32).toInt32) &&& (1431655765 : Int32))) &&& (858993459 : Int32)) + ((((p0 - (((p0.toUInt32 >>> ((1 : Int32) &&& 31).toUInt32).toInt32) &&& (1431655765 : Int32))).toUInt32 >>> ((2 : Int32) &&& 31).toUInt32).toInt32) &&& (858993459 : Int32))) + (((((p0 - (((p0.toUInt32 >>> ((1 : Int32) &&& 31).toUInt32).toInt32) &&& (1431655765 : Int32))) &&& (858993459 : Int32)) + ((((p0 - (((p0.toUInt32 >>> ((1 : Int32) &&& 31).toUInt32).toInt32) &&& (1431655765 : Int32))).toUInt32 >>> ((2 : Int32) &&& 31).toUInt32).toInt32) &&& (858993459 : Int32))).toUInt32 >>> ((4 : Int32) &&& 31).toUInt32).toInt32)) &&& (252645135 : Int32)).toUInt32 >>> ((8 : Int32) &&& 31).toUInt32).toInt32)) + ((((((((p0 - (((p0.toUInt32 >>> ((1 : Int32) &&& 31).toUInt32).toInt32) &&& (1431655765 : Int32))) &&& (858993459 : Int32)) + ((((p0 - (((p0.toUInt32 >>> ((1 : Int32) &&& 31).toUInt32).toInt32) &&& (1431655765 : Int32))).toUInt32 >>> ((2 : Int32) &&& 31).toUInt32).toInt32) &&& (858993459 : Int32))) + (((((p0 - (((p0.toUInt32 >>> ((1 : Int32) &&& 31).toUInt32).toInt32) &&& (1431655765 : Int32))) &&& (858993459 : Int32)) + ((((p0 - (((p0.toUInt32 >>> ((1 : Int32) &&& 31).toUInt32).toInt32) &&& (1431655765 : Int32))).toUInt32 >>> ((2 : Int32) &&& 31).toUInt32).toInt32) &&& (858993459 : Int32))).toUInt32 >>> ((4 : Int32) &&& 31).toUInt32).toInt32)) &&& (252645135 : Int32)) + (((((((p0 - (((p0.toUInt32 >>> ((1 : Int32) &&& 31).toUInt32).toInt32) &&& (1431655765 : Int32))) &&& (858993459 : Int32)) + ((((p0 - (((p0.toUInt32 >>> ((1 : Int32) &&& 31).toUInt32).toInt32) &&& (1431655765 : Int32))).toUInt32 >>> ((2 : Int32) &&& 31).toUInt32).toInt32) &&& (858993459 : Int32))) + (((((p0 - (((p0.toUInt32 >>> ((1 : Int32) &&& 31).toUInt32).toInt32) &&& (1431655765 : Int32))) &&& (858993459 : Int32)) + ((((p0 - (((p0.toUInt32 >>> ((1 : Int32) &&& 31).toUInt32).toInt32) &&& (1431655765 : Int32))).toUInt32 >>> ((2 : Int32) &&& 31).toUInt32).toInt32) &&& (858993459 : Int32))).toUInt32 >>> ((4 : Int32) &&& 31).toUInt32).toInt32)) &&& (252645135 : Int32)).toUInt32 >>> ((8 : Int32) &&& 31).toUInt32).toInt32)).toUInt32 >>> ((16 : Int32) &&& 31).toUInt32).toInt32)))]) rfl ?_
    show Steps p.tables e below (s₁.setTop (mkF m 48 #[.val (.int (((((((p0 - (((p0.toUInt32 >>> ((1 : Int32) &&& 31).toUInt32).toInt32) &&& (1431655765 : Int32))) &&& (858993459 : Int32)) + ((((p0 - (((p0.toUInt32 >>> ((1 : Int32) &&& 31).toUInt32).toInt32) &&& (1431655765 : Int32))).toUInt32 >>> ((2 : Int32) &&& 31).toUInt32).toInt32) &&& (858993459 : Int32))) + (((((p0 - (((p0.toUInt32 >>> ((1 : Int32) &&& 31).toUInt32).toInt32) &&& (1431655765 : Int32))) &&& (858993459 : Int32)) + ((((p0 - (((p0.toUInt32 >>> ((1 : Int32) &&& 31).toUInt32).toInt32) &&& (1431655765 : Int32))).toUInt32 >>> ((2 : Int32) &&& 31).toUInt32).toInt32) &&& (858993459 : Int32))).toUInt32 >>> ((4 : Int32) &&& 31).toUInt32).toInt32)) &&& (252645135 : Int32)) + (((((((p0 - (((p0.toUInt32 >>> ((1 : Int32) &&& 31).toUInt32).toInt32) &&& (1431655765 : Int32))) &&& (858993459 : Int32)) + ((((p0 - (((p0.toUInt32 >>> ((1 : Int32) &&& 31).toUInt32).toInt32) &&& (1431655765 : Int32))).toUInt32 >>> ((2 : Int32) &&& 31).toUInt32).toInt32) &&& (858993459 : Int32))) + (((((p0 - (((p0.toUInt32 >>> ((1 : Int32) &&& 31).toUInt32).toInt32) &&& (1431655765 : Int32))) &&& (858993459 : Int32)) + ((((p0 - (((p0.toUInt32 >>> ((1 : Int32) &&& 31).toUInt32).toInt32) &&& (1431655765 : Int32))).toUInt32 >>> ((2 : Int32) &&& 31).toUInt32).toInt32) &&& (858993459 : Int32))).toUInt32 >>> ((4 : Int32) &&& 31).toUInt32).toInt32)) &&& (252645135 : Int32)).toUInt32 >>> ((8 : Int32) &&& 31).toUInt32).toInt32)) + ((((((((p0 - (((p0.toUInt32 >>> ((1 : Int32) &&& 31).toUInt32).toInt32) &&& (1431655765 : Int32))) &&& (858993459 : Int32)) + ((((p0 - (((p0.toUInt32 >>> ((1 : Int32) &&& 31).toUInt32).toInt32) &&& (1431655765 : Int32))).toUInt32 >>> ((2 : Int32) &&& 31).toUInt32).toInt32) &&& (858993459 : Int32))) + (((((p0 - (((p0.toUInt32 >>> ((1 : Int32) &&& 31).toUInt32).toInt32) &&& (1431655765 : Int32))) &&& (858993459 : Int32)) + ((((p0 - (((p0.toUInt32 >>> ((1 : Int32) &&& 31).toUInt32).toInt32) &&& (1431655765 : Int32))).toUInt32 >>> ((2 : Int32) &&& 31).toUInt32).toInt32) &&& (858993459 : Int32))).toUInt32 >>> ((4 : Int32) &&& 31).toUInt32).toInt32)) &&& (252645135 : Int32)) + (((((((p0 - (((p0.toUInt32 >>> ((1 : Int32) &&& 31).toUInt32).toInt32) &&& (1431655765 : Int32))) &&& (858993459 : Int32)) + ((((p0 - (((p0.toUInt32 >>> ((1 : Int32) &&& 31).toUInt32).toInt32) &&& (1431655765 : Int32))).toUInt32 >>> ((2 : Int32) &&& 31).toUInt32).toInt32) &&& (858993459 : Int32))) + (((((p0 - (((p0.toUInt32 >>> ((1 : Int32) &&& 31).toUInt32).toInt32) &&& (1431655765 : Int32))) &&& (858993459 : Int32)) + ((((p0 - (((p0.toUInt32 >>> ((1 : Int32) &&& 31).toUInt32).toInt32) &&& (1431655765 : Int32))).toUInt32 >>> ((2 : Int32) &&& 31).toUInt32).toInt32) &&& (858993459 : Int32))).toUInt32 >>> ((4 : Int32) &&& 31).toUInt32).toInt32)) &&& (252645135 : Int32)).toUInt32 >>> ((8 : Int32) &&& 31).toUInt32).toInt32)).toUInt32 >>> ((16 : Int32) &&& 31).toUInt32).toInt32)))] [])) _
    refine XS.iloadN X0.here hx rfl (hb hby d12_48) rfl ?_
    show Steps p.tables e below (s₁.setTop (mkF m 49 #[.val (.int (((((((p0 - (((p0.toUInt32 >>> ((1 : Int32) &&& 31).toUInt32).toInt32) &&& (1431655765 : Int32))) &&& (858993459 : Int32)) + ((((p0 - (((p0.toUInt32 >>> ((1 : Int32) &&& 31).toUInt32).toInt32) &&& (1431655765 : Int32))).toUInt32 >>> ((2 : Int32) &&& 31).toUInt32).toInt32) &&& (858993459 : Int32))) + (((((p0 - (((p0.toUInt32 >>> ((1 : Int32) &&& 31).toUInt32).toInt32) &&& (1431655765 : Int32))) &&& (858993459 : Int32)) + ((((p0 - (((p0.toUInt32 >>> ((1 : Int32) &&& 31).toUInt32).toInt32) &&& (1431655765 : Int32))).toUInt32 >>> ((2 : Int32) &&& 31).toUInt32).toInt32) &&& (858993459 : Int32))).toUInt32 >>> ((4 : Int32) &&& 31).toUInt32).toInt32)) &&& (252645135 : Int32)) + (((((((p0 - (((p0.toUInt32 >>> ((1 : Int32) &&& 31).toUInt32).toInt32) &&& (1431655765 : Int32))) &&& (858993459 : Int32)) + ((((p0 - (((p0.toUInt32 >>> ((1 : Int32) &&& 31).toUInt32).toInt32) &&& (1431655765 : Int32))).toUInt32 >>> ((2 : Int32) &&& 31).toUInt32).toInt32) &&& (858993459 : Int32))) + (((((p0 - (((p0.toUInt32 >>> ((1 : Int32) &&& 31).toUInt32).toInt32) &&& (1431655765 : Int32))) &&& (858993459 : Int32)) + ((((p0 - (((p0.toUInt32 >>> ((1 : Int32) &&& 31).toUInt32).toInt32) &&& (1431655765 : Int32))).toUInt32 >>> ((2 : Int32) &&& 31).toUInt32).toInt32) &&& (858993459 : Int32))).toUInt32 >>> ((4 : Int32) &&& 31).toUInt32).toInt32)) &&& (252645135 : Int32)).toUInt32 >>> ((8 : Int32) &&& 31).toUInt32).toInt32)) + ((((((((p0 - (((p0.toUInt32 >>> ((1 : Int32) &&& 31).toUInt32).toInt32) &&& (1431655765 : Int32))) &&& (858993459 : Int32)) + ((((p0 - (((p0.toUInt32 >>> ((1 : Int32) &&& 31).toUInt32).toInt32) &&& (1431655765 : Int32))).toUInt32 >>> ((2 : Int32) &&& 31).toUInt32).toInt32) &&& (858993459 : Int32))) + (((((p0 - (((p0.toUInt32 >>> ((1 : Int32) &&& 31).toUInt32).toInt32) &&& (1431655765 : Int32))) &&& (858993459 : Int32)) + ((((p0 - (((p0.toUInt32 >>> ((1 : Int32) &&& 31).toUInt32).toInt32) &&& (1431655765 : Int32))).toUInt32 >>> ((2 : Int32) &&& 31).toUInt32).toInt32) &&& (858993459 : Int32))).toUInt32 >>> ((4 : Int32) &&& 31).toUInt32).toInt32)) &&& (252645135 : Int32)) + (((((((p0 - (((p0.toUInt32 >>> ((1 : Int32) &&& 31).toUInt32).toInt32) &&& (1431655765 : Int32))) &&& (858993459 : Int32)) + ((((p0 - (((p0.toUInt32 >>> ((1 : Int32) &&& 31).toUInt32).toInt32) &&& (1431655765 : Int32))).toUInt32 >>> ((2 : Int32) &&& 31).toUInt32).toInt32) &&& (858993459 : Int32))) + (((((p0 - (((p0.toUInt32 >>> ((1 : Int32) &&& 31).toUInt32).toInt32) &&& (1431655765 : Int32))) &&& (858993459 : Int32)) + ((((p0 - (((p0.toUInt32 >>> ((1 : Int32) &&& 31).toUInt32).toInt32) &&& (1431655765 : Int32))).toUInt32 >>> ((2 : Int32) &&& 31).toUInt32).toInt32) &&& (858993459 : Int32))).toUInt32 >>> ((4 : Int32) &&& 31).toUInt32).toInt32)) &&& (252645135 : Int32)).toUInt32 >>> ((8 : Int32) &&& 31).toUInt32).toInt32)).toUInt32 >>> ((16 : Int32) &&& 31).toUInt32).toInt32)))] [(.int (((((((p0 - (((p0.toUInt32 >>> ((1 : Int32) &&& 31).toUInt32).toInt32) &&& (1431655765 : Int32))) &&& (858993459 : Int32)) + ((((p0 - (((p0.toUInt32 >>> ((1 : Int32) &&& 31).toUInt32).toInt32) &&& (1431655765 : Int32))).toUInt32 >>> ((2 : Int32) &&& 31).toUInt32).toInt32) &&& (858993459 : Int32))) + (((((p0 - (((p0.toUInt32 >>> ((1 : Int32) &&& 31).toUInt32).toInt32) &&& (1431655765 : Int32))) &&& (858993459 : Int32)) + ((((p0 - (((p0.toUInt32 >>> ((1 : Int32) &&& 31).toUInt32).toInt32) &&& (1431655765 : Int32))).toUInt32 >>> ((2 : Int32) &&& 31).toUInt32).toInt32) &&& (858993459 : Int32))).toUInt32 >>> ((4 : Int32) &&& 31).toUInt32).toInt32)) &&& (252645135 : Int32)) + (((((((p0 - (((p0.toUInt32 >>> ((1 : Int32) &&& 31).toUInt32).toInt32) &&& (1431655765 : Int32))) &&& (858993459 : Int32)) + ((((p0 - (((p0.toUInt32 >>> ((1 : Int32) &&& 31).toUInt32).toInt32) &&& (1431655765 : Int32))).toUInt32 >>> ((2 : Int32) &&& 31).toUInt32).toInt32) &&& (858993459 : Int32))) + (((((p0 - (((p0.toUInt32 >>> ((1 : Int32) &&& 31).toUInt32).toInt32) &&& (1431655765 : Int32))) &&& (858993459 : Int32)) + ((((p0 - (((p0.toUInt32 >>> ((1 : Int32) &&& 31).toUInt32).toInt32) &&& (1431655765 : Int32))).toUInt32 >>> ((2 : Int32) &&& 31).toUInt32).toInt32) &&& (858993459 : Int32))).toUInt32 >>> ((4 : Int32) &&& 31).toUInt32).toInt32)) &&& (252645135 : Int32)).toUInt32 >>> ((8 : Int32) &&& 31).toUInt32).toInt32)) + ((((((((p0 - (((p0.toUInt32 >>> ((1 : Int32) &&& 31).toUInt32).toInt32) &&& (1431655765 : Int32))) &&& (858993459 : Int32)) + ((((p0 - (((p0.toUInt32 >>> ((1 : Int32) &&& 31).toUInt32).toInt32) &&& (1431655765 : Int32))).toUInt32 >>> ((2 : Int32) &&& 31).toUInt32).toInt32) &&& (858993459 : Int32))) + (((((p0 - (((p0.toUInt32 >>> ((1 : Int32) &&& 31).toUInt32).toInt32) &&& (1431655765 : Int32))) &&& (858993459 : Int32)) + ((((p0 - (((p0.toUInt32 >>> ((1 : Int32) &&& 31).toUInt32).toInt32) &&& (1431655765 : Int32))).toUInt32 >>> ((2 : Int32) &&& 31).toUInt32).toInt32) &&& (858993459 : Int32))).toUInt32 >>> ((4 : Int32) &&& 31).toUInt32).toInt32)) &&& (252645135 : Int32)) + (((((((p0 - (((p0.toUInt32 >>> ((1 : Int32) &&& 31).toUInt32).toInt32) &&& (1431655765 : Int32))) &&& (858993459 : Int32)) + ((((p0 - (((p0.toUInt32 >>> ((1 : Int32) &&& 31).toUInt32).toInt32) &&& (1431655765 : Int32))).toUInt32 >>> ((2 : Int32) &&& 31).toUInt32).toInt32) &&& (858993459 : Int32))) + (((((p0 - (((p0.toUInt32 >>> ((1 : Int32) &&& 31).toUInt32).toInt32) &&& (1431655765 : Int32))) &&& (858993459 : Int32)) + ((((p0 - (((p0.toUInt32 >>> ((1 : Int32) &&& 31).toUInt32).toInt32) &&& (1431655765 : Int32))).toUInt32 >>> ((2 : Int32) &&& 31).toUInt32).toInt32) &&& (858993459 : Int32))).toUInt32 >>> ((4 : Int32) &&& 31).toUInt32).toInt32)) &&& (252645135 : Int32)).toUInt32 >>> ((8 : Int32) &&& 31).toUInt32).toInt32)).toUInt32 >>> ((16 : Int32) &&& 31).toUInt32).toInt32)))])) _
    refine XS.bipush X0.here hx rfl (hb hby d12_49) ?_
    show Steps p.tables e below (s₁.setTop (mkF m 51 #[.val (.int (((((((p0 - (((p0.toUInt32 >>> ((1 : Int32) &&& 31).toUInt32).toInt32) &&& (1431655765 : Int32))) &&& (858993459 : Int32)) + ((((p0 - (((p0.toUInt32 >>> ((1 : Int32) &&& 31).toUInt32).toInt32) &&& (1431655765 : Int32))).toUInt32 >>> ((2 : Int32) &&& 31).toUInt32).toInt32) &&& (858993459 : Int32))) + (((((p0 - (((p0.toUInt32 >>> ((1 : Int32) &&& 31).toUInt32).toInt32) &&& (1431655765 : Int32))) &&& (858993459 : Int32)) + ((((p0 - (((p0.toUInt32 >>> ((1 : Int32) &&& 31).toUInt32).toInt32) &&& (1431655765 : Int32))).toUInt32 >>> ((2 : Int32) &&& 31).toUInt32).toInt32) &&& (858993459 : Int32))).toUInt32 >>> ((4 : Int32) &&& 31).toUInt32).toInt32)) &&& (252645135 : Int32)) + (((((((p0 - (((p0.toUInt32 >>> ((1 : Int32) &&& 31).toUInt32).toInt32) &&& (1431655765 : Int32))) &&& (858993459 : Int32)) + ((((p0 - (((p0.toUInt32 >>> ((1 : Int32) &&& 31).toUInt32).toInt32) &&& (1431655765 : Int32))).toUInt32 >>> ((2 : Int32) &&& 31).toUInt32).toInt32) &&& (858993459 : Int32))) + (((((p0 - (((p0.toUInt32 >>> ((1 : Int32) &&& 31).toUInt32).toInt32) &&& (1431655765 : Int32))) &&& (858993459 : Int32)) + ((((p0 - (((p0.toUInt32 >>> ((1 : Int32) &&& 31).toUInt32).toInt32) &&& (1431655765 : Int32))).toUInt32 >>> ((2 : Int32) &&& 31).toUInt32).toInt32) &&& (858993459 : Int32))).toUInt32 >>> ((4 : Int32) &&& 31).toUInt32).toInt32)) &&& (252645135 : Int32)).toUInt32 >>> ((8 : Int32) &&& 31).toUInt32).toInt32)) + ((((((((p0 - (((p0.toUInt32 >>> ((1 : Int32) &&& 31).toUInt32).toInt32) &&& (1431655765 : Int32))) &&& (858993459 : Int32)) + ((((p0 - (((p0.toUInt32 >>> ((1 : Int32) &&& 31).toUInt32).toInt32) &&& (1431655765 : Int32))).toUInt32 >>> ((2 : Int32) &&& 31).toUInt32).toInt32) &&& (858993459 : Int32))) + (((((p0 - (((p0.toUInt32 >>> ((1 : Int32) &&& 31).toUInt32).toInt32) &&& (1431655765 : Int32))) &&& (858993459 : Int32)) + ((((p0 - (((p0.toUInt32 >>> ((1 : Int32) &&& 31).toUInt32).toInt32) &&& (1431655765 : Int32))).toUInt32 >>> ((2 : Int32) &&& 31).toUInt32).toInt32) &&& (858993459 : Int32))).toUInt32 >>> ((4 : Int32) &&& 31).toUInt32).toInt32)) &&& (252645135 : Int32)) + (((((((p0 - (((p0.toUInt32 >>> ((1 : Int32) &&& 31).toUInt32).toInt32) &&& (1431655765 : Int32))) &&& (858993459 : Int32)) + ((((p0 - (((p0.toUInt32 >>> ((1 : Int32) &&& 31).toUInt32).toInt32) &&& (1431655765 : Int32))).toUInt32 >>> ((2 : Int32) &&& 31).toUInt32).toInt32) &&& (858993459 : Int32))) + (((((p0 - (((p0.toUInt32 >>> ((1 : Int32) &&& 31).toUInt32).toInt32) &&& (1431655765 : Int32))) &&& (858993459 : Int32)) + ((((p0 - (((p0.toUInt32 >>> ((1 : Int32) &&& 31).toUInt32).toInt32) &&& (1431655765 : Int32))).toUInt32 >>> ((2 : Int32) &&& 31).toUInt32).toInt32) &&& (858993459 : Int32))).toUInt32 >>> ((4 : Int32) &&& 31).toUInt32).toInt32)) &&& (252645135 : Int32)).toUInt32 >>> ((8 : Int32) &&& 31).toUInt32).toInt32)).toUInt32 >>> ((16 : Int32) &&& 31).toUInt32).toInt32)))] [(.int (63 : Int32)), (.int (((((((p0 - (((p0.toUInt32 >>> ((1 : Int32) &&& 31).toUInt32).toInt32) &&& (1431655765 : Int32))) &&& (858993459 : Int32)) + ((((p0 - (((p0.toUInt32 >>> ((1 : Int32) &&& 31).toUInt32).toInt32) &&& (1431655765 : Int32))).toUInt32 >>> ((2 : Int32) &&& 31).toUInt32).toInt32) &&& (858993459 : Int32))) + (((((p0 - (((p0.toUInt32 >>> ((1 : Int32) &&& 31).toUInt32).toInt32) &&& (1431655765 : Int32))) &&& (858993459 : Int32)) + ((((p0 - (((p0.toUInt32 >>> ((1 : Int32) &&& 31).toUInt32).toInt32) &&& (1431655765 : Int32))).toUInt32 >>> ((2 : Int32) &&& 31).toUInt32).toInt32) &&& (858993459 : Int32))).toUInt32 >>> ((4 : Int32) &&& 31).toUInt32).toInt32)) &&& (252645135 : Int32)) + (((((((p0 - (((p0.toUInt32 >>> ((1 : Int32) &&& 31).toUInt32).toInt32) &&& (1431655765 : Int32))) &&& (858993459 : Int32)) + ((((p0 - (((p0.toUInt32 >>> ((1 : Int32) &&& 31).toUInt32).toInt32) &&& (1431655765 : Int32))).toUInt32 >>> ((2 : Int32) &&& 31).toUInt32).toInt32) &&& (858993459 : Int32))) + (((((p0 - (((p0.toUInt32 >>> ((1 : Int32) &&& 31).toUInt32).toInt32) &&& (1431655765 : Int32))) &&& (858993459 : Int32)) + ((((p0 - (((p0.toUInt32 >>> ((1 : Int32) &&& 31).toUInt32).toInt32) &&& (1431655765 : Int32))).toUInt32 >>> ((2 : Int32) &&& 31).toUInt32).toInt32) &&& (858993459 : Int32))).toUInt32 >>> ((4 : Int32) &&& 31).toUInt32).toInt32)) &&& (252645135 : Int32)).toUInt32 >>> ((8 : Int32) &&& 31).toUInt32).toInt32)) + ((((((((p0 - (((p0.toUInt32 >>> ((1 : Int32) &&& 31).toUInt32).toInt32) &&& (1431655765 : Int32))) &&& (858993459 : Int32)) + ((((p0 - (((p0.toUInt32 >>> ((1 : Int32) &&& 31).toUInt32).toInt32) &&& (1431655765 : Int32))).toUInt32 >>> ((2 : Int32) &&& 31).toUInt32).toInt32) &&& (858993459 : Int32))) + (((((p0 - (((p0.toUInt32 >>> ((1 : Int32) &&& 31).toUInt32).toInt32) &&& (1431655765 : Int32))) &&& (858993459 : Int32)) + ((((p0 - (((p0.toUInt32 >>> ((1 : Int32) &&& 31).toUInt32).toInt32) &&& (1431655765 : Int32))).toUInt32 >>> ((2 : Int32) &&& 31).toUInt32).toInt32) &&& (858993459 : Int32))).toUInt32 >>> ((4 : Int32) &&& 31).toUInt32).toInt32)) &&& (252645135 : Int32)) + (((((((p0 - (((p0.toUInt32 >>> ((1 : Int32) &&& 31).toUInt32).toInt32) &&& (1431655765 : Int32))) &&& (858993459 : Int32)) + ((((p0 - (((p0.toUInt32 >>> ((1 : Int32) &&& 31).toUInt32).toInt32) &&& (1431655765 : Int32))).toUInt32 >>> ((2 : Int32) &&& 31).toUInt32).toInt32) &&& (858993459 : Int32))) + (((((p0 - (((p0.toUInt32 >>> ((1 : Int32) &&& 31).toUInt32).toInt32) &&& (1431655765 : Int32))) &&& (858993459 : Int32)) + ((((p0 - (((p0.toUInt32 >>> ((1 : Int32) &&& 31).toUInt32).toInt32) &&& (1431655765 : Int32))).toUInt32 >>> ((2 : Int32) &&& 31).toUInt32).toInt32) &&& (858993459 : Int32))).toUInt32 >>> ((4 : Int32) &&& 31).toUInt32).toInt32)) &&& (252645135 : Int32)).toUInt32 >>> ((8 : Int32) &&& 31).toUInt32).toInt32)).toUInt32 >>> ((16 : Int32) &&& 31).toUInt32).toInt32)))])) _
    refine XS.iand X0.here hx rfl (hb hby d12_51) rfl ?_
    show Steps p.tables e below (s₁.setTop (mkF m 52 #[.val (.int (((((((p0 - (((p0.toUInt32 >>> ((1 : Int32) &&& 31).toUInt32).toInt32) &&& (1431655765 : Int32))) &&& (858993459 : Int32)) + ((((p0 - (((p0.toUInt32 >>> ((1 : Int32) &&& 31).toUInt32).toInt32) &&& (1431655765 : Int32))).toUInt32 >>> ((2 : Int32) &&& 31).toUInt32).toInt32) &&& (858993459 : Int32))) + (((((p0 - (((p0.toUInt32 >>> ((1 : Int32) &&& 31).toUInt32).toInt32) &&& (1431655765 : Int32))) &&& (858993459 : Int32)) + ((((p0 - (((p0.toUInt32 >>> ((1 : Int32) &&& 31).toUInt32).toInt32) &&& (1431655765 : Int32))).toUInt32 >>> ((2 : Int32) &&& 31).toUInt32).toInt32) &&& (858993459 : Int32))).toUInt32 >>> ((4 : Int32) &&& 31).toUInt32).toInt32)) &&& (252645135 : Int32)) + (((((((p0 - (((p0.toUInt32 >>> ((1 : Int32) &&& 31).toUInt32).toInt32) &&& (1431655765 : Int32))) &&& (858993459 : Int32)) + ((((p0 - (((p0.toUInt32 >>> ((1 : Int32) &&& 31).toUInt32).toInt32) &&& (1431655765 : Int32))).toUInt32 >>> ((2 : Int32) &&& 31).toUInt32).toInt32) &&& (858993459 : Int32))) + (((((p0 - (((p0.toUInt32 >>> ((1 : Int32) &&& 31).toUInt32).toInt32) &&& (1431655765 : Int32))) &&& (858993459 : Int32)) + ((((p0 - (((p0.toUInt32 >>> ((1 : Int32) &&& 31).toUInt32).toInt32) &&& (1431655765 : Int32))).toUInt32 >>> ((2 : Int32) &&& 31).toUInt32).toInt32) &&& (858993459 : Int32))).toUInt32 >>> ((4 : Int32) &&& 31).toUInt32).toInt32)) &&& (252645135 : Int32)).toUInt32 >>> ((8 : Int32) &&& 31).toUInt32).toInt32)) + ((((((((p0 - (((p0.toUInt32 >>> ((1 : Int32) &&& 31).toUInt32).toInt32) &&& (1431655765 : Int32))) &&& (858993459 : Int32)) + ((((p0 - (((p0.toUInt32 >>> ((1 : Int32) &&& 31).toUInt32).toInt32) &&& (1431655765 : Int32))).toUInt32 >>> ((2 : Int32) &&& 31).toUInt32).toInt32) &&& (858993459 : Int32))) + (((((p0 - (((p0.toUInt32 >>> ((1 : Int32) &&& 31).toUInt32).toInt32) &&& (1431655765 : Int32))) &&& (858993459 : Int32)) + ((((p0 - (((p0.toUInt32 >>> ((1 : Int32) &&& 31).toUInt32).toInt32) &&& (1431655765 : Int32))).toUInt32 >>> ((2 : Int32) &&& 31).toUInt32).toInt32) &&& (858993459 : Int32))).toUInt32 >>> ((4 : Int32) &&& 31).toUInt32).toInt32)) &&& (252645135 : Int32)) + (((((((p0 - (((p0.toUInt32 >>> ((1 : Int32) &&& 31).toUInt32).toInt32) &&& (1431655765 : Int32))) &&& (858993459 : Int32)) + ((((p0 - (((p0.toUInt32 >>> ((1 : Int32) &&& 31).toUInt32).toInt32) &&& (1431655765 : Int32))).toUInt32 >>> ((2 : Int32) &&& 31).toUInt32).toInt32) &&& (858993459 : Int32))) + (((((p0 - (((p0.toUInt32 >>> ((1 : Int32) &&& 31).toUInt32).toInt32) &&& (1431655765 : Int32))) &&& (858993459 : Int32)) + ((((p0 - (((p0.toUInt32 >>> ((1 : Int32) &&& 31).toUInt32).toInt32) &&& (1431655765 : Int32))).toUInt32 >>> ((2 : Int32) &&& 31).toUInt32).toInt32) &&& (858993459 : Int32))).toUInt32 >>> ((4 : Int32) &&& 31).toUInt32).toInt32)) &&& (252645135 : Int32)).toUInt32 >>> ((8 : Int32) &&& 31).toUInt32).toInt32)).toUInt32 >>> ((16 : Int32) &&& 31).toUInt32).toInt32)))] [(.int ((((((((p0 - (((p0.toUInt32 >>> ((1 : Int32) &&& 31).toUInt32).toInt32) &&& (1431655765 : Int32))) &&& (858993459 : Int32)) + ((((p0 - (((p0.toUInt32 >>> ((1 : Int32) &&& 31).toUInt32).toInt32) &&& (1431655765 : Int32))).toUInt32 >>> ((2 : Int32) &&& 31).toUInt32).toInt32) &&& (858993459 : Int32))) + (((((p0 - (((p0.toUInt32 >>> ((1 : Int32) &&& 31).toUInt32).toInt32) &&& (1431655765 : Int32))) &&& (858993459 : Int32)) + ((((p0 - (((p0.toUInt32 >>> ((1 : Int32) &&& 31).toUInt32).toInt32) &&& (1431655765 : Int32))).toUInt32 >>> ((2 : Int32) &&& 31).toUInt32).toInt32) &&& (858993459 : Int32))).toUInt32 >>> ((4 : Int32) &&& 31).toUInt32).toInt32)) &&& (252645135 : Int32)) + (((((((p0 - (((p0.toUInt32 >>> ((1 : Int32) &&& 31).toUInt32).toInt32) &&& (1431655765 : Int32))) &&& (858993459 : Int32)) + ((((p0 - (((p0.toUInt32 >>> ((1 : Int32) &&& 31).toUInt32).toInt32) &&& (1431655765 : Int32))).toUInt32 >>> ((2 : Int32) &&& 31).toUInt32).toInt32) &&& (858993459 : Int32))) + (((((p0 - (((p0.toUInt32 >>> ((1 : Int32) &&& 31).toUInt32).toInt32) &&& (1431655765 : Int32))) &&& (858993459 : Int32)) + ((((p0 - (((p0.toUInt32 >>> ((1 : Int32) &&& 31).toUInt32).toInt32) &&& (1431655765 : Int32))).toUInt32 >>> ((2 : Int32) &&& 31).toUInt32).toInt32) &&& (858993459 : Int32))).toUInt32 >>> ((4 : Int32) &&& 31).toUInt32).toInt32)) &&& (252645135 : Int32)).toUInt32 >>> ((8 : Int32) &&& 31).toUInt32).toInt32)) + ((((((((p0 - (((p0.toUInt32 >>> ((1 : Int32) &&& 31).toUInt32).toInt32) &&& (1431655765 : Int32))) &&& (858993459 : Int32)) + ((((p0 - (((p0.toUInt32 >>> ((1 : Int32) &&& 31).toUInt32).toInt32) &&& (1431655765 : Int32))).toUInt32 >>> ((2 : Int32) &&& 31).toUInt32).toInt32) &&& (858993459 : Int32))) + (((((p0 - (((p0.toUInt32 >>> ((1 : Int32) &&& 31).toUInt32).toInt32) &&& (1431655765 : Int32))) &&& (858993459 : Int32)) + ((((p0 - (((p0.toUInt32 >>> ((1 : Int32) &&& 31).toUInt32).toInt32) &&& (1431655765 : Int32))).toUInt32 >>> ((2 : Int32) &&& 31).toUInt32).toInt32) &&& (858993459 : Int32))).toUInt32 >>> ((4 : Int32) &&& 31).toUInt32).toInt32)) &&& (252645135 : Int32)) + (((((((p0 - (((p0.toUInt32 >>> ((1 : Int32) &&& 31).toUInt32).toInt32) &&& (1431655765 : Int32))) &&& (858993459 : Int32)) + ((((p0 - (((p0.toUInt32 >>> ((1 : Int32) &&& 31).toUInt32).toInt32) &&& (1431655765 : Int32))).toUInt32 >>> ((2 : Int32) &&& 31).toUInt32).toInt32) &&& (858993459 : Int32))) + (((((p0 - (((p0.toUInt32 >>> ((1 : Int32) &&& 31).toUInt32).toInt32) &&& (1431655765 : Int32))) &&& (858993459 : Int32)) + ((((p0 - (((p0.toUInt32 >>> ((1 : Int32) &&& 31).toUInt32).toInt32) &&& (1431655765 : Int32))).toUInt32 >>> ((2 : Int32) &&& 31).toUInt32).toInt32) &&& (858993459 : Int32))).toUInt32 >>> ((4 : Int32) &&& 31).toUInt32).toInt32)) &&& (252645135 : Int32)).toUInt32 >>> ((8 : Int32) &&& 31).toUInt32).toInt32)).toUInt32 >>> ((16 : Int32) &&& 31).toUInt32).toInt32)) &&& (63 : Int32)))])) _
    exact retI X0 hx Bd.returns (hb hby d12_52) hr
  · show Q12 Z p0 h0 n0 _ s₁.heap _
    rw [e0]
    exact ⟨rfl, N0, rfl⟩
theorem d14_0 : decode jdk_29_method_59_code 0 = .ok (.iload_n 0, 1) := by decide +kernel
theorem d14_1 : decode jdk_29_method_59_code 1 = .ok (.ifCond .ge 8, 3) := by decide +kernel
theorem d14_4 : decode jdk_29_method_59_code 4 = .ok (.iload_n 0, 1) := by decide +kernel
theorem d14_5 : decode jdk_29_method_59_code 5 = .ok (.ineg, 1) := by decide +kernel
theorem d14_6 : decode jdk_29_method_59_code 6 = .ok (.goto 4, 3) := by decide +kernel
theorem d14_10 : decode jdk_29_method_59_code 10 = .ok (.ireturn, 1) := by decide +kernel
theorem ef_rm14 (m : MethodId)  : entryFrame m #[(.int (-2147483648 : Int32))] 1 = mkF m 0 #[.val (.int (-2147483648 : Int32))] [] := by first | (simp [entryFrame, mkF, argsToLocals, Value.category]; done) | rfl
def Q14 (Z : State)  (h0 : Heap) (n0 : Nat) (v : Option Value) (h : Heap) (L : List Loc) : Prop := v = some (.int (-2147483648 : Int32)) ∧ Fr n0 L ∧ h = h0
set_option maxRecDepth 65536 in
set_option maxHeartbeats 40000000 in
theorem rm14 (l : Launch) (Z : State) (az : Array Value) (hw : ∀ d ∈ tables_1, d.before az Z = true) (ws : List Jvm.Cond)  (h0 : Heap) (n0 : Nat) (Z0 : n0 ≤ h0.size) :
    MetFree l (⟨"java/lang/Math", "abs", "(I)I"⟩ : MethodName) (head1 (Jvm.Cond.code (⟨"java/lang/Math", "abs", "(I)I"⟩ : MethodName) jdk_29_method_59_code 1 (some .int) :: ws) ({ frames := 0, cells := 0, slots := 0, locals := 0 } : Room)) (fun a U => a = #[(.int (-2147483648 : Int32))] ∧ Z.Warmed39 U.vm ∧ U.heap = h0) (fun _ _ _ _ _ => True) (fun _ U o U' => ∃ v L, o = .returned v ∧ Q14 Z  h0 n0 v U'.heap L ∧ FrameEnd U o U' L ({ frames := 0, cells := 0, slots := 0, locals := 0 } : Room).cells ({ frames := 0, cells := 0, slots := 0, locals := 0 } : Room).slots) := by
  refine MetFree.of_bodySF (Jvm.Free.JP.mathPlain rfl (by decide +kernel)) hisR ?_
  intro p e s m args below meth c s₁ Bd hml0 hP hK
  obtain ⟨rfl, hZ, hh⟩ := hP
  have hx := Bd.exec
  have hby := Bd.bytes
  have hml : c.maxLocals = 1 := hml0
  have hown : s.vm.findClass "java/lang/Math" = some m.cls := findClass_of_methodNamed Bd.named
  have hnm := (name_of_methodNamed Bd.named Bd.method).1
  have X0 : Stand p l e ({ frames := 0, cells := 0, slots := 0, locals := 0 } : Room) s m #[(.int (-2147483648 : Int32))] below meth c s₁ [] 0 0 := Stand.of_body Bd
  have e0 : s₁.heap = h0 := by rw [← hh, Bd.state]; rfl
  have N0 := Fr.nil n0
  have pre0 : ∀ t, Steps p.tables e below (s₁.setTop (mkF m 0 #[.val (.int (-2147483648 : Int32))] [])) t → Steps p.tables e below (s₁.setTop (entryFrame m #[(.int (-2147483648 : Int32))] 1)) t := fun t k => castTop (ef_rm14 m ) k
  obtain ⟨fs, hr, hrun, hended, hW, hsame⟩ := X0.leave (v := some (.int (-2147483648 : Int32))) (fun h => by rw [Bd.returns] at h; cases h)
  refine ⟨_, _, pre0 _ ?_, hrun, hended, _, _, rfl, ?_, ⟨_, rfl⟩, hW, hsame.mono (by decide) (by decide)⟩
  · show Steps p.tables e below (s₁.setTop (mkF m 0 #[.val (.int (-2147483648 : Int32))] [])) _
    refine XS.iloadN X0.here hx rfl (hb hby d14_0) rfl ?_
    show Steps p.tables e below (s₁.setTop (mkF m 1 #[.val (.int (-2147483648 : Int32))] [(.int (-2147483648 : Int32))])) _
    refine XS.ifNo X0.here hx rfl (hb hby d14_1) rfl ((if0 _ _).trans (tlt (by decide : (-2147483648 : Int32) < (0 : Int32))).2.1) ?_
    show Steps p.tables e below (s₁.setTop (mkF m 4 #[.val (.int (-2147483648 : Int32))] [])) _
    refine XS.iloadN X0.here hx rfl (hb hby d14_4) rfl ?_
    show Steps p.tables e below (s₁.setTop (mkF m 5 #[.val (.int (-2147483648 : Int32))] [(.int (-2147483648 : Int32))])) _
    refine XS.ineg X0.here hx rfl (hb hby d14_5) rfl ?_
    show Steps p.tables e below (s₁.setTop (mkF m 6 #[.val (.int (-2147483648 : Int32))] [(.int (-2147483648 : Int32))])) _
    refine XS.goto X0.here hx rfl (pc0 := 6) (pc' := 10) rfl (hb hby d14_6) (by decide) (by decide) ?_
    show Steps p.tables e below (s₁.setTop (mkF m 10 #[.val (.int (-2147483648 : Int32))] [(.int (-2147483648 : Int32))])) _
    exact retI X0 hx Bd.returns (hb hby d14_10) hr
  · show Q14 Z  h0 n0 _ s₁.heap _
    rw [e0]
    exact ⟨rfl, N0, rfl⟩
theorem d15_0 : decode jdk_2056_method_24_code 0 = .ok (.iload_n 0, 1) := by decide +kernel
theorem d15_1 : decode jdk_2056_method_24_code 1 = .ok (.sipush 255, 3) := by decide +kernel
theorem d15_4 : decode jdk_2056_method_24_code 4 = .ok (.iand, 1) := by decide +kernel
theorem d15_5 : decode jdk_2056_method_24_code 5 = .ok (.ireturn, 1) := by decide +kernel
theorem pn_java_lang_Byte : plainName "java/lang/Byte" = true := by first | (simp [plainName, overriddenIn]; done) | decide +kernel
theorem ef_rm15 (m : MethodId) (p0 : Int32) : entryFrame m #[(.int p0)] 1 = mkF m 0 #[.val (.int p0)] [] := by first | (simp [entryFrame, mkF, argsToLocals, Value.category]; done) | rfl
def Q15 (Z : State) (p0 : Int32) (h0 : Heap) (n0 : Nat) (v : Option Value) (h : Heap) (L : List Loc) : Prop := v = some (.int (p0 &&& (255 : Int32))) ∧ Fr n0 L ∧ h = h0
set_option maxRecDepth 65536 in
set_option maxHeartbeats 40000000 in
theorem rm15 (l : Launch) (Z : State) (az : Array Value) (hw : ∀ d ∈ tables_1, d.before az Z = true) (ws : List Jvm.Cond) (p0 : Int32) (h0 : Heap) (n0 : Nat) (Z0 : n0 ≤ h0.size) :
    MetFree l (⟨"java/lang/Byte", "toUnsignedInt", "(B)I"⟩ : MethodName) (head1 (Jvm.Cond.code (⟨"java/lang/Byte", "toUnsignedInt", "(B)I"⟩ : MethodName) jdk_2056_method_24_code 1 (some .int) :: ws) ({ frames := 0, cells := 0, slots := 0, locals := 0 } : Room)) (fun a U => a = #[(.int p0)] ∧ Z.Warmed39 U.vm ∧ U.heap = h0) (fun _ _ _ _ _ => True) (fun _ U o U' => ∃ v L, o = .returned v ∧ Q15 Z p0 h0 n0 v U'.heap L ∧ FrameEnd U o U' L ({ frames := 0, cells := 0, slots := 0, locals := 0 } : Room).cells ({ frames := 0, cells := 0, slots := 0, locals := 0 } : Room).slots) := by
  refine MetFree.of_bodySF (plainFor_of_name pn_java_lang_Byte) hisR ?_
  intro p e s m args below meth c s₁ Bd hml0 hP hK
  obtain ⟨rfl, hZ, hh⟩ := hP
  have hx := Bd.exec
  have hby := Bd.bytes
  have hml : c.maxLocals = 1 := hml0
  have hown : s.vm.findClass "java/lang/Byte" = some m.cls := findClass_of_methodNamed Bd.named
  have hnm := (name_of_methodNamed Bd.named Bd.method).1
  have X0 : Stand p l e ({ frames := 0, cells := 0, slots := 0, locals := 0 } : Room) s m #[(.int p0)] below meth c s₁ [] 0 0 := Stand.of_body Bd
  have e0 : s₁.heap = h0 := by rw [← hh, Bd.state]; rfl
  have N0 := Fr.nil n0
  have pre0 : ∀ t, Steps p.tables e below (s₁.setTop (mkF m 0 #[.val (.int p0)] [])) t → Steps p.tables e below (s₁.setTop (entryFrame m #[(.int p0)] 1)) t := fun t k => castTop (ef_rm15 m p0) k
  obtain ⟨fs, hr, hrun, hended, hW, hsame⟩ := X0.leave (v := some (.int (p0 &&& (255 : Int32)))) (fun h => by rw [Bd.returns] at h; cases h)
  refine ⟨_, _, pre0 _ ?_, hrun, hended, _, _, rfl, ?_, ⟨_, rfl⟩, hW, hsame.mono (by decide) (by decide)⟩
  · show Steps p.tables e below (s₁.setTop (mkF m 0 #[.val (.int p0)] [])) _
    refine XS.iloadN X0.here hx rfl (hb hby d15_0) rfl ?_
    show Steps p.tables e below (s₁.setTop (mkF m 1 #[.val (.int p0)] [(.int p0)])) _
    refine XS.sipush X0.here hx rfl (hb hby d15_1) ?_
    show Steps p.tables e below (s₁.setTop (mkF m 4 #[.val (.int p0)] [(.int (255 : Int32)), (.int p0)])) _
    refine XS.iand X0.here hx rfl (hb hby d15_4) rfl ?_
    show Steps p.tables e below (s₁.setTop (mkF m 5 #[.val (.int p0)] [(.int (p0 &&& (255 : Int32)))])) _
    exact retI X0 hx Bd.returns (hb hby d15_5) hr
  · show Q15 Z p0 h0 n0 _ s₁.heap _
    rw [e0]
    exact ⟨rfl, N0, rfl⟩
theorem d13_0 : decode prog_7_method_13_code 0 = .ok (.iload_n 1, 1) := by decide +kernel
theorem d13_1 : decode prog_7_method_13_code 1 = .ok (.invokestatic 96, 3) := by decide +kernel
theorem pd_8 : parseMethodDescriptor "(I)I" = some ⟨[.int], some .int⟩ := by decide +kernel
theorem d13_4 : decode prog_7_method_13_code 4 = .ok (.istore_n 2, 1) := by decide +kernel
theorem d13_5 : decode prog_7_method_13_code 5 = .ok (.aload_n 0, 1) := by decide +kernel
theorem d13_6 : decode prog_7_method_13_code 6 = .ok (.getfield 36, 3) := by decide +kernel
theorem d13_9 : decode prog_7_method_13_code 9 = .ok (.ifCond .lt 12, 3) := by decide +kernel
theorem d13_12 : decode prog_7_method_13_code 12 = .ok (.iload_n 2, 1) := by decide +kernel
theorem d13_13 : decode prog_7_method_13_code 13 = .ok (.aload_n 0, 1) := by decide +kernel
theorem d13_14 : decode prog_7_method_13_code 14 = .ok (.getfield 36, 3) := by decide +kernel
theorem d13_17 : decode prog_7_method_13_code 17 = .ok (.iand, 1) := by decide +kernel
theorem d13_18 : decode prog_7_method_13_code 18 = .ok (.goto 9, 3) := by decide +kernel
theorem d13_27 : decode prog_7_method_13_code 27 = .ok (.i2b, 1) := by decide +kernel
theorem d13_28 : decode prog_7_method_13_code 28 = .ok (.ireturn, 1) := by decide +kernel
theorem pn_com_example_fireweed_fireweed_layout_Java31ByteSalt : plainName "com/example/fireweed/fireweed/layout/Java31ByteSalt" = true := by first | (simp [plainName, overriddenIn]; done) | decide +kernel
theorem ef_rm13m (m : MethodId) (a0 : Addr) : entryFrame m #[(.ref a0), (.int (-2147483648 : Int32))] 3 = mkF m 0 #[.val (.ref a0), .val (.int (-2147483648 : Int32)), .unset] [] := by first | (simp [entryFrame, mkF, argsToLocals, Value.category]; done) | rfl
def Q13m (Z : State) (a0 : Addr) (w_mask_a0 : Int32) (h0 : Heap) (n0 : Nat) (v : Option Value) (h : Heap) (L : List Loc) : Prop := v = some (.int (((-2147483648 : Int32) &&& w_mask_a0).toInt8.toInt32)) ∧ Fr n0 L ∧ h = h0
set_option maxRecDepth 65536 in
set_option maxHeartbeats 40000000 in
theorem rm13m (l : Launch) (Z : State) (az : Array Value) (hw : ∀ d ∈ tables_1, d.before az Z = true) (ws : List Jvm.Cond) (a0 : Addr) (w_mask_a0 : Int32) (h0 : Heap) (n0 : Nat) (Z0 : n0 ≤ h0.size) (F_mask_a0 : Fld Z h0 a0 "com/example/fireweed/fireweed/layout/Java31ByteSalt" "mask" "I" (.int w_mask_a0)) (hc1 : ¬ (w_mask_a0 < (0 : Int32))) :
    MetFree l (⟨"com/example/fireweed/fireweed/layout/Java31ByteSalt", "saltOf", "(I)B"⟩ : MethodName) (head1 (Jvm.Cond.code (⟨"com/example/fireweed/fireweed/layout/Java31ByteSalt", "saltOf", "(I)B"⟩ : MethodName) prog_7_method_13_code 3 (some .byte) :: ws) ({ frames := 1, cells := 0, slots := 0, locals := 12 } : Room)) (fun a U => a = #[(.ref a0), (.int (-2147483648 : Int32))] ∧ Z.Warmed39 U.vm ∧ U.heap = h0) (fun _ _ _ _ _ => True) (fun _ U o U' => ∃ v L, o = .returned v ∧ Q13m Z a0 w_mask_a0 h0 n0 v U'.heap L ∧ FrameEnd U o U' L ({ frames := 1, cells := 0, slots := 0, locals := 12 } : Room).cells ({ frames := 1, cells := 0, slots := 0, locals := 12 } : Room).slots) := by
  refine MetFree.of_bodySF (plainFor_of_name pn_com_example_fireweed_fireweed_layout_Java31ByteSalt) hisR ?_
  intro p e s m args below meth c s₁ Bd hml0 hP hK
  obtain ⟨rfl, hZ, hh⟩ := hP
  have hx := Bd.exec
  have hby := Bd.bytes
  have hml : c.maxLocals = 3 := hml0
  have hown : s.vm.findClass "com/example/fireweed/fireweed/layout/Java31ByteSalt" = some m.cls := findClass_of_methodNamed Bd.named
  have hnm := (name_of_methodNamed Bd.named Bd.method).1
  have X0 : Stand p l e ({ frames := 1, cells := 0, slots := 0, locals := 12 } : Room) s m #[(.ref a0), (.int (-2147483648 : Int32))] below meth c s₁ [] 0 0 := Stand.of_body Bd
  have e0 : s₁.heap = h0 := by rw [← hh, Bd.state]; rfl
  have N0 := Fr.nil n0
  have pre0 : ∀ t, Steps p.tables e below (s₁.setTop (mkF m 0 #[.val (.ref a0), .val (.int (-2147483648 : Int32)), .unset] [])) t → Steps p.tables e below (s₁.setTop (entryFrame m #[(.ref a0), (.int (-2147483648 : Int32))] 3)) t := fun t k => castTop (ef_rm13m m a0) k
  obtain ⟨_, _, ⟨T1, L1, k1', n1'⟩, -, X1, ⟨Lc1, hQ1, l1, y1, z1⟩, st1⟩ := Jvm.LawKit.callS X0 hx (y := (⟨"java/lang/Math", "abs", "(I)I"⟩ : MethodName)) hown (mvT hZ (hw _ (List.mem_of_getElem? (i := 94) rfl))) (mvT hZ (hw _ (List.mem_of_getElem? (i := 95) rfl))) (mvT hZ (hw _ (List.mem_of_getElem? (i := 96) rfl))) (mvT hZ (hw _ (List.mem_of_getElem? (i := 97) rfl))) (by decide) (backOf (W := 0) (rm14 l Z az hw []  h0 n0 Z0) hZ (hw _ (List.mem_of_getElem? (i := 97) rfl)) (hw _ (List.mem_of_getElem? (i := 96) rfl)) (by decide) (by decide)) (g := (mkF m 1 #[.val (.ref a0), .val (.int (-2147483648 : Int32)), .unset] [(.int (-2147483648 : Int32))])) rfl (by rw [hml]; rfl) (argsL := [(.int (-2147483648 : Int32))]) (rest := []) (lenOf pd_8 rfl) rfl (by show 2 * 0 + _ ≤ _; exact Nat.le_of_eq rfl) (hb hby d13_1) (fun _ _ => ⟨rfl, e0, (by decide : 0 + 0 ≤ _), (by decide : 0 + 0 ≤ _)⟩)
  dsimp only [Pt.U, Pt.locs, Pt.cells, Pt.slots] at X1 l1 y1 z1 st1 hQ1
  subst l1 y1 z1
  obtain ⟨rfl, N1q, e1⟩ := hQ1
  obtain ⟨Lg1, X1', N1⟩ := own_gen X1 (Fr.app N0 N1q)
  obtain ⟨T2, X2, e2, st2⟩ := getF X1' hx hZ hown (host := "") (Or.inl (hw _ (List.mem_of_getElem? (i := 87) rfl))) Via.refl e1 F_mask_a0 (g := (mkF m 6 #[.val (.ref a0), .val (.int (-2147483648 : Int32)), .val (.int (-2147483648 : Int32))] [(.ref a0)])) rfl rfl (hb hby d13_6)
  obtain ⟨T3, X3, e3, st3⟩ := getF X2 hx hZ hown (host := "") (Or.inl (hw _ (List.mem_of_getElem? (i := 87) rfl))) Via.refl e2 F_mask_a0 (g := (mkF m 14 #[.val (.ref a0), .val (.int (-2147483648 : Int32)), .val (.int (-2147483648 : Int32))] [(.ref a0), (.int (-2147483648 : Int32))])) rfl rfl (hb hby d13_14)
  obtain ⟨fs, hr, hrun, hended, hW, hsame⟩ := X3.leave (v := some (.int (((-2147483648 : Int32) &&& w_mask_a0).toInt8.toInt32))) (fun h => by rw [Bd.returns] at h; cases h)
  refine ⟨_, _, pre0 _ ?_, hrun, hended, _, _, rfl, ?_, ⟨_, rfl⟩, hW, hsame.mono (by decide) (by decide)⟩
  · show Steps p.tables e below (s₁.setTop (mkF m 0 #[.val (.ref a0), .val (.int (-2147483648 : Int32)), .unset] [])) _
    refine XS.iloadN X0.here hx rfl (hb hby d13_0) rfl ?_
    show Steps p.tables e below (s₁.setTop (mkF m 1 #[.val (.ref a0), .val (.int (-2147483648 : Int32)), .unset] [(.int (-2147483648 : Int32))])) _
    refine st1 _ ?_
    show Steps p.tables e below (T1.setTop (mkF m 4 #[.val (.ref a0), .val (.int (-2147483648 : Int32)), .unset] [(.int (-2147483648 : Int32))])) _
    refine XS.istoreN X1'.here hx rfl (hb hby d13_4) rfl (l' := #[.val (.ref a0), .val (.int (-2147483648 : Int32)), .val (.int (-2147483648 : Int32))]) rfl ?_
    show Steps p.tables e below (T1.setTop (mkF m 5 #[.val (.ref a0), .val (.int (-2147483648 : Int32)), .val (.int (-2147483648 : Int32))] [])) _
    refine XS.aloadN X1'.here hx rfl (hb hby d13_5) rfl rfl ?_
    show Steps p.tables e below (T1.setTop (mkF m 6 #[.val (.ref a0), .val (.int (-2147483648 : Int32)), .val (.int (-2147483648 : Int32))] [(.ref a0)])) _
    refine st2 _ ?_
    show Steps p.tables e below (T2.setTop (mkF m 9 #[.val (.ref a0), .val (.int (-2147483648 : Int32)), .val (.int (-2147483648 : Int32))] [(.int w_mask_a0)])) _
    refine XS.ifNo X2.here hx rfl (hb hby d13_9) rfl ((if0 _ _).trans (flt hc1).1) ?_
    show Steps p.tables e below (T2.setTop (mkF m 12 #[.val (.ref a0), .val (.int (-2147483648 : Int32)), .val (.int (-2147483648 : Int32))] [])) _
    refine XS.iloadN X2.here hx rfl (hb hby d13_12) rfl ?_
    show Steps p.tables e below (T2.setTop (mkF m 13 #[.val (.ref a0), .val (.int (-2147483648 : Int32)), .val (.int (-2147483648 : Int32))] [(.int (-2147483648 : Int32))])) _
    refine XS.aloadN X2.here hx rfl (hb hby d13_13) rfl rfl ?_
    show Steps p.tables e below (T2.setTop (mkF m 14 #[.val (.ref a0), .val (.int (-2147483648 : Int32)), .val (.int (-2147483648 : Int32))] [(.ref a0), (.int (-2147483648 : Int32))])) _
    refine st3 _ ?_
    show Steps p.tables e below (T3.setTop (mkF m 17 #[.val (.ref a0), .val (.int (-2147483648 : Int32)), .val (.int (-2147483648 : Int32))] [(.int w_mask_a0), (.int (-2147483648 : Int32))])) _
    refine XS.iand X3.here hx rfl (hb hby d13_17) rfl ?_
    show Steps p.tables e below (T3.setTop (mkF m 18 #[.val (.ref a0), .val (.int (-2147483648 : Int32)), .val (.int (-2147483648 : Int32))] [(.int ((-2147483648 : Int32) &&& w_mask_a0))])) _
    refine XS.goto X3.here hx rfl (pc0 := 18) (pc' := 27) rfl (hb hby d13_18) (by decide) (by decide) ?_
    show Steps p.tables e below (T3.setTop (mkF m 27 #[.val (.ref a0), .val (.int (-2147483648 : Int32)), .val (.int (-2147483648 : Int32))] [(.int ((-2147483648 : Int32) &&& w_mask_a0))])) _
    refine XS.i2b X3.here hx rfl (hb hby d13_27) rfl ?_
    show Steps p.tables e below (T3.setTop (mkF m 28 #[.val (.ref a0), .val (.int (-2147483648 : Int32)), .val (.int (-2147483648 : Int32))] [(.int (((-2147483648 : Int32) &&& w_mask_a0).toInt8.toInt32))])) _
    exact retN X3 hx (t := .byte) Bd.returns (by simp) (hb hby d13_28) (fun f acts q1 q2 q3 => by rw [(own_nb _)]; exact hr f acts q1 q2 q3)
  · show Q13m Z a0 w_mask_a0 h0 n0 _ T3.heap _
    rw [e3]
    exact ⟨rfl, N1, rfl⟩
theorem d13_21 : decode prog_7_method_13_code 21 = .ok (.iload_n 2, 1) := by decide +kernel
theorem d13_22 : decode prog_7_method_13_code 22 = .ok (.aload_n 0, 1) := by decide +kernel
theorem d13_23 : decode prog_7_method_13_code 23 = .ok (.getfield 28, 3) := by decide +kernel
theorem d13_26 : decode prog_7_method_13_code 26 = .ok (.irem, 1) := by decide +kernel
theorem ef_rm13b (m : MethodId) (a0 : Addr) : entryFrame m #[(.ref a0), (.int (-2147483648 : Int32))] 3 = mkF m 0 #[.val (.ref a0), .val (.int (-2147483648 : Int32)), .unset] [] := by first | (simp [entryFrame, mkF, argsToLocals, Value.category]; done) | rfl
def Q13b (Z : State) (a0 : Addr) (w_buckets_a0 : Int32) (h0 : Heap) (n0 : Nat) (v : Option Value) (h : Heap) (L : List Loc) : Prop := v = some (.int (((-2147483648 : Int32) % w_buckets_a0).toInt8.toInt32)) ∧ Fr n0 L ∧ h = h0
set_option maxRecDepth 65536 in
set_option maxHeartbeats 40000000 in
theorem rm13b (l : Launch) (Z : State) (az : Array Value) (hw : ∀ d ∈ tables_1, d.before az Z = true) (ws : List Jvm.Cond) (a0 : Addr) (w_buckets_a0 : Int32) (h0 : Heap) (n0 : Nat) (Z0 : n0 ≤ h0.size) (F_mask_a0 : Fld Z h0 a0 "com/example/fireweed/fireweed/layout/Java31ByteSalt" "mask" "I" (.int (-1 : Int32))) (F_buckets_a0 : Fld Z h0 a0 "com/example/fireweed/fireweed/layout/Java31ByteSalt" "buckets" "I" (.int w_buckets_a0)) (hc2 : w_buckets_a0 ≠ (0 : Int32)) :
    MetFree l (⟨"com/example/fireweed/fireweed/layout/Java31ByteSalt", "saltOf", "(I)B"⟩ : MethodName) (head1 (Jvm.Cond.code (⟨"com/example/fireweed/fireweed/layout/Java31ByteSalt", "saltOf", "(I)B"⟩ : MethodName) prog_7_method_13_code 3 (some .byte) :: ws) ({ frames := 1, cells := 0, slots := 0, locals := 12 } : Room)) (fun a U => a = #[(.ref a0), (.int (-2147483648 : Int32))] ∧ Z.Warmed39 U.vm ∧ U.heap = h0) (fun _ _ _ _ _ => True) (fun _ U o U' => ∃ v L, o = .returned v ∧ Q13b Z a0 w_buckets_a0 h0 n0 v U'.heap L ∧ FrameEnd U o U' L ({ frames := 1, cells := 0, slots := 0, locals := 12 } : Room).cells ({ frames := 1, cells := 0, slots := 0, locals := 12 } : Room).slots) := by
  refine MetFree.of_bodySF (plainFor_of_name pn_com_example_fireweed_fireweed_layout_Java31ByteSalt) hisR ?_
  intro p e s m args below meth c s₁ Bd hml0 hP hK
  obtain ⟨rfl, hZ, hh⟩ := hP
  have hx := Bd.exec
  have hby := Bd.bytes
  have hml : c.maxLocals = 3 := hml0
  have hown : s.vm.findClass "com/example/fireweed/fireweed/layout/Java31ByteSalt" = some m.cls := findClass_of_methodNamed Bd.named
  have hnm := (name_of_methodNamed Bd.named Bd.method).1
  have X0 : Stand p l e ({ frames := 1, cells := 0, slots := 0, locals := 12 } : Room) s m #[(.ref a0), (.int (-2147483648 : Int32))] below meth c s₁ [] 0 0 := Stand.of_body Bd
  have e0 : s₁.heap = h0 := by rw [← hh, Bd.state]; rfl
  have N0 := Fr.nil n0
  have pre0 : ∀ t, Steps p.tables e below (s₁.setTop (mkF m 0 #[.val (.ref a0), .val (.int (-2147483648 : Int32)), .unset] [])) t → Steps p.tables e below (s₁.setTop (entryFrame m #[(.ref a0), (.int (-2147483648 : Int32))] 3)) t := fun t k => castTop (ef_rm13b m a0) k
  obtain ⟨_, _, ⟨T1, L1, k1', n1'⟩, -, X1, ⟨Lc1, hQ1, l1, y1, z1⟩, st1⟩ := Jvm.LawKit.callS X0 hx (y := (⟨"java/lang/Math", "abs", "(I)I"⟩ : MethodName)) hown (mvT hZ (hw _ (List.mem_of_getElem? (i := 94) rfl))) (mvT hZ (hw _ (List.mem_of_getElem? (i := 95) rfl))) (mvT hZ (hw _ (List.mem_of_getElem? (i := 96) rfl))) (mvT hZ (hw _ (List.mem_of_getElem? (i := 97) rfl))) (by decide) (backOf (W := 0) (rm14 l Z az hw []  h0 n0 Z0) hZ (hw _ (List.mem_of_getElem? (i := 97) rfl)) (hw _ (List.mem_of_getElem? (i := 96) rfl)) (by decide) (by decide)) (g := (mkF m 1 #[.val (.ref a0), .val (.int (-2147483648 : Int32)), .unset] [(.int (-2147483648 : Int32))])) rfl (by rw [hml]; rfl) (argsL := [(.int (-2147483648 : Int32))]) (rest := []) (lenOf pd_8 rfl) rfl (by show 2 * 0 + _ ≤ _; exact Nat.le_of_eq rfl) (hb hby d13_1) (fun _ _ => ⟨rfl, e0, (by decide : 0 + 0 ≤ _), (by decide : 0 + 0 ≤ _)⟩)
  dsimp only [Pt.U, Pt.locs, Pt.cells, Pt.slots] at X1 l1 y1 z1 st1 hQ1
  subst l1 y1 z1
  obtain ⟨rfl, N1q, e1⟩ := hQ1
  obtain ⟨Lg1, X1', N1⟩ := own_gen X1 (Fr.app N0 N1q)
  obtain ⟨T2, X2, e2, st2⟩ := getF X1' hx hZ hown (host := "") (Or.inl (hw _ (List.mem_of_getElem? (i := 87) rfl))) Via.refl e1 F_mask_a0 (g := (mkF m 6 #[.val (.ref a0), .val (.int (-2147483648 : Int32)), .val (.int (-2147483648 : Int32))] [(.ref a0)])) rfl rfl (hb hby d13_6)
  obtain ⟨T3, X3, e3, st3⟩ := getF X2 hx hZ hown (host := "") (Or.inl (hw _ (List.mem_of_getElem? (i := 78) rfl))) Via.refl e2 F_buckets_a0 (g := (mkF m 23 #[.val (.ref a0), .val (.int (-2147483648 : Int32)), .val (.int (-2147483648 : Int32))] [(.ref a0), (.int (-2147483648 : Int32))])) rfl rfl (hb hby d13_23)
  obtain ⟨fs, hr, hrun, hended, hW, hsame⟩ := X3.leave (v := some (.int (((-2147483648 : Int32) % w_buckets_a0).toInt8.toInt32))) (fun h => by rw [Bd.returns] at h; cases h)
  refine ⟨_, _, pre0 _ ?_, hrun, hended, _, _, rfl, ?_, ⟨_, rfl⟩, hW, hsame.mono (by decide) (by decide)⟩
  · show Steps p.tables e below (s₁.setTop (mkF m 0 #[.val (.ref a0), .val (.int (-2147483648 : Int32)), .unset] [])) _
    refine XS.iloadN X0.here hx rfl (hb hby d13_0) rfl ?_
    show Steps p.tables e below (s₁.setTop (mkF m 1 #[.val (.ref a0), .val (.int (-2147483648 : Int32)), .unset] [(.int (-2147483648 : Int32))])) _
    refine st1 _ ?_
    show Steps p.tables e below (T1.setTop (mkF m 4 #[.val (.ref a0), .val (.int (-2147483648 : Int32)), .unset] [(.int (-2147483648 : Int32))])) _
    refine XS.istoreN X1'.here hx rfl (hb hby d13_4) rfl (l' := #[.val (.ref a0), .val (.int (-2147483648 : Int32)), .val (.int (-2147483648 : Int32))]) rfl ?_
    show Steps p.tables e below (T1.setTop (mkF m 5 #[.val (.ref a0), .val (.int (-2147483648 : Int32)), .val (.int (-2147483648 : Int32))] [])) _
    refine XS.aloadN X1'.here hx rfl (hb hby d13_5) rfl rfl ?_
    show Steps p.tables e below (T1.setTop (mkF m 6 #[.val (.ref a0), .val (.int (-2147483648 : Int32)), .val (.int (-2147483648 : Int32))] [(.ref a0)])) _
    refine st2 _ ?_
    show Steps p.tables e below (T2.setTop (mkF m 9 #[.val (.ref a0), .val (.int (-2147483648 : Int32)), .val (.int (-2147483648 : Int32))] [(.int (-1 : Int32))])) _
    refine XS.ifYes X2.here hx rfl (pc0 := 9) (pc' := 21) rfl (hb hby d13_9) rfl ((if0 _ _).trans (tlt (by decide : (-1 : Int32) < (0 : Int32))).1) (by decide) (by decide) ?_
    show Steps p.tables e below (T2.setTop (mkF m 21 #[.val (.ref a0), .val (.int (-2147483648 : Int32)), .val (.int (-2147483648 : Int32))] [])) _
    refine XS.iloadN X2.here hx rfl (hb hby d13_21) rfl ?_
    show Steps p.tables e below (T2.setTop (mkF m 22 #[.val (.ref a0), .val (.int (-2147483648 : Int32)), .val (.int (-2147483648 : Int32))] [(.int (-2147483648 : Int32))])) _
    refine XS.aloadN X2.here hx rfl (hb hby d13_22) rfl rfl ?_
    show Steps p.tables e below (T2.setTop (mkF m 23 #[.val (.ref a0), .val (.int (-2147483648 : Int32)), .val (.int (-2147483648 : Int32))] [(.ref a0), (.int (-2147483648 : Int32))])) _
    refine st3 _ ?_
    show Steps p.tables e below (T3.setTop (mkF m 26 #[.val (.ref a0), .val (.int (-2147483648 : Int32)), .val (.int (-2147483648 : Int32))] [(.int w_buckets_a0), (.int (-2147483648 : Int32))])) _
    refine iremM X3 hx rfl (hb hby d13_26) rfl hc2 ?_
    show Steps p.tables e below (T3.setTop (mkF m 27 #[.val (.ref a0), .val (.int (-2147483648 : Int32)), .val (.int (-2147483648 : Int32))] [(.int ((-2147483648 : Int32) % w_buckets_a0))])) _
    refine XS.i2b X3.here hx rfl (hb hby d13_27) rfl ?_
    show Steps p.tables e below (T3.setTop (mkF m 28 #[.val (.ref a0), .val (.int (-2147483648 : Int32)), .val (.int (-2147483648 : Int32))] [(.int (((-2147483648 : Int32) % w_buckets_a0).toInt8.toInt32))])) _
    exact retN X3 hx (t := .byte) Bd.returns (by simp) (hb hby d13_28) (fun f acts q1 q2 q3 => by rw [(own_nb _)]; exact hr f acts q1 q2 q3)
  · show Q13b Z a0 w_buckets_a0 h0 n0 _ T3.heap _
    rw [e3]
    exact ⟨rfl, N1, rfl⟩
theorem d1_0 : decode prog_7_method_1_code 0 = .ok (.aload_n 0, 1) := by decide +kernel
theorem d1_1 : decode prog_7_method_1_code 1 = .ok (.aload_n 2, 1) := by decide +kernel
theorem d1_2 : decode prog_7_method_1_code 2 = .ok (.invokespecial 3, 3) := by decide +kernel
theorem d1_5 : decode prog_7_method_1_code 5 = .ok (.iload_n 1, 1) := by decide +kernel
theorem d1_6 : decode prog_7_method_1_code 6 = .ok (.iconst 1, 1) := by decide +kernel
theorem d1_7 : decode prog_7_method_1_code 7 = .ok (.if_icmp .lt 10, 3) := by decide +kernel
theorem d1_10 : decode prog_7_method_1_code 10 = .ok (.iload_n 1, 1) := by decide +kernel
theorem d1_11 : decode prog_7_method_1_code 11 = .ok (.sipush 256, 3) := by decide +kernel
theorem d1_14 : decode prog_7_method_1_code 14 = .ok (.if_icmp .le 36, 3) := by decide +kernel
theorem d1_50 : decode prog_7_method_1_code 50 = .ok (.aload_n 0, 1) := by decide +kernel
theorem d1_51 : decode prog_7_method_1_code 51 = .ok (.iload_n 1, 1) := by decide +kernel
theorem d1_52 : decode prog_7_method_1_code 52 = .ok (.putfield 28, 3) := by decide +kernel
theorem d1_55 : decode prog_7_method_1_code 55 = .ok (.aload_n 0, 1) := by decide +kernel
theorem d1_56 : decode prog_7_method_1_code 56 = .ok (.iload_n 1, 1) := by decide +kernel
theorem d1_57 : decode prog_7_method_1_code 57 = .ok (.invokestatic 32, 3) := by decide +kernel
theorem d1_60 : decode prog_7_method_1_code 60 = .ok (.iconst 1, 1) := by decide +kernel
theorem d1_61 : decode prog_7_method_1_code 61 = .ok (.if_icmp .ne 9, 3) := by decide +kernel
theorem d1_64 : decode prog_7_method_1_code 64 = .ok (.iload_n 1, 1) := by decide +kernel
theorem d1_65 : decode prog_7_method_1_code 65 = .ok (.iconst 1, 1) := by decide +kernel
theorem d1_66 : decode prog_7_method_1_code 66 = .ok (.isub, 1) := by decide +kernel
theorem d1_67 : decode prog_7_method_1_code 67 = .ok (.goto 4, 3) := by decide +kernel
theorem d1_71 : decode prog_7_method_1_code 71 = .ok (.putfield 36, 3) := by decide +kernel
theorem d1_74 : decode prog_7_method_1_code 74 = .ok (.aload_n 0, 1) := by decide +kernel
theorem d1_75 : decode prog_7_method_1_code 75 = .ok (.aload_n 0, 1) := by decide +kernel
theorem d1_76 : decode prog_7_method_1_code 76 = .ok (.ldc 39, 2) := by decide +kernel
theorem d1_78 : decode prog_7_method_1_code 78 = .ok (.invokevirtual 40, 3) := by decide +kernel
theorem pd_9 : parseMethodDescriptor "(I)B" = some ⟨[.int], some .byte⟩ := by decide +kernel
theorem d1_81 : decode prog_7_method_1_code 81 = .ok (.invokestatic 44, 3) := by decide +kernel
theorem pd_10 : parseMethodDescriptor "(B)I" = some ⟨[.byte], some .int⟩ := by decide +kernel
theorem d1_84 : decode prog_7_method_1_code 84 = .ok (.putfield 50, 3) := by decide +kernel
theorem d1_87 : decode prog_7_method_1_code 87 = .ok (.return_, 1) := by decide +kernel
theorem ef_rm10A (m : MethodId) (a0 : Addr) (p1 : Int32) (a2 : Addr) : entryFrame m #[(.ref a0), (.int p1), (.ref a2)] 3 = mkF m 0 #[.val (.ref a0), .val (.int p1), .val (.ref a2)] [] := by first | (simp [entryFrame, mkF, argsToLocals, Value.category]; done) | rfl
def Q10A (Z : State) (a0 : Addr) (p1 : Int32) (a2 : Addr) (aB : Addr) (kB : ClassId) (aU : Addr) (s_COMPACT_STRINGS : Int32) (h0 : Heap) (n0 : Nat) (v : Option Value) (h : Heap) (L : List Loc) : Prop := ∃ r0 : Addr, v = none ∧ Fr n0 L ∧ h0.size ≤ r0 ∧ Keep h0 h [a0] ∧ Exa Z h a0 "com/example/fireweed/fireweed/layout/Java31ByteSalt" ∧ Fld Z h a0 "com/example/fireweed/fireweed/layout/Salt" "suffix" "Ljava/lang/String;" (.ref a2) ∧ Fld Z h a0 "com/example/fireweed/fireweed/layout/Salt" "suffixBytes" "[B" (.ref r0) ∧ Fld Z h a0 "com/example/fireweed/fireweed/layout/Java31ByteSalt" "buckets" "I" (.int p1) ∧ Fld Z h a0 "com/example/fireweed/fireweed/layout/Java31ByteSalt" "mask" "I" (.int (p1 - (1 : Int32))) ∧ Fld Z h a0 "com/example/fireweed/fireweed/layout/Java31ByteSalt" "overflow" "I" (.int ((((-2147483648 : Int32) &&& (p1 - (1 : Int32))).toInt8.toInt32) &&& (255 : Int32))) ∧ Exa Z h r0 "[B" ∧ Arv Z h r0 kB .byte (0 : Int32) [] (.int (0 : Int32))
set_option maxRecDepth 65536 in
set_option maxHeartbeats 40000000 in
theorem rm10A (l : Launch) (Z : State) (az : Array Value) (hw : ∀ d ∈ tables_1, d.before az Z = true) (ws : List Jvm.Cond) (a0 : Addr) (p1 : Int32) (a2 : Addr) (aB : Addr) (kB : ClassId) (aU : Addr) (s_COMPACT_STRINGS : Int32) (h0 : Heap) (n0 : Nat) (Z0 : n0 ≤ h0.size) (E_a0 : Exa Z h0 a0 "com/example/fireweed/fireweed/layout/Java31ByteSalt") (F_suffix_a0 : Fld Z h0 a0 "com/example/fireweed/fireweed/layout/Salt" "suffix" "Ljava/lang/String;" .null) (F_suffixBytes_a0 : Fld Z h0 a0 "com/example/fireweed/fireweed/layout/Salt" "suffixBytes" "[B" .null) (F_buckets_a0 : Fld Z h0 a0 "com/example/fireweed/fireweed/layout/Java31ByteSalt" "buckets" "I" (.int (0 : Int32))) (F_mask_a0 : Fld Z h0 a0 "com/example/fireweed/fireweed/layout/Java31ByteSalt" "mask" "I" (.int (0 : Int32))) (F_overflow_a0 : Fld Z h0 a0 "com/example/fireweed/fireweed/layout/Java31ByteSalt" "overflow" "I" (.int (0 : Int32))) (E_a2 : Exa Z h0 a2 "java/lang/String") (F_coder_a2 : Fld Z h0 a2 "java/lang/String" "coder" "B" (.int (0 : Int32))) (F_value_a2 : Fld Z h0 a2 "java/lang/String" "value" "[B" (.ref aB)) (V_aB : Arv Z h0 aB kB .byte (0 : Int32) [] (.int (0 : Int32))) (E_aB : Exa Z h0 aB "[B") (S_INSTANCE : Sta Z h0 "sun/nio/cs/UTF_8" "INSTANCE" "Lsun/nio/cs/UTF_8;" (.ref aU)) (S_UTF_8 : Sta Z h0 "java/nio/charset/StandardCharsets" "UTF_8" "Ljava/nio/charset/Charset;" (.ref aU)) (S_COMPACT_STRINGS : Sta Z h0 "java/lang/String" "COMPACT_STRINGS" "Z" (.int s_COMPACT_STRINGS)) (g_a0 : n0 ≤ a0) (hne_a2_a0 : a2 ≠ a0) (hne_aB_a0 : aB ≠ a0) (hc17 : ¬ (s_COMPACT_STRINGS = (0 : Int32))) (hc18 : ¬ (p1 < (1 : Int32))) (hc19 : ¬ ((256 : Int32) < p1)) (hc20 : (own_bc p1) = (1 : Int32)) (hc21 : ¬ ((p1 - (1 : Int32)) < (0 : Int32))) :
    MetFree l (⟨"com/example/fireweed/fireweed/layout/Java31ByteSalt", "<init>", "(ILjava/lang/String;)V"⟩ : MethodName) (head1 (Jvm.Cond.code (⟨"com/example/fireweed/fireweed/layout/Java31ByteSalt", "<init>", "(ILjava/lang/String;)V"⟩ : MethodName) prog_7_method_1_code 3 none :: ws) ({ frames := 7, cells := 3, slots := 28, locals := 104 } : Room)) (fun a U => a = #[(.ref a0), (.int p1), (.ref a2)] ∧ Z.Warmed39 U.vm ∧ U.heap = h0) (fun _ _ _ _ _ => True) (fun _ U o U' => ∃ v L, o = .returned v ∧ Q10A Z a0 p1 a2 aB kB aU s_COMPACT_STRINGS h0 n0 v U'.heap L ∧ ReturnedEndW U o U' L ({ frames := 7, cells := 3, slots := 28, locals := 104 } : Room).cells ({ frames := 7, cells := 3, slots := 28, locals := 104 } : Room).slots) := by
  refine MetFree.of_bodySF (plainFor_of_name pn_com_example_fireweed_fireweed_layout_Java31ByteSalt) hisR ?_
  intro p e s m args below meth c s₁ Bd hml0 hP hK
  obtain ⟨rfl, hZ, hh⟩ := hP
  have hx := Bd.exec
  have hby := Bd.bytes
  have hml : c.maxLocals = 3 := hml0
  have hown : s.vm.findClass "com/example/fireweed/fireweed/layout/Java31ByteSalt" = some m.cls := findClass_of_methodNamed Bd.named
  have hnm := (name_of_methodNamed Bd.named Bd.method).1
  have X0 : Stand p l e ({ frames := 7, cells := 3, slots := 28, locals := 104 } : Room) s m #[(.ref a0), (.int p1), (.ref a2)] below meth c s₁ [] 0 0 := Stand.of_body Bd
  have e0 : s₁.heap = h0 := by rw [← hh, Bd.state]; rfl
  have N0 := Fr.nil n0
  have pre0 : ∀ t, Steps p.tables e below (s₁.setTop (mkF m 0 #[.val (.ref a0), .val (.int p1), .val (.ref a2)] [])) t → Steps p.tables e below (s₁.setTop (entryFrame m #[(.ref a0), (.int p1), (.ref a2)] 3)) t := fun t k => castTop (ef_rm10A m a0 p1 a2) k
  have hS0 : s.Since s.vm 0 := (State.WarmedH.refl s).since 0
  have wS : ∀ a ∈ Bundle.stringAtoms, a.before az Z = true := fun d hd => by
    simp only [Bundle.stringAtoms, List.mem_cons, List.not_mem_nil, or_false] at hd
    rcases hd with rfl | rfl | rfl | rfl | rfl | rfl | rfl
    · exact (hw _ (List.mem_of_getElem? (i := 5) rfl))
    · exact (hw _ (List.mem_of_getElem? (i := 6) rfl))
    · exact (hw _ (List.mem_of_getElem? (i := 7) rfl))
    · exact (hw _ (List.mem_of_getElem? (i := 8) rfl))
    · exact (hw _ (List.mem_of_getElem? (i := 9) rfl))
    · exact (hw _ (List.mem_of_getElem? (i := 10) rfl))
    · exact (hw _ (List.mem_of_getElem? (i := 11) rfl))
  obtain ⟨_, _, ⟨T1, L1, k1', n1'⟩, -, Y1, yS1, yg1, ⟨Lc1, hQ1, l1, y1, z1⟩, st1⟩ := X0.specialBackS hx (y := (⟨"com/example/fireweed/fireweed/layout/BucketSalt", "<init>", "(Ljava/lang/String;)V"⟩ : MethodName)) rfl hown (mvT hZ (hw _ (List.mem_of_getElem? (i := 15) rfl))) (mvT hZ (hw _ (List.mem_of_getElem? (i := 16) rfl))) (mvT hZ (hw _ (List.mem_of_getElem? (i := 19) rfl))) (by decide) (backOfS (W := 0) (rm20 l Z az hw [] a0 a2 aB kB aU s_COMPACT_STRINGS h0 n0 Z0 E_a0 F_suffix_a0 F_suffixBytes_a0 F_buckets_a0 F_mask_a0 F_overflow_a0 E_a2 F_coder_a2 F_value_a2 V_aB E_aB S_INSTANCE S_UTF_8 S_COMPACT_STRINGS g_a0 hne_a2_a0 hne_aB_a0 hc17) hZ (hw _ (List.mem_of_getElem? (i := 19) rfl)) (hw _ (List.mem_of_getElem? (i := 18) rfl)) (by decide) (by decide)) (g := (mkF m 2 #[.val (.ref a0), .val (.int p1), .val (.ref a2)] [(.ref a2), (.ref a0)])) rfl (by rw [hml]; rfl) (Steps.refl _) (a := a0) (argsL := [(.ref a2)]) (rest := []) (lenOf pd_7 rfl) rfl (by show 2 * 0 + _ ≤ _; exact Nat.le_of_eq rfl) (hb hby d1_2) (fun _ _ => ⟨rfl, e0, (by decide : 0 + 3 ≤ _), (by decide : 0 + 28 ≤ _)⟩)
  dsimp only [Pt.U, Pt.locs, Pt.cells, Pt.slots] at Y1 yS1 yg1 l1 y1 z1 st1 hQ1
  subst l1 y1 z1
  obtain ⟨X1, hS1, hZ1, hown1⟩ := rebS (s := s) (vm0 := s.vm) hS0 (by rw [e0]; exact (Nat.zero_le _)) Y1 yS1 yg1 hZ hown
  obtain ⟨b1_0, rfl, N1q, s1_0, kq1, pf1_0, pf1_1, pf1_2, pf1_3, pf1_4, pf1_5, pf1_6, pf1_7⟩ := hQ1
  obtain ⟨Lg1, X1', N1⟩ := own_gen X1 (Fr.app N0 N1q)
  have g_b1_0 : n0 ≤ b1_0 := Nat.le_trans Z0 s1_0
  have sz_b1_0 : h0.size ≤ b1_0 := Nat.le_trans (Nat.le_refl _) s1_0
  have K1 : Keep h0 T1.heap [a0] := (Keep.refl h0 [a0]).trans kq1 (allS (Or.inl (List.mem_of_getElem? (i := 0) rfl)) all0)
  have Z1 : n0 ≤ T1.heap.size := Nat.le_trans Z0 kq1.1
  obtain ⟨T2, h2, X2, e2, W2, st2⟩ := putF X1' hx hZ1 hown1 (host := "") (Or.inl (hw _ (List.mem_of_getElem? (i := 78) rfl))) Via.refl rfl pf1_3 pf1_0 (Or.inr ⟨(hw _ (List.mem_of_getElem? (i := 79) rfl)), rfl, hnm⟩) (hw _ (List.mem_of_getElem? (i := 2) rfl)) (ty := .int) (by decide) rfl rfl (g := (mkF m 52 #[.val (.ref a0), .val (.int p1), .val (.ref a2)] [(.int p1), (.ref a0)])) rfl rfl (hb hby d1_52)
  have K2 : Keep h0 h2 [a0] := K1.wr W2 (Or.inl (List.mem_of_getElem? (i := 0) rfl))
  have Fw2 := pf1_3.same W2
  have Z2 : n0 ≤ h2.size := Nat.le_trans Z1 (Keep.of_wr W2).1
  obtain ⟨Lg2, X2', N2⟩ := own_gen X2 (Fr.snoc X2 N1 g_a0)
  obtain ⟨_, _, ⟨T3, L3, k3', n3'⟩, -, X3, ⟨Lc3, hQ3, l3, y3, z3⟩, st3⟩ := Jvm.LawKit.callS X2' hx (y := (⟨"java/lang/Integer", "bitCount", "(I)I"⟩ : MethodName)) hown1 (mvT hZ1 (hw _ (List.mem_of_getElem? (i := 80) rfl))) (mvT hZ1 (hw _ (List.mem_of_getElem? (i := 81) rfl))) (mvT hZ1 (hw _ (List.mem_of_getElem? (i := 82) rfl))) (mvT hZ1 (hw _ (List.mem_of_getElem? (i := 83) rfl))) (by decide) (backOf (W := 1) (rm12 l Z az hw [] p1 h2 n0 Z2) hZ1 (hw _ (List.mem_of_getElem? (i := 83) rfl)) (hw _ (List.mem_of_getElem? (i := 82) rfl)) (by decide) (by decide)) (g := (mkF m 57 #[.val (.ref a0), .val (.int p1), .val (.ref a2)] [(.int p1), (.ref a0)])) rfl (by rw [hml]; rfl) (argsL := [(.int p1)]) (rest := [(.ref a0)]) (lenOf pd_8 rfl) rfl (by show 2 * 0 + _ ≤ _; exact Nat.le_of_eq rfl) (hb hby d1_57) (fun _ _ => ⟨rfl, e2, (by decide : 3 + 0 ≤ _), (by decide : 28 + 0 ≤ _)⟩)
  dsimp only [Pt.U, Pt.locs, Pt.cells, Pt.slots] at X3 l3 y3 z3 st3 hQ3
  subst l3 y3 z3
  obtain ⟨rfl, N3q, e3⟩ := hQ3
  obtain ⟨Lg3, X3', N3⟩ := own_gen X3 (Fr.app N2 N3q)
  have sl4 := slot_ne (Z := Z) (Or.inr (hw _ (List.mem_of_getElem? (i := 88) rfl))) (Or.inr (hw _ (List.mem_of_getElem? (i := 79) rfl))) (by decide) (t := .int) (t' := .int) (by decide) (by decide)
  have F_a0_mask_u5 : Fld Z h2 a0 "com/example/fireweed/fireweed/layout/Java31ByteSalt" "mask" "I" (.int (0 : Int32)) := (pf1_4.other W2 (Or.inr sl4))
  have E_a0_u6 : Exa Z h2 a0 "com/example/fireweed/fireweed/layout/Java31ByteSalt" := (pf1_0.wr W2)
  obtain ⟨T7, h7, X7, e7, W7, st7⟩ := putF X3' hx hZ1 hown1 (host := "") (Or.inl (hw _ (List.mem_of_getElem? (i := 87) rfl))) Via.refl e3 F_a0_mask_u5 E_a0_u6 (Or.inr ⟨(hw _ (List.mem_of_getElem? (i := 88) rfl)), rfl, hnm⟩) (hw _ (List.mem_of_getElem? (i := 2) rfl)) (ty := .int) (by decide) rfl rfl (g := (mkF m 71 #[.val (.ref a0), .val (.int p1), .val (.ref a2)] [(.int (p1 - (1 : Int32))), (.ref a0)])) rfl rfl (hb hby d1_71)
  have K7 : Keep h0 h7 [a0] := K2.wr W7 (Or.inl (List.mem_of_getElem? (i := 0) rfl))
  have Fw7 := F_a0_mask_u5.same W7
  have Z7 : n0 ≤ h7.size := Nat.le_trans Z2 (Keep.of_wr W7).1
  obtain ⟨Lg7, X7', N7⟩ := own_gen X7 (Fr.snoc X7 N3 g_a0)
  have E_a0_u9 : Exa Z h7 a0 "com/example/fireweed/fireweed/layout/Java31ByteSalt" := (E_a0_u6.wr W7)
  obtain ⟨cq8, q8, q8'⟩ := E_a0_u9.cell
  obtain ⟨_, _, ⟨T8, L8, k8', n8'⟩, -, X8, ⟨Lc8, hQ8, l8, y8, z8⟩, st8⟩ := X7'.privateBack hx (y := (⟨"com/example/fireweed/fireweed/layout/Java31ByteSalt", "saltOf", "(I)B"⟩ : MethodName)) hown1 (mvT hZ1 (hw _ (List.mem_of_getElem? (i := 90) rfl))) (mvT hZ1 (hw _ (List.mem_of_getElem? (i := 91) rfl))) (own_priv (mvT hZ1 (hw _ (List.mem_of_getElem? (i := 2) rfl))) (Cond.privateMethod_at (mvP hZ1 (hw _ (List.mem_of_getElem? (i := 92) rfl)) (args := #[]))) (mvT hZ1 (hw _ (List.mem_of_getElem? (i := 91) rfl))) (by decide)) (Cond.privateMethod_at (mvP hZ1 (hw _ (List.mem_of_getElem? (i := 92) rfl)) (args := #[]))) (mvT hZ1 (hw _ (List.mem_of_getElem? (i := 93) rfl))) (by decide) (backOf (W := 1) (rm13m l Z az hw [] a0 (p1 - (1 : Int32)) h7 n0 Z7 Fw7 hc21) hZ1 (hw _ (List.mem_of_getElem? (i := 93) rfl)) (hw _ (List.mem_of_getElem? (i := 3) rfl)) (by decide) (by decide)) (g := (mkF m 78 #[.val (.ref a0), .val (.int p1), .val (.ref a2)] [(.int (-2147483648 : Int32)), (.ref a0), (.ref a0)])) rfl (by rw [hml]; rfl) (Steps.refl _) (a := a0) (by rw [e7]; exact q8) q8' (argsL := [(.int (-2147483648 : Int32))]) (rest := [(.ref a0)]) (lenOf pd_9 rfl) rfl (by show 2 * 0 + _ ≤ _; exact Nat.le_of_eq rfl) (hb hby d1_78) (fun _ _ => ⟨rfl, e7, (by decide : 3 + 0 ≤ _), (by decide : 28 + 0 ≤ _)⟩)
  dsimp only [Pt.U, Pt.locs, Pt.cells, Pt.slots] at X8 l8 y8 z8 st8 hQ8
  subst l8 y8 z8
  obtain ⟨rfl, N8q, e8⟩ := hQ8
  obtain ⟨Lg8, X8', N8⟩ := own_gen X8 (Fr.app N7 N8q)
  obtain ⟨_, _, ⟨T10, L10, k10', n10'⟩, -, X10, ⟨Lc10, hQ10, l10, y10, z10⟩, st10⟩ := Jvm.LawKit.callS X8' hx (y := (⟨"java/lang/Byte", "toUnsignedInt", "(B)I"⟩ : MethodName)) hown1 (mvT hZ1 (hw _ (List.mem_of_getElem? (i := 98) rfl))) (mvT hZ1 (hw _ (List.mem_of_getElem? (i := 99) rfl))) (mvT hZ1 (hw _ (List.mem_of_getElem? (i := 100) rfl))) (mvT hZ1 (hw _ (List.mem_of_getElem? (i := 101) rfl))) (by decide) (backOf (W := 1) (rm15 l Z az hw [] (((-2147483648 : Int32) &&& (p1 - (1 : Int32))).toInt8.toInt32) h7 n0 Z7) hZ1 (hw _ (List.mem_of_getElem? (i := 101) rfl)) (hw _ (List.mem_of_getElem? (i := 100) rfl)) (by decide) (by decide)) (g := (mkF m 81 #[.val (.ref a0), .val (.int p1), .val (.ref a2)] [(.int (((-2147483648 : Int32) &&& (p1 - (1 : Int32))).toInt8.toInt32)), (.ref a0)])) rfl (by rw [hml]; rfl) (argsL := [(.int (((-2147483648 : Int32) &&& (p1 - (1 : Int32))).toInt8.toInt32))]) (rest := [(.ref a0)]) (lenOf pd_10 rfl) rfl (by show 2 * 0 + _ ≤ _; exact Nat.le_of_eq rfl) (hb hby d1_81) (fun _ _ => ⟨rfl, e8, (by decide : 3 + 0 ≤ _), (by decide : 28 + 0 ≤ _)⟩)
  dsimp only [Pt.U, Pt.locs, Pt.cells, Pt.slots] at X10 l10 y10 z10 st10 hQ10
  subst l10 y10 z10
  obtain ⟨rfl, N10q, e10⟩ := hQ10
  obtain ⟨Lg10, X10', N10⟩ := own_gen X10 (Fr.app N8 N10q)
  have sl11 := slot_ne (Z := Z) (Or.inr (hw _ (List.mem_of_getElem? (i := 103) rfl))) (Or.inr (hw _ (List.mem_of_getElem? (i := 79) rfl))) (by decide) (t := .int) (t' := .int) (by decide) (by decide)
  have sl12 := slot_ne (Z := Z) (Or.inr (hw _ (List.mem_of_getElem? (i := 103) rfl))) (Or.inr (hw _ (List.mem_of_getElem? (i := 88) rfl))) (by decide) (t := .int) (t' := .int) (by decide) (by decide)
  have F_a0_overflow_u13 : Fld Z h7 a0 "com/example/fireweed/fireweed/layout/Java31ByteSalt" "overflow" "I" (.int (0 : Int32)) := ((pf1_5.other W2 (Or.inr sl11)).other W7 (Or.inr sl12))
  obtain ⟨T14, h14, X14, e14, W14, st14⟩ := putF X10' hx hZ1 hown1 (host := "") (Or.inl (hw _ (List.mem_of_getElem? (i := 102) rfl))) Via.refl e10 F_a0_overflow_u13 E_a0_u9 (Or.inr ⟨(hw _ (List.mem_of_getElem? (i := 103) rfl)), rfl, hnm⟩) (hw _ (List.mem_of_getElem? (i := 2) rfl)) (ty := .int) (by decide) rfl rfl (g := (mkF m 84 #[.val (.ref a0), .val (.int p1), .val (.ref a2)] [(.int ((((-2147483648 : Int32) &&& (p1 - (1 : Int32))).toInt8.toInt32) &&& (255 : Int32))), (.ref a0)])) rfl rfl (hb hby d1_84)
  have K14 : Keep h0 h14 [a0] := K7.wr W14 (Or.inl (List.mem_of_getElem? (i := 0) rfl))
  have Fw14 := F_a0_overflow_u13.same W14
  have Z14 : n0 ≤ h14.size := Nat.le_trans Z7 (Keep.of_wr W14).1
  obtain ⟨Lg14, X14', N14⟩ := own_gen X14 (Fr.snoc X14 N10 g_a0)
  have E_a0_u15 : Exa Z h14 a0 "com/example/fireweed/fireweed/layout/Java31ByteSalt" := (E_a0_u9.wr W14)
  have sl16 := slot_ne (Z := Z) (Or.inr (hw _ (List.mem_of_getElem? (i := 36) rfl))) (Or.inr (hw _ (List.mem_of_getElem? (i := 79) rfl))) (by decide) (t := (.object "java/lang/String")) (t' := .int) (by decide) (by decide)
  have sl17 := slot_ne (Z := Z) (Or.inr (hw _ (List.mem_of_getElem? (i := 36) rfl))) (Or.inr (hw _ (List.mem_of_getElem? (i := 88) rfl))) (by decide) (t := (.object "java/lang/String")) (t' := .int) (by decide) (by decide)
  have sl18 := slot_ne (Z := Z) (Or.inr (hw _ (List.mem_of_getElem? (i := 36) rfl))) (Or.inr (hw _ (List.mem_of_getElem? (i := 103) rfl))) (by decide) (t := (.object "java/lang/String")) (t' := .int) (by decide) (by decide)
  have F_a0_suffix_u19 : Fld Z h14 a0 "com/example/fireweed/fireweed/layout/Salt" "suffix" "Ljava/lang/String;" (.ref a2) := (((pf1_1.other W2 (Or.inr sl16)).other W7 (Or.inr sl17)).other W14 (Or.inr sl18))
  have sl20 := slot_ne (Z := Z) (Or.inr (hw _ (List.mem_of_getElem? (i := 77) rfl))) (Or.inr (hw _ (List.mem_of_getElem? (i := 79) rfl))) (by decide) (t := (.array .byte)) (t' := .int) (by decide) (by decide)
  have sl21 := slot_ne (Z := Z) (Or.inr (hw _ (List.mem_of_getElem? (i := 77) rfl))) (Or.inr (hw _ (List.mem_of_getElem? (i := 88) rfl))) (by decide) (t := (.array .byte)) (t' := .int) (by decide) (by decide)
  have sl22 := slot_ne (Z := Z) (Or.inr (hw _ (List.mem_of_getElem? (i := 77) rfl))) (Or.inr (hw _ (List.mem_of_getElem? (i := 103) rfl))) (by decide) (t := (.array .byte)) (t' := .int) (by decide) (by decide)
  have F_a0_suffixBytes_u23 : Fld Z h14 a0 "com/example/fireweed/fireweed/layout/Salt" "suffixBytes" "[B" (.ref b1_0) := (((pf1_2.other W2 (Or.inr sl20)).other W7 (Or.inr sl21)).other W14 (Or.inr sl22))
  have sl24 := slot_ne (Z := Z) (Or.inr (hw _ (List.mem_of_getElem? (i := 79) rfl))) (Or.inr (hw _ (List.mem_of_getElem? (i := 88) rfl))) (by decide) (t := .int) (t' := .int) (by decide) (by decide)
  have sl25 := slot_ne (Z := Z) (Or.inr (hw _ (List.mem_of_getElem? (i := 79) rfl))) (Or.inr (hw _ (List.mem_of_getElem? (i := 103) rfl))) (by decide) (t := .int) (t' := .int) (by decide) (by decide)
  have F_a0_buckets_u26 : Fld Z h14 a0 "com/example/fireweed/fireweed/layout/Java31ByteSalt" "buckets" "I" (.int p1) := ((Fw2.other W7 (Or.inr sl24)).other W14 (Or.inr sl25))
  have sl27 := slot_ne (Z := Z) (Or.inr (hw _ (List.mem_of_getElem? (i := 88) rfl))) (Or.inr (hw _ (List.mem_of_getElem? (i := 103) rfl))) (by decide) (t := .int) (t' := .int) (by decide) (by decide)
  have F_a0_mask_u28 : Fld Z h14 a0 "com/example/fireweed/fireweed/layout/Java31ByteSalt" "mask" "I" (.int (p1 - (1 : Int32))) := (Fw7.other W14 (Or.inr sl27))
  have E_b1_0_u29 : Exa Z h14 b1_0 "[B" := (((pf1_6.wr W2).wr W7).wr W14)
  have ne_a0_b1_0 : a0 ≠ b1_0 := own_ne (Nat.lt_of_lt_of_le E_a0.lt s1_0)
  have V_b1_0_u30 : Arv Z h14 b1_0 kB .byte (0 : Int32) [] (.int (0 : Int32)) := (((pf1_7.other W2 (Ne.symm ne_a0_b1_0)).other W7 (Ne.symm ne_a0_b1_0)).other W14 (Ne.symm ne_a0_b1_0))
  obtain ⟨fs, hr, hrun, hended, hWE⟩ := X14'.leaveW (s := s) hS1 (by rw [e14]; exact (Nat.le_trans (Nat.le_trans (Nat.le_trans (Nat.le_refl _) (Keep.of_wr W2).1) (Keep.of_wr W7).1) (Keep.of_wr W14).1)) (v := none) (fun _ => rfl)
  refine ⟨_, _, pre0 _ ?_, hrun, hended, _, _, rfl, ?_, hWE.1, hWE.2.1, hWE.2.2.1, hWE.2.2.2.mono (by decide) (by decide)⟩
  · show Steps p.tables e below (s₁.setTop (mkF m 0 #[.val (.ref a0), .val (.int p1), .val (.ref a2)] [])) _
    refine XS.aloadN X0.here hx rfl (hb hby d1_0) rfl rfl ?_
    show Steps p.tables e below (s₁.setTop (mkF m 1 #[.val (.ref a0), .val (.int p1), .val (.ref a2)] [(.ref a0)])) _
    refine XS.aloadN X0.here hx rfl (hb hby d1_1) rfl rfl ?_
    show Steps p.tables e below (s₁.setTop (mkF m 2 #[.val (.ref a0), .val (.int p1), .val (.ref a2)] [(.ref a2), (.ref a0)])) _
    refine st1.trans ?_
    show Steps p.tables e below (T1.setTop (mkF m 5 #[.val (.ref a0), .val (.int p1), .val (.ref a2)] [])) _
    refine XS.iloadN X1'.here hx rfl (hb hby d1_5) rfl ?_
    show Steps p.tables e below (T1.setTop (mkF m 6 #[.val (.ref a0), .val (.int p1), .val (.ref a2)] [(.int p1)])) _
    refine XS.iconst X1'.here hx rfl (hb hby d1_6) ?_
    show Steps p.tables e below (T1.setTop (mkF m 7 #[.val (.ref a0), .val (.int p1), .val (.ref a2)] [(.int (1 : Int32)), (.int p1)])) _
    refine XS.icmpNo X1'.here hx rfl (hb hby d1_7) rfl (flt hc18).1 ?_
    show Steps p.tables e below (T1.setTop (mkF m 10 #[.val (.ref a0), .val (.int p1), .val (.ref a2)] [])) _
    refine XS.iloadN X1'.here hx rfl (hb hby d1_10) rfl ?_
    show Steps p.tables e below (T1.setTop (mkF m 11 #[.val (.ref a0), .val (.int p1), .val (.ref a2)] [(.int p1)])) _
    refine XS.sipush X1'.here hx rfl (hb hby d1_11) ?_
    show Steps p.tables e below (T1.setTop (mkF m 14 #[.val (.ref a0), .val (.int p1), .val (.ref a2)] [(.int (256 : Int32)), (.int p1)])) _
    refine XS.icmpYes X1'.here hx rfl (pc0 := 14) (pc' := 50) rfl (hb hby d1_14) rfl (flt hc19).2.2.2 (by decide) (by decide) ?_
    show Steps p.tables e below (T1.setTop (mkF m 50 #[.val (.ref a0), .val (.int p1), .val (.ref a2)] [])) _
    refine XS.aloadN X1'.here hx rfl (hb hby d1_50) rfl rfl ?_
    show Steps p.tables e below (T1.setTop (mkF m 51 #[.val (.ref a0), .val (.int p1), .val (.ref a2)] [(.ref a0)])) _
    refine XS.iloadN X1'.here hx rfl (hb hby d1_51) rfl ?_
    show Steps p.tables e below (T1.setTop (mkF m 52 #[.val (.ref a0), .val (.int p1), .val (.ref a2)] [(.int p1), (.ref a0)])) _
    refine st2 _ ?_
    show Steps p.tables e below (T2.setTop (mkF m 55 #[.val (.ref a0), .val (.int p1), .val (.ref a2)] [])) _
    refine XS.aloadN X2'.here hx rfl (hb hby d1_55) rfl rfl ?_
    show Steps p.tables e below (T2.setTop (mkF m 56 #[.val (.ref a0), .val (.int p1), .val (.ref a2)] [(.ref a0)])) _
    refine XS.iloadN X2'.here hx rfl (hb hby d1_56) rfl ?_
    show Steps p.tables e below (T2.setTop (mkF m 57 #[.val (.ref a0), .val (.int p1), .val (.ref a2)] [(.int p1), (.ref a0)])) _
    refine st3 _ ?_
    show Steps p.tables e below (T3.setTop (mkF m 60 #[.val (.ref a0), .val (.int p1), .val (.ref a2)] [(.int (own_bc p1)), (.ref a0)])) _
    refine XS.iconst X3'.here hx rfl (hb hby d1_60) ?_
    show Steps p.tables e below (T3.setTop (mkF m 61 #[.val (.ref a0), .val (.int p1), .val (.ref a2)] [(.int (1 : Int32)), (.int (own_bc p1)), (.ref a0)])) _
    refine XS.icmpNo X3'.here hx rfl (hb hby d1_61) rfl (teq hc20).2 ?_
    show Steps p.tables e below (T3.setTop (mkF m 64 #[.val (.ref a0), .val (.int p1), .val (.ref a2)] [(.ref a0)])) _
    refine XS.iloadN X3'.here hx rfl (hb hby d1_64) rfl ?_
    show Steps p.tables e below (T3.setTop (mkF m 65 #[.val (.ref a0), .val (.int p1), .val (.ref a2)] [(.int p1), (.ref a0)])) _
    refine XS.iconst X3'.here hx rfl (hb hby d1_65) ?_
    show Steps p.tables e below (T3.setTop (mkF m 66 #[.val (.ref a0), .val (.int p1), .val (.ref a2)] [(.int (1 : Int32)), (.int p1), (.ref a0)])) _
    refine XS.isub X3'.here hx rfl (hb hby d1_66) rfl ?_
    show Steps p.tables e below (T3.setTop (mkF m 67 #[.val (.ref a0), .val (.int p1), .val (.ref a2)] [(.int (p1 - (1 : Int32))), (.ref a0)])) _
    refine XS.goto X3'.here hx rfl (pc0 := 67) (pc' := 71) rfl (hb hby d1_67) (by decide) (by decide) ?_
    show Steps p.tables e below (T3.setTop (mkF m 71 #[.val (.ref a0), .val (.int p1), .val (.ref a2)] [(.int (p1 - (1 : Int32))), (.ref a0)])) _
    refine st7 _ ?_
    show Steps p.tables e below (T7.setTop (mkF m 74 #[.val (.ref a0), .val (.int p1), .val (.ref a2)] [])) _
    refine XS.aloadN X7'.here hx rfl (hb hby d1_74) rfl rfl ?_
    show Steps p.tables e below (T7.setTop (mkF m 75 #[.val (.ref a0), .val (.int p1), .val (.ref a2)] [(.ref a0)])) _
    refine XS.aloadN X7'.here hx rfl (hb hby d1_75) rfl rfl ?_
    show Steps p.tables e below (T7.setTop (mkF m 76 #[.val (.ref a0), .val (.int p1), .val (.ref a2)] [(.ref a0), (.ref a0)])) _
    refine X7'.ldcInt hx hown1 (mvT hZ1 (hw _ (List.mem_of_getElem? (i := 89) rfl))) (g := (mkF m 76 #[.val (.ref a0), .val (.int p1), .val (.ref a2)] [(.ref a0), (.ref a0)])) rfl (hb hby d1_76) _ ?_
    show Steps p.tables e below (T7.setTop (mkF m 78 #[.val (.ref a0), .val (.int p1), .val (.ref a2)] [(.int (-2147483648 : Int32)), (.ref a0), (.ref a0)])) _
    refine st8.trans ?_
    show Steps p.tables e below (T8.setTop (mkF m 81 #[.val (.ref a0), .val (.int p1), .val (.ref a2)] [(.int (((-2147483648 : Int32) &&& (p1 - (1 : Int32))).toInt8.toInt32)), (.ref a0)])) _
    refine st10 _ ?_
    show Steps p.tables e below (T10.setTop (mkF m 84 #[.val (.ref a0), .val (.int p1), .val (.ref a2)] [(.int ((((-2147483648 : Int32) &&& (p1 - (1 : Int32))).toInt8.toInt32) &&& (255 : Int32))), (.ref a0)])) _
    refine st14 _ ?_
    show Steps p.tables e below (T14.setTop (mkF m 87 #[.val (.ref a0), .val (.int p1), .val (.ref a2)] [])) _
    exact X14'.returnOut hx Bd.returns (hb hby d1_87) hr
  · show Q10A Z a0 p1 a2 aB kB aU s_COMPACT_STRINGS h0 n0 _ T14.heap _
    rw [e14]
    exact ⟨b1_0, rfl, N14, sz_b1_0, K14, E_a0_u15, F_a0_suffix_u19, F_a0_suffixBytes_u23, F_a0_buckets_u26, F_a0_mask_u28, Fw14, E_b1_0_u29, V_b1_0_u30⟩
theorem d1_70 : decode prog_7_method_1_code 70 = .ok (.iconst (-1), 1) := by decide +kernel
theorem ef_rm10B (m : MethodId) (a0 : Addr) (p1 : Int32) (a2 : Addr) : entryFrame m #[(.ref a0), (.int p1), (.ref a2)] 3 = mkF m 0 #[.val (.ref a0), .val (.int p1), .val (.ref a2)] [] := by first | (simp [entryFrame, mkF, argsToLocals, Value.category]; done) | rfl
def Q10B (Z : State) (a0 : Addr) (p1 : Int32) (a2 : Addr) (aB : Addr) (kB : ClassId) (aU : Addr) (s_COMPACT_STRINGS : Int32) (h0 : Heap) (n0 : Nat) (v : Option Value) (h : Heap) (L : List Loc) : Prop := ∃ r0 : Addr, v = none ∧ Fr n0 L ∧ h0.size ≤ r0 ∧ Keep h0 h [a0] ∧ Exa Z h a0 "com/example/fireweed/fireweed/layout/Java31ByteSalt" ∧ Fld Z h a0 "com/example/fireweed/fireweed/layout/Salt" "suffix" "Ljava/lang/String;" (.ref a2) ∧ Fld Z h a0 "com/example/fireweed/fireweed/layout/Salt" "suffixBytes" "[B" (.ref r0) ∧ Fld Z h a0 "com/example/fireweed/fireweed/layout/Java31ByteSalt" "buckets" "I" (.int p1) ∧ Fld Z h a0 "com/example/fireweed/fireweed/layout/Java31ByteSalt" "mask" "I" (.int (-1 : Int32)) ∧ Fld Z h a0 "com/example/fireweed/fireweed/layout/Java31ByteSalt" "overflow" "I" (.int ((((-2147483648 : Int32) % p1).toInt8.toInt32) &&& (255 : Int32))) ∧ Exa Z h r0 "[B" ∧ Arv Z h r0 kB .byte (0 : Int32) [] (.int (0 : Int32))
set_option maxRecDepth 65536 in
set_option maxHeartbeats 40000000 in
theorem rm10B (l : Launch) (Z : State) (az : Array Value) (hw : ∀ d ∈ tables_1, d.before az Z = true) (ws : List Jvm.Cond) (a0 : Addr) (p1 : Int32) (a2 : Addr) (aB : Addr) (kB : ClassId) (aU : Addr) (s_COMPACT_STRINGS : Int32) (h0 : Heap) (n0 : Nat) (Z0 : n0 ≤ h0.size) (E_a0 : Exa Z h0 a0 "com/example/fireweed/fireweed/layout/Java31ByteSalt") (F_suffix_a0 : Fld Z h0 a0 "com/example/fireweed/fireweed/layout/Salt" "suffix" "Ljava/lang/String;" .null) (F_suffixBytes_a0 : Fld Z h0 a0 "com/example/fireweed/fireweed/layout/Salt" "suffixBytes" "[B" .null) (F_buckets_a0 : Fld Z h0 a0 "com/example/fireweed/fireweed/layout/Java31ByteSalt" "buckets" "I" (.int (0 : Int32))) (F_mask_a0 : Fld Z h0 a0 "com/example/fireweed/fireweed/layout/Java31ByteSalt" "mask" "I" (.int (0 : Int32))) (F_overflow_a0 : Fld Z h0 a0 "com/example/fireweed/fireweed/layout/Java31ByteSalt" "overflow" "I" (.int (0 : Int32))) (E_a2 : Exa Z h0 a2 "java/lang/String") (F_coder_a2 : Fld Z h0 a2 "java/lang/String" "coder" "B" (.int (0 : Int32))) (F_value_a2 : Fld Z h0 a2 "java/lang/String" "value" "[B" (.ref aB)) (V_aB : Arv Z h0 aB kB .byte (0 : Int32) [] (.int (0 : Int32))) (E_aB : Exa Z h0 aB "[B") (S_INSTANCE : Sta Z h0 "sun/nio/cs/UTF_8" "INSTANCE" "Lsun/nio/cs/UTF_8;" (.ref aU)) (S_UTF_8 : Sta Z h0 "java/nio/charset/StandardCharsets" "UTF_8" "Ljava/nio/charset/Charset;" (.ref aU)) (S_COMPACT_STRINGS : Sta Z h0 "java/lang/String" "COMPACT_STRINGS" "Z" (.int s_COMPACT_STRINGS)) (g_a0 : n0 ≤ a0) (hne_a2_a0 : a2 ≠ a0) (hne_aB_a0 : aB ≠ a0) (hc17 : ¬ (s_COMPACT_STRINGS = (0 : Int32))) (hc18 : ¬ (p1 < (1 : Int32))) (hc19 : ¬ ((256 : Int32) < p1)) (hc20 : ¬ ((own_bc p1) = (1 : Int32))) (hc21 : p1 ≠ (0 : Int32)) :
    MetFree l (⟨"com/example/fireweed/fireweed/layout/Java31ByteSalt", "<init>", "(ILjava/lang/String;)V"⟩ : MethodName) (head1 (Jvm.Cond.code (⟨"com/example/fireweed/fireweed/layout/Java31ByteSalt", "<init>", "(ILjava/lang/String;)V"⟩ : MethodName) prog_7_method_1_code 3 none :: ws) ({ frames := 7, cells := 3, slots := 28, locals := 104 } : Room)) (fun a U => a = #[(.ref a0), (.int p1), (.ref a2)] ∧ Z.Warmed39 U.vm ∧ U.heap = h0) (fun _ _ _ _ _ => True) (fun _ U o U' => ∃ v L, o = .returned v ∧ Q10B Z a0 p1 a2 aB kB aU s_COMPACT_STRINGS h0 n0 v U'.heap L ∧ ReturnedEndW U o U' L ({ frames := 7, cells := 3, slots := 28, locals := 104 } : Room).cells ({ frames := 7, cells := 3, slots := 28, locals := 104 } : Room).slots) := by
  refine MetFree.of_bodySF (plainFor_of_name pn_com_example_fireweed_fireweed_layout_Java31ByteSalt) hisR ?_
  intro p e s m args below meth c s₁ Bd hml0 hP hK
  obtain ⟨rfl, hZ, hh⟩ := hP
  have hx := Bd.exec
  have hby := Bd.bytes
  have hml : c.maxLocals = 3 := hml0
  have hown : s.vm.findClass "com/example/fireweed/fireweed/layout/Java31ByteSalt" = some m.cls := findClass_of_methodNamed Bd.named
  have hnm := (name_of_methodNamed Bd.named Bd.method).1
  have X0 : Stand p l e ({ frames := 7, cells := 3, slots := 28, locals := 104 } : Room) s m #[(.ref a0), (.int p1), (.ref a2)] below meth c s₁ [] 0 0 := Stand.of_body Bd
  have e0 : s₁.heap = h0 := by rw [← hh, Bd.state]; rfl
  have N0 := Fr.nil n0
  have pre0 : ∀ t, Steps p.tables e below (s₁.setTop (mkF m 0 #[.val (.ref a0), .val (.int p1), .val (.ref a2)] [])) t → Steps p.tables e below (s₁.setTop (entryFrame m #[(.ref a0), (.int p1), (.ref a2)] 3)) t := fun t k => castTop (ef_rm10B m a0 p1 a2) k
  have hS0 : s.Since s.vm 0 := (State.WarmedH.refl s).since 0
  have wS : ∀ a ∈ Bundle.stringAtoms, a.before az Z = true := fun d hd => by
    simp only [Bundle.stringAtoms, List.mem_cons, List.not_mem_nil, or_false] at hd
    rcases hd with rfl | rfl | rfl | rfl | rfl | rfl | rfl
    · exact (hw _ (List.mem_of_getElem? (i := 5) rfl))
    · exact (hw _ (List.mem_of_getElem? (i := 6) rfl))
    · exact (hw _ (List.mem_of_getElem? (i := 7) rfl))
    · exact (hw _ (List.mem_of_getElem? (i := 8) rfl))
    · exact (hw _ (List.mem_of_getElem? (i := 9) rfl))
    · exact (hw _ (List.mem_of_getElem? (i := 10) rfl))
    · exact (hw _ (List.mem_of_getElem? (i := 11) rfl))
  obtain ⟨_, _, ⟨T1, L1, k1', n1'⟩, -, Y1, yS1, yg1, ⟨Lc1, hQ1, l1, y1, z1⟩, st1⟩ := X0.specialBackS hx (y := (⟨"com/example/fireweed/fireweed/layout/BucketSalt", "<init>", "(Ljava/lang/String;)V"⟩ : MethodName)) rfl hown (mvT hZ (hw _ (List.mem_of_getElem? (i := 15) rfl))) (mvT hZ (hw _ (List.mem_of_getElem? (i := 16) rfl))) (mvT hZ (hw _ (List.mem_of_getElem? (i := 19) rfl))) (by decide) (backOfS (W := 0) (rm20 l Z az hw [] a0 a2 aB kB aU s_COMPACT_STRINGS h0 n0 Z0 E_a0 F_suffix_a0 F_suffixBytes_a0 F_buckets_a0 F_mask_a0 F_overflow_a0 E_a2 F_coder_a2 F_value_a2 V_aB E_aB S_INSTANCE S_UTF_8 S_COMPACT_STRINGS g_a0 hne_a2_a0 hne_aB_a0 hc17) hZ (hw _ (List.mem_of_getElem? (i := 19) rfl)) (hw _ (List.mem_of_getElem? (i := 18) rfl)) (by decide) (by decide)) (g := (mkF m 2 #[.val (.ref a0), .val (.int p1), .val (.ref a2)] [(.ref a2), (.ref a0)])) rfl (by rw [hml]; rfl) (Steps.refl _) (a := a0) (argsL := [(.ref a2)]) (rest := []) (lenOf pd_7 rfl) rfl (by show 2 * 0 + _ ≤ _; exact Nat.le_of_eq rfl) (hb hby d1_2) (fun _ _ => ⟨rfl, e0, (by decide : 0 + 3 ≤ _), (by decide : 0 + 28 ≤ _)⟩)
  dsimp only [Pt.U, Pt.locs, Pt.cells, Pt.slots] at Y1 yS1 yg1 l1 y1 z1 st1 hQ1
  subst l1 y1 z1
  obtain ⟨X1, hS1, hZ1, hown1⟩ := rebS (s := s) (vm0 := s.vm) hS0 (by rw [e0]; exact (Nat.zero_le _)) Y1 yS1 yg1 hZ hown
  obtain ⟨b1_0, rfl, N1q, s1_0, kq1, pf1_0, pf1_1, pf1_2, pf1_3, pf1_4, pf1_5, pf1_6, pf1_7⟩ := hQ1
  obtain ⟨Lg1, X1', N1⟩ := own_gen X1 (Fr.app N0 N1q)
  have g_b1_0 : n0 ≤ b1_0 := Nat.le_trans Z0 s1_0
  have sz_b1_0 : h0.size ≤ b1_0 := Nat.le_trans (Nat.le_refl _) s1_0
  have K1 : Keep h0 T1.heap [a0] := (Keep.refl h0 [a0]).trans kq1 (allS (Or.inl (List.mem_of_getElem? (i := 0) rfl)) all0)
  have Z1 : n0 ≤ T1.heap.size := Nat.le_trans Z0 kq1.1
  obtain ⟨T2, h2, X2, e2, W2, st2⟩ := putF X1' hx hZ1 hown1 (host := "") (Or.inl (hw _ (List.mem_of_getElem? (i := 78) rfl))) Via.refl rfl pf1_3 pf1_0 (Or.inr ⟨(hw _ (List.mem_of_getElem? (i := 79) rfl)), rfl, hnm⟩) (hw _ (List.mem_of_getElem? (i := 2) rfl)) (ty := .int) (by decide) rfl rfl (g := (mkF m 52 #[.val (.ref a0), .val (.int p1), .val (.ref a2)] [(.int p1), (.ref a0)])) rfl rfl (hb hby d1_52)
  have K2 : Keep h0 h2 [a0] := K1.wr W2 (Or.inl (List.mem_of_getElem? (i := 0) rfl))
  have Fw2 := pf1_3.same W2
  have Z2 : n0 ≤ h2.size := Nat.le_trans Z1 (Keep.of_wr W2).1
  obtain ⟨Lg2, X2', N2⟩ := own_gen X2 (Fr.snoc X2 N1 g_a0)
  obtain ⟨_, _, ⟨T3, L3, k3', n3'⟩, -, X3, ⟨Lc3, hQ3, l3, y3, z3⟩, st3⟩ := Jvm.LawKit.callS X2' hx (y := (⟨"java/lang/Integer", "bitCount", "(I)I"⟩ : MethodName)) hown1 (mvT hZ1 (hw _ (List.mem_of_getElem? (i := 80) rfl))) (mvT hZ1 (hw _ (List.mem_of_getElem? (i := 81) rfl))) (mvT hZ1 (hw _ (List.mem_of_getElem? (i := 82) rfl))) (mvT hZ1 (hw _ (List.mem_of_getElem? (i := 83) rfl))) (by decide) (backOf (W := 1) (rm12 l Z az hw [] p1 h2 n0 Z2) hZ1 (hw _ (List.mem_of_getElem? (i := 83) rfl)) (hw _ (List.mem_of_getElem? (i := 82) rfl)) (by decide) (by decide)) (g := (mkF m 57 #[.val (.ref a0), .val (.int p1), .val (.ref a2)] [(.int p1), (.ref a0)])) rfl (by rw [hml]; rfl) (argsL := [(.int p1)]) (rest := [(.ref a0)]) (lenOf pd_8 rfl) rfl (by show 2 * 0 + _ ≤ _; exact Nat.le_of_eq rfl) (hb hby d1_57) (fun _ _ => ⟨rfl, e2, (by decide : 3 + 0 ≤ _), (by decide : 28 + 0 ≤ _)⟩)
  dsimp only [Pt.U, Pt.locs, Pt.cells, Pt.slots] at X3 l3 y3 z3 st3 hQ3
  subst l3 y3 z3
  obtain ⟨rfl, N3q, e3⟩ := hQ3
  obtain ⟨Lg3, X3', N3⟩ := own_gen X3 (Fr.app N2 N3q)
  have sl4 := slot_ne (Z := Z) (Or.inr (hw _ (List.mem_of_getElem? (i := 88) rfl))) (Or.inr (hw _ (List.mem_of_getElem? (i := 79) rfl))) (by decide) (t := .int) (t' := .int) (by decide) (by decide)
  have F_a0_mask_u5 : Fld Z h2 a0 "com/example/fireweed/fireweed/layout/Java31ByteSalt" "mask" "I" (.int (0 : Int32)) := (pf1_4.other W2 (Or.inr sl4))
  have E_a0_u6 : Exa Z h2 a0 "com/example/fireweed/fireweed/layout/Java31ByteSalt" := (pf1_0.wr W2)
  obtain ⟨T7, h7, X7, e7, W7, st7⟩ := putF X3' hx hZ1 hown1 (host := "") (Or.inl (hw _ (List.mem_of_getElem? (i := 87) rfl))) Via.refl e3 F_a0_mask_u5 E_a0_u6 (Or.inr ⟨(hw _ (List.mem_of_getElem? (i := 88) rfl)), rfl, hnm⟩) (hw _ (List.mem_of_getElem? (i := 2) rfl)) (ty := .int) (by decide) rfl rfl (g := (mkF m 71 #[.val (.ref a0), .val (.int p1), .val (.ref a2)] [(.int (-1 : Int32)), (.ref a0)])) rfl rfl (hb hby d1_71)
  have K7 : Keep h0 h7 [a0] := K2.wr W7 (Or.inl (List.mem_of_getElem? (i := 0) rfl))
  have Fw7 := F_a0_mask_u5.same W7
  have Z7 : n0 ≤ h7.size := Nat.le_trans Z2 (Keep.of_wr W7).1
  obtain ⟨Lg7, X7', N7⟩ := own_gen X7 (Fr.snoc X7 N3 g_a0)
  have sl9 := slot_ne (Z := Z) (Or.inr (hw _ (List.mem_of_getElem? (i := 79) rfl))) (Or.inr (hw _ (List.mem_of_getElem? (i := 88) rfl))) (by decide) (t := .int) (t' := .int) (by decide) (by decide)
  have F_a0_buckets_u10 : Fld Z h7 a0 "com/example/fireweed/fireweed/layout/Java31ByteSalt" "buckets" "I" (.int p1) := (Fw2.other W7 (Or.inr sl9))
  have E_a0_u11 : Exa Z h7 a0 "com/example/fireweed/fireweed/layout/Java31ByteSalt" := (E_a0_u6.wr W7)
  obtain ⟨cq8, q8, q8'⟩ := E_a0_u11.cell
  obtain ⟨_, _, ⟨T8, L8, k8', n8'⟩, -, X8, ⟨Lc8, hQ8, l8, y8, z8⟩, st8⟩ := X7'.privateBack hx (y := (⟨"com/example/fireweed/fireweed/layout/Java31ByteSalt", "saltOf", "(I)B"⟩ : MethodName)) hown1 (mvT hZ1 (hw _ (List.mem_of_getElem? (i := 90) rfl))) (mvT hZ1 (hw _ (List.mem_of_getElem? (i := 91) rfl))) (own_priv (mvT hZ1 (hw _ (List.mem_of_getElem? (i := 2) rfl))) (Cond.privateMethod_at (mvP hZ1 (hw _ (List.mem_of_getElem? (i := 92) rfl)) (args := #[]))) (mvT hZ1 (hw _ (List.mem_of_getElem? (i := 91) rfl))) (by decide)) (Cond.privateMethod_at (mvP hZ1 (hw _ (List.mem_of_getElem? (i := 92) rfl)) (args := #[]))) (mvT hZ1 (hw _ (List.mem_of_getElem? (i := 93) rfl))) (by decide) (backOf (W := 1) (rm13b l Z az hw [] a0 p1 h7 n0 Z7 Fw7 F_a0_buckets_u10 hc21) hZ1 (hw _ (List.mem_of_getElem? (i := 93) rfl)) (hw _ (List.mem_of_getElem? (i := 3) rfl)) (by decide) (by decide)) (g := (mkF m 78 #[.val (.ref a0), .val (.int p1), .val (.ref a2)] [(.int (-2147483648 : Int32)), (.ref a0), (.ref a0)])) rfl (by rw [hml]; rfl) (Steps.refl _) (a := a0) (by rw [e7]; exact q8) q8' (argsL := [(.int (-2147483648 : Int32))]) (rest := [(.ref a0)]) (lenOf pd_9 rfl) rfl (by show 2 * 0 + _ ≤ _; exact Nat.le_of_eq rfl) (hb hby d1_78) (fun _ _ => ⟨rfl, e7, (by decide : 3 + 0 ≤ _), (by decide : 28 + 0 ≤ _)⟩)
  dsimp only [Pt.U, Pt.locs, Pt.cells, Pt.slots] at X8 l8 y8 z8 st8 hQ8
  subst l8 y8 z8
  obtain ⟨rfl, N8q, e8⟩ := hQ8
  obtain ⟨Lg8, X8', N8⟩ := own_gen X8 (Fr.app N7 N8q)
  obtain ⟨_, _, ⟨T12, L12, k12', n12'⟩, -, X12, ⟨Lc12, hQ12, l12, y12, z12⟩, st12⟩ := Jvm.LawKit.callS X8' hx (y := (⟨"java/lang/Byte", "toUnsignedInt", "(B)I"⟩ : MethodName)) hown1 (mvT hZ1 (hw _ (List.mem_of_getElem? (i := 98) rfl))) (mvT hZ1 (hw _ (List.mem_of_getElem? (i := 99) rfl))) (mvT hZ1 (hw _ (List.mem_of_getElem? (i := 100) rfl))) (mvT hZ1 (hw _ (List.mem_of_getElem? (i := 101) rfl))) (by decide) (backOf (W := 1) (rm15 l Z az hw [] (((-2147483648 : Int32) % p1).toInt8.toInt32) h7 n0 Z7) hZ1 (hw _ (List.mem_of_getElem? (i := 101) rfl)) (hw _ (List.mem_of_getElem? (i := 100) rfl)) (by decide) (by decide)) (g := (mkF m 81 #[.val (.ref a0), .val (.int p1), .val (.ref a2)] [(.int (((-2147483648 : Int32) % p1).toInt8.toInt32)), (.ref a0)])) rfl (by rw [hml]; rfl) (argsL := [(.int (((-2147483648 : Int32) % p1).toInt8.toInt32))]) (rest := [(.ref a0)]) (lenOf pd_10 rfl) rfl (by show 2 * 0 + _ ≤ _; exact Nat.le_of_eq rfl) (hb hby d1_81) (fun _ _ => ⟨rfl, e8, (by decide : 3 + 0 ≤ _), (by decide : 28 + 0 ≤ _)⟩)
  dsimp only [Pt.U, Pt.locs, Pt.cells, Pt.slots] at X12 l12 y12 z12 st12 hQ12
  subst l12 y12 z12
  obtain ⟨rfl, N12q, e12⟩ := hQ12
  obtain ⟨Lg12, X12', N12⟩ := own_gen X12 (Fr.app N8 N12q)
  have sl13 := slot_ne (Z := Z) (Or.inr (hw _ (List.mem_of_getElem? (i := 103) rfl))) (Or.inr (hw _ (List.mem_of_getElem? (i := 79) rfl))) (by decide) (t := .int) (t' := .int) (by decide) (by decide)
  have sl14 := slot_ne (Z := Z) (Or.inr (hw _ (List.mem_of_getElem? (i := 103) rfl))) (Or.inr (hw _ (List.mem_of_getElem? (i := 88) rfl))) (by decide) (t := .int) (t' := .int) (by decide) (by decide)
  have F_a0_overflow_u15 : Fld Z h7 a0 "com/example/fireweed/fireweed/layout/Java31ByteSalt" "overflow" "I" (.int (0 : Int32)) := ((pf1_5.other W2 (Or.inr sl13)).other W7 (Or.inr sl14))
  obtain ⟨T16, h16, X16, e16, W16, st16⟩ := putF X12' hx hZ1 hown1 (host := "") (Or.inl (hw _ (List.mem_of_getElem? (i := 102) rfl))) Via.refl e12 F_a0_overflow_u15 E_a0_u11 (Or.inr ⟨(hw _ (List.mem_of_getElem? (i := 103) rfl)), rfl, hnm⟩) (hw _ (List.mem_of_getElem? (i := 2) rfl)) (ty := .int) (by decide) rfl rfl (g := (mkF m 84 #[.val (.ref a0), .val (.int p1), .val (.ref a2)] [(.int ((((-2147483648 : Int32) % p1).toInt8.toInt32) &&& (255 : Int32))), (.ref a0)])) rfl rfl (hb hby d1_84)
  have K16 : Keep h0 h16 [a0] := K7.wr W16 (Or.inl (List.mem_of_getElem? (i := 0) rfl))
  have Fw16 := F_a0_overflow_u15.same W16
  have Z16 : n0 ≤ h16.size := Nat.le_trans Z7 (Keep.of_wr W16).1
  obtain ⟨Lg16, X16', N16⟩ := own_gen X16 (Fr.snoc X16 N12 g_a0)
  have E_a0_u17 : Exa Z h16 a0 "com/example/fireweed/fireweed/layout/Java31ByteSalt" := (E_a0_u11.wr W16)
  have sl18 := slot_ne (Z := Z) (Or.inr (hw _ (List.mem_of_getElem? (i := 36) rfl))) (Or.inr (hw _ (List.mem_of_getElem? (i := 79) rfl))) (by decide) (t := (.object "java/lang/String")) (t' := .int) (by decide) (by decide)
  have sl19 := slot_ne (Z := Z) (Or.inr (hw _ (List.mem_of_getElem? (i := 36) rfl))) (Or.inr (hw _ (List.mem_of_getElem? (i := 88) rfl))) (by decide) (t := (.object "java/lang/String")) (t' := .int) (by decide) (by decide)
  have sl20 := slot_ne (Z := Z) (Or.inr (hw _ (List.mem_of_getElem? (i := 36) rfl))) (Or.inr (hw _ (List.mem_of_getElem? (i := 103) rfl))) (by decide) (t := (.object "java/lang/String")) (t' := .int) (by decide) (by decide)
  have F_a0_suffix_u21 : Fld Z h16 a0 "com/example/fireweed/fireweed/layout/Salt" "suffix" "Ljava/lang/String;" (.ref a2) := (((pf1_1.other W2 (Or.inr sl18)).other W7 (Or.inr sl19)).other W16 (Or.inr sl20))
  have sl22 := slot_ne (Z := Z) (Or.inr (hw _ (List.mem_of_getElem? (i := 77) rfl))) (Or.inr (hw _ (List.mem_of_getElem? (i := 79) rfl))) (by decide) (t := (.array .byte)) (t' := .int) (by decide) (by decide)
  have sl23 := slot_ne (Z := Z) (Or.inr (hw _ (List.mem_of_getElem? (i := 77) rfl))) (Or.inr (hw _ (List.mem_of_getElem? (i := 88) rfl))) (by decide) (t := (.array .byte)) (t' := .int) (by decide) (by decide)
  have sl24 := slot_ne (Z := Z) (Or.inr (hw _ (List.mem_of_getElem? (i := 77) rfl))) (Or.inr (hw _ (List.mem_of_getElem? (i := 103) rfl))) (by decide) (t := (.array .byte)) (t' := .int) (by decide) (by decide)
  have F_a0_suffixBytes_u25 : Fld Z h16 a0 "com/example/fireweed/fireweed/layout/Salt" "suffixBytes" "[B" (.ref b1_0) := (((pf1_2.other W2 (Or.inr sl22)).other W7 (Or.inr sl23)).other W16 (Or.inr sl24))
  have sl26 := slot_ne (Z := Z) (Or.inr (hw _ (List.mem_of_getElem? (i := 79) rfl))) (Or.inr (hw _ (List.mem_of_getElem? (i := 103) rfl))) (by decide) (t := .int) (t' := .int) (by decide) (by decide)
  have F_a0_buckets_u27 : Fld Z h16 a0 "com/example/fireweed/fireweed/layout/Java31ByteSalt" "buckets" "I" (.int p1) := (F_a0_buckets_u10.other W16 (Or.inr sl26))
  have sl28 := slot_ne (Z := Z) (Or.inr (hw _ (List.mem_of_getElem? (i := 88) rfl))) (Or.inr (hw _ (List.mem_of_getElem? (i := 103) rfl))) (by decide) (t := .int) (t' := .int) (by decide) (by decide)
  have F_a0_mask_u29 : Fld Z h16 a0 "com/example/fireweed/fireweed/layout/Java31ByteSalt" "mask" "I" (.int (-1 : Int32)) := (Fw7.other W16 (Or.inr sl28))
  have E_b1_0_u30 : Exa Z h16 b1_0 "[B" := (((pf1_6.wr W2).wr W7).wr W16)
  have ne_a0_b1_0 : a0 ≠ b1_0 := own_ne (Nat.lt_of_lt_of_le E_a0.lt s1_0)
  have V_b1_0_u31 : Arv Z h16 b1_0 kB .byte (0 : Int32) [] (.int (0 : Int32)) := (((pf1_7.other W2 (Ne.symm ne_a0_b1_0)).other W7 (Ne.symm ne_a0_b1_0)).other W16 (Ne.symm ne_a0_b1_0))
  obtain ⟨fs, hr, hrun, hended, hWE⟩ := X16'.leaveW (s := s) hS1 (by rw [e16]; exact (Nat.le_trans (Nat.le_trans (Nat.le_trans (Nat.le_refl _) (Keep.of_wr W2).1) (Keep.of_wr W7).1) (Keep.of_wr W16).1)) (v := none) (fun _ => rfl)
  refine ⟨_, _, pre0 _ ?_, hrun, hended, _, _, rfl, ?_, hWE.1, hWE.2.1, hWE.2.2.1, hWE.2.2.2.mono (by decide) (by decide)⟩
  · show Steps p.tables e below (s₁.setTop (mkF m 0 #[.val (.ref a0), .val (.int p1), .val (.ref a2)] [])) _
    refine XS.aloadN X0.here hx rfl (hb hby d1_0) rfl rfl ?_
    show Steps p.tables e below (s₁.setTop (mkF m 1 #[.val (.ref a0), .val (.int p1), .val (.ref a2)] [(.ref a0)])) _
    refine XS.aloadN X0.here hx rfl (hb hby d1_1) rfl rfl ?_
    show Steps p.tables e below (s₁.setTop (mkF m 2 #[.val (.ref a0), .val (.int p1), .val (.ref a2)] [(.ref a2), (.ref a0)])) _
    refine st1.trans ?_
    show Steps p.tables e below (T1.setTop (mkF m 5 #[.val (.ref a0), .val (.int p1), .val (.ref a2)] [])) _
    refine XS.iloadN X1'.here hx rfl (hb hby d1_5) rfl ?_
    show Steps p.tables e below (T1.setTop (mkF m 6 #[.val (.ref a0), .val (.int p1), .val (.ref a2)] [(.int p1)])) _
    refine XS.iconst X1'.here hx rfl (hb hby d1_6) ?_
    show Steps p.tables e below (T1.setTop (mkF m 7 #[.val (.ref a0), .val (.int p1), .val (.ref a2)] [(.int (1 : Int32)), (.int p1)])) _
    refine XS.icmpNo X1'.here hx rfl (hb hby d1_7) rfl (flt hc18).1 ?_
    show Steps p.tables e below (T1.setTop (mkF m 10 #[.val (.ref a0), .val (.int p1), .val (.ref a2)] [])) _
    refine XS.iloadN X1'.here hx rfl (hb hby d1_10) rfl ?_
    show Steps p.tables e below (T1.setTop (mkF m 11 #[.val (.ref a0), .val (.int p1), .val (.ref a2)] [(.int p1)])) _
    refine XS.sipush X1'.here hx rfl (hb hby d1_11) ?_
    show Steps p.tables e below (T1.setTop (mkF m 14 #[.val (.ref a0), .val (.int p1), .val (.ref a2)] [(.int (256 : Int32)), (.int p1)])) _
    refine XS.icmpYes X1'.here hx rfl (pc0 := 14) (pc' := 50) rfl (hb hby d1_14) rfl (flt hc19).2.2.2 (by decide) (by decide) ?_
    show Steps p.tables e below (T1.setTop (mkF m 50 #[.val (.ref a0), .val (.int p1), .val (.ref a2)] [])) _
    refine XS.aloadN X1'.here hx rfl (hb hby d1_50) rfl rfl ?_
    show Steps p.tables e below (T1.setTop (mkF m 51 #[.val (.ref a0), .val (.int p1), .val (.ref a2)] [(.ref a0)])) _
    refine XS.iloadN X1'.here hx rfl (hb hby d1_51) rfl ?_
    show Steps p.tables e below (T1.setTop (mkF m 52 #[.val (.ref a0), .val (.int p1), .val (.ref a2)] [(.int p1), (.ref a0)])) _
    refine st2 _ ?_
    show Steps p.tables e below (T2.setTop (mkF m 55 #[.val (.ref a0), .val (.int p1), .val (.ref a2)] [])) _
    refine XS.aloadN X2'.here hx rfl (hb hby d1_55) rfl rfl ?_
    show Steps p.tables e below (T2.setTop (mkF m 56 #[.val (.ref a0), .val (.int p1), .val (.ref a2)] [(.ref a0)])) _
    refine XS.iloadN X2'.here hx rfl (hb hby d1_56) rfl ?_
    show Steps p.tables e below (T2.setTop (mkF m 57 #[.val (.ref a0), .val (.int p1), .val (.ref a2)] [(.int p1), (.ref a0)])) _
    refine st3 _ ?_
    show Steps p.tables e below (T3.setTop (mkF m 60 #[.val (.ref a0), .val (.int p1), .val (.ref a2)] [(.int (own_bc p1)), (.ref a0)])) _
    refine XS.iconst X3'.here hx rfl (hb hby d1_60) ?_
    show Steps p.tables e below (T3.setTop (mkF m 61 #[.val (.ref a0), .val (.int p1), .val (.ref a2)] [(.int (1 : Int32)), (.int (own_bc p1)), (.ref a0)])) _
    refine XS.icmpYes X3'.here hx rfl (pc0 := 61) (pc' := 70) rfl (hb hby d1_61) rfl (feq hc20).2 (by decide) (by decide) ?_
    show Steps p.tables e below (T3.setTop (mkF m 70 #[.val (.ref a0), .val (.int p1), .val (.ref a2)] [(.ref a0)])) _
    refine XS.iconst X3'.here hx rfl (hb hby d1_70) ?_
    show Steps p.tables e below (T3.setTop (mkF m 71 #[.val (.ref a0), .val (.int p1), .val (.ref a2)] [(.int (-1 : Int32)), (.ref a0)])) _
    refine st7 _ ?_
    show Steps p.tables e below (T7.setTop (mkF m 74 #[.val (.ref a0), .val (.int p1), .val (.ref a2)] [])) _
    refine XS.aloadN X7'.here hx rfl (hb hby d1_74) rfl rfl ?_
    show Steps p.tables e below (T7.setTop (mkF m 75 #[.val (.ref a0), .val (.int p1), .val (.ref a2)] [(.ref a0)])) _
    refine XS.aloadN X7'.here hx rfl (hb hby d1_75) rfl rfl ?_
    show Steps p.tables e below (T7.setTop (mkF m 76 #[.val (.ref a0), .val (.int p1), .val (.ref a2)] [(.ref a0), (.ref a0)])) _
    refine X7'.ldcInt hx hown1 (mvT hZ1 (hw _ (List.mem_of_getElem? (i := 89) rfl))) (g := (mkF m 76 #[.val (.ref a0), .val (.int p1), .val (.ref a2)] [(.ref a0), (.ref a0)])) rfl (hb hby d1_76) _ ?_
    show Steps p.tables e below (T7.setTop (mkF m 78 #[.val (.ref a0), .val (.int p1), .val (.ref a2)] [(.int (-2147483648 : Int32)), (.ref a0), (.ref a0)])) _
    refine st8.trans ?_
    show Steps p.tables e below (T8.setTop (mkF m 81 #[.val (.ref a0), .val (.int p1), .val (.ref a2)] [(.int (((-2147483648 : Int32) % p1).toInt8.toInt32)), (.ref a0)])) _
    refine st12 _ ?_
    show Steps p.tables e below (T12.setTop (mkF m 84 #[.val (.ref a0), .val (.int p1), .val (.ref a2)] [(.int ((((-2147483648 : Int32) % p1).toInt8.toInt32) &&& (255 : Int32))), (.ref a0)])) _
    refine st16 _ ?_
    show Steps p.tables e below (T16.setTop (mkF m 87 #[.val (.ref a0), .val (.int p1), .val (.ref a2)] [])) _
    exact X16'.returnOut hx Bd.returns (hb hby d1_87) hr
  · show Q10B Z a0 p1 a2 aB kB aU s_COMPACT_STRINGS h0 n0 _ T16.heap _
    rw [e16]
    exact ⟨b1_0, rfl, N16, sz_b1_0, K16, E_a0_u17, F_a0_suffix_u21, F_a0_suffixBytes_u25, F_a0_buckets_u27, F_a0_mask_u29, Fw16, E_b1_0_u30, V_b1_0_u31⟩
theorem d18_0 : decode jdk_41_method_11_code 0 = .ok (.iload_n 0, 1) := by decide +kernel
theorem d18_1 : decode jdk_41_method_11_code 1 = .ok (.ifCond .lt 8, 3) := by decide +kernel
theorem d18_4 : decode jdk_41_method_11_code 4 = .ok (.iload_n 0, 1) := by decide +kernel
theorem d18_5 : decode jdk_41_method_11_code 5 = .ok (.iload_n 1, 1) := by decide +kernel
theorem d18_6 : decode jdk_41_method_11_code 6 = .ok (.if_icmp .lt 10, 3) := by decide +kernel
theorem d18_16 : decode jdk_41_method_11_code 16 = .ok (.iload_n 0, 1) := by decide +kernel
theorem d18_17 : decode jdk_41_method_11_code 17 = .ok (.ireturn, 1) := by decide +kernel
theorem pn_jdk_internal_util_Preconditions : plainName "jdk/internal/util/Preconditions" = true := by first | (simp [plainName, overriddenIn]; done) | decide +kernel
theorem ef_rm18 (m : MethodId) (p0 : Int32) (p1 : Int32) : entryFrame m #[(.int p0), (.int p1), .null] 3 = mkF m 0 #[.val (.int p0), .val (.int p1), .val .null] [] := by first | (simp [entryFrame, mkF, argsToLocals, Value.category]; done) | rfl
def Q18 (Z : State) (p0 : Int32) (p1 : Int32) (h0 : Heap) (n0 : Nat) (v : Option Value) (h : Heap) (L : List Loc) : Prop := v = some (.int p0) ∧ Fr n0 L ∧ h = h0
set_option maxRecDepth 65536 in
set_option maxHeartbeats 40000000 in
theorem rm18 (l : Launch) (Z : State) (az : Array Value) (hw : ∀ d ∈ tables_1, d.before az Z = true) (ws : List Jvm.Cond) (p0 : Int32) (p1 : Int32) (h0 : Heap) (n0 : Nat) (Z0 : n0 ≤ h0.size) (hc0 : ¬ (p0 < (0 : Int32))) (hc1 : p0 < p1) :
    MetFree l (⟨"jdk/internal/util/Preconditions", "checkIndex", "(IILjava/util/function/BiFunction;)I"⟩ : MethodName) (head1 (Jvm.Cond.code (⟨"jdk/internal/util/Preconditions", "checkIndex", "(IILjava/util/function/BiFunction;)I"⟩ : MethodName) jdk_41_method_11_code 3 (some .int) :: ws) ({ frames := 0, cells := 0, slots := 0, locals := 0 } : Room)) (fun a U => a = #[(.int p0), (.int p1), .null] ∧ Z.Warmed39 U.vm ∧ U.heap = h0) (fun _ _ _ _ _ => True) (fun _ U o U' => ∃ v L, o = .returned v ∧ Q18 Z p0 p1 h0 n0 v U'.heap L ∧ FrameEnd U o U' L ({ frames := 0, cells := 0, slots := 0, locals := 0 } : Room).cells ({ frames := 0, cells := 0, slots := 0, locals := 0 } : Room).slots) := by
  refine MetFree.of_bodySF (plainFor_of_name pn_jdk_internal_util_Preconditions) hisR ?_
  intro p e s m args below meth c s₁ Bd hml0 hP hK
  obtain ⟨rfl, hZ, hh⟩ := hP
  have hx := Bd.exec
  have hby := Bd.bytes
  have hml : c.maxLocals = 3 := hml0
  have hown : s.vm.findClass "jdk/internal/util/Preconditions" = some m.cls := findClass_of_methodNamed Bd.named
  have hnm := (name_of_methodNamed Bd.named Bd.method).1
  have X0 : Stand p l e ({ frames := 0, cells := 0, slots := 0, locals := 0 } : Room) s m #[(.int p0), (.int p1), .null] below meth c s₁ [] 0 0 := Stand.of_body Bd
  have e0 : s₁.heap = h0 := by rw [← hh, Bd.state]; rfl
  have N0 := Fr.nil n0
  have pre0 : ∀ t, Steps p.tables e below (s₁.setTop (mkF m 0 #[.val (.int p0), .val (.int p1), .val .null] [])) t → Steps p.tables e below (s₁.setTop (entryFrame m #[(.int p0), (.int p1), .null] 3)) t := fun t k => castTop (ef_rm18 m p0 p1) k
  obtain ⟨fs, hr, hrun, hended, hW, hsame⟩ := X0.leave (v := some (.int p0)) (fun h => by rw [Bd.returns] at h; cases h)
  refine ⟨_, _, pre0 _ ?_, hrun, hended, _, _, rfl, ?_, ⟨_, rfl⟩, hW, hsame.mono (by decide) (by decide)⟩
  · show Steps p.tables e below (s₁.setTop (mkF m 0 #[.val (.int p0), .val (.int p1), .val .null] [])) _
    refine XS.iloadN X0.here hx rfl (hb hby d18_0) rfl ?_
    show Steps p.tables e below (s₁.setTop (mkF m 1 #[.val (.int p0), .val (.int p1), .val .null] [(.int p0)])) _
    refine XS.ifNo X0.here hx rfl (hb hby d18_1) rfl ((if0 _ _).trans (flt hc0).1) ?_
    show Steps p.tables e below (s₁.setTop (mkF m 4 #[.val (.int p0), .val (.int p1), .val .null] [])) _
    refine XS.iloadN X0.here hx rfl (hb hby d18_4) rfl ?_
    show Steps p.tables e below (s₁.setTop (mkF m 5 #[.val (.int p0), .val (.int p1), .val .null] [(.int p0)])) _
    refine XS.iloadN X0.here hx rfl (hb hby d18_5) rfl ?_
    show Steps p.tables e below (s₁.setTop (mkF m 6 #[.val (.int p0), .val (.int p1), .val .null] [(.int p1), (.int p0)])) _
    refine XS.icmpYes X0.here hx rfl (pc0 := 6) (pc' := 16) rfl (hb hby d18_6) rfl (tlt hc1).1 (by decide) (by decide) ?_
    show Steps p.tables e below (s₁.setTop (mkF m 16 #[.val (.int p0), .val (.int p1), .val .null] [])) _
    refine XS.iloadN X0.here hx rfl (hb hby d18_16) rfl ?_
    show Steps p.tables e below (s₁.setTop (mkF m 17 #[.val (.int p0), .val (.int p1), .val .null] [(.int p0)])) _
    exact retI X0 hx Bd.returns (hb hby d18_17) hr
  · show Q18 Z p0 p1 h0 n0 _ s₁.heap _
    rw [e0]
    exact ⟨rfl, N0, rfl⟩
theorem d17_0 : decode jdk_31_method_17_code 0 = .ok (.iload_n 0, 1) := by decide +kernel
theorem d17_1 : decode jdk_31_method_17_code 1 = .ok (.iload_n 1, 1) := by decide +kernel
theorem d17_2 : decode jdk_31_method_17_code 2 = .ok (.aconst_null, 1) := by decide +kernel
theorem d17_3 : decode jdk_31_method_17_code 3 = .ok (.invokestatic 105, 3) := by decide +kernel
theorem pd_11 : parseMethodDescriptor "(IILjava/util/function/BiFunction;)I" = some ⟨[.int, .int, (.object "java/util/function/BiFunction")], some .int⟩ := by decide +kernel
theorem d17_6 : decode jdk_31_method_17_code 6 = .ok (.ireturn, 1) := by decide +kernel
theorem ef_rm17 (m : MethodId) (p0 : Int32) (p1 : Int32) : entryFrame m #[(.int p0), (.int p1)] 2 = mkF m 0 #[.val (.int p0), .val (.int p1)] [] := by first | (simp [entryFrame, mkF, argsToLocals, Value.category]; done) | rfl
def Q17 (Z : State) (p0 : Int32) (p1 : Int32) (h0 : Heap) (n0 : Nat) (v : Option Value) (h : Heap) (L : List Loc) : Prop := v = some (.int p0) ∧ Fr n0 L ∧ h = h0
set_option maxRecDepth 65536 in
set_option maxHeartbeats 40000000 in
theorem rm17 (l : Launch) (Z : State) (az : Array Value) (hw : ∀ d ∈ tables_1, d.before az Z = true) (ws : List Jvm.Cond) (p0 : Int32) (p1 : Int32) (h0 : Heap) (n0 : Nat) (Z0 : n0 ≤ h0.size) (hc0 : ¬ (p0 < (0 : Int32))) (hc1 : p0 < p1) :
    MetFree l (⟨"java/util/Objects", "checkIndex", "(II)I"⟩ : MethodName) (head1 (Jvm.Cond.code (⟨"java/util/Objects", "checkIndex", "(II)I"⟩ : MethodName) jdk_31_method_17_code 2 (some .int) :: ws) ({ frames := 1, cells := 0, slots := 0, locals := 14 } : Room)) (fun a U => a = #[(.int p0), (.int p1)] ∧ Z.Warmed39 U.vm ∧ U.heap = h0) (fun _ _ _ _ _ => True) (fun _ U o U' => ∃ v L, o = .returned v ∧ Q17 Z p0 p1 h0 n0 v U'.heap L ∧ FrameEnd U o U' L ({ frames := 1, cells := 0, slots := 0, locals := 14 } : Room).cells ({ frames := 1, cells := 0, slots := 0, locals := 14 } : Room).slots) := by
  refine MetFree.of_bodySF (plainFor_of_name pn_java_util_Objects) hisR ?_
  intro p e s m args below meth c s₁ Bd hml0 hP hK
  obtain ⟨rfl, hZ, hh⟩ := hP
  have hx := Bd.exec
  have hby := Bd.bytes
  have hml : c.maxLocals = 2 := hml0
  have hown : s.vm.findClass "java/util/Objects" = some m.cls := findClass_of_methodNamed Bd.named
  have hnm := (name_of_methodNamed Bd.named Bd.method).1
  have X0 : Stand p l e ({ frames := 1, cells := 0, slots := 0, locals := 14 } : Room) s m #[(.int p0), (.int p1)] below meth c s₁ [] 0 0 := Stand.of_body Bd
  have e0 : s₁.heap = h0 := by rw [← hh, Bd.state]; rfl
  have N0 := Fr.nil n0
  have pre0 : ∀ t, Steps p.tables e below (s₁.setTop (mkF m 0 #[.val (.int p0), .val (.int p1)] [])) t → Steps p.tables e below (s₁.setTop (entryFrame m #[(.int p0), (.int p1)] 2)) t := fun t k => castTop (ef_rm17 m p0 p1) k
  obtain ⟨_, _, ⟨T1, L1, k1', n1'⟩, -, X1, ⟨Lc1, hQ1, l1, y1, z1⟩, st1⟩ := Jvm.LawKit.callS X0 hx (y := (⟨"jdk/internal/util/Preconditions", "checkIndex", "(IILjava/util/function/BiFunction;)I"⟩ : MethodName)) hown (mvT hZ (hw _ (List.mem_of_getElem? (i := 112) rfl))) (mvT hZ (hw _ (List.mem_of_getElem? (i := 113) rfl))) (mvT hZ (hw _ (List.mem_of_getElem? (i := 114) rfl))) (mvT hZ (hw _ (List.mem_of_getElem? (i := 115) rfl))) (by decide) (backOf (W := 0) (rm18 l Z az hw [] p0 p1 h0 n0 Z0 hc0 hc1) hZ (hw _ (List.mem_of_getElem? (i := 115) rfl)) (hw _ (List.mem_of_getElem? (i := 114) rfl)) (by decide) (by decide)) (g := (mkF m 3 #[.val (.int p0), .val (.int p1)] [.null, (.int p1), (.int p0)])) rfl (by rw [hml]; rfl) (argsL := [(.int p0), (.int p1), .null]) (rest := []) (lenOf pd_11 rfl) rfl (by show 2 * 0 + _ ≤ _; exact Nat.le_of_eq rfl) (hb hby d17_3) (fun _ _ => ⟨rfl, e0, (by decide : 0 + 0 ≤ _), (by decide : 0 + 0 ≤ _)⟩)
  dsimp only [Pt.U, Pt.locs, Pt.cells, Pt.slots] at X1 l1 y1 z1 st1 hQ1
  subst l1 y1 z1
  obtain ⟨rfl, N1q, e1⟩ := hQ1
  obtain ⟨Lg1, X1', N1⟩ := own_gen X1 (Fr.app N0 N1q)
  obtain ⟨fs, hr, hrun, hended, hW, hsame⟩ := X1'.leave (v := some (.int p0)) (fun h => by rw [Bd.returns] at h; cases h)
  refine ⟨_, _, pre0 _ ?_, hrun, hended, _, _, rfl, ?_, ⟨_, rfl⟩, hW, hsame.mono (by decide) (by decide)⟩
  · show Steps p.tables e below (s₁.setTop (mkF m 0 #[.val (.int p0), .val (.int p1)] [])) _
    refine XS.iloadN X0.here hx rfl (hb hby d17_0) rfl ?_
    show Steps p.tables e below (s₁.setTop (mkF m 1 #[.val (.int p0), .val (.int p1)] [(.int p0)])) _
    refine XS.iloadN X0.here hx rfl (hb hby d17_1) rfl ?_
    show Steps p.tables e below (s₁.setTop (mkF m 2 #[.val (.int p0), .val (.int p1)] [(.int p1), (.int p0)])) _
    refine XS.aconstNull X0.here hx rfl (hb hby d17_2) ?_
    show Steps p.tables e below (s₁.setTop (mkF m 3 #[.val (.int p0), .val (.int p1)] [.null, (.int p1), (.int p0)])) _
    refine st1 _ ?_
    show Steps p.tables e below (T1.setTop (mkF m 6 #[.val (.int p0), .val (.int p1)] [(.int p0)])) _
    exact retI X1' hx Bd.returns (hb hby d17_6) hr
  · show Q17 Z p0 p1 h0 n0 _ T1.heap _
    rw [e1]
    exact ⟨rfl, N1, rfl⟩
theorem d16_0 : decode prog_7_method_6_code 0 = .ok (.iconst 1, 1) := by decide +kernel
theorem d16_1 : decode prog_7_method_6_code 1 = .ok (.newarray .byte, 2) := by decide +kernel
theorem d16_3 : decode prog_7_method_6_code 3 = .ok (.dup, 1) := by decide +kernel
theorem d16_4 : decode prog_7_method_6_code 4 = .ok (.iconst 0, 1) := by decide +kernel
theorem d16_5 : decode prog_7_method_6_code 5 = .ok (.iload_n 1, 1) := by decide +kernel
theorem d16_6 : decode prog_7_method_6_code 6 = .ok (.aload_n 0, 1) := by decide +kernel
theorem d16_7 : decode prog_7_method_6_code 7 = .ok (.getfield 28, 3) := by decide +kernel
theorem d16_10 : decode prog_7_method_6_code 10 = .ok (.invokestatic 57, 3) := by decide +kernel
theorem pd_12 : parseMethodDescriptor "(II)I" = some ⟨[.int, .int], some .int⟩ := by decide +kernel
theorem d16_13 : decode prog_7_method_6_code 13 = .ok (.i2b, 1) := by decide +kernel
theorem d16_14 : decode prog_7_method_6_code 14 = .ok (.bastore, 1) := by decide +kernel
theorem d16_15 : decode prog_7_method_6_code 15 = .ok (.areturn, 1) := by decide +kernel
theorem ef_rm16 (m : MethodId) (a0 : Addr) (p1 : Int32) : entryFrame m #[(.ref a0), (.int p1)] 2 = mkF m 0 #[.val (.ref a0), .val (.int p1)] [] := by first | (simp [entryFrame, mkF, argsToLocals, Value.category]; done) | rfl
def Q16 (Z : State) (a0 : Addr) (p1 : Int32) (w_buckets_a0 : Int32) (h0 : Heap) (n0 : Nat) (v : Option Value) (h : Heap) (L : List Loc) : Prop := ∃ r0 : Addr, ∃ rk0 : ClassId, v = some (.ref r0) ∧ Fr n0 L ∧ h0.size ≤ r0 ∧ Keep h0 h [] ∧ Exa Z h r0 "[B" ∧ Arv Z h r0 rk0 .byte (1 : Int32) [(.int (p1.toInt8.toInt32))] (.int (0 : Int32))
set_option maxRecDepth 65536 in
set_option maxHeartbeats 40000000 in
theorem rm16 (l : Launch) (Z : State) (az : Array Value) (hw : ∀ d ∈ tables_1, d.before az Z = true) (ws : List Jvm.Cond) (a0 : Addr) (p1 : Int32) (w_buckets_a0 : Int32) (h0 : Heap) (n0 : Nat) (Z0 : n0 ≤ h0.size) (F_buckets_a0 : Fld Z h0 a0 "com/example/fireweed/fireweed/layout/Java31ByteSalt" "buckets" "I" (.int w_buckets_a0)) (hc1 : ¬ (p1 < (0 : Int32))) (hc2 : p1 < w_buckets_a0) :
    MetFree l (⟨"com/example/fireweed/fireweed/layout/Java31ByteSalt", "salt", "(I)[B"⟩ : MethodName) (head1 (Jvm.Cond.code (⟨"com/example/fireweed/fireweed/layout/Java31ByteSalt", "salt", "(I)[B"⟩ : MethodName) prog_7_method_6_code 2 (some (.array .byte)) :: ws) ({ frames := 2, cells := 1, slots := 1, locals := 30 } : Room)) (fun a U => a = #[(.ref a0), (.int p1)] ∧ Z.Warmed39 U.vm ∧ U.heap = h0) (fun _ _ _ _ _ => True) (fun _ U o U' => ∃ v L, o = .returned v ∧ Q16 Z a0 p1 w_buckets_a0 h0 n0 v U'.heap L ∧ FrameEnd U o U' L ({ frames := 2, cells := 1, slots := 1, locals := 30 } : Room).cells ({ frames := 2, cells := 1, slots := 1, locals := 30 } : Room).slots) := by
  refine MetFree.of_bodySF (plainFor_of_name pn_com_example_fireweed_fireweed_layout_Java31ByteSalt) hisR ?_
  intro p e s m args below meth c s₁ Bd hml0 hP hK
  obtain ⟨rfl, hZ, hh⟩ := hP
  have hx := Bd.exec
  have hby := Bd.bytes
  have hml : c.maxLocals = 2 := hml0
  have hown : s.vm.findClass "com/example/fireweed/fireweed/layout/Java31ByteSalt" = some m.cls := findClass_of_methodNamed Bd.named
  have hnm := (name_of_methodNamed Bd.named Bd.method).1
  have X0 : Stand p l e ({ frames := 2, cells := 1, slots := 1, locals := 30 } : Room) s m #[(.ref a0), (.int p1)] below meth c s₁ [] 0 0 := Stand.of_body Bd
  have e0 : s₁.heap = h0 := by rw [← hh, Bd.state]; rfl
  have N0 := Fr.nil n0
  have pre0 : ∀ t, Steps p.tables e below (s₁.setTop (mkF m 0 #[.val (.ref a0), .val (.int p1)] [])) t → Steps p.tables e below (s₁.setTop (entryFrame m #[(.ref a0), (.int p1)] 2)) t := fun t k => castTop (ef_rm16 m a0 p1) k
  obtain ⟨T1, h1, k1, X1, e1, E1, A1, x1, st1⟩ := newPE X0 hx hZ (hw _ (List.mem_of_getElem? (i := 7) rfl)) e0 (g := (mkF m 1 #[.val (.ref a0), .val (.int p1)] [(.int (1 : Int32))])) rfl (hb hby d16_1) rfl (by decide) (cap := 1) (by decide) (by decide) (by decide) (by decide) (ad := "[B") (by decide)
  obtain ⟨b1, g1⟩ : ∃ z, z = h0.size := ⟨_, rfl⟩
  rw [← g1] at A1 x1 st1
  have g_b1 : n0 ≤ b1 := Nat.le_trans Z0 (Nat.le_of_eq g1.symm)
  have sz_b1 : h0.size ≤ b1 := Nat.le_trans (Nat.le_refl _) (Nat.le_of_eq g1.symm)
  have Z1 : n0 ≤ h1.size := Nat.le_trans Z0 E1.1
  have K1 : Keep h0 h1 [] := (Keep.refl h0 []).ext E1
  have E_b1 := x1
  have V_b1 : Arv Z h1 b1 k1 .byte (1 : Int32) [(.int (0 : Int32))] (.int (0 : Int32)) := (Arv.new A1 (by decide)).pad (pad_rep [] (.int (0 : Int32)) 1)
  have F_a0_buckets_u2 : Fld Z h1 a0 "com/example/fireweed/fireweed/layout/Java31ByteSalt" "buckets" "I" (.int w_buckets_a0) := (F_buckets_a0.ext E1)
  obtain ⟨T3, X3, e3, st3⟩ := getF X1 hx hZ hown (host := "") (Or.inl (hw _ (List.mem_of_getElem? (i := 78) rfl))) Via.refl e1 F_a0_buckets_u2 (g := (mkF m 7 #[.val (.ref a0), .val (.int p1)] [(.ref a0), (.int p1), (.int (0 : Int32)), (.ref b1), (.ref b1)])) rfl rfl (hb hby d16_7)
  obtain ⟨_, _, ⟨T4, L4, k4', n4'⟩, -, X4, ⟨Lc4, hQ4, l4, y4, z4⟩, st4⟩ := Jvm.LawKit.callS X3 hx (y := (⟨"java/util/Objects", "checkIndex", "(II)I"⟩ : MethodName)) hown (mvT hZ (hw _ (List.mem_of_getElem? (i := 109) rfl))) (mvT hZ (hw _ (List.mem_of_getElem? (i := 110) rfl))) (mvT hZ (hw _ (List.mem_of_getElem? (i := 31) rfl))) (mvT hZ (hw _ (List.mem_of_getElem? (i := 111) rfl))) (by decide) (backOf (W := 3) (rm17 l Z az hw [] p1 w_buckets_a0 h1 n0 Z1 hc1 hc2) hZ (hw _ (List.mem_of_getElem? (i := 111) rfl)) (hw _ (List.mem_of_getElem? (i := 31) rfl)) (by decide) (by decide)) (g := (mkF m 10 #[.val (.ref a0), .val (.int p1)] [(.int w_buckets_a0), (.int p1), (.int (0 : Int32)), (.ref b1), (.ref b1)])) rfl (by rw [hml]; rfl) (argsL := [(.int p1), (.int w_buckets_a0)]) (rest := [(.int (0 : Int32)), (.ref b1), (.ref b1)]) (lenOf pd_12 rfl) rfl (by show 2 * 0 + _ ≤ _; exact Nat.le_of_eq rfl) (hb hby d16_10) (fun _ _ => ⟨rfl, e3, (by decide : 1 + 0 ≤ _), (by decide : 1 + 0 ≤ _)⟩)
  dsimp only [Pt.U, Pt.locs, Pt.cells, Pt.slots] at X4 l4 y4 z4 st4 hQ4
  subst l4 y4 z4
  obtain ⟨rfl, N4q, e4⟩ := hQ4
  obtain ⟨Lg4, X4', N4⟩ := own_gen X4 (Fr.app N0 N4q)
  obtain ⟨cl5, Ar5, qk5, Sz5, Ng5, Hs5, Gf5⟩ := id V_b1
  have hin6 : ¬ ((0 : Int32) < 0 ∨ cl5.slots.size ≤ ((0 : Int32)).toNatClampNeg) := inb_of Sz5 ⟨by decide, by decide⟩
  obtain ⟨T7, h7, X7, e7, W7, st7⟩ := stB X4' hx hZ e4 Ar5 (j := (0 : Int32)) hin6 (g := (mkF m 14 #[.val (.ref a0), .val (.int p1)] [(.int (p1.toInt8.toInt32)), (.int (0 : Int32)), (.ref b1), (.ref b1)])) rfl rfl (hb hby d16_14)
  rw [(own_nb _)] at W7
  have K7 : Keep h0 h7 [] := K1.wr W7 (Or.inr sz_b1)
  have V_b1_7 : Arv Z h7 b1 k1 .byte (1 : Int32) [(.int (p1.toInt8.toInt32))] (.int (0 : Int32)) := Arv.set (v := (.int (p1.toInt8.toInt32))) Ar5 qk5 Sz5 Ng5 Hs5 Gf5 (own_fits (own_nb _) (fits_nar_byte _)) W7 0 rfl (Nat.le_of_ble_eq_true rfl)
  have Z7 : n0 ≤ h7.size := Nat.le_trans Z1 (Keep.of_wr W7).1
  obtain ⟨Lg7, X7', N7⟩ := own_gen X7 (Fr.snoc X7 N4 g_b1)
  have E_b1_u8 : Exa Z h7 b1 "[B" := (E_b1.wr W7)
  obtain ⟨fs, hr, hrun, hended, hW, hsame⟩ := X7'.leave (v := some (.ref b1)) (fun h => by rw [Bd.returns] at h; cases h)
  refine ⟨_, _, pre0 _ ?_, hrun, hended, _, _, rfl, ?_, ⟨_, rfl⟩, hW, hsame.mono (by decide) (by decide)⟩
  · show Steps p.tables e below (s₁.setTop (mkF m 0 #[.val (.ref a0), .val (.int p1)] [])) _
    refine XS.iconst X0.here hx rfl (hb hby d16_0) ?_
    show Steps p.tables e below (s₁.setTop (mkF m 1 #[.val (.ref a0), .val (.int p1)] [(.int (1 : Int32))])) _
    refine st1 _ ?_
    show Steps p.tables e below (T1.setTop (mkF m 3 #[.val (.ref a0), .val (.int p1)] [(.ref b1)])) _
    refine XS.dup X1.here hx rfl (hb hby d16_3) rfl rfl ?_
    show Steps p.tables e below (T1.setTop (mkF m 4 #[.val (.ref a0), .val (.int p1)] [(.ref b1), (.ref b1)])) _
    refine XS.iconst X1.here hx rfl (hb hby d16_4) ?_
    show Steps p.tables e below (T1.setTop (mkF m 5 #[.val (.ref a0), .val (.int p1)] [(.int (0 : Int32)), (.ref b1), (.ref b1)])) _
    refine XS.iloadN X1.here hx rfl (hb hby d16_5) rfl ?_
    show Steps p.tables e below (T1.setTop (mkF m 6 #[.val (.ref a0), .val (.int p1)] [(.int p1), (.int (0 : Int32)), (.ref b1), (.ref b1)])) _
    refine XS.aloadN X1.here hx rfl (hb hby d16_6) rfl rfl ?_
    show Steps p.tables e below (T1.setTop (mkF m 7 #[.val (.ref a0), .val (.int p1)] [(.ref a0), (.int p1), (.int (0 : Int32)), (.ref b1), (.ref b1)])) _
    refine st3 _ ?_
    show Steps p.tables e below (T3.setTop (mkF m 10 #[.val (.ref a0), .val (.int p1)] [(.int w_buckets_a0), (.int p1), (.int (0 : Int32)), (.ref b1), (.ref b1)])) _
    refine st4 _ ?_
    show Steps p.tables e below (T4.setTop (mkF m 13 #[.val (.ref a0), .val (.int p1)] [(.int p1), (.int (0 : Int32)), (.ref b1), (.ref b1)])) _
    refine XS.i2b X4'.here hx rfl (hb hby d16_13) rfl ?_
    show Steps p.tables e below (T4.setTop (mkF m 14 #[.val (.ref a0), .val (.int p1)] [(.int (p1.toInt8.toInt32)), (.int (0 : Int32)), (.ref b1), (.ref b1)])) _
    refine st7 _ ?_
    show Steps p.tables e below (T7.setTop (mkF m 15 #[.val (.ref a0), .val (.int p1)] [(.ref b1)])) _
    jvm_step X7'.here [X7'.here.top, hx, (hb hby d16_15), X7'.method', Bd.returns, Value.isRef, FieldType.isReference]
    first | (intro acts; rw [hr _ acts rfl rfl rfl]) | rw [hr _ _ rfl rfl rfl]
    exact Steps.refl _
  · show Q16 Z a0 p1 w_buckets_a0 h0 n0 _ T7.heap _
    rw [e7]
    exact ⟨b1, k1, rfl, N7, sz_b1, K7, E_b1_u8, V_b1_7⟩
theorem pd_13 : parseMethodDescriptor "(ILjava/lang/String;)V" = some ⟨[.int, (.object "java/lang/String")], none⟩ := by decide +kernel
theorem pd_14 : parseMethodDescriptor "(I)[B" = some ⟨[.int], some (.array .byte)⟩ := by decide +kernel
theorem pn_com_example_fireweed_fireweed_layout_Java31ByteSaltSaltPinLaw : plainName "com/example/fireweed/fireweed/layout/Java31ByteSaltSaltPinLaw" = true := by first | (simp [plainName, overriddenIn]; done) | decide +kernel
theorem ef_rm0A (m : MethodId) (p0 : Int32) (p1 : Int32) : entryFrame m #[(.int p0), (.int p1)] maxLocals = mkF m 0 #[.val (.int p0), .val (.int p1), .unset, .unset, .unset, .unset, .unset] [] := by first | (simp [entryFrame, mkF, argsToLocals, Value.category, maxLocals]; done) | rfl
def Q0A (Z : State) (p0 : Int32) (p1 : Int32) (aU : Addr) (s_COMPACT_STRINGS : Int32) (h0 : Heap) (n0 : Nat) (v : Option Value) (h : Heap) (L : List Loc) : Prop := v = some (.int (1 : Int32)) ∧ Fr n0 L
set_option maxRecDepth 65536 in
set_option maxHeartbeats 40000000 in
theorem rm0A (l : Launch) (Z : State) (az : Array Value) (hw : ∀ d ∈ tables_1, d.before az Z = true) (ws : List Jvm.Cond) (p0 : Int32) (p1 : Int32) (aU : Addr) (s_COMPACT_STRINGS : Int32) (h0 : Heap) (n0 : Nat) (Z0 : n0 ≤ h0.size) (S_INSTANCE : Sta Z h0 "sun/nio/cs/UTF_8" "INSTANCE" "Lsun/nio/cs/UTF_8;" (.ref aU)) (S_UTF_8 : Sta Z h0 "java/nio/charset/StandardCharsets" "UTF_8" "Ljava/nio/charset/Charset;" (.ref aU)) (hc2 : ((p0 &&& (255 : Int32)) + (1 : Int32)) ≠ (0 : Int32)) (S_COMPACT_STRINGS : Sta Z h0 "java/lang/String" "COMPACT_STRINGS" "Z" (.int s_COMPACT_STRINGS)) (hc4 : ¬ (s_COMPACT_STRINGS = (0 : Int32))) (hc5 : ¬ (((p0 &&& (255 : Int32)) + (1 : Int32)) < (1 : Int32))) (hc6 : ¬ ((256 : Int32) < ((p0 &&& (255 : Int32)) + (1 : Int32)))) (hc7 : (own_bc ((p0 &&& (255 : Int32)) + (1 : Int32))) = (1 : Int32)) (hc8 : ¬ ((((p0 &&& (255 : Int32)) + (1 : Int32)) - (1 : Int32)) < (0 : Int32))) (hc9 : ¬ (((p1 &&& (2147483647 : Int32)) % ((p0 &&& (255 : Int32)) + (1 : Int32))) < (0 : Int32))) (hc10 : ((p1 &&& (2147483647 : Int32)) % ((p0 &&& (255 : Int32)) + (1 : Int32))) < ((p0 &&& (255 : Int32)) + (1 : Int32))) (hc11 : ((((p1 &&& (2147483647 : Int32)) % ((p0 &&& (255 : Int32)) + (1 : Int32))).toInt8.toInt32) &&& (255 : Int32)) = ((p1 &&& (2147483647 : Int32)) % ((p0 &&& (255 : Int32)) + (1 : Int32)))) :
    MetFree l x (head1 (Jvm.Cond.code x code maxLocals ret :: ws) room_1) (fun a U => a = #[(.int p0), (.int p1)] ∧ Z.Warmed39 U.vm ∧ U.heap = h0 ∧ CHv Z [("com/example/fireweed/fireweed/layout/Java31ByteSaltSaltPinLaw", 10)] U.vm h0) (fun _ _ _ _ _ => True) (fun _ U o U' => ∃ v L, o = .returned v ∧ Q0A Z p0 p1 aU s_COMPACT_STRINGS h0 n0 v U'.heap L ∧ ReturnedEndW U o U' L room_1.cells room_1.slots) := by
  refine MetFree.of_bodySF (plainFor_of_name pn_com_example_fireweed_fireweed_layout_Java31ByteSaltSaltPinLaw) hisR ?_
  intro p e s m args below meth c s₁ Bd hml0 hP hK
  obtain ⟨rfl, hZ, hh, hCH⟩ := hP
  have hx := Bd.exec
  have hby := Bd.bytes
  have hml : c.maxLocals = 7 := hml0
  have hown : s.vm.findClass "com/example/fireweed/fireweed/layout/Java31ByteSaltSaltPinLaw" = some m.cls := findClass_of_methodNamed Bd.named
  have hnm := (name_of_methodNamed Bd.named Bd.method).1
  have X0 : Stand p l e room_1 s m #[(.int p0), (.int p1)] below meth c s₁ [] 0 0 := Stand.of_body Bd
  have e0 : s₁.heap = h0 := by rw [← hh, Bd.state]; rfl
  have N0 := Fr.nil n0
  have pre0 : ∀ t, Steps p.tables e below (s₁.setTop (mkF m 0 #[.val (.int p0), .val (.int p1), .unset, .unset, .unset, .unset, .unset] [])) t → Steps p.tables e below (s₁.setTop (entryFrame m #[(.int p0), (.int p1)] maxLocals)) t := fun t k => castTop (ef_rm0A m p0 p1) k
  have hEW : EW Z az [("com/example/fireweed/fireweed/layout/Java31ByteSaltSaltPinLaw", 10)] := (EW.cons (hw _ (List.mem_of_getElem? (i := 4) rfl)) (by decide) EW.nil)
  have hS0 : s.Since s.vm 0 := (State.WarmedH.refl s).since 0
  have wS : ∀ a ∈ Bundle.stringAtoms, a.before az Z = true := fun d hd => by
    simp only [Bundle.stringAtoms, List.mem_cons, List.not_mem_nil, or_false] at hd
    rcases hd with rfl | rfl | rfl | rfl | rfl | rfl | rfl
    · exact (hw _ (List.mem_of_getElem? (i := 5) rfl))
    · exact (hw _ (List.mem_of_getElem? (i := 6) rfl))
    · exact (hw _ (List.mem_of_getElem? (i := 7) rfl))
    · exact (hw _ (List.mem_of_getElem? (i := 8) rfl))
    · exact (hw _ (List.mem_of_getElem? (i := 9) rfl))
    · exact (hw _ (List.mem_of_getElem? (i := 10) rfl))
    · exact (hw _ (List.mem_of_getElem? (i := 11) rfl))
  obtain ⟨T1, h1, X1, e1, E1, A1, D1, -, st1⟩ := newO X0 hx hZ hown (hw _ (List.mem_of_getElem? (i := 1) rfl)) (hw _ (List.mem_of_getElem? (i := 2) rfl)) (hw _ (List.mem_of_getElem? (i := 3) rfl)) e0 (g := (mkF m 15 #[.val (.int p0), .val (.int p1), .val (.int ((p0 &&& (255 : Int32)) + (1 : Int32))), .val (.int ((p1 &&& (2147483647 : Int32)) % ((p0 &&& (255 : Int32)) + (1 : Int32)))), .unset, .unset, .unset] [])) rfl (hb hby at_15) (by decide) (by decide)
  obtain ⟨b1, g1⟩ : ∃ z, z = h0.size := ⟨_, rfl⟩
  rw [← g1] at A1 D1 st1
  have g_b1 : n0 ≤ b1 := Nat.le_trans Z0 (Nat.le_of_eq g1.symm)
  have sz_b1 : h0.size ≤ b1 := Nat.le_trans (Nat.le_refl _) (Nat.le_of_eq g1.symm)
  have Z1 : n0 ≤ h1.size := Nat.le_trans Z0 E1.1
  have K1 : Keep h0 h1 [] := (Keep.refl h0 []).ext E1
  have E_b1 := A1
  have F_suffix_b1 : Fld Z h1 b1 "com/example/fireweed/fireweed/layout/Salt" "suffix" "Ljava/lang/String;" .null := D1 (Or.inr (hw _ (List.mem_of_getElem? (i := 36) rfl))) (ty := (.object "java/lang/String")) (by decide)
  have F_suffixBytes_b1 : Fld Z h1 b1 "com/example/fireweed/fireweed/layout/Salt" "suffixBytes" "[B" .null := D1 (Or.inr (hw _ (List.mem_of_getElem? (i := 77) rfl))) (ty := (.array .byte)) (by decide)
  have F_buckets_b1 : Fld Z h1 b1 "com/example/fireweed/fireweed/layout/Java31ByteSalt" "buckets" "I" (.int (0 : Int32)) := D1 (Or.inr (hw _ (List.mem_of_getElem? (i := 79) rfl))) (ty := .int) (by decide)
  have F_mask_b1 : Fld Z h1 b1 "com/example/fireweed/fireweed/layout/Java31ByteSalt" "mask" "I" (.int (0 : Int32)) := D1 (Or.inr (hw _ (List.mem_of_getElem? (i := 88) rfl))) (ty := .int) (by decide)
  have F_overflow_b1 : Fld Z h1 b1 "com/example/fireweed/fireweed/layout/Java31ByteSalt" "overflow" "I" (.int (0 : Int32)) := D1 (Or.inr (hw _ (List.mem_of_getElem? (i := 103) rfl))) (ty := .int) (by decide)
  obtain ⟨l2, T2, h2, kk2, lb2, lk2, X2, e2, E2, hS2, hk2, hZ2, hown2, xl2, fc2, fv2, vl2, -, -, ch2, lt2, -, st2⟩ := ldcCH (s := s) (vm0 := s.vm) X1 hx hZ hown (hw _ (List.mem_of_getElem? (i := 4) rfl)) wS e1 hS0 (Nat.le_trans (Nat.zero_le _) E1.1) hEW (List.mem_of_getElem? (i := 0) rfl) (hCH.ext E1) (vs := []) (z := (0 : Int32)) ⟨by decide, rfl⟩ (by decide) (by decide) (g := (mkF m 20 #[.val (.int p0), .val (.int p1), .val (.int ((p0 &&& (255 : Int32)) + (1 : Int32))), .val (.int ((p1 &&& (2147483647 : Int32)) % ((p0 &&& (255 : Int32)) + (1 : Int32)))), .unset, .unset, .unset] [(.int ((p0 &&& (255 : Int32)) + (1 : Int32))), (.ref b1), (.ref b1)])) rfl (hb hby at_20) (n := 0) (by decide) (by decide) (by decide) (by decide)
  have xb2 : Exa Z h2 lb2 "[B" := own_exaB (EL := [("com/example/fireweed/fireweed/layout/Java31ByteSaltSaltPinLaw", 10)]) ch2.1 (List.mem_of_getElem? (i := 0) rfl) hZ2 (hw _ (List.mem_of_getElem? (i := 4) rfl)) hown2 lt2 fv2
  have Z2 : n0 ≤ h2.size := Nat.le_trans Z1 E2.1
  have K2 : Keep h0 h2 [] := K1.ext E2
  have E_b1_u4 : Exa Z h2 b1 "com/example/fireweed/fireweed/layout/Java31ByteSalt" := (E_b1.ext E2)
  have F_b1_suffix_u5 : Fld Z h2 b1 "com/example/fireweed/fireweed/layout/Salt" "suffix" "Ljava/lang/String;" .null := (F_suffix_b1.ext E2)
  have F_b1_suffixBytes_u6 : Fld Z h2 b1 "com/example/fireweed/fireweed/layout/Salt" "suffixBytes" "[B" .null := (F_suffixBytes_b1.ext E2)
  have F_b1_buckets_u7 : Fld Z h2 b1 "com/example/fireweed/fireweed/layout/Java31ByteSalt" "buckets" "I" (.int (0 : Int32)) := (F_buckets_b1.ext E2)
  have F_b1_mask_u8 : Fld Z h2 b1 "com/example/fireweed/fireweed/layout/Java31ByteSalt" "mask" "I" (.int (0 : Int32)) := (F_mask_b1.ext E2)
  have F_b1_overflow_u9 : Fld Z h2 b1 "com/example/fireweed/fireweed/layout/Java31ByteSalt" "overflow" "I" (.int (0 : Int32)) := (F_overflow_b1.ext E2)
  have S_UTF_8_INSTANCE_u10 : Sta Z h2 "sun/nio/cs/UTF_8" "INSTANCE" "Lsun/nio/cs/UTF_8;" (.ref aU) := ((S_INSTANCE.ext E1).ext E2)
  have S_StandardCharsets_UTF_8_u11 : Sta Z h2 "java/nio/charset/StandardCharsets" "UTF_8" "Ljava/nio/charset/Charset;" (.ref aU) := ((S_UTF_8.ext E1).ext E2)
  have S_String_COMPACT_STRINGS_u12 : Sta Z h2 "java/lang/String" "COMPACT_STRINGS" "Z" (.int s_COMPACT_STRINGS) := ((S_COMPACT_STRINGS.ext E1).ext E2)
  have ne_l2_b1 : l2 ≠ b1 := ne_exa xl2 E_b1_u4 (by decide)
  have ne_lb2_b1 : lb2 ≠ b1 := ne_exa xb2 E_b1_u4 (by decide)
  obtain ⟨_, _, ⟨T3, L3, k3', n3'⟩, -, Y3, yS3, yg3, ⟨Lc3, hQ3, l3, y3, z3⟩, st3⟩ := X2.specialBackS hx (y := (⟨"com/example/fireweed/fireweed/layout/Java31ByteSalt", "<init>", "(ILjava/lang/String;)V"⟩ : MethodName)) rfl hown2 (mvT hZ2 (hw _ (List.mem_of_getElem? (i := 12) rfl))) (mvT hZ2 (hw _ (List.mem_of_getElem? (i := 13) rfl))) (mvT hZ2 (hw _ (List.mem_of_getElem? (i := 14) rfl))) (by decide) (backOfS (W := 1) (rm10A l Z az hw [] b1 ((p0 &&& (255 : Int32)) + (1 : Int32)) l2 lb2 lk2 aU s_COMPACT_STRINGS h2 n0 Z2 E_b1_u4 F_b1_suffix_u5 F_b1_suffixBytes_u6 F_b1_buckets_u7 F_b1_mask_u8 F_b1_overflow_u9 xl2 fc2 fv2 vl2 xb2 S_UTF_8_INSTANCE_u10 S_StandardCharsets_UTF_8_u11 S_String_COMPACT_STRINGS_u12 g_b1 ne_l2_b1 ne_lb2_b1 hc4 hc5 hc6 hc7 hc8) hZ2 (hw _ (List.mem_of_getElem? (i := 14) rfl)) (hw _ (List.mem_of_getElem? (i := 3) rfl)) (by decide) (by decide)) (g := (mkF m 22 #[.val (.int p0), .val (.int p1), .val (.int ((p0 &&& (255 : Int32)) + (1 : Int32))), .val (.int ((p1 &&& (2147483647 : Int32)) % ((p0 &&& (255 : Int32)) + (1 : Int32)))), .unset, .unset, .unset] [(.ref l2), (.int ((p0 &&& (255 : Int32)) + (1 : Int32))), (.ref b1), (.ref b1)])) rfl (by rw [hml]; rfl) (Steps.refl _) (a := b1) (argsL := [(.int ((p0 &&& (255 : Int32)) + (1 : Int32))), (.ref l2)]) (rest := [(.ref b1)]) (lenOf pd_13 rfl) rfl (by show 2 * 0 + _ ≤ _; exact Nat.le_of_eq rfl) (hb hby at_22) (fun _ _ => ⟨rfl, e2, (by decide : 3 + 3 ≤ _), (by decide : 9 + 28 ≤ _)⟩)
  dsimp only [Pt.U, Pt.locs, Pt.cells, Pt.slots] at Y3 yS3 yg3 l3 y3 z3 st3 hQ3
  subst l3 y3 z3
  obtain ⟨X3, hS3, hZ3, hown3⟩ := rebS (s := s) (vm0 := T2.vm) hS2 (by rw [e2]; exact hk2) Y3 yS3 yg3 hZ2 hown2
  obtain ⟨b3_0, rfl, N3q, s3_0, kq3, pf3_0, pf3_1, pf3_2, pf3_3, pf3_4, pf3_5, pf3_6, pf3_7⟩ := hQ3
  obtain ⟨Lg3, X3', N3⟩ := own_gen X3 (Fr.app N0 N3q)
  have g_b3_0 : n0 ≤ b3_0 := Nat.le_trans Z2 s3_0
  have sz_b3_0 : h0.size ≤ b3_0 := Nat.le_trans K2.1 s3_0
  have K3 : Keep h0 T3.heap [] := K2.trans kq3 (allS (Or.inr sz_b1) all0)
  have Z3 : n0 ≤ T3.heap.size := Nat.le_trans Z2 kq3.1
  obtain ⟨cq13, kq13, q13a, q13b, q13c⟩ := isOf hZ3 rfl pf3_0
  obtain ⟨_, _, ⟨T13, L13, k13', n13'⟩, -, X13, ⟨Lc13, hQ13, l13, y13, z13⟩, st13⟩ := X3'.virtualBack hx (y := (⟨"com/example/fireweed/fireweed/layout/Java31ByteSalt", "salt", "(I)[B"⟩ : MethodName)) (z := (⟨"com/example/fireweed/fireweed/layout/Java31ByteSalt", "salt", "(I)[B"⟩ : MethodName)) hown3 (mvT hZ3 (hw _ (List.mem_of_getElem? (i := 104) rfl))) (mvT hZ3 (hw _ (List.mem_of_getElem? (i := 105) rfl))) (notFace_of_selects (args := #[]) (mvT hZ3 (hw _ (List.mem_of_getElem? (i := 107) rfl)))) (mvT hZ3 (hw _ (List.mem_of_getElem? (i := 107) rfl))) (mvT hZ3 (hw _ (List.mem_of_getElem? (i := 106) rfl))) (by decide) (backOf (W := 0) (rm16 l Z az hw [] b1 ((p1 &&& (2147483647 : Int32)) % ((p0 &&& (255 : Int32)) + (1 : Int32))) ((p0 &&& (255 : Int32)) + (1 : Int32)) T3.heap n0 Z3 pf3_3 hc9 hc10) hZ3 (hw _ (List.mem_of_getElem? (i := 108) rfl)) (hw _ (List.mem_of_getElem? (i := 3) rfl)) (by decide) (by decide)) q13a q13c (g := (mkF m 30 #[.val (.int p0), .val (.int p1), .val (.int ((p0 &&& (255 : Int32)) + (1 : Int32))), .val (.int ((p1 &&& (2147483647 : Int32)) % ((p0 &&& (255 : Int32)) + (1 : Int32)))), .val (.ref b1), .unset, .unset] [(.int ((p1 &&& (2147483647 : Int32)) % ((p0 &&& (255 : Int32)) + (1 : Int32)))), (.ref b1)])) rfl (by rw [hml]; rfl) (Steps.refl _) (argsL := [(.int ((p1 &&& (2147483647 : Int32)) % ((p0 &&& (255 : Int32)) + (1 : Int32))))]) (rest := []) (lenOf pd_14 rfl) rfl (by show 2 * 0 + _ ≤ _; exact Nat.le_of_eq rfl) (hb hby at_30) (fun _ _ => ⟨rfl, rfl, (by decide : 6 + 1 ≤ _), (by decide : 37 + 1 ≤ _)⟩)
  dsimp only [Pt.U, Pt.locs, Pt.cells, Pt.slots] at X13 l13 y13 z13 st13 hQ13
  subst l13 y13 z13
  obtain ⟨b13_0, kk13_0, rfl, N13q, s13_0, kq13, pf13_0, pf13_1⟩ := hQ13
  obtain ⟨Lg13, X13', N13⟩ := own_gen X13 (Fr.app N3 N13q)
  have g_b13_0 : n0 ≤ b13_0 := Nat.le_trans Z3 s13_0
  have sz_b13_0 : h0.size ≤ b13_0 := Nat.le_trans K3.1 s13_0
  have K13 : Keep h0 T13.heap [] := K3.trans kq13 all0
  have Z13 : n0 ≤ T13.heap.size := Nat.le_trans Z3 kq13.1
  obtain ⟨cl14, Ar14, qk14, Sz14, Ng14, Hs14, Gf14⟩ := id pf13_1
  have hin15 : ¬ ((0 : Int32) < 0 ∨ cl14.slots.size ≤ ((0 : Int32)).toNatClampNeg) := inb_of Sz14 ⟨by decide, by decide⟩
  have hat16 : cl14.slots[((0 : Int32)).toNatClampNeg]? = some (.int (((p1 &&& (2147483647 : Int32)) % ((p0 &&& (255 : Int32)) + (1 : Int32))).toInt8.toInt32)) := Hs14.at hin15 rfl
  have hin17 : ¬ ((0 : Int32) < 0 ∨ cl14.slots.size ≤ ((0 : Int32)).toNatClampNeg) := inb_of Sz14 ⟨by decide, by decide⟩
  have hat18 : cl14.slots[((0 : Int32)).toNatClampNeg]? = some (.int (((p1 &&& (2147483647 : Int32)) % ((p0 &&& (255 : Int32)) + (1 : Int32))).toInt8.toInt32)) := Hs14.at hin17 rfl
  have hin19 : ¬ ((0 : Int32) < 0 ∨ cl14.slots.size ≤ ((0 : Int32)).toNatClampNeg) := inb_of Sz14 ⟨by decide, by decide⟩
  obtain ⟨T20, h20, X20, e20, W20, st20⟩ := stB X13' hx hZ3 rfl Ar14 (j := (0 : Int32)) hin19 (g := (mkF m 66 #[.val (.int p0), .val (.int p1), .val (.int ((p0 &&& (255 : Int32)) + (1 : Int32))), .val (.int ((p1 &&& (2147483647 : Int32)) % ((p0 &&& (255 : Int32)) + (1 : Int32)))), .val (.ref b1), .val (.ref b13_0), .unset] [(.int (((((p1 &&& (2147483647 : Int32)) % ((p0 &&& (255 : Int32)) + (1 : Int32))).toInt8.toInt32) + (1 : Int32)).toInt8.toInt32)), (.int (0 : Int32)), (.ref b13_0)])) rfl rfl (hb hby at_66)
  rw [(own_nb _)] at W20
  have K20 : Keep h0 h20 [] := K13.wr W20 (Or.inr sz_b13_0)
  have V_b13_0_20 : Arv Z h20 b13_0 kk13_0 .byte (1 : Int32) [(.int (((((p1 &&& (2147483647 : Int32)) % ((p0 &&& (255 : Int32)) + (1 : Int32))).toInt8.toInt32) + (1 : Int32)).toInt8.toInt32))] (.int (0 : Int32)) := Arv.set (v := (.int (((((p1 &&& (2147483647 : Int32)) % ((p0 &&& (255 : Int32)) + (1 : Int32))).toInt8.toInt32) + (1 : Int32)).toInt8.toInt32))) Ar14 qk14 Sz14 Ng14 Hs14 Gf14 (own_fits (own_nb _) (fits_nar_byte _)) W20 0 rfl (Nat.le_of_ble_eq_true rfl)
  have Z20 : n0 ≤ h20.size := Nat.le_trans Z13 (Keep.of_wr W20).1
  obtain ⟨Lg20, X20', N20⟩ := own_gen X20 (Fr.snoc X20 N13 g_b13_0)
  have ne_b1_b13_0 : b1 ≠ b13_0 := own_ne (Nat.lt_of_lt_of_le pf3_0.lt s13_0)
  have F_b1_buckets_u22 : Fld Z h20 b1 "com/example/fireweed/fireweed/layout/Java31ByteSalt" "buckets" "I" (.int ((p0 &&& (255 : Int32)) + (1 : Int32))) := ((pf3_3.keep kq13 nin0).other W20 (Or.inl ne_b1_b13_0))
  have E_b1_u23 : Exa Z h20 b1 "com/example/fireweed/fireweed/layout/Java31ByteSalt" := ((pf3_0.keep kq13).wr W20)
  obtain ⟨cq21, kq21, q21a, q21b, q21c⟩ := isOf hZ3 e20 E_b1_u23
  obtain ⟨_, _, ⟨T21, L21, k21', n21'⟩, -, X21, ⟨Lc21, hQ21, l21, y21, z21⟩, st21⟩ := X20'.virtualBack hx (y := (⟨"com/example/fireweed/fireweed/layout/Java31ByteSalt", "salt", "(I)[B"⟩ : MethodName)) (z := (⟨"com/example/fireweed/fireweed/layout/Java31ByteSalt", "salt", "(I)[B"⟩ : MethodName)) hown3 (mvT hZ3 (hw _ (List.mem_of_getElem? (i := 104) rfl))) (mvT hZ3 (hw _ (List.mem_of_getElem? (i := 105) rfl))) (notFace_of_selects (args := #[]) (mvT hZ3 (hw _ (List.mem_of_getElem? (i := 107) rfl)))) (mvT hZ3 (hw _ (List.mem_of_getElem? (i := 107) rfl))) (mvT hZ3 (hw _ (List.mem_of_getElem? (i := 106) rfl))) (by decide) (backOf (W := 0) (rm16 l Z az hw [] b1 ((p1 &&& (2147483647 : Int32)) % ((p0 &&& (255 : Int32)) + (1 : Int32))) ((p0 &&& (255 : Int32)) + (1 : Int32)) h20 n0 Z20 F_b1_buckets_u22 hc9 hc10) hZ3 (hw _ (List.mem_of_getElem? (i := 108) rfl)) (hw _ (List.mem_of_getElem? (i := 3) rfl)) (by decide) (by decide)) q21a q21c (g := (mkF m 70 #[.val (.int p0), .val (.int p1), .val (.int ((p0 &&& (255 : Int32)) + (1 : Int32))), .val (.int ((p1 &&& (2147483647 : Int32)) % ((p0 &&& (255 : Int32)) + (1 : Int32)))), .val (.ref b1), .val (.ref b13_0), .unset] [(.int ((p1 &&& (2147483647 : Int32)) % ((p0 &&& (255 : Int32)) + (1 : Int32)))), (.ref b1)])) rfl (by rw [hml]; rfl) (Steps.refl _) (argsL := [(.int ((p1 &&& (2147483647 : Int32)) % ((p0 &&& (255 : Int32)) + (1 : Int32))))]) (rest := []) (lenOf pd_14 rfl) rfl (by show 2 * 0 + _ ≤ _; exact Nat.le_of_eq rfl) (hb hby at_70) (fun _ _ => ⟨rfl, e20, (by decide : 7 + 1 ≤ _), (by decide : 38 + 1 ≤ _)⟩)
  dsimp only [Pt.U, Pt.locs, Pt.cells, Pt.slots] at X21 l21 y21 z21 st21 hQ21
  subst l21 y21 z21
  obtain ⟨b21_0, kk21_0, rfl, N21q, s21_0, kq21, pf21_0, pf21_1⟩ := hQ21
  obtain ⟨Lg21, X21', N21⟩ := own_gen X21 (Fr.app N20 N21q)
  have g_b21_0 : n0 ≤ b21_0 := Nat.le_trans Z20 s21_0
  have sz_b21_0 : h0.size ≤ b21_0 := Nat.le_trans K20.1 s21_0
  have K21 : Keep h0 T21.heap [] := K20.trans kq21 all0
  have Z21 : n0 ≤ T21.heap.size := Nat.le_trans Z20 kq21.1
  have ne_b13_0_b21_0 : b13_0 ≠ b21_0 := own_ne (Nat.lt_of_lt_of_le (pf13_0.wr W20).lt s21_0)
  obtain ⟨cl24, Ar24, qk24, Sz24, Ng24, Hs24, Gf24⟩ := id pf21_1
  have hin25 : ¬ ((0 : Int32) < 0 ∨ cl24.slots.size ≤ ((0 : Int32)).toNatClampNeg) := inb_of Sz24 ⟨by decide, by decide⟩
  have hat26 : cl24.slots[((0 : Int32)).toNatClampNeg]? = some (.int (((p1 &&& (2147483647 : Int32)) % ((p0 &&& (255 : Int32)) + (1 : Int32))).toInt8.toInt32)) := Hs24.at hin25 rfl
  obtain ⟨fs, hr, hrun, hended, hWE⟩ := X21'.leaveW (s := s) hS3 (Nat.le_trans (Nat.le_trans (Nat.le_trans (Nat.le_refl _) kq13.1) (Keep.of_wr W20).1) kq21.1) (v := some (.int (1 : Int32))) (fun h => by rw [Bd.returns] at h; cases h)
  refine ⟨_, _, pre0 _ ?_, hrun, hended, _, _, rfl, ?_, hWE.1, hWE.2.1, hWE.2.2.1, hWE.2.2.2.mono (by decide) (by decide)⟩
  · show Steps p.tables e below (s₁.setTop (mkF m 0 #[.val (.int p0), .val (.int p1), .unset, .unset, .unset, .unset, .unset] [])) _
    refine XS.iloadN X0.here hx rfl (hb hby at_0) rfl ?_
    show Steps p.tables e below (s₁.setTop (mkF m 1 #[.val (.int p0), .val (.int p1), .unset, .unset, .unset, .unset, .unset] [(.int p0)])) _
    refine XS.sipush X0.here hx rfl (hb hby at_1) ?_
    show Steps p.tables e below (s₁.setTop (mkF m 4 #[.val (.int p0), .val (.int p1), .unset, .unset, .unset, .unset, .unset] [(.int (255 : Int32)), (.int p0)])) _
    refine XS.iand X0.here hx rfl (hb hby at_4) rfl ?_
    show Steps p.tables e below (s₁.setTop (mkF m 5 #[.val (.int p0), .val (.int p1), .unset, .unset, .unset, .unset, .unset] [(.int (p0 &&& (255 : Int32)))])) _
    refine XS.iconst X0.here hx rfl (hb hby at_5) ?_
    show Steps p.tables e below (s₁.setTop (mkF m 6 #[.val (.int p0), .val (.int p1), .unset, .unset, .unset, .unset, .unset] [(.int (1 : Int32)), (.int (p0 &&& (255 : Int32)))])) _
    refine XS.iadd X0.here hx rfl (hb hby at_6) rfl ?_
    show Steps p.tables e below (s₁.setTop (mkF m 7 #[.val (.int p0), .val (.int p1), .unset, .unset, .unset, .unset, .unset] [(.int ((p0 &&& (255 : Int32)) + (1 : Int32)))])) _
    refine XS.istoreN X0.here hx rfl (hb hby at_7) rfl (l' := #[.val (.int p0), .val (.int p1), .val (.int ((p0 &&& (255 : Int32)) + (1 : Int32))), .unset, .unset, .unset, .unset]) rfl ?_
    show Steps p.tables e below (s₁.setTop (mkF m 8 #[.val (.int p0), .val (.int p1), .val (.int ((p0 &&& (255 : Int32)) + (1 : Int32))), .unset, .unset, .unset, .unset] [])) _
    refine XS.iloadN X0.here hx rfl (hb hby at_8) rfl ?_
    show Steps p.tables e below (s₁.setTop (mkF m 9 #[.val (.int p0), .val (.int p1), .val (.int ((p0 &&& (255 : Int32)) + (1 : Int32))), .unset, .unset, .unset, .unset] [(.int p1)])) _
    refine X0.ldcInt hx hown (mvT hZ (hw _ (List.mem_of_getElem? (i := 0) rfl))) (g := (mkF m 9 #[.val (.int p0), .val (.int p1), .val (.int ((p0 &&& (255 : Int32)) + (1 : Int32))), .unset, .unset, .unset, .unset] [(.int p1)])) rfl (hb hby at_9) _ ?_
    show Steps p.tables e below (s₁.setTop (mkF m 11 #[.val (.int p0), .val (.int p1), .val (.int ((p0 &&& (255 : Int32)) + (1 : Int32))), .unset, .unset, .unset, .unset] [(.int (2147483647 : Int32)), (.int p1)])) _
    refine XS.iand X0.here hx rfl (hb hby at_11) rfl ?_
    show Steps p.tables e below (s₁.setTop (mkF m 12 #[.val (.int p0), .val (.int p1), .val (.int ((p0 &&& (255 : Int32)) + (1 : Int32))), .unset, .unset, .unset, .unset] [(.int (p1 &&& (2147483647 : Int32)))])) _
    refine XS.iloadN X0.here hx rfl (hb hby at_12) rfl ?_
    show Steps p.tables e below (s₁.setTop (mkF m 13 #[.val (.int p0), .val (.int p1), .val (.int ((p0 &&& (255 : Int32)) + (1 : Int32))), .unset, .unset, .unset, .unset] [(.int ((p0 &&& (255 : Int32)) + (1 : Int32))), (.int (p1 &&& (2147483647 : Int32)))])) _
    refine iremM X0 hx rfl (hb hby at_13) rfl hc2 ?_
    show Steps p.tables e below (s₁.setTop (mkF m 14 #[.val (.int p0), .val (.int p1), .val (.int ((p0 &&& (255 : Int32)) + (1 : Int32))), .unset, .unset, .unset, .unset] [(.int ((p1 &&& (2147483647 : Int32)) % ((p0 &&& (255 : Int32)) + (1 : Int32))))])) _
    refine XS.istoreN X0.here hx rfl (hb hby at_14) rfl (l' := #[.val (.int p0), .val (.int p1), .val (.int ((p0 &&& (255 : Int32)) + (1 : Int32))), .val (.int ((p1 &&& (2147483647 : Int32)) % ((p0 &&& (255 : Int32)) + (1 : Int32)))), .unset, .unset, .unset]) rfl ?_
    show Steps p.tables e below (s₁.setTop (mkF m 15 #[.val (.int p0), .val (.int p1), .val (.int ((p0 &&& (255 : Int32)) + (1 : Int32))), .val (.int ((p1 &&& (2147483647 : Int32)) % ((p0 &&& (255 : Int32)) + (1 : Int32)))), .unset, .unset, .unset] [])) _
    refine st1 _ ?_
    show Steps p.tables e below (T1.setTop (mkF m 18 #[.val (.int p0), .val (.int p1), .val (.int ((p0 &&& (255 : Int32)) + (1 : Int32))), .val (.int ((p1 &&& (2147483647 : Int32)) % ((p0 &&& (255 : Int32)) + (1 : Int32)))), .unset, .unset, .unset] [(.ref b1)])) _
    refine XS.dup X1.here hx rfl (hb hby at_18) rfl rfl ?_
    show Steps p.tables e below (T1.setTop (mkF m 19 #[.val (.int p0), .val (.int p1), .val (.int ((p0 &&& (255 : Int32)) + (1 : Int32))), .val (.int ((p1 &&& (2147483647 : Int32)) % ((p0 &&& (255 : Int32)) + (1 : Int32)))), .unset, .unset, .unset] [(.ref b1), (.ref b1)])) _
    refine XS.iloadN X1.here hx rfl (hb hby at_19) rfl ?_
    show Steps p.tables e below (T1.setTop (mkF m 20 #[.val (.int p0), .val (.int p1), .val (.int ((p0 &&& (255 : Int32)) + (1 : Int32))), .val (.int ((p1 &&& (2147483647 : Int32)) % ((p0 &&& (255 : Int32)) + (1 : Int32)))), .unset, .unset, .unset] [(.int ((p0 &&& (255 : Int32)) + (1 : Int32))), (.ref b1), (.ref b1)])) _
    refine st2 _ ?_
    show Steps p.tables e below (T2.setTop (mkF m 22 #[.val (.int p0), .val (.int p1), .val (.int ((p0 &&& (255 : Int32)) + (1 : Int32))), .val (.int ((p1 &&& (2147483647 : Int32)) % ((p0 &&& (255 : Int32)) + (1 : Int32)))), .unset, .unset, .unset] [(.ref l2), (.int ((p0 &&& (255 : Int32)) + (1 : Int32))), (.ref b1), (.ref b1)])) _
    refine st3.trans ?_
    show Steps p.tables e below (T3.setTop (mkF m 25 #[.val (.int p0), .val (.int p1), .val (.int ((p0 &&& (255 : Int32)) + (1 : Int32))), .val (.int ((p1 &&& (2147483647 : Int32)) % ((p0 &&& (255 : Int32)) + (1 : Int32)))), .unset, .unset, .unset] [(.ref b1)])) _
    refine XS.astore X3'.here hx rfl (hb hby at_25) rfl rfl (l' := #[.val (.int p0), .val (.int p1), .val (.int ((p0 &&& (255 : Int32)) + (1 : Int32))), .val (.int ((p1 &&& (2147483647 : Int32)) % ((p0 &&& (255 : Int32)) + (1 : Int32)))), .val (.ref b1), .unset, .unset]) rfl ?_
    show Steps p.tables e below (T3.setTop (mkF m 27 #[.val (.int p0), .val (.int p1), .val (.int ((p0 &&& (255 : Int32)) + (1 : Int32))), .val (.int ((p1 &&& (2147483647 : Int32)) % ((p0 &&& (255 : Int32)) + (1 : Int32)))), .val (.ref b1), .unset, .unset] [])) _
    refine XS.aload X3'.here hx rfl (hb hby at_27) rfl rfl ?_
    show Steps p.tables e below (T3.setTop (mkF m 29 #[.val (.int p0), .val (.int p1), .val (.int ((p0 &&& (255 : Int32)) + (1 : Int32))), .val (.int ((p1 &&& (2147483647 : Int32)) % ((p0 &&& (255 : Int32)) + (1 : Int32)))), .val (.ref b1), .unset, .unset] [(.ref b1)])) _
    refine XS.iloadN X3'.here hx rfl (hb hby at_29) rfl ?_
    show Steps p.tables e below (T3.setTop (mkF m 30 #[.val (.int p0), .val (.int p1), .val (.int ((p0 &&& (255 : Int32)) + (1 : Int32))), .val (.int ((p1 &&& (2147483647 : Int32)) % ((p0 &&& (255 : Int32)) + (1 : Int32)))), .val (.ref b1), .unset, .unset] [(.int ((p1 &&& (2147483647 : Int32)) % ((p0 &&& (255 : Int32)) + (1 : Int32)))), (.ref b1)])) _
    refine st13.trans ?_
    show Steps p.tables e below (T13.setTop (mkF m 33 #[.val (.int p0), .val (.int p1), .val (.int ((p0 &&& (255 : Int32)) + (1 : Int32))), .val (.int ((p1 &&& (2147483647 : Int32)) % ((p0 &&& (255 : Int32)) + (1 : Int32)))), .val (.ref b1), .unset, .unset] [(.ref b13_0)])) _
    refine XS.astore X13'.here hx rfl (hb hby at_33) rfl rfl (l' := #[.val (.int p0), .val (.int p1), .val (.int ((p0 &&& (255 : Int32)) + (1 : Int32))), .val (.int ((p1 &&& (2147483647 : Int32)) % ((p0 &&& (255 : Int32)) + (1 : Int32)))), .val (.ref b1), .val (.ref b13_0), .unset]) rfl ?_
    show Steps p.tables e below (T13.setTop (mkF m 35 #[.val (.int p0), .val (.int p1), .val (.int ((p0 &&& (255 : Int32)) + (1 : Int32))), .val (.int ((p1 &&& (2147483647 : Int32)) % ((p0 &&& (255 : Int32)) + (1 : Int32)))), .val (.ref b1), .val (.ref b13_0), .unset] [])) _
    refine XS.aload X13'.here hx rfl (hb hby at_35) rfl rfl ?_
    show Steps p.tables e below (T13.setTop (mkF m 37 #[.val (.int p0), .val (.int p1), .val (.int ((p0 &&& (255 : Int32)) + (1 : Int32))), .val (.int ((p1 &&& (2147483647 : Int32)) % ((p0 &&& (255 : Int32)) + (1 : Int32)))), .val (.ref b1), .val (.ref b13_0), .unset] [(.ref b13_0)])) _
    refine X13'.arraylength hx Ar14.1 (State.isArrayOf_alike hZ3.alike Ar14.2.1) (g := (mkF m 37 #[.val (.int p0), .val (.int p1), .val (.int ((p0 &&& (255 : Int32)) + (1 : Int32))), .val (.int ((p1 &&& (2147483647 : Int32)) % ((p0 &&& (255 : Int32)) + (1 : Int32)))), .val (.ref b1), .val (.ref b13_0), .unset] [(.ref b13_0)])) rfl rfl (hb hby at_37) _ ?_
    rw [len_of Sz14 Ng14]
    show Steps p.tables e below (T13.setTop (mkF m 38 #[.val (.int p0), .val (.int p1), .val (.int ((p0 &&& (255 : Int32)) + (1 : Int32))), .val (.int ((p1 &&& (2147483647 : Int32)) % ((p0 &&& (255 : Int32)) + (1 : Int32)))), .val (.ref b1), .val (.ref b13_0), .unset] [(.int (1 : Int32))])) _
    refine XS.iconst X13'.here hx rfl (hb hby at_38) ?_
    show Steps p.tables e below (T13.setTop (mkF m 39 #[.val (.int p0), .val (.int p1), .val (.int ((p0 &&& (255 : Int32)) + (1 : Int32))), .val (.int ((p1 &&& (2147483647 : Int32)) % ((p0 &&& (255 : Int32)) + (1 : Int32)))), .val (.ref b1), .val (.ref b13_0), .unset] [(.int (1 : Int32)), (.int (1 : Int32))])) _
    refine XS.icmpNo X13'.here hx rfl (hb hby at_39) rfl (teq (by decide : (1 : Int32) = (1 : Int32))).2 ?_
    show Steps p.tables e below (T13.setTop (mkF m 42 #[.val (.int p0), .val (.int p1), .val (.int ((p0 &&& (255 : Int32)) + (1 : Int32))), .val (.int ((p1 &&& (2147483647 : Int32)) % ((p0 &&& (255 : Int32)) + (1 : Int32)))), .val (.ref b1), .val (.ref b13_0), .unset] [])) _
    refine XS.aload X13'.here hx rfl (hb hby at_42) rfl rfl ?_
    show Steps p.tables e below (T13.setTop (mkF m 44 #[.val (.int p0), .val (.int p1), .val (.int ((p0 &&& (255 : Int32)) + (1 : Int32))), .val (.int ((p1 &&& (2147483647 : Int32)) % ((p0 &&& (255 : Int32)) + (1 : Int32)))), .val (.ref b1), .val (.ref b13_0), .unset] [(.ref b13_0)])) _
    refine XS.iconst X13'.here hx rfl (hb hby at_44) ?_
    show Steps p.tables e below (T13.setTop (mkF m 45 #[.val (.int p0), .val (.int p1), .val (.int ((p0 &&& (255 : Int32)) + (1 : Int32))), .val (.int ((p1 &&& (2147483647 : Int32)) % ((p0 &&& (255 : Int32)) + (1 : Int32)))), .val (.ref b1), .val (.ref b13_0), .unset] [(.int (0 : Int32)), (.ref b13_0)])) _
    refine X13'.baloadBytes hx (j := (0 : Int32)) (v := (.int (((p1 &&& (2147483647 : Int32)) % ((p0 &&& (255 : Int32)) + (1 : Int32))).toInt8.toInt32))) Ar14.1 (State.isArrayOf_alike hZ3.alike Ar14.2.1) Ar14.2.2 hin15 hat16 (g := (mkF m 45 #[.val (.int p0), .val (.int p1), .val (.int ((p0 &&& (255 : Int32)) + (1 : Int32))), .val (.int ((p1 &&& (2147483647 : Int32)) % ((p0 &&& (255 : Int32)) + (1 : Int32)))), .val (.ref b1), .val (.ref b13_0), .unset] [(.int (0 : Int32)), (.ref b13_0)])) rfl rfl (hb hby at_45) _ ?_
    show Steps p.tables e below (T13.setTop (mkF m 46 #[.val (.int p0), .val (.int p1), .val (.int ((p0 &&& (255 : Int32)) + (1 : Int32))), .val (.int ((p1 &&& (2147483647 : Int32)) % ((p0 &&& (255 : Int32)) + (1 : Int32)))), .val (.ref b1), .val (.ref b13_0), .unset] [(.int (((p1 &&& (2147483647 : Int32)) % ((p0 &&& (255 : Int32)) + (1 : Int32))).toInt8.toInt32))])) _
    refine XS.sipush X13'.here hx rfl (hb hby at_46) ?_
    show Steps p.tables e below (T13.setTop (mkF m 49 #[.val (.int p0), .val (.int p1), .val (.int ((p0 &&& (255 : Int32)) + (1 : Int32))), .val (.int ((p1 &&& (2147483647 : Int32)) % ((p0 &&& (255 : Int32)) + (1 : Int32)))), .val (.ref b1), .val (.ref b13_0), .unset] [(.int (255 : Int32)), (.int (((p1 &&& (2147483647 : Int32)) % ((p0 &&& (255 : Int32)) + (1 : Int32))).toInt8.toInt32))])) _
    refine XS.iand X13'.here hx rfl (hb hby at_49) rfl ?_
    show Steps p.tables e below (T13.setTop (mkF m 50 #[.val (.int p0), .val (.int p1), .val (.int ((p0 &&& (255 : Int32)) + (1 : Int32))), .val (.int ((p1 &&& (2147483647 : Int32)) % ((p0 &&& (255 : Int32)) + (1 : Int32)))), .val (.ref b1), .val (.ref b13_0), .unset] [(.int ((((p1 &&& (2147483647 : Int32)) % ((p0 &&& (255 : Int32)) + (1 : Int32))).toInt8.toInt32) &&& (255 : Int32)))])) _
    refine XS.iloadN X13'.here hx rfl (hb hby at_50) rfl ?_
    show Steps p.tables e below (T13.setTop (mkF m 51 #[.val (.int p0), .val (.int p1), .val (.int ((p0 &&& (255 : Int32)) + (1 : Int32))), .val (.int ((p1 &&& (2147483647 : Int32)) % ((p0 &&& (255 : Int32)) + (1 : Int32)))), .val (.ref b1), .val (.ref b13_0), .unset] [(.int ((p1 &&& (2147483647 : Int32)) % ((p0 &&& (255 : Int32)) + (1 : Int32)))), (.int ((((p1 &&& (2147483647 : Int32)) % ((p0 &&& (255 : Int32)) + (1 : Int32))).toInt8.toInt32) &&& (255 : Int32)))])) _
    refine XS.icmpYes X13'.here hx rfl (pc0 := 51) (pc' := 56) rfl (hb hby at_51) rfl (teq hc11).1 (by decide) (by decide) ?_
    show Steps p.tables e below (T13.setTop (mkF m 56 #[.val (.int p0), .val (.int p1), .val (.int ((p0 &&& (255 : Int32)) + (1 : Int32))), .val (.int ((p1 &&& (2147483647 : Int32)) % ((p0 &&& (255 : Int32)) + (1 : Int32)))), .val (.ref b1), .val (.ref b13_0), .unset] [])) _
    refine XS.aload X13'.here hx rfl (hb hby at_56) rfl rfl ?_
    show Steps p.tables e below (T13.setTop (mkF m 58 #[.val (.int p0), .val (.int p1), .val (.int ((p0 &&& (255 : Int32)) + (1 : Int32))), .val (.int ((p1 &&& (2147483647 : Int32)) % ((p0 &&& (255 : Int32)) + (1 : Int32)))), .val (.ref b1), .val (.ref b13_0), .unset] [(.ref b13_0)])) _
    refine XS.iconst X13'.here hx rfl (hb hby at_58) ?_
    show Steps p.tables e below (T13.setTop (mkF m 59 #[.val (.int p0), .val (.int p1), .val (.int ((p0 &&& (255 : Int32)) + (1 : Int32))), .val (.int ((p1 &&& (2147483647 : Int32)) % ((p0 &&& (255 : Int32)) + (1 : Int32)))), .val (.ref b1), .val (.ref b13_0), .unset] [(.int (0 : Int32)), (.ref b13_0)])) _
    refine XS.aload X13'.here hx rfl (hb hby at_59) rfl rfl ?_
    show Steps p.tables e below (T13.setTop (mkF m 61 #[.val (.int p0), .val (.int p1), .val (.int ((p0 &&& (255 : Int32)) + (1 : Int32))), .val (.int ((p1 &&& (2147483647 : Int32)) % ((p0 &&& (255 : Int32)) + (1 : Int32)))), .val (.ref b1), .val (.ref b13_0), .unset] [(.ref b13_0), (.int (0 : Int32)), (.ref b13_0)])) _
    refine XS.iconst X13'.here hx rfl (hb hby at_61) ?_
    show Steps p.tables e below (T13.setTop (mkF m 62 #[.val (.int p0), .val (.int p1), .val (.int ((p0 &&& (255 : Int32)) + (1 : Int32))), .val (.int ((p1 &&& (2147483647 : Int32)) % ((p0 &&& (255 : Int32)) + (1 : Int32)))), .val (.ref b1), .val (.ref b13_0), .unset] [(.int (0 : Int32)), (.ref b13_0), (.int (0 : Int32)), (.ref b13_0)])) _
    refine X13'.baloadBytes hx (j := (0 : Int32)) (v := (.int (((p1 &&& (2147483647 : Int32)) % ((p0 &&& (255 : Int32)) + (1 : Int32))).toInt8.toInt32))) Ar14.1 (State.isArrayOf_alike hZ3.alike Ar14.2.1) Ar14.2.2 hin17 hat18 (g := (mkF m 62 #[.val (.int p0), .val (.int p1), .val (.int ((p0 &&& (255 : Int32)) + (1 : Int32))), .val (.int ((p1 &&& (2147483647 : Int32)) % ((p0 &&& (255 : Int32)) + (1 : Int32)))), .val (.ref b1), .val (.ref b13_0), .unset] [(.int (0 : Int32)), (.ref b13_0), (.int (0 : Int32)), (.ref b13_0)])) rfl rfl (hb hby at_62) _ ?_
    show Steps p.tables e below (T13.setTop (mkF m 63 #[.val (.int p0), .val (.int p1), .val (.int ((p0 &&& (255 : Int32)) + (1 : Int32))), .val (.int ((p1 &&& (2147483647 : Int32)) % ((p0 &&& (255 : Int32)) + (1 : Int32)))), .val (.ref b1), .val (.ref b13_0), .unset] [(.int (((p1 &&& (2147483647 : Int32)) % ((p0 &&& (255 : Int32)) + (1 : Int32))).toInt8.toInt32)), (.int (0 : Int32)), (.ref b13_0)])) _
    refine XS.iconst X13'.here hx rfl (hb hby at_63) ?_
    show Steps p.tables e below (T13.setTop (mkF m 64 #[.val (.int p0), .val (.int p1), .val (.int ((p0 &&& (255 : Int32)) + (1 : Int32))), .val (.int ((p1 &&& (2147483647 : Int32)) % ((p0 &&& (255 : Int32)) + (1 : Int32)))), .val (.ref b1), .val (.ref b13_0), .unset] [(.int (1 : Int32)), (.int (((p1 &&& (2147483647 : Int32)) % ((p0 &&& (255 : Int32)) + (1 : Int32))).toInt8.toInt32)), (.int (0 : Int32)), (.ref b13_0)])) _
    refine XS.iadd X13'.here hx rfl (hb hby at_64) rfl ?_
    show Steps p.tables e below (T13.setTop (mkF m 65 #[.val (.int p0), .val (.int p1), .val (.int ((p0 &&& (255 : Int32)) + (1 : Int32))), .val (.int ((p1 &&& (2147483647 : Int32)) % ((p0 &&& (255 : Int32)) + (1 : Int32)))), .val (.ref b1), .val (.ref b13_0), .unset] [(.int ((((p1 &&& (2147483647 : Int32)) % ((p0 &&& (255 : Int32)) + (1 : Int32))).toInt8.toInt32) + (1 : Int32))), (.int (0 : Int32)), (.ref b13_0)])) _
    refine XS.i2b X13'.here hx rfl (hb hby at_65) rfl ?_
    show Steps p.tables e below (T13.setTop (mkF m 66 #[.val (.int p0), .val (.int p1), .val (.int ((p0 &&& (255 : Int32)) + (1 : Int32))), .val (.int ((p1 &&& (2147483647 : Int32)) % ((p0 &&& (255 : Int32)) + (1 : Int32)))), .val (.ref b1), .val (.ref b13_0), .unset] [(.int (((((p1 &&& (2147483647 : Int32)) % ((p0 &&& (255 : Int32)) + (1 : Int32))).toInt8.toInt32) + (1 : Int32)).toInt8.toInt32)), (.int (0 : Int32)), (.ref b13_0)])) _
    refine st20 _ ?_
    show Steps p.tables e below (T20.setTop (mkF m 67 #[.val (.int p0), .val (.int p1), .val (.int ((p0 &&& (255 : Int32)) + (1 : Int32))), .val (.int ((p1 &&& (2147483647 : Int32)) % ((p0 &&& (255 : Int32)) + (1 : Int32)))), .val (.ref b1), .val (.ref b13_0), .unset] [])) _
    refine XS.aload X20'.here hx rfl (hb hby at_67) rfl rfl ?_
    show Steps p.tables e below (T20.setTop (mkF m 69 #[.val (.int p0), .val (.int p1), .val (.int ((p0 &&& (255 : Int32)) + (1 : Int32))), .val (.int ((p1 &&& (2147483647 : Int32)) % ((p0 &&& (255 : Int32)) + (1 : Int32)))), .val (.ref b1), .val (.ref b13_0), .unset] [(.ref b1)])) _
    refine XS.iloadN X20'.here hx rfl (hb hby at_69) rfl ?_
    show Steps p.tables e below (T20.setTop (mkF m 70 #[.val (.int p0), .val (.int p1), .val (.int ((p0 &&& (255 : Int32)) + (1 : Int32))), .val (.int ((p1 &&& (2147483647 : Int32)) % ((p0 &&& (255 : Int32)) + (1 : Int32)))), .val (.ref b1), .val (.ref b13_0), .unset] [(.int ((p1 &&& (2147483647 : Int32)) % ((p0 &&& (255 : Int32)) + (1 : Int32)))), (.ref b1)])) _
    refine st21.trans ?_
    show Steps p.tables e below (T21.setTop (mkF m 73 #[.val (.int p0), .val (.int p1), .val (.int ((p0 &&& (255 : Int32)) + (1 : Int32))), .val (.int ((p1 &&& (2147483647 : Int32)) % ((p0 &&& (255 : Int32)) + (1 : Int32)))), .val (.ref b1), .val (.ref b13_0), .unset] [(.ref b21_0)])) _
    refine XS.astore X21'.here hx rfl (hb hby at_73) rfl rfl (l' := #[.val (.int p0), .val (.int p1), .val (.int ((p0 &&& (255 : Int32)) + (1 : Int32))), .val (.int ((p1 &&& (2147483647 : Int32)) % ((p0 &&& (255 : Int32)) + (1 : Int32)))), .val (.ref b1), .val (.ref b13_0), .val (.ref b21_0)]) rfl ?_
    show Steps p.tables e below (T21.setTop (mkF m 75 #[.val (.int p0), .val (.int p1), .val (.int ((p0 &&& (255 : Int32)) + (1 : Int32))), .val (.int ((p1 &&& (2147483647 : Int32)) % ((p0 &&& (255 : Int32)) + (1 : Int32)))), .val (.ref b1), .val (.ref b13_0), .val (.ref b21_0)] [])) _
    refine XS.aload X21'.here hx rfl (hb hby at_75) rfl rfl ?_
    show Steps p.tables e below (T21.setTop (mkF m 77 #[.val (.int p0), .val (.int p1), .val (.int ((p0 &&& (255 : Int32)) + (1 : Int32))), .val (.int ((p1 &&& (2147483647 : Int32)) % ((p0 &&& (255 : Int32)) + (1 : Int32)))), .val (.ref b1), .val (.ref b13_0), .val (.ref b21_0)] [(.ref b21_0)])) _
    refine XS.aload X21'.here hx rfl (hb hby at_77) rfl rfl ?_
    show Steps p.tables e below (T21.setTop (mkF m 79 #[.val (.int p0), .val (.int p1), .val (.int ((p0 &&& (255 : Int32)) + (1 : Int32))), .val (.int ((p1 &&& (2147483647 : Int32)) % ((p0 &&& (255 : Int32)) + (1 : Int32)))), .val (.ref b1), .val (.ref b13_0), .val (.ref b21_0)] [(.ref b13_0), (.ref b21_0)])) _
    refine Jvm.RoadKit.acmp (g := (mkF m 79 #[.val (.int p0), .val (.int p1), .val (.int ((p0 &&& (255 : Int32)) + (1 : Int32))), .val (.int ((p1 &&& (2147483647 : Int32)) % ((p0 &&& (255 : Int32)) + (1 : Int32)))), .val (.ref b1), .val (.ref b13_0), .val (.ref b21_0)] [(.ref b13_0), (.ref b21_0)])) X21' hx rfl rfl rfl (pc0 := 79) (pc' := 82) (same := false) rfl (hb hby at_79) rfl (decide_eq_false fun q => (Ne.symm ne_b13_0_b21_0) (Value.ref.inj q)) (by decide) (by decide) ?_
    show Steps p.tables e below (T21.setTop (mkF m 82 #[.val (.int p0), .val (.int p1), .val (.int ((p0 &&& (255 : Int32)) + (1 : Int32))), .val (.int ((p1 &&& (2147483647 : Int32)) % ((p0 &&& (255 : Int32)) + (1 : Int32)))), .val (.ref b1), .val (.ref b13_0), .val (.ref b21_0)] [])) _
    refine XS.aload X21'.here hx rfl (hb hby at_82) rfl rfl ?_
    show Steps p.tables e below (T21.setTop (mkF m 84 #[.val (.int p0), .val (.int p1), .val (.int ((p0 &&& (255 : Int32)) + (1 : Int32))), .val (.int ((p1 &&& (2147483647 : Int32)) % ((p0 &&& (255 : Int32)) + (1 : Int32)))), .val (.ref b1), .val (.ref b13_0), .val (.ref b21_0)] [(.ref b21_0)])) _
    refine X21'.arraylength hx Ar24.1 (State.isArrayOf_alike hZ3.alike Ar24.2.1) (g := (mkF m 84 #[.val (.int p0), .val (.int p1), .val (.int ((p0 &&& (255 : Int32)) + (1 : Int32))), .val (.int ((p1 &&& (2147483647 : Int32)) % ((p0 &&& (255 : Int32)) + (1 : Int32)))), .val (.ref b1), .val (.ref b13_0), .val (.ref b21_0)] [(.ref b21_0)])) rfl rfl (hb hby at_84) _ ?_
    rw [len_of Sz24 Ng24]
    show Steps p.tables e below (T21.setTop (mkF m 85 #[.val (.int p0), .val (.int p1), .val (.int ((p0 &&& (255 : Int32)) + (1 : Int32))), .val (.int ((p1 &&& (2147483647 : Int32)) % ((p0 &&& (255 : Int32)) + (1 : Int32)))), .val (.ref b1), .val (.ref b13_0), .val (.ref b21_0)] [(.int (1 : Int32))])) _
    refine XS.iconst X21'.here hx rfl (hb hby at_85) ?_
    show Steps p.tables e below (T21.setTop (mkF m 86 #[.val (.int p0), .val (.int p1), .val (.int ((p0 &&& (255 : Int32)) + (1 : Int32))), .val (.int ((p1 &&& (2147483647 : Int32)) % ((p0 &&& (255 : Int32)) + (1 : Int32)))), .val (.ref b1), .val (.ref b13_0), .val (.ref b21_0)] [(.int (1 : Int32)), (.int (1 : Int32))])) _
    refine XS.icmpNo X21'.here hx rfl (hb hby at_86) rfl (teq (by decide : (1 : Int32) = (1 : Int32))).2 ?_
    show Steps p.tables e below (T21.setTop (mkF m 89 #[.val (.int p0), .val (.int p1), .val (.int ((p0 &&& (255 : Int32)) + (1 : Int32))), .val (.int ((p1 &&& (2147483647 : Int32)) % ((p0 &&& (255 : Int32)) + (1 : Int32)))), .val (.ref b1), .val (.ref b13_0), .val (.ref b21_0)] [])) _
    refine XS.aload X21'.here hx rfl (hb hby at_89) rfl rfl ?_
    show Steps p.tables e below (T21.setTop (mkF m 91 #[.val (.int p0), .val (.int p1), .val (.int ((p0 &&& (255 : Int32)) + (1 : Int32))), .val (.int ((p1 &&& (2147483647 : Int32)) % ((p0 &&& (255 : Int32)) + (1 : Int32)))), .val (.ref b1), .val (.ref b13_0), .val (.ref b21_0)] [(.ref b21_0)])) _
    refine XS.iconst X21'.here hx rfl (hb hby at_91) ?_
    show Steps p.tables e below (T21.setTop (mkF m 92 #[.val (.int p0), .val (.int p1), .val (.int ((p0 &&& (255 : Int32)) + (1 : Int32))), .val (.int ((p1 &&& (2147483647 : Int32)) % ((p0 &&& (255 : Int32)) + (1 : Int32)))), .val (.ref b1), .val (.ref b13_0), .val (.ref b21_0)] [(.int (0 : Int32)), (.ref b21_0)])) _
    refine X21'.baloadBytes hx (j := (0 : Int32)) (v := (.int (((p1 &&& (2147483647 : Int32)) % ((p0 &&& (255 : Int32)) + (1 : Int32))).toInt8.toInt32))) Ar24.1 (State.isArrayOf_alike hZ3.alike Ar24.2.1) Ar24.2.2 hin25 hat26 (g := (mkF m 92 #[.val (.int p0), .val (.int p1), .val (.int ((p0 &&& (255 : Int32)) + (1 : Int32))), .val (.int ((p1 &&& (2147483647 : Int32)) % ((p0 &&& (255 : Int32)) + (1 : Int32)))), .val (.ref b1), .val (.ref b13_0), .val (.ref b21_0)] [(.int (0 : Int32)), (.ref b21_0)])) rfl rfl (hb hby at_92) _ ?_
    show Steps p.tables e below (T21.setTop (mkF m 93 #[.val (.int p0), .val (.int p1), .val (.int ((p0 &&& (255 : Int32)) + (1 : Int32))), .val (.int ((p1 &&& (2147483647 : Int32)) % ((p0 &&& (255 : Int32)) + (1 : Int32)))), .val (.ref b1), .val (.ref b13_0), .val (.ref b21_0)] [(.int (((p1 &&& (2147483647 : Int32)) % ((p0 &&& (255 : Int32)) + (1 : Int32))).toInt8.toInt32))])) _
    refine XS.sipush X21'.here hx rfl (hb hby at_93) ?_
    show Steps p.tables e below (T21.setTop (mkF m 96 #[.val (.int p0), .val (.int p1), .val (.int ((p0 &&& (255 : Int32)) + (1 : Int32))), .val (.int ((p1 &&& (2147483647 : Int32)) % ((p0 &&& (255 : Int32)) + (1 : Int32)))), .val (.ref b1), .val (.ref b13_0), .val (.ref b21_0)] [(.int (255 : Int32)), (.int (((p1 &&& (2147483647 : Int32)) % ((p0 &&& (255 : Int32)) + (1 : Int32))).toInt8.toInt32))])) _
    refine XS.iand X21'.here hx rfl (hb hby at_96) rfl ?_
    show Steps p.tables e below (T21.setTop (mkF m 97 #[.val (.int p0), .val (.int p1), .val (.int ((p0 &&& (255 : Int32)) + (1 : Int32))), .val (.int ((p1 &&& (2147483647 : Int32)) % ((p0 &&& (255 : Int32)) + (1 : Int32)))), .val (.ref b1), .val (.ref b13_0), .val (.ref b21_0)] [(.int ((((p1 &&& (2147483647 : Int32)) % ((p0 &&& (255 : Int32)) + (1 : Int32))).toInt8.toInt32) &&& (255 : Int32)))])) _
    refine XS.iloadN X21'.here hx rfl (hb hby at_97) rfl ?_
    show Steps p.tables e below (T21.setTop (mkF m 98 #[.val (.int p0), .val (.int p1), .val (.int ((p0 &&& (255 : Int32)) + (1 : Int32))), .val (.int ((p1 &&& (2147483647 : Int32)) % ((p0 &&& (255 : Int32)) + (1 : Int32)))), .val (.ref b1), .val (.ref b13_0), .val (.ref b21_0)] [(.int ((p1 &&& (2147483647 : Int32)) % ((p0 &&& (255 : Int32)) + (1 : Int32)))), (.int ((((p1 &&& (2147483647 : Int32)) % ((p0 &&& (255 : Int32)) + (1 : Int32))).toInt8.toInt32) &&& (255 : Int32)))])) _
    refine XS.icmpNo X21'.here hx rfl (hb hby at_98) rfl (teq hc11).2 ?_
    show Steps p.tables e below (T21.setTop (mkF m 101 #[.val (.int p0), .val (.int p1), .val (.int ((p0 &&& (255 : Int32)) + (1 : Int32))), .val (.int ((p1 &&& (2147483647 : Int32)) % ((p0 &&& (255 : Int32)) + (1 : Int32)))), .val (.ref b1), .val (.ref b13_0), .val (.ref b21_0)] [])) _
    refine XS.iconst X21'.here hx rfl (hb hby at_101) ?_
    show Steps p.tables e below (T21.setTop (mkF m 102 #[.val (.int p0), .val (.int p1), .val (.int ((p0 &&& (255 : Int32)) + (1 : Int32))), .val (.int ((p1 &&& (2147483647 : Int32)) % ((p0 &&& (255 : Int32)) + (1 : Int32)))), .val (.ref b1), .val (.ref b13_0), .val (.ref b21_0)] [(.int (1 : Int32))])) _
    refine XS.goto X21'.here hx rfl (pc0 := 102) (pc' := 106) rfl (hb hby at_102) (by decide) (by decide) ?_
    show Steps p.tables e below (T21.setTop (mkF m 106 #[.val (.int p0), .val (.int p1), .val (.int ((p0 &&& (255 : Int32)) + (1 : Int32))), .val (.int ((p1 &&& (2147483647 : Int32)) % ((p0 &&& (255 : Int32)) + (1 : Int32)))), .val (.ref b1), .val (.ref b13_0), .val (.ref b21_0)] [(.int (1 : Int32))])) _
    exact retN X21' hx (t := .boolean) Bd.returns (by simp) (hb hby at_106) hr
  · show Q0A Z p0 p1 aU s_COMPACT_STRINGS h0 n0 _ T21.heap _
    exact ⟨rfl, N21⟩
theorem ef_rm0B (m : MethodId) (p0 : Int32) (p1 : Int32) : entryFrame m #[(.int p0), (.int p1)] maxLocals = mkF m 0 #[.val (.int p0), .val (.int p1), .unset, .unset, .unset, .unset, .unset] [] := by first | (simp [entryFrame, mkF, argsToLocals, Value.category, maxLocals]; done) | rfl
def Q0B (Z : State) (p0 : Int32) (p1 : Int32) (aU : Addr) (s_COMPACT_STRINGS : Int32) (h0 : Heap) (n0 : Nat) (v : Option Value) (h : Heap) (L : List Loc) : Prop := v = some (.int (1 : Int32)) ∧ Fr n0 L
set_option maxRecDepth 65536 in
set_option maxHeartbeats 40000000 in
theorem rm0B (l : Launch) (Z : State) (az : Array Value) (hw : ∀ d ∈ tables_1, d.before az Z = true) (ws : List Jvm.Cond) (p0 : Int32) (p1 : Int32) (aU : Addr) (s_COMPACT_STRINGS : Int32) (h0 : Heap) (n0 : Nat) (Z0 : n0 ≤ h0.size) (S_INSTANCE : Sta Z h0 "sun/nio/cs/UTF_8" "INSTANCE" "Lsun/nio/cs/UTF_8;" (.ref aU)) (S_UTF_8 : Sta Z h0 "java/nio/charset/StandardCharsets" "UTF_8" "Ljava/nio/charset/Charset;" (.ref aU)) (hc2 : ((p0 &&& (255 : Int32)) + (1 : Int32)) ≠ (0 : Int32)) (S_COMPACT_STRINGS : Sta Z h0 "java/lang/String" "COMPACT_STRINGS" "Z" (.int s_COMPACT_STRINGS)) (hc4 : ¬ (s_COMPACT_STRINGS = (0 : Int32))) (hc5 : ¬ (((p0 &&& (255 : Int32)) + (1 : Int32)) < (1 : Int32))) (hc6 : ¬ ((256 : Int32) < ((p0 &&& (255 : Int32)) + (1 : Int32)))) (hc7 : ¬ ((own_bc ((p0 &&& (255 : Int32)) + (1 : Int32))) = (1 : Int32))) (hc8 : ¬ (((p1 &&& (2147483647 : Int32)) % ((p0 &&& (255 : Int32)) + (1 : Int32))) < (0 : Int32))) (hc9 : ((p1 &&& (2147483647 : Int32)) % ((p0 &&& (255 : Int32)) + (1 : Int32))) < ((p0 &&& (255 : Int32)) + (1 : Int32))) (hc10 : ((((p1 &&& (2147483647 : Int32)) % ((p0 &&& (255 : Int32)) + (1 : Int32))).toInt8.toInt32) &&& (255 : Int32)) = ((p1 &&& (2147483647 : Int32)) % ((p0 &&& (255 : Int32)) + (1 : Int32)))) :
    MetFree l x (head1 (Jvm.Cond.code x code maxLocals ret :: ws) room_1) (fun a U => a = #[(.int p0), (.int p1)] ∧ Z.Warmed39 U.vm ∧ U.heap = h0 ∧ CHv Z [("com/example/fireweed/fireweed/layout/Java31ByteSaltSaltPinLaw", 10)] U.vm h0) (fun _ _ _ _ _ => True) (fun _ U o U' => ∃ v L, o = .returned v ∧ Q0B Z p0 p1 aU s_COMPACT_STRINGS h0 n0 v U'.heap L ∧ ReturnedEndW U o U' L room_1.cells room_1.slots) := by
  refine MetFree.of_bodySF (plainFor_of_name pn_com_example_fireweed_fireweed_layout_Java31ByteSaltSaltPinLaw) hisR ?_
  intro p e s m args below meth c s₁ Bd hml0 hP hK
  obtain ⟨rfl, hZ, hh, hCH⟩ := hP
  have hx := Bd.exec
  have hby := Bd.bytes
  have hml : c.maxLocals = 7 := hml0
  have hown : s.vm.findClass "com/example/fireweed/fireweed/layout/Java31ByteSaltSaltPinLaw" = some m.cls := findClass_of_methodNamed Bd.named
  have hnm := (name_of_methodNamed Bd.named Bd.method).1
  have X0 : Stand p l e room_1 s m #[(.int p0), (.int p1)] below meth c s₁ [] 0 0 := Stand.of_body Bd
  have e0 : s₁.heap = h0 := by rw [← hh, Bd.state]; rfl
  have N0 := Fr.nil n0
  have pre0 : ∀ t, Steps p.tables e below (s₁.setTop (mkF m 0 #[.val (.int p0), .val (.int p1), .unset, .unset, .unset, .unset, .unset] [])) t → Steps p.tables e below (s₁.setTop (entryFrame m #[(.int p0), (.int p1)] maxLocals)) t := fun t k => castTop (ef_rm0B m p0 p1) k
  have hEW : EW Z az [("com/example/fireweed/fireweed/layout/Java31ByteSaltSaltPinLaw", 10)] := (EW.cons (hw _ (List.mem_of_getElem? (i := 4) rfl)) (by decide) EW.nil)
  have hS0 : s.Since s.vm 0 := (State.WarmedH.refl s).since 0
  have wS : ∀ a ∈ Bundle.stringAtoms, a.before az Z = true := fun d hd => by
    simp only [Bundle.stringAtoms, List.mem_cons, List.not_mem_nil, or_false] at hd
    rcases hd with rfl | rfl | rfl | rfl | rfl | rfl | rfl
    · exact (hw _ (List.mem_of_getElem? (i := 5) rfl))
    · exact (hw _ (List.mem_of_getElem? (i := 6) rfl))
    · exact (hw _ (List.mem_of_getElem? (i := 7) rfl))
    · exact (hw _ (List.mem_of_getElem? (i := 8) rfl))
    · exact (hw _ (List.mem_of_getElem? (i := 9) rfl))
    · exact (hw _ (List.mem_of_getElem? (i := 10) rfl))
    · exact (hw _ (List.mem_of_getElem? (i := 11) rfl))
  obtain ⟨T1, h1, X1, e1, E1, A1, D1, -, st1⟩ := newO X0 hx hZ hown (hw _ (List.mem_of_getElem? (i := 1) rfl)) (hw _ (List.mem_of_getElem? (i := 2) rfl)) (hw _ (List.mem_of_getElem? (i := 3) rfl)) e0 (g := (mkF m 15 #[.val (.int p0), .val (.int p1), .val (.int ((p0 &&& (255 : Int32)) + (1 : Int32))), .val (.int ((p1 &&& (2147483647 : Int32)) % ((p0 &&& (255 : Int32)) + (1 : Int32)))), .unset, .unset, .unset] [])) rfl (hb hby at_15) (by decide) (by decide)
  obtain ⟨b1, g1⟩ : ∃ z, z = h0.size := ⟨_, rfl⟩
  rw [← g1] at A1 D1 st1
  have g_b1 : n0 ≤ b1 := Nat.le_trans Z0 (Nat.le_of_eq g1.symm)
  have sz_b1 : h0.size ≤ b1 := Nat.le_trans (Nat.le_refl _) (Nat.le_of_eq g1.symm)
  have Z1 : n0 ≤ h1.size := Nat.le_trans Z0 E1.1
  have K1 : Keep h0 h1 [] := (Keep.refl h0 []).ext E1
  have E_b1 := A1
  have F_suffix_b1 : Fld Z h1 b1 "com/example/fireweed/fireweed/layout/Salt" "suffix" "Ljava/lang/String;" .null := D1 (Or.inr (hw _ (List.mem_of_getElem? (i := 36) rfl))) (ty := (.object "java/lang/String")) (by decide)
  have F_suffixBytes_b1 : Fld Z h1 b1 "com/example/fireweed/fireweed/layout/Salt" "suffixBytes" "[B" .null := D1 (Or.inr (hw _ (List.mem_of_getElem? (i := 77) rfl))) (ty := (.array .byte)) (by decide)
  have F_buckets_b1 : Fld Z h1 b1 "com/example/fireweed/fireweed/layout/Java31ByteSalt" "buckets" "I" (.int (0 : Int32)) := D1 (Or.inr (hw _ (List.mem_of_getElem? (i := 79) rfl))) (ty := .int) (by decide)
  have F_mask_b1 : Fld Z h1 b1 "com/example/fireweed/fireweed/layout/Java31ByteSalt" "mask" "I" (.int (0 : Int32)) := D1 (Or.inr (hw _ (List.mem_of_getElem? (i := 88) rfl))) (ty := .int) (by decide)
  have F_overflow_b1 : Fld Z h1 b1 "com/example/fireweed/fireweed/layout/Java31ByteSalt" "overflow" "I" (.int (0 : Int32)) := D1 (Or.inr (hw _ (List.mem_of_getElem? (i := 103) rfl))) (ty := .int) (by decide)
  obtain ⟨l2, T2, h2, kk2, lb2, lk2, X2, e2, E2, hS2, hk2, hZ2, hown2, xl2, fc2, fv2, vl2, -, -, ch2, lt2, -, st2⟩ := ldcCH (s := s) (vm0 := s.vm) X1 hx hZ hown (hw _ (List.mem_of_getElem? (i := 4) rfl)) wS e1 hS0 (Nat.le_trans (Nat.zero_le _) E1.1) hEW (List.mem_of_getElem? (i := 0) rfl) (hCH.ext E1) (vs := []) (z := (0 : Int32)) ⟨by decide, rfl⟩ (by decide) (by decide) (g := (mkF m 20 #[.val (.int p0), .val (.int p1), .val (.int ((p0 &&& (255 : Int32)) + (1 : Int32))), .val (.int ((p1 &&& (2147483647 : Int32)) % ((p0 &&& (255 : Int32)) + (1 : Int32)))), .unset, .unset, .unset] [(.int ((p0 &&& (255 : Int32)) + (1 : Int32))), (.ref b1), (.ref b1)])) rfl (hb hby at_20) (n := 0) (by decide) (by decide) (by decide) (by decide)
  have xb2 : Exa Z h2 lb2 "[B" := own_exaB (EL := [("com/example/fireweed/fireweed/layout/Java31ByteSaltSaltPinLaw", 10)]) ch2.1 (List.mem_of_getElem? (i := 0) rfl) hZ2 (hw _ (List.mem_of_getElem? (i := 4) rfl)) hown2 lt2 fv2
  have Z2 : n0 ≤ h2.size := Nat.le_trans Z1 E2.1
  have K2 : Keep h0 h2 [] := K1.ext E2
  have E_b1_u4 : Exa Z h2 b1 "com/example/fireweed/fireweed/layout/Java31ByteSalt" := (E_b1.ext E2)
  have F_b1_suffix_u5 : Fld Z h2 b1 "com/example/fireweed/fireweed/layout/Salt" "suffix" "Ljava/lang/String;" .null := (F_suffix_b1.ext E2)
  have F_b1_suffixBytes_u6 : Fld Z h2 b1 "com/example/fireweed/fireweed/layout/Salt" "suffixBytes" "[B" .null := (F_suffixBytes_b1.ext E2)
  have F_b1_buckets_u7 : Fld Z h2 b1 "com/example/fireweed/fireweed/layout/Java31ByteSalt" "buckets" "I" (.int (0 : Int32)) := (F_buckets_b1.ext E2)
  have F_b1_mask_u8 : Fld Z h2 b1 "com/example/fireweed/fireweed/layout/Java31ByteSalt" "mask" "I" (.int (0 : Int32)) := (F_mask_b1.ext E2)
  have F_b1_overflow_u9 : Fld Z h2 b1 "com/example/fireweed/fireweed/layout/Java31ByteSalt" "overflow" "I" (.int (0 : Int32)) := (F_overflow_b1.ext E2)
  have S_UTF_8_INSTANCE_u10 : Sta Z h2 "sun/nio/cs/UTF_8" "INSTANCE" "Lsun/nio/cs/UTF_8;" (.ref aU) := ((S_INSTANCE.ext E1).ext E2)
  have S_StandardCharsets_UTF_8_u11 : Sta Z h2 "java/nio/charset/StandardCharsets" "UTF_8" "Ljava/nio/charset/Charset;" (.ref aU) := ((S_UTF_8.ext E1).ext E2)
  have S_String_COMPACT_STRINGS_u12 : Sta Z h2 "java/lang/String" "COMPACT_STRINGS" "Z" (.int s_COMPACT_STRINGS) := ((S_COMPACT_STRINGS.ext E1).ext E2)
  have ne_l2_b1 : l2 ≠ b1 := ne_exa xl2 E_b1_u4 (by decide)
  have ne_lb2_b1 : lb2 ≠ b1 := ne_exa xb2 E_b1_u4 (by decide)
  obtain ⟨_, _, ⟨T3, L3, k3', n3'⟩, -, Y3, yS3, yg3, ⟨Lc3, hQ3, l3, y3, z3⟩, st3⟩ := X2.specialBackS hx (y := (⟨"com/example/fireweed/fireweed/layout/Java31ByteSalt", "<init>", "(ILjava/lang/String;)V"⟩ : MethodName)) rfl hown2 (mvT hZ2 (hw _ (List.mem_of_getElem? (i := 12) rfl))) (mvT hZ2 (hw _ (List.mem_of_getElem? (i := 13) rfl))) (mvT hZ2 (hw _ (List.mem_of_getElem? (i := 14) rfl))) (by decide) (backOfS (W := 1) (rm10B l Z az hw [] b1 ((p0 &&& (255 : Int32)) + (1 : Int32)) l2 lb2 lk2 aU s_COMPACT_STRINGS h2 n0 Z2 E_b1_u4 F_b1_suffix_u5 F_b1_suffixBytes_u6 F_b1_buckets_u7 F_b1_mask_u8 F_b1_overflow_u9 xl2 fc2 fv2 vl2 xb2 S_UTF_8_INSTANCE_u10 S_StandardCharsets_UTF_8_u11 S_String_COMPACT_STRINGS_u12 g_b1 ne_l2_b1 ne_lb2_b1 hc4 hc5 hc6 hc7 hc2) hZ2 (hw _ (List.mem_of_getElem? (i := 14) rfl)) (hw _ (List.mem_of_getElem? (i := 3) rfl)) (by decide) (by decide)) (g := (mkF m 22 #[.val (.int p0), .val (.int p1), .val (.int ((p0 &&& (255 : Int32)) + (1 : Int32))), .val (.int ((p1 &&& (2147483647 : Int32)) % ((p0 &&& (255 : Int32)) + (1 : Int32)))), .unset, .unset, .unset] [(.ref l2), (.int ((p0 &&& (255 : Int32)) + (1 : Int32))), (.ref b1), (.ref b1)])) rfl (by rw [hml]; rfl) (Steps.refl _) (a := b1) (argsL := [(.int ((p0 &&& (255 : Int32)) + (1 : Int32))), (.ref l2)]) (rest := [(.ref b1)]) (lenOf pd_13 rfl) rfl (by show 2 * 0 + _ ≤ _; exact Nat.le_of_eq rfl) (hb hby at_22) (fun _ _ => ⟨rfl, e2, (by decide : 3 + 3 ≤ _), (by decide : 9 + 28 ≤ _)⟩)
  dsimp only [Pt.U, Pt.locs, Pt.cells, Pt.slots] at Y3 yS3 yg3 l3 y3 z3 st3 hQ3
  subst l3 y3 z3
  obtain ⟨X3, hS3, hZ3, hown3⟩ := rebS (s := s) (vm0 := T2.vm) hS2 (by rw [e2]; exact hk2) Y3 yS3 yg3 hZ2 hown2
  obtain ⟨b3_0, rfl, N3q, s3_0, kq3, pf3_0, pf3_1, pf3_2, pf3_3, pf3_4, pf3_5, pf3_6, pf3_7⟩ := hQ3
  obtain ⟨Lg3, X3', N3⟩ := own_gen X3 (Fr.app N0 N3q)
  have g_b3_0 : n0 ≤ b3_0 := Nat.le_trans Z2 s3_0
  have sz_b3_0 : h0.size ≤ b3_0 := Nat.le_trans K2.1 s3_0
  have K3 : Keep h0 T3.heap [] := K2.trans kq3 (allS (Or.inr sz_b1) all0)
  have Z3 : n0 ≤ T3.heap.size := Nat.le_trans Z2 kq3.1
  obtain ⟨cq13, kq13, q13a, q13b, q13c⟩ := isOf hZ3 rfl pf3_0
  obtain ⟨_, _, ⟨T13, L13, k13', n13'⟩, -, X13, ⟨Lc13, hQ13, l13, y13, z13⟩, st13⟩ := X3'.virtualBack hx (y := (⟨"com/example/fireweed/fireweed/layout/Java31ByteSalt", "salt", "(I)[B"⟩ : MethodName)) (z := (⟨"com/example/fireweed/fireweed/layout/Java31ByteSalt", "salt", "(I)[B"⟩ : MethodName)) hown3 (mvT hZ3 (hw _ (List.mem_of_getElem? (i := 104) rfl))) (mvT hZ3 (hw _ (List.mem_of_getElem? (i := 105) rfl))) (notFace_of_selects (args := #[]) (mvT hZ3 (hw _ (List.mem_of_getElem? (i := 107) rfl)))) (mvT hZ3 (hw _ (List.mem_of_getElem? (i := 107) rfl))) (mvT hZ3 (hw _ (List.mem_of_getElem? (i := 106) rfl))) (by decide) (backOf (W := 0) (rm16 l Z az hw [] b1 ((p1 &&& (2147483647 : Int32)) % ((p0 &&& (255 : Int32)) + (1 : Int32))) ((p0 &&& (255 : Int32)) + (1 : Int32)) T3.heap n0 Z3 pf3_3 hc8 hc9) hZ3 (hw _ (List.mem_of_getElem? (i := 108) rfl)) (hw _ (List.mem_of_getElem? (i := 3) rfl)) (by decide) (by decide)) q13a q13c (g := (mkF m 30 #[.val (.int p0), .val (.int p1), .val (.int ((p0 &&& (255 : Int32)) + (1 : Int32))), .val (.int ((p1 &&& (2147483647 : Int32)) % ((p0 &&& (255 : Int32)) + (1 : Int32)))), .val (.ref b1), .unset, .unset] [(.int ((p1 &&& (2147483647 : Int32)) % ((p0 &&& (255 : Int32)) + (1 : Int32)))), (.ref b1)])) rfl (by rw [hml]; rfl) (Steps.refl _) (argsL := [(.int ((p1 &&& (2147483647 : Int32)) % ((p0 &&& (255 : Int32)) + (1 : Int32))))]) (rest := []) (lenOf pd_14 rfl) rfl (by show 2 * 0 + _ ≤ _; exact Nat.le_of_eq rfl) (hb hby at_30) (fun _ _ => ⟨rfl, rfl, (by decide : 6 + 1 ≤ _), (by decide : 37 + 1 ≤ _)⟩)
  dsimp only [Pt.U, Pt.locs, Pt.cells, Pt.slots] at X13 l13 y13 z13 st13 hQ13
  subst l13 y13 z13
  obtain ⟨b13_0, kk13_0, rfl, N13q, s13_0, kq13, pf13_0, pf13_1⟩ := hQ13
  obtain ⟨Lg13, X13', N13⟩ := own_gen X13 (Fr.app N3 N13q)
  have g_b13_0 : n0 ≤ b13_0 := Nat.le_trans Z3 s13_0
  have sz_b13_0 : h0.size ≤ b13_0 := Nat.le_trans K3.1 s13_0
  have K13 : Keep h0 T13.heap [] := K3.trans kq13 all0
  have Z13 : n0 ≤ T13.heap.size := Nat.le_trans Z3 kq13.1
  obtain ⟨cl14, Ar14, qk14, Sz14, Ng14, Hs14, Gf14⟩ := id pf13_1
  have hin15 : ¬ ((0 : Int32) < 0 ∨ cl14.slots.size ≤ ((0 : Int32)).toNatClampNeg) := inb_of Sz14 ⟨by decide, by decide⟩
  have hat16 : cl14.slots[((0 : Int32)).toNatClampNeg]? = some (.int (((p1 &&& (2147483647 : Int32)) % ((p0 &&& (255 : Int32)) + (1 : Int32))).toInt8.toInt32)) := Hs14.at hin15 rfl
  have hin17 : ¬ ((0 : Int32) < 0 ∨ cl14.slots.size ≤ ((0 : Int32)).toNatClampNeg) := inb_of Sz14 ⟨by decide, by decide⟩
  have hat18 : cl14.slots[((0 : Int32)).toNatClampNeg]? = some (.int (((p1 &&& (2147483647 : Int32)) % ((p0 &&& (255 : Int32)) + (1 : Int32))).toInt8.toInt32)) := Hs14.at hin17 rfl
  have hin19 : ¬ ((0 : Int32) < 0 ∨ cl14.slots.size ≤ ((0 : Int32)).toNatClampNeg) := inb_of Sz14 ⟨by decide, by decide⟩
  obtain ⟨T20, h20, X20, e20, W20, st20⟩ := stB X13' hx hZ3 rfl Ar14 (j := (0 : Int32)) hin19 (g := (mkF m 66 #[.val (.int p0), .val (.int p1), .val (.int ((p0 &&& (255 : Int32)) + (1 : Int32))), .val (.int ((p1 &&& (2147483647 : Int32)) % ((p0 &&& (255 : Int32)) + (1 : Int32)))), .val (.ref b1), .val (.ref b13_0), .unset] [(.int (((((p1 &&& (2147483647 : Int32)) % ((p0 &&& (255 : Int32)) + (1 : Int32))).toInt8.toInt32) + (1 : Int32)).toInt8.toInt32)), (.int (0 : Int32)), (.ref b13_0)])) rfl rfl (hb hby at_66)
  rw [(own_nb _)] at W20
  have K20 : Keep h0 h20 [] := K13.wr W20 (Or.inr sz_b13_0)
  have V_b13_0_20 : Arv Z h20 b13_0 kk13_0 .byte (1 : Int32) [(.int (((((p1 &&& (2147483647 : Int32)) % ((p0 &&& (255 : Int32)) + (1 : Int32))).toInt8.toInt32) + (1 : Int32)).toInt8.toInt32))] (.int (0 : Int32)) := Arv.set (v := (.int (((((p1 &&& (2147483647 : Int32)) % ((p0 &&& (255 : Int32)) + (1 : Int32))).toInt8.toInt32) + (1 : Int32)).toInt8.toInt32))) Ar14 qk14 Sz14 Ng14 Hs14 Gf14 (own_fits (own_nb _) (fits_nar_byte _)) W20 0 rfl (Nat.le_of_ble_eq_true rfl)
  have Z20 : n0 ≤ h20.size := Nat.le_trans Z13 (Keep.of_wr W20).1
  obtain ⟨Lg20, X20', N20⟩ := own_gen X20 (Fr.snoc X20 N13 g_b13_0)
  have ne_b1_b13_0 : b1 ≠ b13_0 := own_ne (Nat.lt_of_lt_of_le pf3_0.lt s13_0)
  have F_b1_buckets_u22 : Fld Z h20 b1 "com/example/fireweed/fireweed/layout/Java31ByteSalt" "buckets" "I" (.int ((p0 &&& (255 : Int32)) + (1 : Int32))) := ((pf3_3.keep kq13 nin0).other W20 (Or.inl ne_b1_b13_0))
  have E_b1_u23 : Exa Z h20 b1 "com/example/fireweed/fireweed/layout/Java31ByteSalt" := ((pf3_0.keep kq13).wr W20)
  obtain ⟨cq21, kq21, q21a, q21b, q21c⟩ := isOf hZ3 e20 E_b1_u23
  obtain ⟨_, _, ⟨T21, L21, k21', n21'⟩, -, X21, ⟨Lc21, hQ21, l21, y21, z21⟩, st21⟩ := X20'.virtualBack hx (y := (⟨"com/example/fireweed/fireweed/layout/Java31ByteSalt", "salt", "(I)[B"⟩ : MethodName)) (z := (⟨"com/example/fireweed/fireweed/layout/Java31ByteSalt", "salt", "(I)[B"⟩ : MethodName)) hown3 (mvT hZ3 (hw _ (List.mem_of_getElem? (i := 104) rfl))) (mvT hZ3 (hw _ (List.mem_of_getElem? (i := 105) rfl))) (notFace_of_selects (args := #[]) (mvT hZ3 (hw _ (List.mem_of_getElem? (i := 107) rfl)))) (mvT hZ3 (hw _ (List.mem_of_getElem? (i := 107) rfl))) (mvT hZ3 (hw _ (List.mem_of_getElem? (i := 106) rfl))) (by decide) (backOf (W := 0) (rm16 l Z az hw [] b1 ((p1 &&& (2147483647 : Int32)) % ((p0 &&& (255 : Int32)) + (1 : Int32))) ((p0 &&& (255 : Int32)) + (1 : Int32)) h20 n0 Z20 F_b1_buckets_u22 hc8 hc9) hZ3 (hw _ (List.mem_of_getElem? (i := 108) rfl)) (hw _ (List.mem_of_getElem? (i := 3) rfl)) (by decide) (by decide)) q21a q21c (g := (mkF m 70 #[.val (.int p0), .val (.int p1), .val (.int ((p0 &&& (255 : Int32)) + (1 : Int32))), .val (.int ((p1 &&& (2147483647 : Int32)) % ((p0 &&& (255 : Int32)) + (1 : Int32)))), .val (.ref b1), .val (.ref b13_0), .unset] [(.int ((p1 &&& (2147483647 : Int32)) % ((p0 &&& (255 : Int32)) + (1 : Int32)))), (.ref b1)])) rfl (by rw [hml]; rfl) (Steps.refl _) (argsL := [(.int ((p1 &&& (2147483647 : Int32)) % ((p0 &&& (255 : Int32)) + (1 : Int32))))]) (rest := []) (lenOf pd_14 rfl) rfl (by show 2 * 0 + _ ≤ _; exact Nat.le_of_eq rfl) (hb hby at_70) (fun _ _ => ⟨rfl, e20, (by decide : 7 + 1 ≤ _), (by decide : 38 + 1 ≤ _)⟩)
  dsimp only [Pt.U, Pt.locs, Pt.cells, Pt.slots] at X21 l21 y21 z21 st21 hQ21
  subst l21 y21 z21
  obtain ⟨b21_0, kk21_0, rfl, N21q, s21_0, kq21, pf21_0, pf21_1⟩ := hQ21
  obtain ⟨Lg21, X21', N21⟩ := own_gen X21 (Fr.app N20 N21q)
  have g_b21_0 : n0 ≤ b21_0 := Nat.le_trans Z20 s21_0
  have sz_b21_0 : h0.size ≤ b21_0 := Nat.le_trans K20.1 s21_0
  have K21 : Keep h0 T21.heap [] := K20.trans kq21 all0
  have Z21 : n0 ≤ T21.heap.size := Nat.le_trans Z20 kq21.1
  have ne_b13_0_b21_0 : b13_0 ≠ b21_0 := own_ne (Nat.lt_of_lt_of_le (pf13_0.wr W20).lt s21_0)
  obtain ⟨cl24, Ar24, qk24, Sz24, Ng24, Hs24, Gf24⟩ := id pf21_1
  have hin25 : ¬ ((0 : Int32) < 0 ∨ cl24.slots.size ≤ ((0 : Int32)).toNatClampNeg) := inb_of Sz24 ⟨by decide, by decide⟩
  have hat26 : cl24.slots[((0 : Int32)).toNatClampNeg]? = some (.int (((p1 &&& (2147483647 : Int32)) % ((p0 &&& (255 : Int32)) + (1 : Int32))).toInt8.toInt32)) := Hs24.at hin25 rfl
  obtain ⟨fs, hr, hrun, hended, hWE⟩ := X21'.leaveW (s := s) hS3 (Nat.le_trans (Nat.le_trans (Nat.le_trans (Nat.le_refl _) kq13.1) (Keep.of_wr W20).1) kq21.1) (v := some (.int (1 : Int32))) (fun h => by rw [Bd.returns] at h; cases h)
  refine ⟨_, _, pre0 _ ?_, hrun, hended, _, _, rfl, ?_, hWE.1, hWE.2.1, hWE.2.2.1, hWE.2.2.2.mono (by decide) (by decide)⟩
  · show Steps p.tables e below (s₁.setTop (mkF m 0 #[.val (.int p0), .val (.int p1), .unset, .unset, .unset, .unset, .unset] [])) _
    refine XS.iloadN X0.here hx rfl (hb hby at_0) rfl ?_
    show Steps p.tables e below (s₁.setTop (mkF m 1 #[.val (.int p0), .val (.int p1), .unset, .unset, .unset, .unset, .unset] [(.int p0)])) _
    refine XS.sipush X0.here hx rfl (hb hby at_1) ?_
    show Steps p.tables e below (s₁.setTop (mkF m 4 #[.val (.int p0), .val (.int p1), .unset, .unset, .unset, .unset, .unset] [(.int (255 : Int32)), (.int p0)])) _
    refine XS.iand X0.here hx rfl (hb hby at_4) rfl ?_
    show Steps p.tables e below (s₁.setTop (mkF m 5 #[.val (.int p0), .val (.int p1), .unset, .unset, .unset, .unset, .unset] [(.int (p0 &&& (255 : Int32)))])) _
    refine XS.iconst X0.here hx rfl (hb hby at_5) ?_
    show Steps p.tables e below (s₁.setTop (mkF m 6 #[.val (.int p0), .val (.int p1), .unset, .unset, .unset, .unset, .unset] [(.int (1 : Int32)), (.int (p0 &&& (255 : Int32)))])) _
    refine XS.iadd X0.here hx rfl (hb hby at_6) rfl ?_
    show Steps p.tables e below (s₁.setTop (mkF m 7 #[.val (.int p0), .val (.int p1), .unset, .unset, .unset, .unset, .unset] [(.int ((p0 &&& (255 : Int32)) + (1 : Int32)))])) _
    refine XS.istoreN X0.here hx rfl (hb hby at_7) rfl (l' := #[.val (.int p0), .val (.int p1), .val (.int ((p0 &&& (255 : Int32)) + (1 : Int32))), .unset, .unset, .unset, .unset]) rfl ?_
    show Steps p.tables e below (s₁.setTop (mkF m 8 #[.val (.int p0), .val (.int p1), .val (.int ((p0 &&& (255 : Int32)) + (1 : Int32))), .unset, .unset, .unset, .unset] [])) _
    refine XS.iloadN X0.here hx rfl (hb hby at_8) rfl ?_
    show Steps p.tables e below (s₁.setTop (mkF m 9 #[.val (.int p0), .val (.int p1), .val (.int ((p0 &&& (255 : Int32)) + (1 : Int32))), .unset, .unset, .unset, .unset] [(.int p1)])) _
    refine X0.ldcInt hx hown (mvT hZ (hw _ (List.mem_of_getElem? (i := 0) rfl))) (g := (mkF m 9 #[.val (.int p0), .val (.int p1), .val (.int ((p0 &&& (255 : Int32)) + (1 : Int32))), .unset, .unset, .unset, .unset] [(.int p1)])) rfl (hb hby at_9) _ ?_
    show Steps p.tables e below (s₁.setTop (mkF m 11 #[.val (.int p0), .val (.int p1), .val (.int ((p0 &&& (255 : Int32)) + (1 : Int32))), .unset, .unset, .unset, .unset] [(.int (2147483647 : Int32)), (.int p1)])) _
    refine XS.iand X0.here hx rfl (hb hby at_11) rfl ?_
    show Steps p.tables e below (s₁.setTop (mkF m 12 #[.val (.int p0), .val (.int p1), .val (.int ((p0 &&& (255 : Int32)) + (1 : Int32))), .unset, .unset, .unset, .unset] [(.int (p1 &&& (2147483647 : Int32)))])) _
    refine XS.iloadN X0.here hx rfl (hb hby at_12) rfl ?_
    show Steps p.tables e below (s₁.setTop (mkF m 13 #[.val (.int p0), .val (.int p1), .val (.int ((p0 &&& (255 : Int32)) + (1 : Int32))), .unset, .unset, .unset, .unset] [(.int ((p0 &&& (255 : Int32)) + (1 : Int32))), (.int (p1 &&& (2147483647 : Int32)))])) _
    refine iremM X0 hx rfl (hb hby at_13) rfl hc2 ?_
    show Steps p.tables e below (s₁.setTop (mkF m 14 #[.val (.int p0), .val (.int p1), .val (.int ((p0 &&& (255 : Int32)) + (1 : Int32))), .unset, .unset, .unset, .unset] [(.int ((p1 &&& (2147483647 : Int32)) % ((p0 &&& (255 : Int32)) + (1 : Int32))))])) _
    refine XS.istoreN X0.here hx rfl (hb hby at_14) rfl (l' := #[.val (.int p0), .val (.int p1), .val (.int ((p0 &&& (255 : Int32)) + (1 : Int32))), .val (.int ((p1 &&& (2147483647 : Int32)) % ((p0 &&& (255 : Int32)) + (1 : Int32)))), .unset, .unset, .unset]) rfl ?_
    show Steps p.tables e below (s₁.setTop (mkF m 15 #[.val (.int p0), .val (.int p1), .val (.int ((p0 &&& (255 : Int32)) + (1 : Int32))), .val (.int ((p1 &&& (2147483647 : Int32)) % ((p0 &&& (255 : Int32)) + (1 : Int32)))), .unset, .unset, .unset] [])) _
    refine st1 _ ?_
    show Steps p.tables e below (T1.setTop (mkF m 18 #[.val (.int p0), .val (.int p1), .val (.int ((p0 &&& (255 : Int32)) + (1 : Int32))), .val (.int ((p1 &&& (2147483647 : Int32)) % ((p0 &&& (255 : Int32)) + (1 : Int32)))), .unset, .unset, .unset] [(.ref b1)])) _
    refine XS.dup X1.here hx rfl (hb hby at_18) rfl rfl ?_
    show Steps p.tables e below (T1.setTop (mkF m 19 #[.val (.int p0), .val (.int p1), .val (.int ((p0 &&& (255 : Int32)) + (1 : Int32))), .val (.int ((p1 &&& (2147483647 : Int32)) % ((p0 &&& (255 : Int32)) + (1 : Int32)))), .unset, .unset, .unset] [(.ref b1), (.ref b1)])) _
    refine XS.iloadN X1.here hx rfl (hb hby at_19) rfl ?_
    show Steps p.tables e below (T1.setTop (mkF m 20 #[.val (.int p0), .val (.int p1), .val (.int ((p0 &&& (255 : Int32)) + (1 : Int32))), .val (.int ((p1 &&& (2147483647 : Int32)) % ((p0 &&& (255 : Int32)) + (1 : Int32)))), .unset, .unset, .unset] [(.int ((p0 &&& (255 : Int32)) + (1 : Int32))), (.ref b1), (.ref b1)])) _
    refine st2 _ ?_
    show Steps p.tables e below (T2.setTop (mkF m 22 #[.val (.int p0), .val (.int p1), .val (.int ((p0 &&& (255 : Int32)) + (1 : Int32))), .val (.int ((p1 &&& (2147483647 : Int32)) % ((p0 &&& (255 : Int32)) + (1 : Int32)))), .unset, .unset, .unset] [(.ref l2), (.int ((p0 &&& (255 : Int32)) + (1 : Int32))), (.ref b1), (.ref b1)])) _
    refine st3.trans ?_
    show Steps p.tables e below (T3.setTop (mkF m 25 #[.val (.int p0), .val (.int p1), .val (.int ((p0 &&& (255 : Int32)) + (1 : Int32))), .val (.int ((p1 &&& (2147483647 : Int32)) % ((p0 &&& (255 : Int32)) + (1 : Int32)))), .unset, .unset, .unset] [(.ref b1)])) _
    refine XS.astore X3'.here hx rfl (hb hby at_25) rfl rfl (l' := #[.val (.int p0), .val (.int p1), .val (.int ((p0 &&& (255 : Int32)) + (1 : Int32))), .val (.int ((p1 &&& (2147483647 : Int32)) % ((p0 &&& (255 : Int32)) + (1 : Int32)))), .val (.ref b1), .unset, .unset]) rfl ?_
    show Steps p.tables e below (T3.setTop (mkF m 27 #[.val (.int p0), .val (.int p1), .val (.int ((p0 &&& (255 : Int32)) + (1 : Int32))), .val (.int ((p1 &&& (2147483647 : Int32)) % ((p0 &&& (255 : Int32)) + (1 : Int32)))), .val (.ref b1), .unset, .unset] [])) _
    refine XS.aload X3'.here hx rfl (hb hby at_27) rfl rfl ?_
    show Steps p.tables e below (T3.setTop (mkF m 29 #[.val (.int p0), .val (.int p1), .val (.int ((p0 &&& (255 : Int32)) + (1 : Int32))), .val (.int ((p1 &&& (2147483647 : Int32)) % ((p0 &&& (255 : Int32)) + (1 : Int32)))), .val (.ref b1), .unset, .unset] [(.ref b1)])) _
    refine XS.iloadN X3'.here hx rfl (hb hby at_29) rfl ?_
    show Steps p.tables e below (T3.setTop (mkF m 30 #[.val (.int p0), .val (.int p1), .val (.int ((p0 &&& (255 : Int32)) + (1 : Int32))), .val (.int ((p1 &&& (2147483647 : Int32)) % ((p0 &&& (255 : Int32)) + (1 : Int32)))), .val (.ref b1), .unset, .unset] [(.int ((p1 &&& (2147483647 : Int32)) % ((p0 &&& (255 : Int32)) + (1 : Int32)))), (.ref b1)])) _
    refine st13.trans ?_
    show Steps p.tables e below (T13.setTop (mkF m 33 #[.val (.int p0), .val (.int p1), .val (.int ((p0 &&& (255 : Int32)) + (1 : Int32))), .val (.int ((p1 &&& (2147483647 : Int32)) % ((p0 &&& (255 : Int32)) + (1 : Int32)))), .val (.ref b1), .unset, .unset] [(.ref b13_0)])) _
    refine XS.astore X13'.here hx rfl (hb hby at_33) rfl rfl (l' := #[.val (.int p0), .val (.int p1), .val (.int ((p0 &&& (255 : Int32)) + (1 : Int32))), .val (.int ((p1 &&& (2147483647 : Int32)) % ((p0 &&& (255 : Int32)) + (1 : Int32)))), .val (.ref b1), .val (.ref b13_0), .unset]) rfl ?_
    show Steps p.tables e below (T13.setTop (mkF m 35 #[.val (.int p0), .val (.int p1), .val (.int ((p0 &&& (255 : Int32)) + (1 : Int32))), .val (.int ((p1 &&& (2147483647 : Int32)) % ((p0 &&& (255 : Int32)) + (1 : Int32)))), .val (.ref b1), .val (.ref b13_0), .unset] [])) _
    refine XS.aload X13'.here hx rfl (hb hby at_35) rfl rfl ?_
    show Steps p.tables e below (T13.setTop (mkF m 37 #[.val (.int p0), .val (.int p1), .val (.int ((p0 &&& (255 : Int32)) + (1 : Int32))), .val (.int ((p1 &&& (2147483647 : Int32)) % ((p0 &&& (255 : Int32)) + (1 : Int32)))), .val (.ref b1), .val (.ref b13_0), .unset] [(.ref b13_0)])) _
    refine X13'.arraylength hx Ar14.1 (State.isArrayOf_alike hZ3.alike Ar14.2.1) (g := (mkF m 37 #[.val (.int p0), .val (.int p1), .val (.int ((p0 &&& (255 : Int32)) + (1 : Int32))), .val (.int ((p1 &&& (2147483647 : Int32)) % ((p0 &&& (255 : Int32)) + (1 : Int32)))), .val (.ref b1), .val (.ref b13_0), .unset] [(.ref b13_0)])) rfl rfl (hb hby at_37) _ ?_
    rw [len_of Sz14 Ng14]
    show Steps p.tables e below (T13.setTop (mkF m 38 #[.val (.int p0), .val (.int p1), .val (.int ((p0 &&& (255 : Int32)) + (1 : Int32))), .val (.int ((p1 &&& (2147483647 : Int32)) % ((p0 &&& (255 : Int32)) + (1 : Int32)))), .val (.ref b1), .val (.ref b13_0), .unset] [(.int (1 : Int32))])) _
    refine XS.iconst X13'.here hx rfl (hb hby at_38) ?_
    show Steps p.tables e below (T13.setTop (mkF m 39 #[.val (.int p0), .val (.int p1), .val (.int ((p0 &&& (255 : Int32)) + (1 : Int32))), .val (.int ((p1 &&& (2147483647 : Int32)) % ((p0 &&& (255 : Int32)) + (1 : Int32)))), .val (.ref b1), .val (.ref b13_0), .unset] [(.int (1 : Int32)), (.int (1 : Int32))])) _
    refine XS.icmpNo X13'.here hx rfl (hb hby at_39) rfl (teq (by decide : (1 : Int32) = (1 : Int32))).2 ?_
    show Steps p.tables e below (T13.setTop (mkF m 42 #[.val (.int p0), .val (.int p1), .val (.int ((p0 &&& (255 : Int32)) + (1 : Int32))), .val (.int ((p1 &&& (2147483647 : Int32)) % ((p0 &&& (255 : Int32)) + (1 : Int32)))), .val (.ref b1), .val (.ref b13_0), .unset] [])) _
    refine XS.aload X13'.here hx rfl (hb hby at_42) rfl rfl ?_
    show Steps p.tables e below (T13.setTop (mkF m 44 #[.val (.int p0), .val (.int p1), .val (.int ((p0 &&& (255 : Int32)) + (1 : Int32))), .val (.int ((p1 &&& (2147483647 : Int32)) % ((p0 &&& (255 : Int32)) + (1 : Int32)))), .val (.ref b1), .val (.ref b13_0), .unset] [(.ref b13_0)])) _
    refine XS.iconst X13'.here hx rfl (hb hby at_44) ?_
    show Steps p.tables e below (T13.setTop (mkF m 45 #[.val (.int p0), .val (.int p1), .val (.int ((p0 &&& (255 : Int32)) + (1 : Int32))), .val (.int ((p1 &&& (2147483647 : Int32)) % ((p0 &&& (255 : Int32)) + (1 : Int32)))), .val (.ref b1), .val (.ref b13_0), .unset] [(.int (0 : Int32)), (.ref b13_0)])) _
    refine X13'.baloadBytes hx (j := (0 : Int32)) (v := (.int (((p1 &&& (2147483647 : Int32)) % ((p0 &&& (255 : Int32)) + (1 : Int32))).toInt8.toInt32))) Ar14.1 (State.isArrayOf_alike hZ3.alike Ar14.2.1) Ar14.2.2 hin15 hat16 (g := (mkF m 45 #[.val (.int p0), .val (.int p1), .val (.int ((p0 &&& (255 : Int32)) + (1 : Int32))), .val (.int ((p1 &&& (2147483647 : Int32)) % ((p0 &&& (255 : Int32)) + (1 : Int32)))), .val (.ref b1), .val (.ref b13_0), .unset] [(.int (0 : Int32)), (.ref b13_0)])) rfl rfl (hb hby at_45) _ ?_
    show Steps p.tables e below (T13.setTop (mkF m 46 #[.val (.int p0), .val (.int p1), .val (.int ((p0 &&& (255 : Int32)) + (1 : Int32))), .val (.int ((p1 &&& (2147483647 : Int32)) % ((p0 &&& (255 : Int32)) + (1 : Int32)))), .val (.ref b1), .val (.ref b13_0), .unset] [(.int (((p1 &&& (2147483647 : Int32)) % ((p0 &&& (255 : Int32)) + (1 : Int32))).toInt8.toInt32))])) _
    refine XS.sipush X13'.here hx rfl (hb hby at_46) ?_
    show Steps p.tables e below (T13.setTop (mkF m 49 #[.val (.int p0), .val (.int p1), .val (.int ((p0 &&& (255 : Int32)) + (1 : Int32))), .val (.int ((p1 &&& (2147483647 : Int32)) % ((p0 &&& (255 : Int32)) + (1 : Int32)))), .val (.ref b1), .val (.ref b13_0), .unset] [(.int (255 : Int32)), (.int (((p1 &&& (2147483647 : Int32)) % ((p0 &&& (255 : Int32)) + (1 : Int32))).toInt8.toInt32))])) _
    refine XS.iand X13'.here hx rfl (hb hby at_49) rfl ?_
    show Steps p.tables e below (T13.setTop (mkF m 50 #[.val (.int p0), .val (.int p1), .val (.int ((p0 &&& (255 : Int32)) + (1 : Int32))), .val (.int ((p1 &&& (2147483647 : Int32)) % ((p0 &&& (255 : Int32)) + (1 : Int32)))), .val (.ref b1), .val (.ref b13_0), .unset] [(.int ((((p1 &&& (2147483647 : Int32)) % ((p0 &&& (255 : Int32)) + (1 : Int32))).toInt8.toInt32) &&& (255 : Int32)))])) _
    refine XS.iloadN X13'.here hx rfl (hb hby at_50) rfl ?_
    show Steps p.tables e below (T13.setTop (mkF m 51 #[.val (.int p0), .val (.int p1), .val (.int ((p0 &&& (255 : Int32)) + (1 : Int32))), .val (.int ((p1 &&& (2147483647 : Int32)) % ((p0 &&& (255 : Int32)) + (1 : Int32)))), .val (.ref b1), .val (.ref b13_0), .unset] [(.int ((p1 &&& (2147483647 : Int32)) % ((p0 &&& (255 : Int32)) + (1 : Int32)))), (.int ((((p1 &&& (2147483647 : Int32)) % ((p0 &&& (255 : Int32)) + (1 : Int32))).toInt8.toInt32) &&& (255 : Int32)))])) _
    refine XS.icmpYes X13'.here hx rfl (pc0 := 51) (pc' := 56) rfl (hb hby at_51) rfl (teq hc10).1 (by decide) (by decide) ?_
    show Steps p.tables e below (T13.setTop (mkF m 56 #[.val (.int p0), .val (.int p1), .val (.int ((p0 &&& (255 : Int32)) + (1 : Int32))), .val (.int ((p1 &&& (2147483647 : Int32)) % ((p0 &&& (255 : Int32)) + (1 : Int32)))), .val (.ref b1), .val (.ref b13_0), .unset] [])) _
    refine XS.aload X13'.here hx rfl (hb hby at_56) rfl rfl ?_
    show Steps p.tables e below (T13.setTop (mkF m 58 #[.val (.int p0), .val (.int p1), .val (.int ((p0 &&& (255 : Int32)) + (1 : Int32))), .val (.int ((p1 &&& (2147483647 : Int32)) % ((p0 &&& (255 : Int32)) + (1 : Int32)))), .val (.ref b1), .val (.ref b13_0), .unset] [(.ref b13_0)])) _
    refine XS.iconst X13'.here hx rfl (hb hby at_58) ?_
    show Steps p.tables e below (T13.setTop (mkF m 59 #[.val (.int p0), .val (.int p1), .val (.int ((p0 &&& (255 : Int32)) + (1 : Int32))), .val (.int ((p1 &&& (2147483647 : Int32)) % ((p0 &&& (255 : Int32)) + (1 : Int32)))), .val (.ref b1), .val (.ref b13_0), .unset] [(.int (0 : Int32)), (.ref b13_0)])) _
    refine XS.aload X13'.here hx rfl (hb hby at_59) rfl rfl ?_
    show Steps p.tables e below (T13.setTop (mkF m 61 #[.val (.int p0), .val (.int p1), .val (.int ((p0 &&& (255 : Int32)) + (1 : Int32))), .val (.int ((p1 &&& (2147483647 : Int32)) % ((p0 &&& (255 : Int32)) + (1 : Int32)))), .val (.ref b1), .val (.ref b13_0), .unset] [(.ref b13_0), (.int (0 : Int32)), (.ref b13_0)])) _
    refine XS.iconst X13'.here hx rfl (hb hby at_61) ?_
    show Steps p.tables e below (T13.setTop (mkF m 62 #[.val (.int p0), .val (.int p1), .val (.int ((p0 &&& (255 : Int32)) + (1 : Int32))), .val (.int ((p1 &&& (2147483647 : Int32)) % ((p0 &&& (255 : Int32)) + (1 : Int32)))), .val (.ref b1), .val (.ref b13_0), .unset] [(.int (0 : Int32)), (.ref b13_0), (.int (0 : Int32)), (.ref b13_0)])) _
    refine X13'.baloadBytes hx (j := (0 : Int32)) (v := (.int (((p1 &&& (2147483647 : Int32)) % ((p0 &&& (255 : Int32)) + (1 : Int32))).toInt8.toInt32))) Ar14.1 (State.isArrayOf_alike hZ3.alike Ar14.2.1) Ar14.2.2 hin17 hat18 (g := (mkF m 62 #[.val (.int p0), .val (.int p1), .val (.int ((p0 &&& (255 : Int32)) + (1 : Int32))), .val (.int ((p1 &&& (2147483647 : Int32)) % ((p0 &&& (255 : Int32)) + (1 : Int32)))), .val (.ref b1), .val (.ref b13_0), .unset] [(.int (0 : Int32)), (.ref b13_0), (.int (0 : Int32)), (.ref b13_0)])) rfl rfl (hb hby at_62) _ ?_
    show Steps p.tables e below (T13.setTop (mkF m 63 #[.val (.int p0), .val (.int p1), .val (.int ((p0 &&& (255 : Int32)) + (1 : Int32))), .val (.int ((p1 &&& (2147483647 : Int32)) % ((p0 &&& (255 : Int32)) + (1 : Int32)))), .val (.ref b1), .val (.ref b13_0), .unset] [(.int (((p1 &&& (2147483647 : Int32)) % ((p0 &&& (255 : Int32)) + (1 : Int32))).toInt8.toInt32)), (.int (0 : Int32)), (.ref b13_0)])) _
    refine XS.iconst X13'.here hx rfl (hb hby at_63) ?_
    show Steps p.tables e below (T13.setTop (mkF m 64 #[.val (.int p0), .val (.int p1), .val (.int ((p0 &&& (255 : Int32)) + (1 : Int32))), .val (.int ((p1 &&& (2147483647 : Int32)) % ((p0 &&& (255 : Int32)) + (1 : Int32)))), .val (.ref b1), .val (.ref b13_0), .unset] [(.int (1 : Int32)), (.int (((p1 &&& (2147483647 : Int32)) % ((p0 &&& (255 : Int32)) + (1 : Int32))).toInt8.toInt32)), (.int (0 : Int32)), (.ref b13_0)])) _
    refine XS.iadd X13'.here hx rfl (hb hby at_64) rfl ?_
    show Steps p.tables e below (T13.setTop (mkF m 65 #[.val (.int p0), .val (.int p1), .val (.int ((p0 &&& (255 : Int32)) + (1 : Int32))), .val (.int ((p1 &&& (2147483647 : Int32)) % ((p0 &&& (255 : Int32)) + (1 : Int32)))), .val (.ref b1), .val (.ref b13_0), .unset] [(.int ((((p1 &&& (2147483647 : Int32)) % ((p0 &&& (255 : Int32)) + (1 : Int32))).toInt8.toInt32) + (1 : Int32))), (.int (0 : Int32)), (.ref b13_0)])) _
    refine XS.i2b X13'.here hx rfl (hb hby at_65) rfl ?_
    show Steps p.tables e below (T13.setTop (mkF m 66 #[.val (.int p0), .val (.int p1), .val (.int ((p0 &&& (255 : Int32)) + (1 : Int32))), .val (.int ((p1 &&& (2147483647 : Int32)) % ((p0 &&& (255 : Int32)) + (1 : Int32)))), .val (.ref b1), .val (.ref b13_0), .unset] [(.int (((((p1 &&& (2147483647 : Int32)) % ((p0 &&& (255 : Int32)) + (1 : Int32))).toInt8.toInt32) + (1 : Int32)).toInt8.toInt32)), (.int (0 : Int32)), (.ref b13_0)])) _
    refine st20 _ ?_
    show Steps p.tables e below (T20.setTop (mkF m 67 #[.val (.int p0), .val (.int p1), .val (.int ((p0 &&& (255 : Int32)) + (1 : Int32))), .val (.int ((p1 &&& (2147483647 : Int32)) % ((p0 &&& (255 : Int32)) + (1 : Int32)))), .val (.ref b1), .val (.ref b13_0), .unset] [])) _
    refine XS.aload X20'.here hx rfl (hb hby at_67) rfl rfl ?_
    show Steps p.tables e below (T20.setTop (mkF m 69 #[.val (.int p0), .val (.int p1), .val (.int ((p0 &&& (255 : Int32)) + (1 : Int32))), .val (.int ((p1 &&& (2147483647 : Int32)) % ((p0 &&& (255 : Int32)) + (1 : Int32)))), .val (.ref b1), .val (.ref b13_0), .unset] [(.ref b1)])) _
    refine XS.iloadN X20'.here hx rfl (hb hby at_69) rfl ?_
    show Steps p.tables e below (T20.setTop (mkF m 70 #[.val (.int p0), .val (.int p1), .val (.int ((p0 &&& (255 : Int32)) + (1 : Int32))), .val (.int ((p1 &&& (2147483647 : Int32)) % ((p0 &&& (255 : Int32)) + (1 : Int32)))), .val (.ref b1), .val (.ref b13_0), .unset] [(.int ((p1 &&& (2147483647 : Int32)) % ((p0 &&& (255 : Int32)) + (1 : Int32)))), (.ref b1)])) _
    refine st21.trans ?_
    show Steps p.tables e below (T21.setTop (mkF m 73 #[.val (.int p0), .val (.int p1), .val (.int ((p0 &&& (255 : Int32)) + (1 : Int32))), .val (.int ((p1 &&& (2147483647 : Int32)) % ((p0 &&& (255 : Int32)) + (1 : Int32)))), .val (.ref b1), .val (.ref b13_0), .unset] [(.ref b21_0)])) _
    refine XS.astore X21'.here hx rfl (hb hby at_73) rfl rfl (l' := #[.val (.int p0), .val (.int p1), .val (.int ((p0 &&& (255 : Int32)) + (1 : Int32))), .val (.int ((p1 &&& (2147483647 : Int32)) % ((p0 &&& (255 : Int32)) + (1 : Int32)))), .val (.ref b1), .val (.ref b13_0), .val (.ref b21_0)]) rfl ?_
    show Steps p.tables e below (T21.setTop (mkF m 75 #[.val (.int p0), .val (.int p1), .val (.int ((p0 &&& (255 : Int32)) + (1 : Int32))), .val (.int ((p1 &&& (2147483647 : Int32)) % ((p0 &&& (255 : Int32)) + (1 : Int32)))), .val (.ref b1), .val (.ref b13_0), .val (.ref b21_0)] [])) _
    refine XS.aload X21'.here hx rfl (hb hby at_75) rfl rfl ?_
    show Steps p.tables e below (T21.setTop (mkF m 77 #[.val (.int p0), .val (.int p1), .val (.int ((p0 &&& (255 : Int32)) + (1 : Int32))), .val (.int ((p1 &&& (2147483647 : Int32)) % ((p0 &&& (255 : Int32)) + (1 : Int32)))), .val (.ref b1), .val (.ref b13_0), .val (.ref b21_0)] [(.ref b21_0)])) _
    refine XS.aload X21'.here hx rfl (hb hby at_77) rfl rfl ?_
    show Steps p.tables e below (T21.setTop (mkF m 79 #[.val (.int p0), .val (.int p1), .val (.int ((p0 &&& (255 : Int32)) + (1 : Int32))), .val (.int ((p1 &&& (2147483647 : Int32)) % ((p0 &&& (255 : Int32)) + (1 : Int32)))), .val (.ref b1), .val (.ref b13_0), .val (.ref b21_0)] [(.ref b13_0), (.ref b21_0)])) _
    refine Jvm.RoadKit.acmp (g := (mkF m 79 #[.val (.int p0), .val (.int p1), .val (.int ((p0 &&& (255 : Int32)) + (1 : Int32))), .val (.int ((p1 &&& (2147483647 : Int32)) % ((p0 &&& (255 : Int32)) + (1 : Int32)))), .val (.ref b1), .val (.ref b13_0), .val (.ref b21_0)] [(.ref b13_0), (.ref b21_0)])) X21' hx rfl rfl rfl (pc0 := 79) (pc' := 82) (same := false) rfl (hb hby at_79) rfl (decide_eq_false fun q => (Ne.symm ne_b13_0_b21_0) (Value.ref.inj q)) (by decide) (by decide) ?_
    show Steps p.tables e below (T21.setTop (mkF m 82 #[.val (.int p0), .val (.int p1), .val (.int ((p0 &&& (255 : Int32)) + (1 : Int32))), .val (.int ((p1 &&& (2147483647 : Int32)) % ((p0 &&& (255 : Int32)) + (1 : Int32)))), .val (.ref b1), .val (.ref b13_0), .val (.ref b21_0)] [])) _
    refine XS.aload X21'.here hx rfl (hb hby at_82) rfl rfl ?_
    show Steps p.tables e below (T21.setTop (mkF m 84 #[.val (.int p0), .val (.int p1), .val (.int ((p0 &&& (255 : Int32)) + (1 : Int32))), .val (.int ((p1 &&& (2147483647 : Int32)) % ((p0 &&& (255 : Int32)) + (1 : Int32)))), .val (.ref b1), .val (.ref b13_0), .val (.ref b21_0)] [(.ref b21_0)])) _
    refine X21'.arraylength hx Ar24.1 (State.isArrayOf_alike hZ3.alike Ar24.2.1) (g := (mkF m 84 #[.val (.int p0), .val (.int p1), .val (.int ((p0 &&& (255 : Int32)) + (1 : Int32))), .val (.int ((p1 &&& (2147483647 : Int32)) % ((p0 &&& (255 : Int32)) + (1 : Int32)))), .val (.ref b1), .val (.ref b13_0), .val (.ref b21_0)] [(.ref b21_0)])) rfl rfl (hb hby at_84) _ ?_
    rw [len_of Sz24 Ng24]
    show Steps p.tables e below (T21.setTop (mkF m 85 #[.val (.int p0), .val (.int p1), .val (.int ((p0 &&& (255 : Int32)) + (1 : Int32))), .val (.int ((p1 &&& (2147483647 : Int32)) % ((p0 &&& (255 : Int32)) + (1 : Int32)))), .val (.ref b1), .val (.ref b13_0), .val (.ref b21_0)] [(.int (1 : Int32))])) _
    refine XS.iconst X21'.here hx rfl (hb hby at_85) ?_
    show Steps p.tables e below (T21.setTop (mkF m 86 #[.val (.int p0), .val (.int p1), .val (.int ((p0 &&& (255 : Int32)) + (1 : Int32))), .val (.int ((p1 &&& (2147483647 : Int32)) % ((p0 &&& (255 : Int32)) + (1 : Int32)))), .val (.ref b1), .val (.ref b13_0), .val (.ref b21_0)] [(.int (1 : Int32)), (.int (1 : Int32))])) _
    refine XS.icmpNo X21'.here hx rfl (hb hby at_86) rfl (teq (by decide : (1 : Int32) = (1 : Int32))).2 ?_
    show Steps p.tables e below (T21.setTop (mkF m 89 #[.val (.int p0), .val (.int p1), .val (.int ((p0 &&& (255 : Int32)) + (1 : Int32))), .val (.int ((p1 &&& (2147483647 : Int32)) % ((p0 &&& (255 : Int32)) + (1 : Int32)))), .val (.ref b1), .val (.ref b13_0), .val (.ref b21_0)] [])) _
    refine XS.aload X21'.here hx rfl (hb hby at_89) rfl rfl ?_
    show Steps p.tables e below (T21.setTop (mkF m 91 #[.val (.int p0), .val (.int p1), .val (.int ((p0 &&& (255 : Int32)) + (1 : Int32))), .val (.int ((p1 &&& (2147483647 : Int32)) % ((p0 &&& (255 : Int32)) + (1 : Int32)))), .val (.ref b1), .val (.ref b13_0), .val (.ref b21_0)] [(.ref b21_0)])) _
    refine XS.iconst X21'.here hx rfl (hb hby at_91) ?_
    show Steps p.tables e below (T21.setTop (mkF m 92 #[.val (.int p0), .val (.int p1), .val (.int ((p0 &&& (255 : Int32)) + (1 : Int32))), .val (.int ((p1 &&& (2147483647 : Int32)) % ((p0 &&& (255 : Int32)) + (1 : Int32)))), .val (.ref b1), .val (.ref b13_0), .val (.ref b21_0)] [(.int (0 : Int32)), (.ref b21_0)])) _
    refine X21'.baloadBytes hx (j := (0 : Int32)) (v := (.int (((p1 &&& (2147483647 : Int32)) % ((p0 &&& (255 : Int32)) + (1 : Int32))).toInt8.toInt32))) Ar24.1 (State.isArrayOf_alike hZ3.alike Ar24.2.1) Ar24.2.2 hin25 hat26 (g := (mkF m 92 #[.val (.int p0), .val (.int p1), .val (.int ((p0 &&& (255 : Int32)) + (1 : Int32))), .val (.int ((p1 &&& (2147483647 : Int32)) % ((p0 &&& (255 : Int32)) + (1 : Int32)))), .val (.ref b1), .val (.ref b13_0), .val (.ref b21_0)] [(.int (0 : Int32)), (.ref b21_0)])) rfl rfl (hb hby at_92) _ ?_
    show Steps p.tables e below (T21.setTop (mkF m 93 #[.val (.int p0), .val (.int p1), .val (.int ((p0 &&& (255 : Int32)) + (1 : Int32))), .val (.int ((p1 &&& (2147483647 : Int32)) % ((p0 &&& (255 : Int32)) + (1 : Int32)))), .val (.ref b1), .val (.ref b13_0), .val (.ref b21_0)] [(.int (((p1 &&& (2147483647 : Int32)) % ((p0 &&& (255 : Int32)) + (1 : Int32))).toInt8.toInt32))])) _
    refine XS.sipush X21'.here hx rfl (hb hby at_93) ?_
    show Steps p.tables e below (T21.setTop (mkF m 96 #[.val (.int p0), .val (.int p1), .val (.int ((p0 &&& (255 : Int32)) + (1 : Int32))), .val (.int ((p1 &&& (2147483647 : Int32)) % ((p0 &&& (255 : Int32)) + (1 : Int32)))), .val (.ref b1), .val (.ref b13_0), .val (.ref b21_0)] [(.int (255 : Int32)), (.int (((p1 &&& (2147483647 : Int32)) % ((p0 &&& (255 : Int32)) + (1 : Int32))).toInt8.toInt32))])) _
    refine XS.iand X21'.here hx rfl (hb hby at_96) rfl ?_
    show Steps p.tables e below (T21.setTop (mkF m 97 #[.val (.int p0), .val (.int p1), .val (.int ((p0 &&& (255 : Int32)) + (1 : Int32))), .val (.int ((p1 &&& (2147483647 : Int32)) % ((p0 &&& (255 : Int32)) + (1 : Int32)))), .val (.ref b1), .val (.ref b13_0), .val (.ref b21_0)] [(.int ((((p1 &&& (2147483647 : Int32)) % ((p0 &&& (255 : Int32)) + (1 : Int32))).toInt8.toInt32) &&& (255 : Int32)))])) _
    refine XS.iloadN X21'.here hx rfl (hb hby at_97) rfl ?_
    show Steps p.tables e below (T21.setTop (mkF m 98 #[.val (.int p0), .val (.int p1), .val (.int ((p0 &&& (255 : Int32)) + (1 : Int32))), .val (.int ((p1 &&& (2147483647 : Int32)) % ((p0 &&& (255 : Int32)) + (1 : Int32)))), .val (.ref b1), .val (.ref b13_0), .val (.ref b21_0)] [(.int ((p1 &&& (2147483647 : Int32)) % ((p0 &&& (255 : Int32)) + (1 : Int32)))), (.int ((((p1 &&& (2147483647 : Int32)) % ((p0 &&& (255 : Int32)) + (1 : Int32))).toInt8.toInt32) &&& (255 : Int32)))])) _
    refine XS.icmpNo X21'.here hx rfl (hb hby at_98) rfl (teq hc10).2 ?_
    show Steps p.tables e below (T21.setTop (mkF m 101 #[.val (.int p0), .val (.int p1), .val (.int ((p0 &&& (255 : Int32)) + (1 : Int32))), .val (.int ((p1 &&& (2147483647 : Int32)) % ((p0 &&& (255 : Int32)) + (1 : Int32)))), .val (.ref b1), .val (.ref b13_0), .val (.ref b21_0)] [])) _
    refine XS.iconst X21'.here hx rfl (hb hby at_101) ?_
    show Steps p.tables e below (T21.setTop (mkF m 102 #[.val (.int p0), .val (.int p1), .val (.int ((p0 &&& (255 : Int32)) + (1 : Int32))), .val (.int ((p1 &&& (2147483647 : Int32)) % ((p0 &&& (255 : Int32)) + (1 : Int32)))), .val (.ref b1), .val (.ref b13_0), .val (.ref b21_0)] [(.int (1 : Int32))])) _
    refine XS.goto X21'.here hx rfl (pc0 := 102) (pc' := 106) rfl (hb hby at_102) (by decide) (by decide) ?_
    show Steps p.tables e below (T21.setTop (mkF m 106 #[.val (.int p0), .val (.int p1), .val (.int ((p0 &&& (255 : Int32)) + (1 : Int32))), .val (.int ((p1 &&& (2147483647 : Int32)) % ((p0 &&& (255 : Int32)) + (1 : Int32)))), .val (.ref b1), .val (.ref b13_0), .val (.ref b21_0)] [(.int (1 : Int32))])) _
    exact retN X21' hx (t := .boolean) Bd.returns (by simp) (hb hby at_106) hr
  · show Q0B Z p0 p1 aU s_COMPACT_STRINGS h0 n0 _ T21.heap _
    exact ⟨rfl, N21⟩
def own_max (x y : Int32) : Int32 := if x < y then y else x
theorem own_maxJ (x y : Int32) : ((x < y) ∧ own_max x y = y) ∨ ((¬ (x < y)) ∧ own_max x y = x) := by
  unfold own_max
  by_cases h : x < y
  · exact Or.inl ⟨h, if_pos h⟩
  · exact Or.inr ⟨h, if_neg h⟩
theorem own_low (x : Int32) : ∃ n : Fin 256, x &&& (255 : Int32) = Int32.ofNat n.val := by
  have e := c_mask x (255 : Int32) 8 (by decide) (by decide)
  have h1 : 0 ≤ (x &&& (255 : Int32)).toInt ∧ (x &&& (255 : Int32)).toInt < 256 := by rw [e]; omega
  refine ⟨⟨(x &&& (255 : Int32)).toInt.toNat, by omega⟩, Int32.toInt_inj.mp ?_⟩
  rw [Int32.toInt_ofNat_of_lt (by simp only []; omega)]
  simp only []
  omega
theorem own_all (P : Int32 → Prop) (h : ∀ n : Fin 256, P (Int32.ofNat n.val + 1)) (x : Int32) : P ((x &&& (255 : Int32)) + (1 : Int32)) := by
  obtain ⟨n, e⟩ := own_low x
  rw [e]; exact h n
theorem own_allc (P : Int32 → Prop) (h : ∀ n : Fin 256, P (Int32.ofNat n.val)) (x : Int32) : P (x &&& (255 : Int32)) := by
  obtain ⟨n, e⟩ := own_low x
  rw [e]; exact h n
theorem own_rem (x y : Int32) (h : ¬ ((y &&& (255 : Int32)) + (1 : Int32) < (1 : Int32))) (h' : ¬ ((256 : Int32) < (y &&& (255 : Int32)) + (1 : Int32))) : 0 ≤ ((x &&& (2147483647 : Int32)) % ((y &&& (255 : Int32)) + (1 : Int32))).toInt ∧ ((x &&& (2147483647 : Int32)) % ((y &&& (255 : Int32)) + (1 : Int32))).toInt < ((y &&& (255 : Int32)) + (1 : Int32)).toInt ∧ ((y &&& (255 : Int32)) + (1 : Int32)).toInt ≤ 256 := by
  have e := c_mask x (2147483647 : Int32) 31 (by decide) (by decide)
  have q : 0 ≤ (x &&& (2147483647 : Int32)).toInt := by rw [e]; omega
  rw [Int32.lt_iff_toInt_lt] at h h'
  have e1 : (1 : Int32).toInt = 1 := rfl
  have e2 : (256 : Int32).toInt = 256 := rfl
  obtain ⟨r1, r2, -⟩ := (c_iremV (x &&& (2147483647 : Int32)) ((y &&& (255 : Int32)) + (1 : Int32))).1 q (by omega)
  exact ⟨r1, r2, by omega⟩
theorem own_byte (r : Int32) (h0 : 0 ≤ r.toInt) (h1 : r.toInt < 256) : ((r.toInt8.toInt32) &&& (255 : Int32)) = r := by
  have key : ∀ n : Fin 256, (((Int32.ofNat n.val).toInt8.toInt32) &&& (255 : Int32)) = Int32.ofNat n.val := by decide +kernel
  have e : r = Int32.ofNat r.toInt.toNat := Int32.toInt_inj.mp (by rw [Int32.toInt_ofNat_of_lt (by omega)]; omega)
  have := key ⟨r.toInt.toNat, by omega⟩
  rw [← e] at this
  exact this
set_option maxRecDepth 65536 in
set_option maxHeartbeats 40000000 in
theorem comes_1 {Post : Tables → Env → Array Value → State → Outcome → State → Prop} (hpost : ∀ tb e args s v u, (limb_1_1.after args s (.returned v) u = true ∧ limb_1_2.after args s (.returned v) u = true ∧ True) → ReturnedEndW s (.returned v) u (Jvm.fieldLocs frame_1_writes args s ++ Jvm.arrayLocs frame_1_arrays args s ++ Jvm.staticLocs frame_1_statics s) 24 2176 → Post tb e args s (.returned v) u) :
    ArmFor flags0 classFile x code maxLocals ret World_1 tables_1 room_1 Calls_1 rest_1 Pre_1 Post := by
  intro l hfl _ _ p e ha hc hk s m args below hf hA hF happ hP
  obtain ⟨hcalls, hrest, hpre⟩ := hP
  obtain ⟨-, -, -, hnamed, -, -, -, hat⟩ := (Spec.applies_iff hf).mp happ
  obtain ⟨hg, hn⟩ := and_e (Cond.before_iff.mp (show (Jvm.Cond.and given_1 narrow_1).before args s = true from hpre))
  obtain ⟨gc, hg⟩ := and_e hg
  obtain ⟨gi0, hg⟩ := and_e hg
  have gi1 := hg
  obtain ⟨w0, w1, rfl⟩ : ∃ w0 w1 : Value, args = #[w0, w1] := by
    have hs : args.size = 2 := by simpa [Cond.value, given_1] using gc
    obtain ⟨L⟩ := args
    match L, hs with
    | [w0, w1], _ => exact ⟨w0, w1, rfl⟩
  have hw := fun d (hd : d ∈ tables_1) => atoms_spec (ws := Jvm.Cond.code x code maxLocals ret :: tables_1) hat d (List.mem_cons_of_mem _ hd)
  obtain ⟨hsets, hown0⟩ := atoms_of _ (rest_1_c_eq ▸ (show rest_1_c.before _ s = true from hrest))
  obtain ⟨i0, ei0⟩ := is_v gi0
  obtain rfl : w0 = (.int i0) := Option.some.inj ei0
  obtain ⟨i1, ei1⟩ := is_v gi1
  obtain rfl : w1 = (.int i1) := Option.some.inj ei1
  have hU := Cond.before_iff.mp (hsets _ (List.mem_of_getElem? (i := 5) rfl))
  have hI := Cond.before_iff.mp (hsets _ (List.mem_of_getElem? (i := 17) rfl))
  have hUI := Cond.before_iff.mp (hsets _ (List.mem_of_getElem? (i := 4) rfl))
  have hC := Cond.before_iff.mp (hsets _ (List.mem_of_getElem? (i := 7) rfl))
  have hC0 := Cond.before_iff.mp (hsets _ (List.mem_of_getElem? (i := 8) rfl))
  obtain ⟨aU, vU⟩ := exa_v hU
  obtain ⟨aI, vI⟩ := exa_v hI
  obtain ⟨sC, vC⟩ := is_v hC
  have sU := Sta.start vU (Or.inl (hsets _ (List.mem_of_getElem? (i := 1) rfl)))
  have sI := Sta.start vI (Or.inl (hsets _ (List.mem_of_getElem? (i := 3) rfl)))
  have sS := Sta.start vC (Or.inl (hsets _ (List.mem_of_getElem? (i := 6) rfl)))
  have eUI := Value.ref.inj (gotT (eq_R vU vI rfl rfl) hUI)
  subst eUI
  have nC : ¬ (sC = (0 : Int32)) := gotF (by simp [Cond.value, vC, show (Term.int 0).eval #[Value.int i0, Value.int i1] s none [] s = some (.int 0) from rfl]) (not_v hC0)
  have hEW0 : EW s _ [("com/example/fireweed/fireweed/layout/Java31ByteSaltSaltPinLaw", 10)] := (EW.cons (hw _ (List.mem_of_getElem? (i := 4) rfl)) (by decide) EW.nil)
  have hCH0 : CHv s [("com/example/fireweed/fireweed/layout/Java31ByteSaltSaltPinLaw", 10)] s.vm s.heap := CHv.start hEW0 (fun p hp => by
      simp only [List.mem_cons, List.not_mem_nil, or_false] at hp
      rcases hp with rfl
      · exact hcalls.1 _ (List.mem_of_getElem? (i := 0) rfl)) (hsets _ (List.mem_of_getElem? (i := 8) rfl)) (hw _ (List.mem_of_getElem? (i := 7) rfl)) (hw _ (List.mem_of_getElem? (i := 6) rfl))
  have hR := own_rem i1 i0 (own_all (fun b => ¬ (b < (1 : Int32))) (by decide +kernel) i0) (own_all (fun b => ¬ ((256 : Int32) < b)) (by decide +kernel) i0)
  by_cases hbc : own_bc ((i0 &&& (255 : Int32)) + (1 : Int32)) = (1 : Int32)
  · obtain ⟨n, o, h1, h2, h3, _, L, rfl, ⟨rfl, N⟩, hq⟩ := rm0A l s _ hw tables_1 i0 i1 aU sC s.heap s.heap.size (Nat.le_refl _) sI sU (own_all (fun b => own_bc b = (1 : Int32) → b ≠ (0 : Int32)) (by decide +kernel) i0 hbc) sS nC (own_all (fun b => own_bc b = (1 : Int32) → ¬ (b < (1 : Int32))) (by decide +kernel) i0 hbc) (own_all (fun b => own_bc b = (1 : Int32) → ¬ ((256 : Int32) < b)) (by decide +kernel) i0 hbc) hbc (own_all (fun b => own_bc b = (1 : Int32) → ¬ ((b - (1 : Int32)) < (0 : Int32))) (by decide +kernel) i0 hbc) (fun q => by rw [Int32.lt_iff_toInt_lt] at q; exact absurd q (Int.not_lt.mpr hR.1)) (by rw [Int32.lt_iff_toInt_lt]; exact hR.2.1) (own_byte _ hR.1 (Int.lt_of_lt_of_le hR.2.1 hR.2.2)) p e ha hc hk s m _ below hf ((Spec.applies_iff_loose hf).mp happ).1 ⟨rfl, State.Warmed39.refl s, rfl, hCH0⟩ trivial
    refine ⟨n, _, h1, h2, h3, hpost _ _ _ _ _ _ ⟨Cond.after_iff.mpr rfl, Cond.after_iff.mpr (eq_i res_at (Term.int_eval (1)) rfl), trivial⟩ ⟨hq.1, hq.2.1, hq.2.2.1, (hq.2.2.2.sift fun y hy => Or.inr (N y hy)).mono (by decide) (by decide)⟩⟩
  obtain ⟨n, o, h1, h2, h3, _, L, rfl, ⟨rfl, N⟩, hq⟩ := rm0B l s _ hw tables_1 i0 i1 aU sC s.heap s.heap.size (Nat.le_refl _) sI sU (own_all (fun b => ¬ (own_bc b = (1 : Int32)) → b ≠ (0 : Int32)) (by decide +kernel) i0 hbc) sS nC (own_all (fun b => ¬ (own_bc b = (1 : Int32)) → ¬ (b < (1 : Int32))) (by decide +kernel) i0 hbc) (own_all (fun b => ¬ (own_bc b = (1 : Int32)) → ¬ ((256 : Int32) < b)) (by decide +kernel) i0 hbc) hbc (fun q => by rw [Int32.lt_iff_toInt_lt] at q; exact absurd q (Int.not_lt.mpr hR.1)) (by rw [Int32.lt_iff_toInt_lt]; exact hR.2.1) (own_byte _ hR.1 (Int.lt_of_lt_of_le hR.2.1 hR.2.2)) p e ha hc hk s m _ below hf ((Spec.applies_iff_loose hf).mp happ).1 ⟨rfl, State.Warmed39.refl s, rfl, hCH0⟩ trivial
  refine ⟨n, _, h1, h2, h3, hpost _ _ _ _ _ _ ⟨Cond.after_iff.mpr rfl, Cond.after_iff.mpr (eq_i res_at (Term.int_eval (1)) rfl), trivial⟩ ⟨hq.1, hq.2.1, hq.2.2.1, (hq.2.2.2.sift fun y hy => Or.inr (N y hy)).mono (by decide) (by decide)⟩⟩
theorem main_1_1 : Claimed_1_1 := comes_1 fun _ _ _ _ _ _ h hF => ⟨h.1, hF⟩
theorem main_1_2 : Claimed_1_2 := comes_1 fun _ _ _ _ _ _ h hF => ⟨h.2.1, hF⟩
end Jvm.Pilot.@@N@@
namespace Jvm.Pilot.@@N@@
open Jvm Jvm.ClassFile Sem Op Lib Jvm.Free Jvm.Stand Jvm.Pilot.@@N@@.Jvm.D
/-! MADE BY PROGRAM (witnessworld.py) out of the Statement's table words and the real class files: 30 classes; the members and pool entries that the words name. The judged class is class 1, her method 1. -/
namespace start1
open Jvm.ClassFile
def u (s : String) : CpInfo := .utf8 (stringToUtf16 s)
/-- a pool by its gaps: so many unusable entries, then the entry; so many at the end -/
def gap : Nat → List CpInfo → List CpInfo
  | 0, r => r
  | n + 1, r => .unusable :: gap n r
def poolList (es : List (Nat × CpInfo)) (last : Nat) : List CpInfo := es.foldr (fun e r => gap e.1 (e.2 :: r)) (gap last [])
def pool (es : List (Nat × CpInfo)) (last : Nat) : Array CpInfo := ⟨poolList es last⟩
def fileOf (pool : Array CpInfo) (this : Nat) (attrs : Array Attribute := #[]) (ms : Array MethodInfo := #[]) (fl : Nat := 33) (sup : Nat := 0) (ifs : Array Nat := #[]) (fds : Array FieldInfo := #[]) : ClassFile where
  minorVersion := 0
  majorVersion := 65
  constantPool := pool
  accessFlags := fl
  thisClass := this
  superClass := sup
  interfaces := ifs
  fields := fds
  methods := ms
  attributes := attrs
def plain (name : String) (sup : Option ClassId) : Class where
  name := name
  kind := .ordinary
  loader := none
  accessFlags := 33
  super := sup
  interfaces := #[]
  cf := none
  fields := #[]
  methods := #[]
  instanceTypes := #[]
  staticTypes := #[]
  resolved := #[]
  callSites := []
  init := .initialized
  statics := none
  mirror := none

def pool0 : Array CpInfo := pool [(5, u "<init>"), (0, u "()V"), (1, .class_ 10), (1, u "java/lang/Object"), (85, u "clone"), (0, u "()Ljava/lang/Object;")] 26

def k0c0 : Code := { maxStack := 0, maxLocals := 1, code := object_method_1_code, exceptionTable := #[], attributes := #[] }
def k0m0 : Method := { name := "<init>", desc := "()V", sig := { parameters := [], returnType := none }, accessFlags := 1, code := some k0c0 }
def k0m1 : Method := { name := "clone", desc := "()Ljava/lang/Object;", sig := { parameters := [], returnType := some (.object "java/lang/Object") }, accessFlags := 260, code := none }
/-- java/lang/Object -/
def k0 : Class := { plain "java/lang/Object" none with
  accessFlags := 33
  interfaces := #[]
  cf := some (fileOf pool0 8 #[] #[{ accessFlags := 1, nameIndex := 5, descriptorIndex := 6, attributes := #[] }, { accessFlags := 260, nameIndex := 96, descriptorIndex := 97, attributes := #[] }] 33 0 #[] #[])
  fields := #[]
  methods := #[k0m0, k0m1]
  instanceTypes := #[]
  staticTypes := #[]
  resolved := Array.replicate 124 none
  statics := none }

def pool1 : Array CpInfo := pool [(2, .class_ 4), (1, u "java/lang/Object"), (0, u "<init>"), (0, u "()V"), (0, .integer 2147483647), (0, .class_ 9), (0, u "com/example/fireweed/fireweed/layout/Java31ByteSalt"), (0, .string 11), (0, u ""), (0, .methodref 8 13), (0, .nameAndType 5 14), (0, u "(ILjava/lang/String;)V"), (0, .methodref 8 16), (0, .nameAndType 17 18), (0, u "salt"), (0, u "(I)[B"), (0, .class_ 20), (0, u "com/example/fireweed/fireweed/layout/Java31ByteSaltSaltPinLaw"), (2, u "law"), (0, u "(II)Z")] 5

def k1m0 : Method := { name := "<init>", desc := "()V", sig := { parameters := [], returnType := none }, accessFlags := 1, code := none }
def k1c1 : Code := { maxStack := 4, maxLocals := 7, code := code, exceptionTable := #[], attributes := #[] }
def k1m1 : Method := { name := "law", desc := "(II)Z", sig := { parameters := [.int, .int], returnType := some .boolean }, accessFlags := 9, code := some k1c1 }
/-- com/example/fireweed/fireweed/layout/Java31ByteSaltSaltPinLaw -/
def k1 : Class := { plain "com/example/fireweed/fireweed/layout/Java31ByteSaltSaltPinLaw" (some 0) with
  accessFlags := 49
  interfaces := #[]
  cf := some (fileOf pool1 19 #[] #[{ accessFlags := 1, nameIndex := 5, descriptorIndex := 6, attributes := #[] }, { accessFlags := 9, nameIndex := 23, descriptorIndex := 24, attributes := #[] }] 49 2 #[] #[])
  fields := #[]
  methods := #[k1m0, k1m1]
  instanceTypes := #[]
  staticTypes := #[]
  resolved := Array.replicate 30 none
  statics := none }

def pool2 : Array CpInfo := pool [(1, .methodref 2 3), (0, .class_ 4), (0, .nameAndType 5 6), (0, u "java/lang/Object"), (0, u "<init>"), (0, u "()V"), (0, .string 8), (0, u "suffix"), (0, .methodref 10 11), (0, .class_ 12), (0, .nameAndType 13 14), (0, u "java/util/Objects"), (0, u "requireNonNull"), (0, u "(Ljava/lang/Object;Ljava/lang/String;)Ljava/lang/Object;"), (0, .class_ 16), (0, u "java/lang/String"), (0, .fieldref 18 19), (0, .class_ 20), (0, .nameAndType 8 21), (0, u "com/example/fireweed/fireweed/layout/Salt"), (0, u "Ljava/lang/String;"), (0, .fieldref 23 24), (0, .class_ 25), (0, .nameAndType 26 27), (0, u "java/nio/charset/StandardCharsets"), (0, u "UTF_8"), (0, u "Ljava/nio/charset/Charset;"), (0, .methodref 15 29), (0, .nameAndType 30 31), (0, u "getBytes"), (0, u "(Ljava/nio/charset/Charset;)[B"), (0, .fieldref 18 33), (0, .nameAndType 34 35), (0, u "suffixBytes"), (0, u "[B"), (63, u "MD5"), (0, u "Ljava/lang/ThreadLocal;"), (33, u "(Ljava/lang/String;)V")] 44

def k2c0 : Code := { maxStack := 3, maxLocals := 2, code := prog_11_method_1_code, exceptionTable := #[], attributes := #[] }
def k2m0 : Method := { name := "<init>", desc := "(Ljava/lang/String;)V", sig := { parameters := [(.object "java/lang/String")], returnType := none }, accessFlags := 0, code := some k2c0 }
/-- com/example/fireweed/fireweed/layout/Salt -/
def k2 : Class := { plain "com/example/fireweed/fireweed/layout/Salt" (some 0) with
  accessFlags := 1057
  interfaces := #[]
  cf := some (fileOf pool2 18 #[] #[{ accessFlags := 0, nameIndex := 5, descriptorIndex := 134, attributes := #[] }] 1057 2 #[] #[{ accessFlags := 26, nameIndex := 99, descriptorIndex := 100, attributes := #[] }, { accessFlags := 18, nameIndex := 8, descriptorIndex := 21, attributes := #[] }, { accessFlags := 18, nameIndex := 34, descriptorIndex := 35, attributes := #[] }])
  fields := #[{ name := "MD5", type := (.object "java/lang/ThreadLocal"), accessFlags := 26, slot := 0, constantValue := 0 }, { name := "suffix", type := (.object "java/lang/String"), accessFlags := 18, slot := 0, constantValue := 0 }, { name := "suffixBytes", type := (.array .byte), accessFlags := 18, slot := 1, constantValue := 0 }]
  methods := #[k2m0]
  instanceTypes := #[(.object "java/lang/String"), (.array .byte)]
  staticTypes := #[(.object "java/lang/ThreadLocal")]
  resolved := Array.replicate 179 none
  statics := none }

def pool3 : Array CpInfo := pool [(1, .methodref 2 3), (0, .class_ 4), (0, .nameAndType 5 6), (0, u "com/example/fireweed/fireweed/layout/Salt"), (0, u "<init>"), (0, u "(Ljava/lang/String;)V"), (1, .class_ 10), (1, u "com/example/fireweed/fireweed/layout/BucketSalt")] 56

def k3c0 : Code := { maxStack := 2, maxLocals := 2, code := prog_5_method_1_code, exceptionTable := #[], attributes := #[] }
def k3m0 : Method := { name := "<init>", desc := "(Ljava/lang/String;)V", sig := { parameters := [(.object "java/lang/String")], returnType := none }, accessFlags := 0, code := some k3c0 }
/-- com/example/fireweed/fireweed/layout/BucketSalt -/
def k3 : Class := { plain "com/example/fireweed/fireweed/layout/BucketSalt" (some 2) with
  accessFlags := 1057
  interfaces := #[]
  cf := some (fileOf pool3 8 #[] #[{ accessFlags := 0, nameIndex := 5, descriptorIndex := 6, attributes := #[] }] 1057 2 #[] #[])
  fields := #[]
  methods := #[k3m0]
  instanceTypes := #[(.object "java/lang/String"), (.array .byte)]
  staticTypes := #[]
  resolved := Array.replicate 67 none
  statics := none }

def pool4 : Array CpInfo := pool [(1, .class_ 2), (0, u "com/example/fireweed/fireweed/layout/Java31ByteSalt"), (0, .methodref 4 5), (0, .class_ 6), (0, .nameAndType 7 8), (0, u "com/example/fireweed/fireweed/layout/BucketSalt"), (0, u "<init>"), (0, u "(Ljava/lang/String;)V"), (7, .class_ 18), (1, u "java/lang/Integer"), (9, .fieldref 1 29), (0, .nameAndType 30 31), (0, u "buckets"), (0, u "I"), (0, .methodref 16 33), (0, .nameAndType 34 35), (0, u "bitCount"), (0, u "(I)I"), (0, .fieldref 1 37), (0, .nameAndType 38 31), (0, u "mask"), (0, .integer 2147483648), (0, .methodref 1 41), (0, .nameAndType 42 43), (0, u "saltOf"), (0, u "(I)B"), (0, .methodref 45 46), (0, .class_ 47), (0, .nameAndType 48 49), (0, u "java/lang/Byte"), (0, u "toUnsignedInt"), (0, u "(B)I"), (0, .fieldref 1 51), (0, .nameAndType 52 31), (0, u "overflow"), (4, .methodref 58 59), (0, .class_ 60), (0, .nameAndType 61 62), (0, u "java/util/Objects"), (0, u "checkIndex"), (0, u "(II)I"), (16, .class_ 81), (1, u "java/lang/Math"), (14, .methodref 79 97), (0, .nameAndType 98 35), (0, u "abs"), (0, u "KIND"), (0, u "Ljava/lang/String;"), (3, u "MAX_BUCKETS"), (1, u "MULTIPLIER"), (1, u "STEP"), (1, u "POWER_2"), (1, u "POWER_3"), (1, u "POWER_4"), (0, u "POWER_5"), (0, u "POWER_6"), (0, u "POWER_7"), (0, u "POWER_8"), (0, u "(ILjava/lang/String;)V"), (9, u "salt"), (0, u "(I)[B")] 14

def k4c0 : Code := { maxStack := 7, maxLocals := 3, code := prog_7_method_1_code, exceptionTable := #[], attributes := #[] }
def k4m0 : Method := { name := "<init>", desc := "(ILjava/lang/String;)V", sig := { parameters := [.int, (.object "java/lang/String")], returnType := none }, accessFlags := 1, code := some k4c0 }
def k4c1 : Code := { maxStack := 5, maxLocals := 2, code := prog_7_method_6_code, exceptionTable := #[], attributes := #[] }
def k4m1 : Method := { name := "salt", desc := "(I)[B", sig := { parameters := [.int], returnType := some (.array .byte) }, accessFlags := 1, code := some k4c1 }
def k4c2 : Code := { maxStack := 2, maxLocals := 3, code := prog_7_method_13_code, exceptionTable := #[], attributes := #[] }
def k4m2 : Method := { name := "saltOf", desc := "(I)B", sig := { parameters := [.int], returnType := some .byte }, accessFlags := 2, code := some k4c2 }
/-- com/example/fireweed/fireweed/layout/Java31ByteSalt -/
def k4 : Class := { plain "com/example/fireweed/fireweed/layout/Java31ByteSalt" (some 3) with
  accessFlags := 49
  interfaces := #[]
  cf := some (fileOf pool4 1 #[] #[{ accessFlags := 1, nameIndex := 7, descriptorIndex := 119, attributes := #[] }, { accessFlags := 1, nameIndex := 129, descriptorIndex := 130, attributes := #[] }, { accessFlags := 2, nameIndex := 42, descriptorIndex := 43, attributes := #[] }] 49 4 #[] #[{ accessFlags := 25, nameIndex := 99, descriptorIndex := 100, attributes := #[] }, { accessFlags := 25, nameIndex := 104, descriptorIndex := 31, attributes := #[] }, { accessFlags := 26, nameIndex := 106, descriptorIndex := 31, attributes := #[] }, { accessFlags := 26, nameIndex := 108, descriptorIndex := 31, attributes := #[] }, { accessFlags := 26, nameIndex := 110, descriptorIndex := 31, attributes := #[] }, { accessFlags := 26, nameIndex := 112, descriptorIndex := 31, attributes := #[] }, { accessFlags := 26, nameIndex := 114, descriptorIndex := 31, attributes := #[] }, { accessFlags := 26, nameIndex := 115, descriptorIndex := 31, attributes := #[] }, { accessFlags := 26, nameIndex := 116, descriptorIndex := 31, attributes := #[] }, { accessFlags := 26, nameIndex := 117, descriptorIndex := 31, attributes := #[] }, { accessFlags := 26, nameIndex := 118, descriptorIndex := 31, attributes := #[] }, { accessFlags := 18, nameIndex := 30, descriptorIndex := 31, attributes := #[] }, { accessFlags := 18, nameIndex := 38, descriptorIndex := 31, attributes := #[] }, { accessFlags := 18, nameIndex := 52, descriptorIndex := 31, attributes := #[] }])
  fields := #[{ name := "KIND", type := (.object "java/lang/String"), accessFlags := 25, slot := 0, constantValue := 0 }, { name := "MAX_BUCKETS", type := .int, accessFlags := 25, slot := 1, constantValue := 0 }, { name := "MULTIPLIER", type := .int, accessFlags := 26, slot := 2, constantValue := 0 }, { name := "STEP", type := .int, accessFlags := 26, slot := 3, constantValue := 0 }, { name := "POWER_2", type := .int, accessFlags := 26, slot := 4, constantValue := 0 }, { name := "POWER_3", type := .int, accessFlags := 26, slot := 5, constantValue := 0 }, { name := "POWER_4", type := .int, accessFlags := 26, slot := 6, constantValue := 0 }, { name := "POWER_5", type := .int, accessFlags := 26, slot := 7, constantValue := 0 }, { name := "POWER_6", type := .int, accessFlags := 26, slot := 8, constantValue := 0 }, { name := "POWER_7", type := .int, accessFlags := 26, slot := 9, constantValue := 0 }, { name := "POWER_8", type := .int, accessFlags := 26, slot := 10, constantValue := 0 }, { name := "buckets", type := .int, accessFlags := 18, slot := 2, constantValue := 0 }, { name := "mask", type := .int, accessFlags := 18, slot := 3, constantValue := 0 }, { name := "overflow", type := .int, accessFlags := 18, slot := 4, constantValue := 0 }]
  methods := #[k4m0, k4m1, k4m2]
  instanceTypes := #[(.object "java/lang/String"), (.array .byte), .int, .int, .int]
  staticTypes := #[(.object "java/lang/String"), .int, .int, .int, .int, .int, .int, .int, .int, .int, .int]
  resolved := Array.replicate 145 none
  statics := none }

def pool5 : Array CpInfo := pool [(1, .class_ 2), (0, u "java/io/Serializable"), (0, .class_ 4), (0, u "java/lang/Object")] 2

/-- java/io/Serializable -/
def k5 : Class := { plain "java/io/Serializable" (some 0) with
  accessFlags := 1537
  interfaces := #[]
  cf := some (fileOf pool5 1 #[] #[] 1537 3 #[] #[])
  fields := #[]
  methods := #[]
  instanceTypes := #[]
  staticTypes := #[]
  resolved := Array.replicate 7 none
  statics := none }

def pool6 : Array CpInfo := pool [(1, .class_ 2), (0, u "java/lang/Comparable"), (0, .class_ 4), (0, u "java/lang/Object")] 7

/-- java/lang/Comparable -/
def k6 : Class := { plain "java/lang/Comparable" (some 0) with
  accessFlags := 1537
  interfaces := #[]
  cf := some (fileOf pool6 1 #[] #[] 1537 3 #[] #[])
  fields := #[]
  methods := #[]
  instanceTypes := #[]
  staticTypes := #[]
  resolved := Array.replicate 12 none
  statics := none }

def pool7 : Array CpInfo := pool [(2, .class_ 4), (1, u "java/lang/CharSequence"), (42, .class_ 48), (0, u "java/lang/CharSequence$1CodePointIterator"), (10, .class_ 60), (0, u "java/lang/CharSequence$1CharIterator"), (5, .class_ 67), (0, u "java/lang/Object")] 63

/-- java/lang/CharSequence -/
def k7 : Class := { plain "java/lang/CharSequence" (some 0) with
  accessFlags := 1537
  interfaces := #[]
  cf := some (fileOf pool7 2 #[.nestMembers #[47, 59]] #[] 1537 66 #[] #[])
  fields := #[]
  methods := #[]
  instanceTypes := #[]
  staticTypes := #[]
  resolved := Array.replicate 131 none
  statics := none }

def pool8 : Array CpInfo := pool [(1, .class_ 2), (0, u "java/lang/constant/Constable"), (0, .class_ 4), (0, u "java/lang/Object")] 6

/-- java/lang/constant/Constable -/
def k8 : Class := { plain "java/lang/constant/Constable" (some 0) with
  accessFlags := 1537
  interfaces := #[]
  cf := some (fileOf pool8 1 #[] #[] 1537 3 #[] #[])
  fields := #[]
  methods := #[]
  instanceTypes := #[]
  staticTypes := #[]
  resolved := Array.replicate 11 none
  statics := none }

def pool9 : Array CpInfo := pool [(1, .class_ 2), (0, u "java/lang/constant/ConstantDesc"), (0, .class_ 4), (0, u "java/lang/Object")] 32

/-- java/lang/constant/ConstantDesc -/
def k9 : Class := { plain "java/lang/constant/ConstantDesc" (some 0) with
  accessFlags := 1537
  interfaces := #[]
  cf := some (fileOf pool9 1 #[] #[] 1537 3 #[] #[])
  fields := #[]
  methods := #[]
  instanceTypes := #[]
  staticTypes := #[]
  resolved := Array.replicate 37 none
  statics := none }

def pool10 : Array CpInfo := pool [(2, .class_ 4), (1, u "java/lang/Object"), (0, u "<init>"), (0, u "()V"), (2, .fieldref 10 11), (0, .class_ 12), (0, .nameAndType 13 14), (0, u "java/lang/String"), (0, u "value"), (0, u "[B"), (0, .fieldref 10 16), (0, .nameAndType 17 18), (0, u "coder"), (0, u "B"), (2, u "hash"), (0, u "I"), (2, u "hashIsZero"), (0, u "Z"), (11, .fieldref 10 39), (0, .nameAndType 40 26), (0, u "COMPACT_STRINGS"), (45, .fieldref 87 88), (0, .class_ 89), (0, .nameAndType 90 91), (0, u "sun/nio/cs/UTF_8"), (0, u "INSTANCE"), (0, u "Lsun/nio/cs/UTF_8;"), (1, .class_ 95), (1, u "java/lang/StringCoding"), (32, .methodref 93 129), (0, .nameAndType 130 131), (0, u "hasNegatives"), (0, u "([BII)Z"), (120, .methodref 10 253), (0, .nameAndType 254 255), (0, u "encodeUTF8"), (0, u "(B[BZ)[B"), (23, .methodref 280 281), (0, .class_ 14), (0, .nameAndType 282 283), (0, u "clone"), (0, u "()Ljava/lang/Object;"), (33, u "encode"), (17, .methodref 10 336), (0, .nameAndType 17 337), (0, u "()B"), (194, u "getBytes"), (2, .methodref 10 536), (0, .nameAndType 317 537), (0, u "(Ljava/nio/charset/Charset;B[B)[B"), (37, .class_ 576), (0, u "java/lang/CharSequence"), (22, u "CASE_INSENSITIVE_ORDER"), (0, u "Ljava/util/Comparator;"), (500, u "serialPersistentFields"), (0, u "[Ljava/io/ObjectStreamField;"), (0, .class_ 1104), (0, u "java/lang/String$CaseInsensitiveComparator"), (1, .class_ 1107), (0, u "java/io/Serializable"), (0, .class_ 1109), (0, u "java/lang/Comparable"), (0, .class_ 1111), (0, u "java/lang/constant/Constable"), (0, .class_ 1113), (0, u "java/lang/constant/ConstantDesc"), (2, u "serialVersionUID"), (0, u "J"), (3, u "REPL"), (0, u "C"), (2, u "LATIN1"), (1, u "UTF16"), (117, u "(Ljava/nio/charset/Charset;)[B")] 205

def k10m0 : Method := { name := "<init>", desc := "()V", sig := { parameters := [], returnType := none }, accessFlags := 1, code := none }
def k10c1 : Code := { maxStack := 4, maxLocals := 3, code := jdk_42_method_18_code, exceptionTable := #[], attributes := #[] }
def k10m1 : Method := { name := "encode", desc := "(Ljava/nio/charset/Charset;B[B)[B", sig := { parameters := [(.object "java/nio/charset/Charset"), .byte, (.array .byte)], returnType := some (.array .byte) }, accessFlags := 10, code := some k10c1 }
def k10c2 : Code := { maxStack := 5, maxLocals := 9, code := jdk_42_method_46_code, exceptionTable := #[], attributes := #[] }
def k10m2 : Method := { name := "encodeUTF8", desc := "(B[BZ)[B", sig := { parameters := [.byte, (.array .byte), .boolean], returnType := some (.array .byte) }, accessFlags := 10, code := some k10c2 }
def k10c3 : Code := { maxStack := 3, maxLocals := 2, code := jdk_42_method_64_code, exceptionTable := #[], attributes := #[] }
def k10m3 : Method := { name := "getBytes", desc := "(Ljava/nio/charset/Charset;)[B", sig := { parameters := [(.object "java/nio/charset/Charset")], returnType := some (.array .byte) }, accessFlags := 1, code := some k10c3 }
def k10c4 : Code := { maxStack := 1, maxLocals := 1, code := jdk_42_method_152_code, exceptionTable := #[], attributes := #[] }
def k10m4 : Method := { name := "coder", desc := "()B", sig := { parameters := [], returnType := some .byte }, accessFlags := 0, code := some k10c4 }
/-- java/lang/String -/
def k10 : Class := { plain "java/lang/String" (some 0) with
  accessFlags := 49
  interfaces := #[5, 6, 7, 8, 9]
  cf := some (fileOf pool10 10 #[.nestMembers #[1103]] #[{ accessFlags := 1, nameIndex := 5, descriptorIndex := 6, attributes := #[] }, { accessFlags := 10, nameIndex := 317, descriptorIndex := 537, attributes := #[] }, { accessFlags := 10, nameIndex := 254, descriptorIndex := 255, attributes := #[] }, { accessFlags := 1, nameIndex := 532, descriptorIndex := 1245, attributes := #[] }, { accessFlags := 0, nameIndex := 17, descriptorIndex := 337, attributes := #[] }] 49 2 #[1106, 1108, 575, 1110, 1112] #[{ accessFlags := 18, nameIndex := 13, descriptorIndex := 14, attributes := #[] }, { accessFlags := 18, nameIndex := 17, descriptorIndex := 18, attributes := #[] }, { accessFlags := 2, nameIndex := 21, descriptorIndex := 22, attributes := #[] }, { accessFlags := 2, nameIndex := 25, descriptorIndex := 26, attributes := #[] }, { accessFlags := 26, nameIndex := 1116, descriptorIndex := 1117, attributes := #[] }, { accessFlags := 24, nameIndex := 40, descriptorIndex := 26, attributes := #[] }, { accessFlags := 26, nameIndex := 1101, descriptorIndex := 1102, attributes := #[] }, { accessFlags := 26, nameIndex := 1121, descriptorIndex := 1122, attributes := #[] }, { accessFlags := 25, nameIndex := 599, descriptorIndex := 600, attributes := #[] }, { accessFlags := 24, nameIndex := 1125, descriptorIndex := 18, attributes := #[] }, { accessFlags := 24, nameIndex := 1127, descriptorIndex := 18, attributes := #[] }])
  fields := #[{ name := "value", type := (.array .byte), accessFlags := 18, slot := 0, constantValue := 0 }, { name := "coder", type := .byte, accessFlags := 18, slot := 1, constantValue := 0 }, { name := "hash", type := .int, accessFlags := 2, slot := 2, constantValue := 0 }, { name := "hashIsZero", type := .boolean, accessFlags := 2, slot := 3, constantValue := 0 }, { name := "serialVersionUID", type := .long, accessFlags := 26, slot := 0, constantValue := 0 }, { name := "COMPACT_STRINGS", type := .boolean, accessFlags := 24, slot := 1, constantValue := 0 }, { name := "serialPersistentFields", type := (.array (.object "java/io/ObjectStreamField")), accessFlags := 26, slot := 2, constantValue := 0 }, { name := "REPL", type := .char, accessFlags := 26, slot := 3, constantValue := 0 }, { name := "CASE_INSENSITIVE_ORDER", type := (.object "java/util/Comparator"), accessFlags := 25, slot := 4, constantValue := 0 }, { name := "LATIN1", type := .byte, accessFlags := 24, slot := 5, constantValue := 0 }, { name := "UTF16", type := .byte, accessFlags := 24, slot := 6, constantValue := 0 }]
  methods := #[k10m0, k10m1, k10m2, k10m3, k10m4]
  instanceTypes := #[(.array .byte), .byte, .int, .boolean]
  staticTypes := #[.long, .boolean, (.array (.object "java/io/ObjectStreamField")), .char, (.object "java/util/Comparator"), .byte, .byte]
  resolved := Array.replicate 1451 none
  statics := some 0 }

def pool11 : Array CpInfo := pool [(2, .class_ 4), (1, u "java/lang/Object"), (0, u "<init>"), (0, u "()V"), (35, .class_ 44), (1, u "java/util/Objects"), (0, u "requireNonNull"), (48, u "(Ljava/lang/Object;Ljava/lang/String;)Ljava/lang/Object;"), (10, .methodref 106 107), (0, .class_ 108), (0, .nameAndType 109 110), (0, u "jdk/internal/util/Preconditions"), (0, u "checkIndex"), (0, u "(IILjava/util/function/BiFunction;)I"), (60, u "(II)I")] 12

def k11m0 : Method := { name := "<init>", desc := "()V", sig := { parameters := [], returnType := none }, accessFlags := 2, code := none }
def k11c1 : Code := { maxStack := 3, maxLocals := 2, code := jdk_31_method_11_code, exceptionTable := #[], attributes := #[] }
def k11m1 : Method := { name := "requireNonNull", desc := "(Ljava/lang/Object;Ljava/lang/String;)Ljava/lang/Object;", sig := { parameters := [(.object "java/lang/Object"), (.object "java/lang/String")], returnType := some (.object "java/lang/Object") }, accessFlags := 9, code := some k11c1 }
def k11c2 : Code := { maxStack := 3, maxLocals := 2, code := jdk_31_method_17_code, exceptionTable := #[], attributes := #[] }
def k11m2 : Method := { name := "checkIndex", desc := "(II)I", sig := { parameters := [.int, .int], returnType := some .int }, accessFlags := 9, code := some k11c2 }
/-- java/util/Objects -/
def k11 : Class := { plain "java/util/Objects" (some 0) with
  accessFlags := 49
  interfaces := #[]
  cf := some (fileOf pool11 42 #[] #[{ accessFlags := 2, nameIndex := 5, descriptorIndex := 6, attributes := #[] }, { accessFlags := 9, nameIndex := 45, descriptorIndex := 94, attributes := #[] }, { accessFlags := 9, nameIndex := 109, descriptorIndex := 171, attributes := #[] }] 49 2 #[] #[])
  fields := #[]
  methods := #[k11m0, k11m1, k11m2]
  instanceTypes := #[]
  staticTypes := #[]
  resolved := Array.replicate 184 none
  statics := none }

def pool12 : Array CpInfo := pool [(2, .class_ 4), (1, u "java/lang/Object"), (0, u "<init>"), (0, u "()V"), (14, .class_ 23), (1, u "java/nio/charset/StandardCharsets"), (0, u "US_ASCII"), (0, u "Ljava/nio/charset/Charset;"), (7, u "ISO_8859_1"), (7, u "UTF_8"), (5, u "UTF_16BE"), (5, u "UTF_16LE"), (5, u "UTF_16")] 8

def k12m0 : Method := { name := "<init>", desc := "()V", sig := { parameters := [], returnType := none }, accessFlags := 2, code := none }
/-- java/nio/charset/StandardCharsets -/
def k12 : Class := { plain "java/nio/charset/StandardCharsets" (some 0) with
  accessFlags := 49
  interfaces := #[]
  cf := some (fileOf pool12 21 #[] #[{ accessFlags := 2, nameIndex := 5, descriptorIndex := 6, attributes := #[] }] 49 2 #[] #[{ accessFlags := 25, nameIndex := 24, descriptorIndex := 25, attributes := #[] }, { accessFlags := 25, nameIndex := 33, descriptorIndex := 25, attributes := #[] }, { accessFlags := 25, nameIndex := 41, descriptorIndex := 25, attributes := #[] }, { accessFlags := 25, nameIndex := 47, descriptorIndex := 25, attributes := #[] }, { accessFlags := 25, nameIndex := 53, descriptorIndex := 25, attributes := #[] }, { accessFlags := 25, nameIndex := 59, descriptorIndex := 25, attributes := #[] }])
  fields := #[{ name := "US_ASCII", type := (.object "java/nio/charset/Charset"), accessFlags := 25, slot := 0, constantValue := 0 }, { name := "ISO_8859_1", type := (.object "java/nio/charset/Charset"), accessFlags := 25, slot := 1, constantValue := 0 }, { name := "UTF_8", type := (.object "java/nio/charset/Charset"), accessFlags := 25, slot := 2, constantValue := 0 }, { name := "UTF_16BE", type := (.object "java/nio/charset/Charset"), accessFlags := 25, slot := 3, constantValue := 0 }, { name := "UTF_16LE", type := (.object "java/nio/charset/Charset"), accessFlags := 25, slot := 4, constantValue := 0 }, { name := "UTF_16", type := (.object "java/nio/charset/Charset"), accessFlags := 25, slot := 5, constantValue := 0 }]
  methods := #[k12m0]
  instanceTypes := #[]
  staticTypes := #[(.object "java/nio/charset/Charset"), (.object "java/nio/charset/Charset"), (.object "java/nio/charset/Charset"), (.object "java/nio/charset/Charset"), (.object "java/nio/charset/Charset"), (.object "java/nio/charset/Charset")]
  resolved := Array.replicate 68 none
  statics := some 1 }

def pool13 : Array CpInfo := pool [(18, .class_ 20), (1, u "java/nio/charset/Charset"), (0, u "cache1"), (0, u "[Ljava/lang/Object;"), (2, u "cache2"), (0, .class_ 27), (0, u "java/lang/Object"), (0, .class_ 29), (0, u "java/nio/charset/Charset$1"), (4, .class_ 36), (1, u "java/nio/charset/Charset$ThreadTrackHolder"), (21, .class_ 59), (0, u "java/nio/charset/Charset$2"), (11, .class_ 73), (1, u "java/nio/charset/Charset$ExtendedProviderHolder"), (22, u "standardProvider"), (0, u "Ljava/nio/charset/spi/CharsetProvider;"), (29, u "name"), (7, .class_ 136), (0, u "java/nio/charset/Charset$3"), (5, u "defaultCharset"), (0, u "Ljava/nio/charset/Charset;"), (14, u "zeroAliases"), (0, u "[Ljava/lang/String;"), (29, u "Ljava/lang/String;"), (2, u "aliases"), (2, u "aliasSet"), (0, u "Ljava/util/Set;"), (82, .class_ 280), (0, u "java/lang/Comparable"), (84, .class_ 366), (0, u "java/nio/charset/Charset$ExtendedProviderHolder$1")] 3

/-- java/nio/charset/Charset -/
def k13 : Class := { plain "java/nio/charset/Charset" (some 0) with
  accessFlags := 1057
  interfaces := #[6]
  cf := some (fileOf pool13 18 #[.nestMembers #[71, 365, 34, 135, 58, 28]] #[] 1057 26 #[279] #[{ accessFlags := 26, nameIndex := 96, descriptorIndex := 97, attributes := #[] }, { accessFlags := 26, nameIndex := 158, descriptorIndex := 159, attributes := #[] }, { accessFlags := 74, nameIndex := 21, descriptorIndex := 22, attributes := #[] }, { accessFlags := 74, nameIndex := 25, descriptorIndex := 22, attributes := #[] }, { accessFlags := 10, nameIndex := 142, descriptorIndex := 143, attributes := #[] }, { accessFlags := 18, nameIndex := 127, descriptorIndex := 189, attributes := #[] }, { accessFlags := 18, nameIndex := 192, descriptorIndex := 159, attributes := #[] }, { accessFlags := 2, nameIndex := 195, descriptorIndex := 196, attributes := #[] }])
  fields := #[{ name := "standardProvider", type := (.object "java/nio/charset/spi/CharsetProvider"), accessFlags := 26, slot := 0, constantValue := 0 }, { name := "zeroAliases", type := (.array (.object "java/lang/String")), accessFlags := 26, slot := 1, constantValue := 0 }, { name := "cache1", type := (.array (.object "java/lang/Object")), accessFlags := 74, slot := 2, constantValue := 0 }, { name := "cache2", type := (.array (.object "java/lang/Object")), accessFlags := 74, slot := 3, constantValue := 0 }, { name := "defaultCharset", type := (.object "java/nio/charset/Charset"), accessFlags := 10, slot := 4, constantValue := 0 }, { name := "name", type := (.object "java/lang/String"), accessFlags := 18, slot := 0, constantValue := 0 }, { name := "aliases", type := (.array (.object "java/lang/String")), accessFlags := 18, slot := 1, constantValue := 0 }, { name := "aliasSet", type := (.object "java/util/Set"), accessFlags := 2, slot := 2, constantValue := 0 }]
  methods := #[]
  instanceTypes := #[(.object "java/lang/String"), (.array (.object "java/lang/String")), (.object "java/util/Set")]
  staticTypes := #[(.object "java/nio/charset/spi/CharsetProvider"), (.array (.object "java/lang/String")), (.array (.object "java/lang/Object")), (.array (.object "java/lang/Object")), (.object "java/nio/charset/Charset")]
  resolved := Array.replicate 370 none
  statics := none }

def pool14 : Array CpInfo := pool [(1, .class_ 2), (0, u "sun/nio/cs/HistoricallyNamedCharset"), (0, .class_ 4), (0, u "java/lang/Object")] 4

/-- sun/nio/cs/HistoricallyNamedCharset -/
def k14 : Class := { plain "sun/nio/cs/HistoricallyNamedCharset" (some 0) with
  accessFlags := 1537
  interfaces := #[]
  cf := some (fileOf pool14 1 #[] #[] 1537 3 #[] #[])
  fields := #[]
  methods := #[]
  instanceTypes := #[]
  staticTypes := #[]
  resolved := Array.replicate 9 none
  statics := none }

def pool15 : Array CpInfo := pool [(2, .class_ 4), (1, u "java/nio/charset/Charset"), (130, .class_ 136), (0, u "sun/nio/cs/Unicode"), (0, .class_ 138), (0, u "sun/nio/cs/HistoricallyNamedCharset")] 15

/-- sun/nio/cs/Unicode -/
def k15 : Class := { plain "sun/nio/cs/Unicode" (some 13) with
  accessFlags := 1056
  interfaces := #[14]
  cf := some (fileOf pool15 135 #[] #[] 1056 2 #[137] #[])
  fields := #[]
  methods := #[]
  instanceTypes := #[(.object "java/lang/String"), (.array (.object "java/lang/String")), (.object "java/util/Set")]
  staticTypes := #[]
  resolved := Array.replicate 154 none
  statics := none }

def pool16 : Array CpInfo := pool [(10, .class_ 12), (1, u "sun/nio/cs/Unicode"), (0, u "<init>"), (3, .class_ 18), (0, u "sun/nio/cs/UTF_8$Decoder"), (3, .class_ 23), (0, u "sun/nio/cs/UTF_8$Encoder"), (15, .class_ 40), (0, u "sun/nio/cs/UTF_8"), (2, u "()V"), (2, u "INSTANCE"), (0, u "Lsun/nio/cs/UTF_8;"), (8, u "JLA"), (0, u "Ljdk/internal/access/JavaLangAccess;")] 26

def k16m0 : Method := { name := "<init>", desc := "()V", sig := { parameters := [], returnType := none }, accessFlags := 1, code := none }
/-- sun/nio/cs/UTF_8 -/
def k16 : Class := { plain "sun/nio/cs/UTF_8" (some 15) with
  accessFlags := 49
  interfaces := #[]
  cf := some (fileOf pool16 39 #[.nestMembers #[22, 17]] #[{ accessFlags := 1, nameIndex := 13, descriptorIndex := 43, attributes := #[] }] 49 10 #[] #[{ accessFlags := 25, nameIndex := 46, descriptorIndex := 47, attributes := #[] }, { accessFlags := 26, nameIndex := 56, descriptorIndex := 57, attributes := #[] }])
  fields := #[{ name := "INSTANCE", type := (.object "sun/nio/cs/UTF_8"), accessFlags := 25, slot := 0, constantValue := 0 }, { name := "JLA", type := (.object "jdk/internal/access/JavaLangAccess"), accessFlags := 26, slot := 1, constantValue := 0 }]
  methods := #[k16m0]
  instanceTypes := #[(.object "java/lang/String"), (.array (.object "java/lang/String")), (.object "java/util/Set")]
  staticTypes := #[(.object "sun/nio/cs/UTF_8"), (.object "jdk/internal/access/JavaLangAccess")]
  resolved := Array.replicate 84 none
  statics := some 2 }

def pool17 : Array CpInfo := pool [(2, .class_ 4), (1, u "java/lang/Object"), (0, u "<init>"), (0, u "()V"), (0, .methodref 8 9), (0, .class_ 10), (0, .nameAndType 11 12), (0, u "java/lang/StringCoding"), (0, u "countPositives"), (0, u "([BII)I"), (11, u "hasNegatives"), (0, u "([BII)Z")] 23

def k17m0 : Method := { name := "<init>", desc := "()V", sig := { parameters := [], returnType := none }, accessFlags := 2, code := none }
def k17c1 : Code := { maxStack := 3, maxLocals := 3, code := jdk_123_method_2_code, exceptionTable := #[], attributes := #[] }
def k17m1 : Method := { name := "hasNegatives", desc := "([BII)Z", sig := { parameters := [(.array .byte), .int, .int], returnType := some .boolean }, accessFlags := 9, code := some k17c1 }
def k17c2 : Code := { maxStack := 2, maxLocals := 5, code := jdk_123_method_3_code, exceptionTable := #[], attributes := #[] }
def k17m2 : Method := { name := "countPositives", desc := "([BII)I", sig := { parameters := [(.array .byte), .int, .int], returnType := some .int }, accessFlags := 9, code := some k17c2 }
/-- java/lang/StringCoding -/
def k17 : Class := { plain "java/lang/StringCoding" (some 0) with
  accessFlags := 32
  interfaces := #[]
  cf := some (fileOf pool17 8 #[] #[{ accessFlags := 2, nameIndex := 5, descriptorIndex := 6, attributes := #[] }, { accessFlags := 9, nameIndex := 24, descriptorIndex := 25, attributes := #[] }, { accessFlags := 9, nameIndex := 11, descriptorIndex := 12, attributes := #[] }] 32 2 #[] #[])
  fields := #[]
  methods := #[k17m0, k17m1, k17m2]
  instanceTypes := #[]
  staticTypes := #[]
  resolved := Array.replicate 49 none
  statics := none }

def pool18 : Array CpInfo := pool [(1, .class_ 2), (0, u "java/lang/Cloneable"), (0, .class_ 4), (0, u "java/lang/Object")] 2

/-- java/lang/Cloneable -/
def k18 : Class := { plain "java/lang/Cloneable" (some 0) with
  accessFlags := 1537
  interfaces := #[]
  cf := some (fileOf pool18 1 #[] #[] 1537 3 #[] #[])
  fields := #[]
  methods := #[]
  instanceTypes := #[]
  staticTypes := #[]
  resolved := Array.replicate 7 none
  statics := none }

def pool19 : Array CpInfo := pool [(2, .class_ 4), (1, u "java/lang/Object"), (0, u "<init>"), (0, u "()V"), (1, .class_ 10), (1, u "java/lang/Number"), (2, .class_ 14), (0, u "java/io/Serializable"), (0, u "serialVersionUID"), (0, u "J")] 20

def k19m0 : Method := { name := "<init>", desc := "()V", sig := { parameters := [], returnType := none }, accessFlags := 1, code := none }
/-- java/lang/Number -/
def k19 : Class := { plain "java/lang/Number" (some 0) with
  accessFlags := 1057
  interfaces := #[5]
  cf := some (fileOf pool19 8 #[] #[{ accessFlags := 1, nameIndex := 5, descriptorIndex := 6, attributes := #[] }] 1057 2 #[13] #[{ accessFlags := 26, nameIndex := 15, descriptorIndex := 16, attributes := #[] }])
  fields := #[{ name := "serialVersionUID", type := .long, accessFlags := 26, slot := 0, constantValue := 0 }]
  methods := #[k19m0]
  instanceTypes := #[]
  staticTypes := #[.long]
  resolved := Array.replicate 37 none
  statics := none }

def pool20 : Array CpInfo := pool [(1, .class_ 2), (0, u "java/lang/Integer"), (16, u "digits"), (0, u "[C"), (33, u "(I)I"), (30, u "DigitOnes"), (0, u "[B"), (2, u "DigitTens"), (99, .class_ 190), (0, u "java/lang/Integer$IntegerCache"), (3, u "I"), (8, .class_ 204), (0, u "java/lang/Number"), (2, u "value"), (57, .integer 1431655765), (0, .integer 858993459), (0, .integer 252645135), (34, u "TYPE"), (0, u "Ljava/lang/Class;"), (0, .class_ 305), (0, u "java/lang/Comparable"), (0, .class_ 307), (0, u "java/lang/constant/Constable"), (0, .class_ 309), (0, u "java/lang/constant/ConstantDesc"), (0, u "MIN_VALUE"), (1, u "MAX_VALUE"), (3, u "SIZE"), (1, u "BYTES"), (1, u "serialVersionUID"), (0, u "J"), (85, u "bitCount")] 45

def k20c0 : Code := { maxStack := 3, maxLocals := 1, code := jdk_33_method_49_code, exceptionTable := #[], attributes := #[] }
def k20m0 : Method := { name := "bitCount", desc := "(I)I", sig := { parameters := [.int], returnType := some .int }, accessFlags := 9, code := some k20c0 }
/-- java/lang/Integer -/
def k20 : Class := { plain "java/lang/Integer" (some 19) with
  accessFlags := 49
  interfaces := #[6, 8, 9]
  cf := some (fileOf pool20 1 #[.nestMembers #[189]] #[{ accessFlags := 9, nameIndex := 407, descriptorIndex := 54, attributes := #[] }] 49 203 #[304, 306, 308] #[{ accessFlags := 25, nameIndex := 310, descriptorIndex := 194, attributes := #[] }, { accessFlags := 25, nameIndex := 312, descriptorIndex := 194, attributes := #[] }, { accessFlags := 25, nameIndex := 302, descriptorIndex := 303, attributes := #[] }, { accessFlags := 24, nameIndex := 19, descriptorIndex := 20, attributes := #[] }, { accessFlags := 24, nameIndex := 89, descriptorIndex := 86, attributes := #[] }, { accessFlags := 24, nameIndex := 85, descriptorIndex := 86, attributes := #[] }, { accessFlags := 18, nameIndex := 207, descriptorIndex := 194, attributes := #[] }, { accessFlags := 25, nameIndex := 316, descriptorIndex := 194, attributes := #[] }, { accessFlags := 25, nameIndex := 318, descriptorIndex := 194, attributes := #[] }, { accessFlags := 26, nameIndex := 320, descriptorIndex := 321, attributes := #[] }])
  fields := #[{ name := "MIN_VALUE", type := .int, accessFlags := 25, slot := 0, constantValue := 0 }, { name := "MAX_VALUE", type := .int, accessFlags := 25, slot := 1, constantValue := 0 }, { name := "TYPE", type := (.object "java/lang/Class"), accessFlags := 25, slot := 2, constantValue := 0 }, { name := "digits", type := (.array .char), accessFlags := 24, slot := 3, constantValue := 0 }, { name := "DigitTens", type := (.array .byte), accessFlags := 24, slot := 4, constantValue := 0 }, { name := "DigitOnes", type := (.array .byte), accessFlags := 24, slot := 5, constantValue := 0 }, { name := "value", type := .int, accessFlags := 18, slot := 0, constantValue := 0 }, { name := "SIZE", type := .int, accessFlags := 25, slot := 6, constantValue := 0 }, { name := "BYTES", type := .int, accessFlags := 25, slot := 7, constantValue := 0 }, { name := "serialVersionUID", type := .long, accessFlags := 26, slot := 8, constantValue := 0 }]
  methods := #[k20m0]
  instanceTypes := #[.int]
  staticTypes := #[.int, .int, (.object "java/lang/Class"), (.array .char), (.array .byte), (.array .byte), .int, .int, .long]
  resolved := Array.replicate 453 none
  statics := none }

def pool21 : Array CpInfo := pool [(1, .class_ 2), (0, u "java/lang/Math"), (1, .class_ 6), (1, u "java/lang/Object"), (0, u "<init>"), (0, u "()V"), (89, .class_ 100), (1, u "java/lang/Math$RandomNumberGeneratorHolder"), (23, u "abs"), (34, u "(I)I"), (12, u "negativeZeroFloatBits"), (0, u "J"), (2, u "negativeZeroDoubleBits"), (68, u "$assertionsDisabled"), (0, u "Z"), (91, u "twoToTheDoubleScaleDown"), (0, u "D"), (4, u "twoToTheDoubleScaleUp"), (9, u "E"), (3, u "PI"), (2, u "TAU"), (2, u "DEGREES_TO_RADIANS"), (0, u "RADIANS_TO_DEGREES")] 94

def k21m0 : Method := { name := "<init>", desc := "()V", sig := { parameters := [], returnType := none }, accessFlags := 2, code := none }
def k21c1 : Code := { maxStack := 1, maxLocals := 1, code := jdk_29_method_59_code, exceptionTable := #[], attributes := #[] }
def k21m1 : Method := { name := "abs", desc := "(I)I", sig := { parameters := [.int], returnType := some .int }, accessFlags := 9, code := some k21c1 }
/-- java/lang/Math -/
def k21 : Class := { plain "java/lang/Math" (some 0) with
  accessFlags := 49
  interfaces := #[]
  cf := some (fileOf pool21 1 #[.nestMembers #[98]] #[{ accessFlags := 2, nameIndex := 7, descriptorIndex := 8, attributes := #[] }, { accessFlags := 9, nameIndex := 124, descriptorIndex := 159, attributes := #[] }] 49 4 #[] #[{ accessFlags := 25, nameIndex := 354, descriptorIndex := 339, attributes := #[] }, { accessFlags := 25, nameIndex := 358, descriptorIndex := 339, attributes := #[] }, { accessFlags := 25, nameIndex := 361, descriptorIndex := 339, attributes := #[] }, { accessFlags := 26, nameIndex := 364, descriptorIndex := 339, attributes := #[] }, { accessFlags := 26, nameIndex := 365, descriptorIndex := 339, attributes := #[] }, { accessFlags := 26, nameIndex := 172, descriptorIndex := 173, attributes := #[] }, { accessFlags := 26, nameIndex := 176, descriptorIndex := 173, attributes := #[] }, { accessFlags := 8, nameIndex := 344, descriptorIndex := 339, attributes := #[] }, { accessFlags := 8, nameIndex := 338, descriptorIndex := 339, attributes := #[] }, { accessFlags := 4120, nameIndex := 245, descriptorIndex := 246, attributes := #[] }])
  fields := #[{ name := "E", type := .double, accessFlags := 25, slot := 0, constantValue := 0 }, { name := "PI", type := .double, accessFlags := 25, slot := 1, constantValue := 0 }, { name := "TAU", type := .double, accessFlags := 25, slot := 2, constantValue := 0 }, { name := "DEGREES_TO_RADIANS", type := .double, accessFlags := 26, slot := 3, constantValue := 0 }, { name := "RADIANS_TO_DEGREES", type := .double, accessFlags := 26, slot := 4, constantValue := 0 }, { name := "negativeZeroFloatBits", type := .long, accessFlags := 26, slot := 5, constantValue := 0 }, { name := "negativeZeroDoubleBits", type := .long, accessFlags := 26, slot := 6, constantValue := 0 }, { name := "twoToTheDoubleScaleUp", type := .double, accessFlags := 8, slot := 7, constantValue := 0 }, { name := "twoToTheDoubleScaleDown", type := .double, accessFlags := 8, slot := 8, constantValue := 0 }, { name := "$assertionsDisabled", type := .boolean, accessFlags := 4120, slot := 9, constantValue := 0 }]
  methods := #[k21m0, k21m1]
  instanceTypes := #[]
  staticTypes := #[.double, .double, .double, .double, .double, .long, .long, .double, .double, .boolean]
  resolved := Array.replicate 460 none
  statics := none }

def pool22 : Array CpInfo := pool [(1, .class_ 2), (0, u "java/lang/Byte"), (41, .class_ 46), (1, u "java/lang/Byte$ByteCache"), (51, .class_ 99), (0, u "java/lang/Number"), (2, u "value"), (0, u "B"), (3, u "(B)I"), (10, u "toUnsignedInt"), (16, u "TYPE"), (0, u "Ljava/lang/Class;"), (0, .class_ 138), (0, u "java/lang/Comparable"), (0, .class_ 140), (0, u "java/lang/constant/Constable"), (0, u "MIN_VALUE"), (2, u "MAX_VALUE"), (3, u "SIZE"), (0, u "I"), (1, u "BYTES"), (1, u "serialVersionUID"), (0, u "J")] 58

def k22c0 : Code := { maxStack := 2, maxLocals := 1, code := jdk_2056_method_24_code, exceptionTable := #[], attributes := #[] }
def k22m0 : Method := { name := "toUnsignedInt", desc := "(B)I", sig := { parameters := [.byte], returnType := some .int }, accessFlags := 9, code := some k22c0 }
/-- java/lang/Byte -/
def k22 : Class := { plain "java/lang/Byte" (some 19) with
  accessFlags := 49
  interfaces := #[6, 8]
  cf := some (fileOf pool22 1 #[.nestMembers #[44]] #[{ accessFlags := 9, nameIndex := 118, descriptorIndex := 107, attributes := #[] }] 49 98 #[137, 139] #[{ accessFlags := 25, nameIndex := 141, descriptorIndex := 103, attributes := #[] }, { accessFlags := 25, nameIndex := 144, descriptorIndex := 103, attributes := #[] }, { accessFlags := 25, nameIndex := 135, descriptorIndex := 136, attributes := #[] }, { accessFlags := 18, nameIndex := 102, descriptorIndex := 103, attributes := #[] }, { accessFlags := 25, nameIndex := 148, descriptorIndex := 149, attributes := #[] }, { accessFlags := 25, nameIndex := 151, descriptorIndex := 149, attributes := #[] }, { accessFlags := 26, nameIndex := 153, descriptorIndex := 154, attributes := #[] }])
  fields := #[{ name := "MIN_VALUE", type := .byte, accessFlags := 25, slot := 0, constantValue := 0 }, { name := "MAX_VALUE", type := .byte, accessFlags := 25, slot := 1, constantValue := 0 }, { name := "TYPE", type := (.object "java/lang/Class"), accessFlags := 25, slot := 2, constantValue := 0 }, { name := "value", type := .byte, accessFlags := 18, slot := 0, constantValue := 0 }, { name := "SIZE", type := .int, accessFlags := 25, slot := 3, constantValue := 0 }, { name := "BYTES", type := .int, accessFlags := 25, slot := 4, constantValue := 0 }, { name := "serialVersionUID", type := .long, accessFlags := 26, slot := 5, constantValue := 0 }]
  methods := #[k22m0]
  instanceTypes := #[.byte]
  staticTypes := #[.byte, .byte, (.object "java/lang/Class"), .int, .int, .long]
  resolved := Array.replicate 213 none
  statics := none }

def pool23 : Array CpInfo := pool [(2, .class_ 4), (1, u "java/lang/Object"), (0, u "<init>"), (0, u "()V"), (17, .class_ 26), (1, u "jdk/internal/util/Preconditions"), (6, u "checkIndex"), (21, .class_ 56), (0, u "jdk/internal/util/Preconditions$4"), (57, .class_ 115), (0, u "jdk/internal/util/Preconditions$1"), (7, u "SIOOBE_FORMATTER"), (0, u "Ljava/util/function/BiFunction;"), (0, .class_ 126), (0, u "jdk/internal/util/Preconditions$2"), (3, u "AIOOBE_FORMATTER"), (0, .class_ 132), (0, u "jdk/internal/util/Preconditions$3"), (3, u "IOOBE_FORMATTER"), (41, u "(IILjava/util/function/BiFunction;)I")] 15

def k23m0 : Method := { name := "<init>", desc := "()V", sig := { parameters := [], returnType := none }, accessFlags := 1, code := none }
def k23c1 : Code := { maxStack := 3, maxLocals := 3, code := jdk_41_method_11_code, exceptionTable := #[], attributes := #[] }
def k23m1 : Method := { name := "checkIndex", desc := "(IILjava/util/function/BiFunction;)I", sig := { parameters := [.int, .int, (.object "java/util/function/BiFunction")], returnType := some .int }, accessFlags := 9, code := some k23c1 }
/-- jdk/internal/util/Preconditions -/
def k23 : Class := { plain "jdk/internal/util/Preconditions" (some 0) with
  accessFlags := 33
  interfaces := #[]
  cf := some (fileOf pool23 24 #[.nestMembers #[55, 131, 125, 114]] #[{ accessFlags := 1, nameIndex := 5, descriptorIndex := 6, attributes := #[] }, { accessFlags := 9, nameIndex := 33, descriptorIndex := 178, attributes := #[] }] 33 2 #[] #[{ accessFlags := 25, nameIndex := 123, descriptorIndex := 124, attributes := #[] }, { accessFlags := 25, nameIndex := 130, descriptorIndex := 124, attributes := #[] }, { accessFlags := 25, nameIndex := 136, descriptorIndex := 124, attributes := #[] }])
  fields := #[{ name := "SIOOBE_FORMATTER", type := (.object "java/util/function/BiFunction"), accessFlags := 25, slot := 0, constantValue := 0 }, { name := "AIOOBE_FORMATTER", type := (.object "java/util/function/BiFunction"), accessFlags := 25, slot := 1, constantValue := 0 }, { name := "IOOBE_FORMATTER", type := (.object "java/util/function/BiFunction"), accessFlags := 25, slot := 2, constantValue := 0 }]
  methods := #[k23m0, k23m1]
  instanceTypes := #[]
  staticTypes := #[(.object "java/util/function/BiFunction"), (.object "java/util/function/BiFunction"), (.object "java/util/function/BiFunction")]
  resolved := Array.replicate 194 none
  statics := some 3 }

def pool24 : Array CpInfo := pool [(4, .class_ 6), (1, u "java/lang/Object"), (0, u "<init>"), (0, u "()V"), (5, .class_ 16), (1, u "java/lang/StringLatin1"), (104, u "$assertionsDisabled"), (0, u "Z"), (98, .class_ 223), (1, u "java/lang/StringLatin1$LinesSpliterator"), (166, .class_ 391), (0, u "java/lang/StringLatin1$CharsSpliterator")] 3

def k24m0 : Method := { name := "<init>", desc := "()V", sig := { parameters := [], returnType := none }, accessFlags := 0, code := none }
/-- java/lang/StringLatin1 -/
def k24 : Class := { plain "java/lang/StringLatin1" (some 0) with
  accessFlags := 48
  interfaces := #[]
  cf := some (fileOf pool24 14 #[.nestMembers #[390, 221]] #[{ accessFlags := 0, nameIndex := 7, descriptorIndex := 8, attributes := #[] }] 48 4 #[] #[{ accessFlags := 4120, nameIndex := 121, descriptorIndex := 122, attributes := #[] }])
  fields := #[{ name := "$assertionsDisabled", type := .boolean, accessFlags := 4120, slot := 0, constantValue := 0 }]
  methods := #[k24m0]
  instanceTypes := #[]
  staticTypes := #[.boolean]
  resolved := Array.replicate 395 none
  statics := none }

def pool25 : Array CpInfo := pool [(9, u "<init>"), (6, .class_ 18), (1, u "java/lang/Object"), (0, u "()V"), (1, .class_ 23), (1, u "jdk/internal/util/ArraysSupport"), (0, u "LOG2_ARRAY_LONG_INDEX_SCALE"), (0, u "I"), (2, u "U"), (0, u "Ljdk/internal/misc/Unsafe;"), (8, u "BIG_ENDIAN"), (0, u "Z"), (8, u "LOG2_BYTE_BIT_SIZE"), (4, u "LOG2_ARRAY_INT_INDEX_SCALE"), (54, u "JLA"), (0, u "Ljdk/internal/access/JavaLangAccess;"), (11, u "LOG2_ARRAY_BOOLEAN_INDEX_SCALE"), (9, u "LOG2_ARRAY_BYTE_INDEX_SCALE"), (5, u "LOG2_ARRAY_CHAR_INDEX_SCALE"), (5, u "LOG2_ARRAY_SHORT_INDEX_SCALE"), (18, u "LOG2_ARRAY_FLOAT_INDEX_SCALE"), (24, u "LOG2_ARRAY_DOUBLE_INDEX_SCALE"), (89, u "T_BOOLEAN"), (2, u "T_CHAR"), (1, u "T_FLOAT"), (1, u "T_DOUBLE"), (1, u "T_BYTE"), (1, u "T_SHORT"), (1, u "T_INT"), (1, u "T_LONG"), (1, u "SOFT_MAX_ARRAY_LENGTH")] 83

def k25m0 : Method := { name := "<init>", desc := "()V", sig := { parameters := [], returnType := none }, accessFlags := 2, code := none }
/-- jdk/internal/util/ArraysSupport -/
def k25 : Class := { plain "jdk/internal/util/ArraysSupport" (some 0) with
  accessFlags := 33
  interfaces := #[]
  cf := some (fileOf pool25 21 #[] #[{ accessFlags := 2, nameIndex := 9, descriptorIndex := 19, attributes := #[] }] 33 16 #[] #[{ accessFlags := 24, nameIndex := 28, descriptorIndex := 29, attributes := #[] }, { accessFlags := 26, nameIndex := 38, descriptorIndex := 39, attributes := #[] }, { accessFlags := 25, nameIndex := 121, descriptorIndex := 25, attributes := #[] }, { accessFlags := 25, nameIndex := 131, descriptorIndex := 25, attributes := #[] }, { accessFlags := 25, nameIndex := 137, descriptorIndex := 25, attributes := #[] }, { accessFlags := 25, nameIndex := 143, descriptorIndex := 25, attributes := #[] }, { accessFlags := 25, nameIndex := 53, descriptorIndex := 25, attributes := #[] }, { accessFlags := 25, nameIndex := 24, descriptorIndex := 25, attributes := #[] }, { accessFlags := 25, nameIndex := 162, descriptorIndex := 25, attributes := #[] }, { accessFlags := 25, nameIndex := 187, descriptorIndex := 25, attributes := #[] }, { accessFlags := 26, nameIndex := 48, descriptorIndex := 25, attributes := #[] }, { accessFlags := 25, nameIndex := 277, descriptorIndex := 25, attributes := #[] }, { accessFlags := 25, nameIndex := 280, descriptorIndex := 25, attributes := #[] }, { accessFlags := 25, nameIndex := 282, descriptorIndex := 25, attributes := #[] }, { accessFlags := 25, nameIndex := 284, descriptorIndex := 25, attributes := #[] }, { accessFlags := 25, nameIndex := 286, descriptorIndex := 25, attributes := #[] }, { accessFlags := 25, nameIndex := 288, descriptorIndex := 25, attributes := #[] }, { accessFlags := 25, nameIndex := 290, descriptorIndex := 25, attributes := #[] }, { accessFlags := 25, nameIndex := 292, descriptorIndex := 25, attributes := #[] }, { accessFlags := 26, nameIndex := 108, descriptorIndex := 109, attributes := #[] }, { accessFlags := 25, nameIndex := 294, descriptorIndex := 25, attributes := #[] }])
  fields := #[{ name := "U", type := (.object "jdk/internal/misc/Unsafe"), accessFlags := 24, slot := 0, constantValue := 0 }, { name := "BIG_ENDIAN", type := .boolean, accessFlags := 26, slot := 1, constantValue := 0 }, { name := "LOG2_ARRAY_BOOLEAN_INDEX_SCALE", type := .int, accessFlags := 25, slot := 2, constantValue := 0 }, { name := "LOG2_ARRAY_BYTE_INDEX_SCALE", type := .int, accessFlags := 25, slot := 3, constantValue := 0 }, { name := "LOG2_ARRAY_CHAR_INDEX_SCALE", type := .int, accessFlags := 25, slot := 4, constantValue := 0 }, { name := "LOG2_ARRAY_SHORT_INDEX_SCALE", type := .int, accessFlags := 25, slot := 5, constantValue := 0 }, { name := "LOG2_ARRAY_INT_INDEX_SCALE", type := .int, accessFlags := 25, slot := 6, constantValue := 0 }, { name := "LOG2_ARRAY_LONG_INDEX_SCALE", type := .int, accessFlags := 25, slot := 7, constantValue := 0 }, { name := "LOG2_ARRAY_FLOAT_INDEX_SCALE", type := .int, accessFlags := 25, slot := 8, constantValue := 0 }, { name := "LOG2_ARRAY_DOUBLE_INDEX_SCALE", type := .int, accessFlags := 25, slot := 9, constantValue := 0 }, { name := "LOG2_BYTE_BIT_SIZE", type := .int, accessFlags := 26, slot := 10, constantValue := 0 }, { name := "T_BOOLEAN", type := .int, accessFlags := 25, slot := 11, constantValue := 0 }, { name := "T_CHAR", type := .int, accessFlags := 25, slot := 12, constantValue := 0 }, { name := "T_FLOAT", type := .int, accessFlags := 25, slot := 13, constantValue := 0 }, { name := "T_DOUBLE", type := .int, accessFlags := 25, slot := 14, constantValue := 0 }, { name := "T_BYTE", type := .int, accessFlags := 25, slot := 15, constantValue := 0 }, { name := "T_SHORT", type := .int, accessFlags := 25, slot := 16, constantValue := 0 }, { name := "T_INT", type := .int, accessFlags := 25, slot := 17, constantValue := 0 }, { name := "T_LONG", type := .int, accessFlags := 25, slot := 18, constantValue := 0 }, { name := "JLA", type := (.object "jdk/internal/access/JavaLangAccess"), accessFlags := 26, slot := 19, constantValue := 0 }, { name := "SOFT_MAX_ARRAY_LENGTH", type := .int, accessFlags := 25, slot := 20, constantValue := 0 }]
  methods := #[k25m0]
  instanceTypes := #[]
  staticTypes := #[(.object "jdk/internal/misc/Unsafe"), .boolean, .int, .int, .int, .int, .int, .int, .int, .int, .int, .int, .int, .int, .int, .int, .int, .int, .int, (.object "jdk/internal/access/JavaLangAccess"), .int]
  resolved := Array.replicate 378 none
  statics := none }

/-- the primitive byte -/
def k26 : Class := { plain "byte" none with kind := .primitive 'B', accessFlags := 0x411 }
/-- [B -/
def k27 : Class := { plain "[B" (some 0) with kind := .array 26 .byte, interfaces := #[18, 5], accessFlags := 1041 }

/-- the primitive int -/
def k28 : Class := { plain "int" none with kind := .primitive 'I', accessFlags := 0x411 }
/-- [I -/
def k29 : Class := { plain "[I" (some 0) with kind := .array 28 .int, interfaces := #[18, 5], accessFlags := 1041 }

def heap : Heap := #[{ cls := 10, slots := #[.long 0, .int 1, .null, .int 0, .null, .int 0, .int 0], vm := .statics 10 },
  { cls := 12, slots := #[.null, .null, .ref 4, .null, .null, .null], vm := .statics 12 },
  { cls := 16, slots := #[.ref 4, .null], vm := .statics 16 },
  { cls := 23, slots := #[.null, .null, .null], vm := .statics 23 },
  { cls := 16, slots := #[.null, .null, .null], vm := .none }]
def classes : Array Class := #[k0, k1, k2, k3, k4, k5, k6, k7, k8, k9, k10, k11, k12, k13, k14, k15, k16, k17, k18, k19, k20, k21, k22, k23, k24, k25, k26, k27, k28, k29]
def interned : List (Array UInt16 × Addr) := []
def slotsUsed : Nat := 21
def theMethod : MethodId := ⟨1, 1⟩
def args0 : Array Value := #[.int 5, .int 7]
def aboutOver (below : List Frame) : State where
  vm := { classes := classes, interned := interned.toArray }
  heap := heap
  slotsUsed := slotsUsed
  threads := #[{ frames := .invoking theMethod args0 :: below }]
def below0 : List Frame := [.native { method := ⟨0, 0⟩, args := #[] }]
def about1 : State := aboutOver below0
def p0 : Program := .bare "" "" ""
def e0 : Env := launch0.env 0 0 0
theorem w_frames : about1.frames = Frame.invoking theMethod args0 :: below0 := rfl
set_option maxRecDepth 65536 in
theorem w_args : argsFit about1.vm theMethod args0 = true := by decide +kernel
set_option maxRecDepth 65536 in
theorem w_heap : heapFits about1 = true := by decide +kernel
set_option maxRecDepth 65536 in
theorem w_runnable : about1.curStatus? = some .runnable := by decide +kernel
set_option maxRecDepth 65536 in
theorem w_alone : about1.alone = true := by decide +kernel
set_option maxRecDepth 65536 in
theorem w_named : about1.methodNamed? x = some theMethod := by decide +kernel
set_option maxRecDepth 65536 in
theorem w_hears : about1.hears theMethod below0 = true := by decide +kernel
set_option maxRecDepth 65536 in
theorem w_ripe : about1.ripe theMethod args0 below0 = true := by decide +kernel
theorem w_running : about1.status = .running := rfl
set_option maxRecDepth 65536 in
theorem w_room : about1.hasRoom e0.platform room_1 = true :=
  launch0.hasRoom_least _ room_1 (by decide +kernel) (by decide +kernel) (by decide +kernel) (by decide +kernel) (by decide +kernel) (by decide +kernel)
theorem allAtoms_all (ts : List Jvm.Cond) (a : Array Jvm.Value) (st : Jvm.State) : (allAtoms ts).before a st = ts.all (fun c => c.before a st) := by
  induction ts with
  | nil => rfl
  | cons c t ih =>
    show (Jvm.Cond.and c (allAtoms t)).before a st = _
    rw [Jvm.Cond.before_and, ih, List.all_cons]
def words1 : List Jvm.Cond := Jvm.Cond.code x code maxLocals ret :: tables_1
/-- a 'code' word, met by the world's own term for the bytes: nothing is compared byte by byte -/
theorem code_word {y : MethodName} {bytes : ByteArray} {mx : Nat} {rt : Option FieldType} {a : Array Value} {s : State} {m : MethodId} {meth : Method} {c : Code} (h1 : s.methodNamed? y = some m) (h2 : s.vm.method? m = some meth) (h3 : meth.code = some c) (h4 : c.code = bytes)
    (h5 : (c.maxLocals == mx && c.exceptionTable.isEmpty && decide (c.maxStack ≤ mostOperands) && decide (meth.sig.returnType = rt) && !meth.locks && decide (parseMethodDescriptor y.desc = some meth.sig)) = true) : (Jvm.Cond.code y bytes mx rt).before a s = true := by
  simp only [Bool.and_eq_true, beq_iff_eq, Bool.not_eq_true', decide_eq_true_eq] at h5
  obtain ⟨⟨⟨⟨⟨g1, g2⟩, g3⟩, g4⟩, g5⟩, g6⟩ := h5
  simp [Cond.before, Cond.holds, Cond.value, h1, h2, h3, h4, g1, g2, g3, g4, g5, g6]
def isCode : Jvm.Cond → Bool
  | .code _ _ _ _ => true
  | _ => false
theorem all_split {L : List Jvm.Cond} {P : Jvm.Cond → Bool} (h1 : L.all (fun c => isCode c || P c) = true) (h2 : ∀ c ∈ L.filter isCode, P c = true) : L.all P = true := by
  refine List.all_eq_true.mpr fun c hc => ?_
  have h := List.all_eq_true.mp h1 c hc
  rcases Bool.eq_false_or_eq_true (isCode c) with hi | hi
  · exact h2 c (List.mem_filter.mpr ⟨hc, hi⟩)
  · simpa [hi] using h
set_option maxRecDepth 65536 in
theorem w_c0 : (Jvm.Cond.code x code maxLocals ret).before args0 about1 = true := code_word (m := ⟨1, 1⟩) (meth := k1m1) (c := k1c1) (by decide +kernel) rfl rfl rfl (by decide +kernel)
set_option maxRecDepth 65536 in
theorem w_c1 : (Jvm.Cond.code ({ cls := "com/example/fireweed/fireweed/layout/Java31ByteSalt", name := "<init>", desc := "(ILjava/lang/String;)V" } : Jvm.MethodName) prog_7_method_1_code (3 : Nat) (Option.none : Option Jvm.ClassFile.FieldType)).before args0 about1 = true := code_word (m := ⟨4, 0⟩) (meth := k4m0) (c := k4c0) (by decide +kernel) rfl rfl rfl (by decide +kernel)
set_option maxRecDepth 65536 in
theorem w_c2 : (Jvm.Cond.code ({ cls := "com/example/fireweed/fireweed/layout/BucketSalt", name := "<init>", desc := "(Ljava/lang/String;)V" } : Jvm.MethodName) prog_5_method_1_code (2 : Nat) (Option.none : Option Jvm.ClassFile.FieldType)).before args0 about1 = true := code_word (m := ⟨3, 0⟩) (meth := k3m0) (c := k3c0) (by decide +kernel) rfl rfl rfl (by decide +kernel)
set_option maxRecDepth 65536 in
theorem w_c3 : (Jvm.Cond.code ({ cls := "com/example/fireweed/fireweed/layout/Salt", name := "<init>", desc := "(Ljava/lang/String;)V" } : Jvm.MethodName) prog_11_method_1_code (2 : Nat) (Option.none : Option Jvm.ClassFile.FieldType)).before args0 about1 = true := code_word (m := ⟨2, 0⟩) (meth := k2m0) (c := k2c0) (by decide +kernel) rfl rfl rfl (by decide +kernel)
set_option maxRecDepth 65536 in
theorem w_c4 : (Jvm.Cond.code ({ cls := "java/lang/Object", name := "<init>", desc := "()V" } : Jvm.MethodName) object_method_1_code (1 : Nat) (Option.none : Option Jvm.ClassFile.FieldType)).before args0 about1 = true := code_word (m := ⟨0, 0⟩) (meth := k0m0) (c := k0c0) (by decide +kernel) rfl rfl rfl (by decide +kernel)
set_option maxRecDepth 65536 in
theorem w_c5 : (Jvm.Cond.code ({ cls := "java/util/Objects", name := "requireNonNull", desc := "(Ljava/lang/Object;Ljava/lang/String;)Ljava/lang/Object;" } : Jvm.MethodName) jdk_31_method_11_code (2 : Nat) (Option.some (Jvm.ClassFile.FieldType.object "java/lang/Object"))).before args0 about1 = true := code_word (m := ⟨11, 1⟩) (meth := k11m1) (c := k11c1) (by decide +kernel) rfl rfl rfl (by decide +kernel)
set_option maxRecDepth 65536 in
theorem w_c6 : (Jvm.Cond.code ({ cls := "java/lang/String", name := "getBytes", desc := "(Ljava/nio/charset/Charset;)[B" } : Jvm.MethodName) jdk_42_method_64_code (2 : Nat) (Option.some (Jvm.ClassFile.FieldType.array Jvm.ClassFile.FieldType.byte))).before args0 about1 = true := code_word (m := ⟨10, 3⟩) (meth := k10m3) (c := k10c3) (by decide +kernel) rfl rfl rfl (by decide +kernel)
set_option maxRecDepth 65536 in
theorem w_c7 : (Jvm.Cond.code ({ cls := "java/lang/String", name := "coder", desc := "()B" } : Jvm.MethodName) jdk_42_method_152_code (1 : Nat) (Option.some Jvm.ClassFile.FieldType.byte)).before args0 about1 = true := code_word (m := ⟨10, 4⟩) (meth := k10m4) (c := k10c4) (by decide +kernel) rfl rfl rfl (by decide +kernel)
set_option maxRecDepth 65536 in
theorem w_c8 : (Jvm.Cond.code ({ cls := "java/lang/String", name := "encode", desc := "(Ljava/nio/charset/Charset;B[B)[B" } : Jvm.MethodName) jdk_42_method_18_code (3 : Nat) (Option.some (Jvm.ClassFile.FieldType.array Jvm.ClassFile.FieldType.byte))).before args0 about1 = true := code_word (m := ⟨10, 1⟩) (meth := k10m1) (c := k10c1) (by decide +kernel) rfl rfl rfl (by decide +kernel)
set_option maxRecDepth 65536 in
theorem w_c9 : (Jvm.Cond.code ({ cls := "java/lang/String", name := "encodeUTF8", desc := "(B[BZ)[B" } : Jvm.MethodName) jdk_42_method_46_code (9 : Nat) (Option.some (Jvm.ClassFile.FieldType.array Jvm.ClassFile.FieldType.byte))).before args0 about1 = true := code_word (m := ⟨10, 2⟩) (meth := k10m2) (c := k10c2) (by decide +kernel) rfl rfl rfl (by decide +kernel)
set_option maxRecDepth 65536 in
theorem w_c10 : (Jvm.Cond.code ({ cls := "java/lang/StringCoding", name := "hasNegatives", desc := "([BII)Z" } : Jvm.MethodName) jdk_123_method_2_code (3 : Nat) (Option.some Jvm.ClassFile.FieldType.boolean)).before args0 about1 = true := code_word (m := ⟨17, 1⟩) (meth := k17m1) (c := k17c1) (by decide +kernel) rfl rfl rfl (by decide +kernel)
set_option maxRecDepth 65536 in
theorem w_c11 : (Jvm.Cond.code ({ cls := "java/lang/StringCoding", name := "countPositives", desc := "([BII)I" } : Jvm.MethodName) jdk_123_method_3_code (5 : Nat) (Option.some Jvm.ClassFile.FieldType.int)).before args0 about1 = true := code_word (m := ⟨17, 2⟩) (meth := k17m2) (c := k17c2) (by decide +kernel) rfl rfl rfl (by decide +kernel)
set_option maxRecDepth 65536 in
theorem w_c12 : (Jvm.Cond.code ({ cls := "java/lang/Integer", name := "bitCount", desc := "(I)I" } : Jvm.MethodName) jdk_33_method_49_code (1 : Nat) (Option.some Jvm.ClassFile.FieldType.int)).before args0 about1 = true := code_word (m := ⟨20, 0⟩) (meth := k20m0) (c := k20c0) (by decide +kernel) rfl rfl rfl (by decide +kernel)
set_option maxRecDepth 65536 in
theorem w_c13 : (Jvm.Cond.code ({ cls := "com/example/fireweed/fireweed/layout/Java31ByteSalt", name := "saltOf", desc := "(I)B" } : Jvm.MethodName) prog_7_method_13_code (3 : Nat) (Option.some Jvm.ClassFile.FieldType.byte)).before args0 about1 = true := code_word (m := ⟨4, 2⟩) (meth := k4m2) (c := k4c2) (by decide +kernel) rfl rfl rfl (by decide +kernel)
set_option maxRecDepth 65536 in
theorem w_c14 : (Jvm.Cond.code ({ cls := "java/lang/Math", name := "abs", desc := "(I)I" } : Jvm.MethodName) jdk_29_method_59_code (1 : Nat) (Option.some Jvm.ClassFile.FieldType.int)).before args0 about1 = true := code_word (m := ⟨21, 1⟩) (meth := k21m1) (c := k21c1) (by decide +kernel) rfl rfl rfl (by decide +kernel)
set_option maxRecDepth 65536 in
theorem w_c15 : (Jvm.Cond.code ({ cls := "java/lang/Byte", name := "toUnsignedInt", desc := "(B)I" } : Jvm.MethodName) jdk_2056_method_24_code (1 : Nat) (Option.some Jvm.ClassFile.FieldType.int)).before args0 about1 = true := code_word (m := ⟨22, 0⟩) (meth := k22m0) (c := k22c0) (by decide +kernel) rfl rfl rfl (by decide +kernel)
set_option maxRecDepth 65536 in
theorem w_c16 : (Jvm.Cond.code ({ cls := "com/example/fireweed/fireweed/layout/Java31ByteSalt", name := "salt", desc := "(I)[B" } : Jvm.MethodName) prog_7_method_6_code (2 : Nat) (Option.some (Jvm.ClassFile.FieldType.array Jvm.ClassFile.FieldType.byte))).before args0 about1 = true := code_word (m := ⟨4, 1⟩) (meth := k4m1) (c := k4c1) (by decide +kernel) rfl rfl rfl (by decide +kernel)
set_option maxRecDepth 65536 in
theorem w_c17 : (Jvm.Cond.code ({ cls := "java/util/Objects", name := "checkIndex", desc := "(II)I" } : Jvm.MethodName) jdk_31_method_17_code (2 : Nat) (Option.some Jvm.ClassFile.FieldType.int)).before args0 about1 = true := code_word (m := ⟨11, 2⟩) (meth := k11m2) (c := k11c2) (by decide +kernel) rfl rfl rfl (by decide +kernel)
set_option maxRecDepth 65536 in
theorem w_c18 : (Jvm.Cond.code ({ cls := "jdk/internal/util/Preconditions", name := "checkIndex", desc := "(IILjava/util/function/BiFunction;)I" } : Jvm.MethodName) jdk_41_method_11_code (3 : Nat) (Option.some Jvm.ClassFile.FieldType.int)).before args0 about1 = true := code_word (m := ⟨23, 1⟩) (meth := k23m1) (c := k23c1) (by decide +kernel) rfl rfl rfl (by decide +kernel)
def codes1 : List Jvm.Cond := [Jvm.Cond.code x code maxLocals ret, Jvm.Cond.code ({ cls := "com/example/fireweed/fireweed/layout/Java31ByteSalt", name := "<init>", desc := "(ILjava/lang/String;)V" } : Jvm.MethodName) prog_7_method_1_code (3 : Nat) (Option.none : Option Jvm.ClassFile.FieldType), Jvm.Cond.code ({ cls := "com/example/fireweed/fireweed/layout/BucketSalt", name := "<init>", desc := "(Ljava/lang/String;)V" } : Jvm.MethodName) prog_5_method_1_code (2 : Nat) (Option.none : Option Jvm.ClassFile.FieldType), Jvm.Cond.code ({ cls := "com/example/fireweed/fireweed/layout/Salt", name := "<init>", desc := "(Ljava/lang/String;)V" } : Jvm.MethodName) prog_11_method_1_code (2 : Nat) (Option.none : Option Jvm.ClassFile.FieldType), Jvm.Cond.code ({ cls := "java/lang/Object", name := "<init>", desc := "()V" } : Jvm.MethodName) object_method_1_code (1 : Nat) (Option.none : Option Jvm.ClassFile.FieldType), Jvm.Cond.code ({ cls := "java/util/Objects", name := "requireNonNull", desc := "(Ljava/lang/Object;Ljava/lang/String;)Ljava/lang/Object;" } : Jvm.MethodName) jdk_31_method_11_code (2 : Nat) (Option.some (Jvm.ClassFile.FieldType.object "java/lang/Object")), Jvm.Cond.code ({ cls := "java/lang/String", name := "getBytes", desc := "(Ljava/nio/charset/Charset;)[B" } : Jvm.MethodName) jdk_42_method_64_code (2 : Nat) (Option.some (Jvm.ClassFile.FieldType.array Jvm.ClassFile.FieldType.byte)), Jvm.Cond.code ({ cls := "java/lang/String", name := "coder", desc := "()B" } : Jvm.MethodName) jdk_42_method_152_code (1 : Nat) (Option.some Jvm.ClassFile.FieldType.byte), Jvm.Cond.code ({ cls := "java/lang/String", name := "encode", desc := "(Ljava/nio/charset/Charset;B[B)[B" } : Jvm.MethodName) jdk_42_method_18_code (3 : Nat) (Option.some (Jvm.ClassFile.FieldType.array Jvm.ClassFile.FieldType.byte)), Jvm.Cond.code ({ cls := "java/lang/String", name := "encodeUTF8", desc := "(B[BZ)[B" } : Jvm.MethodName) jdk_42_method_46_code (9 : Nat) (Option.some (Jvm.ClassFile.FieldType.array Jvm.ClassFile.FieldType.byte)), Jvm.Cond.code ({ cls := "java/lang/StringCoding", name := "hasNegatives", desc := "([BII)Z" } : Jvm.MethodName) jdk_123_method_2_code (3 : Nat) (Option.some Jvm.ClassFile.FieldType.boolean), Jvm.Cond.code ({ cls := "java/lang/StringCoding", name := "countPositives", desc := "([BII)I" } : Jvm.MethodName) jdk_123_method_3_code (5 : Nat) (Option.some Jvm.ClassFile.FieldType.int), Jvm.Cond.code ({ cls := "java/lang/Integer", name := "bitCount", desc := "(I)I" } : Jvm.MethodName) jdk_33_method_49_code (1 : Nat) (Option.some Jvm.ClassFile.FieldType.int), Jvm.Cond.code ({ cls := "com/example/fireweed/fireweed/layout/Java31ByteSalt", name := "saltOf", desc := "(I)B" } : Jvm.MethodName) prog_7_method_13_code (3 : Nat) (Option.some Jvm.ClassFile.FieldType.byte), Jvm.Cond.code ({ cls := "java/lang/Math", name := "abs", desc := "(I)I" } : Jvm.MethodName) jdk_29_method_59_code (1 : Nat) (Option.some Jvm.ClassFile.FieldType.int), Jvm.Cond.code ({ cls := "java/lang/Byte", name := "toUnsignedInt", desc := "(B)I" } : Jvm.MethodName) jdk_2056_method_24_code (1 : Nat) (Option.some Jvm.ClassFile.FieldType.int), Jvm.Cond.code ({ cls := "com/example/fireweed/fireweed/layout/Java31ByteSalt", name := "salt", desc := "(I)[B" } : Jvm.MethodName) prog_7_method_6_code (2 : Nat) (Option.some (Jvm.ClassFile.FieldType.array Jvm.ClassFile.FieldType.byte)), Jvm.Cond.code ({ cls := "java/util/Objects", name := "checkIndex", desc := "(II)I" } : Jvm.MethodName) jdk_31_method_17_code (2 : Nat) (Option.some Jvm.ClassFile.FieldType.int), Jvm.Cond.code ({ cls := "jdk/internal/util/Preconditions", name := "checkIndex", desc := "(IILjava/util/function/BiFunction;)I" } : Jvm.MethodName) jdk_41_method_11_code (3 : Nat) (Option.some Jvm.ClassFile.FieldType.int)]
set_option maxRecDepth 65536 in
theorem codes_eq : words1.filter isCode = codes1 := rfl
theorem w_codes : ∀ c ∈ words1.filter isCode, c.before args0 about1 = true := by
  rw [codes_eq]
  intro c hc
  simp only [codes1, List.mem_cons, List.not_mem_nil, or_false] at hc
  rcases hc with rfl | rfl | rfl | rfl | rfl | rfl | rfl | rfl | rfl | rfl | rfl | rfl | rfl | rfl | rfl | rfl | rfl | rfl | rfl
  · exact w_c0
  · exact w_c1
  · exact w_c2
  · exact w_c3
  · exact w_c4
  · exact w_c5
  · exact w_c6
  · exact w_c7
  · exact w_c8
  · exact w_c9
  · exact w_c10
  · exact w_c11
  · exact w_c12
  · exact w_c13
  · exact w_c14
  · exact w_c15
  · exact w_c16
  · exact w_c17
  · exact w_c18
set_option maxRecDepth 65536 in
theorem w_t1 : (words1.take 24).all (fun c => isCode c || c.before args0 about1) = true := by decide +kernel
set_option maxRecDepth 65536 in
theorem w_t2 : ((words1.drop 24).take 24).all (fun c => isCode c || c.before args0 about1) = true := by decide +kernel
set_option maxRecDepth 65536 in
theorem w_t3 : (((words1.drop 24).drop 24).take 24).all (fun c => isCode c || c.before args0 about1) = true := by decide +kernel
set_option maxRecDepth 65536 in
theorem w_t4 : ((((words1.drop 24).drop 24).drop 24).take 24).all (fun c => isCode c || c.before args0 about1) = true := by decide +kernel
set_option maxRecDepth 65536 in
theorem w_t5 : ((((words1.drop 24).drop 24).drop 24).drop 24).all (fun c => isCode c || c.before args0 about1) = true := by decide +kernel
theorem w_tables : (allAtoms (Jvm.Cond.code x code maxLocals ret :: tables_1)).before args0 about1 = true := by
  rw [allAtoms_all]
  show words1.all (fun c => c.before args0 about1) = true
  refine all_split ?_ w_codes
  rw [← List.take_append_drop 24 words1, List.all_append, w_t1, ← List.take_append_drop 24 (words1.drop 24), List.all_append, w_t2, ← List.take_append_drop 24 ((words1.drop 24).drop 24), List.all_append, w_t3, ← List.take_append_drop 24 (((words1.drop 24).drop 24).drop 24), List.all_append, w_t4, w_t5]
  rfl
set_option maxRecDepth 65536 in
theorem w_rest : rest_1_c.before args0 about1 = true := by decide +kernel
set_option maxRecDepth 65536 in
theorem w_case : (Jvm.Cond.and given_1 narrow_1).before args0 about1 = true := by decide +kernel
set_option maxRecDepth 65536 in
theorem w_consts : constsHeld consts_1 about1 := Jvm.Lit.constsHeldB_iff.mp (by decide +kernel)
theorem w_applies : (headSpec (Jvm.Cond.code x code maxLocals ret :: tables_1) room_1).applies x e0.platform about1 = true :=
  (Spec.applies_iff w_frames).mpr ⟨w_running, w_runnable, w_alone, w_named, w_hears, w_ripe, w_room, w_tables⟩
theorem atStart : AtStart classFile x code maxLocals ret World_1 tables_1 room_1 Calls_1 rest_1 Pre_1 launch0 p0 e0 about1 theMethod args0 below0 :=
  ⟨lists_1, trivial, launch0.admits_env _ _ _, launch0.least_env, fairChoices_fair.cas, fairChoices_fair.clock, w_frames, w_args, w_heap, w_applies, ⟨w_consts, trivial⟩, w_rest, w_case⟩
end start1
theorem witness_1 : WitnessClaimed_1 := ⟨start1.p0, start1.e0, start1.about1, start1.theMethod, start1.args0, start1.below0, start1.atStart⟩
end Jvm.Pilot.@@N@@
