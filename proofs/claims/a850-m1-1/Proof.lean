import JvmDerived
import JvmDerived.Pilot.@@N@@Statement
import JvmDerived.Pilot.@@N@@Code
set_option linter.unusedVariables false
set_option linter.unusedSimpArgs false
namespace Jvm.RoadKit
open Sem ClassFile Op Lib Jvm.Stand Jvm.Free Jvm.LawKit
section New
variable {p : Program} {l : Launch} {e : Env} {R : Room} {s : State} {m : MethodId} {args : Array Value} {below : List Frame} {meth : Method} {c : Code} {T : State} {locs : List Loc} {cells slots : Nat}
theorem retI (X : Stand p l e R s m args below meth c T locs cells slots) (hx : p.tables.exec = Jvm.exec) {pc : Nat} {Ls : Array Slot} {z : Int32} {rest : List Value} (hret : meth.sig.returnType = some .int) (hd : decode c.code pc = .ok (.ireturn, 1)) {fs : List Frame}
    (hl : ∀ (f : JFrame) (acts : List Action), f.method = m → f.locked = none → f.entered = [] → (doReturn e (T.setTop f) acts (some (.int z))).1 = T.setFrames fs) : Steps p.tables e below (T.setTop (mkF m pc Ls (.int z :: rest))) (T.setFrames fs) := by
  have hm' : T.vm.method? m = some meth := X.method'
  have hn : narrow .int (.int z) = .int z := rfl
  show Steps p.tables e below (T.setTop { method := m, pc := pc, locals := Ls, stack := _ :: rest, locked := none }) _
  jvm_step X.here [X.here.top, hx, hd, hm', hret, hn]
  first | (intro acts; rw [hl _ acts rfl rfl rfl]) | rw [hl _ _ rfl rfl rfl]
  exact Steps.refl _
end New
end Jvm.RoadKit
namespace Jvm.Pilot.@@N@@
open Jvm Jvm.ClassFile Sem Op Lib Jvm.Free Jvm.Stand Jvm.LawKit Jvm.RoadKit Bundle Jvm.Pilot.@@N@@.Jvm.D
theorem own_ext {h h' : Heap} (K : Keep h h' []) : Ext h h' := ⟨K.1, fun a c q => K.2.1 a c q nin0⟩
theorem own_fits {t : FieldType} {x : Int32} (h : nar t x = x) (f : fits t (.int (nar t x)) = true) : fits t (.int x) = true := by rw [h] at f; exact f
theorem own_nb (x : Int32) : nar .byte (x.toInt8.toInt32) = x.toInt8.toInt32 := by simp [nar]
theorem own_nc (x : Int32) : nar .char (x.toUInt32.toUInt16.toUInt32.toInt32) = x.toUInt32.toUInt16.toUInt32.toInt32 := by
  show (x.toUInt32.toUInt16.toUInt32.toInt32).toUInt32.toUInt16.toUInt32.toInt32 = _
  rw [UInt32.toUInt32_toInt32, UInt16.toUInt16_toUInt32]
theorem own_gen {p : Program} {l : Launch} {e : Env} {R : Room} {s : State} {m : MethodId} {args : Array Value} {below : List Frame} {meth : Method} {c : Code} {T : State} {locs : List Loc} {cells slots n0 : Nat} (X : Stand p l e R s m args below meth c T locs cells slots) (N : Fr n0 locs) : ∃ L, Stand p l e R s m args below meth c T L cells slots ∧ Fr n0 L := ⟨_, X, N⟩
theorem own_ne {a b : Addr} (h : a < b) : a ≠ b := Nat.ne_of_lt h
theorem own_Sta {Z : State} {h h' : Heap} {C n d : String} {v : Value} {ws : List Addr} (F : Sta Z h C n d v) (K : Keep h h' ws) (q : ∀ x ∈ ws, ∀ cell : Cell, h[x]? = some cell → cell.vm.isStatics = false) : Sta Z h' C n d v := by
  obtain ⟨cf, i, k, f, st, cell, h1, h2, h3, h4, h5, h6, h7⟩ := F
  refine ⟨cf, i, k, f, st, cell, h1, h2, h3, h4, K.2.1 st cell h5 (fun m => ?_), h6, h7⟩
  rw [q st m cell h5] at h6
  cases h6
theorem own_priv {s : State} {args : Array Value} {y : MethodName} {n : Nat} (wi : (Cond.instantiable y.cls n).before args s = true) (hp : s.PrivateAt y) (hi : (Cond.instanceMethod y).before args s = true) (hy : y.cls ≠ "java/lang/invoke/MethodHandle" ∧ y.cls ≠ "java/lang/invoke/VarHandle") : (Cond.selects y.cls y y).before args s = true := by
  obtain ⟨c, k, h1, h2, -, h4, -⟩ := Cond.instantiable_spec wi
  exact selects_self_of_private h1 h2 (by cases hk : k.isInterface <;> simp_all) hp hi hy
theorem own_lremM {p : Program} {l : Launch} {e : Env} {R : Room} {s : State} {m : MethodId} {args : Array Value} {below : List Frame} {meth : Method} {c : Code} {T : State} {locs : List Loc} {cells slots : Nat} {g : JFrame} {target : State} (X : Stand p l e R s m args below meth c T locs cells slots) (hx : p.tables.exec = Jvm.exec) (hg : g.method = m) {x y : Int64} {rest : List Value} (hd : decode c.code g.pc = .ok (.lrem, 1)) (hs : g.stack = .long y :: .long x :: rest) (hy : y ≠ 0)
    (hr : Steps p.tables e below (T.setTop { g with pc := g.pc + 1, stack := .long (x % y) :: rest }) target) : Steps p.tables e below (T.setTop g) target := by
  have q : x - x / y * y = x % y := lrem_mod x y
  exact XS.lrem X.here hx hg hd hs hy (by rw [q]; exact hr)
theorem d9_0 : decode prog_42_method_2_code 0 = .ok (.aload_n 0, 1) := by decide +kernel
theorem d9_1 : decode prog_42_method_2_code 1 = .ok (.invokespecial 7, 3) := by decide +kernel
theorem d9_4 : decode prog_42_method_2_code 4 = .ok (.aload_n 0, 1) := by decide +kernel
theorem d9_5 : decode prog_42_method_2_code 5 = .ok (.aload_n 1, 1) := by decide +kernel
theorem d9_6 : decode prog_42_method_2_code 6 = .ok (.putfield 12, 3) := by decide +kernel
theorem d9_9 : decode prog_42_method_2_code 9 = .ok (.aload_n 0, 1) := by decide +kernel
theorem d9_10 : decode prog_42_method_2_code 10 = .ok (.iload_n 2, 1) := by decide +kernel
theorem d9_11 : decode prog_42_method_2_code 11 = .ok (.putfield 16, 3) := by decide +kernel
theorem d9_14 : decode prog_42_method_2_code 14 = .ok (.return_, 1) := by decide +kernel
theorem pn_com_example_headlattice_headlattice_learn_Tally : plainName "com/example/headlattice/headlattice/learn/Tally" = true := by first | (simp [plainName, overriddenIn]; done) | decide +kernel
theorem ef_rm9 (m : MethodId) (a0 : Addr) (a1 : Addr) (p2 : Int32) : entryFrame m #[(.ref a0), (.ref a1), (.int p2)] 3 = mkF m 0 #[.val (.ref a0), .val (.ref a1), .val (.int p2)] [] := by first | (simp [entryFrame, mkF, argsToLocals, Value.category]; done) | rfl
def Q9 (Z : State) (a0 : Addr) (a1 : Addr) (p2 : Int32) (h0 : Heap) (n0 : Nat) (v : Option Value) (h : Heap) (L : List Loc) : Prop := v = none ∧ Fr n0 L ∧ Keep h0 h [a0] ∧ Exa Z h a0 "com/example/headlattice/headlattice/learn/Tally" ∧ Fld Z h a0 "com/example/headlattice/headlattice/learn/Tally" "rightRows" "[J" (.ref a1) ∧ Fld Z h a0 "com/example/headlattice/headlattice/learn/Tally" "remainingRows" "I" (.int p2) ∧ Fld Z h a0 "com/example/headlattice/headlattice/learn/Tally" "truePositives" "J" (.long (0 : Int64)) ∧ Fld Z h a0 "com/example/headlattice/headlattice/learn/Tally" "falsePositives" "J" (.long (0 : Int64)) ∧ Fld Z h a0 "com/example/headlattice/headlattice/learn/Tally" "trueNegatives" "J" (.long (0 : Int64)) ∧ Fld Z h a0 "com/example/headlattice/headlattice/learn/Tally" "falseNegatives" "J" (.long (0 : Int64))
set_option maxRecDepth 65536 in
set_option maxHeartbeats 40000000 in
theorem rm9 (l : Launch) (Z : State) (az : Array Value) (hw : ∀ d ∈ tables_1, d.before az Z = true) (ws : List Jvm.Cond) (a0 : Addr) (a1 : Addr) (p2 : Int32) (h0 : Heap) (n0 : Nat) (Z0 : n0 ≤ h0.size) (E_a0 : Exa Z h0 a0 "com/example/headlattice/headlattice/learn/Tally") (F_rightRows_a0 : Fld Z h0 a0 "com/example/headlattice/headlattice/learn/Tally" "rightRows" "[J" .null) (F_remainingRows_a0 : Fld Z h0 a0 "com/example/headlattice/headlattice/learn/Tally" "remainingRows" "I" (.int (0 : Int32))) (F_truePositives_a0 : Fld Z h0 a0 "com/example/headlattice/headlattice/learn/Tally" "truePositives" "J" (.long (0 : Int64))) (F_falsePositives_a0 : Fld Z h0 a0 "com/example/headlattice/headlattice/learn/Tally" "falsePositives" "J" (.long (0 : Int64))) (F_trueNegatives_a0 : Fld Z h0 a0 "com/example/headlattice/headlattice/learn/Tally" "trueNegatives" "J" (.long (0 : Int64))) (F_falseNegatives_a0 : Fld Z h0 a0 "com/example/headlattice/headlattice/learn/Tally" "falseNegatives" "J" (.long (0 : Int64))) (g_a0 : n0 ≤ a0) :
    MetFree l (⟨"com/example/headlattice/headlattice/learn/Tally", "<init>", "([JI)V"⟩ : MethodName) (head1 (Jvm.Cond.code (⟨"com/example/headlattice/headlattice/learn/Tally", "<init>", "([JI)V"⟩ : MethodName) prog_42_method_2_code 3 none :: ws) ({ frames := 1, cells := 0, slots := 0, locals := 12 } : Room)) (fun a U => a = #[(.ref a0), (.ref a1), (.int p2)] ∧ Z.Warmed39 U.vm ∧ U.heap = h0) (fun _ _ _ _ _ => True) (fun _ U o U' => ∃ v L, o = .returned v ∧ Q9 Z a0 a1 p2 h0 n0 v U'.heap L ∧ FrameEnd U o U' L ({ frames := 1, cells := 0, slots := 0, locals := 12 } : Room).cells ({ frames := 1, cells := 0, slots := 0, locals := 12 } : Room).slots) := by
  refine MetFree.of_bodySF (plainFor_of_name pn_com_example_headlattice_headlattice_learn_Tally) hisR ?_
  intro p e s m args below meth c s₁ Bd hml0 hP hK
  obtain ⟨rfl, hZ, hh⟩ := hP
  have hx := Bd.exec
  have hby := Bd.bytes
  have hml : c.maxLocals = 3 := hml0
  have hown : s.vm.findClass "com/example/headlattice/headlattice/learn/Tally" = some m.cls := findClass_of_methodNamed Bd.named
  have hnm := (name_of_methodNamed Bd.named Bd.method).1
  have X0 : Stand p l e ({ frames := 1, cells := 0, slots := 0, locals := 12 } : Room) s m #[(.ref a0), (.ref a1), (.int p2)] below meth c s₁ [] 0 0 := Stand.of_body Bd
  have e0 : s₁.heap = h0 := by rw [← hh, Bd.state]; rfl
  have N0 := Fr.nil n0
  have pre0 : ∀ t, Steps p.tables e below (s₁.setTop (mkF m 0 #[.val (.ref a0), .val (.ref a1), .val (.int p2)] [])) t → Steps p.tables e below (s₁.setTop (entryFrame m #[(.ref a0), (.ref a1), (.int p2)] 3)) t := fun t k => castTop (ef_rm9 m a0 a1 p2) k
  obtain ⟨T1, X1, e1, st1⟩ := initO X0 hx hZ hown (hw _ (List.mem_of_getElem? (i := 66) rfl)) (hw _ (List.mem_of_getElem? (i := 7) rfl)) (hw _ (List.mem_of_getElem? (i := 8) rfl)) e0 (g := (mkF m 1 #[.val (.ref a0), .val (.ref a1), .val (.int p2)] [(.ref a0)])) rfl (by rw [hml]; rfl) rfl (hb hby d9_1) (by decide) (W := 0) (by show 2 * 0 + _ ≤ _; exact Nat.le_of_eq rfl) (by decide)
  obtain ⟨T2, h2, X2, e2, W2, st2⟩ := putF X1 hx hZ hown (host := "") (Or.inl (hw _ (List.mem_of_getElem? (i := 67) rfl))) Via.refl e1 F_rightRows_a0 E_a0 (Or.inr ⟨(hw _ (List.mem_of_getElem? (i := 68) rfl)), rfl, hnm⟩) (hw _ (List.mem_of_getElem? (i := 52) rfl)) (ty := (.array .long)) (by decide) rfl rfl (g := (mkF m 6 #[.val (.ref a0), .val (.ref a1), .val (.int p2)] [(.ref a1), (.ref a0)])) rfl rfl (hb hby d9_6)
  have K2 : Keep h0 h2 [a0] := (Keep.refl h0 [a0]).wr W2 (Or.inl (List.mem_of_getElem? (i := 0) rfl))
  have Fw2 := F_rightRows_a0.same W2
  have Z2 : n0 ≤ h2.size := Nat.le_trans Z0 (Keep.of_wr W2).1
  obtain ⟨Lg2, X2', N2⟩ := own_gen X2 (Fr.snoc X2 N0 g_a0)
  have sl3 := slot_ne (Z := Z) (Or.inl (hw _ (List.mem_of_getElem? (i := 70) rfl))) (Or.inr (hw _ (List.mem_of_getElem? (i := 68) rfl))) (by decide) (t := .int) (t' := (.array .long)) (by decide) (by decide)
  have F_a0_remainingRows_u4 : Fld Z h2 a0 "com/example/headlattice/headlattice/learn/Tally" "remainingRows" "I" (.int (0 : Int32)) := (F_remainingRows_a0.other W2 (Or.inr sl3))
  have E_a0_u5 : Exa Z h2 a0 "com/example/headlattice/headlattice/learn/Tally" := (E_a0.wr W2)
  obtain ⟨T6, h6, X6, e6, W6, st6⟩ := putF X2' hx hZ hown (host := "") (Or.inl (hw _ (List.mem_of_getElem? (i := 69) rfl))) Via.refl e2 F_a0_remainingRows_u4 E_a0_u5 (Or.inl (hw _ (List.mem_of_getElem? (i := 70) rfl))) (hw _ (List.mem_of_getElem? (i := 52) rfl)) (ty := .int) (by decide) rfl rfl (g := (mkF m 11 #[.val (.ref a0), .val (.ref a1), .val (.int p2)] [(.int p2), (.ref a0)])) rfl rfl (hb hby d9_11)
  have K6 : Keep h0 h6 [a0] := K2.wr W6 (Or.inl (List.mem_of_getElem? (i := 0) rfl))
  have Fw6 := F_a0_remainingRows_u4.same W6
  have Z6 : n0 ≤ h6.size := Nat.le_trans Z2 (Keep.of_wr W6).1
  obtain ⟨Lg6, X6', N6⟩ := own_gen X6 (Fr.snoc X6 N2 g_a0)
  have E_a0_u7 : Exa Z h6 a0 "com/example/headlattice/headlattice/learn/Tally" := (E_a0_u5.wr W6)
  have sl8 := slot_ne (Z := Z) (Or.inr (hw _ (List.mem_of_getElem? (i := 68) rfl))) (Or.inl (hw _ (List.mem_of_getElem? (i := 70) rfl))) (by decide) (t := (.array .long)) (t' := .int) (by decide) (by decide)
  have F_a0_rightRows_u9 : Fld Z h6 a0 "com/example/headlattice/headlattice/learn/Tally" "rightRows" "[J" (.ref a1) := (Fw2.other W6 (Or.inr sl8))
  have sl10 := slot_ne (Z := Z) (Or.inl (hw _ (List.mem_of_getElem? (i := 79) rfl))) (Or.inr (hw _ (List.mem_of_getElem? (i := 68) rfl))) (by decide) (t := .long) (t' := (.array .long)) (by decide) (by decide)
  have sl11 := slot_ne (Z := Z) (Or.inl (hw _ (List.mem_of_getElem? (i := 79) rfl))) (Or.inl (hw _ (List.mem_of_getElem? (i := 70) rfl))) (by decide) (t := .long) (t' := .int) (by decide) (by decide)
  have F_a0_truePositives_u12 : Fld Z h6 a0 "com/example/headlattice/headlattice/learn/Tally" "truePositives" "J" (.long (0 : Int64)) := ((F_truePositives_a0.other W2 (Or.inr sl10)).other W6 (Or.inr sl11))
  have sl13 := slot_ne (Z := Z) (Or.inl (hw _ (List.mem_of_getElem? (i := 81) rfl))) (Or.inr (hw _ (List.mem_of_getElem? (i := 68) rfl))) (by decide) (t := .long) (t' := (.array .long)) (by decide) (by decide)
  have sl14 := slot_ne (Z := Z) (Or.inl (hw _ (List.mem_of_getElem? (i := 81) rfl))) (Or.inl (hw _ (List.mem_of_getElem? (i := 70) rfl))) (by decide) (t := .long) (t' := .int) (by decide) (by decide)
  have F_a0_falsePositives_u15 : Fld Z h6 a0 "com/example/headlattice/headlattice/learn/Tally" "falsePositives" "J" (.long (0 : Int64)) := ((F_falsePositives_a0.other W2 (Or.inr sl13)).other W6 (Or.inr sl14))
  have sl16 := slot_ne (Z := Z) (Or.inl (hw _ (List.mem_of_getElem? (i := 83) rfl))) (Or.inr (hw _ (List.mem_of_getElem? (i := 68) rfl))) (by decide) (t := .long) (t' := (.array .long)) (by decide) (by decide)
  have sl17 := slot_ne (Z := Z) (Or.inl (hw _ (List.mem_of_getElem? (i := 83) rfl))) (Or.inl (hw _ (List.mem_of_getElem? (i := 70) rfl))) (by decide) (t := .long) (t' := .int) (by decide) (by decide)
  have F_a0_trueNegatives_u18 : Fld Z h6 a0 "com/example/headlattice/headlattice/learn/Tally" "trueNegatives" "J" (.long (0 : Int64)) := ((F_trueNegatives_a0.other W2 (Or.inr sl16)).other W6 (Or.inr sl17))
  have sl19 := slot_ne (Z := Z) (Or.inl (hw _ (List.mem_of_getElem? (i := 85) rfl))) (Or.inr (hw _ (List.mem_of_getElem? (i := 68) rfl))) (by decide) (t := .long) (t' := (.array .long)) (by decide) (by decide)
  have sl20 := slot_ne (Z := Z) (Or.inl (hw _ (List.mem_of_getElem? (i := 85) rfl))) (Or.inl (hw _ (List.mem_of_getElem? (i := 70) rfl))) (by decide) (t := .long) (t' := .int) (by decide) (by decide)
  have F_a0_falseNegatives_u21 : Fld Z h6 a0 "com/example/headlattice/headlattice/learn/Tally" "falseNegatives" "J" (.long (0 : Int64)) := ((F_falseNegatives_a0.other W2 (Or.inr sl19)).other W6 (Or.inr sl20))
  obtain ⟨fs, hr, hrun, hended, hW, hsame⟩ := X6'.leave (v := none) (fun _ => rfl)
  refine ⟨_, _, pre0 _ ?_, hrun, hended, _, _, rfl, ?_, ⟨_, rfl⟩, hW, hsame.mono (by decide) (by decide)⟩
  · show Steps p.tables e below (s₁.setTop (mkF m 0 #[.val (.ref a0), .val (.ref a1), .val (.int p2)] [])) _
    refine XS.aloadN X0.here hx rfl (hb hby d9_0) rfl rfl ?_
    show Steps p.tables e below (s₁.setTop (mkF m 1 #[.val (.ref a0), .val (.ref a1), .val (.int p2)] [(.ref a0)])) _
    refine st1 _ ?_
    show Steps p.tables e below (T1.setTop (mkF m 4 #[.val (.ref a0), .val (.ref a1), .val (.int p2)] [])) _
    refine XS.aloadN X1.here hx rfl (hb hby d9_4) rfl rfl ?_
    show Steps p.tables e below (T1.setTop (mkF m 5 #[.val (.ref a0), .val (.ref a1), .val (.int p2)] [(.ref a0)])) _
    refine XS.aloadN X1.here hx rfl (hb hby d9_5) rfl rfl ?_
    show Steps p.tables e below (T1.setTop (mkF m 6 #[.val (.ref a0), .val (.ref a1), .val (.int p2)] [(.ref a1), (.ref a0)])) _
    refine st2 _ ?_
    show Steps p.tables e below (T2.setTop (mkF m 9 #[.val (.ref a0), .val (.ref a1), .val (.int p2)] [])) _
    refine XS.aloadN X2'.here hx rfl (hb hby d9_9) rfl rfl ?_
    show Steps p.tables e below (T2.setTop (mkF m 10 #[.val (.ref a0), .val (.ref a1), .val (.int p2)] [(.ref a0)])) _
    refine XS.iloadN X2'.here hx rfl (hb hby d9_10) rfl ?_
    show Steps p.tables e below (T2.setTop (mkF m 11 #[.val (.ref a0), .val (.ref a1), .val (.int p2)] [(.int p2), (.ref a0)])) _
    refine st6 _ ?_
    show Steps p.tables e below (T6.setTop (mkF m 14 #[.val (.ref a0), .val (.ref a1), .val (.int p2)] [])) _
    exact X6'.returnOut hx Bd.returns (hb hby d9_14) hr
  · show Q9 Z a0 a1 p2 h0 n0 _ T6.heap _
    rw [e6]
    exact ⟨rfl, N6, K6, E_a0_u7, F_a0_rightRows_u9, Fw6, F_a0_truePositives_u12, F_a0_falsePositives_u15, F_a0_trueNegatives_u18, F_a0_falseNegatives_u21⟩
theorem ef_rm9n (m : MethodId) (a0 : Addr) : entryFrame m #[(.ref a0), .null, (.int (0 : Int32))] 3 = mkF m 0 #[.val (.ref a0), .val .null, .val (.int (0 : Int32))] [] := by first | (simp [entryFrame, mkF, argsToLocals, Value.category]; done) | rfl
def Q9n (Z : State) (a0 : Addr) (h0 : Heap) (n0 : Nat) (v : Option Value) (h : Heap) (L : List Loc) : Prop := v = none ∧ Fr n0 L ∧ Keep h0 h [a0] ∧ Exa Z h a0 "com/example/headlattice/headlattice/learn/Tally" ∧ Fld Z h a0 "com/example/headlattice/headlattice/learn/Tally" "rightRows" "[J" .null ∧ Fld Z h a0 "com/example/headlattice/headlattice/learn/Tally" "remainingRows" "I" (.int (0 : Int32)) ∧ Fld Z h a0 "com/example/headlattice/headlattice/learn/Tally" "truePositives" "J" (.long (0 : Int64)) ∧ Fld Z h a0 "com/example/headlattice/headlattice/learn/Tally" "falsePositives" "J" (.long (0 : Int64)) ∧ Fld Z h a0 "com/example/headlattice/headlattice/learn/Tally" "trueNegatives" "J" (.long (0 : Int64)) ∧ Fld Z h a0 "com/example/headlattice/headlattice/learn/Tally" "falseNegatives" "J" (.long (0 : Int64))
set_option maxRecDepth 65536 in
set_option maxHeartbeats 40000000 in
theorem rm9n (l : Launch) (Z : State) (az : Array Value) (hw : ∀ d ∈ tables_1, d.before az Z = true) (ws : List Jvm.Cond) (a0 : Addr) (h0 : Heap) (n0 : Nat) (Z0 : n0 ≤ h0.size) (E_a0 : Exa Z h0 a0 "com/example/headlattice/headlattice/learn/Tally") (F_rightRows_a0 : Fld Z h0 a0 "com/example/headlattice/headlattice/learn/Tally" "rightRows" "[J" .null) (F_remainingRows_a0 : Fld Z h0 a0 "com/example/headlattice/headlattice/learn/Tally" "remainingRows" "I" (.int (0 : Int32))) (F_truePositives_a0 : Fld Z h0 a0 "com/example/headlattice/headlattice/learn/Tally" "truePositives" "J" (.long (0 : Int64))) (F_falsePositives_a0 : Fld Z h0 a0 "com/example/headlattice/headlattice/learn/Tally" "falsePositives" "J" (.long (0 : Int64))) (F_trueNegatives_a0 : Fld Z h0 a0 "com/example/headlattice/headlattice/learn/Tally" "trueNegatives" "J" (.long (0 : Int64))) (F_falseNegatives_a0 : Fld Z h0 a0 "com/example/headlattice/headlattice/learn/Tally" "falseNegatives" "J" (.long (0 : Int64))) (g_a0 : n0 ≤ a0) :
    MetFree l (⟨"com/example/headlattice/headlattice/learn/Tally", "<init>", "([JI)V"⟩ : MethodName) (head1 (Jvm.Cond.code (⟨"com/example/headlattice/headlattice/learn/Tally", "<init>", "([JI)V"⟩ : MethodName) prog_42_method_2_code 3 none :: ws) ({ frames := 1, cells := 0, slots := 0, locals := 12 } : Room)) (fun a U => a = #[(.ref a0), .null, (.int (0 : Int32))] ∧ Z.Warmed39 U.vm ∧ U.heap = h0) (fun _ _ _ _ _ => True) (fun _ U o U' => ∃ v L, o = .returned v ∧ Q9n Z a0 h0 n0 v U'.heap L ∧ FrameEnd U o U' L ({ frames := 1, cells := 0, slots := 0, locals := 12 } : Room).cells ({ frames := 1, cells := 0, slots := 0, locals := 12 } : Room).slots) := by
  refine MetFree.of_bodySF (plainFor_of_name pn_com_example_headlattice_headlattice_learn_Tally) hisR ?_
  intro p e s m args below meth c s₁ Bd hml0 hP hK
  obtain ⟨rfl, hZ, hh⟩ := hP
  have hx := Bd.exec
  have hby := Bd.bytes
  have hml : c.maxLocals = 3 := hml0
  have hown : s.vm.findClass "com/example/headlattice/headlattice/learn/Tally" = some m.cls := findClass_of_methodNamed Bd.named
  have hnm := (name_of_methodNamed Bd.named Bd.method).1
  have X0 : Stand p l e ({ frames := 1, cells := 0, slots := 0, locals := 12 } : Room) s m #[(.ref a0), .null, (.int (0 : Int32))] below meth c s₁ [] 0 0 := Stand.of_body Bd
  have e0 : s₁.heap = h0 := by rw [← hh, Bd.state]; rfl
  have N0 := Fr.nil n0
  have pre0 : ∀ t, Steps p.tables e below (s₁.setTop (mkF m 0 #[.val (.ref a0), .val .null, .val (.int (0 : Int32))] [])) t → Steps p.tables e below (s₁.setTop (entryFrame m #[(.ref a0), .null, (.int (0 : Int32))] 3)) t := fun t k => castTop (ef_rm9n m a0) k
  obtain ⟨T1, X1, e1, st1⟩ := initO X0 hx hZ hown (hw _ (List.mem_of_getElem? (i := 66) rfl)) (hw _ (List.mem_of_getElem? (i := 7) rfl)) (hw _ (List.mem_of_getElem? (i := 8) rfl)) e0 (g := (mkF m 1 #[.val (.ref a0), .val .null, .val (.int (0 : Int32))] [(.ref a0)])) rfl (by rw [hml]; rfl) rfl (hb hby d9_1) (by decide) (W := 0) (by show 2 * 0 + _ ≤ _; exact Nat.le_of_eq rfl) (by decide)
  obtain ⟨T2, h2, X2, e2, W2, st2⟩ := putF X1 hx hZ hown (host := "") (Or.inl (hw _ (List.mem_of_getElem? (i := 67) rfl))) Via.refl e1 F_rightRows_a0 E_a0 (Or.inr ⟨(hw _ (List.mem_of_getElem? (i := 68) rfl)), rfl, hnm⟩) (hw _ (List.mem_of_getElem? (i := 52) rfl)) (ty := (.array .long)) (by decide) rfl rfl (g := (mkF m 6 #[.val (.ref a0), .val .null, .val (.int (0 : Int32))] [.null, (.ref a0)])) rfl rfl (hb hby d9_6)
  have K2 : Keep h0 h2 [a0] := (Keep.refl h0 [a0]).wr W2 (Or.inl (List.mem_of_getElem? (i := 0) rfl))
  have Fw2 := F_rightRows_a0.same W2
  have Z2 : n0 ≤ h2.size := Nat.le_trans Z0 (Keep.of_wr W2).1
  obtain ⟨Lg2, X2', N2⟩ := own_gen X2 (Fr.snoc X2 N0 g_a0)
  have sl3 := slot_ne (Z := Z) (Or.inl (hw _ (List.mem_of_getElem? (i := 70) rfl))) (Or.inr (hw _ (List.mem_of_getElem? (i := 68) rfl))) (by decide) (t := .int) (t' := (.array .long)) (by decide) (by decide)
  have F_a0_remainingRows_u4 : Fld Z h2 a0 "com/example/headlattice/headlattice/learn/Tally" "remainingRows" "I" (.int (0 : Int32)) := (F_remainingRows_a0.other W2 (Or.inr sl3))
  have E_a0_u5 : Exa Z h2 a0 "com/example/headlattice/headlattice/learn/Tally" := (E_a0.wr W2)
  obtain ⟨T6, h6, X6, e6, W6, st6⟩ := putF X2' hx hZ hown (host := "") (Or.inl (hw _ (List.mem_of_getElem? (i := 69) rfl))) Via.refl e2 F_a0_remainingRows_u4 E_a0_u5 (Or.inl (hw _ (List.mem_of_getElem? (i := 70) rfl))) (hw _ (List.mem_of_getElem? (i := 52) rfl)) (ty := .int) (by decide) rfl rfl (g := (mkF m 11 #[.val (.ref a0), .val .null, .val (.int (0 : Int32))] [(.int (0 : Int32)), (.ref a0)])) rfl rfl (hb hby d9_11)
  have K6 : Keep h0 h6 [a0] := K2.wr W6 (Or.inl (List.mem_of_getElem? (i := 0) rfl))
  have Fw6 := F_a0_remainingRows_u4.same W6
  have Z6 : n0 ≤ h6.size := Nat.le_trans Z2 (Keep.of_wr W6).1
  obtain ⟨Lg6, X6', N6⟩ := own_gen X6 (Fr.snoc X6 N2 g_a0)
  have E_a0_u7 : Exa Z h6 a0 "com/example/headlattice/headlattice/learn/Tally" := (E_a0_u5.wr W6)
  have sl8 := slot_ne (Z := Z) (Or.inr (hw _ (List.mem_of_getElem? (i := 68) rfl))) (Or.inl (hw _ (List.mem_of_getElem? (i := 70) rfl))) (by decide) (t := (.array .long)) (t' := .int) (by decide) (by decide)
  have F_a0_rightRows_u9 : Fld Z h6 a0 "com/example/headlattice/headlattice/learn/Tally" "rightRows" "[J" .null := (Fw2.other W6 (Or.inr sl8))
  have sl10 := slot_ne (Z := Z) (Or.inl (hw _ (List.mem_of_getElem? (i := 79) rfl))) (Or.inr (hw _ (List.mem_of_getElem? (i := 68) rfl))) (by decide) (t := .long) (t' := (.array .long)) (by decide) (by decide)
  have sl11 := slot_ne (Z := Z) (Or.inl (hw _ (List.mem_of_getElem? (i := 79) rfl))) (Or.inl (hw _ (List.mem_of_getElem? (i := 70) rfl))) (by decide) (t := .long) (t' := .int) (by decide) (by decide)
  have F_a0_truePositives_u12 : Fld Z h6 a0 "com/example/headlattice/headlattice/learn/Tally" "truePositives" "J" (.long (0 : Int64)) := ((F_truePositives_a0.other W2 (Or.inr sl10)).other W6 (Or.inr sl11))
  have sl13 := slot_ne (Z := Z) (Or.inl (hw _ (List.mem_of_getElem? (i := 81) rfl))) (Or.inr (hw _ (List.mem_of_getElem? (i := 68) rfl))) (by decide) (t := .long) (t' := (.array .long)) (by decide) (by decide)
  have sl14 := slot_ne (Z := Z) (Or.inl (hw _ (List.mem_of_getElem? (i := 81) rfl))) (Or.inl (hw _ (List.mem_of_getElem? (i := 70) rfl))) (by decide) (t := .long) (t' := .int) (by decide) (by decide)
  have F_a0_falsePositives_u15 : Fld Z h6 a0 "com/example/headlattice/headlattice/learn/Tally" "falsePositives" "J" (.long (0 : Int64)) := ((F_falsePositives_a0.other W2 (Or.inr sl13)).other W6 (Or.inr sl14))
  have sl16 := slot_ne (Z := Z) (Or.inl (hw _ (List.mem_of_getElem? (i := 83) rfl))) (Or.inr (hw _ (List.mem_of_getElem? (i := 68) rfl))) (by decide) (t := .long) (t' := (.array .long)) (by decide) (by decide)
  have sl17 := slot_ne (Z := Z) (Or.inl (hw _ (List.mem_of_getElem? (i := 83) rfl))) (Or.inl (hw _ (List.mem_of_getElem? (i := 70) rfl))) (by decide) (t := .long) (t' := .int) (by decide) (by decide)
  have F_a0_trueNegatives_u18 : Fld Z h6 a0 "com/example/headlattice/headlattice/learn/Tally" "trueNegatives" "J" (.long (0 : Int64)) := ((F_trueNegatives_a0.other W2 (Or.inr sl16)).other W6 (Or.inr sl17))
  have sl19 := slot_ne (Z := Z) (Or.inl (hw _ (List.mem_of_getElem? (i := 85) rfl))) (Or.inr (hw _ (List.mem_of_getElem? (i := 68) rfl))) (by decide) (t := .long) (t' := (.array .long)) (by decide) (by decide)
  have sl20 := slot_ne (Z := Z) (Or.inl (hw _ (List.mem_of_getElem? (i := 85) rfl))) (Or.inl (hw _ (List.mem_of_getElem? (i := 70) rfl))) (by decide) (t := .long) (t' := .int) (by decide) (by decide)
  have F_a0_falseNegatives_u21 : Fld Z h6 a0 "com/example/headlattice/headlattice/learn/Tally" "falseNegatives" "J" (.long (0 : Int64)) := ((F_falseNegatives_a0.other W2 (Or.inr sl19)).other W6 (Or.inr sl20))
  obtain ⟨fs, hr, hrun, hended, hW, hsame⟩ := X6'.leave (v := none) (fun _ => rfl)
  refine ⟨_, _, pre0 _ ?_, hrun, hended, _, _, rfl, ?_, ⟨_, rfl⟩, hW, hsame.mono (by decide) (by decide)⟩
  · show Steps p.tables e below (s₁.setTop (mkF m 0 #[.val (.ref a0), .val .null, .val (.int (0 : Int32))] [])) _
    refine XS.aloadN X0.here hx rfl (hb hby d9_0) rfl rfl ?_
    show Steps p.tables e below (s₁.setTop (mkF m 1 #[.val (.ref a0), .val .null, .val (.int (0 : Int32))] [(.ref a0)])) _
    refine st1 _ ?_
    show Steps p.tables e below (T1.setTop (mkF m 4 #[.val (.ref a0), .val .null, .val (.int (0 : Int32))] [])) _
    refine XS.aloadN X1.here hx rfl (hb hby d9_4) rfl rfl ?_
    show Steps p.tables e below (T1.setTop (mkF m 5 #[.val (.ref a0), .val .null, .val (.int (0 : Int32))] [(.ref a0)])) _
    refine XS.aloadN X1.here hx rfl (hb hby d9_5) rfl rfl ?_
    show Steps p.tables e below (T1.setTop (mkF m 6 #[.val (.ref a0), .val .null, .val (.int (0 : Int32))] [.null, (.ref a0)])) _
    refine st2 _ ?_
    show Steps p.tables e below (T2.setTop (mkF m 9 #[.val (.ref a0), .val .null, .val (.int (0 : Int32))] [])) _
    refine XS.aloadN X2'.here hx rfl (hb hby d9_9) rfl rfl ?_
    show Steps p.tables e below (T2.setTop (mkF m 10 #[.val (.ref a0), .val .null, .val (.int (0 : Int32))] [(.ref a0)])) _
    refine XS.iloadN X2'.here hx rfl (hb hby d9_10) rfl ?_
    show Steps p.tables e below (T2.setTop (mkF m 11 #[.val (.ref a0), .val .null, .val (.int (0 : Int32))] [(.int (0 : Int32)), (.ref a0)])) _
    refine st6 _ ?_
    show Steps p.tables e below (T6.setTop (mkF m 14 #[.val (.ref a0), .val .null, .val (.int (0 : Int32))] [])) _
    exact X6'.returnOut hx Bd.returns (hb hby d9_14) hr
  · show Q9n Z a0 h0 n0 _ T6.heap _
    rw [e6]
    exact ⟨rfl, N6, K6, E_a0_u7, F_a0_rightRows_u9, Fw6, F_a0_truePositives_u12, F_a0_falsePositives_u15, F_a0_trueNegatives_u18, F_a0_falseNegatives_u21⟩
theorem d11_0 : decode prog_42_method_1_code 0 = .ok (.aload_n 0, 1) := by decide +kernel
theorem d11_1 : decode prog_42_method_1_code 1 = .ok (.aconst_null, 1) := by decide +kernel
theorem d11_2 : decode prog_42_method_1_code 2 = .ok (.iconst 0, 1) := by decide +kernel
theorem d11_3 : decode prog_42_method_1_code 3 = .ok (.invokespecial 1, 3) := by decide +kernel
theorem pd_0 : parseMethodDescriptor "([JI)V" = some ⟨[(.array .long), .int], none⟩ := by decide +kernel
theorem d11_6 : decode prog_42_method_1_code 6 = .ok (.return_, 1) := by decide +kernel
theorem ef_rm11 (m : MethodId) (a0 : Addr) : entryFrame m #[(.ref a0)] 1 = mkF m 0 #[.val (.ref a0)] [] := by first | (simp [entryFrame, mkF, argsToLocals, Value.category]; done) | rfl
def Q11 (Z : State) (a0 : Addr) (h0 : Heap) (n0 : Nat) (v : Option Value) (h : Heap) (L : List Loc) : Prop := v = none ∧ Fr n0 L ∧ Keep h0 h [a0] ∧ Exa Z h a0 "com/example/headlattice/headlattice/learn/Tally" ∧ Fld Z h a0 "com/example/headlattice/headlattice/learn/Tally" "rightRows" "[J" .null ∧ Fld Z h a0 "com/example/headlattice/headlattice/learn/Tally" "remainingRows" "I" (.int (0 : Int32)) ∧ Fld Z h a0 "com/example/headlattice/headlattice/learn/Tally" "truePositives" "J" (.long (0 : Int64)) ∧ Fld Z h a0 "com/example/headlattice/headlattice/learn/Tally" "falsePositives" "J" (.long (0 : Int64)) ∧ Fld Z h a0 "com/example/headlattice/headlattice/learn/Tally" "trueNegatives" "J" (.long (0 : Int64)) ∧ Fld Z h a0 "com/example/headlattice/headlattice/learn/Tally" "falseNegatives" "J" (.long (0 : Int64))
set_option maxRecDepth 65536 in
set_option maxHeartbeats 40000000 in
theorem rm11 (l : Launch) (Z : State) (az : Array Value) (hw : ∀ d ∈ tables_1, d.before az Z = true) (ws : List Jvm.Cond) (a0 : Addr) (h0 : Heap) (n0 : Nat) (Z0 : n0 ≤ h0.size) (E_a0 : Exa Z h0 a0 "com/example/headlattice/headlattice/learn/Tally") (F_rightRows_a0 : Fld Z h0 a0 "com/example/headlattice/headlattice/learn/Tally" "rightRows" "[J" .null) (F_remainingRows_a0 : Fld Z h0 a0 "com/example/headlattice/headlattice/learn/Tally" "remainingRows" "I" (.int (0 : Int32))) (F_truePositives_a0 : Fld Z h0 a0 "com/example/headlattice/headlattice/learn/Tally" "truePositives" "J" (.long (0 : Int64))) (F_falsePositives_a0 : Fld Z h0 a0 "com/example/headlattice/headlattice/learn/Tally" "falsePositives" "J" (.long (0 : Int64))) (F_trueNegatives_a0 : Fld Z h0 a0 "com/example/headlattice/headlattice/learn/Tally" "trueNegatives" "J" (.long (0 : Int64))) (F_falseNegatives_a0 : Fld Z h0 a0 "com/example/headlattice/headlattice/learn/Tally" "falseNegatives" "J" (.long (0 : Int64))) (g_a0 : n0 ≤ a0) :
    MetFree l (⟨"com/example/headlattice/headlattice/learn/Tally", "<init>", "()V"⟩ : MethodName) (head1 (Jvm.Cond.code (⟨"com/example/headlattice/headlattice/learn/Tally", "<init>", "()V"⟩ : MethodName) prog_42_method_1_code 1 none :: ws) ({ frames := 2, cells := 0, slots := 0, locals := 26 } : Room)) (fun a U => a = #[(.ref a0)] ∧ Z.Warmed39 U.vm ∧ U.heap = h0) (fun _ _ _ _ _ => True) (fun _ U o U' => ∃ v L, o = .returned v ∧ Q11 Z a0 h0 n0 v U'.heap L ∧ FrameEnd U o U' L ({ frames := 2, cells := 0, slots := 0, locals := 26 } : Room).cells ({ frames := 2, cells := 0, slots := 0, locals := 26 } : Room).slots) := by
  refine MetFree.of_bodySF (plainFor_of_name pn_com_example_headlattice_headlattice_learn_Tally) hisR ?_
  intro p e s m args below meth c s₁ Bd hml0 hP hK
  obtain ⟨rfl, hZ, hh⟩ := hP
  have hx := Bd.exec
  have hby := Bd.bytes
  have hml : c.maxLocals = 1 := hml0
  have hown : s.vm.findClass "com/example/headlattice/headlattice/learn/Tally" = some m.cls := findClass_of_methodNamed Bd.named
  have hnm := (name_of_methodNamed Bd.named Bd.method).1
  have X0 : Stand p l e ({ frames := 2, cells := 0, slots := 0, locals := 26 } : Room) s m #[(.ref a0)] below meth c s₁ [] 0 0 := Stand.of_body Bd
  have e0 : s₁.heap = h0 := by rw [← hh, Bd.state]; rfl
  have N0 := Fr.nil n0
  have pre0 : ∀ t, Steps p.tables e below (s₁.setTop (mkF m 0 #[.val (.ref a0)] [])) t → Steps p.tables e below (s₁.setTop (entryFrame m #[(.ref a0)] 1)) t := fun t k => castTop (ef_rm11 m a0) k
  obtain ⟨_, _, ⟨T1, L1, k1', n1'⟩, -, X1, ⟨Lc1, hQ1, l1, y1, z1⟩, st1⟩ := X0.specialBack hx (y := (⟨"com/example/headlattice/headlattice/learn/Tally", "<init>", "([JI)V"⟩ : MethodName)) rfl hown (mvT hZ (hw _ (List.mem_of_getElem? (i := 63) rfl))) (mvT hZ (hw _ (List.mem_of_getElem? (i := 64) rfl))) (mvT hZ (hw _ (List.mem_of_getElem? (i := 65) rfl))) (by decide) (backOf (W := 0) (rm9n l Z az hw [] a0 h0 n0 Z0 E_a0 F_rightRows_a0 F_remainingRows_a0 F_truePositives_a0 F_falsePositives_a0 F_trueNegatives_a0 F_falseNegatives_a0 g_a0) hZ (hw _ (List.mem_of_getElem? (i := 65) rfl)) (hw _ (List.mem_of_getElem? (i := 43) rfl)) (by decide) (by decide)) (g := (mkF m 3 #[.val (.ref a0)] [(.int (0 : Int32)), .null, (.ref a0)])) rfl (by rw [hml]; rfl) (Steps.refl _) (a := a0) (argsL := [.null, (.int (0 : Int32))]) (rest := []) (lenOf pd_0 rfl) rfl (by show 2 * 0 + _ ≤ _; exact Nat.le_of_eq rfl) (hb hby d11_3) (fun _ _ => ⟨rfl, e0, (by decide : 0 + 0 ≤ _), (by decide : 0 + 0 ≤ _)⟩)
  dsimp only [Pt.U, Pt.locs, Pt.cells, Pt.slots] at X1 l1 y1 z1 st1 hQ1
  subst l1 y1 z1
  obtain ⟨rfl, N1q, kq1, pf1_0, pf1_1, pf1_2, pf1_3, pf1_4, pf1_5, pf1_6⟩ := hQ1
  obtain ⟨Lg1, X1', N1⟩ := own_gen X1 (Fr.app N0 N1q)
  have K1 : Keep h0 T1.heap [a0] := (Keep.refl h0 [a0]).trans kq1 (allS (Or.inl (List.mem_of_getElem? (i := 0) rfl)) all0)
  have Z1 : n0 ≤ T1.heap.size := Nat.le_trans Z0 kq1.1
  obtain ⟨fs, hr, hrun, hended, hW, hsame⟩ := X1'.leave (v := none) (fun _ => rfl)
  refine ⟨_, _, pre0 _ ?_, hrun, hended, _, _, rfl, ?_, ⟨_, rfl⟩, hW, hsame.mono (by decide) (by decide)⟩
  · show Steps p.tables e below (s₁.setTop (mkF m 0 #[.val (.ref a0)] [])) _
    refine XS.aloadN X0.here hx rfl (hb hby d11_0) rfl rfl ?_
    show Steps p.tables e below (s₁.setTop (mkF m 1 #[.val (.ref a0)] [(.ref a0)])) _
    refine XS.aconstNull X0.here hx rfl (hb hby d11_1) ?_
    show Steps p.tables e below (s₁.setTop (mkF m 2 #[.val (.ref a0)] [.null, (.ref a0)])) _
    refine XS.iconst X0.here hx rfl (hb hby d11_2) ?_
    show Steps p.tables e below (s₁.setTop (mkF m 3 #[.val (.ref a0)] [(.int (0 : Int32)), .null, (.ref a0)])) _
    refine st1.trans ?_
    show Steps p.tables e below (T1.setTop (mkF m 6 #[.val (.ref a0)] [])) _
    exact X1'.returnOut hx Bd.returns (hb hby d11_6) hr
  · show Q11 Z a0 h0 n0 _ T1.heap _
    exact ⟨rfl, N1, K1, pf1_0, pf1_1, pf1_2, pf1_3, pf1_4, pf1_5, pf1_6⟩
theorem d1_0 : decode prog_21_method_1_code 0 = .ok (.aload_n 0, 1) := by decide +kernel
theorem d1_1 : decode prog_21_method_1_code 1 = .ok (.invokespecial 1, 3) := by decide +kernel
theorem d1_4 : decode prog_21_method_1_code 4 = .ok (.iload_n 1, 1) := by decide +kernel
theorem d1_5 : decode prog_21_method_1_code 5 = .ok (.iconst 1, 1) := by decide +kernel
theorem d1_6 : decode prog_21_method_1_code 6 = .ok (.if_icmp .ge 17, 3) := by decide +kernel
theorem d1_23 : decode prog_21_method_1_code 23 = .ok (.aload_n 0, 1) := by decide +kernel
theorem d1_24 : decode prog_21_method_1_code 24 = .ok (.iload_n 1, 1) := by decide +kernel
theorem d1_25 : decode prog_21_method_1_code 25 = .ok (.putfield 16, 3) := by decide +kernel
theorem d1_28 : decode prog_21_method_1_code 28 = .ok (.aload_n 0, 1) := by decide +kernel
theorem d1_29 : decode prog_21_method_1_code 29 = .ok (.bipush 8, 2) := by decide +kernel
theorem d1_31 : decode prog_21_method_1_code 31 = .ok (.anewarray 22, 3) := by decide +kernel
theorem d1_34 : decode prog_21_method_1_code 34 = .ok (.putfield 24, 3) := by decide +kernel
theorem d1_37 : decode prog_21_method_1_code 37 = .ok (.aload_n 0, 1) := by decide +kernel
theorem d1_38 : decode prog_21_method_1_code 38 = .ok (.bipush 8, 2) := by decide +kernel
theorem d1_40 : decode prog_21_method_1_code 40 = .ok (.newarray .boolean, 2) := by decide +kernel
theorem d1_42 : decode prog_21_method_1_code 42 = .ok (.putfield 28, 3) := by decide +kernel
theorem d1_45 : decode prog_21_method_1_code 45 = .ok (.aload_n 0, 1) := by decide +kernel
theorem d1_46 : decode prog_21_method_1_code 46 = .ok (.iconst 2, 1) := by decide +kernel
theorem d1_47 : decode prog_21_method_1_code 47 = .ok (.iload_n 1, 1) := by decide +kernel
theorem d1_48 : decode prog_21_method_1_code 48 = .ok (.imul, 1) := by decide +kernel
theorem d1_49 : decode prog_21_method_1_code 49 = .ok (.newarray .int, 2) := by decide +kernel
theorem d1_51 : decode prog_21_method_1_code 51 = .ok (.putfield 32, 3) := by decide +kernel
theorem d1_54 : decode prog_21_method_1_code 54 = .ok (.aload_n 0, 1) := by decide +kernel
theorem d1_55 : decode prog_21_method_1_code 55 = .ok (.iconst 2, 1) := by decide +kernel
theorem d1_56 : decode prog_21_method_1_code 56 = .ok (.iload_n 1, 1) := by decide +kernel
theorem d1_57 : decode prog_21_method_1_code 57 = .ok (.imul, 1) := by decide +kernel
theorem d1_58 : decode prog_21_method_1_code 58 = .ok (.newarray .int, 2) := by decide +kernel
theorem d1_60 : decode prog_21_method_1_code 60 = .ok (.putfield 35, 3) := by decide +kernel
theorem d1_63 : decode prog_21_method_1_code 63 = .ok (.aload_n 0, 1) := by decide +kernel
theorem d1_64 : decode prog_21_method_1_code 64 = .ok (.iload_n 1, 1) := by decide +kernel
theorem d1_65 : decode prog_21_method_1_code 65 = .ok (.newarray .int, 2) := by decide +kernel
theorem d1_67 : decode prog_21_method_1_code 67 = .ok (.putfield 38, 3) := by decide +kernel
theorem d1_70 : decode prog_21_method_1_code 70 = .ok (.return_, 1) := by decide +kernel
theorem pn_com_example_headlattice_headlattice_learn_Coverage : plainName "com/example/headlattice/headlattice/learn/Coverage" = true := by first | (simp [plainName, overriddenIn]; done) | decide +kernel
theorem ef_rm1 (m : MethodId) (a0 : Addr) : entryFrame m #[(.ref a0), (.int (1 : Int32))] 2 = mkF m 0 #[.val (.ref a0), .val (.int (1 : Int32))] [] := by first | (simp [entryFrame, mkF, argsToLocals, Value.category]; done) | rfl
def Q1 (Z : State) (a0 : Addr) (h0 : Heap) (n0 : Nat) (v : Option Value) (h : Heap) (L : List Loc) : Prop := ∃ r0 : Addr, ∃ r1 : Addr, ∃ r2 : Addr, ∃ r3 : Addr, ∃ r4 : Addr, ∃ rk0 : ClassId, ∃ rk1 : ClassId, ∃ rk2 : ClassId, ∃ rk3 : ClassId, ∃ rk4 : ClassId, v = none ∧ Fr n0 L ∧ h0.size ≤ r0 ∧ r0 < r1 ∧ r1 < r2 ∧ r2 < r3 ∧ r3 < r4 ∧ Keep h0 h [a0] ∧ Exa Z h a0 "com/example/headlattice/headlattice/learn/Coverage" ∧ Fld Z h a0 "com/example/headlattice/headlattice/learn/Coverage" "labelCount" "I" (.int (1 : Int32)) ∧ Fld Z h a0 "com/example/headlattice/headlattice/learn/Coverage" "openPairs" "[[I" (.ref r0) ∧ Fld Z h a0 "com/example/headlattice/headlattice/learn/Coverage" "covered" "[Z" (.ref r1) ∧ Fld Z h a0 "com/example/headlattice/headlattice/learn/Coverage" "coveredCounts" "[I" (.ref r2) ∧ Fld Z h a0 "com/example/headlattice/headlattice/learn/Coverage" "openCounts" "[I" (.ref r3) ∧ Fld Z h a0 "com/example/headlattice/headlattice/learn/Coverage" "ones" "[I" (.ref r4) ∧ Fld Z h a0 "com/example/headlattice/headlattice/learn/Coverage" "rowCount" "I" (.int (0 : Int32)) ∧ Fld Z h a0 "com/example/headlattice/headlattice/learn/Coverage" "pairsShared" "Z" (.int (0 : Int32)) ∧ Fld Z h a0 "com/example/headlattice/headlattice/learn/Coverage" "remainingCount" "I" (.int (0 : Int32)) ∧ Exa Z h r0 "[[I" ∧ Arv Z h r0 rk0 (.array .int) (8 : Int32) [.null, .null, .null, .null, .null, .null, .null, .null] .null ∧ Exa Z h r1 "[Z" ∧ Arv Z h r1 rk1 .boolean (8 : Int32) [(.int (0 : Int32)), (.int (0 : Int32)), (.int (0 : Int32)), (.int (0 : Int32)), (.int (0 : Int32)), (.int (0 : Int32)), (.int (0 : Int32)), (.int (0 : Int32))] (.int (0 : Int32)) ∧ Exa Z h r2 "[I" ∧ Arv Z h r2 rk2 .int (2 : Int32) [(.int (0 : Int32)), (.int (0 : Int32))] (.int (0 : Int32)) ∧ Exa Z h r3 "[I" ∧ Arv Z h r3 rk3 .int (2 : Int32) [(.int (0 : Int32)), (.int (0 : Int32))] (.int (0 : Int32)) ∧ Exa Z h r4 "[I" ∧ Arv Z h r4 rk4 .int (1 : Int32) [(.int (0 : Int32))] (.int (0 : Int32)) ∧ OvrA Z rk0 .int "[I"
set_option maxRecDepth 65536 in
set_option maxHeartbeats 40000000 in
theorem rm1 (l : Launch) (Z : State) (az : Array Value) (hw : ∀ d ∈ tables_1, d.before az Z = true) (ws : List Jvm.Cond) (a0 : Addr) (h0 : Heap) (n0 : Nat) (Z0 : n0 ≤ h0.size) (E_a0 : Exa Z h0 a0 "com/example/headlattice/headlattice/learn/Coverage") (F_labelCount_a0 : Fld Z h0 a0 "com/example/headlattice/headlattice/learn/Coverage" "labelCount" "I" (.int (0 : Int32))) (F_openPairs_a0 : Fld Z h0 a0 "com/example/headlattice/headlattice/learn/Coverage" "openPairs" "[[I" .null) (F_covered_a0 : Fld Z h0 a0 "com/example/headlattice/headlattice/learn/Coverage" "covered" "[Z" .null) (F_coveredCounts_a0 : Fld Z h0 a0 "com/example/headlattice/headlattice/learn/Coverage" "coveredCounts" "[I" .null) (F_openCounts_a0 : Fld Z h0 a0 "com/example/headlattice/headlattice/learn/Coverage" "openCounts" "[I" .null) (F_ones_a0 : Fld Z h0 a0 "com/example/headlattice/headlattice/learn/Coverage" "ones" "[I" .null) (F_rowCount_a0 : Fld Z h0 a0 "com/example/headlattice/headlattice/learn/Coverage" "rowCount" "I" (.int (0 : Int32))) (F_pairsShared_a0 : Fld Z h0 a0 "com/example/headlattice/headlattice/learn/Coverage" "pairsShared" "Z" (.int (0 : Int32))) (F_remainingCount_a0 : Fld Z h0 a0 "com/example/headlattice/headlattice/learn/Coverage" "remainingCount" "I" (.int (0 : Int32))) (g_a0 : n0 ≤ a0) :
    MetFree l (⟨"com/example/headlattice/headlattice/learn/Coverage", "<init>", "(I)V"⟩ : MethodName) (head1 (Jvm.Cond.code (⟨"com/example/headlattice/headlattice/learn/Coverage", "<init>", "(I)V"⟩ : MethodName) prog_21_method_1_code 2 none :: ws) ({ frames := 1, cells := 5, slots := 21, locals := 12 } : Room)) (fun a U => a = #[(.ref a0), (.int (1 : Int32))] ∧ Z.Warmed39 U.vm ∧ U.heap = h0) (fun _ _ _ _ _ => True) (fun _ U o U' => ∃ v L, o = .returned v ∧ Q1 Z a0 h0 n0 v U'.heap L ∧ FrameEnd U o U' L ({ frames := 1, cells := 5, slots := 21, locals := 12 } : Room).cells ({ frames := 1, cells := 5, slots := 21, locals := 12 } : Room).slots) := by
  refine MetFree.of_bodySF (plainFor_of_name pn_com_example_headlattice_headlattice_learn_Coverage) hisR ?_
  intro p e s m args below meth c s₁ Bd hml0 hP hK
  obtain ⟨rfl, hZ, hh⟩ := hP
  have hx := Bd.exec
  have hby := Bd.bytes
  have hml : c.maxLocals = 2 := hml0
  have hown : s.vm.findClass "com/example/headlattice/headlattice/learn/Coverage" = some m.cls := findClass_of_methodNamed Bd.named
  have hnm := (name_of_methodNamed Bd.named Bd.method).1
  have X0 : Stand p l e ({ frames := 1, cells := 5, slots := 21, locals := 12 } : Room) s m #[(.ref a0), (.int (1 : Int32))] below meth c s₁ [] 0 0 := Stand.of_body Bd
  have e0 : s₁.heap = h0 := by rw [← hh, Bd.state]; rfl
  have N0 := Fr.nil n0
  have pre0 : ∀ t, Steps p.tables e below (s₁.setTop (mkF m 0 #[.val (.ref a0), .val (.int (1 : Int32))] [])) t → Steps p.tables e below (s₁.setTop (entryFrame m #[(.ref a0), (.int (1 : Int32))] 2)) t := fun t k => castTop (ef_rm1 m a0) k
  obtain ⟨T1, X1, e1, st1⟩ := initO X0 hx hZ hown (hw _ (List.mem_of_getElem? (i := 6) rfl)) (hw _ (List.mem_of_getElem? (i := 7) rfl)) (hw _ (List.mem_of_getElem? (i := 8) rfl)) e0 (g := (mkF m 1 #[.val (.ref a0), .val (.int (1 : Int32))] [(.ref a0)])) rfl (by rw [hml]; rfl) rfl (hb hby d1_1) (by decide) (W := 0) (by show 2 * 0 + _ ≤ _; exact Nat.le_of_eq rfl) (by decide)
  obtain ⟨T2, h2, X2, e2, W2, st2⟩ := putF X1 hx hZ hown (host := "") (Or.inl (hw _ (List.mem_of_getElem? (i := 9) rfl))) Via.refl e1 F_labelCount_a0 E_a0 (Or.inr ⟨(hw _ (List.mem_of_getElem? (i := 10) rfl)), rfl, hnm⟩) (hw _ (List.mem_of_getElem? (i := 1) rfl)) (ty := .int) (by decide) rfl rfl (g := (mkF m 25 #[.val (.ref a0), .val (.int (1 : Int32))] [(.int (1 : Int32)), (.ref a0)])) rfl rfl (hb hby d1_25)
  have K2 : Keep h0 h2 [a0] := (Keep.refl h0 [a0]).wr W2 (Or.inl (List.mem_of_getElem? (i := 0) rfl))
  have Fw2 := F_labelCount_a0.same W2
  have Z2 : n0 ≤ h2.size := Nat.le_trans Z0 (Keep.of_wr W2).1
  obtain ⟨Lg2, X2', N2⟩ := own_gen X2 (Fr.snoc X2 N0 g_a0)
  obtain ⟨T3, h3, k3, X3, e3, E3, A3, x3, O3, st3⟩ := newRA X2' hx hZ hown (C := "[I") (ty := .int) (by decide) (hw _ (List.mem_of_getElem? (i := 11) rfl)) (hw _ (List.mem_of_getElem? (i := 12) rfl)) e2 (g := (mkF m 31 #[.val (.ref a0), .val (.int (1 : Int32))] [(.int (8 : Int32)), (.ref a0)])) rfl (hb hby d1_31) rfl (by decide) (cap := 8) (by decide) (by decide) (by decide) (by decide) (ad := "[[I") (by decide)
  obtain ⟨b3, g3⟩ : ∃ z, z = h2.size := ⟨_, rfl⟩
  rw [← g3] at A3 x3 st3
  have g_b3 : n0 ≤ b3 := Nat.le_trans Z2 (Nat.le_of_eq g3.symm)
  have sz_b3 : h0.size ≤ b3 := Nat.le_trans K2.1 (Nat.le_of_eq g3.symm)
  have Z3 : n0 ≤ h3.size := Nat.le_trans Z2 E3.1
  have K3 : Keep h0 h3 [a0] := K2.ext E3
  have E_b3 := x3
  have V_b3 : Arv Z h3 b3 k3 (.array .int) (8 : Int32) [.null, .null, .null, .null, .null, .null, .null, .null] .null := (Arv.new A3 (by decide)).pad (pad_rep [] .null 8)
  have sl4 := slot_ne (Z := Z) (Or.inl (hw _ (List.mem_of_getElem? (i := 14) rfl))) (Or.inr (hw _ (List.mem_of_getElem? (i := 10) rfl))) (by decide) (t := (.array (.array .int))) (t' := .int) (by decide) (by decide)
  have F_a0_openPairs_u5 : Fld Z h3 a0 "com/example/headlattice/headlattice/learn/Coverage" "openPairs" "[[I" .null := ((F_openPairs_a0.other W2 (Or.inr sl4)).ext E3)
  have E_a0_u6 : Exa Z h3 a0 "com/example/headlattice/headlattice/learn/Coverage" := ((E_a0.wr W2).ext E3)
  obtain ⟨T7, h7, X7, e7, W7, st7⟩ := putF X3 hx hZ hown (host := "") (Or.inl (hw _ (List.mem_of_getElem? (i := 13) rfl))) Via.refl e3 F_a0_openPairs_u5 E_a0_u6 (Or.inl (hw _ (List.mem_of_getElem? (i := 14) rfl))) (hw _ (List.mem_of_getElem? (i := 1) rfl)) (ty := (.array (.array .int))) (by decide) rfl rfl (g := (mkF m 34 #[.val (.ref a0), .val (.int (1 : Int32))] [(.ref b3), (.ref a0)])) rfl rfl (hb hby d1_34)
  have K7 : Keep h0 h7 [a0] := K3.wr W7 (Or.inl (List.mem_of_getElem? (i := 0) rfl))
  have Fw7 := F_a0_openPairs_u5.same W7
  have Z7 : n0 ≤ h7.size := Nat.le_trans Z3 (Keep.of_wr W7).1
  obtain ⟨Lg7, X7', N7⟩ := own_gen X7 (Fr.snoc X7 N2 g_a0)
  obtain ⟨T8, h8, k8, X8, e8, E8, A8, x8, st8⟩ := newPE X7' hx hZ (hw _ (List.mem_of_getElem? (i := 15) rfl)) e7 (g := (mkF m 40 #[.val (.ref a0), .val (.int (1 : Int32))] [(.int (8 : Int32)), (.ref a0)])) rfl (hb hby d1_40) rfl (by decide) (cap := 8) (by decide) (by decide) (by decide) (by decide) (ad := "[Z") (by decide)
  obtain ⟨b8, g8⟩ : ∃ z, z = h7.size := ⟨_, rfl⟩
  rw [← g8] at A8 x8 st8
  have g_b8 : n0 ≤ b8 := Nat.le_trans Z7 (Nat.le_of_eq g8.symm)
  have sz_b8 : h0.size ≤ b8 := Nat.le_trans K7.1 (Nat.le_of_eq g8.symm)
  have Z8 : n0 ≤ h8.size := Nat.le_trans Z7 E8.1
  have K8 : Keep h0 h8 [a0] := K7.ext E8
  have E_b8 := x8
  have V_b8 : Arv Z h8 b8 k8 .boolean (8 : Int32) [(.int (0 : Int32)), (.int (0 : Int32)), (.int (0 : Int32)), (.int (0 : Int32)), (.int (0 : Int32)), (.int (0 : Int32)), (.int (0 : Int32)), (.int (0 : Int32))] (.int (0 : Int32)) := (Arv.new A8 (by decide)).pad (pad_rep [] (.int (0 : Int32)) 8)
  have sl9 := slot_ne (Z := Z) (Or.inl (hw _ (List.mem_of_getElem? (i := 17) rfl))) (Or.inr (hw _ (List.mem_of_getElem? (i := 10) rfl))) (by decide) (t := (.array .boolean)) (t' := .int) (by decide) (by decide)
  have sl10 := slot_ne (Z := Z) (Or.inl (hw _ (List.mem_of_getElem? (i := 17) rfl))) (Or.inl (hw _ (List.mem_of_getElem? (i := 14) rfl))) (by decide) (t := (.array .boolean)) (t' := (.array (.array .int))) (by decide) (by decide)
  have c11 : Fld Z h7 a0 "com/example/headlattice/headlattice/learn/Coverage" "covered" "[Z" .null := (((F_covered_a0.other W2 (Or.inr sl9)).ext E3).other W7 (Or.inr sl10))
  have F_a0_covered_u12 : Fld Z h8 a0 "com/example/headlattice/headlattice/learn/Coverage" "covered" "[Z" .null := (c11.ext E8)
  have E_a0_u13 : Exa Z h8 a0 "com/example/headlattice/headlattice/learn/Coverage" := ((E_a0_u6.wr W7).ext E8)
  obtain ⟨T14, h14, X14, e14, W14, st14⟩ := putF X8 hx hZ hown (host := "") (Or.inl (hw _ (List.mem_of_getElem? (i := 16) rfl))) Via.refl e8 F_a0_covered_u12 E_a0_u13 (Or.inl (hw _ (List.mem_of_getElem? (i := 17) rfl))) (hw _ (List.mem_of_getElem? (i := 1) rfl)) (ty := (.array .boolean)) (by decide) rfl rfl (g := (mkF m 42 #[.val (.ref a0), .val (.int (1 : Int32))] [(.ref b8), (.ref a0)])) rfl rfl (hb hby d1_42)
  have K14 : Keep h0 h14 [a0] := K8.wr W14 (Or.inl (List.mem_of_getElem? (i := 0) rfl))
  have Fw14 := F_a0_covered_u12.same W14
  have Z14 : n0 ≤ h14.size := Nat.le_trans Z8 (Keep.of_wr W14).1
  obtain ⟨Lg14, X14', N14⟩ := own_gen X14 (Fr.snoc X14 N7 g_a0)
  obtain ⟨T15, h15, k15, X15, e15, E15, A15, x15, st15⟩ := newPE X14' hx hZ (hw _ (List.mem_of_getElem? (i := 18) rfl)) e14 (g := (mkF m 49 #[.val (.ref a0), .val (.int (1 : Int32))] [(.int (2 : Int32)), (.ref a0)])) rfl (hb hby d1_49) rfl (by decide) (cap := 2) (by decide) (by decide) (by decide) (by decide) (ad := "[I") (by decide)
  obtain ⟨b15, g15⟩ : ∃ z, z = h14.size := ⟨_, rfl⟩
  rw [← g15] at A15 x15 st15
  have g_b15 : n0 ≤ b15 := Nat.le_trans Z14 (Nat.le_of_eq g15.symm)
  have sz_b15 : h0.size ≤ b15 := Nat.le_trans K14.1 (Nat.le_of_eq g15.symm)
  have Z15 : n0 ≤ h15.size := Nat.le_trans Z14 E15.1
  have K15 : Keep h0 h15 [a0] := K14.ext E15
  have E_b15 := x15
  have V_b15 : Arv Z h15 b15 k15 .int (2 : Int32) [(.int (0 : Int32)), (.int (0 : Int32))] (.int (0 : Int32)) := (Arv.new A15 (by decide)).pad (pad_rep [] (.int (0 : Int32)) 2)
  have sl16 := slot_ne (Z := Z) (Or.inr (hw _ (List.mem_of_getElem? (i := 20) rfl))) (Or.inr (hw _ (List.mem_of_getElem? (i := 10) rfl))) (by decide) (t := (.array .int)) (t' := .int) (by decide) (by decide)
  have sl17 := slot_ne (Z := Z) (Or.inr (hw _ (List.mem_of_getElem? (i := 20) rfl))) (Or.inl (hw _ (List.mem_of_getElem? (i := 14) rfl))) (by decide) (t := (.array .int)) (t' := (.array (.array .int))) (by decide) (by decide)
  have c18 : Fld Z h7 a0 "com/example/headlattice/headlattice/learn/Coverage" "coveredCounts" "[I" .null := (((F_coveredCounts_a0.other W2 (Or.inr sl16)).ext E3).other W7 (Or.inr sl17))
  have sl19 := slot_ne (Z := Z) (Or.inr (hw _ (List.mem_of_getElem? (i := 20) rfl))) (Or.inl (hw _ (List.mem_of_getElem? (i := 17) rfl))) (by decide) (t := (.array .int)) (t' := (.array .boolean)) (by decide) (by decide)
  have F_a0_coveredCounts_u20 : Fld Z h15 a0 "com/example/headlattice/headlattice/learn/Coverage" "coveredCounts" "[I" .null := (((c18.ext E8).other W14 (Or.inr sl19)).ext E15)
  have E_a0_u21 : Exa Z h15 a0 "com/example/headlattice/headlattice/learn/Coverage" := ((E_a0_u13.wr W14).ext E15)
  obtain ⟨T22, h22, X22, e22, W22, st22⟩ := putF X15 hx hZ hown (host := "") (Or.inl (hw _ (List.mem_of_getElem? (i := 19) rfl))) Via.refl e15 F_a0_coveredCounts_u20 E_a0_u21 (Or.inr ⟨(hw _ (List.mem_of_getElem? (i := 20) rfl)), rfl, hnm⟩) (hw _ (List.mem_of_getElem? (i := 1) rfl)) (ty := (.array .int)) (by decide) rfl rfl (g := (mkF m 51 #[.val (.ref a0), .val (.int (1 : Int32))] [(.ref b15), (.ref a0)])) rfl rfl (hb hby d1_51)
  have K22 : Keep h0 h22 [a0] := K15.wr W22 (Or.inl (List.mem_of_getElem? (i := 0) rfl))
  have Fw22 := F_a0_coveredCounts_u20.same W22
  have Z22 : n0 ≤ h22.size := Nat.le_trans Z15 (Keep.of_wr W22).1
  obtain ⟨Lg22, X22', N22⟩ := own_gen X22 (Fr.snoc X22 N14 g_a0)
  obtain ⟨T23, h23, k23, X23, e23, E23, A23, x23, st23⟩ := newPE X22' hx hZ (hw _ (List.mem_of_getElem? (i := 18) rfl)) e22 (g := (mkF m 58 #[.val (.ref a0), .val (.int (1 : Int32))] [(.int (2 : Int32)), (.ref a0)])) rfl (hb hby d1_58) rfl (by decide) (cap := 2) (by decide) (by decide) (by decide) (by decide) (ad := "[I") (by decide)
  obtain ⟨b23, g23⟩ : ∃ z, z = h22.size := ⟨_, rfl⟩
  rw [← g23] at A23 x23 st23
  have g_b23 : n0 ≤ b23 := Nat.le_trans Z22 (Nat.le_of_eq g23.symm)
  have sz_b23 : h0.size ≤ b23 := Nat.le_trans K22.1 (Nat.le_of_eq g23.symm)
  have Z23 : n0 ≤ h23.size := Nat.le_trans Z22 E23.1
  have K23 : Keep h0 h23 [a0] := K22.ext E23
  have E_b23 := x23
  have V_b23 : Arv Z h23 b23 k23 .int (2 : Int32) [(.int (0 : Int32)), (.int (0 : Int32))] (.int (0 : Int32)) := (Arv.new A23 (by decide)).pad (pad_rep [] (.int (0 : Int32)) 2)
  have sl24 := slot_ne (Z := Z) (Or.inr (hw _ (List.mem_of_getElem? (i := 22) rfl))) (Or.inr (hw _ (List.mem_of_getElem? (i := 10) rfl))) (by decide) (t := (.array .int)) (t' := .int) (by decide) (by decide)
  have sl25 := slot_ne (Z := Z) (Or.inr (hw _ (List.mem_of_getElem? (i := 22) rfl))) (Or.inl (hw _ (List.mem_of_getElem? (i := 14) rfl))) (by decide) (t := (.array .int)) (t' := (.array (.array .int))) (by decide) (by decide)
  have c26 : Fld Z h7 a0 "com/example/headlattice/headlattice/learn/Coverage" "openCounts" "[I" .null := (((F_openCounts_a0.other W2 (Or.inr sl24)).ext E3).other W7 (Or.inr sl25))
  have sl27 := slot_ne (Z := Z) (Or.inr (hw _ (List.mem_of_getElem? (i := 22) rfl))) (Or.inl (hw _ (List.mem_of_getElem? (i := 17) rfl))) (by decide) (t := (.array .int)) (t' := (.array .boolean)) (by decide) (by decide)
  have c28 : Fld Z h15 a0 "com/example/headlattice/headlattice/learn/Coverage" "openCounts" "[I" .null := (((c26.ext E8).other W14 (Or.inr sl27)).ext E15)
  have sl29 := slot_ne (Z := Z) (Or.inr (hw _ (List.mem_of_getElem? (i := 22) rfl))) (Or.inr (hw _ (List.mem_of_getElem? (i := 20) rfl))) (by decide) (t := (.array .int)) (t' := (.array .int)) (by decide) (by decide)
  have F_a0_openCounts_u30 : Fld Z h23 a0 "com/example/headlattice/headlattice/learn/Coverage" "openCounts" "[I" .null := ((c28.other W22 (Or.inr sl29)).ext E23)
  have E_a0_u31 : Exa Z h23 a0 "com/example/headlattice/headlattice/learn/Coverage" := ((E_a0_u21.wr W22).ext E23)
  obtain ⟨T32, h32, X32, e32, W32, st32⟩ := putF X23 hx hZ hown (host := "") (Or.inl (hw _ (List.mem_of_getElem? (i := 21) rfl))) Via.refl e23 F_a0_openCounts_u30 E_a0_u31 (Or.inr ⟨(hw _ (List.mem_of_getElem? (i := 22) rfl)), rfl, hnm⟩) (hw _ (List.mem_of_getElem? (i := 1) rfl)) (ty := (.array .int)) (by decide) rfl rfl (g := (mkF m 60 #[.val (.ref a0), .val (.int (1 : Int32))] [(.ref b23), (.ref a0)])) rfl rfl (hb hby d1_60)
  have K32 : Keep h0 h32 [a0] := K23.wr W32 (Or.inl (List.mem_of_getElem? (i := 0) rfl))
  have Fw32 := F_a0_openCounts_u30.same W32
  have Z32 : n0 ≤ h32.size := Nat.le_trans Z23 (Keep.of_wr W32).1
  obtain ⟨Lg32, X32', N32⟩ := own_gen X32 (Fr.snoc X32 N22 g_a0)
  obtain ⟨T33, h33, k33, X33, e33, E33, A33, x33, st33⟩ := newPE X32' hx hZ (hw _ (List.mem_of_getElem? (i := 18) rfl)) e32 (g := (mkF m 65 #[.val (.ref a0), .val (.int (1 : Int32))] [(.int (1 : Int32)), (.ref a0)])) rfl (hb hby d1_65) rfl (by decide) (cap := 1) (by decide) (by decide) (by decide) (by decide) (ad := "[I") (by decide)
  obtain ⟨b33, g33⟩ : ∃ z, z = h32.size := ⟨_, rfl⟩
  rw [← g33] at A33 x33 st33
  have g_b33 : n0 ≤ b33 := Nat.le_trans Z32 (Nat.le_of_eq g33.symm)
  have sz_b33 : h0.size ≤ b33 := Nat.le_trans K32.1 (Nat.le_of_eq g33.symm)
  have Z33 : n0 ≤ h33.size := Nat.le_trans Z32 E33.1
  have K33 : Keep h0 h33 [a0] := K32.ext E33
  have E_b33 := x33
  have V_b33 : Arv Z h33 b33 k33 .int (1 : Int32) [(.int (0 : Int32))] (.int (0 : Int32)) := (Arv.new A33 (by decide)).pad (pad_rep [] (.int (0 : Int32)) 1)
  have sl34 := slot_ne (Z := Z) (Or.inr (hw _ (List.mem_of_getElem? (i := 24) rfl))) (Or.inr (hw _ (List.mem_of_getElem? (i := 10) rfl))) (by decide) (t := (.array .int)) (t' := .int) (by decide) (by decide)
  have sl35 := slot_ne (Z := Z) (Or.inr (hw _ (List.mem_of_getElem? (i := 24) rfl))) (Or.inl (hw _ (List.mem_of_getElem? (i := 14) rfl))) (by decide) (t := (.array .int)) (t' := (.array (.array .int))) (by decide) (by decide)
  have c36 : Fld Z h7 a0 "com/example/headlattice/headlattice/learn/Coverage" "ones" "[I" .null := (((F_ones_a0.other W2 (Or.inr sl34)).ext E3).other W7 (Or.inr sl35))
  have sl37 := slot_ne (Z := Z) (Or.inr (hw _ (List.mem_of_getElem? (i := 24) rfl))) (Or.inl (hw _ (List.mem_of_getElem? (i := 17) rfl))) (by decide) (t := (.array .int)) (t' := (.array .boolean)) (by decide) (by decide)
  have c38 : Fld Z h15 a0 "com/example/headlattice/headlattice/learn/Coverage" "ones" "[I" .null := (((c36.ext E8).other W14 (Or.inr sl37)).ext E15)
  have sl39 := slot_ne (Z := Z) (Or.inr (hw _ (List.mem_of_getElem? (i := 24) rfl))) (Or.inr (hw _ (List.mem_of_getElem? (i := 20) rfl))) (by decide) (t := (.array .int)) (t' := (.array .int)) (by decide) (by decide)
  have sl40 := slot_ne (Z := Z) (Or.inr (hw _ (List.mem_of_getElem? (i := 24) rfl))) (Or.inr (hw _ (List.mem_of_getElem? (i := 22) rfl))) (by decide) (t := (.array .int)) (t' := (.array .int)) (by decide) (by decide)
  have c41 : Fld Z h32 a0 "com/example/headlattice/headlattice/learn/Coverage" "ones" "[I" .null := (((c38.other W22 (Or.inr sl39)).ext E23).other W32 (Or.inr sl40))
  have F_a0_ones_u42 : Fld Z h33 a0 "com/example/headlattice/headlattice/learn/Coverage" "ones" "[I" .null := (c41.ext E33)
  have E_a0_u43 : Exa Z h33 a0 "com/example/headlattice/headlattice/learn/Coverage" := ((E_a0_u31.wr W32).ext E33)
  obtain ⟨T44, h44, X44, e44, W44, st44⟩ := putF X33 hx hZ hown (host := "") (Or.inl (hw _ (List.mem_of_getElem? (i := 23) rfl))) Via.refl e33 F_a0_ones_u42 E_a0_u43 (Or.inr ⟨(hw _ (List.mem_of_getElem? (i := 24) rfl)), rfl, hnm⟩) (hw _ (List.mem_of_getElem? (i := 1) rfl)) (ty := (.array .int)) (by decide) rfl rfl (g := (mkF m 67 #[.val (.ref a0), .val (.int (1 : Int32))] [(.ref b33), (.ref a0)])) rfl rfl (hb hby d1_67)
  have K44 : Keep h0 h44 [a0] := K33.wr W44 (Or.inl (List.mem_of_getElem? (i := 0) rfl))
  have Fw44 := F_a0_ones_u42.same W44
  have Z44 : n0 ≤ h44.size := Nat.le_trans Z33 (Keep.of_wr W44).1
  obtain ⟨Lg44, X44', N44⟩ := own_gen X44 (Fr.snoc X44 N32 g_a0)
  have E_a0_u45 : Exa Z h44 a0 "com/example/headlattice/headlattice/learn/Coverage" := (E_a0_u43.wr W44)
  have sl46 := slot_ne (Z := Z) (Or.inr (hw _ (List.mem_of_getElem? (i := 10) rfl))) (Or.inl (hw _ (List.mem_of_getElem? (i := 14) rfl))) (by decide) (t := .int) (t' := (.array (.array .int))) (by decide) (by decide)
  have c47 : Fld Z h8 a0 "com/example/headlattice/headlattice/learn/Coverage" "labelCount" "I" (.int (1 : Int32)) := (((Fw2.ext E3).other W7 (Or.inr sl46)).ext E8)
  have sl48 := slot_ne (Z := Z) (Or.inr (hw _ (List.mem_of_getElem? (i := 10) rfl))) (Or.inl (hw _ (List.mem_of_getElem? (i := 17) rfl))) (by decide) (t := .int) (t' := (.array .boolean)) (by decide) (by decide)
  have sl49 := slot_ne (Z := Z) (Or.inr (hw _ (List.mem_of_getElem? (i := 10) rfl))) (Or.inr (hw _ (List.mem_of_getElem? (i := 20) rfl))) (by decide) (t := .int) (t' := (.array .int)) (by decide) (by decide)
  have c50 : Fld Z h22 a0 "com/example/headlattice/headlattice/learn/Coverage" "labelCount" "I" (.int (1 : Int32)) := (((c47.other W14 (Or.inr sl48)).ext E15).other W22 (Or.inr sl49))
  have sl51 := slot_ne (Z := Z) (Or.inr (hw _ (List.mem_of_getElem? (i := 10) rfl))) (Or.inr (hw _ (List.mem_of_getElem? (i := 22) rfl))) (by decide) (t := .int) (t' := (.array .int)) (by decide) (by decide)
  have c52 : Fld Z h33 a0 "com/example/headlattice/headlattice/learn/Coverage" "labelCount" "I" (.int (1 : Int32)) := (((c50.ext E23).other W32 (Or.inr sl51)).ext E33)
  have sl53 := slot_ne (Z := Z) (Or.inr (hw _ (List.mem_of_getElem? (i := 10) rfl))) (Or.inr (hw _ (List.mem_of_getElem? (i := 24) rfl))) (by decide) (t := .int) (t' := (.array .int)) (by decide) (by decide)
  have F_a0_labelCount_u54 : Fld Z h44 a0 "com/example/headlattice/headlattice/learn/Coverage" "labelCount" "I" (.int (1 : Int32)) := (c52.other W44 (Or.inr sl53))
  have sl55 := slot_ne (Z := Z) (Or.inl (hw _ (List.mem_of_getElem? (i := 14) rfl))) (Or.inl (hw _ (List.mem_of_getElem? (i := 17) rfl))) (by decide) (t := (.array (.array .int))) (t' := (.array .boolean)) (by decide) (by decide)
  have c56 : Fld Z h15 a0 "com/example/headlattice/headlattice/learn/Coverage" "openPairs" "[[I" (.ref b3) := (((Fw7.ext E8).other W14 (Or.inr sl55)).ext E15)
  have sl57 := slot_ne (Z := Z) (Or.inl (hw _ (List.mem_of_getElem? (i := 14) rfl))) (Or.inr (hw _ (List.mem_of_getElem? (i := 20) rfl))) (by decide) (t := (.array (.array .int))) (t' := (.array .int)) (by decide) (by decide)
  have sl58 := slot_ne (Z := Z) (Or.inl (hw _ (List.mem_of_getElem? (i := 14) rfl))) (Or.inr (hw _ (List.mem_of_getElem? (i := 22) rfl))) (by decide) (t := (.array (.array .int))) (t' := (.array .int)) (by decide) (by decide)
  have c59 : Fld Z h32 a0 "com/example/headlattice/headlattice/learn/Coverage" "openPairs" "[[I" (.ref b3) := (((c56.other W22 (Or.inr sl57)).ext E23).other W32 (Or.inr sl58))
  have sl60 := slot_ne (Z := Z) (Or.inl (hw _ (List.mem_of_getElem? (i := 14) rfl))) (Or.inr (hw _ (List.mem_of_getElem? (i := 24) rfl))) (by decide) (t := (.array (.array .int))) (t' := (.array .int)) (by decide) (by decide)
  have F_a0_openPairs_u61 : Fld Z h44 a0 "com/example/headlattice/headlattice/learn/Coverage" "openPairs" "[[I" (.ref b3) := ((c59.ext E33).other W44 (Or.inr sl60))
  have sl62 := slot_ne (Z := Z) (Or.inl (hw _ (List.mem_of_getElem? (i := 17) rfl))) (Or.inr (hw _ (List.mem_of_getElem? (i := 20) rfl))) (by decide) (t := (.array .boolean)) (t' := (.array .int)) (by decide) (by decide)
  have c63 : Fld Z h23 a0 "com/example/headlattice/headlattice/learn/Coverage" "covered" "[Z" (.ref b8) := (((Fw14.ext E15).other W22 (Or.inr sl62)).ext E23)
  have sl64 := slot_ne (Z := Z) (Or.inl (hw _ (List.mem_of_getElem? (i := 17) rfl))) (Or.inr (hw _ (List.mem_of_getElem? (i := 22) rfl))) (by decide) (t := (.array .boolean)) (t' := (.array .int)) (by decide) (by decide)
  have sl65 := slot_ne (Z := Z) (Or.inl (hw _ (List.mem_of_getElem? (i := 17) rfl))) (Or.inr (hw _ (List.mem_of_getElem? (i := 24) rfl))) (by decide) (t := (.array .boolean)) (t' := (.array .int)) (by decide) (by decide)
  have F_a0_covered_u66 : Fld Z h44 a0 "com/example/headlattice/headlattice/learn/Coverage" "covered" "[Z" (.ref b8) := (((c63.other W32 (Or.inr sl64)).ext E33).other W44 (Or.inr sl65))
  have sl67 := slot_ne (Z := Z) (Or.inr (hw _ (List.mem_of_getElem? (i := 20) rfl))) (Or.inr (hw _ (List.mem_of_getElem? (i := 22) rfl))) (by decide) (t := (.array .int)) (t' := (.array .int)) (by decide) (by decide)
  have c68 : Fld Z h33 a0 "com/example/headlattice/headlattice/learn/Coverage" "coveredCounts" "[I" (.ref b15) := (((Fw22.ext E23).other W32 (Or.inr sl67)).ext E33)
  have sl69 := slot_ne (Z := Z) (Or.inr (hw _ (List.mem_of_getElem? (i := 20) rfl))) (Or.inr (hw _ (List.mem_of_getElem? (i := 24) rfl))) (by decide) (t := (.array .int)) (t' := (.array .int)) (by decide) (by decide)
  have F_a0_coveredCounts_u70 : Fld Z h44 a0 "com/example/headlattice/headlattice/learn/Coverage" "coveredCounts" "[I" (.ref b15) := (c68.other W44 (Or.inr sl69))
  have sl71 := slot_ne (Z := Z) (Or.inr (hw _ (List.mem_of_getElem? (i := 22) rfl))) (Or.inr (hw _ (List.mem_of_getElem? (i := 24) rfl))) (by decide) (t := (.array .int)) (t' := (.array .int)) (by decide) (by decide)
  have F_a0_openCounts_u72 : Fld Z h44 a0 "com/example/headlattice/headlattice/learn/Coverage" "openCounts" "[I" (.ref b23) := ((Fw32.ext E33).other W44 (Or.inr sl71))
  have sl73 := slot_ne (Z := Z) (Or.inl (hw _ (List.mem_of_getElem? (i := 31) rfl))) (Or.inr (hw _ (List.mem_of_getElem? (i := 10) rfl))) (by decide) (t := .int) (t' := .int) (by decide) (by decide)
  have sl74 := slot_ne (Z := Z) (Or.inl (hw _ (List.mem_of_getElem? (i := 31) rfl))) (Or.inl (hw _ (List.mem_of_getElem? (i := 14) rfl))) (by decide) (t := .int) (t' := (.array (.array .int))) (by decide) (by decide)
  have c75 : Fld Z h7 a0 "com/example/headlattice/headlattice/learn/Coverage" "rowCount" "I" (.int (0 : Int32)) := (((F_rowCount_a0.other W2 (Or.inr sl73)).ext E3).other W7 (Or.inr sl74))
  have sl76 := slot_ne (Z := Z) (Or.inl (hw _ (List.mem_of_getElem? (i := 31) rfl))) (Or.inl (hw _ (List.mem_of_getElem? (i := 17) rfl))) (by decide) (t := .int) (t' := (.array .boolean)) (by decide) (by decide)
  have c77 : Fld Z h15 a0 "com/example/headlattice/headlattice/learn/Coverage" "rowCount" "I" (.int (0 : Int32)) := (((c75.ext E8).other W14 (Or.inr sl76)).ext E15)
  have sl78 := slot_ne (Z := Z) (Or.inl (hw _ (List.mem_of_getElem? (i := 31) rfl))) (Or.inr (hw _ (List.mem_of_getElem? (i := 20) rfl))) (by decide) (t := .int) (t' := (.array .int)) (by decide) (by decide)
  have sl79 := slot_ne (Z := Z) (Or.inl (hw _ (List.mem_of_getElem? (i := 31) rfl))) (Or.inr (hw _ (List.mem_of_getElem? (i := 22) rfl))) (by decide) (t := .int) (t' := (.array .int)) (by decide) (by decide)
  have c80 : Fld Z h32 a0 "com/example/headlattice/headlattice/learn/Coverage" "rowCount" "I" (.int (0 : Int32)) := (((c77.other W22 (Or.inr sl78)).ext E23).other W32 (Or.inr sl79))
  have sl81 := slot_ne (Z := Z) (Or.inl (hw _ (List.mem_of_getElem? (i := 31) rfl))) (Or.inr (hw _ (List.mem_of_getElem? (i := 24) rfl))) (by decide) (t := .int) (t' := (.array .int)) (by decide) (by decide)
  have F_a0_rowCount_u82 : Fld Z h44 a0 "com/example/headlattice/headlattice/learn/Coverage" "rowCount" "I" (.int (0 : Int32)) := ((c80.ext E33).other W44 (Or.inr sl81))
  have sl83 := slot_ne (Z := Z) (Or.inl (hw _ (List.mem_of_getElem? (i := 37) rfl))) (Or.inr (hw _ (List.mem_of_getElem? (i := 10) rfl))) (by decide) (t := .boolean) (t' := .int) (by decide) (by decide)
  have sl84 := slot_ne (Z := Z) (Or.inl (hw _ (List.mem_of_getElem? (i := 37) rfl))) (Or.inl (hw _ (List.mem_of_getElem? (i := 14) rfl))) (by decide) (t := .boolean) (t' := (.array (.array .int))) (by decide) (by decide)
  have c85 : Fld Z h7 a0 "com/example/headlattice/headlattice/learn/Coverage" "pairsShared" "Z" (.int (0 : Int32)) := (((F_pairsShared_a0.other W2 (Or.inr sl83)).ext E3).other W7 (Or.inr sl84))
  have sl86 := slot_ne (Z := Z) (Or.inl (hw _ (List.mem_of_getElem? (i := 37) rfl))) (Or.inl (hw _ (List.mem_of_getElem? (i := 17) rfl))) (by decide) (t := .boolean) (t' := (.array .boolean)) (by decide) (by decide)
  have c87 : Fld Z h15 a0 "com/example/headlattice/headlattice/learn/Coverage" "pairsShared" "Z" (.int (0 : Int32)) := (((c85.ext E8).other W14 (Or.inr sl86)).ext E15)
  have sl88 := slot_ne (Z := Z) (Or.inl (hw _ (List.mem_of_getElem? (i := 37) rfl))) (Or.inr (hw _ (List.mem_of_getElem? (i := 20) rfl))) (by decide) (t := .boolean) (t' := (.array .int)) (by decide) (by decide)
  have sl89 := slot_ne (Z := Z) (Or.inl (hw _ (List.mem_of_getElem? (i := 37) rfl))) (Or.inr (hw _ (List.mem_of_getElem? (i := 22) rfl))) (by decide) (t := .boolean) (t' := (.array .int)) (by decide) (by decide)
  have c90 : Fld Z h32 a0 "com/example/headlattice/headlattice/learn/Coverage" "pairsShared" "Z" (.int (0 : Int32)) := (((c87.other W22 (Or.inr sl88)).ext E23).other W32 (Or.inr sl89))
  have sl91 := slot_ne (Z := Z) (Or.inl (hw _ (List.mem_of_getElem? (i := 37) rfl))) (Or.inr (hw _ (List.mem_of_getElem? (i := 24) rfl))) (by decide) (t := .boolean) (t' := (.array .int)) (by decide) (by decide)
  have F_a0_pairsShared_u92 : Fld Z h44 a0 "com/example/headlattice/headlattice/learn/Coverage" "pairsShared" "Z" (.int (0 : Int32)) := ((c90.ext E33).other W44 (Or.inr sl91))
  have sl93 := slot_ne (Z := Z) (Or.inl (hw _ (List.mem_of_getElem? (i := 39) rfl))) (Or.inr (hw _ (List.mem_of_getElem? (i := 10) rfl))) (by decide) (t := .int) (t' := .int) (by decide) (by decide)
  have sl94 := slot_ne (Z := Z) (Or.inl (hw _ (List.mem_of_getElem? (i := 39) rfl))) (Or.inl (hw _ (List.mem_of_getElem? (i := 14) rfl))) (by decide) (t := .int) (t' := (.array (.array .int))) (by decide) (by decide)
  have c95 : Fld Z h7 a0 "com/example/headlattice/headlattice/learn/Coverage" "remainingCount" "I" (.int (0 : Int32)) := (((F_remainingCount_a0.other W2 (Or.inr sl93)).ext E3).other W7 (Or.inr sl94))
  have sl96 := slot_ne (Z := Z) (Or.inl (hw _ (List.mem_of_getElem? (i := 39) rfl))) (Or.inl (hw _ (List.mem_of_getElem? (i := 17) rfl))) (by decide) (t := .int) (t' := (.array .boolean)) (by decide) (by decide)
  have c97 : Fld Z h15 a0 "com/example/headlattice/headlattice/learn/Coverage" "remainingCount" "I" (.int (0 : Int32)) := (((c95.ext E8).other W14 (Or.inr sl96)).ext E15)
  have sl98 := slot_ne (Z := Z) (Or.inl (hw _ (List.mem_of_getElem? (i := 39) rfl))) (Or.inr (hw _ (List.mem_of_getElem? (i := 20) rfl))) (by decide) (t := .int) (t' := (.array .int)) (by decide) (by decide)
  have sl99 := slot_ne (Z := Z) (Or.inl (hw _ (List.mem_of_getElem? (i := 39) rfl))) (Or.inr (hw _ (List.mem_of_getElem? (i := 22) rfl))) (by decide) (t := .int) (t' := (.array .int)) (by decide) (by decide)
  have c100 : Fld Z h32 a0 "com/example/headlattice/headlattice/learn/Coverage" "remainingCount" "I" (.int (0 : Int32)) := (((c97.other W22 (Or.inr sl98)).ext E23).other W32 (Or.inr sl99))
  have sl101 := slot_ne (Z := Z) (Or.inl (hw _ (List.mem_of_getElem? (i := 39) rfl))) (Or.inr (hw _ (List.mem_of_getElem? (i := 24) rfl))) (by decide) (t := .int) (t' := (.array .int)) (by decide) (by decide)
  have F_a0_remainingCount_u102 : Fld Z h44 a0 "com/example/headlattice/headlattice/learn/Coverage" "remainingCount" "I" (.int (0 : Int32)) := ((c100.ext E33).other W44 (Or.inr sl101))
  have c103 : Exa Z h14 b3 "[[I" := (((E_b3.wr W7).ext E8).wr W14)
  have c104 : Exa Z h23 b3 "[[I" := (((c103.ext E15).wr W22).ext E23)
  have E_b3_u105 : Exa Z h44 b3 "[[I" := (((c104.wr W32).ext E33).wr W44)
  have ne_a0_b3 : a0 ≠ b3 := own_ne (Nat.lt_of_lt_of_le (E_a0.wr W2).lt (Nat.le_of_eq g3.symm))
  have c106 : Arv Z h14 b3 k3 (.array .int) (8 : Int32) [.null, .null, .null, .null, .null, .null, .null, .null] .null := (((V_b3.other W7 (Ne.symm ne_a0_b3)).ext E8).other W14 (Ne.symm ne_a0_b3))
  have c107 : Arv Z h23 b3 k3 (.array .int) (8 : Int32) [.null, .null, .null, .null, .null, .null, .null, .null] .null := (((c106.ext E15).other W22 (Ne.symm ne_a0_b3)).ext E23)
  have V_b3_u108 : Arv Z h44 b3 k3 (.array .int) (8 : Int32) [.null, .null, .null, .null, .null, .null, .null, .null] .null := (((c107.other W32 (Ne.symm ne_a0_b3)).ext E33).other W44 (Ne.symm ne_a0_b3))
  have c109 : Exa Z h22 b8 "[Z" := (((E_b8.wr W14).ext E15).wr W22)
  have c110 : Exa Z h33 b8 "[Z" := (((c109.ext E23).wr W32).ext E33)
  have E_b8_u111 : Exa Z h44 b8 "[Z" := (c110.wr W44)
  have ne_a0_b8 : a0 ≠ b8 := own_ne (Nat.lt_of_lt_of_le (E_a0_u6.wr W7).lt (Nat.le_of_eq g8.symm))
  have c112 : Arv Z h22 b8 k8 .boolean (8 : Int32) [(.int (0 : Int32)), (.int (0 : Int32)), (.int (0 : Int32)), (.int (0 : Int32)), (.int (0 : Int32)), (.int (0 : Int32)), (.int (0 : Int32)), (.int (0 : Int32))] (.int (0 : Int32)) := (((V_b8.other W14 (Ne.symm ne_a0_b8)).ext E15).other W22 (Ne.symm ne_a0_b8))
  have c113 : Arv Z h33 b8 k8 .boolean (8 : Int32) [(.int (0 : Int32)), (.int (0 : Int32)), (.int (0 : Int32)), (.int (0 : Int32)), (.int (0 : Int32)), (.int (0 : Int32)), (.int (0 : Int32)), (.int (0 : Int32))] (.int (0 : Int32)) := (((c112.ext E23).other W32 (Ne.symm ne_a0_b8)).ext E33)
  have V_b8_u114 : Arv Z h44 b8 k8 .boolean (8 : Int32) [(.int (0 : Int32)), (.int (0 : Int32)), (.int (0 : Int32)), (.int (0 : Int32)), (.int (0 : Int32)), (.int (0 : Int32)), (.int (0 : Int32)), (.int (0 : Int32))] (.int (0 : Int32)) := (c113.other W44 (Ne.symm ne_a0_b8))
  have c115 : Exa Z h32 b15 "[I" := (((E_b15.wr W22).ext E23).wr W32)
  have E_b15_u116 : Exa Z h44 b15 "[I" := ((c115.ext E33).wr W44)
  have ne_a0_b15 : a0 ≠ b15 := own_ne (Nat.lt_of_lt_of_le (E_a0_u13.wr W14).lt (Nat.le_of_eq g15.symm))
  have c117 : Arv Z h32 b15 k15 .int (2 : Int32) [(.int (0 : Int32)), (.int (0 : Int32))] (.int (0 : Int32)) := (((V_b15.other W22 (Ne.symm ne_a0_b15)).ext E23).other W32 (Ne.symm ne_a0_b15))
  have V_b15_u118 : Arv Z h44 b15 k15 .int (2 : Int32) [(.int (0 : Int32)), (.int (0 : Int32))] (.int (0 : Int32)) := ((c117.ext E33).other W44 (Ne.symm ne_a0_b15))
  have E_b23_u119 : Exa Z h44 b23 "[I" := (((E_b23.wr W32).ext E33).wr W44)
  have ne_a0_b23 : a0 ≠ b23 := own_ne (Nat.lt_of_lt_of_le (E_a0_u21.wr W22).lt (Nat.le_of_eq g23.symm))
  have V_b23_u120 : Arv Z h44 b23 k23 .int (2 : Int32) [(.int (0 : Int32)), (.int (0 : Int32))] (.int (0 : Int32)) := (((V_b23.other W32 (Ne.symm ne_a0_b23)).ext E33).other W44 (Ne.symm ne_a0_b23))
  have E_b33_u121 : Exa Z h44 b33 "[I" := (E_b33.wr W44)
  have ne_a0_b33 : a0 ≠ b33 := own_ne (Nat.lt_of_lt_of_le (E_a0_u31.wr W32).lt (Nat.le_of_eq g33.symm))
  have V_b33_u122 : Arv Z h44 b33 k33 .int (1 : Int32) [(.int (0 : Int32))] (.int (0 : Int32)) := (V_b33.other W44 (Ne.symm ne_a0_b33))
  obtain ⟨fs, hr, hrun, hended, hW, hsame⟩ := X44'.leave (v := none) (fun _ => rfl)
  refine ⟨_, _, pre0 _ ?_, hrun, hended, _, _, rfl, ?_, ⟨_, rfl⟩, hW, hsame.mono (by decide) (by decide)⟩
  · show Steps p.tables e below (s₁.setTop (mkF m 0 #[.val (.ref a0), .val (.int (1 : Int32))] [])) _
    refine XS.aloadN X0.here hx rfl (hb hby d1_0) rfl rfl ?_
    show Steps p.tables e below (s₁.setTop (mkF m 1 #[.val (.ref a0), .val (.int (1 : Int32))] [(.ref a0)])) _
    refine st1 _ ?_
    show Steps p.tables e below (T1.setTop (mkF m 4 #[.val (.ref a0), .val (.int (1 : Int32))] [])) _
    refine XS.iloadN X1.here hx rfl (hb hby d1_4) rfl ?_
    show Steps p.tables e below (T1.setTop (mkF m 5 #[.val (.ref a0), .val (.int (1 : Int32))] [(.int (1 : Int32))])) _
    refine XS.iconst X1.here hx rfl (hb hby d1_5) ?_
    show Steps p.tables e below (T1.setTop (mkF m 6 #[.val (.ref a0), .val (.int (1 : Int32))] [(.int (1 : Int32)), (.int (1 : Int32))])) _
    refine XS.icmpYes X1.here hx rfl (pc0 := 6) (pc' := 23) rfl (hb hby d1_6) rfl (flt (by decide : ¬ ((1 : Int32) < (1 : Int32)))).2.1 (by decide) (by decide) ?_
    show Steps p.tables e below (T1.setTop (mkF m 23 #[.val (.ref a0), .val (.int (1 : Int32))] [])) _
    refine XS.aloadN X1.here hx rfl (hb hby d1_23) rfl rfl ?_
    show Steps p.tables e below (T1.setTop (mkF m 24 #[.val (.ref a0), .val (.int (1 : Int32))] [(.ref a0)])) _
    refine XS.iloadN X1.here hx rfl (hb hby d1_24) rfl ?_
    show Steps p.tables e below (T1.setTop (mkF m 25 #[.val (.ref a0), .val (.int (1 : Int32))] [(.int (1 : Int32)), (.ref a0)])) _
    refine st2 _ ?_
    show Steps p.tables e below (T2.setTop (mkF m 28 #[.val (.ref a0), .val (.int (1 : Int32))] [])) _
    refine XS.aloadN X2'.here hx rfl (hb hby d1_28) rfl rfl ?_
    show Steps p.tables e below (T2.setTop (mkF m 29 #[.val (.ref a0), .val (.int (1 : Int32))] [(.ref a0)])) _
    refine XS.bipush X2'.here hx rfl (hb hby d1_29) ?_
    show Steps p.tables e below (T2.setTop (mkF m 31 #[.val (.ref a0), .val (.int (1 : Int32))] [(.int (8 : Int32)), (.ref a0)])) _
    refine st3 _ ?_
    show Steps p.tables e below (T3.setTop (mkF m 34 #[.val (.ref a0), .val (.int (1 : Int32))] [(.ref b3), (.ref a0)])) _
    refine st7 _ ?_
    show Steps p.tables e below (T7.setTop (mkF m 37 #[.val (.ref a0), .val (.int (1 : Int32))] [])) _
    refine XS.aloadN X7'.here hx rfl (hb hby d1_37) rfl rfl ?_
    show Steps p.tables e below (T7.setTop (mkF m 38 #[.val (.ref a0), .val (.int (1 : Int32))] [(.ref a0)])) _
    refine XS.bipush X7'.here hx rfl (hb hby d1_38) ?_
    show Steps p.tables e below (T7.setTop (mkF m 40 #[.val (.ref a0), .val (.int (1 : Int32))] [(.int (8 : Int32)), (.ref a0)])) _
    refine st8 _ ?_
    show Steps p.tables e below (T8.setTop (mkF m 42 #[.val (.ref a0), .val (.int (1 : Int32))] [(.ref b8), (.ref a0)])) _
    refine st14 _ ?_
    show Steps p.tables e below (T14.setTop (mkF m 45 #[.val (.ref a0), .val (.int (1 : Int32))] [])) _
    refine XS.aloadN X14'.here hx rfl (hb hby d1_45) rfl rfl ?_
    show Steps p.tables e below (T14.setTop (mkF m 46 #[.val (.ref a0), .val (.int (1 : Int32))] [(.ref a0)])) _
    refine XS.iconst X14'.here hx rfl (hb hby d1_46) ?_
    show Steps p.tables e below (T14.setTop (mkF m 47 #[.val (.ref a0), .val (.int (1 : Int32))] [(.int (2 : Int32)), (.ref a0)])) _
    refine XS.iloadN X14'.here hx rfl (hb hby d1_47) rfl ?_
    show Steps p.tables e below (T14.setTop (mkF m 48 #[.val (.ref a0), .val (.int (1 : Int32))] [(.int (1 : Int32)), (.int (2 : Int32)), (.ref a0)])) _
    refine XS.imul X14'.here hx rfl (hb hby d1_48) rfl ?_
    show Steps p.tables e below (T14.setTop (mkF m 49 #[.val (.ref a0), .val (.int (1 : Int32))] [(.int (2 : Int32)), (.ref a0)])) _
    refine st15 _ ?_
    show Steps p.tables e below (T15.setTop (mkF m 51 #[.val (.ref a0), .val (.int (1 : Int32))] [(.ref b15), (.ref a0)])) _
    refine st22 _ ?_
    show Steps p.tables e below (T22.setTop (mkF m 54 #[.val (.ref a0), .val (.int (1 : Int32))] [])) _
    refine XS.aloadN X22'.here hx rfl (hb hby d1_54) rfl rfl ?_
    show Steps p.tables e below (T22.setTop (mkF m 55 #[.val (.ref a0), .val (.int (1 : Int32))] [(.ref a0)])) _
    refine XS.iconst X22'.here hx rfl (hb hby d1_55) ?_
    show Steps p.tables e below (T22.setTop (mkF m 56 #[.val (.ref a0), .val (.int (1 : Int32))] [(.int (2 : Int32)), (.ref a0)])) _
    refine XS.iloadN X22'.here hx rfl (hb hby d1_56) rfl ?_
    show Steps p.tables e below (T22.setTop (mkF m 57 #[.val (.ref a0), .val (.int (1 : Int32))] [(.int (1 : Int32)), (.int (2 : Int32)), (.ref a0)])) _
    refine XS.imul X22'.here hx rfl (hb hby d1_57) rfl ?_
    show Steps p.tables e below (T22.setTop (mkF m 58 #[.val (.ref a0), .val (.int (1 : Int32))] [(.int (2 : Int32)), (.ref a0)])) _
    refine st23 _ ?_
    show Steps p.tables e below (T23.setTop (mkF m 60 #[.val (.ref a0), .val (.int (1 : Int32))] [(.ref b23), (.ref a0)])) _
    refine st32 _ ?_
    show Steps p.tables e below (T32.setTop (mkF m 63 #[.val (.ref a0), .val (.int (1 : Int32))] [])) _
    refine XS.aloadN X32'.here hx rfl (hb hby d1_63) rfl rfl ?_
    show Steps p.tables e below (T32.setTop (mkF m 64 #[.val (.ref a0), .val (.int (1 : Int32))] [(.ref a0)])) _
    refine XS.iloadN X32'.here hx rfl (hb hby d1_64) rfl ?_
    show Steps p.tables e below (T32.setTop (mkF m 65 #[.val (.ref a0), .val (.int (1 : Int32))] [(.int (1 : Int32)), (.ref a0)])) _
    refine st33 _ ?_
    show Steps p.tables e below (T33.setTop (mkF m 67 #[.val (.ref a0), .val (.int (1 : Int32))] [(.ref b33), (.ref a0)])) _
    refine st44 _ ?_
    show Steps p.tables e below (T44.setTop (mkF m 70 #[.val (.ref a0), .val (.int (1 : Int32))] [])) _
    exact X44'.returnOut hx Bd.returns (hb hby d1_70) hr
  · show Q1 Z a0 h0 n0 _ T44.heap _
    rw [e44]
    exact ⟨b3, b8, b15, b23, b33, k3, k8, k15, k23, k33, rfl, N44, sz_b3, (Nat.lt_of_lt_of_le (E_b3.wr W7).lt (Nat.le_of_eq g8.symm)), (Nat.lt_of_lt_of_le (E_b8.wr W14).lt (Nat.le_of_eq g15.symm)), (Nat.lt_of_lt_of_le (E_b15.wr W22).lt (Nat.le_of_eq g23.symm)), (Nat.lt_of_lt_of_le (E_b23.wr W32).lt (Nat.le_of_eq g33.symm)), K44, E_a0_u45, F_a0_labelCount_u54, F_a0_openPairs_u61, F_a0_covered_u66, F_a0_coveredCounts_u70, F_a0_openCounts_u72, Fw44, F_a0_rowCount_u82, F_a0_pairsShared_u92, F_a0_remainingCount_u102, E_b3_u105, V_b3_u108, E_b8_u111, V_b8_u114, E_b15_u116, V_b15_u118, E_b23_u119, V_b23_u120, E_b33_u121, V_b33_u122, O3⟩
theorem d4_0 : decode prog_21_method_21_code 0 = .ok (.aload_n 0, 1) := by decide +kernel
theorem d4_1 : decode prog_21_method_21_code 1 = .ok (.getfield 41, 3) := by decide +kernel
theorem d4_4 : decode prog_21_method_21_code 4 = .ok (.ifCond .eq 22, 3) := by decide +kernel
theorem d4_26 : decode prog_21_method_21_code 26 = .ok (.return_, 1) := by decide +kernel
theorem ef_rm4 (m : MethodId) (a0 : Addr) : entryFrame m #[(.ref a0)] 1 = mkF m 0 #[.val (.ref a0)] [] := by first | (simp [entryFrame, mkF, argsToLocals, Value.category]; done) | rfl
def Q4 (Z : State) (a0 : Addr) (h0 : Heap) (n0 : Nat) (v : Option Value) (h : Heap) (L : List Loc) : Prop := v = none ∧ Fr n0 L ∧ h = h0
set_option maxRecDepth 65536 in
set_option maxHeartbeats 40000000 in
theorem rm4 (l : Launch) (Z : State) (az : Array Value) (hw : ∀ d ∈ tables_1, d.before az Z = true) (ws : List Jvm.Cond) (a0 : Addr) (h0 : Heap) (n0 : Nat) (Z0 : n0 ≤ h0.size) (F_pairsShared_a0 : Fld Z h0 a0 "com/example/headlattice/headlattice/learn/Coverage" "pairsShared" "Z" (.int (0 : Int32))) :
    MetFree l (⟨"com/example/headlattice/headlattice/learn/Coverage", "ownPairs", "()V"⟩ : MethodName) (head1 (Jvm.Cond.code (⟨"com/example/headlattice/headlattice/learn/Coverage", "ownPairs", "()V"⟩ : MethodName) prog_21_method_21_code 1 none :: ws) ({ frames := 0, cells := 0, slots := 0, locals := 0 } : Room)) (fun a U => a = #[(.ref a0)] ∧ Z.Warmed39 U.vm ∧ U.heap = h0) (fun _ _ _ _ _ => True) (fun _ U o U' => ∃ v L, o = .returned v ∧ Q4 Z a0 h0 n0 v U'.heap L ∧ FrameEnd U o U' L ({ frames := 0, cells := 0, slots := 0, locals := 0 } : Room).cells ({ frames := 0, cells := 0, slots := 0, locals := 0 } : Room).slots) := by
  refine MetFree.of_bodySF (plainFor_of_name pn_com_example_headlattice_headlattice_learn_Coverage) hisR ?_
  intro p e s m args below meth c s₁ Bd hml0 hP hK
  obtain ⟨rfl, hZ, hh⟩ := hP
  have hx := Bd.exec
  have hby := Bd.bytes
  have hml : c.maxLocals = 1 := hml0
  have hown : s.vm.findClass "com/example/headlattice/headlattice/learn/Coverage" = some m.cls := findClass_of_methodNamed Bd.named
  have hnm := (name_of_methodNamed Bd.named Bd.method).1
  have X0 : Stand p l e ({ frames := 0, cells := 0, slots := 0, locals := 0 } : Room) s m #[(.ref a0)] below meth c s₁ [] 0 0 := Stand.of_body Bd
  have e0 : s₁.heap = h0 := by rw [← hh, Bd.state]; rfl
  have N0 := Fr.nil n0
  have pre0 : ∀ t, Steps p.tables e below (s₁.setTop (mkF m 0 #[.val (.ref a0)] [])) t → Steps p.tables e below (s₁.setTop (entryFrame m #[(.ref a0)] 1)) t := fun t k => castTop (ef_rm4 m a0) k
  obtain ⟨T1, X1, e1, st1⟩ := getF X0 hx hZ hown (host := "") (Or.inl (hw _ (List.mem_of_getElem? (i := 36) rfl))) Via.refl e0 F_pairsShared_a0 (g := (mkF m 1 #[.val (.ref a0)] [(.ref a0)])) rfl rfl (hb hby d4_1)
  obtain ⟨fs, hr, hrun, hended, hW, hsame⟩ := X1.leave (v := none) (fun _ => rfl)
  refine ⟨_, _, pre0 _ ?_, hrun, hended, _, _, rfl, ?_, ⟨_, rfl⟩, hW, hsame.mono (by decide) (by decide)⟩
  · show Steps p.tables e below (s₁.setTop (mkF m 0 #[.val (.ref a0)] [])) _
    refine XS.aloadN X0.here hx rfl (hb hby d4_0) rfl rfl ?_
    show Steps p.tables e below (s₁.setTop (mkF m 1 #[.val (.ref a0)] [(.ref a0)])) _
    refine st1 _ ?_
    show Steps p.tables e below (T1.setTop (mkF m 4 #[.val (.ref a0)] [(.int (0 : Int32))])) _
    refine XS.ifYes X1.here hx rfl (pc0 := 4) (pc' := 26) rfl (hb hby d4_4) rfl ((if0 _ _).trans (teq (by decide : (0 : Int32) = (0 : Int32))).1) (by decide) (by decide) ?_
    show Steps p.tables e below (T1.setTop (mkF m 26 #[.val (.ref a0)] [])) _
    exact X1.returnOut hx Bd.returns (hb hby d4_26) hr
  · show Q4 Z a0 h0 n0 _ T1.heap _
    rw [e1]
    exact ⟨rfl, N0, rfl⟩
theorem d3_0 : decode prog_21_method_5_code 0 = .ok (.aload_n 1, 1) := by decide +kernel
theorem d3_1 : decode prog_21_method_5_code 1 = .ok (.arraylength, 1) := by decide +kernel
theorem d3_2 : decode prog_21_method_5_code 2 = .ok (.aload_n 0, 1) := by decide +kernel
theorem d3_3 : decode prog_21_method_5_code 3 = .ok (.getfield 16, 3) := by decide +kernel
theorem d3_6 : decode prog_21_method_5_code 6 = .ok (.if_icmp .eq 22, 3) := by decide +kernel
theorem d3_28 : decode prog_21_method_5_code 28 = .ok (.aload_n 0, 1) := by decide +kernel
theorem d3_29 : decode prog_21_method_5_code 29 = .ok (.getfield 16, 3) := by decide +kernel
theorem d3_32 : decode prog_21_method_5_code 32 = .ok (.newarray .int, 2) := by decide +kernel
theorem d3_34 : decode prog_21_method_5_code 34 = .ok (.astore_n 3, 1) := by decide +kernel
theorem d3_35 : decode prog_21_method_5_code 35 = .ok (.iconst 0, 1) := by decide +kernel
theorem d3_36 : decode prog_21_method_5_code 36 = .ok (.istore 4, 2) := by decide +kernel
theorem d3_38 : decode prog_21_method_5_code 38 = .ok (.iload 4, 2) := by decide +kernel
theorem d3_40 : decode prog_21_method_5_code 40 = .ok (.aload_n 0, 1) := by decide +kernel
theorem d3_41 : decode prog_21_method_5_code 41 = .ok (.getfield 16, 3) := by decide +kernel
theorem d3_44 : decode prog_21_method_5_code 44 = .ok (.if_icmp .ge 52, 3) := by decide +kernel
theorem d3_47 : decode prog_21_method_5_code 47 = .ok (.aload_n 1, 1) := by decide +kernel
theorem d3_48 : decode prog_21_method_5_code 48 = .ok (.iload 4, 2) := by decide +kernel
theorem d3_50 : decode prog_21_method_5_code 50 = .ok (.iaload, 1) := by decide +kernel
theorem d3_51 : decode prog_21_method_5_code 51 = .ok (.istore 5, 2) := by decide +kernel
theorem d3_53 : decode prog_21_method_5_code 53 = .ok (.iload 5, 2) := by decide +kernel
theorem d3_55 : decode prog_21_method_5_code 55 = .ok (.ifCond .eq 24, 3) := by decide +kernel
theorem d3_79 : decode prog_21_method_5_code 79 = .ok (.aload_n 3, 1) := by decide +kernel
theorem d3_80 : decode prog_21_method_5_code 80 = .ok (.iload 4, 2) := by decide +kernel
theorem d3_82 : decode prog_21_method_5_code 82 = .ok (.iconst 2, 1) := by decide +kernel
theorem d3_83 : decode prog_21_method_5_code 83 = .ok (.iload 4, 2) := by decide +kernel
theorem d3_85 : decode prog_21_method_5_code 85 = .ok (.imul, 1) := by decide +kernel
theorem d3_86 : decode prog_21_method_5_code 86 = .ok (.iload 5, 2) := by decide +kernel
theorem d3_88 : decode prog_21_method_5_code 88 = .ok (.iadd, 1) := by decide +kernel
theorem d3_89 : decode prog_21_method_5_code 89 = .ok (.iastore, 1) := by decide +kernel
theorem d3_90 : decode prog_21_method_5_code 90 = .ok (.iinc 4 1, 3) := by decide +kernel
theorem d3_93 : decode prog_21_method_5_code 93 = .ok (.goto (-55), 3) := by decide +kernel
theorem d3_96 : decode prog_21_method_5_code 96 = .ok (.aload_n 0, 1) := by decide +kernel
theorem d3_97 : decode prog_21_method_5_code 97 = .ok (.getfield 50, 3) := by decide +kernel
theorem d3_100 : decode prog_21_method_5_code 100 = .ok (.aload_n 0, 1) := by decide +kernel
theorem d3_101 : decode prog_21_method_5_code 101 = .ok (.getfield 24, 3) := by decide +kernel
theorem d3_104 : decode prog_21_method_5_code 104 = .ok (.arraylength, 1) := by decide +kernel
theorem d3_105 : decode prog_21_method_5_code 105 = .ok (.if_icmp .ne 45, 3) := by decide +kernel
theorem d3_150 : decode prog_21_method_5_code 150 = .ok (.aload_n 0, 1) := by decide +kernel
theorem d3_151 : decode prog_21_method_5_code 151 = .ok (.invokevirtual 74, 3) := by decide +kernel
theorem pd_1 : parseMethodDescriptor "()V" = some ⟨[], none⟩ := by decide +kernel
theorem d3_154 : decode prog_21_method_5_code 154 = .ok (.aload_n 0, 1) := by decide +kernel
theorem d3_155 : decode prog_21_method_5_code 155 = .ok (.dup, 1) := by decide +kernel
theorem d3_156 : decode prog_21_method_5_code 156 = .ok (.getfield 50, 3) := by decide +kernel
theorem d3_159 : decode prog_21_method_5_code 159 = .ok (.dup_x1, 1) := by decide +kernel
theorem d3_160 : decode prog_21_method_5_code 160 = .ok (.iconst 1, 1) := by decide +kernel
theorem d3_161 : decode prog_21_method_5_code 161 = .ok (.iadd, 1) := by decide +kernel
theorem d3_162 : decode prog_21_method_5_code 162 = .ok (.putfield 50, 3) := by decide +kernel
theorem d3_165 : decode prog_21_method_5_code 165 = .ok (.istore 4, 2) := by decide +kernel
theorem d3_167 : decode prog_21_method_5_code 167 = .ok (.aload_n 0, 1) := by decide +kernel
theorem d3_168 : decode prog_21_method_5_code 168 = .ok (.dup, 1) := by decide +kernel
theorem d3_169 : decode prog_21_method_5_code 169 = .ok (.getfield 53, 3) := by decide +kernel
theorem d3_172 : decode prog_21_method_5_code 172 = .ok (.iconst 1, 1) := by decide +kernel
theorem d3_173 : decode prog_21_method_5_code 173 = .ok (.iadd, 1) := by decide +kernel
theorem d3_174 : decode prog_21_method_5_code 174 = .ok (.putfield 53, 3) := by decide +kernel
theorem d3_177 : decode prog_21_method_5_code 177 = .ok (.aload_n 0, 1) := by decide +kernel
theorem d3_178 : decode prog_21_method_5_code 178 = .ok (.getfield 24, 3) := by decide +kernel
theorem d3_181 : decode prog_21_method_5_code 181 = .ok (.iload 4, 2) := by decide +kernel
theorem d3_183 : decode prog_21_method_5_code 183 = .ok (.aload_n 3, 1) := by decide +kernel
theorem d3_184 : decode prog_21_method_5_code 184 = .ok (.aastore, 1) := by decide +kernel
theorem d3_185 : decode prog_21_method_5_code 185 = .ok (.aload_n 3, 1) := by decide +kernel
theorem d3_186 : decode prog_21_method_5_code 186 = .ok (.astore 5, 2) := by decide +kernel
theorem d3_188 : decode prog_21_method_5_code 188 = .ok (.aload 5, 2) := by decide +kernel
theorem d3_190 : decode prog_21_method_5_code 190 = .ok (.arraylength, 1) := by decide +kernel
theorem d3_191 : decode prog_21_method_5_code 191 = .ok (.istore 6, 2) := by decide +kernel
theorem d3_193 : decode prog_21_method_5_code 193 = .ok (.iconst 0, 1) := by decide +kernel
theorem d3_194 : decode prog_21_method_5_code 194 = .ok (.istore 7, 2) := by decide +kernel
theorem d3_196 : decode prog_21_method_5_code 196 = .ok (.iload 7, 2) := by decide +kernel
theorem d3_198 : decode prog_21_method_5_code 198 = .ok (.iload 6, 2) := by decide +kernel
theorem d3_200 : decode prog_21_method_5_code 200 = .ok (.if_icmp .ge 58, 3) := by decide +kernel
theorem d3_203 : decode prog_21_method_5_code 203 = .ok (.aload 5, 2) := by decide +kernel
theorem d3_205 : decode prog_21_method_5_code 205 = .ok (.iload 7, 2) := by decide +kernel
theorem d3_207 : decode prog_21_method_5_code 207 = .ok (.iaload, 1) := by decide +kernel
theorem d3_208 : decode prog_21_method_5_code 208 = .ok (.istore 8, 2) := by decide +kernel
theorem d3_210 : decode prog_21_method_5_code 210 = .ok (.aload_n 0, 1) := by decide +kernel
theorem d3_211 : decode prog_21_method_5_code 211 = .ok (.getfield 35, 3) := by decide +kernel
theorem d3_214 : decode prog_21_method_5_code 214 = .ok (.iload 8, 2) := by decide +kernel
theorem d3_216 : decode prog_21_method_5_code 216 = .ok (.dup2, 1) := by decide +kernel
theorem d3_217 : decode prog_21_method_5_code 217 = .ok (.iaload, 1) := by decide +kernel
theorem d3_218 : decode prog_21_method_5_code 218 = .ok (.iconst 1, 1) := by decide +kernel
theorem d3_219 : decode prog_21_method_5_code 219 = .ok (.iadd, 1) := by decide +kernel
theorem d3_220 : decode prog_21_method_5_code 220 = .ok (.iastore, 1) := by decide +kernel
theorem d3_221 : decode prog_21_method_5_code 221 = .ok (.aload_n 0, 1) := by decide +kernel
theorem d3_222 : decode prog_21_method_5_code 222 = .ok (.getfield 38, 3) := by decide +kernel
theorem d3_225 : decode prog_21_method_5_code 225 = .ok (.iload 8, 2) := by decide +kernel
theorem d3_227 : decode prog_21_method_5_code 227 = .ok (.iconst 2, 1) := by decide +kernel
theorem d3_228 : decode prog_21_method_5_code 228 = .ok (.idiv, 1) := by decide +kernel
theorem d3_229 : decode prog_21_method_5_code 229 = .ok (.dup2, 1) := by decide +kernel
theorem d3_230 : decode prog_21_method_5_code 230 = .ok (.iaload, 1) := by decide +kernel
theorem d3_231 : decode prog_21_method_5_code 231 = .ok (.iload 8, 2) := by decide +kernel
theorem d3_233 : decode prog_21_method_5_code 233 = .ok (.iconst 2, 1) := by decide +kernel
theorem d3_234 : decode prog_21_method_5_code 234 = .ok (.irem, 1) := by decide +kernel
theorem d3_235 : decode prog_21_method_5_code 235 = .ok (.iadd, 1) := by decide +kernel
theorem d3_236 : decode prog_21_method_5_code 236 = .ok (.iastore, 1) := by decide +kernel
theorem d3_237 : decode prog_21_method_5_code 237 = .ok (.iload_n 2, 1) := by decide +kernel
theorem d3_238 : decode prog_21_method_5_code 238 = .ok (.ifCond .eq 14, 3) := by decide +kernel
theorem d3_252 : decode prog_21_method_5_code 252 = .ok (.iinc 7 1, 3) := by decide +kernel
theorem d3_255 : decode prog_21_method_5_code 255 = .ok (.goto (-59), 3) := by decide +kernel
theorem d3_258 : decode prog_21_method_5_code 258 = .ok (.aload_n 0, 1) := by decide +kernel
theorem d3_259 : decode prog_21_method_5_code 259 = .ok (.getfield 28, 3) := by decide +kernel
theorem d3_262 : decode prog_21_method_5_code 262 = .ok (.iload 4, 2) := by decide +kernel
theorem d3_264 : decode prog_21_method_5_code 264 = .ok (.iload_n 2, 1) := by decide +kernel
theorem d3_265 : decode prog_21_method_5_code 265 = .ok (.bastore, 1) := by decide +kernel
theorem d3_266 : decode prog_21_method_5_code 266 = .ok (.iload 4, 2) := by decide +kernel
theorem d3_268 : decode prog_21_method_5_code 268 = .ok (.ireturn, 1) := by decide +kernel
theorem ef_rm3 (m : MethodId) (a0 : Addr) (a1 : Addr) : entryFrame m #[(.ref a0), (.ref a1), (.int (0 : Int32))] 9 = mkF m 0 #[.val (.ref a0), .val (.ref a1), .val (.int (0 : Int32)), .unset, .unset, .unset, .unset, .unset, .unset] [] := by first | (simp [entryFrame, mkF, argsToLocals, Value.category]; done) | rfl
def Q3 (Z : State) (a0 : Addr) (a1 : Addr) (aP : Addr) (kP : ClassId) (k1 : ClassId) (aO : Addr) (kO : ClassId) (aN : Addr) (kN : ClassId) (aC : Addr) (kC : ClassId) (h0 : Heap) (n0 : Nat) (v : Option Value) (h : Heap) (L : List Loc) : Prop := ∃ r0 : Addr, ∃ rk0 : ClassId, v = some (.int (0 : Int32)) ∧ Fr n0 L ∧ h0.size ≤ r0 ∧ Keep h0 h [a0, aP, aO, aN, aC] ∧ Exa Z h a0 "com/example/headlattice/headlattice/learn/Coverage" ∧ Fld Z h a0 "com/example/headlattice/headlattice/learn/Coverage" "labelCount" "I" (.int (1 : Int32)) ∧ Fld Z h a0 "com/example/headlattice/headlattice/learn/Coverage" "rowCount" "I" (.int (1 : Int32)) ∧ Fld Z h a0 "com/example/headlattice/headlattice/learn/Coverage" "pairsShared" "Z" (.int (0 : Int32)) ∧ Fld Z h a0 "com/example/headlattice/headlattice/learn/Coverage" "openPairs" "[[I" (.ref aP) ∧ Fld Z h a0 "com/example/headlattice/headlattice/learn/Coverage" "remainingCount" "I" (.int (1 : Int32)) ∧ Fld Z h a0 "com/example/headlattice/headlattice/learn/Coverage" "openCounts" "[I" (.ref aO) ∧ Fld Z h a0 "com/example/headlattice/headlattice/learn/Coverage" "ones" "[I" (.ref aN) ∧ Fld Z h a0 "com/example/headlattice/headlattice/learn/Coverage" "covered" "[Z" (.ref aC) ∧ Arv Z h aP kP (.array .int) (8 : Int32) [(.ref r0), .null, .null, .null, .null, .null, .null, .null] .null ∧ Exa Z h aP "[[I" ∧ Arv Z h aO kO .int (2 : Int32) [(.int (1 : Int32)), (.int (0 : Int32))] (.int (0 : Int32)) ∧ Exa Z h aO "[I" ∧ Arv Z h aN kN .int (1 : Int32) [(.int (0 : Int32))] (.int (0 : Int32)) ∧ Exa Z h aN "[I" ∧ Arv Z h aC kC .boolean (8 : Int32) [(.int (0 : Int32)), (.int (0 : Int32)), (.int (0 : Int32)), (.int (0 : Int32)), (.int (0 : Int32)), (.int (0 : Int32)), (.int (0 : Int32)), (.int (0 : Int32))] (.int (0 : Int32)) ∧ Exa Z h aC "[Z" ∧ Exa Z h r0 "[I" ∧ Arv Z h r0 rk0 .int (1 : Int32) [(.int (0 : Int32))] (.int (0 : Int32))
set_option maxRecDepth 65536 in
set_option maxHeartbeats 40000000 in
theorem rm3 (l : Launch) (Z : State) (az : Array Value) (hw : ∀ d ∈ tables_1, d.before az Z = true) (ws : List Jvm.Cond) (a0 : Addr) (a1 : Addr) (aP : Addr) (kP : ClassId) (k1 : ClassId) (aO : Addr) (kO : ClassId) (aN : Addr) (kN : ClassId) (aC : Addr) (kC : ClassId) (h0 : Heap) (n0 : Nat) (Z0 : n0 ≤ h0.size) (E_a0 : Exa Z h0 a0 "com/example/headlattice/headlattice/learn/Coverage") (F_labelCount_a0 : Fld Z h0 a0 "com/example/headlattice/headlattice/learn/Coverage" "labelCount" "I" (.int (1 : Int32))) (F_rowCount_a0 : Fld Z h0 a0 "com/example/headlattice/headlattice/learn/Coverage" "rowCount" "I" (.int (0 : Int32))) (F_pairsShared_a0 : Fld Z h0 a0 "com/example/headlattice/headlattice/learn/Coverage" "pairsShared" "Z" (.int (0 : Int32))) (F_openPairs_a0 : Fld Z h0 a0 "com/example/headlattice/headlattice/learn/Coverage" "openPairs" "[[I" (.ref aP)) (V_aP : Arv Z h0 aP kP (.array .int) (8 : Int32) [.null, .null, .null, .null, .null, .null, .null, .null] .null) (O_kP : OvrA Z kP .int "[I") (E_aP : Exa Z h0 aP "[[I") (V_a1 : Arv Z h0 a1 k1 .int (1 : Int32) [(.int (0 : Int32))] (.int (0 : Int32))) (F_remainingCount_a0 : Fld Z h0 a0 "com/example/headlattice/headlattice/learn/Coverage" "remainingCount" "I" (.int (0 : Int32))) (F_openCounts_a0 : Fld Z h0 a0 "com/example/headlattice/headlattice/learn/Coverage" "openCounts" "[I" (.ref aO)) (V_aO : Arv Z h0 aO kO .int (2 : Int32) [(.int (0 : Int32)), (.int (0 : Int32))] (.int (0 : Int32))) (E_aO : Exa Z h0 aO "[I") (F_ones_a0 : Fld Z h0 a0 "com/example/headlattice/headlattice/learn/Coverage" "ones" "[I" (.ref aN)) (V_aN : Arv Z h0 aN kN .int (1 : Int32) [(.int (0 : Int32))] (.int (0 : Int32))) (E_aN : Exa Z h0 aN "[I") (F_covered_a0 : Fld Z h0 a0 "com/example/headlattice/headlattice/learn/Coverage" "covered" "[Z" (.ref aC)) (V_aC : Arv Z h0 aC kC .boolean (8 : Int32) [(.int (0 : Int32)), (.int (0 : Int32)), (.int (0 : Int32)), (.int (0 : Int32)), (.int (0 : Int32)), (.int (0 : Int32)), (.int (0 : Int32)), (.int (0 : Int32))] (.int (0 : Int32))) (E_aC : Exa Z h0 aC "[Z") (g_a0 : n0 ≤ a0) (hne_aP_a0 : aP ≠ a0) (g_aP : n0 ≤ aP) (hne_aO_a0 : aO ≠ a0) (hne_aO_aP : aO ≠ aP) (g_aO : n0 ≤ aO) (hne_aN_a0 : aN ≠ a0) (hne_aN_aP : aN ≠ aP) (hne_aN_aO : aN ≠ aO) (g_aN : n0 ≤ aN) (hne_aC_a0 : aC ≠ a0) (hne_aC_aP : aC ≠ aP) (hne_aC_aO : aC ≠ aO) (hne_aC_aN : aC ≠ aN) (g_aC : n0 ≤ aC) :
    MetFree l (⟨"com/example/headlattice/headlattice/learn/Coverage", "addRow", "([IZ)I"⟩ : MethodName) (head1 (Jvm.Cond.code (⟨"com/example/headlattice/headlattice/learn/Coverage", "addRow", "([IZ)I"⟩ : MethodName) prog_21_method_5_code 9 (some .int) :: ws) ({ frames := 1, cells := 1, slots := 1, locals := 12 } : Room)) (fun a U => a = #[(.ref a0), (.ref a1), (.int (0 : Int32))] ∧ Z.Warmed39 U.vm ∧ U.heap = h0) (fun _ _ _ _ _ => True) (fun _ U o U' => ∃ v L, o = .returned v ∧ Q3 Z a0 a1 aP kP k1 aO kO aN kN aC kC h0 n0 v U'.heap L ∧ FrameEnd U o U' L ({ frames := 1, cells := 1, slots := 1, locals := 12 } : Room).cells ({ frames := 1, cells := 1, slots := 1, locals := 12 } : Room).slots) := by
  refine MetFree.of_bodySF (plainFor_of_name pn_com_example_headlattice_headlattice_learn_Coverage) hisR ?_
  intro p e s m args below meth c s₁ Bd hml0 hP hK
  obtain ⟨rfl, hZ, hh⟩ := hP
  have hx := Bd.exec
  have hby := Bd.bytes
  have hml : c.maxLocals = 9 := hml0
  have hown : s.vm.findClass "com/example/headlattice/headlattice/learn/Coverage" = some m.cls := findClass_of_methodNamed Bd.named
  have hnm := (name_of_methodNamed Bd.named Bd.method).1
  have X0 : Stand p l e ({ frames := 1, cells := 1, slots := 1, locals := 12 } : Room) s m #[(.ref a0), (.ref a1), (.int (0 : Int32))] below meth c s₁ [] 0 0 := Stand.of_body Bd
  have e0 : s₁.heap = h0 := by rw [← hh, Bd.state]; rfl
  have N0 := Fr.nil n0
  have pre0 : ∀ t, Steps p.tables e below (s₁.setTop (mkF m 0 #[.val (.ref a0), .val (.ref a1), .val (.int (0 : Int32)), .unset, .unset, .unset, .unset, .unset, .unset] [])) t → Steps p.tables e below (s₁.setTop (entryFrame m #[(.ref a0), (.ref a1), (.int (0 : Int32))] 9)) t := fun t k => castTop (ef_rm3 m a0 a1) k
  obtain ⟨cl1, Ar1, qk1, Sz1, Ng1, Hs1, Gf1⟩ := id V_a1
  obtain ⟨T2, X2, e2, st2⟩ := getF X0 hx hZ hown (host := "") (Or.inl (hw _ (List.mem_of_getElem? (i := 9) rfl))) Via.refl e0 F_labelCount_a0 (g := (mkF m 3 #[.val (.ref a0), .val (.ref a1), .val (.int (0 : Int32)), .unset, .unset, .unset, .unset, .unset, .unset] [(.ref a0), (.int (1 : Int32))])) rfl rfl (hb hby d3_3)
  obtain ⟨T3, X3, e3, st3⟩ := getF X2 hx hZ hown (host := "") (Or.inl (hw _ (List.mem_of_getElem? (i := 9) rfl))) Via.refl e2 F_labelCount_a0 (g := (mkF m 29 #[.val (.ref a0), .val (.ref a1), .val (.int (0 : Int32)), .unset, .unset, .unset, .unset, .unset, .unset] [(.ref a0)])) rfl rfl (hb hby d3_29)
  obtain ⟨T4, h4, k4, X4, e4, E4, A4, x4, st4⟩ := newPE X3 hx hZ (hw _ (List.mem_of_getElem? (i := 18) rfl)) e3 (g := (mkF m 32 #[.val (.ref a0), .val (.ref a1), .val (.int (0 : Int32)), .unset, .unset, .unset, .unset, .unset, .unset] [(.int (1 : Int32))])) rfl (hb hby d3_32) rfl (by decide) (cap := 1) (by decide) (by decide) (by decide) (by decide) (ad := "[I") (by decide)
  obtain ⟨b4, g4⟩ : ∃ z, z = h0.size := ⟨_, rfl⟩
  rw [← g4] at A4 x4 st4
  have g_b4 : n0 ≤ b4 := Nat.le_trans Z0 (Nat.le_of_eq g4.symm)
  have sz_b4 : h0.size ≤ b4 := Nat.le_trans (Nat.le_refl _) (Nat.le_of_eq g4.symm)
  have Z4 : n0 ≤ h4.size := Nat.le_trans Z0 E4.1
  have K4 : Keep h0 h4 [a0, aP, aO, aN, aC] := (Keep.refl h0 [a0, aP, aO, aN, aC]).ext E4
  have E_b4 := x4
  have V_b4 : Arv Z h4 b4 k4 .int (1 : Int32) [(.int (0 : Int32))] (.int (0 : Int32)) := (Arv.new A4 (by decide)).pad (pad_rep [] (.int (0 : Int32)) 1)
  have F_a0_labelCount_u5 : Fld Z h4 a0 "com/example/headlattice/headlattice/learn/Coverage" "labelCount" "I" (.int (1 : Int32)) := (F_labelCount_a0.ext E4)
  obtain ⟨T6, X6, e6, st6⟩ := getF X4 hx hZ hown (host := "") (Or.inl (hw _ (List.mem_of_getElem? (i := 9) rfl))) Via.refl e4 F_a0_labelCount_u5 (g := (mkF m 41 #[.val (.ref a0), .val (.ref a1), .val (.int (0 : Int32)), .val (.ref b4), .val (.int (0 : Int32)), .unset, .unset, .unset, .unset] [(.ref a0), (.int (0 : Int32))])) rfl rfl (hb hby d3_41)
  have V_a1_u7 : Arv Z h4 a1 k1 .int (1 : Int32) [(.int (0 : Int32))] (.int (0 : Int32)) := (V_a1.ext E4)
  obtain ⟨cl8, Ar8, qk8, Sz8, Ng8, Hs8, Gf8⟩ := id V_a1_u7
  have hin9 : ¬ ((0 : Int32) < 0 ∨ cl8.slots.size ≤ ((0 : Int32)).toNatClampNeg) := inb_of Sz8 ⟨by decide, by decide⟩
  have hat10 : cl8.slots[((0 : Int32)).toNatClampNeg]? = some (.int (0 : Int32)) := Hs8.at hin9 rfl
  obtain ⟨cl11, Ar11, qk11, Sz11, Ng11, Hs11, Gf11⟩ := id V_b4
  have hin12 : ¬ ((0 : Int32) < 0 ∨ cl11.slots.size ≤ ((0 : Int32)).toNatClampNeg) := inb_of Sz11 ⟨by decide, by decide⟩
  obtain ⟨T13, h13, X13, e13, W13, st13⟩ := stI X6 hx hZ e6 Ar11 (j := (0 : Int32)) hin12 (g := (mkF m 89 #[.val (.ref a0), .val (.ref a1), .val (.int (0 : Int32)), .val (.ref b4), .val (.int (0 : Int32)), .val (.int (0 : Int32)), .unset, .unset, .unset] [(.int (0 : Int32)), (.int (0 : Int32)), (.ref b4)])) rfl rfl (hb hby d3_89)
  have K13 : Keep h0 h13 [a0, aP, aO, aN, aC] := K4.wr W13 (Or.inr sz_b4)
  have V_b4_13 : Arv Z h13 b4 k4 .int (1 : Int32) [(.int (0 : Int32))] (.int (0 : Int32)) := Arv.set (v := (.int (0 : Int32))) Ar11 qk11 Sz11 Ng11 Hs11 Gf11 rfl W13 0 rfl (Nat.le_of_ble_eq_true rfl)
  have Z13 : n0 ≤ h13.size := Nat.le_trans Z4 (Keep.of_wr W13).1
  obtain ⟨Lg13, X13', N13⟩ := own_gen X13 (Fr.snoc X13 N0 g_b4)
  have ne_a0_b4 : a0 ≠ b4 := own_ne (Nat.lt_of_lt_of_le E_a0.lt (Nat.le_of_eq g4.symm))
  have F_a0_labelCount_u14 : Fld Z h13 a0 "com/example/headlattice/headlattice/learn/Coverage" "labelCount" "I" (.int (1 : Int32)) := (F_a0_labelCount_u5.other W13 (Or.inl ne_a0_b4))
  obtain ⟨T15, X15, e15, st15⟩ := getF X13' hx hZ hown (host := "") (Or.inl (hw _ (List.mem_of_getElem? (i := 9) rfl))) Via.refl e13 F_a0_labelCount_u14 (g := (mkF m 41 #[.val (.ref a0), .val (.ref a1), .val (.int (0 : Int32)), .val (.ref b4), .val (.int (1 : Int32)), .val (.int (0 : Int32)), .unset, .unset, .unset] [(.ref a0), (.int (1 : Int32))])) rfl rfl (hb hby d3_41)
  have F_a0_rowCount_u16 : Fld Z h13 a0 "com/example/headlattice/headlattice/learn/Coverage" "rowCount" "I" (.int (0 : Int32)) := ((F_rowCount_a0.ext E4).other W13 (Or.inl ne_a0_b4))
  obtain ⟨T17, X17, e17, st17⟩ := getF X15 hx hZ hown (host := "") (Or.inl (hw _ (List.mem_of_getElem? (i := 30) rfl))) Via.refl e15 F_a0_rowCount_u16 (g := (mkF m 97 #[.val (.ref a0), .val (.ref a1), .val (.int (0 : Int32)), .val (.ref b4), .val (.int (1 : Int32)), .val (.int (0 : Int32)), .unset, .unset, .unset] [(.ref a0)])) rfl rfl (hb hby d3_97)
  have F_a0_openPairs_u18 : Fld Z h13 a0 "com/example/headlattice/headlattice/learn/Coverage" "openPairs" "[[I" (.ref aP) := ((F_openPairs_a0.ext E4).other W13 (Or.inl ne_a0_b4))
  obtain ⟨T19, X19, e19, st19⟩ := getF X17 hx hZ hown (host := "") (Or.inl (hw _ (List.mem_of_getElem? (i := 13) rfl))) Via.refl e17 F_a0_openPairs_u18 (g := (mkF m 101 #[.val (.ref a0), .val (.ref a1), .val (.int (0 : Int32)), .val (.ref b4), .val (.int (1 : Int32)), .val (.int (0 : Int32)), .unset, .unset, .unset] [(.ref a0), (.int (0 : Int32))])) rfl rfl (hb hby d3_101)
  have ne_aP_b4 : aP ≠ b4 := own_ne (Nat.lt_of_lt_of_le E_aP.lt (Nat.le_of_eq g4.symm))
  have V_aP_u20 : Arv Z h13 aP kP (.array .int) (8 : Int32) [.null, .null, .null, .null, .null, .null, .null, .null] .null := ((V_aP.ext E4).other W13 ne_aP_b4)
  obtain ⟨cl21, Ar21, qk21, Sz21, Ng21, Hs21, Gf21⟩ := id V_aP_u20
  have F_a0_pairsShared_u23 : Fld Z h13 a0 "com/example/headlattice/headlattice/learn/Coverage" "pairsShared" "Z" (.int (0 : Int32)) := ((F_pairsShared_a0.ext E4).other W13 (Or.inl ne_a0_b4))
  have E_a0_u24 : Exa Z h13 a0 "com/example/headlattice/headlattice/learn/Coverage" := ((E_a0.ext E4).wr W13)
  obtain ⟨cq22, q22, q22'⟩ := E_a0_u24.cell
  obtain ⟨_, _, ⟨T22, L22, k22', n22'⟩, -, X22, ⟨Lc22, hQ22, l22, y22, z22⟩, st22⟩ := X19.privateBack hx (y := (⟨"com/example/headlattice/headlattice/learn/Coverage", "ownPairs", "()V"⟩ : MethodName)) hown (mvT hZ (hw _ (List.mem_of_getElem? (i := 32) rfl))) (mvT hZ (hw _ (List.mem_of_getElem? (i := 33) rfl))) (own_priv (mvT hZ (hw _ (List.mem_of_getElem? (i := 1) rfl))) (Cond.privateMethod_at (mvP hZ (hw _ (List.mem_of_getElem? (i := 34) rfl)) (args := #[]))) (mvT hZ (hw _ (List.mem_of_getElem? (i := 33) rfl))) (by decide)) (Cond.privateMethod_at (mvP hZ (hw _ (List.mem_of_getElem? (i := 34) rfl)) (args := #[]))) (mvT hZ (hw _ (List.mem_of_getElem? (i := 35) rfl))) (by decide) (backOf (W := 0) (rm4 l Z az hw [] a0 h13 n0 Z13 F_a0_pairsShared_u23) hZ (hw _ (List.mem_of_getElem? (i := 35) rfl)) (hw _ (List.mem_of_getElem? (i := 2) rfl)) (by decide) (by decide)) (g := (mkF m 151 #[.val (.ref a0), .val (.ref a1), .val (.int (0 : Int32)), .val (.ref b4), .val (.int (1 : Int32)), .val (.int (0 : Int32)), .unset, .unset, .unset] [(.ref a0)])) rfl (by rw [hml]; rfl) (Steps.refl _) (a := a0) (by rw [e19]; exact q22) q22' (argsL := []) (rest := []) (lenOf pd_1 rfl) rfl (by show 2 * 0 + _ ≤ _; exact Nat.le_of_eq rfl) (hb hby d3_151) (fun _ _ => ⟨rfl, e19, (by decide : 1 + 0 ≤ _), (by decide : 1 + 0 ≤ _)⟩)
  dsimp only [Pt.U, Pt.locs, Pt.cells, Pt.slots] at X22 l22 y22 z22 st22 hQ22
  subst l22 y22 z22
  obtain ⟨rfl, N22q, e22⟩ := hQ22
  obtain ⟨Lg22, X22', N22⟩ := own_gen X22 (Fr.app N13 N22q)
  obtain ⟨T25, X25, e25, st25⟩ := getF X22' hx hZ hown (host := "") (Or.inl (hw _ (List.mem_of_getElem? (i := 30) rfl))) Via.refl e22 F_a0_rowCount_u16 (g := (mkF m 156 #[.val (.ref a0), .val (.ref a1), .val (.int (0 : Int32)), .val (.ref b4), .val (.int (1 : Int32)), .val (.int (0 : Int32)), .unset, .unset, .unset] [(.ref a0), (.ref a0)])) rfl rfl (hb hby d3_156)
  obtain ⟨T26, h26, X26, e26, W26, st26⟩ := putF X25 hx hZ hown (host := "") (Or.inl (hw _ (List.mem_of_getElem? (i := 30) rfl))) Via.refl e25 F_a0_rowCount_u16 E_a0_u24 (Or.inl (hw _ (List.mem_of_getElem? (i := 31) rfl))) (hw _ (List.mem_of_getElem? (i := 1) rfl)) (ty := .int) (by decide) rfl rfl (g := (mkF m 162 #[.val (.ref a0), .val (.ref a1), .val (.int (0 : Int32)), .val (.ref b4), .val (.int (1 : Int32)), .val (.int (0 : Int32)), .unset, .unset, .unset] [(.int (1 : Int32)), (.ref a0), (.int (0 : Int32))])) rfl rfl (hb hby d3_162)
  have K26 : Keep h0 h26 [a0, aP, aO, aN, aC] := K13.wr W26 (Or.inl (List.mem_of_getElem? (i := 0) rfl))
  have Fw26 := F_a0_rowCount_u16.same W26
  have Z26 : n0 ≤ h26.size := Nat.le_trans Z13 (Keep.of_wr W26).1
  obtain ⟨Lg26, X26', N26⟩ := own_gen X26 (Fr.snoc X26 N22 g_a0)
  have sl27 := slot_ne (Z := Z) (Or.inl (hw _ (List.mem_of_getElem? (i := 39) rfl))) (Or.inl (hw _ (List.mem_of_getElem? (i := 31) rfl))) (by decide) (t := .int) (t' := .int) (by decide) (by decide)
  have F_a0_remainingCount_u28 : Fld Z h26 a0 "com/example/headlattice/headlattice/learn/Coverage" "remainingCount" "I" (.int (0 : Int32)) := (((F_remainingCount_a0.ext E4).other W13 (Or.inl ne_a0_b4)).other W26 (Or.inr sl27))
  obtain ⟨T29, X29, e29, st29⟩ := getF X26' hx hZ hown (host := "") (Or.inl (hw _ (List.mem_of_getElem? (i := 38) rfl))) Via.refl e26 F_a0_remainingCount_u28 (g := (mkF m 169 #[.val (.ref a0), .val (.ref a1), .val (.int (0 : Int32)), .val (.ref b4), .val (.int (0 : Int32)), .val (.int (0 : Int32)), .unset, .unset, .unset] [(.ref a0), (.ref a0)])) rfl rfl (hb hby d3_169)
  have E_a0_u30 : Exa Z h26 a0 "com/example/headlattice/headlattice/learn/Coverage" := (E_a0_u24.wr W26)
  obtain ⟨T31, h31, X31, e31, W31, st31⟩ := putF X29 hx hZ hown (host := "") (Or.inl (hw _ (List.mem_of_getElem? (i := 38) rfl))) Via.refl e29 F_a0_remainingCount_u28 E_a0_u30 (Or.inl (hw _ (List.mem_of_getElem? (i := 39) rfl))) (hw _ (List.mem_of_getElem? (i := 1) rfl)) (ty := .int) (by decide) rfl rfl (g := (mkF m 174 #[.val (.ref a0), .val (.ref a1), .val (.int (0 : Int32)), .val (.ref b4), .val (.int (0 : Int32)), .val (.int (0 : Int32)), .unset, .unset, .unset] [(.int (1 : Int32)), (.ref a0)])) rfl rfl (hb hby d3_174)
  have K31 : Keep h0 h31 [a0, aP, aO, aN, aC] := K26.wr W31 (Or.inl (List.mem_of_getElem? (i := 0) rfl))
  have Fw31 := F_a0_remainingCount_u28.same W31
  have Z31 : n0 ≤ h31.size := Nat.le_trans Z26 (Keep.of_wr W31).1
  obtain ⟨Lg31, X31', N31⟩ := own_gen X31 (Fr.snoc X31 N26 g_a0)
  have sl32 := slot_ne (Z := Z) (Or.inl (hw _ (List.mem_of_getElem? (i := 14) rfl))) (Or.inl (hw _ (List.mem_of_getElem? (i := 31) rfl))) (by decide) (t := (.array (.array .int))) (t' := .int) (by decide) (by decide)
  have sl33 := slot_ne (Z := Z) (Or.inl (hw _ (List.mem_of_getElem? (i := 14) rfl))) (Or.inl (hw _ (List.mem_of_getElem? (i := 39) rfl))) (by decide) (t := (.array (.array .int))) (t' := .int) (by decide) (by decide)
  have F_a0_openPairs_u34 : Fld Z h31 a0 "com/example/headlattice/headlattice/learn/Coverage" "openPairs" "[[I" (.ref aP) := ((F_a0_openPairs_u18.other W26 (Or.inr sl32)).other W31 (Or.inr sl33))
  obtain ⟨T35, X35, e35, st35⟩ := getF X31' hx hZ hown (host := "") (Or.inl (hw _ (List.mem_of_getElem? (i := 13) rfl))) Via.refl e31 F_a0_openPairs_u34 (g := (mkF m 178 #[.val (.ref a0), .val (.ref a1), .val (.int (0 : Int32)), .val (.ref b4), .val (.int (0 : Int32)), .val (.int (0 : Int32)), .unset, .unset, .unset] [(.ref a0)])) rfl rfl (hb hby d3_178)
  have V_aP_u36 : Arv Z h31 aP kP (.array .int) (8 : Int32) [.null, .null, .null, .null, .null, .null, .null, .null] .null := ((V_aP_u20.other W26 hne_aP_a0).other W31 hne_aP_a0)
  obtain ⟨cl37, Ar37, qk37, Sz37, Ng37, Hs37, Gf37⟩ := id V_aP_u36
  have hin38 : ¬ ((0 : Int32) < 0 ∨ cl37.slots.size ≤ ((0 : Int32)).toNatClampNeg) := inb_of Sz37 ⟨by decide, by decide⟩
  have E_b4_u39 : Exa Z h31 b4 "[I" := (((E_b4.wr W13).wr W26).wr W31)
  obtain ⟨T40, h40, X40, e40, W40, st40⟩ := stR X35 hx hZ e35 Ar37 (j := (0 : Int32)) hin38 rfl (Sto.ofVA Ar37 qk37 O_kP (Ins.self E_b4_u39)) (g := (mkF m 184 #[.val (.ref a0), .val (.ref a1), .val (.int (0 : Int32)), .val (.ref b4), .val (.int (0 : Int32)), .val (.int (0 : Int32)), .unset, .unset, .unset] [(.ref b4), (.int (0 : Int32)), (.ref aP)])) rfl rfl (hb hby d3_184)
  have K40 : Keep h0 h40 [a0, aP, aO, aN, aC] := K31.wr W40 (Or.inl (List.mem_of_getElem? (i := 1) rfl))
  have V_aP_40 : Arv Z h40 aP kP (.array .int) (8 : Int32) [(.ref b4), .null, .null, .null, .null, .null, .null, .null] .null := Arv.set (v := (.ref b4)) Ar37 qk37 Sz37 Ng37 Hs37 Gf37 rfl W40 0 rfl (Nat.le_of_ble_eq_true rfl)
  have Z40 : n0 ≤ h40.size := Nat.le_trans Z31 (Keep.of_wr W40).1
  obtain ⟨Lg40, X40', N40⟩ := own_gen X40 (Fr.snoc X40 N31 g_aP)
  have V_b4_u41 : Arv Z h40 b4 k4 .int (1 : Int32) [(.int (0 : Int32))] (.int (0 : Int32)) := (((V_b4_13.other W26 (Ne.symm ne_a0_b4)).other W31 (Ne.symm ne_a0_b4)).other W40 (Ne.symm ne_aP_b4))
  obtain ⟨cl42, Ar42, qk42, Sz42, Ng42, Hs42, Gf42⟩ := id V_b4_u41
  have hin43 : ¬ ((0 : Int32) < 0 ∨ cl42.slots.size ≤ ((0 : Int32)).toNatClampNeg) := inb_of Sz42 ⟨by decide, by decide⟩
  have hat44 : cl42.slots[((0 : Int32)).toNatClampNeg]? = some (.int (0 : Int32)) := Hs42.at hin43 rfl
  have sl45 := slot_ne (Z := Z) (Or.inr (hw _ (List.mem_of_getElem? (i := 22) rfl))) (Or.inl (hw _ (List.mem_of_getElem? (i := 31) rfl))) (by decide) (t := (.array .int)) (t' := .int) (by decide) (by decide)
  have c46 : Fld Z h26 a0 "com/example/headlattice/headlattice/learn/Coverage" "openCounts" "[I" (.ref aO) := (((F_openCounts_a0.ext E4).other W13 (Or.inl ne_a0_b4)).other W26 (Or.inr sl45))
  have sl47 := slot_ne (Z := Z) (Or.inr (hw _ (List.mem_of_getElem? (i := 22) rfl))) (Or.inl (hw _ (List.mem_of_getElem? (i := 39) rfl))) (by decide) (t := (.array .int)) (t' := .int) (by decide) (by decide)
  have F_a0_openCounts_u48 : Fld Z h40 a0 "com/example/headlattice/headlattice/learn/Coverage" "openCounts" "[I" (.ref aO) := ((c46.other W31 (Or.inr sl47)).other W40 (Or.inl (Ne.symm hne_aP_a0)))
  obtain ⟨T49, X49, e49, st49⟩ := getF X40' hx hZ hown (host := "") (Or.inl (hw _ (List.mem_of_getElem? (i := 21) rfl))) Via.refl e40 F_a0_openCounts_u48 (g := (mkF m 211 #[.val (.ref a0), .val (.ref a1), .val (.int (0 : Int32)), .val (.ref b4), .val (.int (0 : Int32)), .val (.ref b4), .val (.int (1 : Int32)), .val (.int (0 : Int32)), .val (.int (0 : Int32))] [(.ref a0)])) rfl rfl (hb hby d3_211)
  have ne_aO_b4 : aO ≠ b4 := own_ne (Nat.lt_of_lt_of_le E_aO.lt (Nat.le_of_eq g4.symm))
  have c50 : Arv Z h26 aO kO .int (2 : Int32) [(.int (0 : Int32)), (.int (0 : Int32))] (.int (0 : Int32)) := (((V_aO.ext E4).other W13 ne_aO_b4).other W26 hne_aO_a0)
  have V_aO_u51 : Arv Z h40 aO kO .int (2 : Int32) [(.int (0 : Int32)), (.int (0 : Int32))] (.int (0 : Int32)) := ((c50.other W31 hne_aO_a0).other W40 hne_aO_aP)
  obtain ⟨cl52, Ar52, qk52, Sz52, Ng52, Hs52, Gf52⟩ := id V_aO_u51
  have hin53 : ¬ ((0 : Int32) < 0 ∨ cl52.slots.size ≤ ((0 : Int32)).toNatClampNeg) := inb_of Sz52 ⟨by decide, by decide⟩
  have hat54 : cl52.slots[((0 : Int32)).toNatClampNeg]? = some (.int (0 : Int32)) := Hs52.at hin53 rfl
  have hin55 : ¬ ((0 : Int32) < 0 ∨ cl52.slots.size ≤ ((0 : Int32)).toNatClampNeg) := inb_of Sz52 ⟨by decide, by decide⟩
  obtain ⟨T56, h56, X56, e56, W56, st56⟩ := stI X49 hx hZ e49 Ar52 (j := (0 : Int32)) hin55 (g := (mkF m 220 #[.val (.ref a0), .val (.ref a1), .val (.int (0 : Int32)), .val (.ref b4), .val (.int (0 : Int32)), .val (.ref b4), .val (.int (1 : Int32)), .val (.int (0 : Int32)), .val (.int (0 : Int32))] [(.int (1 : Int32)), (.int (0 : Int32)), (.ref aO)])) rfl rfl (hb hby d3_220)
  have K56 : Keep h0 h56 [a0, aP, aO, aN, aC] := K40.wr W56 (Or.inl (List.mem_of_getElem? (i := 2) rfl))
  have V_aO_56 : Arv Z h56 aO kO .int (2 : Int32) [(.int (1 : Int32)), (.int (0 : Int32))] (.int (0 : Int32)) := Arv.set (v := (.int (1 : Int32))) Ar52 qk52 Sz52 Ng52 Hs52 Gf52 rfl W56 0 rfl (Nat.le_of_ble_eq_true rfl)
  have Z56 : n0 ≤ h56.size := Nat.le_trans Z40 (Keep.of_wr W56).1
  obtain ⟨Lg56, X56', N56⟩ := own_gen X56 (Fr.snoc X56 N40 g_aO)
  have sl57 := slot_ne (Z := Z) (Or.inr (hw _ (List.mem_of_getElem? (i := 24) rfl))) (Or.inl (hw _ (List.mem_of_getElem? (i := 31) rfl))) (by decide) (t := (.array .int)) (t' := .int) (by decide) (by decide)
  have c58 : Fld Z h26 a0 "com/example/headlattice/headlattice/learn/Coverage" "ones" "[I" (.ref aN) := (((F_ones_a0.ext E4).other W13 (Or.inl ne_a0_b4)).other W26 (Or.inr sl57))
  have sl59 := slot_ne (Z := Z) (Or.inr (hw _ (List.mem_of_getElem? (i := 24) rfl))) (Or.inl (hw _ (List.mem_of_getElem? (i := 39) rfl))) (by decide) (t := (.array .int)) (t' := .int) (by decide) (by decide)
  have F_a0_ones_u60 : Fld Z h56 a0 "com/example/headlattice/headlattice/learn/Coverage" "ones" "[I" (.ref aN) := (((c58.other W31 (Or.inr sl59)).other W40 (Or.inl (Ne.symm hne_aP_a0))).other W56 (Or.inl (Ne.symm hne_aO_a0)))
  obtain ⟨T61, X61, e61, st61⟩ := getF X56' hx hZ hown (host := "") (Or.inl (hw _ (List.mem_of_getElem? (i := 23) rfl))) Via.refl e56 F_a0_ones_u60 (g := (mkF m 222 #[.val (.ref a0), .val (.ref a1), .val (.int (0 : Int32)), .val (.ref b4), .val (.int (0 : Int32)), .val (.ref b4), .val (.int (1 : Int32)), .val (.int (0 : Int32)), .val (.int (0 : Int32))] [(.ref a0)])) rfl rfl (hb hby d3_222)
  have ne_aN_b4 : aN ≠ b4 := own_ne (Nat.lt_of_lt_of_le E_aN.lt (Nat.le_of_eq g4.symm))
  have c62 : Arv Z h26 aN kN .int (1 : Int32) [(.int (0 : Int32))] (.int (0 : Int32)) := (((V_aN.ext E4).other W13 ne_aN_b4).other W26 hne_aN_a0)
  have V_aN_u63 : Arv Z h56 aN kN .int (1 : Int32) [(.int (0 : Int32))] (.int (0 : Int32)) := (((c62.other W31 hne_aN_a0).other W40 hne_aN_aP).other W56 hne_aN_aO)
  obtain ⟨cl64, Ar64, qk64, Sz64, Ng64, Hs64, Gf64⟩ := id V_aN_u63
  have hin65 : ¬ ((0 : Int32) < 0 ∨ cl64.slots.size ≤ ((0 : Int32)).toNatClampNeg) := inb_of Sz64 ⟨by decide, by decide⟩
  have hat66 : cl64.slots[((0 : Int32)).toNatClampNeg]? = some (.int (0 : Int32)) := Hs64.at hin65 rfl
  have hin67 : ¬ ((0 : Int32) < 0 ∨ cl64.slots.size ≤ ((0 : Int32)).toNatClampNeg) := inb_of Sz64 ⟨by decide, by decide⟩
  obtain ⟨T68, h68, X68, e68, W68, st68⟩ := stI X61 hx hZ e61 Ar64 (j := (0 : Int32)) hin67 (g := (mkF m 236 #[.val (.ref a0), .val (.ref a1), .val (.int (0 : Int32)), .val (.ref b4), .val (.int (0 : Int32)), .val (.ref b4), .val (.int (1 : Int32)), .val (.int (0 : Int32)), .val (.int (0 : Int32))] [(.int (0 : Int32)), (.int (0 : Int32)), (.ref aN)])) rfl rfl (hb hby d3_236)
  have K68 : Keep h0 h68 [a0, aP, aO, aN, aC] := K56.wr W68 (Or.inl (List.mem_of_getElem? (i := 3) rfl))
  have V_aN_68 : Arv Z h68 aN kN .int (1 : Int32) [(.int (0 : Int32))] (.int (0 : Int32)) := Arv.set (v := (.int (0 : Int32))) Ar64 qk64 Sz64 Ng64 Hs64 Gf64 rfl W68 0 rfl (Nat.le_of_ble_eq_true rfl)
  have Z68 : n0 ≤ h68.size := Nat.le_trans Z56 (Keep.of_wr W68).1
  obtain ⟨Lg68, X68', N68⟩ := own_gen X68 (Fr.snoc X68 N56 g_aN)
  have sl69 := slot_ne (Z := Z) (Or.inl (hw _ (List.mem_of_getElem? (i := 17) rfl))) (Or.inl (hw _ (List.mem_of_getElem? (i := 31) rfl))) (by decide) (t := (.array .boolean)) (t' := .int) (by decide) (by decide)
  have c70 : Fld Z h26 a0 "com/example/headlattice/headlattice/learn/Coverage" "covered" "[Z" (.ref aC) := (((F_covered_a0.ext E4).other W13 (Or.inl ne_a0_b4)).other W26 (Or.inr sl69))
  have sl71 := slot_ne (Z := Z) (Or.inl (hw _ (List.mem_of_getElem? (i := 17) rfl))) (Or.inl (hw _ (List.mem_of_getElem? (i := 39) rfl))) (by decide) (t := (.array .boolean)) (t' := .int) (by decide) (by decide)
  have c72 : Fld Z h56 a0 "com/example/headlattice/headlattice/learn/Coverage" "covered" "[Z" (.ref aC) := (((c70.other W31 (Or.inr sl71)).other W40 (Or.inl (Ne.symm hne_aP_a0))).other W56 (Or.inl (Ne.symm hne_aO_a0)))
  have F_a0_covered_u73 : Fld Z h68 a0 "com/example/headlattice/headlattice/learn/Coverage" "covered" "[Z" (.ref aC) := (c72.other W68 (Or.inl (Ne.symm hne_aN_a0)))
  obtain ⟨T74, X74, e74, st74⟩ := getF X68' hx hZ hown (host := "") (Or.inl (hw _ (List.mem_of_getElem? (i := 16) rfl))) Via.refl e68 F_a0_covered_u73 (g := (mkF m 259 #[.val (.ref a0), .val (.ref a1), .val (.int (0 : Int32)), .val (.ref b4), .val (.int (0 : Int32)), .val (.ref b4), .val (.int (1 : Int32)), .val (.int (1 : Int32)), .val (.int (0 : Int32))] [(.ref a0)])) rfl rfl (hb hby d3_259)
  have ne_aC_b4 : aC ≠ b4 := own_ne (Nat.lt_of_lt_of_le E_aC.lt (Nat.le_of_eq g4.symm))
  have c75 : Arv Z h26 aC kC .boolean (8 : Int32) [(.int (0 : Int32)), (.int (0 : Int32)), (.int (0 : Int32)), (.int (0 : Int32)), (.int (0 : Int32)), (.int (0 : Int32)), (.int (0 : Int32)), (.int (0 : Int32))] (.int (0 : Int32)) := (((V_aC.ext E4).other W13 ne_aC_b4).other W26 hne_aC_a0)
  have c76 : Arv Z h56 aC kC .boolean (8 : Int32) [(.int (0 : Int32)), (.int (0 : Int32)), (.int (0 : Int32)), (.int (0 : Int32)), (.int (0 : Int32)), (.int (0 : Int32)), (.int (0 : Int32)), (.int (0 : Int32))] (.int (0 : Int32)) := (((c75.other W31 hne_aC_a0).other W40 hne_aC_aP).other W56 hne_aC_aO)
  have V_aC_u77 : Arv Z h68 aC kC .boolean (8 : Int32) [(.int (0 : Int32)), (.int (0 : Int32)), (.int (0 : Int32)), (.int (0 : Int32)), (.int (0 : Int32)), (.int (0 : Int32)), (.int (0 : Int32)), (.int (0 : Int32))] (.int (0 : Int32)) := (c76.other W68 hne_aC_aN)
  obtain ⟨cl78, Ar78, qk78, Sz78, Ng78, Hs78, Gf78⟩ := id V_aC_u77
  have hin79 : ¬ ((0 : Int32) < 0 ∨ cl78.slots.size ≤ ((0 : Int32)).toNatClampNeg) := inb_of Sz78 ⟨by decide, by decide⟩
  obtain ⟨T80, h80, X80, e80, W80, st80⟩ := stZ X74 hx hZ e74 Ar78 (j := (0 : Int32)) hin79 (g := (mkF m 265 #[.val (.ref a0), .val (.ref a1), .val (.int (0 : Int32)), .val (.ref b4), .val (.int (0 : Int32)), .val (.ref b4), .val (.int (1 : Int32)), .val (.int (1 : Int32)), .val (.int (0 : Int32))] [(.int (0 : Int32)), (.int (0 : Int32)), (.ref aC)])) rfl rfl (hb hby d3_265)
  have K80 : Keep h0 h80 [a0, aP, aO, aN, aC] := K68.wr W80 (Or.inl (List.mem_of_getElem? (i := 4) rfl))
  have V_aC_80 : Arv Z h80 aC kC .boolean (8 : Int32) [(.int (0 : Int32)), (.int (0 : Int32)), (.int (0 : Int32)), (.int (0 : Int32)), (.int (0 : Int32)), (.int (0 : Int32)), (.int (0 : Int32)), (.int (0 : Int32))] (.int (0 : Int32)) := Arv.set (v := (.int (0 : Int32))) Ar78 qk78 Sz78 Ng78 Hs78 Gf78 (by decide) W80 0 rfl (Nat.le_of_ble_eq_true rfl)
  have Z80 : n0 ≤ h80.size := Nat.le_trans Z68 (Keep.of_wr W80).1
  obtain ⟨Lg80, X80', N80⟩ := own_gen X80 (Fr.snoc X80 N68 g_aC)
  have c81 : Exa Z h56 a0 "com/example/headlattice/headlattice/learn/Coverage" := (((E_a0_u30.wr W31).wr W40).wr W56)
  have E_a0_u82 : Exa Z h80 a0 "com/example/headlattice/headlattice/learn/Coverage" := ((c81.wr W68).wr W80)
  have sl83 := slot_ne (Z := Z) (Or.inr (hw _ (List.mem_of_getElem? (i := 10) rfl))) (Or.inl (hw _ (List.mem_of_getElem? (i := 31) rfl))) (by decide) (t := .int) (t' := .int) (by decide) (by decide)
  have sl84 := slot_ne (Z := Z) (Or.inr (hw _ (List.mem_of_getElem? (i := 10) rfl))) (Or.inl (hw _ (List.mem_of_getElem? (i := 39) rfl))) (by decide) (t := .int) (t' := .int) (by decide) (by decide)
  have c85 : Fld Z h40 a0 "com/example/headlattice/headlattice/learn/Coverage" "labelCount" "I" (.int (1 : Int32)) := (((F_a0_labelCount_u14.other W26 (Or.inr sl83)).other W31 (Or.inr sl84)).other W40 (Or.inl (Ne.symm hne_aP_a0)))
  have F_a0_labelCount_u86 : Fld Z h80 a0 "com/example/headlattice/headlattice/learn/Coverage" "labelCount" "I" (.int (1 : Int32)) := (((c85.other W56 (Or.inl (Ne.symm hne_aO_a0))).other W68 (Or.inl (Ne.symm hne_aN_a0))).other W80 (Or.inl (Ne.symm hne_aC_a0)))
  have sl87 := slot_ne (Z := Z) (Or.inl (hw _ (List.mem_of_getElem? (i := 31) rfl))) (Or.inl (hw _ (List.mem_of_getElem? (i := 39) rfl))) (by decide) (t := .int) (t' := .int) (by decide) (by decide)
  have c88 : Fld Z h56 a0 "com/example/headlattice/headlattice/learn/Coverage" "rowCount" "I" (.int (1 : Int32)) := (((Fw26.other W31 (Or.inr sl87)).other W40 (Or.inl (Ne.symm hne_aP_a0))).other W56 (Or.inl (Ne.symm hne_aO_a0)))
  have F_a0_rowCount_u89 : Fld Z h80 a0 "com/example/headlattice/headlattice/learn/Coverage" "rowCount" "I" (.int (1 : Int32)) := ((c88.other W68 (Or.inl (Ne.symm hne_aN_a0))).other W80 (Or.inl (Ne.symm hne_aC_a0)))
  have sl90 := slot_ne (Z := Z) (Or.inl (hw _ (List.mem_of_getElem? (i := 37) rfl))) (Or.inl (hw _ (List.mem_of_getElem? (i := 31) rfl))) (by decide) (t := .boolean) (t' := .int) (by decide) (by decide)
  have sl91 := slot_ne (Z := Z) (Or.inl (hw _ (List.mem_of_getElem? (i := 37) rfl))) (Or.inl (hw _ (List.mem_of_getElem? (i := 39) rfl))) (by decide) (t := .boolean) (t' := .int) (by decide) (by decide)
  have c92 : Fld Z h40 a0 "com/example/headlattice/headlattice/learn/Coverage" "pairsShared" "Z" (.int (0 : Int32)) := (((F_a0_pairsShared_u23.other W26 (Or.inr sl90)).other W31 (Or.inr sl91)).other W40 (Or.inl (Ne.symm hne_aP_a0)))
  have F_a0_pairsShared_u93 : Fld Z h80 a0 "com/example/headlattice/headlattice/learn/Coverage" "pairsShared" "Z" (.int (0 : Int32)) := (((c92.other W56 (Or.inl (Ne.symm hne_aO_a0))).other W68 (Or.inl (Ne.symm hne_aN_a0))).other W80 (Or.inl (Ne.symm hne_aC_a0)))
  have c94 : Fld Z h68 a0 "com/example/headlattice/headlattice/learn/Coverage" "openPairs" "[[I" (.ref aP) := (((F_a0_openPairs_u34.other W40 (Or.inl (Ne.symm hne_aP_a0))).other W56 (Or.inl (Ne.symm hne_aO_a0))).other W68 (Or.inl (Ne.symm hne_aN_a0)))
  have F_a0_openPairs_u95 : Fld Z h80 a0 "com/example/headlattice/headlattice/learn/Coverage" "openPairs" "[[I" (.ref aP) := (c94.other W80 (Or.inl (Ne.symm hne_aC_a0)))
  have c96 : Fld Z h68 a0 "com/example/headlattice/headlattice/learn/Coverage" "remainingCount" "I" (.int (1 : Int32)) := (((Fw31.other W40 (Or.inl (Ne.symm hne_aP_a0))).other W56 (Or.inl (Ne.symm hne_aO_a0))).other W68 (Or.inl (Ne.symm hne_aN_a0)))
  have F_a0_remainingCount_u97 : Fld Z h80 a0 "com/example/headlattice/headlattice/learn/Coverage" "remainingCount" "I" (.int (1 : Int32)) := (c96.other W80 (Or.inl (Ne.symm hne_aC_a0)))
  have F_a0_openCounts_u98 : Fld Z h80 a0 "com/example/headlattice/headlattice/learn/Coverage" "openCounts" "[I" (.ref aO) := (((F_a0_openCounts_u48.other W56 (Or.inl (Ne.symm hne_aO_a0))).other W68 (Or.inl (Ne.symm hne_aN_a0))).other W80 (Or.inl (Ne.symm hne_aC_a0)))
  have F_a0_ones_u99 : Fld Z h80 a0 "com/example/headlattice/headlattice/learn/Coverage" "ones" "[I" (.ref aN) := ((F_a0_ones_u60.other W68 (Or.inl (Ne.symm hne_aN_a0))).other W80 (Or.inl (Ne.symm hne_aC_a0)))
  have F_a0_covered_u100 : Fld Z h80 a0 "com/example/headlattice/headlattice/learn/Coverage" "covered" "[Z" (.ref aC) := (F_a0_covered_u73.other W80 (Or.inl (Ne.symm hne_aC_a0)))
  have V_aP_u101 : Arv Z h80 aP kP (.array .int) (8 : Int32) [(.ref b4), .null, .null, .null, .null, .null, .null, .null] .null := (((V_aP_40.other W56 (Ne.symm hne_aO_aP)).other W68 (Ne.symm hne_aN_aP)).other W80 (Ne.symm hne_aC_aP))
  have c102 : Exa Z h26 aP "[[I" := (((E_aP.ext E4).wr W13).wr W26)
  have c103 : Exa Z h56 aP "[[I" := (((c102.wr W31).wr W40).wr W56)
  have E_aP_u104 : Exa Z h80 aP "[[I" := ((c103.wr W68).wr W80)
  have V_aO_u105 : Arv Z h80 aO kO .int (2 : Int32) [(.int (1 : Int32)), (.int (0 : Int32))] (.int (0 : Int32)) := ((V_aO_56.other W68 (Ne.symm hne_aN_aO)).other W80 (Ne.symm hne_aC_aO))
  have c106 : Exa Z h26 aO "[I" := (((E_aO.ext E4).wr W13).wr W26)
  have c107 : Exa Z h56 aO "[I" := (((c106.wr W31).wr W40).wr W56)
  have E_aO_u108 : Exa Z h80 aO "[I" := ((c107.wr W68).wr W80)
  have V_aN_u109 : Arv Z h80 aN kN .int (1 : Int32) [(.int (0 : Int32))] (.int (0 : Int32)) := (V_aN_68.other W80 (Ne.symm hne_aC_aN))
  have c110 : Exa Z h26 aN "[I" := (((E_aN.ext E4).wr W13).wr W26)
  have c111 : Exa Z h56 aN "[I" := (((c110.wr W31).wr W40).wr W56)
  have E_aN_u112 : Exa Z h80 aN "[I" := ((c111.wr W68).wr W80)
  have c113 : Exa Z h26 aC "[Z" := (((E_aC.ext E4).wr W13).wr W26)
  have c114 : Exa Z h56 aC "[Z" := (((c113.wr W31).wr W40).wr W56)
  have E_aC_u115 : Exa Z h80 aC "[Z" := ((c114.wr W68).wr W80)
  have c116 : Exa Z h68 b4 "[I" := (((E_b4_u39.wr W40).wr W56).wr W68)
  have E_b4_u117 : Exa Z h80 b4 "[I" := (c116.wr W80)
  have V_b4_u118 : Arv Z h80 b4 k4 .int (1 : Int32) [(.int (0 : Int32))] (.int (0 : Int32)) := (((V_b4_u41.other W56 (Ne.symm ne_aO_b4)).other W68 (Ne.symm ne_aN_b4)).other W80 (Ne.symm ne_aC_b4))
  obtain ⟨fs, hr, hrun, hended, hW, hsame⟩ := X80'.leave (v := some (.int (0 : Int32))) (fun h => by rw [Bd.returns] at h; cases h)
  refine ⟨_, _, pre0 _ ?_, hrun, hended, _, _, rfl, ?_, ⟨_, rfl⟩, hW, hsame.mono (by decide) (by decide)⟩
  · show Steps p.tables e below (s₁.setTop (mkF m 0 #[.val (.ref a0), .val (.ref a1), .val (.int (0 : Int32)), .unset, .unset, .unset, .unset, .unset, .unset] [])) _
    refine XS.aloadN X0.here hx rfl (hb hby d3_0) rfl rfl ?_
    show Steps p.tables e below (s₁.setTop (mkF m 1 #[.val (.ref a0), .val (.ref a1), .val (.int (0 : Int32)), .unset, .unset, .unset, .unset, .unset, .unset] [(.ref a1)])) _
    refine X0.arraylength hx (by rw [e0]; exact Ar1.1) (State.isArrayOf_alike hZ.alike Ar1.2.1) (g := (mkF m 1 #[.val (.ref a0), .val (.ref a1), .val (.int (0 : Int32)), .unset, .unset, .unset, .unset, .unset, .unset] [(.ref a1)])) rfl rfl (hb hby d3_1) _ ?_
    rw [len_of Sz1 Ng1]
    show Steps p.tables e below (s₁.setTop (mkF m 2 #[.val (.ref a0), .val (.ref a1), .val (.int (0 : Int32)), .unset, .unset, .unset, .unset, .unset, .unset] [(.int (1 : Int32))])) _
    refine XS.aloadN X0.here hx rfl (hb hby d3_2) rfl rfl ?_
    show Steps p.tables e below (s₁.setTop (mkF m 3 #[.val (.ref a0), .val (.ref a1), .val (.int (0 : Int32)), .unset, .unset, .unset, .unset, .unset, .unset] [(.ref a0), (.int (1 : Int32))])) _
    refine st2 _ ?_
    show Steps p.tables e below (T2.setTop (mkF m 6 #[.val (.ref a0), .val (.ref a1), .val (.int (0 : Int32)), .unset, .unset, .unset, .unset, .unset, .unset] [(.int (1 : Int32)), (.int (1 : Int32))])) _
    refine XS.icmpYes X2.here hx rfl (pc0 := 6) (pc' := 28) rfl (hb hby d3_6) rfl (teq (by decide : (1 : Int32) = (1 : Int32))).1 (by decide) (by decide) ?_
    show Steps p.tables e below (T2.setTop (mkF m 28 #[.val (.ref a0), .val (.ref a1), .val (.int (0 : Int32)), .unset, .unset, .unset, .unset, .unset, .unset] [])) _
    refine XS.aloadN X2.here hx rfl (hb hby d3_28) rfl rfl ?_
    show Steps p.tables e below (T2.setTop (mkF m 29 #[.val (.ref a0), .val (.ref a1), .val (.int (0 : Int32)), .unset, .unset, .unset, .unset, .unset, .unset] [(.ref a0)])) _
    refine st3 _ ?_
    show Steps p.tables e below (T3.setTop (mkF m 32 #[.val (.ref a0), .val (.ref a1), .val (.int (0 : Int32)), .unset, .unset, .unset, .unset, .unset, .unset] [(.int (1 : Int32))])) _
    refine st4 _ ?_
    show Steps p.tables e below (T4.setTop (mkF m 34 #[.val (.ref a0), .val (.ref a1), .val (.int (0 : Int32)), .unset, .unset, .unset, .unset, .unset, .unset] [(.ref b4)])) _
    refine XS.astoreN X4.here hx rfl (hb hby d3_34) rfl rfl (l' := #[.val (.ref a0), .val (.ref a1), .val (.int (0 : Int32)), .val (.ref b4), .unset, .unset, .unset, .unset, .unset]) rfl ?_
    show Steps p.tables e below (T4.setTop (mkF m 35 #[.val (.ref a0), .val (.ref a1), .val (.int (0 : Int32)), .val (.ref b4), .unset, .unset, .unset, .unset, .unset] [])) _
    refine XS.iconst X4.here hx rfl (hb hby d3_35) ?_
    show Steps p.tables e below (T4.setTop (mkF m 36 #[.val (.ref a0), .val (.ref a1), .val (.int (0 : Int32)), .val (.ref b4), .unset, .unset, .unset, .unset, .unset] [(.int (0 : Int32))])) _
    refine XS.istore X4.here hx rfl (hb hby d3_36) rfl (l' := #[.val (.ref a0), .val (.ref a1), .val (.int (0 : Int32)), .val (.ref b4), .val (.int (0 : Int32)), .unset, .unset, .unset, .unset]) rfl ?_
    show Steps p.tables e below (T4.setTop (mkF m 38 #[.val (.ref a0), .val (.ref a1), .val (.int (0 : Int32)), .val (.ref b4), .val (.int (0 : Int32)), .unset, .unset, .unset, .unset] [])) _
    refine XS.iload X4.here hx rfl (hb hby d3_38) rfl ?_
    show Steps p.tables e below (T4.setTop (mkF m 40 #[.val (.ref a0), .val (.ref a1), .val (.int (0 : Int32)), .val (.ref b4), .val (.int (0 : Int32)), .unset, .unset, .unset, .unset] [(.int (0 : Int32))])) _
    refine XS.aloadN X4.here hx rfl (hb hby d3_40) rfl rfl ?_
    show Steps p.tables e below (T4.setTop (mkF m 41 #[.val (.ref a0), .val (.ref a1), .val (.int (0 : Int32)), .val (.ref b4), .val (.int (0 : Int32)), .unset, .unset, .unset, .unset] [(.ref a0), (.int (0 : Int32))])) _
    refine st6 _ ?_
    show Steps p.tables e below (T6.setTop (mkF m 44 #[.val (.ref a0), .val (.ref a1), .val (.int (0 : Int32)), .val (.ref b4), .val (.int (0 : Int32)), .unset, .unset, .unset, .unset] [(.int (1 : Int32)), (.int (0 : Int32))])) _
    refine XS.icmpNo X6.here hx rfl (hb hby d3_44) rfl (tlt (by decide : (0 : Int32) < (1 : Int32))).2.1 ?_
    show Steps p.tables e below (T6.setTop (mkF m 47 #[.val (.ref a0), .val (.ref a1), .val (.int (0 : Int32)), .val (.ref b4), .val (.int (0 : Int32)), .unset, .unset, .unset, .unset] [])) _
    refine XS.aloadN X6.here hx rfl (hb hby d3_47) rfl rfl ?_
    show Steps p.tables e below (T6.setTop (mkF m 48 #[.val (.ref a0), .val (.ref a1), .val (.int (0 : Int32)), .val (.ref b4), .val (.int (0 : Int32)), .unset, .unset, .unset, .unset] [(.ref a1)])) _
    refine XS.iload X6.here hx rfl (hb hby d3_48) rfl ?_
    show Steps p.tables e below (T6.setTop (mkF m 50 #[.val (.ref a0), .val (.ref a1), .val (.int (0 : Int32)), .val (.ref b4), .val (.int (0 : Int32)), .unset, .unset, .unset, .unset] [(.int (0 : Int32)), (.ref a1)])) _
    refine X6.iaload hx (j := (0 : Int32)) (v := (.int (0 : Int32))) (by rw [e6]; exact Ar8.1) (State.isArrayOf_alike hZ.alike Ar8.2.1) Ar8.2.2 hin9 hat10 (g := (mkF m 50 #[.val (.ref a0), .val (.ref a1), .val (.int (0 : Int32)), .val (.ref b4), .val (.int (0 : Int32)), .unset, .unset, .unset, .unset] [(.int (0 : Int32)), (.ref a1)])) rfl rfl (hb hby d3_50) _ ?_
    show Steps p.tables e below (T6.setTop (mkF m 51 #[.val (.ref a0), .val (.ref a1), .val (.int (0 : Int32)), .val (.ref b4), .val (.int (0 : Int32)), .unset, .unset, .unset, .unset] [(.int (0 : Int32))])) _
    refine XS.istore X6.here hx rfl (hb hby d3_51) rfl (l' := #[.val (.ref a0), .val (.ref a1), .val (.int (0 : Int32)), .val (.ref b4), .val (.int (0 : Int32)), .val (.int (0 : Int32)), .unset, .unset, .unset]) rfl ?_
    show Steps p.tables e below (T6.setTop (mkF m 53 #[.val (.ref a0), .val (.ref a1), .val (.int (0 : Int32)), .val (.ref b4), .val (.int (0 : Int32)), .val (.int (0 : Int32)), .unset, .unset, .unset] [])) _
    refine XS.iload X6.here hx rfl (hb hby d3_53) rfl ?_
    show Steps p.tables e below (T6.setTop (mkF m 55 #[.val (.ref a0), .val (.ref a1), .val (.int (0 : Int32)), .val (.ref b4), .val (.int (0 : Int32)), .val (.int (0 : Int32)), .unset, .unset, .unset] [(.int (0 : Int32))])) _
    refine XS.ifYes X6.here hx rfl (pc0 := 55) (pc' := 79) rfl (hb hby d3_55) rfl ((if0 _ _).trans (teq (by decide : (0 : Int32) = (0 : Int32))).1) (by decide) (by decide) ?_
    show Steps p.tables e below (T6.setTop (mkF m 79 #[.val (.ref a0), .val (.ref a1), .val (.int (0 : Int32)), .val (.ref b4), .val (.int (0 : Int32)), .val (.int (0 : Int32)), .unset, .unset, .unset] [])) _
    refine XS.aloadN X6.here hx rfl (hb hby d3_79) rfl rfl ?_
    show Steps p.tables e below (T6.setTop (mkF m 80 #[.val (.ref a0), .val (.ref a1), .val (.int (0 : Int32)), .val (.ref b4), .val (.int (0 : Int32)), .val (.int (0 : Int32)), .unset, .unset, .unset] [(.ref b4)])) _
    refine XS.iload X6.here hx rfl (hb hby d3_80) rfl ?_
    show Steps p.tables e below (T6.setTop (mkF m 82 #[.val (.ref a0), .val (.ref a1), .val (.int (0 : Int32)), .val (.ref b4), .val (.int (0 : Int32)), .val (.int (0 : Int32)), .unset, .unset, .unset] [(.int (0 : Int32)), (.ref b4)])) _
    refine XS.iconst X6.here hx rfl (hb hby d3_82) ?_
    show Steps p.tables e below (T6.setTop (mkF m 83 #[.val (.ref a0), .val (.ref a1), .val (.int (0 : Int32)), .val (.ref b4), .val (.int (0 : Int32)), .val (.int (0 : Int32)), .unset, .unset, .unset] [(.int (2 : Int32)), (.int (0 : Int32)), (.ref b4)])) _
    refine XS.iload X6.here hx rfl (hb hby d3_83) rfl ?_
    show Steps p.tables e below (T6.setTop (mkF m 85 #[.val (.ref a0), .val (.ref a1), .val (.int (0 : Int32)), .val (.ref b4), .val (.int (0 : Int32)), .val (.int (0 : Int32)), .unset, .unset, .unset] [(.int (0 : Int32)), (.int (2 : Int32)), (.int (0 : Int32)), (.ref b4)])) _
    refine XS.imul X6.here hx rfl (hb hby d3_85) rfl ?_
    show Steps p.tables e below (T6.setTop (mkF m 86 #[.val (.ref a0), .val (.ref a1), .val (.int (0 : Int32)), .val (.ref b4), .val (.int (0 : Int32)), .val (.int (0 : Int32)), .unset, .unset, .unset] [(.int (0 : Int32)), (.int (0 : Int32)), (.ref b4)])) _
    refine XS.iload X6.here hx rfl (hb hby d3_86) rfl ?_
    show Steps p.tables e below (T6.setTop (mkF m 88 #[.val (.ref a0), .val (.ref a1), .val (.int (0 : Int32)), .val (.ref b4), .val (.int (0 : Int32)), .val (.int (0 : Int32)), .unset, .unset, .unset] [(.int (0 : Int32)), (.int (0 : Int32)), (.int (0 : Int32)), (.ref b4)])) _
    refine XS.iadd X6.here hx rfl (hb hby d3_88) rfl ?_
    show Steps p.tables e below (T6.setTop (mkF m 89 #[.val (.ref a0), .val (.ref a1), .val (.int (0 : Int32)), .val (.ref b4), .val (.int (0 : Int32)), .val (.int (0 : Int32)), .unset, .unset, .unset] [(.int (0 : Int32)), (.int (0 : Int32)), (.ref b4)])) _
    refine st13 _ ?_
    show Steps p.tables e below (T13.setTop (mkF m 90 #[.val (.ref a0), .val (.ref a1), .val (.int (0 : Int32)), .val (.ref b4), .val (.int (0 : Int32)), .val (.int (0 : Int32)), .unset, .unset, .unset] [])) _
    refine XS.iinc X13'.here hx rfl (hb hby d3_90) rfl (l' := #[.val (.ref a0), .val (.ref a1), .val (.int (0 : Int32)), .val (.ref b4), .val (.int (1 : Int32)), .val (.int (0 : Int32)), .unset, .unset, .unset]) rfl ?_
    show Steps p.tables e below (T13.setTop (mkF m 93 #[.val (.ref a0), .val (.ref a1), .val (.int (0 : Int32)), .val (.ref b4), .val (.int (1 : Int32)), .val (.int (0 : Int32)), .unset, .unset, .unset] [])) _
    refine XS.goto X13'.here hx rfl (pc0 := 93) (pc' := 38) rfl (hb hby d3_93) (by decide) (by decide) ?_
    show Steps p.tables e below (T13.setTop (mkF m 38 #[.val (.ref a0), .val (.ref a1), .val (.int (0 : Int32)), .val (.ref b4), .val (.int (1 : Int32)), .val (.int (0 : Int32)), .unset, .unset, .unset] [])) _
    refine XS.iload X13'.here hx rfl (hb hby d3_38) rfl ?_
    show Steps p.tables e below (T13.setTop (mkF m 40 #[.val (.ref a0), .val (.ref a1), .val (.int (0 : Int32)), .val (.ref b4), .val (.int (1 : Int32)), .val (.int (0 : Int32)), .unset, .unset, .unset] [(.int (1 : Int32))])) _
    refine XS.aloadN X13'.here hx rfl (hb hby d3_40) rfl rfl ?_
    show Steps p.tables e below (T13.setTop (mkF m 41 #[.val (.ref a0), .val (.ref a1), .val (.int (0 : Int32)), .val (.ref b4), .val (.int (1 : Int32)), .val (.int (0 : Int32)), .unset, .unset, .unset] [(.ref a0), (.int (1 : Int32))])) _
    refine st15 _ ?_
    show Steps p.tables e below (T15.setTop (mkF m 44 #[.val (.ref a0), .val (.ref a1), .val (.int (0 : Int32)), .val (.ref b4), .val (.int (1 : Int32)), .val (.int (0 : Int32)), .unset, .unset, .unset] [(.int (1 : Int32)), (.int (1 : Int32))])) _
    refine XS.icmpYes X15.here hx rfl (pc0 := 44) (pc' := 96) rfl (hb hby d3_44) rfl (flt (by decide : ¬ ((1 : Int32) < (1 : Int32)))).2.1 (by decide) (by decide) ?_
    show Steps p.tables e below (T15.setTop (mkF m 96 #[.val (.ref a0), .val (.ref a1), .val (.int (0 : Int32)), .val (.ref b4), .val (.int (1 : Int32)), .val (.int (0 : Int32)), .unset, .unset, .unset] [])) _
    refine XS.aloadN X15.here hx rfl (hb hby d3_96) rfl rfl ?_
    show Steps p.tables e below (T15.setTop (mkF m 97 #[.val (.ref a0), .val (.ref a1), .val (.int (0 : Int32)), .val (.ref b4), .val (.int (1 : Int32)), .val (.int (0 : Int32)), .unset, .unset, .unset] [(.ref a0)])) _
    refine st17 _ ?_
    show Steps p.tables e below (T17.setTop (mkF m 100 #[.val (.ref a0), .val (.ref a1), .val (.int (0 : Int32)), .val (.ref b4), .val (.int (1 : Int32)), .val (.int (0 : Int32)), .unset, .unset, .unset] [(.int (0 : Int32))])) _
    refine XS.aloadN X17.here hx rfl (hb hby d3_100) rfl rfl ?_
    show Steps p.tables e below (T17.setTop (mkF m 101 #[.val (.ref a0), .val (.ref a1), .val (.int (0 : Int32)), .val (.ref b4), .val (.int (1 : Int32)), .val (.int (0 : Int32)), .unset, .unset, .unset] [(.ref a0), (.int (0 : Int32))])) _
    refine st19 _ ?_
    show Steps p.tables e below (T19.setTop (mkF m 104 #[.val (.ref a0), .val (.ref a1), .val (.int (0 : Int32)), .val (.ref b4), .val (.int (1 : Int32)), .val (.int (0 : Int32)), .unset, .unset, .unset] [(.ref aP), (.int (0 : Int32))])) _
    refine X19.arraylength hx (by rw [e19]; exact Ar21.1) (State.isArrayOf_alike hZ.alike Ar21.2.1) (g := (mkF m 104 #[.val (.ref a0), .val (.ref a1), .val (.int (0 : Int32)), .val (.ref b4), .val (.int (1 : Int32)), .val (.int (0 : Int32)), .unset, .unset, .unset] [(.ref aP), (.int (0 : Int32))])) rfl rfl (hb hby d3_104) _ ?_
    rw [len_of Sz21 Ng21]
    show Steps p.tables e below (T19.setTop (mkF m 105 #[.val (.ref a0), .val (.ref a1), .val (.int (0 : Int32)), .val (.ref b4), .val (.int (1 : Int32)), .val (.int (0 : Int32)), .unset, .unset, .unset] [(.int (8 : Int32)), (.int (0 : Int32))])) _
    refine XS.icmpYes X19.here hx rfl (pc0 := 105) (pc' := 150) rfl (hb hby d3_105) rfl (feq (by decide : ¬ ((0 : Int32) = (8 : Int32)))).2 (by decide) (by decide) ?_
    show Steps p.tables e below (T19.setTop (mkF m 150 #[.val (.ref a0), .val (.ref a1), .val (.int (0 : Int32)), .val (.ref b4), .val (.int (1 : Int32)), .val (.int (0 : Int32)), .unset, .unset, .unset] [])) _
    refine XS.aloadN X19.here hx rfl (hb hby d3_150) rfl rfl ?_
    show Steps p.tables e below (T19.setTop (mkF m 151 #[.val (.ref a0), .val (.ref a1), .val (.int (0 : Int32)), .val (.ref b4), .val (.int (1 : Int32)), .val (.int (0 : Int32)), .unset, .unset, .unset] [(.ref a0)])) _
    refine st22.trans ?_
    show Steps p.tables e below (T22.setTop (mkF m 154 #[.val (.ref a0), .val (.ref a1), .val (.int (0 : Int32)), .val (.ref b4), .val (.int (1 : Int32)), .val (.int (0 : Int32)), .unset, .unset, .unset] [])) _
    refine XS.aloadN X22'.here hx rfl (hb hby d3_154) rfl rfl ?_
    show Steps p.tables e below (T22.setTop (mkF m 155 #[.val (.ref a0), .val (.ref a1), .val (.int (0 : Int32)), .val (.ref b4), .val (.int (1 : Int32)), .val (.int (0 : Int32)), .unset, .unset, .unset] [(.ref a0)])) _
    refine XS.dup X22'.here hx rfl (hb hby d3_155) rfl rfl ?_
    show Steps p.tables e below (T22.setTop (mkF m 156 #[.val (.ref a0), .val (.ref a1), .val (.int (0 : Int32)), .val (.ref b4), .val (.int (1 : Int32)), .val (.int (0 : Int32)), .unset, .unset, .unset] [(.ref a0), (.ref a0)])) _
    refine st25 _ ?_
    show Steps p.tables e below (T25.setTop (mkF m 159 #[.val (.ref a0), .val (.ref a1), .val (.int (0 : Int32)), .val (.ref b4), .val (.int (1 : Int32)), .val (.int (0 : Int32)), .unset, .unset, .unset] [(.int (0 : Int32)), (.ref a0)])) _
    refine XS.dupX1 X25.here hx rfl (hb hby d3_159) rfl rfl rfl ?_
    show Steps p.tables e below (T25.setTop (mkF m 160 #[.val (.ref a0), .val (.ref a1), .val (.int (0 : Int32)), .val (.ref b4), .val (.int (1 : Int32)), .val (.int (0 : Int32)), .unset, .unset, .unset] [(.int (0 : Int32)), (.ref a0), (.int (0 : Int32))])) _
    refine XS.iconst X25.here hx rfl (hb hby d3_160) ?_
    show Steps p.tables e below (T25.setTop (mkF m 161 #[.val (.ref a0), .val (.ref a1), .val (.int (0 : Int32)), .val (.ref b4), .val (.int (1 : Int32)), .val (.int (0 : Int32)), .unset, .unset, .unset] [(.int (1 : Int32)), (.int (0 : Int32)), (.ref a0), (.int (0 : Int32))])) _
    refine XS.iadd X25.here hx rfl (hb hby d3_161) rfl ?_
    show Steps p.tables e below (T25.setTop (mkF m 162 #[.val (.ref a0), .val (.ref a1), .val (.int (0 : Int32)), .val (.ref b4), .val (.int (1 : Int32)), .val (.int (0 : Int32)), .unset, .unset, .unset] [(.int (1 : Int32)), (.ref a0), (.int (0 : Int32))])) _
    refine st26 _ ?_
    show Steps p.tables e below (T26.setTop (mkF m 165 #[.val (.ref a0), .val (.ref a1), .val (.int (0 : Int32)), .val (.ref b4), .val (.int (1 : Int32)), .val (.int (0 : Int32)), .unset, .unset, .unset] [(.int (0 : Int32))])) _
    refine XS.istore X26'.here hx rfl (hb hby d3_165) rfl (l' := #[.val (.ref a0), .val (.ref a1), .val (.int (0 : Int32)), .val (.ref b4), .val (.int (0 : Int32)), .val (.int (0 : Int32)), .unset, .unset, .unset]) rfl ?_
    show Steps p.tables e below (T26.setTop (mkF m 167 #[.val (.ref a0), .val (.ref a1), .val (.int (0 : Int32)), .val (.ref b4), .val (.int (0 : Int32)), .val (.int (0 : Int32)), .unset, .unset, .unset] [])) _
    refine XS.aloadN X26'.here hx rfl (hb hby d3_167) rfl rfl ?_
    show Steps p.tables e below (T26.setTop (mkF m 168 #[.val (.ref a0), .val (.ref a1), .val (.int (0 : Int32)), .val (.ref b4), .val (.int (0 : Int32)), .val (.int (0 : Int32)), .unset, .unset, .unset] [(.ref a0)])) _
    refine XS.dup X26'.here hx rfl (hb hby d3_168) rfl rfl ?_
    show Steps p.tables e below (T26.setTop (mkF m 169 #[.val (.ref a0), .val (.ref a1), .val (.int (0 : Int32)), .val (.ref b4), .val (.int (0 : Int32)), .val (.int (0 : Int32)), .unset, .unset, .unset] [(.ref a0), (.ref a0)])) _
    refine st29 _ ?_
    show Steps p.tables e below (T29.setTop (mkF m 172 #[.val (.ref a0), .val (.ref a1), .val (.int (0 : Int32)), .val (.ref b4), .val (.int (0 : Int32)), .val (.int (0 : Int32)), .unset, .unset, .unset] [(.int (0 : Int32)), (.ref a0)])) _
    refine XS.iconst X29.here hx rfl (hb hby d3_172) ?_
    show Steps p.tables e below (T29.setTop (mkF m 173 #[.val (.ref a0), .val (.ref a1), .val (.int (0 : Int32)), .val (.ref b4), .val (.int (0 : Int32)), .val (.int (0 : Int32)), .unset, .unset, .unset] [(.int (1 : Int32)), (.int (0 : Int32)), (.ref a0)])) _
    refine XS.iadd X29.here hx rfl (hb hby d3_173) rfl ?_
    show Steps p.tables e below (T29.setTop (mkF m 174 #[.val (.ref a0), .val (.ref a1), .val (.int (0 : Int32)), .val (.ref b4), .val (.int (0 : Int32)), .val (.int (0 : Int32)), .unset, .unset, .unset] [(.int (1 : Int32)), (.ref a0)])) _
    refine st31 _ ?_
    show Steps p.tables e below (T31.setTop (mkF m 177 #[.val (.ref a0), .val (.ref a1), .val (.int (0 : Int32)), .val (.ref b4), .val (.int (0 : Int32)), .val (.int (0 : Int32)), .unset, .unset, .unset] [])) _
    refine XS.aloadN X31'.here hx rfl (hb hby d3_177) rfl rfl ?_
    show Steps p.tables e below (T31.setTop (mkF m 178 #[.val (.ref a0), .val (.ref a1), .val (.int (0 : Int32)), .val (.ref b4), .val (.int (0 : Int32)), .val (.int (0 : Int32)), .unset, .unset, .unset] [(.ref a0)])) _
    refine st35 _ ?_
    show Steps p.tables e below (T35.setTop (mkF m 181 #[.val (.ref a0), .val (.ref a1), .val (.int (0 : Int32)), .val (.ref b4), .val (.int (0 : Int32)), .val (.int (0 : Int32)), .unset, .unset, .unset] [(.ref aP)])) _
    refine XS.iload X35.here hx rfl (hb hby d3_181) rfl ?_
    show Steps p.tables e below (T35.setTop (mkF m 183 #[.val (.ref a0), .val (.ref a1), .val (.int (0 : Int32)), .val (.ref b4), .val (.int (0 : Int32)), .val (.int (0 : Int32)), .unset, .unset, .unset] [(.int (0 : Int32)), (.ref aP)])) _
    refine XS.aloadN X35.here hx rfl (hb hby d3_183) rfl rfl ?_
    show Steps p.tables e below (T35.setTop (mkF m 184 #[.val (.ref a0), .val (.ref a1), .val (.int (0 : Int32)), .val (.ref b4), .val (.int (0 : Int32)), .val (.int (0 : Int32)), .unset, .unset, .unset] [(.ref b4), (.int (0 : Int32)), (.ref aP)])) _
    refine st40 _ ?_
    show Steps p.tables e below (T40.setTop (mkF m 185 #[.val (.ref a0), .val (.ref a1), .val (.int (0 : Int32)), .val (.ref b4), .val (.int (0 : Int32)), .val (.int (0 : Int32)), .unset, .unset, .unset] [])) _
    refine XS.aloadN X40'.here hx rfl (hb hby d3_185) rfl rfl ?_
    show Steps p.tables e below (T40.setTop (mkF m 186 #[.val (.ref a0), .val (.ref a1), .val (.int (0 : Int32)), .val (.ref b4), .val (.int (0 : Int32)), .val (.int (0 : Int32)), .unset, .unset, .unset] [(.ref b4)])) _
    refine XS.astore X40'.here hx rfl (hb hby d3_186) rfl rfl (l' := #[.val (.ref a0), .val (.ref a1), .val (.int (0 : Int32)), .val (.ref b4), .val (.int (0 : Int32)), .val (.ref b4), .unset, .unset, .unset]) rfl ?_
    show Steps p.tables e below (T40.setTop (mkF m 188 #[.val (.ref a0), .val (.ref a1), .val (.int (0 : Int32)), .val (.ref b4), .val (.int (0 : Int32)), .val (.ref b4), .unset, .unset, .unset] [])) _
    refine XS.aload X40'.here hx rfl (hb hby d3_188) rfl rfl ?_
    show Steps p.tables e below (T40.setTop (mkF m 190 #[.val (.ref a0), .val (.ref a1), .val (.int (0 : Int32)), .val (.ref b4), .val (.int (0 : Int32)), .val (.ref b4), .unset, .unset, .unset] [(.ref b4)])) _
    refine X40'.arraylength hx (by rw [e40]; exact Ar42.1) (State.isArrayOf_alike hZ.alike Ar42.2.1) (g := (mkF m 190 #[.val (.ref a0), .val (.ref a1), .val (.int (0 : Int32)), .val (.ref b4), .val (.int (0 : Int32)), .val (.ref b4), .unset, .unset, .unset] [(.ref b4)])) rfl rfl (hb hby d3_190) _ ?_
    rw [len_of Sz42 Ng42]
    show Steps p.tables e below (T40.setTop (mkF m 191 #[.val (.ref a0), .val (.ref a1), .val (.int (0 : Int32)), .val (.ref b4), .val (.int (0 : Int32)), .val (.ref b4), .unset, .unset, .unset] [(.int (1 : Int32))])) _
    refine XS.istore X40'.here hx rfl (hb hby d3_191) rfl (l' := #[.val (.ref a0), .val (.ref a1), .val (.int (0 : Int32)), .val (.ref b4), .val (.int (0 : Int32)), .val (.ref b4), .val (.int (1 : Int32)), .unset, .unset]) rfl ?_
    show Steps p.tables e below (T40.setTop (mkF m 193 #[.val (.ref a0), .val (.ref a1), .val (.int (0 : Int32)), .val (.ref b4), .val (.int (0 : Int32)), .val (.ref b4), .val (.int (1 : Int32)), .unset, .unset] [])) _
    refine XS.iconst X40'.here hx rfl (hb hby d3_193) ?_
    show Steps p.tables e below (T40.setTop (mkF m 194 #[.val (.ref a0), .val (.ref a1), .val (.int (0 : Int32)), .val (.ref b4), .val (.int (0 : Int32)), .val (.ref b4), .val (.int (1 : Int32)), .unset, .unset] [(.int (0 : Int32))])) _
    refine XS.istore X40'.here hx rfl (hb hby d3_194) rfl (l' := #[.val (.ref a0), .val (.ref a1), .val (.int (0 : Int32)), .val (.ref b4), .val (.int (0 : Int32)), .val (.ref b4), .val (.int (1 : Int32)), .val (.int (0 : Int32)), .unset]) rfl ?_
    show Steps p.tables e below (T40.setTop (mkF m 196 #[.val (.ref a0), .val (.ref a1), .val (.int (0 : Int32)), .val (.ref b4), .val (.int (0 : Int32)), .val (.ref b4), .val (.int (1 : Int32)), .val (.int (0 : Int32)), .unset] [])) _
    refine XS.iload X40'.here hx rfl (hb hby d3_196) rfl ?_
    show Steps p.tables e below (T40.setTop (mkF m 198 #[.val (.ref a0), .val (.ref a1), .val (.int (0 : Int32)), .val (.ref b4), .val (.int (0 : Int32)), .val (.ref b4), .val (.int (1 : Int32)), .val (.int (0 : Int32)), .unset] [(.int (0 : Int32))])) _
    refine XS.iload X40'.here hx rfl (hb hby d3_198) rfl ?_
    show Steps p.tables e below (T40.setTop (mkF m 200 #[.val (.ref a0), .val (.ref a1), .val (.int (0 : Int32)), .val (.ref b4), .val (.int (0 : Int32)), .val (.ref b4), .val (.int (1 : Int32)), .val (.int (0 : Int32)), .unset] [(.int (1 : Int32)), (.int (0 : Int32))])) _
    refine XS.icmpNo X40'.here hx rfl (hb hby d3_200) rfl (tlt (by decide : (0 : Int32) < (1 : Int32))).2.1 ?_
    show Steps p.tables e below (T40.setTop (mkF m 203 #[.val (.ref a0), .val (.ref a1), .val (.int (0 : Int32)), .val (.ref b4), .val (.int (0 : Int32)), .val (.ref b4), .val (.int (1 : Int32)), .val (.int (0 : Int32)), .unset] [])) _
    refine XS.aload X40'.here hx rfl (hb hby d3_203) rfl rfl ?_
    show Steps p.tables e below (T40.setTop (mkF m 205 #[.val (.ref a0), .val (.ref a1), .val (.int (0 : Int32)), .val (.ref b4), .val (.int (0 : Int32)), .val (.ref b4), .val (.int (1 : Int32)), .val (.int (0 : Int32)), .unset] [(.ref b4)])) _
    refine XS.iload X40'.here hx rfl (hb hby d3_205) rfl ?_
    show Steps p.tables e below (T40.setTop (mkF m 207 #[.val (.ref a0), .val (.ref a1), .val (.int (0 : Int32)), .val (.ref b4), .val (.int (0 : Int32)), .val (.ref b4), .val (.int (1 : Int32)), .val (.int (0 : Int32)), .unset] [(.int (0 : Int32)), (.ref b4)])) _
    refine X40'.iaload hx (j := (0 : Int32)) (v := (.int (0 : Int32))) (by rw [e40]; exact Ar42.1) (State.isArrayOf_alike hZ.alike Ar42.2.1) Ar42.2.2 hin43 hat44 (g := (mkF m 207 #[.val (.ref a0), .val (.ref a1), .val (.int (0 : Int32)), .val (.ref b4), .val (.int (0 : Int32)), .val (.ref b4), .val (.int (1 : Int32)), .val (.int (0 : Int32)), .unset] [(.int (0 : Int32)), (.ref b4)])) rfl rfl (hb hby d3_207) _ ?_
    show Steps p.tables e below (T40.setTop (mkF m 208 #[.val (.ref a0), .val (.ref a1), .val (.int (0 : Int32)), .val (.ref b4), .val (.int (0 : Int32)), .val (.ref b4), .val (.int (1 : Int32)), .val (.int (0 : Int32)), .unset] [(.int (0 : Int32))])) _
    refine XS.istore X40'.here hx rfl (hb hby d3_208) rfl (l' := #[.val (.ref a0), .val (.ref a1), .val (.int (0 : Int32)), .val (.ref b4), .val (.int (0 : Int32)), .val (.ref b4), .val (.int (1 : Int32)), .val (.int (0 : Int32)), .val (.int (0 : Int32))]) rfl ?_
    show Steps p.tables e below (T40.setTop (mkF m 210 #[.val (.ref a0), .val (.ref a1), .val (.int (0 : Int32)), .val (.ref b4), .val (.int (0 : Int32)), .val (.ref b4), .val (.int (1 : Int32)), .val (.int (0 : Int32)), .val (.int (0 : Int32))] [])) _
    refine XS.aloadN X40'.here hx rfl (hb hby d3_210) rfl rfl ?_
    show Steps p.tables e below (T40.setTop (mkF m 211 #[.val (.ref a0), .val (.ref a1), .val (.int (0 : Int32)), .val (.ref b4), .val (.int (0 : Int32)), .val (.ref b4), .val (.int (1 : Int32)), .val (.int (0 : Int32)), .val (.int (0 : Int32))] [(.ref a0)])) _
    refine st49 _ ?_
    show Steps p.tables e below (T49.setTop (mkF m 214 #[.val (.ref a0), .val (.ref a1), .val (.int (0 : Int32)), .val (.ref b4), .val (.int (0 : Int32)), .val (.ref b4), .val (.int (1 : Int32)), .val (.int (0 : Int32)), .val (.int (0 : Int32))] [(.ref aO)])) _
    refine XS.iload X49.here hx rfl (hb hby d3_214) rfl ?_
    show Steps p.tables e below (T49.setTop (mkF m 216 #[.val (.ref a0), .val (.ref a1), .val (.int (0 : Int32)), .val (.ref b4), .val (.int (0 : Int32)), .val (.ref b4), .val (.int (1 : Int32)), .val (.int (0 : Int32)), .val (.int (0 : Int32))] [(.int (0 : Int32)), (.ref aO)])) _
    jvm_step X49.here [X49.here.top, hx, (hb hby d3_216), Value.category]
    show Steps p.tables e below (T49.setTop (mkF m 217 #[.val (.ref a0), .val (.ref a1), .val (.int (0 : Int32)), .val (.ref b4), .val (.int (0 : Int32)), .val (.ref b4), .val (.int (1 : Int32)), .val (.int (0 : Int32)), .val (.int (0 : Int32))] [(.int (0 : Int32)), (.ref aO), (.int (0 : Int32)), (.ref aO)])) _
    refine X49.iaload hx (j := (0 : Int32)) (v := (.int (0 : Int32))) (by rw [e49]; exact Ar52.1) (State.isArrayOf_alike hZ.alike Ar52.2.1) Ar52.2.2 hin53 hat54 (g := (mkF m 217 #[.val (.ref a0), .val (.ref a1), .val (.int (0 : Int32)), .val (.ref b4), .val (.int (0 : Int32)), .val (.ref b4), .val (.int (1 : Int32)), .val (.int (0 : Int32)), .val (.int (0 : Int32))] [(.int (0 : Int32)), (.ref aO), (.int (0 : Int32)), (.ref aO)])) rfl rfl (hb hby d3_217) _ ?_
    show Steps p.tables e below (T49.setTop (mkF m 218 #[.val (.ref a0), .val (.ref a1), .val (.int (0 : Int32)), .val (.ref b4), .val (.int (0 : Int32)), .val (.ref b4), .val (.int (1 : Int32)), .val (.int (0 : Int32)), .val (.int (0 : Int32))] [(.int (0 : Int32)), (.int (0 : Int32)), (.ref aO)])) _
    refine XS.iconst X49.here hx rfl (hb hby d3_218) ?_
    show Steps p.tables e below (T49.setTop (mkF m 219 #[.val (.ref a0), .val (.ref a1), .val (.int (0 : Int32)), .val (.ref b4), .val (.int (0 : Int32)), .val (.ref b4), .val (.int (1 : Int32)), .val (.int (0 : Int32)), .val (.int (0 : Int32))] [(.int (1 : Int32)), (.int (0 : Int32)), (.int (0 : Int32)), (.ref aO)])) _
    refine XS.iadd X49.here hx rfl (hb hby d3_219) rfl ?_
    show Steps p.tables e below (T49.setTop (mkF m 220 #[.val (.ref a0), .val (.ref a1), .val (.int (0 : Int32)), .val (.ref b4), .val (.int (0 : Int32)), .val (.ref b4), .val (.int (1 : Int32)), .val (.int (0 : Int32)), .val (.int (0 : Int32))] [(.int (1 : Int32)), (.int (0 : Int32)), (.ref aO)])) _
    refine st56 _ ?_
    show Steps p.tables e below (T56.setTop (mkF m 221 #[.val (.ref a0), .val (.ref a1), .val (.int (0 : Int32)), .val (.ref b4), .val (.int (0 : Int32)), .val (.ref b4), .val (.int (1 : Int32)), .val (.int (0 : Int32)), .val (.int (0 : Int32))] [])) _
    refine XS.aloadN X56'.here hx rfl (hb hby d3_221) rfl rfl ?_
    show Steps p.tables e below (T56.setTop (mkF m 222 #[.val (.ref a0), .val (.ref a1), .val (.int (0 : Int32)), .val (.ref b4), .val (.int (0 : Int32)), .val (.ref b4), .val (.int (1 : Int32)), .val (.int (0 : Int32)), .val (.int (0 : Int32))] [(.ref a0)])) _
    refine st61 _ ?_
    show Steps p.tables e below (T61.setTop (mkF m 225 #[.val (.ref a0), .val (.ref a1), .val (.int (0 : Int32)), .val (.ref b4), .val (.int (0 : Int32)), .val (.ref b4), .val (.int (1 : Int32)), .val (.int (0 : Int32)), .val (.int (0 : Int32))] [(.ref aN)])) _
    refine XS.iload X61.here hx rfl (hb hby d3_225) rfl ?_
    show Steps p.tables e below (T61.setTop (mkF m 227 #[.val (.ref a0), .val (.ref a1), .val (.int (0 : Int32)), .val (.ref b4), .val (.int (0 : Int32)), .val (.ref b4), .val (.int (1 : Int32)), .val (.int (0 : Int32)), .val (.int (0 : Int32))] [(.int (0 : Int32)), (.ref aN)])) _
    refine XS.iconst X61.here hx rfl (hb hby d3_227) ?_
    show Steps p.tables e below (T61.setTop (mkF m 228 #[.val (.ref a0), .val (.ref a1), .val (.int (0 : Int32)), .val (.ref b4), .val (.int (0 : Int32)), .val (.ref b4), .val (.int (1 : Int32)), .val (.int (0 : Int32)), .val (.int (0 : Int32))] [(.int (2 : Int32)), (.int (0 : Int32)), (.ref aN)])) _
    refine XS.idiv X61.here hx rfl (hb hby d3_228) rfl (by decide) ?_
    show Steps p.tables e below (T61.setTop (mkF m 229 #[.val (.ref a0), .val (.ref a1), .val (.int (0 : Int32)), .val (.ref b4), .val (.int (0 : Int32)), .val (.ref b4), .val (.int (1 : Int32)), .val (.int (0 : Int32)), .val (.int (0 : Int32))] [(.int (0 : Int32)), (.ref aN)])) _
    jvm_step X61.here [X61.here.top, hx, (hb hby d3_229), Value.category]
    show Steps p.tables e below (T61.setTop (mkF m 230 #[.val (.ref a0), .val (.ref a1), .val (.int (0 : Int32)), .val (.ref b4), .val (.int (0 : Int32)), .val (.ref b4), .val (.int (1 : Int32)), .val (.int (0 : Int32)), .val (.int (0 : Int32))] [(.int (0 : Int32)), (.ref aN), (.int (0 : Int32)), (.ref aN)])) _
    refine X61.iaload hx (j := (0 : Int32)) (v := (.int (0 : Int32))) (by rw [e61]; exact Ar64.1) (State.isArrayOf_alike hZ.alike Ar64.2.1) Ar64.2.2 hin65 hat66 (g := (mkF m 230 #[.val (.ref a0), .val (.ref a1), .val (.int (0 : Int32)), .val (.ref b4), .val (.int (0 : Int32)), .val (.ref b4), .val (.int (1 : Int32)), .val (.int (0 : Int32)), .val (.int (0 : Int32))] [(.int (0 : Int32)), (.ref aN), (.int (0 : Int32)), (.ref aN)])) rfl rfl (hb hby d3_230) _ ?_
    show Steps p.tables e below (T61.setTop (mkF m 231 #[.val (.ref a0), .val (.ref a1), .val (.int (0 : Int32)), .val (.ref b4), .val (.int (0 : Int32)), .val (.ref b4), .val (.int (1 : Int32)), .val (.int (0 : Int32)), .val (.int (0 : Int32))] [(.int (0 : Int32)), (.int (0 : Int32)), (.ref aN)])) _
    refine XS.iload X61.here hx rfl (hb hby d3_231) rfl ?_
    show Steps p.tables e below (T61.setTop (mkF m 233 #[.val (.ref a0), .val (.ref a1), .val (.int (0 : Int32)), .val (.ref b4), .val (.int (0 : Int32)), .val (.ref b4), .val (.int (1 : Int32)), .val (.int (0 : Int32)), .val (.int (0 : Int32))] [(.int (0 : Int32)), (.int (0 : Int32)), (.int (0 : Int32)), (.ref aN)])) _
    refine XS.iconst X61.here hx rfl (hb hby d3_233) ?_
    show Steps p.tables e below (T61.setTop (mkF m 234 #[.val (.ref a0), .val (.ref a1), .val (.int (0 : Int32)), .val (.ref b4), .val (.int (0 : Int32)), .val (.ref b4), .val (.int (1 : Int32)), .val (.int (0 : Int32)), .val (.int (0 : Int32))] [(.int (2 : Int32)), (.int (0 : Int32)), (.int (0 : Int32)), (.int (0 : Int32)), (.ref aN)])) _
    refine iremM X61 hx rfl (hb hby d3_234) rfl (by decide) ?_
    show Steps p.tables e below (T61.setTop (mkF m 235 #[.val (.ref a0), .val (.ref a1), .val (.int (0 : Int32)), .val (.ref b4), .val (.int (0 : Int32)), .val (.ref b4), .val (.int (1 : Int32)), .val (.int (0 : Int32)), .val (.int (0 : Int32))] [(.int (0 : Int32)), (.int (0 : Int32)), (.int (0 : Int32)), (.ref aN)])) _
    refine XS.iadd X61.here hx rfl (hb hby d3_235) rfl ?_
    show Steps p.tables e below (T61.setTop (mkF m 236 #[.val (.ref a0), .val (.ref a1), .val (.int (0 : Int32)), .val (.ref b4), .val (.int (0 : Int32)), .val (.ref b4), .val (.int (1 : Int32)), .val (.int (0 : Int32)), .val (.int (0 : Int32))] [(.int (0 : Int32)), (.int (0 : Int32)), (.ref aN)])) _
    refine st68 _ ?_
    show Steps p.tables e below (T68.setTop (mkF m 237 #[.val (.ref a0), .val (.ref a1), .val (.int (0 : Int32)), .val (.ref b4), .val (.int (0 : Int32)), .val (.ref b4), .val (.int (1 : Int32)), .val (.int (0 : Int32)), .val (.int (0 : Int32))] [])) _
    refine XS.iloadN X68'.here hx rfl (hb hby d3_237) rfl ?_
    show Steps p.tables e below (T68.setTop (mkF m 238 #[.val (.ref a0), .val (.ref a1), .val (.int (0 : Int32)), .val (.ref b4), .val (.int (0 : Int32)), .val (.ref b4), .val (.int (1 : Int32)), .val (.int (0 : Int32)), .val (.int (0 : Int32))] [(.int (0 : Int32))])) _
    refine XS.ifYes X68'.here hx rfl (pc0 := 238) (pc' := 252) rfl (hb hby d3_238) rfl ((if0 _ _).trans (teq (by decide : (0 : Int32) = (0 : Int32))).1) (by decide) (by decide) ?_
    show Steps p.tables e below (T68.setTop (mkF m 252 #[.val (.ref a0), .val (.ref a1), .val (.int (0 : Int32)), .val (.ref b4), .val (.int (0 : Int32)), .val (.ref b4), .val (.int (1 : Int32)), .val (.int (0 : Int32)), .val (.int (0 : Int32))] [])) _
    refine XS.iinc X68'.here hx rfl (hb hby d3_252) rfl (l' := #[.val (.ref a0), .val (.ref a1), .val (.int (0 : Int32)), .val (.ref b4), .val (.int (0 : Int32)), .val (.ref b4), .val (.int (1 : Int32)), .val (.int (1 : Int32)), .val (.int (0 : Int32))]) rfl ?_
    show Steps p.tables e below (T68.setTop (mkF m 255 #[.val (.ref a0), .val (.ref a1), .val (.int (0 : Int32)), .val (.ref b4), .val (.int (0 : Int32)), .val (.ref b4), .val (.int (1 : Int32)), .val (.int (1 : Int32)), .val (.int (0 : Int32))] [])) _
    refine XS.goto X68'.here hx rfl (pc0 := 255) (pc' := 196) rfl (hb hby d3_255) (by decide) (by decide) ?_
    show Steps p.tables e below (T68.setTop (mkF m 196 #[.val (.ref a0), .val (.ref a1), .val (.int (0 : Int32)), .val (.ref b4), .val (.int (0 : Int32)), .val (.ref b4), .val (.int (1 : Int32)), .val (.int (1 : Int32)), .val (.int (0 : Int32))] [])) _
    refine XS.iload X68'.here hx rfl (hb hby d3_196) rfl ?_
    show Steps p.tables e below (T68.setTop (mkF m 198 #[.val (.ref a0), .val (.ref a1), .val (.int (0 : Int32)), .val (.ref b4), .val (.int (0 : Int32)), .val (.ref b4), .val (.int (1 : Int32)), .val (.int (1 : Int32)), .val (.int (0 : Int32))] [(.int (1 : Int32))])) _
    refine XS.iload X68'.here hx rfl (hb hby d3_198) rfl ?_
    show Steps p.tables e below (T68.setTop (mkF m 200 #[.val (.ref a0), .val (.ref a1), .val (.int (0 : Int32)), .val (.ref b4), .val (.int (0 : Int32)), .val (.ref b4), .val (.int (1 : Int32)), .val (.int (1 : Int32)), .val (.int (0 : Int32))] [(.int (1 : Int32)), (.int (1 : Int32))])) _
    refine XS.icmpYes X68'.here hx rfl (pc0 := 200) (pc' := 258) rfl (hb hby d3_200) rfl (flt (by decide : ¬ ((1 : Int32) < (1 : Int32)))).2.1 (by decide) (by decide) ?_
    show Steps p.tables e below (T68.setTop (mkF m 258 #[.val (.ref a0), .val (.ref a1), .val (.int (0 : Int32)), .val (.ref b4), .val (.int (0 : Int32)), .val (.ref b4), .val (.int (1 : Int32)), .val (.int (1 : Int32)), .val (.int (0 : Int32))] [])) _
    refine XS.aloadN X68'.here hx rfl (hb hby d3_258) rfl rfl ?_
    show Steps p.tables e below (T68.setTop (mkF m 259 #[.val (.ref a0), .val (.ref a1), .val (.int (0 : Int32)), .val (.ref b4), .val (.int (0 : Int32)), .val (.ref b4), .val (.int (1 : Int32)), .val (.int (1 : Int32)), .val (.int (0 : Int32))] [(.ref a0)])) _
    refine st74 _ ?_
    show Steps p.tables e below (T74.setTop (mkF m 262 #[.val (.ref a0), .val (.ref a1), .val (.int (0 : Int32)), .val (.ref b4), .val (.int (0 : Int32)), .val (.ref b4), .val (.int (1 : Int32)), .val (.int (1 : Int32)), .val (.int (0 : Int32))] [(.ref aC)])) _
    refine XS.iload X74.here hx rfl (hb hby d3_262) rfl ?_
    show Steps p.tables e below (T74.setTop (mkF m 264 #[.val (.ref a0), .val (.ref a1), .val (.int (0 : Int32)), .val (.ref b4), .val (.int (0 : Int32)), .val (.ref b4), .val (.int (1 : Int32)), .val (.int (1 : Int32)), .val (.int (0 : Int32))] [(.int (0 : Int32)), (.ref aC)])) _
    refine XS.iloadN X74.here hx rfl (hb hby d3_264) rfl ?_
    show Steps p.tables e below (T74.setTop (mkF m 265 #[.val (.ref a0), .val (.ref a1), .val (.int (0 : Int32)), .val (.ref b4), .val (.int (0 : Int32)), .val (.ref b4), .val (.int (1 : Int32)), .val (.int (1 : Int32)), .val (.int (0 : Int32))] [(.int (0 : Int32)), (.int (0 : Int32)), (.ref aC)])) _
    refine st80 _ ?_
    show Steps p.tables e below (T80.setTop (mkF m 266 #[.val (.ref a0), .val (.ref a1), .val (.int (0 : Int32)), .val (.ref b4), .val (.int (0 : Int32)), .val (.ref b4), .val (.int (1 : Int32)), .val (.int (1 : Int32)), .val (.int (0 : Int32))] [])) _
    refine XS.iload X80'.here hx rfl (hb hby d3_266) rfl ?_
    show Steps p.tables e below (T80.setTop (mkF m 268 #[.val (.ref a0), .val (.ref a1), .val (.int (0 : Int32)), .val (.ref b4), .val (.int (0 : Int32)), .val (.ref b4), .val (.int (1 : Int32)), .val (.int (1 : Int32)), .val (.int (0 : Int32))] [(.int (0 : Int32))])) _
    exact retI X80' hx Bd.returns (hb hby d3_268) hr
  · show Q3 Z a0 a1 aP kP k1 aO kO aN kN aC kC h0 n0 _ T80.heap _
    rw [e80]
    exact ⟨b4, k4, rfl, N80, sz_b4, K80, E_a0_u82, F_a0_labelCount_u86, F_a0_rowCount_u89, F_a0_pairsShared_u93, F_a0_openPairs_u95, F_a0_remainingCount_u97, F_a0_openCounts_u98, F_a0_ones_u99, F_a0_covered_u100, V_aP_u101, E_aP_u104, V_aO_u105, E_aO_u108, V_aN_u109, E_aN_u112, V_aC_80, E_aC_u115, E_b4_u117, V_b4_u118⟩
theorem d6_0 : decode prog_21_method_19_code 0 = .ok (.aload_n 0, 1) := by decide +kernel
theorem d6_1 : decode prog_21_method_19_code 1 = .ok (.getfield 50, 3) := by decide +kernel
theorem d6_4 : decode prog_21_method_19_code 4 = .ok (.bipush 63, 2) := by decide +kernel
theorem d6_6 : decode prog_21_method_19_code 6 = .ok (.iadd, 1) := by decide +kernel
theorem d6_7 : decode prog_21_method_19_code 7 = .ok (.bipush 64, 2) := by decide +kernel
theorem d6_9 : decode prog_21_method_19_code 9 = .ok (.idiv, 1) := by decide +kernel
theorem d6_10 : decode prog_21_method_19_code 10 = .ok (.newarray .long, 2) := by decide +kernel
theorem d6_12 : decode prog_21_method_19_code 12 = .ok (.astore_n 1, 1) := by decide +kernel
theorem d6_13 : decode prog_21_method_19_code 13 = .ok (.iconst 0, 1) := by decide +kernel
theorem d6_14 : decode prog_21_method_19_code 14 = .ok (.istore_n 2, 1) := by decide +kernel
theorem d6_15 : decode prog_21_method_19_code 15 = .ok (.iload_n 2, 1) := by decide +kernel
theorem d6_16 : decode prog_21_method_19_code 16 = .ok (.aload_n 0, 1) := by decide +kernel
theorem d6_17 : decode prog_21_method_19_code 17 = .ok (.getfield 50, 3) := by decide +kernel
theorem d6_20 : decode prog_21_method_19_code 20 = .ok (.if_icmp .ge 31, 3) := by decide +kernel
theorem d6_23 : decode prog_21_method_19_code 23 = .ok (.aload_n 0, 1) := by decide +kernel
theorem d6_24 : decode prog_21_method_19_code 24 = .ok (.getfield 24, 3) := by decide +kernel
theorem d6_27 : decode prog_21_method_19_code 27 = .ok (.iload_n 2, 1) := by decide +kernel
theorem d6_28 : decode prog_21_method_19_code 28 = .ok (.aaload, 1) := by decide +kernel
theorem d6_29 : decode prog_21_method_19_code 29 = .ok (.arraylength, 1) := by decide +kernel
theorem d6_30 : decode prog_21_method_19_code 30 = .ok (.ifCond .le 15, 3) := by decide +kernel
theorem d6_33 : decode prog_21_method_19_code 33 = .ok (.aload_n 1, 1) := by decide +kernel
theorem d6_34 : decode prog_21_method_19_code 34 = .ok (.iload_n 2, 1) := by decide +kernel
theorem d6_35 : decode prog_21_method_19_code 35 = .ok (.bipush 64, 2) := by decide +kernel
theorem d6_37 : decode prog_21_method_19_code 37 = .ok (.idiv, 1) := by decide +kernel
theorem d6_38 : decode prog_21_method_19_code 38 = .ok (.dup2, 1) := by decide +kernel
theorem d6_39 : decode prog_21_method_19_code 39 = .ok (.laload, 1) := by decide +kernel
theorem d6_40 : decode prog_21_method_19_code 40 = .ok (.lconst 1, 1) := by decide +kernel
theorem d6_41 : decode prog_21_method_19_code 41 = .ok (.iload_n 2, 1) := by decide +kernel
theorem d6_42 : decode prog_21_method_19_code 42 = .ok (.lshl, 1) := by decide +kernel
theorem d6_43 : decode prog_21_method_19_code 43 = .ok (.lor, 1) := by decide +kernel
theorem d6_44 : decode prog_21_method_19_code 44 = .ok (.lastore, 1) := by decide +kernel
theorem d6_45 : decode prog_21_method_19_code 45 = .ok (.iinc 2 1, 3) := by decide +kernel
theorem d6_48 : decode prog_21_method_19_code 48 = .ok (.goto (-33), 3) := by decide +kernel
theorem d6_51 : decode prog_21_method_19_code 51 = .ok (.aload_n 1, 1) := by decide +kernel
theorem d6_52 : decode prog_21_method_19_code 52 = .ok (.areturn, 1) := by decide +kernel
theorem ef_rm6 (m : MethodId) (a0 : Addr) : entryFrame m #[(.ref a0)] 3 = mkF m 0 #[.val (.ref a0), .unset, .unset] [] := by first | (simp [entryFrame, mkF, argsToLocals, Value.category]; done) | rfl
def Q6 (Z : State) (a0 : Addr) (aP : Addr) (kP : ClassId) (aR : Addr) (kR : ClassId) (h0 : Heap) (n0 : Nat) (v : Option Value) (h : Heap) (L : List Loc) : Prop := ∃ r0 : Addr, ∃ rk0 : ClassId, v = some (.ref r0) ∧ Fr n0 L ∧ h0.size ≤ r0 ∧ Keep h0 h [] ∧ Exa Z h r0 "[J" ∧ Arv Z h r0 rk0 .long (1 : Int32) [(.long (1 : Int64))] (.long (0 : Int64))
set_option maxRecDepth 65536 in
set_option maxHeartbeats 40000000 in
theorem rm6 (l : Launch) (Z : State) (az : Array Value) (hw : ∀ d ∈ tables_1, d.before az Z = true) (ws : List Jvm.Cond) (a0 : Addr) (aP : Addr) (kP : ClassId) (aR : Addr) (kR : ClassId) (h0 : Heap) (n0 : Nat) (Z0 : n0 ≤ h0.size) (E_a0 : Exa Z h0 a0 "com/example/headlattice/headlattice/learn/Coverage") (F_labelCount_a0 : Fld Z h0 a0 "com/example/headlattice/headlattice/learn/Coverage" "labelCount" "I" (.int (1 : Int32))) (F_rowCount_a0 : Fld Z h0 a0 "com/example/headlattice/headlattice/learn/Coverage" "rowCount" "I" (.int (1 : Int32))) (F_pairsShared_a0 : Fld Z h0 a0 "com/example/headlattice/headlattice/learn/Coverage" "pairsShared" "Z" (.int (0 : Int32))) (F_openPairs_a0 : Fld Z h0 a0 "com/example/headlattice/headlattice/learn/Coverage" "openPairs" "[[I" (.ref aP)) (V_aP : Arv Z h0 aP kP (.array .int) (8 : Int32) [(.ref aR), .null, .null, .null, .null, .null, .null, .null] .null) (O_kP : OvrA Z kP .int "[I") (E_aP : Exa Z h0 aP "[[I") (V_aR : Arv Z h0 aR kR .int (1 : Int32) [(.int (0 : Int32))] (.int (0 : Int32))) :
    MetFree l (⟨"com/example/headlattice/headlattice/learn/Coverage", "remainingRowSet", "()[J"⟩ : MethodName) (head1 (Jvm.Cond.code (⟨"com/example/headlattice/headlattice/learn/Coverage", "remainingRowSet", "()[J"⟩ : MethodName) prog_21_method_19_code 3 (some (.array .long)) :: ws) ({ frames := 0, cells := 1, slots := 1, locals := 0 } : Room)) (fun a U => a = #[(.ref a0)] ∧ Z.Warmed39 U.vm ∧ U.heap = h0) (fun _ _ _ _ _ => True) (fun _ U o U' => ∃ v L, o = .returned v ∧ Q6 Z a0 aP kP aR kR h0 n0 v U'.heap L ∧ FrameEnd U o U' L ({ frames := 0, cells := 1, slots := 1, locals := 0 } : Room).cells ({ frames := 0, cells := 1, slots := 1, locals := 0 } : Room).slots) := by
  refine MetFree.of_bodySF (plainFor_of_name pn_com_example_headlattice_headlattice_learn_Coverage) hisR ?_
  intro p e s m args below meth c s₁ Bd hml0 hP hK
  obtain ⟨rfl, hZ, hh⟩ := hP
  have hx := Bd.exec
  have hby := Bd.bytes
  have hml : c.maxLocals = 3 := hml0
  have hown : s.vm.findClass "com/example/headlattice/headlattice/learn/Coverage" = some m.cls := findClass_of_methodNamed Bd.named
  have hnm := (name_of_methodNamed Bd.named Bd.method).1
  have X0 : Stand p l e ({ frames := 0, cells := 1, slots := 1, locals := 0 } : Room) s m #[(.ref a0)] below meth c s₁ [] 0 0 := Stand.of_body Bd
  have e0 : s₁.heap = h0 := by rw [← hh, Bd.state]; rfl
  have N0 := Fr.nil n0
  have pre0 : ∀ t, Steps p.tables e below (s₁.setTop (mkF m 0 #[.val (.ref a0), .unset, .unset] [])) t → Steps p.tables e below (s₁.setTop (entryFrame m #[(.ref a0)] 3)) t := fun t k => castTop (ef_rm6 m a0) k
  obtain ⟨T1, X1, e1, st1⟩ := getF X0 hx hZ hown (host := "") (Or.inl (hw _ (List.mem_of_getElem? (i := 30) rfl))) Via.refl e0 F_rowCount_a0 (g := (mkF m 1 #[.val (.ref a0), .unset, .unset] [(.ref a0)])) rfl rfl (hb hby d6_1)
  obtain ⟨T2, h2, k2, X2, e2, E2, A2, x2, st2⟩ := newPE X1 hx hZ (hw _ (List.mem_of_getElem? (i := 50) rfl)) e1 (g := (mkF m 10 #[.val (.ref a0), .unset, .unset] [(.int (1 : Int32))])) rfl (hb hby d6_10) rfl (by decide) (cap := 1) (by decide) (by decide) (by decide) (by decide) (ad := "[J") (by decide)
  obtain ⟨b2, g2⟩ : ∃ z, z = h0.size := ⟨_, rfl⟩
  rw [← g2] at A2 x2 st2
  have g_b2 : n0 ≤ b2 := Nat.le_trans Z0 (Nat.le_of_eq g2.symm)
  have sz_b2 : h0.size ≤ b2 := Nat.le_trans (Nat.le_refl _) (Nat.le_of_eq g2.symm)
  have Z2 : n0 ≤ h2.size := Nat.le_trans Z0 E2.1
  have K2 : Keep h0 h2 [] := (Keep.refl h0 []).ext E2
  have E_b2 := x2
  have V_b2 : Arv Z h2 b2 k2 .long (1 : Int32) [(.long (0 : Int64))] (.long (0 : Int64)) := (Arv.new A2 (by decide)).pad (pad_rep [] (.long (0 : Int64)) 1)
  have F_a0_rowCount_u3 : Fld Z h2 a0 "com/example/headlattice/headlattice/learn/Coverage" "rowCount" "I" (.int (1 : Int32)) := (F_rowCount_a0.ext E2)
  obtain ⟨T4, X4, e4, st4⟩ := getF X2 hx hZ hown (host := "") (Or.inl (hw _ (List.mem_of_getElem? (i := 30) rfl))) Via.refl e2 F_a0_rowCount_u3 (g := (mkF m 17 #[.val (.ref a0), .val (.ref b2), .val (.int (0 : Int32))] [(.ref a0), (.int (0 : Int32))])) rfl rfl (hb hby d6_17)
  have F_a0_openPairs_u5 : Fld Z h2 a0 "com/example/headlattice/headlattice/learn/Coverage" "openPairs" "[[I" (.ref aP) := (F_openPairs_a0.ext E2)
  obtain ⟨T6, X6, e6, st6⟩ := getF X4 hx hZ hown (host := "") (Or.inl (hw _ (List.mem_of_getElem? (i := 13) rfl))) Via.refl e4 F_a0_openPairs_u5 (g := (mkF m 24 #[.val (.ref a0), .val (.ref b2), .val (.int (0 : Int32))] [(.ref a0)])) rfl rfl (hb hby d6_24)
  have V_aP_u7 : Arv Z h2 aP kP (.array .int) (8 : Int32) [(.ref aR), .null, .null, .null, .null, .null, .null, .null] .null := (V_aP.ext E2)
  obtain ⟨cl8, Ar8, qk8, Sz8, Ng8, Hs8, Gf8⟩ := id V_aP_u7
  have hin9 : ¬ ((0 : Int32) < 0 ∨ cl8.slots.size ≤ ((0 : Int32)).toNatClampNeg) := inb_of Sz8 ⟨by decide, by decide⟩
  have hat10 : cl8.slots[((0 : Int32)).toNatClampNeg]? = some (.ref aR) := Hs8.at hin9 rfl
  have V_aR_u11 : Arv Z h2 aR kR .int (1 : Int32) [(.int (0 : Int32))] (.int (0 : Int32)) := (V_aR.ext E2)
  obtain ⟨cl12, Ar12, qk12, Sz12, Ng12, Hs12, Gf12⟩ := id V_aR_u11
  obtain ⟨cl13, Ar13, qk13, Sz13, Ng13, Hs13, Gf13⟩ := id V_b2
  have hin14 : ¬ ((0 : Int32) < 0 ∨ cl13.slots.size ≤ ((0 : Int32)).toNatClampNeg) := inb_of Sz13 ⟨by decide, by decide⟩
  have hat15 : cl13.slots[((0 : Int32)).toNatClampNeg]? = some (.long (0 : Int64)) := Hs13.at hin14 rfl
  have hin16 : ¬ ((0 : Int32) < 0 ∨ cl13.slots.size ≤ ((0 : Int32)).toNatClampNeg) := inb_of Sz13 ⟨by decide, by decide⟩
  obtain ⟨T17, h17, X17, e17, W17, st17⟩ := stJ X6 hx hZ e6 Ar13 (j := (0 : Int32)) hin16 (g := (mkF m 44 #[.val (.ref a0), .val (.ref b2), .val (.int (0 : Int32))] [(.long (1 : Int64)), (.int (0 : Int32)), (.ref b2)])) rfl rfl (hb hby d6_44)
  have K17 : Keep h0 h17 [] := K2.wr W17 (Or.inr sz_b2)
  have V_b2_17 : Arv Z h17 b2 k2 .long (1 : Int32) [(.long (1 : Int64))] (.long (0 : Int64)) := Arv.set (v := (.long (1 : Int64))) Ar13 qk13 Sz13 Ng13 Hs13 Gf13 rfl W17 0 rfl (Nat.le_of_ble_eq_true rfl)
  have Z17 : n0 ≤ h17.size := Nat.le_trans Z2 (Keep.of_wr W17).1
  obtain ⟨Lg17, X17', N17⟩ := own_gen X17 (Fr.snoc X17 N0 g_b2)
  have ne_a0_b2 : a0 ≠ b2 := own_ne (Nat.lt_of_lt_of_le E_a0.lt (Nat.le_of_eq g2.symm))
  have F_a0_rowCount_u18 : Fld Z h17 a0 "com/example/headlattice/headlattice/learn/Coverage" "rowCount" "I" (.int (1 : Int32)) := (F_a0_rowCount_u3.other W17 (Or.inl ne_a0_b2))
  obtain ⟨T19, X19, e19, st19⟩ := getF X17' hx hZ hown (host := "") (Or.inl (hw _ (List.mem_of_getElem? (i := 30) rfl))) Via.refl e17 F_a0_rowCount_u18 (g := (mkF m 17 #[.val (.ref a0), .val (.ref b2), .val (.int (1 : Int32))] [(.ref a0), (.int (1 : Int32))])) rfl rfl (hb hby d6_17)
  have E_b2_u20 : Exa Z h17 b2 "[J" := (E_b2.wr W17)
  obtain ⟨fs, hr, hrun, hended, hW, hsame⟩ := X19.leave (v := some (.ref b2)) (fun h => by rw [Bd.returns] at h; cases h)
  refine ⟨_, _, pre0 _ ?_, hrun, hended, _, _, rfl, ?_, ⟨_, rfl⟩, hW, hsame.mono (by decide) (by decide)⟩
  · show Steps p.tables e below (s₁.setTop (mkF m 0 #[.val (.ref a0), .unset, .unset] [])) _
    refine XS.aloadN X0.here hx rfl (hb hby d6_0) rfl rfl ?_
    show Steps p.tables e below (s₁.setTop (mkF m 1 #[.val (.ref a0), .unset, .unset] [(.ref a0)])) _
    refine st1 _ ?_
    show Steps p.tables e below (T1.setTop (mkF m 4 #[.val (.ref a0), .unset, .unset] [(.int (1 : Int32))])) _
    refine XS.bipush X1.here hx rfl (hb hby d6_4) ?_
    show Steps p.tables e below (T1.setTop (mkF m 6 #[.val (.ref a0), .unset, .unset] [(.int (63 : Int32)), (.int (1 : Int32))])) _
    refine XS.iadd X1.here hx rfl (hb hby d6_6) rfl ?_
    show Steps p.tables e below (T1.setTop (mkF m 7 #[.val (.ref a0), .unset, .unset] [(.int (64 : Int32))])) _
    refine XS.bipush X1.here hx rfl (hb hby d6_7) ?_
    show Steps p.tables e below (T1.setTop (mkF m 9 #[.val (.ref a0), .unset, .unset] [(.int (64 : Int32)), (.int (64 : Int32))])) _
    refine XS.idiv X1.here hx rfl (hb hby d6_9) rfl (by decide) ?_
    show Steps p.tables e below (T1.setTop (mkF m 10 #[.val (.ref a0), .unset, .unset] [(.int (1 : Int32))])) _
    refine st2 _ ?_
    show Steps p.tables e below (T2.setTop (mkF m 12 #[.val (.ref a0), .unset, .unset] [(.ref b2)])) _
    refine XS.astoreN X2.here hx rfl (hb hby d6_12) rfl rfl (l' := #[.val (.ref a0), .val (.ref b2), .unset]) rfl ?_
    show Steps p.tables e below (T2.setTop (mkF m 13 #[.val (.ref a0), .val (.ref b2), .unset] [])) _
    refine XS.iconst X2.here hx rfl (hb hby d6_13) ?_
    show Steps p.tables e below (T2.setTop (mkF m 14 #[.val (.ref a0), .val (.ref b2), .unset] [(.int (0 : Int32))])) _
    refine XS.istoreN X2.here hx rfl (hb hby d6_14) rfl (l' := #[.val (.ref a0), .val (.ref b2), .val (.int (0 : Int32))]) rfl ?_
    show Steps p.tables e below (T2.setTop (mkF m 15 #[.val (.ref a0), .val (.ref b2), .val (.int (0 : Int32))] [])) _
    refine XS.iloadN X2.here hx rfl (hb hby d6_15) rfl ?_
    show Steps p.tables e below (T2.setTop (mkF m 16 #[.val (.ref a0), .val (.ref b2), .val (.int (0 : Int32))] [(.int (0 : Int32))])) _
    refine XS.aloadN X2.here hx rfl (hb hby d6_16) rfl rfl ?_
    show Steps p.tables e below (T2.setTop (mkF m 17 #[.val (.ref a0), .val (.ref b2), .val (.int (0 : Int32))] [(.ref a0), (.int (0 : Int32))])) _
    refine st4 _ ?_
    show Steps p.tables e below (T4.setTop (mkF m 20 #[.val (.ref a0), .val (.ref b2), .val (.int (0 : Int32))] [(.int (1 : Int32)), (.int (0 : Int32))])) _
    refine XS.icmpNo X4.here hx rfl (hb hby d6_20) rfl (tlt (by decide : (0 : Int32) < (1 : Int32))).2.1 ?_
    show Steps p.tables e below (T4.setTop (mkF m 23 #[.val (.ref a0), .val (.ref b2), .val (.int (0 : Int32))] [])) _
    refine XS.aloadN X4.here hx rfl (hb hby d6_23) rfl rfl ?_
    show Steps p.tables e below (T4.setTop (mkF m 24 #[.val (.ref a0), .val (.ref b2), .val (.int (0 : Int32))] [(.ref a0)])) _
    refine st6 _ ?_
    show Steps p.tables e below (T6.setTop (mkF m 27 #[.val (.ref a0), .val (.ref b2), .val (.int (0 : Int32))] [(.ref aP)])) _
    refine XS.iloadN X6.here hx rfl (hb hby d6_27) rfl ?_
    show Steps p.tables e below (T6.setTop (mkF m 28 #[.val (.ref a0), .val (.ref b2), .val (.int (0 : Int32))] [(.int (0 : Int32)), (.ref aP)])) _
    refine X6.aaload hx (j := (0 : Int32)) (v := (.ref aR)) (by rw [e6]; exact Ar8.1) (State.isArrayOf_alike hZ.alike Ar8.2.1) rfl Ar8.2.2 hin9 hat10 (g := (mkF m 28 #[.val (.ref a0), .val (.ref b2), .val (.int (0 : Int32))] [(.int (0 : Int32)), (.ref aP)])) rfl rfl (hb hby d6_28) _ ?_
    show Steps p.tables e below (T6.setTop (mkF m 29 #[.val (.ref a0), .val (.ref b2), .val (.int (0 : Int32))] [(.ref aR)])) _
    refine X6.arraylength hx (by rw [e6]; exact Ar12.1) (State.isArrayOf_alike hZ.alike Ar12.2.1) (g := (mkF m 29 #[.val (.ref a0), .val (.ref b2), .val (.int (0 : Int32))] [(.ref aR)])) rfl rfl (hb hby d6_29) _ ?_
    rw [len_of Sz12 Ng12]
    show Steps p.tables e below (T6.setTop (mkF m 30 #[.val (.ref a0), .val (.ref b2), .val (.int (0 : Int32))] [(.int (1 : Int32))])) _
    refine XS.ifNo X6.here hx rfl (hb hby d6_30) rfl ((if0 _ _).trans (tlt (by decide : (0 : Int32) < (1 : Int32))).2.2.2) ?_
    show Steps p.tables e below (T6.setTop (mkF m 33 #[.val (.ref a0), .val (.ref b2), .val (.int (0 : Int32))] [])) _
    refine XS.aloadN X6.here hx rfl (hb hby d6_33) rfl rfl ?_
    show Steps p.tables e below (T6.setTop (mkF m 34 #[.val (.ref a0), .val (.ref b2), .val (.int (0 : Int32))] [(.ref b2)])) _
    refine XS.iloadN X6.here hx rfl (hb hby d6_34) rfl ?_
    show Steps p.tables e below (T6.setTop (mkF m 35 #[.val (.ref a0), .val (.ref b2), .val (.int (0 : Int32))] [(.int (0 : Int32)), (.ref b2)])) _
    refine XS.bipush X6.here hx rfl (hb hby d6_35) ?_
    show Steps p.tables e below (T6.setTop (mkF m 37 #[.val (.ref a0), .val (.ref b2), .val (.int (0 : Int32))] [(.int (64 : Int32)), (.int (0 : Int32)), (.ref b2)])) _
    refine XS.idiv X6.here hx rfl (hb hby d6_37) rfl (by decide) ?_
    show Steps p.tables e below (T6.setTop (mkF m 38 #[.val (.ref a0), .val (.ref b2), .val (.int (0 : Int32))] [(.int (0 : Int32)), (.ref b2)])) _
    jvm_step X6.here [X6.here.top, hx, (hb hby d6_38), Value.category]
    show Steps p.tables e below (T6.setTop (mkF m 39 #[.val (.ref a0), .val (.ref b2), .val (.int (0 : Int32))] [(.int (0 : Int32)), (.ref b2), (.int (0 : Int32)), (.ref b2)])) _
    refine X6.laload hx (j := (0 : Int32)) (v := (.long (0 : Int64))) (by rw [e6]; exact Ar13.1) (State.isArrayOf_alike hZ.alike Ar13.2.1) Ar13.2.2 hin14 hat15 (g := (mkF m 39 #[.val (.ref a0), .val (.ref b2), .val (.int (0 : Int32))] [(.int (0 : Int32)), (.ref b2), (.int (0 : Int32)), (.ref b2)])) rfl rfl (hb hby d6_39) _ ?_
    show Steps p.tables e below (T6.setTop (mkF m 40 #[.val (.ref a0), .val (.ref b2), .val (.int (0 : Int32))] [(.long (0 : Int64)), (.int (0 : Int32)), (.ref b2)])) _
    refine XS.lconst X6.here hx rfl (hb hby d6_40) ?_
    show Steps p.tables e below (T6.setTop (mkF m 41 #[.val (.ref a0), .val (.ref b2), .val (.int (0 : Int32))] [(.long (1 : Int64)), (.long (0 : Int64)), (.int (0 : Int32)), (.ref b2)])) _
    refine XS.iloadN X6.here hx rfl (hb hby d6_41) rfl ?_
    show Steps p.tables e below (T6.setTop (mkF m 42 #[.val (.ref a0), .val (.ref b2), .val (.int (0 : Int32))] [(.int (0 : Int32)), (.long (1 : Int64)), (.long (0 : Int64)), (.int (0 : Int32)), (.ref b2)])) _
    refine XS.lshl X6.here hx rfl (hb hby d6_42) rfl ?_
    show Steps p.tables e below (T6.setTop (mkF m 43 #[.val (.ref a0), .val (.ref b2), .val (.int (0 : Int32))] [(.long (1 : Int64)), (.long (0 : Int64)), (.int (0 : Int32)), (.ref b2)])) _
    refine XS.lor X6.here hx rfl (hb hby d6_43) rfl ?_
    show Steps p.tables e below (T6.setTop (mkF m 44 #[.val (.ref a0), .val (.ref b2), .val (.int (0 : Int32))] [(.long (1 : Int64)), (.int (0 : Int32)), (.ref b2)])) _
    refine st17 _ ?_
    show Steps p.tables e below (T17.setTop (mkF m 45 #[.val (.ref a0), .val (.ref b2), .val (.int (0 : Int32))] [])) _
    refine XS.iinc X17'.here hx rfl (hb hby d6_45) rfl (l' := #[.val (.ref a0), .val (.ref b2), .val (.int (1 : Int32))]) rfl ?_
    show Steps p.tables e below (T17.setTop (mkF m 48 #[.val (.ref a0), .val (.ref b2), .val (.int (1 : Int32))] [])) _
    refine XS.goto X17'.here hx rfl (pc0 := 48) (pc' := 15) rfl (hb hby d6_48) (by decide) (by decide) ?_
    show Steps p.tables e below (T17.setTop (mkF m 15 #[.val (.ref a0), .val (.ref b2), .val (.int (1 : Int32))] [])) _
    refine XS.iloadN X17'.here hx rfl (hb hby d6_15) rfl ?_
    show Steps p.tables e below (T17.setTop (mkF m 16 #[.val (.ref a0), .val (.ref b2), .val (.int (1 : Int32))] [(.int (1 : Int32))])) _
    refine XS.aloadN X17'.here hx rfl (hb hby d6_16) rfl rfl ?_
    show Steps p.tables e below (T17.setTop (mkF m 17 #[.val (.ref a0), .val (.ref b2), .val (.int (1 : Int32))] [(.ref a0), (.int (1 : Int32))])) _
    refine st19 _ ?_
    show Steps p.tables e below (T19.setTop (mkF m 20 #[.val (.ref a0), .val (.ref b2), .val (.int (1 : Int32))] [(.int (1 : Int32)), (.int (1 : Int32))])) _
    refine XS.icmpYes X19.here hx rfl (pc0 := 20) (pc' := 51) rfl (hb hby d6_20) rfl (flt (by decide : ¬ ((1 : Int32) < (1 : Int32)))).2.1 (by decide) (by decide) ?_
    show Steps p.tables e below (T19.setTop (mkF m 51 #[.val (.ref a0), .val (.ref b2), .val (.int (1 : Int32))] [])) _
    refine XS.aloadN X19.here hx rfl (hb hby d6_51) rfl rfl ?_
    show Steps p.tables e below (T19.setTop (mkF m 52 #[.val (.ref a0), .val (.ref b2), .val (.int (1 : Int32))] [(.ref b2)])) _
    jvm_step X19.here [X19.here.top, hx, (hb hby d6_52), X19.method', Bd.returns, Value.isRef, FieldType.isReference]
    first | (intro acts; rw [hr _ acts rfl rfl rfl]) | rw [hr _ _ rfl rfl rfl]
    exact Steps.refl _
  · show Q6 Z a0 aP kP aR kR h0 n0 _ T19.heap _
    rw [e19]
    exact ⟨b2, k2, rfl, N17, sz_b2, K17, E_b2_u20, V_b2_17⟩
theorem d8_0 : decode jdk_35_method_50_code 0 = .ok (.lload_n 0, 1) := by decide +kernel
theorem d8_1 : decode jdk_35_method_50_code 1 = .ok (.lload_n 0, 1) := by decide +kernel
theorem d8_2 : decode jdk_35_method_50_code 2 = .ok (.iconst 1, 1) := by decide +kernel
theorem d8_3 : decode jdk_35_method_50_code 3 = .ok (.lushr, 1) := by decide +kernel
theorem d8_4 : decode jdk_35_method_50_code 4 = .ok (.ldc2_w 314, 3) := by decide +kernel
theorem d8_7 : decode jdk_35_method_50_code 7 = .ok (.land, 1) := by decide +kernel
theorem d8_8 : decode jdk_35_method_50_code 8 = .ok (.lsub, 1) := by decide +kernel
theorem d8_9 : decode jdk_35_method_50_code 9 = .ok (.lstore_n 0, 1) := by decide +kernel
theorem d8_10 : decode jdk_35_method_50_code 10 = .ok (.lload_n 0, 1) := by decide +kernel
theorem d8_11 : decode jdk_35_method_50_code 11 = .ok (.ldc2_w 316, 3) := by decide +kernel
theorem d8_14 : decode jdk_35_method_50_code 14 = .ok (.land, 1) := by decide +kernel
theorem d8_15 : decode jdk_35_method_50_code 15 = .ok (.lload_n 0, 1) := by decide +kernel
theorem d8_16 : decode jdk_35_method_50_code 16 = .ok (.iconst 2, 1) := by decide +kernel
theorem d8_17 : decode jdk_35_method_50_code 17 = .ok (.lushr, 1) := by decide +kernel
theorem d8_18 : decode jdk_35_method_50_code 18 = .ok (.ldc2_w 316, 3) := by decide +kernel
theorem d8_21 : decode jdk_35_method_50_code 21 = .ok (.land, 1) := by decide +kernel
theorem d8_22 : decode jdk_35_method_50_code 22 = .ok (.ladd, 1) := by decide +kernel
theorem d8_23 : decode jdk_35_method_50_code 23 = .ok (.lstore_n 0, 1) := by decide +kernel
theorem d8_24 : decode jdk_35_method_50_code 24 = .ok (.lload_n 0, 1) := by decide +kernel
theorem d8_25 : decode jdk_35_method_50_code 25 = .ok (.lload_n 0, 1) := by decide +kernel
theorem d8_26 : decode jdk_35_method_50_code 26 = .ok (.iconst 4, 1) := by decide +kernel
theorem d8_27 : decode jdk_35_method_50_code 27 = .ok (.lushr, 1) := by decide +kernel
theorem d8_28 : decode jdk_35_method_50_code 28 = .ok (.ladd, 1) := by decide +kernel
theorem d8_29 : decode jdk_35_method_50_code 29 = .ok (.ldc2_w 318, 3) := by decide +kernel
theorem d8_32 : decode jdk_35_method_50_code 32 = .ok (.land, 1) := by decide +kernel
theorem d8_33 : decode jdk_35_method_50_code 33 = .ok (.lstore_n 0, 1) := by decide +kernel
theorem d8_34 : decode jdk_35_method_50_code 34 = .ok (.lload_n 0, 1) := by decide +kernel
theorem d8_35 : decode jdk_35_method_50_code 35 = .ok (.lload_n 0, 1) := by decide +kernel
theorem d8_36 : decode jdk_35_method_50_code 36 = .ok (.bipush 8, 2) := by decide +kernel
theorem d8_38 : decode jdk_35_method_50_code 38 = .ok (.lushr, 1) := by decide +kernel
theorem d8_39 : decode jdk_35_method_50_code 39 = .ok (.ladd, 1) := by decide +kernel
theorem d8_40 : decode jdk_35_method_50_code 40 = .ok (.lstore_n 0, 1) := by decide +kernel
theorem d8_41 : decode jdk_35_method_50_code 41 = .ok (.lload_n 0, 1) := by decide +kernel
theorem d8_42 : decode jdk_35_method_50_code 42 = .ok (.lload_n 0, 1) := by decide +kernel
theorem d8_43 : decode jdk_35_method_50_code 43 = .ok (.bipush 16, 2) := by decide +kernel
theorem d8_45 : decode jdk_35_method_50_code 45 = .ok (.lushr, 1) := by decide +kernel
theorem d8_46 : decode jdk_35_method_50_code 46 = .ok (.ladd, 1) := by decide +kernel
theorem d8_47 : decode jdk_35_method_50_code 47 = .ok (.lstore_n 0, 1) := by decide +kernel
theorem d8_48 : decode jdk_35_method_50_code 48 = .ok (.lload_n 0, 1) := by decide +kernel
theorem d8_49 : decode jdk_35_method_50_code 49 = .ok (.lload_n 0, 1) := by decide +kernel
theorem d8_50 : decode jdk_35_method_50_code 50 = .ok (.bipush 32, 2) := by decide +kernel
theorem d8_52 : decode jdk_35_method_50_code 52 = .ok (.lushr, 1) := by decide +kernel
theorem d8_53 : decode jdk_35_method_50_code 53 = .ok (.ladd, 1) := by decide +kernel
theorem d8_54 : decode jdk_35_method_50_code 54 = .ok (.lstore_n 0, 1) := by decide +kernel
theorem d8_55 : decode jdk_35_method_50_code 55 = .ok (.lload_n 0, 1) := by decide +kernel
theorem d8_56 : decode jdk_35_method_50_code 56 = .ok (.l2i, 1) := by decide +kernel
theorem d8_57 : decode jdk_35_method_50_code 57 = .ok (.bipush 127, 2) := by decide +kernel
theorem d8_59 : decode jdk_35_method_50_code 59 = .ok (.iand, 1) := by decide +kernel
theorem d8_60 : decode jdk_35_method_50_code 60 = .ok (.ireturn, 1) := by decide +kernel
theorem pn_java_lang_Long : plainName "java/lang/Long" = true := by first | (simp [plainName, overriddenIn]; done) | decide +kernel
theorem ef_rm8 (m : MethodId)  : entryFrame m #[(.long (1 : Int64))] 2 = mkF m 0 #[.val (.long (1 : Int64)), .second] [] := by first | (simp [entryFrame, mkF, argsToLocals, Value.category]; done) | rfl
def Q8 (Z : State)  (h0 : Heap) (n0 : Nat) (v : Option Value) (h : Heap) (L : List Loc) : Prop := v = some (.int (1 : Int32)) ∧ Fr n0 L ∧ h = h0
set_option maxRecDepth 65536 in
set_option maxHeartbeats 40000000 in
theorem rm8 (l : Launch) (Z : State) (az : Array Value) (hw : ∀ d ∈ tables_1, d.before az Z = true) (ws : List Jvm.Cond)  (h0 : Heap) (n0 : Nat) (Z0 : n0 ≤ h0.size) :
    MetFree l (⟨"java/lang/Long", "bitCount", "(J)I"⟩ : MethodName) (head1 (Jvm.Cond.code (⟨"java/lang/Long", "bitCount", "(J)I"⟩ : MethodName) jdk_35_method_50_code 2 (some .int) :: ws) ({ frames := 0, cells := 0, slots := 0, locals := 0 } : Room)) (fun a U => a = #[(.long (1 : Int64))] ∧ Z.Warmed39 U.vm ∧ U.heap = h0) (fun _ _ _ _ _ => True) (fun _ U o U' => ∃ v L, o = .returned v ∧ Q8 Z  h0 n0 v U'.heap L ∧ FrameEnd U o U' L ({ frames := 0, cells := 0, slots := 0, locals := 0 } : Room).cells ({ frames := 0, cells := 0, slots := 0, locals := 0 } : Room).slots) := by
  refine MetFree.of_bodySF (plainFor_of_name pn_java_lang_Long) hisR ?_
  intro p e s m args below meth c s₁ Bd hml0 hP hK
  obtain ⟨rfl, hZ, hh⟩ := hP
  have hx := Bd.exec
  have hby := Bd.bytes
  have hml : c.maxLocals = 2 := hml0
  have hown : s.vm.findClass "java/lang/Long" = some m.cls := findClass_of_methodNamed Bd.named
  have hnm := (name_of_methodNamed Bd.named Bd.method).1
  have X0 : Stand p l e ({ frames := 0, cells := 0, slots := 0, locals := 0 } : Room) s m #[(.long (1 : Int64))] below meth c s₁ [] 0 0 := Stand.of_body Bd
  have e0 : s₁.heap = h0 := by rw [← hh, Bd.state]; rfl
  have N0 := Fr.nil n0
  have pre0 : ∀ t, Steps p.tables e below (s₁.setTop (mkF m 0 #[.val (.long (1 : Int64)), .second] [])) t → Steps p.tables e below (s₁.setTop (entryFrame m #[(.long (1 : Int64))] 2)) t := fun t k => castTop (ef_rm8 m ) k
  obtain ⟨fs, hr, hrun, hended, hW, hsame⟩ := X0.leave (v := some (.int (1 : Int32))) (fun h => by rw [Bd.returns] at h; cases h)
  refine ⟨_, _, pre0 _ ?_, hrun, hended, _, _, rfl, ?_, ⟨_, rfl⟩, hW, hsame.mono (by decide) (by decide)⟩
  · show Steps p.tables e below (s₁.setTop (mkF m 0 #[.val (.long (1 : Int64)), .second] [])) _
    refine XS.lloadN X0.here hx rfl (hb hby d8_0) rfl ?_
    show Steps p.tables e below (s₁.setTop (mkF m 1 #[.val (.long (1 : Int64)), .second] [(.long (1 : Int64))])) _
    refine XS.lloadN X0.here hx rfl (hb hby d8_1) rfl ?_
    show Steps p.tables e below (s₁.setTop (mkF m 2 #[.val (.long (1 : Int64)), .second] [(.long (1 : Int64)), (.long (1 : Int64))])) _
    refine XS.iconst X0.here hx rfl (hb hby d8_2) ?_
    show Steps p.tables e below (s₁.setTop (mkF m 3 #[.val (.long (1 : Int64)), .second] [(.int (1 : Int32)), (.long (1 : Int64)), (.long (1 : Int64))])) _
    refine XS.lushr X0.here hx rfl (hb hby d8_3) rfl ?_
    show Steps p.tables e below (s₁.setTop (mkF m 4 #[.val (.long (1 : Int64)), .second] [(.long (0 : Int64)), (.long (1 : Int64))])) _
    refine X0.ldc2Long hx hown (mvT hZ (hw _ (List.mem_of_getElem? (i := 60) rfl))) (g := (mkF m 4 #[.val (.long (1 : Int64)), .second] [(.long (0 : Int64)), (.long (1 : Int64))])) rfl (hb hby d8_4) _ ?_
    show Steps p.tables e below (s₁.setTop (mkF m 7 #[.val (.long (1 : Int64)), .second] [(.long (6148914691236517205 : Int64)), (.long (0 : Int64)), (.long (1 : Int64))])) _
    refine XS.land X0.here hx rfl (hb hby d8_7) rfl ?_
    show Steps p.tables e below (s₁.setTop (mkF m 8 #[.val (.long (1 : Int64)), .second] [(.long (0 : Int64)), (.long (1 : Int64))])) _
    refine XS.lsub X0.here hx rfl (hb hby d8_8) rfl ?_
    show Steps p.tables e below (s₁.setTop (mkF m 9 #[.val (.long (1 : Int64)), .second] [(.long (1 : Int64))])) _
    refine XS.lstoreN X0.here hx rfl (hb hby d8_9) rfl (l' := #[.val (.long (1 : Int64)), .second]) rfl ?_
    show Steps p.tables e below (s₁.setTop (mkF m 10 #[.val (.long (1 : Int64)), .second] [])) _
    refine XS.lloadN X0.here hx rfl (hb hby d8_10) rfl ?_
    show Steps p.tables e below (s₁.setTop (mkF m 11 #[.val (.long (1 : Int64)), .second] [(.long (1 : Int64))])) _
    refine X0.ldc2Long hx hown (mvT hZ (hw _ (List.mem_of_getElem? (i := 61) rfl))) (g := (mkF m 11 #[.val (.long (1 : Int64)), .second] [(.long (1 : Int64))])) rfl (hb hby d8_11) _ ?_
    show Steps p.tables e below (s₁.setTop (mkF m 14 #[.val (.long (1 : Int64)), .second] [(.long (3689348814741910323 : Int64)), (.long (1 : Int64))])) _
    refine XS.land X0.here hx rfl (hb hby d8_14) rfl ?_
    show Steps p.tables e below (s₁.setTop (mkF m 15 #[.val (.long (1 : Int64)), .second] [(.long (1 : Int64))])) _
    refine XS.lloadN X0.here hx rfl (hb hby d8_15) rfl ?_
    show Steps p.tables e below (s₁.setTop (mkF m 16 #[.val (.long (1 : Int64)), .second] [(.long (1 : Int64)), (.long (1 : Int64))])) _
    refine XS.iconst X0.here hx rfl (hb hby d8_16) ?_
    show Steps p.tables e below (s₁.setTop (mkF m 17 #[.val (.long (1 : Int64)), .second] [(.int (2 : Int32)), (.long (1 : Int64)), (.long (1 : Int64))])) _
    refine XS.lushr X0.here hx rfl (hb hby d8_17) rfl ?_
    show Steps p.tables e below (s₁.setTop (mkF m 18 #[.val (.long (1 : Int64)), .second] [(.long (0 : Int64)), (.long (1 : Int64))])) _
    refine X0.ldc2Long hx hown (mvT hZ (hw _ (List.mem_of_getElem? (i := 61) rfl))) (g := (mkF m 18 #[.val (.long (1 : Int64)), .second] [(.long (0 : Int64)), (.long (1 : Int64))])) rfl (hb hby d8_18) _ ?_
    show Steps p.tables e below (s₁.setTop (mkF m 21 #[.val (.long (1 : Int64)), .second] [(.long (3689348814741910323 : Int64)), (.long (0 : Int64)), (.long (1 : Int64))])) _
    refine XS.land X0.here hx rfl (hb hby d8_21) rfl ?_
    show Steps p.tables e below (s₁.setTop (mkF m 22 #[.val (.long (1 : Int64)), .second] [(.long (0 : Int64)), (.long (1 : Int64))])) _
    refine XS.ladd X0.here hx rfl (hb hby d8_22) rfl ?_
    show Steps p.tables e below (s₁.setTop (mkF m 23 #[.val (.long (1 : Int64)), .second] [(.long (1 : Int64))])) _
    refine XS.lstoreN X0.here hx rfl (hb hby d8_23) rfl (l' := #[.val (.long (1 : Int64)), .second]) rfl ?_
    show Steps p.tables e below (s₁.setTop (mkF m 24 #[.val (.long (1 : Int64)), .second] [])) _
    refine XS.lloadN X0.here hx rfl (hb hby d8_24) rfl ?_
    show Steps p.tables e below (s₁.setTop (mkF m 25 #[.val (.long (1 : Int64)), .second] [(.long (1 : Int64))])) _
    refine XS.lloadN X0.here hx rfl (hb hby d8_25) rfl ?_
    show Steps p.tables e below (s₁.setTop (mkF m 26 #[.val (.long (1 : Int64)), .second] [(.long (1 : Int64)), (.long (1 : Int64))])) _
    refine XS.iconst X0.here hx rfl (hb hby d8_26) ?_
    show Steps p.tables e below (s₁.setTop (mkF m 27 #[.val (.long (1 : Int64)), .second] [(.int (4 : Int32)), (.long (1 : Int64)), (.long (1 : Int64))])) _
    refine XS.lushr X0.here hx rfl (hb hby d8_27) rfl ?_
    show Steps p.tables e below (s₁.setTop (mkF m 28 #[.val (.long (1 : Int64)), .second] [(.long (0 : Int64)), (.long (1 : Int64))])) _
    refine XS.ladd X0.here hx rfl (hb hby d8_28) rfl ?_
    show Steps p.tables e below (s₁.setTop (mkF m 29 #[.val (.long (1 : Int64)), .second] [(.long (1 : Int64))])) _
    refine X0.ldc2Long hx hown (mvT hZ (hw _ (List.mem_of_getElem? (i := 62) rfl))) (g := (mkF m 29 #[.val (.long (1 : Int64)), .second] [(.long (1 : Int64))])) rfl (hb hby d8_29) _ ?_
    show Steps p.tables e below (s₁.setTop (mkF m 32 #[.val (.long (1 : Int64)), .second] [(.long (1085102592571150095 : Int64)), (.long (1 : Int64))])) _
    refine XS.land X0.here hx rfl (hb hby d8_32) rfl ?_
    show Steps p.tables e below (s₁.setTop (mkF m 33 #[.val (.long (1 : Int64)), .second] [(.long (1 : Int64))])) _
    refine XS.lstoreN X0.here hx rfl (hb hby d8_33) rfl (l' := #[.val (.long (1 : Int64)), .second]) rfl ?_
    show Steps p.tables e below (s₁.setTop (mkF m 34 #[.val (.long (1 : Int64)), .second] [])) _
    refine XS.lloadN X0.here hx rfl (hb hby d8_34) rfl ?_
    show Steps p.tables e below (s₁.setTop (mkF m 35 #[.val (.long (1 : Int64)), .second] [(.long (1 : Int64))])) _
    refine XS.lloadN X0.here hx rfl (hb hby d8_35) rfl ?_
    show Steps p.tables e below (s₁.setTop (mkF m 36 #[.val (.long (1 : Int64)), .second] [(.long (1 : Int64)), (.long (1 : Int64))])) _
    refine XS.bipush X0.here hx rfl (hb hby d8_36) ?_
    show Steps p.tables e below (s₁.setTop (mkF m 38 #[.val (.long (1 : Int64)), .second] [(.int (8 : Int32)), (.long (1 : Int64)), (.long (1 : Int64))])) _
    refine XS.lushr X0.here hx rfl (hb hby d8_38) rfl ?_
    show Steps p.tables e below (s₁.setTop (mkF m 39 #[.val (.long (1 : Int64)), .second] [(.long (0 : Int64)), (.long (1 : Int64))])) _
    refine XS.ladd X0.here hx rfl (hb hby d8_39) rfl ?_
    show Steps p.tables e below (s₁.setTop (mkF m 40 #[.val (.long (1 : Int64)), .second] [(.long (1 : Int64))])) _
    refine XS.lstoreN X0.here hx rfl (hb hby d8_40) rfl (l' := #[.val (.long (1 : Int64)), .second]) rfl ?_
    show Steps p.tables e below (s₁.setTop (mkF m 41 #[.val (.long (1 : Int64)), .second] [])) _
    refine XS.lloadN X0.here hx rfl (hb hby d8_41) rfl ?_
    show Steps p.tables e below (s₁.setTop (mkF m 42 #[.val (.long (1 : Int64)), .second] [(.long (1 : Int64))])) _
    refine XS.lloadN X0.here hx rfl (hb hby d8_42) rfl ?_
    show Steps p.tables e below (s₁.setTop (mkF m 43 #[.val (.long (1 : Int64)), .second] [(.long (1 : Int64)), (.long (1 : Int64))])) _
    refine XS.bipush X0.here hx rfl (hb hby d8_43) ?_
    show Steps p.tables e below (s₁.setTop (mkF m 45 #[.val (.long (1 : Int64)), .second] [(.int (16 : Int32)), (.long (1 : Int64)), (.long (1 : Int64))])) _
    refine XS.lushr X0.here hx rfl (hb hby d8_45) rfl ?_
    show Steps p.tables e below (s₁.setTop (mkF m 46 #[.val (.long (1 : Int64)), .second] [(.long (0 : Int64)), (.long (1 : Int64))])) _
    refine XS.ladd X0.here hx rfl (hb hby d8_46) rfl ?_
    show Steps p.tables e below (s₁.setTop (mkF m 47 #[.val (.long (1 : Int64)), .second] [(.long (1 : Int64))])) _
    refine XS.lstoreN X0.here hx rfl (hb hby d8_47) rfl (l' := #[.val (.long (1 : Int64)), .second]) rfl ?_
    show Steps p.tables e below (s₁.setTop (mkF m 48 #[.val (.long (1 : Int64)), .second] [])) _
    refine XS.lloadN X0.here hx rfl (hb hby d8_48) rfl ?_
    show Steps p.tables e below (s₁.setTop (mkF m 49 #[.val (.long (1 : Int64)), .second] [(.long (1 : Int64))])) _
    refine XS.lloadN X0.here hx rfl (hb hby d8_49) rfl ?_
    show Steps p.tables e below (s₁.setTop (mkF m 50 #[.val (.long (1 : Int64)), .second] [(.long (1 : Int64)), (.long (1 : Int64))])) _
    refine XS.bipush X0.here hx rfl (hb hby d8_50) ?_
    show Steps p.tables e below (s₁.setTop (mkF m 52 #[.val (.long (1 : Int64)), .second] [(.int (32 : Int32)), (.long (1 : Int64)), (.long (1 : Int64))])) _
    refine XS.lushr X0.here hx rfl (hb hby d8_52) rfl ?_
    show Steps p.tables e below (s₁.setTop (mkF m 53 #[.val (.long (1 : Int64)), .second] [(.long (0 : Int64)), (.long (1 : Int64))])) _
    refine XS.ladd X0.here hx rfl (hb hby d8_53) rfl ?_
    show Steps p.tables e below (s₁.setTop (mkF m 54 #[.val (.long (1 : Int64)), .second] [(.long (1 : Int64))])) _
    refine XS.lstoreN X0.here hx rfl (hb hby d8_54) rfl (l' := #[.val (.long (1 : Int64)), .second]) rfl ?_
    show Steps p.tables e below (s₁.setTop (mkF m 55 #[.val (.long (1 : Int64)), .second] [])) _
    refine XS.lloadN X0.here hx rfl (hb hby d8_55) rfl ?_
    show Steps p.tables e below (s₁.setTop (mkF m 56 #[.val (.long (1 : Int64)), .second] [(.long (1 : Int64))])) _
    refine XS.l2i X0.here hx rfl (hb hby d8_56) rfl ?_
    show Steps p.tables e below (s₁.setTop (mkF m 57 #[.val (.long (1 : Int64)), .second] [(.int (1 : Int32))])) _
    refine XS.bipush X0.here hx rfl (hb hby d8_57) ?_
    show Steps p.tables e below (s₁.setTop (mkF m 59 #[.val (.long (1 : Int64)), .second] [(.int (127 : Int32)), (.int (1 : Int32))])) _
    refine XS.iand X0.here hx rfl (hb hby d8_59) rfl ?_
    show Steps p.tables e below (s₁.setTop (mkF m 60 #[.val (.long (1 : Int64)), .second] [(.int (1 : Int32))])) _
    exact retI X0 hx Bd.returns (hb hby d8_60) hr
  · show Q8 Z  h0 n0 _ s₁.heap _
    rw [e0]
    exact ⟨rfl, N0, rfl⟩
theorem d7_0 : decode prog_42_method_10_code 0 = .ok (.iconst 0, 1) := by decide +kernel
theorem d7_1 : decode prog_42_method_10_code 1 = .ok (.istore_n 1, 1) := by decide +kernel
theorem d7_2 : decode prog_42_method_10_code 2 = .ok (.aload_n 0, 1) := by decide +kernel
theorem d7_3 : decode prog_42_method_10_code 3 = .ok (.astore_n 2, 1) := by decide +kernel
theorem d7_4 : decode prog_42_method_10_code 4 = .ok (.aload_n 2, 1) := by decide +kernel
theorem d7_5 : decode prog_42_method_10_code 5 = .ok (.arraylength, 1) := by decide +kernel
theorem d7_6 : decode prog_42_method_10_code 6 = .ok (.istore_n 3, 1) := by decide +kernel
theorem d7_7 : decode prog_42_method_10_code 7 = .ok (.iconst 0, 1) := by decide +kernel
theorem d7_8 : decode prog_42_method_10_code 8 = .ok (.istore 4, 2) := by decide +kernel
theorem d7_10 : decode prog_42_method_10_code 10 = .ok (.iload 4, 2) := by decide +kernel
theorem d7_12 : decode prog_42_method_10_code 12 = .ok (.iload_n 3, 1) := by decide +kernel
theorem d7_13 : decode prog_42_method_10_code 13 = .ok (.if_icmp .ge 23, 3) := by decide +kernel
theorem d7_16 : decode prog_42_method_10_code 16 = .ok (.aload_n 2, 1) := by decide +kernel
theorem d7_17 : decode prog_42_method_10_code 17 = .ok (.iload 4, 2) := by decide +kernel
theorem d7_19 : decode prog_42_method_10_code 19 = .ok (.laload, 1) := by decide +kernel
theorem d7_20 : decode prog_42_method_10_code 20 = .ok (.lstore 5, 2) := by decide +kernel
theorem d7_22 : decode prog_42_method_10_code 22 = .ok (.iload_n 1, 1) := by decide +kernel
theorem d7_23 : decode prog_42_method_10_code 23 = .ok (.lload 5, 2) := by decide +kernel
theorem d7_25 : decode prog_42_method_10_code 25 = .ok (.invokestatic 131, 3) := by decide +kernel
theorem pd_2 : parseMethodDescriptor "(J)I" = some ⟨[.long], some .int⟩ := by decide +kernel
theorem d7_28 : decode prog_42_method_10_code 28 = .ok (.iadd, 1) := by decide +kernel
theorem d7_29 : decode prog_42_method_10_code 29 = .ok (.istore_n 1, 1) := by decide +kernel
theorem d7_30 : decode prog_42_method_10_code 30 = .ok (.iinc 4 1, 3) := by decide +kernel
theorem d7_33 : decode prog_42_method_10_code 33 = .ok (.goto (-23), 3) := by decide +kernel
theorem d7_36 : decode prog_42_method_10_code 36 = .ok (.iload_n 1, 1) := by decide +kernel
theorem d7_37 : decode prog_42_method_10_code 37 = .ok (.ireturn, 1) := by decide +kernel
theorem ef_rm7 (m : MethodId) (a0 : Addr) : entryFrame m #[(.ref a0)] 7 = mkF m 0 #[.val (.ref a0), .unset, .unset, .unset, .unset, .unset, .unset] [] := by first | (simp [entryFrame, mkF, argsToLocals, Value.category]; done) | rfl
def Q7 (Z : State) (a0 : Addr) (k0 : ClassId) (h0 : Heap) (n0 : Nat) (v : Option Value) (h : Heap) (L : List Loc) : Prop := v = some (.int (1 : Int32)) ∧ Fr n0 L ∧ h = h0
set_option maxRecDepth 65536 in
set_option maxHeartbeats 40000000 in
theorem rm7 (l : Launch) (Z : State) (az : Array Value) (hw : ∀ d ∈ tables_1, d.before az Z = true) (ws : List Jvm.Cond) (a0 : Addr) (k0 : ClassId) (h0 : Heap) (n0 : Nat) (Z0 : n0 ≤ h0.size) (V_a0 : Arv Z h0 a0 k0 .long (1 : Int32) [(.long (1 : Int64))] (.long (0 : Int64))) :
    MetFree l (⟨"com/example/headlattice/headlattice/learn/Tally", "bitCount", "([J)I"⟩ : MethodName) (head1 (Jvm.Cond.code (⟨"com/example/headlattice/headlattice/learn/Tally", "bitCount", "([J)I"⟩ : MethodName) prog_42_method_10_code 7 (some .int) :: ws) ({ frames := 1, cells := 0, slots := 0, locals := 14 } : Room)) (fun a U => a = #[(.ref a0)] ∧ Z.Warmed39 U.vm ∧ U.heap = h0) (fun _ _ _ _ _ => True) (fun _ U o U' => ∃ v L, o = .returned v ∧ Q7 Z a0 k0 h0 n0 v U'.heap L ∧ FrameEnd U o U' L ({ frames := 1, cells := 0, slots := 0, locals := 14 } : Room).cells ({ frames := 1, cells := 0, slots := 0, locals := 14 } : Room).slots) := by
  refine MetFree.of_bodySF (plainFor_of_name pn_com_example_headlattice_headlattice_learn_Tally) hisR ?_
  intro p e s m args below meth c s₁ Bd hml0 hP hK
  obtain ⟨rfl, hZ, hh⟩ := hP
  have hx := Bd.exec
  have hby := Bd.bytes
  have hml : c.maxLocals = 7 := hml0
  have hown : s.vm.findClass "com/example/headlattice/headlattice/learn/Tally" = some m.cls := findClass_of_methodNamed Bd.named
  have hnm := (name_of_methodNamed Bd.named Bd.method).1
  have X0 : Stand p l e ({ frames := 1, cells := 0, slots := 0, locals := 14 } : Room) s m #[(.ref a0)] below meth c s₁ [] 0 0 := Stand.of_body Bd
  have e0 : s₁.heap = h0 := by rw [← hh, Bd.state]; rfl
  have N0 := Fr.nil n0
  have pre0 : ∀ t, Steps p.tables e below (s₁.setTop (mkF m 0 #[.val (.ref a0), .unset, .unset, .unset, .unset, .unset, .unset] [])) t → Steps p.tables e below (s₁.setTop (entryFrame m #[(.ref a0)] 7)) t := fun t k => castTop (ef_rm7 m a0) k
  obtain ⟨cl1, Ar1, qk1, Sz1, Ng1, Hs1, Gf1⟩ := id V_a0
  have hin2 : ¬ ((0 : Int32) < 0 ∨ cl1.slots.size ≤ ((0 : Int32)).toNatClampNeg) := inb_of Sz1 ⟨by decide, by decide⟩
  have hat3 : cl1.slots[((0 : Int32)).toNatClampNeg]? = some (.long (1 : Int64)) := Hs1.at hin2 rfl
  obtain ⟨_, _, ⟨T4, L4, k4', n4'⟩, -, X4, ⟨Lc4, hQ4, l4, y4, z4⟩, st4⟩ := Jvm.LawKit.callS X0 hx (y := (⟨"java/lang/Long", "bitCount", "(J)I"⟩ : MethodName)) hown (mvT hZ (hw _ (List.mem_of_getElem? (i := 56) rfl))) (mvT hZ (hw _ (List.mem_of_getElem? (i := 57) rfl))) (mvT hZ (hw _ (List.mem_of_getElem? (i := 58) rfl))) (mvT hZ (hw _ (List.mem_of_getElem? (i := 59) rfl))) (by decide) (backOf (W := 1) (rm8 l Z az hw []  h0 n0 Z0) hZ (hw _ (List.mem_of_getElem? (i := 59) rfl)) (hw _ (List.mem_of_getElem? (i := 58) rfl)) (by decide) (by decide)) (g := (mkF m 25 #[.val (.ref a0), .val (.int (0 : Int32)), .val (.ref a0), .val (.int (1 : Int32)), .val (.int (0 : Int32)), .val (.long (1 : Int64)), .second] [(.long (1 : Int64)), (.int (0 : Int32))])) rfl (by rw [hml]; rfl) (argsL := [(.long (1 : Int64))]) (rest := [(.int (0 : Int32))]) (lenOf pd_2 rfl) rfl (by show 2 * 0 + _ ≤ _; exact Nat.le_of_eq rfl) (hb hby d7_25) (fun _ _ => ⟨rfl, e0, (by decide : 0 + 0 ≤ _), (by decide : 0 + 0 ≤ _)⟩)
  dsimp only [Pt.U, Pt.locs, Pt.cells, Pt.slots] at X4 l4 y4 z4 st4 hQ4
  subst l4 y4 z4
  obtain ⟨rfl, N4q, e4⟩ := hQ4
  obtain ⟨Lg4, X4', N4⟩ := own_gen X4 (Fr.app N0 N4q)
  obtain ⟨fs, hr, hrun, hended, hW, hsame⟩ := X4'.leave (v := some (.int (1 : Int32))) (fun h => by rw [Bd.returns] at h; cases h)
  refine ⟨_, _, pre0 _ ?_, hrun, hended, _, _, rfl, ?_, ⟨_, rfl⟩, hW, hsame.mono (by decide) (by decide)⟩
  · show Steps p.tables e below (s₁.setTop (mkF m 0 #[.val (.ref a0), .unset, .unset, .unset, .unset, .unset, .unset] [])) _
    refine XS.iconst X0.here hx rfl (hb hby d7_0) ?_
    show Steps p.tables e below (s₁.setTop (mkF m 1 #[.val (.ref a0), .unset, .unset, .unset, .unset, .unset, .unset] [(.int (0 : Int32))])) _
    refine XS.istoreN X0.here hx rfl (hb hby d7_1) rfl (l' := #[.val (.ref a0), .val (.int (0 : Int32)), .unset, .unset, .unset, .unset, .unset]) rfl ?_
    show Steps p.tables e below (s₁.setTop (mkF m 2 #[.val (.ref a0), .val (.int (0 : Int32)), .unset, .unset, .unset, .unset, .unset] [])) _
    refine XS.aloadN X0.here hx rfl (hb hby d7_2) rfl rfl ?_
    show Steps p.tables e below (s₁.setTop (mkF m 3 #[.val (.ref a0), .val (.int (0 : Int32)), .unset, .unset, .unset, .unset, .unset] [(.ref a0)])) _
    refine XS.astoreN X0.here hx rfl (hb hby d7_3) rfl rfl (l' := #[.val (.ref a0), .val (.int (0 : Int32)), .val (.ref a0), .unset, .unset, .unset, .unset]) rfl ?_
    show Steps p.tables e below (s₁.setTop (mkF m 4 #[.val (.ref a0), .val (.int (0 : Int32)), .val (.ref a0), .unset, .unset, .unset, .unset] [])) _
    refine XS.aloadN X0.here hx rfl (hb hby d7_4) rfl rfl ?_
    show Steps p.tables e below (s₁.setTop (mkF m 5 #[.val (.ref a0), .val (.int (0 : Int32)), .val (.ref a0), .unset, .unset, .unset, .unset] [(.ref a0)])) _
    refine X0.arraylength hx (by rw [e0]; exact Ar1.1) (State.isArrayOf_alike hZ.alike Ar1.2.1) (g := (mkF m 5 #[.val (.ref a0), .val (.int (0 : Int32)), .val (.ref a0), .unset, .unset, .unset, .unset] [(.ref a0)])) rfl rfl (hb hby d7_5) _ ?_
    rw [len_of Sz1 Ng1]
    show Steps p.tables e below (s₁.setTop (mkF m 6 #[.val (.ref a0), .val (.int (0 : Int32)), .val (.ref a0), .unset, .unset, .unset, .unset] [(.int (1 : Int32))])) _
    refine XS.istoreN X0.here hx rfl (hb hby d7_6) rfl (l' := #[.val (.ref a0), .val (.int (0 : Int32)), .val (.ref a0), .val (.int (1 : Int32)), .unset, .unset, .unset]) rfl ?_
    show Steps p.tables e below (s₁.setTop (mkF m 7 #[.val (.ref a0), .val (.int (0 : Int32)), .val (.ref a0), .val (.int (1 : Int32)), .unset, .unset, .unset] [])) _
    refine XS.iconst X0.here hx rfl (hb hby d7_7) ?_
    show Steps p.tables e below (s₁.setTop (mkF m 8 #[.val (.ref a0), .val (.int (0 : Int32)), .val (.ref a0), .val (.int (1 : Int32)), .unset, .unset, .unset] [(.int (0 : Int32))])) _
    refine XS.istore X0.here hx rfl (hb hby d7_8) rfl (l' := #[.val (.ref a0), .val (.int (0 : Int32)), .val (.ref a0), .val (.int (1 : Int32)), .val (.int (0 : Int32)), .unset, .unset]) rfl ?_
    show Steps p.tables e below (s₁.setTop (mkF m 10 #[.val (.ref a0), .val (.int (0 : Int32)), .val (.ref a0), .val (.int (1 : Int32)), .val (.int (0 : Int32)), .unset, .unset] [])) _
    refine XS.iload X0.here hx rfl (hb hby d7_10) rfl ?_
    show Steps p.tables e below (s₁.setTop (mkF m 12 #[.val (.ref a0), .val (.int (0 : Int32)), .val (.ref a0), .val (.int (1 : Int32)), .val (.int (0 : Int32)), .unset, .unset] [(.int (0 : Int32))])) _
    refine XS.iloadN X0.here hx rfl (hb hby d7_12) rfl ?_
    show Steps p.tables e below (s₁.setTop (mkF m 13 #[.val (.ref a0), .val (.int (0 : Int32)), .val (.ref a0), .val (.int (1 : Int32)), .val (.int (0 : Int32)), .unset, .unset] [(.int (1 : Int32)), (.int (0 : Int32))])) _
    refine XS.icmpNo X0.here hx rfl (hb hby d7_13) rfl (tlt (by decide : (0 : Int32) < (1 : Int32))).2.1 ?_
    show Steps p.tables e below (s₁.setTop (mkF m 16 #[.val (.ref a0), .val (.int (0 : Int32)), .val (.ref a0), .val (.int (1 : Int32)), .val (.int (0 : Int32)), .unset, .unset] [])) _
    refine XS.aloadN X0.here hx rfl (hb hby d7_16) rfl rfl ?_
    show Steps p.tables e below (s₁.setTop (mkF m 17 #[.val (.ref a0), .val (.int (0 : Int32)), .val (.ref a0), .val (.int (1 : Int32)), .val (.int (0 : Int32)), .unset, .unset] [(.ref a0)])) _
    refine XS.iload X0.here hx rfl (hb hby d7_17) rfl ?_
    show Steps p.tables e below (s₁.setTop (mkF m 19 #[.val (.ref a0), .val (.int (0 : Int32)), .val (.ref a0), .val (.int (1 : Int32)), .val (.int (0 : Int32)), .unset, .unset] [(.int (0 : Int32)), (.ref a0)])) _
    refine X0.laload hx (j := (0 : Int32)) (v := (.long (1 : Int64))) (by rw [e0]; exact Ar1.1) (State.isArrayOf_alike hZ.alike Ar1.2.1) Ar1.2.2 hin2 hat3 (g := (mkF m 19 #[.val (.ref a0), .val (.int (0 : Int32)), .val (.ref a0), .val (.int (1 : Int32)), .val (.int (0 : Int32)), .unset, .unset] [(.int (0 : Int32)), (.ref a0)])) rfl rfl (hb hby d7_19) _ ?_
    show Steps p.tables e below (s₁.setTop (mkF m 20 #[.val (.ref a0), .val (.int (0 : Int32)), .val (.ref a0), .val (.int (1 : Int32)), .val (.int (0 : Int32)), .unset, .unset] [(.long (1 : Int64))])) _
    refine XS.lstore X0.here hx rfl (hb hby d7_20) rfl (l' := #[.val (.ref a0), .val (.int (0 : Int32)), .val (.ref a0), .val (.int (1 : Int32)), .val (.int (0 : Int32)), .val (.long (1 : Int64)), .second]) rfl ?_
    show Steps p.tables e below (s₁.setTop (mkF m 22 #[.val (.ref a0), .val (.int (0 : Int32)), .val (.ref a0), .val (.int (1 : Int32)), .val (.int (0 : Int32)), .val (.long (1 : Int64)), .second] [])) _
    refine XS.iloadN X0.here hx rfl (hb hby d7_22) rfl ?_
    show Steps p.tables e below (s₁.setTop (mkF m 23 #[.val (.ref a0), .val (.int (0 : Int32)), .val (.ref a0), .val (.int (1 : Int32)), .val (.int (0 : Int32)), .val (.long (1 : Int64)), .second] [(.int (0 : Int32))])) _
    refine XS.lload X0.here hx rfl (hb hby d7_23) rfl ?_
    show Steps p.tables e below (s₁.setTop (mkF m 25 #[.val (.ref a0), .val (.int (0 : Int32)), .val (.ref a0), .val (.int (1 : Int32)), .val (.int (0 : Int32)), .val (.long (1 : Int64)), .second] [(.long (1 : Int64)), (.int (0 : Int32))])) _
    refine st4 _ ?_
    show Steps p.tables e below (T4.setTop (mkF m 28 #[.val (.ref a0), .val (.int (0 : Int32)), .val (.ref a0), .val (.int (1 : Int32)), .val (.int (0 : Int32)), .val (.long (1 : Int64)), .second] [(.int (1 : Int32)), (.int (0 : Int32))])) _
    refine XS.iadd X4'.here hx rfl (hb hby d7_28) rfl ?_
    show Steps p.tables e below (T4.setTop (mkF m 29 #[.val (.ref a0), .val (.int (0 : Int32)), .val (.ref a0), .val (.int (1 : Int32)), .val (.int (0 : Int32)), .val (.long (1 : Int64)), .second] [(.int (1 : Int32))])) _
    refine XS.istoreN X4'.here hx rfl (hb hby d7_29) rfl (l' := #[.val (.ref a0), .val (.int (1 : Int32)), .val (.ref a0), .val (.int (1 : Int32)), .val (.int (0 : Int32)), .val (.long (1 : Int64)), .second]) rfl ?_
    show Steps p.tables e below (T4.setTop (mkF m 30 #[.val (.ref a0), .val (.int (1 : Int32)), .val (.ref a0), .val (.int (1 : Int32)), .val (.int (0 : Int32)), .val (.long (1 : Int64)), .second] [])) _
    refine XS.iinc X4'.here hx rfl (hb hby d7_30) rfl (l' := #[.val (.ref a0), .val (.int (1 : Int32)), .val (.ref a0), .val (.int (1 : Int32)), .val (.int (1 : Int32)), .val (.long (1 : Int64)), .second]) rfl ?_
    show Steps p.tables e below (T4.setTop (mkF m 33 #[.val (.ref a0), .val (.int (1 : Int32)), .val (.ref a0), .val (.int (1 : Int32)), .val (.int (1 : Int32)), .val (.long (1 : Int64)), .second] [])) _
    refine XS.goto X4'.here hx rfl (pc0 := 33) (pc' := 10) rfl (hb hby d7_33) (by decide) (by decide) ?_
    show Steps p.tables e below (T4.setTop (mkF m 10 #[.val (.ref a0), .val (.int (1 : Int32)), .val (.ref a0), .val (.int (1 : Int32)), .val (.int (1 : Int32)), .val (.long (1 : Int64)), .second] [])) _
    refine XS.iload X4'.here hx rfl (hb hby d7_10) rfl ?_
    show Steps p.tables e below (T4.setTop (mkF m 12 #[.val (.ref a0), .val (.int (1 : Int32)), .val (.ref a0), .val (.int (1 : Int32)), .val (.int (1 : Int32)), .val (.long (1 : Int64)), .second] [(.int (1 : Int32))])) _
    refine XS.iloadN X4'.here hx rfl (hb hby d7_12) rfl ?_
    show Steps p.tables e below (T4.setTop (mkF m 13 #[.val (.ref a0), .val (.int (1 : Int32)), .val (.ref a0), .val (.int (1 : Int32)), .val (.int (1 : Int32)), .val (.long (1 : Int64)), .second] [(.int (1 : Int32)), (.int (1 : Int32))])) _
    refine XS.icmpYes X4'.here hx rfl (pc0 := 13) (pc' := 36) rfl (hb hby d7_13) rfl (flt (by decide : ¬ ((1 : Int32) < (1 : Int32)))).2.1 (by decide) (by decide) ?_
    show Steps p.tables e below (T4.setTop (mkF m 36 #[.val (.ref a0), .val (.int (1 : Int32)), .val (.ref a0), .val (.int (1 : Int32)), .val (.int (1 : Int32)), .val (.long (1 : Int64)), .second] [])) _
    refine XS.iloadN X4'.here hx rfl (hb hby d7_36) rfl ?_
    show Steps p.tables e below (T4.setTop (mkF m 37 #[.val (.ref a0), .val (.int (1 : Int32)), .val (.ref a0), .val (.int (1 : Int32)), .val (.int (1 : Int32)), .val (.long (1 : Int64)), .second] [(.int (1 : Int32))])) _
    exact retI X4' hx Bd.returns (hb hby d7_37) hr
  · show Q7 Z a0 k0 h0 n0 _ T4.heap _
    rw [e4]
    exact ⟨rfl, N4, rfl⟩
theorem d5_0 : decode prog_42_method_3_code 0 = .ok (.iload_n 1, 1) := by decide +kernel
theorem d5_1 : decode prog_42_method_3_code 1 = .ok (.ifCond .ne 11, 3) := by decide +kernel
theorem d5_12 : decode prog_42_method_3_code 12 = .ok (.aload_n 0, 1) := by decide +kernel
theorem d5_13 : decode prog_42_method_3_code 13 = .ok (.invokevirtual 21, 3) := by decide +kernel
theorem pd_3 : parseMethodDescriptor "()[J" = some ⟨[], some (.array .long)⟩ := by decide +kernel
theorem d5_16 : decode prog_42_method_3_code 16 = .ok (.astore_n 2, 1) := by decide +kernel
theorem d5_17 : decode prog_42_method_3_code 17 = .ok (.new 2, 3) := by decide +kernel
theorem d5_20 : decode prog_42_method_3_code 20 = .ok (.dup, 1) := by decide +kernel
theorem d5_21 : decode prog_42_method_3_code 21 = .ok (.aload_n 2, 1) := by decide +kernel
theorem d5_22 : decode prog_42_method_3_code 22 = .ok (.aload_n 2, 1) := by decide +kernel
theorem d5_23 : decode prog_42_method_3_code 23 = .ok (.invokestatic 27, 3) := by decide +kernel
theorem pd_4 : parseMethodDescriptor "([J)I" = some ⟨[(.array .long)], some .int⟩ := by decide +kernel
theorem d5_26 : decode prog_42_method_3_code 26 = .ok (.invokespecial 1, 3) := by decide +kernel
theorem d5_29 : decode prog_42_method_3_code 29 = .ok (.areturn, 1) := by decide +kernel
theorem ef_rm5 (m : MethodId) (a0 : Addr) : entryFrame m #[(.ref a0), (.int (1 : Int32))] 3 = mkF m 0 #[.val (.ref a0), .val (.int (1 : Int32)), .unset] [] := by first | (simp [entryFrame, mkF, argsToLocals, Value.category]; done) | rfl
def Q5 (Z : State) (a0 : Addr) (aP : Addr) (kP : ClassId) (aR : Addr) (kR : ClassId) (h0 : Heap) (n0 : Nat) (v : Option Value) (h : Heap) (L : List Loc) : Prop := ∃ r0 : Addr, ∃ r1 : Addr, ∃ rk0 : ClassId, v = some (.ref r1) ∧ Fr n0 L ∧ h0.size ≤ r0 ∧ r0 < r1 ∧ Keep h0 h [] ∧ Exa Z h r0 "[J" ∧ Arv Z h r0 rk0 .long (1 : Int32) [(.long (1 : Int64))] (.long (0 : Int64)) ∧ Exa Z h r1 "com/example/headlattice/headlattice/learn/Tally" ∧ Fld Z h r1 "com/example/headlattice/headlattice/learn/Tally" "rightRows" "[J" (.ref r0) ∧ Fld Z h r1 "com/example/headlattice/headlattice/learn/Tally" "remainingRows" "I" (.int (1 : Int32)) ∧ Fld Z h r1 "com/example/headlattice/headlattice/learn/Tally" "truePositives" "J" (.long (0 : Int64)) ∧ Fld Z h r1 "com/example/headlattice/headlattice/learn/Tally" "falsePositives" "J" (.long (0 : Int64)) ∧ Fld Z h r1 "com/example/headlattice/headlattice/learn/Tally" "trueNegatives" "J" (.long (0 : Int64)) ∧ Fld Z h r1 "com/example/headlattice/headlattice/learn/Tally" "falseNegatives" "J" (.long (0 : Int64))
set_option maxRecDepth 65536 in
set_option maxHeartbeats 40000000 in
theorem rm5 (l : Launch) (Z : State) (az : Array Value) (hw : ∀ d ∈ tables_1, d.before az Z = true) (ws : List Jvm.Cond) (a0 : Addr) (aP : Addr) (kP : ClassId) (aR : Addr) (kR : ClassId) (h0 : Heap) (n0 : Nat) (Z0 : n0 ≤ h0.size) (E_a0 : Exa Z h0 a0 "com/example/headlattice/headlattice/learn/Coverage") (F_labelCount_a0 : Fld Z h0 a0 "com/example/headlattice/headlattice/learn/Coverage" "labelCount" "I" (.int (1 : Int32))) (F_rowCount_a0 : Fld Z h0 a0 "com/example/headlattice/headlattice/learn/Coverage" "rowCount" "I" (.int (1 : Int32))) (F_pairsShared_a0 : Fld Z h0 a0 "com/example/headlattice/headlattice/learn/Coverage" "pairsShared" "Z" (.int (0 : Int32))) (F_openPairs_a0 : Fld Z h0 a0 "com/example/headlattice/headlattice/learn/Coverage" "openPairs" "[[I" (.ref aP)) (V_aP : Arv Z h0 aP kP (.array .int) (8 : Int32) [(.ref aR), .null, .null, .null, .null, .null, .null, .null] .null) (O_kP : OvrA Z kP .int "[I") (E_aP : Exa Z h0 aP "[[I") (V_aR : Arv Z h0 aR kR .int (1 : Int32) [(.int (0 : Int32))] (.int (0 : Int32))) :
    MetFree l (⟨"com/example/headlattice/headlattice/learn/Tally", "empty", "(Lcom/example/headlattice/headlattice/learn/Coverage;Z)Lcom/example/headlattice/headlattice/learn/Tally;"⟩ : MethodName) (head1 (Jvm.Cond.code (⟨"com/example/headlattice/headlattice/learn/Tally", "empty", "(Lcom/example/headlattice/headlattice/learn/Coverage;Z)Lcom/example/headlattice/headlattice/learn/Tally;"⟩ : MethodName) prog_42_method_3_code 3 (some (.object "com/example/headlattice/headlattice/learn/Tally")) :: ws) ({ frames := 2, cells := 2, slots := 7, locals := 35 } : Room)) (fun a U => a = #[(.ref a0), (.int (1 : Int32))] ∧ Z.Warmed39 U.vm ∧ U.heap = h0) (fun _ _ _ _ _ => True) (fun _ U o U' => ∃ v L, o = .returned v ∧ Q5 Z a0 aP kP aR kR h0 n0 v U'.heap L ∧ FrameEnd U o U' L ({ frames := 2, cells := 2, slots := 7, locals := 35 } : Room).cells ({ frames := 2, cells := 2, slots := 7, locals := 35 } : Room).slots) := by
  refine MetFree.of_bodySF (plainFor_of_name pn_com_example_headlattice_headlattice_learn_Tally) hisR ?_
  intro p e s m args below meth c s₁ Bd hml0 hP hK
  obtain ⟨rfl, hZ, hh⟩ := hP
  have hx := Bd.exec
  have hby := Bd.bytes
  have hml : c.maxLocals = 3 := hml0
  have hown : s.vm.findClass "com/example/headlattice/headlattice/learn/Tally" = some m.cls := findClass_of_methodNamed Bd.named
  have hnm := (name_of_methodNamed Bd.named Bd.method).1
  have X0 : Stand p l e ({ frames := 2, cells := 2, slots := 7, locals := 35 } : Room) s m #[(.ref a0), (.int (1 : Int32))] below meth c s₁ [] 0 0 := Stand.of_body Bd
  have e0 : s₁.heap = h0 := by rw [← hh, Bd.state]; rfl
  have N0 := Fr.nil n0
  have pre0 : ∀ t, Steps p.tables e below (s₁.setTop (mkF m 0 #[.val (.ref a0), .val (.int (1 : Int32)), .unset] [])) t → Steps p.tables e below (s₁.setTop (entryFrame m #[(.ref a0), (.int (1 : Int32))] 3)) t := fun t k => castTop (ef_rm5 m a0) k
  obtain ⟨cq1, kq1, q1a, q1b, q1c⟩ := isOf hZ e0 E_a0
  obtain ⟨_, _, ⟨T1, L1, k1', n1'⟩, -, X1, ⟨Lc1, hQ1, l1, y1, z1⟩, st1⟩ := X0.virtualBack hx (y := (⟨"com/example/headlattice/headlattice/learn/Coverage", "remainingRowSet", "()[J"⟩ : MethodName)) (z := (⟨"com/example/headlattice/headlattice/learn/Coverage", "remainingRowSet", "()[J"⟩ : MethodName)) hown (mvT hZ (hw _ (List.mem_of_getElem? (i := 45) rfl))) (mvT hZ (hw _ (List.mem_of_getElem? (i := 46) rfl))) (notFace_of_selects (args := #[]) (mvT hZ (hw _ (List.mem_of_getElem? (i := 48) rfl)))) (mvT hZ (hw _ (List.mem_of_getElem? (i := 48) rfl))) (mvT hZ (hw _ (List.mem_of_getElem? (i := 47) rfl))) (by decide) (backOf (W := 0) (rm6 l Z az hw [] a0 aP kP aR kR h0 n0 Z0 E_a0 F_labelCount_a0 F_rowCount_a0 F_pairsShared_a0 F_openPairs_a0 V_aP O_kP E_aP V_aR) hZ (hw _ (List.mem_of_getElem? (i := 49) rfl)) (hw _ (List.mem_of_getElem? (i := 2) rfl)) (by decide) (by decide)) q1a q1c (g := (mkF m 13 #[.val (.ref a0), .val (.int (1 : Int32)), .unset] [(.ref a0)])) rfl (by rw [hml]; rfl) (Steps.refl _) (argsL := []) (rest := []) (lenOf pd_3 rfl) rfl (by show 2 * 0 + _ ≤ _; exact Nat.le_of_eq rfl) (hb hby d5_13) (fun _ _ => ⟨rfl, e0, (by decide : 0 + 1 ≤ _), (by decide : 0 + 1 ≤ _)⟩)
  dsimp only [Pt.U, Pt.locs, Pt.cells, Pt.slots] at X1 l1 y1 z1 st1 hQ1
  subst l1 y1 z1
  obtain ⟨b1_0, kk1_0, rfl, N1q, s1_0, kq1, pf1_0, pf1_1⟩ := hQ1
  obtain ⟨Lg1, X1', N1⟩ := own_gen X1 (Fr.app N0 N1q)
  have g_b1_0 : n0 ≤ b1_0 := Nat.le_trans Z0 s1_0
  have sz_b1_0 : h0.size ≤ b1_0 := Nat.le_trans (Nat.le_refl _) s1_0
  have K1 : Keep h0 T1.heap [] := (Keep.refl h0 []).trans kq1 all0
  have Z1 : n0 ≤ T1.heap.size := Nat.le_trans Z0 kq1.1
  obtain ⟨T2, h2, X2, e2, E2, A2, D2, -, st2⟩ := newO X1' hx hZ hown (hw _ (List.mem_of_getElem? (i := 51) rfl)) (hw _ (List.mem_of_getElem? (i := 52) rfl)) (hw _ (List.mem_of_getElem? (i := 43) rfl)) rfl (g := (mkF m 17 #[.val (.ref a0), .val (.int (1 : Int32)), .val (.ref b1_0)] [])) rfl (hb hby d5_17) (by decide) (by decide)
  obtain ⟨b2, g2⟩ : ∃ z, z = T1.heap.size := ⟨_, rfl⟩
  rw [← g2] at A2 D2 st2
  have g_b2 : n0 ≤ b2 := Nat.le_trans Z1 (Nat.le_of_eq g2.symm)
  have sz_b2 : h0.size ≤ b2 := Nat.le_trans K1.1 (Nat.le_of_eq g2.symm)
  have Z2 : n0 ≤ h2.size := Nat.le_trans Z1 E2.1
  have K2 : Keep h0 h2 [] := K1.ext E2
  have E_b2 := A2
  have F_rightRows_b2 : Fld Z h2 b2 "com/example/headlattice/headlattice/learn/Tally" "rightRows" "[J" .null := D2 (Or.inr (hw _ (List.mem_of_getElem? (i := 68) rfl))) (ty := (.array .long)) (by decide)
  have F_remainingRows_b2 : Fld Z h2 b2 "com/example/headlattice/headlattice/learn/Tally" "remainingRows" "I" (.int (0 : Int32)) := D2 (Or.inl (hw _ (List.mem_of_getElem? (i := 70) rfl))) (ty := .int) (by decide)
  have F_truePositives_b2 : Fld Z h2 b2 "com/example/headlattice/headlattice/learn/Tally" "truePositives" "J" (.long (0 : Int64)) := D2 (Or.inl (hw _ (List.mem_of_getElem? (i := 79) rfl))) (ty := .long) (by decide)
  have F_falsePositives_b2 : Fld Z h2 b2 "com/example/headlattice/headlattice/learn/Tally" "falsePositives" "J" (.long (0 : Int64)) := D2 (Or.inl (hw _ (List.mem_of_getElem? (i := 81) rfl))) (ty := .long) (by decide)
  have F_trueNegatives_b2 : Fld Z h2 b2 "com/example/headlattice/headlattice/learn/Tally" "trueNegatives" "J" (.long (0 : Int64)) := D2 (Or.inl (hw _ (List.mem_of_getElem? (i := 83) rfl))) (ty := .long) (by decide)
  have F_falseNegatives_b2 : Fld Z h2 b2 "com/example/headlattice/headlattice/learn/Tally" "falseNegatives" "J" (.long (0 : Int64)) := D2 (Or.inl (hw _ (List.mem_of_getElem? (i := 85) rfl))) (ty := .long) (by decide)
  have V_b1_0_u4 : Arv Z h2 b1_0 kk1_0 .long (1 : Int32) [(.long (1 : Int64))] (.long (0 : Int64)) := (pf1_1.ext E2)
  obtain ⟨_, _, ⟨T3, L3, k3', n3'⟩, -, X3, ⟨Lc3, hQ3, l3, y3, z3⟩, st3⟩ := Jvm.LawKit.callS X2 hx (y := (⟨"com/example/headlattice/headlattice/learn/Tally", "bitCount", "([J)I"⟩ : MethodName)) hown (mvT hZ (hw _ (List.mem_of_getElem? (i := 53) rfl))) (mvT hZ (hw _ (List.mem_of_getElem? (i := 54) rfl))) (mvT hZ (hw _ (List.mem_of_getElem? (i := 43) rfl))) (mvT hZ (hw _ (List.mem_of_getElem? (i := 55) rfl))) (by decide) (backOf (W := 3) (rm7 l Z az hw [] b1_0 kk1_0 h2 n0 Z2 V_b1_0_u4) hZ (hw _ (List.mem_of_getElem? (i := 55) rfl)) (hw _ (List.mem_of_getElem? (i := 43) rfl)) (by decide) (by decide)) (g := (mkF m 23 #[.val (.ref a0), .val (.int (1 : Int32)), .val (.ref b1_0)] [(.ref b1_0), (.ref b1_0), (.ref b2), (.ref b2)])) rfl (by rw [hml]; rfl) (argsL := [(.ref b1_0)]) (rest := [(.ref b1_0), (.ref b2), (.ref b2)]) (lenOf pd_4 rfl) rfl (by show 2 * 0 + _ ≤ _; exact Nat.le_of_eq rfl) (hb hby d5_23) (fun _ _ => ⟨rfl, e2, (by decide : 2 + 0 ≤ _), (by decide : 7 + 0 ≤ _)⟩)
  dsimp only [Pt.U, Pt.locs, Pt.cells, Pt.slots] at X3 l3 y3 z3 st3 hQ3
  subst l3 y3 z3
  obtain ⟨rfl, N3q, e3⟩ := hQ3
  obtain ⟨Lg3, X3', N3⟩ := own_gen X3 (Fr.app N1 N3q)
  obtain ⟨_, _, ⟨T5, L5, k5', n5'⟩, -, X5, ⟨Lc5, hQ5, l5, y5, z5⟩, st5⟩ := X3'.specialBack hx (y := (⟨"com/example/headlattice/headlattice/learn/Tally", "<init>", "([JI)V"⟩ : MethodName)) rfl hown (mvT hZ (hw _ (List.mem_of_getElem? (i := 63) rfl))) (mvT hZ (hw _ (List.mem_of_getElem? (i := 64) rfl))) (mvT hZ (hw _ (List.mem_of_getElem? (i := 65) rfl))) (by decide) (backOf (W := 1) (rm9 l Z az hw [] b2 b1_0 (1 : Int32) h2 n0 Z2 E_b2 F_rightRows_b2 F_remainingRows_b2 F_truePositives_b2 F_falsePositives_b2 F_trueNegatives_b2 F_falseNegatives_b2 g_b2) hZ (hw _ (List.mem_of_getElem? (i := 65) rfl)) (hw _ (List.mem_of_getElem? (i := 43) rfl)) (by decide) (by decide)) (g := (mkF m 26 #[.val (.ref a0), .val (.int (1 : Int32)), .val (.ref b1_0)] [(.int (1 : Int32)), (.ref b1_0), (.ref b2), (.ref b2)])) rfl (by rw [hml]; rfl) (Steps.refl _) (a := b2) (argsL := [(.ref b1_0), (.int (1 : Int32))]) (rest := [(.ref b2)]) (lenOf pd_0 rfl) rfl (by show 2 * 0 + _ ≤ _; exact Nat.le_of_eq rfl) (hb hby d5_26) (fun _ _ => ⟨rfl, e3, (by decide : 2 + 0 ≤ _), (by decide : 7 + 0 ≤ _)⟩)
  dsimp only [Pt.U, Pt.locs, Pt.cells, Pt.slots] at X5 l5 y5 z5 st5 hQ5
  subst l5 y5 z5
  obtain ⟨rfl, N5q, kq5, pf5_0, pf5_1, pf5_2, pf5_3, pf5_4, pf5_5, pf5_6⟩ := hQ5
  obtain ⟨Lg5, X5', N5⟩ := own_gen X5 (Fr.app N3 N5q)
  have K5 : Keep h0 T5.heap [] := K2.trans kq5 (allS (Or.inr sz_b2) all0)
  have Z5 : n0 ≤ T5.heap.size := Nat.le_trans Z2 kq5.1
  have E_b1_0_u6 : Exa Z T5.heap b1_0 "[J" := ((pf1_0.ext E2).keep kq5)
  have ne_b1_0_b2 : b1_0 ≠ b2 := own_ne (Nat.lt_of_lt_of_le pf1_0.lt (Nat.le_of_eq g2.symm))
  have V_b1_0_u7 : Arv Z T5.heap b1_0 kk1_0 .long (1 : Int32) [(.long (1 : Int64))] (.long (0 : Int64)) := (V_b1_0_u4.keep kq5 (ninS ne_b1_0_b2 nin0))
  obtain ⟨fs, hr, hrun, hended, hW, hsame⟩ := X5'.leave (v := some (.ref b2)) (fun h => by rw [Bd.returns] at h; cases h)
  refine ⟨_, _, pre0 _ ?_, hrun, hended, _, _, rfl, ?_, ⟨_, rfl⟩, hW, hsame.mono (by decide) (by decide)⟩
  · show Steps p.tables e below (s₁.setTop (mkF m 0 #[.val (.ref a0), .val (.int (1 : Int32)), .unset] [])) _
    refine XS.iloadN X0.here hx rfl (hb hby d5_0) rfl ?_
    show Steps p.tables e below (s₁.setTop (mkF m 1 #[.val (.ref a0), .val (.int (1 : Int32)), .unset] [(.int (1 : Int32))])) _
    refine XS.ifYes X0.here hx rfl (pc0 := 1) (pc' := 12) rfl (hb hby d5_1) rfl ((if0 _ _).trans (feq (by decide : ¬ ((1 : Int32) = (0 : Int32)))).2) (by decide) (by decide) ?_
    show Steps p.tables e below (s₁.setTop (mkF m 12 #[.val (.ref a0), .val (.int (1 : Int32)), .unset] [])) _
    refine XS.aloadN X0.here hx rfl (hb hby d5_12) rfl rfl ?_
    show Steps p.tables e below (s₁.setTop (mkF m 13 #[.val (.ref a0), .val (.int (1 : Int32)), .unset] [(.ref a0)])) _
    refine st1.trans ?_
    show Steps p.tables e below (T1.setTop (mkF m 16 #[.val (.ref a0), .val (.int (1 : Int32)), .unset] [(.ref b1_0)])) _
    refine XS.astoreN X1'.here hx rfl (hb hby d5_16) rfl rfl (l' := #[.val (.ref a0), .val (.int (1 : Int32)), .val (.ref b1_0)]) rfl ?_
    show Steps p.tables e below (T1.setTop (mkF m 17 #[.val (.ref a0), .val (.int (1 : Int32)), .val (.ref b1_0)] [])) _
    refine st2 _ ?_
    show Steps p.tables e below (T2.setTop (mkF m 20 #[.val (.ref a0), .val (.int (1 : Int32)), .val (.ref b1_0)] [(.ref b2)])) _
    refine XS.dup X2.here hx rfl (hb hby d5_20) rfl rfl ?_
    show Steps p.tables e below (T2.setTop (mkF m 21 #[.val (.ref a0), .val (.int (1 : Int32)), .val (.ref b1_0)] [(.ref b2), (.ref b2)])) _
    refine XS.aloadN X2.here hx rfl (hb hby d5_21) rfl rfl ?_
    show Steps p.tables e below (T2.setTop (mkF m 22 #[.val (.ref a0), .val (.int (1 : Int32)), .val (.ref b1_0)] [(.ref b1_0), (.ref b2), (.ref b2)])) _
    refine XS.aloadN X2.here hx rfl (hb hby d5_22) rfl rfl ?_
    show Steps p.tables e below (T2.setTop (mkF m 23 #[.val (.ref a0), .val (.int (1 : Int32)), .val (.ref b1_0)] [(.ref b1_0), (.ref b1_0), (.ref b2), (.ref b2)])) _
    refine st3 _ ?_
    show Steps p.tables e below (T3.setTop (mkF m 26 #[.val (.ref a0), .val (.int (1 : Int32)), .val (.ref b1_0)] [(.int (1 : Int32)), (.ref b1_0), (.ref b2), (.ref b2)])) _
    refine st5.trans ?_
    show Steps p.tables e below (T5.setTop (mkF m 29 #[.val (.ref a0), .val (.int (1 : Int32)), .val (.ref b1_0)] [(.ref b2)])) _
    jvm_step X5'.here [X5'.here.top, hx, (hb hby d5_29), X5'.method', Bd.returns, Value.isRef, FieldType.isReference]
    first | (intro acts; rw [hr _ acts rfl rfl rfl]) | rw [hr _ _ rfl rfl rfl]
    exact Steps.refl _
  · show Q5 Z a0 aP kP aR kR h0 n0 _ T5.heap _
    exact ⟨b1_0, b2, kk1_0, rfl, N5, sz_b1_0, (Nat.lt_of_lt_of_le pf1_0.lt (Nat.le_of_eq g2.symm)), K5, E_b1_0_u6, V_b1_0_u7, pf5_0, pf5_1, pf5_2, pf5_3, pf5_4, pf5_5, pf5_6⟩
theorem d10_0 : decode prog_42_method_4_code 0 = .ok (.aload_n 0, 1) := by decide +kernel
theorem d10_1 : decode prog_42_method_4_code 1 = .ok (.getfield 12, 3) := by decide +kernel
theorem d10_4 : decode prog_42_method_4_code 4 = .ok (.ifnonnull 11, 3) := by decide +kernel
theorem d10_15 : decode prog_42_method_4_code 15 = .ok (.new 2, 3) := by decide +kernel
theorem d10_18 : decode prog_42_method_4_code 18 = .ok (.dup, 1) := by decide +kernel
theorem d10_19 : decode prog_42_method_4_code 19 = .ok (.aload_n 0, 1) := by decide +kernel
theorem d10_20 : decode prog_42_method_4_code 20 = .ok (.getfield 12, 3) := by decide +kernel
theorem d10_23 : decode prog_42_method_4_code 23 = .ok (.arraylength, 1) := by decide +kernel
theorem d10_24 : decode prog_42_method_4_code 24 = .ok (.newarray .long, 2) := by decide +kernel
theorem d10_26 : decode prog_42_method_4_code 26 = .ok (.aload_n 0, 1) := by decide +kernel
theorem d10_27 : decode prog_42_method_4_code 27 = .ok (.getfield 16, 3) := by decide +kernel
theorem d10_30 : decode prog_42_method_4_code 30 = .ok (.invokespecial 1, 3) := by decide +kernel
theorem d10_33 : decode prog_42_method_4_code 33 = .ok (.areturn, 1) := by decide +kernel
theorem ef_rm10 (m : MethodId) (a0 : Addr) : entryFrame m #[(.ref a0)] 1 = mkF m 0 #[.val (.ref a0)] [] := by first | (simp [entryFrame, mkF, argsToLocals, Value.category]; done) | rfl
def Q10 (Z : State) (a0 : Addr) (aJ : Addr) (kJ : ClassId) (qj : Int64) (w_remainingRows_a0 : Int32) (h0 : Heap) (n0 : Nat) (v : Option Value) (h : Heap) (L : List Loc) : Prop := ∃ r0 : Addr, ∃ r1 : Addr, ∃ rk0 : ClassId, v = some (.ref r0) ∧ Fr n0 L ∧ h0.size ≤ r0 ∧ r0 < r1 ∧ Keep h0 h [] ∧ Exa Z h r0 "com/example/headlattice/headlattice/learn/Tally" ∧ Fld Z h r0 "com/example/headlattice/headlattice/learn/Tally" "rightRows" "[J" (.ref r1) ∧ Fld Z h r0 "com/example/headlattice/headlattice/learn/Tally" "remainingRows" "I" (.int w_remainingRows_a0) ∧ Fld Z h r0 "com/example/headlattice/headlattice/learn/Tally" "truePositives" "J" (.long (0 : Int64)) ∧ Fld Z h r0 "com/example/headlattice/headlattice/learn/Tally" "falsePositives" "J" (.long (0 : Int64)) ∧ Fld Z h r0 "com/example/headlattice/headlattice/learn/Tally" "trueNegatives" "J" (.long (0 : Int64)) ∧ Fld Z h r0 "com/example/headlattice/headlattice/learn/Tally" "falseNegatives" "J" (.long (0 : Int64)) ∧ Exa Z h r1 "[J" ∧ Arv Z h r1 rk0 .long (1 : Int32) [(.long (0 : Int64))] (.long (0 : Int64))
set_option maxRecDepth 65536 in
set_option maxHeartbeats 40000000 in
theorem rm10 (l : Launch) (Z : State) (az : Array Value) (hw : ∀ d ∈ tables_1, d.before az Z = true) (ws : List Jvm.Cond) (a0 : Addr) (aJ : Addr) (kJ : ClassId) (qj : Int64) (w_remainingRows_a0 : Int32) (h0 : Heap) (n0 : Nat) (Z0 : n0 ≤ h0.size) (F_rightRows_a0 : Fld Z h0 a0 "com/example/headlattice/headlattice/learn/Tally" "rightRows" "[J" (.ref aJ)) (V_aJ : Arv Z h0 aJ kJ .long (1 : Int32) [(.long qj)] (.long (0 : Int64))) (F_remainingRows_a0 : Fld Z h0 a0 "com/example/headlattice/headlattice/learn/Tally" "remainingRows" "I" (.int w_remainingRows_a0)) :
    MetFree l (⟨"com/example/headlattice/headlattice/learn/Tally", "blankLike", "(Lcom/example/headlattice/headlattice/learn/Tally;)Lcom/example/headlattice/headlattice/learn/Tally;"⟩ : MethodName) (head1 (Jvm.Cond.code (⟨"com/example/headlattice/headlattice/learn/Tally", "blankLike", "(Lcom/example/headlattice/headlattice/learn/Tally;)Lcom/example/headlattice/headlattice/learn/Tally;"⟩ : MethodName) prog_42_method_4_code 1 (some (.object "com/example/headlattice/headlattice/learn/Tally")) :: ws) ({ frames := 2, cells := 2, slots := 7, locals := 27 } : Room)) (fun a U => a = #[(.ref a0)] ∧ Z.Warmed39 U.vm ∧ U.heap = h0) (fun _ _ _ _ _ => True) (fun _ U o U' => ∃ v L, o = .returned v ∧ Q10 Z a0 aJ kJ qj w_remainingRows_a0 h0 n0 v U'.heap L ∧ FrameEnd U o U' L ({ frames := 2, cells := 2, slots := 7, locals := 27 } : Room).cells ({ frames := 2, cells := 2, slots := 7, locals := 27 } : Room).slots) := by
  refine MetFree.of_bodySF (plainFor_of_name pn_com_example_headlattice_headlattice_learn_Tally) hisR ?_
  intro p e s m args below meth c s₁ Bd hml0 hP hK
  obtain ⟨rfl, hZ, hh⟩ := hP
  have hx := Bd.exec
  have hby := Bd.bytes
  have hml : c.maxLocals = 1 := hml0
  have hown : s.vm.findClass "com/example/headlattice/headlattice/learn/Tally" = some m.cls := findClass_of_methodNamed Bd.named
  have hnm := (name_of_methodNamed Bd.named Bd.method).1
  have X0 : Stand p l e ({ frames := 2, cells := 2, slots := 7, locals := 27 } : Room) s m #[(.ref a0)] below meth c s₁ [] 0 0 := Stand.of_body Bd
  have e0 : s₁.heap = h0 := by rw [← hh, Bd.state]; rfl
  have N0 := Fr.nil n0
  have pre0 : ∀ t, Steps p.tables e below (s₁.setTop (mkF m 0 #[.val (.ref a0)] [])) t → Steps p.tables e below (s₁.setTop (entryFrame m #[(.ref a0)] 1)) t := fun t k => castTop (ef_rm10 m a0) k
  obtain ⟨T1, X1, e1, st1⟩ := getF X0 hx hZ hown (host := "") (Or.inl (hw _ (List.mem_of_getElem? (i := 67) rfl))) Via.refl e0 F_rightRows_a0 (g := (mkF m 1 #[.val (.ref a0)] [(.ref a0)])) rfl rfl (hb hby d10_1)
  obtain ⟨T2, h2, X2, e2, E2, A2, D2, -, st2⟩ := newO X1 hx hZ hown (hw _ (List.mem_of_getElem? (i := 51) rfl)) (hw _ (List.mem_of_getElem? (i := 52) rfl)) (hw _ (List.mem_of_getElem? (i := 43) rfl)) e1 (g := (mkF m 15 #[.val (.ref a0)] [])) rfl (hb hby d10_15) (by decide) (by decide)
  obtain ⟨b2, g2⟩ : ∃ z, z = h0.size := ⟨_, rfl⟩
  rw [← g2] at A2 D2 st2
  have g_b2 : n0 ≤ b2 := Nat.le_trans Z0 (Nat.le_of_eq g2.symm)
  have sz_b2 : h0.size ≤ b2 := Nat.le_trans (Nat.le_refl _) (Nat.le_of_eq g2.symm)
  have Z2 : n0 ≤ h2.size := Nat.le_trans Z0 E2.1
  have K2 : Keep h0 h2 [] := (Keep.refl h0 []).ext E2
  have E_b2 := A2
  have F_rightRows_b2 : Fld Z h2 b2 "com/example/headlattice/headlattice/learn/Tally" "rightRows" "[J" .null := D2 (Or.inr (hw _ (List.mem_of_getElem? (i := 68) rfl))) (ty := (.array .long)) (by decide)
  have F_remainingRows_b2 : Fld Z h2 b2 "com/example/headlattice/headlattice/learn/Tally" "remainingRows" "I" (.int (0 : Int32)) := D2 (Or.inl (hw _ (List.mem_of_getElem? (i := 70) rfl))) (ty := .int) (by decide)
  have F_truePositives_b2 : Fld Z h2 b2 "com/example/headlattice/headlattice/learn/Tally" "truePositives" "J" (.long (0 : Int64)) := D2 (Or.inl (hw _ (List.mem_of_getElem? (i := 79) rfl))) (ty := .long) (by decide)
  have F_falsePositives_b2 : Fld Z h2 b2 "com/example/headlattice/headlattice/learn/Tally" "falsePositives" "J" (.long (0 : Int64)) := D2 (Or.inl (hw _ (List.mem_of_getElem? (i := 81) rfl))) (ty := .long) (by decide)
  have F_trueNegatives_b2 : Fld Z h2 b2 "com/example/headlattice/headlattice/learn/Tally" "trueNegatives" "J" (.long (0 : Int64)) := D2 (Or.inl (hw _ (List.mem_of_getElem? (i := 83) rfl))) (ty := .long) (by decide)
  have F_falseNegatives_b2 : Fld Z h2 b2 "com/example/headlattice/headlattice/learn/Tally" "falseNegatives" "J" (.long (0 : Int64)) := D2 (Or.inl (hw _ (List.mem_of_getElem? (i := 85) rfl))) (ty := .long) (by decide)
  have F_a0_rightRows_u3 : Fld Z h2 a0 "com/example/headlattice/headlattice/learn/Tally" "rightRows" "[J" (.ref aJ) := (F_rightRows_a0.ext E2)
  obtain ⟨T4, X4, e4, st4⟩ := getF X2 hx hZ hown (host := "") (Or.inl (hw _ (List.mem_of_getElem? (i := 67) rfl))) Via.refl e2 F_a0_rightRows_u3 (g := (mkF m 20 #[.val (.ref a0)] [(.ref a0), (.ref b2), (.ref b2)])) rfl rfl (hb hby d10_20)
  have V_aJ_u5 : Arv Z h2 aJ kJ .long (1 : Int32) [(.long qj)] (.long (0 : Int64)) := (V_aJ.ext E2)
  obtain ⟨cl6, Ar6, qk6, Sz6, Ng6, Hs6, Gf6⟩ := id V_aJ_u5
  obtain ⟨T7, h7, k7, X7, e7, E7, A7, x7, st7⟩ := newPE X4 hx hZ (hw _ (List.mem_of_getElem? (i := 50) rfl)) e4 (g := (mkF m 24 #[.val (.ref a0)] [(.int (1 : Int32)), (.ref b2), (.ref b2)])) rfl (hb hby d10_24) rfl (by decide) (cap := 1) (by decide) (by decide) (by decide) (by decide) (ad := "[J") (by decide)
  obtain ⟨b7, g7⟩ : ∃ z, z = h2.size := ⟨_, rfl⟩
  rw [← g7] at A7 x7 st7
  have g_b7 : n0 ≤ b7 := Nat.le_trans Z2 (Nat.le_of_eq g7.symm)
  have sz_b7 : h0.size ≤ b7 := Nat.le_trans K2.1 (Nat.le_of_eq g7.symm)
  have Z7 : n0 ≤ h7.size := Nat.le_trans Z2 E7.1
  have K7 : Keep h0 h7 [] := K2.ext E7
  have E_b7 := x7
  have V_b7 : Arv Z h7 b7 k7 .long (1 : Int32) [(.long (0 : Int64))] (.long (0 : Int64)) := (Arv.new A7 (by decide)).pad (pad_rep [] (.long (0 : Int64)) 1)
  have F_a0_remainingRows_u8 : Fld Z h7 a0 "com/example/headlattice/headlattice/learn/Tally" "remainingRows" "I" (.int w_remainingRows_a0) := ((F_remainingRows_a0.ext E2).ext E7)
  obtain ⟨T9, X9, e9, st9⟩ := getF X7 hx hZ hown (host := "") (Or.inl (hw _ (List.mem_of_getElem? (i := 69) rfl))) Via.refl e7 F_a0_remainingRows_u8 (g := (mkF m 27 #[.val (.ref a0)] [(.ref a0), (.ref b7), (.ref b2), (.ref b2)])) rfl rfl (hb hby d10_27)
  have E_b2_u11 : Exa Z h7 b2 "com/example/headlattice/headlattice/learn/Tally" := (E_b2.ext E7)
  have F_b2_rightRows_u12 : Fld Z h7 b2 "com/example/headlattice/headlattice/learn/Tally" "rightRows" "[J" .null := (F_rightRows_b2.ext E7)
  have F_b2_remainingRows_u13 : Fld Z h7 b2 "com/example/headlattice/headlattice/learn/Tally" "remainingRows" "I" (.int (0 : Int32)) := (F_remainingRows_b2.ext E7)
  have F_b2_truePositives_u14 : Fld Z h7 b2 "com/example/headlattice/headlattice/learn/Tally" "truePositives" "J" (.long (0 : Int64)) := (F_truePositives_b2.ext E7)
  have F_b2_falsePositives_u15 : Fld Z h7 b2 "com/example/headlattice/headlattice/learn/Tally" "falsePositives" "J" (.long (0 : Int64)) := (F_falsePositives_b2.ext E7)
  have F_b2_trueNegatives_u16 : Fld Z h7 b2 "com/example/headlattice/headlattice/learn/Tally" "trueNegatives" "J" (.long (0 : Int64)) := (F_trueNegatives_b2.ext E7)
  have F_b2_falseNegatives_u17 : Fld Z h7 b2 "com/example/headlattice/headlattice/learn/Tally" "falseNegatives" "J" (.long (0 : Int64)) := (F_falseNegatives_b2.ext E7)
  obtain ⟨_, _, ⟨T10, L10, k10', n10'⟩, -, X10, ⟨Lc10, hQ10, l10, y10, z10⟩, st10⟩ := X9.specialBack hx (y := (⟨"com/example/headlattice/headlattice/learn/Tally", "<init>", "([JI)V"⟩ : MethodName)) rfl hown (mvT hZ (hw _ (List.mem_of_getElem? (i := 63) rfl))) (mvT hZ (hw _ (List.mem_of_getElem? (i := 64) rfl))) (mvT hZ (hw _ (List.mem_of_getElem? (i := 65) rfl))) (by decide) (backOf (W := 1) (rm9 l Z az hw [] b2 b7 w_remainingRows_a0 h7 n0 Z7 E_b2_u11 F_b2_rightRows_u12 F_b2_remainingRows_u13 F_b2_truePositives_u14 F_b2_falsePositives_u15 F_b2_trueNegatives_u16 F_b2_falseNegatives_u17 g_b2) hZ (hw _ (List.mem_of_getElem? (i := 65) rfl)) (hw _ (List.mem_of_getElem? (i := 43) rfl)) (by decide) (by decide)) (g := (mkF m 30 #[.val (.ref a0)] [(.int w_remainingRows_a0), (.ref b7), (.ref b2), (.ref b2)])) rfl (by rw [hml]; rfl) (Steps.refl _) (a := b2) (argsL := [(.ref b7), (.int w_remainingRows_a0)]) (rest := [(.ref b2)]) (lenOf pd_0 rfl) rfl (by show 2 * 0 + _ ≤ _; exact Nat.le_of_eq rfl) (hb hby d10_30) (fun _ _ => ⟨rfl, e9, (by decide : 2 + 0 ≤ _), (by decide : 7 + 0 ≤ _)⟩)
  dsimp only [Pt.U, Pt.locs, Pt.cells, Pt.slots] at X10 l10 y10 z10 st10 hQ10
  subst l10 y10 z10
  obtain ⟨rfl, N10q, kq10, pf10_0, pf10_1, pf10_2, pf10_3, pf10_4, pf10_5, pf10_6⟩ := hQ10
  obtain ⟨Lg10, X10', N10⟩ := own_gen X10 (Fr.app N0 N10q)
  have K10 : Keep h0 T10.heap [] := K7.trans kq10 (allS (Or.inr sz_b2) all0)
  have Z10 : n0 ≤ T10.heap.size := Nat.le_trans Z7 kq10.1
  have E_b7_u18 : Exa Z T10.heap b7 "[J" := (E_b7.keep kq10)
  have ne_b2_b7 : b2 ≠ b7 := own_ne (Nat.lt_of_lt_of_le E_b2.lt (Nat.le_of_eq g7.symm))
  have V_b7_u19 : Arv Z T10.heap b7 k7 .long (1 : Int32) [(.long (0 : Int64))] (.long (0 : Int64)) := (V_b7.keep kq10 (ninS (Ne.symm ne_b2_b7) nin0))
  obtain ⟨fs, hr, hrun, hended, hW, hsame⟩ := X10'.leave (v := some (.ref b2)) (fun h => by rw [Bd.returns] at h; cases h)
  refine ⟨_, _, pre0 _ ?_, hrun, hended, _, _, rfl, ?_, ⟨_, rfl⟩, hW, hsame.mono (by decide) (by decide)⟩
  · show Steps p.tables e below (s₁.setTop (mkF m 0 #[.val (.ref a0)] [])) _
    refine XS.aloadN X0.here hx rfl (hb hby d10_0) rfl rfl ?_
    show Steps p.tables e below (s₁.setTop (mkF m 1 #[.val (.ref a0)] [(.ref a0)])) _
    refine st1 _ ?_
    show Steps p.tables e below (T1.setTop (mkF m 4 #[.val (.ref a0)] [(.ref aJ)])) _
    refine XS.ifnonnullYes X1.here hx rfl (pc0 := 4) (pc' := 15) rfl (hb hby d10_4) rfl (by decide) (by decide) ?_
    show Steps p.tables e below (T1.setTop (mkF m 15 #[.val (.ref a0)] [])) _
    refine st2 _ ?_
    show Steps p.tables e below (T2.setTop (mkF m 18 #[.val (.ref a0)] [(.ref b2)])) _
    refine XS.dup X2.here hx rfl (hb hby d10_18) rfl rfl ?_
    show Steps p.tables e below (T2.setTop (mkF m 19 #[.val (.ref a0)] [(.ref b2), (.ref b2)])) _
    refine XS.aloadN X2.here hx rfl (hb hby d10_19) rfl rfl ?_
    show Steps p.tables e below (T2.setTop (mkF m 20 #[.val (.ref a0)] [(.ref a0), (.ref b2), (.ref b2)])) _
    refine st4 _ ?_
    show Steps p.tables e below (T4.setTop (mkF m 23 #[.val (.ref a0)] [(.ref aJ), (.ref b2), (.ref b2)])) _
    refine X4.arraylength hx (by rw [e4]; exact Ar6.1) (State.isArrayOf_alike hZ.alike Ar6.2.1) (g := (mkF m 23 #[.val (.ref a0)] [(.ref aJ), (.ref b2), (.ref b2)])) rfl rfl (hb hby d10_23) _ ?_
    rw [len_of Sz6 Ng6]
    show Steps p.tables e below (T4.setTop (mkF m 24 #[.val (.ref a0)] [(.int (1 : Int32)), (.ref b2), (.ref b2)])) _
    refine st7 _ ?_
    show Steps p.tables e below (T7.setTop (mkF m 26 #[.val (.ref a0)] [(.ref b7), (.ref b2), (.ref b2)])) _
    refine XS.aloadN X7.here hx rfl (hb hby d10_26) rfl rfl ?_
    show Steps p.tables e below (T7.setTop (mkF m 27 #[.val (.ref a0)] [(.ref a0), (.ref b7), (.ref b2), (.ref b2)])) _
    refine st9 _ ?_
    show Steps p.tables e below (T9.setTop (mkF m 30 #[.val (.ref a0)] [(.int w_remainingRows_a0), (.ref b7), (.ref b2), (.ref b2)])) _
    refine st10.trans ?_
    show Steps p.tables e below (T10.setTop (mkF m 33 #[.val (.ref a0)] [(.ref b2)])) _
    jvm_step X10'.here [X10'.here.top, hx, (hb hby d10_33), X10'.method', Bd.returns, Value.isRef, FieldType.isReference]
    first | (intro acts; rw [hr _ acts rfl rfl rfl]) | rw [hr _ _ rfl rfl rfl]
    exact Steps.refl _
  · show Q10 Z a0 aJ kJ qj w_remainingRows_a0 h0 n0 _ T10.heap _
    exact ⟨b2, b7, k7, rfl, N10, sz_b2, (Nat.lt_of_lt_of_le E_b2.lt (Nat.le_of_eq g7.symm)), K10, pf10_0, pf10_1, pf10_2, pf10_3, pf10_4, pf10_5, pf10_6, E_b7_u18, V_b7_u19⟩
theorem d12_0 : decode prog_42_method_8_code 0 = .ok (.aload_n 0, 1) := by decide +kernel
theorem d12_1 : decode prog_42_method_8_code 1 = .ok (.aload_n 1, 1) := by decide +kernel
theorem d12_2 : decode prog_42_method_8_code 2 = .ok (.getfield 106, 3) := by decide +kernel
theorem d12_5 : decode prog_42_method_8_code 5 = .ok (.aload_n 2, 1) := by decide +kernel
theorem d12_6 : decode prog_42_method_8_code 6 = .ok (.getfield 106, 3) := by decide +kernel
theorem d12_9 : decode prog_42_method_8_code 9 = .ok (.ladd, 1) := by decide +kernel
theorem d12_10 : decode prog_42_method_8_code 10 = .ok (.putfield 106, 3) := by decide +kernel
theorem d12_13 : decode prog_42_method_8_code 13 = .ok (.aload_n 0, 1) := by decide +kernel
theorem d12_14 : decode prog_42_method_8_code 14 = .ok (.aload_n 1, 1) := by decide +kernel
theorem d12_15 : decode prog_42_method_8_code 15 = .ok (.getfield 110, 3) := by decide +kernel
theorem d12_18 : decode prog_42_method_8_code 18 = .ok (.aload_n 2, 1) := by decide +kernel
theorem d12_19 : decode prog_42_method_8_code 19 = .ok (.getfield 110, 3) := by decide +kernel
theorem d12_22 : decode prog_42_method_8_code 22 = .ok (.ladd, 1) := by decide +kernel
theorem d12_23 : decode prog_42_method_8_code 23 = .ok (.putfield 110, 3) := by decide +kernel
theorem d12_26 : decode prog_42_method_8_code 26 = .ok (.aload_n 0, 1) := by decide +kernel
theorem d12_27 : decode prog_42_method_8_code 27 = .ok (.aload_n 1, 1) := by decide +kernel
theorem d12_28 : decode prog_42_method_8_code 28 = .ok (.getfield 119, 3) := by decide +kernel
theorem d12_31 : decode prog_42_method_8_code 31 = .ok (.aload_n 2, 1) := by decide +kernel
theorem d12_32 : decode prog_42_method_8_code 32 = .ok (.getfield 119, 3) := by decide +kernel
theorem d12_35 : decode prog_42_method_8_code 35 = .ok (.ladd, 1) := by decide +kernel
theorem d12_36 : decode prog_42_method_8_code 36 = .ok (.putfield 119, 3) := by decide +kernel
theorem d12_39 : decode prog_42_method_8_code 39 = .ok (.aload_n 0, 1) := by decide +kernel
theorem d12_40 : decode prog_42_method_8_code 40 = .ok (.aload_n 1, 1) := by decide +kernel
theorem d12_41 : decode prog_42_method_8_code 41 = .ok (.getfield 116, 3) := by decide +kernel
theorem d12_44 : decode prog_42_method_8_code 44 = .ok (.aload_n 2, 1) := by decide +kernel
theorem d12_45 : decode prog_42_method_8_code 45 = .ok (.getfield 116, 3) := by decide +kernel
theorem d12_48 : decode prog_42_method_8_code 48 = .ok (.ladd, 1) := by decide +kernel
theorem d12_49 : decode prog_42_method_8_code 49 = .ok (.putfield 116, 3) := by decide +kernel
theorem d12_52 : decode prog_42_method_8_code 52 = .ok (.aload_n 0, 1) := by decide +kernel
theorem d12_53 : decode prog_42_method_8_code 53 = .ok (.getfield 12, 3) := by decide +kernel
theorem d12_56 : decode prog_42_method_8_code 56 = .ok (.ifnull 39, 3) := by decide +kernel
theorem d12_59 : decode prog_42_method_8_code 59 = .ok (.iconst 0, 1) := by decide +kernel
theorem d12_60 : decode prog_42_method_8_code 60 = .ok (.istore_n 3, 1) := by decide +kernel
theorem d12_61 : decode prog_42_method_8_code 61 = .ok (.iload_n 3, 1) := by decide +kernel
theorem d12_62 : decode prog_42_method_8_code 62 = .ok (.aload_n 0, 1) := by decide +kernel
theorem d12_63 : decode prog_42_method_8_code 63 = .ok (.getfield 12, 3) := by decide +kernel
theorem d12_66 : decode prog_42_method_8_code 66 = .ok (.arraylength, 1) := by decide +kernel
theorem d12_67 : decode prog_42_method_8_code 67 = .ok (.if_icmp .ge 28, 3) := by decide +kernel
theorem d12_70 : decode prog_42_method_8_code 70 = .ok (.aload_n 0, 1) := by decide +kernel
theorem d12_71 : decode prog_42_method_8_code 71 = .ok (.getfield 12, 3) := by decide +kernel
theorem d12_74 : decode prog_42_method_8_code 74 = .ok (.iload_n 3, 1) := by decide +kernel
theorem d12_75 : decode prog_42_method_8_code 75 = .ok (.aload_n 1, 1) := by decide +kernel
theorem d12_76 : decode prog_42_method_8_code 76 = .ok (.getfield 12, 3) := by decide +kernel
theorem d12_79 : decode prog_42_method_8_code 79 = .ok (.iload_n 3, 1) := by decide +kernel
theorem d12_80 : decode prog_42_method_8_code 80 = .ok (.laload, 1) := by decide +kernel
theorem d12_81 : decode prog_42_method_8_code 81 = .ok (.aload_n 2, 1) := by decide +kernel
theorem d12_82 : decode prog_42_method_8_code 82 = .ok (.getfield 12, 3) := by decide +kernel
theorem d12_85 : decode prog_42_method_8_code 85 = .ok (.iload_n 3, 1) := by decide +kernel
theorem d12_86 : decode prog_42_method_8_code 86 = .ok (.laload, 1) := by decide +kernel
theorem d12_87 : decode prog_42_method_8_code 87 = .ok (.land, 1) := by decide +kernel
theorem d12_88 : decode prog_42_method_8_code 88 = .ok (.lastore, 1) := by decide +kernel
theorem d12_89 : decode prog_42_method_8_code 89 = .ok (.iinc 3 1, 3) := by decide +kernel
theorem d12_92 : decode prog_42_method_8_code 92 = .ok (.goto (-31), 3) := by decide +kernel
theorem d12_95 : decode prog_42_method_8_code 95 = .ok (.return_, 1) := by decide +kernel
theorem ef_rm12a (m : MethodId) (a0 : Addr) (a1 : Addr) (a2 : Addr) : entryFrame m #[(.ref a0), (.ref a1), (.ref a2)] 4 = mkF m 0 #[.val (.ref a0), .val (.ref a1), .val (.ref a2), .unset] [] := by first | (simp [entryFrame, mkF, argsToLocals, Value.category]; done) | rfl
def Q12a (Z : State) (a0 : Addr) (a1 : Addr) (a2 : Addr) (r0 : Addr) (kr0 : ClassId) (y0 : Int64) (r1 : Addr) (kr1 : ClassId) (y1 : Int64) (r2 : Addr) (kr2 : ClassId) (y2 : Int64) (w_truePositives_a1 : Int64) (w_truePositives_a2 : Int64) (u_truePositives_a0 : Value) (w_falsePositives_a1 : Int64) (w_falsePositives_a2 : Int64) (u_falsePositives_a0 : Value) (w_trueNegatives_a1 : Int64) (w_trueNegatives_a2 : Int64) (u_trueNegatives_a0 : Value) (w_falseNegatives_a1 : Int64) (w_falseNegatives_a2 : Int64) (u_falseNegatives_a0 : Value) (h0 : Heap) (n0 : Nat) (v : Option Value) (h : Heap) (L : List Loc) : Prop := v = none ∧ Fr n0 L ∧ Keep h0 h [a0, r0] ∧ Exa Z h a0 "com/example/headlattice/headlattice/learn/Tally" ∧ Fld Z h a0 "com/example/headlattice/headlattice/learn/Tally" "rightRows" "[J" (.ref r0) ∧ Fld Z h a0 "com/example/headlattice/headlattice/learn/Tally" "truePositives" "J" (.long (w_truePositives_a1 + w_truePositives_a2)) ∧ Fld Z h a0 "com/example/headlattice/headlattice/learn/Tally" "falsePositives" "J" (.long (w_falsePositives_a1 + w_falsePositives_a2)) ∧ Fld Z h a0 "com/example/headlattice/headlattice/learn/Tally" "trueNegatives" "J" (.long (w_trueNegatives_a1 + w_trueNegatives_a2)) ∧ Fld Z h a0 "com/example/headlattice/headlattice/learn/Tally" "falseNegatives" "J" (.long (w_falseNegatives_a1 + w_falseNegatives_a2)) ∧ Arv Z h r0 kr0 .long (1 : Int32) [(.long (y1 &&& y2))] (.long (0 : Int64))
set_option maxRecDepth 65536 in
set_option maxHeartbeats 40000000 in
theorem rm12a (l : Launch) (Z : State) (az : Array Value) (hw : ∀ d ∈ tables_1, d.before az Z = true) (ws : List Jvm.Cond) (a0 : Addr) (a1 : Addr) (a2 : Addr) (r0 : Addr) (kr0 : ClassId) (y0 : Int64) (r1 : Addr) (kr1 : ClassId) (y1 : Int64) (r2 : Addr) (kr2 : ClassId) (y2 : Int64) (w_truePositives_a1 : Int64) (w_truePositives_a2 : Int64) (u_truePositives_a0 : Value) (w_falsePositives_a1 : Int64) (w_falsePositives_a2 : Int64) (u_falsePositives_a0 : Value) (w_trueNegatives_a1 : Int64) (w_trueNegatives_a2 : Int64) (u_trueNegatives_a0 : Value) (w_falseNegatives_a1 : Int64) (w_falseNegatives_a2 : Int64) (u_falseNegatives_a0 : Value) (h0 : Heap) (n0 : Nat) (Z0 : n0 ≤ h0.size) (E_a0 : Exa Z h0 a0 "com/example/headlattice/headlattice/learn/Tally") (F_rightRows_a0 : Fld Z h0 a0 "com/example/headlattice/headlattice/learn/Tally" "rightRows" "[J" (.ref r0)) (V_r0 : Arv Z h0 r0 kr0 .long (1 : Int32) [(.long y0)] (.long (0 : Int64))) (F_rightRows_a1 : Fld Z h0 a1 "com/example/headlattice/headlattice/learn/Tally" "rightRows" "[J" (.ref r1)) (V_r1 : Arv Z h0 r1 kr1 .long (1 : Int32) [(.long y1)] (.long (0 : Int64))) (F_rightRows_a2 : Fld Z h0 a2 "com/example/headlattice/headlattice/learn/Tally" "rightRows" "[J" (.ref r2)) (V_r2 : Arv Z h0 r2 kr2 .long (1 : Int32) [(.long y2)] (.long (0 : Int64))) (F_truePositives_a1 : Fld Z h0 a1 "com/example/headlattice/headlattice/learn/Tally" "truePositives" "J" (.long w_truePositives_a1)) (F_truePositives_a2 : Fld Z h0 a2 "com/example/headlattice/headlattice/learn/Tally" "truePositives" "J" (.long w_truePositives_a2)) (F_truePositives_a0 : Fld Z h0 a0 "com/example/headlattice/headlattice/learn/Tally" "truePositives" "J" u_truePositives_a0) (g_a0 : n0 ≤ a0) (F_falsePositives_a1 : Fld Z h0 a1 "com/example/headlattice/headlattice/learn/Tally" "falsePositives" "J" (.long w_falsePositives_a1)) (hne_a1_a0 : a1 ≠ a0) (F_falsePositives_a2 : Fld Z h0 a2 "com/example/headlattice/headlattice/learn/Tally" "falsePositives" "J" (.long w_falsePositives_a2)) (hne_a2_a0 : a2 ≠ a0) (F_falsePositives_a0 : Fld Z h0 a0 "com/example/headlattice/headlattice/learn/Tally" "falsePositives" "J" u_falsePositives_a0) (F_trueNegatives_a1 : Fld Z h0 a1 "com/example/headlattice/headlattice/learn/Tally" "trueNegatives" "J" (.long w_trueNegatives_a1)) (F_trueNegatives_a2 : Fld Z h0 a2 "com/example/headlattice/headlattice/learn/Tally" "trueNegatives" "J" (.long w_trueNegatives_a2)) (F_trueNegatives_a0 : Fld Z h0 a0 "com/example/headlattice/headlattice/learn/Tally" "trueNegatives" "J" u_trueNegatives_a0) (F_falseNegatives_a1 : Fld Z h0 a1 "com/example/headlattice/headlattice/learn/Tally" "falseNegatives" "J" (.long w_falseNegatives_a1)) (F_falseNegatives_a2 : Fld Z h0 a2 "com/example/headlattice/headlattice/learn/Tally" "falseNegatives" "J" (.long w_falseNegatives_a2)) (F_falseNegatives_a0 : Fld Z h0 a0 "com/example/headlattice/headlattice/learn/Tally" "falseNegatives" "J" u_falseNegatives_a0) (hne_r0_a0 : r0 ≠ a0) (hne_r1_a0 : r1 ≠ a0) (hne_r2_a0 : r2 ≠ a0) (g_r0 : n0 ≤ r0) :
    MetFree l (⟨"com/example/headlattice/headlattice/learn/Tally", "setSum", "(Lcom/example/headlattice/headlattice/learn/Tally;Lcom/example/headlattice/headlattice/learn/Tally;)V"⟩ : MethodName) (head1 (Jvm.Cond.code (⟨"com/example/headlattice/headlattice/learn/Tally", "setSum", "(Lcom/example/headlattice/headlattice/learn/Tally;Lcom/example/headlattice/headlattice/learn/Tally;)V"⟩ : MethodName) prog_42_method_8_code 4 none :: ws) ({ frames := 0, cells := 0, slots := 0, locals := 0 } : Room)) (fun a U => a = #[(.ref a0), (.ref a1), (.ref a2)] ∧ Z.Warmed39 U.vm ∧ U.heap = h0) (fun _ _ _ _ _ => True) (fun _ U o U' => ∃ v L, o = .returned v ∧ Q12a Z a0 a1 a2 r0 kr0 y0 r1 kr1 y1 r2 kr2 y2 w_truePositives_a1 w_truePositives_a2 u_truePositives_a0 w_falsePositives_a1 w_falsePositives_a2 u_falsePositives_a0 w_trueNegatives_a1 w_trueNegatives_a2 u_trueNegatives_a0 w_falseNegatives_a1 w_falseNegatives_a2 u_falseNegatives_a0 h0 n0 v U'.heap L ∧ FrameEnd U o U' L ({ frames := 0, cells := 0, slots := 0, locals := 0 } : Room).cells ({ frames := 0, cells := 0, slots := 0, locals := 0 } : Room).slots) := by
  refine MetFree.of_bodySF (plainFor_of_name pn_com_example_headlattice_headlattice_learn_Tally) hisR ?_
  intro p e s m args below meth c s₁ Bd hml0 hP hK
  obtain ⟨rfl, hZ, hh⟩ := hP
  have hx := Bd.exec
  have hby := Bd.bytes
  have hml : c.maxLocals = 4 := hml0
  have hown : s.vm.findClass "com/example/headlattice/headlattice/learn/Tally" = some m.cls := findClass_of_methodNamed Bd.named
  have hnm := (name_of_methodNamed Bd.named Bd.method).1
  have X0 : Stand p l e ({ frames := 0, cells := 0, slots := 0, locals := 0 } : Room) s m #[(.ref a0), (.ref a1), (.ref a2)] below meth c s₁ [] 0 0 := Stand.of_body Bd
  have e0 : s₁.heap = h0 := by rw [← hh, Bd.state]; rfl
  have N0 := Fr.nil n0
  have pre0 : ∀ t, Steps p.tables e below (s₁.setTop (mkF m 0 #[.val (.ref a0), .val (.ref a1), .val (.ref a2), .unset] [])) t → Steps p.tables e below (s₁.setTop (entryFrame m #[(.ref a0), (.ref a1), (.ref a2)] 4)) t := fun t k => castTop (ef_rm12a m a0 a1 a2) k
  obtain ⟨T1, X1, e1, st1⟩ := getF X0 hx hZ hown (host := "") (Or.inl (hw _ (List.mem_of_getElem? (i := 93) rfl))) Via.refl e0 F_truePositives_a1 (g := (mkF m 2 #[.val (.ref a0), .val (.ref a1), .val (.ref a2), .unset] [(.ref a1), (.ref a0)])) rfl rfl (hb hby d12_2)
  obtain ⟨T2, X2, e2, st2⟩ := getF X1 hx hZ hown (host := "") (Or.inl (hw _ (List.mem_of_getElem? (i := 93) rfl))) Via.refl e1 F_truePositives_a2 (g := (mkF m 6 #[.val (.ref a0), .val (.ref a1), .val (.ref a2), .unset] [(.ref a2), (.long w_truePositives_a1), (.ref a0)])) rfl rfl (hb hby d12_6)
  obtain ⟨T3, h3, X3, e3, W3, st3⟩ := putF X2 hx hZ hown (host := "") (Or.inl (hw _ (List.mem_of_getElem? (i := 93) rfl))) Via.refl e2 F_truePositives_a0 E_a0 (Or.inl (hw _ (List.mem_of_getElem? (i := 79) rfl))) (hw _ (List.mem_of_getElem? (i := 52) rfl)) (ty := .long) (by decide) rfl rfl (g := (mkF m 10 #[.val (.ref a0), .val (.ref a1), .val (.ref a2), .unset] [(.long (w_truePositives_a1 + w_truePositives_a2)), (.ref a0)])) rfl rfl (hb hby d12_10)
  have K3 : Keep h0 h3 [a0, r0] := (Keep.refl h0 [a0, r0]).wr W3 (Or.inl (List.mem_of_getElem? (i := 0) rfl))
  have Fw3 := F_truePositives_a0.same W3
  have Z3 : n0 ≤ h3.size := Nat.le_trans Z0 (Keep.of_wr W3).1
  obtain ⟨Lg3, X3', N3⟩ := own_gen X3 (Fr.snoc X3 N0 g_a0)
  have F_a1_falsePositives_u4 : Fld Z h3 a1 "com/example/headlattice/headlattice/learn/Tally" "falsePositives" "J" (.long w_falsePositives_a1) := (F_falsePositives_a1.other W3 (Or.inl hne_a1_a0))
  obtain ⟨T5, X5, e5, st5⟩ := getF X3' hx hZ hown (host := "") (Or.inl (hw _ (List.mem_of_getElem? (i := 94) rfl))) Via.refl e3 F_a1_falsePositives_u4 (g := (mkF m 15 #[.val (.ref a0), .val (.ref a1), .val (.ref a2), .unset] [(.ref a1), (.ref a0)])) rfl rfl (hb hby d12_15)
  have F_a2_falsePositives_u6 : Fld Z h3 a2 "com/example/headlattice/headlattice/learn/Tally" "falsePositives" "J" (.long w_falsePositives_a2) := (F_falsePositives_a2.other W3 (Or.inl hne_a2_a0))
  obtain ⟨T7, X7, e7, st7⟩ := getF X5 hx hZ hown (host := "") (Or.inl (hw _ (List.mem_of_getElem? (i := 94) rfl))) Via.refl e5 F_a2_falsePositives_u6 (g := (mkF m 19 #[.val (.ref a0), .val (.ref a1), .val (.ref a2), .unset] [(.ref a2), (.long w_falsePositives_a1), (.ref a0)])) rfl rfl (hb hby d12_19)
  have sl8 := slot_ne (Z := Z) (Or.inl (hw _ (List.mem_of_getElem? (i := 81) rfl))) (Or.inl (hw _ (List.mem_of_getElem? (i := 79) rfl))) (by decide) (t := .long) (t' := .long) (by decide) (by decide)
  have E_a0_u9 : Exa Z h3 a0 "com/example/headlattice/headlattice/learn/Tally" := (E_a0.wr W3)
  obtain ⟨T10, h10, X10, e10, W10, st10⟩ := putF X7 hx hZ hown (host := "") (Or.inl (hw _ (List.mem_of_getElem? (i := 94) rfl))) Via.refl e7 (F_falsePositives_a0.other W3 (Or.inr sl8)) E_a0_u9 (Or.inl (hw _ (List.mem_of_getElem? (i := 81) rfl))) (hw _ (List.mem_of_getElem? (i := 52) rfl)) (ty := .long) (by decide) rfl rfl (g := (mkF m 23 #[.val (.ref a0), .val (.ref a1), .val (.ref a2), .unset] [(.long (w_falsePositives_a1 + w_falsePositives_a2)), (.ref a0)])) rfl rfl (hb hby d12_23)
  have K10 : Keep h0 h10 [a0, r0] := K3.wr W10 (Or.inl (List.mem_of_getElem? (i := 0) rfl))
  have Fw10 := (F_falsePositives_a0.other W3 (Or.inr sl8)).same W10
  have Z10 : n0 ≤ h10.size := Nat.le_trans Z3 (Keep.of_wr W10).1
  obtain ⟨Lg10, X10', N10⟩ := own_gen X10 (Fr.snoc X10 N3 g_a0)
  have F_a1_trueNegatives_u11 : Fld Z h10 a1 "com/example/headlattice/headlattice/learn/Tally" "trueNegatives" "J" (.long w_trueNegatives_a1) := ((F_trueNegatives_a1.other W3 (Or.inl hne_a1_a0)).other W10 (Or.inl hne_a1_a0))
  obtain ⟨T12, X12, e12, st12⟩ := getF X10' hx hZ hown (host := "") (Or.inl (hw _ (List.mem_of_getElem? (i := 95) rfl))) Via.refl e10 F_a1_trueNegatives_u11 (g := (mkF m 28 #[.val (.ref a0), .val (.ref a1), .val (.ref a2), .unset] [(.ref a1), (.ref a0)])) rfl rfl (hb hby d12_28)
  have F_a2_trueNegatives_u13 : Fld Z h10 a2 "com/example/headlattice/headlattice/learn/Tally" "trueNegatives" "J" (.long w_trueNegatives_a2) := ((F_trueNegatives_a2.other W3 (Or.inl hne_a2_a0)).other W10 (Or.inl hne_a2_a0))
  obtain ⟨T14, X14, e14, st14⟩ := getF X12 hx hZ hown (host := "") (Or.inl (hw _ (List.mem_of_getElem? (i := 95) rfl))) Via.refl e12 F_a2_trueNegatives_u13 (g := (mkF m 32 #[.val (.ref a0), .val (.ref a1), .val (.ref a2), .unset] [(.ref a2), (.long w_trueNegatives_a1), (.ref a0)])) rfl rfl (hb hby d12_32)
  have sl15 := slot_ne (Z := Z) (Or.inl (hw _ (List.mem_of_getElem? (i := 83) rfl))) (Or.inl (hw _ (List.mem_of_getElem? (i := 79) rfl))) (by decide) (t := .long) (t' := .long) (by decide) (by decide)
  have sl16 := slot_ne (Z := Z) (Or.inl (hw _ (List.mem_of_getElem? (i := 83) rfl))) (Or.inl (hw _ (List.mem_of_getElem? (i := 81) rfl))) (by decide) (t := .long) (t' := .long) (by decide) (by decide)
  have E_a0_u17 : Exa Z h10 a0 "com/example/headlattice/headlattice/learn/Tally" := (E_a0_u9.wr W10)
  obtain ⟨T18, h18, X18, e18, W18, st18⟩ := putF X14 hx hZ hown (host := "") (Or.inl (hw _ (List.mem_of_getElem? (i := 95) rfl))) Via.refl e14 ((F_trueNegatives_a0.other W3 (Or.inr sl15)).other W10 (Or.inr sl16)) E_a0_u17 (Or.inl (hw _ (List.mem_of_getElem? (i := 83) rfl))) (hw _ (List.mem_of_getElem? (i := 52) rfl)) (ty := .long) (by decide) rfl rfl (g := (mkF m 36 #[.val (.ref a0), .val (.ref a1), .val (.ref a2), .unset] [(.long (w_trueNegatives_a1 + w_trueNegatives_a2)), (.ref a0)])) rfl rfl (hb hby d12_36)
  have K18 : Keep h0 h18 [a0, r0] := K10.wr W18 (Or.inl (List.mem_of_getElem? (i := 0) rfl))
  have Fw18 := ((F_trueNegatives_a0.other W3 (Or.inr sl15)).other W10 (Or.inr sl16)).same W18
  have Z18 : n0 ≤ h18.size := Nat.le_trans Z10 (Keep.of_wr W18).1
  obtain ⟨Lg18, X18', N18⟩ := own_gen X18 (Fr.snoc X18 N10 g_a0)
  have F_a1_falseNegatives_u19 : Fld Z h18 a1 "com/example/headlattice/headlattice/learn/Tally" "falseNegatives" "J" (.long w_falseNegatives_a1) := (((F_falseNegatives_a1.other W3 (Or.inl hne_a1_a0)).other W10 (Or.inl hne_a1_a0)).other W18 (Or.inl hne_a1_a0))
  obtain ⟨T20, X20, e20, st20⟩ := getF X18' hx hZ hown (host := "") (Or.inl (hw _ (List.mem_of_getElem? (i := 96) rfl))) Via.refl e18 F_a1_falseNegatives_u19 (g := (mkF m 41 #[.val (.ref a0), .val (.ref a1), .val (.ref a2), .unset] [(.ref a1), (.ref a0)])) rfl rfl (hb hby d12_41)
  have F_a2_falseNegatives_u21 : Fld Z h18 a2 "com/example/headlattice/headlattice/learn/Tally" "falseNegatives" "J" (.long w_falseNegatives_a2) := (((F_falseNegatives_a2.other W3 (Or.inl hne_a2_a0)).other W10 (Or.inl hne_a2_a0)).other W18 (Or.inl hne_a2_a0))
  obtain ⟨T22, X22, e22, st22⟩ := getF X20 hx hZ hown (host := "") (Or.inl (hw _ (List.mem_of_getElem? (i := 96) rfl))) Via.refl e20 F_a2_falseNegatives_u21 (g := (mkF m 45 #[.val (.ref a0), .val (.ref a1), .val (.ref a2), .unset] [(.ref a2), (.long w_falseNegatives_a1), (.ref a0)])) rfl rfl (hb hby d12_45)
  have sl23 := slot_ne (Z := Z) (Or.inl (hw _ (List.mem_of_getElem? (i := 85) rfl))) (Or.inl (hw _ (List.mem_of_getElem? (i := 79) rfl))) (by decide) (t := .long) (t' := .long) (by decide) (by decide)
  have sl24 := slot_ne (Z := Z) (Or.inl (hw _ (List.mem_of_getElem? (i := 85) rfl))) (Or.inl (hw _ (List.mem_of_getElem? (i := 81) rfl))) (by decide) (t := .long) (t' := .long) (by decide) (by decide)
  have sl25 := slot_ne (Z := Z) (Or.inl (hw _ (List.mem_of_getElem? (i := 85) rfl))) (Or.inl (hw _ (List.mem_of_getElem? (i := 83) rfl))) (by decide) (t := .long) (t' := .long) (by decide) (by decide)
  have E_a0_u26 : Exa Z h18 a0 "com/example/headlattice/headlattice/learn/Tally" := (E_a0_u17.wr W18)
  obtain ⟨T27, h27, X27, e27, W27, st27⟩ := putF X22 hx hZ hown (host := "") (Or.inl (hw _ (List.mem_of_getElem? (i := 96) rfl))) Via.refl e22 (((F_falseNegatives_a0.other W3 (Or.inr sl23)).other W10 (Or.inr sl24)).other W18 (Or.inr sl25)) E_a0_u26 (Or.inl (hw _ (List.mem_of_getElem? (i := 85) rfl))) (hw _ (List.mem_of_getElem? (i := 52) rfl)) (ty := .long) (by decide) rfl rfl (g := (mkF m 49 #[.val (.ref a0), .val (.ref a1), .val (.ref a2), .unset] [(.long (w_falseNegatives_a1 + w_falseNegatives_a2)), (.ref a0)])) rfl rfl (hb hby d12_49)
  have K27 : Keep h0 h27 [a0, r0] := K18.wr W27 (Or.inl (List.mem_of_getElem? (i := 0) rfl))
  have Fw27 := (((F_falseNegatives_a0.other W3 (Or.inr sl23)).other W10 (Or.inr sl24)).other W18 (Or.inr sl25)).same W27
  have Z27 : n0 ≤ h27.size := Nat.le_trans Z18 (Keep.of_wr W27).1
  obtain ⟨Lg27, X27', N27⟩ := own_gen X27 (Fr.snoc X27 N18 g_a0)
  have sl28 := slot_ne (Z := Z) (Or.inr (hw _ (List.mem_of_getElem? (i := 68) rfl))) (Or.inl (hw _ (List.mem_of_getElem? (i := 79) rfl))) (by decide) (t := (.array .long)) (t' := .long) (by decide) (by decide)
  have sl29 := slot_ne (Z := Z) (Or.inr (hw _ (List.mem_of_getElem? (i := 68) rfl))) (Or.inl (hw _ (List.mem_of_getElem? (i := 81) rfl))) (by decide) (t := (.array .long)) (t' := .long) (by decide) (by decide)
  have sl30 := slot_ne (Z := Z) (Or.inr (hw _ (List.mem_of_getElem? (i := 68) rfl))) (Or.inl (hw _ (List.mem_of_getElem? (i := 83) rfl))) (by decide) (t := (.array .long)) (t' := .long) (by decide) (by decide)
  have c31 : Fld Z h18 a0 "com/example/headlattice/headlattice/learn/Tally" "rightRows" "[J" (.ref r0) := (((F_rightRows_a0.other W3 (Or.inr sl28)).other W10 (Or.inr sl29)).other W18 (Or.inr sl30))
  have sl32 := slot_ne (Z := Z) (Or.inr (hw _ (List.mem_of_getElem? (i := 68) rfl))) (Or.inl (hw _ (List.mem_of_getElem? (i := 85) rfl))) (by decide) (t := (.array .long)) (t' := .long) (by decide) (by decide)
  have F_a0_rightRows_u33 : Fld Z h27 a0 "com/example/headlattice/headlattice/learn/Tally" "rightRows" "[J" (.ref r0) := (c31.other W27 (Or.inr sl32))
  obtain ⟨T34, X34, e34, st34⟩ := getF X27' hx hZ hown (host := "") (Or.inl (hw _ (List.mem_of_getElem? (i := 67) rfl))) Via.refl e27 F_a0_rightRows_u33 (g := (mkF m 53 #[.val (.ref a0), .val (.ref a1), .val (.ref a2), .unset] [(.ref a0)])) rfl rfl (hb hby d12_53)
  obtain ⟨T35, X35, e35, st35⟩ := getF X34 hx hZ hown (host := "") (Or.inl (hw _ (List.mem_of_getElem? (i := 67) rfl))) Via.refl e34 F_a0_rightRows_u33 (g := (mkF m 63 #[.val (.ref a0), .val (.ref a1), .val (.ref a2), .val (.int (0 : Int32))] [(.ref a0), (.int (0 : Int32))])) rfl rfl (hb hby d12_63)
  have c36 : Arv Z h18 r0 kr0 .long (1 : Int32) [(.long y0)] (.long (0 : Int64)) := (((V_r0.other W3 hne_r0_a0).other W10 hne_r0_a0).other W18 hne_r0_a0)
  have V_r0_u37 : Arv Z h27 r0 kr0 .long (1 : Int32) [(.long y0)] (.long (0 : Int64)) := (c36.other W27 hne_r0_a0)
  obtain ⟨cl38, Ar38, qk38, Sz38, Ng38, Hs38, Gf38⟩ := id V_r0_u37
  obtain ⟨T39, X39, e39, st39⟩ := getF X35 hx hZ hown (host := "") (Or.inl (hw _ (List.mem_of_getElem? (i := 67) rfl))) Via.refl e35 F_a0_rightRows_u33 (g := (mkF m 71 #[.val (.ref a0), .val (.ref a1), .val (.ref a2), .val (.int (0 : Int32))] [(.ref a0)])) rfl rfl (hb hby d12_71)
  have c40 : Fld Z h18 a1 "com/example/headlattice/headlattice/learn/Tally" "rightRows" "[J" (.ref r1) := (((F_rightRows_a1.other W3 (Or.inl hne_a1_a0)).other W10 (Or.inl hne_a1_a0)).other W18 (Or.inl hne_a1_a0))
  have F_a1_rightRows_u41 : Fld Z h27 a1 "com/example/headlattice/headlattice/learn/Tally" "rightRows" "[J" (.ref r1) := (c40.other W27 (Or.inl hne_a1_a0))
  obtain ⟨T42, X42, e42, st42⟩ := getF X39 hx hZ hown (host := "") (Or.inl (hw _ (List.mem_of_getElem? (i := 67) rfl))) Via.refl e39 F_a1_rightRows_u41 (g := (mkF m 76 #[.val (.ref a0), .val (.ref a1), .val (.ref a2), .val (.int (0 : Int32))] [(.ref a1), (.int (0 : Int32)), (.ref r0)])) rfl rfl (hb hby d12_76)
  have c43 : Arv Z h18 r1 kr1 .long (1 : Int32) [(.long y1)] (.long (0 : Int64)) := (((V_r1.other W3 hne_r1_a0).other W10 hne_r1_a0).other W18 hne_r1_a0)
  have V_r1_u44 : Arv Z h27 r1 kr1 .long (1 : Int32) [(.long y1)] (.long (0 : Int64)) := (c43.other W27 hne_r1_a0)
  obtain ⟨cl45, Ar45, qk45, Sz45, Ng45, Hs45, Gf45⟩ := id V_r1_u44
  have hin46 : ¬ ((0 : Int32) < 0 ∨ cl45.slots.size ≤ ((0 : Int32)).toNatClampNeg) := inb_of Sz45 ⟨by decide, by decide⟩
  have hat47 : cl45.slots[((0 : Int32)).toNatClampNeg]? = some (.long y1) := Hs45.at hin46 rfl
  have c48 : Fld Z h18 a2 "com/example/headlattice/headlattice/learn/Tally" "rightRows" "[J" (.ref r2) := (((F_rightRows_a2.other W3 (Or.inl hne_a2_a0)).other W10 (Or.inl hne_a2_a0)).other W18 (Or.inl hne_a2_a0))
  have F_a2_rightRows_u49 : Fld Z h27 a2 "com/example/headlattice/headlattice/learn/Tally" "rightRows" "[J" (.ref r2) := (c48.other W27 (Or.inl hne_a2_a0))
  obtain ⟨T50, X50, e50, st50⟩ := getF X42 hx hZ hown (host := "") (Or.inl (hw _ (List.mem_of_getElem? (i := 67) rfl))) Via.refl e42 F_a2_rightRows_u49 (g := (mkF m 82 #[.val (.ref a0), .val (.ref a1), .val (.ref a2), .val (.int (0 : Int32))] [(.ref a2), (.long y1), (.int (0 : Int32)), (.ref r0)])) rfl rfl (hb hby d12_82)
  have c51 : Arv Z h18 r2 kr2 .long (1 : Int32) [(.long y2)] (.long (0 : Int64)) := (((V_r2.other W3 hne_r2_a0).other W10 hne_r2_a0).other W18 hne_r2_a0)
  have V_r2_u52 : Arv Z h27 r2 kr2 .long (1 : Int32) [(.long y2)] (.long (0 : Int64)) := (c51.other W27 hne_r2_a0)
  obtain ⟨cl53, Ar53, qk53, Sz53, Ng53, Hs53, Gf53⟩ := id V_r2_u52
  have hin54 : ¬ ((0 : Int32) < 0 ∨ cl53.slots.size ≤ ((0 : Int32)).toNatClampNeg) := inb_of Sz53 ⟨by decide, by decide⟩
  have hat55 : cl53.slots[((0 : Int32)).toNatClampNeg]? = some (.long y2) := Hs53.at hin54 rfl
  have hin56 : ¬ ((0 : Int32) < 0 ∨ cl38.slots.size ≤ ((0 : Int32)).toNatClampNeg) := inb_of Sz38 ⟨by decide, by decide⟩
  obtain ⟨T57, h57, X57, e57, W57, st57⟩ := stJ X50 hx hZ e50 Ar38 (j := (0 : Int32)) hin56 (g := (mkF m 88 #[.val (.ref a0), .val (.ref a1), .val (.ref a2), .val (.int (0 : Int32))] [(.long (y1 &&& y2)), (.int (0 : Int32)), (.ref r0)])) rfl rfl (hb hby d12_88)
  have K57 : Keep h0 h57 [a0, r0] := K27.wr W57 (Or.inl (List.mem_of_getElem? (i := 1) rfl))
  have V_r0_57 : Arv Z h57 r0 kr0 .long (1 : Int32) [(.long (y1 &&& y2))] (.long (0 : Int64)) := Arv.set (v := (.long (y1 &&& y2))) Ar38 qk38 Sz38 Ng38 Hs38 Gf38 rfl W57 0 rfl (Nat.le_of_ble_eq_true rfl)
  have Z57 : n0 ≤ h57.size := Nat.le_trans Z27 (Keep.of_wr W57).1
  obtain ⟨Lg57, X57', N57⟩ := own_gen X57 (Fr.snoc X57 N27 g_r0)
  have F_a0_rightRows_u58 : Fld Z h57 a0 "com/example/headlattice/headlattice/learn/Tally" "rightRows" "[J" (.ref r0) := (F_a0_rightRows_u33.other W57 (Or.inl (Ne.symm hne_r0_a0)))
  obtain ⟨T59, X59, e59, st59⟩ := getF X57' hx hZ hown (host := "") (Or.inl (hw _ (List.mem_of_getElem? (i := 67) rfl))) Via.refl e57 F_a0_rightRows_u58 (g := (mkF m 63 #[.val (.ref a0), .val (.ref a1), .val (.ref a2), .val (.int (1 : Int32))] [(.ref a0), (.int (1 : Int32))])) rfl rfl (hb hby d12_63)
  obtain ⟨cl60, Ar60, qk60, Sz60, Ng60, Hs60, Gf60⟩ := id V_r0_57
  have E_a0_u61 : Exa Z h57 a0 "com/example/headlattice/headlattice/learn/Tally" := ((E_a0_u26.wr W27).wr W57)
  have sl62 := slot_ne (Z := Z) (Or.inl (hw _ (List.mem_of_getElem? (i := 79) rfl))) (Or.inl (hw _ (List.mem_of_getElem? (i := 81) rfl))) (by decide) (t := .long) (t' := .long) (by decide) (by decide)
  have sl63 := slot_ne (Z := Z) (Or.inl (hw _ (List.mem_of_getElem? (i := 79) rfl))) (Or.inl (hw _ (List.mem_of_getElem? (i := 83) rfl))) (by decide) (t := .long) (t' := .long) (by decide) (by decide)
  have sl64 := slot_ne (Z := Z) (Or.inl (hw _ (List.mem_of_getElem? (i := 79) rfl))) (Or.inl (hw _ (List.mem_of_getElem? (i := 85) rfl))) (by decide) (t := .long) (t' := .long) (by decide) (by decide)
  have c65 : Fld Z h27 a0 "com/example/headlattice/headlattice/learn/Tally" "truePositives" "J" (.long (w_truePositives_a1 + w_truePositives_a2)) := (((Fw3.other W10 (Or.inr sl62)).other W18 (Or.inr sl63)).other W27 (Or.inr sl64))
  have F_a0_truePositives_u66 : Fld Z h57 a0 "com/example/headlattice/headlattice/learn/Tally" "truePositives" "J" (.long (w_truePositives_a1 + w_truePositives_a2)) := (c65.other W57 (Or.inl (Ne.symm hne_r0_a0)))
  have sl67 := slot_ne (Z := Z) (Or.inl (hw _ (List.mem_of_getElem? (i := 81) rfl))) (Or.inl (hw _ (List.mem_of_getElem? (i := 83) rfl))) (by decide) (t := .long) (t' := .long) (by decide) (by decide)
  have sl68 := slot_ne (Z := Z) (Or.inl (hw _ (List.mem_of_getElem? (i := 81) rfl))) (Or.inl (hw _ (List.mem_of_getElem? (i := 85) rfl))) (by decide) (t := .long) (t' := .long) (by decide) (by decide)
  have F_a0_falsePositives_u69 : Fld Z h57 a0 "com/example/headlattice/headlattice/learn/Tally" "falsePositives" "J" (.long (w_falsePositives_a1 + w_falsePositives_a2)) := (((Fw10.other W18 (Or.inr sl67)).other W27 (Or.inr sl68)).other W57 (Or.inl (Ne.symm hne_r0_a0)))
  have sl70 := slot_ne (Z := Z) (Or.inl (hw _ (List.mem_of_getElem? (i := 83) rfl))) (Or.inl (hw _ (List.mem_of_getElem? (i := 85) rfl))) (by decide) (t := .long) (t' := .long) (by decide) (by decide)
  have F_a0_trueNegatives_u71 : Fld Z h57 a0 "com/example/headlattice/headlattice/learn/Tally" "trueNegatives" "J" (.long (w_trueNegatives_a1 + w_trueNegatives_a2)) := ((Fw18.other W27 (Or.inr sl70)).other W57 (Or.inl (Ne.symm hne_r0_a0)))
  have F_a0_falseNegatives_u72 : Fld Z h57 a0 "com/example/headlattice/headlattice/learn/Tally" "falseNegatives" "J" (.long (w_falseNegatives_a1 + w_falseNegatives_a2)) := (Fw27.other W57 (Or.inl (Ne.symm hne_r0_a0)))
  obtain ⟨fs, hr, hrun, hended, hW, hsame⟩ := X59.leave (v := none) (fun _ => rfl)
  refine ⟨_, _, pre0 _ ?_, hrun, hended, _, _, rfl, ?_, ⟨_, rfl⟩, hW, hsame.mono (by decide) (by decide)⟩
  · show Steps p.tables e below (s₁.setTop (mkF m 0 #[.val (.ref a0), .val (.ref a1), .val (.ref a2), .unset] [])) _
    refine XS.aloadN X0.here hx rfl (hb hby d12_0) rfl rfl ?_
    show Steps p.tables e below (s₁.setTop (mkF m 1 #[.val (.ref a0), .val (.ref a1), .val (.ref a2), .unset] [(.ref a0)])) _
    refine XS.aloadN X0.here hx rfl (hb hby d12_1) rfl rfl ?_
    show Steps p.tables e below (s₁.setTop (mkF m 2 #[.val (.ref a0), .val (.ref a1), .val (.ref a2), .unset] [(.ref a1), (.ref a0)])) _
    refine st1 _ ?_
    show Steps p.tables e below (T1.setTop (mkF m 5 #[.val (.ref a0), .val (.ref a1), .val (.ref a2), .unset] [(.long w_truePositives_a1), (.ref a0)])) _
    refine XS.aloadN X1.here hx rfl (hb hby d12_5) rfl rfl ?_
    show Steps p.tables e below (T1.setTop (mkF m 6 #[.val (.ref a0), .val (.ref a1), .val (.ref a2), .unset] [(.ref a2), (.long w_truePositives_a1), (.ref a0)])) _
    refine st2 _ ?_
    show Steps p.tables e below (T2.setTop (mkF m 9 #[.val (.ref a0), .val (.ref a1), .val (.ref a2), .unset] [(.long w_truePositives_a2), (.long w_truePositives_a1), (.ref a0)])) _
    refine XS.ladd X2.here hx rfl (hb hby d12_9) rfl ?_
    show Steps p.tables e below (T2.setTop (mkF m 10 #[.val (.ref a0), .val (.ref a1), .val (.ref a2), .unset] [(.long (w_truePositives_a1 + w_truePositives_a2)), (.ref a0)])) _
    refine st3 _ ?_
    show Steps p.tables e below (T3.setTop (mkF m 13 #[.val (.ref a0), .val (.ref a1), .val (.ref a2), .unset] [])) _
    refine XS.aloadN X3'.here hx rfl (hb hby d12_13) rfl rfl ?_
    show Steps p.tables e below (T3.setTop (mkF m 14 #[.val (.ref a0), .val (.ref a1), .val (.ref a2), .unset] [(.ref a0)])) _
    refine XS.aloadN X3'.here hx rfl (hb hby d12_14) rfl rfl ?_
    show Steps p.tables e below (T3.setTop (mkF m 15 #[.val (.ref a0), .val (.ref a1), .val (.ref a2), .unset] [(.ref a1), (.ref a0)])) _
    refine st5 _ ?_
    show Steps p.tables e below (T5.setTop (mkF m 18 #[.val (.ref a0), .val (.ref a1), .val (.ref a2), .unset] [(.long w_falsePositives_a1), (.ref a0)])) _
    refine XS.aloadN X5.here hx rfl (hb hby d12_18) rfl rfl ?_
    show Steps p.tables e below (T5.setTop (mkF m 19 #[.val (.ref a0), .val (.ref a1), .val (.ref a2), .unset] [(.ref a2), (.long w_falsePositives_a1), (.ref a0)])) _
    refine st7 _ ?_
    show Steps p.tables e below (T7.setTop (mkF m 22 #[.val (.ref a0), .val (.ref a1), .val (.ref a2), .unset] [(.long w_falsePositives_a2), (.long w_falsePositives_a1), (.ref a0)])) _
    refine XS.ladd X7.here hx rfl (hb hby d12_22) rfl ?_
    show Steps p.tables e below (T7.setTop (mkF m 23 #[.val (.ref a0), .val (.ref a1), .val (.ref a2), .unset] [(.long (w_falsePositives_a1 + w_falsePositives_a2)), (.ref a0)])) _
    refine st10 _ ?_
    show Steps p.tables e below (T10.setTop (mkF m 26 #[.val (.ref a0), .val (.ref a1), .val (.ref a2), .unset] [])) _
    refine XS.aloadN X10'.here hx rfl (hb hby d12_26) rfl rfl ?_
    show Steps p.tables e below (T10.setTop (mkF m 27 #[.val (.ref a0), .val (.ref a1), .val (.ref a2), .unset] [(.ref a0)])) _
    refine XS.aloadN X10'.here hx rfl (hb hby d12_27) rfl rfl ?_
    show Steps p.tables e below (T10.setTop (mkF m 28 #[.val (.ref a0), .val (.ref a1), .val (.ref a2), .unset] [(.ref a1), (.ref a0)])) _
    refine st12 _ ?_
    show Steps p.tables e below (T12.setTop (mkF m 31 #[.val (.ref a0), .val (.ref a1), .val (.ref a2), .unset] [(.long w_trueNegatives_a1), (.ref a0)])) _
    refine XS.aloadN X12.here hx rfl (hb hby d12_31) rfl rfl ?_
    show Steps p.tables e below (T12.setTop (mkF m 32 #[.val (.ref a0), .val (.ref a1), .val (.ref a2), .unset] [(.ref a2), (.long w_trueNegatives_a1), (.ref a0)])) _
    refine st14 _ ?_
    show Steps p.tables e below (T14.setTop (mkF m 35 #[.val (.ref a0), .val (.ref a1), .val (.ref a2), .unset] [(.long w_trueNegatives_a2), (.long w_trueNegatives_a1), (.ref a0)])) _
    refine XS.ladd X14.here hx rfl (hb hby d12_35) rfl ?_
    show Steps p.tables e below (T14.setTop (mkF m 36 #[.val (.ref a0), .val (.ref a1), .val (.ref a2), .unset] [(.long (w_trueNegatives_a1 + w_trueNegatives_a2)), (.ref a0)])) _
    refine st18 _ ?_
    show Steps p.tables e below (T18.setTop (mkF m 39 #[.val (.ref a0), .val (.ref a1), .val (.ref a2), .unset] [])) _
    refine XS.aloadN X18'.here hx rfl (hb hby d12_39) rfl rfl ?_
    show Steps p.tables e below (T18.setTop (mkF m 40 #[.val (.ref a0), .val (.ref a1), .val (.ref a2), .unset] [(.ref a0)])) _
    refine XS.aloadN X18'.here hx rfl (hb hby d12_40) rfl rfl ?_
    show Steps p.tables e below (T18.setTop (mkF m 41 #[.val (.ref a0), .val (.ref a1), .val (.ref a2), .unset] [(.ref a1), (.ref a0)])) _
    refine st20 _ ?_
    show Steps p.tables e below (T20.setTop (mkF m 44 #[.val (.ref a0), .val (.ref a1), .val (.ref a2), .unset] [(.long w_falseNegatives_a1), (.ref a0)])) _
    refine XS.aloadN X20.here hx rfl (hb hby d12_44) rfl rfl ?_
    show Steps p.tables e below (T20.setTop (mkF m 45 #[.val (.ref a0), .val (.ref a1), .val (.ref a2), .unset] [(.ref a2), (.long w_falseNegatives_a1), (.ref a0)])) _
    refine st22 _ ?_
    show Steps p.tables e below (T22.setTop (mkF m 48 #[.val (.ref a0), .val (.ref a1), .val (.ref a2), .unset] [(.long w_falseNegatives_a2), (.long w_falseNegatives_a1), (.ref a0)])) _
    refine XS.ladd X22.here hx rfl (hb hby d12_48) rfl ?_
    show Steps p.tables e below (T22.setTop (mkF m 49 #[.val (.ref a0), .val (.ref a1), .val (.ref a2), .unset] [(.long (w_falseNegatives_a1 + w_falseNegatives_a2)), (.ref a0)])) _
    refine st27 _ ?_
    show Steps p.tables e below (T27.setTop (mkF m 52 #[.val (.ref a0), .val (.ref a1), .val (.ref a2), .unset] [])) _
    refine XS.aloadN X27'.here hx rfl (hb hby d12_52) rfl rfl ?_
    show Steps p.tables e below (T27.setTop (mkF m 53 #[.val (.ref a0), .val (.ref a1), .val (.ref a2), .unset] [(.ref a0)])) _
    refine st34 _ ?_
    show Steps p.tables e below (T34.setTop (mkF m 56 #[.val (.ref a0), .val (.ref a1), .val (.ref a2), .unset] [(.ref r0)])) _
    refine XS.ifnullNo X34.here hx rfl (hb hby d12_56) rfl ?_
    show Steps p.tables e below (T34.setTop (mkF m 59 #[.val (.ref a0), .val (.ref a1), .val (.ref a2), .unset] [])) _
    refine XS.iconst X34.here hx rfl (hb hby d12_59) ?_
    show Steps p.tables e below (T34.setTop (mkF m 60 #[.val (.ref a0), .val (.ref a1), .val (.ref a2), .unset] [(.int (0 : Int32))])) _
    refine XS.istoreN X34.here hx rfl (hb hby d12_60) rfl (l' := #[.val (.ref a0), .val (.ref a1), .val (.ref a2), .val (.int (0 : Int32))]) rfl ?_
    show Steps p.tables e below (T34.setTop (mkF m 61 #[.val (.ref a0), .val (.ref a1), .val (.ref a2), .val (.int (0 : Int32))] [])) _
    refine XS.iloadN X34.here hx rfl (hb hby d12_61) rfl ?_
    show Steps p.tables e below (T34.setTop (mkF m 62 #[.val (.ref a0), .val (.ref a1), .val (.ref a2), .val (.int (0 : Int32))] [(.int (0 : Int32))])) _
    refine XS.aloadN X34.here hx rfl (hb hby d12_62) rfl rfl ?_
    show Steps p.tables e below (T34.setTop (mkF m 63 #[.val (.ref a0), .val (.ref a1), .val (.ref a2), .val (.int (0 : Int32))] [(.ref a0), (.int (0 : Int32))])) _
    refine st35 _ ?_
    show Steps p.tables e below (T35.setTop (mkF m 66 #[.val (.ref a0), .val (.ref a1), .val (.ref a2), .val (.int (0 : Int32))] [(.ref r0), (.int (0 : Int32))])) _
    refine X35.arraylength hx (by rw [e35]; exact Ar38.1) (State.isArrayOf_alike hZ.alike Ar38.2.1) (g := (mkF m 66 #[.val (.ref a0), .val (.ref a1), .val (.ref a2), .val (.int (0 : Int32))] [(.ref r0), (.int (0 : Int32))])) rfl rfl (hb hby d12_66) _ ?_
    rw [len_of Sz38 Ng38]
    show Steps p.tables e below (T35.setTop (mkF m 67 #[.val (.ref a0), .val (.ref a1), .val (.ref a2), .val (.int (0 : Int32))] [(.int (1 : Int32)), (.int (0 : Int32))])) _
    refine XS.icmpNo X35.here hx rfl (hb hby d12_67) rfl (tlt (by decide : (0 : Int32) < (1 : Int32))).2.1 ?_
    show Steps p.tables e below (T35.setTop (mkF m 70 #[.val (.ref a0), .val (.ref a1), .val (.ref a2), .val (.int (0 : Int32))] [])) _
    refine XS.aloadN X35.here hx rfl (hb hby d12_70) rfl rfl ?_
    show Steps p.tables e below (T35.setTop (mkF m 71 #[.val (.ref a0), .val (.ref a1), .val (.ref a2), .val (.int (0 : Int32))] [(.ref a0)])) _
    refine st39 _ ?_
    show Steps p.tables e below (T39.setTop (mkF m 74 #[.val (.ref a0), .val (.ref a1), .val (.ref a2), .val (.int (0 : Int32))] [(.ref r0)])) _
    refine XS.iloadN X39.here hx rfl (hb hby d12_74) rfl ?_
    show Steps p.tables e below (T39.setTop (mkF m 75 #[.val (.ref a0), .val (.ref a1), .val (.ref a2), .val (.int (0 : Int32))] [(.int (0 : Int32)), (.ref r0)])) _
    refine XS.aloadN X39.here hx rfl (hb hby d12_75) rfl rfl ?_
    show Steps p.tables e below (T39.setTop (mkF m 76 #[.val (.ref a0), .val (.ref a1), .val (.ref a2), .val (.int (0 : Int32))] [(.ref a1), (.int (0 : Int32)), (.ref r0)])) _
    refine st42 _ ?_
    show Steps p.tables e below (T42.setTop (mkF m 79 #[.val (.ref a0), .val (.ref a1), .val (.ref a2), .val (.int (0 : Int32))] [(.ref r1), (.int (0 : Int32)), (.ref r0)])) _
    refine XS.iloadN X42.here hx rfl (hb hby d12_79) rfl ?_
    show Steps p.tables e below (T42.setTop (mkF m 80 #[.val (.ref a0), .val (.ref a1), .val (.ref a2), .val (.int (0 : Int32))] [(.int (0 : Int32)), (.ref r1), (.int (0 : Int32)), (.ref r0)])) _
    refine X42.laload hx (j := (0 : Int32)) (v := (.long y1)) (by rw [e42]; exact Ar45.1) (State.isArrayOf_alike hZ.alike Ar45.2.1) Ar45.2.2 hin46 hat47 (g := (mkF m 80 #[.val (.ref a0), .val (.ref a1), .val (.ref a2), .val (.int (0 : Int32))] [(.int (0 : Int32)), (.ref r1), (.int (0 : Int32)), (.ref r0)])) rfl rfl (hb hby d12_80) _ ?_
    show Steps p.tables e below (T42.setTop (mkF m 81 #[.val (.ref a0), .val (.ref a1), .val (.ref a2), .val (.int (0 : Int32))] [(.long y1), (.int (0 : Int32)), (.ref r0)])) _
    refine XS.aloadN X42.here hx rfl (hb hby d12_81) rfl rfl ?_
    show Steps p.tables e below (T42.setTop (mkF m 82 #[.val (.ref a0), .val (.ref a1), .val (.ref a2), .val (.int (0 : Int32))] [(.ref a2), (.long y1), (.int (0 : Int32)), (.ref r0)])) _
    refine st50 _ ?_
    show Steps p.tables e below (T50.setTop (mkF m 85 #[.val (.ref a0), .val (.ref a1), .val (.ref a2), .val (.int (0 : Int32))] [(.ref r2), (.long y1), (.int (0 : Int32)), (.ref r0)])) _
    refine XS.iloadN X50.here hx rfl (hb hby d12_85) rfl ?_
    show Steps p.tables e below (T50.setTop (mkF m 86 #[.val (.ref a0), .val (.ref a1), .val (.ref a2), .val (.int (0 : Int32))] [(.int (0 : Int32)), (.ref r2), (.long y1), (.int (0 : Int32)), (.ref r0)])) _
    refine X50.laload hx (j := (0 : Int32)) (v := (.long y2)) (by rw [e50]; exact Ar53.1) (State.isArrayOf_alike hZ.alike Ar53.2.1) Ar53.2.2 hin54 hat55 (g := (mkF m 86 #[.val (.ref a0), .val (.ref a1), .val (.ref a2), .val (.int (0 : Int32))] [(.int (0 : Int32)), (.ref r2), (.long y1), (.int (0 : Int32)), (.ref r0)])) rfl rfl (hb hby d12_86) _ ?_
    show Steps p.tables e below (T50.setTop (mkF m 87 #[.val (.ref a0), .val (.ref a1), .val (.ref a2), .val (.int (0 : Int32))] [(.long y2), (.long y1), (.int (0 : Int32)), (.ref r0)])) _
    refine XS.land X50.here hx rfl (hb hby d12_87) rfl ?_
    show Steps p.tables e below (T50.setTop (mkF m 88 #[.val (.ref a0), .val (.ref a1), .val (.ref a2), .val (.int (0 : Int32))] [(.long (y1 &&& y2)), (.int (0 : Int32)), (.ref r0)])) _
    refine st57 _ ?_
    show Steps p.tables e below (T57.setTop (mkF m 89 #[.val (.ref a0), .val (.ref a1), .val (.ref a2), .val (.int (0 : Int32))] [])) _
    refine XS.iinc X57'.here hx rfl (hb hby d12_89) rfl (l' := #[.val (.ref a0), .val (.ref a1), .val (.ref a2), .val (.int (1 : Int32))]) rfl ?_
    show Steps p.tables e below (T57.setTop (mkF m 92 #[.val (.ref a0), .val (.ref a1), .val (.ref a2), .val (.int (1 : Int32))] [])) _
    refine XS.goto X57'.here hx rfl (pc0 := 92) (pc' := 61) rfl (hb hby d12_92) (by decide) (by decide) ?_
    show Steps p.tables e below (T57.setTop (mkF m 61 #[.val (.ref a0), .val (.ref a1), .val (.ref a2), .val (.int (1 : Int32))] [])) _
    refine XS.iloadN X57'.here hx rfl (hb hby d12_61) rfl ?_
    show Steps p.tables e below (T57.setTop (mkF m 62 #[.val (.ref a0), .val (.ref a1), .val (.ref a2), .val (.int (1 : Int32))] [(.int (1 : Int32))])) _
    refine XS.aloadN X57'.here hx rfl (hb hby d12_62) rfl rfl ?_
    show Steps p.tables e below (T57.setTop (mkF m 63 #[.val (.ref a0), .val (.ref a1), .val (.ref a2), .val (.int (1 : Int32))] [(.ref a0), (.int (1 : Int32))])) _
    refine st59 _ ?_
    show Steps p.tables e below (T59.setTop (mkF m 66 #[.val (.ref a0), .val (.ref a1), .val (.ref a2), .val (.int (1 : Int32))] [(.ref r0), (.int (1 : Int32))])) _
    refine X59.arraylength hx (by rw [e59]; exact Ar60.1) (State.isArrayOf_alike hZ.alike Ar60.2.1) (g := (mkF m 66 #[.val (.ref a0), .val (.ref a1), .val (.ref a2), .val (.int (1 : Int32))] [(.ref r0), (.int (1 : Int32))])) rfl rfl (hb hby d12_66) _ ?_
    rw [len_of Sz60 Ng60]
    show Steps p.tables e below (T59.setTop (mkF m 67 #[.val (.ref a0), .val (.ref a1), .val (.ref a2), .val (.int (1 : Int32))] [(.int (1 : Int32)), (.int (1 : Int32))])) _
    refine XS.icmpYes X59.here hx rfl (pc0 := 67) (pc' := 95) rfl (hb hby d12_67) rfl (flt (by decide : ¬ ((1 : Int32) < (1 : Int32)))).2.1 (by decide) (by decide) ?_
    show Steps p.tables e below (T59.setTop (mkF m 95 #[.val (.ref a0), .val (.ref a1), .val (.ref a2), .val (.int (1 : Int32))] [])) _
    exact X59.returnOut hx Bd.returns (hb hby d12_95) hr
  · show Q12a Z a0 a1 a2 r0 kr0 y0 r1 kr1 y1 r2 kr2 y2 w_truePositives_a1 w_truePositives_a2 u_truePositives_a0 w_falsePositives_a1 w_falsePositives_a2 u_falsePositives_a0 w_trueNegatives_a1 w_trueNegatives_a2 u_trueNegatives_a0 w_falseNegatives_a1 w_falseNegatives_a2 u_falseNegatives_a0 h0 n0 _ T59.heap _
    rw [e59]
    exact ⟨rfl, N57, K57, E_a0_u61, F_a0_rightRows_u58, F_a0_truePositives_u66, F_a0_falsePositives_u69, F_a0_trueNegatives_u71, F_a0_falseNegatives_u72, V_r0_57⟩
theorem ef_rm12b (m : MethodId) (a0 : Addr) (a1 : Addr) (a2 : Addr) : entryFrame m #[(.ref a0), (.ref a1), (.ref a2)] 4 = mkF m 0 #[.val (.ref a0), .val (.ref a1), .val (.ref a2), .unset] [] := by first | (simp [entryFrame, mkF, argsToLocals, Value.category]; done) | rfl
def Q12b (Z : State) (a0 : Addr) (a1 : Addr) (a2 : Addr) (w_truePositives_a1 : Int64) (w_truePositives_a2 : Int64) (u_truePositives_a0 : Value) (w_falsePositives_a1 : Int64) (w_falsePositives_a2 : Int64) (u_falsePositives_a0 : Value) (w_trueNegatives_a1 : Int64) (w_trueNegatives_a2 : Int64) (u_trueNegatives_a0 : Value) (w_falseNegatives_a1 : Int64) (w_falseNegatives_a2 : Int64) (u_falseNegatives_a0 : Value) (h0 : Heap) (n0 : Nat) (v : Option Value) (h : Heap) (L : List Loc) : Prop := v = none ∧ Fr n0 L ∧ Keep h0 h [a0] ∧ Exa Z h a0 "com/example/headlattice/headlattice/learn/Tally" ∧ Fld Z h a0 "com/example/headlattice/headlattice/learn/Tally" "rightRows" "[J" .null ∧ Fld Z h a0 "com/example/headlattice/headlattice/learn/Tally" "remainingRows" "I" (.int (0 : Int32)) ∧ Fld Z h a0 "com/example/headlattice/headlattice/learn/Tally" "truePositives" "J" (.long (w_truePositives_a1 + w_truePositives_a2)) ∧ Fld Z h a0 "com/example/headlattice/headlattice/learn/Tally" "falsePositives" "J" (.long (w_falsePositives_a1 + w_falsePositives_a2)) ∧ Fld Z h a0 "com/example/headlattice/headlattice/learn/Tally" "trueNegatives" "J" (.long (w_trueNegatives_a1 + w_trueNegatives_a2)) ∧ Fld Z h a0 "com/example/headlattice/headlattice/learn/Tally" "falseNegatives" "J" (.long (w_falseNegatives_a1 + w_falseNegatives_a2))
set_option maxRecDepth 65536 in
set_option maxHeartbeats 40000000 in
theorem rm12b (l : Launch) (Z : State) (az : Array Value) (hw : ∀ d ∈ tables_1, d.before az Z = true) (ws : List Jvm.Cond) (a0 : Addr) (a1 : Addr) (a2 : Addr) (w_truePositives_a1 : Int64) (w_truePositives_a2 : Int64) (u_truePositives_a0 : Value) (w_falsePositives_a1 : Int64) (w_falsePositives_a2 : Int64) (u_falsePositives_a0 : Value) (w_trueNegatives_a1 : Int64) (w_trueNegatives_a2 : Int64) (u_trueNegatives_a0 : Value) (w_falseNegatives_a1 : Int64) (w_falseNegatives_a2 : Int64) (u_falseNegatives_a0 : Value) (h0 : Heap) (n0 : Nat) (Z0 : n0 ≤ h0.size) (E_a0 : Exa Z h0 a0 "com/example/headlattice/headlattice/learn/Tally") (F_rightRows_a0 : Fld Z h0 a0 "com/example/headlattice/headlattice/learn/Tally" "rightRows" "[J" .null) (F_remainingRows_a0 : Fld Z h0 a0 "com/example/headlattice/headlattice/learn/Tally" "remainingRows" "I" (.int (0 : Int32))) (F_truePositives_a1 : Fld Z h0 a1 "com/example/headlattice/headlattice/learn/Tally" "truePositives" "J" (.long w_truePositives_a1)) (F_truePositives_a2 : Fld Z h0 a2 "com/example/headlattice/headlattice/learn/Tally" "truePositives" "J" (.long w_truePositives_a2)) (F_truePositives_a0 : Fld Z h0 a0 "com/example/headlattice/headlattice/learn/Tally" "truePositives" "J" u_truePositives_a0) (g_a0 : n0 ≤ a0) (F_falsePositives_a1 : Fld Z h0 a1 "com/example/headlattice/headlattice/learn/Tally" "falsePositives" "J" (.long w_falsePositives_a1)) (hne_a1_a0 : a1 ≠ a0) (F_falsePositives_a2 : Fld Z h0 a2 "com/example/headlattice/headlattice/learn/Tally" "falsePositives" "J" (.long w_falsePositives_a2)) (hne_a2_a0 : a2 ≠ a0) (F_falsePositives_a0 : Fld Z h0 a0 "com/example/headlattice/headlattice/learn/Tally" "falsePositives" "J" u_falsePositives_a0) (F_trueNegatives_a1 : Fld Z h0 a1 "com/example/headlattice/headlattice/learn/Tally" "trueNegatives" "J" (.long w_trueNegatives_a1)) (F_trueNegatives_a2 : Fld Z h0 a2 "com/example/headlattice/headlattice/learn/Tally" "trueNegatives" "J" (.long w_trueNegatives_a2)) (F_trueNegatives_a0 : Fld Z h0 a0 "com/example/headlattice/headlattice/learn/Tally" "trueNegatives" "J" u_trueNegatives_a0) (F_falseNegatives_a1 : Fld Z h0 a1 "com/example/headlattice/headlattice/learn/Tally" "falseNegatives" "J" (.long w_falseNegatives_a1)) (F_falseNegatives_a2 : Fld Z h0 a2 "com/example/headlattice/headlattice/learn/Tally" "falseNegatives" "J" (.long w_falseNegatives_a2)) (F_falseNegatives_a0 : Fld Z h0 a0 "com/example/headlattice/headlattice/learn/Tally" "falseNegatives" "J" u_falseNegatives_a0) :
    MetFree l (⟨"com/example/headlattice/headlattice/learn/Tally", "setSum", "(Lcom/example/headlattice/headlattice/learn/Tally;Lcom/example/headlattice/headlattice/learn/Tally;)V"⟩ : MethodName) (head1 (Jvm.Cond.code (⟨"com/example/headlattice/headlattice/learn/Tally", "setSum", "(Lcom/example/headlattice/headlattice/learn/Tally;Lcom/example/headlattice/headlattice/learn/Tally;)V"⟩ : MethodName) prog_42_method_8_code 4 none :: ws) ({ frames := 0, cells := 0, slots := 0, locals := 0 } : Room)) (fun a U => a = #[(.ref a0), (.ref a1), (.ref a2)] ∧ Z.Warmed39 U.vm ∧ U.heap = h0) (fun _ _ _ _ _ => True) (fun _ U o U' => ∃ v L, o = .returned v ∧ Q12b Z a0 a1 a2 w_truePositives_a1 w_truePositives_a2 u_truePositives_a0 w_falsePositives_a1 w_falsePositives_a2 u_falsePositives_a0 w_trueNegatives_a1 w_trueNegatives_a2 u_trueNegatives_a0 w_falseNegatives_a1 w_falseNegatives_a2 u_falseNegatives_a0 h0 n0 v U'.heap L ∧ FrameEnd U o U' L ({ frames := 0, cells := 0, slots := 0, locals := 0 } : Room).cells ({ frames := 0, cells := 0, slots := 0, locals := 0 } : Room).slots) := by
  refine MetFree.of_bodySF (plainFor_of_name pn_com_example_headlattice_headlattice_learn_Tally) hisR ?_
  intro p e s m args below meth c s₁ Bd hml0 hP hK
  obtain ⟨rfl, hZ, hh⟩ := hP
  have hx := Bd.exec
  have hby := Bd.bytes
  have hml : c.maxLocals = 4 := hml0
  have hown : s.vm.findClass "com/example/headlattice/headlattice/learn/Tally" = some m.cls := findClass_of_methodNamed Bd.named
  have hnm := (name_of_methodNamed Bd.named Bd.method).1
  have X0 : Stand p l e ({ frames := 0, cells := 0, slots := 0, locals := 0 } : Room) s m #[(.ref a0), (.ref a1), (.ref a2)] below meth c s₁ [] 0 0 := Stand.of_body Bd
  have e0 : s₁.heap = h0 := by rw [← hh, Bd.state]; rfl
  have N0 := Fr.nil n0
  have pre0 : ∀ t, Steps p.tables e below (s₁.setTop (mkF m 0 #[.val (.ref a0), .val (.ref a1), .val (.ref a2), .unset] [])) t → Steps p.tables e below (s₁.setTop (entryFrame m #[(.ref a0), (.ref a1), (.ref a2)] 4)) t := fun t k => castTop (ef_rm12b m a0 a1 a2) k
  obtain ⟨T1, X1, e1, st1⟩ := getF X0 hx hZ hown (host := "") (Or.inl (hw _ (List.mem_of_getElem? (i := 93) rfl))) Via.refl e0 F_truePositives_a1 (g := (mkF m 2 #[.val (.ref a0), .val (.ref a1), .val (.ref a2), .unset] [(.ref a1), (.ref a0)])) rfl rfl (hb hby d12_2)
  obtain ⟨T2, X2, e2, st2⟩ := getF X1 hx hZ hown (host := "") (Or.inl (hw _ (List.mem_of_getElem? (i := 93) rfl))) Via.refl e1 F_truePositives_a2 (g := (mkF m 6 #[.val (.ref a0), .val (.ref a1), .val (.ref a2), .unset] [(.ref a2), (.long w_truePositives_a1), (.ref a0)])) rfl rfl (hb hby d12_6)
  obtain ⟨T3, h3, X3, e3, W3, st3⟩ := putF X2 hx hZ hown (host := "") (Or.inl (hw _ (List.mem_of_getElem? (i := 93) rfl))) Via.refl e2 F_truePositives_a0 E_a0 (Or.inl (hw _ (List.mem_of_getElem? (i := 79) rfl))) (hw _ (List.mem_of_getElem? (i := 52) rfl)) (ty := .long) (by decide) rfl rfl (g := (mkF m 10 #[.val (.ref a0), .val (.ref a1), .val (.ref a2), .unset] [(.long (w_truePositives_a1 + w_truePositives_a2)), (.ref a0)])) rfl rfl (hb hby d12_10)
  have K3 : Keep h0 h3 [a0] := (Keep.refl h0 [a0]).wr W3 (Or.inl (List.mem_of_getElem? (i := 0) rfl))
  have Fw3 := F_truePositives_a0.same W3
  have Z3 : n0 ≤ h3.size := Nat.le_trans Z0 (Keep.of_wr W3).1
  obtain ⟨Lg3, X3', N3⟩ := own_gen X3 (Fr.snoc X3 N0 g_a0)
  have F_a1_falsePositives_u4 : Fld Z h3 a1 "com/example/headlattice/headlattice/learn/Tally" "falsePositives" "J" (.long w_falsePositives_a1) := (F_falsePositives_a1.other W3 (Or.inl hne_a1_a0))
  obtain ⟨T5, X5, e5, st5⟩ := getF X3' hx hZ hown (host := "") (Or.inl (hw _ (List.mem_of_getElem? (i := 94) rfl))) Via.refl e3 F_a1_falsePositives_u4 (g := (mkF m 15 #[.val (.ref a0), .val (.ref a1), .val (.ref a2), .unset] [(.ref a1), (.ref a0)])) rfl rfl (hb hby d12_15)
  have F_a2_falsePositives_u6 : Fld Z h3 a2 "com/example/headlattice/headlattice/learn/Tally" "falsePositives" "J" (.long w_falsePositives_a2) := (F_falsePositives_a2.other W3 (Or.inl hne_a2_a0))
  obtain ⟨T7, X7, e7, st7⟩ := getF X5 hx hZ hown (host := "") (Or.inl (hw _ (List.mem_of_getElem? (i := 94) rfl))) Via.refl e5 F_a2_falsePositives_u6 (g := (mkF m 19 #[.val (.ref a0), .val (.ref a1), .val (.ref a2), .unset] [(.ref a2), (.long w_falsePositives_a1), (.ref a0)])) rfl rfl (hb hby d12_19)
  have sl8 := slot_ne (Z := Z) (Or.inl (hw _ (List.mem_of_getElem? (i := 81) rfl))) (Or.inl (hw _ (List.mem_of_getElem? (i := 79) rfl))) (by decide) (t := .long) (t' := .long) (by decide) (by decide)
  have E_a0_u9 : Exa Z h3 a0 "com/example/headlattice/headlattice/learn/Tally" := (E_a0.wr W3)
  obtain ⟨T10, h10, X10, e10, W10, st10⟩ := putF X7 hx hZ hown (host := "") (Or.inl (hw _ (List.mem_of_getElem? (i := 94) rfl))) Via.refl e7 (F_falsePositives_a0.other W3 (Or.inr sl8)) E_a0_u9 (Or.inl (hw _ (List.mem_of_getElem? (i := 81) rfl))) (hw _ (List.mem_of_getElem? (i := 52) rfl)) (ty := .long) (by decide) rfl rfl (g := (mkF m 23 #[.val (.ref a0), .val (.ref a1), .val (.ref a2), .unset] [(.long (w_falsePositives_a1 + w_falsePositives_a2)), (.ref a0)])) rfl rfl (hb hby d12_23)
  have K10 : Keep h0 h10 [a0] := K3.wr W10 (Or.inl (List.mem_of_getElem? (i := 0) rfl))
  have Fw10 := (F_falsePositives_a0.other W3 (Or.inr sl8)).same W10
  have Z10 : n0 ≤ h10.size := Nat.le_trans Z3 (Keep.of_wr W10).1
  obtain ⟨Lg10, X10', N10⟩ := own_gen X10 (Fr.snoc X10 N3 g_a0)
  have F_a1_trueNegatives_u11 : Fld Z h10 a1 "com/example/headlattice/headlattice/learn/Tally" "trueNegatives" "J" (.long w_trueNegatives_a1) := ((F_trueNegatives_a1.other W3 (Or.inl hne_a1_a0)).other W10 (Or.inl hne_a1_a0))
  obtain ⟨T12, X12, e12, st12⟩ := getF X10' hx hZ hown (host := "") (Or.inl (hw _ (List.mem_of_getElem? (i := 95) rfl))) Via.refl e10 F_a1_trueNegatives_u11 (g := (mkF m 28 #[.val (.ref a0), .val (.ref a1), .val (.ref a2), .unset] [(.ref a1), (.ref a0)])) rfl rfl (hb hby d12_28)
  have F_a2_trueNegatives_u13 : Fld Z h10 a2 "com/example/headlattice/headlattice/learn/Tally" "trueNegatives" "J" (.long w_trueNegatives_a2) := ((F_trueNegatives_a2.other W3 (Or.inl hne_a2_a0)).other W10 (Or.inl hne_a2_a0))
  obtain ⟨T14, X14, e14, st14⟩ := getF X12 hx hZ hown (host := "") (Or.inl (hw _ (List.mem_of_getElem? (i := 95) rfl))) Via.refl e12 F_a2_trueNegatives_u13 (g := (mkF m 32 #[.val (.ref a0), .val (.ref a1), .val (.ref a2), .unset] [(.ref a2), (.long w_trueNegatives_a1), (.ref a0)])) rfl rfl (hb hby d12_32)
  have sl15 := slot_ne (Z := Z) (Or.inl (hw _ (List.mem_of_getElem? (i := 83) rfl))) (Or.inl (hw _ (List.mem_of_getElem? (i := 79) rfl))) (by decide) (t := .long) (t' := .long) (by decide) (by decide)
  have sl16 := slot_ne (Z := Z) (Or.inl (hw _ (List.mem_of_getElem? (i := 83) rfl))) (Or.inl (hw _ (List.mem_of_getElem? (i := 81) rfl))) (by decide) (t := .long) (t' := .long) (by decide) (by decide)
  have E_a0_u17 : Exa Z h10 a0 "com/example/headlattice/headlattice/learn/Tally" := (E_a0_u9.wr W10)
  obtain ⟨T18, h18, X18, e18, W18, st18⟩ := putF X14 hx hZ hown (host := "") (Or.inl (hw _ (List.mem_of_getElem? (i := 95) rfl))) Via.refl e14 ((F_trueNegatives_a0.other W3 (Or.inr sl15)).other W10 (Or.inr sl16)) E_a0_u17 (Or.inl (hw _ (List.mem_of_getElem? (i := 83) rfl))) (hw _ (List.mem_of_getElem? (i := 52) rfl)) (ty := .long) (by decide) rfl rfl (g := (mkF m 36 #[.val (.ref a0), .val (.ref a1), .val (.ref a2), .unset] [(.long (w_trueNegatives_a1 + w_trueNegatives_a2)), (.ref a0)])) rfl rfl (hb hby d12_36)
  have K18 : Keep h0 h18 [a0] := K10.wr W18 (Or.inl (List.mem_of_getElem? (i := 0) rfl))
  have Fw18 := ((F_trueNegatives_a0.other W3 (Or.inr sl15)).other W10 (Or.inr sl16)).same W18
  have Z18 : n0 ≤ h18.size := Nat.le_trans Z10 (Keep.of_wr W18).1
  obtain ⟨Lg18, X18', N18⟩ := own_gen X18 (Fr.snoc X18 N10 g_a0)
  have F_a1_falseNegatives_u19 : Fld Z h18 a1 "com/example/headlattice/headlattice/learn/Tally" "falseNegatives" "J" (.long w_falseNegatives_a1) := (((F_falseNegatives_a1.other W3 (Or.inl hne_a1_a0)).other W10 (Or.inl hne_a1_a0)).other W18 (Or.inl hne_a1_a0))
  obtain ⟨T20, X20, e20, st20⟩ := getF X18' hx hZ hown (host := "") (Or.inl (hw _ (List.mem_of_getElem? (i := 96) rfl))) Via.refl e18 F_a1_falseNegatives_u19 (g := (mkF m 41 #[.val (.ref a0), .val (.ref a1), .val (.ref a2), .unset] [(.ref a1), (.ref a0)])) rfl rfl (hb hby d12_41)
  have F_a2_falseNegatives_u21 : Fld Z h18 a2 "com/example/headlattice/headlattice/learn/Tally" "falseNegatives" "J" (.long w_falseNegatives_a2) := (((F_falseNegatives_a2.other W3 (Or.inl hne_a2_a0)).other W10 (Or.inl hne_a2_a0)).other W18 (Or.inl hne_a2_a0))
  obtain ⟨T22, X22, e22, st22⟩ := getF X20 hx hZ hown (host := "") (Or.inl (hw _ (List.mem_of_getElem? (i := 96) rfl))) Via.refl e20 F_a2_falseNegatives_u21 (g := (mkF m 45 #[.val (.ref a0), .val (.ref a1), .val (.ref a2), .unset] [(.ref a2), (.long w_falseNegatives_a1), (.ref a0)])) rfl rfl (hb hby d12_45)
  have sl23 := slot_ne (Z := Z) (Or.inl (hw _ (List.mem_of_getElem? (i := 85) rfl))) (Or.inl (hw _ (List.mem_of_getElem? (i := 79) rfl))) (by decide) (t := .long) (t' := .long) (by decide) (by decide)
  have sl24 := slot_ne (Z := Z) (Or.inl (hw _ (List.mem_of_getElem? (i := 85) rfl))) (Or.inl (hw _ (List.mem_of_getElem? (i := 81) rfl))) (by decide) (t := .long) (t' := .long) (by decide) (by decide)
  have sl25 := slot_ne (Z := Z) (Or.inl (hw _ (List.mem_of_getElem? (i := 85) rfl))) (Or.inl (hw _ (List.mem_of_getElem? (i := 83) rfl))) (by decide) (t := .long) (t' := .long) (by decide) (by decide)
  have E_a0_u26 : Exa Z h18 a0 "com/example/headlattice/headlattice/learn/Tally" := (E_a0_u17.wr W18)
  obtain ⟨T27, h27, X27, e27, W27, st27⟩ := putF X22 hx hZ hown (host := "") (Or.inl (hw _ (List.mem_of_getElem? (i := 96) rfl))) Via.refl e22 (((F_falseNegatives_a0.other W3 (Or.inr sl23)).other W10 (Or.inr sl24)).other W18 (Or.inr sl25)) E_a0_u26 (Or.inl (hw _ (List.mem_of_getElem? (i := 85) rfl))) (hw _ (List.mem_of_getElem? (i := 52) rfl)) (ty := .long) (by decide) rfl rfl (g := (mkF m 49 #[.val (.ref a0), .val (.ref a1), .val (.ref a2), .unset] [(.long (w_falseNegatives_a1 + w_falseNegatives_a2)), (.ref a0)])) rfl rfl (hb hby d12_49)
  have K27 : Keep h0 h27 [a0] := K18.wr W27 (Or.inl (List.mem_of_getElem? (i := 0) rfl))
  have Fw27 := (((F_falseNegatives_a0.other W3 (Or.inr sl23)).other W10 (Or.inr sl24)).other W18 (Or.inr sl25)).same W27
  have Z27 : n0 ≤ h27.size := Nat.le_trans Z18 (Keep.of_wr W27).1
  obtain ⟨Lg27, X27', N27⟩ := own_gen X27 (Fr.snoc X27 N18 g_a0)
  have sl28 := slot_ne (Z := Z) (Or.inr (hw _ (List.mem_of_getElem? (i := 68) rfl))) (Or.inl (hw _ (List.mem_of_getElem? (i := 79) rfl))) (by decide) (t := (.array .long)) (t' := .long) (by decide) (by decide)
  have sl29 := slot_ne (Z := Z) (Or.inr (hw _ (List.mem_of_getElem? (i := 68) rfl))) (Or.inl (hw _ (List.mem_of_getElem? (i := 81) rfl))) (by decide) (t := (.array .long)) (t' := .long) (by decide) (by decide)
  have sl30 := slot_ne (Z := Z) (Or.inr (hw _ (List.mem_of_getElem? (i := 68) rfl))) (Or.inl (hw _ (List.mem_of_getElem? (i := 83) rfl))) (by decide) (t := (.array .long)) (t' := .long) (by decide) (by decide)
  have c31 : Fld Z h18 a0 "com/example/headlattice/headlattice/learn/Tally" "rightRows" "[J" .null := (((F_rightRows_a0.other W3 (Or.inr sl28)).other W10 (Or.inr sl29)).other W18 (Or.inr sl30))
  have sl32 := slot_ne (Z := Z) (Or.inr (hw _ (List.mem_of_getElem? (i := 68) rfl))) (Or.inl (hw _ (List.mem_of_getElem? (i := 85) rfl))) (by decide) (t := (.array .long)) (t' := .long) (by decide) (by decide)
  have F_a0_rightRows_u33 : Fld Z h27 a0 "com/example/headlattice/headlattice/learn/Tally" "rightRows" "[J" .null := (c31.other W27 (Or.inr sl32))
  obtain ⟨T34, X34, e34, st34⟩ := getF X27' hx hZ hown (host := "") (Or.inl (hw _ (List.mem_of_getElem? (i := 67) rfl))) Via.refl e27 F_a0_rightRows_u33 (g := (mkF m 53 #[.val (.ref a0), .val (.ref a1), .val (.ref a2), .unset] [(.ref a0)])) rfl rfl (hb hby d12_53)
  have E_a0_u35 : Exa Z h27 a0 "com/example/headlattice/headlattice/learn/Tally" := (E_a0_u26.wr W27)
  have sl36 := slot_ne (Z := Z) (Or.inl (hw _ (List.mem_of_getElem? (i := 70) rfl))) (Or.inl (hw _ (List.mem_of_getElem? (i := 79) rfl))) (by decide) (t := .int) (t' := .long) (by decide) (by decide)
  have sl37 := slot_ne (Z := Z) (Or.inl (hw _ (List.mem_of_getElem? (i := 70) rfl))) (Or.inl (hw _ (List.mem_of_getElem? (i := 81) rfl))) (by decide) (t := .int) (t' := .long) (by decide) (by decide)
  have sl38 := slot_ne (Z := Z) (Or.inl (hw _ (List.mem_of_getElem? (i := 70) rfl))) (Or.inl (hw _ (List.mem_of_getElem? (i := 83) rfl))) (by decide) (t := .int) (t' := .long) (by decide) (by decide)
  have c39 : Fld Z h18 a0 "com/example/headlattice/headlattice/learn/Tally" "remainingRows" "I" (.int (0 : Int32)) := (((F_remainingRows_a0.other W3 (Or.inr sl36)).other W10 (Or.inr sl37)).other W18 (Or.inr sl38))
  have sl40 := slot_ne (Z := Z) (Or.inl (hw _ (List.mem_of_getElem? (i := 70) rfl))) (Or.inl (hw _ (List.mem_of_getElem? (i := 85) rfl))) (by decide) (t := .int) (t' := .long) (by decide) (by decide)
  have F_a0_remainingRows_u41 : Fld Z h27 a0 "com/example/headlattice/headlattice/learn/Tally" "remainingRows" "I" (.int (0 : Int32)) := (c39.other W27 (Or.inr sl40))
  have sl42 := slot_ne (Z := Z) (Or.inl (hw _ (List.mem_of_getElem? (i := 79) rfl))) (Or.inl (hw _ (List.mem_of_getElem? (i := 81) rfl))) (by decide) (t := .long) (t' := .long) (by decide) (by decide)
  have sl43 := slot_ne (Z := Z) (Or.inl (hw _ (List.mem_of_getElem? (i := 79) rfl))) (Or.inl (hw _ (List.mem_of_getElem? (i := 83) rfl))) (by decide) (t := .long) (t' := .long) (by decide) (by decide)
  have sl44 := slot_ne (Z := Z) (Or.inl (hw _ (List.mem_of_getElem? (i := 79) rfl))) (Or.inl (hw _ (List.mem_of_getElem? (i := 85) rfl))) (by decide) (t := .long) (t' := .long) (by decide) (by decide)
  have F_a0_truePositives_u45 : Fld Z h27 a0 "com/example/headlattice/headlattice/learn/Tally" "truePositives" "J" (.long (w_truePositives_a1 + w_truePositives_a2)) := (((Fw3.other W10 (Or.inr sl42)).other W18 (Or.inr sl43)).other W27 (Or.inr sl44))
  have sl46 := slot_ne (Z := Z) (Or.inl (hw _ (List.mem_of_getElem? (i := 81) rfl))) (Or.inl (hw _ (List.mem_of_getElem? (i := 83) rfl))) (by decide) (t := .long) (t' := .long) (by decide) (by decide)
  have sl47 := slot_ne (Z := Z) (Or.inl (hw _ (List.mem_of_getElem? (i := 81) rfl))) (Or.inl (hw _ (List.mem_of_getElem? (i := 85) rfl))) (by decide) (t := .long) (t' := .long) (by decide) (by decide)
  have F_a0_falsePositives_u48 : Fld Z h27 a0 "com/example/headlattice/headlattice/learn/Tally" "falsePositives" "J" (.long (w_falsePositives_a1 + w_falsePositives_a2)) := ((Fw10.other W18 (Or.inr sl46)).other W27 (Or.inr sl47))
  have sl49 := slot_ne (Z := Z) (Or.inl (hw _ (List.mem_of_getElem? (i := 83) rfl))) (Or.inl (hw _ (List.mem_of_getElem? (i := 85) rfl))) (by decide) (t := .long) (t' := .long) (by decide) (by decide)
  have F_a0_trueNegatives_u50 : Fld Z h27 a0 "com/example/headlattice/headlattice/learn/Tally" "trueNegatives" "J" (.long (w_trueNegatives_a1 + w_trueNegatives_a2)) := (Fw18.other W27 (Or.inr sl49))
  obtain ⟨fs, hr, hrun, hended, hW, hsame⟩ := X34.leave (v := none) (fun _ => rfl)
  refine ⟨_, _, pre0 _ ?_, hrun, hended, _, _, rfl, ?_, ⟨_, rfl⟩, hW, hsame.mono (by decide) (by decide)⟩
  · show Steps p.tables e below (s₁.setTop (mkF m 0 #[.val (.ref a0), .val (.ref a1), .val (.ref a2), .unset] [])) _
    refine XS.aloadN X0.here hx rfl (hb hby d12_0) rfl rfl ?_
    show Steps p.tables e below (s₁.setTop (mkF m 1 #[.val (.ref a0), .val (.ref a1), .val (.ref a2), .unset] [(.ref a0)])) _
    refine XS.aloadN X0.here hx rfl (hb hby d12_1) rfl rfl ?_
    show Steps p.tables e below (s₁.setTop (mkF m 2 #[.val (.ref a0), .val (.ref a1), .val (.ref a2), .unset] [(.ref a1), (.ref a0)])) _
    refine st1 _ ?_
    show Steps p.tables e below (T1.setTop (mkF m 5 #[.val (.ref a0), .val (.ref a1), .val (.ref a2), .unset] [(.long w_truePositives_a1), (.ref a0)])) _
    refine XS.aloadN X1.here hx rfl (hb hby d12_5) rfl rfl ?_
    show Steps p.tables e below (T1.setTop (mkF m 6 #[.val (.ref a0), .val (.ref a1), .val (.ref a2), .unset] [(.ref a2), (.long w_truePositives_a1), (.ref a0)])) _
    refine st2 _ ?_
    show Steps p.tables e below (T2.setTop (mkF m 9 #[.val (.ref a0), .val (.ref a1), .val (.ref a2), .unset] [(.long w_truePositives_a2), (.long w_truePositives_a1), (.ref a0)])) _
    refine XS.ladd X2.here hx rfl (hb hby d12_9) rfl ?_
    show Steps p.tables e below (T2.setTop (mkF m 10 #[.val (.ref a0), .val (.ref a1), .val (.ref a2), .unset] [(.long (w_truePositives_a1 + w_truePositives_a2)), (.ref a0)])) _
    refine st3 _ ?_
    show Steps p.tables e below (T3.setTop (mkF m 13 #[.val (.ref a0), .val (.ref a1), .val (.ref a2), .unset] [])) _
    refine XS.aloadN X3'.here hx rfl (hb hby d12_13) rfl rfl ?_
    show Steps p.tables e below (T3.setTop (mkF m 14 #[.val (.ref a0), .val (.ref a1), .val (.ref a2), .unset] [(.ref a0)])) _
    refine XS.aloadN X3'.here hx rfl (hb hby d12_14) rfl rfl ?_
    show Steps p.tables e below (T3.setTop (mkF m 15 #[.val (.ref a0), .val (.ref a1), .val (.ref a2), .unset] [(.ref a1), (.ref a0)])) _
    refine st5 _ ?_
    show Steps p.tables e below (T5.setTop (mkF m 18 #[.val (.ref a0), .val (.ref a1), .val (.ref a2), .unset] [(.long w_falsePositives_a1), (.ref a0)])) _
    refine XS.aloadN X5.here hx rfl (hb hby d12_18) rfl rfl ?_
    show Steps p.tables e below (T5.setTop (mkF m 19 #[.val (.ref a0), .val (.ref a1), .val (.ref a2), .unset] [(.ref a2), (.long w_falsePositives_a1), (.ref a0)])) _
    refine st7 _ ?_
    show Steps p.tables e below (T7.setTop (mkF m 22 #[.val (.ref a0), .val (.ref a1), .val (.ref a2), .unset] [(.long w_falsePositives_a2), (.long w_falsePositives_a1), (.ref a0)])) _
    refine XS.ladd X7.here hx rfl (hb hby d12_22) rfl ?_
    show Steps p.tables e below (T7.setTop (mkF m 23 #[.val (.ref a0), .val (.ref a1), .val (.ref a2), .unset] [(.long (w_falsePositives_a1 + w_falsePositives_a2)), (.ref a0)])) _
    refine st10 _ ?_
    show Steps p.tables e below (T10.setTop (mkF m 26 #[.val (.ref a0), .val (.ref a1), .val (.ref a2), .unset] [])) _
    refine XS.aloadN X10'.here hx rfl (hb hby d12_26) rfl rfl ?_
    show Steps p.tables e below (T10.setTop (mkF m 27 #[.val (.ref a0), .val (.ref a1), .val (.ref a2), .unset] [(.ref a0)])) _
    refine XS.aloadN X10'.here hx rfl (hb hby d12_27) rfl rfl ?_
    show Steps p.tables e below (T10.setTop (mkF m 28 #[.val (.ref a0), .val (.ref a1), .val (.ref a2), .unset] [(.ref a1), (.ref a0)])) _
    refine st12 _ ?_
    show Steps p.tables e below (T12.setTop (mkF m 31 #[.val (.ref a0), .val (.ref a1), .val (.ref a2), .unset] [(.long w_trueNegatives_a1), (.ref a0)])) _
    refine XS.aloadN X12.here hx rfl (hb hby d12_31) rfl rfl ?_
    show Steps p.tables e below (T12.setTop (mkF m 32 #[.val (.ref a0), .val (.ref a1), .val (.ref a2), .unset] [(.ref a2), (.long w_trueNegatives_a1), (.ref a0)])) _
    refine st14 _ ?_
    show Steps p.tables e below (T14.setTop (mkF m 35 #[.val (.ref a0), .val (.ref a1), .val (.ref a2), .unset] [(.long w_trueNegatives_a2), (.long w_trueNegatives_a1), (.ref a0)])) _
    refine XS.ladd X14.here hx rfl (hb hby d12_35) rfl ?_
    show Steps p.tables e below (T14.setTop (mkF m 36 #[.val (.ref a0), .val (.ref a1), .val (.ref a2), .unset] [(.long (w_trueNegatives_a1 + w_trueNegatives_a2)), (.ref a0)])) _
    refine st18 _ ?_
    show Steps p.tables e below (T18.setTop (mkF m 39 #[.val (.ref a0), .val (.ref a1), .val (.ref a2), .unset] [])) _
    refine XS.aloadN X18'.here hx rfl (hb hby d12_39) rfl rfl ?_
    show Steps p.tables e below (T18.setTop (mkF m 40 #[.val (.ref a0), .val (.ref a1), .val (.ref a2), .unset] [(.ref a0)])) _
    refine XS.aloadN X18'.here hx rfl (hb hby d12_40) rfl rfl ?_
    show Steps p.tables e below (T18.setTop (mkF m 41 #[.val (.ref a0), .val (.ref a1), .val (.ref a2), .unset] [(.ref a1), (.ref a0)])) _
    refine st20 _ ?_
    show Steps p.tables e below (T20.setTop (mkF m 44 #[.val (.ref a0), .val (.ref a1), .val (.ref a2), .unset] [(.long w_falseNegatives_a1), (.ref a0)])) _
    refine XS.aloadN X20.here hx rfl (hb hby d12_44) rfl rfl ?_
    show Steps p.tables e below (T20.setTop (mkF m 45 #[.val (.ref a0), .val (.ref a1), .val (.ref a2), .unset] [(.ref a2), (.long w_falseNegatives_a1), (.ref a0)])) _
    refine st22 _ ?_
    show Steps p.tables e below (T22.setTop (mkF m 48 #[.val (.ref a0), .val (.ref a1), .val (.ref a2), .unset] [(.long w_falseNegatives_a2), (.long w_falseNegatives_a1), (.ref a0)])) _
    refine XS.ladd X22.here hx rfl (hb hby d12_48) rfl ?_
    show Steps p.tables e below (T22.setTop (mkF m 49 #[.val (.ref a0), .val (.ref a1), .val (.ref a2), .unset] [(.long (w_falseNegatives_a1 + w_falseNegatives_a2)), (.ref a0)])) _
    refine st27 _ ?_
    show Steps p.tables e below (T27.setTop (mkF m 52 #[.val (.ref a0), .val (.ref a1), .val (.ref a2), .unset] [])) _
    refine XS.aloadN X27'.here hx rfl (hb hby d12_52) rfl rfl ?_
    show Steps p.tables e below (T27.setTop (mkF m 53 #[.val (.ref a0), .val (.ref a1), .val (.ref a2), .unset] [(.ref a0)])) _
    refine st34 _ ?_
    show Steps p.tables e below (T34.setTop (mkF m 56 #[.val (.ref a0), .val (.ref a1), .val (.ref a2), .unset] [.null])) _
    refine XS.ifnullYes X34.here hx rfl (pc0 := 56) (pc' := 95) rfl (hb hby d12_56) rfl (by decide) (by decide) ?_
    show Steps p.tables e below (T34.setTop (mkF m 95 #[.val (.ref a0), .val (.ref a1), .val (.ref a2), .unset] [])) _
    exact X34.returnOut hx Bd.returns (hb hby d12_95) hr
  · show Q12b Z a0 a1 a2 w_truePositives_a1 w_truePositives_a2 u_truePositives_a0 w_falsePositives_a1 w_falsePositives_a2 u_falsePositives_a0 w_trueNegatives_a1 w_trueNegatives_a2 u_trueNegatives_a0 w_falseNegatives_a1 w_falseNegatives_a2 u_falseNegatives_a0 h0 n0 _ T34.heap _
    rw [e34]
    exact ⟨rfl, N27, K27, E_a0_u35, F_a0_rightRows_u33, F_a0_remainingRows_u41, F_a0_truePositives_u45, F_a0_falsePositives_u48, F_a0_trueNegatives_u50, Fw27⟩
theorem ef_rm12c (m : MethodId) (a0 : Addr) (a2 : Addr) : entryFrame m #[(.ref a0), (.ref a0), (.ref a2)] 4 = mkF m 0 #[.val (.ref a0), .val (.ref a0), .val (.ref a2), .unset] [] := by first | (simp [entryFrame, mkF, argsToLocals, Value.category]; done) | rfl
def Q12c (Z : State) (a0 : Addr) (a2 : Addr) (r0 : Addr) (kr0 : ClassId) (y0 : Int64) (r2 : Addr) (kr2 : ClassId) (y2 : Int64) (w_truePositives_a0 : Int64) (w_truePositives_a2 : Int64) (w_falsePositives_a0 : Int64) (w_falsePositives_a2 : Int64) (w_trueNegatives_a0 : Int64) (w_trueNegatives_a2 : Int64) (w_falseNegatives_a0 : Int64) (w_falseNegatives_a2 : Int64) (h0 : Heap) (n0 : Nat) (v : Option Value) (h : Heap) (L : List Loc) : Prop := v = none ∧ Fr n0 L ∧ Keep h0 h [a0, r0] ∧ Exa Z h a0 "com/example/headlattice/headlattice/learn/Tally" ∧ Fld Z h a0 "com/example/headlattice/headlattice/learn/Tally" "rightRows" "[J" (.ref r0) ∧ Fld Z h a0 "com/example/headlattice/headlattice/learn/Tally" "truePositives" "J" (.long (w_truePositives_a0 + w_truePositives_a2)) ∧ Fld Z h a0 "com/example/headlattice/headlattice/learn/Tally" "falsePositives" "J" (.long (w_falsePositives_a0 + w_falsePositives_a2)) ∧ Fld Z h a0 "com/example/headlattice/headlattice/learn/Tally" "trueNegatives" "J" (.long (w_trueNegatives_a0 + w_trueNegatives_a2)) ∧ Fld Z h a0 "com/example/headlattice/headlattice/learn/Tally" "falseNegatives" "J" (.long (w_falseNegatives_a0 + w_falseNegatives_a2)) ∧ Arv Z h r0 kr0 .long (1 : Int32) [(.long (y0 &&& y2))] (.long (0 : Int64))
set_option maxRecDepth 65536 in
set_option maxHeartbeats 40000000 in
theorem rm12c (l : Launch) (Z : State) (az : Array Value) (hw : ∀ d ∈ tables_1, d.before az Z = true) (ws : List Jvm.Cond) (a0 : Addr) (a2 : Addr) (r0 : Addr) (kr0 : ClassId) (y0 : Int64) (r2 : Addr) (kr2 : ClassId) (y2 : Int64) (w_truePositives_a0 : Int64) (w_truePositives_a2 : Int64) (w_falsePositives_a0 : Int64) (w_falsePositives_a2 : Int64) (w_trueNegatives_a0 : Int64) (w_trueNegatives_a2 : Int64) (w_falseNegatives_a0 : Int64) (w_falseNegatives_a2 : Int64) (h0 : Heap) (n0 : Nat) (Z0 : n0 ≤ h0.size) (E_a0 : Exa Z h0 a0 "com/example/headlattice/headlattice/learn/Tally") (F_rightRows_a0 : Fld Z h0 a0 "com/example/headlattice/headlattice/learn/Tally" "rightRows" "[J" (.ref r0)) (V_r0 : Arv Z h0 r0 kr0 .long (1 : Int32) [(.long y0)] (.long (0 : Int64))) (F_rightRows_a2 : Fld Z h0 a2 "com/example/headlattice/headlattice/learn/Tally" "rightRows" "[J" (.ref r2)) (V_r2 : Arv Z h0 r2 kr2 .long (1 : Int32) [(.long y2)] (.long (0 : Int64))) (F_truePositives_a0 : Fld Z h0 a0 "com/example/headlattice/headlattice/learn/Tally" "truePositives" "J" (.long w_truePositives_a0)) (F_truePositives_a2 : Fld Z h0 a2 "com/example/headlattice/headlattice/learn/Tally" "truePositives" "J" (.long w_truePositives_a2)) (g_a0 : n0 ≤ a0) (F_falsePositives_a0 : Fld Z h0 a0 "com/example/headlattice/headlattice/learn/Tally" "falsePositives" "J" (.long w_falsePositives_a0)) (F_falsePositives_a2 : Fld Z h0 a2 "com/example/headlattice/headlattice/learn/Tally" "falsePositives" "J" (.long w_falsePositives_a2)) (hne_a2_a0 : a2 ≠ a0) (F_trueNegatives_a0 : Fld Z h0 a0 "com/example/headlattice/headlattice/learn/Tally" "trueNegatives" "J" (.long w_trueNegatives_a0)) (F_trueNegatives_a2 : Fld Z h0 a2 "com/example/headlattice/headlattice/learn/Tally" "trueNegatives" "J" (.long w_trueNegatives_a2)) (F_falseNegatives_a0 : Fld Z h0 a0 "com/example/headlattice/headlattice/learn/Tally" "falseNegatives" "J" (.long w_falseNegatives_a0)) (F_falseNegatives_a2 : Fld Z h0 a2 "com/example/headlattice/headlattice/learn/Tally" "falseNegatives" "J" (.long w_falseNegatives_a2)) (hne_r0_a0 : r0 ≠ a0) (hne_r2_a0 : r2 ≠ a0) (g_r0 : n0 ≤ r0) :
    MetFree l (⟨"com/example/headlattice/headlattice/learn/Tally", "setSum", "(Lcom/example/headlattice/headlattice/learn/Tally;Lcom/example/headlattice/headlattice/learn/Tally;)V"⟩ : MethodName) (head1 (Jvm.Cond.code (⟨"com/example/headlattice/headlattice/learn/Tally", "setSum", "(Lcom/example/headlattice/headlattice/learn/Tally;Lcom/example/headlattice/headlattice/learn/Tally;)V"⟩ : MethodName) prog_42_method_8_code 4 none :: ws) ({ frames := 0, cells := 0, slots := 0, locals := 0 } : Room)) (fun a U => a = #[(.ref a0), (.ref a0), (.ref a2)] ∧ Z.Warmed39 U.vm ∧ U.heap = h0) (fun _ _ _ _ _ => True) (fun _ U o U' => ∃ v L, o = .returned v ∧ Q12c Z a0 a2 r0 kr0 y0 r2 kr2 y2 w_truePositives_a0 w_truePositives_a2 w_falsePositives_a0 w_falsePositives_a2 w_trueNegatives_a0 w_trueNegatives_a2 w_falseNegatives_a0 w_falseNegatives_a2 h0 n0 v U'.heap L ∧ FrameEnd U o U' L ({ frames := 0, cells := 0, slots := 0, locals := 0 } : Room).cells ({ frames := 0, cells := 0, slots := 0, locals := 0 } : Room).slots) := by
  refine MetFree.of_bodySF (plainFor_of_name pn_com_example_headlattice_headlattice_learn_Tally) hisR ?_
  intro p e s m args below meth c s₁ Bd hml0 hP hK
  obtain ⟨rfl, hZ, hh⟩ := hP
  have hx := Bd.exec
  have hby := Bd.bytes
  have hml : c.maxLocals = 4 := hml0
  have hown : s.vm.findClass "com/example/headlattice/headlattice/learn/Tally" = some m.cls := findClass_of_methodNamed Bd.named
  have hnm := (name_of_methodNamed Bd.named Bd.method).1
  have X0 : Stand p l e ({ frames := 0, cells := 0, slots := 0, locals := 0 } : Room) s m #[(.ref a0), (.ref a0), (.ref a2)] below meth c s₁ [] 0 0 := Stand.of_body Bd
  have e0 : s₁.heap = h0 := by rw [← hh, Bd.state]; rfl
  have N0 := Fr.nil n0
  have pre0 : ∀ t, Steps p.tables e below (s₁.setTop (mkF m 0 #[.val (.ref a0), .val (.ref a0), .val (.ref a2), .unset] [])) t → Steps p.tables e below (s₁.setTop (entryFrame m #[(.ref a0), (.ref a0), (.ref a2)] 4)) t := fun t k => castTop (ef_rm12c m a0 a2) k
  obtain ⟨T1, X1, e1, st1⟩ := getF X0 hx hZ hown (host := "") (Or.inl (hw _ (List.mem_of_getElem? (i := 93) rfl))) Via.refl e0 F_truePositives_a0 (g := (mkF m 2 #[.val (.ref a0), .val (.ref a0), .val (.ref a2), .unset] [(.ref a0), (.ref a0)])) rfl rfl (hb hby d12_2)
  obtain ⟨T2, X2, e2, st2⟩ := getF X1 hx hZ hown (host := "") (Or.inl (hw _ (List.mem_of_getElem? (i := 93) rfl))) Via.refl e1 F_truePositives_a2 (g := (mkF m 6 #[.val (.ref a0), .val (.ref a0), .val (.ref a2), .unset] [(.ref a2), (.long w_truePositives_a0), (.ref a0)])) rfl rfl (hb hby d12_6)
  obtain ⟨T3, h3, X3, e3, W3, st3⟩ := putF X2 hx hZ hown (host := "") (Or.inl (hw _ (List.mem_of_getElem? (i := 93) rfl))) Via.refl e2 F_truePositives_a0 E_a0 (Or.inl (hw _ (List.mem_of_getElem? (i := 79) rfl))) (hw _ (List.mem_of_getElem? (i := 52) rfl)) (ty := .long) (by decide) rfl rfl (g := (mkF m 10 #[.val (.ref a0), .val (.ref a0), .val (.ref a2), .unset] [(.long (w_truePositives_a0 + w_truePositives_a2)), (.ref a0)])) rfl rfl (hb hby d12_10)
  have K3 : Keep h0 h3 [a0, r0] := (Keep.refl h0 [a0, r0]).wr W3 (Or.inl (List.mem_of_getElem? (i := 0) rfl))
  have Fw3 := F_truePositives_a0.same W3
  have Z3 : n0 ≤ h3.size := Nat.le_trans Z0 (Keep.of_wr W3).1
  obtain ⟨Lg3, X3', N3⟩ := own_gen X3 (Fr.snoc X3 N0 g_a0)
  have sl4 := slot_ne (Z := Z) (Or.inl (hw _ (List.mem_of_getElem? (i := 81) rfl))) (Or.inl (hw _ (List.mem_of_getElem? (i := 79) rfl))) (by decide) (t := .long) (t' := .long) (by decide) (by decide)
  have F_a0_falsePositives_u5 : Fld Z h3 a0 "com/example/headlattice/headlattice/learn/Tally" "falsePositives" "J" (.long w_falsePositives_a0) := (F_falsePositives_a0.other W3 (Or.inr sl4))
  obtain ⟨T6, X6, e6, st6⟩ := getF X3' hx hZ hown (host := "") (Or.inl (hw _ (List.mem_of_getElem? (i := 94) rfl))) Via.refl e3 F_a0_falsePositives_u5 (g := (mkF m 15 #[.val (.ref a0), .val (.ref a0), .val (.ref a2), .unset] [(.ref a0), (.ref a0)])) rfl rfl (hb hby d12_15)
  have F_a2_falsePositives_u7 : Fld Z h3 a2 "com/example/headlattice/headlattice/learn/Tally" "falsePositives" "J" (.long w_falsePositives_a2) := (F_falsePositives_a2.other W3 (Or.inl hne_a2_a0))
  obtain ⟨T8, X8, e8, st8⟩ := getF X6 hx hZ hown (host := "") (Or.inl (hw _ (List.mem_of_getElem? (i := 94) rfl))) Via.refl e6 F_a2_falsePositives_u7 (g := (mkF m 19 #[.val (.ref a0), .val (.ref a0), .val (.ref a2), .unset] [(.ref a2), (.long w_falsePositives_a0), (.ref a0)])) rfl rfl (hb hby d12_19)
  have E_a0_u9 : Exa Z h3 a0 "com/example/headlattice/headlattice/learn/Tally" := (E_a0.wr W3)
  obtain ⟨T10, h10, X10, e10, W10, st10⟩ := putF X8 hx hZ hown (host := "") (Or.inl (hw _ (List.mem_of_getElem? (i := 94) rfl))) Via.refl e8 F_a0_falsePositives_u5 E_a0_u9 (Or.inl (hw _ (List.mem_of_getElem? (i := 81) rfl))) (hw _ (List.mem_of_getElem? (i := 52) rfl)) (ty := .long) (by decide) rfl rfl (g := (mkF m 23 #[.val (.ref a0), .val (.ref a0), .val (.ref a2), .unset] [(.long (w_falsePositives_a0 + w_falsePositives_a2)), (.ref a0)])) rfl rfl (hb hby d12_23)
  have K10 : Keep h0 h10 [a0, r0] := K3.wr W10 (Or.inl (List.mem_of_getElem? (i := 0) rfl))
  have Fw10 := F_a0_falsePositives_u5.same W10
  have Z10 : n0 ≤ h10.size := Nat.le_trans Z3 (Keep.of_wr W10).1
  obtain ⟨Lg10, X10', N10⟩ := own_gen X10 (Fr.snoc X10 N3 g_a0)
  have sl11 := slot_ne (Z := Z) (Or.inl (hw _ (List.mem_of_getElem? (i := 83) rfl))) (Or.inl (hw _ (List.mem_of_getElem? (i := 79) rfl))) (by decide) (t := .long) (t' := .long) (by decide) (by decide)
  have sl12 := slot_ne (Z := Z) (Or.inl (hw _ (List.mem_of_getElem? (i := 83) rfl))) (Or.inl (hw _ (List.mem_of_getElem? (i := 81) rfl))) (by decide) (t := .long) (t' := .long) (by decide) (by decide)
  have F_a0_trueNegatives_u13 : Fld Z h10 a0 "com/example/headlattice/headlattice/learn/Tally" "trueNegatives" "J" (.long w_trueNegatives_a0) := ((F_trueNegatives_a0.other W3 (Or.inr sl11)).other W10 (Or.inr sl12))
  obtain ⟨T14, X14, e14, st14⟩ := getF X10' hx hZ hown (host := "") (Or.inl (hw _ (List.mem_of_getElem? (i := 95) rfl))) Via.refl e10 F_a0_trueNegatives_u13 (g := (mkF m 28 #[.val (.ref a0), .val (.ref a0), .val (.ref a2), .unset] [(.ref a0), (.ref a0)])) rfl rfl (hb hby d12_28)
  have F_a2_trueNegatives_u15 : Fld Z h10 a2 "com/example/headlattice/headlattice/learn/Tally" "trueNegatives" "J" (.long w_trueNegatives_a2) := ((F_trueNegatives_a2.other W3 (Or.inl hne_a2_a0)).other W10 (Or.inl hne_a2_a0))
  obtain ⟨T16, X16, e16, st16⟩ := getF X14 hx hZ hown (host := "") (Or.inl (hw _ (List.mem_of_getElem? (i := 95) rfl))) Via.refl e14 F_a2_trueNegatives_u15 (g := (mkF m 32 #[.val (.ref a0), .val (.ref a0), .val (.ref a2), .unset] [(.ref a2), (.long w_trueNegatives_a0), (.ref a0)])) rfl rfl (hb hby d12_32)
  have E_a0_u17 : Exa Z h10 a0 "com/example/headlattice/headlattice/learn/Tally" := (E_a0_u9.wr W10)
  obtain ⟨T18, h18, X18, e18, W18, st18⟩ := putF X16 hx hZ hown (host := "") (Or.inl (hw _ (List.mem_of_getElem? (i := 95) rfl))) Via.refl e16 F_a0_trueNegatives_u13 E_a0_u17 (Or.inl (hw _ (List.mem_of_getElem? (i := 83) rfl))) (hw _ (List.mem_of_getElem? (i := 52) rfl)) (ty := .long) (by decide) rfl rfl (g := (mkF m 36 #[.val (.ref a0), .val (.ref a0), .val (.ref a2), .unset] [(.long (w_trueNegatives_a0 + w_trueNegatives_a2)), (.ref a0)])) rfl rfl (hb hby d12_36)
  have K18 : Keep h0 h18 [a0, r0] := K10.wr W18 (Or.inl (List.mem_of_getElem? (i := 0) rfl))
  have Fw18 := F_a0_trueNegatives_u13.same W18
  have Z18 : n0 ≤ h18.size := Nat.le_trans Z10 (Keep.of_wr W18).1
  obtain ⟨Lg18, X18', N18⟩ := own_gen X18 (Fr.snoc X18 N10 g_a0)
  have sl19 := slot_ne (Z := Z) (Or.inl (hw _ (List.mem_of_getElem? (i := 85) rfl))) (Or.inl (hw _ (List.mem_of_getElem? (i := 79) rfl))) (by decide) (t := .long) (t' := .long) (by decide) (by decide)
  have sl20 := slot_ne (Z := Z) (Or.inl (hw _ (List.mem_of_getElem? (i := 85) rfl))) (Or.inl (hw _ (List.mem_of_getElem? (i := 81) rfl))) (by decide) (t := .long) (t' := .long) (by decide) (by decide)
  have sl21 := slot_ne (Z := Z) (Or.inl (hw _ (List.mem_of_getElem? (i := 85) rfl))) (Or.inl (hw _ (List.mem_of_getElem? (i := 83) rfl))) (by decide) (t := .long) (t' := .long) (by decide) (by decide)
  have F_a0_falseNegatives_u22 : Fld Z h18 a0 "com/example/headlattice/headlattice/learn/Tally" "falseNegatives" "J" (.long w_falseNegatives_a0) := (((F_falseNegatives_a0.other W3 (Or.inr sl19)).other W10 (Or.inr sl20)).other W18 (Or.inr sl21))
  obtain ⟨T23, X23, e23, st23⟩ := getF X18' hx hZ hown (host := "") (Or.inl (hw _ (List.mem_of_getElem? (i := 96) rfl))) Via.refl e18 F_a0_falseNegatives_u22 (g := (mkF m 41 #[.val (.ref a0), .val (.ref a0), .val (.ref a2), .unset] [(.ref a0), (.ref a0)])) rfl rfl (hb hby d12_41)
  have F_a2_falseNegatives_u24 : Fld Z h18 a2 "com/example/headlattice/headlattice/learn/Tally" "falseNegatives" "J" (.long w_falseNegatives_a2) := (((F_falseNegatives_a2.other W3 (Or.inl hne_a2_a0)).other W10 (Or.inl hne_a2_a0)).other W18 (Or.inl hne_a2_a0))
  obtain ⟨T25, X25, e25, st25⟩ := getF X23 hx hZ hown (host := "") (Or.inl (hw _ (List.mem_of_getElem? (i := 96) rfl))) Via.refl e23 F_a2_falseNegatives_u24 (g := (mkF m 45 #[.val (.ref a0), .val (.ref a0), .val (.ref a2), .unset] [(.ref a2), (.long w_falseNegatives_a0), (.ref a0)])) rfl rfl (hb hby d12_45)
  have E_a0_u26 : Exa Z h18 a0 "com/example/headlattice/headlattice/learn/Tally" := (E_a0_u17.wr W18)
  obtain ⟨T27, h27, X27, e27, W27, st27⟩ := putF X25 hx hZ hown (host := "") (Or.inl (hw _ (List.mem_of_getElem? (i := 96) rfl))) Via.refl e25 F_a0_falseNegatives_u22 E_a0_u26 (Or.inl (hw _ (List.mem_of_getElem? (i := 85) rfl))) (hw _ (List.mem_of_getElem? (i := 52) rfl)) (ty := .long) (by decide) rfl rfl (g := (mkF m 49 #[.val (.ref a0), .val (.ref a0), .val (.ref a2), .unset] [(.long (w_falseNegatives_a0 + w_falseNegatives_a2)), (.ref a0)])) rfl rfl (hb hby d12_49)
  have K27 : Keep h0 h27 [a0, r0] := K18.wr W27 (Or.inl (List.mem_of_getElem? (i := 0) rfl))
  have Fw27 := F_a0_falseNegatives_u22.same W27
  have Z27 : n0 ≤ h27.size := Nat.le_trans Z18 (Keep.of_wr W27).1
  obtain ⟨Lg27, X27', N27⟩ := own_gen X27 (Fr.snoc X27 N18 g_a0)
  have sl28 := slot_ne (Z := Z) (Or.inr (hw _ (List.mem_of_getElem? (i := 68) rfl))) (Or.inl (hw _ (List.mem_of_getElem? (i := 79) rfl))) (by decide) (t := (.array .long)) (t' := .long) (by decide) (by decide)
  have sl29 := slot_ne (Z := Z) (Or.inr (hw _ (List.mem_of_getElem? (i := 68) rfl))) (Or.inl (hw _ (List.mem_of_getElem? (i := 81) rfl))) (by decide) (t := (.array .long)) (t' := .long) (by decide) (by decide)
  have sl30 := slot_ne (Z := Z) (Or.inr (hw _ (List.mem_of_getElem? (i := 68) rfl))) (Or.inl (hw _ (List.mem_of_getElem? (i := 83) rfl))) (by decide) (t := (.array .long)) (t' := .long) (by decide) (by decide)
  have c31 : Fld Z h18 a0 "com/example/headlattice/headlattice/learn/Tally" "rightRows" "[J" (.ref r0) := (((F_rightRows_a0.other W3 (Or.inr sl28)).other W10 (Or.inr sl29)).other W18 (Or.inr sl30))
  have sl32 := slot_ne (Z := Z) (Or.inr (hw _ (List.mem_of_getElem? (i := 68) rfl))) (Or.inl (hw _ (List.mem_of_getElem? (i := 85) rfl))) (by decide) (t := (.array .long)) (t' := .long) (by decide) (by decide)
  have F_a0_rightRows_u33 : Fld Z h27 a0 "com/example/headlattice/headlattice/learn/Tally" "rightRows" "[J" (.ref r0) := (c31.other W27 (Or.inr sl32))
  obtain ⟨T34, X34, e34, st34⟩ := getF X27' hx hZ hown (host := "") (Or.inl (hw _ (List.mem_of_getElem? (i := 67) rfl))) Via.refl e27 F_a0_rightRows_u33 (g := (mkF m 53 #[.val (.ref a0), .val (.ref a0), .val (.ref a2), .unset] [(.ref a0)])) rfl rfl (hb hby d12_53)
  obtain ⟨T35, X35, e35, st35⟩ := getF X34 hx hZ hown (host := "") (Or.inl (hw _ (List.mem_of_getElem? (i := 67) rfl))) Via.refl e34 F_a0_rightRows_u33 (g := (mkF m 63 #[.val (.ref a0), .val (.ref a0), .val (.ref a2), .val (.int (0 : Int32))] [(.ref a0), (.int (0 : Int32))])) rfl rfl (hb hby d12_63)
  have c36 : Arv Z h18 r0 kr0 .long (1 : Int32) [(.long y0)] (.long (0 : Int64)) := (((V_r0.other W3 hne_r0_a0).other W10 hne_r0_a0).other W18 hne_r0_a0)
  have V_r0_u37 : Arv Z h27 r0 kr0 .long (1 : Int32) [(.long y0)] (.long (0 : Int64)) := (c36.other W27 hne_r0_a0)
  obtain ⟨cl38, Ar38, qk38, Sz38, Ng38, Hs38, Gf38⟩ := id V_r0_u37
  obtain ⟨T39, X39, e39, st39⟩ := getF X35 hx hZ hown (host := "") (Or.inl (hw _ (List.mem_of_getElem? (i := 67) rfl))) Via.refl e35 F_a0_rightRows_u33 (g := (mkF m 71 #[.val (.ref a0), .val (.ref a0), .val (.ref a2), .val (.int (0 : Int32))] [(.ref a0)])) rfl rfl (hb hby d12_71)
  obtain ⟨T40, X40, e40, st40⟩ := getF X39 hx hZ hown (host := "") (Or.inl (hw _ (List.mem_of_getElem? (i := 67) rfl))) Via.refl e39 F_a0_rightRows_u33 (g := (mkF m 76 #[.val (.ref a0), .val (.ref a0), .val (.ref a2), .val (.int (0 : Int32))] [(.ref a0), (.int (0 : Int32)), (.ref r0)])) rfl rfl (hb hby d12_76)
  have hin41 : ¬ ((0 : Int32) < 0 ∨ cl38.slots.size ≤ ((0 : Int32)).toNatClampNeg) := inb_of Sz38 ⟨by decide, by decide⟩
  have hat42 : cl38.slots[((0 : Int32)).toNatClampNeg]? = some (.long y0) := Hs38.at hin41 rfl
  have c43 : Fld Z h18 a2 "com/example/headlattice/headlattice/learn/Tally" "rightRows" "[J" (.ref r2) := (((F_rightRows_a2.other W3 (Or.inl hne_a2_a0)).other W10 (Or.inl hne_a2_a0)).other W18 (Or.inl hne_a2_a0))
  have F_a2_rightRows_u44 : Fld Z h27 a2 "com/example/headlattice/headlattice/learn/Tally" "rightRows" "[J" (.ref r2) := (c43.other W27 (Or.inl hne_a2_a0))
  obtain ⟨T45, X45, e45, st45⟩ := getF X40 hx hZ hown (host := "") (Or.inl (hw _ (List.mem_of_getElem? (i := 67) rfl))) Via.refl e40 F_a2_rightRows_u44 (g := (mkF m 82 #[.val (.ref a0), .val (.ref a0), .val (.ref a2), .val (.int (0 : Int32))] [(.ref a2), (.long y0), (.int (0 : Int32)), (.ref r0)])) rfl rfl (hb hby d12_82)
  have c46 : Arv Z h18 r2 kr2 .long (1 : Int32) [(.long y2)] (.long (0 : Int64)) := (((V_r2.other W3 hne_r2_a0).other W10 hne_r2_a0).other W18 hne_r2_a0)
  have V_r2_u47 : Arv Z h27 r2 kr2 .long (1 : Int32) [(.long y2)] (.long (0 : Int64)) := (c46.other W27 hne_r2_a0)
  obtain ⟨cl48, Ar48, qk48, Sz48, Ng48, Hs48, Gf48⟩ := id V_r2_u47
  have hin49 : ¬ ((0 : Int32) < 0 ∨ cl48.slots.size ≤ ((0 : Int32)).toNatClampNeg) := inb_of Sz48 ⟨by decide, by decide⟩
  have hat50 : cl48.slots[((0 : Int32)).toNatClampNeg]? = some (.long y2) := Hs48.at hin49 rfl
  have hin51 : ¬ ((0 : Int32) < 0 ∨ cl38.slots.size ≤ ((0 : Int32)).toNatClampNeg) := inb_of Sz38 ⟨by decide, by decide⟩
  obtain ⟨T52, h52, X52, e52, W52, st52⟩ := stJ X45 hx hZ e45 Ar38 (j := (0 : Int32)) hin51 (g := (mkF m 88 #[.val (.ref a0), .val (.ref a0), .val (.ref a2), .val (.int (0 : Int32))] [(.long (y0 &&& y2)), (.int (0 : Int32)), (.ref r0)])) rfl rfl (hb hby d12_88)
  have K52 : Keep h0 h52 [a0, r0] := K27.wr W52 (Or.inl (List.mem_of_getElem? (i := 1) rfl))
  have V_r0_52 : Arv Z h52 r0 kr0 .long (1 : Int32) [(.long (y0 &&& y2))] (.long (0 : Int64)) := Arv.set (v := (.long (y0 &&& y2))) Ar38 qk38 Sz38 Ng38 Hs38 Gf38 rfl W52 0 rfl (Nat.le_of_ble_eq_true rfl)
  have Z52 : n0 ≤ h52.size := Nat.le_trans Z27 (Keep.of_wr W52).1
  obtain ⟨Lg52, X52', N52⟩ := own_gen X52 (Fr.snoc X52 N27 g_r0)
  have F_a0_rightRows_u53 : Fld Z h52 a0 "com/example/headlattice/headlattice/learn/Tally" "rightRows" "[J" (.ref r0) := (F_a0_rightRows_u33.other W52 (Or.inl (Ne.symm hne_r0_a0)))
  obtain ⟨T54, X54, e54, st54⟩ := getF X52' hx hZ hown (host := "") (Or.inl (hw _ (List.mem_of_getElem? (i := 67) rfl))) Via.refl e52 F_a0_rightRows_u53 (g := (mkF m 63 #[.val (.ref a0), .val (.ref a0), .val (.ref a2), .val (.int (1 : Int32))] [(.ref a0), (.int (1 : Int32))])) rfl rfl (hb hby d12_63)
  obtain ⟨cl55, Ar55, qk55, Sz55, Ng55, Hs55, Gf55⟩ := id V_r0_52
  have E_a0_u56 : Exa Z h52 a0 "com/example/headlattice/headlattice/learn/Tally" := ((E_a0_u26.wr W27).wr W52)
  have sl57 := slot_ne (Z := Z) (Or.inl (hw _ (List.mem_of_getElem? (i := 79) rfl))) (Or.inl (hw _ (List.mem_of_getElem? (i := 81) rfl))) (by decide) (t := .long) (t' := .long) (by decide) (by decide)
  have sl58 := slot_ne (Z := Z) (Or.inl (hw _ (List.mem_of_getElem? (i := 79) rfl))) (Or.inl (hw _ (List.mem_of_getElem? (i := 83) rfl))) (by decide) (t := .long) (t' := .long) (by decide) (by decide)
  have sl59 := slot_ne (Z := Z) (Or.inl (hw _ (List.mem_of_getElem? (i := 79) rfl))) (Or.inl (hw _ (List.mem_of_getElem? (i := 85) rfl))) (by decide) (t := .long) (t' := .long) (by decide) (by decide)
  have c60 : Fld Z h27 a0 "com/example/headlattice/headlattice/learn/Tally" "truePositives" "J" (.long (w_truePositives_a0 + w_truePositives_a2)) := (((Fw3.other W10 (Or.inr sl57)).other W18 (Or.inr sl58)).other W27 (Or.inr sl59))
  have F_a0_truePositives_u61 : Fld Z h52 a0 "com/example/headlattice/headlattice/learn/Tally" "truePositives" "J" (.long (w_truePositives_a0 + w_truePositives_a2)) := (c60.other W52 (Or.inl (Ne.symm hne_r0_a0)))
  have sl62 := slot_ne (Z := Z) (Or.inl (hw _ (List.mem_of_getElem? (i := 81) rfl))) (Or.inl (hw _ (List.mem_of_getElem? (i := 83) rfl))) (by decide) (t := .long) (t' := .long) (by decide) (by decide)
  have sl63 := slot_ne (Z := Z) (Or.inl (hw _ (List.mem_of_getElem? (i := 81) rfl))) (Or.inl (hw _ (List.mem_of_getElem? (i := 85) rfl))) (by decide) (t := .long) (t' := .long) (by decide) (by decide)
  have F_a0_falsePositives_u64 : Fld Z h52 a0 "com/example/headlattice/headlattice/learn/Tally" "falsePositives" "J" (.long (w_falsePositives_a0 + w_falsePositives_a2)) := (((Fw10.other W18 (Or.inr sl62)).other W27 (Or.inr sl63)).other W52 (Or.inl (Ne.symm hne_r0_a0)))
  have sl65 := slot_ne (Z := Z) (Or.inl (hw _ (List.mem_of_getElem? (i := 83) rfl))) (Or.inl (hw _ (List.mem_of_getElem? (i := 85) rfl))) (by decide) (t := .long) (t' := .long) (by decide) (by decide)
  have F_a0_trueNegatives_u66 : Fld Z h52 a0 "com/example/headlattice/headlattice/learn/Tally" "trueNegatives" "J" (.long (w_trueNegatives_a0 + w_trueNegatives_a2)) := ((Fw18.other W27 (Or.inr sl65)).other W52 (Or.inl (Ne.symm hne_r0_a0)))
  have F_a0_falseNegatives_u67 : Fld Z h52 a0 "com/example/headlattice/headlattice/learn/Tally" "falseNegatives" "J" (.long (w_falseNegatives_a0 + w_falseNegatives_a2)) := (Fw27.other W52 (Or.inl (Ne.symm hne_r0_a0)))
  obtain ⟨fs, hr, hrun, hended, hW, hsame⟩ := X54.leave (v := none) (fun _ => rfl)
  refine ⟨_, _, pre0 _ ?_, hrun, hended, _, _, rfl, ?_, ⟨_, rfl⟩, hW, hsame.mono (by decide) (by decide)⟩
  · show Steps p.tables e below (s₁.setTop (mkF m 0 #[.val (.ref a0), .val (.ref a0), .val (.ref a2), .unset] [])) _
    refine XS.aloadN X0.here hx rfl (hb hby d12_0) rfl rfl ?_
    show Steps p.tables e below (s₁.setTop (mkF m 1 #[.val (.ref a0), .val (.ref a0), .val (.ref a2), .unset] [(.ref a0)])) _
    refine XS.aloadN X0.here hx rfl (hb hby d12_1) rfl rfl ?_
    show Steps p.tables e below (s₁.setTop (mkF m 2 #[.val (.ref a0), .val (.ref a0), .val (.ref a2), .unset] [(.ref a0), (.ref a0)])) _
    refine st1 _ ?_
    show Steps p.tables e below (T1.setTop (mkF m 5 #[.val (.ref a0), .val (.ref a0), .val (.ref a2), .unset] [(.long w_truePositives_a0), (.ref a0)])) _
    refine XS.aloadN X1.here hx rfl (hb hby d12_5) rfl rfl ?_
    show Steps p.tables e below (T1.setTop (mkF m 6 #[.val (.ref a0), .val (.ref a0), .val (.ref a2), .unset] [(.ref a2), (.long w_truePositives_a0), (.ref a0)])) _
    refine st2 _ ?_
    show Steps p.tables e below (T2.setTop (mkF m 9 #[.val (.ref a0), .val (.ref a0), .val (.ref a2), .unset] [(.long w_truePositives_a2), (.long w_truePositives_a0), (.ref a0)])) _
    refine XS.ladd X2.here hx rfl (hb hby d12_9) rfl ?_
    show Steps p.tables e below (T2.setTop (mkF m 10 #[.val (.ref a0), .val (.ref a0), .val (.ref a2), .unset] [(.long (w_truePositives_a0 + w_truePositives_a2)), (.ref a0)])) _
    refine st3 _ ?_
    show Steps p.tables e below (T3.setTop (mkF m 13 #[.val (.ref a0), .val (.ref a0), .val (.ref a2), .unset] [])) _
    refine XS.aloadN X3'.here hx rfl (hb hby d12_13) rfl rfl ?_
    show Steps p.tables e below (T3.setTop (mkF m 14 #[.val (.ref a0), .val (.ref a0), .val (.ref a2), .unset] [(.ref a0)])) _
    refine XS.aloadN X3'.here hx rfl (hb hby d12_14) rfl rfl ?_
    show Steps p.tables e below (T3.setTop (mkF m 15 #[.val (.ref a0), .val (.ref a0), .val (.ref a2), .unset] [(.ref a0), (.ref a0)])) _
    refine st6 _ ?_
    show Steps p.tables e below (T6.setTop (mkF m 18 #[.val (.ref a0), .val (.ref a0), .val (.ref a2), .unset] [(.long w_falsePositives_a0), (.ref a0)])) _
    refine XS.aloadN X6.here hx rfl (hb hby d12_18) rfl rfl ?_
    show Steps p.tables e below (T6.setTop (mkF m 19 #[.val (.ref a0), .val (.ref a0), .val (.ref a2), .unset] [(.ref a2), (.long w_falsePositives_a0), (.ref a0)])) _
    refine st8 _ ?_
    show Steps p.tables e below (T8.setTop (mkF m 22 #[.val (.ref a0), .val (.ref a0), .val (.ref a2), .unset] [(.long w_falsePositives_a2), (.long w_falsePositives_a0), (.ref a0)])) _
    refine XS.ladd X8.here hx rfl (hb hby d12_22) rfl ?_
    show Steps p.tables e below (T8.setTop (mkF m 23 #[.val (.ref a0), .val (.ref a0), .val (.ref a2), .unset] [(.long (w_falsePositives_a0 + w_falsePositives_a2)), (.ref a0)])) _
    refine st10 _ ?_
    show Steps p.tables e below (T10.setTop (mkF m 26 #[.val (.ref a0), .val (.ref a0), .val (.ref a2), .unset] [])) _
    refine XS.aloadN X10'.here hx rfl (hb hby d12_26) rfl rfl ?_
    show Steps p.tables e below (T10.setTop (mkF m 27 #[.val (.ref a0), .val (.ref a0), .val (.ref a2), .unset] [(.ref a0)])) _
    refine XS.aloadN X10'.here hx rfl (hb hby d12_27) rfl rfl ?_
    show Steps p.tables e below (T10.setTop (mkF m 28 #[.val (.ref a0), .val (.ref a0), .val (.ref a2), .unset] [(.ref a0), (.ref a0)])) _
    refine st14 _ ?_
    show Steps p.tables e below (T14.setTop (mkF m 31 #[.val (.ref a0), .val (.ref a0), .val (.ref a2), .unset] [(.long w_trueNegatives_a0), (.ref a0)])) _
    refine XS.aloadN X14.here hx rfl (hb hby d12_31) rfl rfl ?_
    show Steps p.tables e below (T14.setTop (mkF m 32 #[.val (.ref a0), .val (.ref a0), .val (.ref a2), .unset] [(.ref a2), (.long w_trueNegatives_a0), (.ref a0)])) _
    refine st16 _ ?_
    show Steps p.tables e below (T16.setTop (mkF m 35 #[.val (.ref a0), .val (.ref a0), .val (.ref a2), .unset] [(.long w_trueNegatives_a2), (.long w_trueNegatives_a0), (.ref a0)])) _
    refine XS.ladd X16.here hx rfl (hb hby d12_35) rfl ?_
    show Steps p.tables e below (T16.setTop (mkF m 36 #[.val (.ref a0), .val (.ref a0), .val (.ref a2), .unset] [(.long (w_trueNegatives_a0 + w_trueNegatives_a2)), (.ref a0)])) _
    refine st18 _ ?_
    show Steps p.tables e below (T18.setTop (mkF m 39 #[.val (.ref a0), .val (.ref a0), .val (.ref a2), .unset] [])) _
    refine XS.aloadN X18'.here hx rfl (hb hby d12_39) rfl rfl ?_
    show Steps p.tables e below (T18.setTop (mkF m 40 #[.val (.ref a0), .val (.ref a0), .val (.ref a2), .unset] [(.ref a0)])) _
    refine XS.aloadN X18'.here hx rfl (hb hby d12_40) rfl rfl ?_
    show Steps p.tables e below (T18.setTop (mkF m 41 #[.val (.ref a0), .val (.ref a0), .val (.ref a2), .unset] [(.ref a0), (.ref a0)])) _
    refine st23 _ ?_
    show Steps p.tables e below (T23.setTop (mkF m 44 #[.val (.ref a0), .val (.ref a0), .val (.ref a2), .unset] [(.long w_falseNegatives_a0), (.ref a0)])) _
    refine XS.aloadN X23.here hx rfl (hb hby d12_44) rfl rfl ?_
    show Steps p.tables e below (T23.setTop (mkF m 45 #[.val (.ref a0), .val (.ref a0), .val (.ref a2), .unset] [(.ref a2), (.long w_falseNegatives_a0), (.ref a0)])) _
    refine st25 _ ?_
    show Steps p.tables e below (T25.setTop (mkF m 48 #[.val (.ref a0), .val (.ref a0), .val (.ref a2), .unset] [(.long w_falseNegatives_a2), (.long w_falseNegatives_a0), (.ref a0)])) _
    refine XS.ladd X25.here hx rfl (hb hby d12_48) rfl ?_
    show Steps p.tables e below (T25.setTop (mkF m 49 #[.val (.ref a0), .val (.ref a0), .val (.ref a2), .unset] [(.long (w_falseNegatives_a0 + w_falseNegatives_a2)), (.ref a0)])) _
    refine st27 _ ?_
    show Steps p.tables e below (T27.setTop (mkF m 52 #[.val (.ref a0), .val (.ref a0), .val (.ref a2), .unset] [])) _
    refine XS.aloadN X27'.here hx rfl (hb hby d12_52) rfl rfl ?_
    show Steps p.tables e below (T27.setTop (mkF m 53 #[.val (.ref a0), .val (.ref a0), .val (.ref a2), .unset] [(.ref a0)])) _
    refine st34 _ ?_
    show Steps p.tables e below (T34.setTop (mkF m 56 #[.val (.ref a0), .val (.ref a0), .val (.ref a2), .unset] [(.ref r0)])) _
    refine XS.ifnullNo X34.here hx rfl (hb hby d12_56) rfl ?_
    show Steps p.tables e below (T34.setTop (mkF m 59 #[.val (.ref a0), .val (.ref a0), .val (.ref a2), .unset] [])) _
    refine XS.iconst X34.here hx rfl (hb hby d12_59) ?_
    show Steps p.tables e below (T34.setTop (mkF m 60 #[.val (.ref a0), .val (.ref a0), .val (.ref a2), .unset] [(.int (0 : Int32))])) _
    refine XS.istoreN X34.here hx rfl (hb hby d12_60) rfl (l' := #[.val (.ref a0), .val (.ref a0), .val (.ref a2), .val (.int (0 : Int32))]) rfl ?_
    show Steps p.tables e below (T34.setTop (mkF m 61 #[.val (.ref a0), .val (.ref a0), .val (.ref a2), .val (.int (0 : Int32))] [])) _
    refine XS.iloadN X34.here hx rfl (hb hby d12_61) rfl ?_
    show Steps p.tables e below (T34.setTop (mkF m 62 #[.val (.ref a0), .val (.ref a0), .val (.ref a2), .val (.int (0 : Int32))] [(.int (0 : Int32))])) _
    refine XS.aloadN X34.here hx rfl (hb hby d12_62) rfl rfl ?_
    show Steps p.tables e below (T34.setTop (mkF m 63 #[.val (.ref a0), .val (.ref a0), .val (.ref a2), .val (.int (0 : Int32))] [(.ref a0), (.int (0 : Int32))])) _
    refine st35 _ ?_
    show Steps p.tables e below (T35.setTop (mkF m 66 #[.val (.ref a0), .val (.ref a0), .val (.ref a2), .val (.int (0 : Int32))] [(.ref r0), (.int (0 : Int32))])) _
    refine X35.arraylength hx (by rw [e35]; exact Ar38.1) (State.isArrayOf_alike hZ.alike Ar38.2.1) (g := (mkF m 66 #[.val (.ref a0), .val (.ref a0), .val (.ref a2), .val (.int (0 : Int32))] [(.ref r0), (.int (0 : Int32))])) rfl rfl (hb hby d12_66) _ ?_
    rw [len_of Sz38 Ng38]
    show Steps p.tables e below (T35.setTop (mkF m 67 #[.val (.ref a0), .val (.ref a0), .val (.ref a2), .val (.int (0 : Int32))] [(.int (1 : Int32)), (.int (0 : Int32))])) _
    refine XS.icmpNo X35.here hx rfl (hb hby d12_67) rfl (tlt (by decide : (0 : Int32) < (1 : Int32))).2.1 ?_
    show Steps p.tables e below (T35.setTop (mkF m 70 #[.val (.ref a0), .val (.ref a0), .val (.ref a2), .val (.int (0 : Int32))] [])) _
    refine XS.aloadN X35.here hx rfl (hb hby d12_70) rfl rfl ?_
    show Steps p.tables e below (T35.setTop (mkF m 71 #[.val (.ref a0), .val (.ref a0), .val (.ref a2), .val (.int (0 : Int32))] [(.ref a0)])) _
    refine st39 _ ?_
    show Steps p.tables e below (T39.setTop (mkF m 74 #[.val (.ref a0), .val (.ref a0), .val (.ref a2), .val (.int (0 : Int32))] [(.ref r0)])) _
    refine XS.iloadN X39.here hx rfl (hb hby d12_74) rfl ?_
    show Steps p.tables e below (T39.setTop (mkF m 75 #[.val (.ref a0), .val (.ref a0), .val (.ref a2), .val (.int (0 : Int32))] [(.int (0 : Int32)), (.ref r0)])) _
    refine XS.aloadN X39.here hx rfl (hb hby d12_75) rfl rfl ?_
    show Steps p.tables e below (T39.setTop (mkF m 76 #[.val (.ref a0), .val (.ref a0), .val (.ref a2), .val (.int (0 : Int32))] [(.ref a0), (.int (0 : Int32)), (.ref r0)])) _
    refine st40 _ ?_
    show Steps p.tables e below (T40.setTop (mkF m 79 #[.val (.ref a0), .val (.ref a0), .val (.ref a2), .val (.int (0 : Int32))] [(.ref r0), (.int (0 : Int32)), (.ref r0)])) _
    refine XS.iloadN X40.here hx rfl (hb hby d12_79) rfl ?_
    show Steps p.tables e below (T40.setTop (mkF m 80 #[.val (.ref a0), .val (.ref a0), .val (.ref a2), .val (.int (0 : Int32))] [(.int (0 : Int32)), (.ref r0), (.int (0 : Int32)), (.ref r0)])) _
    refine X40.laload hx (j := (0 : Int32)) (v := (.long y0)) (by rw [e40]; exact Ar38.1) (State.isArrayOf_alike hZ.alike Ar38.2.1) Ar38.2.2 hin41 hat42 (g := (mkF m 80 #[.val (.ref a0), .val (.ref a0), .val (.ref a2), .val (.int (0 : Int32))] [(.int (0 : Int32)), (.ref r0), (.int (0 : Int32)), (.ref r0)])) rfl rfl (hb hby d12_80) _ ?_
    show Steps p.tables e below (T40.setTop (mkF m 81 #[.val (.ref a0), .val (.ref a0), .val (.ref a2), .val (.int (0 : Int32))] [(.long y0), (.int (0 : Int32)), (.ref r0)])) _
    refine XS.aloadN X40.here hx rfl (hb hby d12_81) rfl rfl ?_
    show Steps p.tables e below (T40.setTop (mkF m 82 #[.val (.ref a0), .val (.ref a0), .val (.ref a2), .val (.int (0 : Int32))] [(.ref a2), (.long y0), (.int (0 : Int32)), (.ref r0)])) _
    refine st45 _ ?_
    show Steps p.tables e below (T45.setTop (mkF m 85 #[.val (.ref a0), .val (.ref a0), .val (.ref a2), .val (.int (0 : Int32))] [(.ref r2), (.long y0), (.int (0 : Int32)), (.ref r0)])) _
    refine XS.iloadN X45.here hx rfl (hb hby d12_85) rfl ?_
    show Steps p.tables e below (T45.setTop (mkF m 86 #[.val (.ref a0), .val (.ref a0), .val (.ref a2), .val (.int (0 : Int32))] [(.int (0 : Int32)), (.ref r2), (.long y0), (.int (0 : Int32)), (.ref r0)])) _
    refine X45.laload hx (j := (0 : Int32)) (v := (.long y2)) (by rw [e45]; exact Ar48.1) (State.isArrayOf_alike hZ.alike Ar48.2.1) Ar48.2.2 hin49 hat50 (g := (mkF m 86 #[.val (.ref a0), .val (.ref a0), .val (.ref a2), .val (.int (0 : Int32))] [(.int (0 : Int32)), (.ref r2), (.long y0), (.int (0 : Int32)), (.ref r0)])) rfl rfl (hb hby d12_86) _ ?_
    show Steps p.tables e below (T45.setTop (mkF m 87 #[.val (.ref a0), .val (.ref a0), .val (.ref a2), .val (.int (0 : Int32))] [(.long y2), (.long y0), (.int (0 : Int32)), (.ref r0)])) _
    refine XS.land X45.here hx rfl (hb hby d12_87) rfl ?_
    show Steps p.tables e below (T45.setTop (mkF m 88 #[.val (.ref a0), .val (.ref a0), .val (.ref a2), .val (.int (0 : Int32))] [(.long (y0 &&& y2)), (.int (0 : Int32)), (.ref r0)])) _
    refine st52 _ ?_
    show Steps p.tables e below (T52.setTop (mkF m 89 #[.val (.ref a0), .val (.ref a0), .val (.ref a2), .val (.int (0 : Int32))] [])) _
    refine XS.iinc X52'.here hx rfl (hb hby d12_89) rfl (l' := #[.val (.ref a0), .val (.ref a0), .val (.ref a2), .val (.int (1 : Int32))]) rfl ?_
    show Steps p.tables e below (T52.setTop (mkF m 92 #[.val (.ref a0), .val (.ref a0), .val (.ref a2), .val (.int (1 : Int32))] [])) _
    refine XS.goto X52'.here hx rfl (pc0 := 92) (pc' := 61) rfl (hb hby d12_92) (by decide) (by decide) ?_
    show Steps p.tables e below (T52.setTop (mkF m 61 #[.val (.ref a0), .val (.ref a0), .val (.ref a2), .val (.int (1 : Int32))] [])) _
    refine XS.iloadN X52'.here hx rfl (hb hby d12_61) rfl ?_
    show Steps p.tables e below (T52.setTop (mkF m 62 #[.val (.ref a0), .val (.ref a0), .val (.ref a2), .val (.int (1 : Int32))] [(.int (1 : Int32))])) _
    refine XS.aloadN X52'.here hx rfl (hb hby d12_62) rfl rfl ?_
    show Steps p.tables e below (T52.setTop (mkF m 63 #[.val (.ref a0), .val (.ref a0), .val (.ref a2), .val (.int (1 : Int32))] [(.ref a0), (.int (1 : Int32))])) _
    refine st54 _ ?_
    show Steps p.tables e below (T54.setTop (mkF m 66 #[.val (.ref a0), .val (.ref a0), .val (.ref a2), .val (.int (1 : Int32))] [(.ref r0), (.int (1 : Int32))])) _
    refine X54.arraylength hx (by rw [e54]; exact Ar55.1) (State.isArrayOf_alike hZ.alike Ar55.2.1) (g := (mkF m 66 #[.val (.ref a0), .val (.ref a0), .val (.ref a2), .val (.int (1 : Int32))] [(.ref r0), (.int (1 : Int32))])) rfl rfl (hb hby d12_66) _ ?_
    rw [len_of Sz55 Ng55]
    show Steps p.tables e below (T54.setTop (mkF m 67 #[.val (.ref a0), .val (.ref a0), .val (.ref a2), .val (.int (1 : Int32))] [(.int (1 : Int32)), (.int (1 : Int32))])) _
    refine XS.icmpYes X54.here hx rfl (pc0 := 67) (pc' := 95) rfl (hb hby d12_67) rfl (flt (by decide : ¬ ((1 : Int32) < (1 : Int32)))).2.1 (by decide) (by decide) ?_
    show Steps p.tables e below (T54.setTop (mkF m 95 #[.val (.ref a0), .val (.ref a0), .val (.ref a2), .val (.int (1 : Int32))] [])) _
    exact X54.returnOut hx Bd.returns (hb hby d12_95) hr
  · show Q12c Z a0 a2 r0 kr0 y0 r2 kr2 y2 w_truePositives_a0 w_truePositives_a2 w_falsePositives_a0 w_falsePositives_a2 w_trueNegatives_a0 w_trueNegatives_a2 w_falseNegatives_a0 w_falseNegatives_a2 h0 n0 _ T54.heap _
    rw [e54]
    exact ⟨rfl, N52, K52, E_a0_u56, F_a0_rightRows_u53, F_a0_truePositives_u61, F_a0_falsePositives_u64, F_a0_trueNegatives_u66, F_a0_falseNegatives_u67, V_r0_52⟩
theorem pd_5 : parseMethodDescriptor "(I)V" = some ⟨[.int], none⟩ := by decide +kernel
theorem pd_6 : parseMethodDescriptor "([IZ)I" = some ⟨[(.array .int), .boolean], some .int⟩ := by decide +kernel
theorem pd_7 : parseMethodDescriptor "(Lcom/example/headlattice/headlattice/learn/Coverage;Z)Lcom/example/headlattice/headlattice/learn/Tally;" = some ⟨[(.object "com/example/headlattice/headlattice/learn/Coverage"), .boolean], some (.object "com/example/headlattice/headlattice/learn/Tally")⟩ := by decide +kernel
theorem pd_8 : parseMethodDescriptor "(Lcom/example/headlattice/headlattice/learn/Tally;)Lcom/example/headlattice/headlattice/learn/Tally;" = some ⟨[(.object "com/example/headlattice/headlattice/learn/Tally")], some (.object "com/example/headlattice/headlattice/learn/Tally")⟩ := by decide +kernel
theorem pd_9 : parseMethodDescriptor "(Lcom/example/headlattice/headlattice/learn/Tally;Lcom/example/headlattice/headlattice/learn/Tally;)V" = some ⟨[(.object "com/example/headlattice/headlattice/learn/Tally"), (.object "com/example/headlattice/headlattice/learn/Tally")], none⟩ := by decide +kernel
theorem pn_com_example_headlattice_headlattice_learn_TallySetSumPinLaw : plainName "com/example/headlattice/headlattice/learn/TallySetSumPinLaw" = true := by first | (simp [plainName, overriddenIn]; done) | decide +kernel
theorem ef_rm0 (m : MethodId) (q0 : Int64) (q1 : Int64) (q2 : Int64) (q3 : Int64) (q4 : Int64) (q5 : Int64) : entryFrame m #[(.long q0), (.long q1), (.long q2), (.long q3), (.long q4), (.long q5)] maxLocals = mkF m 0 #[.val (.long q0), .second, .val (.long q1), .second, .val (.long q2), .second, .val (.long q3), .second, .val (.long q4), .second, .val (.long q5), .second, .unset, .unset, .unset, .unset, .unset, .unset, .unset, .unset, .unset, .unset, .unset, .unset, .unset, .unset, .unset, .unset] [] := by first | (simp [entryFrame, mkF, argsToLocals, Value.category, maxLocals]; done) | rfl
def Q0 (Z : State) (q0 : Int64) (q1 : Int64) (q2 : Int64) (q3 : Int64) (q4 : Int64) (q5 : Int64) (h0 : Heap) (n0 : Nat) (v : Option Value) (h : Heap) (L : List Loc) : Prop := v = some (.int (1 : Int32)) ∧ Fr n0 L
set_option maxRecDepth 65536 in
set_option maxHeartbeats 40000000 in
theorem rm0 (l : Launch) (Z : State) (az : Array Value) (hw : ∀ d ∈ tables_1, d.before az Z = true) (ws : List Jvm.Cond) (q0 : Int64) (q1 : Int64) (q2 : Int64) (q3 : Int64) (q4 : Int64) (q5 : Int64) (h0 : Heap) (n0 : Nat) (Z0 : n0 ≤ h0.size) (hc0 : (lcmpW (q1 + q0) (q0 + q1)) = (0 : Int32)) (hc1 : (lcmpW (q2 + q1) (q1 + q2)) = (0 : Int32)) (hc2 : (lcmpW (q3 + q2) (q2 + q3)) = (0 : Int32)) (hc3 : (lcmpW (q0 + q3) (q3 + q0)) = (0 : Int32)) :
    MetFree l x (head1 (Jvm.Cond.code x code maxLocals ret :: ws) room_1) (fun a U => a = #[(.long q0), (.long q1), (.long q2), (.long q3), (.long q4), (.long q5)] ∧ Z.Warmed39 U.vm ∧ U.heap = h0) (fun _ _ _ _ _ => True) (fun _ U o U' => ∃ v L, o = .returned v ∧ Q0 Z q0 q1 q2 q3 q4 q5 h0 n0 v U'.heap L ∧ FrameEnd U o U' L room_1.cells room_1.slots) := by
  refine MetFree.of_bodySF (plainFor_of_name pn_com_example_headlattice_headlattice_learn_TallySetSumPinLaw) hisR ?_
  intro p e s m args below meth c s₁ Bd hml0 hP hK
  obtain ⟨rfl, hZ, hh⟩ := hP
  have hx := Bd.exec
  have hby := Bd.bytes
  have hml : c.maxLocals = 28 := hml0
  have hown : s.vm.findClass "com/example/headlattice/headlattice/learn/TallySetSumPinLaw" = some m.cls := findClass_of_methodNamed Bd.named
  have hnm := (name_of_methodNamed Bd.named Bd.method).1
  have X0 : Stand p l e room_1 s m #[(.long q0), (.long q1), (.long q2), (.long q3), (.long q4), (.long q5)] below meth c s₁ [] 0 0 := Stand.of_body Bd
  have e0 : s₁.heap = h0 := by rw [← hh, Bd.state]; rfl
  have N0 := Fr.nil n0
  have pre0 : ∀ t, Steps p.tables e below (s₁.setTop (mkF m 0 #[.val (.long q0), .second, .val (.long q1), .second, .val (.long q2), .second, .val (.long q3), .second, .val (.long q4), .second, .val (.long q5), .second, .unset, .unset, .unset, .unset, .unset, .unset, .unset, .unset, .unset, .unset, .unset, .unset, .unset, .unset, .unset, .unset] [])) t → Steps p.tables e below (s₁.setTop (entryFrame m #[(.long q0), (.long q1), (.long q2), (.long q3), (.long q4), (.long q5)] maxLocals)) t := fun t k => castTop (ef_rm0 m q0 q1 q2 q3 q4 q5) k
  obtain ⟨T1, h1, X1, e1, E1, A1, D1, -, st1⟩ := newO X0 hx hZ hown (hw _ (List.mem_of_getElem? (i := 0) rfl)) (hw _ (List.mem_of_getElem? (i := 1) rfl)) (hw _ (List.mem_of_getElem? (i := 2) rfl)) e0 (g := (mkF m 0 #[.val (.long q0), .second, .val (.long q1), .second, .val (.long q2), .second, .val (.long q3), .second, .val (.long q4), .second, .val (.long q5), .second, .unset, .unset, .unset, .unset, .unset, .unset, .unset, .unset, .unset, .unset, .unset, .unset, .unset, .unset, .unset, .unset] [])) rfl (hb hby at_0) (by decide) (by decide)
  obtain ⟨b1, g1⟩ : ∃ z, z = h0.size := ⟨_, rfl⟩
  rw [← g1] at A1 D1 st1
  have g_b1 : n0 ≤ b1 := Nat.le_trans Z0 (Nat.le_of_eq g1.symm)
  have sz_b1 : h0.size ≤ b1 := Nat.le_trans (Nat.le_refl _) (Nat.le_of_eq g1.symm)
  have Z1 : n0 ≤ h1.size := Nat.le_trans Z0 E1.1
  have K1 : Keep h0 h1 [] := (Keep.refl h0 []).ext E1
  have E_b1 := A1
  have F_labelCount_b1 : Fld Z h1 b1 "com/example/headlattice/headlattice/learn/Coverage" "labelCount" "I" (.int (0 : Int32)) := D1 (Or.inr (hw _ (List.mem_of_getElem? (i := 10) rfl))) (ty := .int) (by decide)
  have F_openPairs_b1 : Fld Z h1 b1 "com/example/headlattice/headlattice/learn/Coverage" "openPairs" "[[I" .null := D1 (Or.inl (hw _ (List.mem_of_getElem? (i := 14) rfl))) (ty := (.array (.array .int))) (by decide)
  have F_covered_b1 : Fld Z h1 b1 "com/example/headlattice/headlattice/learn/Coverage" "covered" "[Z" .null := D1 (Or.inl (hw _ (List.mem_of_getElem? (i := 17) rfl))) (ty := (.array .boolean)) (by decide)
  have F_coveredCounts_b1 : Fld Z h1 b1 "com/example/headlattice/headlattice/learn/Coverage" "coveredCounts" "[I" .null := D1 (Or.inr (hw _ (List.mem_of_getElem? (i := 20) rfl))) (ty := (.array .int)) (by decide)
  have F_openCounts_b1 : Fld Z h1 b1 "com/example/headlattice/headlattice/learn/Coverage" "openCounts" "[I" .null := D1 (Or.inr (hw _ (List.mem_of_getElem? (i := 22) rfl))) (ty := (.array .int)) (by decide)
  have F_ones_b1 : Fld Z h1 b1 "com/example/headlattice/headlattice/learn/Coverage" "ones" "[I" .null := D1 (Or.inr (hw _ (List.mem_of_getElem? (i := 24) rfl))) (ty := (.array .int)) (by decide)
  have F_rowCount_b1 : Fld Z h1 b1 "com/example/headlattice/headlattice/learn/Coverage" "rowCount" "I" (.int (0 : Int32)) := D1 (Or.inl (hw _ (List.mem_of_getElem? (i := 31) rfl))) (ty := .int) (by decide)
  have F_pairsShared_b1 : Fld Z h1 b1 "com/example/headlattice/headlattice/learn/Coverage" "pairsShared" "Z" (.int (0 : Int32)) := D1 (Or.inl (hw _ (List.mem_of_getElem? (i := 37) rfl))) (ty := .boolean) (by decide)
  have F_remainingCount_b1 : Fld Z h1 b1 "com/example/headlattice/headlattice/learn/Coverage" "remainingCount" "I" (.int (0 : Int32)) := D1 (Or.inl (hw _ (List.mem_of_getElem? (i := 39) rfl))) (ty := .int) (by decide)
  obtain ⟨_, _, ⟨T2, L2, k2', n2'⟩, -, X2, ⟨Lc2, hQ2, l2, y2, z2⟩, st2⟩ := X1.specialBack hx (y := (⟨"com/example/headlattice/headlattice/learn/Coverage", "<init>", "(I)V"⟩ : MethodName)) rfl hown (mvT hZ (hw _ (List.mem_of_getElem? (i := 3) rfl))) (mvT hZ (hw _ (List.mem_of_getElem? (i := 4) rfl))) (mvT hZ (hw _ (List.mem_of_getElem? (i := 5) rfl))) (by decide) (backOf (W := 1) (rm1 l Z az hw [] b1 h1 n0 Z1 E_b1 F_labelCount_b1 F_openPairs_b1 F_covered_b1 F_coveredCounts_b1 F_openCounts_b1 F_ones_b1 F_rowCount_b1 F_pairsShared_b1 F_remainingCount_b1 g_b1) hZ (hw _ (List.mem_of_getElem? (i := 5) rfl)) (hw _ (List.mem_of_getElem? (i := 2) rfl)) (by decide) (by decide)) (g := (mkF m 5 #[.val (.long q0), .second, .val (.long q1), .second, .val (.long q2), .second, .val (.long q3), .second, .val (.long q4), .second, .val (.long q5), .second, .unset, .unset, .unset, .unset, .unset, .unset, .unset, .unset, .unset, .unset, .unset, .unset, .unset, .unset, .unset, .unset] [(.int (1 : Int32)), (.ref b1), (.ref b1)])) rfl (by rw [hml]; rfl) (Steps.refl _) (a := b1) (argsL := [(.int (1 : Int32))]) (rest := [(.ref b1)]) (lenOf pd_5 rfl) rfl (by show 2 * 0 + _ ≤ _; exact Nat.le_of_eq rfl) (hb hby at_5) (fun _ _ => ⟨rfl, e1, (by decide : 1 + 5 ≤ _), (by decide : 9 + 21 ≤ _)⟩)
  dsimp only [Pt.U, Pt.locs, Pt.cells, Pt.slots] at X2 l2 y2 z2 st2 hQ2
  subst l2 y2 z2
  obtain ⟨b2_0, b2_1, b2_2, b2_3, b2_4, kk2_0, kk2_1, kk2_2, kk2_3, kk2_4, rfl, N2q, s2_0, lt_b2_0_b2_1, lt_b2_1_b2_2, lt_b2_2_b2_3, lt_b2_3_b2_4, kq2, pf2_0, pf2_1, pf2_2, pf2_3, pf2_4, pf2_5, pf2_6, pf2_7, pf2_8, pf2_9, pf2_10, pf2_11, pf2_12, pf2_13, pf2_14, pf2_15, pf2_16, pf2_17, pf2_18, pf2_19, pf2_20⟩ := hQ2
  obtain ⟨Lg2, X2', N2⟩ := own_gen X2 (Fr.app N0 N2q)
  have g_b2_0 : n0 ≤ b2_0 := Nat.le_trans Z1 s2_0
  have sz_b2_0 : h0.size ≤ b2_0 := Nat.le_trans K1.1 s2_0
  have g_b2_1 : n0 ≤ b2_1 := Nat.le_trans Z1 (Nat.le_trans s2_0 (Nat.le_of_lt lt_b2_0_b2_1))
  have sz_b2_1 : h0.size ≤ b2_1 := Nat.le_trans K1.1 (Nat.le_trans s2_0 (Nat.le_of_lt lt_b2_0_b2_1))
  have g_b2_2 : n0 ≤ b2_2 := Nat.le_trans Z1 (Nat.le_trans s2_0 (Nat.le_of_lt (Nat.lt_trans lt_b2_0_b2_1 lt_b2_1_b2_2)))
  have sz_b2_2 : h0.size ≤ b2_2 := Nat.le_trans K1.1 (Nat.le_trans s2_0 (Nat.le_of_lt (Nat.lt_trans lt_b2_0_b2_1 lt_b2_1_b2_2)))
  have g_b2_3 : n0 ≤ b2_3 := Nat.le_trans Z1 (Nat.le_trans s2_0 (Nat.le_of_lt (Nat.lt_trans (Nat.lt_trans lt_b2_0_b2_1 lt_b2_1_b2_2) lt_b2_2_b2_3)))
  have sz_b2_3 : h0.size ≤ b2_3 := Nat.le_trans K1.1 (Nat.le_trans s2_0 (Nat.le_of_lt (Nat.lt_trans (Nat.lt_trans lt_b2_0_b2_1 lt_b2_1_b2_2) lt_b2_2_b2_3)))
  have g_b2_4 : n0 ≤ b2_4 := Nat.le_trans Z1 (Nat.le_trans s2_0 (Nat.le_of_lt (Nat.lt_trans (Nat.lt_trans (Nat.lt_trans lt_b2_0_b2_1 lt_b2_1_b2_2) lt_b2_2_b2_3) lt_b2_3_b2_4)))
  have sz_b2_4 : h0.size ≤ b2_4 := Nat.le_trans K1.1 (Nat.le_trans s2_0 (Nat.le_of_lt (Nat.lt_trans (Nat.lt_trans (Nat.lt_trans lt_b2_0_b2_1 lt_b2_1_b2_2) lt_b2_2_b2_3) lt_b2_3_b2_4)))
  have K2 : Keep h0 T2.heap [] := K1.trans kq2 (allS (Or.inr sz_b1) all0)
  have Z2 : n0 ≤ T2.heap.size := Nat.le_trans Z1 kq2.1
  obtain ⟨T3, h3, k3, X3, e3, E3, A3, x3, st3⟩ := newPE X2' hx hZ (hw _ (List.mem_of_getElem? (i := 18) rfl)) rfl (g := (mkF m 13 #[.val (.long q0), .second, .val (.long q1), .second, .val (.long q2), .second, .val (.long q3), .second, .val (.long q4), .second, .val (.long q5), .second, .val (.ref b1), .unset, .unset, .unset, .unset, .unset, .unset, .unset, .unset, .unset, .unset, .unset, .unset, .unset, .unset, .unset] [(.int (1 : Int32)), (.ref b1)])) rfl (hb hby at_13) rfl (by decide) (cap := 1) (by decide) (by decide) (by decide) (by decide) (ad := "[I") (by decide)
  obtain ⟨b3, g3⟩ : ∃ z, z = T2.heap.size := ⟨_, rfl⟩
  rw [← g3] at A3 x3 st3
  have g_b3 : n0 ≤ b3 := Nat.le_trans Z2 (Nat.le_of_eq g3.symm)
  have sz_b3 : h0.size ≤ b3 := Nat.le_trans K2.1 (Nat.le_of_eq g3.symm)
  have Z3 : n0 ≤ h3.size := Nat.le_trans Z2 E3.1
  have K3 : Keep h0 h3 [] := K2.ext E3
  have E_b3 := x3
  have V_b3 : Arv Z h3 b3 k3 .int (1 : Int32) [(.int (0 : Int32))] (.int (0 : Int32)) := (Arv.new A3 (by decide)).pad (pad_rep [] (.int (0 : Int32)) 1)
  obtain ⟨cl4, Ar4, qk4, Sz4, Ng4, Hs4, Gf4⟩ := id V_b3
  have hin5 : ¬ ((0 : Int32) < 0 ∨ cl4.slots.size ≤ ((0 : Int32)).toNatClampNeg) := inb_of Sz4 ⟨by decide, by decide⟩
  obtain ⟨T6, h6, X6, e6, W6, st6⟩ := stI X3 hx hZ e3 Ar4 (j := (0 : Int32)) hin5 (g := (mkF m 18 #[.val (.long q0), .second, .val (.long q1), .second, .val (.long q2), .second, .val (.long q3), .second, .val (.long q4), .second, .val (.long q5), .second, .val (.ref b1), .unset, .unset, .unset, .unset, .unset, .unset, .unset, .unset, .unset, .unset, .unset, .unset, .unset, .unset, .unset] [(.int (0 : Int32)), (.int (0 : Int32)), (.ref b3), (.ref b3), (.ref b1)])) rfl rfl (hb hby at_18)
  have K6 : Keep h0 h6 [] := K3.wr W6 (Or.inr sz_b3)
  have V_b3_6 : Arv Z h6 b3 k3 .int (1 : Int32) [(.int (0 : Int32))] (.int (0 : Int32)) := Arv.set (v := (.int (0 : Int32))) Ar4 qk4 Sz4 Ng4 Hs4 Gf4 rfl W6 0 rfl (Nat.le_of_ble_eq_true rfl)
  have Z6 : n0 ≤ h6.size := Nat.le_trans Z3 (Keep.of_wr W6).1
  obtain ⟨Lg6, X6', N6⟩ := own_gen X6 (Fr.snoc X6 N2 g_b3)
  have E_b1_u8 : Exa Z h6 b1 "com/example/headlattice/headlattice/learn/Coverage" := ((pf2_0.ext E3).wr W6)
  have ne_b1_b3 : b1 ≠ b3 := own_ne (Nat.lt_of_lt_of_le pf2_0.lt (Nat.le_of_eq g3.symm))
  have F_b1_labelCount_u9 : Fld Z h6 b1 "com/example/headlattice/headlattice/learn/Coverage" "labelCount" "I" (.int (1 : Int32)) := ((pf2_1.ext E3).other W6 (Or.inl ne_b1_b3))
  have F_b1_rowCount_u10 : Fld Z h6 b1 "com/example/headlattice/headlattice/learn/Coverage" "rowCount" "I" (.int (0 : Int32)) := ((pf2_7.ext E3).other W6 (Or.inl ne_b1_b3))
  have F_b1_pairsShared_u11 : Fld Z h6 b1 "com/example/headlattice/headlattice/learn/Coverage" "pairsShared" "Z" (.int (0 : Int32)) := ((pf2_8.ext E3).other W6 (Or.inl ne_b1_b3))
  have F_b1_openPairs_u12 : Fld Z h6 b1 "com/example/headlattice/headlattice/learn/Coverage" "openPairs" "[[I" (.ref b2_0) := ((pf2_2.ext E3).other W6 (Or.inl ne_b1_b3))
  have ne_b2_0_b3 : b2_0 ≠ b3 := own_ne (Nat.lt_of_lt_of_le pf2_10.lt (Nat.le_of_eq g3.symm))
  have V_b2_0_u13 : Arv Z h6 b2_0 kk2_0 (.array .int) (8 : Int32) [.null, .null, .null, .null, .null, .null, .null, .null] .null := ((pf2_11.ext E3).other W6 ne_b2_0_b3)
  have E_b2_0_u14 : Exa Z h6 b2_0 "[[I" := ((pf2_10.ext E3).wr W6)
  have F_b1_remainingCount_u15 : Fld Z h6 b1 "com/example/headlattice/headlattice/learn/Coverage" "remainingCount" "I" (.int (0 : Int32)) := ((pf2_9.ext E3).other W6 (Or.inl ne_b1_b3))
  have F_b1_openCounts_u16 : Fld Z h6 b1 "com/example/headlattice/headlattice/learn/Coverage" "openCounts" "[I" (.ref b2_3) := ((pf2_5.ext E3).other W6 (Or.inl ne_b1_b3))
  have ne_b2_3_b3 : b2_3 ≠ b3 := own_ne (Nat.lt_of_lt_of_le pf2_16.lt (Nat.le_of_eq g3.symm))
  have V_b2_3_u17 : Arv Z h6 b2_3 kk2_3 .int (2 : Int32) [(.int (0 : Int32)), (.int (0 : Int32))] (.int (0 : Int32)) := ((pf2_17.ext E3).other W6 ne_b2_3_b3)
  have E_b2_3_u18 : Exa Z h6 b2_3 "[I" := ((pf2_16.ext E3).wr W6)
  have F_b1_ones_u19 : Fld Z h6 b1 "com/example/headlattice/headlattice/learn/Coverage" "ones" "[I" (.ref b2_4) := ((pf2_6.ext E3).other W6 (Or.inl ne_b1_b3))
  have ne_b2_4_b3 : b2_4 ≠ b3 := own_ne (Nat.lt_of_lt_of_le pf2_18.lt (Nat.le_of_eq g3.symm))
  have V_b2_4_u20 : Arv Z h6 b2_4 kk2_4 .int (1 : Int32) [(.int (0 : Int32))] (.int (0 : Int32)) := ((pf2_19.ext E3).other W6 ne_b2_4_b3)
  have E_b2_4_u21 : Exa Z h6 b2_4 "[I" := ((pf2_18.ext E3).wr W6)
  have F_b1_covered_u22 : Fld Z h6 b1 "com/example/headlattice/headlattice/learn/Coverage" "covered" "[Z" (.ref b2_1) := ((pf2_3.ext E3).other W6 (Or.inl ne_b1_b3))
  have ne_b2_1_b3 : b2_1 ≠ b3 := own_ne (Nat.lt_of_lt_of_le pf2_12.lt (Nat.le_of_eq g3.symm))
  have V_b2_1_u23 : Arv Z h6 b2_1 kk2_1 .boolean (8 : Int32) [(.int (0 : Int32)), (.int (0 : Int32)), (.int (0 : Int32)), (.int (0 : Int32)), (.int (0 : Int32)), (.int (0 : Int32)), (.int (0 : Int32)), (.int (0 : Int32))] (.int (0 : Int32)) := ((pf2_13.ext E3).other W6 ne_b2_1_b3)
  have E_b2_1_u24 : Exa Z h6 b2_1 "[Z" := ((pf2_12.ext E3).wr W6)
  have ne_b1_b2_0 : b1 ≠ b2_0 := own_ne (Nat.lt_of_lt_of_le E_b1.lt s2_0)
  have ne_b1_b2_3 : b1 ≠ b2_3 := own_ne (Nat.lt_of_lt_of_le E_b1.lt (Nat.le_trans s2_0 (Nat.le_of_lt (Nat.lt_trans (Nat.lt_trans lt_b2_0_b2_1 lt_b2_1_b2_2) lt_b2_2_b2_3))))
  have ne_b2_0_b2_3 : b2_0 ≠ b2_3 := own_ne (Nat.lt_trans (Nat.lt_trans lt_b2_0_b2_1 lt_b2_1_b2_2) lt_b2_2_b2_3)
  have ne_b1_b2_4 : b1 ≠ b2_4 := own_ne (Nat.lt_of_lt_of_le E_b1.lt (Nat.le_trans s2_0 (Nat.le_of_lt (Nat.lt_trans (Nat.lt_trans (Nat.lt_trans lt_b2_0_b2_1 lt_b2_1_b2_2) lt_b2_2_b2_3) lt_b2_3_b2_4))))
  have ne_b2_0_b2_4 : b2_0 ≠ b2_4 := own_ne (Nat.lt_trans (Nat.lt_trans (Nat.lt_trans lt_b2_0_b2_1 lt_b2_1_b2_2) lt_b2_2_b2_3) lt_b2_3_b2_4)
  have ne_b2_3_b2_4 : b2_3 ≠ b2_4 := own_ne lt_b2_3_b2_4
  have ne_b1_b2_1 : b1 ≠ b2_1 := own_ne (Nat.lt_of_lt_of_le E_b1.lt (Nat.le_trans s2_0 (Nat.le_of_lt lt_b2_0_b2_1)))
  have ne_b2_0_b2_1 : b2_0 ≠ b2_1 := own_ne lt_b2_0_b2_1
  have ne_b2_1_b2_3 : b2_1 ≠ b2_3 := own_ne (Nat.lt_trans lt_b2_1_b2_2 lt_b2_2_b2_3)
  have ne_b2_1_b2_4 : b2_1 ≠ b2_4 := own_ne (Nat.lt_trans (Nat.lt_trans lt_b2_1_b2_2 lt_b2_2_b2_3) lt_b2_3_b2_4)
  obtain ⟨cq7, kq7, q7a, q7b, q7c⟩ := isOf hZ e6 E_b1_u8
  obtain ⟨_, _, ⟨T7, L7, k7', n7'⟩, -, X7, ⟨Lc7, hQ7, l7, y7, z7⟩, st7⟩ := X6'.virtualBack hx (y := (⟨"com/example/headlattice/headlattice/learn/Coverage", "addRow", "([IZ)I"⟩ : MethodName)) (z := (⟨"com/example/headlattice/headlattice/learn/Coverage", "addRow", "([IZ)I"⟩ : MethodName)) hown (mvT hZ (hw _ (List.mem_of_getElem? (i := 25) rfl))) (mvT hZ (hw _ (List.mem_of_getElem? (i := 26) rfl))) (notFace_of_selects (args := #[]) (mvT hZ (hw _ (List.mem_of_getElem? (i := 28) rfl)))) (mvT hZ (hw _ (List.mem_of_getElem? (i := 28) rfl))) (mvT hZ (hw _ (List.mem_of_getElem? (i := 27) rfl))) (by decide) (backOf (W := 0) (rm3 l Z az hw [] b1 b3 b2_0 kk2_0 k3 b2_3 kk2_3 b2_4 kk2_4 b2_1 kk2_1 h6 n0 Z6 E_b1_u8 F_b1_labelCount_u9 F_b1_rowCount_u10 F_b1_pairsShared_u11 F_b1_openPairs_u12 V_b2_0_u13 pf2_20 E_b2_0_u14 V_b3_6 F_b1_remainingCount_u15 F_b1_openCounts_u16 V_b2_3_u17 E_b2_3_u18 F_b1_ones_u19 V_b2_4_u20 E_b2_4_u21 F_b1_covered_u22 V_b2_1_u23 E_b2_1_u24 g_b1 (Ne.symm ne_b1_b2_0) g_b2_0 (Ne.symm ne_b1_b2_3) (Ne.symm ne_b2_0_b2_3) g_b2_3 (Ne.symm ne_b1_b2_4) (Ne.symm ne_b2_0_b2_4) (Ne.symm ne_b2_3_b2_4) g_b2_4 (Ne.symm ne_b1_b2_1) (Ne.symm ne_b2_0_b2_1) ne_b2_1_b2_3 ne_b2_1_b2_4 g_b2_1) hZ (hw _ (List.mem_of_getElem? (i := 29) rfl)) (hw _ (List.mem_of_getElem? (i := 2) rfl)) (by decide) (by decide)) q7a q7c (g := (mkF m 20 #[.val (.long q0), .second, .val (.long q1), .second, .val (.long q2), .second, .val (.long q3), .second, .val (.long q4), .second, .val (.long q5), .second, .val (.ref b1), .unset, .unset, .unset, .unset, .unset, .unset, .unset, .unset, .unset, .unset, .unset, .unset, .unset, .unset, .unset] [(.int (0 : Int32)), (.ref b3), (.ref b1)])) rfl (by rw [hml]; rfl) (Steps.refl _) (argsL := [(.ref b3), (.int (0 : Int32))]) (rest := []) (lenOf pd_6 rfl) rfl (by show 2 * 0 + _ ≤ _; exact Nat.le_of_eq rfl) (hb hby at_20) (fun _ _ => ⟨rfl, e6, (by decide : 7 + 1 ≤ _), (by decide : 31 + 1 ≤ _)⟩)
  dsimp only [Pt.U, Pt.locs, Pt.cells, Pt.slots] at X7 l7 y7 z7 st7 hQ7
  subst l7 y7 z7
  obtain ⟨b7_0, kk7_0, rfl, N7q, s7_0, kq7, pf7_0, pf7_1, pf7_2, pf7_3, pf7_4, pf7_5, pf7_6, pf7_7, pf7_8, pf7_9, pf7_10, pf7_11, pf7_12, pf7_13, pf7_14, pf7_15, pf7_16, pf7_17, pf7_18⟩ := hQ7
  obtain ⟨Lg7, X7', N7⟩ := own_gen X7 (Fr.app N6 N7q)
  have g_b7_0 : n0 ≤ b7_0 := Nat.le_trans Z6 s7_0
  have sz_b7_0 : h0.size ≤ b7_0 := Nat.le_trans K6.1 s7_0
  have K7 : Keep h0 T7.heap [] := K6.trans kq7 (allS (Or.inr sz_b1) (allS (Or.inr sz_b2_0) (allS (Or.inr sz_b2_3) (allS (Or.inr sz_b2_4) (allS (Or.inr sz_b2_1) all0)))))
  have Z7 : n0 ≤ T7.heap.size := Nat.le_trans Z6 kq7.1
  obtain ⟨_, _, ⟨T25, L25, k25', n25'⟩, -, X25, ⟨Lc25, hQ25, l25, y25, z25⟩, st25⟩ := Jvm.LawKit.callS X7' hx (y := (⟨"com/example/headlattice/headlattice/learn/Tally", "empty", "(Lcom/example/headlattice/headlattice/learn/Coverage;Z)Lcom/example/headlattice/headlattice/learn/Tally;"⟩ : MethodName)) hown (mvT hZ (hw _ (List.mem_of_getElem? (i := 41) rfl))) (mvT hZ (hw _ (List.mem_of_getElem? (i := 42) rfl))) (mvT hZ (hw _ (List.mem_of_getElem? (i := 43) rfl))) (mvT hZ (hw _ (List.mem_of_getElem? (i := 44) rfl))) (by decide) (backOf (W := 0) (rm5 l Z az hw [] b1 b2_0 kk2_0 b7_0 kk7_0 T7.heap n0 Z7 pf7_0 pf7_1 pf7_2 pf7_3 pf7_4 pf7_9 pf2_20 pf7_10 pf7_18) hZ (hw _ (List.mem_of_getElem? (i := 44) rfl)) (hw _ (List.mem_of_getElem? (i := 43) rfl)) (by decide) (by decide)) (g := (mkF m 27 #[.val (.long q0), .second, .val (.long q1), .second, .val (.long q2), .second, .val (.long q3), .second, .val (.long q4), .second, .val (.long q5), .second, .val (.ref b1), .unset, .unset, .unset, .unset, .unset, .unset, .unset, .unset, .unset, .unset, .unset, .unset, .unset, .unset, .unset] [(.int (1 : Int32)), (.ref b1)])) rfl (by rw [hml]; rfl) (argsL := [(.ref b1), (.int (1 : Int32))]) (rest := []) (lenOf pd_7 rfl) rfl (by show 2 * 0 + _ ≤ _; exact Nat.le_of_eq rfl) (hb hby at_27) (fun _ _ => ⟨rfl, rfl, (by decide : 8 + 2 ≤ _), (by decide : 32 + 7 ≤ _)⟩)
  dsimp only [Pt.U, Pt.locs, Pt.cells, Pt.slots] at X25 l25 y25 z25 st25 hQ25
  subst l25 y25 z25
  obtain ⟨b25_0, b25_1, kk25_0, rfl, N25q, s25_0, lt_b25_0_b25_1, kq25, pf25_0, pf25_1, pf25_2, pf25_3, pf25_4, pf25_5, pf25_6, pf25_7, pf25_8⟩ := hQ25
  obtain ⟨Lg25, X25', N25⟩ := own_gen X25 (Fr.app N7 N25q)
  have g_b25_0 : n0 ≤ b25_0 := Nat.le_trans Z7 s25_0
  have sz_b25_0 : h0.size ≤ b25_0 := Nat.le_trans K7.1 s25_0
  have g_b25_1 : n0 ≤ b25_1 := Nat.le_trans Z7 (Nat.le_trans s25_0 (Nat.le_of_lt lt_b25_0_b25_1))
  have sz_b25_1 : h0.size ≤ b25_1 := Nat.le_trans K7.1 (Nat.le_trans s25_0 (Nat.le_of_lt lt_b25_0_b25_1))
  have K25 : Keep h0 T25.heap [] := K7.trans kq25 all0
  have Z25 : n0 ≤ T25.heap.size := Nat.le_trans Z7 kq25.1
  have E_b1_u27 : Exa Z T25.heap b1 "com/example/headlattice/headlattice/learn/Coverage" := (pf7_0.keep kq25)
  have F_b1_labelCount_u28 : Fld Z T25.heap b1 "com/example/headlattice/headlattice/learn/Coverage" "labelCount" "I" (.int (1 : Int32)) := (pf7_1.keep kq25 nin0)
  have F_b1_rowCount_u29 : Fld Z T25.heap b1 "com/example/headlattice/headlattice/learn/Coverage" "rowCount" "I" (.int (1 : Int32)) := (pf7_2.keep kq25 nin0)
  have F_b1_pairsShared_u30 : Fld Z T25.heap b1 "com/example/headlattice/headlattice/learn/Coverage" "pairsShared" "Z" (.int (0 : Int32)) := (pf7_3.keep kq25 nin0)
  have F_b1_openPairs_u31 : Fld Z T25.heap b1 "com/example/headlattice/headlattice/learn/Coverage" "openPairs" "[[I" (.ref b2_0) := (pf7_4.keep kq25 nin0)
  have V_b2_0_u32 : Arv Z T25.heap b2_0 kk2_0 (.array .int) (8 : Int32) [(.ref b7_0), .null, .null, .null, .null, .null, .null, .null] .null := (pf7_9.keep kq25 nin0)
  have E_b2_0_u33 : Exa Z T25.heap b2_0 "[[I" := (pf7_10.keep kq25)
  have V_b7_0_u34 : Arv Z T25.heap b7_0 kk7_0 .int (1 : Int32) [(.int (0 : Int32))] (.int (0 : Int32)) := (pf7_18.keep kq25 nin0)
  obtain ⟨_, _, ⟨T26, L26, k26', n26'⟩, -, X26, ⟨Lc26, hQ26, l26, y26, z26⟩, st26⟩ := Jvm.LawKit.callS X25' hx (y := (⟨"com/example/headlattice/headlattice/learn/Tally", "empty", "(Lcom/example/headlattice/headlattice/learn/Coverage;Z)Lcom/example/headlattice/headlattice/learn/Tally;"⟩ : MethodName)) hown (mvT hZ (hw _ (List.mem_of_getElem? (i := 41) rfl))) (mvT hZ (hw _ (List.mem_of_getElem? (i := 42) rfl))) (mvT hZ (hw _ (List.mem_of_getElem? (i := 43) rfl))) (mvT hZ (hw _ (List.mem_of_getElem? (i := 44) rfl))) (by decide) (backOf (W := 0) (rm5 l Z az hw [] b1 b2_0 kk2_0 b7_0 kk7_0 T25.heap n0 Z25 E_b1_u27 F_b1_labelCount_u28 F_b1_rowCount_u29 F_b1_pairsShared_u30 F_b1_openPairs_u31 V_b2_0_u32 pf2_20 E_b2_0_u33 V_b7_0_u34) hZ (hw _ (List.mem_of_getElem? (i := 44) rfl)) (hw _ (List.mem_of_getElem? (i := 43) rfl)) (by decide) (by decide)) (g := (mkF m 35 #[.val (.long q0), .second, .val (.long q1), .second, .val (.long q2), .second, .val (.long q3), .second, .val (.long q4), .second, .val (.long q5), .second, .val (.ref b1), .val (.ref b25_1), .unset, .unset, .unset, .unset, .unset, .unset, .unset, .unset, .unset, .unset, .unset, .unset, .unset, .unset] [(.int (1 : Int32)), (.ref b1)])) rfl (by rw [hml]; rfl) (argsL := [(.ref b1), (.int (1 : Int32))]) (rest := []) (lenOf pd_7 rfl) rfl (by show 2 * 0 + _ ≤ _; exact Nat.le_of_eq rfl) (hb hby at_35) (fun _ _ => ⟨rfl, rfl, (by decide : 10 + 2 ≤ _), (by decide : 39 + 7 ≤ _)⟩)
  dsimp only [Pt.U, Pt.locs, Pt.cells, Pt.slots] at X26 l26 y26 z26 st26 hQ26
  subst l26 y26 z26
  obtain ⟨b26_0, b26_1, kk26_0, rfl, N26q, s26_0, lt_b26_0_b26_1, kq26, pf26_0, pf26_1, pf26_2, pf26_3, pf26_4, pf26_5, pf26_6, pf26_7, pf26_8⟩ := hQ26
  obtain ⟨Lg26, X26', N26⟩ := own_gen X26 (Fr.app N25 N26q)
  have g_b26_0 : n0 ≤ b26_0 := Nat.le_trans Z25 s26_0
  have sz_b26_0 : h0.size ≤ b26_0 := Nat.le_trans K25.1 s26_0
  have g_b26_1 : n0 ≤ b26_1 := Nat.le_trans Z25 (Nat.le_trans s26_0 (Nat.le_of_lt lt_b26_0_b26_1))
  have sz_b26_1 : h0.size ≤ b26_1 := Nat.le_trans K25.1 (Nat.le_trans s26_0 (Nat.le_of_lt lt_b26_0_b26_1))
  have K26 : Keep h0 T26.heap [] := K25.trans kq26 all0
  have Z26 : n0 ≤ T26.heap.size := Nat.le_trans Z25 kq26.1
  have F_b25_1_rightRows_u36 : Fld Z T26.heap b25_1 "com/example/headlattice/headlattice/learn/Tally" "rightRows" "[J" (.ref b25_0) := (pf25_3.keep kq26 nin0)
  have V_b25_0_u37 : Arv Z T26.heap b25_0 kk25_0 .long (1 : Int32) [(.long (1 : Int64))] (.long (0 : Int64)) := (pf25_1.keep kq26 nin0)
  have F_b25_1_remainingRows_u38 : Fld Z T26.heap b25_1 "com/example/headlattice/headlattice/learn/Tally" "remainingRows" "I" (.int (1 : Int32)) := (pf25_4.keep kq26 nin0)
  obtain ⟨_, _, ⟨T35, L35, k35', n35'⟩, -, X35, ⟨Lc35, hQ35, l35, y35, z35⟩, st35⟩ := Jvm.LawKit.callS X26' hx (y := (⟨"com/example/headlattice/headlattice/learn/Tally", "blankLike", "(Lcom/example/headlattice/headlattice/learn/Tally;)Lcom/example/headlattice/headlattice/learn/Tally;"⟩ : MethodName)) hown (mvT hZ (hw _ (List.mem_of_getElem? (i := 71) rfl))) (mvT hZ (hw _ (List.mem_of_getElem? (i := 72) rfl))) (mvT hZ (hw _ (List.mem_of_getElem? (i := 43) rfl))) (mvT hZ (hw _ (List.mem_of_getElem? (i := 73) rfl))) (by decide) (backOf (W := 0) (rm10 l Z az hw [] b25_1 b25_0 kk25_0 (1 : Int64) (1 : Int32) T26.heap n0 Z26 F_b25_1_rightRows_u36 V_b25_0_u37 F_b25_1_remainingRows_u38) hZ (hw _ (List.mem_of_getElem? (i := 73) rfl)) (hw _ (List.mem_of_getElem? (i := 43) rfl)) (by decide) (by decide)) (g := (mkF m 42 #[.val (.long q0), .second, .val (.long q1), .second, .val (.long q2), .second, .val (.long q3), .second, .val (.long q4), .second, .val (.long q5), .second, .val (.ref b1), .val (.ref b25_1), .val (.ref b26_1), .unset, .unset, .unset, .unset, .unset, .unset, .unset, .unset, .unset, .unset, .unset, .unset, .unset] [(.ref b25_1)])) rfl (by rw [hml]; rfl) (argsL := [(.ref b25_1)]) (rest := []) (lenOf pd_8 rfl) rfl (by show 2 * 0 + _ ≤ _; exact Nat.le_of_eq rfl) (hb hby at_42) (fun _ _ => ⟨rfl, rfl, (by decide : 12 + 2 ≤ _), (by decide : 46 + 7 ≤ _)⟩)
  dsimp only [Pt.U, Pt.locs, Pt.cells, Pt.slots] at X35 l35 y35 z35 st35 hQ35
  subst l35 y35 z35
  obtain ⟨b35_0, b35_1, kk35_0, rfl, N35q, s35_0, lt_b35_0_b35_1, kq35, pf35_0, pf35_1, pf35_2, pf35_3, pf35_4, pf35_5, pf35_6, pf35_7, pf35_8⟩ := hQ35
  obtain ⟨Lg35, X35', N35⟩ := own_gen X35 (Fr.app N26 N35q)
  have g_b35_0 : n0 ≤ b35_0 := Nat.le_trans Z26 s35_0
  have sz_b35_0 : h0.size ≤ b35_0 := Nat.le_trans K26.1 s35_0
  have g_b35_1 : n0 ≤ b35_1 := Nat.le_trans Z26 (Nat.le_trans s35_0 (Nat.le_of_lt lt_b35_0_b35_1))
  have sz_b35_1 : h0.size ≤ b35_1 := Nat.le_trans K26.1 (Nat.le_trans s35_0 (Nat.le_of_lt lt_b35_0_b35_1))
  have K35 : Keep h0 T35.heap [] := K26.trans kq35 all0
  have Z35 : n0 ≤ T35.heap.size := Nat.le_trans Z26 kq35.1
  obtain ⟨T39, h39, X39, e39, E39, A39, D39, -, st39⟩ := newO X35' hx hZ hown (hw _ (List.mem_of_getElem? (i := 74) rfl)) (hw _ (List.mem_of_getElem? (i := 52) rfl)) (hw _ (List.mem_of_getElem? (i := 43) rfl)) rfl (g := (mkF m 47 #[.val (.long q0), .second, .val (.long q1), .second, .val (.long q2), .second, .val (.long q3), .second, .val (.long q4), .second, .val (.long q5), .second, .val (.ref b1), .val (.ref b25_1), .val (.ref b26_1), .val (.ref b35_0), .unset, .unset, .unset, .unset, .unset, .unset, .unset, .unset, .unset, .unset, .unset, .unset] [])) rfl (hb hby at_47) (by decide) (by decide)
  obtain ⟨b39, g39⟩ : ∃ z, z = T35.heap.size := ⟨_, rfl⟩
  rw [← g39] at A39 D39 st39
  have g_b39 : n0 ≤ b39 := Nat.le_trans Z35 (Nat.le_of_eq g39.symm)
  have sz_b39 : h0.size ≤ b39 := Nat.le_trans K35.1 (Nat.le_of_eq g39.symm)
  have Z39 : n0 ≤ h39.size := Nat.le_trans Z35 E39.1
  have K39 : Keep h0 h39 [] := K35.ext E39
  have E_b39 := A39
  have F_rightRows_b39 : Fld Z h39 b39 "com/example/headlattice/headlattice/learn/Tally" "rightRows" "[J" .null := D39 (Or.inr (hw _ (List.mem_of_getElem? (i := 68) rfl))) (ty := (.array .long)) (by decide)
  have F_remainingRows_b39 : Fld Z h39 b39 "com/example/headlattice/headlattice/learn/Tally" "remainingRows" "I" (.int (0 : Int32)) := D39 (Or.inl (hw _ (List.mem_of_getElem? (i := 70) rfl))) (ty := .int) (by decide)
  have F_truePositives_b39 : Fld Z h39 b39 "com/example/headlattice/headlattice/learn/Tally" "truePositives" "J" (.long (0 : Int64)) := D39 (Or.inl (hw _ (List.mem_of_getElem? (i := 79) rfl))) (ty := .long) (by decide)
  have F_falsePositives_b39 : Fld Z h39 b39 "com/example/headlattice/headlattice/learn/Tally" "falsePositives" "J" (.long (0 : Int64)) := D39 (Or.inl (hw _ (List.mem_of_getElem? (i := 81) rfl))) (ty := .long) (by decide)
  have F_trueNegatives_b39 : Fld Z h39 b39 "com/example/headlattice/headlattice/learn/Tally" "trueNegatives" "J" (.long (0 : Int64)) := D39 (Or.inl (hw _ (List.mem_of_getElem? (i := 83) rfl))) (ty := .long) (by decide)
  have F_falseNegatives_b39 : Fld Z h39 b39 "com/example/headlattice/headlattice/learn/Tally" "falseNegatives" "J" (.long (0 : Int64)) := D39 (Or.inl (hw _ (List.mem_of_getElem? (i := 85) rfl))) (ty := .long) (by decide)
  obtain ⟨_, _, ⟨T40, L40, k40', n40'⟩, -, X40, ⟨Lc40, hQ40, l40, y40, z40⟩, st40⟩ := X39.specialBack hx (y := (⟨"com/example/headlattice/headlattice/learn/Tally", "<init>", "()V"⟩ : MethodName)) rfl hown (mvT hZ (hw _ (List.mem_of_getElem? (i := 75) rfl))) (mvT hZ (hw _ (List.mem_of_getElem? (i := 76) rfl))) (mvT hZ (hw _ (List.mem_of_getElem? (i := 77) rfl))) (by decide) (backOf (W := 1) (rm11 l Z az hw [] b39 h39 n0 Z39 E_b39 F_rightRows_b39 F_remainingRows_b39 F_truePositives_b39 F_falsePositives_b39 F_trueNegatives_b39 F_falseNegatives_b39 g_b39) hZ (hw _ (List.mem_of_getElem? (i := 77) rfl)) (hw _ (List.mem_of_getElem? (i := 43) rfl)) (by decide) (by decide)) (g := (mkF m 51 #[.val (.long q0), .second, .val (.long q1), .second, .val (.long q2), .second, .val (.long q3), .second, .val (.long q4), .second, .val (.long q5), .second, .val (.ref b1), .val (.ref b25_1), .val (.ref b26_1), .val (.ref b35_0), .unset, .unset, .unset, .unset, .unset, .unset, .unset, .unset, .unset, .unset, .unset, .unset] [(.ref b39), (.ref b39)])) rfl (by rw [hml]; rfl) (Steps.refl _) (a := b39) (argsL := []) (rest := [(.ref b39)]) (lenOf pd_1 rfl) rfl (by show 2 * 0 + _ ≤ _; exact Nat.le_of_eq rfl) (hb hby at_51) (fun _ _ => ⟨rfl, e39, (by decide : 15 + 0 ≤ _), (by decide : 59 + 0 ≤ _)⟩)
  dsimp only [Pt.U, Pt.locs, Pt.cells, Pt.slots] at X40 l40 y40 z40 st40 hQ40
  subst l40 y40 z40
  obtain ⟨rfl, N40q, kq40, pf40_0, pf40_1, pf40_2, pf40_3, pf40_4, pf40_5, pf40_6⟩ := hQ40
  obtain ⟨Lg40, X40', N40⟩ := own_gen X40 (Fr.app N35 N40q)
  have K40 : Keep h0 T40.heap [] := K39.trans kq40 (allS (Or.inr sz_b39) all0)
  have Z40 : n0 ≤ T40.heap.size := Nat.le_trans Z39 kq40.1
  have c41 : Fld Z h39 b25_1 "com/example/headlattice/headlattice/learn/Tally" "truePositives" "J" (.long (0 : Int64)) := (((pf25_5.keep kq26 nin0).keep kq35 nin0).ext E39)
  have ne_b25_1_b39 : b25_1 ≠ b39 := own_ne (Nat.lt_of_lt_of_le ((pf25_2.keep kq26).keep kq35).lt (Nat.le_of_eq g39.symm))
  have F_b25_1_truePositives_u42 : Fld Z T40.heap b25_1 "com/example/headlattice/headlattice/learn/Tally" "truePositives" "J" (.long (0 : Int64)) := (c41.keep kq40 (ninS ne_b25_1_b39 nin0))
  have c43 : Exa Z h39 b25_1 "com/example/headlattice/headlattice/learn/Tally" := (((pf25_2.keep kq26).keep kq35).ext E39)
  have E_b25_1_u44 : Exa Z T40.heap b25_1 "com/example/headlattice/headlattice/learn/Tally" := (c43.keep kq40)
  obtain ⟨T45, h45, X45, e45, W45, st45⟩ := putF X40' hx hZ hown (host := "") (Or.inl (hw _ (List.mem_of_getElem? (i := 78) rfl))) Via.refl rfl F_b25_1_truePositives_u42 E_b25_1_u44 (Or.inl (hw _ (List.mem_of_getElem? (i := 79) rfl))) (hw _ (List.mem_of_getElem? (i := 52) rfl)) (ty := .long) (by decide) rfl rfl (g := (mkF m 59 #[.val (.long q0), .second, .val (.long q1), .second, .val (.long q2), .second, .val (.long q3), .second, .val (.long q4), .second, .val (.long q5), .second, .val (.ref b1), .val (.ref b25_1), .val (.ref b26_1), .val (.ref b35_0), .val (.ref b39), .unset, .unset, .unset, .unset, .unset, .unset, .unset, .unset, .unset, .unset, .unset] [(.long q0), (.ref b25_1)])) rfl rfl (hb hby at_59)
  have K45 : Keep h0 h45 [] := K40.wr W45 (Or.inr sz_b25_1)
  have Fw45 := F_b25_1_truePositives_u42.same W45
  have Z45 : n0 ≤ h45.size := Nat.le_trans Z40 (Keep.of_wr W45).1
  obtain ⟨Lg45, X45', N45⟩ := own_gen X45 (Fr.snoc X45 N40 g_b25_1)
  have c46 : Fld Z h39 b25_1 "com/example/headlattice/headlattice/learn/Tally" "falsePositives" "J" (.long (0 : Int64)) := (((pf25_6.keep kq26 nin0).keep kq35 nin0).ext E39)
  have sl47 := slot_ne (Z := Z) (Or.inl (hw _ (List.mem_of_getElem? (i := 81) rfl))) (Or.inl (hw _ (List.mem_of_getElem? (i := 79) rfl))) (by decide) (t := .long) (t' := .long) (by decide) (by decide)
  have F_b25_1_falsePositives_u48 : Fld Z h45 b25_1 "com/example/headlattice/headlattice/learn/Tally" "falsePositives" "J" (.long (0 : Int64)) := ((c46.keep kq40 (ninS ne_b25_1_b39 nin0)).other W45 (Or.inr sl47))
  have E_b25_1_u49 : Exa Z h45 b25_1 "com/example/headlattice/headlattice/learn/Tally" := (E_b25_1_u44.wr W45)
  obtain ⟨T50, h50, X50, e50, W50, st50⟩ := putF X45' hx hZ hown (host := "") (Or.inl (hw _ (List.mem_of_getElem? (i := 80) rfl))) Via.refl e45 F_b25_1_falsePositives_u48 E_b25_1_u49 (Or.inl (hw _ (List.mem_of_getElem? (i := 81) rfl))) (hw _ (List.mem_of_getElem? (i := 52) rfl)) (ty := .long) (by decide) rfl rfl (g := (mkF m 65 #[.val (.long q0), .second, .val (.long q1), .second, .val (.long q2), .second, .val (.long q3), .second, .val (.long q4), .second, .val (.long q5), .second, .val (.ref b1), .val (.ref b25_1), .val (.ref b26_1), .val (.ref b35_0), .val (.ref b39), .unset, .unset, .unset, .unset, .unset, .unset, .unset, .unset, .unset, .unset, .unset] [(.long q1), (.ref b25_1)])) rfl rfl (hb hby at_65)
  have K50 : Keep h0 h50 [] := K45.wr W50 (Or.inr sz_b25_1)
  have Fw50 := F_b25_1_falsePositives_u48.same W50
  have Z50 : n0 ≤ h50.size := Nat.le_trans Z45 (Keep.of_wr W50).1
  obtain ⟨Lg50, X50', N50⟩ := own_gen X50 (Fr.snoc X50 N45 g_b25_1)
  have c51 : Fld Z h39 b25_1 "com/example/headlattice/headlattice/learn/Tally" "trueNegatives" "J" (.long (0 : Int64)) := (((pf25_7.keep kq26 nin0).keep kq35 nin0).ext E39)
  have sl52 := slot_ne (Z := Z) (Or.inl (hw _ (List.mem_of_getElem? (i := 83) rfl))) (Or.inl (hw _ (List.mem_of_getElem? (i := 79) rfl))) (by decide) (t := .long) (t' := .long) (by decide) (by decide)
  have sl53 := slot_ne (Z := Z) (Or.inl (hw _ (List.mem_of_getElem? (i := 83) rfl))) (Or.inl (hw _ (List.mem_of_getElem? (i := 81) rfl))) (by decide) (t := .long) (t' := .long) (by decide) (by decide)
  have F_b25_1_trueNegatives_u54 : Fld Z h50 b25_1 "com/example/headlattice/headlattice/learn/Tally" "trueNegatives" "J" (.long (0 : Int64)) := (((c51.keep kq40 (ninS ne_b25_1_b39 nin0)).other W45 (Or.inr sl52)).other W50 (Or.inr sl53))
  have E_b25_1_u55 : Exa Z h50 b25_1 "com/example/headlattice/headlattice/learn/Tally" := (E_b25_1_u49.wr W50)
  obtain ⟨T56, h56, X56, e56, W56, st56⟩ := putF X50' hx hZ hown (host := "") (Or.inl (hw _ (List.mem_of_getElem? (i := 82) rfl))) Via.refl e50 F_b25_1_trueNegatives_u54 E_b25_1_u55 (Or.inl (hw _ (List.mem_of_getElem? (i := 83) rfl))) (hw _ (List.mem_of_getElem? (i := 52) rfl)) (ty := .long) (by decide) rfl rfl (g := (mkF m 72 #[.val (.long q0), .second, .val (.long q1), .second, .val (.long q2), .second, .val (.long q3), .second, .val (.long q4), .second, .val (.long q5), .second, .val (.ref b1), .val (.ref b25_1), .val (.ref b26_1), .val (.ref b35_0), .val (.ref b39), .unset, .unset, .unset, .unset, .unset, .unset, .unset, .unset, .unset, .unset, .unset] [(.long q2), (.ref b25_1)])) rfl rfl (hb hby at_72)
  have K56 : Keep h0 h56 [] := K50.wr W56 (Or.inr sz_b25_1)
  have Fw56 := F_b25_1_trueNegatives_u54.same W56
  have Z56 : n0 ≤ h56.size := Nat.le_trans Z50 (Keep.of_wr W56).1
  obtain ⟨Lg56, X56', N56⟩ := own_gen X56 (Fr.snoc X56 N50 g_b25_1)
  have c57 : Fld Z h39 b25_1 "com/example/headlattice/headlattice/learn/Tally" "falseNegatives" "J" (.long (0 : Int64)) := (((pf25_8.keep kq26 nin0).keep kq35 nin0).ext E39)
  have sl58 := slot_ne (Z := Z) (Or.inl (hw _ (List.mem_of_getElem? (i := 85) rfl))) (Or.inl (hw _ (List.mem_of_getElem? (i := 79) rfl))) (by decide) (t := .long) (t' := .long) (by decide) (by decide)
  have sl59 := slot_ne (Z := Z) (Or.inl (hw _ (List.mem_of_getElem? (i := 85) rfl))) (Or.inl (hw _ (List.mem_of_getElem? (i := 81) rfl))) (by decide) (t := .long) (t' := .long) (by decide) (by decide)
  have c60 : Fld Z h50 b25_1 "com/example/headlattice/headlattice/learn/Tally" "falseNegatives" "J" (.long (0 : Int64)) := (((c57.keep kq40 (ninS ne_b25_1_b39 nin0)).other W45 (Or.inr sl58)).other W50 (Or.inr sl59))
  have sl61 := slot_ne (Z := Z) (Or.inl (hw _ (List.mem_of_getElem? (i := 85) rfl))) (Or.inl (hw _ (List.mem_of_getElem? (i := 83) rfl))) (by decide) (t := .long) (t' := .long) (by decide) (by decide)
  have F_b25_1_falseNegatives_u62 : Fld Z h56 b25_1 "com/example/headlattice/headlattice/learn/Tally" "falseNegatives" "J" (.long (0 : Int64)) := (c60.other W56 (Or.inr sl61))
  have E_b25_1_u63 : Exa Z h56 b25_1 "com/example/headlattice/headlattice/learn/Tally" := (E_b25_1_u55.wr W56)
  obtain ⟨T64, h64, X64, e64, W64, st64⟩ := putF X56' hx hZ hown (host := "") (Or.inl (hw _ (List.mem_of_getElem? (i := 84) rfl))) Via.refl e56 F_b25_1_falseNegatives_u62 E_b25_1_u63 (Or.inl (hw _ (List.mem_of_getElem? (i := 85) rfl))) (hw _ (List.mem_of_getElem? (i := 52) rfl)) (ty := .long) (by decide) rfl rfl (g := (mkF m 79 #[.val (.long q0), .second, .val (.long q1), .second, .val (.long q2), .second, .val (.long q3), .second, .val (.long q4), .second, .val (.long q5), .second, .val (.ref b1), .val (.ref b25_1), .val (.ref b26_1), .val (.ref b35_0), .val (.ref b39), .unset, .unset, .unset, .unset, .unset, .unset, .unset, .unset, .unset, .unset, .unset] [(.long q3), (.ref b25_1)])) rfl rfl (hb hby at_79)
  have K64 : Keep h0 h64 [] := K56.wr W64 (Or.inr sz_b25_1)
  have Fw64 := F_b25_1_falseNegatives_u62.same W64
  have Z64 : n0 ≤ h64.size := Nat.le_trans Z56 (Keep.of_wr W64).1
  obtain ⟨Lg64, X64', N64⟩ := own_gen X64 (Fr.snoc X64 N56 g_b25_1)
  have c65 : Fld Z T40.heap b25_1 "com/example/headlattice/headlattice/learn/Tally" "rightRows" "[J" (.ref b25_0) := (((F_b25_1_rightRows_u36.keep kq35 nin0).ext E39).keep kq40 (ninS ne_b25_1_b39 nin0))
  have sl66 := slot_ne (Z := Z) (Or.inr (hw _ (List.mem_of_getElem? (i := 68) rfl))) (Or.inl (hw _ (List.mem_of_getElem? (i := 79) rfl))) (by decide) (t := (.array .long)) (t' := .long) (by decide) (by decide)
  have sl67 := slot_ne (Z := Z) (Or.inr (hw _ (List.mem_of_getElem? (i := 68) rfl))) (Or.inl (hw _ (List.mem_of_getElem? (i := 81) rfl))) (by decide) (t := (.array .long)) (t' := .long) (by decide) (by decide)
  have sl68 := slot_ne (Z := Z) (Or.inr (hw _ (List.mem_of_getElem? (i := 68) rfl))) (Or.inl (hw _ (List.mem_of_getElem? (i := 83) rfl))) (by decide) (t := (.array .long)) (t' := .long) (by decide) (by decide)
  have c69 : Fld Z h56 b25_1 "com/example/headlattice/headlattice/learn/Tally" "rightRows" "[J" (.ref b25_0) := (((c65.other W45 (Or.inr sl66)).other W50 (Or.inr sl67)).other W56 (Or.inr sl68))
  have sl70 := slot_ne (Z := Z) (Or.inr (hw _ (List.mem_of_getElem? (i := 68) rfl))) (Or.inl (hw _ (List.mem_of_getElem? (i := 85) rfl))) (by decide) (t := (.array .long)) (t' := .long) (by decide) (by decide)
  have F_b25_1_rightRows_u71 : Fld Z h64 b25_1 "com/example/headlattice/headlattice/learn/Tally" "rightRows" "[J" (.ref b25_0) := (c69.other W64 (Or.inr sl70))
  obtain ⟨T72, X72, e72, st72⟩ := getF X64' hx hZ hown (host := "") (Or.inl (hw _ (List.mem_of_getElem? (i := 86) rfl))) Via.refl e64 F_b25_1_rightRows_u71 (g := (mkF m 84 #[.val (.long q0), .second, .val (.long q1), .second, .val (.long q2), .second, .val (.long q3), .second, .val (.long q4), .second, .val (.long q5), .second, .val (.ref b1), .val (.ref b25_1), .val (.ref b26_1), .val (.ref b35_0), .val (.ref b39), .unset, .unset, .unset, .unset, .unset, .unset, .unset, .unset, .unset, .unset, .unset] [(.ref b25_1)])) rfl rfl (hb hby at_84)
  have ne_b25_0_b39 : b25_0 ≠ b39 := own_ne (Nat.lt_of_lt_of_le ((pf25_0.keep kq26).keep kq35).lt (Nat.le_of_eq g39.symm))
  have c73 : Arv Z T40.heap b25_0 kk25_0 .long (1 : Int32) [(.long (1 : Int64))] (.long (0 : Int64)) := (((V_b25_0_u37.keep kq35 nin0).ext E39).keep kq40 (ninS ne_b25_0_b39 nin0))
  have ne_b25_0_b25_1 : b25_0 ≠ b25_1 := own_ne lt_b25_0_b25_1
  have c74 : Arv Z h56 b25_0 kk25_0 .long (1 : Int32) [(.long (1 : Int64))] (.long (0 : Int64)) := (((c73.other W45 ne_b25_0_b25_1).other W50 ne_b25_0_b25_1).other W56 ne_b25_0_b25_1)
  have V_b25_0_u75 : Arv Z h64 b25_0 kk25_0 .long (1 : Int32) [(.long (1 : Int64))] (.long (0 : Int64)) := (c74.other W64 ne_b25_0_b25_1)
  obtain ⟨cl76, Ar76, qk76, Sz76, Ng76, Hs76, Gf76⟩ := id V_b25_0_u75
  have hin77 : ¬ ((0 : Int32) < 0 ∨ cl76.slots.size ≤ ((0 : Int32)).toNatClampNeg) := inb_of Sz76 ⟨by decide, by decide⟩
  obtain ⟨T78, h78, X78, e78, W78, st78⟩ := stJ X72 hx hZ e72 Ar76 (j := (0 : Int32)) hin77 (g := (mkF m 90 #[.val (.long q0), .second, .val (.long q1), .second, .val (.long q2), .second, .val (.long q3), .second, .val (.long q4), .second, .val (.long q5), .second, .val (.ref b1), .val (.ref b25_1), .val (.ref b26_1), .val (.ref b35_0), .val (.ref b39), .unset, .unset, .unset, .unset, .unset, .unset, .unset, .unset, .unset, .unset, .unset] [(.long q4), (.int (0 : Int32)), (.ref b25_0)])) rfl rfl (hb hby at_90)
  have K78 : Keep h0 h78 [] := K64.wr W78 (Or.inr sz_b25_0)
  have V_b25_0_78 : Arv Z h78 b25_0 kk25_0 .long (1 : Int32) [(.long q4)] (.long (0 : Int64)) := Arv.set (v := (.long q4)) Ar76 qk76 Sz76 Ng76 Hs76 Gf76 rfl W78 0 rfl (Nat.le_of_ble_eq_true rfl)
  have Z78 : n0 ≤ h78.size := Nat.le_trans Z64 (Keep.of_wr W78).1
  obtain ⟨Lg78, X78', N78⟩ := own_gen X78 (Fr.snoc X78 N64 g_b25_0)
  have ne_b26_1_b39 : b26_1 ≠ b39 := own_ne (Nat.lt_of_lt_of_le (pf26_2.keep kq35).lt (Nat.le_of_eq g39.symm))
  have c79 : Fld Z T40.heap b26_1 "com/example/headlattice/headlattice/learn/Tally" "truePositives" "J" (.long (0 : Int64)) := (((pf26_5.keep kq35 nin0).ext E39).keep kq40 (ninS ne_b26_1_b39 nin0))
  have ne_b25_1_b26_1 : b25_1 ≠ b26_1 := own_ne (Nat.lt_of_lt_of_le pf25_2.lt (Nat.le_trans s26_0 (Nat.le_of_lt lt_b26_0_b26_1)))
  have c80 : Fld Z h56 b26_1 "com/example/headlattice/headlattice/learn/Tally" "truePositives" "J" (.long (0 : Int64)) := (((c79.other W45 (Or.inl (Ne.symm ne_b25_1_b26_1))).other W50 (Or.inl (Ne.symm ne_b25_1_b26_1))).other W56 (Or.inl (Ne.symm ne_b25_1_b26_1)))
  have ne_b25_0_b26_1 : b25_0 ≠ b26_1 := own_ne (Nat.lt_of_lt_of_le pf25_0.lt (Nat.le_trans s26_0 (Nat.le_of_lt lt_b26_0_b26_1)))
  have F_b26_1_truePositives_u81 : Fld Z h78 b26_1 "com/example/headlattice/headlattice/learn/Tally" "truePositives" "J" (.long (0 : Int64)) := ((c80.other W64 (Or.inl (Ne.symm ne_b25_1_b26_1))).other W78 (Or.inl (Ne.symm ne_b25_0_b26_1)))
  have c82 : Exa Z T40.heap b26_1 "com/example/headlattice/headlattice/learn/Tally" := (((pf26_2.keep kq35).ext E39).keep kq40)
  have c83 : Exa Z h56 b26_1 "com/example/headlattice/headlattice/learn/Tally" := (((c82.wr W45).wr W50).wr W56)
  have E_b26_1_u84 : Exa Z h78 b26_1 "com/example/headlattice/headlattice/learn/Tally" := ((c83.wr W64).wr W78)
  obtain ⟨T85, h85, X85, e85, W85, st85⟩ := putF X78' hx hZ hown (host := "") (Or.inl (hw _ (List.mem_of_getElem? (i := 78) rfl))) Via.refl e78 F_b26_1_truePositives_u81 E_b26_1_u84 (Or.inl (hw _ (List.mem_of_getElem? (i := 79) rfl))) (hw _ (List.mem_of_getElem? (i := 52) rfl)) (ty := .long) (by decide) rfl rfl (g := (mkF m 94 #[.val (.long q0), .second, .val (.long q1), .second, .val (.long q2), .second, .val (.long q3), .second, .val (.long q4), .second, .val (.long q5), .second, .val (.ref b1), .val (.ref b25_1), .val (.ref b26_1), .val (.ref b35_0), .val (.ref b39), .unset, .unset, .unset, .unset, .unset, .unset, .unset, .unset, .unset, .unset, .unset] [(.long q1), (.ref b26_1)])) rfl rfl (hb hby at_94)
  have K85 : Keep h0 h85 [] := K78.wr W85 (Or.inr sz_b26_1)
  have Fw85 := F_b26_1_truePositives_u81.same W85
  have Z85 : n0 ≤ h85.size := Nat.le_trans Z78 (Keep.of_wr W85).1
  obtain ⟨Lg85, X85', N85⟩ := own_gen X85 (Fr.snoc X85 N78 g_b26_1)
  have c86 : Fld Z T40.heap b26_1 "com/example/headlattice/headlattice/learn/Tally" "falsePositives" "J" (.long (0 : Int64)) := (((pf26_6.keep kq35 nin0).ext E39).keep kq40 (ninS ne_b26_1_b39 nin0))
  have c87 : Fld Z h56 b26_1 "com/example/headlattice/headlattice/learn/Tally" "falsePositives" "J" (.long (0 : Int64)) := (((c86.other W45 (Or.inl (Ne.symm ne_b25_1_b26_1))).other W50 (Or.inl (Ne.symm ne_b25_1_b26_1))).other W56 (Or.inl (Ne.symm ne_b25_1_b26_1)))
  have F_b26_1_falsePositives_u88 : Fld Z h85 b26_1 "com/example/headlattice/headlattice/learn/Tally" "falsePositives" "J" (.long (0 : Int64)) := (((c87.other W64 (Or.inl (Ne.symm ne_b25_1_b26_1))).other W78 (Or.inl (Ne.symm ne_b25_0_b26_1))).other W85 (Or.inr sl47))
  have E_b26_1_u89 : Exa Z h85 b26_1 "com/example/headlattice/headlattice/learn/Tally" := (E_b26_1_u84.wr W85)
  obtain ⟨T90, h90, X90, e90, W90, st90⟩ := putF X85' hx hZ hown (host := "") (Or.inl (hw _ (List.mem_of_getElem? (i := 80) rfl))) Via.refl e85 F_b26_1_falsePositives_u88 E_b26_1_u89 (Or.inl (hw _ (List.mem_of_getElem? (i := 81) rfl))) (hw _ (List.mem_of_getElem? (i := 52) rfl)) (ty := .long) (by decide) rfl rfl (g := (mkF m 101 #[.val (.long q0), .second, .val (.long q1), .second, .val (.long q2), .second, .val (.long q3), .second, .val (.long q4), .second, .val (.long q5), .second, .val (.ref b1), .val (.ref b25_1), .val (.ref b26_1), .val (.ref b35_0), .val (.ref b39), .unset, .unset, .unset, .unset, .unset, .unset, .unset, .unset, .unset, .unset, .unset] [(.long q2), (.ref b26_1)])) rfl rfl (hb hby at_101)
  have K90 : Keep h0 h90 [] := K85.wr W90 (Or.inr sz_b26_1)
  have Fw90 := F_b26_1_falsePositives_u88.same W90
  have Z90 : n0 ≤ h90.size := Nat.le_trans Z85 (Keep.of_wr W90).1
  obtain ⟨Lg90, X90', N90⟩ := own_gen X90 (Fr.snoc X90 N85 g_b26_1)
  have c91 : Fld Z T40.heap b26_1 "com/example/headlattice/headlattice/learn/Tally" "trueNegatives" "J" (.long (0 : Int64)) := (((pf26_7.keep kq35 nin0).ext E39).keep kq40 (ninS ne_b26_1_b39 nin0))
  have c92 : Fld Z h56 b26_1 "com/example/headlattice/headlattice/learn/Tally" "trueNegatives" "J" (.long (0 : Int64)) := (((c91.other W45 (Or.inl (Ne.symm ne_b25_1_b26_1))).other W50 (Or.inl (Ne.symm ne_b25_1_b26_1))).other W56 (Or.inl (Ne.symm ne_b25_1_b26_1)))
  have c93 : Fld Z h85 b26_1 "com/example/headlattice/headlattice/learn/Tally" "trueNegatives" "J" (.long (0 : Int64)) := (((c92.other W64 (Or.inl (Ne.symm ne_b25_1_b26_1))).other W78 (Or.inl (Ne.symm ne_b25_0_b26_1))).other W85 (Or.inr sl52))
  have F_b26_1_trueNegatives_u94 : Fld Z h90 b26_1 "com/example/headlattice/headlattice/learn/Tally" "trueNegatives" "J" (.long (0 : Int64)) := (c93.other W90 (Or.inr sl53))
  have E_b26_1_u95 : Exa Z h90 b26_1 "com/example/headlattice/headlattice/learn/Tally" := (E_b26_1_u89.wr W90)
  obtain ⟨T96, h96, X96, e96, W96, st96⟩ := putF X90' hx hZ hown (host := "") (Or.inl (hw _ (List.mem_of_getElem? (i := 82) rfl))) Via.refl e90 F_b26_1_trueNegatives_u94 E_b26_1_u95 (Or.inl (hw _ (List.mem_of_getElem? (i := 83) rfl))) (hw _ (List.mem_of_getElem? (i := 52) rfl)) (ty := .long) (by decide) rfl rfl (g := (mkF m 108 #[.val (.long q0), .second, .val (.long q1), .second, .val (.long q2), .second, .val (.long q3), .second, .val (.long q4), .second, .val (.long q5), .second, .val (.ref b1), .val (.ref b25_1), .val (.ref b26_1), .val (.ref b35_0), .val (.ref b39), .unset, .unset, .unset, .unset, .unset, .unset, .unset, .unset, .unset, .unset, .unset] [(.long q3), (.ref b26_1)])) rfl rfl (hb hby at_108)
  have K96 : Keep h0 h96 [] := K90.wr W96 (Or.inr sz_b26_1)
  have Fw96 := F_b26_1_trueNegatives_u94.same W96
  have Z96 : n0 ≤ h96.size := Nat.le_trans Z90 (Keep.of_wr W96).1
  obtain ⟨Lg96, X96', N96⟩ := own_gen X96 (Fr.snoc X96 N90 g_b26_1)
  have c97 : Fld Z T40.heap b26_1 "com/example/headlattice/headlattice/learn/Tally" "falseNegatives" "J" (.long (0 : Int64)) := (((pf26_8.keep kq35 nin0).ext E39).keep kq40 (ninS ne_b26_1_b39 nin0))
  have c98 : Fld Z h56 b26_1 "com/example/headlattice/headlattice/learn/Tally" "falseNegatives" "J" (.long (0 : Int64)) := (((c97.other W45 (Or.inl (Ne.symm ne_b25_1_b26_1))).other W50 (Or.inl (Ne.symm ne_b25_1_b26_1))).other W56 (Or.inl (Ne.symm ne_b25_1_b26_1)))
  have c99 : Fld Z h85 b26_1 "com/example/headlattice/headlattice/learn/Tally" "falseNegatives" "J" (.long (0 : Int64)) := (((c98.other W64 (Or.inl (Ne.symm ne_b25_1_b26_1))).other W78 (Or.inl (Ne.symm ne_b25_0_b26_1))).other W85 (Or.inr sl58))
  have F_b26_1_falseNegatives_u100 : Fld Z h96 b26_1 "com/example/headlattice/headlattice/learn/Tally" "falseNegatives" "J" (.long (0 : Int64)) := ((c99.other W90 (Or.inr sl59)).other W96 (Or.inr sl61))
  have E_b26_1_u101 : Exa Z h96 b26_1 "com/example/headlattice/headlattice/learn/Tally" := (E_b26_1_u95.wr W96)
  obtain ⟨T102, h102, X102, e102, W102, st102⟩ := putF X96' hx hZ hown (host := "") (Or.inl (hw _ (List.mem_of_getElem? (i := 84) rfl))) Via.refl e96 F_b26_1_falseNegatives_u100 E_b26_1_u101 (Or.inl (hw _ (List.mem_of_getElem? (i := 85) rfl))) (hw _ (List.mem_of_getElem? (i := 52) rfl)) (ty := .long) (by decide) rfl rfl (g := (mkF m 114 #[.val (.long q0), .second, .val (.long q1), .second, .val (.long q2), .second, .val (.long q3), .second, .val (.long q4), .second, .val (.long q5), .second, .val (.ref b1), .val (.ref b25_1), .val (.ref b26_1), .val (.ref b35_0), .val (.ref b39), .unset, .unset, .unset, .unset, .unset, .unset, .unset, .unset, .unset, .unset, .unset] [(.long q0), (.ref b26_1)])) rfl rfl (hb hby at_114)
  have K102 : Keep h0 h102 [] := K96.wr W102 (Or.inr sz_b26_1)
  have Fw102 := F_b26_1_falseNegatives_u100.same W102
  have Z102 : n0 ≤ h102.size := Nat.le_trans Z96 (Keep.of_wr W102).1
  obtain ⟨Lg102, X102', N102⟩ := own_gen X102 (Fr.snoc X102 N96 g_b26_1)
  have c103 : Fld Z T40.heap b26_1 "com/example/headlattice/headlattice/learn/Tally" "rightRows" "[J" (.ref b26_0) := (((pf26_3.keep kq35 nin0).ext E39).keep kq40 (ninS ne_b26_1_b39 nin0))
  have c104 : Fld Z h56 b26_1 "com/example/headlattice/headlattice/learn/Tally" "rightRows" "[J" (.ref b26_0) := (((c103.other W45 (Or.inl (Ne.symm ne_b25_1_b26_1))).other W50 (Or.inl (Ne.symm ne_b25_1_b26_1))).other W56 (Or.inl (Ne.symm ne_b25_1_b26_1)))
  have c105 : Fld Z h85 b26_1 "com/example/headlattice/headlattice/learn/Tally" "rightRows" "[J" (.ref b26_0) := (((c104.other W64 (Or.inl (Ne.symm ne_b25_1_b26_1))).other W78 (Or.inl (Ne.symm ne_b25_0_b26_1))).other W85 (Or.inr sl66))
  have F_b26_1_rightRows_u106 : Fld Z h102 b26_1 "com/example/headlattice/headlattice/learn/Tally" "rightRows" "[J" (.ref b26_0) := (((c105.other W90 (Or.inr sl67)).other W96 (Or.inr sl68)).other W102 (Or.inr sl70))
  obtain ⟨T107, X107, e107, st107⟩ := getF X102' hx hZ hown (host := "") (Or.inl (hw _ (List.mem_of_getElem? (i := 86) rfl))) Via.refl e102 F_b26_1_rightRows_u106 (g := (mkF m 119 #[.val (.long q0), .second, .val (.long q1), .second, .val (.long q2), .second, .val (.long q3), .second, .val (.long q4), .second, .val (.long q5), .second, .val (.ref b1), .val (.ref b25_1), .val (.ref b26_1), .val (.ref b35_0), .val (.ref b39), .unset, .unset, .unset, .unset, .unset, .unset, .unset, .unset, .unset, .unset, .unset] [(.ref b26_1)])) rfl rfl (hb hby at_119)
  have ne_b26_0_b39 : b26_0 ≠ b39 := own_ne (Nat.lt_of_lt_of_le (pf26_0.keep kq35).lt (Nat.le_of_eq g39.symm))
  have c108 : Arv Z T40.heap b26_0 kk26_0 .long (1 : Int32) [(.long (1 : Int64))] (.long (0 : Int64)) := (((pf26_1.keep kq35 nin0).ext E39).keep kq40 (ninS ne_b26_0_b39 nin0))
  have ne_b25_1_b26_0 : b25_1 ≠ b26_0 := own_ne (Nat.lt_of_lt_of_le pf25_2.lt s26_0)
  have c109 : Arv Z h56 b26_0 kk26_0 .long (1 : Int32) [(.long (1 : Int64))] (.long (0 : Int64)) := (((c108.other W45 (Ne.symm ne_b25_1_b26_0)).other W50 (Ne.symm ne_b25_1_b26_0)).other W56 (Ne.symm ne_b25_1_b26_0))
  have ne_b25_0_b26_0 : b25_0 ≠ b26_0 := own_ne (Nat.lt_of_lt_of_le pf25_0.lt s26_0)
  have ne_b26_0_b26_1 : b26_0 ≠ b26_1 := own_ne lt_b26_0_b26_1
  have c110 : Arv Z h85 b26_0 kk26_0 .long (1 : Int32) [(.long (1 : Int64))] (.long (0 : Int64)) := (((c109.other W64 (Ne.symm ne_b25_1_b26_0)).other W78 (Ne.symm ne_b25_0_b26_0)).other W85 ne_b26_0_b26_1)
  have V_b26_0_u111 : Arv Z h102 b26_0 kk26_0 .long (1 : Int32) [(.long (1 : Int64))] (.long (0 : Int64)) := (((c110.other W90 ne_b26_0_b26_1).other W96 ne_b26_0_b26_1).other W102 ne_b26_0_b26_1)
  obtain ⟨cl112, Ar112, qk112, Sz112, Ng112, Hs112, Gf112⟩ := id V_b26_0_u111
  have hin113 : ¬ ((0 : Int32) < 0 ∨ cl112.slots.size ≤ ((0 : Int32)).toNatClampNeg) := inb_of Sz112 ⟨by decide, by decide⟩
  obtain ⟨T114, h114, X114, e114, W114, st114⟩ := stJ X107 hx hZ e107 Ar112 (j := (0 : Int32)) hin113 (g := (mkF m 125 #[.val (.long q0), .second, .val (.long q1), .second, .val (.long q2), .second, .val (.long q3), .second, .val (.long q4), .second, .val (.long q5), .second, .val (.ref b1), .val (.ref b25_1), .val (.ref b26_1), .val (.ref b35_0), .val (.ref b39), .unset, .unset, .unset, .unset, .unset, .unset, .unset, .unset, .unset, .unset, .unset] [(.long q5), (.int (0 : Int32)), (.ref b26_0)])) rfl rfl (hb hby at_125)
  have K114 : Keep h0 h114 [] := K102.wr W114 (Or.inr sz_b26_0)
  have V_b26_0_114 : Arv Z h114 b26_0 kk26_0 .long (1 : Int32) [(.long q5)] (.long (0 : Int64)) := Arv.set (v := (.long q5)) Ar112 qk112 Sz112 Ng112 Hs112 Gf112 rfl W114 0 rfl (Nat.le_of_ble_eq_true rfl)
  have Z114 : n0 ≤ h114.size := Nat.le_trans Z102 (Keep.of_wr W114).1
  obtain ⟨Lg114, X114', N114⟩ := own_gen X114 (Fr.snoc X114 N102 g_b26_0)
  have ne_b35_0_b39 : b35_0 ≠ b39 := own_ne (Nat.lt_of_lt_of_le pf35_0.lt (Nat.le_of_eq g39.symm))
  have ne_b25_1_b35_0 : b25_1 ≠ b35_0 := own_ne (Nat.lt_of_lt_of_le (pf25_2.keep kq26).lt s35_0)
  have c115 : Fld Z h45 b35_0 "com/example/headlattice/headlattice/learn/Tally" "truePositives" "J" (.long (0 : Int64)) := (((pf35_3.ext E39).keep kq40 (ninS ne_b35_0_b39 nin0)).other W45 (Or.inl (Ne.symm ne_b25_1_b35_0)))
  have c116 : Fld Z h64 b35_0 "com/example/headlattice/headlattice/learn/Tally" "truePositives" "J" (.long (0 : Int64)) := (((c115.other W50 (Or.inl (Ne.symm ne_b25_1_b35_0))).other W56 (Or.inl (Ne.symm ne_b25_1_b35_0))).other W64 (Or.inl (Ne.symm ne_b25_1_b35_0)))
  have ne_b25_0_b35_0 : b25_0 ≠ b35_0 := own_ne (Nat.lt_of_lt_of_le (pf25_0.keep kq26).lt s35_0)
  have ne_b26_1_b35_0 : b26_1 ≠ b35_0 := own_ne (Nat.lt_of_lt_of_le pf26_2.lt s35_0)
  have c117 : Fld Z h90 b35_0 "com/example/headlattice/headlattice/learn/Tally" "truePositives" "J" (.long (0 : Int64)) := (((c116.other W78 (Or.inl (Ne.symm ne_b25_0_b35_0))).other W85 (Or.inl (Ne.symm ne_b26_1_b35_0))).other W90 (Or.inl (Ne.symm ne_b26_1_b35_0)))
  have ne_b26_0_b35_0 : b26_0 ≠ b35_0 := own_ne (Nat.lt_of_lt_of_le pf26_0.lt s35_0)
  have F_b35_0_truePositives_u118 : Fld Z h114 b35_0 "com/example/headlattice/headlattice/learn/Tally" "truePositives" "J" (.long (0 : Int64)) := (((c117.other W96 (Or.inl (Ne.symm ne_b26_1_b35_0))).other W102 (Or.inl (Ne.symm ne_b26_1_b35_0))).other W114 (Or.inl (Ne.symm ne_b26_0_b35_0)))
  have c119 : Exa Z h45 b35_0 "com/example/headlattice/headlattice/learn/Tally" := (((pf35_0.ext E39).keep kq40).wr W45)
  have c120 : Exa Z h64 b35_0 "com/example/headlattice/headlattice/learn/Tally" := (((c119.wr W50).wr W56).wr W64)
  have c121 : Exa Z h90 b35_0 "com/example/headlattice/headlattice/learn/Tally" := (((c120.wr W78).wr W85).wr W90)
  have E_b35_0_u122 : Exa Z h114 b35_0 "com/example/headlattice/headlattice/learn/Tally" := (((c121.wr W96).wr W102).wr W114)
  obtain ⟨T123, h123, X123, e123, W123, st123⟩ := putF X114' hx hZ hown (host := "") (Or.inl (hw _ (List.mem_of_getElem? (i := 78) rfl))) Via.refl e114 F_b35_0_truePositives_u118 E_b35_0_u122 (Or.inl (hw _ (List.mem_of_getElem? (i := 79) rfl))) (hw _ (List.mem_of_getElem? (i := 52) rfl)) (ty := .long) (by decide) rfl rfl (g := (mkF m 130 #[.val (.long q0), .second, .val (.long q1), .second, .val (.long q2), .second, .val (.long q3), .second, .val (.long q4), .second, .val (.long q5), .second, .val (.ref b1), .val (.ref b25_1), .val (.ref b26_1), .val (.ref b35_0), .val (.ref b39), .unset, .unset, .unset, .unset, .unset, .unset, .unset, .unset, .unset, .unset, .unset] [(.long q2), (.ref b35_0)])) rfl rfl (hb hby at_130)
  have K123 : Keep h0 h123 [] := K114.wr W123 (Or.inr sz_b35_0)
  have Fw123 := F_b35_0_truePositives_u118.same W123
  have Z123 : n0 ≤ h123.size := Nat.le_trans Z114 (Keep.of_wr W123).1
  obtain ⟨Lg123, X123', N123⟩ := own_gen X123 (Fr.snoc X123 N114 g_b35_0)
  have c124 : Fld Z h45 b35_0 "com/example/headlattice/headlattice/learn/Tally" "falsePositives" "J" (.long (0 : Int64)) := (((pf35_4.ext E39).keep kq40 (ninS ne_b35_0_b39 nin0)).other W45 (Or.inl (Ne.symm ne_b25_1_b35_0)))
  have c125 : Fld Z h64 b35_0 "com/example/headlattice/headlattice/learn/Tally" "falsePositives" "J" (.long (0 : Int64)) := (((c124.other W50 (Or.inl (Ne.symm ne_b25_1_b35_0))).other W56 (Or.inl (Ne.symm ne_b25_1_b35_0))).other W64 (Or.inl (Ne.symm ne_b25_1_b35_0)))
  have c126 : Fld Z h90 b35_0 "com/example/headlattice/headlattice/learn/Tally" "falsePositives" "J" (.long (0 : Int64)) := (((c125.other W78 (Or.inl (Ne.symm ne_b25_0_b35_0))).other W85 (Or.inl (Ne.symm ne_b26_1_b35_0))).other W90 (Or.inl (Ne.symm ne_b26_1_b35_0)))
  have c127 : Fld Z h114 b35_0 "com/example/headlattice/headlattice/learn/Tally" "falsePositives" "J" (.long (0 : Int64)) := (((c126.other W96 (Or.inl (Ne.symm ne_b26_1_b35_0))).other W102 (Or.inl (Ne.symm ne_b26_1_b35_0))).other W114 (Or.inl (Ne.symm ne_b26_0_b35_0)))
  have F_b35_0_falsePositives_u128 : Fld Z h123 b35_0 "com/example/headlattice/headlattice/learn/Tally" "falsePositives" "J" (.long (0 : Int64)) := (c127.other W123 (Or.inr sl47))
  have E_b35_0_u129 : Exa Z h123 b35_0 "com/example/headlattice/headlattice/learn/Tally" := (E_b35_0_u122.wr W123)
  obtain ⟨T130, h130, X130, e130, W130, st130⟩ := putF X123' hx hZ hown (host := "") (Or.inl (hw _ (List.mem_of_getElem? (i := 80) rfl))) Via.refl e123 F_b35_0_falsePositives_u128 E_b35_0_u129 (Or.inl (hw _ (List.mem_of_getElem? (i := 81) rfl))) (hw _ (List.mem_of_getElem? (i := 52) rfl)) (ty := .long) (by decide) rfl rfl (g := (mkF m 137 #[.val (.long q0), .second, .val (.long q1), .second, .val (.long q2), .second, .val (.long q3), .second, .val (.long q4), .second, .val (.long q5), .second, .val (.ref b1), .val (.ref b25_1), .val (.ref b26_1), .val (.ref b35_0), .val (.ref b39), .unset, .unset, .unset, .unset, .unset, .unset, .unset, .unset, .unset, .unset, .unset] [(.long q3), (.ref b35_0)])) rfl rfl (hb hby at_137)
  have K130 : Keep h0 h130 [] := K123.wr W130 (Or.inr sz_b35_0)
  have Fw130 := F_b35_0_falsePositives_u128.same W130
  have Z130 : n0 ≤ h130.size := Nat.le_trans Z123 (Keep.of_wr W130).1
  obtain ⟨Lg130, X130', N130⟩ := own_gen X130 (Fr.snoc X130 N123 g_b35_0)
  have c131 : Fld Z h45 b35_0 "com/example/headlattice/headlattice/learn/Tally" "trueNegatives" "J" (.long (0 : Int64)) := (((pf35_5.ext E39).keep kq40 (ninS ne_b35_0_b39 nin0)).other W45 (Or.inl (Ne.symm ne_b25_1_b35_0)))
  have c132 : Fld Z h64 b35_0 "com/example/headlattice/headlattice/learn/Tally" "trueNegatives" "J" (.long (0 : Int64)) := (((c131.other W50 (Or.inl (Ne.symm ne_b25_1_b35_0))).other W56 (Or.inl (Ne.symm ne_b25_1_b35_0))).other W64 (Or.inl (Ne.symm ne_b25_1_b35_0)))
  have c133 : Fld Z h90 b35_0 "com/example/headlattice/headlattice/learn/Tally" "trueNegatives" "J" (.long (0 : Int64)) := (((c132.other W78 (Or.inl (Ne.symm ne_b25_0_b35_0))).other W85 (Or.inl (Ne.symm ne_b26_1_b35_0))).other W90 (Or.inl (Ne.symm ne_b26_1_b35_0)))
  have c134 : Fld Z h114 b35_0 "com/example/headlattice/headlattice/learn/Tally" "trueNegatives" "J" (.long (0 : Int64)) := (((c133.other W96 (Or.inl (Ne.symm ne_b26_1_b35_0))).other W102 (Or.inl (Ne.symm ne_b26_1_b35_0))).other W114 (Or.inl (Ne.symm ne_b26_0_b35_0)))
  have F_b35_0_trueNegatives_u135 : Fld Z h130 b35_0 "com/example/headlattice/headlattice/learn/Tally" "trueNegatives" "J" (.long (0 : Int64)) := ((c134.other W123 (Or.inr sl52)).other W130 (Or.inr sl53))
  have E_b35_0_u136 : Exa Z h130 b35_0 "com/example/headlattice/headlattice/learn/Tally" := (E_b35_0_u129.wr W130)
  obtain ⟨T137, h137, X137, e137, W137, st137⟩ := putF X130' hx hZ hown (host := "") (Or.inl (hw _ (List.mem_of_getElem? (i := 82) rfl))) Via.refl e130 F_b35_0_trueNegatives_u135 E_b35_0_u136 (Or.inl (hw _ (List.mem_of_getElem? (i := 83) rfl))) (hw _ (List.mem_of_getElem? (i := 52) rfl)) (ty := .long) (by decide) rfl rfl (g := (mkF m 143 #[.val (.long q0), .second, .val (.long q1), .second, .val (.long q2), .second, .val (.long q3), .second, .val (.long q4), .second, .val (.long q5), .second, .val (.ref b1), .val (.ref b25_1), .val (.ref b26_1), .val (.ref b35_0), .val (.ref b39), .unset, .unset, .unset, .unset, .unset, .unset, .unset, .unset, .unset, .unset, .unset] [(.long q0), (.ref b35_0)])) rfl rfl (hb hby at_143)
  have K137 : Keep h0 h137 [] := K130.wr W137 (Or.inr sz_b35_0)
  have Fw137 := F_b35_0_trueNegatives_u135.same W137
  have Z137 : n0 ≤ h137.size := Nat.le_trans Z130 (Keep.of_wr W137).1
  obtain ⟨Lg137, X137', N137⟩ := own_gen X137 (Fr.snoc X137 N130 g_b35_0)
  have c138 : Fld Z h45 b35_0 "com/example/headlattice/headlattice/learn/Tally" "falseNegatives" "J" (.long (0 : Int64)) := (((pf35_6.ext E39).keep kq40 (ninS ne_b35_0_b39 nin0)).other W45 (Or.inl (Ne.symm ne_b25_1_b35_0)))
  have c139 : Fld Z h64 b35_0 "com/example/headlattice/headlattice/learn/Tally" "falseNegatives" "J" (.long (0 : Int64)) := (((c138.other W50 (Or.inl (Ne.symm ne_b25_1_b35_0))).other W56 (Or.inl (Ne.symm ne_b25_1_b35_0))).other W64 (Or.inl (Ne.symm ne_b25_1_b35_0)))
  have c140 : Fld Z h90 b35_0 "com/example/headlattice/headlattice/learn/Tally" "falseNegatives" "J" (.long (0 : Int64)) := (((c139.other W78 (Or.inl (Ne.symm ne_b25_0_b35_0))).other W85 (Or.inl (Ne.symm ne_b26_1_b35_0))).other W90 (Or.inl (Ne.symm ne_b26_1_b35_0)))
  have c141 : Fld Z h114 b35_0 "com/example/headlattice/headlattice/learn/Tally" "falseNegatives" "J" (.long (0 : Int64)) := (((c140.other W96 (Or.inl (Ne.symm ne_b26_1_b35_0))).other W102 (Or.inl (Ne.symm ne_b26_1_b35_0))).other W114 (Or.inl (Ne.symm ne_b26_0_b35_0)))
  have F_b35_0_falseNegatives_u142 : Fld Z h137 b35_0 "com/example/headlattice/headlattice/learn/Tally" "falseNegatives" "J" (.long (0 : Int64)) := (((c141.other W123 (Or.inr sl58)).other W130 (Or.inr sl59)).other W137 (Or.inr sl61))
  have E_b35_0_u143 : Exa Z h137 b35_0 "com/example/headlattice/headlattice/learn/Tally" := (E_b35_0_u136.wr W137)
  obtain ⟨T144, h144, X144, e144, W144, st144⟩ := putF X137' hx hZ hown (host := "") (Or.inl (hw _ (List.mem_of_getElem? (i := 84) rfl))) Via.refl e137 F_b35_0_falseNegatives_u142 E_b35_0_u143 (Or.inl (hw _ (List.mem_of_getElem? (i := 85) rfl))) (hw _ (List.mem_of_getElem? (i := 52) rfl)) (ty := .long) (by decide) rfl rfl (g := (mkF m 149 #[.val (.long q0), .second, .val (.long q1), .second, .val (.long q2), .second, .val (.long q3), .second, .val (.long q4), .second, .val (.long q5), .second, .val (.ref b1), .val (.ref b25_1), .val (.ref b26_1), .val (.ref b35_0), .val (.ref b39), .unset, .unset, .unset, .unset, .unset, .unset, .unset, .unset, .unset, .unset, .unset] [(.long q1), (.ref b35_0)])) rfl rfl (hb hby at_149)
  have K144 : Keep h0 h144 [] := K137.wr W144 (Or.inr sz_b35_0)
  have Fw144 := F_b35_0_falseNegatives_u142.same W144
  have Z144 : n0 ≤ h144.size := Nat.le_trans Z137 (Keep.of_wr W144).1
  obtain ⟨Lg144, X144', N144⟩ := own_gen X144 (Fr.snoc X144 N137 g_b35_0)
  have c145 : Fld Z h45 b35_0 "com/example/headlattice/headlattice/learn/Tally" "rightRows" "[J" (.ref b35_1) := (((pf35_1.ext E39).keep kq40 (ninS ne_b35_0_b39 nin0)).other W45 (Or.inl (Ne.symm ne_b25_1_b35_0)))
  have c146 : Fld Z h64 b35_0 "com/example/headlattice/headlattice/learn/Tally" "rightRows" "[J" (.ref b35_1) := (((c145.other W50 (Or.inl (Ne.symm ne_b25_1_b35_0))).other W56 (Or.inl (Ne.symm ne_b25_1_b35_0))).other W64 (Or.inl (Ne.symm ne_b25_1_b35_0)))
  have c147 : Fld Z h90 b35_0 "com/example/headlattice/headlattice/learn/Tally" "rightRows" "[J" (.ref b35_1) := (((c146.other W78 (Or.inl (Ne.symm ne_b25_0_b35_0))).other W85 (Or.inl (Ne.symm ne_b26_1_b35_0))).other W90 (Or.inl (Ne.symm ne_b26_1_b35_0)))
  have c148 : Fld Z h114 b35_0 "com/example/headlattice/headlattice/learn/Tally" "rightRows" "[J" (.ref b35_1) := (((c147.other W96 (Or.inl (Ne.symm ne_b26_1_b35_0))).other W102 (Or.inl (Ne.symm ne_b26_1_b35_0))).other W114 (Or.inl (Ne.symm ne_b26_0_b35_0)))
  have c149 : Fld Z h137 b35_0 "com/example/headlattice/headlattice/learn/Tally" "rightRows" "[J" (.ref b35_1) := (((c148.other W123 (Or.inr sl66)).other W130 (Or.inr sl67)).other W137 (Or.inr sl68))
  have F_b35_0_rightRows_u150 : Fld Z h144 b35_0 "com/example/headlattice/headlattice/learn/Tally" "rightRows" "[J" (.ref b35_1) := (c149.other W144 (Or.inr sl70))
  obtain ⟨T151, X151, e151, st151⟩ := getF X144' hx hZ hown (host := "") (Or.inl (hw _ (List.mem_of_getElem? (i := 86) rfl))) Via.refl e144 F_b35_0_rightRows_u150 (g := (mkF m 154 #[.val (.long q0), .second, .val (.long q1), .second, .val (.long q2), .second, .val (.long q3), .second, .val (.long q4), .second, .val (.long q5), .second, .val (.ref b1), .val (.ref b25_1), .val (.ref b26_1), .val (.ref b35_0), .val (.ref b39), .unset, .unset, .unset, .unset, .unset, .unset, .unset, .unset, .unset, .unset, .unset] [(.ref b35_0)])) rfl rfl (hb hby at_154)
  have ne_b35_1_b39 : b35_1 ≠ b39 := own_ne (Nat.lt_of_lt_of_le pf35_7.lt (Nat.le_of_eq g39.symm))
  have ne_b25_1_b35_1 : b25_1 ≠ b35_1 := own_ne (Nat.lt_of_lt_of_le (pf25_2.keep kq26).lt (Nat.le_trans s35_0 (Nat.le_of_lt lt_b35_0_b35_1)))
  have c152 : Arv Z h45 b35_1 kk35_0 .long (1 : Int32) [(.long (0 : Int64))] (.long (0 : Int64)) := (((pf35_8.ext E39).keep kq40 (ninS ne_b35_1_b39 nin0)).other W45 (Ne.symm ne_b25_1_b35_1))
  have c153 : Arv Z h64 b35_1 kk35_0 .long (1 : Int32) [(.long (0 : Int64))] (.long (0 : Int64)) := (((c152.other W50 (Ne.symm ne_b25_1_b35_1)).other W56 (Ne.symm ne_b25_1_b35_1)).other W64 (Ne.symm ne_b25_1_b35_1))
  have ne_b25_0_b35_1 : b25_0 ≠ b35_1 := own_ne (Nat.lt_of_lt_of_le (pf25_0.keep kq26).lt (Nat.le_trans s35_0 (Nat.le_of_lt lt_b35_0_b35_1)))
  have ne_b26_1_b35_1 : b26_1 ≠ b35_1 := own_ne (Nat.lt_of_lt_of_le pf26_2.lt (Nat.le_trans s35_0 (Nat.le_of_lt lt_b35_0_b35_1)))
  have c154 : Arv Z h90 b35_1 kk35_0 .long (1 : Int32) [(.long (0 : Int64))] (.long (0 : Int64)) := (((c153.other W78 (Ne.symm ne_b25_0_b35_1)).other W85 (Ne.symm ne_b26_1_b35_1)).other W90 (Ne.symm ne_b26_1_b35_1))
  have ne_b26_0_b35_1 : b26_0 ≠ b35_1 := own_ne (Nat.lt_of_lt_of_le pf26_0.lt (Nat.le_trans s35_0 (Nat.le_of_lt lt_b35_0_b35_1)))
  have c155 : Arv Z h114 b35_1 kk35_0 .long (1 : Int32) [(.long (0 : Int64))] (.long (0 : Int64)) := (((c154.other W96 (Ne.symm ne_b26_1_b35_1)).other W102 (Ne.symm ne_b26_1_b35_1)).other W114 (Ne.symm ne_b26_0_b35_1))
  have ne_b35_0_b35_1 : b35_0 ≠ b35_1 := own_ne lt_b35_0_b35_1
  have c156 : Arv Z h137 b35_1 kk35_0 .long (1 : Int32) [(.long (0 : Int64))] (.long (0 : Int64)) := (((c155.other W123 (Ne.symm ne_b35_0_b35_1)).other W130 (Ne.symm ne_b35_0_b35_1)).other W137 (Ne.symm ne_b35_0_b35_1))
  have V_b35_1_u157 : Arv Z h144 b35_1 kk35_0 .long (1 : Int32) [(.long (0 : Int64))] (.long (0 : Int64)) := (c156.other W144 (Ne.symm ne_b35_0_b35_1))
  obtain ⟨cl158, Ar158, qk158, Sz158, Ng158, Hs158, Gf158⟩ := id V_b35_1_u157
  have hin159 : ¬ ((0 : Int32) < 0 ∨ cl158.slots.size ≤ ((0 : Int32)).toNatClampNeg) := inb_of Sz158 ⟨by decide, by decide⟩
  obtain ⟨T160, h160, X160, e160, W160, st160⟩ := stJ X151 hx hZ e151 Ar158 (j := (0 : Int32)) hin159 (g := (mkF m 167 #[.val (.long q0), .second, .val (.long q1), .second, .val (.long q2), .second, .val (.long q3), .second, .val (.long q4), .second, .val (.long q5), .second, .val (.ref b1), .val (.ref b25_1), .val (.ref b26_1), .val (.ref b35_0), .val (.ref b39), .unset, .unset, .unset, .unset, .unset, .unset, .unset, .unset, .unset, .unset, .unset] [(.long ((q4 &&& q5) ^^^ (-1 : Int64))), (.int (0 : Int32)), (.ref b35_1)])) rfl rfl (hb hby at_167)
  have K160 : Keep h0 h160 [] := K144.wr W160 (Or.inr sz_b35_1)
  have V_b35_1_160 : Arv Z h160 b35_1 kk35_0 .long (1 : Int32) [(.long ((q4 &&& q5) ^^^ (-1 : Int64)))] (.long (0 : Int64)) := Arv.set (v := (.long ((q4 &&& q5) ^^^ (-1 : Int64)))) Ar158 qk158 Sz158 Ng158 Hs158 Gf158 rfl W160 0 rfl (Nat.le_of_ble_eq_true rfl)
  have Z160 : n0 ≤ h160.size := Nat.le_trans Z144 (Keep.of_wr W160).1
  obtain ⟨Lg160, X160', N160⟩ := own_gen X160 (Fr.snoc X160 N144 g_b35_1)
  have c161 : Fld Z h56 b39 "com/example/headlattice/headlattice/learn/Tally" "truePositives" "J" (.long (0 : Int64)) := (((pf40_3.other W45 (Or.inl (Ne.symm ne_b25_1_b39))).other W50 (Or.inl (Ne.symm ne_b25_1_b39))).other W56 (Or.inl (Ne.symm ne_b25_1_b39)))
  have c162 : Fld Z h85 b39 "com/example/headlattice/headlattice/learn/Tally" "truePositives" "J" (.long (0 : Int64)) := (((c161.other W64 (Or.inl (Ne.symm ne_b25_1_b39))).other W78 (Or.inl (Ne.symm ne_b25_0_b39))).other W85 (Or.inl (Ne.symm ne_b26_1_b39)))
  have c163 : Fld Z h102 b39 "com/example/headlattice/headlattice/learn/Tally" "truePositives" "J" (.long (0 : Int64)) := (((c162.other W90 (Or.inl (Ne.symm ne_b26_1_b39))).other W96 (Or.inl (Ne.symm ne_b26_1_b39))).other W102 (Or.inl (Ne.symm ne_b26_1_b39)))
  have c164 : Fld Z h130 b39 "com/example/headlattice/headlattice/learn/Tally" "truePositives" "J" (.long (0 : Int64)) := (((c163.other W114 (Or.inl (Ne.symm ne_b26_0_b39))).other W123 (Or.inl (Ne.symm ne_b35_0_b39))).other W130 (Or.inl (Ne.symm ne_b35_0_b39)))
  have F_b39_truePositives_u165 : Fld Z h160 b39 "com/example/headlattice/headlattice/learn/Tally" "truePositives" "J" (.long (0 : Int64)) := (((c164.other W137 (Or.inl (Ne.symm ne_b35_0_b39))).other W144 (Or.inl (Ne.symm ne_b35_0_b39))).other W160 (Or.inl (Ne.symm ne_b35_1_b39)))
  have c166 : Exa Z h56 b39 "com/example/headlattice/headlattice/learn/Tally" := (((pf40_0.wr W45).wr W50).wr W56)
  have c167 : Exa Z h85 b39 "com/example/headlattice/headlattice/learn/Tally" := (((c166.wr W64).wr W78).wr W85)
  have c168 : Exa Z h102 b39 "com/example/headlattice/headlattice/learn/Tally" := (((c167.wr W90).wr W96).wr W102)
  have c169 : Exa Z h130 b39 "com/example/headlattice/headlattice/learn/Tally" := (((c168.wr W114).wr W123).wr W130)
  have E_b39_u170 : Exa Z h160 b39 "com/example/headlattice/headlattice/learn/Tally" := (((c169.wr W137).wr W144).wr W160)
  obtain ⟨T171, h171, X171, e171, W171, st171⟩ := putF X160' hx hZ hown (host := "") (Or.inl (hw _ (List.mem_of_getElem? (i := 78) rfl))) Via.refl e160 F_b39_truePositives_u165 E_b39_u170 (Or.inl (hw _ (List.mem_of_getElem? (i := 79) rfl))) (hw _ (List.mem_of_getElem? (i := 52) rfl)) (ty := .long) (by decide) rfl rfl (g := (mkF m 172 #[.val (.long q0), .second, .val (.long q1), .second, .val (.long q2), .second, .val (.long q3), .second, .val (.long q4), .second, .val (.long q5), .second, .val (.ref b1), .val (.ref b25_1), .val (.ref b26_1), .val (.ref b35_0), .val (.ref b39), .unset, .unset, .unset, .unset, .unset, .unset, .unset, .unset, .unset, .unset, .unset] [(.long q3), (.ref b39)])) rfl rfl (hb hby at_172)
  have K171 : Keep h0 h171 [] := K160.wr W171 (Or.inr sz_b39)
  have Fw171 := F_b39_truePositives_u165.same W171
  have Z171 : n0 ≤ h171.size := Nat.le_trans Z160 (Keep.of_wr W171).1
  obtain ⟨Lg171, X171', N171⟩ := own_gen X171 (Fr.snoc X171 N160 g_b39)
  have c172 : Fld Z h56 b39 "com/example/headlattice/headlattice/learn/Tally" "falsePositives" "J" (.long (0 : Int64)) := (((pf40_4.other W45 (Or.inl (Ne.symm ne_b25_1_b39))).other W50 (Or.inl (Ne.symm ne_b25_1_b39))).other W56 (Or.inl (Ne.symm ne_b25_1_b39)))
  have c173 : Fld Z h85 b39 "com/example/headlattice/headlattice/learn/Tally" "falsePositives" "J" (.long (0 : Int64)) := (((c172.other W64 (Or.inl (Ne.symm ne_b25_1_b39))).other W78 (Or.inl (Ne.symm ne_b25_0_b39))).other W85 (Or.inl (Ne.symm ne_b26_1_b39)))
  have c174 : Fld Z h102 b39 "com/example/headlattice/headlattice/learn/Tally" "falsePositives" "J" (.long (0 : Int64)) := (((c173.other W90 (Or.inl (Ne.symm ne_b26_1_b39))).other W96 (Or.inl (Ne.symm ne_b26_1_b39))).other W102 (Or.inl (Ne.symm ne_b26_1_b39)))
  have c175 : Fld Z h130 b39 "com/example/headlattice/headlattice/learn/Tally" "falsePositives" "J" (.long (0 : Int64)) := (((c174.other W114 (Or.inl (Ne.symm ne_b26_0_b39))).other W123 (Or.inl (Ne.symm ne_b35_0_b39))).other W130 (Or.inl (Ne.symm ne_b35_0_b39)))
  have c176 : Fld Z h160 b39 "com/example/headlattice/headlattice/learn/Tally" "falsePositives" "J" (.long (0 : Int64)) := (((c175.other W137 (Or.inl (Ne.symm ne_b35_0_b39))).other W144 (Or.inl (Ne.symm ne_b35_0_b39))).other W160 (Or.inl (Ne.symm ne_b35_1_b39)))
  have F_b39_falsePositives_u177 : Fld Z h171 b39 "com/example/headlattice/headlattice/learn/Tally" "falsePositives" "J" (.long (0 : Int64)) := (c176.other W171 (Or.inr sl47))
  have E_b39_u178 : Exa Z h171 b39 "com/example/headlattice/headlattice/learn/Tally" := (E_b39_u170.wr W171)
  obtain ⟨T179, h179, X179, e179, W179, st179⟩ := putF X171' hx hZ hown (host := "") (Or.inl (hw _ (List.mem_of_getElem? (i := 80) rfl))) Via.refl e171 F_b39_falsePositives_u177 E_b39_u178 (Or.inl (hw _ (List.mem_of_getElem? (i := 81) rfl))) (hw _ (List.mem_of_getElem? (i := 52) rfl)) (ty := .long) (by decide) rfl rfl (g := (mkF m 178 #[.val (.long q0), .second, .val (.long q1), .second, .val (.long q2), .second, .val (.long q3), .second, .val (.long q4), .second, .val (.long q5), .second, .val (.ref b1), .val (.ref b25_1), .val (.ref b26_1), .val (.ref b35_0), .val (.ref b39), .unset, .unset, .unset, .unset, .unset, .unset, .unset, .unset, .unset, .unset, .unset] [(.long q0), (.ref b39)])) rfl rfl (hb hby at_178)
  have K179 : Keep h0 h179 [] := K171.wr W179 (Or.inr sz_b39)
  have Fw179 := F_b39_falsePositives_u177.same W179
  have Z179 : n0 ≤ h179.size := Nat.le_trans Z171 (Keep.of_wr W179).1
  obtain ⟨Lg179, X179', N179⟩ := own_gen X179 (Fr.snoc X179 N171 g_b39)
  have c180 : Fld Z h56 b39 "com/example/headlattice/headlattice/learn/Tally" "trueNegatives" "J" (.long (0 : Int64)) := (((pf40_5.other W45 (Or.inl (Ne.symm ne_b25_1_b39))).other W50 (Or.inl (Ne.symm ne_b25_1_b39))).other W56 (Or.inl (Ne.symm ne_b25_1_b39)))
  have c181 : Fld Z h85 b39 "com/example/headlattice/headlattice/learn/Tally" "trueNegatives" "J" (.long (0 : Int64)) := (((c180.other W64 (Or.inl (Ne.symm ne_b25_1_b39))).other W78 (Or.inl (Ne.symm ne_b25_0_b39))).other W85 (Or.inl (Ne.symm ne_b26_1_b39)))
  have c182 : Fld Z h102 b39 "com/example/headlattice/headlattice/learn/Tally" "trueNegatives" "J" (.long (0 : Int64)) := (((c181.other W90 (Or.inl (Ne.symm ne_b26_1_b39))).other W96 (Or.inl (Ne.symm ne_b26_1_b39))).other W102 (Or.inl (Ne.symm ne_b26_1_b39)))
  have c183 : Fld Z h130 b39 "com/example/headlattice/headlattice/learn/Tally" "trueNegatives" "J" (.long (0 : Int64)) := (((c182.other W114 (Or.inl (Ne.symm ne_b26_0_b39))).other W123 (Or.inl (Ne.symm ne_b35_0_b39))).other W130 (Or.inl (Ne.symm ne_b35_0_b39)))
  have c184 : Fld Z h160 b39 "com/example/headlattice/headlattice/learn/Tally" "trueNegatives" "J" (.long (0 : Int64)) := (((c183.other W137 (Or.inl (Ne.symm ne_b35_0_b39))).other W144 (Or.inl (Ne.symm ne_b35_0_b39))).other W160 (Or.inl (Ne.symm ne_b35_1_b39)))
  have F_b39_trueNegatives_u185 : Fld Z h179 b39 "com/example/headlattice/headlattice/learn/Tally" "trueNegatives" "J" (.long (0 : Int64)) := ((c184.other W171 (Or.inr sl52)).other W179 (Or.inr sl53))
  have E_b39_u186 : Exa Z h179 b39 "com/example/headlattice/headlattice/learn/Tally" := (E_b39_u178.wr W179)
  obtain ⟨T187, h187, X187, e187, W187, st187⟩ := putF X179' hx hZ hown (host := "") (Or.inl (hw _ (List.mem_of_getElem? (i := 82) rfl))) Via.refl e179 F_b39_trueNegatives_u185 E_b39_u186 (Or.inl (hw _ (List.mem_of_getElem? (i := 83) rfl))) (hw _ (List.mem_of_getElem? (i := 52) rfl)) (ty := .long) (by decide) rfl rfl (g := (mkF m 184 #[.val (.long q0), .second, .val (.long q1), .second, .val (.long q2), .second, .val (.long q3), .second, .val (.long q4), .second, .val (.long q5), .second, .val (.ref b1), .val (.ref b25_1), .val (.ref b26_1), .val (.ref b35_0), .val (.ref b39), .unset, .unset, .unset, .unset, .unset, .unset, .unset, .unset, .unset, .unset, .unset] [(.long q1), (.ref b39)])) rfl rfl (hb hby at_184)
  have K187 : Keep h0 h187 [] := K179.wr W187 (Or.inr sz_b39)
  have Fw187 := F_b39_trueNegatives_u185.same W187
  have Z187 : n0 ≤ h187.size := Nat.le_trans Z179 (Keep.of_wr W187).1
  obtain ⟨Lg187, X187', N187⟩ := own_gen X187 (Fr.snoc X187 N179 g_b39)
  have c188 : Fld Z h56 b39 "com/example/headlattice/headlattice/learn/Tally" "falseNegatives" "J" (.long (0 : Int64)) := (((pf40_6.other W45 (Or.inl (Ne.symm ne_b25_1_b39))).other W50 (Or.inl (Ne.symm ne_b25_1_b39))).other W56 (Or.inl (Ne.symm ne_b25_1_b39)))
  have c189 : Fld Z h85 b39 "com/example/headlattice/headlattice/learn/Tally" "falseNegatives" "J" (.long (0 : Int64)) := (((c188.other W64 (Or.inl (Ne.symm ne_b25_1_b39))).other W78 (Or.inl (Ne.symm ne_b25_0_b39))).other W85 (Or.inl (Ne.symm ne_b26_1_b39)))
  have c190 : Fld Z h102 b39 "com/example/headlattice/headlattice/learn/Tally" "falseNegatives" "J" (.long (0 : Int64)) := (((c189.other W90 (Or.inl (Ne.symm ne_b26_1_b39))).other W96 (Or.inl (Ne.symm ne_b26_1_b39))).other W102 (Or.inl (Ne.symm ne_b26_1_b39)))
  have c191 : Fld Z h130 b39 "com/example/headlattice/headlattice/learn/Tally" "falseNegatives" "J" (.long (0 : Int64)) := (((c190.other W114 (Or.inl (Ne.symm ne_b26_0_b39))).other W123 (Or.inl (Ne.symm ne_b35_0_b39))).other W130 (Or.inl (Ne.symm ne_b35_0_b39)))
  have c192 : Fld Z h160 b39 "com/example/headlattice/headlattice/learn/Tally" "falseNegatives" "J" (.long (0 : Int64)) := (((c191.other W137 (Or.inl (Ne.symm ne_b35_0_b39))).other W144 (Or.inl (Ne.symm ne_b35_0_b39))).other W160 (Or.inl (Ne.symm ne_b35_1_b39)))
  have F_b39_falseNegatives_u193 : Fld Z h187 b39 "com/example/headlattice/headlattice/learn/Tally" "falseNegatives" "J" (.long (0 : Int64)) := (((c192.other W171 (Or.inr sl58)).other W179 (Or.inr sl59)).other W187 (Or.inr sl61))
  have E_b39_u194 : Exa Z h187 b39 "com/example/headlattice/headlattice/learn/Tally" := (E_b39_u186.wr W187)
  obtain ⟨T195, h195, X195, e195, W195, st195⟩ := putF X187' hx hZ hown (host := "") (Or.inl (hw _ (List.mem_of_getElem? (i := 84) rfl))) Via.refl e187 F_b39_falseNegatives_u193 E_b39_u194 (Or.inl (hw _ (List.mem_of_getElem? (i := 85) rfl))) (hw _ (List.mem_of_getElem? (i := 52) rfl)) (ty := .long) (by decide) rfl rfl (g := (mkF m 191 #[.val (.long q0), .second, .val (.long q1), .second, .val (.long q2), .second, .val (.long q3), .second, .val (.long q4), .second, .val (.long q5), .second, .val (.ref b1), .val (.ref b25_1), .val (.ref b26_1), .val (.ref b35_0), .val (.ref b39), .unset, .unset, .unset, .unset, .unset, .unset, .unset, .unset, .unset, .unset, .unset] [(.long q2), (.ref b39)])) rfl rfl (hb hby at_191)
  have K195 : Keep h0 h195 [] := K187.wr W195 (Or.inr sz_b39)
  have Fw195 := F_b39_falseNegatives_u193.same W195
  have Z195 : n0 ≤ h195.size := Nat.le_trans Z187 (Keep.of_wr W195).1
  obtain ⟨Lg195, X195', N195⟩ := own_gen X195 (Fr.snoc X195 N187 g_b39)
  have c197 : Exa Z h171 b35_0 "com/example/headlattice/headlattice/learn/Tally" := (((E_b35_0_u143.wr W144).wr W160).wr W171)
  have E_b35_0_u198 : Exa Z h195 b35_0 "com/example/headlattice/headlattice/learn/Tally" := (((c197.wr W179).wr W187).wr W195)
  have c199 : Fld Z h179 b35_0 "com/example/headlattice/headlattice/learn/Tally" "rightRows" "[J" (.ref b35_1) := (((F_b35_0_rightRows_u150.other W160 (Or.inl ne_b35_0_b35_1)).other W171 (Or.inl ne_b35_0_b39)).other W179 (Or.inl ne_b35_0_b39))
  have F_b35_0_rightRows_u200 : Fld Z h195 b35_0 "com/example/headlattice/headlattice/learn/Tally" "rightRows" "[J" (.ref b35_1) := ((c199.other W187 (Or.inl ne_b35_0_b39)).other W195 (Or.inl ne_b35_0_b39))
  have c201 : Arv Z h187 b35_1 kk35_0 .long (1 : Int32) [(.long ((q4 &&& q5) ^^^ (-1 : Int64)))] (.long (0 : Int64)) := (((V_b35_1_160.other W171 ne_b35_1_b39).other W179 ne_b35_1_b39).other W187 ne_b35_1_b39)
  have V_b35_1_u202 : Arv Z h195 b35_1 kk35_0 .long (1 : Int32) [(.long ((q4 &&& q5) ^^^ (-1 : Int64)))] (.long (0 : Int64)) := (c201.other W195 ne_b35_1_b39)
  have c203 : Fld Z h90 b25_1 "com/example/headlattice/headlattice/learn/Tally" "rightRows" "[J" (.ref b25_0) := (((F_b25_1_rightRows_u71.other W78 (Or.inl (Ne.symm ne_b25_0_b25_1))).other W85 (Or.inl ne_b25_1_b26_1)).other W90 (Or.inl ne_b25_1_b26_1))
  have c204 : Fld Z h114 b25_1 "com/example/headlattice/headlattice/learn/Tally" "rightRows" "[J" (.ref b25_0) := (((c203.other W96 (Or.inl ne_b25_1_b26_1)).other W102 (Or.inl ne_b25_1_b26_1)).other W114 (Or.inl ne_b25_1_b26_0))
  have c205 : Fld Z h137 b25_1 "com/example/headlattice/headlattice/learn/Tally" "rightRows" "[J" (.ref b25_0) := (((c204.other W123 (Or.inl ne_b25_1_b35_0)).other W130 (Or.inl ne_b25_1_b35_0)).other W137 (Or.inl ne_b25_1_b35_0))
  have c206 : Fld Z h171 b25_1 "com/example/headlattice/headlattice/learn/Tally" "rightRows" "[J" (.ref b25_0) := (((c205.other W144 (Or.inl ne_b25_1_b35_0)).other W160 (Or.inl ne_b25_1_b35_1)).other W171 (Or.inl ne_b25_1_b39))
  have F_b25_1_rightRows_u207 : Fld Z h195 b25_1 "com/example/headlattice/headlattice/learn/Tally" "rightRows" "[J" (.ref b25_0) := (((c206.other W179 (Or.inl ne_b25_1_b39)).other W187 (Or.inl ne_b25_1_b39)).other W195 (Or.inl ne_b25_1_b39))
  have c208 : Arv Z h96 b25_0 kk25_0 .long (1 : Int32) [(.long q4)] (.long (0 : Int64)) := (((V_b25_0_78.other W85 ne_b25_0_b26_1).other W90 ne_b25_0_b26_1).other W96 ne_b25_0_b26_1)
  have c209 : Arv Z h123 b25_0 kk25_0 .long (1 : Int32) [(.long q4)] (.long (0 : Int64)) := (((c208.other W102 ne_b25_0_b26_1).other W114 ne_b25_0_b26_0).other W123 ne_b25_0_b35_0)
  have c210 : Arv Z h144 b25_0 kk25_0 .long (1 : Int32) [(.long q4)] (.long (0 : Int64)) := (((c209.other W130 ne_b25_0_b35_0).other W137 ne_b25_0_b35_0).other W144 ne_b25_0_b35_0)
  have c211 : Arv Z h179 b25_0 kk25_0 .long (1 : Int32) [(.long q4)] (.long (0 : Int64)) := (((c210.other W160 ne_b25_0_b35_1).other W171 ne_b25_0_b39).other W179 ne_b25_0_b39)
  have V_b25_0_u212 : Arv Z h195 b25_0 kk25_0 .long (1 : Int32) [(.long q4)] (.long (0 : Int64)) := ((c211.other W187 ne_b25_0_b39).other W195 ne_b25_0_b39)
  have c213 : Fld Z h130 b26_1 "com/example/headlattice/headlattice/learn/Tally" "rightRows" "[J" (.ref b26_0) := (((F_b26_1_rightRows_u106.other W114 (Or.inl (Ne.symm ne_b26_0_b26_1))).other W123 (Or.inl ne_b26_1_b35_0)).other W130 (Or.inl ne_b26_1_b35_0))
  have c214 : Fld Z h160 b26_1 "com/example/headlattice/headlattice/learn/Tally" "rightRows" "[J" (.ref b26_0) := (((c213.other W137 (Or.inl ne_b26_1_b35_0)).other W144 (Or.inl ne_b26_1_b35_0)).other W160 (Or.inl ne_b26_1_b35_1))
  have c215 : Fld Z h187 b26_1 "com/example/headlattice/headlattice/learn/Tally" "rightRows" "[J" (.ref b26_0) := (((c214.other W171 (Or.inl ne_b26_1_b39)).other W179 (Or.inl ne_b26_1_b39)).other W187 (Or.inl ne_b26_1_b39))
  have F_b26_1_rightRows_u216 : Fld Z h195 b26_1 "com/example/headlattice/headlattice/learn/Tally" "rightRows" "[J" (.ref b26_0) := (c215.other W195 (Or.inl ne_b26_1_b39))
  have c217 : Arv Z h137 b26_0 kk26_0 .long (1 : Int32) [(.long q5)] (.long (0 : Int64)) := (((V_b26_0_114.other W123 ne_b26_0_b35_0).other W130 ne_b26_0_b35_0).other W137 ne_b26_0_b35_0)
  have c218 : Arv Z h171 b26_0 kk26_0 .long (1 : Int32) [(.long q5)] (.long (0 : Int64)) := (((c217.other W144 ne_b26_0_b35_0).other W160 ne_b26_0_b35_1).other W171 ne_b26_0_b39)
  have V_b26_0_u219 : Arv Z h195 b26_0 kk26_0 .long (1 : Int32) [(.long q5)] (.long (0 : Int64)) := (((c218.other W179 ne_b26_0_b39).other W187 ne_b26_0_b39).other W195 ne_b26_0_b39)
  have sl220 := slot_ne (Z := Z) (Or.inl (hw _ (List.mem_of_getElem? (i := 79) rfl))) (Or.inl (hw _ (List.mem_of_getElem? (i := 81) rfl))) (by decide) (t := .long) (t' := .long) (by decide) (by decide)
  have sl221 := slot_ne (Z := Z) (Or.inl (hw _ (List.mem_of_getElem? (i := 79) rfl))) (Or.inl (hw _ (List.mem_of_getElem? (i := 83) rfl))) (by decide) (t := .long) (t' := .long) (by decide) (by decide)
  have sl222 := slot_ne (Z := Z) (Or.inl (hw _ (List.mem_of_getElem? (i := 79) rfl))) (Or.inl (hw _ (List.mem_of_getElem? (i := 85) rfl))) (by decide) (t := .long) (t' := .long) (by decide) (by decide)
  have c223 : Fld Z h64 b25_1 "com/example/headlattice/headlattice/learn/Tally" "truePositives" "J" (.long q0) := (((Fw45.other W50 (Or.inr sl220)).other W56 (Or.inr sl221)).other W64 (Or.inr sl222))
  have c224 : Fld Z h90 b25_1 "com/example/headlattice/headlattice/learn/Tally" "truePositives" "J" (.long q0) := (((c223.other W78 (Or.inl (Ne.symm ne_b25_0_b25_1))).other W85 (Or.inl ne_b25_1_b26_1)).other W90 (Or.inl ne_b25_1_b26_1))
  have c225 : Fld Z h114 b25_1 "com/example/headlattice/headlattice/learn/Tally" "truePositives" "J" (.long q0) := (((c224.other W96 (Or.inl ne_b25_1_b26_1)).other W102 (Or.inl ne_b25_1_b26_1)).other W114 (Or.inl ne_b25_1_b26_0))
  have c226 : Fld Z h137 b25_1 "com/example/headlattice/headlattice/learn/Tally" "truePositives" "J" (.long q0) := (((c225.other W123 (Or.inl ne_b25_1_b35_0)).other W130 (Or.inl ne_b25_1_b35_0)).other W137 (Or.inl ne_b25_1_b35_0))
  have c227 : Fld Z h171 b25_1 "com/example/headlattice/headlattice/learn/Tally" "truePositives" "J" (.long q0) := (((c226.other W144 (Or.inl ne_b25_1_b35_0)).other W160 (Or.inl ne_b25_1_b35_1)).other W171 (Or.inl ne_b25_1_b39))
  have F_b25_1_truePositives_u228 : Fld Z h195 b25_1 "com/example/headlattice/headlattice/learn/Tally" "truePositives" "J" (.long q0) := (((c227.other W179 (Or.inl ne_b25_1_b39)).other W187 (Or.inl ne_b25_1_b39)).other W195 (Or.inl ne_b25_1_b39))
  have c229 : Fld Z h102 b26_1 "com/example/headlattice/headlattice/learn/Tally" "truePositives" "J" (.long q1) := (((Fw85.other W90 (Or.inr sl220)).other W96 (Or.inr sl221)).other W102 (Or.inr sl222))
  have c230 : Fld Z h130 b26_1 "com/example/headlattice/headlattice/learn/Tally" "truePositives" "J" (.long q1) := (((c229.other W114 (Or.inl (Ne.symm ne_b26_0_b26_1))).other W123 (Or.inl ne_b26_1_b35_0)).other W130 (Or.inl ne_b26_1_b35_0))
  have c231 : Fld Z h160 b26_1 "com/example/headlattice/headlattice/learn/Tally" "truePositives" "J" (.long q1) := (((c230.other W137 (Or.inl ne_b26_1_b35_0)).other W144 (Or.inl ne_b26_1_b35_0)).other W160 (Or.inl ne_b26_1_b35_1))
  have c232 : Fld Z h187 b26_1 "com/example/headlattice/headlattice/learn/Tally" "truePositives" "J" (.long q1) := (((c231.other W171 (Or.inl ne_b26_1_b39)).other W179 (Or.inl ne_b26_1_b39)).other W187 (Or.inl ne_b26_1_b39))
  have F_b26_1_truePositives_u233 : Fld Z h195 b26_1 "com/example/headlattice/headlattice/learn/Tally" "truePositives" "J" (.long q1) := (c232.other W195 (Or.inl ne_b26_1_b39))
  have c234 : Fld Z h144 b35_0 "com/example/headlattice/headlattice/learn/Tally" "truePositives" "J" (.long q2) := (((Fw123.other W130 (Or.inr sl220)).other W137 (Or.inr sl221)).other W144 (Or.inr sl222))
  have c235 : Fld Z h179 b35_0 "com/example/headlattice/headlattice/learn/Tally" "truePositives" "J" (.long q2) := (((c234.other W160 (Or.inl ne_b35_0_b35_1)).other W171 (Or.inl ne_b35_0_b39)).other W179 (Or.inl ne_b35_0_b39))
  have F_b35_0_truePositives_u236 : Fld Z h195 b35_0 "com/example/headlattice/headlattice/learn/Tally" "truePositives" "J" (.long q2) := ((c235.other W187 (Or.inl ne_b35_0_b39)).other W195 (Or.inl ne_b35_0_b39))
  have sl237 := slot_ne (Z := Z) (Or.inl (hw _ (List.mem_of_getElem? (i := 81) rfl))) (Or.inl (hw _ (List.mem_of_getElem? (i := 83) rfl))) (by decide) (t := .long) (t' := .long) (by decide) (by decide)
  have sl238 := slot_ne (Z := Z) (Or.inl (hw _ (List.mem_of_getElem? (i := 81) rfl))) (Or.inl (hw _ (List.mem_of_getElem? (i := 85) rfl))) (by decide) (t := .long) (t' := .long) (by decide) (by decide)
  have c239 : Fld Z h78 b25_1 "com/example/headlattice/headlattice/learn/Tally" "falsePositives" "J" (.long q1) := (((Fw50.other W56 (Or.inr sl237)).other W64 (Or.inr sl238)).other W78 (Or.inl (Ne.symm ne_b25_0_b25_1)))
  have c240 : Fld Z h96 b25_1 "com/example/headlattice/headlattice/learn/Tally" "falsePositives" "J" (.long q1) := (((c239.other W85 (Or.inl ne_b25_1_b26_1)).other W90 (Or.inl ne_b25_1_b26_1)).other W96 (Or.inl ne_b25_1_b26_1))
  have c241 : Fld Z h123 b25_1 "com/example/headlattice/headlattice/learn/Tally" "falsePositives" "J" (.long q1) := (((c240.other W102 (Or.inl ne_b25_1_b26_1)).other W114 (Or.inl ne_b25_1_b26_0)).other W123 (Or.inl ne_b25_1_b35_0))
  have c242 : Fld Z h144 b25_1 "com/example/headlattice/headlattice/learn/Tally" "falsePositives" "J" (.long q1) := (((c241.other W130 (Or.inl ne_b25_1_b35_0)).other W137 (Or.inl ne_b25_1_b35_0)).other W144 (Or.inl ne_b25_1_b35_0))
  have c243 : Fld Z h179 b25_1 "com/example/headlattice/headlattice/learn/Tally" "falsePositives" "J" (.long q1) := (((c242.other W160 (Or.inl ne_b25_1_b35_1)).other W171 (Or.inl ne_b25_1_b39)).other W179 (Or.inl ne_b25_1_b39))
  have F_b25_1_falsePositives_u244 : Fld Z h195 b25_1 "com/example/headlattice/headlattice/learn/Tally" "falsePositives" "J" (.long q1) := ((c243.other W187 (Or.inl ne_b25_1_b39)).other W195 (Or.inl ne_b25_1_b39))
  have c245 : Fld Z h114 b26_1 "com/example/headlattice/headlattice/learn/Tally" "falsePositives" "J" (.long q2) := (((Fw90.other W96 (Or.inr sl237)).other W102 (Or.inr sl238)).other W114 (Or.inl (Ne.symm ne_b26_0_b26_1)))
  have c246 : Fld Z h137 b26_1 "com/example/headlattice/headlattice/learn/Tally" "falsePositives" "J" (.long q2) := (((c245.other W123 (Or.inl ne_b26_1_b35_0)).other W130 (Or.inl ne_b26_1_b35_0)).other W137 (Or.inl ne_b26_1_b35_0))
  have c247 : Fld Z h171 b26_1 "com/example/headlattice/headlattice/learn/Tally" "falsePositives" "J" (.long q2) := (((c246.other W144 (Or.inl ne_b26_1_b35_0)).other W160 (Or.inl ne_b26_1_b35_1)).other W171 (Or.inl ne_b26_1_b39))
  have F_b26_1_falsePositives_u248 : Fld Z h195 b26_1 "com/example/headlattice/headlattice/learn/Tally" "falsePositives" "J" (.long q2) := (((c247.other W179 (Or.inl ne_b26_1_b39)).other W187 (Or.inl ne_b26_1_b39)).other W195 (Or.inl ne_b26_1_b39))
  have c249 : Fld Z h160 b35_0 "com/example/headlattice/headlattice/learn/Tally" "falsePositives" "J" (.long q3) := (((Fw130.other W137 (Or.inr sl237)).other W144 (Or.inr sl238)).other W160 (Or.inl ne_b35_0_b35_1))
  have c250 : Fld Z h187 b35_0 "com/example/headlattice/headlattice/learn/Tally" "falsePositives" "J" (.long q3) := (((c249.other W171 (Or.inl ne_b35_0_b39)).other W179 (Or.inl ne_b35_0_b39)).other W187 (Or.inl ne_b35_0_b39))
  have F_b35_0_falsePositives_u251 : Fld Z h195 b35_0 "com/example/headlattice/headlattice/learn/Tally" "falsePositives" "J" (.long q3) := (c250.other W195 (Or.inl ne_b35_0_b39))
  have sl252 := slot_ne (Z := Z) (Or.inl (hw _ (List.mem_of_getElem? (i := 83) rfl))) (Or.inl (hw _ (List.mem_of_getElem? (i := 85) rfl))) (by decide) (t := .long) (t' := .long) (by decide) (by decide)
  have c253 : Fld Z h85 b25_1 "com/example/headlattice/headlattice/learn/Tally" "trueNegatives" "J" (.long q2) := (((Fw56.other W64 (Or.inr sl252)).other W78 (Or.inl (Ne.symm ne_b25_0_b25_1))).other W85 (Or.inl ne_b25_1_b26_1))
  have c254 : Fld Z h102 b25_1 "com/example/headlattice/headlattice/learn/Tally" "trueNegatives" "J" (.long q2) := (((c253.other W90 (Or.inl ne_b25_1_b26_1)).other W96 (Or.inl ne_b25_1_b26_1)).other W102 (Or.inl ne_b25_1_b26_1))
  have c255 : Fld Z h130 b25_1 "com/example/headlattice/headlattice/learn/Tally" "trueNegatives" "J" (.long q2) := (((c254.other W114 (Or.inl ne_b25_1_b26_0)).other W123 (Or.inl ne_b25_1_b35_0)).other W130 (Or.inl ne_b25_1_b35_0))
  have c256 : Fld Z h160 b25_1 "com/example/headlattice/headlattice/learn/Tally" "trueNegatives" "J" (.long q2) := (((c255.other W137 (Or.inl ne_b25_1_b35_0)).other W144 (Or.inl ne_b25_1_b35_0)).other W160 (Or.inl ne_b25_1_b35_1))
  have c257 : Fld Z h187 b25_1 "com/example/headlattice/headlattice/learn/Tally" "trueNegatives" "J" (.long q2) := (((c256.other W171 (Or.inl ne_b25_1_b39)).other W179 (Or.inl ne_b25_1_b39)).other W187 (Or.inl ne_b25_1_b39))
  have F_b25_1_trueNegatives_u258 : Fld Z h195 b25_1 "com/example/headlattice/headlattice/learn/Tally" "trueNegatives" "J" (.long q2) := (c257.other W195 (Or.inl ne_b25_1_b39))
  have c259 : Fld Z h123 b26_1 "com/example/headlattice/headlattice/learn/Tally" "trueNegatives" "J" (.long q3) := (((Fw96.other W102 (Or.inr sl252)).other W114 (Or.inl (Ne.symm ne_b26_0_b26_1))).other W123 (Or.inl ne_b26_1_b35_0))
  have c260 : Fld Z h144 b26_1 "com/example/headlattice/headlattice/learn/Tally" "trueNegatives" "J" (.long q3) := (((c259.other W130 (Or.inl ne_b26_1_b35_0)).other W137 (Or.inl ne_b26_1_b35_0)).other W144 (Or.inl ne_b26_1_b35_0))
  have c261 : Fld Z h179 b26_1 "com/example/headlattice/headlattice/learn/Tally" "trueNegatives" "J" (.long q3) := (((c260.other W160 (Or.inl ne_b26_1_b35_1)).other W171 (Or.inl ne_b26_1_b39)).other W179 (Or.inl ne_b26_1_b39))
  have F_b26_1_trueNegatives_u262 : Fld Z h195 b26_1 "com/example/headlattice/headlattice/learn/Tally" "trueNegatives" "J" (.long q3) := ((c261.other W187 (Or.inl ne_b26_1_b39)).other W195 (Or.inl ne_b26_1_b39))
  have c263 : Fld Z h171 b35_0 "com/example/headlattice/headlattice/learn/Tally" "trueNegatives" "J" (.long q0) := (((Fw137.other W144 (Or.inr sl252)).other W160 (Or.inl ne_b35_0_b35_1)).other W171 (Or.inl ne_b35_0_b39))
  have F_b35_0_trueNegatives_u264 : Fld Z h195 b35_0 "com/example/headlattice/headlattice/learn/Tally" "trueNegatives" "J" (.long q0) := (((c263.other W179 (Or.inl ne_b35_0_b39)).other W187 (Or.inl ne_b35_0_b39)).other W195 (Or.inl ne_b35_0_b39))
  have c265 : Fld Z h90 b25_1 "com/example/headlattice/headlattice/learn/Tally" "falseNegatives" "J" (.long q3) := (((Fw64.other W78 (Or.inl (Ne.symm ne_b25_0_b25_1))).other W85 (Or.inl ne_b25_1_b26_1)).other W90 (Or.inl ne_b25_1_b26_1))
  have c266 : Fld Z h114 b25_1 "com/example/headlattice/headlattice/learn/Tally" "falseNegatives" "J" (.long q3) := (((c265.other W96 (Or.inl ne_b25_1_b26_1)).other W102 (Or.inl ne_b25_1_b26_1)).other W114 (Or.inl ne_b25_1_b26_0))
  have c267 : Fld Z h137 b25_1 "com/example/headlattice/headlattice/learn/Tally" "falseNegatives" "J" (.long q3) := (((c266.other W123 (Or.inl ne_b25_1_b35_0)).other W130 (Or.inl ne_b25_1_b35_0)).other W137 (Or.inl ne_b25_1_b35_0))
  have c268 : Fld Z h171 b25_1 "com/example/headlattice/headlattice/learn/Tally" "falseNegatives" "J" (.long q3) := (((c267.other W144 (Or.inl ne_b25_1_b35_0)).other W160 (Or.inl ne_b25_1_b35_1)).other W171 (Or.inl ne_b25_1_b39))
  have F_b25_1_falseNegatives_u269 : Fld Z h195 b25_1 "com/example/headlattice/headlattice/learn/Tally" "falseNegatives" "J" (.long q3) := (((c268.other W179 (Or.inl ne_b25_1_b39)).other W187 (Or.inl ne_b25_1_b39)).other W195 (Or.inl ne_b25_1_b39))
  have c270 : Fld Z h130 b26_1 "com/example/headlattice/headlattice/learn/Tally" "falseNegatives" "J" (.long q0) := (((Fw102.other W114 (Or.inl (Ne.symm ne_b26_0_b26_1))).other W123 (Or.inl ne_b26_1_b35_0)).other W130 (Or.inl ne_b26_1_b35_0))
  have c271 : Fld Z h160 b26_1 "com/example/headlattice/headlattice/learn/Tally" "falseNegatives" "J" (.long q0) := (((c270.other W137 (Or.inl ne_b26_1_b35_0)).other W144 (Or.inl ne_b26_1_b35_0)).other W160 (Or.inl ne_b26_1_b35_1))
  have c272 : Fld Z h187 b26_1 "com/example/headlattice/headlattice/learn/Tally" "falseNegatives" "J" (.long q0) := (((c271.other W171 (Or.inl ne_b26_1_b39)).other W179 (Or.inl ne_b26_1_b39)).other W187 (Or.inl ne_b26_1_b39))
  have F_b26_1_falseNegatives_u273 : Fld Z h195 b26_1 "com/example/headlattice/headlattice/learn/Tally" "falseNegatives" "J" (.long q0) := (c272.other W195 (Or.inl ne_b26_1_b39))
  have c274 : Fld Z h179 b35_0 "com/example/headlattice/headlattice/learn/Tally" "falseNegatives" "J" (.long q1) := (((Fw144.other W160 (Or.inl ne_b35_0_b35_1)).other W171 (Or.inl ne_b35_0_b39)).other W179 (Or.inl ne_b35_0_b39))
  have F_b35_0_falseNegatives_u275 : Fld Z h195 b35_0 "com/example/headlattice/headlattice/learn/Tally" "falseNegatives" "J" (.long q1) := ((c274.other W187 (Or.inl ne_b35_0_b39)).other W195 (Or.inl ne_b35_0_b39))
  obtain ⟨cq196, kq196, q196a, q196b, q196c⟩ := isOf hZ e195 E_b35_0_u198
  obtain ⟨_, _, ⟨T196, L196, k196', n196'⟩, -, X196, ⟨Lc196, hQ196, l196, y196, z196⟩, st196⟩ := X195'.virtualBack hx (y := (⟨"com/example/headlattice/headlattice/learn/Tally", "setSum", "(Lcom/example/headlattice/headlattice/learn/Tally;Lcom/example/headlattice/headlattice/learn/Tally;)V"⟩ : MethodName)) (z := (⟨"com/example/headlattice/headlattice/learn/Tally", "setSum", "(Lcom/example/headlattice/headlattice/learn/Tally;Lcom/example/headlattice/headlattice/learn/Tally;)V"⟩ : MethodName)) hown (mvT hZ (hw _ (List.mem_of_getElem? (i := 88) rfl))) (mvT hZ (hw _ (List.mem_of_getElem? (i := 89) rfl))) (notFace_of_selects (args := #[]) (mvT hZ (hw _ (List.mem_of_getElem? (i := 91) rfl)))) (mvT hZ (hw _ (List.mem_of_getElem? (i := 91) rfl))) (mvT hZ (hw _ (List.mem_of_getElem? (i := 90) rfl))) (by decide) (backOf (W := 0) (rm12a l Z az hw [] b35_0 b25_1 b26_1 b35_1 kk35_0 ((q4 &&& q5) ^^^ (-1 : Int64)) b25_0 kk25_0 q4 b26_0 kk26_0 q5 q0 q1 (.long q2) q1 q2 (.long q3) q2 q3 (.long q0) q3 q0 (.long q1) h195 n0 Z195 E_b35_0_u198 F_b35_0_rightRows_u200 V_b35_1_u202 F_b25_1_rightRows_u207 V_b25_0_u212 F_b26_1_rightRows_u216 V_b26_0_u219 F_b25_1_truePositives_u228 F_b26_1_truePositives_u233 F_b35_0_truePositives_u236 g_b35_0 F_b25_1_falsePositives_u244 ne_b25_1_b35_0 F_b26_1_falsePositives_u248 ne_b26_1_b35_0 F_b35_0_falsePositives_u251 F_b25_1_trueNegatives_u258 F_b26_1_trueNegatives_u262 F_b35_0_trueNegatives_u264 F_b25_1_falseNegatives_u269 F_b26_1_falseNegatives_u273 F_b35_0_falseNegatives_u275 (Ne.symm ne_b35_0_b35_1) ne_b25_0_b35_0 ne_b26_0_b35_0 g_b35_1) hZ (hw _ (List.mem_of_getElem? (i := 92) rfl)) (hw _ (List.mem_of_getElem? (i := 43) rfl)) (by decide) (by decide)) q196a q196c (g := (mkF m 231 #[.val (.long q0), .second, .val (.long q1), .second, .val (.long q2), .second, .val (.long q3), .second, .val (.long q4), .second, .val (.long q5), .second, .val (.ref b1), .val (.ref b25_1), .val (.ref b26_1), .val (.ref b35_0), .val (.ref b39), .val (.long (q0 + q1)), .second, .val (.long (q1 + q2)), .second, .val (.long (q2 + q3)), .second, .val (.long (q3 + q0)), .second, .val (.long (q4 &&& q5)), .second, .unset] [(.ref b26_1), (.ref b25_1), (.ref b35_0)])) rfl (by rw [hml]; rfl) (Steps.refl _) (argsL := [(.ref b25_1), (.ref b26_1)]) (rest := []) (lenOf pd_9 rfl) rfl (by show 2 * 0 + _ ≤ _; exact Nat.le_of_eq rfl) (hb hby at_231) (fun _ _ => ⟨rfl, e195, (by decide : 15 + 0 ≤ _), (by decide : 59 + 0 ≤ _)⟩)
  dsimp only [Pt.U, Pt.locs, Pt.cells, Pt.slots] at X196 l196 y196 z196 st196 hQ196
  subst l196 y196 z196
  obtain ⟨rfl, N196q, kq196, pf196_0, pf196_1, pf196_2, pf196_3, pf196_4, pf196_5, pf196_6⟩ := hQ196
  obtain ⟨Lg196, X196', N196⟩ := own_gen X196 (Fr.app N195 N196q)
  have K196 : Keep h0 T196.heap [] := K195.trans kq196 (allS (Or.inr sz_b35_0) (allS (Or.inr sz_b35_1) all0))
  have Z196 : n0 ≤ T196.heap.size := Nat.le_trans Z195 kq196.1
  obtain ⟨T276, X276, e276, st276⟩ := getF X196' hx hZ hown (host := "") (Or.inl (hw _ (List.mem_of_getElem? (i := 78) rfl))) Via.refl rfl pf196_2 (g := (mkF m 236 #[.val (.long q0), .second, .val (.long q1), .second, .val (.long q2), .second, .val (.long q3), .second, .val (.long q4), .second, .val (.long q5), .second, .val (.ref b1), .val (.ref b25_1), .val (.ref b26_1), .val (.ref b35_0), .val (.ref b39), .val (.long (q0 + q1)), .second, .val (.long (q1 + q2)), .second, .val (.long (q2 + q3)), .second, .val (.long (q3 + q0)), .second, .val (.long (q4 &&& q5)), .second, .unset] [(.ref b35_0)])) rfl rfl (hb hby at_236)
  obtain ⟨T277, X277, e277, st277⟩ := getF X276 hx hZ hown (host := "") (Or.inl (hw _ (List.mem_of_getElem? (i := 80) rfl))) Via.refl e276 pf196_3 (g := (mkF m 247 #[.val (.long q0), .second, .val (.long q1), .second, .val (.long q2), .second, .val (.long q3), .second, .val (.long q4), .second, .val (.long q5), .second, .val (.ref b1), .val (.ref b25_1), .val (.ref b26_1), .val (.ref b35_0), .val (.ref b39), .val (.long (q0 + q1)), .second, .val (.long (q1 + q2)), .second, .val (.long (q2 + q3)), .second, .val (.long (q3 + q0)), .second, .val (.long (q4 &&& q5)), .second, .unset] [(.ref b35_0)])) rfl rfl (hb hby at_247)
  obtain ⟨T278, X278, e278, st278⟩ := getF X277 hx hZ hown (host := "") (Or.inl (hw _ (List.mem_of_getElem? (i := 82) rfl))) Via.refl e277 pf196_4 (g := (mkF m 258 #[.val (.long q0), .second, .val (.long q1), .second, .val (.long q2), .second, .val (.long q3), .second, .val (.long q4), .second, .val (.long q5), .second, .val (.ref b1), .val (.ref b25_1), .val (.ref b26_1), .val (.ref b35_0), .val (.ref b39), .val (.long (q0 + q1)), .second, .val (.long (q1 + q2)), .second, .val (.long (q2 + q3)), .second, .val (.long (q3 + q0)), .second, .val (.long (q4 &&& q5)), .second, .unset] [(.ref b35_0)])) rfl rfl (hb hby at_258)
  obtain ⟨T279, X279, e279, st279⟩ := getF X278 hx hZ hown (host := "") (Or.inl (hw _ (List.mem_of_getElem? (i := 84) rfl))) Via.refl e278 pf196_5 (g := (mkF m 269 #[.val (.long q0), .second, .val (.long q1), .second, .val (.long q2), .second, .val (.long q3), .second, .val (.long q4), .second, .val (.long q5), .second, .val (.ref b1), .val (.ref b25_1), .val (.ref b26_1), .val (.ref b35_0), .val (.ref b39), .val (.long (q0 + q1)), .second, .val (.long (q1 + q2)), .second, .val (.long (q2 + q3)), .second, .val (.long (q3 + q0)), .second, .val (.long (q4 &&& q5)), .second, .unset] [(.ref b35_0)])) rfl rfl (hb hby at_269)
  obtain ⟨T280, X280, e280, st280⟩ := getF X279 hx hZ hown (host := "") (Or.inl (hw _ (List.mem_of_getElem? (i := 86) rfl))) Via.refl e279 pf196_1 (g := (mkF m 280 #[.val (.long q0), .second, .val (.long q1), .second, .val (.long q2), .second, .val (.long q3), .second, .val (.long q4), .second, .val (.long q5), .second, .val (.ref b1), .val (.ref b25_1), .val (.ref b26_1), .val (.ref b35_0), .val (.ref b39), .val (.long (q0 + q1)), .second, .val (.long (q1 + q2)), .second, .val (.long (q2 + q3)), .second, .val (.long (q3 + q0)), .second, .val (.long (q4 &&& q5)), .second, .unset] [(.ref b35_0)])) rfl rfl (hb hby at_280)
  obtain ⟨cl281, Ar281, qk281, Sz281, Ng281, Hs281, Gf281⟩ := id pf196_6
  have hin282 : ¬ ((0 : Int32) < 0 ∨ cl281.slots.size ≤ ((0 : Int32)).toNatClampNeg) := inb_of Sz281 ⟨by decide, by decide⟩
  have hat283 : cl281.slots[((0 : Int32)).toNatClampNeg]? = some (.long (q4 &&& q5)) := Hs281.at hin282 rfl
  have F_b25_1_truePositives_u284 : Fld Z T196.heap b25_1 "com/example/headlattice/headlattice/learn/Tally" "truePositives" "J" (.long q0) := (F_b25_1_truePositives_u228.keep kq196 (ninS ne_b25_1_b35_0 (ninS ne_b25_1_b35_1 nin0)))
  obtain ⟨T285, X285, e285, st285⟩ := getF X280 hx hZ hown (host := "") (Or.inl (hw _ (List.mem_of_getElem? (i := 78) rfl))) Via.refl e280 F_b25_1_truePositives_u284 (g := (mkF m 293 #[.val (.long q0), .second, .val (.long q1), .second, .val (.long q2), .second, .val (.long q3), .second, .val (.long q4), .second, .val (.long q5), .second, .val (.ref b1), .val (.ref b25_1), .val (.ref b26_1), .val (.ref b35_0), .val (.ref b39), .val (.long (q0 + q1)), .second, .val (.long (q1 + q2)), .second, .val (.long (q2 + q3)), .second, .val (.long (q3 + q0)), .second, .val (.long (q4 &&& q5)), .second, .unset] [(.ref b25_1)])) rfl rfl (hb hby at_293)
  have F_b25_1_falsePositives_u286 : Fld Z T196.heap b25_1 "com/example/headlattice/headlattice/learn/Tally" "falsePositives" "J" (.long q1) := (F_b25_1_falsePositives_u244.keep kq196 (ninS ne_b25_1_b35_0 (ninS ne_b25_1_b35_1 nin0)))
  obtain ⟨T287, X287, e287, st287⟩ := getF X285 hx hZ hown (host := "") (Or.inl (hw _ (List.mem_of_getElem? (i := 80) rfl))) Via.refl e285 F_b25_1_falsePositives_u286 (g := (mkF m 303 #[.val (.long q0), .second, .val (.long q1), .second, .val (.long q2), .second, .val (.long q3), .second, .val (.long q4), .second, .val (.long q5), .second, .val (.ref b1), .val (.ref b25_1), .val (.ref b26_1), .val (.ref b35_0), .val (.ref b39), .val (.long (q0 + q1)), .second, .val (.long (q1 + q2)), .second, .val (.long (q2 + q3)), .second, .val (.long (q3 + q0)), .second, .val (.long (q4 &&& q5)), .second, .unset] [(.ref b25_1)])) rfl rfl (hb hby at_303)
  have F_b25_1_trueNegatives_u288 : Fld Z T196.heap b25_1 "com/example/headlattice/headlattice/learn/Tally" "trueNegatives" "J" (.long q2) := (F_b25_1_trueNegatives_u258.keep kq196 (ninS ne_b25_1_b35_0 (ninS ne_b25_1_b35_1 nin0)))
  obtain ⟨T289, X289, e289, st289⟩ := getF X287 hx hZ hown (host := "") (Or.inl (hw _ (List.mem_of_getElem? (i := 82) rfl))) Via.refl e287 F_b25_1_trueNegatives_u288 (g := (mkF m 313 #[.val (.long q0), .second, .val (.long q1), .second, .val (.long q2), .second, .val (.long q3), .second, .val (.long q4), .second, .val (.long q5), .second, .val (.ref b1), .val (.ref b25_1), .val (.ref b26_1), .val (.ref b35_0), .val (.ref b39), .val (.long (q0 + q1)), .second, .val (.long (q1 + q2)), .second, .val (.long (q2 + q3)), .second, .val (.long (q3 + q0)), .second, .val (.long (q4 &&& q5)), .second, .unset] [(.ref b25_1)])) rfl rfl (hb hby at_313)
  have F_b25_1_falseNegatives_u290 : Fld Z T196.heap b25_1 "com/example/headlattice/headlattice/learn/Tally" "falseNegatives" "J" (.long q3) := (F_b25_1_falseNegatives_u269.keep kq196 (ninS ne_b25_1_b35_0 (ninS ne_b25_1_b35_1 nin0)))
  obtain ⟨T291, X291, e291, st291⟩ := getF X289 hx hZ hown (host := "") (Or.inl (hw _ (List.mem_of_getElem? (i := 84) rfl))) Via.refl e289 F_b25_1_falseNegatives_u290 (g := (mkF m 324 #[.val (.long q0), .second, .val (.long q1), .second, .val (.long q2), .second, .val (.long q3), .second, .val (.long q4), .second, .val (.long q5), .second, .val (.ref b1), .val (.ref b25_1), .val (.ref b26_1), .val (.ref b35_0), .val (.ref b39), .val (.long (q0 + q1)), .second, .val (.long (q1 + q2)), .second, .val (.long (q2 + q3)), .second, .val (.long (q3 + q0)), .second, .val (.long (q4 &&& q5)), .second, .unset] [(.ref b25_1)])) rfl rfl (hb hby at_324)
  have F_b25_1_rightRows_u292 : Fld Z T196.heap b25_1 "com/example/headlattice/headlattice/learn/Tally" "rightRows" "[J" (.ref b25_0) := (F_b25_1_rightRows_u207.keep kq196 (ninS ne_b25_1_b35_0 (ninS ne_b25_1_b35_1 nin0)))
  obtain ⟨T293, X293, e293, st293⟩ := getF X291 hx hZ hown (host := "") (Or.inl (hw _ (List.mem_of_getElem? (i := 86) rfl))) Via.refl e291 F_b25_1_rightRows_u292 (g := (mkF m 335 #[.val (.long q0), .second, .val (.long q1), .second, .val (.long q2), .second, .val (.long q3), .second, .val (.long q4), .second, .val (.long q5), .second, .val (.ref b1), .val (.ref b25_1), .val (.ref b26_1), .val (.ref b35_0), .val (.ref b39), .val (.long (q0 + q1)), .second, .val (.long (q1 + q2)), .second, .val (.long (q2 + q3)), .second, .val (.long (q3 + q0)), .second, .val (.long (q4 &&& q5)), .second, .unset] [(.ref b25_1)])) rfl rfl (hb hby at_335)
  have V_b25_0_u294 : Arv Z T196.heap b25_0 kk25_0 .long (1 : Int32) [(.long q4)] (.long (0 : Int64)) := (V_b25_0_u212.keep kq196 (ninS ne_b25_0_b35_0 (ninS ne_b25_0_b35_1 nin0)))
  obtain ⟨cl295, Ar295, qk295, Sz295, Ng295, Hs295, Gf295⟩ := id V_b25_0_u294
  have hin296 : ¬ ((0 : Int32) < 0 ∨ cl295.slots.size ≤ ((0 : Int32)).toNatClampNeg) := inb_of Sz295 ⟨by decide, by decide⟩
  have hat297 : cl295.slots[((0 : Int32)).toNatClampNeg]? = some (.long q4) := Hs295.at hin296 rfl
  have F_b26_1_truePositives_u298 : Fld Z T196.heap b26_1 "com/example/headlattice/headlattice/learn/Tally" "truePositives" "J" (.long q1) := (F_b26_1_truePositives_u233.keep kq196 (ninS ne_b26_1_b35_0 (ninS ne_b26_1_b35_1 nin0)))
  obtain ⟨T299, X299, e299, st299⟩ := getF X293 hx hZ hown (host := "") (Or.inl (hw _ (List.mem_of_getElem? (i := 78) rfl))) Via.refl e293 F_b26_1_truePositives_u298 (g := (mkF m 348 #[.val (.long q0), .second, .val (.long q1), .second, .val (.long q2), .second, .val (.long q3), .second, .val (.long q4), .second, .val (.long q5), .second, .val (.ref b1), .val (.ref b25_1), .val (.ref b26_1), .val (.ref b35_0), .val (.ref b39), .val (.long (q0 + q1)), .second, .val (.long (q1 + q2)), .second, .val (.long (q2 + q3)), .second, .val (.long (q3 + q0)), .second, .val (.long (q4 &&& q5)), .second, .unset] [(.ref b26_1)])) rfl rfl (hb hby at_348)
  have F_b26_1_falsePositives_u300 : Fld Z T196.heap b26_1 "com/example/headlattice/headlattice/learn/Tally" "falsePositives" "J" (.long q2) := (F_b26_1_falsePositives_u248.keep kq196 (ninS ne_b26_1_b35_0 (ninS ne_b26_1_b35_1 nin0)))
  obtain ⟨T301, X301, e301, st301⟩ := getF X299 hx hZ hown (host := "") (Or.inl (hw _ (List.mem_of_getElem? (i := 80) rfl))) Via.refl e299 F_b26_1_falsePositives_u300 (g := (mkF m 358 #[.val (.long q0), .second, .val (.long q1), .second, .val (.long q2), .second, .val (.long q3), .second, .val (.long q4), .second, .val (.long q5), .second, .val (.ref b1), .val (.ref b25_1), .val (.ref b26_1), .val (.ref b35_0), .val (.ref b39), .val (.long (q0 + q1)), .second, .val (.long (q1 + q2)), .second, .val (.long (q2 + q3)), .second, .val (.long (q3 + q0)), .second, .val (.long (q4 &&& q5)), .second, .unset] [(.ref b26_1)])) rfl rfl (hb hby at_358)
  have F_b26_1_trueNegatives_u302 : Fld Z T196.heap b26_1 "com/example/headlattice/headlattice/learn/Tally" "trueNegatives" "J" (.long q3) := (F_b26_1_trueNegatives_u262.keep kq196 (ninS ne_b26_1_b35_0 (ninS ne_b26_1_b35_1 nin0)))
  obtain ⟨T303, X303, e303, st303⟩ := getF X301 hx hZ hown (host := "") (Or.inl (hw _ (List.mem_of_getElem? (i := 82) rfl))) Via.refl e301 F_b26_1_trueNegatives_u302 (g := (mkF m 369 #[.val (.long q0), .second, .val (.long q1), .second, .val (.long q2), .second, .val (.long q3), .second, .val (.long q4), .second, .val (.long q5), .second, .val (.ref b1), .val (.ref b25_1), .val (.ref b26_1), .val (.ref b35_0), .val (.ref b39), .val (.long (q0 + q1)), .second, .val (.long (q1 + q2)), .second, .val (.long (q2 + q3)), .second, .val (.long (q3 + q0)), .second, .val (.long (q4 &&& q5)), .second, .unset] [(.ref b26_1)])) rfl rfl (hb hby at_369)
  have F_b26_1_falseNegatives_u304 : Fld Z T196.heap b26_1 "com/example/headlattice/headlattice/learn/Tally" "falseNegatives" "J" (.long q0) := (F_b26_1_falseNegatives_u273.keep kq196 (ninS ne_b26_1_b35_0 (ninS ne_b26_1_b35_1 nin0)))
  obtain ⟨T305, X305, e305, st305⟩ := getF X303 hx hZ hown (host := "") (Or.inl (hw _ (List.mem_of_getElem? (i := 84) rfl))) Via.refl e303 F_b26_1_falseNegatives_u304 (g := (mkF m 380 #[.val (.long q0), .second, .val (.long q1), .second, .val (.long q2), .second, .val (.long q3), .second, .val (.long q4), .second, .val (.long q5), .second, .val (.ref b1), .val (.ref b25_1), .val (.ref b26_1), .val (.ref b35_0), .val (.ref b39), .val (.long (q0 + q1)), .second, .val (.long (q1 + q2)), .second, .val (.long (q2 + q3)), .second, .val (.long (q3 + q0)), .second, .val (.long (q4 &&& q5)), .second, .unset] [(.ref b26_1)])) rfl rfl (hb hby at_380)
  have F_b26_1_rightRows_u306 : Fld Z T196.heap b26_1 "com/example/headlattice/headlattice/learn/Tally" "rightRows" "[J" (.ref b26_0) := (F_b26_1_rightRows_u216.keep kq196 (ninS ne_b26_1_b35_0 (ninS ne_b26_1_b35_1 nin0)))
  obtain ⟨T307, X307, e307, st307⟩ := getF X305 hx hZ hown (host := "") (Or.inl (hw _ (List.mem_of_getElem? (i := 86) rfl))) Via.refl e305 F_b26_1_rightRows_u306 (g := (mkF m 390 #[.val (.long q0), .second, .val (.long q1), .second, .val (.long q2), .second, .val (.long q3), .second, .val (.long q4), .second, .val (.long q5), .second, .val (.ref b1), .val (.ref b25_1), .val (.ref b26_1), .val (.ref b35_0), .val (.ref b39), .val (.long (q0 + q1)), .second, .val (.long (q1 + q2)), .second, .val (.long (q2 + q3)), .second, .val (.long (q3 + q0)), .second, .val (.long (q4 &&& q5)), .second, .unset] [(.ref b26_1)])) rfl rfl (hb hby at_390)
  have V_b26_0_u308 : Arv Z T196.heap b26_0 kk26_0 .long (1 : Int32) [(.long q5)] (.long (0 : Int64)) := (V_b26_0_u219.keep kq196 (ninS ne_b26_0_b35_0 (ninS ne_b26_0_b35_1 nin0)))
  obtain ⟨cl309, Ar309, qk309, Sz309, Ng309, Hs309, Gf309⟩ := id V_b26_0_u308
  have hin310 : ¬ ((0 : Int32) < 0 ∨ cl309.slots.size ≤ ((0 : Int32)).toNatClampNeg) := inb_of Sz309 ⟨by decide, by decide⟩
  have hat311 : cl309.slots[((0 : Int32)).toNatClampNeg]? = some (.long q5) := Hs309.at hin310 rfl
  have E_b39_u313 : Exa Z T196.heap b39 "com/example/headlattice/headlattice/learn/Tally" := ((E_b39_u194.wr W195).keep kq196)
  have c314 : Fld Z h56 b39 "com/example/headlattice/headlattice/learn/Tally" "rightRows" "[J" .null := (((pf40_1.other W45 (Or.inl (Ne.symm ne_b25_1_b39))).other W50 (Or.inl (Ne.symm ne_b25_1_b39))).other W56 (Or.inl (Ne.symm ne_b25_1_b39)))
  have c315 : Fld Z h85 b39 "com/example/headlattice/headlattice/learn/Tally" "rightRows" "[J" .null := (((c314.other W64 (Or.inl (Ne.symm ne_b25_1_b39))).other W78 (Or.inl (Ne.symm ne_b25_0_b39))).other W85 (Or.inl (Ne.symm ne_b26_1_b39)))
  have c316 : Fld Z h102 b39 "com/example/headlattice/headlattice/learn/Tally" "rightRows" "[J" .null := (((c315.other W90 (Or.inl (Ne.symm ne_b26_1_b39))).other W96 (Or.inl (Ne.symm ne_b26_1_b39))).other W102 (Or.inl (Ne.symm ne_b26_1_b39)))
  have c317 : Fld Z h130 b39 "com/example/headlattice/headlattice/learn/Tally" "rightRows" "[J" .null := (((c316.other W114 (Or.inl (Ne.symm ne_b26_0_b39))).other W123 (Or.inl (Ne.symm ne_b35_0_b39))).other W130 (Or.inl (Ne.symm ne_b35_0_b39)))
  have c318 : Fld Z h160 b39 "com/example/headlattice/headlattice/learn/Tally" "rightRows" "[J" .null := (((c317.other W137 (Or.inl (Ne.symm ne_b35_0_b39))).other W144 (Or.inl (Ne.symm ne_b35_0_b39))).other W160 (Or.inl (Ne.symm ne_b35_1_b39)))
  have c319 : Fld Z h187 b39 "com/example/headlattice/headlattice/learn/Tally" "rightRows" "[J" .null := (((c318.other W171 (Or.inr sl66)).other W179 (Or.inr sl67)).other W187 (Or.inr sl68))
  have F_b39_rightRows_u320 : Fld Z T196.heap b39 "com/example/headlattice/headlattice/learn/Tally" "rightRows" "[J" .null := ((c319.other W195 (Or.inr sl70)).keep kq196 (ninS (Ne.symm ne_b35_0_b39) (ninS (Ne.symm ne_b35_1_b39) nin0)))
  have c321 : Fld Z h56 b39 "com/example/headlattice/headlattice/learn/Tally" "remainingRows" "I" (.int (0 : Int32)) := (((pf40_2.other W45 (Or.inl (Ne.symm ne_b25_1_b39))).other W50 (Or.inl (Ne.symm ne_b25_1_b39))).other W56 (Or.inl (Ne.symm ne_b25_1_b39)))
  have c322 : Fld Z h85 b39 "com/example/headlattice/headlattice/learn/Tally" "remainingRows" "I" (.int (0 : Int32)) := (((c321.other W64 (Or.inl (Ne.symm ne_b25_1_b39))).other W78 (Or.inl (Ne.symm ne_b25_0_b39))).other W85 (Or.inl (Ne.symm ne_b26_1_b39)))
  have c323 : Fld Z h102 b39 "com/example/headlattice/headlattice/learn/Tally" "remainingRows" "I" (.int (0 : Int32)) := (((c322.other W90 (Or.inl (Ne.symm ne_b26_1_b39))).other W96 (Or.inl (Ne.symm ne_b26_1_b39))).other W102 (Or.inl (Ne.symm ne_b26_1_b39)))
  have c324 : Fld Z h130 b39 "com/example/headlattice/headlattice/learn/Tally" "remainingRows" "I" (.int (0 : Int32)) := (((c323.other W114 (Or.inl (Ne.symm ne_b26_0_b39))).other W123 (Or.inl (Ne.symm ne_b35_0_b39))).other W130 (Or.inl (Ne.symm ne_b35_0_b39)))
  have c325 : Fld Z h160 b39 "com/example/headlattice/headlattice/learn/Tally" "remainingRows" "I" (.int (0 : Int32)) := (((c324.other W137 (Or.inl (Ne.symm ne_b35_0_b39))).other W144 (Or.inl (Ne.symm ne_b35_0_b39))).other W160 (Or.inl (Ne.symm ne_b35_1_b39)))
  have sl326 := slot_ne (Z := Z) (Or.inl (hw _ (List.mem_of_getElem? (i := 70) rfl))) (Or.inl (hw _ (List.mem_of_getElem? (i := 79) rfl))) (by decide) (t := .int) (t' := .long) (by decide) (by decide)
  have sl327 := slot_ne (Z := Z) (Or.inl (hw _ (List.mem_of_getElem? (i := 70) rfl))) (Or.inl (hw _ (List.mem_of_getElem? (i := 81) rfl))) (by decide) (t := .int) (t' := .long) (by decide) (by decide)
  have sl328 := slot_ne (Z := Z) (Or.inl (hw _ (List.mem_of_getElem? (i := 70) rfl))) (Or.inl (hw _ (List.mem_of_getElem? (i := 83) rfl))) (by decide) (t := .int) (t' := .long) (by decide) (by decide)
  have c329 : Fld Z h187 b39 "com/example/headlattice/headlattice/learn/Tally" "remainingRows" "I" (.int (0 : Int32)) := (((c325.other W171 (Or.inr sl326)).other W179 (Or.inr sl327)).other W187 (Or.inr sl328))
  have sl330 := slot_ne (Z := Z) (Or.inl (hw _ (List.mem_of_getElem? (i := 70) rfl))) (Or.inl (hw _ (List.mem_of_getElem? (i := 85) rfl))) (by decide) (t := .int) (t' := .long) (by decide) (by decide)
  have F_b39_remainingRows_u331 : Fld Z T196.heap b39 "com/example/headlattice/headlattice/learn/Tally" "remainingRows" "I" (.int (0 : Int32)) := ((c329.other W195 (Or.inr sl330)).keep kq196 (ninS (Ne.symm ne_b35_0_b39) (ninS (Ne.symm ne_b35_1_b39) nin0)))
  have c332 : Fld Z h195 b39 "com/example/headlattice/headlattice/learn/Tally" "truePositives" "J" (.long q3) := (((Fw171.other W179 (Or.inr sl220)).other W187 (Or.inr sl221)).other W195 (Or.inr sl222))
  have F_b39_truePositives_u333 : Fld Z T196.heap b39 "com/example/headlattice/headlattice/learn/Tally" "truePositives" "J" (.long q3) := (c332.keep kq196 (ninS (Ne.symm ne_b35_0_b39) (ninS (Ne.symm ne_b35_1_b39) nin0)))
  have F_b39_falsePositives_u334 : Fld Z T196.heap b39 "com/example/headlattice/headlattice/learn/Tally" "falsePositives" "J" (.long q0) := (((Fw179.other W187 (Or.inr sl237)).other W195 (Or.inr sl238)).keep kq196 (ninS (Ne.symm ne_b35_0_b39) (ninS (Ne.symm ne_b35_1_b39) nin0)))
  have F_b39_trueNegatives_u335 : Fld Z T196.heap b39 "com/example/headlattice/headlattice/learn/Tally" "trueNegatives" "J" (.long q1) := ((Fw187.other W195 (Or.inr sl252)).keep kq196 (ninS (Ne.symm ne_b35_0_b39) (ninS (Ne.symm ne_b35_1_b39) nin0)))
  have F_b39_falseNegatives_u336 : Fld Z T196.heap b39 "com/example/headlattice/headlattice/learn/Tally" "falseNegatives" "J" (.long q2) := (Fw195.keep kq196 (ninS (Ne.symm ne_b35_0_b39) (ninS (Ne.symm ne_b35_1_b39) nin0)))
  obtain ⟨cq312, kq312, q312a, q312b, q312c⟩ := isOf hZ e307 E_b39_u313
  obtain ⟨_, _, ⟨T312, L312, k312', n312'⟩, -, X312, ⟨Lc312, hQ312, l312, y312, z312⟩, st312⟩ := X307.virtualBack hx (y := (⟨"com/example/headlattice/headlattice/learn/Tally", "setSum", "(Lcom/example/headlattice/headlattice/learn/Tally;Lcom/example/headlattice/headlattice/learn/Tally;)V"⟩ : MethodName)) (z := (⟨"com/example/headlattice/headlattice/learn/Tally", "setSum", "(Lcom/example/headlattice/headlattice/learn/Tally;Lcom/example/headlattice/headlattice/learn/Tally;)V"⟩ : MethodName)) hown (mvT hZ (hw _ (List.mem_of_getElem? (i := 88) rfl))) (mvT hZ (hw _ (List.mem_of_getElem? (i := 89) rfl))) (notFace_of_selects (args := #[]) (mvT hZ (hw _ (List.mem_of_getElem? (i := 91) rfl)))) (mvT hZ (hw _ (List.mem_of_getElem? (i := 91) rfl))) (mvT hZ (hw _ (List.mem_of_getElem? (i := 90) rfl))) (by decide) (backOf (W := 0) (rm12b l Z az hw [] b39 b26_1 b25_1 q1 q0 (.long q3) q2 q1 (.long q0) q3 q2 (.long q1) q0 q3 (.long q2) T196.heap n0 Z196 E_b39_u313 F_b39_rightRows_u320 F_b39_remainingRows_u331 F_b26_1_truePositives_u298 F_b25_1_truePositives_u284 F_b39_truePositives_u333 g_b39 F_b26_1_falsePositives_u300 ne_b26_1_b39 F_b25_1_falsePositives_u286 ne_b25_1_b39 F_b39_falsePositives_u334 F_b26_1_trueNegatives_u302 F_b25_1_trueNegatives_u288 F_b39_trueNegatives_u335 F_b26_1_falseNegatives_u304 F_b25_1_falseNegatives_u290 F_b39_falseNegatives_u336) hZ (hw _ (List.mem_of_getElem? (i := 92) rfl)) (hw _ (List.mem_of_getElem? (i := 43) rfl)) (by decide) (by decide)) q312a q312c (g := (mkF m 414 #[.val (.long q0), .second, .val (.long q1), .second, .val (.long q2), .second, .val (.long q3), .second, .val (.long q4), .second, .val (.long q5), .second, .val (.ref b1), .val (.ref b25_1), .val (.ref b26_1), .val (.ref b35_0), .val (.ref b39), .val (.long (q0 + q1)), .second, .val (.long (q1 + q2)), .second, .val (.long (q2 + q3)), .second, .val (.long (q3 + q0)), .second, .val (.long (q4 &&& q5)), .second, .val (.int (1 : Int32))] [(.ref b25_1), (.ref b26_1), (.ref b39)])) rfl (by rw [hml]; rfl) (Steps.refl _) (argsL := [(.ref b26_1), (.ref b25_1)]) (rest := []) (lenOf pd_9 rfl) rfl (by show 2 * 0 + _ ≤ _; exact Nat.le_of_eq rfl) (hb hby at_414) (fun _ _ => ⟨rfl, e307, (by decide : 15 + 0 ≤ _), (by decide : 59 + 0 ≤ _)⟩)
  dsimp only [Pt.U, Pt.locs, Pt.cells, Pt.slots] at X312 l312 y312 z312 st312 hQ312
  subst l312 y312 z312
  obtain ⟨rfl, N312q, kq312, pf312_0, pf312_1, pf312_2, pf312_3, pf312_4, pf312_5, pf312_6⟩ := hQ312
  obtain ⟨Lg312, X312', N312⟩ := own_gen X312 (Fr.app N196 N312q)
  have K312 : Keep h0 T312.heap [] := K196.trans kq312 (allS (Or.inr sz_b39) all0)
  have Z312 : n0 ≤ T312.heap.size := Nat.le_trans Z196 kq312.1
  obtain ⟨T337, X337, e337, st337⟩ := getF X312' hx hZ hown (host := "") (Or.inl (hw _ (List.mem_of_getElem? (i := 78) rfl))) Via.refl rfl pf312_3 (g := (mkF m 424 #[.val (.long q0), .second, .val (.long q1), .second, .val (.long q2), .second, .val (.long q3), .second, .val (.long q4), .second, .val (.long q5), .second, .val (.ref b1), .val (.ref b25_1), .val (.ref b26_1), .val (.ref b35_0), .val (.ref b39), .val (.long (q0 + q1)), .second, .val (.long (q1 + q2)), .second, .val (.long (q2 + q3)), .second, .val (.long (q3 + q0)), .second, .val (.long (q4 &&& q5)), .second, .val (.int (1 : Int32))] [(.ref b39)])) rfl rfl (hb hby at_424)
  obtain ⟨T338, X338, e338, st338⟩ := getF X337 hx hZ hown (host := "") (Or.inl (hw _ (List.mem_of_getElem? (i := 80) rfl))) Via.refl e337 pf312_4 (g := (mkF m 435 #[.val (.long q0), .second, .val (.long q1), .second, .val (.long q2), .second, .val (.long q3), .second, .val (.long q4), .second, .val (.long q5), .second, .val (.ref b1), .val (.ref b25_1), .val (.ref b26_1), .val (.ref b35_0), .val (.ref b39), .val (.long (q0 + q1)), .second, .val (.long (q1 + q2)), .second, .val (.long (q2 + q3)), .second, .val (.long (q3 + q0)), .second, .val (.long (q4 &&& q5)), .second, .val (.int (1 : Int32))] [(.ref b39)])) rfl rfl (hb hby at_435)
  obtain ⟨T339, X339, e339, st339⟩ := getF X338 hx hZ hown (host := "") (Or.inl (hw _ (List.mem_of_getElem? (i := 82) rfl))) Via.refl e338 pf312_5 (g := (mkF m 446 #[.val (.long q0), .second, .val (.long q1), .second, .val (.long q2), .second, .val (.long q3), .second, .val (.long q4), .second, .val (.long q5), .second, .val (.ref b1), .val (.ref b25_1), .val (.ref b26_1), .val (.ref b35_0), .val (.ref b39), .val (.long (q0 + q1)), .second, .val (.long (q1 + q2)), .second, .val (.long (q2 + q3)), .second, .val (.long (q3 + q0)), .second, .val (.long (q4 &&& q5)), .second, .val (.int (1 : Int32))] [(.ref b39)])) rfl rfl (hb hby at_446)
  obtain ⟨T340, X340, e340, st340⟩ := getF X339 hx hZ hown (host := "") (Or.inl (hw _ (List.mem_of_getElem? (i := 84) rfl))) Via.refl e339 pf312_6 (g := (mkF m 457 #[.val (.long q0), .second, .val (.long q1), .second, .val (.long q2), .second, .val (.long q3), .second, .val (.long q4), .second, .val (.long q5), .second, .val (.ref b1), .val (.ref b25_1), .val (.ref b26_1), .val (.ref b35_0), .val (.ref b39), .val (.long (q0 + q1)), .second, .val (.long (q1 + q2)), .second, .val (.long (q2 + q3)), .second, .val (.long (q3 + q0)), .second, .val (.long (q4 &&& q5)), .second, .val (.int (1 : Int32))] [(.ref b39)])) rfl rfl (hb hby at_457)
  obtain ⟨T341, X341, e341, st341⟩ := getF X340 hx hZ hown (host := "") (Or.inl (hw _ (List.mem_of_getElem? (i := 86) rfl))) Via.refl e340 pf312_1 (g := (mkF m 468 #[.val (.long q0), .second, .val (.long q1), .second, .val (.long q2), .second, .val (.long q3), .second, .val (.long q4), .second, .val (.long q5), .second, .val (.ref b1), .val (.ref b25_1), .val (.ref b26_1), .val (.ref b35_0), .val (.ref b39), .val (.long (q0 + q1)), .second, .val (.long (q1 + q2)), .second, .val (.long (q2 + q3)), .second, .val (.long (q3 + q0)), .second, .val (.long (q4 &&& q5)), .second, .val (.int (1 : Int32))] [(.ref b39)])) rfl rfl (hb hby at_468)
  obtain ⟨T342, X342, e342, st342⟩ := getF X341 hx hZ hown (host := "") (Or.inl (hw _ (List.mem_of_getElem? (i := 97) rfl))) Via.refl e341 pf312_2 (g := (mkF m 476 #[.val (.long q0), .second, .val (.long q1), .second, .val (.long q2), .second, .val (.long q3), .second, .val (.long q4), .second, .val (.long q5), .second, .val (.ref b1), .val (.ref b25_1), .val (.ref b26_1), .val (.ref b35_0), .val (.ref b39), .val (.long (q0 + q1)), .second, .val (.long (q1 + q2)), .second, .val (.long (q2 + q3)), .second, .val (.long (q3 + q0)), .second, .val (.long (q4 &&& q5)), .second, .val (.int (1 : Int32))] [(.ref b39)])) rfl rfl (hb hby at_476)
  have c344 : Exa Z h85 b25_1 "com/example/headlattice/headlattice/learn/Tally" := (((E_b25_1_u63.wr W64).wr W78).wr W85)
  have c345 : Exa Z h102 b25_1 "com/example/headlattice/headlattice/learn/Tally" := (((c344.wr W90).wr W96).wr W102)
  have c346 : Exa Z h130 b25_1 "com/example/headlattice/headlattice/learn/Tally" := (((c345.wr W114).wr W123).wr W130)
  have c347 : Exa Z h160 b25_1 "com/example/headlattice/headlattice/learn/Tally" := (((c346.wr W137).wr W144).wr W160)
  have c348 : Exa Z h187 b25_1 "com/example/headlattice/headlattice/learn/Tally" := (((c347.wr W171).wr W179).wr W187)
  have E_b25_1_u349 : Exa Z T312.heap b25_1 "com/example/headlattice/headlattice/learn/Tally" := (((c348.wr W195).keep kq196).keep kq312)
  have F_b25_1_rightRows_u350 : Fld Z T312.heap b25_1 "com/example/headlattice/headlattice/learn/Tally" "rightRows" "[J" (.ref b25_0) := (F_b25_1_rightRows_u292.keep kq312 (ninS ne_b25_1_b39 nin0))
  have V_b25_0_u351 : Arv Z T312.heap b25_0 kk25_0 .long (1 : Int32) [(.long q4)] (.long (0 : Int64)) := (V_b25_0_u294.keep kq312 (ninS ne_b25_0_b39 nin0))
  have F_b26_1_rightRows_u352 : Fld Z T312.heap b26_1 "com/example/headlattice/headlattice/learn/Tally" "rightRows" "[J" (.ref b26_0) := (F_b26_1_rightRows_u306.keep kq312 (ninS ne_b26_1_b39 nin0))
  have V_b26_0_u353 : Arv Z T312.heap b26_0 kk26_0 .long (1 : Int32) [(.long q5)] (.long (0 : Int64)) := (V_b26_0_u308.keep kq312 (ninS ne_b26_0_b39 nin0))
  have F_b25_1_truePositives_u354 : Fld Z T312.heap b25_1 "com/example/headlattice/headlattice/learn/Tally" "truePositives" "J" (.long q0) := (F_b25_1_truePositives_u284.keep kq312 (ninS ne_b25_1_b39 nin0))
  have F_b26_1_truePositives_u355 : Fld Z T312.heap b26_1 "com/example/headlattice/headlattice/learn/Tally" "truePositives" "J" (.long q1) := (F_b26_1_truePositives_u298.keep kq312 (ninS ne_b26_1_b39 nin0))
  have F_b25_1_falsePositives_u356 : Fld Z T312.heap b25_1 "com/example/headlattice/headlattice/learn/Tally" "falsePositives" "J" (.long q1) := (F_b25_1_falsePositives_u286.keep kq312 (ninS ne_b25_1_b39 nin0))
  have F_b26_1_falsePositives_u357 : Fld Z T312.heap b26_1 "com/example/headlattice/headlattice/learn/Tally" "falsePositives" "J" (.long q2) := (F_b26_1_falsePositives_u300.keep kq312 (ninS ne_b26_1_b39 nin0))
  have F_b25_1_trueNegatives_u358 : Fld Z T312.heap b25_1 "com/example/headlattice/headlattice/learn/Tally" "trueNegatives" "J" (.long q2) := (F_b25_1_trueNegatives_u288.keep kq312 (ninS ne_b25_1_b39 nin0))
  have F_b26_1_trueNegatives_u359 : Fld Z T312.heap b26_1 "com/example/headlattice/headlattice/learn/Tally" "trueNegatives" "J" (.long q3) := (F_b26_1_trueNegatives_u302.keep kq312 (ninS ne_b26_1_b39 nin0))
  have F_b25_1_falseNegatives_u360 : Fld Z T312.heap b25_1 "com/example/headlattice/headlattice/learn/Tally" "falseNegatives" "J" (.long q3) := (F_b25_1_falseNegatives_u290.keep kq312 (ninS ne_b25_1_b39 nin0))
  have F_b26_1_falseNegatives_u361 : Fld Z T312.heap b26_1 "com/example/headlattice/headlattice/learn/Tally" "falseNegatives" "J" (.long q0) := (F_b26_1_falseNegatives_u304.keep kq312 (ninS ne_b26_1_b39 nin0))
  obtain ⟨cq343, kq343, q343a, q343b, q343c⟩ := isOf hZ e342 E_b25_1_u349
  obtain ⟨_, _, ⟨T343, L343, k343', n343'⟩, -, X343, ⟨Lc343, hQ343, l343, y343, z343⟩, st343⟩ := X342.virtualBack hx (y := (⟨"com/example/headlattice/headlattice/learn/Tally", "setSum", "(Lcom/example/headlattice/headlattice/learn/Tally;Lcom/example/headlattice/headlattice/learn/Tally;)V"⟩ : MethodName)) (z := (⟨"com/example/headlattice/headlattice/learn/Tally", "setSum", "(Lcom/example/headlattice/headlattice/learn/Tally;Lcom/example/headlattice/headlattice/learn/Tally;)V"⟩ : MethodName)) hown (mvT hZ (hw _ (List.mem_of_getElem? (i := 88) rfl))) (mvT hZ (hw _ (List.mem_of_getElem? (i := 89) rfl))) (notFace_of_selects (args := #[]) (mvT hZ (hw _ (List.mem_of_getElem? (i := 91) rfl)))) (mvT hZ (hw _ (List.mem_of_getElem? (i := 91) rfl))) (mvT hZ (hw _ (List.mem_of_getElem? (i := 90) rfl))) (by decide) (backOf (W := 0) (rm12c l Z az hw [] b25_1 b26_1 b25_0 kk25_0 q4 b26_0 kk26_0 q5 q0 q1 q1 q2 q2 q3 q3 q0 T312.heap n0 Z312 E_b25_1_u349 F_b25_1_rightRows_u350 V_b25_0_u351 F_b26_1_rightRows_u352 V_b26_0_u353 F_b25_1_truePositives_u354 F_b26_1_truePositives_u355 g_b25_1 F_b25_1_falsePositives_u356 F_b26_1_falsePositives_u357 (Ne.symm ne_b25_1_b26_1) F_b25_1_trueNegatives_u358 F_b26_1_trueNegatives_u359 F_b25_1_falseNegatives_u360 F_b26_1_falseNegatives_u361 ne_b25_0_b25_1 (Ne.symm ne_b25_1_b26_0) g_b25_0) hZ (hw _ (List.mem_of_getElem? (i := 92) rfl)) (hw _ (List.mem_of_getElem? (i := 43) rfl)) (by decide) (by decide)) q343a q343c (g := (mkF m 495 #[.val (.long q0), .second, .val (.long q1), .second, .val (.long q2), .second, .val (.long q3), .second, .val (.long q4), .second, .val (.long q5), .second, .val (.ref b1), .val (.ref b25_1), .val (.ref b26_1), .val (.ref b35_0), .val (.ref b39), .val (.long (q0 + q1)), .second, .val (.long (q1 + q2)), .second, .val (.long (q2 + q3)), .second, .val (.long (q3 + q0)), .second, .val (.long (q4 &&& q5)), .second, .val (.int (1 : Int32))] [(.ref b26_1), (.ref b25_1), (.ref b25_1)])) rfl (by rw [hml]; rfl) (Steps.refl _) (argsL := [(.ref b25_1), (.ref b26_1)]) (rest := []) (lenOf pd_9 rfl) rfl (by show 2 * 0 + _ ≤ _; exact Nat.le_of_eq rfl) (hb hby at_495) (fun _ _ => ⟨rfl, e342, (by decide : 15 + 0 ≤ _), (by decide : 59 + 0 ≤ _)⟩)
  dsimp only [Pt.U, Pt.locs, Pt.cells, Pt.slots] at X343 l343 y343 z343 st343 hQ343
  subst l343 y343 z343
  obtain ⟨rfl, N343q, kq343, pf343_0, pf343_1, pf343_2, pf343_3, pf343_4, pf343_5, pf343_6⟩ := hQ343
  obtain ⟨Lg343, X343', N343⟩ := own_gen X343 (Fr.app N312 N343q)
  have K343 : Keep h0 T343.heap [] := K312.trans kq343 (allS (Or.inr sz_b25_1) (allS (Or.inr sz_b25_0) all0))
  have Z343 : n0 ≤ T343.heap.size := Nat.le_trans Z312 kq343.1
  obtain ⟨T362, X362, e362, st362⟩ := getF X343' hx hZ hown (host := "") (Or.inl (hw _ (List.mem_of_getElem? (i := 78) rfl))) Via.refl rfl pf343_2 (g := (mkF m 505 #[.val (.long q0), .second, .val (.long q1), .second, .val (.long q2), .second, .val (.long q3), .second, .val (.long q4), .second, .val (.long q5), .second, .val (.ref b1), .val (.ref b25_1), .val (.ref b26_1), .val (.ref b35_0), .val (.ref b39), .val (.long (q0 + q1)), .second, .val (.long (q1 + q2)), .second, .val (.long (q2 + q3)), .second, .val (.long (q3 + q0)), .second, .val (.long (q4 &&& q5)), .second, .val (.int (1 : Int32))] [(.ref b25_1)])) rfl rfl (hb hby at_505)
  obtain ⟨T363, X363, e363, st363⟩ := getF X362 hx hZ hown (host := "") (Or.inl (hw _ (List.mem_of_getElem? (i := 80) rfl))) Via.refl e362 pf343_3 (g := (mkF m 516 #[.val (.long q0), .second, .val (.long q1), .second, .val (.long q2), .second, .val (.long q3), .second, .val (.long q4), .second, .val (.long q5), .second, .val (.ref b1), .val (.ref b25_1), .val (.ref b26_1), .val (.ref b35_0), .val (.ref b39), .val (.long (q0 + q1)), .second, .val (.long (q1 + q2)), .second, .val (.long (q2 + q3)), .second, .val (.long (q3 + q0)), .second, .val (.long (q4 &&& q5)), .second, .val (.int (1 : Int32))] [(.ref b25_1)])) rfl rfl (hb hby at_516)
  obtain ⟨T364, X364, e364, st364⟩ := getF X363 hx hZ hown (host := "") (Or.inl (hw _ (List.mem_of_getElem? (i := 82) rfl))) Via.refl e363 pf343_4 (g := (mkF m 527 #[.val (.long q0), .second, .val (.long q1), .second, .val (.long q2), .second, .val (.long q3), .second, .val (.long q4), .second, .val (.long q5), .second, .val (.ref b1), .val (.ref b25_1), .val (.ref b26_1), .val (.ref b35_0), .val (.ref b39), .val (.long (q0 + q1)), .second, .val (.long (q1 + q2)), .second, .val (.long (q2 + q3)), .second, .val (.long (q3 + q0)), .second, .val (.long (q4 &&& q5)), .second, .val (.int (1 : Int32))] [(.ref b25_1)])) rfl rfl (hb hby at_527)
  obtain ⟨T365, X365, e365, st365⟩ := getF X364 hx hZ hown (host := "") (Or.inl (hw _ (List.mem_of_getElem? (i := 84) rfl))) Via.refl e364 pf343_5 (g := (mkF m 538 #[.val (.long q0), .second, .val (.long q1), .second, .val (.long q2), .second, .val (.long q3), .second, .val (.long q4), .second, .val (.long q5), .second, .val (.ref b1), .val (.ref b25_1), .val (.ref b26_1), .val (.ref b35_0), .val (.ref b39), .val (.long (q0 + q1)), .second, .val (.long (q1 + q2)), .second, .val (.long (q2 + q3)), .second, .val (.long (q3 + q0)), .second, .val (.long (q4 &&& q5)), .second, .val (.int (1 : Int32))] [(.ref b25_1)])) rfl rfl (hb hby at_538)
  obtain ⟨T366, X366, e366, st366⟩ := getF X365 hx hZ hown (host := "") (Or.inl (hw _ (List.mem_of_getElem? (i := 86) rfl))) Via.refl e365 pf343_1 (g := (mkF m 549 #[.val (.long q0), .second, .val (.long q1), .second, .val (.long q2), .second, .val (.long q3), .second, .val (.long q4), .second, .val (.long q5), .second, .val (.ref b1), .val (.ref b25_1), .val (.ref b26_1), .val (.ref b35_0), .val (.ref b39), .val (.long (q0 + q1)), .second, .val (.long (q1 + q2)), .second, .val (.long (q2 + q3)), .second, .val (.long (q3 + q0)), .second, .val (.long (q4 &&& q5)), .second, .val (.int (1 : Int32))] [(.ref b25_1)])) rfl rfl (hb hby at_549)
  obtain ⟨cl367, Ar367, qk367, Sz367, Ng367, Hs367, Gf367⟩ := id pf343_6
  have hin368 : ¬ ((0 : Int32) < 0 ∨ cl367.slots.size ≤ ((0 : Int32)).toNatClampNeg) := inb_of Sz367 ⟨by decide, by decide⟩
  have hat369 : cl367.slots[((0 : Int32)).toNatClampNeg]? = some (.long (q4 &&& q5)) := Hs367.at hin368 rfl
  have F_b26_1_truePositives_u370 : Fld Z T343.heap b26_1 "com/example/headlattice/headlattice/learn/Tally" "truePositives" "J" (.long q1) := (F_b26_1_truePositives_u355.keep kq343 (ninS (Ne.symm ne_b25_1_b26_1) (ninS (Ne.symm ne_b25_0_b26_1) nin0)))
  obtain ⟨T371, X371, e371, st371⟩ := getF X366 hx hZ hown (host := "") (Or.inl (hw _ (List.mem_of_getElem? (i := 78) rfl))) Via.refl e366 F_b26_1_truePositives_u370 (g := (mkF m 562 #[.val (.long q0), .second, .val (.long q1), .second, .val (.long q2), .second, .val (.long q3), .second, .val (.long q4), .second, .val (.long q5), .second, .val (.ref b1), .val (.ref b25_1), .val (.ref b26_1), .val (.ref b35_0), .val (.ref b39), .val (.long (q0 + q1)), .second, .val (.long (q1 + q2)), .second, .val (.long (q2 + q3)), .second, .val (.long (q3 + q0)), .second, .val (.long (q4 &&& q5)), .second, .val (.int (1 : Int32))] [(.ref b26_1)])) rfl rfl (hb hby at_562)
  have F_b26_1_falsePositives_u372 : Fld Z T343.heap b26_1 "com/example/headlattice/headlattice/learn/Tally" "falsePositives" "J" (.long q2) := (F_b26_1_falsePositives_u357.keep kq343 (ninS (Ne.symm ne_b25_1_b26_1) (ninS (Ne.symm ne_b25_0_b26_1) nin0)))
  obtain ⟨T373, X373, e373, st373⟩ := getF X371 hx hZ hown (host := "") (Or.inl (hw _ (List.mem_of_getElem? (i := 80) rfl))) Via.refl e371 F_b26_1_falsePositives_u372 (g := (mkF m 572 #[.val (.long q0), .second, .val (.long q1), .second, .val (.long q2), .second, .val (.long q3), .second, .val (.long q4), .second, .val (.long q5), .second, .val (.ref b1), .val (.ref b25_1), .val (.ref b26_1), .val (.ref b35_0), .val (.ref b39), .val (.long (q0 + q1)), .second, .val (.long (q1 + q2)), .second, .val (.long (q2 + q3)), .second, .val (.long (q3 + q0)), .second, .val (.long (q4 &&& q5)), .second, .val (.int (1 : Int32))] [(.ref b26_1)])) rfl rfl (hb hby at_572)
  have F_b26_1_trueNegatives_u374 : Fld Z T343.heap b26_1 "com/example/headlattice/headlattice/learn/Tally" "trueNegatives" "J" (.long q3) := (F_b26_1_trueNegatives_u359.keep kq343 (ninS (Ne.symm ne_b25_1_b26_1) (ninS (Ne.symm ne_b25_0_b26_1) nin0)))
  obtain ⟨T375, X375, e375, st375⟩ := getF X373 hx hZ hown (host := "") (Or.inl (hw _ (List.mem_of_getElem? (i := 82) rfl))) Via.refl e373 F_b26_1_trueNegatives_u374 (g := (mkF m 583 #[.val (.long q0), .second, .val (.long q1), .second, .val (.long q2), .second, .val (.long q3), .second, .val (.long q4), .second, .val (.long q5), .second, .val (.ref b1), .val (.ref b25_1), .val (.ref b26_1), .val (.ref b35_0), .val (.ref b39), .val (.long (q0 + q1)), .second, .val (.long (q1 + q2)), .second, .val (.long (q2 + q3)), .second, .val (.long (q3 + q0)), .second, .val (.long (q4 &&& q5)), .second, .val (.int (1 : Int32))] [(.ref b26_1)])) rfl rfl (hb hby at_583)
  have F_b26_1_falseNegatives_u376 : Fld Z T343.heap b26_1 "com/example/headlattice/headlattice/learn/Tally" "falseNegatives" "J" (.long q0) := (F_b26_1_falseNegatives_u361.keep kq343 (ninS (Ne.symm ne_b25_1_b26_1) (ninS (Ne.symm ne_b25_0_b26_1) nin0)))
  obtain ⟨T377, X377, e377, st377⟩ := getF X375 hx hZ hown (host := "") (Or.inl (hw _ (List.mem_of_getElem? (i := 84) rfl))) Via.refl e375 F_b26_1_falseNegatives_u376 (g := (mkF m 594 #[.val (.long q0), .second, .val (.long q1), .second, .val (.long q2), .second, .val (.long q3), .second, .val (.long q4), .second, .val (.long q5), .second, .val (.ref b1), .val (.ref b25_1), .val (.ref b26_1), .val (.ref b35_0), .val (.ref b39), .val (.long (q0 + q1)), .second, .val (.long (q1 + q2)), .second, .val (.long (q2 + q3)), .second, .val (.long (q3 + q0)), .second, .val (.long (q4 &&& q5)), .second, .val (.int (1 : Int32))] [(.ref b26_1)])) rfl rfl (hb hby at_594)
  have F_b26_1_rightRows_u378 : Fld Z T343.heap b26_1 "com/example/headlattice/headlattice/learn/Tally" "rightRows" "[J" (.ref b26_0) := (F_b26_1_rightRows_u352.keep kq343 (ninS (Ne.symm ne_b25_1_b26_1) (ninS (Ne.symm ne_b25_0_b26_1) nin0)))
  obtain ⟨T379, X379, e379, st379⟩ := getF X377 hx hZ hown (host := "") (Or.inl (hw _ (List.mem_of_getElem? (i := 86) rfl))) Via.refl e377 F_b26_1_rightRows_u378 (g := (mkF m 604 #[.val (.long q0), .second, .val (.long q1), .second, .val (.long q2), .second, .val (.long q3), .second, .val (.long q4), .second, .val (.long q5), .second, .val (.ref b1), .val (.ref b25_1), .val (.ref b26_1), .val (.ref b35_0), .val (.ref b39), .val (.long (q0 + q1)), .second, .val (.long (q1 + q2)), .second, .val (.long (q2 + q3)), .second, .val (.long (q3 + q0)), .second, .val (.long (q4 &&& q5)), .second, .val (.int (1 : Int32))] [(.ref b26_1)])) rfl rfl (hb hby at_604)
  have V_b26_0_u380 : Arv Z T343.heap b26_0 kk26_0 .long (1 : Int32) [(.long q5)] (.long (0 : Int64)) := (V_b26_0_u353.keep kq343 (ninS (Ne.symm ne_b25_1_b26_0) (ninS (Ne.symm ne_b25_0_b26_0) nin0)))
  obtain ⟨cl381, Ar381, qk381, Sz381, Ng381, Hs381, Gf381⟩ := id V_b26_0_u380
  have hin382 : ¬ ((0 : Int32) < 0 ∨ cl381.slots.size ≤ ((0 : Int32)).toNatClampNeg) := inb_of Sz381 ⟨by decide, by decide⟩
  have hat383 : cl381.slots[((0 : Int32)).toNatClampNeg]? = some (.long q5) := Hs381.at hin382 rfl
  obtain ⟨fs, hr, hrun, hended, hW, hsame⟩ := X379.leave (v := some (.int (1 : Int32))) (fun h => by rw [Bd.returns] at h; cases h)
  refine ⟨_, _, pre0 _ ?_, hrun, hended, _, _, rfl, ?_, ⟨_, rfl⟩, hW, hsame.mono (by decide) (by decide)⟩
  · show Steps p.tables e below (s₁.setTop (mkF m 0 #[.val (.long q0), .second, .val (.long q1), .second, .val (.long q2), .second, .val (.long q3), .second, .val (.long q4), .second, .val (.long q5), .second, .unset, .unset, .unset, .unset, .unset, .unset, .unset, .unset, .unset, .unset, .unset, .unset, .unset, .unset, .unset, .unset] [])) _
    refine st1 _ ?_
    show Steps p.tables e below (T1.setTop (mkF m 3 #[.val (.long q0), .second, .val (.long q1), .second, .val (.long q2), .second, .val (.long q3), .second, .val (.long q4), .second, .val (.long q5), .second, .unset, .unset, .unset, .unset, .unset, .unset, .unset, .unset, .unset, .unset, .unset, .unset, .unset, .unset, .unset, .unset] [(.ref b1)])) _
    refine XS.dup X1.here hx rfl (hb hby at_3) rfl rfl ?_
    show Steps p.tables e below (T1.setTop (mkF m 4 #[.val (.long q0), .second, .val (.long q1), .second, .val (.long q2), .second, .val (.long q3), .second, .val (.long q4), .second, .val (.long q5), .second, .unset, .unset, .unset, .unset, .unset, .unset, .unset, .unset, .unset, .unset, .unset, .unset, .unset, .unset, .unset, .unset] [(.ref b1), (.ref b1)])) _
    refine XS.iconst X1.here hx rfl (hb hby at_4) ?_
    show Steps p.tables e below (T1.setTop (mkF m 5 #[.val (.long q0), .second, .val (.long q1), .second, .val (.long q2), .second, .val (.long q3), .second, .val (.long q4), .second, .val (.long q5), .second, .unset, .unset, .unset, .unset, .unset, .unset, .unset, .unset, .unset, .unset, .unset, .unset, .unset, .unset, .unset, .unset] [(.int (1 : Int32)), (.ref b1), (.ref b1)])) _
    refine st2.trans ?_
    show Steps p.tables e below (T2.setTop (mkF m 8 #[.val (.long q0), .second, .val (.long q1), .second, .val (.long q2), .second, .val (.long q3), .second, .val (.long q4), .second, .val (.long q5), .second, .unset, .unset, .unset, .unset, .unset, .unset, .unset, .unset, .unset, .unset, .unset, .unset, .unset, .unset, .unset, .unset] [(.ref b1)])) _
    refine XS.astore X2'.here hx rfl (hb hby at_8) rfl rfl (l' := #[.val (.long q0), .second, .val (.long q1), .second, .val (.long q2), .second, .val (.long q3), .second, .val (.long q4), .second, .val (.long q5), .second, .val (.ref b1), .unset, .unset, .unset, .unset, .unset, .unset, .unset, .unset, .unset, .unset, .unset, .unset, .unset, .unset, .unset]) rfl ?_
    show Steps p.tables e below (T2.setTop (mkF m 10 #[.val (.long q0), .second, .val (.long q1), .second, .val (.long q2), .second, .val (.long q3), .second, .val (.long q4), .second, .val (.long q5), .second, .val (.ref b1), .unset, .unset, .unset, .unset, .unset, .unset, .unset, .unset, .unset, .unset, .unset, .unset, .unset, .unset, .unset] [])) _
    refine XS.aload X2'.here hx rfl (hb hby at_10) rfl rfl ?_
    show Steps p.tables e below (T2.setTop (mkF m 12 #[.val (.long q0), .second, .val (.long q1), .second, .val (.long q2), .second, .val (.long q3), .second, .val (.long q4), .second, .val (.long q5), .second, .val (.ref b1), .unset, .unset, .unset, .unset, .unset, .unset, .unset, .unset, .unset, .unset, .unset, .unset, .unset, .unset, .unset] [(.ref b1)])) _
    refine XS.iconst X2'.here hx rfl (hb hby at_12) ?_
    show Steps p.tables e below (T2.setTop (mkF m 13 #[.val (.long q0), .second, .val (.long q1), .second, .val (.long q2), .second, .val (.long q3), .second, .val (.long q4), .second, .val (.long q5), .second, .val (.ref b1), .unset, .unset, .unset, .unset, .unset, .unset, .unset, .unset, .unset, .unset, .unset, .unset, .unset, .unset, .unset] [(.int (1 : Int32)), (.ref b1)])) _
    refine st3 _ ?_
    show Steps p.tables e below (T3.setTop (mkF m 15 #[.val (.long q0), .second, .val (.long q1), .second, .val (.long q2), .second, .val (.long q3), .second, .val (.long q4), .second, .val (.long q5), .second, .val (.ref b1), .unset, .unset, .unset, .unset, .unset, .unset, .unset, .unset, .unset, .unset, .unset, .unset, .unset, .unset, .unset] [(.ref b3), (.ref b1)])) _
    refine XS.dup X3.here hx rfl (hb hby at_15) rfl rfl ?_
    show Steps p.tables e below (T3.setTop (mkF m 16 #[.val (.long q0), .second, .val (.long q1), .second, .val (.long q2), .second, .val (.long q3), .second, .val (.long q4), .second, .val (.long q5), .second, .val (.ref b1), .unset, .unset, .unset, .unset, .unset, .unset, .unset, .unset, .unset, .unset, .unset, .unset, .unset, .unset, .unset] [(.ref b3), (.ref b3), (.ref b1)])) _
    refine XS.iconst X3.here hx rfl (hb hby at_16) ?_
    show Steps p.tables e below (T3.setTop (mkF m 17 #[.val (.long q0), .second, .val (.long q1), .second, .val (.long q2), .second, .val (.long q3), .second, .val (.long q4), .second, .val (.long q5), .second, .val (.ref b1), .unset, .unset, .unset, .unset, .unset, .unset, .unset, .unset, .unset, .unset, .unset, .unset, .unset, .unset, .unset] [(.int (0 : Int32)), (.ref b3), (.ref b3), (.ref b1)])) _
    refine XS.iconst X3.here hx rfl (hb hby at_17) ?_
    show Steps p.tables e below (T3.setTop (mkF m 18 #[.val (.long q0), .second, .val (.long q1), .second, .val (.long q2), .second, .val (.long q3), .second, .val (.long q4), .second, .val (.long q5), .second, .val (.ref b1), .unset, .unset, .unset, .unset, .unset, .unset, .unset, .unset, .unset, .unset, .unset, .unset, .unset, .unset, .unset] [(.int (0 : Int32)), (.int (0 : Int32)), (.ref b3), (.ref b3), (.ref b1)])) _
    refine st6 _ ?_
    show Steps p.tables e below (T6.setTop (mkF m 19 #[.val (.long q0), .second, .val (.long q1), .second, .val (.long q2), .second, .val (.long q3), .second, .val (.long q4), .second, .val (.long q5), .second, .val (.ref b1), .unset, .unset, .unset, .unset, .unset, .unset, .unset, .unset, .unset, .unset, .unset, .unset, .unset, .unset, .unset] [(.ref b3), (.ref b1)])) _
    refine XS.iconst X6'.here hx rfl (hb hby at_19) ?_
    show Steps p.tables e below (T6.setTop (mkF m 20 #[.val (.long q0), .second, .val (.long q1), .second, .val (.long q2), .second, .val (.long q3), .second, .val (.long q4), .second, .val (.long q5), .second, .val (.ref b1), .unset, .unset, .unset, .unset, .unset, .unset, .unset, .unset, .unset, .unset, .unset, .unset, .unset, .unset, .unset] [(.int (0 : Int32)), (.ref b3), (.ref b1)])) _
    refine st7.trans ?_
    show Steps p.tables e below (T7.setTop (mkF m 23 #[.val (.long q0), .second, .val (.long q1), .second, .val (.long q2), .second, .val (.long q3), .second, .val (.long q4), .second, .val (.long q5), .second, .val (.ref b1), .unset, .unset, .unset, .unset, .unset, .unset, .unset, .unset, .unset, .unset, .unset, .unset, .unset, .unset, .unset] [(.int (0 : Int32))])) _
    refine XS.pop X7'.here hx rfl (hb hby at_23) rfl rfl ?_
    show Steps p.tables e below (T7.setTop (mkF m 24 #[.val (.long q0), .second, .val (.long q1), .second, .val (.long q2), .second, .val (.long q3), .second, .val (.long q4), .second, .val (.long q5), .second, .val (.ref b1), .unset, .unset, .unset, .unset, .unset, .unset, .unset, .unset, .unset, .unset, .unset, .unset, .unset, .unset, .unset] [])) _
    refine XS.aload X7'.here hx rfl (hb hby at_24) rfl rfl ?_
    show Steps p.tables e below (T7.setTop (mkF m 26 #[.val (.long q0), .second, .val (.long q1), .second, .val (.long q2), .second, .val (.long q3), .second, .val (.long q4), .second, .val (.long q5), .second, .val (.ref b1), .unset, .unset, .unset, .unset, .unset, .unset, .unset, .unset, .unset, .unset, .unset, .unset, .unset, .unset, .unset] [(.ref b1)])) _
    refine XS.iconst X7'.here hx rfl (hb hby at_26) ?_
    show Steps p.tables e below (T7.setTop (mkF m 27 #[.val (.long q0), .second, .val (.long q1), .second, .val (.long q2), .second, .val (.long q3), .second, .val (.long q4), .second, .val (.long q5), .second, .val (.ref b1), .unset, .unset, .unset, .unset, .unset, .unset, .unset, .unset, .unset, .unset, .unset, .unset, .unset, .unset, .unset] [(.int (1 : Int32)), (.ref b1)])) _
    refine st25 _ ?_
    show Steps p.tables e below (T25.setTop (mkF m 30 #[.val (.long q0), .second, .val (.long q1), .second, .val (.long q2), .second, .val (.long q3), .second, .val (.long q4), .second, .val (.long q5), .second, .val (.ref b1), .unset, .unset, .unset, .unset, .unset, .unset, .unset, .unset, .unset, .unset, .unset, .unset, .unset, .unset, .unset] [(.ref b25_1)])) _
    refine XS.astore X25'.here hx rfl (hb hby at_30) rfl rfl (l' := #[.val (.long q0), .second, .val (.long q1), .second, .val (.long q2), .second, .val (.long q3), .second, .val (.long q4), .second, .val (.long q5), .second, .val (.ref b1), .val (.ref b25_1), .unset, .unset, .unset, .unset, .unset, .unset, .unset, .unset, .unset, .unset, .unset, .unset, .unset, .unset]) rfl ?_
    show Steps p.tables e below (T25.setTop (mkF m 32 #[.val (.long q0), .second, .val (.long q1), .second, .val (.long q2), .second, .val (.long q3), .second, .val (.long q4), .second, .val (.long q5), .second, .val (.ref b1), .val (.ref b25_1), .unset, .unset, .unset, .unset, .unset, .unset, .unset, .unset, .unset, .unset, .unset, .unset, .unset, .unset] [])) _
    refine XS.aload X25'.here hx rfl (hb hby at_32) rfl rfl ?_
    show Steps p.tables e below (T25.setTop (mkF m 34 #[.val (.long q0), .second, .val (.long q1), .second, .val (.long q2), .second, .val (.long q3), .second, .val (.long q4), .second, .val (.long q5), .second, .val (.ref b1), .val (.ref b25_1), .unset, .unset, .unset, .unset, .unset, .unset, .unset, .unset, .unset, .unset, .unset, .unset, .unset, .unset] [(.ref b1)])) _
    refine XS.iconst X25'.here hx rfl (hb hby at_34) ?_
    show Steps p.tables e below (T25.setTop (mkF m 35 #[.val (.long q0), .second, .val (.long q1), .second, .val (.long q2), .second, .val (.long q3), .second, .val (.long q4), .second, .val (.long q5), .second, .val (.ref b1), .val (.ref b25_1), .unset, .unset, .unset, .unset, .unset, .unset, .unset, .unset, .unset, .unset, .unset, .unset, .unset, .unset] [(.int (1 : Int32)), (.ref b1)])) _
    refine st26 _ ?_
    show Steps p.tables e below (T26.setTop (mkF m 38 #[.val (.long q0), .second, .val (.long q1), .second, .val (.long q2), .second, .val (.long q3), .second, .val (.long q4), .second, .val (.long q5), .second, .val (.ref b1), .val (.ref b25_1), .unset, .unset, .unset, .unset, .unset, .unset, .unset, .unset, .unset, .unset, .unset, .unset, .unset, .unset] [(.ref b26_1)])) _
    refine XS.astore X26'.here hx rfl (hb hby at_38) rfl rfl (l' := #[.val (.long q0), .second, .val (.long q1), .second, .val (.long q2), .second, .val (.long q3), .second, .val (.long q4), .second, .val (.long q5), .second, .val (.ref b1), .val (.ref b25_1), .val (.ref b26_1), .unset, .unset, .unset, .unset, .unset, .unset, .unset, .unset, .unset, .unset, .unset, .unset, .unset]) rfl ?_
    show Steps p.tables e below (T26.setTop (mkF m 40 #[.val (.long q0), .second, .val (.long q1), .second, .val (.long q2), .second, .val (.long q3), .second, .val (.long q4), .second, .val (.long q5), .second, .val (.ref b1), .val (.ref b25_1), .val (.ref b26_1), .unset, .unset, .unset, .unset, .unset, .unset, .unset, .unset, .unset, .unset, .unset, .unset, .unset] [])) _
    refine XS.aload X26'.here hx rfl (hb hby at_40) rfl rfl ?_
    show Steps p.tables e below (T26.setTop (mkF m 42 #[.val (.long q0), .second, .val (.long q1), .second, .val (.long q2), .second, .val (.long q3), .second, .val (.long q4), .second, .val (.long q5), .second, .val (.ref b1), .val (.ref b25_1), .val (.ref b26_1), .unset, .unset, .unset, .unset, .unset, .unset, .unset, .unset, .unset, .unset, .unset, .unset, .unset] [(.ref b25_1)])) _
    refine st35 _ ?_
    show Steps p.tables e below (T35.setTop (mkF m 45 #[.val (.long q0), .second, .val (.long q1), .second, .val (.long q2), .second, .val (.long q3), .second, .val (.long q4), .second, .val (.long q5), .second, .val (.ref b1), .val (.ref b25_1), .val (.ref b26_1), .unset, .unset, .unset, .unset, .unset, .unset, .unset, .unset, .unset, .unset, .unset, .unset, .unset] [(.ref b35_0)])) _
    refine XS.astore X35'.here hx rfl (hb hby at_45) rfl rfl (l' := #[.val (.long q0), .second, .val (.long q1), .second, .val (.long q2), .second, .val (.long q3), .second, .val (.long q4), .second, .val (.long q5), .second, .val (.ref b1), .val (.ref b25_1), .val (.ref b26_1), .val (.ref b35_0), .unset, .unset, .unset, .unset, .unset, .unset, .unset, .unset, .unset, .unset, .unset, .unset]) rfl ?_
    show Steps p.tables e below (T35.setTop (mkF m 47 #[.val (.long q0), .second, .val (.long q1), .second, .val (.long q2), .second, .val (.long q3), .second, .val (.long q4), .second, .val (.long q5), .second, .val (.ref b1), .val (.ref b25_1), .val (.ref b26_1), .val (.ref b35_0), .unset, .unset, .unset, .unset, .unset, .unset, .unset, .unset, .unset, .unset, .unset, .unset] [])) _
    refine st39 _ ?_
    show Steps p.tables e below (T39.setTop (mkF m 50 #[.val (.long q0), .second, .val (.long q1), .second, .val (.long q2), .second, .val (.long q3), .second, .val (.long q4), .second, .val (.long q5), .second, .val (.ref b1), .val (.ref b25_1), .val (.ref b26_1), .val (.ref b35_0), .unset, .unset, .unset, .unset, .unset, .unset, .unset, .unset, .unset, .unset, .unset, .unset] [(.ref b39)])) _
    refine XS.dup X39.here hx rfl (hb hby at_50) rfl rfl ?_
    show Steps p.tables e below (T39.setTop (mkF m 51 #[.val (.long q0), .second, .val (.long q1), .second, .val (.long q2), .second, .val (.long q3), .second, .val (.long q4), .second, .val (.long q5), .second, .val (.ref b1), .val (.ref b25_1), .val (.ref b26_1), .val (.ref b35_0), .unset, .unset, .unset, .unset, .unset, .unset, .unset, .unset, .unset, .unset, .unset, .unset] [(.ref b39), (.ref b39)])) _
    refine st40.trans ?_
    show Steps p.tables e below (T40.setTop (mkF m 54 #[.val (.long q0), .second, .val (.long q1), .second, .val (.long q2), .second, .val (.long q3), .second, .val (.long q4), .second, .val (.long q5), .second, .val (.ref b1), .val (.ref b25_1), .val (.ref b26_1), .val (.ref b35_0), .unset, .unset, .unset, .unset, .unset, .unset, .unset, .unset, .unset, .unset, .unset, .unset] [(.ref b39)])) _
    refine XS.astore X40'.here hx rfl (hb hby at_54) rfl rfl (l' := #[.val (.long q0), .second, .val (.long q1), .second, .val (.long q2), .second, .val (.long q3), .second, .val (.long q4), .second, .val (.long q5), .second, .val (.ref b1), .val (.ref b25_1), .val (.ref b26_1), .val (.ref b35_0), .val (.ref b39), .unset, .unset, .unset, .unset, .unset, .unset, .unset, .unset, .unset, .unset, .unset]) rfl ?_
    show Steps p.tables e below (T40.setTop (mkF m 56 #[.val (.long q0), .second, .val (.long q1), .second, .val (.long q2), .second, .val (.long q3), .second, .val (.long q4), .second, .val (.long q5), .second, .val (.ref b1), .val (.ref b25_1), .val (.ref b26_1), .val (.ref b35_0), .val (.ref b39), .unset, .unset, .unset, .unset, .unset, .unset, .unset, .unset, .unset, .unset, .unset] [])) _
    refine XS.aload X40'.here hx rfl (hb hby at_56) rfl rfl ?_
    show Steps p.tables e below (T40.setTop (mkF m 58 #[.val (.long q0), .second, .val (.long q1), .second, .val (.long q2), .second, .val (.long q3), .second, .val (.long q4), .second, .val (.long q5), .second, .val (.ref b1), .val (.ref b25_1), .val (.ref b26_1), .val (.ref b35_0), .val (.ref b39), .unset, .unset, .unset, .unset, .unset, .unset, .unset, .unset, .unset, .unset, .unset] [(.ref b25_1)])) _
    refine XS.lloadN X40'.here hx rfl (hb hby at_58) rfl ?_
    show Steps p.tables e below (T40.setTop (mkF m 59 #[.val (.long q0), .second, .val (.long q1), .second, .val (.long q2), .second, .val (.long q3), .second, .val (.long q4), .second, .val (.long q5), .second, .val (.ref b1), .val (.ref b25_1), .val (.ref b26_1), .val (.ref b35_0), .val (.ref b39), .unset, .unset, .unset, .unset, .unset, .unset, .unset, .unset, .unset, .unset, .unset] [(.long q0), (.ref b25_1)])) _
    refine st45 _ ?_
    show Steps p.tables e below (T45.setTop (mkF m 62 #[.val (.long q0), .second, .val (.long q1), .second, .val (.long q2), .second, .val (.long q3), .second, .val (.long q4), .second, .val (.long q5), .second, .val (.ref b1), .val (.ref b25_1), .val (.ref b26_1), .val (.ref b35_0), .val (.ref b39), .unset, .unset, .unset, .unset, .unset, .unset, .unset, .unset, .unset, .unset, .unset] [])) _
    refine XS.aload X45'.here hx rfl (hb hby at_62) rfl rfl ?_
    show Steps p.tables e below (T45.setTop (mkF m 64 #[.val (.long q0), .second, .val (.long q1), .second, .val (.long q2), .second, .val (.long q3), .second, .val (.long q4), .second, .val (.long q5), .second, .val (.ref b1), .val (.ref b25_1), .val (.ref b26_1), .val (.ref b35_0), .val (.ref b39), .unset, .unset, .unset, .unset, .unset, .unset, .unset, .unset, .unset, .unset, .unset] [(.ref b25_1)])) _
    refine XS.lloadN X45'.here hx rfl (hb hby at_64) rfl ?_
    show Steps p.tables e below (T45.setTop (mkF m 65 #[.val (.long q0), .second, .val (.long q1), .second, .val (.long q2), .second, .val (.long q3), .second, .val (.long q4), .second, .val (.long q5), .second, .val (.ref b1), .val (.ref b25_1), .val (.ref b26_1), .val (.ref b35_0), .val (.ref b39), .unset, .unset, .unset, .unset, .unset, .unset, .unset, .unset, .unset, .unset, .unset] [(.long q1), (.ref b25_1)])) _
    refine st50 _ ?_
    show Steps p.tables e below (T50.setTop (mkF m 68 #[.val (.long q0), .second, .val (.long q1), .second, .val (.long q2), .second, .val (.long q3), .second, .val (.long q4), .second, .val (.long q5), .second, .val (.ref b1), .val (.ref b25_1), .val (.ref b26_1), .val (.ref b35_0), .val (.ref b39), .unset, .unset, .unset, .unset, .unset, .unset, .unset, .unset, .unset, .unset, .unset] [])) _
    refine XS.aload X50'.here hx rfl (hb hby at_68) rfl rfl ?_
    show Steps p.tables e below (T50.setTop (mkF m 70 #[.val (.long q0), .second, .val (.long q1), .second, .val (.long q2), .second, .val (.long q3), .second, .val (.long q4), .second, .val (.long q5), .second, .val (.ref b1), .val (.ref b25_1), .val (.ref b26_1), .val (.ref b35_0), .val (.ref b39), .unset, .unset, .unset, .unset, .unset, .unset, .unset, .unset, .unset, .unset, .unset] [(.ref b25_1)])) _
    refine XS.lload X50'.here hx rfl (hb hby at_70) rfl ?_
    show Steps p.tables e below (T50.setTop (mkF m 72 #[.val (.long q0), .second, .val (.long q1), .second, .val (.long q2), .second, .val (.long q3), .second, .val (.long q4), .second, .val (.long q5), .second, .val (.ref b1), .val (.ref b25_1), .val (.ref b26_1), .val (.ref b35_0), .val (.ref b39), .unset, .unset, .unset, .unset, .unset, .unset, .unset, .unset, .unset, .unset, .unset] [(.long q2), (.ref b25_1)])) _
    refine st56 _ ?_
    show Steps p.tables e below (T56.setTop (mkF m 75 #[.val (.long q0), .second, .val (.long q1), .second, .val (.long q2), .second, .val (.long q3), .second, .val (.long q4), .second, .val (.long q5), .second, .val (.ref b1), .val (.ref b25_1), .val (.ref b26_1), .val (.ref b35_0), .val (.ref b39), .unset, .unset, .unset, .unset, .unset, .unset, .unset, .unset, .unset, .unset, .unset] [])) _
    refine XS.aload X56'.here hx rfl (hb hby at_75) rfl rfl ?_
    show Steps p.tables e below (T56.setTop (mkF m 77 #[.val (.long q0), .second, .val (.long q1), .second, .val (.long q2), .second, .val (.long q3), .second, .val (.long q4), .second, .val (.long q5), .second, .val (.ref b1), .val (.ref b25_1), .val (.ref b26_1), .val (.ref b35_0), .val (.ref b39), .unset, .unset, .unset, .unset, .unset, .unset, .unset, .unset, .unset, .unset, .unset] [(.ref b25_1)])) _
    refine XS.lload X56'.here hx rfl (hb hby at_77) rfl ?_
    show Steps p.tables e below (T56.setTop (mkF m 79 #[.val (.long q0), .second, .val (.long q1), .second, .val (.long q2), .second, .val (.long q3), .second, .val (.long q4), .second, .val (.long q5), .second, .val (.ref b1), .val (.ref b25_1), .val (.ref b26_1), .val (.ref b35_0), .val (.ref b39), .unset, .unset, .unset, .unset, .unset, .unset, .unset, .unset, .unset, .unset, .unset] [(.long q3), (.ref b25_1)])) _
    refine st64 _ ?_
    show Steps p.tables e below (T64.setTop (mkF m 82 #[.val (.long q0), .second, .val (.long q1), .second, .val (.long q2), .second, .val (.long q3), .second, .val (.long q4), .second, .val (.long q5), .second, .val (.ref b1), .val (.ref b25_1), .val (.ref b26_1), .val (.ref b35_0), .val (.ref b39), .unset, .unset, .unset, .unset, .unset, .unset, .unset, .unset, .unset, .unset, .unset] [])) _
    refine XS.aload X64'.here hx rfl (hb hby at_82) rfl rfl ?_
    show Steps p.tables e below (T64.setTop (mkF m 84 #[.val (.long q0), .second, .val (.long q1), .second, .val (.long q2), .second, .val (.long q3), .second, .val (.long q4), .second, .val (.long q5), .second, .val (.ref b1), .val (.ref b25_1), .val (.ref b26_1), .val (.ref b35_0), .val (.ref b39), .unset, .unset, .unset, .unset, .unset, .unset, .unset, .unset, .unset, .unset, .unset] [(.ref b25_1)])) _
    refine st72 _ ?_
    show Steps p.tables e below (T72.setTop (mkF m 87 #[.val (.long q0), .second, .val (.long q1), .second, .val (.long q2), .second, .val (.long q3), .second, .val (.long q4), .second, .val (.long q5), .second, .val (.ref b1), .val (.ref b25_1), .val (.ref b26_1), .val (.ref b35_0), .val (.ref b39), .unset, .unset, .unset, .unset, .unset, .unset, .unset, .unset, .unset, .unset, .unset] [(.ref b25_0)])) _
    refine XS.iconst X72.here hx rfl (hb hby at_87) ?_
    show Steps p.tables e below (T72.setTop (mkF m 88 #[.val (.long q0), .second, .val (.long q1), .second, .val (.long q2), .second, .val (.long q3), .second, .val (.long q4), .second, .val (.long q5), .second, .val (.ref b1), .val (.ref b25_1), .val (.ref b26_1), .val (.ref b35_0), .val (.ref b39), .unset, .unset, .unset, .unset, .unset, .unset, .unset, .unset, .unset, .unset, .unset] [(.int (0 : Int32)), (.ref b25_0)])) _
    refine XS.lload X72.here hx rfl (hb hby at_88) rfl ?_
    show Steps p.tables e below (T72.setTop (mkF m 90 #[.val (.long q0), .second, .val (.long q1), .second, .val (.long q2), .second, .val (.long q3), .second, .val (.long q4), .second, .val (.long q5), .second, .val (.ref b1), .val (.ref b25_1), .val (.ref b26_1), .val (.ref b35_0), .val (.ref b39), .unset, .unset, .unset, .unset, .unset, .unset, .unset, .unset, .unset, .unset, .unset] [(.long q4), (.int (0 : Int32)), (.ref b25_0)])) _
    refine st78 _ ?_
    show Steps p.tables e below (T78.setTop (mkF m 91 #[.val (.long q0), .second, .val (.long q1), .second, .val (.long q2), .second, .val (.long q3), .second, .val (.long q4), .second, .val (.long q5), .second, .val (.ref b1), .val (.ref b25_1), .val (.ref b26_1), .val (.ref b35_0), .val (.ref b39), .unset, .unset, .unset, .unset, .unset, .unset, .unset, .unset, .unset, .unset, .unset] [])) _
    refine XS.aload X78'.here hx rfl (hb hby at_91) rfl rfl ?_
    show Steps p.tables e below (T78.setTop (mkF m 93 #[.val (.long q0), .second, .val (.long q1), .second, .val (.long q2), .second, .val (.long q3), .second, .val (.long q4), .second, .val (.long q5), .second, .val (.ref b1), .val (.ref b25_1), .val (.ref b26_1), .val (.ref b35_0), .val (.ref b39), .unset, .unset, .unset, .unset, .unset, .unset, .unset, .unset, .unset, .unset, .unset] [(.ref b26_1)])) _
    refine XS.lloadN X78'.here hx rfl (hb hby at_93) rfl ?_
    show Steps p.tables e below (T78.setTop (mkF m 94 #[.val (.long q0), .second, .val (.long q1), .second, .val (.long q2), .second, .val (.long q3), .second, .val (.long q4), .second, .val (.long q5), .second, .val (.ref b1), .val (.ref b25_1), .val (.ref b26_1), .val (.ref b35_0), .val (.ref b39), .unset, .unset, .unset, .unset, .unset, .unset, .unset, .unset, .unset, .unset, .unset] [(.long q1), (.ref b26_1)])) _
    refine st85 _ ?_
    show Steps p.tables e below (T85.setTop (mkF m 97 #[.val (.long q0), .second, .val (.long q1), .second, .val (.long q2), .second, .val (.long q3), .second, .val (.long q4), .second, .val (.long q5), .second, .val (.ref b1), .val (.ref b25_1), .val (.ref b26_1), .val (.ref b35_0), .val (.ref b39), .unset, .unset, .unset, .unset, .unset, .unset, .unset, .unset, .unset, .unset, .unset] [])) _
    refine XS.aload X85'.here hx rfl (hb hby at_97) rfl rfl ?_
    show Steps p.tables e below (T85.setTop (mkF m 99 #[.val (.long q0), .second, .val (.long q1), .second, .val (.long q2), .second, .val (.long q3), .second, .val (.long q4), .second, .val (.long q5), .second, .val (.ref b1), .val (.ref b25_1), .val (.ref b26_1), .val (.ref b35_0), .val (.ref b39), .unset, .unset, .unset, .unset, .unset, .unset, .unset, .unset, .unset, .unset, .unset] [(.ref b26_1)])) _
    refine XS.lload X85'.here hx rfl (hb hby at_99) rfl ?_
    show Steps p.tables e below (T85.setTop (mkF m 101 #[.val (.long q0), .second, .val (.long q1), .second, .val (.long q2), .second, .val (.long q3), .second, .val (.long q4), .second, .val (.long q5), .second, .val (.ref b1), .val (.ref b25_1), .val (.ref b26_1), .val (.ref b35_0), .val (.ref b39), .unset, .unset, .unset, .unset, .unset, .unset, .unset, .unset, .unset, .unset, .unset] [(.long q2), (.ref b26_1)])) _
    refine st90 _ ?_
    show Steps p.tables e below (T90.setTop (mkF m 104 #[.val (.long q0), .second, .val (.long q1), .second, .val (.long q2), .second, .val (.long q3), .second, .val (.long q4), .second, .val (.long q5), .second, .val (.ref b1), .val (.ref b25_1), .val (.ref b26_1), .val (.ref b35_0), .val (.ref b39), .unset, .unset, .unset, .unset, .unset, .unset, .unset, .unset, .unset, .unset, .unset] [])) _
    refine XS.aload X90'.here hx rfl (hb hby at_104) rfl rfl ?_
    show Steps p.tables e below (T90.setTop (mkF m 106 #[.val (.long q0), .second, .val (.long q1), .second, .val (.long q2), .second, .val (.long q3), .second, .val (.long q4), .second, .val (.long q5), .second, .val (.ref b1), .val (.ref b25_1), .val (.ref b26_1), .val (.ref b35_0), .val (.ref b39), .unset, .unset, .unset, .unset, .unset, .unset, .unset, .unset, .unset, .unset, .unset] [(.ref b26_1)])) _
    refine XS.lload X90'.here hx rfl (hb hby at_106) rfl ?_
    show Steps p.tables e below (T90.setTop (mkF m 108 #[.val (.long q0), .second, .val (.long q1), .second, .val (.long q2), .second, .val (.long q3), .second, .val (.long q4), .second, .val (.long q5), .second, .val (.ref b1), .val (.ref b25_1), .val (.ref b26_1), .val (.ref b35_0), .val (.ref b39), .unset, .unset, .unset, .unset, .unset, .unset, .unset, .unset, .unset, .unset, .unset] [(.long q3), (.ref b26_1)])) _
    refine st96 _ ?_
    show Steps p.tables e below (T96.setTop (mkF m 111 #[.val (.long q0), .second, .val (.long q1), .second, .val (.long q2), .second, .val (.long q3), .second, .val (.long q4), .second, .val (.long q5), .second, .val (.ref b1), .val (.ref b25_1), .val (.ref b26_1), .val (.ref b35_0), .val (.ref b39), .unset, .unset, .unset, .unset, .unset, .unset, .unset, .unset, .unset, .unset, .unset] [])) _
    refine XS.aload X96'.here hx rfl (hb hby at_111) rfl rfl ?_
    show Steps p.tables e below (T96.setTop (mkF m 113 #[.val (.long q0), .second, .val (.long q1), .second, .val (.long q2), .second, .val (.long q3), .second, .val (.long q4), .second, .val (.long q5), .second, .val (.ref b1), .val (.ref b25_1), .val (.ref b26_1), .val (.ref b35_0), .val (.ref b39), .unset, .unset, .unset, .unset, .unset, .unset, .unset, .unset, .unset, .unset, .unset] [(.ref b26_1)])) _
    refine XS.lloadN X96'.here hx rfl (hb hby at_113) rfl ?_
    show Steps p.tables e below (T96.setTop (mkF m 114 #[.val (.long q0), .second, .val (.long q1), .second, .val (.long q2), .second, .val (.long q3), .second, .val (.long q4), .second, .val (.long q5), .second, .val (.ref b1), .val (.ref b25_1), .val (.ref b26_1), .val (.ref b35_0), .val (.ref b39), .unset, .unset, .unset, .unset, .unset, .unset, .unset, .unset, .unset, .unset, .unset] [(.long q0), (.ref b26_1)])) _
    refine st102 _ ?_
    show Steps p.tables e below (T102.setTop (mkF m 117 #[.val (.long q0), .second, .val (.long q1), .second, .val (.long q2), .second, .val (.long q3), .second, .val (.long q4), .second, .val (.long q5), .second, .val (.ref b1), .val (.ref b25_1), .val (.ref b26_1), .val (.ref b35_0), .val (.ref b39), .unset, .unset, .unset, .unset, .unset, .unset, .unset, .unset, .unset, .unset, .unset] [])) _
    refine XS.aload X102'.here hx rfl (hb hby at_117) rfl rfl ?_
    show Steps p.tables e below (T102.setTop (mkF m 119 #[.val (.long q0), .second, .val (.long q1), .second, .val (.long q2), .second, .val (.long q3), .second, .val (.long q4), .second, .val (.long q5), .second, .val (.ref b1), .val (.ref b25_1), .val (.ref b26_1), .val (.ref b35_0), .val (.ref b39), .unset, .unset, .unset, .unset, .unset, .unset, .unset, .unset, .unset, .unset, .unset] [(.ref b26_1)])) _
    refine st107 _ ?_
    show Steps p.tables e below (T107.setTop (mkF m 122 #[.val (.long q0), .second, .val (.long q1), .second, .val (.long q2), .second, .val (.long q3), .second, .val (.long q4), .second, .val (.long q5), .second, .val (.ref b1), .val (.ref b25_1), .val (.ref b26_1), .val (.ref b35_0), .val (.ref b39), .unset, .unset, .unset, .unset, .unset, .unset, .unset, .unset, .unset, .unset, .unset] [(.ref b26_0)])) _
    refine XS.iconst X107.here hx rfl (hb hby at_122) ?_
    show Steps p.tables e below (T107.setTop (mkF m 123 #[.val (.long q0), .second, .val (.long q1), .second, .val (.long q2), .second, .val (.long q3), .second, .val (.long q4), .second, .val (.long q5), .second, .val (.ref b1), .val (.ref b25_1), .val (.ref b26_1), .val (.ref b35_0), .val (.ref b39), .unset, .unset, .unset, .unset, .unset, .unset, .unset, .unset, .unset, .unset, .unset] [(.int (0 : Int32)), (.ref b26_0)])) _
    refine XS.lload X107.here hx rfl (hb hby at_123) rfl ?_
    show Steps p.tables e below (T107.setTop (mkF m 125 #[.val (.long q0), .second, .val (.long q1), .second, .val (.long q2), .second, .val (.long q3), .second, .val (.long q4), .second, .val (.long q5), .second, .val (.ref b1), .val (.ref b25_1), .val (.ref b26_1), .val (.ref b35_0), .val (.ref b39), .unset, .unset, .unset, .unset, .unset, .unset, .unset, .unset, .unset, .unset, .unset] [(.long q5), (.int (0 : Int32)), (.ref b26_0)])) _
    refine st114 _ ?_
    show Steps p.tables e below (T114.setTop (mkF m 126 #[.val (.long q0), .second, .val (.long q1), .second, .val (.long q2), .second, .val (.long q3), .second, .val (.long q4), .second, .val (.long q5), .second, .val (.ref b1), .val (.ref b25_1), .val (.ref b26_1), .val (.ref b35_0), .val (.ref b39), .unset, .unset, .unset, .unset, .unset, .unset, .unset, .unset, .unset, .unset, .unset] [])) _
    refine XS.aload X114'.here hx rfl (hb hby at_126) rfl rfl ?_
    show Steps p.tables e below (T114.setTop (mkF m 128 #[.val (.long q0), .second, .val (.long q1), .second, .val (.long q2), .second, .val (.long q3), .second, .val (.long q4), .second, .val (.long q5), .second, .val (.ref b1), .val (.ref b25_1), .val (.ref b26_1), .val (.ref b35_0), .val (.ref b39), .unset, .unset, .unset, .unset, .unset, .unset, .unset, .unset, .unset, .unset, .unset] [(.ref b35_0)])) _
    refine XS.lload X114'.here hx rfl (hb hby at_128) rfl ?_
    show Steps p.tables e below (T114.setTop (mkF m 130 #[.val (.long q0), .second, .val (.long q1), .second, .val (.long q2), .second, .val (.long q3), .second, .val (.long q4), .second, .val (.long q5), .second, .val (.ref b1), .val (.ref b25_1), .val (.ref b26_1), .val (.ref b35_0), .val (.ref b39), .unset, .unset, .unset, .unset, .unset, .unset, .unset, .unset, .unset, .unset, .unset] [(.long q2), (.ref b35_0)])) _
    refine st123 _ ?_
    show Steps p.tables e below (T123.setTop (mkF m 133 #[.val (.long q0), .second, .val (.long q1), .second, .val (.long q2), .second, .val (.long q3), .second, .val (.long q4), .second, .val (.long q5), .second, .val (.ref b1), .val (.ref b25_1), .val (.ref b26_1), .val (.ref b35_0), .val (.ref b39), .unset, .unset, .unset, .unset, .unset, .unset, .unset, .unset, .unset, .unset, .unset] [])) _
    refine XS.aload X123'.here hx rfl (hb hby at_133) rfl rfl ?_
    show Steps p.tables e below (T123.setTop (mkF m 135 #[.val (.long q0), .second, .val (.long q1), .second, .val (.long q2), .second, .val (.long q3), .second, .val (.long q4), .second, .val (.long q5), .second, .val (.ref b1), .val (.ref b25_1), .val (.ref b26_1), .val (.ref b35_0), .val (.ref b39), .unset, .unset, .unset, .unset, .unset, .unset, .unset, .unset, .unset, .unset, .unset] [(.ref b35_0)])) _
    refine XS.lload X123'.here hx rfl (hb hby at_135) rfl ?_
    show Steps p.tables e below (T123.setTop (mkF m 137 #[.val (.long q0), .second, .val (.long q1), .second, .val (.long q2), .second, .val (.long q3), .second, .val (.long q4), .second, .val (.long q5), .second, .val (.ref b1), .val (.ref b25_1), .val (.ref b26_1), .val (.ref b35_0), .val (.ref b39), .unset, .unset, .unset, .unset, .unset, .unset, .unset, .unset, .unset, .unset, .unset] [(.long q3), (.ref b35_0)])) _
    refine st130 _ ?_
    show Steps p.tables e below (T130.setTop (mkF m 140 #[.val (.long q0), .second, .val (.long q1), .second, .val (.long q2), .second, .val (.long q3), .second, .val (.long q4), .second, .val (.long q5), .second, .val (.ref b1), .val (.ref b25_1), .val (.ref b26_1), .val (.ref b35_0), .val (.ref b39), .unset, .unset, .unset, .unset, .unset, .unset, .unset, .unset, .unset, .unset, .unset] [])) _
    refine XS.aload X130'.here hx rfl (hb hby at_140) rfl rfl ?_
    show Steps p.tables e below (T130.setTop (mkF m 142 #[.val (.long q0), .second, .val (.long q1), .second, .val (.long q2), .second, .val (.long q3), .second, .val (.long q4), .second, .val (.long q5), .second, .val (.ref b1), .val (.ref b25_1), .val (.ref b26_1), .val (.ref b35_0), .val (.ref b39), .unset, .unset, .unset, .unset, .unset, .unset, .unset, .unset, .unset, .unset, .unset] [(.ref b35_0)])) _
    refine XS.lloadN X130'.here hx rfl (hb hby at_142) rfl ?_
    show Steps p.tables e below (T130.setTop (mkF m 143 #[.val (.long q0), .second, .val (.long q1), .second, .val (.long q2), .second, .val (.long q3), .second, .val (.long q4), .second, .val (.long q5), .second, .val (.ref b1), .val (.ref b25_1), .val (.ref b26_1), .val (.ref b35_0), .val (.ref b39), .unset, .unset, .unset, .unset, .unset, .unset, .unset, .unset, .unset, .unset, .unset] [(.long q0), (.ref b35_0)])) _
    refine st137 _ ?_
    show Steps p.tables e below (T137.setTop (mkF m 146 #[.val (.long q0), .second, .val (.long q1), .second, .val (.long q2), .second, .val (.long q3), .second, .val (.long q4), .second, .val (.long q5), .second, .val (.ref b1), .val (.ref b25_1), .val (.ref b26_1), .val (.ref b35_0), .val (.ref b39), .unset, .unset, .unset, .unset, .unset, .unset, .unset, .unset, .unset, .unset, .unset] [])) _
    refine XS.aload X137'.here hx rfl (hb hby at_146) rfl rfl ?_
    show Steps p.tables e below (T137.setTop (mkF m 148 #[.val (.long q0), .second, .val (.long q1), .second, .val (.long q2), .second, .val (.long q3), .second, .val (.long q4), .second, .val (.long q5), .second, .val (.ref b1), .val (.ref b25_1), .val (.ref b26_1), .val (.ref b35_0), .val (.ref b39), .unset, .unset, .unset, .unset, .unset, .unset, .unset, .unset, .unset, .unset, .unset] [(.ref b35_0)])) _
    refine XS.lloadN X137'.here hx rfl (hb hby at_148) rfl ?_
    show Steps p.tables e below (T137.setTop (mkF m 149 #[.val (.long q0), .second, .val (.long q1), .second, .val (.long q2), .second, .val (.long q3), .second, .val (.long q4), .second, .val (.long q5), .second, .val (.ref b1), .val (.ref b25_1), .val (.ref b26_1), .val (.ref b35_0), .val (.ref b39), .unset, .unset, .unset, .unset, .unset, .unset, .unset, .unset, .unset, .unset, .unset] [(.long q1), (.ref b35_0)])) _
    refine st144 _ ?_
    show Steps p.tables e below (T144.setTop (mkF m 152 #[.val (.long q0), .second, .val (.long q1), .second, .val (.long q2), .second, .val (.long q3), .second, .val (.long q4), .second, .val (.long q5), .second, .val (.ref b1), .val (.ref b25_1), .val (.ref b26_1), .val (.ref b35_0), .val (.ref b39), .unset, .unset, .unset, .unset, .unset, .unset, .unset, .unset, .unset, .unset, .unset] [])) _
    refine XS.aload X144'.here hx rfl (hb hby at_152) rfl rfl ?_
    show Steps p.tables e below (T144.setTop (mkF m 154 #[.val (.long q0), .second, .val (.long q1), .second, .val (.long q2), .second, .val (.long q3), .second, .val (.long q4), .second, .val (.long q5), .second, .val (.ref b1), .val (.ref b25_1), .val (.ref b26_1), .val (.ref b35_0), .val (.ref b39), .unset, .unset, .unset, .unset, .unset, .unset, .unset, .unset, .unset, .unset, .unset] [(.ref b35_0)])) _
    refine st151 _ ?_
    show Steps p.tables e below (T151.setTop (mkF m 157 #[.val (.long q0), .second, .val (.long q1), .second, .val (.long q2), .second, .val (.long q3), .second, .val (.long q4), .second, .val (.long q5), .second, .val (.ref b1), .val (.ref b25_1), .val (.ref b26_1), .val (.ref b35_0), .val (.ref b39), .unset, .unset, .unset, .unset, .unset, .unset, .unset, .unset, .unset, .unset, .unset] [(.ref b35_1)])) _
    refine XS.iconst X151.here hx rfl (hb hby at_157) ?_
    show Steps p.tables e below (T151.setTop (mkF m 158 #[.val (.long q0), .second, .val (.long q1), .second, .val (.long q2), .second, .val (.long q3), .second, .val (.long q4), .second, .val (.long q5), .second, .val (.ref b1), .val (.ref b25_1), .val (.ref b26_1), .val (.ref b35_0), .val (.ref b39), .unset, .unset, .unset, .unset, .unset, .unset, .unset, .unset, .unset, .unset, .unset] [(.int (0 : Int32)), (.ref b35_1)])) _
    refine XS.lload X151.here hx rfl (hb hby at_158) rfl ?_
    show Steps p.tables e below (T151.setTop (mkF m 160 #[.val (.long q0), .second, .val (.long q1), .second, .val (.long q2), .second, .val (.long q3), .second, .val (.long q4), .second, .val (.long q5), .second, .val (.ref b1), .val (.ref b25_1), .val (.ref b26_1), .val (.ref b35_0), .val (.ref b39), .unset, .unset, .unset, .unset, .unset, .unset, .unset, .unset, .unset, .unset, .unset] [(.long q4), (.int (0 : Int32)), (.ref b35_1)])) _
    refine XS.lload X151.here hx rfl (hb hby at_160) rfl ?_
    show Steps p.tables e below (T151.setTop (mkF m 162 #[.val (.long q0), .second, .val (.long q1), .second, .val (.long q2), .second, .val (.long q3), .second, .val (.long q4), .second, .val (.long q5), .second, .val (.ref b1), .val (.ref b25_1), .val (.ref b26_1), .val (.ref b35_0), .val (.ref b39), .unset, .unset, .unset, .unset, .unset, .unset, .unset, .unset, .unset, .unset, .unset] [(.long q5), (.long q4), (.int (0 : Int32)), (.ref b35_1)])) _
    refine XS.land X151.here hx rfl (hb hby at_162) rfl ?_
    show Steps p.tables e below (T151.setTop (mkF m 163 #[.val (.long q0), .second, .val (.long q1), .second, .val (.long q2), .second, .val (.long q3), .second, .val (.long q4), .second, .val (.long q5), .second, .val (.ref b1), .val (.ref b25_1), .val (.ref b26_1), .val (.ref b35_0), .val (.ref b39), .unset, .unset, .unset, .unset, .unset, .unset, .unset, .unset, .unset, .unset, .unset] [(.long (q4 &&& q5)), (.int (0 : Int32)), (.ref b35_1)])) _
    refine X151.ldc2Long hx hown (mvT hZ (hw _ (List.mem_of_getElem? (i := 87) rfl))) (g := (mkF m 163 #[.val (.long q0), .second, .val (.long q1), .second, .val (.long q2), .second, .val (.long q3), .second, .val (.long q4), .second, .val (.long q5), .second, .val (.ref b1), .val (.ref b25_1), .val (.ref b26_1), .val (.ref b35_0), .val (.ref b39), .unset, .unset, .unset, .unset, .unset, .unset, .unset, .unset, .unset, .unset, .unset] [(.long (q4 &&& q5)), (.int (0 : Int32)), (.ref b35_1)])) rfl (hb hby at_163) _ ?_
    show Steps p.tables e below (T151.setTop (mkF m 166 #[.val (.long q0), .second, .val (.long q1), .second, .val (.long q2), .second, .val (.long q3), .second, .val (.long q4), .second, .val (.long q5), .second, .val (.ref b1), .val (.ref b25_1), .val (.ref b26_1), .val (.ref b35_0), .val (.ref b39), .unset, .unset, .unset, .unset, .unset, .unset, .unset, .unset, .unset, .unset, .unset] [(.long (-1 : Int64)), (.long (q4 &&& q5)), (.int (0 : Int32)), (.ref b35_1)])) _
    refine XS.lxor X151.here hx rfl (hb hby at_166) rfl ?_
    show Steps p.tables e below (T151.setTop (mkF m 167 #[.val (.long q0), .second, .val (.long q1), .second, .val (.long q2), .second, .val (.long q3), .second, .val (.long q4), .second, .val (.long q5), .second, .val (.ref b1), .val (.ref b25_1), .val (.ref b26_1), .val (.ref b35_0), .val (.ref b39), .unset, .unset, .unset, .unset, .unset, .unset, .unset, .unset, .unset, .unset, .unset] [(.long ((q4 &&& q5) ^^^ (-1 : Int64))), (.int (0 : Int32)), (.ref b35_1)])) _
    refine st160 _ ?_
    show Steps p.tables e below (T160.setTop (mkF m 168 #[.val (.long q0), .second, .val (.long q1), .second, .val (.long q2), .second, .val (.long q3), .second, .val (.long q4), .second, .val (.long q5), .second, .val (.ref b1), .val (.ref b25_1), .val (.ref b26_1), .val (.ref b35_0), .val (.ref b39), .unset, .unset, .unset, .unset, .unset, .unset, .unset, .unset, .unset, .unset, .unset] [])) _
    refine XS.aload X160'.here hx rfl (hb hby at_168) rfl rfl ?_
    show Steps p.tables e below (T160.setTop (mkF m 170 #[.val (.long q0), .second, .val (.long q1), .second, .val (.long q2), .second, .val (.long q3), .second, .val (.long q4), .second, .val (.long q5), .second, .val (.ref b1), .val (.ref b25_1), .val (.ref b26_1), .val (.ref b35_0), .val (.ref b39), .unset, .unset, .unset, .unset, .unset, .unset, .unset, .unset, .unset, .unset, .unset] [(.ref b39)])) _
    refine XS.lload X160'.here hx rfl (hb hby at_170) rfl ?_
    show Steps p.tables e below (T160.setTop (mkF m 172 #[.val (.long q0), .second, .val (.long q1), .second, .val (.long q2), .second, .val (.long q3), .second, .val (.long q4), .second, .val (.long q5), .second, .val (.ref b1), .val (.ref b25_1), .val (.ref b26_1), .val (.ref b35_0), .val (.ref b39), .unset, .unset, .unset, .unset, .unset, .unset, .unset, .unset, .unset, .unset, .unset] [(.long q3), (.ref b39)])) _
    refine st171 _ ?_
    show Steps p.tables e below (T171.setTop (mkF m 175 #[.val (.long q0), .second, .val (.long q1), .second, .val (.long q2), .second, .val (.long q3), .second, .val (.long q4), .second, .val (.long q5), .second, .val (.ref b1), .val (.ref b25_1), .val (.ref b26_1), .val (.ref b35_0), .val (.ref b39), .unset, .unset, .unset, .unset, .unset, .unset, .unset, .unset, .unset, .unset, .unset] [])) _
    refine XS.aload X171'.here hx rfl (hb hby at_175) rfl rfl ?_
    show Steps p.tables e below (T171.setTop (mkF m 177 #[.val (.long q0), .second, .val (.long q1), .second, .val (.long q2), .second, .val (.long q3), .second, .val (.long q4), .second, .val (.long q5), .second, .val (.ref b1), .val (.ref b25_1), .val (.ref b26_1), .val (.ref b35_0), .val (.ref b39), .unset, .unset, .unset, .unset, .unset, .unset, .unset, .unset, .unset, .unset, .unset] [(.ref b39)])) _
    refine XS.lloadN X171'.here hx rfl (hb hby at_177) rfl ?_
    show Steps p.tables e below (T171.setTop (mkF m 178 #[.val (.long q0), .second, .val (.long q1), .second, .val (.long q2), .second, .val (.long q3), .second, .val (.long q4), .second, .val (.long q5), .second, .val (.ref b1), .val (.ref b25_1), .val (.ref b26_1), .val (.ref b35_0), .val (.ref b39), .unset, .unset, .unset, .unset, .unset, .unset, .unset, .unset, .unset, .unset, .unset] [(.long q0), (.ref b39)])) _
    refine st179 _ ?_
    show Steps p.tables e below (T179.setTop (mkF m 181 #[.val (.long q0), .second, .val (.long q1), .second, .val (.long q2), .second, .val (.long q3), .second, .val (.long q4), .second, .val (.long q5), .second, .val (.ref b1), .val (.ref b25_1), .val (.ref b26_1), .val (.ref b35_0), .val (.ref b39), .unset, .unset, .unset, .unset, .unset, .unset, .unset, .unset, .unset, .unset, .unset] [])) _
    refine XS.aload X179'.here hx rfl (hb hby at_181) rfl rfl ?_
    show Steps p.tables e below (T179.setTop (mkF m 183 #[.val (.long q0), .second, .val (.long q1), .second, .val (.long q2), .second, .val (.long q3), .second, .val (.long q4), .second, .val (.long q5), .second, .val (.ref b1), .val (.ref b25_1), .val (.ref b26_1), .val (.ref b35_0), .val (.ref b39), .unset, .unset, .unset, .unset, .unset, .unset, .unset, .unset, .unset, .unset, .unset] [(.ref b39)])) _
    refine XS.lloadN X179'.here hx rfl (hb hby at_183) rfl ?_
    show Steps p.tables e below (T179.setTop (mkF m 184 #[.val (.long q0), .second, .val (.long q1), .second, .val (.long q2), .second, .val (.long q3), .second, .val (.long q4), .second, .val (.long q5), .second, .val (.ref b1), .val (.ref b25_1), .val (.ref b26_1), .val (.ref b35_0), .val (.ref b39), .unset, .unset, .unset, .unset, .unset, .unset, .unset, .unset, .unset, .unset, .unset] [(.long q1), (.ref b39)])) _
    refine st187 _ ?_
    show Steps p.tables e below (T187.setTop (mkF m 187 #[.val (.long q0), .second, .val (.long q1), .second, .val (.long q2), .second, .val (.long q3), .second, .val (.long q4), .second, .val (.long q5), .second, .val (.ref b1), .val (.ref b25_1), .val (.ref b26_1), .val (.ref b35_0), .val (.ref b39), .unset, .unset, .unset, .unset, .unset, .unset, .unset, .unset, .unset, .unset, .unset] [])) _
    refine XS.aload X187'.here hx rfl (hb hby at_187) rfl rfl ?_
    show Steps p.tables e below (T187.setTop (mkF m 189 #[.val (.long q0), .second, .val (.long q1), .second, .val (.long q2), .second, .val (.long q3), .second, .val (.long q4), .second, .val (.long q5), .second, .val (.ref b1), .val (.ref b25_1), .val (.ref b26_1), .val (.ref b35_0), .val (.ref b39), .unset, .unset, .unset, .unset, .unset, .unset, .unset, .unset, .unset, .unset, .unset] [(.ref b39)])) _
    refine XS.lload X187'.here hx rfl (hb hby at_189) rfl ?_
    show Steps p.tables e below (T187.setTop (mkF m 191 #[.val (.long q0), .second, .val (.long q1), .second, .val (.long q2), .second, .val (.long q3), .second, .val (.long q4), .second, .val (.long q5), .second, .val (.ref b1), .val (.ref b25_1), .val (.ref b26_1), .val (.ref b35_0), .val (.ref b39), .unset, .unset, .unset, .unset, .unset, .unset, .unset, .unset, .unset, .unset, .unset] [(.long q2), (.ref b39)])) _
    refine st195 _ ?_
    show Steps p.tables e below (T195.setTop (mkF m 194 #[.val (.long q0), .second, .val (.long q1), .second, .val (.long q2), .second, .val (.long q3), .second, .val (.long q4), .second, .val (.long q5), .second, .val (.ref b1), .val (.ref b25_1), .val (.ref b26_1), .val (.ref b35_0), .val (.ref b39), .unset, .unset, .unset, .unset, .unset, .unset, .unset, .unset, .unset, .unset, .unset] [])) _
    refine XS.lloadN X195'.here hx rfl (hb hby at_194) rfl ?_
    show Steps p.tables e below (T195.setTop (mkF m 195 #[.val (.long q0), .second, .val (.long q1), .second, .val (.long q2), .second, .val (.long q3), .second, .val (.long q4), .second, .val (.long q5), .second, .val (.ref b1), .val (.ref b25_1), .val (.ref b26_1), .val (.ref b35_0), .val (.ref b39), .unset, .unset, .unset, .unset, .unset, .unset, .unset, .unset, .unset, .unset, .unset] [(.long q0)])) _
    refine XS.lloadN X195'.here hx rfl (hb hby at_195) rfl ?_
    show Steps p.tables e below (T195.setTop (mkF m 196 #[.val (.long q0), .second, .val (.long q1), .second, .val (.long q2), .second, .val (.long q3), .second, .val (.long q4), .second, .val (.long q5), .second, .val (.ref b1), .val (.ref b25_1), .val (.ref b26_1), .val (.ref b35_0), .val (.ref b39), .unset, .unset, .unset, .unset, .unset, .unset, .unset, .unset, .unset, .unset, .unset] [(.long q1), (.long q0)])) _
    refine XS.ladd X195'.here hx rfl (hb hby at_196) rfl ?_
    show Steps p.tables e below (T195.setTop (mkF m 197 #[.val (.long q0), .second, .val (.long q1), .second, .val (.long q2), .second, .val (.long q3), .second, .val (.long q4), .second, .val (.long q5), .second, .val (.ref b1), .val (.ref b25_1), .val (.ref b26_1), .val (.ref b35_0), .val (.ref b39), .unset, .unset, .unset, .unset, .unset, .unset, .unset, .unset, .unset, .unset, .unset] [(.long (q0 + q1))])) _
    refine XS.lstore X195'.here hx rfl (hb hby at_197) rfl (l' := #[.val (.long q0), .second, .val (.long q1), .second, .val (.long q2), .second, .val (.long q3), .second, .val (.long q4), .second, .val (.long q5), .second, .val (.ref b1), .val (.ref b25_1), .val (.ref b26_1), .val (.ref b35_0), .val (.ref b39), .val (.long (q0 + q1)), .second, .unset, .unset, .unset, .unset, .unset, .unset, .unset, .unset, .unset]) rfl ?_
    show Steps p.tables e below (T195.setTop (mkF m 199 #[.val (.long q0), .second, .val (.long q1), .second, .val (.long q2), .second, .val (.long q3), .second, .val (.long q4), .second, .val (.long q5), .second, .val (.ref b1), .val (.ref b25_1), .val (.ref b26_1), .val (.ref b35_0), .val (.ref b39), .val (.long (q0 + q1)), .second, .unset, .unset, .unset, .unset, .unset, .unset, .unset, .unset, .unset] [])) _
    refine XS.lloadN X195'.here hx rfl (hb hby at_199) rfl ?_
    show Steps p.tables e below (T195.setTop (mkF m 200 #[.val (.long q0), .second, .val (.long q1), .second, .val (.long q2), .second, .val (.long q3), .second, .val (.long q4), .second, .val (.long q5), .second, .val (.ref b1), .val (.ref b25_1), .val (.ref b26_1), .val (.ref b35_0), .val (.ref b39), .val (.long (q0 + q1)), .second, .unset, .unset, .unset, .unset, .unset, .unset, .unset, .unset, .unset] [(.long q1)])) _
    refine XS.lload X195'.here hx rfl (hb hby at_200) rfl ?_
    show Steps p.tables e below (T195.setTop (mkF m 202 #[.val (.long q0), .second, .val (.long q1), .second, .val (.long q2), .second, .val (.long q3), .second, .val (.long q4), .second, .val (.long q5), .second, .val (.ref b1), .val (.ref b25_1), .val (.ref b26_1), .val (.ref b35_0), .val (.ref b39), .val (.long (q0 + q1)), .second, .unset, .unset, .unset, .unset, .unset, .unset, .unset, .unset, .unset] [(.long q2), (.long q1)])) _
    refine XS.ladd X195'.here hx rfl (hb hby at_202) rfl ?_
    show Steps p.tables e below (T195.setTop (mkF m 203 #[.val (.long q0), .second, .val (.long q1), .second, .val (.long q2), .second, .val (.long q3), .second, .val (.long q4), .second, .val (.long q5), .second, .val (.ref b1), .val (.ref b25_1), .val (.ref b26_1), .val (.ref b35_0), .val (.ref b39), .val (.long (q0 + q1)), .second, .unset, .unset, .unset, .unset, .unset, .unset, .unset, .unset, .unset] [(.long (q1 + q2))])) _
    refine XS.lstore X195'.here hx rfl (hb hby at_203) rfl (l' := #[.val (.long q0), .second, .val (.long q1), .second, .val (.long q2), .second, .val (.long q3), .second, .val (.long q4), .second, .val (.long q5), .second, .val (.ref b1), .val (.ref b25_1), .val (.ref b26_1), .val (.ref b35_0), .val (.ref b39), .val (.long (q0 + q1)), .second, .val (.long (q1 + q2)), .second, .unset, .unset, .unset, .unset, .unset, .unset, .unset]) rfl ?_
    show Steps p.tables e below (T195.setTop (mkF m 205 #[.val (.long q0), .second, .val (.long q1), .second, .val (.long q2), .second, .val (.long q3), .second, .val (.long q4), .second, .val (.long q5), .second, .val (.ref b1), .val (.ref b25_1), .val (.ref b26_1), .val (.ref b35_0), .val (.ref b39), .val (.long (q0 + q1)), .second, .val (.long (q1 + q2)), .second, .unset, .unset, .unset, .unset, .unset, .unset, .unset] [])) _
    refine XS.lload X195'.here hx rfl (hb hby at_205) rfl ?_
    show Steps p.tables e below (T195.setTop (mkF m 207 #[.val (.long q0), .second, .val (.long q1), .second, .val (.long q2), .second, .val (.long q3), .second, .val (.long q4), .second, .val (.long q5), .second, .val (.ref b1), .val (.ref b25_1), .val (.ref b26_1), .val (.ref b35_0), .val (.ref b39), .val (.long (q0 + q1)), .second, .val (.long (q1 + q2)), .second, .unset, .unset, .unset, .unset, .unset, .unset, .unset] [(.long q2)])) _
    refine XS.lload X195'.here hx rfl (hb hby at_207) rfl ?_
    show Steps p.tables e below (T195.setTop (mkF m 209 #[.val (.long q0), .second, .val (.long q1), .second, .val (.long q2), .second, .val (.long q3), .second, .val (.long q4), .second, .val (.long q5), .second, .val (.ref b1), .val (.ref b25_1), .val (.ref b26_1), .val (.ref b35_0), .val (.ref b39), .val (.long (q0 + q1)), .second, .val (.long (q1 + q2)), .second, .unset, .unset, .unset, .unset, .unset, .unset, .unset] [(.long q3), (.long q2)])) _
    refine XS.ladd X195'.here hx rfl (hb hby at_209) rfl ?_
    show Steps p.tables e below (T195.setTop (mkF m 210 #[.val (.long q0), .second, .val (.long q1), .second, .val (.long q2), .second, .val (.long q3), .second, .val (.long q4), .second, .val (.long q5), .second, .val (.ref b1), .val (.ref b25_1), .val (.ref b26_1), .val (.ref b35_0), .val (.ref b39), .val (.long (q0 + q1)), .second, .val (.long (q1 + q2)), .second, .unset, .unset, .unset, .unset, .unset, .unset, .unset] [(.long (q2 + q3))])) _
    refine XS.lstore X195'.here hx rfl (hb hby at_210) rfl (l' := #[.val (.long q0), .second, .val (.long q1), .second, .val (.long q2), .second, .val (.long q3), .second, .val (.long q4), .second, .val (.long q5), .second, .val (.ref b1), .val (.ref b25_1), .val (.ref b26_1), .val (.ref b35_0), .val (.ref b39), .val (.long (q0 + q1)), .second, .val (.long (q1 + q2)), .second, .val (.long (q2 + q3)), .second, .unset, .unset, .unset, .unset, .unset]) rfl ?_
    show Steps p.tables e below (T195.setTop (mkF m 212 #[.val (.long q0), .second, .val (.long q1), .second, .val (.long q2), .second, .val (.long q3), .second, .val (.long q4), .second, .val (.long q5), .second, .val (.ref b1), .val (.ref b25_1), .val (.ref b26_1), .val (.ref b35_0), .val (.ref b39), .val (.long (q0 + q1)), .second, .val (.long (q1 + q2)), .second, .val (.long (q2 + q3)), .second, .unset, .unset, .unset, .unset, .unset] [])) _
    refine XS.lload X195'.here hx rfl (hb hby at_212) rfl ?_
    show Steps p.tables e below (T195.setTop (mkF m 214 #[.val (.long q0), .second, .val (.long q1), .second, .val (.long q2), .second, .val (.long q3), .second, .val (.long q4), .second, .val (.long q5), .second, .val (.ref b1), .val (.ref b25_1), .val (.ref b26_1), .val (.ref b35_0), .val (.ref b39), .val (.long (q0 + q1)), .second, .val (.long (q1 + q2)), .second, .val (.long (q2 + q3)), .second, .unset, .unset, .unset, .unset, .unset] [(.long q3)])) _
    refine XS.lloadN X195'.here hx rfl (hb hby at_214) rfl ?_
    show Steps p.tables e below (T195.setTop (mkF m 215 #[.val (.long q0), .second, .val (.long q1), .second, .val (.long q2), .second, .val (.long q3), .second, .val (.long q4), .second, .val (.long q5), .second, .val (.ref b1), .val (.ref b25_1), .val (.ref b26_1), .val (.ref b35_0), .val (.ref b39), .val (.long (q0 + q1)), .second, .val (.long (q1 + q2)), .second, .val (.long (q2 + q3)), .second, .unset, .unset, .unset, .unset, .unset] [(.long q0), (.long q3)])) _
    refine XS.ladd X195'.here hx rfl (hb hby at_215) rfl ?_
    show Steps p.tables e below (T195.setTop (mkF m 216 #[.val (.long q0), .second, .val (.long q1), .second, .val (.long q2), .second, .val (.long q3), .second, .val (.long q4), .second, .val (.long q5), .second, .val (.ref b1), .val (.ref b25_1), .val (.ref b26_1), .val (.ref b35_0), .val (.ref b39), .val (.long (q0 + q1)), .second, .val (.long (q1 + q2)), .second, .val (.long (q2 + q3)), .second, .unset, .unset, .unset, .unset, .unset] [(.long (q3 + q0))])) _
    refine XS.lstore X195'.here hx rfl (hb hby at_216) rfl (l' := #[.val (.long q0), .second, .val (.long q1), .second, .val (.long q2), .second, .val (.long q3), .second, .val (.long q4), .second, .val (.long q5), .second, .val (.ref b1), .val (.ref b25_1), .val (.ref b26_1), .val (.ref b35_0), .val (.ref b39), .val (.long (q0 + q1)), .second, .val (.long (q1 + q2)), .second, .val (.long (q2 + q3)), .second, .val (.long (q3 + q0)), .second, .unset, .unset, .unset]) rfl ?_
    show Steps p.tables e below (T195.setTop (mkF m 218 #[.val (.long q0), .second, .val (.long q1), .second, .val (.long q2), .second, .val (.long q3), .second, .val (.long q4), .second, .val (.long q5), .second, .val (.ref b1), .val (.ref b25_1), .val (.ref b26_1), .val (.ref b35_0), .val (.ref b39), .val (.long (q0 + q1)), .second, .val (.long (q1 + q2)), .second, .val (.long (q2 + q3)), .second, .val (.long (q3 + q0)), .second, .unset, .unset, .unset] [])) _
    refine XS.lload X195'.here hx rfl (hb hby at_218) rfl ?_
    show Steps p.tables e below (T195.setTop (mkF m 220 #[.val (.long q0), .second, .val (.long q1), .second, .val (.long q2), .second, .val (.long q3), .second, .val (.long q4), .second, .val (.long q5), .second, .val (.ref b1), .val (.ref b25_1), .val (.ref b26_1), .val (.ref b35_0), .val (.ref b39), .val (.long (q0 + q1)), .second, .val (.long (q1 + q2)), .second, .val (.long (q2 + q3)), .second, .val (.long (q3 + q0)), .second, .unset, .unset, .unset] [(.long q4)])) _
    refine XS.lload X195'.here hx rfl (hb hby at_220) rfl ?_
    show Steps p.tables e below (T195.setTop (mkF m 222 #[.val (.long q0), .second, .val (.long q1), .second, .val (.long q2), .second, .val (.long q3), .second, .val (.long q4), .second, .val (.long q5), .second, .val (.ref b1), .val (.ref b25_1), .val (.ref b26_1), .val (.ref b35_0), .val (.ref b39), .val (.long (q0 + q1)), .second, .val (.long (q1 + q2)), .second, .val (.long (q2 + q3)), .second, .val (.long (q3 + q0)), .second, .unset, .unset, .unset] [(.long q5), (.long q4)])) _
    refine XS.land X195'.here hx rfl (hb hby at_222) rfl ?_
    show Steps p.tables e below (T195.setTop (mkF m 223 #[.val (.long q0), .second, .val (.long q1), .second, .val (.long q2), .second, .val (.long q3), .second, .val (.long q4), .second, .val (.long q5), .second, .val (.ref b1), .val (.ref b25_1), .val (.ref b26_1), .val (.ref b35_0), .val (.ref b39), .val (.long (q0 + q1)), .second, .val (.long (q1 + q2)), .second, .val (.long (q2 + q3)), .second, .val (.long (q3 + q0)), .second, .unset, .unset, .unset] [(.long (q4 &&& q5))])) _
    refine XS.lstore X195'.here hx rfl (hb hby at_223) rfl (l' := #[.val (.long q0), .second, .val (.long q1), .second, .val (.long q2), .second, .val (.long q3), .second, .val (.long q4), .second, .val (.long q5), .second, .val (.ref b1), .val (.ref b25_1), .val (.ref b26_1), .val (.ref b35_0), .val (.ref b39), .val (.long (q0 + q1)), .second, .val (.long (q1 + q2)), .second, .val (.long (q2 + q3)), .second, .val (.long (q3 + q0)), .second, .val (.long (q4 &&& q5)), .second, .unset]) rfl ?_
    show Steps p.tables e below (T195.setTop (mkF m 225 #[.val (.long q0), .second, .val (.long q1), .second, .val (.long q2), .second, .val (.long q3), .second, .val (.long q4), .second, .val (.long q5), .second, .val (.ref b1), .val (.ref b25_1), .val (.ref b26_1), .val (.ref b35_0), .val (.ref b39), .val (.long (q0 + q1)), .second, .val (.long (q1 + q2)), .second, .val (.long (q2 + q3)), .second, .val (.long (q3 + q0)), .second, .val (.long (q4 &&& q5)), .second, .unset] [])) _
    refine XS.aload X195'.here hx rfl (hb hby at_225) rfl rfl ?_
    show Steps p.tables e below (T195.setTop (mkF m 227 #[.val (.long q0), .second, .val (.long q1), .second, .val (.long q2), .second, .val (.long q3), .second, .val (.long q4), .second, .val (.long q5), .second, .val (.ref b1), .val (.ref b25_1), .val (.ref b26_1), .val (.ref b35_0), .val (.ref b39), .val (.long (q0 + q1)), .second, .val (.long (q1 + q2)), .second, .val (.long (q2 + q3)), .second, .val (.long (q3 + q0)), .second, .val (.long (q4 &&& q5)), .second, .unset] [(.ref b35_0)])) _
    refine XS.aload X195'.here hx rfl (hb hby at_227) rfl rfl ?_
    show Steps p.tables e below (T195.setTop (mkF m 229 #[.val (.long q0), .second, .val (.long q1), .second, .val (.long q2), .second, .val (.long q3), .second, .val (.long q4), .second, .val (.long q5), .second, .val (.ref b1), .val (.ref b25_1), .val (.ref b26_1), .val (.ref b35_0), .val (.ref b39), .val (.long (q0 + q1)), .second, .val (.long (q1 + q2)), .second, .val (.long (q2 + q3)), .second, .val (.long (q3 + q0)), .second, .val (.long (q4 &&& q5)), .second, .unset] [(.ref b25_1), (.ref b35_0)])) _
    refine XS.aload X195'.here hx rfl (hb hby at_229) rfl rfl ?_
    show Steps p.tables e below (T195.setTop (mkF m 231 #[.val (.long q0), .second, .val (.long q1), .second, .val (.long q2), .second, .val (.long q3), .second, .val (.long q4), .second, .val (.long q5), .second, .val (.ref b1), .val (.ref b25_1), .val (.ref b26_1), .val (.ref b35_0), .val (.ref b39), .val (.long (q0 + q1)), .second, .val (.long (q1 + q2)), .second, .val (.long (q2 + q3)), .second, .val (.long (q3 + q0)), .second, .val (.long (q4 &&& q5)), .second, .unset] [(.ref b26_1), (.ref b25_1), (.ref b35_0)])) _
    refine st196.trans ?_
    show Steps p.tables e below (T196.setTop (mkF m 234 #[.val (.long q0), .second, .val (.long q1), .second, .val (.long q2), .second, .val (.long q3), .second, .val (.long q4), .second, .val (.long q5), .second, .val (.ref b1), .val (.ref b25_1), .val (.ref b26_1), .val (.ref b35_0), .val (.ref b39), .val (.long (q0 + q1)), .second, .val (.long (q1 + q2)), .second, .val (.long (q2 + q3)), .second, .val (.long (q3 + q0)), .second, .val (.long (q4 &&& q5)), .second, .unset] [])) _
    refine XS.aload X196'.here hx rfl (hb hby at_234) rfl rfl ?_
    show Steps p.tables e below (T196.setTop (mkF m 236 #[.val (.long q0), .second, .val (.long q1), .second, .val (.long q2), .second, .val (.long q3), .second, .val (.long q4), .second, .val (.long q5), .second, .val (.ref b1), .val (.ref b25_1), .val (.ref b26_1), .val (.ref b35_0), .val (.ref b39), .val (.long (q0 + q1)), .second, .val (.long (q1 + q2)), .second, .val (.long (q2 + q3)), .second, .val (.long (q3 + q0)), .second, .val (.long (q4 &&& q5)), .second, .unset] [(.ref b35_0)])) _
    refine st276 _ ?_
    show Steps p.tables e below (T276.setTop (mkF m 239 #[.val (.long q0), .second, .val (.long q1), .second, .val (.long q2), .second, .val (.long q3), .second, .val (.long q4), .second, .val (.long q5), .second, .val (.ref b1), .val (.ref b25_1), .val (.ref b26_1), .val (.ref b35_0), .val (.ref b39), .val (.long (q0 + q1)), .second, .val (.long (q1 + q2)), .second, .val (.long (q2 + q3)), .second, .val (.long (q3 + q0)), .second, .val (.long (q4 &&& q5)), .second, .unset] [(.long (q0 + q1))])) _
    refine XS.lload X276.here hx rfl (hb hby at_239) rfl ?_
    show Steps p.tables e below (T276.setTop (mkF m 241 #[.val (.long q0), .second, .val (.long q1), .second, .val (.long q2), .second, .val (.long q3), .second, .val (.long q4), .second, .val (.long q5), .second, .val (.ref b1), .val (.ref b25_1), .val (.ref b26_1), .val (.ref b35_0), .val (.ref b39), .val (.long (q0 + q1)), .second, .val (.long (q1 + q2)), .second, .val (.long (q2 + q3)), .second, .val (.long (q3 + q0)), .second, .val (.long (q4 &&& q5)), .second, .unset] [(.long (q0 + q1)), (.long (q0 + q1))])) _
    refine XS.lcmp X276.here hx rfl (hb hby at_241) rfl ?_
    show Steps p.tables e below (T276.setTop (mkF m 242 #[.val (.long q0), .second, .val (.long q1), .second, .val (.long q2), .second, .val (.long q3), .second, .val (.long q4), .second, .val (.long q5), .second, .val (.ref b1), .val (.ref b25_1), .val (.ref b26_1), .val (.ref b35_0), .val (.ref b39), .val (.long (q0 + q1)), .second, .val (.long (q1 + q2)), .second, .val (.long (q2 + q3)), .second, .val (.long (q3 + q0)), .second, .val (.long (q4 &&& q5)), .second, .unset] [(.int (lcmpW (q0 + q1) (q0 + q1)))])) _
    refine XS.ifNo X276.here hx rfl (hb hby at_242) rfl ((if0 _ _).trans (teq ((lw_eq _ _).mpr rfl : (lcmpW (q0 + q1) (q0 + q1)) = (0 : Int32))).2) ?_
    show Steps p.tables e below (T276.setTop (mkF m 245 #[.val (.long q0), .second, .val (.long q1), .second, .val (.long q2), .second, .val (.long q3), .second, .val (.long q4), .second, .val (.long q5), .second, .val (.ref b1), .val (.ref b25_1), .val (.ref b26_1), .val (.ref b35_0), .val (.ref b39), .val (.long (q0 + q1)), .second, .val (.long (q1 + q2)), .second, .val (.long (q2 + q3)), .second, .val (.long (q3 + q0)), .second, .val (.long (q4 &&& q5)), .second, .unset] [])) _
    refine XS.aload X276.here hx rfl (hb hby at_245) rfl rfl ?_
    show Steps p.tables e below (T276.setTop (mkF m 247 #[.val (.long q0), .second, .val (.long q1), .second, .val (.long q2), .second, .val (.long q3), .second, .val (.long q4), .second, .val (.long q5), .second, .val (.ref b1), .val (.ref b25_1), .val (.ref b26_1), .val (.ref b35_0), .val (.ref b39), .val (.long (q0 + q1)), .second, .val (.long (q1 + q2)), .second, .val (.long (q2 + q3)), .second, .val (.long (q3 + q0)), .second, .val (.long (q4 &&& q5)), .second, .unset] [(.ref b35_0)])) _
    refine st277 _ ?_
    show Steps p.tables e below (T277.setTop (mkF m 250 #[.val (.long q0), .second, .val (.long q1), .second, .val (.long q2), .second, .val (.long q3), .second, .val (.long q4), .second, .val (.long q5), .second, .val (.ref b1), .val (.ref b25_1), .val (.ref b26_1), .val (.ref b35_0), .val (.ref b39), .val (.long (q0 + q1)), .second, .val (.long (q1 + q2)), .second, .val (.long (q2 + q3)), .second, .val (.long (q3 + q0)), .second, .val (.long (q4 &&& q5)), .second, .unset] [(.long (q1 + q2))])) _
    refine XS.lload X277.here hx rfl (hb hby at_250) rfl ?_
    show Steps p.tables e below (T277.setTop (mkF m 252 #[.val (.long q0), .second, .val (.long q1), .second, .val (.long q2), .second, .val (.long q3), .second, .val (.long q4), .second, .val (.long q5), .second, .val (.ref b1), .val (.ref b25_1), .val (.ref b26_1), .val (.ref b35_0), .val (.ref b39), .val (.long (q0 + q1)), .second, .val (.long (q1 + q2)), .second, .val (.long (q2 + q3)), .second, .val (.long (q3 + q0)), .second, .val (.long (q4 &&& q5)), .second, .unset] [(.long (q1 + q2)), (.long (q1 + q2))])) _
    refine XS.lcmp X277.here hx rfl (hb hby at_252) rfl ?_
    show Steps p.tables e below (T277.setTop (mkF m 253 #[.val (.long q0), .second, .val (.long q1), .second, .val (.long q2), .second, .val (.long q3), .second, .val (.long q4), .second, .val (.long q5), .second, .val (.ref b1), .val (.ref b25_1), .val (.ref b26_1), .val (.ref b35_0), .val (.ref b39), .val (.long (q0 + q1)), .second, .val (.long (q1 + q2)), .second, .val (.long (q2 + q3)), .second, .val (.long (q3 + q0)), .second, .val (.long (q4 &&& q5)), .second, .unset] [(.int (lcmpW (q1 + q2) (q1 + q2)))])) _
    refine XS.ifNo X277.here hx rfl (hb hby at_253) rfl ((if0 _ _).trans (teq ((lw_eq _ _).mpr rfl : (lcmpW (q1 + q2) (q1 + q2)) = (0 : Int32))).2) ?_
    show Steps p.tables e below (T277.setTop (mkF m 256 #[.val (.long q0), .second, .val (.long q1), .second, .val (.long q2), .second, .val (.long q3), .second, .val (.long q4), .second, .val (.long q5), .second, .val (.ref b1), .val (.ref b25_1), .val (.ref b26_1), .val (.ref b35_0), .val (.ref b39), .val (.long (q0 + q1)), .second, .val (.long (q1 + q2)), .second, .val (.long (q2 + q3)), .second, .val (.long (q3 + q0)), .second, .val (.long (q4 &&& q5)), .second, .unset] [])) _
    refine XS.aload X277.here hx rfl (hb hby at_256) rfl rfl ?_
    show Steps p.tables e below (T277.setTop (mkF m 258 #[.val (.long q0), .second, .val (.long q1), .second, .val (.long q2), .second, .val (.long q3), .second, .val (.long q4), .second, .val (.long q5), .second, .val (.ref b1), .val (.ref b25_1), .val (.ref b26_1), .val (.ref b35_0), .val (.ref b39), .val (.long (q0 + q1)), .second, .val (.long (q1 + q2)), .second, .val (.long (q2 + q3)), .second, .val (.long (q3 + q0)), .second, .val (.long (q4 &&& q5)), .second, .unset] [(.ref b35_0)])) _
    refine st278 _ ?_
    show Steps p.tables e below (T278.setTop (mkF m 261 #[.val (.long q0), .second, .val (.long q1), .second, .val (.long q2), .second, .val (.long q3), .second, .val (.long q4), .second, .val (.long q5), .second, .val (.ref b1), .val (.ref b25_1), .val (.ref b26_1), .val (.ref b35_0), .val (.ref b39), .val (.long (q0 + q1)), .second, .val (.long (q1 + q2)), .second, .val (.long (q2 + q3)), .second, .val (.long (q3 + q0)), .second, .val (.long (q4 &&& q5)), .second, .unset] [(.long (q2 + q3))])) _
    refine XS.lload X278.here hx rfl (hb hby at_261) rfl ?_
    show Steps p.tables e below (T278.setTop (mkF m 263 #[.val (.long q0), .second, .val (.long q1), .second, .val (.long q2), .second, .val (.long q3), .second, .val (.long q4), .second, .val (.long q5), .second, .val (.ref b1), .val (.ref b25_1), .val (.ref b26_1), .val (.ref b35_0), .val (.ref b39), .val (.long (q0 + q1)), .second, .val (.long (q1 + q2)), .second, .val (.long (q2 + q3)), .second, .val (.long (q3 + q0)), .second, .val (.long (q4 &&& q5)), .second, .unset] [(.long (q2 + q3)), (.long (q2 + q3))])) _
    refine XS.lcmp X278.here hx rfl (hb hby at_263) rfl ?_
    show Steps p.tables e below (T278.setTop (mkF m 264 #[.val (.long q0), .second, .val (.long q1), .second, .val (.long q2), .second, .val (.long q3), .second, .val (.long q4), .second, .val (.long q5), .second, .val (.ref b1), .val (.ref b25_1), .val (.ref b26_1), .val (.ref b35_0), .val (.ref b39), .val (.long (q0 + q1)), .second, .val (.long (q1 + q2)), .second, .val (.long (q2 + q3)), .second, .val (.long (q3 + q0)), .second, .val (.long (q4 &&& q5)), .second, .unset] [(.int (lcmpW (q2 + q3) (q2 + q3)))])) _
    refine XS.ifNo X278.here hx rfl (hb hby at_264) rfl ((if0 _ _).trans (teq ((lw_eq _ _).mpr rfl : (lcmpW (q2 + q3) (q2 + q3)) = (0 : Int32))).2) ?_
    show Steps p.tables e below (T278.setTop (mkF m 267 #[.val (.long q0), .second, .val (.long q1), .second, .val (.long q2), .second, .val (.long q3), .second, .val (.long q4), .second, .val (.long q5), .second, .val (.ref b1), .val (.ref b25_1), .val (.ref b26_1), .val (.ref b35_0), .val (.ref b39), .val (.long (q0 + q1)), .second, .val (.long (q1 + q2)), .second, .val (.long (q2 + q3)), .second, .val (.long (q3 + q0)), .second, .val (.long (q4 &&& q5)), .second, .unset] [])) _
    refine XS.aload X278.here hx rfl (hb hby at_267) rfl rfl ?_
    show Steps p.tables e below (T278.setTop (mkF m 269 #[.val (.long q0), .second, .val (.long q1), .second, .val (.long q2), .second, .val (.long q3), .second, .val (.long q4), .second, .val (.long q5), .second, .val (.ref b1), .val (.ref b25_1), .val (.ref b26_1), .val (.ref b35_0), .val (.ref b39), .val (.long (q0 + q1)), .second, .val (.long (q1 + q2)), .second, .val (.long (q2 + q3)), .second, .val (.long (q3 + q0)), .second, .val (.long (q4 &&& q5)), .second, .unset] [(.ref b35_0)])) _
    refine st279 _ ?_
    show Steps p.tables e below (T279.setTop (mkF m 272 #[.val (.long q0), .second, .val (.long q1), .second, .val (.long q2), .second, .val (.long q3), .second, .val (.long q4), .second, .val (.long q5), .second, .val (.ref b1), .val (.ref b25_1), .val (.ref b26_1), .val (.ref b35_0), .val (.ref b39), .val (.long (q0 + q1)), .second, .val (.long (q1 + q2)), .second, .val (.long (q2 + q3)), .second, .val (.long (q3 + q0)), .second, .val (.long (q4 &&& q5)), .second, .unset] [(.long (q3 + q0))])) _
    refine XS.lload X279.here hx rfl (hb hby at_272) rfl ?_
    show Steps p.tables e below (T279.setTop (mkF m 274 #[.val (.long q0), .second, .val (.long q1), .second, .val (.long q2), .second, .val (.long q3), .second, .val (.long q4), .second, .val (.long q5), .second, .val (.ref b1), .val (.ref b25_1), .val (.ref b26_1), .val (.ref b35_0), .val (.ref b39), .val (.long (q0 + q1)), .second, .val (.long (q1 + q2)), .second, .val (.long (q2 + q3)), .second, .val (.long (q3 + q0)), .second, .val (.long (q4 &&& q5)), .second, .unset] [(.long (q3 + q0)), (.long (q3 + q0))])) _
    refine XS.lcmp X279.here hx rfl (hb hby at_274) rfl ?_
    show Steps p.tables e below (T279.setTop (mkF m 275 #[.val (.long q0), .second, .val (.long q1), .second, .val (.long q2), .second, .val (.long q3), .second, .val (.long q4), .second, .val (.long q5), .second, .val (.ref b1), .val (.ref b25_1), .val (.ref b26_1), .val (.ref b35_0), .val (.ref b39), .val (.long (q0 + q1)), .second, .val (.long (q1 + q2)), .second, .val (.long (q2 + q3)), .second, .val (.long (q3 + q0)), .second, .val (.long (q4 &&& q5)), .second, .unset] [(.int (lcmpW (q3 + q0) (q3 + q0)))])) _
    refine XS.ifNo X279.here hx rfl (hb hby at_275) rfl ((if0 _ _).trans (teq ((lw_eq _ _).mpr rfl : (lcmpW (q3 + q0) (q3 + q0)) = (0 : Int32))).2) ?_
    show Steps p.tables e below (T279.setTop (mkF m 278 #[.val (.long q0), .second, .val (.long q1), .second, .val (.long q2), .second, .val (.long q3), .second, .val (.long q4), .second, .val (.long q5), .second, .val (.ref b1), .val (.ref b25_1), .val (.ref b26_1), .val (.ref b35_0), .val (.ref b39), .val (.long (q0 + q1)), .second, .val (.long (q1 + q2)), .second, .val (.long (q2 + q3)), .second, .val (.long (q3 + q0)), .second, .val (.long (q4 &&& q5)), .second, .unset] [])) _
    refine XS.aload X279.here hx rfl (hb hby at_278) rfl rfl ?_
    show Steps p.tables e below (T279.setTop (mkF m 280 #[.val (.long q0), .second, .val (.long q1), .second, .val (.long q2), .second, .val (.long q3), .second, .val (.long q4), .second, .val (.long q5), .second, .val (.ref b1), .val (.ref b25_1), .val (.ref b26_1), .val (.ref b35_0), .val (.ref b39), .val (.long (q0 + q1)), .second, .val (.long (q1 + q2)), .second, .val (.long (q2 + q3)), .second, .val (.long (q3 + q0)), .second, .val (.long (q4 &&& q5)), .second, .unset] [(.ref b35_0)])) _
    refine st280 _ ?_
    show Steps p.tables e below (T280.setTop (mkF m 283 #[.val (.long q0), .second, .val (.long q1), .second, .val (.long q2), .second, .val (.long q3), .second, .val (.long q4), .second, .val (.long q5), .second, .val (.ref b1), .val (.ref b25_1), .val (.ref b26_1), .val (.ref b35_0), .val (.ref b39), .val (.long (q0 + q1)), .second, .val (.long (q1 + q2)), .second, .val (.long (q2 + q3)), .second, .val (.long (q3 + q0)), .second, .val (.long (q4 &&& q5)), .second, .unset] [(.ref b35_1)])) _
    refine XS.iconst X280.here hx rfl (hb hby at_283) ?_
    show Steps p.tables e below (T280.setTop (mkF m 284 #[.val (.long q0), .second, .val (.long q1), .second, .val (.long q2), .second, .val (.long q3), .second, .val (.long q4), .second, .val (.long q5), .second, .val (.ref b1), .val (.ref b25_1), .val (.ref b26_1), .val (.ref b35_0), .val (.ref b39), .val (.long (q0 + q1)), .second, .val (.long (q1 + q2)), .second, .val (.long (q2 + q3)), .second, .val (.long (q3 + q0)), .second, .val (.long (q4 &&& q5)), .second, .unset] [(.int (0 : Int32)), (.ref b35_1)])) _
    refine X280.laload hx (j := (0 : Int32)) (v := (.long (q4 &&& q5))) (by rw [e280]; exact Ar281.1) (State.isArrayOf_alike hZ.alike Ar281.2.1) Ar281.2.2 hin282 hat283 (g := (mkF m 284 #[.val (.long q0), .second, .val (.long q1), .second, .val (.long q2), .second, .val (.long q3), .second, .val (.long q4), .second, .val (.long q5), .second, .val (.ref b1), .val (.ref b25_1), .val (.ref b26_1), .val (.ref b35_0), .val (.ref b39), .val (.long (q0 + q1)), .second, .val (.long (q1 + q2)), .second, .val (.long (q2 + q3)), .second, .val (.long (q3 + q0)), .second, .val (.long (q4 &&& q5)), .second, .unset] [(.int (0 : Int32)), (.ref b35_1)])) rfl rfl (hb hby at_284) _ ?_
    show Steps p.tables e below (T280.setTop (mkF m 285 #[.val (.long q0), .second, .val (.long q1), .second, .val (.long q2), .second, .val (.long q3), .second, .val (.long q4), .second, .val (.long q5), .second, .val (.ref b1), .val (.ref b25_1), .val (.ref b26_1), .val (.ref b35_0), .val (.ref b39), .val (.long (q0 + q1)), .second, .val (.long (q1 + q2)), .second, .val (.long (q2 + q3)), .second, .val (.long (q3 + q0)), .second, .val (.long (q4 &&& q5)), .second, .unset] [(.long (q4 &&& q5))])) _
    refine XS.lload X280.here hx rfl (hb hby at_285) rfl ?_
    show Steps p.tables e below (T280.setTop (mkF m 287 #[.val (.long q0), .second, .val (.long q1), .second, .val (.long q2), .second, .val (.long q3), .second, .val (.long q4), .second, .val (.long q5), .second, .val (.ref b1), .val (.ref b25_1), .val (.ref b26_1), .val (.ref b35_0), .val (.ref b39), .val (.long (q0 + q1)), .second, .val (.long (q1 + q2)), .second, .val (.long (q2 + q3)), .second, .val (.long (q3 + q0)), .second, .val (.long (q4 &&& q5)), .second, .unset] [(.long (q4 &&& q5)), (.long (q4 &&& q5))])) _
    refine XS.lcmp X280.here hx rfl (hb hby at_287) rfl ?_
    show Steps p.tables e below (T280.setTop (mkF m 288 #[.val (.long q0), .second, .val (.long q1), .second, .val (.long q2), .second, .val (.long q3), .second, .val (.long q4), .second, .val (.long q5), .second, .val (.ref b1), .val (.ref b25_1), .val (.ref b26_1), .val (.ref b35_0), .val (.ref b39), .val (.long (q0 + q1)), .second, .val (.long (q1 + q2)), .second, .val (.long (q2 + q3)), .second, .val (.long (q3 + q0)), .second, .val (.long (q4 &&& q5)), .second, .unset] [(.int (lcmpW (q4 &&& q5) (q4 &&& q5)))])) _
    refine XS.ifNo X280.here hx rfl (hb hby at_288) rfl ((if0 _ _).trans (teq ((lw_eq _ _).mpr rfl : (lcmpW (q4 &&& q5) (q4 &&& q5)) = (0 : Int32))).2) ?_
    show Steps p.tables e below (T280.setTop (mkF m 291 #[.val (.long q0), .second, .val (.long q1), .second, .val (.long q2), .second, .val (.long q3), .second, .val (.long q4), .second, .val (.long q5), .second, .val (.ref b1), .val (.ref b25_1), .val (.ref b26_1), .val (.ref b35_0), .val (.ref b39), .val (.long (q0 + q1)), .second, .val (.long (q1 + q2)), .second, .val (.long (q2 + q3)), .second, .val (.long (q3 + q0)), .second, .val (.long (q4 &&& q5)), .second, .unset] [])) _
    refine XS.aload X280.here hx rfl (hb hby at_291) rfl rfl ?_
    show Steps p.tables e below (T280.setTop (mkF m 293 #[.val (.long q0), .second, .val (.long q1), .second, .val (.long q2), .second, .val (.long q3), .second, .val (.long q4), .second, .val (.long q5), .second, .val (.ref b1), .val (.ref b25_1), .val (.ref b26_1), .val (.ref b35_0), .val (.ref b39), .val (.long (q0 + q1)), .second, .val (.long (q1 + q2)), .second, .val (.long (q2 + q3)), .second, .val (.long (q3 + q0)), .second, .val (.long (q4 &&& q5)), .second, .unset] [(.ref b25_1)])) _
    refine st285 _ ?_
    show Steps p.tables e below (T285.setTop (mkF m 296 #[.val (.long q0), .second, .val (.long q1), .second, .val (.long q2), .second, .val (.long q3), .second, .val (.long q4), .second, .val (.long q5), .second, .val (.ref b1), .val (.ref b25_1), .val (.ref b26_1), .val (.ref b35_0), .val (.ref b39), .val (.long (q0 + q1)), .second, .val (.long (q1 + q2)), .second, .val (.long (q2 + q3)), .second, .val (.long (q3 + q0)), .second, .val (.long (q4 &&& q5)), .second, .unset] [(.long q0)])) _
    refine XS.lloadN X285.here hx rfl (hb hby at_296) rfl ?_
    show Steps p.tables e below (T285.setTop (mkF m 297 #[.val (.long q0), .second, .val (.long q1), .second, .val (.long q2), .second, .val (.long q3), .second, .val (.long q4), .second, .val (.long q5), .second, .val (.ref b1), .val (.ref b25_1), .val (.ref b26_1), .val (.ref b35_0), .val (.ref b39), .val (.long (q0 + q1)), .second, .val (.long (q1 + q2)), .second, .val (.long (q2 + q3)), .second, .val (.long (q3 + q0)), .second, .val (.long (q4 &&& q5)), .second, .unset] [(.long q0), (.long q0)])) _
    refine XS.lcmp X285.here hx rfl (hb hby at_297) rfl ?_
    show Steps p.tables e below (T285.setTop (mkF m 298 #[.val (.long q0), .second, .val (.long q1), .second, .val (.long q2), .second, .val (.long q3), .second, .val (.long q4), .second, .val (.long q5), .second, .val (.ref b1), .val (.ref b25_1), .val (.ref b26_1), .val (.ref b35_0), .val (.ref b39), .val (.long (q0 + q1)), .second, .val (.long (q1 + q2)), .second, .val (.long (q2 + q3)), .second, .val (.long (q3 + q0)), .second, .val (.long (q4 &&& q5)), .second, .unset] [(.int (lcmpW q0 q0))])) _
    refine XS.ifNo X285.here hx rfl (hb hby at_298) rfl ((if0 _ _).trans (teq ((lw_eq _ _).mpr rfl : (lcmpW q0 q0) = (0 : Int32))).2) ?_
    show Steps p.tables e below (T285.setTop (mkF m 301 #[.val (.long q0), .second, .val (.long q1), .second, .val (.long q2), .second, .val (.long q3), .second, .val (.long q4), .second, .val (.long q5), .second, .val (.ref b1), .val (.ref b25_1), .val (.ref b26_1), .val (.ref b35_0), .val (.ref b39), .val (.long (q0 + q1)), .second, .val (.long (q1 + q2)), .second, .val (.long (q2 + q3)), .second, .val (.long (q3 + q0)), .second, .val (.long (q4 &&& q5)), .second, .unset] [])) _
    refine XS.aload X285.here hx rfl (hb hby at_301) rfl rfl ?_
    show Steps p.tables e below (T285.setTop (mkF m 303 #[.val (.long q0), .second, .val (.long q1), .second, .val (.long q2), .second, .val (.long q3), .second, .val (.long q4), .second, .val (.long q5), .second, .val (.ref b1), .val (.ref b25_1), .val (.ref b26_1), .val (.ref b35_0), .val (.ref b39), .val (.long (q0 + q1)), .second, .val (.long (q1 + q2)), .second, .val (.long (q2 + q3)), .second, .val (.long (q3 + q0)), .second, .val (.long (q4 &&& q5)), .second, .unset] [(.ref b25_1)])) _
    refine st287 _ ?_
    show Steps p.tables e below (T287.setTop (mkF m 306 #[.val (.long q0), .second, .val (.long q1), .second, .val (.long q2), .second, .val (.long q3), .second, .val (.long q4), .second, .val (.long q5), .second, .val (.ref b1), .val (.ref b25_1), .val (.ref b26_1), .val (.ref b35_0), .val (.ref b39), .val (.long (q0 + q1)), .second, .val (.long (q1 + q2)), .second, .val (.long (q2 + q3)), .second, .val (.long (q3 + q0)), .second, .val (.long (q4 &&& q5)), .second, .unset] [(.long q1)])) _
    refine XS.lloadN X287.here hx rfl (hb hby at_306) rfl ?_
    show Steps p.tables e below (T287.setTop (mkF m 307 #[.val (.long q0), .second, .val (.long q1), .second, .val (.long q2), .second, .val (.long q3), .second, .val (.long q4), .second, .val (.long q5), .second, .val (.ref b1), .val (.ref b25_1), .val (.ref b26_1), .val (.ref b35_0), .val (.ref b39), .val (.long (q0 + q1)), .second, .val (.long (q1 + q2)), .second, .val (.long (q2 + q3)), .second, .val (.long (q3 + q0)), .second, .val (.long (q4 &&& q5)), .second, .unset] [(.long q1), (.long q1)])) _
    refine XS.lcmp X287.here hx rfl (hb hby at_307) rfl ?_
    show Steps p.tables e below (T287.setTop (mkF m 308 #[.val (.long q0), .second, .val (.long q1), .second, .val (.long q2), .second, .val (.long q3), .second, .val (.long q4), .second, .val (.long q5), .second, .val (.ref b1), .val (.ref b25_1), .val (.ref b26_1), .val (.ref b35_0), .val (.ref b39), .val (.long (q0 + q1)), .second, .val (.long (q1 + q2)), .second, .val (.long (q2 + q3)), .second, .val (.long (q3 + q0)), .second, .val (.long (q4 &&& q5)), .second, .unset] [(.int (lcmpW q1 q1))])) _
    refine XS.ifNo X287.here hx rfl (hb hby at_308) rfl ((if0 _ _).trans (teq ((lw_eq _ _).mpr rfl : (lcmpW q1 q1) = (0 : Int32))).2) ?_
    show Steps p.tables e below (T287.setTop (mkF m 311 #[.val (.long q0), .second, .val (.long q1), .second, .val (.long q2), .second, .val (.long q3), .second, .val (.long q4), .second, .val (.long q5), .second, .val (.ref b1), .val (.ref b25_1), .val (.ref b26_1), .val (.ref b35_0), .val (.ref b39), .val (.long (q0 + q1)), .second, .val (.long (q1 + q2)), .second, .val (.long (q2 + q3)), .second, .val (.long (q3 + q0)), .second, .val (.long (q4 &&& q5)), .second, .unset] [])) _
    refine XS.aload X287.here hx rfl (hb hby at_311) rfl rfl ?_
    show Steps p.tables e below (T287.setTop (mkF m 313 #[.val (.long q0), .second, .val (.long q1), .second, .val (.long q2), .second, .val (.long q3), .second, .val (.long q4), .second, .val (.long q5), .second, .val (.ref b1), .val (.ref b25_1), .val (.ref b26_1), .val (.ref b35_0), .val (.ref b39), .val (.long (q0 + q1)), .second, .val (.long (q1 + q2)), .second, .val (.long (q2 + q3)), .second, .val (.long (q3 + q0)), .second, .val (.long (q4 &&& q5)), .second, .unset] [(.ref b25_1)])) _
    refine st289 _ ?_
    show Steps p.tables e below (T289.setTop (mkF m 316 #[.val (.long q0), .second, .val (.long q1), .second, .val (.long q2), .second, .val (.long q3), .second, .val (.long q4), .second, .val (.long q5), .second, .val (.ref b1), .val (.ref b25_1), .val (.ref b26_1), .val (.ref b35_0), .val (.ref b39), .val (.long (q0 + q1)), .second, .val (.long (q1 + q2)), .second, .val (.long (q2 + q3)), .second, .val (.long (q3 + q0)), .second, .val (.long (q4 &&& q5)), .second, .unset] [(.long q2)])) _
    refine XS.lload X289.here hx rfl (hb hby at_316) rfl ?_
    show Steps p.tables e below (T289.setTop (mkF m 318 #[.val (.long q0), .second, .val (.long q1), .second, .val (.long q2), .second, .val (.long q3), .second, .val (.long q4), .second, .val (.long q5), .second, .val (.ref b1), .val (.ref b25_1), .val (.ref b26_1), .val (.ref b35_0), .val (.ref b39), .val (.long (q0 + q1)), .second, .val (.long (q1 + q2)), .second, .val (.long (q2 + q3)), .second, .val (.long (q3 + q0)), .second, .val (.long (q4 &&& q5)), .second, .unset] [(.long q2), (.long q2)])) _
    refine XS.lcmp X289.here hx rfl (hb hby at_318) rfl ?_
    show Steps p.tables e below (T289.setTop (mkF m 319 #[.val (.long q0), .second, .val (.long q1), .second, .val (.long q2), .second, .val (.long q3), .second, .val (.long q4), .second, .val (.long q5), .second, .val (.ref b1), .val (.ref b25_1), .val (.ref b26_1), .val (.ref b35_0), .val (.ref b39), .val (.long (q0 + q1)), .second, .val (.long (q1 + q2)), .second, .val (.long (q2 + q3)), .second, .val (.long (q3 + q0)), .second, .val (.long (q4 &&& q5)), .second, .unset] [(.int (lcmpW q2 q2))])) _
    refine XS.ifNo X289.here hx rfl (hb hby at_319) rfl ((if0 _ _).trans (teq ((lw_eq _ _).mpr rfl : (lcmpW q2 q2) = (0 : Int32))).2) ?_
    show Steps p.tables e below (T289.setTop (mkF m 322 #[.val (.long q0), .second, .val (.long q1), .second, .val (.long q2), .second, .val (.long q3), .second, .val (.long q4), .second, .val (.long q5), .second, .val (.ref b1), .val (.ref b25_1), .val (.ref b26_1), .val (.ref b35_0), .val (.ref b39), .val (.long (q0 + q1)), .second, .val (.long (q1 + q2)), .second, .val (.long (q2 + q3)), .second, .val (.long (q3 + q0)), .second, .val (.long (q4 &&& q5)), .second, .unset] [])) _
    refine XS.aload X289.here hx rfl (hb hby at_322) rfl rfl ?_
    show Steps p.tables e below (T289.setTop (mkF m 324 #[.val (.long q0), .second, .val (.long q1), .second, .val (.long q2), .second, .val (.long q3), .second, .val (.long q4), .second, .val (.long q5), .second, .val (.ref b1), .val (.ref b25_1), .val (.ref b26_1), .val (.ref b35_0), .val (.ref b39), .val (.long (q0 + q1)), .second, .val (.long (q1 + q2)), .second, .val (.long (q2 + q3)), .second, .val (.long (q3 + q0)), .second, .val (.long (q4 &&& q5)), .second, .unset] [(.ref b25_1)])) _
    refine st291 _ ?_
    show Steps p.tables e below (T291.setTop (mkF m 327 #[.val (.long q0), .second, .val (.long q1), .second, .val (.long q2), .second, .val (.long q3), .second, .val (.long q4), .second, .val (.long q5), .second, .val (.ref b1), .val (.ref b25_1), .val (.ref b26_1), .val (.ref b35_0), .val (.ref b39), .val (.long (q0 + q1)), .second, .val (.long (q1 + q2)), .second, .val (.long (q2 + q3)), .second, .val (.long (q3 + q0)), .second, .val (.long (q4 &&& q5)), .second, .unset] [(.long q3)])) _
    refine XS.lload X291.here hx rfl (hb hby at_327) rfl ?_
    show Steps p.tables e below (T291.setTop (mkF m 329 #[.val (.long q0), .second, .val (.long q1), .second, .val (.long q2), .second, .val (.long q3), .second, .val (.long q4), .second, .val (.long q5), .second, .val (.ref b1), .val (.ref b25_1), .val (.ref b26_1), .val (.ref b35_0), .val (.ref b39), .val (.long (q0 + q1)), .second, .val (.long (q1 + q2)), .second, .val (.long (q2 + q3)), .second, .val (.long (q3 + q0)), .second, .val (.long (q4 &&& q5)), .second, .unset] [(.long q3), (.long q3)])) _
    refine XS.lcmp X291.here hx rfl (hb hby at_329) rfl ?_
    show Steps p.tables e below (T291.setTop (mkF m 330 #[.val (.long q0), .second, .val (.long q1), .second, .val (.long q2), .second, .val (.long q3), .second, .val (.long q4), .second, .val (.long q5), .second, .val (.ref b1), .val (.ref b25_1), .val (.ref b26_1), .val (.ref b35_0), .val (.ref b39), .val (.long (q0 + q1)), .second, .val (.long (q1 + q2)), .second, .val (.long (q2 + q3)), .second, .val (.long (q3 + q0)), .second, .val (.long (q4 &&& q5)), .second, .unset] [(.int (lcmpW q3 q3))])) _
    refine XS.ifNo X291.here hx rfl (hb hby at_330) rfl ((if0 _ _).trans (teq ((lw_eq _ _).mpr rfl : (lcmpW q3 q3) = (0 : Int32))).2) ?_
    show Steps p.tables e below (T291.setTop (mkF m 333 #[.val (.long q0), .second, .val (.long q1), .second, .val (.long q2), .second, .val (.long q3), .second, .val (.long q4), .second, .val (.long q5), .second, .val (.ref b1), .val (.ref b25_1), .val (.ref b26_1), .val (.ref b35_0), .val (.ref b39), .val (.long (q0 + q1)), .second, .val (.long (q1 + q2)), .second, .val (.long (q2 + q3)), .second, .val (.long (q3 + q0)), .second, .val (.long (q4 &&& q5)), .second, .unset] [])) _
    refine XS.aload X291.here hx rfl (hb hby at_333) rfl rfl ?_
    show Steps p.tables e below (T291.setTop (mkF m 335 #[.val (.long q0), .second, .val (.long q1), .second, .val (.long q2), .second, .val (.long q3), .second, .val (.long q4), .second, .val (.long q5), .second, .val (.ref b1), .val (.ref b25_1), .val (.ref b26_1), .val (.ref b35_0), .val (.ref b39), .val (.long (q0 + q1)), .second, .val (.long (q1 + q2)), .second, .val (.long (q2 + q3)), .second, .val (.long (q3 + q0)), .second, .val (.long (q4 &&& q5)), .second, .unset] [(.ref b25_1)])) _
    refine st293 _ ?_
    show Steps p.tables e below (T293.setTop (mkF m 338 #[.val (.long q0), .second, .val (.long q1), .second, .val (.long q2), .second, .val (.long q3), .second, .val (.long q4), .second, .val (.long q5), .second, .val (.ref b1), .val (.ref b25_1), .val (.ref b26_1), .val (.ref b35_0), .val (.ref b39), .val (.long (q0 + q1)), .second, .val (.long (q1 + q2)), .second, .val (.long (q2 + q3)), .second, .val (.long (q3 + q0)), .second, .val (.long (q4 &&& q5)), .second, .unset] [(.ref b25_0)])) _
    refine XS.iconst X293.here hx rfl (hb hby at_338) ?_
    show Steps p.tables e below (T293.setTop (mkF m 339 #[.val (.long q0), .second, .val (.long q1), .second, .val (.long q2), .second, .val (.long q3), .second, .val (.long q4), .second, .val (.long q5), .second, .val (.ref b1), .val (.ref b25_1), .val (.ref b26_1), .val (.ref b35_0), .val (.ref b39), .val (.long (q0 + q1)), .second, .val (.long (q1 + q2)), .second, .val (.long (q2 + q3)), .second, .val (.long (q3 + q0)), .second, .val (.long (q4 &&& q5)), .second, .unset] [(.int (0 : Int32)), (.ref b25_0)])) _
    refine X293.laload hx (j := (0 : Int32)) (v := (.long q4)) (by rw [e293]; exact Ar295.1) (State.isArrayOf_alike hZ.alike Ar295.2.1) Ar295.2.2 hin296 hat297 (g := (mkF m 339 #[.val (.long q0), .second, .val (.long q1), .second, .val (.long q2), .second, .val (.long q3), .second, .val (.long q4), .second, .val (.long q5), .second, .val (.ref b1), .val (.ref b25_1), .val (.ref b26_1), .val (.ref b35_0), .val (.ref b39), .val (.long (q0 + q1)), .second, .val (.long (q1 + q2)), .second, .val (.long (q2 + q3)), .second, .val (.long (q3 + q0)), .second, .val (.long (q4 &&& q5)), .second, .unset] [(.int (0 : Int32)), (.ref b25_0)])) rfl rfl (hb hby at_339) _ ?_
    show Steps p.tables e below (T293.setTop (mkF m 340 #[.val (.long q0), .second, .val (.long q1), .second, .val (.long q2), .second, .val (.long q3), .second, .val (.long q4), .second, .val (.long q5), .second, .val (.ref b1), .val (.ref b25_1), .val (.ref b26_1), .val (.ref b35_0), .val (.ref b39), .val (.long (q0 + q1)), .second, .val (.long (q1 + q2)), .second, .val (.long (q2 + q3)), .second, .val (.long (q3 + q0)), .second, .val (.long (q4 &&& q5)), .second, .unset] [(.long q4)])) _
    refine XS.lload X293.here hx rfl (hb hby at_340) rfl ?_
    show Steps p.tables e below (T293.setTop (mkF m 342 #[.val (.long q0), .second, .val (.long q1), .second, .val (.long q2), .second, .val (.long q3), .second, .val (.long q4), .second, .val (.long q5), .second, .val (.ref b1), .val (.ref b25_1), .val (.ref b26_1), .val (.ref b35_0), .val (.ref b39), .val (.long (q0 + q1)), .second, .val (.long (q1 + q2)), .second, .val (.long (q2 + q3)), .second, .val (.long (q3 + q0)), .second, .val (.long (q4 &&& q5)), .second, .unset] [(.long q4), (.long q4)])) _
    refine XS.lcmp X293.here hx rfl (hb hby at_342) rfl ?_
    show Steps p.tables e below (T293.setTop (mkF m 343 #[.val (.long q0), .second, .val (.long q1), .second, .val (.long q2), .second, .val (.long q3), .second, .val (.long q4), .second, .val (.long q5), .second, .val (.ref b1), .val (.ref b25_1), .val (.ref b26_1), .val (.ref b35_0), .val (.ref b39), .val (.long (q0 + q1)), .second, .val (.long (q1 + q2)), .second, .val (.long (q2 + q3)), .second, .val (.long (q3 + q0)), .second, .val (.long (q4 &&& q5)), .second, .unset] [(.int (lcmpW q4 q4))])) _
    refine XS.ifNo X293.here hx rfl (hb hby at_343) rfl ((if0 _ _).trans (teq ((lw_eq _ _).mpr rfl : (lcmpW q4 q4) = (0 : Int32))).2) ?_
    show Steps p.tables e below (T293.setTop (mkF m 346 #[.val (.long q0), .second, .val (.long q1), .second, .val (.long q2), .second, .val (.long q3), .second, .val (.long q4), .second, .val (.long q5), .second, .val (.ref b1), .val (.ref b25_1), .val (.ref b26_1), .val (.ref b35_0), .val (.ref b39), .val (.long (q0 + q1)), .second, .val (.long (q1 + q2)), .second, .val (.long (q2 + q3)), .second, .val (.long (q3 + q0)), .second, .val (.long (q4 &&& q5)), .second, .unset] [])) _
    refine XS.aload X293.here hx rfl (hb hby at_346) rfl rfl ?_
    show Steps p.tables e below (T293.setTop (mkF m 348 #[.val (.long q0), .second, .val (.long q1), .second, .val (.long q2), .second, .val (.long q3), .second, .val (.long q4), .second, .val (.long q5), .second, .val (.ref b1), .val (.ref b25_1), .val (.ref b26_1), .val (.ref b35_0), .val (.ref b39), .val (.long (q0 + q1)), .second, .val (.long (q1 + q2)), .second, .val (.long (q2 + q3)), .second, .val (.long (q3 + q0)), .second, .val (.long (q4 &&& q5)), .second, .unset] [(.ref b26_1)])) _
    refine st299 _ ?_
    show Steps p.tables e below (T299.setTop (mkF m 351 #[.val (.long q0), .second, .val (.long q1), .second, .val (.long q2), .second, .val (.long q3), .second, .val (.long q4), .second, .val (.long q5), .second, .val (.ref b1), .val (.ref b25_1), .val (.ref b26_1), .val (.ref b35_0), .val (.ref b39), .val (.long (q0 + q1)), .second, .val (.long (q1 + q2)), .second, .val (.long (q2 + q3)), .second, .val (.long (q3 + q0)), .second, .val (.long (q4 &&& q5)), .second, .unset] [(.long q1)])) _
    refine XS.lloadN X299.here hx rfl (hb hby at_351) rfl ?_
    show Steps p.tables e below (T299.setTop (mkF m 352 #[.val (.long q0), .second, .val (.long q1), .second, .val (.long q2), .second, .val (.long q3), .second, .val (.long q4), .second, .val (.long q5), .second, .val (.ref b1), .val (.ref b25_1), .val (.ref b26_1), .val (.ref b35_0), .val (.ref b39), .val (.long (q0 + q1)), .second, .val (.long (q1 + q2)), .second, .val (.long (q2 + q3)), .second, .val (.long (q3 + q0)), .second, .val (.long (q4 &&& q5)), .second, .unset] [(.long q1), (.long q1)])) _
    refine XS.lcmp X299.here hx rfl (hb hby at_352) rfl ?_
    show Steps p.tables e below (T299.setTop (mkF m 353 #[.val (.long q0), .second, .val (.long q1), .second, .val (.long q2), .second, .val (.long q3), .second, .val (.long q4), .second, .val (.long q5), .second, .val (.ref b1), .val (.ref b25_1), .val (.ref b26_1), .val (.ref b35_0), .val (.ref b39), .val (.long (q0 + q1)), .second, .val (.long (q1 + q2)), .second, .val (.long (q2 + q3)), .second, .val (.long (q3 + q0)), .second, .val (.long (q4 &&& q5)), .second, .unset] [(.int (lcmpW q1 q1))])) _
    refine XS.ifNo X299.here hx rfl (hb hby at_353) rfl ((if0 _ _).trans (teq ((lw_eq _ _).mpr rfl : (lcmpW q1 q1) = (0 : Int32))).2) ?_
    show Steps p.tables e below (T299.setTop (mkF m 356 #[.val (.long q0), .second, .val (.long q1), .second, .val (.long q2), .second, .val (.long q3), .second, .val (.long q4), .second, .val (.long q5), .second, .val (.ref b1), .val (.ref b25_1), .val (.ref b26_1), .val (.ref b35_0), .val (.ref b39), .val (.long (q0 + q1)), .second, .val (.long (q1 + q2)), .second, .val (.long (q2 + q3)), .second, .val (.long (q3 + q0)), .second, .val (.long (q4 &&& q5)), .second, .unset] [])) _
    refine XS.aload X299.here hx rfl (hb hby at_356) rfl rfl ?_
    show Steps p.tables e below (T299.setTop (mkF m 358 #[.val (.long q0), .second, .val (.long q1), .second, .val (.long q2), .second, .val (.long q3), .second, .val (.long q4), .second, .val (.long q5), .second, .val (.ref b1), .val (.ref b25_1), .val (.ref b26_1), .val (.ref b35_0), .val (.ref b39), .val (.long (q0 + q1)), .second, .val (.long (q1 + q2)), .second, .val (.long (q2 + q3)), .second, .val (.long (q3 + q0)), .second, .val (.long (q4 &&& q5)), .second, .unset] [(.ref b26_1)])) _
    refine st301 _ ?_
    show Steps p.tables e below (T301.setTop (mkF m 361 #[.val (.long q0), .second, .val (.long q1), .second, .val (.long q2), .second, .val (.long q3), .second, .val (.long q4), .second, .val (.long q5), .second, .val (.ref b1), .val (.ref b25_1), .val (.ref b26_1), .val (.ref b35_0), .val (.ref b39), .val (.long (q0 + q1)), .second, .val (.long (q1 + q2)), .second, .val (.long (q2 + q3)), .second, .val (.long (q3 + q0)), .second, .val (.long (q4 &&& q5)), .second, .unset] [(.long q2)])) _
    refine XS.lload X301.here hx rfl (hb hby at_361) rfl ?_
    show Steps p.tables e below (T301.setTop (mkF m 363 #[.val (.long q0), .second, .val (.long q1), .second, .val (.long q2), .second, .val (.long q3), .second, .val (.long q4), .second, .val (.long q5), .second, .val (.ref b1), .val (.ref b25_1), .val (.ref b26_1), .val (.ref b35_0), .val (.ref b39), .val (.long (q0 + q1)), .second, .val (.long (q1 + q2)), .second, .val (.long (q2 + q3)), .second, .val (.long (q3 + q0)), .second, .val (.long (q4 &&& q5)), .second, .unset] [(.long q2), (.long q2)])) _
    refine XS.lcmp X301.here hx rfl (hb hby at_363) rfl ?_
    show Steps p.tables e below (T301.setTop (mkF m 364 #[.val (.long q0), .second, .val (.long q1), .second, .val (.long q2), .second, .val (.long q3), .second, .val (.long q4), .second, .val (.long q5), .second, .val (.ref b1), .val (.ref b25_1), .val (.ref b26_1), .val (.ref b35_0), .val (.ref b39), .val (.long (q0 + q1)), .second, .val (.long (q1 + q2)), .second, .val (.long (q2 + q3)), .second, .val (.long (q3 + q0)), .second, .val (.long (q4 &&& q5)), .second, .unset] [(.int (lcmpW q2 q2))])) _
    refine XS.ifNo X301.here hx rfl (hb hby at_364) rfl ((if0 _ _).trans (teq ((lw_eq _ _).mpr rfl : (lcmpW q2 q2) = (0 : Int32))).2) ?_
    show Steps p.tables e below (T301.setTop (mkF m 367 #[.val (.long q0), .second, .val (.long q1), .second, .val (.long q2), .second, .val (.long q3), .second, .val (.long q4), .second, .val (.long q5), .second, .val (.ref b1), .val (.ref b25_1), .val (.ref b26_1), .val (.ref b35_0), .val (.ref b39), .val (.long (q0 + q1)), .second, .val (.long (q1 + q2)), .second, .val (.long (q2 + q3)), .second, .val (.long (q3 + q0)), .second, .val (.long (q4 &&& q5)), .second, .unset] [])) _
    refine XS.aload X301.here hx rfl (hb hby at_367) rfl rfl ?_
    show Steps p.tables e below (T301.setTop (mkF m 369 #[.val (.long q0), .second, .val (.long q1), .second, .val (.long q2), .second, .val (.long q3), .second, .val (.long q4), .second, .val (.long q5), .second, .val (.ref b1), .val (.ref b25_1), .val (.ref b26_1), .val (.ref b35_0), .val (.ref b39), .val (.long (q0 + q1)), .second, .val (.long (q1 + q2)), .second, .val (.long (q2 + q3)), .second, .val (.long (q3 + q0)), .second, .val (.long (q4 &&& q5)), .second, .unset] [(.ref b26_1)])) _
    refine st303 _ ?_
    show Steps p.tables e below (T303.setTop (mkF m 372 #[.val (.long q0), .second, .val (.long q1), .second, .val (.long q2), .second, .val (.long q3), .second, .val (.long q4), .second, .val (.long q5), .second, .val (.ref b1), .val (.ref b25_1), .val (.ref b26_1), .val (.ref b35_0), .val (.ref b39), .val (.long (q0 + q1)), .second, .val (.long (q1 + q2)), .second, .val (.long (q2 + q3)), .second, .val (.long (q3 + q0)), .second, .val (.long (q4 &&& q5)), .second, .unset] [(.long q3)])) _
    refine XS.lload X303.here hx rfl (hb hby at_372) rfl ?_
    show Steps p.tables e below (T303.setTop (mkF m 374 #[.val (.long q0), .second, .val (.long q1), .second, .val (.long q2), .second, .val (.long q3), .second, .val (.long q4), .second, .val (.long q5), .second, .val (.ref b1), .val (.ref b25_1), .val (.ref b26_1), .val (.ref b35_0), .val (.ref b39), .val (.long (q0 + q1)), .second, .val (.long (q1 + q2)), .second, .val (.long (q2 + q3)), .second, .val (.long (q3 + q0)), .second, .val (.long (q4 &&& q5)), .second, .unset] [(.long q3), (.long q3)])) _
    refine XS.lcmp X303.here hx rfl (hb hby at_374) rfl ?_
    show Steps p.tables e below (T303.setTop (mkF m 375 #[.val (.long q0), .second, .val (.long q1), .second, .val (.long q2), .second, .val (.long q3), .second, .val (.long q4), .second, .val (.long q5), .second, .val (.ref b1), .val (.ref b25_1), .val (.ref b26_1), .val (.ref b35_0), .val (.ref b39), .val (.long (q0 + q1)), .second, .val (.long (q1 + q2)), .second, .val (.long (q2 + q3)), .second, .val (.long (q3 + q0)), .second, .val (.long (q4 &&& q5)), .second, .unset] [(.int (lcmpW q3 q3))])) _
    refine XS.ifNo X303.here hx rfl (hb hby at_375) rfl ((if0 _ _).trans (teq ((lw_eq _ _).mpr rfl : (lcmpW q3 q3) = (0 : Int32))).2) ?_
    show Steps p.tables e below (T303.setTop (mkF m 378 #[.val (.long q0), .second, .val (.long q1), .second, .val (.long q2), .second, .val (.long q3), .second, .val (.long q4), .second, .val (.long q5), .second, .val (.ref b1), .val (.ref b25_1), .val (.ref b26_1), .val (.ref b35_0), .val (.ref b39), .val (.long (q0 + q1)), .second, .val (.long (q1 + q2)), .second, .val (.long (q2 + q3)), .second, .val (.long (q3 + q0)), .second, .val (.long (q4 &&& q5)), .second, .unset] [])) _
    refine XS.aload X303.here hx rfl (hb hby at_378) rfl rfl ?_
    show Steps p.tables e below (T303.setTop (mkF m 380 #[.val (.long q0), .second, .val (.long q1), .second, .val (.long q2), .second, .val (.long q3), .second, .val (.long q4), .second, .val (.long q5), .second, .val (.ref b1), .val (.ref b25_1), .val (.ref b26_1), .val (.ref b35_0), .val (.ref b39), .val (.long (q0 + q1)), .second, .val (.long (q1 + q2)), .second, .val (.long (q2 + q3)), .second, .val (.long (q3 + q0)), .second, .val (.long (q4 &&& q5)), .second, .unset] [(.ref b26_1)])) _
    refine st305 _ ?_
    show Steps p.tables e below (T305.setTop (mkF m 383 #[.val (.long q0), .second, .val (.long q1), .second, .val (.long q2), .second, .val (.long q3), .second, .val (.long q4), .second, .val (.long q5), .second, .val (.ref b1), .val (.ref b25_1), .val (.ref b26_1), .val (.ref b35_0), .val (.ref b39), .val (.long (q0 + q1)), .second, .val (.long (q1 + q2)), .second, .val (.long (q2 + q3)), .second, .val (.long (q3 + q0)), .second, .val (.long (q4 &&& q5)), .second, .unset] [(.long q0)])) _
    refine XS.lloadN X305.here hx rfl (hb hby at_383) rfl ?_
    show Steps p.tables e below (T305.setTop (mkF m 384 #[.val (.long q0), .second, .val (.long q1), .second, .val (.long q2), .second, .val (.long q3), .second, .val (.long q4), .second, .val (.long q5), .second, .val (.ref b1), .val (.ref b25_1), .val (.ref b26_1), .val (.ref b35_0), .val (.ref b39), .val (.long (q0 + q1)), .second, .val (.long (q1 + q2)), .second, .val (.long (q2 + q3)), .second, .val (.long (q3 + q0)), .second, .val (.long (q4 &&& q5)), .second, .unset] [(.long q0), (.long q0)])) _
    refine XS.lcmp X305.here hx rfl (hb hby at_384) rfl ?_
    show Steps p.tables e below (T305.setTop (mkF m 385 #[.val (.long q0), .second, .val (.long q1), .second, .val (.long q2), .second, .val (.long q3), .second, .val (.long q4), .second, .val (.long q5), .second, .val (.ref b1), .val (.ref b25_1), .val (.ref b26_1), .val (.ref b35_0), .val (.ref b39), .val (.long (q0 + q1)), .second, .val (.long (q1 + q2)), .second, .val (.long (q2 + q3)), .second, .val (.long (q3 + q0)), .second, .val (.long (q4 &&& q5)), .second, .unset] [(.int (lcmpW q0 q0))])) _
    refine XS.ifNo X305.here hx rfl (hb hby at_385) rfl ((if0 _ _).trans (teq ((lw_eq _ _).mpr rfl : (lcmpW q0 q0) = (0 : Int32))).2) ?_
    show Steps p.tables e below (T305.setTop (mkF m 388 #[.val (.long q0), .second, .val (.long q1), .second, .val (.long q2), .second, .val (.long q3), .second, .val (.long q4), .second, .val (.long q5), .second, .val (.ref b1), .val (.ref b25_1), .val (.ref b26_1), .val (.ref b35_0), .val (.ref b39), .val (.long (q0 + q1)), .second, .val (.long (q1 + q2)), .second, .val (.long (q2 + q3)), .second, .val (.long (q3 + q0)), .second, .val (.long (q4 &&& q5)), .second, .unset] [])) _
    refine XS.aload X305.here hx rfl (hb hby at_388) rfl rfl ?_
    show Steps p.tables e below (T305.setTop (mkF m 390 #[.val (.long q0), .second, .val (.long q1), .second, .val (.long q2), .second, .val (.long q3), .second, .val (.long q4), .second, .val (.long q5), .second, .val (.ref b1), .val (.ref b25_1), .val (.ref b26_1), .val (.ref b35_0), .val (.ref b39), .val (.long (q0 + q1)), .second, .val (.long (q1 + q2)), .second, .val (.long (q2 + q3)), .second, .val (.long (q3 + q0)), .second, .val (.long (q4 &&& q5)), .second, .unset] [(.ref b26_1)])) _
    refine st307 _ ?_
    show Steps p.tables e below (T307.setTop (mkF m 393 #[.val (.long q0), .second, .val (.long q1), .second, .val (.long q2), .second, .val (.long q3), .second, .val (.long q4), .second, .val (.long q5), .second, .val (.ref b1), .val (.ref b25_1), .val (.ref b26_1), .val (.ref b35_0), .val (.ref b39), .val (.long (q0 + q1)), .second, .val (.long (q1 + q2)), .second, .val (.long (q2 + q3)), .second, .val (.long (q3 + q0)), .second, .val (.long (q4 &&& q5)), .second, .unset] [(.ref b26_0)])) _
    refine XS.iconst X307.here hx rfl (hb hby at_393) ?_
    show Steps p.tables e below (T307.setTop (mkF m 394 #[.val (.long q0), .second, .val (.long q1), .second, .val (.long q2), .second, .val (.long q3), .second, .val (.long q4), .second, .val (.long q5), .second, .val (.ref b1), .val (.ref b25_1), .val (.ref b26_1), .val (.ref b35_0), .val (.ref b39), .val (.long (q0 + q1)), .second, .val (.long (q1 + q2)), .second, .val (.long (q2 + q3)), .second, .val (.long (q3 + q0)), .second, .val (.long (q4 &&& q5)), .second, .unset] [(.int (0 : Int32)), (.ref b26_0)])) _
    refine X307.laload hx (j := (0 : Int32)) (v := (.long q5)) (by rw [e307]; exact Ar309.1) (State.isArrayOf_alike hZ.alike Ar309.2.1) Ar309.2.2 hin310 hat311 (g := (mkF m 394 #[.val (.long q0), .second, .val (.long q1), .second, .val (.long q2), .second, .val (.long q3), .second, .val (.long q4), .second, .val (.long q5), .second, .val (.ref b1), .val (.ref b25_1), .val (.ref b26_1), .val (.ref b35_0), .val (.ref b39), .val (.long (q0 + q1)), .second, .val (.long (q1 + q2)), .second, .val (.long (q2 + q3)), .second, .val (.long (q3 + q0)), .second, .val (.long (q4 &&& q5)), .second, .unset] [(.int (0 : Int32)), (.ref b26_0)])) rfl rfl (hb hby at_394) _ ?_
    show Steps p.tables e below (T307.setTop (mkF m 395 #[.val (.long q0), .second, .val (.long q1), .second, .val (.long q2), .second, .val (.long q3), .second, .val (.long q4), .second, .val (.long q5), .second, .val (.ref b1), .val (.ref b25_1), .val (.ref b26_1), .val (.ref b35_0), .val (.ref b39), .val (.long (q0 + q1)), .second, .val (.long (q1 + q2)), .second, .val (.long (q2 + q3)), .second, .val (.long (q3 + q0)), .second, .val (.long (q4 &&& q5)), .second, .unset] [(.long q5)])) _
    refine XS.lload X307.here hx rfl (hb hby at_395) rfl ?_
    show Steps p.tables e below (T307.setTop (mkF m 397 #[.val (.long q0), .second, .val (.long q1), .second, .val (.long q2), .second, .val (.long q3), .second, .val (.long q4), .second, .val (.long q5), .second, .val (.ref b1), .val (.ref b25_1), .val (.ref b26_1), .val (.ref b35_0), .val (.ref b39), .val (.long (q0 + q1)), .second, .val (.long (q1 + q2)), .second, .val (.long (q2 + q3)), .second, .val (.long (q3 + q0)), .second, .val (.long (q4 &&& q5)), .second, .unset] [(.long q5), (.long q5)])) _
    refine XS.lcmp X307.here hx rfl (hb hby at_397) rfl ?_
    show Steps p.tables e below (T307.setTop (mkF m 398 #[.val (.long q0), .second, .val (.long q1), .second, .val (.long q2), .second, .val (.long q3), .second, .val (.long q4), .second, .val (.long q5), .second, .val (.ref b1), .val (.ref b25_1), .val (.ref b26_1), .val (.ref b35_0), .val (.ref b39), .val (.long (q0 + q1)), .second, .val (.long (q1 + q2)), .second, .val (.long (q2 + q3)), .second, .val (.long (q3 + q0)), .second, .val (.long (q4 &&& q5)), .second, .unset] [(.int (lcmpW q5 q5))])) _
    refine XS.ifNo X307.here hx rfl (hb hby at_398) rfl ((if0 _ _).trans (teq ((lw_eq _ _).mpr rfl : (lcmpW q5 q5) = (0 : Int32))).2) ?_
    show Steps p.tables e below (T307.setTop (mkF m 401 #[.val (.long q0), .second, .val (.long q1), .second, .val (.long q2), .second, .val (.long q3), .second, .val (.long q4), .second, .val (.long q5), .second, .val (.ref b1), .val (.ref b25_1), .val (.ref b26_1), .val (.ref b35_0), .val (.ref b39), .val (.long (q0 + q1)), .second, .val (.long (q1 + q2)), .second, .val (.long (q2 + q3)), .second, .val (.long (q3 + q0)), .second, .val (.long (q4 &&& q5)), .second, .unset] [])) _
    refine XS.iconst X307.here hx rfl (hb hby at_401) ?_
    show Steps p.tables e below (T307.setTop (mkF m 402 #[.val (.long q0), .second, .val (.long q1), .second, .val (.long q2), .second, .val (.long q3), .second, .val (.long q4), .second, .val (.long q5), .second, .val (.ref b1), .val (.ref b25_1), .val (.ref b26_1), .val (.ref b35_0), .val (.ref b39), .val (.long (q0 + q1)), .second, .val (.long (q1 + q2)), .second, .val (.long (q2 + q3)), .second, .val (.long (q3 + q0)), .second, .val (.long (q4 &&& q5)), .second, .unset] [(.int (1 : Int32))])) _
    refine XS.goto X307.here hx rfl (pc0 := 402) (pc' := 406) rfl (hb hby at_402) (by decide) (by decide) ?_
    show Steps p.tables e below (T307.setTop (mkF m 406 #[.val (.long q0), .second, .val (.long q1), .second, .val (.long q2), .second, .val (.long q3), .second, .val (.long q4), .second, .val (.long q5), .second, .val (.ref b1), .val (.ref b25_1), .val (.ref b26_1), .val (.ref b35_0), .val (.ref b39), .val (.long (q0 + q1)), .second, .val (.long (q1 + q2)), .second, .val (.long (q2 + q3)), .second, .val (.long (q3 + q0)), .second, .val (.long (q4 &&& q5)), .second, .unset] [(.int (1 : Int32))])) _
    refine XS.istore X307.here hx rfl (hb hby at_406) rfl (l' := #[.val (.long q0), .second, .val (.long q1), .second, .val (.long q2), .second, .val (.long q3), .second, .val (.long q4), .second, .val (.long q5), .second, .val (.ref b1), .val (.ref b25_1), .val (.ref b26_1), .val (.ref b35_0), .val (.ref b39), .val (.long (q0 + q1)), .second, .val (.long (q1 + q2)), .second, .val (.long (q2 + q3)), .second, .val (.long (q3 + q0)), .second, .val (.long (q4 &&& q5)), .second, .val (.int (1 : Int32))]) rfl ?_
    show Steps p.tables e below (T307.setTop (mkF m 408 #[.val (.long q0), .second, .val (.long q1), .second, .val (.long q2), .second, .val (.long q3), .second, .val (.long q4), .second, .val (.long q5), .second, .val (.ref b1), .val (.ref b25_1), .val (.ref b26_1), .val (.ref b35_0), .val (.ref b39), .val (.long (q0 + q1)), .second, .val (.long (q1 + q2)), .second, .val (.long (q2 + q3)), .second, .val (.long (q3 + q0)), .second, .val (.long (q4 &&& q5)), .second, .val (.int (1 : Int32))] [])) _
    refine XS.aload X307.here hx rfl (hb hby at_408) rfl rfl ?_
    show Steps p.tables e below (T307.setTop (mkF m 410 #[.val (.long q0), .second, .val (.long q1), .second, .val (.long q2), .second, .val (.long q3), .second, .val (.long q4), .second, .val (.long q5), .second, .val (.ref b1), .val (.ref b25_1), .val (.ref b26_1), .val (.ref b35_0), .val (.ref b39), .val (.long (q0 + q1)), .second, .val (.long (q1 + q2)), .second, .val (.long (q2 + q3)), .second, .val (.long (q3 + q0)), .second, .val (.long (q4 &&& q5)), .second, .val (.int (1 : Int32))] [(.ref b39)])) _
    refine XS.aload X307.here hx rfl (hb hby at_410) rfl rfl ?_
    show Steps p.tables e below (T307.setTop (mkF m 412 #[.val (.long q0), .second, .val (.long q1), .second, .val (.long q2), .second, .val (.long q3), .second, .val (.long q4), .second, .val (.long q5), .second, .val (.ref b1), .val (.ref b25_1), .val (.ref b26_1), .val (.ref b35_0), .val (.ref b39), .val (.long (q0 + q1)), .second, .val (.long (q1 + q2)), .second, .val (.long (q2 + q3)), .second, .val (.long (q3 + q0)), .second, .val (.long (q4 &&& q5)), .second, .val (.int (1 : Int32))] [(.ref b26_1), (.ref b39)])) _
    refine XS.aload X307.here hx rfl (hb hby at_412) rfl rfl ?_
    show Steps p.tables e below (T307.setTop (mkF m 414 #[.val (.long q0), .second, .val (.long q1), .second, .val (.long q2), .second, .val (.long q3), .second, .val (.long q4), .second, .val (.long q5), .second, .val (.ref b1), .val (.ref b25_1), .val (.ref b26_1), .val (.ref b35_0), .val (.ref b39), .val (.long (q0 + q1)), .second, .val (.long (q1 + q2)), .second, .val (.long (q2 + q3)), .second, .val (.long (q3 + q0)), .second, .val (.long (q4 &&& q5)), .second, .val (.int (1 : Int32))] [(.ref b25_1), (.ref b26_1), (.ref b39)])) _
    refine st312.trans ?_
    show Steps p.tables e below (T312.setTop (mkF m 417 #[.val (.long q0), .second, .val (.long q1), .second, .val (.long q2), .second, .val (.long q3), .second, .val (.long q4), .second, .val (.long q5), .second, .val (.ref b1), .val (.ref b25_1), .val (.ref b26_1), .val (.ref b35_0), .val (.ref b39), .val (.long (q0 + q1)), .second, .val (.long (q1 + q2)), .second, .val (.long (q2 + q3)), .second, .val (.long (q3 + q0)), .second, .val (.long (q4 &&& q5)), .second, .val (.int (1 : Int32))] [])) _
    refine XS.iload X312'.here hx rfl (hb hby at_417) rfl ?_
    show Steps p.tables e below (T312.setTop (mkF m 419 #[.val (.long q0), .second, .val (.long q1), .second, .val (.long q2), .second, .val (.long q3), .second, .val (.long q4), .second, .val (.long q5), .second, .val (.ref b1), .val (.ref b25_1), .val (.ref b26_1), .val (.ref b35_0), .val (.ref b39), .val (.long (q0 + q1)), .second, .val (.long (q1 + q2)), .second, .val (.long (q2 + q3)), .second, .val (.long (q3 + q0)), .second, .val (.long (q4 &&& q5)), .second, .val (.int (1 : Int32))] [(.int (1 : Int32))])) _
    refine XS.ifNo X312'.here hx rfl (hb hby at_419) rfl ((if0 _ _).trans (feq (by decide : ¬ ((1 : Int32) = (0 : Int32)))).1) ?_
    show Steps p.tables e below (T312.setTop (mkF m 422 #[.val (.long q0), .second, .val (.long q1), .second, .val (.long q2), .second, .val (.long q3), .second, .val (.long q4), .second, .val (.long q5), .second, .val (.ref b1), .val (.ref b25_1), .val (.ref b26_1), .val (.ref b35_0), .val (.ref b39), .val (.long (q0 + q1)), .second, .val (.long (q1 + q2)), .second, .val (.long (q2 + q3)), .second, .val (.long (q3 + q0)), .second, .val (.long (q4 &&& q5)), .second, .val (.int (1 : Int32))] [])) _
    refine XS.aload X312'.here hx rfl (hb hby at_422) rfl rfl ?_
    show Steps p.tables e below (T312.setTop (mkF m 424 #[.val (.long q0), .second, .val (.long q1), .second, .val (.long q2), .second, .val (.long q3), .second, .val (.long q4), .second, .val (.long q5), .second, .val (.ref b1), .val (.ref b25_1), .val (.ref b26_1), .val (.ref b35_0), .val (.ref b39), .val (.long (q0 + q1)), .second, .val (.long (q1 + q2)), .second, .val (.long (q2 + q3)), .second, .val (.long (q3 + q0)), .second, .val (.long (q4 &&& q5)), .second, .val (.int (1 : Int32))] [(.ref b39)])) _
    refine st337 _ ?_
    show Steps p.tables e below (T337.setTop (mkF m 427 #[.val (.long q0), .second, .val (.long q1), .second, .val (.long q2), .second, .val (.long q3), .second, .val (.long q4), .second, .val (.long q5), .second, .val (.ref b1), .val (.ref b25_1), .val (.ref b26_1), .val (.ref b35_0), .val (.ref b39), .val (.long (q0 + q1)), .second, .val (.long (q1 + q2)), .second, .val (.long (q2 + q3)), .second, .val (.long (q3 + q0)), .second, .val (.long (q4 &&& q5)), .second, .val (.int (1 : Int32))] [(.long (q1 + q0))])) _
    refine XS.lload X337.here hx rfl (hb hby at_427) rfl ?_
    show Steps p.tables e below (T337.setTop (mkF m 429 #[.val (.long q0), .second, .val (.long q1), .second, .val (.long q2), .second, .val (.long q3), .second, .val (.long q4), .second, .val (.long q5), .second, .val (.ref b1), .val (.ref b25_1), .val (.ref b26_1), .val (.ref b35_0), .val (.ref b39), .val (.long (q0 + q1)), .second, .val (.long (q1 + q2)), .second, .val (.long (q2 + q3)), .second, .val (.long (q3 + q0)), .second, .val (.long (q4 &&& q5)), .second, .val (.int (1 : Int32))] [(.long (q0 + q1)), (.long (q1 + q0))])) _
    refine XS.lcmp X337.here hx rfl (hb hby at_429) rfl ?_
    show Steps p.tables e below (T337.setTop (mkF m 430 #[.val (.long q0), .second, .val (.long q1), .second, .val (.long q2), .second, .val (.long q3), .second, .val (.long q4), .second, .val (.long q5), .second, .val (.ref b1), .val (.ref b25_1), .val (.ref b26_1), .val (.ref b35_0), .val (.ref b39), .val (.long (q0 + q1)), .second, .val (.long (q1 + q2)), .second, .val (.long (q2 + q3)), .second, .val (.long (q3 + q0)), .second, .val (.long (q4 &&& q5)), .second, .val (.int (1 : Int32))] [(.int (lcmpW (q1 + q0) (q0 + q1)))])) _
    refine XS.ifNo X337.here hx rfl (hb hby at_430) rfl ((if0 _ _).trans (teq hc0).2) ?_
    show Steps p.tables e below (T337.setTop (mkF m 433 #[.val (.long q0), .second, .val (.long q1), .second, .val (.long q2), .second, .val (.long q3), .second, .val (.long q4), .second, .val (.long q5), .second, .val (.ref b1), .val (.ref b25_1), .val (.ref b26_1), .val (.ref b35_0), .val (.ref b39), .val (.long (q0 + q1)), .second, .val (.long (q1 + q2)), .second, .val (.long (q2 + q3)), .second, .val (.long (q3 + q0)), .second, .val (.long (q4 &&& q5)), .second, .val (.int (1 : Int32))] [])) _
    refine XS.aload X337.here hx rfl (hb hby at_433) rfl rfl ?_
    show Steps p.tables e below (T337.setTop (mkF m 435 #[.val (.long q0), .second, .val (.long q1), .second, .val (.long q2), .second, .val (.long q3), .second, .val (.long q4), .second, .val (.long q5), .second, .val (.ref b1), .val (.ref b25_1), .val (.ref b26_1), .val (.ref b35_0), .val (.ref b39), .val (.long (q0 + q1)), .second, .val (.long (q1 + q2)), .second, .val (.long (q2 + q3)), .second, .val (.long (q3 + q0)), .second, .val (.long (q4 &&& q5)), .second, .val (.int (1 : Int32))] [(.ref b39)])) _
    refine st338 _ ?_
    show Steps p.tables e below (T338.setTop (mkF m 438 #[.val (.long q0), .second, .val (.long q1), .second, .val (.long q2), .second, .val (.long q3), .second, .val (.long q4), .second, .val (.long q5), .second, .val (.ref b1), .val (.ref b25_1), .val (.ref b26_1), .val (.ref b35_0), .val (.ref b39), .val (.long (q0 + q1)), .second, .val (.long (q1 + q2)), .second, .val (.long (q2 + q3)), .second, .val (.long (q3 + q0)), .second, .val (.long (q4 &&& q5)), .second, .val (.int (1 : Int32))] [(.long (q2 + q1))])) _
    refine XS.lload X338.here hx rfl (hb hby at_438) rfl ?_
    show Steps p.tables e below (T338.setTop (mkF m 440 #[.val (.long q0), .second, .val (.long q1), .second, .val (.long q2), .second, .val (.long q3), .second, .val (.long q4), .second, .val (.long q5), .second, .val (.ref b1), .val (.ref b25_1), .val (.ref b26_1), .val (.ref b35_0), .val (.ref b39), .val (.long (q0 + q1)), .second, .val (.long (q1 + q2)), .second, .val (.long (q2 + q3)), .second, .val (.long (q3 + q0)), .second, .val (.long (q4 &&& q5)), .second, .val (.int (1 : Int32))] [(.long (q1 + q2)), (.long (q2 + q1))])) _
    refine XS.lcmp X338.here hx rfl (hb hby at_440) rfl ?_
    show Steps p.tables e below (T338.setTop (mkF m 441 #[.val (.long q0), .second, .val (.long q1), .second, .val (.long q2), .second, .val (.long q3), .second, .val (.long q4), .second, .val (.long q5), .second, .val (.ref b1), .val (.ref b25_1), .val (.ref b26_1), .val (.ref b35_0), .val (.ref b39), .val (.long (q0 + q1)), .second, .val (.long (q1 + q2)), .second, .val (.long (q2 + q3)), .second, .val (.long (q3 + q0)), .second, .val (.long (q4 &&& q5)), .second, .val (.int (1 : Int32))] [(.int (lcmpW (q2 + q1) (q1 + q2)))])) _
    refine XS.ifNo X338.here hx rfl (hb hby at_441) rfl ((if0 _ _).trans (teq hc1).2) ?_
    show Steps p.tables e below (T338.setTop (mkF m 444 #[.val (.long q0), .second, .val (.long q1), .second, .val (.long q2), .second, .val (.long q3), .second, .val (.long q4), .second, .val (.long q5), .second, .val (.ref b1), .val (.ref b25_1), .val (.ref b26_1), .val (.ref b35_0), .val (.ref b39), .val (.long (q0 + q1)), .second, .val (.long (q1 + q2)), .second, .val (.long (q2 + q3)), .second, .val (.long (q3 + q0)), .second, .val (.long (q4 &&& q5)), .second, .val (.int (1 : Int32))] [])) _
    refine XS.aload X338.here hx rfl (hb hby at_444) rfl rfl ?_
    show Steps p.tables e below (T338.setTop (mkF m 446 #[.val (.long q0), .second, .val (.long q1), .second, .val (.long q2), .second, .val (.long q3), .second, .val (.long q4), .second, .val (.long q5), .second, .val (.ref b1), .val (.ref b25_1), .val (.ref b26_1), .val (.ref b35_0), .val (.ref b39), .val (.long (q0 + q1)), .second, .val (.long (q1 + q2)), .second, .val (.long (q2 + q3)), .second, .val (.long (q3 + q0)), .second, .val (.long (q4 &&& q5)), .second, .val (.int (1 : Int32))] [(.ref b39)])) _
    refine st339 _ ?_
    show Steps p.tables e below (T339.setTop (mkF m 449 #[.val (.long q0), .second, .val (.long q1), .second, .val (.long q2), .second, .val (.long q3), .second, .val (.long q4), .second, .val (.long q5), .second, .val (.ref b1), .val (.ref b25_1), .val (.ref b26_1), .val (.ref b35_0), .val (.ref b39), .val (.long (q0 + q1)), .second, .val (.long (q1 + q2)), .second, .val (.long (q2 + q3)), .second, .val (.long (q3 + q0)), .second, .val (.long (q4 &&& q5)), .second, .val (.int (1 : Int32))] [(.long (q3 + q2))])) _
    refine XS.lload X339.here hx rfl (hb hby at_449) rfl ?_
    show Steps p.tables e below (T339.setTop (mkF m 451 #[.val (.long q0), .second, .val (.long q1), .second, .val (.long q2), .second, .val (.long q3), .second, .val (.long q4), .second, .val (.long q5), .second, .val (.ref b1), .val (.ref b25_1), .val (.ref b26_1), .val (.ref b35_0), .val (.ref b39), .val (.long (q0 + q1)), .second, .val (.long (q1 + q2)), .second, .val (.long (q2 + q3)), .second, .val (.long (q3 + q0)), .second, .val (.long (q4 &&& q5)), .second, .val (.int (1 : Int32))] [(.long (q2 + q3)), (.long (q3 + q2))])) _
    refine XS.lcmp X339.here hx rfl (hb hby at_451) rfl ?_
    show Steps p.tables e below (T339.setTop (mkF m 452 #[.val (.long q0), .second, .val (.long q1), .second, .val (.long q2), .second, .val (.long q3), .second, .val (.long q4), .second, .val (.long q5), .second, .val (.ref b1), .val (.ref b25_1), .val (.ref b26_1), .val (.ref b35_0), .val (.ref b39), .val (.long (q0 + q1)), .second, .val (.long (q1 + q2)), .second, .val (.long (q2 + q3)), .second, .val (.long (q3 + q0)), .second, .val (.long (q4 &&& q5)), .second, .val (.int (1 : Int32))] [(.int (lcmpW (q3 + q2) (q2 + q3)))])) _
    refine XS.ifNo X339.here hx rfl (hb hby at_452) rfl ((if0 _ _).trans (teq hc2).2) ?_
    show Steps p.tables e below (T339.setTop (mkF m 455 #[.val (.long q0), .second, .val (.long q1), .second, .val (.long q2), .second, .val (.long q3), .second, .val (.long q4), .second, .val (.long q5), .second, .val (.ref b1), .val (.ref b25_1), .val (.ref b26_1), .val (.ref b35_0), .val (.ref b39), .val (.long (q0 + q1)), .second, .val (.long (q1 + q2)), .second, .val (.long (q2 + q3)), .second, .val (.long (q3 + q0)), .second, .val (.long (q4 &&& q5)), .second, .val (.int (1 : Int32))] [])) _
    refine XS.aload X339.here hx rfl (hb hby at_455) rfl rfl ?_
    show Steps p.tables e below (T339.setTop (mkF m 457 #[.val (.long q0), .second, .val (.long q1), .second, .val (.long q2), .second, .val (.long q3), .second, .val (.long q4), .second, .val (.long q5), .second, .val (.ref b1), .val (.ref b25_1), .val (.ref b26_1), .val (.ref b35_0), .val (.ref b39), .val (.long (q0 + q1)), .second, .val (.long (q1 + q2)), .second, .val (.long (q2 + q3)), .second, .val (.long (q3 + q0)), .second, .val (.long (q4 &&& q5)), .second, .val (.int (1 : Int32))] [(.ref b39)])) _
    refine st340 _ ?_
    show Steps p.tables e below (T340.setTop (mkF m 460 #[.val (.long q0), .second, .val (.long q1), .second, .val (.long q2), .second, .val (.long q3), .second, .val (.long q4), .second, .val (.long q5), .second, .val (.ref b1), .val (.ref b25_1), .val (.ref b26_1), .val (.ref b35_0), .val (.ref b39), .val (.long (q0 + q1)), .second, .val (.long (q1 + q2)), .second, .val (.long (q2 + q3)), .second, .val (.long (q3 + q0)), .second, .val (.long (q4 &&& q5)), .second, .val (.int (1 : Int32))] [(.long (q0 + q3))])) _
    refine XS.lload X340.here hx rfl (hb hby at_460) rfl ?_
    show Steps p.tables e below (T340.setTop (mkF m 462 #[.val (.long q0), .second, .val (.long q1), .second, .val (.long q2), .second, .val (.long q3), .second, .val (.long q4), .second, .val (.long q5), .second, .val (.ref b1), .val (.ref b25_1), .val (.ref b26_1), .val (.ref b35_0), .val (.ref b39), .val (.long (q0 + q1)), .second, .val (.long (q1 + q2)), .second, .val (.long (q2 + q3)), .second, .val (.long (q3 + q0)), .second, .val (.long (q4 &&& q5)), .second, .val (.int (1 : Int32))] [(.long (q3 + q0)), (.long (q0 + q3))])) _
    refine XS.lcmp X340.here hx rfl (hb hby at_462) rfl ?_
    show Steps p.tables e below (T340.setTop (mkF m 463 #[.val (.long q0), .second, .val (.long q1), .second, .val (.long q2), .second, .val (.long q3), .second, .val (.long q4), .second, .val (.long q5), .second, .val (.ref b1), .val (.ref b25_1), .val (.ref b26_1), .val (.ref b35_0), .val (.ref b39), .val (.long (q0 + q1)), .second, .val (.long (q1 + q2)), .second, .val (.long (q2 + q3)), .second, .val (.long (q3 + q0)), .second, .val (.long (q4 &&& q5)), .second, .val (.int (1 : Int32))] [(.int (lcmpW (q0 + q3) (q3 + q0)))])) _
    refine XS.ifNo X340.here hx rfl (hb hby at_463) rfl ((if0 _ _).trans (teq hc3).2) ?_
    show Steps p.tables e below (T340.setTop (mkF m 466 #[.val (.long q0), .second, .val (.long q1), .second, .val (.long q2), .second, .val (.long q3), .second, .val (.long q4), .second, .val (.long q5), .second, .val (.ref b1), .val (.ref b25_1), .val (.ref b26_1), .val (.ref b35_0), .val (.ref b39), .val (.long (q0 + q1)), .second, .val (.long (q1 + q2)), .second, .val (.long (q2 + q3)), .second, .val (.long (q3 + q0)), .second, .val (.long (q4 &&& q5)), .second, .val (.int (1 : Int32))] [])) _
    refine XS.aload X340.here hx rfl (hb hby at_466) rfl rfl ?_
    show Steps p.tables e below (T340.setTop (mkF m 468 #[.val (.long q0), .second, .val (.long q1), .second, .val (.long q2), .second, .val (.long q3), .second, .val (.long q4), .second, .val (.long q5), .second, .val (.ref b1), .val (.ref b25_1), .val (.ref b26_1), .val (.ref b35_0), .val (.ref b39), .val (.long (q0 + q1)), .second, .val (.long (q1 + q2)), .second, .val (.long (q2 + q3)), .second, .val (.long (q3 + q0)), .second, .val (.long (q4 &&& q5)), .second, .val (.int (1 : Int32))] [(.ref b39)])) _
    refine st341 _ ?_
    show Steps p.tables e below (T341.setTop (mkF m 471 #[.val (.long q0), .second, .val (.long q1), .second, .val (.long q2), .second, .val (.long q3), .second, .val (.long q4), .second, .val (.long q5), .second, .val (.ref b1), .val (.ref b25_1), .val (.ref b26_1), .val (.ref b35_0), .val (.ref b39), .val (.long (q0 + q1)), .second, .val (.long (q1 + q2)), .second, .val (.long (q2 + q3)), .second, .val (.long (q3 + q0)), .second, .val (.long (q4 &&& q5)), .second, .val (.int (1 : Int32))] [.null])) _
    refine XS.ifnonnullNo X341.here hx rfl (hb hby at_471) rfl ?_
    show Steps p.tables e below (T341.setTop (mkF m 474 #[.val (.long q0), .second, .val (.long q1), .second, .val (.long q2), .second, .val (.long q3), .second, .val (.long q4), .second, .val (.long q5), .second, .val (.ref b1), .val (.ref b25_1), .val (.ref b26_1), .val (.ref b35_0), .val (.ref b39), .val (.long (q0 + q1)), .second, .val (.long (q1 + q2)), .second, .val (.long (q2 + q3)), .second, .val (.long (q3 + q0)), .second, .val (.long (q4 &&& q5)), .second, .val (.int (1 : Int32))] [])) _
    refine XS.aload X341.here hx rfl (hb hby at_474) rfl rfl ?_
    show Steps p.tables e below (T341.setTop (mkF m 476 #[.val (.long q0), .second, .val (.long q1), .second, .val (.long q2), .second, .val (.long q3), .second, .val (.long q4), .second, .val (.long q5), .second, .val (.ref b1), .val (.ref b25_1), .val (.ref b26_1), .val (.ref b35_0), .val (.ref b39), .val (.long (q0 + q1)), .second, .val (.long (q1 + q2)), .second, .val (.long (q2 + q3)), .second, .val (.long (q3 + q0)), .second, .val (.long (q4 &&& q5)), .second, .val (.int (1 : Int32))] [(.ref b39)])) _
    refine st342 _ ?_
    show Steps p.tables e below (T342.setTop (mkF m 479 #[.val (.long q0), .second, .val (.long q1), .second, .val (.long q2), .second, .val (.long q3), .second, .val (.long q4), .second, .val (.long q5), .second, .val (.ref b1), .val (.ref b25_1), .val (.ref b26_1), .val (.ref b35_0), .val (.ref b39), .val (.long (q0 + q1)), .second, .val (.long (q1 + q2)), .second, .val (.long (q2 + q3)), .second, .val (.long (q3 + q0)), .second, .val (.long (q4 &&& q5)), .second, .val (.int (1 : Int32))] [(.int (0 : Int32))])) _
    refine XS.ifNo X342.here hx rfl (hb hby at_479) rfl ((if0 _ _).trans (teq (by decide : (0 : Int32) = (0 : Int32))).2) ?_
    show Steps p.tables e below (T342.setTop (mkF m 482 #[.val (.long q0), .second, .val (.long q1), .second, .val (.long q2), .second, .val (.long q3), .second, .val (.long q4), .second, .val (.long q5), .second, .val (.ref b1), .val (.ref b25_1), .val (.ref b26_1), .val (.ref b35_0), .val (.ref b39), .val (.long (q0 + q1)), .second, .val (.long (q1 + q2)), .second, .val (.long (q2 + q3)), .second, .val (.long (q3 + q0)), .second, .val (.long (q4 &&& q5)), .second, .val (.int (1 : Int32))] [])) _
    refine XS.iconst X342.here hx rfl (hb hby at_482) ?_
    show Steps p.tables e below (T342.setTop (mkF m 483 #[.val (.long q0), .second, .val (.long q1), .second, .val (.long q2), .second, .val (.long q3), .second, .val (.long q4), .second, .val (.long q5), .second, .val (.ref b1), .val (.ref b25_1), .val (.ref b26_1), .val (.ref b35_0), .val (.ref b39), .val (.long (q0 + q1)), .second, .val (.long (q1 + q2)), .second, .val (.long (q2 + q3)), .second, .val (.long (q3 + q0)), .second, .val (.long (q4 &&& q5)), .second, .val (.int (1 : Int32))] [(.int (1 : Int32))])) _
    refine XS.goto X342.here hx rfl (pc0 := 483) (pc' := 487) rfl (hb hby at_483) (by decide) (by decide) ?_
    show Steps p.tables e below (T342.setTop (mkF m 487 #[.val (.long q0), .second, .val (.long q1), .second, .val (.long q2), .second, .val (.long q3), .second, .val (.long q4), .second, .val (.long q5), .second, .val (.ref b1), .val (.ref b25_1), .val (.ref b26_1), .val (.ref b35_0), .val (.ref b39), .val (.long (q0 + q1)), .second, .val (.long (q1 + q2)), .second, .val (.long (q2 + q3)), .second, .val (.long (q3 + q0)), .second, .val (.long (q4 &&& q5)), .second, .val (.int (1 : Int32))] [(.int (1 : Int32))])) _
    refine XS.istore X342.here hx rfl (hb hby at_487) rfl (l' := #[.val (.long q0), .second, .val (.long q1), .second, .val (.long q2), .second, .val (.long q3), .second, .val (.long q4), .second, .val (.long q5), .second, .val (.ref b1), .val (.ref b25_1), .val (.ref b26_1), .val (.ref b35_0), .val (.ref b39), .val (.long (q0 + q1)), .second, .val (.long (q1 + q2)), .second, .val (.long (q2 + q3)), .second, .val (.long (q3 + q0)), .second, .val (.long (q4 &&& q5)), .second, .val (.int (1 : Int32))]) rfl ?_
    show Steps p.tables e below (T342.setTop (mkF m 489 #[.val (.long q0), .second, .val (.long q1), .second, .val (.long q2), .second, .val (.long q3), .second, .val (.long q4), .second, .val (.long q5), .second, .val (.ref b1), .val (.ref b25_1), .val (.ref b26_1), .val (.ref b35_0), .val (.ref b39), .val (.long (q0 + q1)), .second, .val (.long (q1 + q2)), .second, .val (.long (q2 + q3)), .second, .val (.long (q3 + q0)), .second, .val (.long (q4 &&& q5)), .second, .val (.int (1 : Int32))] [])) _
    refine XS.aload X342.here hx rfl (hb hby at_489) rfl rfl ?_
    show Steps p.tables e below (T342.setTop (mkF m 491 #[.val (.long q0), .second, .val (.long q1), .second, .val (.long q2), .second, .val (.long q3), .second, .val (.long q4), .second, .val (.long q5), .second, .val (.ref b1), .val (.ref b25_1), .val (.ref b26_1), .val (.ref b35_0), .val (.ref b39), .val (.long (q0 + q1)), .second, .val (.long (q1 + q2)), .second, .val (.long (q2 + q3)), .second, .val (.long (q3 + q0)), .second, .val (.long (q4 &&& q5)), .second, .val (.int (1 : Int32))] [(.ref b25_1)])) _
    refine XS.aload X342.here hx rfl (hb hby at_491) rfl rfl ?_
    show Steps p.tables e below (T342.setTop (mkF m 493 #[.val (.long q0), .second, .val (.long q1), .second, .val (.long q2), .second, .val (.long q3), .second, .val (.long q4), .second, .val (.long q5), .second, .val (.ref b1), .val (.ref b25_1), .val (.ref b26_1), .val (.ref b35_0), .val (.ref b39), .val (.long (q0 + q1)), .second, .val (.long (q1 + q2)), .second, .val (.long (q2 + q3)), .second, .val (.long (q3 + q0)), .second, .val (.long (q4 &&& q5)), .second, .val (.int (1 : Int32))] [(.ref b25_1), (.ref b25_1)])) _
    refine XS.aload X342.here hx rfl (hb hby at_493) rfl rfl ?_
    show Steps p.tables e below (T342.setTop (mkF m 495 #[.val (.long q0), .second, .val (.long q1), .second, .val (.long q2), .second, .val (.long q3), .second, .val (.long q4), .second, .val (.long q5), .second, .val (.ref b1), .val (.ref b25_1), .val (.ref b26_1), .val (.ref b35_0), .val (.ref b39), .val (.long (q0 + q1)), .second, .val (.long (q1 + q2)), .second, .val (.long (q2 + q3)), .second, .val (.long (q3 + q0)), .second, .val (.long (q4 &&& q5)), .second, .val (.int (1 : Int32))] [(.ref b26_1), (.ref b25_1), (.ref b25_1)])) _
    refine st343.trans ?_
    show Steps p.tables e below (T343.setTop (mkF m 498 #[.val (.long q0), .second, .val (.long q1), .second, .val (.long q2), .second, .val (.long q3), .second, .val (.long q4), .second, .val (.long q5), .second, .val (.ref b1), .val (.ref b25_1), .val (.ref b26_1), .val (.ref b35_0), .val (.ref b39), .val (.long (q0 + q1)), .second, .val (.long (q1 + q2)), .second, .val (.long (q2 + q3)), .second, .val (.long (q3 + q0)), .second, .val (.long (q4 &&& q5)), .second, .val (.int (1 : Int32))] [])) _
    refine XS.iload X343'.here hx rfl (hb hby at_498) rfl ?_
    show Steps p.tables e below (T343.setTop (mkF m 500 #[.val (.long q0), .second, .val (.long q1), .second, .val (.long q2), .second, .val (.long q3), .second, .val (.long q4), .second, .val (.long q5), .second, .val (.ref b1), .val (.ref b25_1), .val (.ref b26_1), .val (.ref b35_0), .val (.ref b39), .val (.long (q0 + q1)), .second, .val (.long (q1 + q2)), .second, .val (.long (q2 + q3)), .second, .val (.long (q3 + q0)), .second, .val (.long (q4 &&& q5)), .second, .val (.int (1 : Int32))] [(.int (1 : Int32))])) _
    refine XS.ifNo X343'.here hx rfl (hb hby at_500) rfl ((if0 _ _).trans (feq (by decide : ¬ ((1 : Int32) = (0 : Int32)))).1) ?_
    show Steps p.tables e below (T343.setTop (mkF m 503 #[.val (.long q0), .second, .val (.long q1), .second, .val (.long q2), .second, .val (.long q3), .second, .val (.long q4), .second, .val (.long q5), .second, .val (.ref b1), .val (.ref b25_1), .val (.ref b26_1), .val (.ref b35_0), .val (.ref b39), .val (.long (q0 + q1)), .second, .val (.long (q1 + q2)), .second, .val (.long (q2 + q3)), .second, .val (.long (q3 + q0)), .second, .val (.long (q4 &&& q5)), .second, .val (.int (1 : Int32))] [])) _
    refine XS.aload X343'.here hx rfl (hb hby at_503) rfl rfl ?_
    show Steps p.tables e below (T343.setTop (mkF m 505 #[.val (.long q0), .second, .val (.long q1), .second, .val (.long q2), .second, .val (.long q3), .second, .val (.long q4), .second, .val (.long q5), .second, .val (.ref b1), .val (.ref b25_1), .val (.ref b26_1), .val (.ref b35_0), .val (.ref b39), .val (.long (q0 + q1)), .second, .val (.long (q1 + q2)), .second, .val (.long (q2 + q3)), .second, .val (.long (q3 + q0)), .second, .val (.long (q4 &&& q5)), .second, .val (.int (1 : Int32))] [(.ref b25_1)])) _
    refine st362 _ ?_
    show Steps p.tables e below (T362.setTop (mkF m 508 #[.val (.long q0), .second, .val (.long q1), .second, .val (.long q2), .second, .val (.long q3), .second, .val (.long q4), .second, .val (.long q5), .second, .val (.ref b1), .val (.ref b25_1), .val (.ref b26_1), .val (.ref b35_0), .val (.ref b39), .val (.long (q0 + q1)), .second, .val (.long (q1 + q2)), .second, .val (.long (q2 + q3)), .second, .val (.long (q3 + q0)), .second, .val (.long (q4 &&& q5)), .second, .val (.int (1 : Int32))] [(.long (q0 + q1))])) _
    refine XS.lload X362.here hx rfl (hb hby at_508) rfl ?_
    show Steps p.tables e below (T362.setTop (mkF m 510 #[.val (.long q0), .second, .val (.long q1), .second, .val (.long q2), .second, .val (.long q3), .second, .val (.long q4), .second, .val (.long q5), .second, .val (.ref b1), .val (.ref b25_1), .val (.ref b26_1), .val (.ref b35_0), .val (.ref b39), .val (.long (q0 + q1)), .second, .val (.long (q1 + q2)), .second, .val (.long (q2 + q3)), .second, .val (.long (q3 + q0)), .second, .val (.long (q4 &&& q5)), .second, .val (.int (1 : Int32))] [(.long (q0 + q1)), (.long (q0 + q1))])) _
    refine XS.lcmp X362.here hx rfl (hb hby at_510) rfl ?_
    show Steps p.tables e below (T362.setTop (mkF m 511 #[.val (.long q0), .second, .val (.long q1), .second, .val (.long q2), .second, .val (.long q3), .second, .val (.long q4), .second, .val (.long q5), .second, .val (.ref b1), .val (.ref b25_1), .val (.ref b26_1), .val (.ref b35_0), .val (.ref b39), .val (.long (q0 + q1)), .second, .val (.long (q1 + q2)), .second, .val (.long (q2 + q3)), .second, .val (.long (q3 + q0)), .second, .val (.long (q4 &&& q5)), .second, .val (.int (1 : Int32))] [(.int (lcmpW (q0 + q1) (q0 + q1)))])) _
    refine XS.ifNo X362.here hx rfl (hb hby at_511) rfl ((if0 _ _).trans (teq ((lw_eq _ _).mpr rfl : (lcmpW (q0 + q1) (q0 + q1)) = (0 : Int32))).2) ?_
    show Steps p.tables e below (T362.setTop (mkF m 514 #[.val (.long q0), .second, .val (.long q1), .second, .val (.long q2), .second, .val (.long q3), .second, .val (.long q4), .second, .val (.long q5), .second, .val (.ref b1), .val (.ref b25_1), .val (.ref b26_1), .val (.ref b35_0), .val (.ref b39), .val (.long (q0 + q1)), .second, .val (.long (q1 + q2)), .second, .val (.long (q2 + q3)), .second, .val (.long (q3 + q0)), .second, .val (.long (q4 &&& q5)), .second, .val (.int (1 : Int32))] [])) _
    refine XS.aload X362.here hx rfl (hb hby at_514) rfl rfl ?_
    show Steps p.tables e below (T362.setTop (mkF m 516 #[.val (.long q0), .second, .val (.long q1), .second, .val (.long q2), .second, .val (.long q3), .second, .val (.long q4), .second, .val (.long q5), .second, .val (.ref b1), .val (.ref b25_1), .val (.ref b26_1), .val (.ref b35_0), .val (.ref b39), .val (.long (q0 + q1)), .second, .val (.long (q1 + q2)), .second, .val (.long (q2 + q3)), .second, .val (.long (q3 + q0)), .second, .val (.long (q4 &&& q5)), .second, .val (.int (1 : Int32))] [(.ref b25_1)])) _
    refine st363 _ ?_
    show Steps p.tables e below (T363.setTop (mkF m 519 #[.val (.long q0), .second, .val (.long q1), .second, .val (.long q2), .second, .val (.long q3), .second, .val (.long q4), .second, .val (.long q5), .second, .val (.ref b1), .val (.ref b25_1), .val (.ref b26_1), .val (.ref b35_0), .val (.ref b39), .val (.long (q0 + q1)), .second, .val (.long (q1 + q2)), .second, .val (.long (q2 + q3)), .second, .val (.long (q3 + q0)), .second, .val (.long (q4 &&& q5)), .second, .val (.int (1 : Int32))] [(.long (q1 + q2))])) _
    refine XS.lload X363.here hx rfl (hb hby at_519) rfl ?_
    show Steps p.tables e below (T363.setTop (mkF m 521 #[.val (.long q0), .second, .val (.long q1), .second, .val (.long q2), .second, .val (.long q3), .second, .val (.long q4), .second, .val (.long q5), .second, .val (.ref b1), .val (.ref b25_1), .val (.ref b26_1), .val (.ref b35_0), .val (.ref b39), .val (.long (q0 + q1)), .second, .val (.long (q1 + q2)), .second, .val (.long (q2 + q3)), .second, .val (.long (q3 + q0)), .second, .val (.long (q4 &&& q5)), .second, .val (.int (1 : Int32))] [(.long (q1 + q2)), (.long (q1 + q2))])) _
    refine XS.lcmp X363.here hx rfl (hb hby at_521) rfl ?_
    show Steps p.tables e below (T363.setTop (mkF m 522 #[.val (.long q0), .second, .val (.long q1), .second, .val (.long q2), .second, .val (.long q3), .second, .val (.long q4), .second, .val (.long q5), .second, .val (.ref b1), .val (.ref b25_1), .val (.ref b26_1), .val (.ref b35_0), .val (.ref b39), .val (.long (q0 + q1)), .second, .val (.long (q1 + q2)), .second, .val (.long (q2 + q3)), .second, .val (.long (q3 + q0)), .second, .val (.long (q4 &&& q5)), .second, .val (.int (1 : Int32))] [(.int (lcmpW (q1 + q2) (q1 + q2)))])) _
    refine XS.ifNo X363.here hx rfl (hb hby at_522) rfl ((if0 _ _).trans (teq ((lw_eq _ _).mpr rfl : (lcmpW (q1 + q2) (q1 + q2)) = (0 : Int32))).2) ?_
    show Steps p.tables e below (T363.setTop (mkF m 525 #[.val (.long q0), .second, .val (.long q1), .second, .val (.long q2), .second, .val (.long q3), .second, .val (.long q4), .second, .val (.long q5), .second, .val (.ref b1), .val (.ref b25_1), .val (.ref b26_1), .val (.ref b35_0), .val (.ref b39), .val (.long (q0 + q1)), .second, .val (.long (q1 + q2)), .second, .val (.long (q2 + q3)), .second, .val (.long (q3 + q0)), .second, .val (.long (q4 &&& q5)), .second, .val (.int (1 : Int32))] [])) _
    refine XS.aload X363.here hx rfl (hb hby at_525) rfl rfl ?_
    show Steps p.tables e below (T363.setTop (mkF m 527 #[.val (.long q0), .second, .val (.long q1), .second, .val (.long q2), .second, .val (.long q3), .second, .val (.long q4), .second, .val (.long q5), .second, .val (.ref b1), .val (.ref b25_1), .val (.ref b26_1), .val (.ref b35_0), .val (.ref b39), .val (.long (q0 + q1)), .second, .val (.long (q1 + q2)), .second, .val (.long (q2 + q3)), .second, .val (.long (q3 + q0)), .second, .val (.long (q4 &&& q5)), .second, .val (.int (1 : Int32))] [(.ref b25_1)])) _
    refine st364 _ ?_
    show Steps p.tables e below (T364.setTop (mkF m 530 #[.val (.long q0), .second, .val (.long q1), .second, .val (.long q2), .second, .val (.long q3), .second, .val (.long q4), .second, .val (.long q5), .second, .val (.ref b1), .val (.ref b25_1), .val (.ref b26_1), .val (.ref b35_0), .val (.ref b39), .val (.long (q0 + q1)), .second, .val (.long (q1 + q2)), .second, .val (.long (q2 + q3)), .second, .val (.long (q3 + q0)), .second, .val (.long (q4 &&& q5)), .second, .val (.int (1 : Int32))] [(.long (q2 + q3))])) _
    refine XS.lload X364.here hx rfl (hb hby at_530) rfl ?_
    show Steps p.tables e below (T364.setTop (mkF m 532 #[.val (.long q0), .second, .val (.long q1), .second, .val (.long q2), .second, .val (.long q3), .second, .val (.long q4), .second, .val (.long q5), .second, .val (.ref b1), .val (.ref b25_1), .val (.ref b26_1), .val (.ref b35_0), .val (.ref b39), .val (.long (q0 + q1)), .second, .val (.long (q1 + q2)), .second, .val (.long (q2 + q3)), .second, .val (.long (q3 + q0)), .second, .val (.long (q4 &&& q5)), .second, .val (.int (1 : Int32))] [(.long (q2 + q3)), (.long (q2 + q3))])) _
    refine XS.lcmp X364.here hx rfl (hb hby at_532) rfl ?_
    show Steps p.tables e below (T364.setTop (mkF m 533 #[.val (.long q0), .second, .val (.long q1), .second, .val (.long q2), .second, .val (.long q3), .second, .val (.long q4), .second, .val (.long q5), .second, .val (.ref b1), .val (.ref b25_1), .val (.ref b26_1), .val (.ref b35_0), .val (.ref b39), .val (.long (q0 + q1)), .second, .val (.long (q1 + q2)), .second, .val (.long (q2 + q3)), .second, .val (.long (q3 + q0)), .second, .val (.long (q4 &&& q5)), .second, .val (.int (1 : Int32))] [(.int (lcmpW (q2 + q3) (q2 + q3)))])) _
    refine XS.ifNo X364.here hx rfl (hb hby at_533) rfl ((if0 _ _).trans (teq ((lw_eq _ _).mpr rfl : (lcmpW (q2 + q3) (q2 + q3)) = (0 : Int32))).2) ?_
    show Steps p.tables e below (T364.setTop (mkF m 536 #[.val (.long q0), .second, .val (.long q1), .second, .val (.long q2), .second, .val (.long q3), .second, .val (.long q4), .second, .val (.long q5), .second, .val (.ref b1), .val (.ref b25_1), .val (.ref b26_1), .val (.ref b35_0), .val (.ref b39), .val (.long (q0 + q1)), .second, .val (.long (q1 + q2)), .second, .val (.long (q2 + q3)), .second, .val (.long (q3 + q0)), .second, .val (.long (q4 &&& q5)), .second, .val (.int (1 : Int32))] [])) _
    refine XS.aload X364.here hx rfl (hb hby at_536) rfl rfl ?_
    show Steps p.tables e below (T364.setTop (mkF m 538 #[.val (.long q0), .second, .val (.long q1), .second, .val (.long q2), .second, .val (.long q3), .second, .val (.long q4), .second, .val (.long q5), .second, .val (.ref b1), .val (.ref b25_1), .val (.ref b26_1), .val (.ref b35_0), .val (.ref b39), .val (.long (q0 + q1)), .second, .val (.long (q1 + q2)), .second, .val (.long (q2 + q3)), .second, .val (.long (q3 + q0)), .second, .val (.long (q4 &&& q5)), .second, .val (.int (1 : Int32))] [(.ref b25_1)])) _
    refine st365 _ ?_
    show Steps p.tables e below (T365.setTop (mkF m 541 #[.val (.long q0), .second, .val (.long q1), .second, .val (.long q2), .second, .val (.long q3), .second, .val (.long q4), .second, .val (.long q5), .second, .val (.ref b1), .val (.ref b25_1), .val (.ref b26_1), .val (.ref b35_0), .val (.ref b39), .val (.long (q0 + q1)), .second, .val (.long (q1 + q2)), .second, .val (.long (q2 + q3)), .second, .val (.long (q3 + q0)), .second, .val (.long (q4 &&& q5)), .second, .val (.int (1 : Int32))] [(.long (q3 + q0))])) _
    refine XS.lload X365.here hx rfl (hb hby at_541) rfl ?_
    show Steps p.tables e below (T365.setTop (mkF m 543 #[.val (.long q0), .second, .val (.long q1), .second, .val (.long q2), .second, .val (.long q3), .second, .val (.long q4), .second, .val (.long q5), .second, .val (.ref b1), .val (.ref b25_1), .val (.ref b26_1), .val (.ref b35_0), .val (.ref b39), .val (.long (q0 + q1)), .second, .val (.long (q1 + q2)), .second, .val (.long (q2 + q3)), .second, .val (.long (q3 + q0)), .second, .val (.long (q4 &&& q5)), .second, .val (.int (1 : Int32))] [(.long (q3 + q0)), (.long (q3 + q0))])) _
    refine XS.lcmp X365.here hx rfl (hb hby at_543) rfl ?_
    show Steps p.tables e below (T365.setTop (mkF m 544 #[.val (.long q0), .second, .val (.long q1), .second, .val (.long q2), .second, .val (.long q3), .second, .val (.long q4), .second, .val (.long q5), .second, .val (.ref b1), .val (.ref b25_1), .val (.ref b26_1), .val (.ref b35_0), .val (.ref b39), .val (.long (q0 + q1)), .second, .val (.long (q1 + q2)), .second, .val (.long (q2 + q3)), .second, .val (.long (q3 + q0)), .second, .val (.long (q4 &&& q5)), .second, .val (.int (1 : Int32))] [(.int (lcmpW (q3 + q0) (q3 + q0)))])) _
    refine XS.ifNo X365.here hx rfl (hb hby at_544) rfl ((if0 _ _).trans (teq ((lw_eq _ _).mpr rfl : (lcmpW (q3 + q0) (q3 + q0)) = (0 : Int32))).2) ?_
    show Steps p.tables e below (T365.setTop (mkF m 547 #[.val (.long q0), .second, .val (.long q1), .second, .val (.long q2), .second, .val (.long q3), .second, .val (.long q4), .second, .val (.long q5), .second, .val (.ref b1), .val (.ref b25_1), .val (.ref b26_1), .val (.ref b35_0), .val (.ref b39), .val (.long (q0 + q1)), .second, .val (.long (q1 + q2)), .second, .val (.long (q2 + q3)), .second, .val (.long (q3 + q0)), .second, .val (.long (q4 &&& q5)), .second, .val (.int (1 : Int32))] [])) _
    refine XS.aload X365.here hx rfl (hb hby at_547) rfl rfl ?_
    show Steps p.tables e below (T365.setTop (mkF m 549 #[.val (.long q0), .second, .val (.long q1), .second, .val (.long q2), .second, .val (.long q3), .second, .val (.long q4), .second, .val (.long q5), .second, .val (.ref b1), .val (.ref b25_1), .val (.ref b26_1), .val (.ref b35_0), .val (.ref b39), .val (.long (q0 + q1)), .second, .val (.long (q1 + q2)), .second, .val (.long (q2 + q3)), .second, .val (.long (q3 + q0)), .second, .val (.long (q4 &&& q5)), .second, .val (.int (1 : Int32))] [(.ref b25_1)])) _
    refine st366 _ ?_
    show Steps p.tables e below (T366.setTop (mkF m 552 #[.val (.long q0), .second, .val (.long q1), .second, .val (.long q2), .second, .val (.long q3), .second, .val (.long q4), .second, .val (.long q5), .second, .val (.ref b1), .val (.ref b25_1), .val (.ref b26_1), .val (.ref b35_0), .val (.ref b39), .val (.long (q0 + q1)), .second, .val (.long (q1 + q2)), .second, .val (.long (q2 + q3)), .second, .val (.long (q3 + q0)), .second, .val (.long (q4 &&& q5)), .second, .val (.int (1 : Int32))] [(.ref b25_0)])) _
    refine XS.iconst X366.here hx rfl (hb hby at_552) ?_
    show Steps p.tables e below (T366.setTop (mkF m 553 #[.val (.long q0), .second, .val (.long q1), .second, .val (.long q2), .second, .val (.long q3), .second, .val (.long q4), .second, .val (.long q5), .second, .val (.ref b1), .val (.ref b25_1), .val (.ref b26_1), .val (.ref b35_0), .val (.ref b39), .val (.long (q0 + q1)), .second, .val (.long (q1 + q2)), .second, .val (.long (q2 + q3)), .second, .val (.long (q3 + q0)), .second, .val (.long (q4 &&& q5)), .second, .val (.int (1 : Int32))] [(.int (0 : Int32)), (.ref b25_0)])) _
    refine X366.laload hx (j := (0 : Int32)) (v := (.long (q4 &&& q5))) (by rw [e366]; exact Ar367.1) (State.isArrayOf_alike hZ.alike Ar367.2.1) Ar367.2.2 hin368 hat369 (g := (mkF m 553 #[.val (.long q0), .second, .val (.long q1), .second, .val (.long q2), .second, .val (.long q3), .second, .val (.long q4), .second, .val (.long q5), .second, .val (.ref b1), .val (.ref b25_1), .val (.ref b26_1), .val (.ref b35_0), .val (.ref b39), .val (.long (q0 + q1)), .second, .val (.long (q1 + q2)), .second, .val (.long (q2 + q3)), .second, .val (.long (q3 + q0)), .second, .val (.long (q4 &&& q5)), .second, .val (.int (1 : Int32))] [(.int (0 : Int32)), (.ref b25_0)])) rfl rfl (hb hby at_553) _ ?_
    show Steps p.tables e below (T366.setTop (mkF m 554 #[.val (.long q0), .second, .val (.long q1), .second, .val (.long q2), .second, .val (.long q3), .second, .val (.long q4), .second, .val (.long q5), .second, .val (.ref b1), .val (.ref b25_1), .val (.ref b26_1), .val (.ref b35_0), .val (.ref b39), .val (.long (q0 + q1)), .second, .val (.long (q1 + q2)), .second, .val (.long (q2 + q3)), .second, .val (.long (q3 + q0)), .second, .val (.long (q4 &&& q5)), .second, .val (.int (1 : Int32))] [(.long (q4 &&& q5))])) _
    refine XS.lload X366.here hx rfl (hb hby at_554) rfl ?_
    show Steps p.tables e below (T366.setTop (mkF m 556 #[.val (.long q0), .second, .val (.long q1), .second, .val (.long q2), .second, .val (.long q3), .second, .val (.long q4), .second, .val (.long q5), .second, .val (.ref b1), .val (.ref b25_1), .val (.ref b26_1), .val (.ref b35_0), .val (.ref b39), .val (.long (q0 + q1)), .second, .val (.long (q1 + q2)), .second, .val (.long (q2 + q3)), .second, .val (.long (q3 + q0)), .second, .val (.long (q4 &&& q5)), .second, .val (.int (1 : Int32))] [(.long (q4 &&& q5)), (.long (q4 &&& q5))])) _
    refine XS.lcmp X366.here hx rfl (hb hby at_556) rfl ?_
    show Steps p.tables e below (T366.setTop (mkF m 557 #[.val (.long q0), .second, .val (.long q1), .second, .val (.long q2), .second, .val (.long q3), .second, .val (.long q4), .second, .val (.long q5), .second, .val (.ref b1), .val (.ref b25_1), .val (.ref b26_1), .val (.ref b35_0), .val (.ref b39), .val (.long (q0 + q1)), .second, .val (.long (q1 + q2)), .second, .val (.long (q2 + q3)), .second, .val (.long (q3 + q0)), .second, .val (.long (q4 &&& q5)), .second, .val (.int (1 : Int32))] [(.int (lcmpW (q4 &&& q5) (q4 &&& q5)))])) _
    refine XS.ifNo X366.here hx rfl (hb hby at_557) rfl ((if0 _ _).trans (teq ((lw_eq _ _).mpr rfl : (lcmpW (q4 &&& q5) (q4 &&& q5)) = (0 : Int32))).2) ?_
    show Steps p.tables e below (T366.setTop (mkF m 560 #[.val (.long q0), .second, .val (.long q1), .second, .val (.long q2), .second, .val (.long q3), .second, .val (.long q4), .second, .val (.long q5), .second, .val (.ref b1), .val (.ref b25_1), .val (.ref b26_1), .val (.ref b35_0), .val (.ref b39), .val (.long (q0 + q1)), .second, .val (.long (q1 + q2)), .second, .val (.long (q2 + q3)), .second, .val (.long (q3 + q0)), .second, .val (.long (q4 &&& q5)), .second, .val (.int (1 : Int32))] [])) _
    refine XS.aload X366.here hx rfl (hb hby at_560) rfl rfl ?_
    show Steps p.tables e below (T366.setTop (mkF m 562 #[.val (.long q0), .second, .val (.long q1), .second, .val (.long q2), .second, .val (.long q3), .second, .val (.long q4), .second, .val (.long q5), .second, .val (.ref b1), .val (.ref b25_1), .val (.ref b26_1), .val (.ref b35_0), .val (.ref b39), .val (.long (q0 + q1)), .second, .val (.long (q1 + q2)), .second, .val (.long (q2 + q3)), .second, .val (.long (q3 + q0)), .second, .val (.long (q4 &&& q5)), .second, .val (.int (1 : Int32))] [(.ref b26_1)])) _
    refine st371 _ ?_
    show Steps p.tables e below (T371.setTop (mkF m 565 #[.val (.long q0), .second, .val (.long q1), .second, .val (.long q2), .second, .val (.long q3), .second, .val (.long q4), .second, .val (.long q5), .second, .val (.ref b1), .val (.ref b25_1), .val (.ref b26_1), .val (.ref b35_0), .val (.ref b39), .val (.long (q0 + q1)), .second, .val (.long (q1 + q2)), .second, .val (.long (q2 + q3)), .second, .val (.long (q3 + q0)), .second, .val (.long (q4 &&& q5)), .second, .val (.int (1 : Int32))] [(.long q1)])) _
    refine XS.lloadN X371.here hx rfl (hb hby at_565) rfl ?_
    show Steps p.tables e below (T371.setTop (mkF m 566 #[.val (.long q0), .second, .val (.long q1), .second, .val (.long q2), .second, .val (.long q3), .second, .val (.long q4), .second, .val (.long q5), .second, .val (.ref b1), .val (.ref b25_1), .val (.ref b26_1), .val (.ref b35_0), .val (.ref b39), .val (.long (q0 + q1)), .second, .val (.long (q1 + q2)), .second, .val (.long (q2 + q3)), .second, .val (.long (q3 + q0)), .second, .val (.long (q4 &&& q5)), .second, .val (.int (1 : Int32))] [(.long q1), (.long q1)])) _
    refine XS.lcmp X371.here hx rfl (hb hby at_566) rfl ?_
    show Steps p.tables e below (T371.setTop (mkF m 567 #[.val (.long q0), .second, .val (.long q1), .second, .val (.long q2), .second, .val (.long q3), .second, .val (.long q4), .second, .val (.long q5), .second, .val (.ref b1), .val (.ref b25_1), .val (.ref b26_1), .val (.ref b35_0), .val (.ref b39), .val (.long (q0 + q1)), .second, .val (.long (q1 + q2)), .second, .val (.long (q2 + q3)), .second, .val (.long (q3 + q0)), .second, .val (.long (q4 &&& q5)), .second, .val (.int (1 : Int32))] [(.int (lcmpW q1 q1))])) _
    refine XS.ifNo X371.here hx rfl (hb hby at_567) rfl ((if0 _ _).trans (teq ((lw_eq _ _).mpr rfl : (lcmpW q1 q1) = (0 : Int32))).2) ?_
    show Steps p.tables e below (T371.setTop (mkF m 570 #[.val (.long q0), .second, .val (.long q1), .second, .val (.long q2), .second, .val (.long q3), .second, .val (.long q4), .second, .val (.long q5), .second, .val (.ref b1), .val (.ref b25_1), .val (.ref b26_1), .val (.ref b35_0), .val (.ref b39), .val (.long (q0 + q1)), .second, .val (.long (q1 + q2)), .second, .val (.long (q2 + q3)), .second, .val (.long (q3 + q0)), .second, .val (.long (q4 &&& q5)), .second, .val (.int (1 : Int32))] [])) _
    refine XS.aload X371.here hx rfl (hb hby at_570) rfl rfl ?_
    show Steps p.tables e below (T371.setTop (mkF m 572 #[.val (.long q0), .second, .val (.long q1), .second, .val (.long q2), .second, .val (.long q3), .second, .val (.long q4), .second, .val (.long q5), .second, .val (.ref b1), .val (.ref b25_1), .val (.ref b26_1), .val (.ref b35_0), .val (.ref b39), .val (.long (q0 + q1)), .second, .val (.long (q1 + q2)), .second, .val (.long (q2 + q3)), .second, .val (.long (q3 + q0)), .second, .val (.long (q4 &&& q5)), .second, .val (.int (1 : Int32))] [(.ref b26_1)])) _
    refine st373 _ ?_
    show Steps p.tables e below (T373.setTop (mkF m 575 #[.val (.long q0), .second, .val (.long q1), .second, .val (.long q2), .second, .val (.long q3), .second, .val (.long q4), .second, .val (.long q5), .second, .val (.ref b1), .val (.ref b25_1), .val (.ref b26_1), .val (.ref b35_0), .val (.ref b39), .val (.long (q0 + q1)), .second, .val (.long (q1 + q2)), .second, .val (.long (q2 + q3)), .second, .val (.long (q3 + q0)), .second, .val (.long (q4 &&& q5)), .second, .val (.int (1 : Int32))] [(.long q2)])) _
    refine XS.lload X373.here hx rfl (hb hby at_575) rfl ?_
    show Steps p.tables e below (T373.setTop (mkF m 577 #[.val (.long q0), .second, .val (.long q1), .second, .val (.long q2), .second, .val (.long q3), .second, .val (.long q4), .second, .val (.long q5), .second, .val (.ref b1), .val (.ref b25_1), .val (.ref b26_1), .val (.ref b35_0), .val (.ref b39), .val (.long (q0 + q1)), .second, .val (.long (q1 + q2)), .second, .val (.long (q2 + q3)), .second, .val (.long (q3 + q0)), .second, .val (.long (q4 &&& q5)), .second, .val (.int (1 : Int32))] [(.long q2), (.long q2)])) _
    refine XS.lcmp X373.here hx rfl (hb hby at_577) rfl ?_
    show Steps p.tables e below (T373.setTop (mkF m 578 #[.val (.long q0), .second, .val (.long q1), .second, .val (.long q2), .second, .val (.long q3), .second, .val (.long q4), .second, .val (.long q5), .second, .val (.ref b1), .val (.ref b25_1), .val (.ref b26_1), .val (.ref b35_0), .val (.ref b39), .val (.long (q0 + q1)), .second, .val (.long (q1 + q2)), .second, .val (.long (q2 + q3)), .second, .val (.long (q3 + q0)), .second, .val (.long (q4 &&& q5)), .second, .val (.int (1 : Int32))] [(.int (lcmpW q2 q2))])) _
    refine XS.ifNo X373.here hx rfl (hb hby at_578) rfl ((if0 _ _).trans (teq ((lw_eq _ _).mpr rfl : (lcmpW q2 q2) = (0 : Int32))).2) ?_
    show Steps p.tables e below (T373.setTop (mkF m 581 #[.val (.long q0), .second, .val (.long q1), .second, .val (.long q2), .second, .val (.long q3), .second, .val (.long q4), .second, .val (.long q5), .second, .val (.ref b1), .val (.ref b25_1), .val (.ref b26_1), .val (.ref b35_0), .val (.ref b39), .val (.long (q0 + q1)), .second, .val (.long (q1 + q2)), .second, .val (.long (q2 + q3)), .second, .val (.long (q3 + q0)), .second, .val (.long (q4 &&& q5)), .second, .val (.int (1 : Int32))] [])) _
    refine XS.aload X373.here hx rfl (hb hby at_581) rfl rfl ?_
    show Steps p.tables e below (T373.setTop (mkF m 583 #[.val (.long q0), .second, .val (.long q1), .second, .val (.long q2), .second, .val (.long q3), .second, .val (.long q4), .second, .val (.long q5), .second, .val (.ref b1), .val (.ref b25_1), .val (.ref b26_1), .val (.ref b35_0), .val (.ref b39), .val (.long (q0 + q1)), .second, .val (.long (q1 + q2)), .second, .val (.long (q2 + q3)), .second, .val (.long (q3 + q0)), .second, .val (.long (q4 &&& q5)), .second, .val (.int (1 : Int32))] [(.ref b26_1)])) _
    refine st375 _ ?_
    show Steps p.tables e below (T375.setTop (mkF m 586 #[.val (.long q0), .second, .val (.long q1), .second, .val (.long q2), .second, .val (.long q3), .second, .val (.long q4), .second, .val (.long q5), .second, .val (.ref b1), .val (.ref b25_1), .val (.ref b26_1), .val (.ref b35_0), .val (.ref b39), .val (.long (q0 + q1)), .second, .val (.long (q1 + q2)), .second, .val (.long (q2 + q3)), .second, .val (.long (q3 + q0)), .second, .val (.long (q4 &&& q5)), .second, .val (.int (1 : Int32))] [(.long q3)])) _
    refine XS.lload X375.here hx rfl (hb hby at_586) rfl ?_
    show Steps p.tables e below (T375.setTop (mkF m 588 #[.val (.long q0), .second, .val (.long q1), .second, .val (.long q2), .second, .val (.long q3), .second, .val (.long q4), .second, .val (.long q5), .second, .val (.ref b1), .val (.ref b25_1), .val (.ref b26_1), .val (.ref b35_0), .val (.ref b39), .val (.long (q0 + q1)), .second, .val (.long (q1 + q2)), .second, .val (.long (q2 + q3)), .second, .val (.long (q3 + q0)), .second, .val (.long (q4 &&& q5)), .second, .val (.int (1 : Int32))] [(.long q3), (.long q3)])) _
    refine XS.lcmp X375.here hx rfl (hb hby at_588) rfl ?_
    show Steps p.tables e below (T375.setTop (mkF m 589 #[.val (.long q0), .second, .val (.long q1), .second, .val (.long q2), .second, .val (.long q3), .second, .val (.long q4), .second, .val (.long q5), .second, .val (.ref b1), .val (.ref b25_1), .val (.ref b26_1), .val (.ref b35_0), .val (.ref b39), .val (.long (q0 + q1)), .second, .val (.long (q1 + q2)), .second, .val (.long (q2 + q3)), .second, .val (.long (q3 + q0)), .second, .val (.long (q4 &&& q5)), .second, .val (.int (1 : Int32))] [(.int (lcmpW q3 q3))])) _
    refine XS.ifNo X375.here hx rfl (hb hby at_589) rfl ((if0 _ _).trans (teq ((lw_eq _ _).mpr rfl : (lcmpW q3 q3) = (0 : Int32))).2) ?_
    show Steps p.tables e below (T375.setTop (mkF m 592 #[.val (.long q0), .second, .val (.long q1), .second, .val (.long q2), .second, .val (.long q3), .second, .val (.long q4), .second, .val (.long q5), .second, .val (.ref b1), .val (.ref b25_1), .val (.ref b26_1), .val (.ref b35_0), .val (.ref b39), .val (.long (q0 + q1)), .second, .val (.long (q1 + q2)), .second, .val (.long (q2 + q3)), .second, .val (.long (q3 + q0)), .second, .val (.long (q4 &&& q5)), .second, .val (.int (1 : Int32))] [])) _
    refine XS.aload X375.here hx rfl (hb hby at_592) rfl rfl ?_
    show Steps p.tables e below (T375.setTop (mkF m 594 #[.val (.long q0), .second, .val (.long q1), .second, .val (.long q2), .second, .val (.long q3), .second, .val (.long q4), .second, .val (.long q5), .second, .val (.ref b1), .val (.ref b25_1), .val (.ref b26_1), .val (.ref b35_0), .val (.ref b39), .val (.long (q0 + q1)), .second, .val (.long (q1 + q2)), .second, .val (.long (q2 + q3)), .second, .val (.long (q3 + q0)), .second, .val (.long (q4 &&& q5)), .second, .val (.int (1 : Int32))] [(.ref b26_1)])) _
    refine st377 _ ?_
    show Steps p.tables e below (T377.setTop (mkF m 597 #[.val (.long q0), .second, .val (.long q1), .second, .val (.long q2), .second, .val (.long q3), .second, .val (.long q4), .second, .val (.long q5), .second, .val (.ref b1), .val (.ref b25_1), .val (.ref b26_1), .val (.ref b35_0), .val (.ref b39), .val (.long (q0 + q1)), .second, .val (.long (q1 + q2)), .second, .val (.long (q2 + q3)), .second, .val (.long (q3 + q0)), .second, .val (.long (q4 &&& q5)), .second, .val (.int (1 : Int32))] [(.long q0)])) _
    refine XS.lloadN X377.here hx rfl (hb hby at_597) rfl ?_
    show Steps p.tables e below (T377.setTop (mkF m 598 #[.val (.long q0), .second, .val (.long q1), .second, .val (.long q2), .second, .val (.long q3), .second, .val (.long q4), .second, .val (.long q5), .second, .val (.ref b1), .val (.ref b25_1), .val (.ref b26_1), .val (.ref b35_0), .val (.ref b39), .val (.long (q0 + q1)), .second, .val (.long (q1 + q2)), .second, .val (.long (q2 + q3)), .second, .val (.long (q3 + q0)), .second, .val (.long (q4 &&& q5)), .second, .val (.int (1 : Int32))] [(.long q0), (.long q0)])) _
    refine XS.lcmp X377.here hx rfl (hb hby at_598) rfl ?_
    show Steps p.tables e below (T377.setTop (mkF m 599 #[.val (.long q0), .second, .val (.long q1), .second, .val (.long q2), .second, .val (.long q3), .second, .val (.long q4), .second, .val (.long q5), .second, .val (.ref b1), .val (.ref b25_1), .val (.ref b26_1), .val (.ref b35_0), .val (.ref b39), .val (.long (q0 + q1)), .second, .val (.long (q1 + q2)), .second, .val (.long (q2 + q3)), .second, .val (.long (q3 + q0)), .second, .val (.long (q4 &&& q5)), .second, .val (.int (1 : Int32))] [(.int (lcmpW q0 q0))])) _
    refine XS.ifNo X377.here hx rfl (hb hby at_599) rfl ((if0 _ _).trans (teq ((lw_eq _ _).mpr rfl : (lcmpW q0 q0) = (0 : Int32))).2) ?_
    show Steps p.tables e below (T377.setTop (mkF m 602 #[.val (.long q0), .second, .val (.long q1), .second, .val (.long q2), .second, .val (.long q3), .second, .val (.long q4), .second, .val (.long q5), .second, .val (.ref b1), .val (.ref b25_1), .val (.ref b26_1), .val (.ref b35_0), .val (.ref b39), .val (.long (q0 + q1)), .second, .val (.long (q1 + q2)), .second, .val (.long (q2 + q3)), .second, .val (.long (q3 + q0)), .second, .val (.long (q4 &&& q5)), .second, .val (.int (1 : Int32))] [])) _
    refine XS.aload X377.here hx rfl (hb hby at_602) rfl rfl ?_
    show Steps p.tables e below (T377.setTop (mkF m 604 #[.val (.long q0), .second, .val (.long q1), .second, .val (.long q2), .second, .val (.long q3), .second, .val (.long q4), .second, .val (.long q5), .second, .val (.ref b1), .val (.ref b25_1), .val (.ref b26_1), .val (.ref b35_0), .val (.ref b39), .val (.long (q0 + q1)), .second, .val (.long (q1 + q2)), .second, .val (.long (q2 + q3)), .second, .val (.long (q3 + q0)), .second, .val (.long (q4 &&& q5)), .second, .val (.int (1 : Int32))] [(.ref b26_1)])) _
    refine st379 _ ?_
    show Steps p.tables e below (T379.setTop (mkF m 607 #[.val (.long q0), .second, .val (.long q1), .second, .val (.long q2), .second, .val (.long q3), .second, .val (.long q4), .second, .val (.long q5), .second, .val (.ref b1), .val (.ref b25_1), .val (.ref b26_1), .val (.ref b35_0), .val (.ref b39), .val (.long (q0 + q1)), .second, .val (.long (q1 + q2)), .second, .val (.long (q2 + q3)), .second, .val (.long (q3 + q0)), .second, .val (.long (q4 &&& q5)), .second, .val (.int (1 : Int32))] [(.ref b26_0)])) _
    refine XS.iconst X379.here hx rfl (hb hby at_607) ?_
    show Steps p.tables e below (T379.setTop (mkF m 608 #[.val (.long q0), .second, .val (.long q1), .second, .val (.long q2), .second, .val (.long q3), .second, .val (.long q4), .second, .val (.long q5), .second, .val (.ref b1), .val (.ref b25_1), .val (.ref b26_1), .val (.ref b35_0), .val (.ref b39), .val (.long (q0 + q1)), .second, .val (.long (q1 + q2)), .second, .val (.long (q2 + q3)), .second, .val (.long (q3 + q0)), .second, .val (.long (q4 &&& q5)), .second, .val (.int (1 : Int32))] [(.int (0 : Int32)), (.ref b26_0)])) _
    refine X379.laload hx (j := (0 : Int32)) (v := (.long q5)) (by rw [e379]; exact Ar381.1) (State.isArrayOf_alike hZ.alike Ar381.2.1) Ar381.2.2 hin382 hat383 (g := (mkF m 608 #[.val (.long q0), .second, .val (.long q1), .second, .val (.long q2), .second, .val (.long q3), .second, .val (.long q4), .second, .val (.long q5), .second, .val (.ref b1), .val (.ref b25_1), .val (.ref b26_1), .val (.ref b35_0), .val (.ref b39), .val (.long (q0 + q1)), .second, .val (.long (q1 + q2)), .second, .val (.long (q2 + q3)), .second, .val (.long (q3 + q0)), .second, .val (.long (q4 &&& q5)), .second, .val (.int (1 : Int32))] [(.int (0 : Int32)), (.ref b26_0)])) rfl rfl (hb hby at_608) _ ?_
    show Steps p.tables e below (T379.setTop (mkF m 609 #[.val (.long q0), .second, .val (.long q1), .second, .val (.long q2), .second, .val (.long q3), .second, .val (.long q4), .second, .val (.long q5), .second, .val (.ref b1), .val (.ref b25_1), .val (.ref b26_1), .val (.ref b35_0), .val (.ref b39), .val (.long (q0 + q1)), .second, .val (.long (q1 + q2)), .second, .val (.long (q2 + q3)), .second, .val (.long (q3 + q0)), .second, .val (.long (q4 &&& q5)), .second, .val (.int (1 : Int32))] [(.long q5)])) _
    refine XS.lload X379.here hx rfl (hb hby at_609) rfl ?_
    show Steps p.tables e below (T379.setTop (mkF m 611 #[.val (.long q0), .second, .val (.long q1), .second, .val (.long q2), .second, .val (.long q3), .second, .val (.long q4), .second, .val (.long q5), .second, .val (.ref b1), .val (.ref b25_1), .val (.ref b26_1), .val (.ref b35_0), .val (.ref b39), .val (.long (q0 + q1)), .second, .val (.long (q1 + q2)), .second, .val (.long (q2 + q3)), .second, .val (.long (q3 + q0)), .second, .val (.long (q4 &&& q5)), .second, .val (.int (1 : Int32))] [(.long q5), (.long q5)])) _
    refine XS.lcmp X379.here hx rfl (hb hby at_611) rfl ?_
    show Steps p.tables e below (T379.setTop (mkF m 612 #[.val (.long q0), .second, .val (.long q1), .second, .val (.long q2), .second, .val (.long q3), .second, .val (.long q4), .second, .val (.long q5), .second, .val (.ref b1), .val (.ref b25_1), .val (.ref b26_1), .val (.ref b35_0), .val (.ref b39), .val (.long (q0 + q1)), .second, .val (.long (q1 + q2)), .second, .val (.long (q2 + q3)), .second, .val (.long (q3 + q0)), .second, .val (.long (q4 &&& q5)), .second, .val (.int (1 : Int32))] [(.int (lcmpW q5 q5))])) _
    refine XS.ifNo X379.here hx rfl (hb hby at_612) rfl ((if0 _ _).trans (teq ((lw_eq _ _).mpr rfl : (lcmpW q5 q5) = (0 : Int32))).2) ?_
    show Steps p.tables e below (T379.setTop (mkF m 615 #[.val (.long q0), .second, .val (.long q1), .second, .val (.long q2), .second, .val (.long q3), .second, .val (.long q4), .second, .val (.long q5), .second, .val (.ref b1), .val (.ref b25_1), .val (.ref b26_1), .val (.ref b35_0), .val (.ref b39), .val (.long (q0 + q1)), .second, .val (.long (q1 + q2)), .second, .val (.long (q2 + q3)), .second, .val (.long (q3 + q0)), .second, .val (.long (q4 &&& q5)), .second, .val (.int (1 : Int32))] [])) _
    refine XS.iconst X379.here hx rfl (hb hby at_615) ?_
    show Steps p.tables e below (T379.setTop (mkF m 616 #[.val (.long q0), .second, .val (.long q1), .second, .val (.long q2), .second, .val (.long q3), .second, .val (.long q4), .second, .val (.long q5), .second, .val (.ref b1), .val (.ref b25_1), .val (.ref b26_1), .val (.ref b35_0), .val (.ref b39), .val (.long (q0 + q1)), .second, .val (.long (q1 + q2)), .second, .val (.long (q2 + q3)), .second, .val (.long (q3 + q0)), .second, .val (.long (q4 &&& q5)), .second, .val (.int (1 : Int32))] [(.int (1 : Int32))])) _
    refine XS.goto X379.here hx rfl (pc0 := 616) (pc' := 620) rfl (hb hby at_616) (by decide) (by decide) ?_
    show Steps p.tables e below (T379.setTop (mkF m 620 #[.val (.long q0), .second, .val (.long q1), .second, .val (.long q2), .second, .val (.long q3), .second, .val (.long q4), .second, .val (.long q5), .second, .val (.ref b1), .val (.ref b25_1), .val (.ref b26_1), .val (.ref b35_0), .val (.ref b39), .val (.long (q0 + q1)), .second, .val (.long (q1 + q2)), .second, .val (.long (q2 + q3)), .second, .val (.long (q3 + q0)), .second, .val (.long (q4 &&& q5)), .second, .val (.int (1 : Int32))] [(.int (1 : Int32))])) _
    refine XS.istore X379.here hx rfl (hb hby at_620) rfl (l' := #[.val (.long q0), .second, .val (.long q1), .second, .val (.long q2), .second, .val (.long q3), .second, .val (.long q4), .second, .val (.long q5), .second, .val (.ref b1), .val (.ref b25_1), .val (.ref b26_1), .val (.ref b35_0), .val (.ref b39), .val (.long (q0 + q1)), .second, .val (.long (q1 + q2)), .second, .val (.long (q2 + q3)), .second, .val (.long (q3 + q0)), .second, .val (.long (q4 &&& q5)), .second, .val (.int (1 : Int32))]) rfl ?_
    show Steps p.tables e below (T379.setTop (mkF m 622 #[.val (.long q0), .second, .val (.long q1), .second, .val (.long q2), .second, .val (.long q3), .second, .val (.long q4), .second, .val (.long q5), .second, .val (.ref b1), .val (.ref b25_1), .val (.ref b26_1), .val (.ref b35_0), .val (.ref b39), .val (.long (q0 + q1)), .second, .val (.long (q1 + q2)), .second, .val (.long (q2 + q3)), .second, .val (.long (q3 + q0)), .second, .val (.long (q4 &&& q5)), .second, .val (.int (1 : Int32))] [])) _
    refine XS.iload X379.here hx rfl (hb hby at_622) rfl ?_
    show Steps p.tables e below (T379.setTop (mkF m 624 #[.val (.long q0), .second, .val (.long q1), .second, .val (.long q2), .second, .val (.long q3), .second, .val (.long q4), .second, .val (.long q5), .second, .val (.ref b1), .val (.ref b25_1), .val (.ref b26_1), .val (.ref b35_0), .val (.ref b39), .val (.long (q0 + q1)), .second, .val (.long (q1 + q2)), .second, .val (.long (q2 + q3)), .second, .val (.long (q3 + q0)), .second, .val (.long (q4 &&& q5)), .second, .val (.int (1 : Int32))] [(.int (1 : Int32))])) _
    exact retN X379 hx (t := .boolean) Bd.returns (by simp) (hb hby at_624) hr
  · show Q0 Z q0 q1 q2 q3 q4 q5 h0 n0 _ T379.heap _
    rw [e379]
    exact ⟨rfl, N343⟩
set_option maxRecDepth 65536 in
set_option maxHeartbeats 40000000 in
theorem comes_1 {Post : Tables → Env → Array Value → State → Outcome → State → Prop} (hpost : ∀ tb e args s v u, (limb_1_1.after args s (.returned v) u = true ∧ limb_1_2.after args s (.returned v) u = true ∧ True) → FrameEnd s (.returned v) u (Jvm.fieldLocs frame_1_writes args s ++ Jvm.arrayLocs frame_1_arrays args s ++ Jvm.staticLocs frame_1_statics s) 40 192 → Post tb e args s (.returned v) u) :
    ArmFor flags0 classFile x code maxLocals ret World_1 tables_1 room_1 Calls_1 rest_1 Pre_1 Post := by
  intro l hfl _ _ p e ha hc hk s m args below hf hA hF happ hP
  obtain ⟨hcalls, hrest, hpre⟩ := hP
  obtain ⟨-, -, -, hnamed, -, -, -, hat⟩ := (Spec.applies_iff hf).mp happ
  obtain ⟨hg, hn⟩ := and_e (Cond.before_iff.mp (show (Jvm.Cond.and given_1 narrow_1).before args s = true from hpre))
  obtain ⟨gc, hg⟩ := and_e hg
  obtain ⟨gi0, hg⟩ := and_e hg
  obtain ⟨gi1, hg⟩ := and_e hg
  obtain ⟨gi2, hg⟩ := and_e hg
  obtain ⟨gi3, hg⟩ := and_e hg
  obtain ⟨gi4, hg⟩ := and_e hg
  have gi5 := hg
  obtain ⟨w0, w1, w2, w3, w4, w5, rfl⟩ : ∃ w0 w1 w2 w3 w4 w5 : Value, args = #[w0, w1, w2, w3, w4, w5] := by
    have hs : args.size = 6 := by simpa [Cond.value, given_1] using gc
    obtain ⟨L⟩ := args
    match L, hs with
    | [w0, w1, w2, w3, w4, w5], _ => exact ⟨w0, w1, w2, w3, w4, w5, rfl⟩
  have hw := fun d (hd : d ∈ tables_1) => atoms_spec (ws := Jvm.Cond.code x code maxLocals ret :: tables_1) hat d (List.mem_cons_of_mem _ hd)
  obtain ⟨i0, ei0⟩ := isL_v gi0
  obtain rfl : w0 = (.long i0) := Option.some.inj ei0
  obtain ⟨i1, ei1⟩ := isL_v gi1
  obtain rfl : w1 = (.long i1) := Option.some.inj ei1
  obtain ⟨i2, ei2⟩ := isL_v gi2
  obtain rfl : w2 = (.long i2) := Option.some.inj ei2
  obtain ⟨i3, ei3⟩ := isL_v gi3
  obtain rfl : w3 = (.long i3) := Option.some.inj ei3
  obtain ⟨i4, ei4⟩ := isL_v gi4
  obtain rfl : w4 = (.long i4) := Option.some.inj ei4
  obtain ⟨i5, ei5⟩ := isL_v gi5
  obtain rfl : w5 = (.long i5) := Option.some.inj ei5
  obtain ⟨n, o, h1, h2, h3, _, L, rfl, ⟨rfl, N⟩, hq⟩ := rm0 l s _ hw tables_1 i0 i1 i2 i3 i4 i5 s.heap s.heap.size (Nat.le_refl _) ((lw_eq _ _).mpr (Int64.add_comm _ _)) ((lw_eq _ _).mpr (Int64.add_comm _ _)) ((lw_eq _ _).mpr (Int64.add_comm _ _)) ((lw_eq _ _).mpr (Int64.add_comm _ _)) p e ha hc hk s m _ below hf ((Spec.applies_iff_loose hf).mp happ).1 ⟨rfl, State.Warmed39.refl s, rfl⟩ trivial
  refine ⟨n, _, h1, h2, h3, hpost _ _ _ _ _ _ ⟨Cond.after_iff.mpr rfl, Cond.after_iff.mpr (eq_i res_at (Term.int_eval (1)) rfl), trivial⟩ ⟨hq.1, hq.2.1, (hq.2.2.sift fun y hy => Or.inr (N y hy)).mono (by decide) (by decide)⟩⟩
theorem main_1_1 : Claimed_1_1 := comes_1 fun _ _ _ _ _ _ h hF => ⟨h.1, hF⟩
theorem main_1_2 : Claimed_1_2 := comes_1 fun _ _ _ _ _ _ h hF => ⟨h.2.1, hF⟩
end Jvm.Pilot.@@N@@
namespace Jvm.Pilot.@@N@@
open Jvm Jvm.ClassFile Sem Op Lib Jvm.Free Jvm.Stand Jvm.Pilot.@@N@@.Jvm.D
/-! MADE BY PROGRAM (witnessworld.py) out of the Statement's table words and the real class files: 20 classes; the members and pool entries that the words name. The judged class is class 1, her method 1. -/
namespace start1
open Jvm.ClassFile
def u (s : String) : CpInfo := .utf8 (stringToUtf16 s)
/-- a pool by its gaps: so many unusable entries, then the entry; so many at the end -/
def gap : Nat → List CpInfo → List CpInfo
  | 0, r => r
  | n + 1, r => .unusable :: gap n r
def poolList (es : List (Nat × CpInfo)) (last : Nat) : List CpInfo := es.foldr (fun e r => gap e.1 (e.2 :: r)) (gap last [])
def pool (es : List (Nat × CpInfo)) (last : Nat) : Array CpInfo := ⟨poolList es last⟩
def fileOf (pool : Array CpInfo) (this : Nat) (attrs : Array Attribute := #[]) (ms : Array MethodInfo := #[]) (fl : Nat := 33) (sup : Nat := 0) (ifs : Array Nat := #[]) (fds : Array FieldInfo := #[]) : ClassFile where
  minorVersion := 0
  majorVersion := 65
  constantPool := pool
  accessFlags := fl
  thisClass := this
  superClass := sup
  interfaces := ifs
  fields := fds
  methods := ms
  attributes := attrs
def plain (name : String) (sup : Option ClassId) : Class where
  name := name
  kind := .ordinary
  loader := none
  accessFlags := 33
  super := sup
  interfaces := #[]
  cf := none
  fields := #[]
  methods := #[]
  instanceTypes := #[]
  staticTypes := #[]
  resolved := #[]
  callSites := []
  init := .initialized
  statics := none
  mirror := none

def pool0 : Array CpInfo := pool [(5, u "<init>"), (0, u "()V"), (1, .class_ 10), (1, u "java/lang/Object")] 113

def k0c0 : Code := { maxStack := 0, maxLocals := 1, code := object_method_1_code, exceptionTable := #[], attributes := #[] }
def k0m0 : Method := { name := "<init>", desc := "()V", sig := { parameters := [], returnType := none }, accessFlags := 1, code := some k0c0 }
/-- java/lang/Object -/
def k0 : Class := { plain "java/lang/Object" none with
  accessFlags := 33
  interfaces := #[]
  cf := some (fileOf pool0 8 #[] #[{ accessFlags := 1, nameIndex := 5, descriptorIndex := 6, attributes := #[] }] 33 0 #[] #[])
  fields := #[]
  methods := #[k0m0]
  instanceTypes := #[]
  staticTypes := #[]
  resolved := Array.replicate 124 none
  statics := none }

def pool1 : Array CpInfo := pool [(2, .class_ 4), (0, .nameAndType 5 6), (0, u "java/lang/Object"), (0, u "<init>"), (0, u "()V"), (0, .class_ 8), (0, u "com/example/headlattice/headlattice/learn/Coverage"), (0, .methodref 7 10), (0, .nameAndType 5 11), (0, u "(I)V"), (0, .methodref 7 13), (0, .nameAndType 14 15), (0, u "addRow"), (0, u "([IZ)I"), (0, .methodref 17 18), (0, .class_ 19), (0, .nameAndType 20 21), (0, u "com/example/headlattice/headlattice/learn/Tally"), (0, u "empty"), (0, u "(Lcom/example/headlattice/headlattice/learn/Coverage;Z)Lcom/example/headlattice/headlattice/learn/Tally;"), (0, .methodref 17 23), (0, .nameAndType 24 25), (0, u "blankLike"), (0, u "(Lcom/example/headlattice/headlattice/learn/Tally;)Lcom/example/headlattice/headlattice/learn/Tally;"), (0, .methodref 17 3), (0, .fieldref 17 28), (0, .nameAndType 29 30), (0, u "truePositives"), (0, u "J"), (0, .fieldref 17 32), (0, .nameAndType 33 30), (0, u "falsePositives"), (0, .fieldref 17 35), (0, .nameAndType 36 30), (0, u "trueNegatives"), (0, .fieldref 17 38), (0, .nameAndType 39 30), (0, u "falseNegatives"), (0, .fieldref 17 41), (0, .nameAndType 42 43), (0, u "rightRows"), (0, u "[J"), (0, .long 18446744073709551615), (1, .methodref 17 47), (0, .nameAndType 48 49), (0, u "setSum"), (0, u "(Lcom/example/headlattice/headlattice/learn/Tally;Lcom/example/headlattice/headlattice/learn/Tally;)V"), (0, .fieldref 17 51), (0, .nameAndType 52 53), (0, u "remainingRows"), (0, u "I"), (0, .class_ 55), (0, u "com/example/headlattice/headlattice/learn/TallySetSumPinLaw"), (2, u "law"), (0, u "(JJJJJJ)Z")] 3

def k1m0 : Method := { name := "<init>", desc := "()V", sig := { parameters := [], returnType := none }, accessFlags := 1, code := none }
def k1c1 : Code := { maxStack := 6, maxLocals := 28, code := code, exceptionTable := #[], attributes := #[] }
def k1m1 : Method := { name := "law", desc := "(JJJJJJ)Z", sig := { parameters := [.long, .long, .long, .long, .long, .long], returnType := some .boolean }, accessFlags := 9, code := some k1c1 }
/-- com/example/headlattice/headlattice/learn/TallySetSumPinLaw -/
def k1 : Class := { plain "com/example/headlattice/headlattice/learn/TallySetSumPinLaw" (some 0) with
  accessFlags := 49
  interfaces := #[]
  cf := some (fileOf pool1 54 #[] #[{ accessFlags := 1, nameIndex := 5, descriptorIndex := 6, attributes := #[] }, { accessFlags := 9, nameIndex := 58, descriptorIndex := 59, attributes := #[] }] 49 2 #[] #[])
  fields := #[]
  methods := #[k1m0, k1m1]
  instanceTypes := #[]
  staticTypes := #[]
  resolved := Array.replicate 63 none
  statics := none }

def pool2 : Array CpInfo := pool [(1, .methodref 2 3), (0, .class_ 4), (0, .nameAndType 5 6), (0, u "java/lang/Object"), (0, u "<init>"), (0, u "()V"), (9, .fieldref 17 18), (0, .class_ 19), (0, .nameAndType 20 21), (0, u "com/example/headlattice/headlattice/learn/Coverage"), (0, u "labelCount"), (0, u "I"), (0, .class_ 23), (0, u "[I"), (0, .fieldref 17 25), (0, .nameAndType 26 27), (0, u "openPairs"), (0, u "[[I"), (0, .fieldref 17 29), (0, .nameAndType 30 31), (0, u "covered"), (0, u "[Z"), (0, .fieldref 17 33), (0, .nameAndType 34 23), (0, u "coveredCounts"), (0, .fieldref 17 36), (0, .nameAndType 37 23), (0, u "openCounts"), (0, .fieldref 17 39), (0, .nameAndType 40 23), (0, u "ones"), (0, .fieldref 17 42), (0, .nameAndType 43 44), (0, u "pairsShared"), (0, u "Z"), (5, .fieldref 17 51), (0, .nameAndType 52 21), (0, u "rowCount"), (0, .fieldref 17 54), (0, .nameAndType 55 21), (0, u "remainingCount"), (18, .methodref 17 75), (0, .nameAndType 76 6), (0, u "ownPairs"), (6, u "(I)V"), (47, u "remainingRowSet"), (0, u "()[J"), (16, u "addRow"), (0, u "([IZ)I")] 49

def k2c0 : Code := { maxStack := 3, maxLocals := 2, code := prog_21_method_1_code, exceptionTable := #[], attributes := #[] }
def k2m0 : Method := { name := "<init>", desc := "(I)V", sig := { parameters := [.int], returnType := none }, accessFlags := 1, code := some k2c0 }
def k2c1 : Code := { maxStack := 5, maxLocals := 9, code := prog_21_method_5_code, exceptionTable := #[], attributes := #[] }
def k2m1 : Method := { name := "addRow", desc := "([IZ)I", sig := { parameters := [(.array .int), .boolean], returnType := some .int }, accessFlags := 1, code := some k2c1 }
def k2c2 : Code := { maxStack := 7, maxLocals := 3, code := prog_21_method_19_code, exceptionTable := #[], attributes := #[] }
def k2m2 : Method := { name := "remainingRowSet", desc := "()[J", sig := { parameters := [], returnType := some (.array .long) }, accessFlags := 0, code := some k2c2 }
def k2c3 : Code := { maxStack := 2, maxLocals := 1, code := prog_21_method_21_code, exceptionTable := #[], attributes := #[] }
def k2m3 : Method := { name := "ownPairs", desc := "()V", sig := { parameters := [], returnType := none }, accessFlags := 2, code := some k2c3 }
/-- com/example/headlattice/headlattice/learn/Coverage -/
def k2 : Class := { plain "com/example/headlattice/headlattice/learn/Coverage" (some 0) with
  accessFlags := 49
  interfaces := #[]
  cf := some (fileOf pool2 17 #[] #[{ accessFlags := 1, nameIndex := 5, descriptorIndex := 83, attributes := #[] }, { accessFlags := 1, nameIndex := 149, descriptorIndex := 150, attributes := #[] }, { accessFlags := 0, nameIndex := 131, descriptorIndex := 132, attributes := #[] }, { accessFlags := 2, nameIndex := 76, descriptorIndex := 6, attributes := #[] }] 49 2 #[] #[{ accessFlags := 18, nameIndex := 20, descriptorIndex := 21, attributes := #[] }, { accessFlags := 2, nameIndex := 26, descriptorIndex := 27, attributes := #[] }, { accessFlags := 2, nameIndex := 43, descriptorIndex := 44, attributes := #[] }, { accessFlags := 2, nameIndex := 30, descriptorIndex := 31, attributes := #[] }, { accessFlags := 2, nameIndex := 52, descriptorIndex := 21, attributes := #[] }, { accessFlags := 2, nameIndex := 55, descriptorIndex := 21, attributes := #[] }, { accessFlags := 18, nameIndex := 34, descriptorIndex := 23, attributes := #[] }, { accessFlags := 18, nameIndex := 37, descriptorIndex := 23, attributes := #[] }, { accessFlags := 18, nameIndex := 40, descriptorIndex := 23, attributes := #[] }])
  fields := #[{ name := "labelCount", type := .int, accessFlags := 18, slot := 0, constantValue := 0 }, { name := "openPairs", type := (.array (.array .int)), accessFlags := 2, slot := 1, constantValue := 0 }, { name := "pairsShared", type := .boolean, accessFlags := 2, slot := 2, constantValue := 0 }, { name := "covered", type := (.array .boolean), accessFlags := 2, slot := 3, constantValue := 0 }, { name := "rowCount", type := .int, accessFlags := 2, slot := 4, constantValue := 0 }, { name := "remainingCount", type := .int, accessFlags := 2, slot := 5, constantValue := 0 }, { name := "coveredCounts", type := (.array .int), accessFlags := 18, slot := 6, constantValue := 0 }, { name := "openCounts", type := (.array .int), accessFlags := 18, slot := 7, constantValue := 0 }, { name := "ones", type := (.array .int), accessFlags := 18, slot := 8, constantValue := 0 }]
  methods := #[k2m0, k2m1, k2m2, k2m3]
  instanceTypes := #[.int, (.array (.array .int)), .boolean, (.array .boolean), .int, .int, (.array .int), (.array .int), (.array .int)]
  staticTypes := #[]
  resolved := Array.replicate 200 none
  statics := none }

def pool3 : Array CpInfo := pool [(1, .methodref 2 3), (0, .class_ 4), (0, .nameAndType 5 6), (0, u "com/example/headlattice/headlattice/learn/Tally"), (0, u "<init>"), (0, u "([JI)V"), (0, .methodref 8 9), (0, .class_ 10), (0, .nameAndType 5 11), (0, u "java/lang/Object"), (0, u "()V"), (0, .fieldref 2 13), (0, .nameAndType 14 15), (0, u "rightRows"), (0, u "[J"), (0, .fieldref 2 17), (0, .nameAndType 18 19), (0, u "remainingRows"), (0, u "I"), (0, .methodref 2 9), (0, .methodref 22 23), (0, .class_ 24), (0, .nameAndType 25 26), (0, u "com/example/headlattice/headlattice/learn/Coverage"), (0, u "remainingRowSet"), (0, u "()[J"), (0, .methodref 2 28), (0, .nameAndType 29 30), (0, u "bitCount"), (0, u "([J)I"), (2, u "empty"), (0, u "(Lcom/example/headlattice/headlattice/learn/Coverage;Z)Lcom/example/headlattice/headlattice/learn/Tally;"), (65, u "setSum"), (0, u "(Lcom/example/headlattice/headlattice/learn/Tally;Lcom/example/headlattice/headlattice/learn/Tally;)V"), (4, .fieldref 2 107), (0, .nameAndType 108 109), (0, u "truePositives"), (0, u "J"), (0, .fieldref 2 111), (0, .nameAndType 112 109), (0, u "falsePositives"), (3, .fieldref 2 117), (0, .nameAndType 118 109), (0, u "falseNegatives"), (0, .fieldref 2 120), (0, .nameAndType 121 109), (0, u "trueNegatives"), (8, u "(J)I"), (0, .methodref 132 133), (0, .class_ 134), (0, .nameAndType 29 130), (0, u "java/lang/Long"), (3, u "blankLike"), (0, u "(Lcom/example/headlattice/headlattice/learn/Tally;)Lcom/example/headlattice/headlattice/learn/Tally;")] 31

def k3c0 : Code := { maxStack := 3, maxLocals := 1, code := prog_42_method_1_code, exceptionTable := #[], attributes := #[] }
def k3m0 : Method := { name := "<init>", desc := "()V", sig := { parameters := [], returnType := none }, accessFlags := 0, code := some k3c0 }
def k3c1 : Code := { maxStack := 2, maxLocals := 3, code := prog_42_method_2_code, exceptionTable := #[], attributes := #[] }
def k3m1 : Method := { name := "<init>", desc := "([JI)V", sig := { parameters := [(.array .long), .int], returnType := none }, accessFlags := 2, code := some k3c1 }
def k3c2 : Code := { maxStack := 4, maxLocals := 3, code := prog_42_method_3_code, exceptionTable := #[], attributes := #[] }
def k3m2 : Method := { name := "empty", desc := "(Lcom/example/headlattice/headlattice/learn/Coverage;Z)Lcom/example/headlattice/headlattice/learn/Tally;", sig := { parameters := [(.object "com/example/headlattice/headlattice/learn/Coverage"), .boolean], returnType := some (.object "com/example/headlattice/headlattice/learn/Tally") }, accessFlags := 8, code := some k3c2 }
def k3c3 : Code := { maxStack := 4, maxLocals := 1, code := prog_42_method_4_code, exceptionTable := #[], attributes := #[] }
def k3m3 : Method := { name := "blankLike", desc := "(Lcom/example/headlattice/headlattice/learn/Tally;)Lcom/example/headlattice/headlattice/learn/Tally;", sig := { parameters := [(.object "com/example/headlattice/headlattice/learn/Tally")], returnType := some (.object "com/example/headlattice/headlattice/learn/Tally") }, accessFlags := 8, code := some k3c3 }
def k3c4 : Code := { maxStack := 6, maxLocals := 4, code := prog_42_method_8_code, exceptionTable := #[], attributes := #[] }
def k3m4 : Method := { name := "setSum", desc := "(Lcom/example/headlattice/headlattice/learn/Tally;Lcom/example/headlattice/headlattice/learn/Tally;)V", sig := { parameters := [(.object "com/example/headlattice/headlattice/learn/Tally"), (.object "com/example/headlattice/headlattice/learn/Tally")], returnType := none }, accessFlags := 0, code := some k3c4 }
def k3c5 : Code := { maxStack := 3, maxLocals := 7, code := prog_42_method_10_code, exceptionTable := #[], attributes := #[] }
def k3m5 : Method := { name := "bitCount", desc := "([J)I", sig := { parameters := [(.array .long)], returnType := some .int }, accessFlags := 10, code := some k3c5 }
/-- com/example/headlattice/headlattice/learn/Tally -/
def k3 : Class := { plain "com/example/headlattice/headlattice/learn/Tally" (some 0) with
  accessFlags := 48
  interfaces := #[]
  cf := some (fileOf pool3 2 #[] #[{ accessFlags := 0, nameIndex := 5, descriptorIndex := 11, attributes := #[] }, { accessFlags := 2, nameIndex := 5, descriptorIndex := 6, attributes := #[] }, { accessFlags := 8, nameIndex := 33, descriptorIndex := 34, attributes := #[] }, { accessFlags := 8, nameIndex := 138, descriptorIndex := 139, attributes := #[] }, { accessFlags := 0, nameIndex := 100, descriptorIndex := 101, attributes := #[] }, { accessFlags := 10, nameIndex := 29, descriptorIndex := 30, attributes := #[] }] 48 8 #[] #[{ accessFlags := 0, nameIndex := 108, descriptorIndex := 109, attributes := #[] }, { accessFlags := 0, nameIndex := 112, descriptorIndex := 109, attributes := #[] }, { accessFlags := 0, nameIndex := 121, descriptorIndex := 109, attributes := #[] }, { accessFlags := 0, nameIndex := 118, descriptorIndex := 109, attributes := #[] }, { accessFlags := 16, nameIndex := 14, descriptorIndex := 15, attributes := #[] }, { accessFlags := 0, nameIndex := 18, descriptorIndex := 19, attributes := #[] }])
  fields := #[{ name := "truePositives", type := .long, accessFlags := 0, slot := 0, constantValue := 0 }, { name := "falsePositives", type := .long, accessFlags := 0, slot := 1, constantValue := 0 }, { name := "trueNegatives", type := .long, accessFlags := 0, slot := 2, constantValue := 0 }, { name := "falseNegatives", type := .long, accessFlags := 0, slot := 3, constantValue := 0 }, { name := "rightRows", type := (.array .long), accessFlags := 16, slot := 4, constantValue := 0 }, { name := "remainingRows", type := .int, accessFlags := 0, slot := 5, constantValue := 0 }]
  methods := #[k3m0, k3m1, k3m2, k3m3, k3m4, k3m5]
  instanceTypes := #[.long, .long, .long, .long, (.array .long), .int]
  staticTypes := #[]
  resolved := Array.replicate 171 none
  statics := none }

def pool4 : Array CpInfo := pool [(1, .class_ 2), (0, u "java/io/Serializable"), (0, .class_ 4), (0, u "java/lang/Object")] 2

/-- java/io/Serializable -/
def k4 : Class := { plain "java/io/Serializable" (some 0) with
  accessFlags := 1537
  interfaces := #[]
  cf := some (fileOf pool4 1 #[] #[] 1537 3 #[] #[])
  fields := #[]
  methods := #[]
  instanceTypes := #[]
  staticTypes := #[]
  resolved := Array.replicate 7 none
  statics := none }

def pool5 : Array CpInfo := pool [(2, .class_ 4), (1, u "java/lang/Object"), (0, u "<init>"), (0, u "()V"), (1, .class_ 10), (1, u "java/lang/Number"), (2, .class_ 14), (0, u "java/io/Serializable"), (0, u "serialVersionUID"), (0, u "J")] 20

def k5m0 : Method := { name := "<init>", desc := "()V", sig := { parameters := [], returnType := none }, accessFlags := 1, code := none }
/-- java/lang/Number -/
def k5 : Class := { plain "java/lang/Number" (some 0) with
  accessFlags := 1057
  interfaces := #[4]
  cf := some (fileOf pool5 8 #[] #[{ accessFlags := 1, nameIndex := 5, descriptorIndex := 6, attributes := #[] }] 1057 2 #[13] #[{ accessFlags := 26, nameIndex := 15, descriptorIndex := 16, attributes := #[] }])
  fields := #[{ name := "serialVersionUID", type := .long, accessFlags := 26, slot := 0, constantValue := 0 }]
  methods := #[k5m0]
  instanceTypes := #[]
  staticTypes := #[.long]
  resolved := Array.replicate 37 none
  statics := none }

def pool6 : Array CpInfo := pool [(1, .class_ 2), (0, u "java/lang/Comparable"), (0, .class_ 4), (0, u "java/lang/Object")] 7

/-- java/lang/Comparable -/
def k6 : Class := { plain "java/lang/Comparable" (some 0) with
  accessFlags := 1537
  interfaces := #[]
  cf := some (fileOf pool6 1 #[] #[] 1537 3 #[] #[])
  fields := #[]
  methods := #[]
  instanceTypes := #[]
  staticTypes := #[]
  resolved := Array.replicate 12 none
  statics := none }

def pool7 : Array CpInfo := pool [(1, .class_ 2), (0, u "java/lang/constant/Constable"), (0, .class_ 4), (0, u "java/lang/Object")] 6

/-- java/lang/constant/Constable -/
def k7 : Class := { plain "java/lang/constant/Constable" (some 0) with
  accessFlags := 1537
  interfaces := #[]
  cf := some (fileOf pool7 1 #[] #[] 1537 3 #[] #[])
  fields := #[]
  methods := #[]
  instanceTypes := #[]
  staticTypes := #[]
  resolved := Array.replicate 11 none
  statics := none }

def pool8 : Array CpInfo := pool [(1, .class_ 2), (0, u "java/lang/constant/ConstantDesc"), (0, .class_ 4), (0, u "java/lang/Object")] 32

/-- java/lang/constant/ConstantDesc -/
def k8 : Class := { plain "java/lang/constant/ConstantDesc" (some 0) with
  accessFlags := 1537
  interfaces := #[]
  cf := some (fileOf pool8 1 #[] #[] 1537 3 #[] #[])
  fields := #[]
  methods := #[]
  instanceTypes := #[]
  staticTypes := #[]
  resolved := Array.replicate 37 none
  statics := none }

def pool9 : Array CpInfo := pool [(1, .class_ 2), (0, u "java/lang/Long"), (98, u "(J)I"), (133, .class_ 237), (1, u "java/lang/Long$LongCache"), (33, .class_ 272), (0, u "java/lang/Number"), (2, u "value"), (0, u "J"), (37, .long 6148914691236517205), (1, .long 3689348814741910323), (1, .long 1085102592571150095), (42, u "TYPE"), (0, u "Ljava/lang/Class;"), (0, .class_ 364), (0, u "java/lang/Comparable"), (0, .class_ 366), (0, u "java/lang/constant/Constable"), (0, .class_ 368), (0, u "java/lang/constant/ConstantDesc"), (0, u "MIN_VALUE"), (1, u "MAX_VALUE"), (4, u "SIZE"), (0, u "I"), (1, u "BYTES"), (1, u "serialVersionUID"), (94, u "bitCount")] 47

def k9c0 : Code := { maxStack := 6, maxLocals := 2, code := jdk_35_method_50_code, exceptionTable := #[], attributes := #[] }
def k9m0 : Method := { name := "bitCount", desc := "(J)I", sig := { parameters := [.long], returnType := some .int }, accessFlags := 9, code := some k9c0 }
/-- java/lang/Long -/
def k9 : Class := { plain "java/lang/Long" (some 5) with
  accessFlags := 49
  interfaces := #[6, 7, 8]
  cf := some (fileOf pool9 1 #[.nestMembers #[235]] #[{ accessFlags := 9, nameIndex := 476, descriptorIndex := 101, attributes := #[] }] 49 271 #[363, 365, 367] #[{ accessFlags := 25, nameIndex := 369, descriptorIndex := 276, attributes := #[] }, { accessFlags := 25, nameIndex := 371, descriptorIndex := 276, attributes := #[] }, { accessFlags := 25, nameIndex := 361, descriptorIndex := 362, attributes := #[] }, { accessFlags := 18, nameIndex := 275, descriptorIndex := 276, attributes := #[] }, { accessFlags := 25, nameIndex := 376, descriptorIndex := 377, attributes := #[] }, { accessFlags := 25, nameIndex := 379, descriptorIndex := 377, attributes := #[] }, { accessFlags := 26, nameIndex := 381, descriptorIndex := 276, attributes := #[] }])
  fields := #[{ name := "MIN_VALUE", type := .long, accessFlags := 25, slot := 0, constantValue := 0 }, { name := "MAX_VALUE", type := .long, accessFlags := 25, slot := 1, constantValue := 0 }, { name := "TYPE", type := (.object "java/lang/Class"), accessFlags := 25, slot := 2, constantValue := 0 }, { name := "value", type := .long, accessFlags := 18, slot := 0, constantValue := 0 }, { name := "SIZE", type := .int, accessFlags := 25, slot := 3, constantValue := 0 }, { name := "BYTES", type := .int, accessFlags := 25, slot := 4, constantValue := 0 }, { name := "serialVersionUID", type := .long, accessFlags := 26, slot := 5, constantValue := 0 }]
  methods := #[k9m0]
  instanceTypes := #[.long]
  staticTypes := #[.long, .long, (.object "java/lang/Class"), .int, .int, .long]
  resolved := Array.replicate 524 none
  statics := none }

def pool10 : Array CpInfo := pool [(1, u "java/lang/Cloneable"), (0, .class_ 1), (0, u "java/lang/Object"), (0, .class_ 3)] 3

/-- java/lang/Cloneable -/
def k10 : Class := { plain "java/lang/Cloneable" (some 0) with
  accessFlags := 1537
  interfaces := #[]
  cf := some (fileOf pool10 2 #[] #[] 1537 4 #[] #[])
  fields := #[]
  methods := #[]
  instanceTypes := #[]
  staticTypes := #[]
  resolved := Array.replicate 8 none
  statics := none }

/-- the primitive boolean -/
def k11 : Class := { plain "boolean" none with kind := .primitive 'Z', accessFlags := 0x411 }
/-- [Z -/
def k12 : Class := { plain "[Z" (some 0) with kind := .array 11 .boolean, interfaces := #[10, 4], accessFlags := 1041 }

/-- the primitive byte -/
def k13 : Class := { plain "byte" none with kind := .primitive 'B', accessFlags := 0x411 }
/-- [B -/
def k14 : Class := { plain "[B" (some 0) with kind := .array 13 .byte, interfaces := #[10, 4], accessFlags := 1041 }

/-- the primitive int -/
def k15 : Class := { plain "int" none with kind := .primitive 'I', accessFlags := 0x411 }
/-- [I -/
def k16 : Class := { plain "[I" (some 0) with kind := .array 15 .int, interfaces := #[10, 4], accessFlags := 1041 }

/-- the primitive long -/
def k17 : Class := { plain "long" none with kind := .primitive 'J', accessFlags := 0x411 }
/-- [J -/
def k18 : Class := { plain "[J" (some 0) with kind := .array 17 .long, interfaces := #[10, 4], accessFlags := 1041 }

/-- [L[I; -/
def k19 : Class := { plain "[[I" (some 0) with kind := .array 16 (.array .int), interfaces := #[10, 4], accessFlags := 1041 }

def heap : Heap := #[{ cls := 19, slots := #[.null], vm := .none }]
def classes : Array Class := #[k0, k1, k2, k3, k4, k5, k6, k7, k8, k9, k10, k11, k12, k13, k14, k15, k16, k17, k18, k19]
def interned : List (Array UInt16 × Addr) := []
def slotsUsed : Nat := 1
def theMethod : MethodId := ⟨1, 1⟩
def args0 : Array Value := #[.long 3, .long 5, .long 7, .long 11, .long 13, .long 6]
def aboutOver (below : List Frame) : State where
  vm := { classes := classes, interned := interned.toArray }
  heap := heap
  slotsUsed := slotsUsed
  threads := #[{ frames := .invoking theMethod args0 :: below }]
def below0 : List Frame := [.native { method := ⟨0, 0⟩, args := #[] }]
def about1 : State := aboutOver below0
def p0 : Program := .bare "" "" ""
def e0 : Env := launch0.env 0 0 0
theorem w_frames : about1.frames = Frame.invoking theMethod args0 :: below0 := rfl
set_option maxRecDepth 65536 in
theorem w_args : argsFit about1.vm theMethod args0 = true := by decide +kernel
set_option maxRecDepth 65536 in
theorem w_heap : heapFits about1 = true := by decide +kernel
set_option maxRecDepth 65536 in
theorem w_runnable : about1.curStatus? = some .runnable := by decide +kernel
set_option maxRecDepth 65536 in
theorem w_alone : about1.alone = true := by decide +kernel
set_option maxRecDepth 65536 in
theorem w_named : about1.methodNamed? x = some theMethod := by decide +kernel
set_option maxRecDepth 65536 in
theorem w_hears : about1.hears theMethod below0 = true := by decide +kernel
set_option maxRecDepth 65536 in
theorem w_ripe : about1.ripe theMethod args0 below0 = true := by decide +kernel
theorem w_running : about1.status = .running := rfl
set_option maxRecDepth 65536 in
theorem w_room : about1.hasRoom e0.platform room_1 = true :=
  launch0.hasRoom_least _ room_1 (by decide +kernel) (by decide +kernel) (by decide +kernel) (by decide +kernel) (by decide +kernel) (by decide +kernel)
theorem allAtoms_all (ts : List Jvm.Cond) (a : Array Jvm.Value) (st : Jvm.State) : (allAtoms ts).before a st = ts.all (fun c => c.before a st) := by
  induction ts with
  | nil => rfl
  | cons c t ih =>
    show (Jvm.Cond.and c (allAtoms t)).before a st = _
    rw [Jvm.Cond.before_and, ih, List.all_cons]
def words1 : List Jvm.Cond := Jvm.Cond.code x code maxLocals ret :: tables_1
/-- a 'code' word, met by the world's own term for the bytes: nothing is compared byte by byte -/
theorem code_word {y : MethodName} {bytes : ByteArray} {mx : Nat} {rt : Option FieldType} {a : Array Value} {s : State} {m : MethodId} {meth : Method} {c : Code} (h1 : s.methodNamed? y = some m) (h2 : s.vm.method? m = some meth) (h3 : meth.code = some c) (h4 : c.code = bytes)
    (h5 : (c.maxLocals == mx && c.exceptionTable.isEmpty && decide (c.maxStack ≤ mostOperands) && decide (meth.sig.returnType = rt) && !meth.locks && decide (parseMethodDescriptor y.desc = some meth.sig)) = true) : (Jvm.Cond.code y bytes mx rt).before a s = true := by
  simp only [Bool.and_eq_true, beq_iff_eq, Bool.not_eq_true', decide_eq_true_eq] at h5
  obtain ⟨⟨⟨⟨⟨g1, g2⟩, g3⟩, g4⟩, g5⟩, g6⟩ := h5
  simp [Cond.before, Cond.holds, Cond.value, h1, h2, h3, h4, g1, g2, g3, g4, g5, g6]
def isCode : Jvm.Cond → Bool
  | .code _ _ _ _ => true
  | _ => false
theorem all_split {L : List Jvm.Cond} {P : Jvm.Cond → Bool} (h1 : L.all (fun c => isCode c || P c) = true) (h2 : ∀ c ∈ L.filter isCode, P c = true) : L.all P = true := by
  refine List.all_eq_true.mpr fun c hc => ?_
  have h := List.all_eq_true.mp h1 c hc
  rcases Bool.eq_false_or_eq_true (isCode c) with hi | hi
  · exact h2 c (List.mem_filter.mpr ⟨hc, hi⟩)
  · simpa [hi] using h
set_option maxRecDepth 65536 in
theorem w_c0 : (Jvm.Cond.code x code maxLocals ret).before args0 about1 = true := code_word (m := ⟨1, 1⟩) (meth := k1m1) (c := k1c1) (by decide +kernel) rfl rfl rfl (by decide +kernel)
set_option maxRecDepth 65536 in
theorem w_c1 : (Jvm.Cond.code ({ cls := "com/example/headlattice/headlattice/learn/Coverage", name := "<init>", desc := "(I)V" } : Jvm.MethodName) prog_21_method_1_code (2 : Nat) (Option.none : Option Jvm.ClassFile.FieldType)).before args0 about1 = true := code_word (m := ⟨2, 0⟩) (meth := k2m0) (c := k2c0) (by decide +kernel) rfl rfl rfl (by decide +kernel)
set_option maxRecDepth 65536 in
theorem w_c2 : (Jvm.Cond.code ({ cls := "java/lang/Object", name := "<init>", desc := "()V" } : Jvm.MethodName) object_method_1_code (1 : Nat) (Option.none : Option Jvm.ClassFile.FieldType)).before args0 about1 = true := code_word (m := ⟨0, 0⟩) (meth := k0m0) (c := k0c0) (by decide +kernel) rfl rfl rfl (by decide +kernel)
set_option maxRecDepth 65536 in
theorem w_c3 : (Jvm.Cond.code ({ cls := "com/example/headlattice/headlattice/learn/Coverage", name := "addRow", desc := "([IZ)I" } : Jvm.MethodName) prog_21_method_5_code (9 : Nat) (Option.some Jvm.ClassFile.FieldType.int)).before args0 about1 = true := code_word (m := ⟨2, 1⟩) (meth := k2m1) (c := k2c1) (by decide +kernel) rfl rfl rfl (by decide +kernel)
set_option maxRecDepth 65536 in
theorem w_c4 : (Jvm.Cond.code ({ cls := "com/example/headlattice/headlattice/learn/Coverage", name := "ownPairs", desc := "()V" } : Jvm.MethodName) prog_21_method_21_code (1 : Nat) (Option.none : Option Jvm.ClassFile.FieldType)).before args0 about1 = true := code_word (m := ⟨2, 3⟩) (meth := k2m3) (c := k2c3) (by decide +kernel) rfl rfl rfl (by decide +kernel)
set_option maxRecDepth 65536 in
theorem w_c5 : (Jvm.Cond.code ({ cls := "com/example/headlattice/headlattice/learn/Tally", name := "empty", desc := "(Lcom/example/headlattice/headlattice/learn/Coverage;Z)Lcom/example/headlattice/headlattice/learn/Tally;" } : Jvm.MethodName) prog_42_method_3_code (3 : Nat) (Option.some (Jvm.ClassFile.FieldType.object "com/example/headlattice/headlattice/learn/Tally"))).before args0 about1 = true := code_word (m := ⟨3, 2⟩) (meth := k3m2) (c := k3c2) (by decide +kernel) rfl rfl rfl (by decide +kernel)
set_option maxRecDepth 65536 in
theorem w_c6 : (Jvm.Cond.code ({ cls := "com/example/headlattice/headlattice/learn/Coverage", name := "remainingRowSet", desc := "()[J" } : Jvm.MethodName) prog_21_method_19_code (3 : Nat) (Option.some (Jvm.ClassFile.FieldType.array Jvm.ClassFile.FieldType.long))).before args0 about1 = true := code_word (m := ⟨2, 2⟩) (meth := k2m2) (c := k2c2) (by decide +kernel) rfl rfl rfl (by decide +kernel)
set_option maxRecDepth 65536 in
theorem w_c7 : (Jvm.Cond.code ({ cls := "com/example/headlattice/headlattice/learn/Tally", name := "bitCount", desc := "([J)I" } : Jvm.MethodName) prog_42_method_10_code (7 : Nat) (Option.some Jvm.ClassFile.FieldType.int)).before args0 about1 = true := code_word (m := ⟨3, 5⟩) (meth := k3m5) (c := k3c5) (by decide +kernel) rfl rfl rfl (by decide +kernel)
set_option maxRecDepth 65536 in
theorem w_c8 : (Jvm.Cond.code ({ cls := "java/lang/Long", name := "bitCount", desc := "(J)I" } : Jvm.MethodName) jdk_35_method_50_code (2 : Nat) (Option.some Jvm.ClassFile.FieldType.int)).before args0 about1 = true := code_word (m := ⟨9, 0⟩) (meth := k9m0) (c := k9c0) (by decide +kernel) rfl rfl rfl (by decide +kernel)
set_option maxRecDepth 65536 in
theorem w_c9 : (Jvm.Cond.code ({ cls := "com/example/headlattice/headlattice/learn/Tally", name := "<init>", desc := "([JI)V" } : Jvm.MethodName) prog_42_method_2_code (3 : Nat) (Option.none : Option Jvm.ClassFile.FieldType)).before args0 about1 = true := code_word (m := ⟨3, 1⟩) (meth := k3m1) (c := k3c1) (by decide +kernel) rfl rfl rfl (by decide +kernel)
set_option maxRecDepth 65536 in
theorem w_c10 : (Jvm.Cond.code ({ cls := "com/example/headlattice/headlattice/learn/Tally", name := "blankLike", desc := "(Lcom/example/headlattice/headlattice/learn/Tally;)Lcom/example/headlattice/headlattice/learn/Tally;" } : Jvm.MethodName) prog_42_method_4_code (1 : Nat) (Option.some (Jvm.ClassFile.FieldType.object "com/example/headlattice/headlattice/learn/Tally"))).before args0 about1 = true := code_word (m := ⟨3, 3⟩) (meth := k3m3) (c := k3c3) (by decide +kernel) rfl rfl rfl (by decide +kernel)
set_option maxRecDepth 65536 in
theorem w_c11 : (Jvm.Cond.code ({ cls := "com/example/headlattice/headlattice/learn/Tally", name := "<init>", desc := "()V" } : Jvm.MethodName) prog_42_method_1_code (1 : Nat) (Option.none : Option Jvm.ClassFile.FieldType)).before args0 about1 = true := code_word (m := ⟨3, 0⟩) (meth := k3m0) (c := k3c0) (by decide +kernel) rfl rfl rfl (by decide +kernel)
set_option maxRecDepth 65536 in
theorem w_c12 : (Jvm.Cond.code ({ cls := "com/example/headlattice/headlattice/learn/Tally", name := "setSum", desc := "(Lcom/example/headlattice/headlattice/learn/Tally;Lcom/example/headlattice/headlattice/learn/Tally;)V" } : Jvm.MethodName) prog_42_method_8_code (4 : Nat) (Option.none : Option Jvm.ClassFile.FieldType)).before args0 about1 = true := code_word (m := ⟨3, 4⟩) (meth := k3m4) (c := k3c4) (by decide +kernel) rfl rfl rfl (by decide +kernel)
def codes1 : List Jvm.Cond := [Jvm.Cond.code x code maxLocals ret, Jvm.Cond.code ({ cls := "com/example/headlattice/headlattice/learn/Coverage", name := "<init>", desc := "(I)V" } : Jvm.MethodName) prog_21_method_1_code (2 : Nat) (Option.none : Option Jvm.ClassFile.FieldType), Jvm.Cond.code ({ cls := "java/lang/Object", name := "<init>", desc := "()V" } : Jvm.MethodName) object_method_1_code (1 : Nat) (Option.none : Option Jvm.ClassFile.FieldType), Jvm.Cond.code ({ cls := "com/example/headlattice/headlattice/learn/Coverage", name := "addRow", desc := "([IZ)I" } : Jvm.MethodName) prog_21_method_5_code (9 : Nat) (Option.some Jvm.ClassFile.FieldType.int), Jvm.Cond.code ({ cls := "com/example/headlattice/headlattice/learn/Coverage", name := "ownPairs", desc := "()V" } : Jvm.MethodName) prog_21_method_21_code (1 : Nat) (Option.none : Option Jvm.ClassFile.FieldType), Jvm.Cond.code ({ cls := "com/example/headlattice/headlattice/learn/Tally", name := "empty", desc := "(Lcom/example/headlattice/headlattice/learn/Coverage;Z)Lcom/example/headlattice/headlattice/learn/Tally;" } : Jvm.MethodName) prog_42_method_3_code (3 : Nat) (Option.some (Jvm.ClassFile.FieldType.object "com/example/headlattice/headlattice/learn/Tally")), Jvm.Cond.code ({ cls := "com/example/headlattice/headlattice/learn/Coverage", name := "remainingRowSet", desc := "()[J" } : Jvm.MethodName) prog_21_method_19_code (3 : Nat) (Option.some (Jvm.ClassFile.FieldType.array Jvm.ClassFile.FieldType.long)), Jvm.Cond.code ({ cls := "com/example/headlattice/headlattice/learn/Tally", name := "bitCount", desc := "([J)I" } : Jvm.MethodName) prog_42_method_10_code (7 : Nat) (Option.some Jvm.ClassFile.FieldType.int), Jvm.Cond.code ({ cls := "java/lang/Long", name := "bitCount", desc := "(J)I" } : Jvm.MethodName) jdk_35_method_50_code (2 : Nat) (Option.some Jvm.ClassFile.FieldType.int), Jvm.Cond.code ({ cls := "com/example/headlattice/headlattice/learn/Tally", name := "<init>", desc := "([JI)V" } : Jvm.MethodName) prog_42_method_2_code (3 : Nat) (Option.none : Option Jvm.ClassFile.FieldType), Jvm.Cond.code ({ cls := "com/example/headlattice/headlattice/learn/Tally", name := "blankLike", desc := "(Lcom/example/headlattice/headlattice/learn/Tally;)Lcom/example/headlattice/headlattice/learn/Tally;" } : Jvm.MethodName) prog_42_method_4_code (1 : Nat) (Option.some (Jvm.ClassFile.FieldType.object "com/example/headlattice/headlattice/learn/Tally")), Jvm.Cond.code ({ cls := "com/example/headlattice/headlattice/learn/Tally", name := "<init>", desc := "()V" } : Jvm.MethodName) prog_42_method_1_code (1 : Nat) (Option.none : Option Jvm.ClassFile.FieldType), Jvm.Cond.code ({ cls := "com/example/headlattice/headlattice/learn/Tally", name := "setSum", desc := "(Lcom/example/headlattice/headlattice/learn/Tally;Lcom/example/headlattice/headlattice/learn/Tally;)V" } : Jvm.MethodName) prog_42_method_8_code (4 : Nat) (Option.none : Option Jvm.ClassFile.FieldType)]
set_option maxRecDepth 65536 in
theorem codes_eq : words1.filter isCode = codes1 := rfl
theorem w_codes : ∀ c ∈ words1.filter isCode, c.before args0 about1 = true := by
  rw [codes_eq]
  intro c hc
  simp only [codes1, List.mem_cons, List.not_mem_nil, or_false] at hc
  rcases hc with rfl | rfl | rfl | rfl | rfl | rfl | rfl | rfl | rfl | rfl | rfl | rfl | rfl
  · exact w_c0
  · exact w_c1
  · exact w_c2
  · exact w_c3
  · exact w_c4
  · exact w_c5
  · exact w_c6
  · exact w_c7
  · exact w_c8
  · exact w_c9
  · exact w_c10
  · exact w_c11
  · exact w_c12
set_option maxRecDepth 65536 in
theorem w_t1 : (words1.take 24).all (fun c => isCode c || c.before args0 about1) = true := by decide +kernel
set_option maxRecDepth 65536 in
theorem w_t2 : ((words1.drop 24).take 24).all (fun c => isCode c || c.before args0 about1) = true := by decide +kernel
set_option maxRecDepth 65536 in
theorem w_t3 : (((words1.drop 24).drop 24).take 24).all (fun c => isCode c || c.before args0 about1) = true := by decide +kernel
set_option maxRecDepth 65536 in
theorem w_t4 : ((((words1.drop 24).drop 24).drop 24).take 24).all (fun c => isCode c || c.before args0 about1) = true := by decide +kernel
set_option maxRecDepth 65536 in
theorem w_t5 : ((((words1.drop 24).drop 24).drop 24).drop 24).all (fun c => isCode c || c.before args0 about1) = true := by decide +kernel
theorem w_tables : (allAtoms (Jvm.Cond.code x code maxLocals ret :: tables_1)).before args0 about1 = true := by
  rw [allAtoms_all]
  show words1.all (fun c => c.before args0 about1) = true
  refine all_split ?_ w_codes
  rw [← List.take_append_drop 24 words1, List.all_append, w_t1, ← List.take_append_drop 24 (words1.drop 24), List.all_append, w_t2, ← List.take_append_drop 24 ((words1.drop 24).drop 24), List.all_append, w_t3, ← List.take_append_drop 24 (((words1.drop 24).drop 24).drop 24), List.all_append, w_t4, w_t5]
  rfl
set_option maxRecDepth 65536 in
theorem w_case : (Jvm.Cond.and given_1 narrow_1).before args0 about1 = true := by decide +kernel
theorem w_applies : (headSpec (Jvm.Cond.code x code maxLocals ret :: tables_1) room_1).applies x e0.platform about1 = true :=
  (Spec.applies_iff w_frames).mpr ⟨w_running, w_runnable, w_alone, w_named, w_hears, w_ripe, w_room, w_tables⟩
theorem atStart : AtStart classFile x code maxLocals ret World_1 tables_1 room_1 Calls_1 rest_1 Pre_1 launch0 p0 e0 about1 theMethod args0 below0 :=
  ⟨lists_1, trivial, launch0.admits_env _ _ _, launch0.least_env, fairChoices_fair.cas, fairChoices_fair.clock, w_frames, w_args, w_heap, w_applies, trivial, trivial, w_case⟩
end start1
theorem witness_1 : WitnessClaimed_1 := ⟨start1.p0, start1.e0, start1.about1, start1.theMethod, start1.args0, start1.below0, start1.atStart⟩
end Jvm.Pilot.@@N@@
