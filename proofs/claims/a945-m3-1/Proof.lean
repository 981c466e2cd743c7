import JvmDerived
import JvmDerived.Pilot.@@N@@Statement
import JvmDerived.Pilot.@@N@@Code
set_option linter.unusedVariables false
set_option linter.unusedSimpArgs false
namespace Jvm.RoadKit
open Sem ClassFile Op Lib Jvm.Stand Jvm.Free Jvm.LawKit
section New
variable {p : Program} {l : Launch} {e : Env} {R : Room} {s : State} {m : MethodId} {args : Array Value} {below : List Frame} {meth : Method} {c : Code} {T : State} {locs : List Loc} {cells slots : Nat}
theorem retI (X : Stand p l e R s m args below meth c T locs cells slots) (hx : p.tables.exec = Jvm.exec) {pc : Nat} {Ls : Array Slot} {z : Int32} {rest : List Value} (hret : meth.sig.returnType = some .int) (hd : decode c.code pc = .ok (.ireturn, 1)) {fs : List Frame}
    (hl : ∀ (f : JFrame) (acts : List Action), f.method = m → f.locked = none → f.entered = [] → (doReturn e (T.setTop f) acts (some (.int z))).1 = T.setFrames fs) : Steps p.tables e below (T.setTop (mkF m pc Ls (.int z :: rest))) (T.setFrames fs) := by
  have hm' : T.vm.method? m = some meth := X.method'
  have hn : narrow .int (.int z) = .int z := rfl
  show Steps p.tables e below (T.setTop { method := m, pc := pc, locals := Ls, stack := _ :: rest, locked := none }) _
  jvm_step X.here [X.here.top, hx, hd, hm', hret, hn]
  first | (intro acts; rw [hl _ acts rfl rfl rfl]) | rw [hl _ _ rfl rfl rfl]
  exact Steps.refl _
end New
end Jvm.RoadKit
namespace Jvm.Pilot.@@N@@
open Jvm Jvm.ClassFile Sem Op Lib Jvm.Free Jvm.Stand Jvm.LawKit Jvm.RoadKit Bundle Jvm.Pilot.@@N@@.Jvm.D
set_option maxRecDepth 65536
set_option maxHeartbeats 40000000
abbrev kB1 := jdk_18_method_1_code
abbrev kB2 := jdk_22_method_1_code
abbrev kB3 := jdk_31_method_2_code
abbrev kB4 := jdk_33_method_47_code
abbrev kB5 := jdk_35_method_24_code
abbrev kB6 := jdk_35_method_26_code
abbrev kB7 := jdk_35_method_31_code
abbrev kB8 := jdk_35_method_35_code
abbrev kB9 := jdk_35_method_36_code
abbrev kB10 := jdk_35_method_37_code
abbrev kB11 := jdk_38_method_2_code
abbrev kB12 := jdk_38_method_8_code
abbrev kB13 := jdk_39_method_1_code
abbrev kB14 := jdk_65_method_157_code
abbrev kB15 := jdk_65_method_97_code
abbrev kB16 := jdk_69_method_11_code
abbrev kB17 := jdk_69_method_7_code
abbrev kB18 := jdk_71_method_1_code
abbrev kB19 := jdk_91_method_1_code
abbrev kB20 := prog_102_method_1_code
abbrev kB21 := prog_102_method_3_code
abbrev kB22 := prog_103_method_10_code
abbrev kB23 := prog_103_method_1_code
abbrev kB24 := prog_103_method_2_code
abbrev kB25 := prog_103_method_4_code
abbrev kB26 := prog_103_method_5_code
abbrev kB27 := prog_107_method_10_code
abbrev kB28 := prog_107_method_11_code
abbrev kB29 := prog_107_method_13_code
abbrev kB30 := prog_107_method_14_code
abbrev kB31 := prog_107_method_15_code
abbrev kB32 := prog_107_method_16_code
abbrev kB33 := prog_107_method_1_code
abbrev kB34 := prog_107_method_3_code
abbrev kB35 := prog_107_method_6_code
abbrev kB36 := prog_107_method_7_code
abbrev kB37 := prog_107_method_9_code
abbrev kB38 := prog_111_method_10_code
abbrev kB39 := prog_111_method_11_code
abbrev kB40 := prog_111_method_1_code
abbrev kB41 := prog_111_method_2_code
abbrev kB42 := prog_111_method_4_code
abbrev kB43 := prog_112_method_1_code
abbrev kB44 := prog_112_method_2_code
abbrev kB45 := prog_112_method_3_code
abbrev kB46 := prog_112_method_4_code
abbrev kB47 := prog_112_method_7_code
abbrev kB48 := prog_113_method_1_code
abbrev kB49 := prog_113_method_2_code
abbrev kB50 := prog_113_method_3_code
abbrev kB51 := prog_84_method_1_code
abbrev kB52 := prog_84_method_2_code
abbrev kB53 := prog_84_method_3_code
theorem mg {α : Type} {L : List α} {d : α} (i : Nat) (h : L[i]? = some d) : d ∈ L := List.mem_of_getElem? h
theorem own_ext {h h' : Heap} (K : Keep h h' []) : Ext h h' := ⟨K.1, fun a c q => K.2.1 a c q nin0⟩
theorem own_fits {t : FieldType} {x : Int32} (h : nar t x = x) (f : fits t (.int (nar t x)) = true) : fits t (.int x) = true := by rw [h] at f; exact f
theorem own_nb (x : Int32) : nar .byte (x.toInt8.toInt32) = x.toInt8.toInt32 := by simp [nar]
theorem own_nc (x : Int32) : nar .char (x.toUInt32.toUInt16.toUInt32.toInt32) = x.toUInt32.toUInt16.toUInt32.toInt32 := by
  show (x.toUInt32.toUInt16.toUInt32.toInt32).toUInt32.toUInt16.toUInt32.toInt32 = _
  rw [UInt32.toUInt32_toInt32, UInt16.toUInt16_toUInt32]
theorem own_gen {p : Program} {l : Launch} {e : Env} {R : Room} {s : State} {m : MethodId} {args : Array Value} {below : List Frame} {meth : Method} {c : Code} {T : State} {locs : List Loc} {cells slots n0 : Nat} (X : Stand p l e R s m args below meth c T locs cells slots) (N : Fr n0 locs) : ∃ L, Stand p l e R s m args below meth c T L cells slots ∧ Fr n0 L := ⟨_, X, N⟩
theorem own_ne {a b : Addr} (h : a < b) : a ≠ b := Nat.ne_of_lt h
theorem own_Sta {Z : State} {h h' : Heap} {C n d : String} {v : Value} {ws : List Addr} (F : Sta Z h C n d v) (K : Keep h h' ws) (q : ∀ x ∈ ws, ∀ cell : Cell, h[x]? = some cell → cell.vm.isStatics = false) : Sta Z h' C n d v := by
  obtain ⟨cf, i, k, f, st, cell, h1, h2, h3, h4, h5, h6, h7⟩ := F
  refine ⟨cf, i, k, f, st, cell, h1, h2, h3, h4, K.2.1 st cell h5 (fun m => ?_), h6, h7⟩
  rw [q st m cell h5] at h6
  cases h6
theorem own_priv {s : State} {args : Array Value} {y : MethodName} {n : Nat} (wi : (Cond.instantiable y.cls n).before args s = true) (hp : s.PrivateAt y) (hi : (Cond.instanceMethod y).before args s = true) (hy : y.cls ≠ "java/lang/invoke/MethodHandle" ∧ y.cls ≠ "java/lang/invoke/VarHandle") : (Cond.selects y.cls y y).before args s = true := by
  obtain ⟨c, k, h1, h2, -, h4, -⟩ := Cond.instantiable_spec wi
  exact selects_self_of_private h1 h2 (by cases hk : k.isInterface <;> simp_all) hp hi hy
theorem own_lremM {p : Program} {l : Launch} {e : Env} {R : Room} {s : State} {m : MethodId} {args : Array Value} {below : List Frame} {meth : Method} {c : Code} {T : State} {locs : List Loc} {cells slots : Nat} {g : JFrame} {target : State} (X : Stand p l e R s m args below meth c T locs cells slots) (hx : p.tables.exec = Jvm.exec) (hg : g.method = m) {x y : Int64} {rest : List Value} (hd : decode c.code g.pc = .ok (.lrem, 1)) (hs : g.stack = .long y :: .long x :: rest) (hy : y ≠ 0)
    (hr : Steps p.tables e below (T.setTop { g with pc := g.pc + 1, stack := .long (x % y) :: rest }) target) : Steps p.tables e below (T.setTop g) target := by
  have q : x - x / y * y = x % y := lrem_mod x y
  exact XS.lrem X.here hx hg hd hs hy (by rw [q]; exact hr)
theorem own_nf {args : Array Value} {s : State} {C : String} {x y y' : MethodName} (h : (Cond.selects C x y').before args s = true) (e : y.cls = y'.cls) : NotFace s y := fun r0 h0 => by
  obtain ⟨c2, r2, m2, q1, q2, q3, q4, kP, hkP, hkPi⟩ := Cond.selects_spec h
  have a := findClass_of_methodNamed h0
  have b := findClass_of_methodNamed q3
  rw [e] at a
  have w : r0.cls = m2.cls := Option.some.inj (a.symm.trans b)
  exact ⟨kP, by rw [w]; exact hkP, hkPi⟩
theorem own_privS {s : State} {args : Array Value} {C : String} {x y y' : MethodName} (ws : (Cond.selects C x y').before args s = true) (e : y.cls = y'.cls) (hp : s.PrivateAt y) (hi : (Cond.instanceMethod y).before args s = true) (hy : y.cls ≠ "java/lang/invoke/MethodHandle" ∧ y.cls ≠ "java/lang/invoke/VarHandle") : (Cond.selects y.cls y y).before args s = true := by
  obtain ⟨mk, methM, hnamed, -, -, -⟩ := Cond.instanceMethod_spec hi
  obtain ⟨kr, hk, hn⟩ := own_nf ws e mk hnamed
  exact selects_self_of_private (findClass_of_methodNamed hnamed) hk hn hp hi hy
theorem own_same {a0 : Array Value} {Z : State} {C : String} {x y y' : MethodName} (hsel : (Cond.selects C x y').before a0 Z = true) (e : y.cls = y'.cls) (hi : (Cond.instanceMethod y).before a0 Z = true) (hy : y.cls ≠ "java/lang/invoke/MethodHandle" ∧ y.cls ≠ "java/lang/invoke/VarHandle") : (Cond.sameMethod y.cls y.cls y.name y.desc).before a0 Z = true := by
  obtain ⟨mk, methM, hnamed, hmethM, -, -⟩ := Cond.instanceMethod_spec hi
  have hf := State.methodFound?_of_named hnamed hy
  have hc := findClass_of_methodNamed hnamed
  obtain ⟨kr, hk, hn⟩ := own_nf hsel e mk hnamed
  have hnm : Z.methodNamed? ⟨y.cls, y.name, y.desc⟩ = some mk := hnamed
  simp [Cond.before, Cond.holds, Cond.value, hc, hf, hnm, hk, hn]
def own_Arf (Z : State) (h : Heap) (a : Addr) (k : ClassId) (ty : FieldType) (n : Int32) (f : Nat → Value) : Prop := ∃ c : Cell, Arr Z h a c ty ∧ c.cls = k ∧ c.slots.size = n.toNatClampNeg ∧ ¬ n < 0 ∧ (∀ i, i < c.slots.size → c.slots[i]? = some (f i)) ∧ ∀ i, i < c.slots.size → fits ty (f i) = true
def own_upd (f : Nat → Value) (j : Nat) (v : Value) : Nat → Value := fun i => if i = j then v else f i
theorem own_upd_eq {f : Nat → Value} {j : Nat} {v : Value} : own_upd f j v j = v := if_pos rfl
theorem own_upd_ne {f : Nat → Value} {i j : Nat} {v : Value} (q : i ≠ j) : own_upd f j v i = f i := if_neg q
section OwnArf
variable {Z : State} {h h' : Heap} {a b : Addr} {k : ClassId} {ty : FieldType} {n j : Int32} {f g : Nat → Value} {ws : List Addr} {sl : Nat} {v : Value} {c : Cell}
theorem own_Arf.lt (F : own_Arf Z h a k ty n f) : a < h.size := by obtain ⟨c, A, -⟩ := F; exact A.lt
theorem own_Arf.ext (F : own_Arf Z h a k ty n f) (E : Ext h h') : own_Arf Z h' a k ty n f := by obtain ⟨c, A, r⟩ := F; exact ⟨c, A.ext E, r⟩
theorem own_Arf.other (F : own_Arf Z h b k ty n f) (W : Wr h h' a sl v) (q : b ≠ a) : own_Arf Z h' b k ty n f := by obtain ⟨c, A, r⟩ := F; exact ⟨c, A.other W q, r⟩
theorem own_Arf.keep (F : own_Arf Z h a k ty n f) (K : Keep h h' ws) (q : a ∉ ws) : own_Arf Z h' a k ty n f := by obtain ⟨c, A, r⟩ := F; exact ⟨c, ⟨K.2.1 a c A.1 q, A.2⟩, r⟩
theorem own_Arf.new (A : Arr Z h a (newA k ty n) ty) (q : ¬ n < 0) : own_Arf Z h a k ty n (fun _ => defaultValue ty) := by
  obtain ⟨c, r1, r2, r3, r4, r5, r6⟩ := Arv.new A q
  exact ⟨c, r1, r2, r3, r4, fun i hi => r5 i hi, fun i hi => r6 i hi⟩
theorem own_Arf.nostat (A : own_Arf Z h a k ty n f) : ∀ cell : Cell, h[a]? = some cell → cell.vm.isStatics = false := by
  obtain ⟨c, r1, r2, r3, r4, r5, r6⟩ := A
  have q : Arv Z h a k ty n (List.ofFn fun i : Fin c.slots.size => f i) .null := by
    refine ⟨c, r1, r2, r3, r4, fun i hi => ?_, fun i hi => ?_⟩
    · rw [r5 i hi]; simp [List.getD_eq_getElem?_getD, hi]
    · have := r6 i hi; simpa [List.getD_eq_getElem?_getD, hi] using this
  exact q.nostat
theorem own_Arf.set (A : Arr Z h a c ty) (q1 : c.cls = k) (S : c.slots.size = n.toNatClampNeg) (q3 : ¬ n < 0) (H : ∀ i, i < c.slots.size → c.slots[i]? = some (f i)) (G : ∀ i, i < c.slots.size → fits ty (f i) = true) (hv : fits ty v = true) (W : Wr h h' a j.toNatClampNeg v) : own_Arf Z h' a k ty n (own_upd f j.toNatClampNeg v) := by
  have ez : (c.setSlot j.toNatClampNeg v).slots.size = c.slots.size := by simp [Cell.setSlot]
  refine ⟨_, A.same W, q1, by rw [ez]; exact S, q3, fun x hx => ?_, fun x hx => ?_⟩
  · rw [ez] at hx
    by_cases u : x = j.toNatClampNeg
    · subst u; rw [own_upd_eq]; simp [Cell.setSlot, hx]
    · rw [own_upd_ne u]; simp only [Cell.setSlot]; rw [Array.getElem?_setIfInBounds_ne (Ne.symm u)]; exact H x hx
  · rw [ez] at hx
    by_cases u : x = j.toNatClampNeg
    · subst u; rw [own_upd_eq]; exact hv
    · rw [own_upd_ne u]; exact G x hx
theorem own_at (H : ∀ i, i < c.slots.size → c.slots[i]? = some (f i)) (q : ¬ (j < 0 ∨ c.slots.size ≤ j.toNatClampNeg)) (u : f j.toNatClampNeg = v) : c.slots[j.toNatClampNeg]? = some v := u ▸ H _ (Nat.lt_of_not_le fun y => q (Or.inr y))
theorem own_Arf.congr (F : own_Arf Z h a k ty n f) (q : ∀ i, i < n.toNatClampNeg → g i = f i) : own_Arf Z h a k ty n g := by
  obtain ⟨c, r1, r2, r3, r4, r5, r6⟩ := F
  exact ⟨c, r1, r2, r3, r4, fun i hi => by rw [q i (r3 ▸ hi)]; exact r5 i hi, fun i hi => by rw [q i (r3 ▸ hi)]; exact r6 i hi⟩
theorem own_Arf.fit (F : own_Arf Z h a k ty n f) : ∀ i, i < n.toNatClampNeg → fits ty (f i) = true := by
  obtain ⟨c, r1, r2, r3, r4, r5, r6⟩ := F
  exact fun i hi => r6 i (r3.symm ▸ hi)
theorem own_any_at (H : ∀ i, i < c.slots.size → c.slots[i]? = some (f i)) (G : ∀ i, i < c.slots.size → fits ty (f i) = true) (q : ¬ (j < 0 ∨ c.slots.size ≤ j.toNatClampNeg)) (t : ty = .int ∨ ty = .boolean ∨ ty = .byte ∨ ty = .char ∨ ty = .short) : ∃ x, c.slots[j.toNatClampNeg]? = some (.int x) := by
  have b : j.toNatClampNeg < c.slots.size := Nat.lt_of_not_le fun y => q (Or.inr y)
  obtain ⟨x, hx⟩ := fit_I (G _ b) t
  exact ⟨x, hx ▸ H _ b⟩
def own_Any (Z : State) (h : Heap) (a : Addr) (k : ClassId) (ty : FieldType) (n : Int32) : Prop := ∃ f, own_Arf Z h a k ty n f
theorem own_Any.lt (F : own_Any Z h a k ty n) : a < h.size := by obtain ⟨f, F⟩ := F; exact F.lt
theorem own_Any.ext (F : own_Any Z h a k ty n) (E : Ext h h') : own_Any Z h' a k ty n := by obtain ⟨f, F⟩ := F; exact ⟨f, F.ext E⟩
theorem own_Any.other (F : own_Any Z h b k ty n) (W : Wr h h' a sl v) (q : b ≠ a) : own_Any Z h' b k ty n := by obtain ⟨f, F⟩ := F; exact ⟨f, F.other W q⟩
theorem own_Any.keep (F : own_Any Z h a k ty n) (K : Keep h h' ws) (q : a ∉ ws) : own_Any Z h' a k ty n := by obtain ⟨f, F⟩ := F; exact ⟨f, F.keep K q⟩
theorem own_Any.nostat (F : own_Any Z h a k ty n) : ∀ cell : Cell, h[a]? = some cell → cell.vm.isStatics = false := by obtain ⟨f, F⟩ := F; exact F.nostat
def own_cpf (f : Nat → Value) (sp : Nat) (g : Nat → Value) (dp n : Nat) : Nat → Value := fun i => if dp ≤ i ∧ i < dp + n then f (sp + (i - dp)) else g i
theorem own_Arf.toV (F : own_Arf Z h a k ty n f) : Arv Z h a k ty n ((List.range n.toNatClampNeg).map f) .null := by
  obtain ⟨c, r1, r2, r3, r4, r5, r6⟩ := F
  refine ⟨c, r1, r2, r3, r4, fun i hi => ?_, fun i hi => ?_⟩
  · rw [r5 i hi]; rw [r3] at hi; simp [List.getD_eq_getElem?_getD, hi]
  · have := r6 i hi; rw [r3] at hi; simpa [List.getD_eq_getElem?_getD, hi] using this
theorem own_Arf.ofV {vs : List Value} {d : Value} (F : Arv Z h a k ty n vs d) (q : ∀ i, i < n.toNatClampNeg → f i = vs.getD i d) : own_Arf Z h a k ty n f := by
  obtain ⟨c, r1, r2, r3, r4, r5, r6⟩ := F
  exact ⟨c, r1, r2, r3, r4, fun i hi => by rw [q i (r3 ▸ hi)]; exact r5 i hi, fun i hi => by rw [q i (r3 ▸ hi)]; exact r6 i hi⟩
theorem own_Arf.cl (A : Arv Z h a k ty n ((List.range n.toNatClampNeg).map f) .null) : own_Arf Z h a k ty n f := own_Arf.ofV A (fun i hi => by simp [List.getD_eq_getElem?_getD, hi])
theorem own_cpA {p : Program} {l : Launch} {e : Env} {R : Room} {s : State} {m : MethodId} {args : Array Value} {below : List Frame} {meth : Method} {c : Code} {T : State} {locs : List Loc} {cells slots : Nat} (X : Stand p l e R s m args below meth c T locs cells slots) (hx : p.tables.exec = Jvm.exec) (hZ : Z.Warmed39 s.vm) {a0 : Array Value} {own : String} {index : Nat} (hown : s.vm.findClass own = some m.cls)
    (w1 : (Cond.methodLink own index Jvm.Stand.acN).before a0 Z = true) (w2 : (Cond.native Jvm.Stand.acN).before a0 Z = true) (w3 : (Cond.static Jvm.Stand.acN).before a0 Z = true) (w4 : (Cond.initialized "java/lang/System").before a0 Z = true) (eT : T.heap = h)
    {k' : ClassId} {z' sp dp nn : Int32} {f' : Nat → Value} (A : own_Arf Z h a k ty n f) (B : own_Arf Z h b k' ty z' f') (hty : refKind ty = false)
    (h1 : ¬ sp < 0) (h2 : ¬ dp < 0) (h3 : ¬ nn < 0) (h4 : sp.toNatClampNeg + nn.toNatClampNeg ≤ n.toNatClampNeg) (h5 : dp.toNatClampNeg + nn.toNatClampNeg ≤ z'.toNatClampNeg) {n0 : Nat} (N : Fr n0 locs) (ge : n0 ≤ b)
    {g : JFrame} (hg : g.method = m) (hsize : g.locals.size = c.maxLocals) {rest : List Value} (hs : g.stack = .int nn :: .int dp :: .ref b :: .int sp :: .ref a :: rest) (hd : decode c.code g.pc = .ok (.invokestatic index, 3))
    (hf : 1 ≤ R.frames) {W : Nat} (hW : 2 * g.monitorRoom + (rest.map fun v => v.category).sum ≤ W) (hlo : W + (nativeFrameWords "java/lang/System" "arraycopy" 5 + 11) ≤ R.locals) :
    ∃ T' h' L, Stand p l e R s m args below meth c T' L cells slots ∧ T'.heap = h' ∧ Fr n0 L ∧ Keep h h' [b] ∧ own_Arf Z h' b k' ty z' (own_cpf f sp.toNatClampNeg f' dp.toNatClampNeg nn.toNatClampNeg) ∧
      ∀ target, Steps p.tables e below (T'.setTop { g with pc := g.pc + 3, stack := rest }) target → Steps p.tables e below (T.setTop g) target := by
  obtain ⟨T', h', L, q1, q2, q3, q4, q5, q6⟩ := cpA X hx hZ hown w1 w2 w3 w4 eT A.toV B.toV (us := (List.range nn.toNatClampNeg).map fun i => ((List.range n.toNatClampNeg).map f).getD (sp.toNatClampNeg + i) .null) (Or.inl ⟨rfl, hty⟩) h1 h2 h3 h4 h5 rfl (by simpa using h5) N ge hg hsize hs hd hf hW hlo
  refine ⟨T', h', L, q1, q2, q3, q4, own_Arf.ofV q5 fun i hi => ?_, q6⟩
  simp only [own_cpf, List.getD_eq_getElem?_getD]
  by_cases c1 : i < dp.toNatClampNeg
  · rw [if_neg (by omega), List.append_assoc, List.getElem?_append_left (by simp; omega), List.getElem?_take_of_lt c1]; simp [hi]
  · by_cases c2 : i < dp.toNatClampNeg + nn.toNatClampNeg
    · rw [if_pos ⟨by omega, c2⟩, List.getElem?_append_left (by simp; omega), List.getElem?_append_right (by simp; omega)]
      have e1 : (List.take dp.toNatClampNeg (List.map f' (List.range z'.toNatClampNeg))).length = dp.toNatClampNeg := by simp; omega
      rw [e1]
      have e2 : i - dp.toNatClampNeg < nn.toNatClampNeg := by omega
      have e3 : sp.toNatClampNeg + (i - dp.toNatClampNeg) < n.toNatClampNeg := by omega
      simp [e2, e3]
    · rw [if_neg (by omega), List.getElem?_append_right (by simp; omega)]
      have e1 : (List.take dp.toNatClampNeg (List.map f' (List.range z'.toNatClampNeg)) ++ (List.range nn.toNatClampNeg).map fun i => ((List.map f (List.range n.toNatClampNeg))[sp.toNatClampNeg + i]?).getD .null).length = dp.toNatClampNeg + nn.toNatClampNeg := by simp; omega
      rw [e1, List.getElem?_drop, show dp.toNatClampNeg + nn.toNatClampNeg + (i - (dp.toNatClampNeg + nn.toNatClampNeg)) = i by omega]
      simp [hi]
end OwnArf
theorem own_mono {l : Launch} {x : MethodName} {S : Spec} {P : Array Value → State → Prop} {K : Program → Env → List Frame → State → Array Value → Prop} {Q Q' : Option Value → Heap → List Loc → Prop} {E : State → Outcome → State → List Loc → Prop} (M : MetFree l x S P K (fun _ U o U' => ∃ v L, o = .returned v ∧ Q v U'.heap L ∧ E U o U' L)) (H : ∀ v h L, Q v h L → Q' v h L) : MetFree l x S P K (fun _ U o U' => ∃ v L, o = .returned v ∧ Q' v U'.heap L ∧ E U o U' L) := fun p e a1 a2 a3 s m args below a4 a5 a6 a7 => by
  obtain ⟨n, o, b1, b2, b3, v, L, c1, c2, c3⟩ := M p e a1 a2 a3 s m args below a4 a5 a6 a7
  exact ⟨n, o, b1, b2, b3, v, L, c1, H _ _ _ c2, c3⟩
def own_At (p : Program) (l : Launch) (e : Env) (R : Room) (s : State) (m : MethodId) (args : Array Value) (below : List Frame) (meth : Method) (c : Code) (n0 cells slots : Nat) (h : Heap) (T : State) : Prop := ∃ L, Stand p l e R s m args below meth c T L cells slots ∧ T.heap = h ∧ Fr n0 L
def own_Seg (p : Program) (l : Launch) (e : Env) (R : Room) (s : State) (m : MethodId) (args : Array Value) (below : List Frame) (meth : Method) (c : Code) (n0 c1 s1 c2 s2 : Nat) (h : Heap) (g : JFrame) (Q : Heap → JFrame → Prop) : Prop := ∀ T, own_At p l e R s m args below meth c n0 c1 s1 h T → ∃ T' h' g', Q h' g' ∧ own_At p l e R s m args below meth c n0 c2 s2 h' T' ∧ ∀ t, Steps p.tables e below (T'.setTop g') t → Steps p.tables e below (T.setTop g) t
section OwnSeg
variable {p : Program} {l : Launch} {e : Env} {R : Room} {s : State} {m : MethodId} {args : Array Value} {below : List Frame} {meth : Method} {c : Code} {n0 c1 s1 c2 s2 c3 s3 : Nat} {h : Heap} {g : JFrame} {Q Q' : Heap → JFrame → Prop}
theorem own_Seg.bind (A : own_Seg p l e R s m args below meth c n0 c1 s1 c2 s2 h g Q) (B : ∀ h' g', Q h' g' → own_Seg p l e R s m args below meth c n0 c2 s2 c3 s3 h' g' Q') : own_Seg p l e R s m args below meth c n0 c1 s1 c3 s3 h g Q' := fun T a => by
  obtain ⟨T1, h1, g1, q1, a1, k1⟩ := A T a
  obtain ⟨T2, h2, g2, q2, a2, k2⟩ := B h1 g1 q1 T1 a1
  exact ⟨T2, h2, g2, q2, a2, fun t k => k1 t (k2 t k)⟩
theorem own_Seg.mono (A : own_Seg p l e R s m args below meth c n0 c1 s1 c2 s2 h g Q) (B : ∀ h' g', Q h' g' → Q' h' g') : own_Seg p l e R s m args below meth c n0 c1 s1 c2 s2 h g Q' := fun T a => by
  obtain ⟨T1, h1, g1, q1, a1, k1⟩ := A T a
  exact ⟨T1, h1, g1, B _ _ q1, a1, k1⟩
theorem own_Seg.done (q : Q h g) : own_Seg p l e R s m args below meth c n0 c1 s1 c1 s1 h g Q := fun T a => ⟨T, h, g, q, a, fun _ k => k⟩
end OwnSeg
abbrev vI (x : Int32) : Slot := .val (.int x)
abbrev vR (x : Addr) : Slot := .val (.ref x)
abbrev cLW : String := "com/example/reteweave/reteweave/network/ProductionNodeMatchesPinLaw"
abbrev cTU : String := "com/example/reteweave/reteweave/network/Tuple"
abbrev cPN : String := "com/example/reteweave/reteweave/network/ProductionNode"
abbrev cND : String := "com/example/reteweave/reteweave/network/Node"
abbrev cDV : String := "com/example/reteweave/reteweave/network/Derivations"
abbrev cTC : String := "com/example/reteweave/reteweave/network/TupleCounts"
abbrev cSL : String := "com/example/reteweave/reteweave/network/SlotTable"
abbrev cVW : String := "com/example/reteweave/reteweave/network/TupleCounts$View"
abbrev cOA : String := "[Ljava/lang/Object;"
abbrev cAL : String := "java/util/ArrayList"
abbrev cLG : String := "java/lang/Long"
abbrev cHM : String := "java/util/HashMap"
abbrev dC : String := "Lcom/example/reteweave/reteweave/network/TupleCounts;"
abbrev dF : String := "Lcom/example/reteweave/reteweave/network/Fixpoint;"
abbrev dD : String := "Lcom/example/reteweave/reteweave/network/Derivations;"
abbrev dI : String := "(Lcom/example/reteweave/reteweave/network/Tuple;I)I"
abbrev dV : String := "(Lcom/example/reteweave/reteweave/network/Tuple;I)V"
abbrev dG : String := "(ILcom/example/reteweave/reteweave/network/Tuple;)I"
abbrev dH : String := "(Ljava/lang/Object;Lcom/example/reteweave/reteweave/network/Tuple;)Z"
abbrev dN : String := "(Lcom/example/reteweave/reteweave/network/Tuple;)I"
abbrev SP (p : Program) (e : Env) (b : List Frame) (T : State) (g : JFrame) (t : State) : Prop := Steps p.tables e b (T.setTop g) t
abbrev MF (l : Launch) (Z : State) (h0 : Heap) (ws : List Jvm.Cond) (y : MethodName) (b : ByteArray) (k : Nat) (r : Option FieldType) (R : Room) (a : Array Value) (Q : Option Value → Heap → List Loc → Prop) : Prop := MetFree l y (head1 (Jvm.Cond.code y b k r :: ws) R) (fun a' U => a' = a ∧ Z.Warmed39 U.vm ∧ U.heap = h0) (fun _ _ _ _ _ => True) (fun _ U o U' => ∃ v L, o = .returned v ∧ Q v U'.heap L ∧ FrameEnd U o U' L R.cells R.slots)
abbrev HW (Z : State) (az : Array Value) : Prop := ∀ d ∈ tables_1, d.before az Z = true
theorem own_nle {a b : Nat} (h : Nat.ble a b = true) : a ≤ b := Nat.le_of_ble_eq_true h
theorem own_body {l : Launch} {Z : State} {h0 : Heap} {ws : List Jvm.Cond} {y : MethodName} {b : ByteArray} {k : Nat} {r : Option FieldType} {R : Room} {a : Array Value} {Q : Option Value → Heap → List Loc → Prop} {F : MethodId → JFrame} (own : String) (n0 : Nat) (ho : y.cls = own)
    (hp : plainFor y = true) (ef : ∀ m, entryFrame m a k = F m)
    (body : ∀ (p : Program) (e : Env) (s : State) (m : MethodId) (below : List Frame) (meth : Method) (c : Code) (s₁ : State), BodyLoose p l y (head1 (Jvm.Cond.code y b k r :: ws) R) b k r e s m a below meth c s₁ → p.tables.exec = Jvm.exec → c.code = b → c.maxLocals = k → s.vm.findClass own = some m.cls → Z.Warmed39 s.vm → Stand p l e R s m a below meth c s₁ [] 0 0 → s₁.heap = h0 → Fr n0 ([] : List Loc) →
      (∀ t, Steps p.tables e below (s₁.setTop (F m)) t → Steps p.tables e below (s₁.setTop (entryFrame m a k)) t) →
      ∃ s₂ o, Steps p.tables e below (s₁.setTop (entryFrame m a k)) s₂ ∧ s₂.status = .running ∧ Ended s₂ below o ∧ ∃ v L, o = .returned v ∧ Q v s₂.heap L ∧ FrameEnd s o s₂ L R.cells R.slots) :
    MF l Z h0 ws y b k r R a Q := by
  refine MetFree.of_bodySF hp hisR ?_
  intro p e s m args below meth c s₁ Bd hml0 hP hK
  obtain ⟨rfl, hZ, hh⟩ := hP
  subst ho
  exact body p e s m below meth c s₁ Bd Bd.exec Bd.bytes hml0 (findClass_of_methodNamed Bd.named) hZ (Stand.of_body Bd) (by rw [← hh, Bd.state]; rfl) (Fr.nil n0) fun t k => castTop (ef m) k
abbrev HB (Z : State) (az : Array Value) (d : Jvm.Cond) : Prop := HW Z az → d.before az Z = true
theorem wg {Z : State} {az : Array Value} {d : Jvm.Cond} (i : Nat) (h : tables_1[i]? = some d) : HB Z az d := fun hw => hw _ (List.mem_of_getElem? h)
abbrev dc (b : ByteArray) (i : Nat) (o : Instr) (n : Nat) : Prop := decode b i = .ok (o, n)
section OwnW
variable {Z : State} {az : Array Value}
theorem w0 : HB Z az (.classLink cLW 2 "java/lang/Object") := wg 0 rfl
theorem w1 : HB Z az (.arrayOver (FieldType.object "java/lang/Object")) := wg 1 rfl
theorem w2 : HB Z az (.methodLink cLW 7 ⟨cLG, "valueOf", "(J)Ljava/lang/Long;"⟩) := wg 2 rfl
theorem w3 : HB Z az (.static ⟨cLG, "valueOf", "(J)Ljava/lang/Long;"⟩) := wg 3 rfl
theorem w4 : HB Z az (.initialized cLG) := wg 4 rfl
theorem w5 : HB Z az (.code ⟨cLG, "valueOf", "(J)Ljava/lang/Long;"⟩ kB5 3 (some (FieldType.object cLG))) := wg 5 rfl
theorem w6 : HB Z az (.constantLong cLG 230 (-128 : Int64)) := wg 6 rfl
theorem w7 : HB Z az (.constantLong cLG 232 (127 : Int64)) := wg 7 rfl
theorem w8 : HB Z az (.fieldLink cLG 234 "java/lang/Long$LongCache" "cache" "[Ljava/lang/Long;") := wg 8 rfl
theorem w10 : HB Z az (.castable cLG "java/lang/Object") := wg 10 rfl
theorem w11 : HB Z az (.methodLink cLW 13 ⟨cTU, "of", "([Ljava/lang/Object;)Lcom/example/reteweave/reteweave/network/Tuple;"⟩) := wg 11 rfl
theorem w12 : HB Z az (.static ⟨cTU, "of", "([Ljava/lang/Object;)Lcom/example/reteweave/reteweave/network/Tuple;"⟩) := wg 12 rfl
theorem w13 : HB Z az (.initialized cTU) := wg 13 rfl
theorem w14 : HB Z az (.code ⟨cTU, "of", "([Ljava/lang/Object;)Lcom/example/reteweave/reteweave/network/Tuple;"⟩ kB41 1 (some (FieldType.object cTU))) := wg 14 rfl
theorem w15 : HB Z az (.methodLink cTU 23 ⟨cOA, "clone", "()Ljava/lang/Object;"⟩) := wg 15 rfl
theorem w16 : HB Z az (.sameMethod cOA "java/lang/Object" "clone" "()Ljava/lang/Object;") := wg 16 rfl
theorem w18 : HB Z az (.instanceMethod ⟨"java/lang/Object", "clone", "()Ljava/lang/Object;"⟩) := wg 18 rfl
theorem w19 : HB Z az (.selects cOA ⟨cOA, "clone", "()Ljava/lang/Object;"⟩ ⟨"java/lang/Object", "clone", "()Ljava/lang/Object;"⟩) := wg 19 rfl
theorem w20 : HB Z az (.native ⟨"java/lang/Object", "clone", "()Ljava/lang/Object;"⟩) := wg 20 rfl
theorem w21 : HB Z az (.castable cOA "java/lang/Cloneable") := wg 21 rfl
theorem w22 : HB Z az (.classLink cTU 24 cOA) := wg 22 rfl
theorem w24 : HB Z az (.methodLink cTU 28 ⟨cTU, "holding", "([Ljava/lang/Object;)Lcom/example/reteweave/reteweave/network/Tuple;"⟩) := wg 24 rfl
theorem w25 : HB Z az (.static ⟨cTU, "holding", "([Ljava/lang/Object;)Lcom/example/reteweave/reteweave/network/Tuple;"⟩) := wg 25 rfl
theorem w26 : HB Z az (.code ⟨cTU, "holding", "([Ljava/lang/Object;)Lcom/example/reteweave/reteweave/network/Tuple;"⟩ kB42 5 (some (FieldType.object cTU))) := wg 26 rfl
theorem w27 : HB Z az (.classLink cTU 8 cTU) := wg 27 rfl
theorem w28 : HB Z az (.instantiable cTU 2) := wg 28 rfl
theorem w29 : HB Z az (.methodLink cTU 43 ⟨cTU, "<init>", "([Ljava/lang/Object;)V"⟩) := wg 29 rfl
theorem w30 : HB Z az (.instanceMethod ⟨cTU, "<init>", "([Ljava/lang/Object;)V"⟩) := wg 30 rfl
theorem w31 : HB Z az (.code ⟨cTU, "<init>", "([Ljava/lang/Object;)V"⟩ kB40 2 none) := wg 31 rfl
theorem w32 : HB Z az (.methodLink cTU 1 ⟨"java/lang/Object", "<init>", "()V"⟩) := wg 32 rfl
theorem w33 : HB Z az (.instanceMethod ⟨"java/lang/Object", "<init>", "()V"⟩) := wg 33 rfl
theorem w34 : HB Z az (.code ⟨"java/lang/Object", "<init>", "()V"⟩ object_method_1_code 1 none) := wg 34 rfl
theorem w35 : HB Z az (.fieldLink cTU 7 cTU "values" cOA) := wg 35 rfl
theorem w36 : HB Z az (.laysFinal cTU cTU "values" cOA) := wg 36 rfl
theorem w37 : HB Z az (.methodLink cTU 13 ⟨"java/util/Arrays", "hashCode", "([Ljava/lang/Object;)I"⟩) := wg 37 rfl
theorem w38 : HB Z az (.static ⟨"java/util/Arrays", "hashCode", "([Ljava/lang/Object;)I"⟩) := wg 38 rfl
theorem w39 : HB Z az (.initialized "java/util/Arrays") := wg 39 rfl
theorem w40 : HB Z az (.code ⟨"java/util/Arrays", "hashCode", "([Ljava/lang/Object;)I"⟩ kB14 6 (some FieldType.int)) := wg 40 rfl
theorem w41 : HB Z az (.methodLink "java/util/Arrays" 383 ⟨"java/lang/Object", "hashCode", "()I"⟩) := wg 41 rfl
theorem w42 : HB Z az (.declares ⟨"java/lang/Object", "hashCode", "()I"⟩) := wg 42 rfl
theorem w44 : HB Z az (.selects cLG ⟨"java/lang/Object", "hashCode", "()I"⟩ ⟨cLG, "hashCode", "()I"⟩) := wg 44 rfl
theorem w45 : HB Z az (.instanceMethod ⟨cLG, "hashCode", "()I"⟩) := wg 45 rfl
theorem w46 : HB Z az (.code ⟨cLG, "hashCode", "()I"⟩ kB8 1 (some FieldType.int)) := wg 46 rfl
theorem w47 : HB Z az (.fieldLink cLG 273 cLG "value" "J") := wg 47 rfl
theorem w48 : HB Z az (.laysFinal cLG cLG "value" "J") := wg 48 rfl
theorem w49 : HB Z az (.methodLink cLG 277 ⟨cLG, "hashCode", "(J)I"⟩) := wg 49 rfl
theorem w50 : HB Z az (.static ⟨cLG, "hashCode", "(J)I"⟩) := wg 50 rfl
theorem w51 : HB Z az (.code ⟨cLG, "hashCode", "(J)I"⟩ kB9 2 (some FieldType.int)) := wg 51 rfl
theorem w52 : HB Z az (.fieldLink cTU 19 cTU "hash" "I") := wg 52 rfl
theorem w53 : HB Z az (.laysFinal cTU cTU "hash" "I") := wg 53 rfl
theorem w54 : HB Z az (.classLink cLW 19 cPN) := wg 54 rfl
theorem w55 : HB Z az (.instantiable cPN 5) := wg 55 rfl
theorem w56 : HB Z az (.initialized cPN) := wg 56 rfl
theorem w57 : HB Z az (.methodLink cLW 21 ⟨cPN, "<init>", "()V"⟩) := wg 57 rfl
theorem w58 : HB Z az (.instanceMethod ⟨cPN, "<init>", "()V"⟩) := wg 58 rfl
theorem w59 : HB Z az (.code ⟨cPN, "<init>", "()V"⟩ kB23 1 none) := wg 59 rfl
theorem w60 : HB Z az (.methodLink cPN 1 ⟨cPN, "<init>", "(Lcom/example/reteweave/reteweave/network/Fixpoint;)V"⟩) := wg 60 rfl
theorem w61 : HB Z az (.instanceMethod ⟨cPN, "<init>", "(Lcom/example/reteweave/reteweave/network/Fixpoint;)V"⟩) := wg 61 rfl
theorem w62 : HB Z az (.code ⟨cPN, "<init>", "(Lcom/example/reteweave/reteweave/network/Fixpoint;)V"⟩ kB24 2 none) := wg 62 rfl
theorem w63 : HB Z az (.methodLink cPN 7 ⟨cND, "<init>", "()V"⟩) := wg 63 rfl
theorem w64 : HB Z az (.instanceMethod ⟨cND, "<init>", "()V"⟩) := wg 64 rfl
theorem w66 : HB Z az (.initialized cND) := wg 66 rfl
theorem w67 : HB Z az (.code ⟨cND, "<init>", "()V"⟩ kB20 1 none) := wg 67 rfl
theorem w68 : HB Z az (.methodLink cND 1 ⟨"java/lang/Object", "<init>", "()V"⟩) := wg 68 rfl
theorem w69 : HB Z az (.classLink cND 7 cAL) := wg 69 rfl
theorem w70 : HB Z az (.instantiable cAL 3) := wg 70 rfl
theorem w71 : HB Z az (.initialized cAL) := wg 71 rfl
theorem w72 : HB Z az (.methodLink cND 9 ⟨cAL, "<init>", "()V"⟩) := wg 72 rfl
theorem w73 : HB Z az (.instanceMethod ⟨cAL, "<init>", "()V"⟩) := wg 73 rfl
theorem w74 : HB Z az (.code ⟨cAL, "<init>", "()V"⟩ kB11 1 none) := wg 74 rfl
theorem w75 : HB Z az (.methodLink cAL 1 ⟨"java/util/AbstractList", "<init>", "()V"⟩) := wg 75 rfl
theorem w76 : HB Z az (.instanceMethod ⟨"java/util/AbstractList", "<init>", "()V"⟩) := wg 76 rfl
theorem w79 : HB Z az (.initialized "java/util/AbstractList") := wg 79 rfl
theorem w80 : HB Z az (.code ⟨"java/util/AbstractList", "<init>", "()V"⟩ kB13 1 none) := wg 80 rfl
theorem w81 : HB Z az (.methodLink "java/util/AbstractList" 1 ⟨"java/util/AbstractCollection", "<init>", "()V"⟩) := wg 81 rfl
theorem w82 : HB Z az (.instanceMethod ⟨"java/util/AbstractCollection", "<init>", "()V"⟩) := wg 82 rfl
theorem w85 : HB Z az (.initialized "java/util/AbstractCollection") := wg 85 rfl
theorem w86 : HB Z az (.code ⟨"java/util/AbstractCollection", "<init>", "()V"⟩ kB2 1 none) := wg 86 rfl
theorem w87 : HB Z az (.methodLink "java/util/AbstractCollection" 1 ⟨"java/lang/Object", "<init>", "()V"⟩) := wg 87 rfl
theorem w88 : HB Z az (.fieldLink "java/util/AbstractList" 7 "java/util/AbstractList" "modCount" "I") := wg 88 rfl
theorem w89 : HB Z az (.lays cAL "java/util/AbstractList" "modCount" "I") := wg 89 rfl
theorem w90 : HB Z az (.fieldLink cAL 39 cAL "DEFAULTCAPACITY_EMPTY_ELEMENTDATA" cOA) := wg 90 rfl
theorem w91 : HB Z az (.fieldLink cAL 9 cAL "elementData" cOA) := wg 91 rfl
theorem w92 : HB Z az (.lays cAL cAL "elementData" cOA) := wg 92 rfl
theorem w93 : HB Z az (.fieldLink cND 10 cND "readers" "Ljava/util/List;") := wg 93 rfl
theorem w94 : HB Z az (.laysFinal cPN cND "readers" "Ljava/util/List;") := wg 94 rfl
theorem w95 : HB Z az (.classLink cPN 12 cDV) := wg 95 rfl
theorem w96 : HB Z az (.instantiable cDV 1) := wg 96 rfl
theorem w97 : HB Z az (.initialized cDV) := wg 97 rfl
theorem w98 : HB Z az (.methodLink cPN 14 ⟨cDV, "<init>", "()V"⟩) := wg 98 rfl
theorem w99 : HB Z az (.instanceMethod ⟨cDV, "<init>", "()V"⟩) := wg 99 rfl
theorem w100 : HB Z az (.code ⟨cDV, "<init>", "()V"⟩ kB51 1 none) := wg 100 rfl
theorem w101 : HB Z az (.methodLink cDV 1 ⟨"java/lang/Object", "<init>", "()V"⟩) := wg 101 rfl
theorem w102 : HB Z az (.classLink cDV 7 cTC) := wg 102 rfl
theorem w103 : HB Z az (.instantiable cTC 3) := wg 103 rfl
theorem w104 : HB Z az (.initialized cTC) := wg 104 rfl
theorem w105 : HB Z az (.methodLink cDV 9 ⟨cTC, "<init>", "()V"⟩) := wg 105 rfl
theorem w106 : HB Z az (.instanceMethod ⟨cTC, "<init>", "()V"⟩) := wg 106 rfl
theorem w107 : HB Z az (.code ⟨cTC, "<init>", "()V"⟩ kB43 1 none) := wg 107 rfl
theorem w108 : HB Z az (.methodLink cTC 1 ⟨cSL, "<init>", "()V"⟩) := wg 108 rfl
theorem w109 : HB Z az (.instanceMethod ⟨cSL, "<init>", "()V"⟩) := wg 109 rfl
theorem w111 : HB Z az (.initialized cSL) := wg 111 rfl
theorem w112 : HB Z az (.code ⟨cSL, "<init>", "()V"⟩ kB33 1 none) := wg 112 rfl
theorem w113 : HB Z az (.methodLink cSL 1 ⟨"java/lang/Object", "<init>", "()V"⟩) := wg 113 rfl
theorem w114 : HB Z az (.classLink cSL 2 "java/lang/Object") := wg 114 rfl
theorem w115 : HB Z az (.fieldLink cSL 9 cSL "held" cOA) := wg 115 rfl
theorem w116 : HB Z az (.lays cTC cSL "held" cOA) := wg 116 rfl
theorem w117 : HB Z az (.arrayClass FieldType.long) := wg 117 rfl
theorem w118 : HB Z az (.fieldLink cSL 13 cSL "hashesAndCounts" "[J") := wg 118 rfl
theorem w119 : HB Z az (.lays cTC cSL "hashesAndCounts" "[J") := wg 119 rfl
theorem w120 : HB Z az (.fieldLink cDV 10 cDV "counts" dC) := wg 120 rfl
theorem w121 : HB Z az (.laysFinal cDV cDV "counts" dC) := wg 121 rfl
theorem w122 : HB Z az (.fieldLink cPN 15 cPN "derivations" dD) := wg 122 rfl
theorem w123 : HB Z az (.laysFinal cPN cPN "derivations" dD) := wg 123 rfl
theorem w124 : HB Z az (.classLink cPN 19 cTC) := wg 124 rfl
theorem w125 : HB Z az (.methodLink cPN 21 ⟨cTC, "<init>", "()V"⟩) := wg 125 rfl
theorem w126 : HB Z az (.fieldLink cPN 22 cPN "told" dC) := wg 126 rfl
theorem w127 : HB Z az (.laysFinal cPN cPN "told" dC) := wg 127 rfl
theorem w128 : HB Z az (.classLink cPN 26 cHM) := wg 128 rfl
theorem w129 : HB Z az (.instantiable cHM 8) := wg 129 rfl
theorem w130 : HB Z az (.initialized cHM) := wg 130 rfl
theorem w131 : HB Z az (.methodLink cPN 28 ⟨cHM, "<init>", "()V"⟩) := wg 131 rfl
theorem w132 : HB Z az (.instanceMethod ⟨cHM, "<init>", "()V"⟩) := wg 132 rfl
theorem w133 : HB Z az (.code ⟨cHM, "<init>", "()V"⟩ kB17 1 none) := wg 133 rfl
theorem w134 : HB Z az (.methodLink cHM 43 ⟨"java/util/AbstractMap", "<init>", "()V"⟩) := wg 134 rfl
theorem w135 : HB Z az (.instanceMethod ⟨"java/util/AbstractMap", "<init>", "()V"⟩) := wg 135 rfl
theorem w138 : HB Z az (.initialized "java/util/AbstractMap") := wg 138 rfl
theorem w139 : HB Z az (.code ⟨"java/util/AbstractMap", "<init>", "()V"⟩ kB18 1 none) := wg 139 rfl
theorem w140 : HB Z az (.methodLink "java/util/AbstractMap" 1 ⟨"java/lang/Object", "<init>", "()V"⟩) := wg 140 rfl
theorem w141 : HB Z az (.constantFloat cHM 92 (1061158912 : UInt32)) := wg 141 rfl
theorem w142 : HB Z az (.fieldLink cHM 81 cHM "loadFactor" "F") := wg 142 rfl
theorem w143 : HB Z az (.laysFinal cHM cHM "loadFactor" "F") := wg 143 rfl
theorem w144 : HB Z az (.fieldLink cPN 29 cPN "indexes" "Ljava/util/Map;") := wg 144 rfl
theorem w145 : HB Z az (.laysFinal cPN cPN "indexes" "Ljava/util/Map;") := wg 145 rfl
theorem w146 : HB Z az (.fieldLink cPN 33 cPN "fixpoint" dF) := wg 146 rfl
theorem w147 : HB Z az (.laysFinal cPN cPN "fixpoint" dF) := wg 147 rfl
theorem w148 : HB Z az (.methodLink cLW 22 ⟨cPN, "update", dV⟩) := wg 148 rfl
theorem w149 : HB Z az (.declares ⟨cPN, "update", dV⟩) := wg 149 rfl
theorem w150 : HB Z az (.instanceMethod ⟨cPN, "update", dV⟩) := wg 150 rfl
theorem w151 : HB Z az (.selects cPN ⟨cPN, "update", dV⟩ ⟨cPN, "update", dV⟩) := wg 151 rfl
theorem w152 : HB Z az (.code ⟨cPN, "update", dV⟩ kB25 4 none) := wg 152 rfl
theorem w153 : HB Z az (.methodLink cPN 41 ⟨cDV, "add", dI⟩) := wg 153 rfl
theorem w154 : HB Z az (.declares ⟨cDV, "add", dI⟩) := wg 154 rfl
theorem w155 : HB Z az (.instanceMethod ⟨cDV, "add", dI⟩) := wg 155 rfl
theorem w156 : HB Z az (.selects cDV ⟨cDV, "add", dI⟩ ⟨cDV, "add", dI⟩) := wg 156 rfl
theorem w157 : HB Z az (.code ⟨cDV, "add", dI⟩ kB52 6 (some FieldType.int)) := wg 157 rfl
theorem w158 : HB Z az (.methodLink cDV 16 ⟨cTC, "count", dN⟩) := wg 158 rfl
theorem w159 : HB Z az (.declares ⟨cTC, "count", dN⟩) := wg 159 rfl
theorem w160 : HB Z az (.instanceMethod ⟨cTC, "count", dN⟩) := wg 160 rfl
theorem w161 : HB Z az (.selects cTC ⟨cTC, "count", dN⟩ ⟨cTC, "count", dN⟩) := wg 161 rfl
theorem w162 : HB Z az (.code ⟨cTC, "count", dN⟩ kB45 3 (some FieldType.int)) := wg 162 rfl
theorem w163 : HB Z az (.methodLink cTC 13 ⟨cTU, "hashCode", "()I"⟩) := wg 163 rfl
theorem w164 : HB Z az (.declares ⟨cTU, "hashCode", "()I"⟩) := wg 164 rfl
theorem w165 : HB Z az (.instanceMethod ⟨cTU, "hashCode", "()I"⟩) := wg 165 rfl
theorem w166 : HB Z az (.selects cTU ⟨cTU, "hashCode", "()I"⟩ ⟨cTU, "hashCode", "()I"⟩) := wg 166 rfl
theorem w167 : HB Z az (.code ⟨cTU, "hashCode", "()I"⟩ kB39 1 (some FieldType.int)) := wg 167 rfl
theorem w168 : HB Z az (.methodLink cTC 19 ⟨cTC, "find", dG⟩) := wg 168 rfl
theorem w169 : HB Z az (.sameMethod cTC cSL "find" dG) := wg 169 rfl
theorem w170 : HB Z az (.declares ⟨cSL, "find", dG⟩) := wg 170 rfl
theorem w171 : HB Z az (.instanceMethod ⟨cSL, "find", dG⟩) := wg 171 rfl
theorem w172 : HB Z az (.selects cTC ⟨cTC, "find", dG⟩ ⟨cSL, "find", dG⟩) := wg 172 rfl
theorem w173 : HB Z az (.code ⟨cSL, "find", dG⟩ kB37 5 (some FieldType.int)) := wg 173 rfl
theorem w174 : HB Z az (.methodLink cSL 33 ⟨cSL, "home", "(II)I"⟩) := wg 174 rfl
theorem w175 : HB Z az (.static ⟨cSL, "home", "(II)I"⟩) := wg 175 rfl
theorem w176 : HB Z az (.code ⟨cSL, "home", "(II)I"⟩ kB32 2 (some FieldType.int)) := wg 176 rfl
theorem w177 : HB Z az (.constant cSL 61 (-1640531527 : Int32)) := wg 177 rfl
theorem w178 : HB Z az (.methodLink cSL 62 ⟨"java/lang/Integer", "numberOfLeadingZeros", "(I)I"⟩) := wg 178 rfl
theorem w179 : HB Z az (.static ⟨"java/lang/Integer", "numberOfLeadingZeros", "(I)I"⟩) := wg 179 rfl
theorem w180 : HB Z az (.initialized "java/lang/Integer") := wg 180 rfl
theorem w181 : HB Z az (.code ⟨"java/lang/Integer", "numberOfLeadingZeros", "(I)I"⟩ kB4 2 (some FieldType.int)) := wg 181 rfl
theorem w182 : HB Z az (.constant "java/lang/Integer" 264 (65536 : Int32)) := wg 182 rfl
theorem w183 : HB Z az (.methodLink cDV 35 ⟨cTC, "add", dI⟩) := wg 183 rfl
theorem w184 : HB Z az (.declares ⟨cTC, "add", dI⟩) := wg 184 rfl
theorem w185 : HB Z az (.instanceMethod ⟨cTC, "add", dI⟩) := wg 185 rfl
theorem w186 : HB Z az (.selects cTC ⟨cTC, "add", dI⟩ ⟨cTC, "add", dI⟩) := wg 186 rfl
theorem w187 : HB Z az (.code ⟨cTC, "add", dI⟩ kB46 5 (some FieldType.int)) := wg 187 rfl
theorem w188 : HB Z az (.methodLink cLW 26 ⟨cPN, "matches", "()Ljava/util/Set;"⟩) := wg 188 rfl
theorem w189 : HB Z az (.declares ⟨cPN, "matches", "()Ljava/util/Set;"⟩) := wg 189 rfl
theorem w190 : HB Z az (.instanceMethod ⟨cPN, "matches", "()Ljava/util/Set;"⟩) := wg 190 rfl
theorem w191 : HB Z az (.selects cPN ⟨cPN, "matches", "()Ljava/util/Set;"⟩ ⟨cPN, "matches", "()Ljava/util/Set;"⟩) := wg 191 rfl
theorem w192 : HB Z az (.code ⟨cPN, "matches", "()Ljava/util/Set;"⟩ kB26 1 (some (FieldType.object "java/util/Set"))) := wg 192 rfl
theorem w193 : HB Z az (.methodLink cPN 58 ⟨cDV, "tuples", "()Ljava/util/Set;"⟩) := wg 193 rfl
theorem w194 : HB Z az (.declares ⟨cDV, "tuples", "()Ljava/util/Set;"⟩) := wg 194 rfl
theorem w195 : HB Z az (.instanceMethod ⟨cDV, "tuples", "()Ljava/util/Set;"⟩) := wg 195 rfl
theorem w196 : HB Z az (.selects cDV ⟨cDV, "tuples", "()Ljava/util/Set;"⟩ ⟨cDV, "tuples", "()Ljava/util/Set;"⟩) := wg 196 rfl
theorem w197 : HB Z az (.code ⟨cDV, "tuples", "()Ljava/util/Set;"⟩ kB53 1 (some (FieldType.object "java/util/Set"))) := wg 197 rfl
theorem w198 : HB Z az (.methodLink cDV 39 ⟨cTC, "tuples", "()Ljava/util/Set;"⟩) := wg 198 rfl
theorem w199 : HB Z az (.declares ⟨cTC, "tuples", "()Ljava/util/Set;"⟩) := wg 199 rfl
theorem w200 : HB Z az (.instanceMethod ⟨cTC, "tuples", "()Ljava/util/Set;"⟩) := wg 200 rfl
theorem w201 : HB Z az (.selects cTC ⟨cTC, "tuples", "()Ljava/util/Set;"⟩ ⟨cTC, "tuples", "()Ljava/util/Set;"⟩) := wg 201 rfl
theorem w202 : HB Z az (.code ⟨cTC, "tuples", "()Ljava/util/Set;"⟩ kB47 1 (some (FieldType.object "java/util/Set"))) := wg 202 rfl
theorem w203 : HB Z az (.classLink cTC 53 cVW) := wg 203 rfl
theorem w204 : HB Z az (.instantiable cVW 1) := wg 204 rfl
theorem w205 : HB Z az (.initialized cVW) := wg 205 rfl
theorem w206 : HB Z az (.methodRef cTC 55 ⟨cVW, "<init>", "(Lcom/example/reteweave/reteweave/network/TupleCounts;)V"⟩) := wg 206 rfl
theorem w207 : HB Z az (.instanceMethod ⟨cVW, "<init>", "(Lcom/example/reteweave/reteweave/network/TupleCounts;)V"⟩) := wg 207 rfl
theorem w208 : HB Z az (.code ⟨cVW, "<init>", "(Lcom/example/reteweave/reteweave/network/TupleCounts;)V"⟩ kB48 2 none) := wg 208 rfl
theorem w209 : HB Z az (.fieldLink cVW 1 cVW "this$0" dC) := wg 209 rfl
theorem w210 : HB Z az (.laysFinal cVW cVW "this$0" dC) := wg 210 rfl
theorem w211 : HB Z az (.methodLink cVW 7 ⟨"java/util/AbstractSet", "<init>", "()V"⟩) := wg 211 rfl
theorem w212 : HB Z az (.instanceMethod ⟨"java/util/AbstractSet", "<init>", "()V"⟩) := wg 212 rfl
theorem w214 : HB Z az (.initialized "java/util/AbstractSet") := wg 214 rfl
theorem w215 : HB Z az (.code ⟨"java/util/AbstractSet", "<init>", "()V"⟩ kB19 1 none) := wg 215 rfl
theorem w216 : HB Z az (.methodLink "java/util/AbstractSet" 1 ⟨"java/util/AbstractCollection", "<init>", "()V"⟩) := wg 216 rfl
theorem w218 : HB Z az (.methodLink cLW 30 ⟨"java/util/Set", "size", "()I"⟩) := wg 218 rfl
theorem w219 : HB Z az (.declares ⟨"java/util/Set", "size", "()I"⟩) := wg 219 rfl
theorem w220 : HB Z az (.interfaceMethod "java/util/Set" "java/util/Set" "size" "()I") := wg 220 rfl
theorem w221 : HB Z az (.selects cVW ⟨"java/util/Set", "size", "()I"⟩ ⟨cVW, "size", "()I"⟩) := wg 221 rfl
theorem w222 : HB Z az (.instanceMethod ⟨cVW, "size", "()I"⟩) := wg 222 rfl
theorem w223 : HB Z az (.publicMethod ⟨cVW, "size", "()I"⟩) := wg 223 rfl
theorem w224 : HB Z az (.unhidden cVW "size" "()I") := wg 224 rfl
theorem w225 : HB Z az (.castable cVW "java/util/Set") := wg 225 rfl
theorem w226 : HB Z az (.code ⟨cVW, "size", "()I"⟩ kB49 1 (some FieldType.int)) := wg 226 rfl
theorem w227 : HB Z az (.methodLink cVW 13 ⟨cTC, "size", "()I"⟩) := wg 227 rfl
theorem w228 : HB Z az (.sameMethod cTC cSL "size" "()I") := wg 228 rfl
theorem w229 : HB Z az (.declares ⟨cSL, "size", "()I"⟩) := wg 229 rfl
theorem w230 : HB Z az (.instanceMethod ⟨cSL, "size", "()I"⟩) := wg 230 rfl
theorem w231 : HB Z az (.selects cTC ⟨cTC, "size", "()I"⟩ ⟨cSL, "size", "()I"⟩) := wg 231 rfl
theorem w232 : HB Z az (.code ⟨cSL, "size", "()I"⟩ kB34 1 (some FieldType.int)) := wg 232 rfl
theorem w233 : HB Z az (.fieldLink cSL 17 cSL "size" "I") := wg 233 rfl
theorem w234 : HB Z az (.lays cTC cSL "size" "I") := wg 234 rfl
theorem w235 : HB Z az (.methodLink cLW 36 ⟨"java/util/Set", "contains", "(Ljava/lang/Object;)Z"⟩) := wg 235 rfl
theorem w236 : HB Z az (.declares ⟨"java/util/Set", "contains", "(Ljava/lang/Object;)Z"⟩) := wg 236 rfl
theorem w237 : HB Z az (.interfaceMethod "java/util/Set" "java/util/Set" "contains" "(Ljava/lang/Object;)Z") := wg 237 rfl
theorem w238 : HB Z az (.selects cVW ⟨"java/util/Set", "contains", "(Ljava/lang/Object;)Z"⟩ ⟨cVW, "contains", "(Ljava/lang/Object;)Z"⟩) := wg 238 rfl
theorem w239 : HB Z az (.instanceMethod ⟨cVW, "contains", "(Ljava/lang/Object;)Z"⟩) := wg 239 rfl
theorem w240 : HB Z az (.publicMethod ⟨cVW, "contains", "(Ljava/lang/Object;)Z"⟩) := wg 240 rfl
theorem w241 : HB Z az (.unhidden cVW "contains" "(Ljava/lang/Object;)Z") := wg 241 rfl
theorem w242 : HB Z az (.code ⟨cVW, "contains", "(Ljava/lang/Object;)Z"⟩ kB50 3 (some FieldType.boolean)) := wg 242 rfl
theorem w243 : HB Z az (.classLink cVW 19 cTU) := wg 243 rfl
theorem w245 : HB Z az (.methodLink cVW 21 ⟨cTC, "count", dN⟩) := wg 245 rfl
theorem w246 : HB Z az (.methodLink cTC 29 ⟨cTC, "insert", "(ILjava/lang/Object;II)V"⟩) := wg 246 rfl
theorem w247 : HB Z az (.sameMethod cTC cSL "insert" "(ILjava/lang/Object;II)V") := wg 247 rfl
theorem w248 : HB Z az (.declares ⟨cSL, "insert", "(ILjava/lang/Object;II)V"⟩) := wg 248 rfl
theorem w249 : HB Z az (.instanceMethod ⟨cSL, "insert", "(ILjava/lang/Object;II)V"⟩) := wg 249 rfl
theorem w250 : HB Z az (.selects cTC ⟨cTC, "insert", "(ILjava/lang/Object;II)V"⟩ ⟨cSL, "insert", "(ILjava/lang/Object;II)V"⟩) := wg 250 rfl
theorem w251 : HB Z az (.code ⟨cSL, "insert", "(ILjava/lang/Object;II)V"⟩ kB27 6 none) := wg 251 rfl
theorem w252 : HB Z az (.castable cTU "java/lang/Object") := wg 252 rfl
theorem w253 : HB Z az (.methodLink cSL 51 ⟨cSL, "hashAndCount", "(II)J"⟩) := wg 253 rfl
theorem w254 : HB Z az (.static ⟨cSL, "hashAndCount", "(II)J"⟩) := wg 254 rfl
theorem w255 : HB Z az (.code ⟨cSL, "hashAndCount", "(II)J"⟩ kB31 2 (some FieldType.long)) := wg 255 rfl
theorem w256 : HB Z az (.constantLong cSL 59 (4294967295 : Int64)) := wg 256 rfl
theorem w257 : HB Z az (.methodLink cPN 51 ⟨cPN, "index", dV⟩) := wg 257 rfl
theorem w258 : HB Z az (.instanceMethod ⟨cPN, "index", dV⟩) := wg 258 rfl
theorem w259 : HB Z az (.privateMethod ⟨cPN, "index", dV⟩) := wg 259 rfl
theorem w260 : HB Z az (.code ⟨cPN, "index", dV⟩ kB22 5 none) := wg 260 rfl
theorem w261 : HB Z az (.methodLink cPN 134 ⟨"java/util/Map", "isEmpty", "()Z"⟩) := wg 261 rfl
theorem w262 : HB Z az (.declares ⟨"java/util/Map", "isEmpty", "()Z"⟩) := wg 262 rfl
theorem w263 : HB Z az (.interfaceMethod "java/util/Map" "java/util/Map" "isEmpty" "()Z") := wg 263 rfl
theorem w264 : HB Z az (.selects cHM ⟨"java/util/Map", "isEmpty", "()Z"⟩ ⟨cHM, "isEmpty", "()Z"⟩) := wg 264 rfl
theorem w265 : HB Z az (.instanceMethod ⟨cHM, "isEmpty", "()Z"⟩) := wg 265 rfl
theorem w266 : HB Z az (.publicMethod ⟨cHM, "isEmpty", "()Z"⟩) := wg 266 rfl
theorem w267 : HB Z az (.unhidden cHM "isEmpty" "()Z") := wg 267 rfl
theorem w268 : HB Z az (.castable cHM "java/util/Map") := wg 268 rfl
theorem w269 : HB Z az (.code ⟨cHM, "isEmpty", "()Z"⟩ kB16 1 (some FieldType.boolean)) := wg 269 rfl
theorem w270 : HB Z az (.fieldLink cHM 156 cHM "size" "I") := wg 270 rfl
theorem w271 : HB Z az (.lays cHM cHM "size" "I") := wg 271 rfl
theorem w272 : HB Z az (.methodLink cPN 55 ⟨cPN, "emit", dV⟩) := wg 272 rfl
theorem w273 : HB Z az (.sameMethod cPN cND "emit" dV) := wg 273 rfl
theorem w274 : HB Z az (.declares ⟨cND, "emit", dV⟩) := wg 274 rfl
theorem w275 : HB Z az (.instanceMethod ⟨cND, "emit", dV⟩) := wg 275 rfl
theorem w276 : HB Z az (.selects cPN ⟨cPN, "emit", dV⟩ ⟨cND, "emit", dV⟩) := wg 276 rfl
theorem w277 : HB Z az (.code ⟨cND, "emit", dV⟩ kB21 4 none) := wg 277 rfl
theorem w278 : HB Z az (.methodLink cND 22 ⟨"java/util/List", "size", "()I"⟩) := wg 278 rfl
theorem w279 : HB Z az (.declares ⟨"java/util/List", "size", "()I"⟩) := wg 279 rfl
theorem w280 : HB Z az (.interfaceMethod "java/util/List" "java/util/List" "size" "()I") := wg 280 rfl
theorem w281 : HB Z az (.selects cAL ⟨"java/util/List", "size", "()I"⟩ ⟨cAL, "size", "()I"⟩) := wg 281 rfl
theorem w282 : HB Z az (.instanceMethod ⟨cAL, "size", "()I"⟩) := wg 282 rfl
theorem w283 : HB Z az (.publicMethod ⟨cAL, "size", "()I"⟩) := wg 283 rfl
theorem w284 : HB Z az (.unhidden cAL "size" "()I") := wg 284 rfl
theorem w285 : HB Z az (.castable cAL "java/util/List") := wg 285 rfl
theorem w286 : HB Z az (.code ⟨cAL, "size", "()I"⟩ kB12 1 (some FieldType.int)) := wg 286 rfl
theorem w287 : HB Z az (.fieldLink cAL 48 cAL "size" "I") := wg 287 rfl
theorem w288 : HB Z az (.lays cAL cAL "size" "I") := wg 288 rfl
theorem w289 : HB Z az (.methodLink cSL 37 ⟨cSL, "hashAt", "(I)I"⟩) := wg 289 rfl
theorem w290 : HB Z az (.instanceMethod ⟨cSL, "hashAt", "(I)I"⟩) := wg 290 rfl
theorem w291 : HB Z az (.privateMethod ⟨cSL, "hashAt", "(I)I"⟩) := wg 291 rfl
theorem w292 : HB Z az (.code ⟨cSL, "hashAt", "(I)I"⟩ kB30 2 (some FieldType.int)) := wg 292 rfl
theorem w293 : HB Z az (.methodLink cSL 40 ⟨cSL, "holds", dH⟩) := wg 293 rfl
theorem w294 : HB Z az (.declares ⟨cSL, "holds", dH⟩) := wg 294 rfl
theorem w295 : HB Z az (.selects cTC ⟨cSL, "holds", dH⟩ ⟨cTC, "holds", dH⟩) := wg 295 rfl
theorem w296 : HB Z az (.instanceMethod ⟨cTC, "holds", dH⟩) := wg 296 rfl
theorem w297 : HB Z az (.code ⟨cTC, "holds", dH⟩ kB44 3 (some FieldType.boolean)) := wg 297 rfl
theorem w298 : HB Z az (.methodLink cTC 7 ⟨"java/lang/Object", "equals", "(Ljava/lang/Object;)Z"⟩) := wg 298 rfl
theorem w299 : HB Z az (.declares ⟨"java/lang/Object", "equals", "(Ljava/lang/Object;)Z"⟩) := wg 299 rfl
theorem w301 : HB Z az (.selects cTU ⟨"java/lang/Object", "equals", "(Ljava/lang/Object;)Z"⟩ ⟨cTU, "equals", "(Ljava/lang/Object;)Z"⟩) := wg 301 rfl
theorem w302 : HB Z az (.instanceMethod ⟨cTU, "equals", "(Ljava/lang/Object;)Z"⟩) := wg 302 rfl
theorem w303 : HB Z az (.code ⟨cTU, "equals", "(Ljava/lang/Object;)Z"⟩ kB38 3 (some FieldType.boolean)) := wg 303 rfl
theorem w304 : HB Z az (.methodLink cTU 50 ⟨"java/util/Arrays", "equals", "([Ljava/lang/Object;[Ljava/lang/Object;)Z"⟩) := wg 304 rfl
theorem w305 : HB Z az (.static ⟨"java/util/Arrays", "equals", "([Ljava/lang/Object;[Ljava/lang/Object;)Z"⟩) := wg 305 rfl
theorem w306 : HB Z az (.code ⟨"java/util/Arrays", "equals", "([Ljava/lang/Object;[Ljava/lang/Object;)Z"⟩ kB15 4 (some FieldType.boolean)) := wg 306 rfl
theorem w307 : HB Z az (.methodLink cTC 25 ⟨cTC, "countAt", "(I)I"⟩) := wg 307 rfl
theorem w308 : HB Z az (.sameMethod cTC cSL "countAt" "(I)I") := wg 308 rfl
theorem w309 : HB Z az (.declares ⟨cSL, "countAt", "(I)I"⟩) := wg 309 rfl
theorem w310 : HB Z az (.instanceMethod ⟨cSL, "countAt", "(I)I"⟩) := wg 310 rfl
theorem w311 : HB Z az (.selects cTC ⟨cTC, "countAt", "(I)I"⟩ ⟨cSL, "countAt", "(I)I"⟩) := wg 311 rfl
theorem w312 : HB Z az (.code ⟨cSL, "countAt", "(I)I"⟩ kB35 2 (some FieldType.int)) := wg 312 rfl
theorem w313 : HB Z az (.methodLink cTC 33 ⟨cTC, "addToCountAt", "(II)I"⟩) := wg 313 rfl
theorem w314 : HB Z az (.sameMethod cTC cSL "addToCountAt" "(II)I") := wg 314 rfl
theorem w315 : HB Z az (.declares ⟨cSL, "addToCountAt", "(II)I"⟩) := wg 315 rfl
theorem w316 : HB Z az (.instanceMethod ⟨cSL, "addToCountAt", "(II)I"⟩) := wg 316 rfl
theorem w317 : HB Z az (.selects cTC ⟨cTC, "addToCountAt", "(II)I"⟩ ⟨cSL, "addToCountAt", "(II)I"⟩) := wg 317 rfl
theorem w318 : HB Z az (.code ⟨cSL, "addToCountAt", "(II)I"⟩ kB36 4 (some FieldType.int)) := wg 318 rfl
theorem w319 : HB Z az (.methodLink cSL 21 ⟨cSL, "countAt", "(I)I"⟩) := wg 319 rfl
theorem w320 : HB Z az (.selects cTC ⟨cSL, "countAt", "(I)I"⟩ ⟨cSL, "countAt", "(I)I"⟩) := wg 320 rfl
theorem w321 : HB Z az (.methodLink cSL 29 ⟨cSL, "setCountAt", "(II)V"⟩) := wg 321 rfl
theorem w322 : HB Z az (.instanceMethod ⟨cSL, "setCountAt", "(II)V"⟩) := wg 322 rfl
theorem w323 : HB Z az (.privateMethod ⟨cSL, "setCountAt", "(II)V"⟩) := wg 323 rfl
theorem w324 : HB Z az (.code ⟨cSL, "setCountAt", "(II)V"⟩ kB29 3 none) := wg 324 rfl
theorem w325 : HB Z az (.classLink cLG 1 cLG) := wg 325 rfl
theorem w326 : HB Z az (.instantiable cLG 1) := wg 326 rfl
theorem w327 : HB Z az (.methodLink cLG 240 ⟨cLG, "<init>", "(J)V"⟩) := wg 327 rfl
theorem w328 : HB Z az (.instanceMethod ⟨cLG, "<init>", "(J)V"⟩) := wg 328 rfl
theorem w330 : HB Z az (.code ⟨cLG, "<init>", "(J)V"⟩ kB6 3 none) := wg 330 rfl
theorem w331 : HB Z az (.methodLink cLG 270 ⟨"java/lang/Number", "<init>", "()V"⟩) := wg 331 rfl
theorem w332 : HB Z az (.instanceMethod ⟨"java/lang/Number", "<init>", "()V"⟩) := wg 332 rfl
theorem w335 : HB Z az (.initialized "java/lang/Number") := wg 335 rfl
theorem w336 : HB Z az (.code ⟨"java/lang/Number", "<init>", "()V"⟩ kB1 1 none) := wg 336 rfl
theorem w337 : HB Z az (.methodLink "java/lang/Number" 1 ⟨"java/lang/Object", "<init>", "()V"⟩) := wg 337 rfl
theorem w338 : HB Z az (.methodLink cSL 25 ⟨cSL, "remove", "(I)V"⟩) := wg 338 rfl
theorem w339 : HB Z az (.declares ⟨cSL, "remove", "(I)V"⟩) := wg 339 rfl
theorem w340 : HB Z az (.instanceMethod ⟨cSL, "remove", "(I)V"⟩) := wg 340 rfl
theorem w341 : HB Z az (.selects cTC ⟨cSL, "remove", "(I)V"⟩ ⟨cSL, "remove", "(I)V"⟩) := wg 341 rfl
theorem w342 : HB Z az (.code ⟨cSL, "remove", "(I)V"⟩ kB28 6 none) := wg 342 rfl
theorem w343 : HB Z az (.methodLink "java/util/Arrays" 296 ⟨"java/util/Objects", "equals", "(Ljava/lang/Object;Ljava/lang/Object;)Z"⟩) := wg 343 rfl
theorem w344 : HB Z az (.static ⟨"java/util/Objects", "equals", "(Ljava/lang/Object;Ljava/lang/Object;)Z"⟩) := wg 344 rfl
theorem w345 : HB Z az (.initialized "java/util/Objects") := wg 345 rfl
theorem w346 : HB Z az (.code ⟨"java/util/Objects", "equals", "(Ljava/lang/Object;Ljava/lang/Object;)Z"⟩ kB3 2 (some FieldType.boolean)) := wg 346 rfl
theorem w347 : HB Z az (.methodLink "java/util/Objects" 14 ⟨"java/lang/Object", "equals", "(Ljava/lang/Object;)Z"⟩) := wg 347 rfl
theorem w348 : HB Z az (.selects cLG ⟨"java/lang/Object", "equals", "(Ljava/lang/Object;)Z"⟩ ⟨cLG, "equals", "(Ljava/lang/Object;)Z"⟩) := wg 348 rfl
theorem w349 : HB Z az (.instanceMethod ⟨cLG, "equals", "(Ljava/lang/Object;)Z"⟩) := wg 349 rfl
theorem w350 : HB Z az (.code ⟨cLG, "equals", "(Ljava/lang/Object;)Z"⟩ kB10 2 (some FieldType.boolean)) := wg 350 rfl
theorem w351 : HB Z az (.methodLink cLG 280 ⟨cLG, "longValue", "()J"⟩) := wg 351 rfl
theorem w352 : HB Z az (.declares ⟨cLG, "longValue", "()J"⟩) := wg 352 rfl
theorem w353 : HB Z az (.instanceMethod ⟨cLG, "longValue", "()J"⟩) := wg 353 rfl
theorem w354 : HB Z az (.selects cLG ⟨cLG, "longValue", "()J"⟩ ⟨cLG, "longValue", "()J"⟩) := wg 354 rfl
theorem w355 : HB Z az (.code ⟨cLG, "longValue", "()J"⟩ kB7 1 (some FieldType.long)) := wg 355 rfl
end OwnW
theorem d50_0 : dc kB1 0 (.aload_n 0) 1 := by decide +kernel
theorem d50_1 : dc kB1 1 (.invokespecial 1) 3 := by decide +kernel
theorem d50_4 : dc kB1 4 .return_ 1 := by decide +kernel
theorem pn_java_lang_Number : plainName "java/lang/Number" = true := by first | (simp [plainName, overriddenIn]; done) | decide +kernel
theorem ef_rm50 (m : MethodId) (a0 : Addr) : entryFrame m #[(.ref a0)] 1 = mkF m 0 #[vR a0] [] := by first | (simp [entryFrame, mkF, argsToLocals, Value.category]; done) | rfl
def Q50 (Z : State) (a0 : Addr) (h0 : Heap) (n0 : Nat) (v : Option Value) (h : Heap) (L : List Loc) : Prop := v = none ∧ Fr n0 L ∧ h = h0
theorem rm50 (l : Launch) (Z : State) (az : Array Value) (hw : HW Z az) (ws : List Jvm.Cond) (a0 : Addr) (h0 : Heap) (n0 : Nat) (Z0 : n0 ≤ h0.size) :
    MF l Z h0 ws ⟨"java/lang/Number", "<init>", "()V"⟩ kB1 1 none ⟨1, 0, 0, 12⟩ #[(.ref a0)] (Q50 Z a0 h0 n0) := by
  refine own_body "java/lang/Number" n0 rfl (plainFor_of_name pn_java_lang_Number) (fun m => ef_rm50 m a0) ?_
  intro p e s m below meth c s₁ Bd hx hby hml hown hZ X0 e0 N0 pre0
  obtain ⟨T1, X1, e1, st1⟩ := initO X0 hx hZ hown (w337 hw) (w33 hw) (w34 hw) e0 (g := (mkF m 1 #[vR a0] [(.ref a0)])) rfl (by rw [hml]; rfl) rfl (hb hby d50_1) (by decide) (W := 0) (Nat.le_of_eq rfl) (by decide)
  obtain ⟨fs, hr, hrun, hended, hW, hsame⟩ := X1.leave (v := none) (fun _ => rfl)
  refine ⟨_, _, pre0 _ ?_, hrun, hended, _, _, rfl, ?_, ⟨_, rfl⟩, hW, hsame.mono (by decide) (by decide)⟩
  · show SP p e below s₁ (mkF m 0 #[vR a0] []) _
    refine XS.aloadN X0.here hx rfl (hb hby d50_0) rfl rfl ?_
    show SP p e below s₁ (mkF m 1 #[vR a0] [(.ref a0)]) _
    refine st1 _ ?_
    show SP p e below T1 (mkF m 4 #[vR a0] []) _
    exact X1.returnOut hx Bd.returns (hb hby d50_4) hr
  · show Q50 Z a0 h0 n0 _ T1.heap _
    rw [e1]
    exact ⟨rfl, N0, rfl⟩
theorem d49_0 : dc kB6 0 (.aload_n 0) 1 := by decide +kernel
theorem d49_1 : dc kB6 1 (.invokespecial 270) 3 := by decide +kernel
theorem pd_0 : parseMethodDescriptor "()V" = some ⟨[], none⟩ := by decide +kernel
theorem d49_4 : dc kB6 4 (.aload_n 0) 1 := by decide +kernel
theorem d49_5 : dc kB6 5 (.lload_n 1) 1 := by decide +kernel
theorem d49_6 : dc kB6 6 (.putfield 273) 3 := by decide +kernel
theorem d49_9 : dc kB6 9 .return_ 1 := by decide +kernel
theorem pn_java_lang_Long : plainName "java/lang/Long" = true := by first | (simp [plainName, overriddenIn]; done) | decide +kernel
theorem ef_rm49 (m : MethodId) (a0 : Addr) (q1 : Int64) : entryFrame m #[(.ref a0), (.long q1)] 3 = mkF m 0 #[vR a0, .val (.long q1), .second] [] := by first | (simp [entryFrame, mkF, argsToLocals, Value.category]; done) | rfl
def Q49 (Z : State) (a0 : Addr) (q1 : Int64) (h0 : Heap) (n0 : Nat) (v : Option Value) (h : Heap) (L : List Loc) : Prop := v = none ∧ Fr n0 L ∧ Keep h0 h [a0] ∧ Exa Z h a0 cLG ∧ Fld Z h a0 cLG "value" "J" (.long q1)
theorem rm49 (l : Launch) (Z : State) (az : Array Value) (hw : HW Z az) (ws : List Jvm.Cond) (a0 : Addr) (q1 : Int64) (h0 : Heap) (n0 : Nat) (Z0 : n0 ≤ h0.size) (E_a0 : Exa Z h0 a0 cLG) (F_value_a0 : Fld Z h0 a0 cLG "value" "J" (.long (0 : Int64))) (g_a0 : n0 ≤ a0) :
    MF l Z h0 ws ⟨cLG, "<init>", "(J)V"⟩ kB6 3 none ⟨2, 0, 0, 24⟩ #[(.ref a0), (.long q1)] (Q49 Z a0 q1 h0 n0) := by
  refine own_body cLG n0 rfl (plainFor_of_name pn_java_lang_Long) (fun m => ef_rm49 m a0 q1) ?_
  intro p e s m below meth c s₁ Bd hx hby hml hown hZ X0 e0 N0 pre0
  have hnm := (name_of_methodNamed Bd.named Bd.method).1
  obtain ⟨_, _, ⟨T1, L1, k1', n1'⟩, -, X1, ⟨Lc1, hQ1, l1, y1, z1⟩, st1⟩ := X0.specialBack hx (y := ⟨"java/lang/Number", "<init>", "()V"⟩) rfl hown (mvT hZ (w331 hw)) (mvT hZ (w332 hw)) (mvT hZ (w336 hw)) (by decide) (backOf (W := 0) (rm50 l Z az hw [] a0 h0 n0 Z0) hZ (w336 hw) (w335 hw) (by decide) (by decide)) (g := (mkF m 1 #[vR a0, .val (.long q1), .second] [(.ref a0)])) rfl (by rw [hml]; rfl) (Steps.refl _) (a := a0) (argsL := []) (rest := []) (lenOf pd_0 rfl) rfl (Nat.le_of_eq rfl) (hb hby d49_1) (fun _ _ => ⟨rfl, e0, (own_nle rfl), (own_nle rfl)⟩)
  dsimp only [Pt.U, Pt.locs, Pt.cells, Pt.slots] at X1 l1 y1 z1 st1 hQ1
  subst l1 y1 z1
  obtain ⟨rfl, N1q, e1⟩ := hQ1
  obtain ⟨Lg1, X1', N1⟩ := own_gen X1 (Fr.app N0 N1q)
  obtain ⟨T2, h2, X2, e2, W2, st2⟩ := putF X1' hx hZ hown (host := "") (Or.inl (w47 hw)) Via.refl e1 F_value_a0 E_a0 (Or.inr ⟨(w48 hw), rfl, hnm⟩) (w326 hw) (ty := .long) (by decide) rfl rfl (g := (mkF m 6 #[vR a0, .val (.long q1), .second] [(.long q1), (.ref a0)])) rfl rfl (hb hby d49_6)
  have K2 : Keep h0 h2 [a0] := (Keep.refl h0 [a0]).wr W2 (Or.inl (mg 0 rfl))
  have Fw2 := F_value_a0.same W2
  have Z2 : n0 ≤ h2.size := Nat.le_trans Z0 (Keep.of_wr W2).1
  obtain ⟨Lg2, X2', N2⟩ := own_gen X2 (Fr.snoc X2 N1 g_a0)
  have E_a0_u3 : Exa Z h2 a0 cLG := (E_a0.wr W2)
  obtain ⟨fs, hr, hrun, hended, hW, hsame⟩ := X2'.leave (v := none) (fun _ => rfl) Bd.notSynchronized
  refine ⟨_, _, pre0 _ ?_, hrun, hended, _, _, rfl, ?_, ⟨_, rfl⟩, hW, hsame.mono (by decide) (by decide)⟩
  · show SP p e below s₁ (mkF m 0 #[vR a0, .val (.long q1), .second] []) _
    refine XS.aloadN X0.here hx rfl (hb hby d49_0) rfl rfl ?_
    show SP p e below s₁ (mkF m 1 #[vR a0, .val (.long q1), .second] [(.ref a0)]) _
    refine st1.trans ?_
    show SP p e below T1 (mkF m 4 #[vR a0, .val (.long q1), .second] []) _
    refine XS.aloadN X1'.here hx rfl (hb hby d49_4) rfl rfl ?_
    refine XS.lloadN X1'.here hx rfl (hb hby d49_5) rfl ?_
    show SP p e below T1 (mkF m 6 #[vR a0, .val (.long q1), .second] [(.long q1), (.ref a0)]) _
    refine st2 _ ?_
    show SP p e below T2 (mkF m 9 #[vR a0, .val (.long q1), .second] []) _
    exact X2'.returnOut hx Bd.returns (hb hby d49_9) hr
  · show Q49 Z a0 q1 h0 n0 _ T2.heap _
    rw [e2]
    exact ⟨rfl, N2, K2, E_a0_u3, Fw2⟩
theorem d1_0 : dc kB5 0 (.sipush 128) 3 := by decide +kernel
theorem d1_3 : dc kB5 3 (.istore_n 2) 1 := by decide +kernel
theorem d1_4 : dc kB5 4 (.lload_n 0) 1 := by decide +kernel
theorem d1_5 : dc kB5 5 (.ldc2_w 230) 3 := by decide +kernel
theorem d1_8 : dc kB5 8 .lcmp 1 := by decide +kernel
theorem d1_9 : dc kB5 9 (.ifCond .lt 22) 3 := by decide +kernel
theorem d1_31 : dc kB5 31 (.new 1) 3 := by decide +kernel
theorem d1_34 : dc kB5 34 .dup 1 := by decide +kernel
theorem d1_35 : dc kB5 35 (.lload_n 0) 1 := by decide +kernel
theorem d1_36 : dc kB5 36 (.invokespecial 240) 3 := by decide +kernel
theorem pd_1 : parseMethodDescriptor "(J)V" = some ⟨[.long], none⟩ := by decide +kernel
theorem d1_39 : dc kB5 39 .areturn 1 := by decide +kernel
theorem ef_rm1n1 (m : MethodId) (q0 : Int64) : entryFrame m #[(.long q0)] 3 = mkF m 0 #[.val (.long q0), .second, .unset] [] := by first | (simp [entryFrame, mkF, argsToLocals, Value.category]; done) | rfl
def Q1n1 (Z : State) (q0 : Int64) (h0 : Heap) (n0 : Nat) (v : Option Value) (h : Heap) (L : List Loc) : Prop := ∃ r0 : Addr, v = some (.ref r0) ∧ Fr n0 L ∧ h0.size ≤ r0 ∧ Keep h0 h [] ∧ Exa Z h r0 cLG ∧ Fld Z h r0 cLG "value" "J" (.long q0)
theorem rm1n1 (l : Launch) (Z : State) (az : Array Value) (hw : HW Z az) (ws : List Jvm.Cond) (q0 : Int64) (h0 : Heap) (n0 : Nat) (Z0 : n0 ≤ h0.size) (hc0 : (lcmpW q0 (-128 : Int64)) < (0 : Int32)) :
    MF l Z h0 ws ⟨cLG, "valueOf", "(J)Ljava/lang/Long;"⟩ kB5 3 (some (.object cLG)) ⟨3, 1, 1, 39⟩ #[(.long q0)] (Q1n1 Z q0 h0 n0) := by
  refine own_body cLG n0 rfl (plainFor_of_name pn_java_lang_Long) (fun m => ef_rm1n1 m q0) ?_
  intro p e s m below meth c s₁ Bd hx hby hml hown hZ X0 e0 N0 pre0
  obtain ⟨T1, h1, X1, e1, E1, A1, D1, -, st1⟩ := newO X0 hx hZ hown (w325 hw) (w326 hw) (w4 hw) e0 (g := (mkF m 31 #[.val (.long q0), .second, vI (128 : Int32)] [])) rfl (hb hby d1_31) (by decide) (by decide)
  obtain ⟨b1, g1⟩ : ∃ z, z = h0.size := ⟨_, rfl⟩
  rw [← g1] at A1 D1 st1
  have g_b1 : n0 ≤ b1 := Nat.le_trans Z0 (Nat.le_of_eq g1.symm)
  have sz_b1 : h0.size ≤ b1 := Nat.le_trans (Nat.le_refl _) (Nat.le_of_eq g1.symm)
  have Z1 : n0 ≤ h1.size := Nat.le_trans Z0 E1.1
  have K1 : Keep h0 h1 [] := (Keep.refl h0 []).ext E1
  have E_b1 := A1
  have F_value_b1 : Fld Z h1 b1 cLG "value" "J" (.long (0 : Int64)) := D1 (Or.inr (w48 hw)) (ty := .long) (by decide)
  obtain ⟨_, _, ⟨T2, L2, k2', n2'⟩, -, X2, ⟨Lc2, hQ2, l2, y2, z2⟩, st2⟩ := X1.specialBack hx (y := ⟨cLG, "<init>", "(J)V"⟩) rfl hown (mvT hZ (w327 hw)) (mvT hZ (w328 hw)) (mvT hZ (w330 hw)) (by decide) (backOf (W := 1) (rm49 l Z az hw [] b1 q0 h1 n0 Z1 E_b1 F_value_b1 g_b1) hZ (w330 hw) (w4 hw) (by decide) (by decide)) (g := (mkF m 36 #[.val (.long q0), .second, vI (128 : Int32)] [(.long q0), (.ref b1), (.ref b1)])) rfl (by rw [hml]; rfl) (Steps.refl _) (a := b1) (argsL := [(.long q0)]) (rest := [(.ref b1)]) (lenOf pd_1 rfl) rfl (Nat.le_of_eq rfl) (hb hby d1_36) (fun _ _ => ⟨rfl, e1, (own_nle rfl), (own_nle rfl)⟩)
  dsimp only [Pt.U, Pt.locs, Pt.cells, Pt.slots] at X2 l2 y2 z2 st2 hQ2
  subst l2 y2 z2
  obtain ⟨rfl, N2q, kq2, pf2_0, pf2_1⟩ := hQ2
  obtain ⟨Lg2, X2', N2⟩ := own_gen X2 (Fr.app N0 N2q)
  have K2 : Keep h0 T2.heap [] := K1.trans kq2 (allS (Or.inr sz_b1) all0)
  have Z2 : n0 ≤ T2.heap.size := Nat.le_trans Z1 kq2.1
  obtain ⟨fs, hr, hrun, hended, hW, hsame⟩ := X2'.leave (v := some (.ref b1)) (fun h => by rw [Bd.returns] at h; cases h) Bd.notSynchronized
  refine ⟨_, _, pre0 _ ?_, hrun, hended, _, _, rfl, ?_, ⟨_, rfl⟩, hW, hsame.mono (by decide) (by decide)⟩
  · show SP p e below s₁ (mkF m 0 #[.val (.long q0), .second, .unset] []) _
    refine XS.sipush X0.here hx rfl (hb hby d1_0) ?_
    refine XS.istoreN X0.here hx rfl (hb hby d1_3) rfl (l' := #[.val (.long q0), .second, vI (128 : Int32)]) rfl ?_
    refine XS.lloadN X0.here hx rfl (hb hby d1_4) rfl ?_
    show SP p e below s₁ (mkF m 5 #[.val (.long q0), .second, vI (128 : Int32)] [(.long q0)]) _
    refine X0.ldc2Long hx hown (mvT hZ (w6 hw)) (g := (mkF m 5 #[.val (.long q0), .second, vI (128 : Int32)] [(.long q0)])) rfl (hb hby d1_5) _ ?_
    show SP p e below s₁ (mkF m 8 #[.val (.long q0), .second, vI (128 : Int32)] [(.long (-128 : Int64)), (.long q0)]) _
    refine XS.lcmp X0.here hx rfl (hb hby d1_8) rfl ?_
    refine XS.ifYes X0.here hx rfl (pc0 := 9) (pc' := 31) rfl (hb hby d1_9) rfl ((if0 _ _).trans (tlt hc0).1) (by decide) (by decide) ?_
    show SP p e below s₁ (mkF m 31 #[.val (.long q0), .second, vI (128 : Int32)] []) _
    refine st1 _ ?_
    show SP p e below T1 (mkF m 34 #[.val (.long q0), .second, vI (128 : Int32)] [(.ref b1)]) _
    refine XS.dup X1.here hx rfl (hb hby d1_34) rfl rfl ?_
    refine XS.lloadN X1.here hx rfl (hb hby d1_35) rfl ?_
    show SP p e below T1 (mkF m 36 #[.val (.long q0), .second, vI (128 : Int32)] [(.long q0), (.ref b1), (.ref b1)]) _
    refine st2.trans ?_
    show SP p e below T2 (mkF m 39 #[.val (.long q0), .second, vI (128 : Int32)] [(.ref b1)]) _
    jvm_step X2'.here [X2'.here.top, hx, (hb hby d1_39), X2'.method', Bd.returns, Value.isRef, FieldType.isReference]
    first | (intro acts; rw [hr _ acts rfl rfl rfl]) | rw [hr _ _ rfl rfl rfl]
    exact Steps.refl _
  · show Q1n1 Z q0 h0 n0 _ T2.heap _
    exact ⟨b1, rfl, N2, sz_b1, K2, pf2_0, pf2_1⟩
theorem d1_12 : dc kB5 12 (.lload_n 0) 1 := by decide +kernel
theorem d1_13 : dc kB5 13 (.ldc2_w 232) 3 := by decide +kernel
theorem d1_16 : dc kB5 16 .lcmp 1 := by decide +kernel
theorem d1_17 : dc kB5 17 (.ifCond .gt 14) 3 := by decide +kernel
theorem ef_rm1n2 (m : MethodId) (q0 : Int64) : entryFrame m #[(.long q0)] 3 = mkF m 0 #[.val (.long q0), .second, .unset] [] := by first | (simp [entryFrame, mkF, argsToLocals, Value.category]; done) | rfl
def Q1n2 (Z : State) (q0 : Int64) (h0 : Heap) (n0 : Nat) (v : Option Value) (h : Heap) (L : List Loc) : Prop := ∃ r0 : Addr, v = some (.ref r0) ∧ Fr n0 L ∧ h0.size ≤ r0 ∧ Keep h0 h [] ∧ Exa Z h r0 cLG ∧ Fld Z h r0 cLG "value" "J" (.long q0)
theorem rm1n2 (l : Launch) (Z : State) (az : Array Value) (hw : HW Z az) (ws : List Jvm.Cond) (q0 : Int64) (h0 : Heap) (n0 : Nat) (Z0 : n0 ≤ h0.size) (hc0 : ¬ ((lcmpW q0 (-128 : Int64)) < (0 : Int32))) (hc1 : (0 : Int32) < (lcmpW q0 (127 : Int64))) :
    MF l Z h0 ws ⟨cLG, "valueOf", "(J)Ljava/lang/Long;"⟩ kB5 3 (some (.object cLG)) ⟨3, 1, 1, 39⟩ #[(.long q0)] (Q1n2 Z q0 h0 n0) := by
  refine own_body cLG n0 rfl (plainFor_of_name pn_java_lang_Long) (fun m => ef_rm1n2 m q0) ?_
  intro p e s m below meth c s₁ Bd hx hby hml hown hZ X0 e0 N0 pre0
  obtain ⟨T1, h1, X1, e1, E1, A1, D1, -, st1⟩ := newO X0 hx hZ hown (w325 hw) (w326 hw) (w4 hw) e0 (g := (mkF m 31 #[.val (.long q0), .second, vI (128 : Int32)] [])) rfl (hb hby d1_31) (by decide) (by decide)
  obtain ⟨b1, g1⟩ : ∃ z, z = h0.size := ⟨_, rfl⟩
  rw [← g1] at A1 D1 st1
  have g_b1 : n0 ≤ b1 := Nat.le_trans Z0 (Nat.le_of_eq g1.symm)
  have sz_b1 : h0.size ≤ b1 := Nat.le_trans (Nat.le_refl _) (Nat.le_of_eq g1.symm)
  have Z1 : n0 ≤ h1.size := Nat.le_trans Z0 E1.1
  have K1 : Keep h0 h1 [] := (Keep.refl h0 []).ext E1
  have E_b1 := A1
  have F_value_b1 : Fld Z h1 b1 cLG "value" "J" (.long (0 : Int64)) := D1 (Or.inr (w48 hw)) (ty := .long) (by decide)
  obtain ⟨_, _, ⟨T2, L2, k2', n2'⟩, -, X2, ⟨Lc2, hQ2, l2, y2, z2⟩, st2⟩ := X1.specialBack hx (y := ⟨cLG, "<init>", "(J)V"⟩) rfl hown (mvT hZ (w327 hw)) (mvT hZ (w328 hw)) (mvT hZ (w330 hw)) (by decide) (backOf (W := 1) (rm49 l Z az hw [] b1 q0 h1 n0 Z1 E_b1 F_value_b1 g_b1) hZ (w330 hw) (w4 hw) (by decide) (by decide)) (g := (mkF m 36 #[.val (.long q0), .second, vI (128 : Int32)] [(.long q0), (.ref b1), (.ref b1)])) rfl (by rw [hml]; rfl) (Steps.refl _) (a := b1) (argsL := [(.long q0)]) (rest := [(.ref b1)]) (lenOf pd_1 rfl) rfl (Nat.le_of_eq rfl) (hb hby d1_36) (fun _ _ => ⟨rfl, e1, (own_nle rfl), (own_nle rfl)⟩)
  dsimp only [Pt.U, Pt.locs, Pt.cells, Pt.slots] at X2 l2 y2 z2 st2 hQ2
  subst l2 y2 z2
  obtain ⟨rfl, N2q, kq2, pf2_0, pf2_1⟩ := hQ2
  obtain ⟨Lg2, X2', N2⟩ := own_gen X2 (Fr.app N0 N2q)
  have K2 : Keep h0 T2.heap [] := K1.trans kq2 (allS (Or.inr sz_b1) all0)
  have Z2 : n0 ≤ T2.heap.size := Nat.le_trans Z1 kq2.1
  obtain ⟨fs, hr, hrun, hended, hW, hsame⟩ := X2'.leave (v := some (.ref b1)) (fun h => by rw [Bd.returns] at h; cases h) Bd.notSynchronized
  refine ⟨_, _, pre0 _ ?_, hrun, hended, _, _, rfl, ?_, ⟨_, rfl⟩, hW, hsame.mono (by decide) (by decide)⟩
  · show SP p e below s₁ (mkF m 0 #[.val (.long q0), .second, .unset] []) _
    refine XS.sipush X0.here hx rfl (hb hby d1_0) ?_
    refine XS.istoreN X0.here hx rfl (hb hby d1_3) rfl (l' := #[.val (.long q0), .second, vI (128 : Int32)]) rfl ?_
    refine XS.lloadN X0.here hx rfl (hb hby d1_4) rfl ?_
    show SP p e below s₁ (mkF m 5 #[.val (.long q0), .second, vI (128 : Int32)] [(.long q0)]) _
    refine X0.ldc2Long hx hown (mvT hZ (w6 hw)) (g := (mkF m 5 #[.val (.long q0), .second, vI (128 : Int32)] [(.long q0)])) rfl (hb hby d1_5) _ ?_
    show SP p e below s₁ (mkF m 8 #[.val (.long q0), .second, vI (128 : Int32)] [(.long (-128 : Int64)), (.long q0)]) _
    refine XS.lcmp X0.here hx rfl (hb hby d1_8) rfl ?_
    refine XS.ifNo X0.here hx rfl (hb hby d1_9) rfl ((if0 _ _).trans (flt hc0).1) ?_
    refine XS.lloadN X0.here hx rfl (hb hby d1_12) rfl ?_
    show SP p e below s₁ (mkF m 13 #[.val (.long q0), .second, vI (128 : Int32)] [(.long q0)]) _
    refine X0.ldc2Long hx hown (mvT hZ (w7 hw)) (g := (mkF m 13 #[.val (.long q0), .second, vI (128 : Int32)] [(.long q0)])) rfl (hb hby d1_13) _ ?_
    show SP p e below s₁ (mkF m 16 #[.val (.long q0), .second, vI (128 : Int32)] [(.long (127 : Int64)), (.long q0)]) _
    refine XS.lcmp X0.here hx rfl (hb hby d1_16) rfl ?_
    refine XS.ifYes X0.here hx rfl (pc0 := 17) (pc' := 31) rfl (hb hby d1_17) rfl ((if0 _ _).trans (tlt hc1).2.2.1) (by decide) (by decide) ?_
    show SP p e below s₁ (mkF m 31 #[.val (.long q0), .second, vI (128 : Int32)] []) _
    refine st1 _ ?_
    show SP p e below T1 (mkF m 34 #[.val (.long q0), .second, vI (128 : Int32)] [(.ref b1)]) _
    refine XS.dup X1.here hx rfl (hb hby d1_34) rfl rfl ?_
    refine XS.lloadN X1.here hx rfl (hb hby d1_35) rfl ?_
    show SP p e below T1 (mkF m 36 #[.val (.long q0), .second, vI (128 : Int32)] [(.long q0), (.ref b1), (.ref b1)]) _
    refine st2.trans ?_
    show SP p e below T2 (mkF m 39 #[.val (.long q0), .second, vI (128 : Int32)] [(.ref b1)]) _
    jvm_step X2'.here [X2'.here.top, hx, (hb hby d1_39), X2'.method', Bd.returns, Value.isRef, FieldType.isReference]
    first | (intro acts; rw [hr _ acts rfl rfl rfl]) | rw [hr _ _ rfl rfl rfl]
    exact Steps.refl _
  · show Q1n2 Z q0 h0 n0 _ T2.heap _
    exact ⟨b1, rfl, N2, sz_b1, K2, pf2_0, pf2_1⟩
theorem d1_20 : dc kB5 20 (.getstatic 234) 3 := by decide +kernel
theorem d1_23 : dc kB5 23 (.lload_n 0) 1 := by decide +kernel
theorem d1_24 : dc kB5 24 .l2i 1 := by decide +kernel
theorem d1_25 : dc kB5 25 (.sipush 128) 3 := by decide +kernel
theorem d1_28 : dc kB5 28 .iadd 1 := by decide +kernel
theorem d1_29 : dc kB5 29 .aaload 1 := by decide +kernel
theorem d1_30 : dc kB5 30 .areturn 1 := by decide +kernel
theorem ef_rm1c (m : MethodId) (q0 : Int64) : entryFrame m #[(.long q0)] 3 = mkF m 0 #[.val (.long q0), .second, .unset] [] := by first | (simp [entryFrame, mkF, argsToLocals, Value.category]; done) | rfl
def Q1c (Z : State) (q0 : Int64) (cA : Addr) (kC : ClassId) (fC : Nat → Value) (lc : Addr) (h0 : Heap) (n0 : Nat) (v : Option Value) (h : Heap) (L : List Loc) : Prop := v = some (.ref lc) ∧ Fr n0 L ∧ h = h0
theorem rm1c (l : Launch) (Z : State) (az : Array Value) (hw : HW Z az) (ws : List Jvm.Cond) (q0 : Int64) (cA : Addr) (kC : ClassId) (fC : Nat → Value) (lc : Addr) (h0 : Heap) (n0 : Nat) (Z0 : n0 ≤ h0.size) (S_cache : Sta Z h0 "java/lang/Long$LongCache" "cache" "[Ljava/lang/Long;" (.ref cA)) (V_cA : own_Arf Z h0 cA kC (.object cLG) (256 : Int32) fC) (E_cA : Exa Z h0 cA "[Ljava/lang/Long;") (hc3 : ¬ ((lcmpW q0 (-128 : Int64)) < (0 : Int32))) (hc4 : ¬ ((0 : Int32) < (lcmpW q0 (127 : Int64)))) (hc5 : ¬ (((q0.toInt32) + (128 : Int32)) < (0 : Int32))) (hc6 : ((q0.toInt32) + (128 : Int32)) < (256 : Int32)) (hc7 : fC (((q0.toInt32) + (128 : Int32))).toNatClampNeg = (.ref lc)) :
    MF l Z h0 ws ⟨cLG, "valueOf", "(J)Ljava/lang/Long;"⟩ kB5 3 (some (.object cLG)) ⟨3, 1, 1, 39⟩ #[(.long q0)] (Q1c Z q0 cA kC fC lc h0 n0) := by
  refine own_body cLG n0 rfl (plainFor_of_name pn_java_lang_Long) (fun m => ef_rm1c m q0) ?_
  intro p e s m below meth c s₁ Bd hx hby hml hown hZ X0 e0 N0 pre0
  obtain ⟨T1, X1, e1, st1⟩ := getS2 X0 hx hZ hown (host := "") (Or.inl (w8 hw)) Via.refl e0 S_cache (g := (mkF m 20 #[.val (.long q0), .second, vI (128 : Int32)] [])) rfl (hb hby d1_20)
  obtain ⟨cl2, Ar2, qk2, Sz2, Ng2, Hs2, Gf2⟩ := id V_cA
  have hin3 : ¬ (((q0.toInt32) + (128 : Int32)) < 0 ∨ cl2.slots.size ≤ (((q0.toInt32) + (128 : Int32))).toNatClampNeg) := inb_of Sz2 ⟨hc5, hc6⟩
  have hat4 : cl2.slots[(((q0.toInt32) + (128 : Int32))).toNatClampNeg]? = some (.ref lc) := own_at Hs2 hin3 hc7
  obtain ⟨fs, hr, hrun, hended, hW, hsame⟩ := X1.leave (v := some (.ref lc)) (fun h => by rw [Bd.returns] at h; cases h) Bd.notSynchronized
  refine ⟨_, _, pre0 _ ?_, hrun, hended, _, _, rfl, ?_, ⟨_, rfl⟩, hW, hsame.mono (by decide) (by decide)⟩
  · show SP p e below s₁ (mkF m 0 #[.val (.long q0), .second, .unset] []) _
    refine XS.sipush X0.here hx rfl (hb hby d1_0) ?_
    refine XS.istoreN X0.here hx rfl (hb hby d1_3) rfl (l' := #[.val (.long q0), .second, vI (128 : Int32)]) rfl ?_
    refine XS.lloadN X0.here hx rfl (hb hby d1_4) rfl ?_
    show SP p e below s₁ (mkF m 5 #[.val (.long q0), .second, vI (128 : Int32)] [(.long q0)]) _
    refine X0.ldc2Long hx hown (mvT hZ (w6 hw)) (g := (mkF m 5 #[.val (.long q0), .second, vI (128 : Int32)] [(.long q0)])) rfl (hb hby d1_5) _ ?_
    show SP p e below s₁ (mkF m 8 #[.val (.long q0), .second, vI (128 : Int32)] [(.long (-128 : Int64)), (.long q0)]) _
    refine XS.lcmp X0.here hx rfl (hb hby d1_8) rfl ?_
    refine XS.ifNo X0.here hx rfl (hb hby d1_9) rfl ((if0 _ _).trans (flt hc3).1) ?_
    refine XS.lloadN X0.here hx rfl (hb hby d1_12) rfl ?_
    show SP p e below s₁ (mkF m 13 #[.val (.long q0), .second, vI (128 : Int32)] [(.long q0)]) _
    refine X0.ldc2Long hx hown (mvT hZ (w7 hw)) (g := (mkF m 13 #[.val (.long q0), .second, vI (128 : Int32)] [(.long q0)])) rfl (hb hby d1_13) _ ?_
    show SP p e below s₁ (mkF m 16 #[.val (.long q0), .second, vI (128 : Int32)] [(.long (127 : Int64)), (.long q0)]) _
    refine XS.lcmp X0.here hx rfl (hb hby d1_16) rfl ?_
    refine XS.ifNo X0.here hx rfl (hb hby d1_17) rfl ((if0 _ _).trans (flt hc4).2.2.1) ?_
    show SP p e below s₁ (mkF m 20 #[.val (.long q0), .second, vI (128 : Int32)] []) _
    refine st1 _ ?_
    show SP p e below T1 (mkF m 23 #[.val (.long q0), .second, vI (128 : Int32)] [(.ref cA)]) _
    refine XS.lloadN X1.here hx rfl (hb hby d1_23) rfl ?_
    refine XS.l2i X1.here hx rfl (hb hby d1_24) rfl ?_
    refine XS.sipush X1.here hx rfl (hb hby d1_25) ?_
    refine XS.iadd X1.here hx rfl (hb hby d1_28) rfl ?_
    show SP p e below T1 (mkF m 29 #[.val (.long q0), .second, vI (128 : Int32)] [(.int ((q0.toInt32) + (128 : Int32))), (.ref cA)]) _
    refine X1.aaload hx (j := ((q0.toInt32) + (128 : Int32))) (v := (.ref lc)) (by rw [e1]; exact Ar2.1) (State.isArrayOf_alike hZ.alike Ar2.2.1) rfl Ar2.2.2 hin3 hat4 (g := (mkF m 29 #[.val (.long q0), .second, vI (128 : Int32)] [(.int ((q0.toInt32) + (128 : Int32))), (.ref cA)])) rfl rfl (hb hby d1_29) _ ?_
    show SP p e below T1 (mkF m 30 #[.val (.long q0), .second, vI (128 : Int32)] [(.ref lc)]) _
    jvm_step X1.here [X1.here.top, hx, (hb hby d1_30), X1.method', Bd.returns, Value.isRef, FieldType.isReference]
    first | (intro acts; rw [hr _ acts rfl rfl rfl]) | rw [hr _ _ rfl rfl rfl]
    exact Steps.refl _
  · show Q1c Z q0 cA kC fC lc h0 n0 _ T1.heap _
    rw [e1]
    exact ⟨rfl, N0, rfl⟩
def own_Cc (fC : Nat → Value) (v : Int64) (lc : Addr) (lv : Int64) : Prop := ¬ ((lcmpW v (-128 : Int64)) < (0 : Int32)) → ¬ ((0 : Int32) < (lcmpW v (127 : Int64))) → ¬ (((v.toInt32) + (128 : Int32)) < (0 : Int32)) ∧ ((v.toInt32) + (128 : Int32)) < (256 : Int32) ∧ fC (((v.toInt32) + (128 : Int32))).toNatClampNeg = (.ref lc) ∧ lv = v
def QVO (Z : State) (q0 : Int64) (cA : Addr) (kC : ClassId) (fC : Nat → Value) (lc : Addr) (lv : Int64) (h0 : Heap) (n0 : Nat) (v : Option Value) (h : Heap) (L : List Loc) : Prop := ∃ rl : Addr, v = some (.ref rl) ∧ Fr n0 L ∧ Keep h0 h [] ∧ Exa Z h rl cLG ∧ Fld Z h rl cLG "value" "J" (.long q0)
theorem rmVO (l : Launch) (Z : State) (az : Array Value) (hw : HW Z az) (ws : List Jvm.Cond) (q0 : Int64) (cA : Addr) (kC : ClassId) (fC : Nat → Value) (lc : Addr) (lv : Int64) (h0 : Heap) (n0 : Nat) (Z0 : n0 ≤ h0.size) (S_cache : Sta Z h0 "java/lang/Long$LongCache" "cache" "[Ljava/lang/Long;" (.ref cA)) (V_cA : own_Arf Z h0 cA kC (.object cLG) (256 : Int32) fC) (E_cA : Exa Z h0 cA "[Ljava/lang/Long;") (E_lc : Exa Z h0 lc cLG) (F_value_lc : Fld Z h0 lc cLG "value" "J" (.long lv)) (hv : own_Cc fC q0 lc lv) :
    MF l Z h0 ws ⟨cLG, "valueOf", "(J)Ljava/lang/Long;"⟩ kB5 3 (some (.object cLG)) ⟨3, 1, 1, 39⟩ #[(.long q0)] (QVO Z q0 cA kC fC lc lv h0 n0) := by
  by_cases c1 : (lcmpW q0 (-128 : Int64)) < (0 : Int32)
  · refine own_mono (rm1n1 l Z az hw ws q0 h0 n0 Z0 c1) fun v h L q => ?_
    obtain ⟨r0, rfl, qN, qs, qK, qE, qF⟩ := q
    exact ⟨r0, rfl, qN, qK, qE, qF⟩
  · by_cases c2 : (0 : Int32) < (lcmpW q0 (127 : Int64))
    · refine own_mono (rm1n2 l Z az hw ws q0 h0 n0 Z0 c1 c2) fun v h L q => ?_
      obtain ⟨r0, rfl, qN, qs, qK, qE, qF⟩ := q
      exact ⟨r0, rfl, qN, qK, qE, qF⟩
    · obtain ⟨c3, c4, c5, rfl⟩ := hv c1 c2
      refine own_mono (rm1c l Z az hw ws lv cA kC fC lc h0 n0 Z0 S_cache V_cA E_cA c1 c2 c3 c4 c5) fun v h L q => ?_
      obtain ⟨rfl, qN, rfl⟩ := q
      exact ⟨lc, rfl, qN, Keep.refl _ _, E_lc, F_value_lc⟩
theorem d8_0 : dc kB9 0 (.lload_n 0) 1 := by decide +kernel
theorem d8_1 : dc kB9 1 (.lload_n 0) 1 := by decide +kernel
theorem d8_2 : dc kB9 2 (.bipush 32) 2 := by decide +kernel
theorem d8_4 : dc kB9 4 .lushr 1 := by decide +kernel
theorem d8_5 : dc kB9 5 .lxor 1 := by decide +kernel
theorem d8_6 : dc kB9 6 .l2i 1 := by decide +kernel
theorem d8_7 : dc kB9 7 .ireturn 1 := by decide +kernel
def own_lh (q0 : Int64) : Int32 := ((q0 ^^^ ((q0.toUInt64 >>> ((32 : Int32) &&& 0x3f).toInt64.toUInt64).toInt64)).toInt32)
theorem ef_rm8 (m : MethodId) (q0 : Int64) : entryFrame m #[(.long q0)] 2 = mkF m 0 #[.val (.long q0), .second] [] := by first | (simp [entryFrame, mkF, argsToLocals, Value.category]; done) | rfl
def Q8 (Z : State) (q0 : Int64) (h0 : Heap) (n0 : Nat) (v : Option Value) (h : Heap) (L : List Loc) : Prop := v = some (.int (own_lh q0)) ∧ Fr n0 L ∧ h = h0
theorem rm8 (l : Launch) (Z : State) (az : Array Value) (hw : HW Z az) (ws : List Jvm.Cond) (q0 : Int64) (h0 : Heap) (n0 : Nat) (Z0 : n0 ≤ h0.size) :
    MF l Z h0 ws ⟨cLG, "hashCode", "(J)I"⟩ kB9 2 (some .int) ⟨0, 0, 0, 0⟩ #[(.long q0)] (Q8 Z q0 h0 n0) := by
  refine own_body cLG n0 rfl (plainFor_of_name pn_java_lang_Long) (fun m => ef_rm8 m q0) ?_
  intro p e s m below meth c s₁ Bd hx hby hml hown hZ X0 e0 N0 pre0
  obtain ⟨fs, hr, hrun, hended, hW, hsame⟩ := X0.leave (v := some (.int (own_lh q0))) (fun h => by rw [Bd.returns] at h; cases h) Bd.notSynchronized
  refine ⟨_, _, pre0 _ ?_, hrun, hended, _, _, rfl, ?_, ⟨_, rfl⟩, hW, hsame.mono (by decide) (by decide)⟩
  · show SP p e below s₁ (mkF m 0 #[.val (.long q0), .second] []) _
    refine XS.lloadN X0.here hx rfl (hb hby d8_0) rfl ?_
    refine XS.lloadN X0.here hx rfl (hb hby d8_1) rfl ?_
    refine XS.bipush X0.here hx rfl (hb hby d8_2) ?_
    show SP p e below s₁ (mkF m 4 #[.val (.long q0), .second] [(.int (32 : Int32)), (.long q0), (.long q0)]) _
    refine XS.lushr X0.here hx rfl (hb hby d8_4) rfl ?_
    show SP p e below s₁ (mkF m 5 #[.val (.long q0), .second] [(.long ((q0.toUInt64 >>> ((32 : Int32) &&& 0x3f).toInt64.toUInt64).toInt64)), (.long q0)]) _
    refine XS.lxor X0.here hx rfl (hb hby d8_5) rfl ?_
    refine XS.l2i X0.here hx rfl (hb hby d8_6) rfl ?_
    show SP p e below s₁ (mkF m 7 #[.val (.long q0), .second] [(.int ((q0 ^^^ ((q0.toUInt64 >>> ((32 : Int32) &&& 0x3f).toInt64.toUInt64).toInt64)).toInt32))]) _
    exact retI X0 hx Bd.returns (hb hby d8_7) hr
  · show Q8 Z q0 h0 n0 _ s₁.heap _
    rw [e0]
    exact ⟨rfl, N0, rfl⟩
theorem d7_0 : dc kB8 0 (.aload_n 0) 1 := by decide +kernel
theorem d7_1 : dc kB8 1 (.getfield 273) 3 := by decide +kernel
theorem d7_4 : dc kB8 4 (.invokestatic 277) 3 := by decide +kernel
theorem pd_2 : parseMethodDescriptor "(J)I" = some ⟨[.long], some .int⟩ := by decide +kernel
theorem d7_7 : dc kB8 7 .ireturn 1 := by decide +kernel
theorem ef_rm7 (m : MethodId) (a0 : Addr) : entryFrame m #[(.ref a0)] 1 = mkF m 0 #[vR a0] [] := by first | (simp [entryFrame, mkF, argsToLocals, Value.category]; done) | rfl
def Q7 (Z : State) (a0 : Addr) (q0 : Int64) (h0 : Heap) (n0 : Nat) (v : Option Value) (h : Heap) (L : List Loc) : Prop := v = some (.int (own_lh q0)) ∧ Fr n0 L ∧ h = h0
theorem rm7 (l : Launch) (Z : State) (az : Array Value) (hw : HW Z az) (ws : List Jvm.Cond) (a0 : Addr) (q0 : Int64) (h0 : Heap) (n0 : Nat) (Z0 : n0 ≤ h0.size) (E_a0 : Exa Z h0 a0 cLG) (F_value_a0 : Fld Z h0 a0 cLG "value" "J" (.long q0)) :
    MF l Z h0 ws ⟨cLG, "hashCode", "()I"⟩ kB8 1 (some .int) ⟨1, 0, 0, 13⟩ #[(.ref a0)] (Q7 Z a0 q0 h0 n0) := by
  refine own_body cLG n0 rfl (plainFor_of_name pn_java_lang_Long) (fun m => ef_rm7 m a0) ?_
  intro p e s m below meth c s₁ Bd hx hby hml hown hZ X0 e0 N0 pre0
  obtain ⟨T1, X1, e1, st1⟩ := getF X0 hx hZ hown (host := "") (Or.inl (w47 hw)) Via.refl e0 F_value_a0 (g := (mkF m 1 #[vR a0] [(.ref a0)])) rfl rfl (hb hby d7_1)
  obtain ⟨_, _, ⟨T2, L2, k2', n2'⟩, -, X2, ⟨Lc2, hQ2, l2, y2, z2⟩, st2⟩ := Jvm.LawKit.callS X1 hx (y := ⟨cLG, "hashCode", "(J)I"⟩) hown (mvT hZ (w49 hw)) (mvT hZ (w50 hw)) (mvT hZ (w4 hw)) (mvT hZ (w51 hw)) (by decide) (backOf (W := 0) (rm8 l Z az hw [] q0 h0 n0 Z0) hZ (w51 hw) (w4 hw) (by decide) (by decide)) (g := (mkF m 4 #[vR a0] [(.long q0)])) rfl (by rw [hml]; rfl) (argsL := [(.long q0)]) (rest := []) (lenOf pd_2 rfl) rfl (Nat.le_of_eq rfl) (hb hby d7_4) (fun _ _ => ⟨rfl, e1, (own_nle rfl), (own_nle rfl)⟩)
  dsimp only [Pt.U, Pt.locs, Pt.cells, Pt.slots] at X2 l2 y2 z2 st2 hQ2
  subst l2 y2 z2
  obtain ⟨rfl, N2q, e2⟩ := hQ2
  obtain ⟨Lg2, X2', N2⟩ := own_gen X2 (Fr.app N0 N2q)
  obtain ⟨fs, hr, hrun, hended, hW, hsame⟩ := X2'.leave (v := some (.int (own_lh q0))) (fun h => by rw [Bd.returns] at h; cases h) Bd.notSynchronized
  refine ⟨_, _, pre0 _ ?_, hrun, hended, _, _, rfl, ?_, ⟨_, rfl⟩, hW, hsame.mono (by decide) (by decide)⟩
  · show SP p e below s₁ (mkF m 0 #[vR a0] []) _
    refine XS.aloadN X0.here hx rfl (hb hby d7_0) rfl rfl ?_
    show SP p e below s₁ (mkF m 1 #[vR a0] [(.ref a0)]) _
    refine st1 _ ?_
    show SP p e below T1 (mkF m 4 #[vR a0] [(.long q0)]) _
    refine st2 _ ?_
    show SP p e below T2 (mkF m 7 #[vR a0] [(.int (own_lh q0))]) _
    exact retI X2' hx Bd.returns (hb hby d7_7) hr
  · show Q7 Z a0 q0 h0 n0 _ T2.heap _
    rw [e2]
    exact ⟨rfl, N2, rfl⟩
theorem d6_0 : dc kB14 0 (.aload_n 0) 1 := by decide +kernel
theorem d6_1 : dc kB14 1 (.ifnonnull 5) 3 := by decide +kernel
theorem d6_6 : dc kB14 6 (.iconst 1) 1 := by decide +kernel
theorem d6_7 : dc kB14 7 (.istore_n 1) 1 := by decide +kernel
theorem d6_8 : dc kB14 8 (.aload_n 0) 1 := by decide +kernel
theorem d6_9 : dc kB14 9 (.astore_n 2) 1 := by decide +kernel
theorem d6_10 : dc kB14 10 (.aload_n 2) 1 := by decide +kernel
theorem d6_11 : dc kB14 11 .arraylength 1 := by decide +kernel
theorem d6_12 : dc kB14 12 (.istore_n 3) 1 := by decide +kernel
theorem d6_13 : dc kB14 13 (.iconst 0) 1 := by decide +kernel
theorem d6_14 : dc kB14 14 (.istore 4) 2 := by decide +kernel
theorem d6_16 : dc kB14 16 (.iload 4) 2 := by decide +kernel
theorem d6_18 : dc kB14 18 (.iload_n 3) 1 := by decide +kernel
theorem d6_19 : dc kB14 19 (.if_icmp .ge 35) 3 := by decide +kernel
theorem d6_22 : dc kB14 22 (.aload_n 2) 1 := by decide +kernel
theorem d6_23 : dc kB14 23 (.iload 4) 2 := by decide +kernel
theorem d6_25 : dc kB14 25 .aaload 1 := by decide +kernel
theorem d6_26 : dc kB14 26 (.astore 5) 2 := by decide +kernel
theorem d6_28 : dc kB14 28 (.bipush 31) 2 := by decide +kernel
theorem d6_30 : dc kB14 30 (.iload_n 1) 1 := by decide +kernel
theorem d6_31 : dc kB14 31 .imul 1 := by decide +kernel
theorem d6_32 : dc kB14 32 (.aload 5) 2 := by decide +kernel
theorem d6_34 : dc kB14 34 (.ifnonnull 7) 3 := by decide +kernel
theorem d6_41 : dc kB14 41 (.aload 5) 2 := by decide +kernel
theorem d6_43 : dc kB14 43 (.invokevirtual 383) 3 := by decide +kernel
theorem pd_3 : parseMethodDescriptor "()I" = some ⟨[], some .int⟩ := by decide +kernel
theorem d6_46 : dc kB14 46 .iadd 1 := by decide +kernel
theorem d6_47 : dc kB14 47 (.istore_n 1) 1 := by decide +kernel
theorem d6_48 : dc kB14 48 (.iinc 4 1) 3 := by decide +kernel
theorem d6_51 : dc kB14 51 (.goto (-35)) 3 := by decide +kernel
theorem d6_54 : dc kB14 54 (.iload_n 1) 1 := by decide +kernel
theorem d6_55 : dc kB14 55 .ireturn 1 := by decide +kernel
def own_th (q0 : Int64) : Int32 := ((31 : Int32) + (own_lh q0))
theorem pn_java_util_Arrays : plainName "java/util/Arrays" = true := by first | (simp [plainName, overriddenIn]; done) | decide +kernel
theorem ef_rm6 (m : MethodId) (a0 : Addr) : entryFrame m #[(.ref a0)] 6 = mkF m 0 #[vR a0, .unset, .unset, .unset, .unset, .unset] [] := by first | (simp [entryFrame, mkF, argsToLocals, Value.category]; done) | rfl
def Q6 (Z : State) (a0 : Addr) (ka0 : ClassId) (lx : Addr) (q0 : Int64) (h0 : Heap) (n0 : Nat) (v : Option Value) (h : Heap) (L : List Loc) : Prop := v = some (.int (own_th q0)) ∧ Fr n0 L ∧ h = h0
theorem rm6 (l : Launch) (Z : State) (az : Array Value) (hw : HW Z az) (ws : List Jvm.Cond) (a0 : Addr) (ka0 : ClassId) (lx : Addr) (q0 : Int64) (h0 : Heap) (n0 : Nat) (Z0 : n0 ≤ h0.size) (V_a0 : Arv Z h0 a0 ka0 (.object "java/lang/Object") (1 : Int32) [(.ref lx)] .null) (E_a0 : Exa Z h0 a0 cOA) (E_lx : Exa Z h0 lx cLG) (F_value_lx : Fld Z h0 lx cLG "value" "J" (.long q0)) :
    MF l Z h0 ws ⟨"java/util/Arrays", "hashCode", "([Ljava/lang/Object;)I"⟩ kB14 6 (some .int) ⟨2, 0, 0, 26⟩ #[(.ref a0)] (Q6 Z a0 ka0 lx q0 h0 n0) := by
  refine own_body "java/util/Arrays" n0 rfl (plainFor_of_name pn_java_util_Arrays) (fun m => ef_rm6 m a0) ?_
  intro p e s m below meth c s₁ Bd hx hby hml hown hZ X0 e0 N0 pre0
  obtain ⟨cl1, Ar1, qk1, Sz1, Ng1, Hs1, Gf1⟩ := id V_a0
  have hin2 : ¬ ((0 : Int32) < 0 ∨ cl1.slots.size ≤ ((0 : Int32)).toNatClampNeg) := inb_of Sz1 ⟨by decide, by decide⟩
  have hat3 : cl1.slots[((0 : Int32)).toNatClampNeg]? = some (.ref lx) := Hs1.at hin2 rfl
  obtain ⟨cq4, kq4, q4a, q4b, q4c⟩ := isOf hZ e0 E_lx
  obtain ⟨_, _, ⟨T4, L4, k4', n4'⟩, -, X4, ⟨Lc4, hQ4, l4, y4, z4⟩, st4⟩ := X0.virtualBack hx (y := ⟨"java/lang/Object", "hashCode", "()I"⟩) (z := ⟨cLG, "hashCode", "()I"⟩) hown (mvT hZ (w41 hw)) (mvT hZ (w42 hw)) (own_nf (args := #[]) (mvT hZ (w19 hw)) rfl) (mvT hZ (w44 hw)) (mvT hZ (w45 hw)) (by decide) (backOf (W := 1) (rm7 l Z az hw [] lx q0 h0 n0 Z0 E_lx F_value_lx) hZ (w46 hw) (w4 hw) (by decide) (by decide)) q4a q4c (g := (mkF m 43 #[vR a0, vI (1 : Int32), vR a0, vI (1 : Int32), vI (0 : Int32), vR lx] [(.ref lx), (.int (31 : Int32))])) rfl (by rw [hml]; rfl) (Steps.refl _) (argsL := []) (rest := [(.int (31 : Int32))]) (lenOf pd_3 rfl) rfl (Nat.le_of_eq rfl) (hb hby d6_43) (fun _ _ => ⟨rfl, e0, (own_nle rfl), (own_nle rfl)⟩)
  dsimp only [Pt.U, Pt.locs, Pt.cells, Pt.slots] at X4 l4 y4 z4 st4 hQ4
  subst l4 y4 z4
  obtain ⟨rfl, N4q, e4⟩ := hQ4
  obtain ⟨Lg4, X4', N4⟩ := own_gen X4 (Fr.app N0 N4q)
  obtain ⟨fs, hr, hrun, hended, hW, hsame⟩ := X4'.leave (v := some (.int (own_th q0))) (fun h => by rw [Bd.returns] at h; cases h) Bd.notSynchronized
  refine ⟨_, _, pre0 _ ?_, hrun, hended, _, _, rfl, ?_, ⟨_, rfl⟩, hW, hsame.mono (by decide) (by decide)⟩
  · show SP p e below s₁ (mkF m 0 #[vR a0, .unset, .unset, .unset, .unset, .unset] []) _
    refine XS.aloadN X0.here hx rfl (hb hby d6_0) rfl rfl ?_
    show SP p e below s₁ (mkF m 1 #[vR a0, .unset, .unset, .unset, .unset, .unset] [(.ref a0)]) _
    refine XS.ifnonnullYes X0.here hx rfl (pc0 := 1) (pc' := 6) rfl (hb hby d6_1) rfl (by decide) (by decide) ?_
    refine XS.iconst X0.here hx rfl (hb hby d6_6) ?_
    refine XS.istoreN X0.here hx rfl (hb hby d6_7) rfl (l' := #[vR a0, vI (1 : Int32), .unset, .unset, .unset, .unset]) rfl ?_
    refine XS.aloadN X0.here hx rfl (hb hby d6_8) rfl rfl ?_
    refine XS.astoreN X0.here hx rfl (hb hby d6_9) rfl rfl (l' := #[vR a0, vI (1 : Int32), vR a0, .unset, .unset, .unset]) rfl ?_
    refine XS.aloadN X0.here hx rfl (hb hby d6_10) rfl rfl ?_
    show SP p e below s₁ (mkF m 11 #[vR a0, vI (1 : Int32), vR a0, .unset, .unset, .unset] [(.ref a0)]) _
    refine X0.arraylength hx (by rw [e0]; exact Ar1.1) (State.isArrayOf_alike hZ.alike Ar1.2.1) (g := (mkF m 11 #[vR a0, vI (1 : Int32), vR a0, .unset, .unset, .unset] [(.ref a0)])) rfl rfl (hb hby d6_11) _ ?_
    rw [len_of Sz1 Ng1]
    show SP p e below s₁ (mkF m 12 #[vR a0, vI (1 : Int32), vR a0, .unset, .unset, .unset] [(.int (1 : Int32))]) _
    refine XS.istoreN X0.here hx rfl (hb hby d6_12) rfl (l' := #[vR a0, vI (1 : Int32), vR a0, vI (1 : Int32), .unset, .unset]) rfl ?_
    refine XS.iconst X0.here hx rfl (hb hby d6_13) ?_
    refine XS.istore X0.here hx rfl (hb hby d6_14) rfl (l' := #[vR a0, vI (1 : Int32), vR a0, vI (1 : Int32), vI (0 : Int32), .unset]) rfl ?_
    refine XS.iload X0.here hx rfl (hb hby d6_16) rfl ?_
    refine XS.iloadN X0.here hx rfl (hb hby d6_18) rfl ?_
    refine XS.icmpNo X0.here hx rfl (hb hby d6_19) rfl (tlt (by decide : (0 : Int32) < (1 : Int32))).2.1 ?_
    refine XS.aloadN X0.here hx rfl (hb hby d6_22) rfl rfl ?_
    refine XS.iload X0.here hx rfl (hb hby d6_23) rfl ?_
    show SP p e below s₁ (mkF m 25 #[vR a0, vI (1 : Int32), vR a0, vI (1 : Int32), vI (0 : Int32), .unset] [(.int (0 : Int32)), (.ref a0)]) _
    refine X0.aaload hx (j := (0 : Int32)) (v := (.ref lx)) (by rw [e0]; exact Ar1.1) (State.isArrayOf_alike hZ.alike Ar1.2.1) rfl Ar1.2.2 hin2 hat3 (g := (mkF m 25 #[vR a0, vI (1 : Int32), vR a0, vI (1 : Int32), vI (0 : Int32), .unset] [(.int (0 : Int32)), (.ref a0)])) rfl rfl (hb hby d6_25) _ ?_
    show SP p e below s₁ (mkF m 26 #[vR a0, vI (1 : Int32), vR a0, vI (1 : Int32), vI (0 : Int32), .unset] [(.ref lx)]) _
    refine XS.astore X0.here hx rfl (hb hby d6_26) rfl rfl (l' := #[vR a0, vI (1 : Int32), vR a0, vI (1 : Int32), vI (0 : Int32), vR lx]) rfl ?_
    refine XS.bipush X0.here hx rfl (hb hby d6_28) ?_
    refine XS.iloadN X0.here hx rfl (hb hby d6_30) rfl ?_
    refine XS.imul X0.here hx rfl (hb hby d6_31) rfl ?_
    refine XS.aload X0.here hx rfl (hb hby d6_32) rfl rfl ?_
    show SP p e below s₁ (mkF m 34 #[vR a0, vI (1 : Int32), vR a0, vI (1 : Int32), vI (0 : Int32), vR lx] [(.ref lx), (.int (31 : Int32))]) _
    refine XS.ifnonnullYes X0.here hx rfl (pc0 := 34) (pc' := 41) rfl (hb hby d6_34) rfl (by decide) (by decide) ?_
    refine XS.aload X0.here hx rfl (hb hby d6_41) rfl rfl ?_
    show SP p e below s₁ (mkF m 43 #[vR a0, vI (1 : Int32), vR a0, vI (1 : Int32), vI (0 : Int32), vR lx] [(.ref lx), (.int (31 : Int32))]) _
    refine st4.trans ?_
    show SP p e below T4 (mkF m 46 #[vR a0, vI (1 : Int32), vR a0, vI (1 : Int32), vI (0 : Int32), vR lx] [(.int (own_lh q0)), (.int (31 : Int32))]) _
    refine XS.iadd X4'.here hx rfl (hb hby d6_46) rfl ?_
    refine XS.istoreN X4'.here hx rfl (hb hby d6_47) rfl (l' := #[vR a0, vI ((31 : Int32) + (own_lh q0)), vR a0, vI (1 : Int32), vI (0 : Int32), vR lx]) rfl ?_
    refine XS.iinc X4'.here hx rfl (hb hby d6_48) rfl (l' := #[vR a0, vI ((31 : Int32) + (own_lh q0)), vR a0, vI (1 : Int32), vI (1 : Int32), vR lx]) rfl ?_
    refine XS.goto X4'.here hx rfl (pc0 := 51) (pc' := 16) rfl (hb hby d6_51) (by decide) (by decide) ?_
    refine XS.iload X4'.here hx rfl (hb hby d6_16) rfl ?_
    refine XS.iloadN X4'.here hx rfl (hb hby d6_18) rfl ?_
    refine XS.icmpYes X4'.here hx rfl (pc0 := 19) (pc' := 54) rfl (hb hby d6_19) rfl (flt (by decide : ¬ ((1 : Int32) < (1 : Int32)))).2.1 (by decide) (by decide) ?_
    refine XS.iloadN X4'.here hx rfl (hb hby d6_54) rfl ?_
    show SP p e below T4 (mkF m 55 #[vR a0, vI ((31 : Int32) + (own_lh q0)), vR a0, vI (1 : Int32), vI (1 : Int32), vR lx] [(.int ((31 : Int32) + (own_lh q0)))]) _
    exact retI X4' hx Bd.returns (hb hby d6_55) hr
  · show Q6 Z a0 ka0 lx q0 h0 n0 _ T4.heap _
    rw [e4]
    exact ⟨rfl, N4, rfl⟩
theorem d4_0 : dc kB40 0 (.aload_n 0) 1 := by decide +kernel
theorem d4_1 : dc kB40 1 (.invokespecial 1) 3 := by decide +kernel
theorem d4_4 : dc kB40 4 (.aload_n 0) 1 := by decide +kernel
theorem d4_5 : dc kB40 5 (.aload_n 1) 1 := by decide +kernel
theorem d4_6 : dc kB40 6 (.putfield 7) 3 := by decide +kernel
theorem d4_9 : dc kB40 9 (.aload_n 0) 1 := by decide +kernel
theorem d4_10 : dc kB40 10 (.aload_n 1) 1 := by decide +kernel
theorem d4_11 : dc kB40 11 (.invokestatic 13) 3 := by decide +kernel
theorem pd_4 : parseMethodDescriptor "([Ljava/lang/Object;)I" = some ⟨[(.array (.object "java/lang/Object"))], some .int⟩ := by decide +kernel
theorem d4_14 : dc kB40 14 (.putfield 19) 3 := by decide +kernel
theorem sl_0 {Z : State} {az : Array Value} (hw : HW Z az) : Jvm.RoadKit.slotOf Z cTU "hash" "I" ≠ Jvm.RoadKit.slotOf Z cTU "values" cOA := slot_ne (Z := Z) (Or.inr (w53 hw)) (Or.inr (w36 hw)) (by decide) (t := .int) (t' := (.array (.object "java/lang/Object"))) (by decide) (by decide)
theorem d4_17 : dc kB40 17 .return_ 1 := by decide +kernel
theorem sl_1 {Z : State} {az : Array Value} (hw : HW Z az) : Jvm.RoadKit.slotOf Z cTU "values" cOA ≠ Jvm.RoadKit.slotOf Z cTU "hash" "I" := slot_ne (Z := Z) (Or.inr (w36 hw)) (Or.inr (w53 hw)) (by decide) (t := (.array (.object "java/lang/Object"))) (t' := .int) (by decide) (by decide)
theorem pn_com_example_reteweave_reteweave_network_Tuple : plainName "com/example/reteweave/reteweave/network/Tuple" = true := by first | (simp [plainName, overriddenIn]; done) | decide +kernel
theorem ef_rm4 (m : MethodId) (a0 a1 : Addr) : entryFrame m #[(.ref a0), (.ref a1)] 2 = mkF m 0 #[vR a0, vR a1] [] := by first | (simp [entryFrame, mkF, argsToLocals, Value.category]; done) | rfl
def Q4 (Z : State) (a0 a1 : Addr) (ka1 : ClassId) (lx : Addr) (q0 : Int64) (h0 : Heap) (n0 : Nat) (v : Option Value) (h : Heap) (L : List Loc) : Prop := v = none ∧ Fr n0 L ∧ Keep h0 h [a0] ∧ Exa Z h a0 cTU ∧ Fld Z h a0 cTU "values" cOA (.ref a1) ∧ Fld Z h a0 cTU "hash" "I" (.int (own_th q0))
theorem rm4 (l : Launch) (Z : State) (az : Array Value) (hw : HW Z az) (ws : List Jvm.Cond) (a0 a1 : Addr) (ka1 : ClassId) (lx : Addr) (q0 : Int64) (h0 : Heap) (n0 : Nat) (Z0 : n0 ≤ h0.size) (E_a0 : Exa Z h0 a0 cTU) (F_values_a0 : Fld Z h0 a0 cTU "values" cOA .null) (F_hash_a0 : Fld Z h0 a0 cTU "hash" "I" (.int (0 : Int32))) (V_a1 : Arv Z h0 a1 ka1 (.object "java/lang/Object") (1 : Int32) [(.ref lx)] .null) (E_a1 : Exa Z h0 a1 cOA) (E_lx : Exa Z h0 lx cLG) (F_value_lx : Fld Z h0 lx cLG "value" "J" (.long q0)) (g_a0 : n0 ≤ a0) :
    MF l Z h0 ws ⟨cTU, "<init>", "([Ljava/lang/Object;)V"⟩ kB40 2 none ⟨3, 0, 0, 44⟩ #[(.ref a0), (.ref a1)] (Q4 Z a0 a1 ka1 lx q0 h0 n0) := by
  refine own_body cTU n0 rfl (plainFor_of_name pn_com_example_reteweave_reteweave_network_Tuple) (fun m => ef_rm4 m a0 a1) ?_
  intro p e s m below meth c s₁ Bd hx hby hml hown hZ X0 e0 N0 pre0
  have hnm := (name_of_methodNamed Bd.named Bd.method).1
  obtain ⟨T1, X1, e1, st1⟩ := initO X0 hx hZ hown (w32 hw) (w33 hw) (w34 hw) e0 (g := (mkF m 1 #[vR a0, vR a1] [(.ref a0)])) rfl (by rw [hml]; rfl) rfl (hb hby d4_1) (by decide) (W := 0) (Nat.le_of_eq rfl) (by decide)
  obtain ⟨T2, h2, X2, e2, W2, st2⟩ := putF X1 hx hZ hown (host := "") (Or.inl (w35 hw)) Via.refl e1 F_values_a0 E_a0 (Or.inr ⟨(w36 hw), rfl, hnm⟩) (w28 hw) (ty := (.array (.object "java/lang/Object"))) (by decide) rfl rfl (g := (mkF m 6 #[vR a0, vR a1] [(.ref a1), (.ref a0)])) rfl rfl (hb hby d4_6)
  have K2 : Keep h0 h2 [a0] := (Keep.refl h0 [a0]).wr W2 (Or.inl (mg 0 rfl))
  have Fw2 := F_values_a0.same W2
  have Z2 : n0 ≤ h2.size := Nat.le_trans Z0 (Keep.of_wr W2).1
  obtain ⟨Lg2, X2', N2⟩ := own_gen X2 (Fr.snoc X2 N0 g_a0)
  have ne_a1_a0 : a1 ≠ a0 := ne_exa E_a1 E_a0 (by decide)
  have V_a1_u4 : Arv Z h2 a1 ka1 (.object "java/lang/Object") (1 : Int32) [(.ref lx)] .null := (V_a1.other W2 ne_a1_a0)
  have E_a1_u5 : Exa Z h2 a1 cOA := (E_a1.wr W2)
  have E_lx_u6 : Exa Z h2 lx cLG := (E_lx.wr W2)
  have ne_lx_a0 : lx ≠ a0 := ne_exa E_lx E_a0 (by decide)
  have F_lx_value_u7 : Fld Z h2 lx cLG "value" "J" (.long q0) := (F_value_lx.other W2 (Or.inl ne_lx_a0))
  obtain ⟨_, _, ⟨T3, L3, k3', n3'⟩, -, X3, ⟨Lc3, hQ3, l3, y3, z3⟩, st3⟩ := Jvm.LawKit.callS X2' hx (y := ⟨"java/util/Arrays", "hashCode", "([Ljava/lang/Object;)I"⟩) hown (mvT hZ (w37 hw)) (mvT hZ (w38 hw)) (mvT hZ (w39 hw)) (mvT hZ (w40 hw)) (by decide) (backOf (W := 1) (rm6 l Z az hw [] a1 ka1 lx q0 h2 n0 Z2 V_a1_u4 E_a1_u5 E_lx_u6 F_lx_value_u7) hZ (w40 hw) (w39 hw) (by decide) (by decide)) (g := (mkF m 11 #[vR a0, vR a1] [(.ref a1), (.ref a0)])) rfl (by rw [hml]; rfl) (argsL := [(.ref a1)]) (rest := [(.ref a0)]) (lenOf pd_4 rfl) rfl (Nat.le_of_eq rfl) (hb hby d4_11) (fun _ _ => ⟨rfl, e2, (own_nle rfl), (own_nle rfl)⟩)
  dsimp only [Pt.U, Pt.locs, Pt.cells, Pt.slots] at X3 l3 y3 z3 st3 hQ3
  subst l3 y3 z3
  obtain ⟨rfl, N3q, e3⟩ := hQ3
  obtain ⟨Lg3, X3', N3⟩ := own_gen X3 (Fr.app N2 N3q)
  have F_a0_hash_u8 : Fld Z h2 a0 cTU "hash" "I" (.int (0 : Int32)) := (F_hash_a0.other W2 (Or.inr (sl_0 hw)))
  have E_a0_u9 : Exa Z h2 a0 cTU := (E_a0.wr W2)
  obtain ⟨T10, h10, X10, e10, W10, st10⟩ := putF X3' hx hZ hown (host := "") (Or.inl (w52 hw)) Via.refl e3 F_a0_hash_u8 E_a0_u9 (Or.inr ⟨(w53 hw), rfl, hnm⟩) (w28 hw) (ty := .int) (by decide) rfl rfl (g := (mkF m 14 #[vR a0, vR a1] [(.int (own_th q0)), (.ref a0)])) rfl rfl (hb hby d4_14)
  have K10 : Keep h0 h10 [a0] := K2.wr W10 (Or.inl (mg 0 rfl))
  have Fw10 := F_a0_hash_u8.same W10
  have Z10 : n0 ≤ h10.size := Nat.le_trans Z2 (Keep.of_wr W10).1
  obtain ⟨Lg10, X10', N10⟩ := own_gen X10 (Fr.snoc X10 N3 g_a0)
  have E_a0_u11 : Exa Z h10 a0 cTU := (E_a0_u9.wr W10)
  have F_a0_values_u12 : Fld Z h10 a0 cTU "values" cOA (.ref a1) := (Fw2.other W10 (Or.inr (sl_1 hw)))
  obtain ⟨fs, hr, hrun, hended, hW, hsame⟩ := X10'.leave (v := none) (fun _ => rfl) Bd.notSynchronized
  refine ⟨_, _, pre0 _ ?_, hrun, hended, _, _, rfl, ?_, ⟨_, rfl⟩, hW, hsame.mono (by decide) (by decide)⟩
  · show SP p e below s₁ (mkF m 0 #[vR a0, vR a1] []) _
    refine XS.aloadN X0.here hx rfl (hb hby d4_0) rfl rfl ?_
    show SP p e below s₁ (mkF m 1 #[vR a0, vR a1] [(.ref a0)]) _
    refine st1 _ ?_
    show SP p e below T1 (mkF m 4 #[vR a0, vR a1] []) _
    refine XS.aloadN X1.here hx rfl (hb hby d4_4) rfl rfl ?_
    refine XS.aloadN X1.here hx rfl (hb hby d4_5) rfl rfl ?_
    show SP p e below T1 (mkF m 6 #[vR a0, vR a1] [(.ref a1), (.ref a0)]) _
    refine st2 _ ?_
    show SP p e below T2 (mkF m 9 #[vR a0, vR a1] []) _
    refine XS.aloadN X2'.here hx rfl (hb hby d4_9) rfl rfl ?_
    refine XS.aloadN X2'.here hx rfl (hb hby d4_10) rfl rfl ?_
    show SP p e below T2 (mkF m 11 #[vR a0, vR a1] [(.ref a1), (.ref a0)]) _
    refine st3 _ ?_
    show SP p e below T3 (mkF m 14 #[vR a0, vR a1] [(.int (own_th q0)), (.ref a0)]) _
    refine st10 _ ?_
    show SP p e below T10 (mkF m 17 #[vR a0, vR a1] []) _
    exact X10'.returnOut hx Bd.returns (hb hby d4_17) hr
  · show Q4 Z a0 a1 ka1 lx q0 h0 n0 _ T10.heap _
    rw [e10]
    exact ⟨rfl, N10, K10, E_a0_u11, F_a0_values_u12, Fw10⟩
theorem d3_0 : dc kB42 0 (.aload_n 0) 1 := by decide +kernel
theorem d3_1 : dc kB42 1 (.astore_n 1) 1 := by decide +kernel
theorem d3_2 : dc kB42 2 (.aload_n 1) 1 := by decide +kernel
theorem d3_3 : dc kB42 3 .arraylength 1 := by decide +kernel
theorem d3_4 : dc kB42 4 (.istore_n 2) 1 := by decide +kernel
theorem d3_5 : dc kB42 5 (.iconst 0) 1 := by decide +kernel
theorem d3_6 : dc kB42 6 (.istore_n 3) 1 := by decide +kernel
theorem d3_7 : dc kB42 7 (.iload_n 3) 1 := by decide +kernel
theorem d3_8 : dc kB42 8 (.iload_n 2) 1 := by decide +kernel
theorem d3_9 : dc kB42 9 (.if_icmp .ge 29) 3 := by decide +kernel
theorem d3_12 : dc kB42 12 (.aload_n 1) 1 := by decide +kernel
theorem d3_13 : dc kB42 13 (.iload_n 3) 1 := by decide +kernel
theorem d3_14 : dc kB42 14 .aaload 1 := by decide +kernel
theorem d3_15 : dc kB42 15 (.astore 4) 2 := by decide +kernel
theorem d3_17 : dc kB42 17 (.aload 4) 2 := by decide +kernel
theorem d3_19 : dc kB42 19 (.ifnonnull 13) 3 := by decide +kernel
theorem d3_32 : dc kB42 32 (.iinc 3 1) 3 := by decide +kernel
theorem d3_35 : dc kB42 35 (.goto (-28)) 3 := by decide +kernel
theorem d3_38 : dc kB42 38 (.aload_n 0) 1 := by decide +kernel
theorem d3_39 : dc kB42 39 .arraylength 1 := by decide +kernel
theorem d3_40 : dc kB42 40 (.ifCond .ne 9) 3 := by decide +kernel
theorem d3_49 : dc kB42 49 (.new 8) 3 := by decide +kernel
theorem d3_52 : dc kB42 52 .dup 1 := by decide +kernel
theorem d3_53 : dc kB42 53 (.aload_n 0) 1 := by decide +kernel
theorem d3_54 : dc kB42 54 (.invokespecial 43) 3 := by decide +kernel
theorem pd_5 : parseMethodDescriptor "([Ljava/lang/Object;)V" = some ⟨[(.array (.object "java/lang/Object"))], none⟩ := by decide +kernel
theorem d3_57 : dc kB42 57 .areturn 1 := by decide +kernel
theorem ef_rm3 (m : MethodId) (a0 : Addr) : entryFrame m #[(.ref a0)] 5 = mkF m 0 #[vR a0, .unset, .unset, .unset, .unset] [] := by first | (simp [entryFrame, mkF, argsToLocals, Value.category]; done) | rfl
def Q3 (Z : State) (a0 : Addr) (ka0 : ClassId) (lx : Addr) (q0 : Int64) (h0 : Heap) (n0 : Nat) (v : Option Value) (h : Heap) (L : List Loc) : Prop := ∃ r0 : Addr, v = some (.ref r0) ∧ Fr n0 L ∧ h0.size ≤ r0 ∧ Keep h0 h [] ∧ Exa Z h r0 cTU ∧ Fld Z h r0 cTU "values" cOA (.ref a0) ∧ Fld Z h r0 cTU "hash" "I" (.int (own_th q0))
theorem rm3 (l : Launch) (Z : State) (az : Array Value) (hw : HW Z az) (ws : List Jvm.Cond) (a0 : Addr) (ka0 : ClassId) (lx : Addr) (q0 : Int64) (h0 : Heap) (n0 : Nat) (Z0 : n0 ≤ h0.size) (V_a0 : Arv Z h0 a0 ka0 (.object "java/lang/Object") (1 : Int32) [(.ref lx)] .null) (E_a0 : Exa Z h0 a0 cOA) (E_lx : Exa Z h0 lx cLG) (F_value_lx : Fld Z h0 lx cLG "value" "J" (.long q0)) :
    MF l Z h0 ws ⟨cTU, "holding", "([Ljava/lang/Object;)Lcom/example/reteweave/reteweave/network/Tuple;"⟩ kB42 5 (some (.object cTU)) ⟨4, 1, 2, 58⟩ #[(.ref a0)] (Q3 Z a0 ka0 lx q0 h0 n0) := by
  refine own_body cTU n0 rfl (plainFor_of_name pn_com_example_reteweave_reteweave_network_Tuple) (fun m => ef_rm3 m a0) ?_
  intro p e s m below meth c s₁ Bd hx hby hml hown hZ X0 e0 N0 pre0
  obtain ⟨cl1, Ar1, qk1, Sz1, Ng1, Hs1, Gf1⟩ := id V_a0
  have hin2 : ¬ ((0 : Int32) < 0 ∨ cl1.slots.size ≤ ((0 : Int32)).toNatClampNeg) := inb_of Sz1 ⟨by decide, by decide⟩
  have hat3 : cl1.slots[((0 : Int32)).toNatClampNeg]? = some (.ref lx) := Hs1.at hin2 rfl
  obtain ⟨T4, h4, X4, e4, E4, A4, D4, -, st4⟩ := newO X0 hx hZ hown (w27 hw) (w28 hw) (w13 hw) e0 (g := (mkF m 49 #[vR a0, vR a0, vI (1 : Int32), vI (1 : Int32), vR lx] [])) rfl (hb hby d3_49) (by decide) (by decide)
  obtain ⟨b4, g4⟩ : ∃ z, z = h0.size := ⟨_, rfl⟩
  rw [← g4] at A4 D4 st4
  have g_b4 : n0 ≤ b4 := Nat.le_trans Z0 (Nat.le_of_eq g4.symm)
  have sz_b4 : h0.size ≤ b4 := Nat.le_trans (Nat.le_refl _) (Nat.le_of_eq g4.symm)
  have Z4 : n0 ≤ h4.size := Nat.le_trans Z0 E4.1
  have K4 : Keep h0 h4 [] := (Keep.refl h0 []).ext E4
  have E_b4 := A4
  have F_values_b4 : Fld Z h4 b4 cTU "values" cOA .null := D4 (Or.inr (w36 hw)) (ty := (.array (.object "java/lang/Object"))) (by decide)
  have F_hash_b4 : Fld Z h4 b4 cTU "hash" "I" (.int (0 : Int32)) := D4 (Or.inr (w53 hw)) (ty := .int) (by decide)
  have V_a0_u6 : Arv Z h4 a0 ka0 (.object "java/lang/Object") (1 : Int32) [(.ref lx)] .null := (V_a0.ext E4)
  have E_a0_u7 : Exa Z h4 a0 cOA := (E_a0.ext E4)
  have E_lx_u8 : Exa Z h4 lx cLG := (E_lx.ext E4)
  have F_lx_value_u9 : Fld Z h4 lx cLG "value" "J" (.long q0) := (F_value_lx.ext E4)
  obtain ⟨_, _, ⟨T5, L5, k5', n5'⟩, -, X5, ⟨Lc5, hQ5, l5, y5, z5⟩, st5⟩ := X4.specialBack hx (y := ⟨cTU, "<init>", "([Ljava/lang/Object;)V"⟩) rfl hown (mvT hZ (w29 hw)) (mvT hZ (w30 hw)) (mvT hZ (w31 hw)) (by decide) (backOf (W := 1) (rm4 l Z az hw [] b4 a0 ka0 lx q0 h4 n0 Z4 E_b4 F_values_b4 F_hash_b4 V_a0_u6 E_a0_u7 E_lx_u8 F_lx_value_u9 g_b4) hZ (w31 hw) (w13 hw) (by decide) (by decide)) (g := (mkF m 54 #[vR a0, vR a0, vI (1 : Int32), vI (1 : Int32), vR lx] [(.ref a0), (.ref b4), (.ref b4)])) rfl (by rw [hml]; rfl) (Steps.refl _) (a := b4) (argsL := [(.ref a0)]) (rest := [(.ref b4)]) (lenOf pd_5 rfl) rfl (Nat.le_of_eq rfl) (hb hby d3_54) (fun _ _ => ⟨rfl, e4, (own_nle rfl), (own_nle rfl)⟩)
  dsimp only [Pt.U, Pt.locs, Pt.cells, Pt.slots] at X5 l5 y5 z5 st5 hQ5
  subst l5 y5 z5
  obtain ⟨rfl, N5q, kq5, pf5_0, pf5_1, pf5_2⟩ := hQ5
  obtain ⟨Lg5, X5', N5⟩ := own_gen X5 (Fr.app N0 N5q)
  have K5 : Keep h0 T5.heap [] := K4.trans kq5 (allS (Or.inr sz_b4) all0)
  have Z5 : n0 ≤ T5.heap.size := Nat.le_trans Z4 kq5.1
  obtain ⟨fs, hr, hrun, hended, hW, hsame⟩ := X5'.leave (v := some (.ref b4)) (fun h => by rw [Bd.returns] at h; cases h) Bd.notSynchronized
  refine ⟨_, _, pre0 _ ?_, hrun, hended, _, _, rfl, ?_, ⟨_, rfl⟩, hW, hsame.mono (by decide) (by decide)⟩
  · show SP p e below s₁ (mkF m 0 #[vR a0, .unset, .unset, .unset, .unset] []) _
    refine XS.aloadN X0.here hx rfl (hb hby d3_0) rfl rfl ?_
    refine XS.astoreN X0.here hx rfl (hb hby d3_1) rfl rfl (l' := #[vR a0, vR a0, .unset, .unset, .unset]) rfl ?_
    refine XS.aloadN X0.here hx rfl (hb hby d3_2) rfl rfl ?_
    show SP p e below s₁ (mkF m 3 #[vR a0, vR a0, .unset, .unset, .unset] [(.ref a0)]) _
    refine X0.arraylength hx (by rw [e0]; exact Ar1.1) (State.isArrayOf_alike hZ.alike Ar1.2.1) (g := (mkF m 3 #[vR a0, vR a0, .unset, .unset, .unset] [(.ref a0)])) rfl rfl (hb hby d3_3) _ ?_
    rw [len_of Sz1 Ng1]
    show SP p e below s₁ (mkF m 4 #[vR a0, vR a0, .unset, .unset, .unset] [(.int (1 : Int32))]) _
    refine XS.istoreN X0.here hx rfl (hb hby d3_4) rfl (l' := #[vR a0, vR a0, vI (1 : Int32), .unset, .unset]) rfl ?_
    refine XS.iconst X0.here hx rfl (hb hby d3_5) ?_
    refine XS.istoreN X0.here hx rfl (hb hby d3_6) rfl (l' := #[vR a0, vR a0, vI (1 : Int32), vI (0 : Int32), .unset]) rfl ?_
    refine XS.iloadN X0.here hx rfl (hb hby d3_7) rfl ?_
    refine XS.iloadN X0.here hx rfl (hb hby d3_8) rfl ?_
    refine XS.icmpNo X0.here hx rfl (hb hby d3_9) rfl (tlt (by decide : (0 : Int32) < (1 : Int32))).2.1 ?_
    refine XS.aloadN X0.here hx rfl (hb hby d3_12) rfl rfl ?_
    refine XS.iloadN X0.here hx rfl (hb hby d3_13) rfl ?_
    show SP p e below s₁ (mkF m 14 #[vR a0, vR a0, vI (1 : Int32), vI (0 : Int32), .unset] [(.int (0 : Int32)), (.ref a0)]) _
    refine X0.aaload hx (j := (0 : Int32)) (v := (.ref lx)) (by rw [e0]; exact Ar1.1) (State.isArrayOf_alike hZ.alike Ar1.2.1) rfl Ar1.2.2 hin2 hat3 (g := (mkF m 14 #[vR a0, vR a0, vI (1 : Int32), vI (0 : Int32), .unset] [(.int (0 : Int32)), (.ref a0)])) rfl rfl (hb hby d3_14) _ ?_
    show SP p e below s₁ (mkF m 15 #[vR a0, vR a0, vI (1 : Int32), vI (0 : Int32), .unset] [(.ref lx)]) _
    refine XS.astore X0.here hx rfl (hb hby d3_15) rfl rfl (l' := #[vR a0, vR a0, vI (1 : Int32), vI (0 : Int32), vR lx]) rfl ?_
    refine XS.aload X0.here hx rfl (hb hby d3_17) rfl rfl ?_
    show SP p e below s₁ (mkF m 19 #[vR a0, vR a0, vI (1 : Int32), vI (0 : Int32), vR lx] [(.ref lx)]) _
    refine XS.ifnonnullYes X0.here hx rfl (pc0 := 19) (pc' := 32) rfl (hb hby d3_19) rfl (by decide) (by decide) ?_
    refine XS.iinc X0.here hx rfl (hb hby d3_32) rfl (l' := #[vR a0, vR a0, vI (1 : Int32), vI (1 : Int32), vR lx]) rfl ?_
    refine XS.goto X0.here hx rfl (pc0 := 35) (pc' := 7) rfl (hb hby d3_35) (by decide) (by decide) ?_
    refine XS.iloadN X0.here hx rfl (hb hby d3_7) rfl ?_
    refine XS.iloadN X0.here hx rfl (hb hby d3_8) rfl ?_
    refine XS.icmpYes X0.here hx rfl (pc0 := 9) (pc' := 38) rfl (hb hby d3_9) rfl (flt (by decide : ¬ ((1 : Int32) < (1 : Int32)))).2.1 (by decide) (by decide) ?_
    refine XS.aloadN X0.here hx rfl (hb hby d3_38) rfl rfl ?_
    show SP p e below s₁ (mkF m 39 #[vR a0, vR a0, vI (1 : Int32), vI (1 : Int32), vR lx] [(.ref a0)]) _
    refine X0.arraylength hx (by rw [e0]; exact Ar1.1) (State.isArrayOf_alike hZ.alike Ar1.2.1) (g := (mkF m 39 #[vR a0, vR a0, vI (1 : Int32), vI (1 : Int32), vR lx] [(.ref a0)])) rfl rfl (hb hby d3_39) _ ?_
    rw [len_of Sz1 Ng1]
    show SP p e below s₁ (mkF m 40 #[vR a0, vR a0, vI (1 : Int32), vI (1 : Int32), vR lx] [(.int (1 : Int32))]) _
    refine XS.ifYes X0.here hx rfl (pc0 := 40) (pc' := 49) rfl (hb hby d3_40) rfl ((if0 _ _).trans (feq (by decide : ¬ ((1 : Int32) = (0 : Int32)))).2) (by decide) (by decide) ?_
    show SP p e below s₁ (mkF m 49 #[vR a0, vR a0, vI (1 : Int32), vI (1 : Int32), vR lx] []) _
    refine st4 _ ?_
    show SP p e below T4 (mkF m 52 #[vR a0, vR a0, vI (1 : Int32), vI (1 : Int32), vR lx] [(.ref b4)]) _
    refine XS.dup X4.here hx rfl (hb hby d3_52) rfl rfl ?_
    refine XS.aloadN X4.here hx rfl (hb hby d3_53) rfl rfl ?_
    show SP p e below T4 (mkF m 54 #[vR a0, vR a0, vI (1 : Int32), vI (1 : Int32), vR lx] [(.ref a0), (.ref b4), (.ref b4)]) _
    refine st5.trans ?_
    show SP p e below T5 (mkF m 57 #[vR a0, vR a0, vI (1 : Int32), vI (1 : Int32), vR lx] [(.ref b4)]) _
    jvm_step X5'.here [X5'.here.top, hx, (hb hby d3_57), X5'.method', Bd.returns, Value.isRef, FieldType.isReference]
    first | (intro acts; rw [hr _ acts rfl rfl rfl]) | rw [hr _ _ rfl rfl rfl]
    exact Steps.refl _
  · show Q3 Z a0 ka0 lx q0 h0 n0 _ T5.heap _
    exact ⟨b4, rfl, N5, sz_b4, K5, pf5_0, pf5_1, pf5_2⟩
theorem d2_0 : dc kB41 0 (.aload_n 0) 1 := by decide +kernel
theorem d2_1 : dc kB41 1 (.invokevirtual 23) 3 := by decide +kernel
theorem d2_4 : dc kB41 4 (.checkcast 24) 3 := by decide +kernel
theorem d2_7 : dc kB41 7 (.invokestatic 28) 3 := by decide +kernel
theorem pd_6 : parseMethodDescriptor "([Ljava/lang/Object;)Lcom/example/reteweave/reteweave/network/Tuple;" = some ⟨[(.array (.object "java/lang/Object"))], some (.object "com/example/reteweave/reteweave/network/Tuple")⟩ := by decide +kernel
theorem d2_10 : dc kB41 10 .areturn 1 := by decide +kernel
theorem ef_rm2 (m : MethodId) (a0 : Addr) : entryFrame m #[(.ref a0)] 1 = mkF m 0 #[vR a0] [] := by first | (simp [entryFrame, mkF, argsToLocals, Value.category]; done) | rfl
def Q2 (Z : State) (a0 : Addr) (ka0 : ClassId) (lx : Addr) (q0 : Int64) (h0 : Heap) (n0 : Nat) (v : Option Value) (h : Heap) (L : List Loc) : Prop := ∃ r0 : Addr, ∃ r1 : Addr, v = some (.ref r1) ∧ Fr n0 L ∧ h0.size ≤ r0 ∧ r0 < r1 ∧ Keep h0 h [] ∧ Exa Z h r0 cOA ∧ Arv Z h r0 ka0 (.object "java/lang/Object") (1 : Int32) [(.ref lx)] .null ∧ Exa Z h r1 cTU ∧ Fld Z h r1 cTU "values" cOA (.ref r0) ∧ Fld Z h r1 cTU "hash" "I" (.int (own_th q0))
theorem rm2 (l : Launch) (Z : State) (az : Array Value) (hw : HW Z az) (ws : List Jvm.Cond) (a0 : Addr) (ka0 : ClassId) (lx : Addr) (q0 : Int64) (h0 : Heap) (n0 : Nat) (Z0 : n0 ≤ h0.size) (V_a0 : Arv Z h0 a0 ka0 (.object "java/lang/Object") (1 : Int32) [(.ref lx)] .null) (E_a0 : Exa Z h0 a0 cOA) (E_lx : Exa Z h0 lx cLG) (F_value_lx : Fld Z h0 lx cLG "value" "J" (.long q0)) :
    MF l Z h0 ws ⟨cTU, "of", "([Ljava/lang/Object;)Lcom/example/reteweave/reteweave/network/Tuple;"⟩ kB41 1 (some (.object cTU)) ⟨5, 2, 3, 74⟩ #[(.ref a0)] (Q2 Z a0 ka0 lx q0 h0 n0) := by
  refine own_body cTU n0 rfl (plainFor_of_name pn_com_example_reteweave_reteweave_network_Tuple) (fun m => ef_rm2 m a0) ?_
  intro p e s m below meth c s₁ Bd hx hby hml hown hZ X0 e0 N0 pre0
  obtain ⟨T1, h1, X1, e1, E1, A1, x1, st1⟩ := cloneH X0 hx hZ hown (w15 hw) (w16 hw) (w20 hw) (w18 hw) (w19 hw) (w21 hw) e0 (Arv.arh V_a0) E_a0 (g := (mkF m 1 #[vR a0] [(.ref a0)])) rfl (by rw [hml]; rfl) rfl (hb hby d2_1) (by decide) (W := 0) (cap := 1) (Nat.le_of_eq rfl) (by decide) (by decide) (by decide) (by decide)
  obtain ⟨b1, g1⟩ : ∃ z, z = h0.size := ⟨_, rfl⟩
  rw [← g1] at A1 x1 st1
  have g_b1 : n0 ≤ b1 := Nat.le_trans Z0 (Nat.le_of_eq g1.symm)
  have sz_b1 : h0.size ≤ b1 := Nat.le_trans (Nat.le_refl _) (Nat.le_of_eq g1.symm)
  have Z1 : n0 ≤ h1.size := Nat.le_trans Z0 E1.1
  have K1 : Keep h0 h1 [] := (Keep.refl h0 []).ext E1
  have E_b1 := x1
  have V_b1 : Arv Z h1 b1 ka0 (.object "java/lang/Object") (1 : Int32) [(.ref lx)] .null := A1
  obtain ⟨T2, X2, e2, st2⟩ := castY X1 hx hZ hown (w22 hw) e1 (Ins.self E_b1) (g := (mkF m 4 #[vR a0] [(.ref b1)])) rfl rfl (hb hby d2_4)
  have E_lx_u4 : Exa Z h1 lx cLG := (E_lx.ext E1)
  have F_lx_value_u5 : Fld Z h1 lx cLG "value" "J" (.long q0) := (F_value_lx.ext E1)
  obtain ⟨_, _, ⟨T3, L3, k3', n3'⟩, -, X3, ⟨Lc3, hQ3, l3, y3, z3⟩, st3⟩ := Jvm.LawKit.callS X2 hx (y := ⟨cTU, "holding", "([Ljava/lang/Object;)Lcom/example/reteweave/reteweave/network/Tuple;"⟩) hown (mvT hZ (w24 hw)) (mvT hZ (w25 hw)) (mvT hZ (w13 hw)) (mvT hZ (w26 hw)) (by decide) (backOf (W := 0) (rm3 l Z az hw [] b1 ka0 lx q0 h1 n0 Z1 V_b1 E_b1 E_lx_u4 F_lx_value_u5) hZ (w26 hw) (w13 hw) (by decide) (by decide)) (g := (mkF m 7 #[vR a0] [(.ref b1)])) rfl (by rw [hml]; rfl) (argsL := [(.ref b1)]) (rest := []) (lenOf pd_6 rfl) rfl (Nat.le_of_eq rfl) (hb hby d2_7) (fun _ _ => ⟨rfl, e2, (own_nle rfl), (own_nle rfl)⟩)
  dsimp only [Pt.U, Pt.locs, Pt.cells, Pt.slots] at X3 l3 y3 z3 st3 hQ3
  subst l3 y3 z3
  obtain ⟨b3_0, rfl, N3q, s3_0, kq3, pf3_0, pf3_1, pf3_2⟩ := hQ3
  obtain ⟨Lg3, X3', N3⟩ := own_gen X3 (Fr.app N0 N3q)
  have g_b3_0 : n0 ≤ b3_0 := Nat.le_trans Z1 s3_0
  have sz_b3_0 : h0.size ≤ b3_0 := Nat.le_trans K1.1 s3_0
  have K3 : Keep h0 T3.heap [] := K1.trans kq3 all0
  have Z3 : n0 ≤ T3.heap.size := Nat.le_trans Z1 kq3.1
  have E_b1_u6 : Exa Z T3.heap b1 cOA := (E_b1.keep kq3)
  have V_b1_u7 : Arv Z T3.heap b1 ka0 (.object "java/lang/Object") (1 : Int32) [(.ref lx)] .null := (V_b1.keep kq3 nin0)
  obtain ⟨fs, hr, hrun, hended, hW, hsame⟩ := X3'.leave (v := some (.ref b3_0)) (fun h => by rw [Bd.returns] at h; cases h) Bd.notSynchronized
  refine ⟨_, _, pre0 _ ?_, hrun, hended, _, _, rfl, ?_, ⟨_, rfl⟩, hW, hsame.mono (by decide) (by decide)⟩
  · show SP p e below s₁ (mkF m 0 #[vR a0] []) _
    refine XS.aloadN X0.here hx rfl (hb hby d2_0) rfl rfl ?_
    show SP p e below s₁ (mkF m 1 #[vR a0] [(.ref a0)]) _
    refine st1 _ ?_
    show SP p e below T1 (mkF m 4 #[vR a0] [(.ref b1)]) _
    refine st2 _ ?_
    show SP p e below T2 (mkF m 7 #[vR a0] [(.ref b1)]) _
    refine st3 _ ?_
    show SP p e below T3 (mkF m 10 #[vR a0] [(.ref b3_0)]) _
    jvm_step X3'.here [X3'.here.top, hx, (hb hby d2_10), X3'.method', Bd.returns, Value.isRef, FieldType.isReference]
    first | (intro acts; rw [hr _ acts rfl rfl rfl]) | rw [hr _ _ rfl rfl rfl]
    exact Steps.refl _
  · show Q2 Z a0 ka0 lx q0 h0 n0 _ T3.heap _
    exact ⟨b1, b3_0, rfl, N3, sz_b1, (Nat.lt_of_lt_of_le E_b1.lt s3_0), K3, E_b1_u6, V_b1_u7, pf3_0, pf3_1, pf3_2⟩
theorem d14_0 : dc kB2 0 (.aload_n 0) 1 := by decide +kernel
theorem d14_1 : dc kB2 1 (.invokespecial 1) 3 := by decide +kernel
theorem d14_4 : dc kB2 4 .return_ 1 := by decide +kernel
theorem pn_java_util_AbstractCollection : plainName "java/util/AbstractCollection" = true := by first | (simp [plainName, overriddenIn]; done) | decide +kernel
theorem ef_rm14 (m : MethodId) (a0 : Addr) : entryFrame m #[(.ref a0)] 1 = mkF m 0 #[vR a0] [] := by first | (simp [entryFrame, mkF, argsToLocals, Value.category]; done) | rfl
def Q14 (Z : State) (a0 : Addr) (h0 : Heap) (n0 : Nat) (v : Option Value) (h : Heap) (L : List Loc) : Prop := v = none ∧ Fr n0 L ∧ h = h0
theorem rm14 (l : Launch) (Z : State) (az : Array Value) (hw : HW Z az) (ws : List Jvm.Cond) (a0 : Addr) (h0 : Heap) (n0 : Nat) (Z0 : n0 ≤ h0.size) :
    MF l Z h0 ws ⟨"java/util/AbstractCollection", "<init>", "()V"⟩ kB2 1 none ⟨1, 0, 0, 12⟩ #[(.ref a0)] (Q14 Z a0 h0 n0) := by
  refine own_body "java/util/AbstractCollection" n0 rfl (plainFor_of_name pn_java_util_AbstractCollection) (fun m => ef_rm14 m a0) ?_
  intro p e s m below meth c s₁ Bd hx hby hml hown hZ X0 e0 N0 pre0
  obtain ⟨T1, X1, e1, st1⟩ := initO X0 hx hZ hown (w87 hw) (w33 hw) (w34 hw) e0 (g := (mkF m 1 #[vR a0] [(.ref a0)])) rfl (by rw [hml]; rfl) rfl (hb hby d14_1) (by decide) (W := 0) (Nat.le_of_eq rfl) (by decide)
  obtain ⟨fs, hr, hrun, hended, hW, hsame⟩ := X1.leave (v := none) (fun _ => rfl)
  refine ⟨_, _, pre0 _ ?_, hrun, hended, _, _, rfl, ?_, ⟨_, rfl⟩, hW, hsame.mono (by decide) (by decide)⟩
  · show SP p e below s₁ (mkF m 0 #[vR a0] []) _
    refine XS.aloadN X0.here hx rfl (hb hby d14_0) rfl rfl ?_
    show SP p e below s₁ (mkF m 1 #[vR a0] [(.ref a0)]) _
    refine st1 _ ?_
    show SP p e below T1 (mkF m 4 #[vR a0] []) _
    exact X1.returnOut hx Bd.returns (hb hby d14_4) hr
  · show Q14 Z a0 h0 n0 _ T1.heap _
    rw [e1]
    exact ⟨rfl, N0, rfl⟩
theorem d13_0 : dc kB13 0 (.aload_n 0) 1 := by decide +kernel
theorem d13_1 : dc kB13 1 (.invokespecial 1) 3 := by decide +kernel
theorem d13_4 : dc kB13 4 (.aload_n 0) 1 := by decide +kernel
theorem d13_5 : dc kB13 5 (.iconst 0) 1 := by decide +kernel
theorem d13_6 : dc kB13 6 (.putfield 7) 3 := by decide +kernel
theorem d13_9 : dc kB13 9 .return_ 1 := by decide +kernel
theorem sl_2 {Z : State} {az : Array Value} (hw : HW Z az) : Jvm.RoadKit.slotOf Z cAL "elementData" cOA ≠ Jvm.RoadKit.slotOf Z "java/util/AbstractList" "modCount" "I" := slot_ne (Z := Z) (Or.inl (w92 hw)) (Or.inl (w89 hw)) (by decide) (t := (.array (.object "java/lang/Object"))) (t' := .int) (by decide) (by decide)
theorem sl_3 {Z : State} {az : Array Value} (hw : HW Z az) : Jvm.RoadKit.slotOf Z cAL "size" "I" ≠ Jvm.RoadKit.slotOf Z "java/util/AbstractList" "modCount" "I" := slot_ne (Z := Z) (Or.inl (w288 hw)) (Or.inl (w89 hw)) (by decide) (t := .int) (t' := .int) (by decide) (by decide)
theorem pn_java_util_AbstractList : plainName "java/util/AbstractList" = true := by first | (simp [plainName, overriddenIn]; done) | decide +kernel
theorem ef_rm13 (m : MethodId) (a0 : Addr) : entryFrame m #[(.ref a0)] 1 = mkF m 0 #[vR a0] [] := by first | (simp [entryFrame, mkF, argsToLocals, Value.category]; done) | rfl
def Q13 (Z : State) (a0 : Addr) (h0 : Heap) (n0 : Nat) (v : Option Value) (h : Heap) (L : List Loc) : Prop := v = none ∧ Fr n0 L ∧ Keep h0 h [a0] ∧ Exa Z h a0 cAL ∧ Fld Z h a0 "java/util/AbstractList" "modCount" "I" (.int (0 : Int32)) ∧ Fld Z h a0 cAL "elementData" cOA .null ∧ Fld Z h a0 cAL "size" "I" (.int (0 : Int32))
theorem rm13 (l : Launch) (Z : State) (az : Array Value) (hw : HW Z az) (ws : List Jvm.Cond) (a0 : Addr) (h0 : Heap) (n0 : Nat) (Z0 : n0 ≤ h0.size) (E_a0 : Exa Z h0 a0 cAL) (F_modCount_a0 : Fld Z h0 a0 "java/util/AbstractList" "modCount" "I" (.int (0 : Int32))) (F_elementData_a0 : Fld Z h0 a0 cAL "elementData" cOA .null) (F_size_a0 : Fld Z h0 a0 cAL "size" "I" (.int (0 : Int32))) (g_a0 : n0 ≤ a0) :
    MF l Z h0 ws ⟨"java/util/AbstractList", "<init>", "()V"⟩ kB13 1 none ⟨2, 0, 0, 24⟩ #[(.ref a0)] (Q13 Z a0 h0 n0) := by
  refine own_body "java/util/AbstractList" n0 rfl (plainFor_of_name pn_java_util_AbstractList) (fun m => ef_rm13 m a0) ?_
  intro p e s m below meth c s₁ Bd hx hby hml hown hZ X0 e0 N0 pre0
  obtain ⟨_, _, ⟨T1, L1, k1', n1'⟩, -, X1, ⟨Lc1, hQ1, l1, y1, z1⟩, st1⟩ := X0.specialBack hx (y := ⟨"java/util/AbstractCollection", "<init>", "()V"⟩) rfl hown (mvT hZ (w81 hw)) (mvT hZ (w82 hw)) (mvT hZ (w86 hw)) (by decide) (backOf (W := 0) (rm14 l Z az hw [] a0 h0 n0 Z0) hZ (w86 hw) (w85 hw) (by decide) (by decide)) (g := (mkF m 1 #[vR a0] [(.ref a0)])) rfl (by rw [hml]; rfl) (Steps.refl _) (a := a0) (argsL := []) (rest := []) (lenOf pd_0 rfl) rfl (Nat.le_of_eq rfl) (hb hby d13_1) (fun _ _ => ⟨rfl, e0, (own_nle rfl), (own_nle rfl)⟩)
  dsimp only [Pt.U, Pt.locs, Pt.cells, Pt.slots] at X1 l1 y1 z1 st1 hQ1
  subst l1 y1 z1
  obtain ⟨rfl, N1q, e1⟩ := hQ1
  obtain ⟨Lg1, X1', N1⟩ := own_gen X1 (Fr.app N0 N1q)
  obtain ⟨T2, h2, X2, e2, W2, st2⟩ := putF X1' hx hZ hown (host := "") (Or.inl (w88 hw)) Via.refl e1 F_modCount_a0 E_a0 (Or.inl (w89 hw)) (w70 hw) (ty := .int) (by decide) rfl rfl (g := (mkF m 6 #[vR a0] [(.int (0 : Int32)), (.ref a0)])) rfl rfl (hb hby d13_6)
  have K2 : Keep h0 h2 [a0] := (Keep.refl h0 [a0]).wr W2 (Or.inl (mg 0 rfl))
  have Fw2 := F_modCount_a0.same W2
  have Z2 : n0 ≤ h2.size := Nat.le_trans Z0 (Keep.of_wr W2).1
  obtain ⟨Lg2, X2', N2⟩ := own_gen X2 (Fr.snoc X2 N1 g_a0)
  have E_a0_u3 : Exa Z h2 a0 cAL := (E_a0.wr W2)
  have F_a0_elementData_u4 : Fld Z h2 a0 cAL "elementData" cOA .null := (F_elementData_a0.other W2 (Or.inr (sl_2 hw)))
  have F_a0_size_u5 : Fld Z h2 a0 cAL "size" "I" (.int (0 : Int32)) := (F_size_a0.other W2 (Or.inr (sl_3 hw)))
  obtain ⟨fs, hr, hrun, hended, hW, hsame⟩ := X2'.leave (v := none) (fun _ => rfl) Bd.notSynchronized
  refine ⟨_, _, pre0 _ ?_, hrun, hended, _, _, rfl, ?_, ⟨_, rfl⟩, hW, hsame.mono (by decide) (by decide)⟩
  · show SP p e below s₁ (mkF m 0 #[vR a0] []) _
    refine XS.aloadN X0.here hx rfl (hb hby d13_0) rfl rfl ?_
    show SP p e below s₁ (mkF m 1 #[vR a0] [(.ref a0)]) _
    refine st1.trans ?_
    show SP p e below T1 (mkF m 4 #[vR a0] []) _
    refine XS.aloadN X1'.here hx rfl (hb hby d13_4) rfl rfl ?_
    refine XS.iconst X1'.here hx rfl (hb hby d13_5) ?_
    show SP p e below T1 (mkF m 6 #[vR a0] [(.int (0 : Int32)), (.ref a0)]) _
    refine st2 _ ?_
    show SP p e below T2 (mkF m 9 #[vR a0] []) _
    exact X2'.returnOut hx Bd.returns (hb hby d13_9) hr
  · show Q13 Z a0 h0 n0 _ T2.heap _
    rw [e2]
    exact ⟨rfl, N2, K2, E_a0_u3, Fw2, F_a0_elementData_u4, F_a0_size_u5⟩
theorem d12_0 : dc kB11 0 (.aload_n 0) 1 := by decide +kernel
theorem d12_1 : dc kB11 1 (.invokespecial 1) 3 := by decide +kernel
theorem d12_4 : dc kB11 4 (.aload_n 0) 1 := by decide +kernel
theorem d12_5 : dc kB11 5 (.getstatic 39) 3 := by decide +kernel
theorem d12_8 : dc kB11 8 (.putfield 9) 3 := by decide +kernel
theorem d12_11 : dc kB11 11 .return_ 1 := by decide +kernel
theorem sl_4 {Z : State} {az : Array Value} (hw : HW Z az) : Jvm.RoadKit.slotOf Z "java/util/AbstractList" "modCount" "I" ≠ Jvm.RoadKit.slotOf Z cAL "elementData" cOA := slot_ne (Z := Z) (Or.inl (w89 hw)) (Or.inl (w92 hw)) (by decide) (t := .int) (t' := (.array (.object "java/lang/Object"))) (by decide) (by decide)
theorem sl_5 {Z : State} {az : Array Value} (hw : HW Z az) : Jvm.RoadKit.slotOf Z cAL "size" "I" ≠ Jvm.RoadKit.slotOf Z cAL "elementData" cOA := slot_ne (Z := Z) (Or.inl (w288 hw)) (Or.inl (w92 hw)) (by decide) (t := .int) (t' := (.array (.object "java/lang/Object"))) (by decide) (by decide)
theorem pn_java_util_ArrayList : plainName "java/util/ArrayList" = true := by first | (simp [plainName, overriddenIn]; done) | decide +kernel
theorem ef_rm12 (m : MethodId) (a0 : Addr) : entryFrame m #[(.ref a0)] 1 = mkF m 0 #[vR a0] [] := by first | (simp [entryFrame, mkF, argsToLocals, Value.category]; done) | rfl
def Q12 (Z : State) (a0 eD : Addr) (h0 : Heap) (n0 : Nat) (v : Option Value) (h : Heap) (L : List Loc) : Prop := v = none ∧ Fr n0 L ∧ Keep h0 h [a0] ∧ Exa Z h a0 cAL ∧ Fld Z h a0 "java/util/AbstractList" "modCount" "I" (.int (0 : Int32)) ∧ Fld Z h a0 cAL "elementData" cOA (.ref eD) ∧ Fld Z h a0 cAL "size" "I" (.int (0 : Int32))
theorem rm12 (l : Launch) (Z : State) (az : Array Value) (hw : HW Z az) (ws : List Jvm.Cond) (a0 eD : Addr) (h0 : Heap) (n0 : Nat) (Z0 : n0 ≤ h0.size) (E_a0 : Exa Z h0 a0 cAL) (F_modCount_a0 : Fld Z h0 a0 "java/util/AbstractList" "modCount" "I" (.int (0 : Int32))) (F_elementData_a0 : Fld Z h0 a0 cAL "elementData" cOA .null) (F_size_a0 : Fld Z h0 a0 cAL "size" "I" (.int (0 : Int32))) (S_DEFAULTCAPACITY_EMPTY_ELEMENTDATA : Sta Z h0 cAL "DEFAULTCAPACITY_EMPTY_ELEMENTDATA" cOA (.ref eD)) (g_a0 : n0 ≤ a0) :
    MF l Z h0 ws ⟨cAL, "<init>", "()V"⟩ kB11 1 none ⟨3, 0, 0, 36⟩ #[(.ref a0)] (Q12 Z a0 eD h0 n0) := by
  refine own_body cAL n0 rfl (plainFor_of_name pn_java_util_ArrayList) (fun m => ef_rm12 m a0) ?_
  intro p e s m below meth c s₁ Bd hx hby hml hown hZ X0 e0 N0 pre0
  obtain ⟨_, _, ⟨T1, L1, k1', n1'⟩, -, X1, ⟨Lc1, hQ1, l1, y1, z1⟩, st1⟩ := X0.specialBack hx (y := ⟨"java/util/AbstractList", "<init>", "()V"⟩) rfl hown (mvT hZ (w75 hw)) (mvT hZ (w76 hw)) (mvT hZ (w80 hw)) (by decide) (backOf (W := 0) (rm13 l Z az hw [] a0 h0 n0 Z0 E_a0 F_modCount_a0 F_elementData_a0 F_size_a0 g_a0) hZ (w80 hw) (w79 hw) (by decide) (by decide)) (g := (mkF m 1 #[vR a0] [(.ref a0)])) rfl (by rw [hml]; rfl) (Steps.refl _) (a := a0) (argsL := []) (rest := []) (lenOf pd_0 rfl) rfl (Nat.le_of_eq rfl) (hb hby d12_1) (fun _ _ => ⟨rfl, e0, (own_nle rfl), (own_nle rfl)⟩)
  dsimp only [Pt.U, Pt.locs, Pt.cells, Pt.slots] at X1 l1 y1 z1 st1 hQ1
  subst l1 y1 z1
  obtain ⟨rfl, N1q, kq1, pf1_0, pf1_1, pf1_2, pf1_3⟩ := hQ1
  obtain ⟨Lg1, X1', N1⟩ := own_gen X1 (Fr.app N0 N1q)
  have K1 : Keep h0 T1.heap [a0] := (Keep.refl h0 [a0]).trans kq1 (allS (Or.inl (mg 0 rfl)) all0)
  have Z1 : n0 ≤ T1.heap.size := Nat.le_trans Z0 kq1.1
  have S_ArrayList_DEFAULTCAPACITY_EMPTY_ELEMENTDATA_u2 : Sta Z T1.heap cAL "DEFAULTCAPACITY_EMPTY_ELEMENTDATA" cOA (.ref eD) := (own_Sta S_DEFAULTCAPACITY_EMPTY_ELEMENTDATA kq1 (allS (P := fun x => ∀ cell : Cell, _ → cell.vm.isStatics = false) E_a0.nostat (fun _ m => nomatch m)))
  obtain ⟨T3, X3, e3, st3⟩ := getS2 X1' hx hZ hown (host := "") (Or.inl (w90 hw)) Via.refl rfl S_ArrayList_DEFAULTCAPACITY_EMPTY_ELEMENTDATA_u2 (g := (mkF m 5 #[vR a0] [(.ref a0)])) rfl (hb hby d12_5)
  obtain ⟨T4, h4, X4, e4, W4, st4⟩ := putF X3 hx hZ hown (host := "") (Or.inl (w91 hw)) Via.refl e3 pf1_2 pf1_0 (Or.inl (w92 hw)) (w70 hw) (ty := (.array (.object "java/lang/Object"))) (by decide) rfl rfl (g := (mkF m 8 #[vR a0] [(.ref eD), (.ref a0)])) rfl rfl (hb hby d12_8)
  have K4 : Keep h0 h4 [a0] := K1.wr W4 (Or.inl (mg 0 rfl))
  have Fw4 := pf1_2.same W4
  have Z4 : n0 ≤ h4.size := Nat.le_trans Z1 (Keep.of_wr W4).1
  obtain ⟨Lg4, X4', N4⟩ := own_gen X4 (Fr.snoc X4 N1 g_a0)
  have E_a0_u5 : Exa Z h4 a0 cAL := (pf1_0.wr W4)
  have F_a0_modCount_u6 : Fld Z h4 a0 "java/util/AbstractList" "modCount" "I" (.int (0 : Int32)) := (pf1_1.other W4 (Or.inr (sl_4 hw)))
  have F_a0_size_u7 : Fld Z h4 a0 cAL "size" "I" (.int (0 : Int32)) := (pf1_3.other W4 (Or.inr (sl_5 hw)))
  obtain ⟨fs, hr, hrun, hended, hW, hsame⟩ := X4'.leave (v := none) (fun _ => rfl) Bd.notSynchronized
  refine ⟨_, _, pre0 _ ?_, hrun, hended, _, _, rfl, ?_, ⟨_, rfl⟩, hW, hsame.mono (by decide) (by decide)⟩
  · show SP p e below s₁ (mkF m 0 #[vR a0] []) _
    refine XS.aloadN X0.here hx rfl (hb hby d12_0) rfl rfl ?_
    show SP p e below s₁ (mkF m 1 #[vR a0] [(.ref a0)]) _
    refine st1.trans ?_
    show SP p e below T1 (mkF m 4 #[vR a0] []) _
    refine XS.aloadN X1'.here hx rfl (hb hby d12_4) rfl rfl ?_
    show SP p e below T1 (mkF m 5 #[vR a0] [(.ref a0)]) _
    refine st3 _ ?_
    show SP p e below T3 (mkF m 8 #[vR a0] [(.ref eD), (.ref a0)]) _
    refine st4 _ ?_
    show SP p e below T4 (mkF m 11 #[vR a0] []) _
    exact X4'.returnOut hx Bd.returns (hb hby d12_11) hr
  · show Q12 Z a0 eD h0 n0 _ T4.heap _
    rw [e4]
    exact ⟨rfl, N4, K4, E_a0_u5, F_a0_modCount_u6, Fw4, F_a0_size_u7⟩
theorem d11_0 : dc kB20 0 (.aload_n 0) 1 := by decide +kernel
theorem d11_1 : dc kB20 1 (.invokespecial 1) 3 := by decide +kernel
theorem d11_4 : dc kB20 4 (.aload_n 0) 1 := by decide +kernel
theorem d11_5 : dc kB20 5 (.new 7) 3 := by decide +kernel
theorem d11_8 : dc kB20 8 .dup 1 := by decide +kernel
theorem d11_9 : dc kB20 9 (.invokespecial 9) 3 := by decide +kernel
theorem d11_12 : dc kB20 12 (.putfield 10) 3 := by decide +kernel
theorem d11_15 : dc kB20 15 .return_ 1 := by decide +kernel
theorem sl_6 {Z : State} {az : Array Value} (hw : HW Z az) : Jvm.RoadKit.slotOf Z cPN "derivations" dD ≠ Jvm.RoadKit.slotOf Z cND "readers" "Ljava/util/List;" := slot_ne (Z := Z) (Or.inr (w123 hw)) (Or.inr (w94 hw)) (by decide) (t := (.object cDV)) (t' := (.object "java/util/List")) (by decide) (by decide)
theorem sl_7 {Z : State} {az : Array Value} (hw : HW Z az) : Jvm.RoadKit.slotOf Z cPN "told" dC ≠ Jvm.RoadKit.slotOf Z cND "readers" "Ljava/util/List;" := slot_ne (Z := Z) (Or.inr (w127 hw)) (Or.inr (w94 hw)) (by decide) (t := (.object cTC)) (t' := (.object "java/util/List")) (by decide) (by decide)
theorem sl_8 {Z : State} {az : Array Value} (hw : HW Z az) : Jvm.RoadKit.slotOf Z cPN "indexes" "Ljava/util/Map;" ≠ Jvm.RoadKit.slotOf Z cND "readers" "Ljava/util/List;" := slot_ne (Z := Z) (Or.inr (w145 hw)) (Or.inr (w94 hw)) (by decide) (t := (.object "java/util/Map")) (t' := (.object "java/util/List")) (by decide) (by decide)
theorem sl_9 {Z : State} {az : Array Value} (hw : HW Z az) : Jvm.RoadKit.slotOf Z cPN "fixpoint" dF ≠ Jvm.RoadKit.slotOf Z cND "readers" "Ljava/util/List;" := slot_ne (Z := Z) (Or.inr (w147 hw)) (Or.inr (w94 hw)) (by decide) (t := (.object "com/example/reteweave/reteweave/network/Fixpoint")) (t' := (.object "java/util/List")) (by decide) (by decide)
theorem pn_com_example_reteweave_reteweave_network_Node : plainName "com/example/reteweave/reteweave/network/Node" = true := by first | (simp [plainName, overriddenIn]; done) | decide +kernel
theorem ef_rm11 (m : MethodId) (a0 : Addr) : entryFrame m #[(.ref a0)] 1 = mkF m 0 #[vR a0] [] := by first | (simp [entryFrame, mkF, argsToLocals, Value.category]; done) | rfl
def Q11 (Z : State) (a0 eD : Addr) (h0 : Heap) (n0 : Nat) (v : Option Value) (h : Heap) (L : List Loc) : Prop := ∃ r0 : Addr, v = none ∧ Fr n0 L ∧ h0.size ≤ r0 ∧ Keep h0 h [a0] ∧ Exa Z h a0 cPN ∧ Fld Z h a0 cND "readers" "Ljava/util/List;" (.ref r0) ∧ Fld Z h a0 cPN "derivations" dD .null ∧ Fld Z h a0 cPN "told" dC .null ∧ Fld Z h a0 cPN "indexes" "Ljava/util/Map;" .null ∧ Fld Z h a0 cPN "fixpoint" dF .null ∧ Exa Z h r0 cAL ∧ Fld Z h r0 "java/util/AbstractList" "modCount" "I" (.int (0 : Int32)) ∧ Fld Z h r0 cAL "elementData" cOA (.ref eD) ∧ Fld Z h r0 cAL "size" "I" (.int (0 : Int32))
theorem rm11 (l : Launch) (Z : State) (az : Array Value) (hw : HW Z az) (ws : List Jvm.Cond) (a0 eD : Addr) (h0 : Heap) (n0 : Nat) (Z0 : n0 ≤ h0.size) (E_a0 : Exa Z h0 a0 cPN) (F_readers_a0 : Fld Z h0 a0 cND "readers" "Ljava/util/List;" .null) (F_derivations_a0 : Fld Z h0 a0 cPN "derivations" dD .null) (F_told_a0 : Fld Z h0 a0 cPN "told" dC .null) (F_indexes_a0 : Fld Z h0 a0 cPN "indexes" "Ljava/util/Map;" .null) (F_fixpoint_a0 : Fld Z h0 a0 cPN "fixpoint" dF .null) (S_DEFAULTCAPACITY_EMPTY_ELEMENTDATA : Sta Z h0 cAL "DEFAULTCAPACITY_EMPTY_ELEMENTDATA" cOA (.ref eD)) (g_a0 : n0 ≤ a0) :
    MF l Z h0 ws ⟨cND, "<init>", "()V"⟩ kB20 1 none ⟨4, 1, 3, 50⟩ #[(.ref a0)] (Q11 Z a0 eD h0 n0) := by
  refine own_body cND n0 rfl (plainFor_of_name pn_com_example_reteweave_reteweave_network_Node) (fun m => ef_rm11 m a0) ?_
  intro p e s m below meth c s₁ Bd hx hby hml hown hZ X0 e0 N0 pre0
  have hnm := (name_of_methodNamed Bd.named Bd.method).1
  obtain ⟨T1, X1, e1, st1⟩ := initO X0 hx hZ hown (w68 hw) (w33 hw) (w34 hw) e0 (g := (mkF m 1 #[vR a0] [(.ref a0)])) rfl (by rw [hml]; rfl) rfl (hb hby d11_1) (by decide) (W := 0) (Nat.le_of_eq rfl) (by decide)
  obtain ⟨T2, h2, X2, e2, E2, A2, D2, -, st2⟩ := newO X1 hx hZ hown (w69 hw) (w70 hw) (w71 hw) e1 (g := (mkF m 5 #[vR a0] [(.ref a0)])) rfl (hb hby d11_5) (by decide) (by decide)
  obtain ⟨b2, g2⟩ : ∃ z, z = h0.size := ⟨_, rfl⟩
  rw [← g2] at A2 D2 st2
  have g_b2 : n0 ≤ b2 := Nat.le_trans Z0 (Nat.le_of_eq g2.symm)
  have sz_b2 : h0.size ≤ b2 := Nat.le_trans (Nat.le_refl _) (Nat.le_of_eq g2.symm)
  have Z2 : n0 ≤ h2.size := Nat.le_trans Z0 E2.1
  have K2 : Keep h0 h2 [a0] := (Keep.refl h0 [a0]).ext E2
  have E_b2 := A2
  have F_modCount_b2 : Fld Z h2 b2 "java/util/AbstractList" "modCount" "I" (.int (0 : Int32)) := D2 (Or.inl (w89 hw)) (ty := .int) (by decide)
  have F_elementData_b2 : Fld Z h2 b2 cAL "elementData" cOA .null := D2 (Or.inl (w92 hw)) (ty := (.array (.object "java/lang/Object"))) (by decide)
  have F_size_b2 : Fld Z h2 b2 cAL "size" "I" (.int (0 : Int32)) := D2 (Or.inl (w288 hw)) (ty := .int) (by decide)
  have S_ArrayList_DEFAULTCAPACITY_EMPTY_ELEMENTDATA_u4 : Sta Z h2 cAL "DEFAULTCAPACITY_EMPTY_ELEMENTDATA" cOA (.ref eD) := (S_DEFAULTCAPACITY_EMPTY_ELEMENTDATA.ext E2)
  obtain ⟨_, _, ⟨T3, L3, k3', n3'⟩, -, X3, ⟨Lc3, hQ3, l3, y3, z3⟩, st3⟩ := X2.specialBack hx (y := ⟨cAL, "<init>", "()V"⟩) rfl hown (mvT hZ (w72 hw)) (mvT hZ (w73 hw)) (mvT hZ (w74 hw)) (by decide) (backOf (W := 2) (rm12 l Z az hw [] b2 eD h2 n0 Z2 E_b2 F_modCount_b2 F_elementData_b2 F_size_b2 S_ArrayList_DEFAULTCAPACITY_EMPTY_ELEMENTDATA_u4 g_b2) hZ (w74 hw) (w71 hw) (by decide) (by decide)) (g := (mkF m 9 #[vR a0] [(.ref b2), (.ref b2), (.ref a0)])) rfl (by rw [hml]; rfl) (Steps.refl _) (a := b2) (argsL := []) (rest := [(.ref b2), (.ref a0)]) (lenOf pd_0 rfl) rfl (Nat.le_of_eq rfl) (hb hby d11_9) (fun _ _ => ⟨rfl, e2, (own_nle rfl), (own_nle rfl)⟩)
  dsimp only [Pt.U, Pt.locs, Pt.cells, Pt.slots] at X3 l3 y3 z3 st3 hQ3
  subst l3 y3 z3
  obtain ⟨rfl, N3q, kq3, pf3_0, pf3_1, pf3_2, pf3_3⟩ := hQ3
  obtain ⟨Lg3, X3', N3⟩ := own_gen X3 (Fr.app N0 N3q)
  have K3 : Keep h0 T3.heap [a0] := K2.trans kq3 (allS (Or.inr sz_b2) all0)
  have Z3 : n0 ≤ T3.heap.size := Nat.le_trans Z2 kq3.1
  have ne_a0_b2 : a0 ≠ b2 := own_ne (Nat.lt_of_lt_of_le E_a0.lt (Nat.le_of_eq g2.symm))
  have F_a0_readers_u5 : Fld Z T3.heap a0 cND "readers" "Ljava/util/List;" .null := ((F_readers_a0.ext E2).keep kq3 (ninS ne_a0_b2 nin0))
  have E_a0_u6 : Exa Z T3.heap a0 cPN := ((E_a0.ext E2).keep kq3)
  obtain ⟨T7, h7, X7, e7, W7, st7⟩ := putF X3' hx hZ hown (host := "") (Or.inl (w93 hw)) Via.refl rfl F_a0_readers_u5 E_a0_u6 (Or.inr ⟨(w94 hw), rfl, hnm⟩) (w55 hw) (ty := (.object "java/util/List")) (by decide) rfl rfl (g := (mkF m 12 #[vR a0] [(.ref b2), (.ref a0)])) rfl rfl (hb hby d11_12)
  have K7 : Keep h0 h7 [a0] := K3.wr W7 (Or.inl (mg 0 rfl))
  have Fw7 := F_a0_readers_u5.same W7
  have Z7 : n0 ≤ h7.size := Nat.le_trans Z3 (Keep.of_wr W7).1
  obtain ⟨Lg7, X7', N7⟩ := own_gen X7 (Fr.snoc X7 N3 g_a0)
  have E_a0_u8 : Exa Z h7 a0 cPN := (E_a0_u6.wr W7)
  have F_a0_derivations_u9 : Fld Z h7 a0 cPN "derivations" dD .null := (((F_derivations_a0.ext E2).keep kq3 (ninS ne_a0_b2 nin0)).other W7 (Or.inr (sl_6 hw)))
  have F_a0_told_u10 : Fld Z h7 a0 cPN "told" dC .null := (((F_told_a0.ext E2).keep kq3 (ninS ne_a0_b2 nin0)).other W7 (Or.inr (sl_7 hw)))
  have F_a0_indexes_u11 : Fld Z h7 a0 cPN "indexes" "Ljava/util/Map;" .null := (((F_indexes_a0.ext E2).keep kq3 (ninS ne_a0_b2 nin0)).other W7 (Or.inr (sl_8 hw)))
  have F_a0_fixpoint_u12 : Fld Z h7 a0 cPN "fixpoint" dF .null := (((F_fixpoint_a0.ext E2).keep kq3 (ninS ne_a0_b2 nin0)).other W7 (Or.inr (sl_9 hw)))
  have E_b2_u13 : Exa Z h7 b2 cAL := (pf3_0.wr W7)
  have F_b2_modCount_u14 : Fld Z h7 b2 "java/util/AbstractList" "modCount" "I" (.int (0 : Int32)) := (pf3_1.other W7 (Or.inl (Ne.symm ne_a0_b2)))
  have F_b2_elementData_u15 : Fld Z h7 b2 cAL "elementData" cOA (.ref eD) := (pf3_2.other W7 (Or.inl (Ne.symm ne_a0_b2)))
  have F_b2_size_u16 : Fld Z h7 b2 cAL "size" "I" (.int (0 : Int32)) := (pf3_3.other W7 (Or.inl (Ne.symm ne_a0_b2)))
  obtain ⟨fs, hr, hrun, hended, hW, hsame⟩ := X7'.leave (v := none) (fun _ => rfl) Bd.notSynchronized
  refine ⟨_, _, pre0 _ ?_, hrun, hended, _, _, rfl, ?_, ⟨_, rfl⟩, hW, hsame.mono (by decide) (by decide)⟩
  · show SP p e below s₁ (mkF m 0 #[vR a0] []) _
    refine XS.aloadN X0.here hx rfl (hb hby d11_0) rfl rfl ?_
    show SP p e below s₁ (mkF m 1 #[vR a0] [(.ref a0)]) _
    refine st1 _ ?_
    show SP p e below T1 (mkF m 4 #[vR a0] []) _
    refine XS.aloadN X1.here hx rfl (hb hby d11_4) rfl rfl ?_
    show SP p e below T1 (mkF m 5 #[vR a0] [(.ref a0)]) _
    refine st2 _ ?_
    show SP p e below T2 (mkF m 8 #[vR a0] [(.ref b2), (.ref a0)]) _
    refine XS.dup X2.here hx rfl (hb hby d11_8) rfl rfl ?_
    show SP p e below T2 (mkF m 9 #[vR a0] [(.ref b2), (.ref b2), (.ref a0)]) _
    refine st3.trans ?_
    show SP p e below T3 (mkF m 12 #[vR a0] [(.ref b2), (.ref a0)]) _
    refine st7 _ ?_
    show SP p e below T7 (mkF m 15 #[vR a0] []) _
    exact X7'.returnOut hx Bd.returns (hb hby d11_15) hr
  · show Q11 Z a0 eD h0 n0 _ T7.heap _
    rw [e7]
    exact ⟨b2, rfl, N7, sz_b2, K7, E_a0_u8, Fw7, F_a0_derivations_u9, F_a0_told_u10, F_a0_indexes_u11, F_a0_fixpoint_u12, E_b2_u13, F_b2_modCount_u14, F_b2_elementData_u15, F_b2_size_u16⟩
theorem d17_0 : dc kB33 0 (.aload_n 0) 1 := by decide +kernel
theorem d17_1 : dc kB33 1 (.invokespecial 1) 3 := by decide +kernel
theorem d17_4 : dc kB33 4 (.aload_n 0) 1 := by decide +kernel
theorem d17_5 : dc kB33 5 (.iconst 4) 1 := by decide +kernel
theorem d17_6 : dc kB33 6 (.anewarray 2) 3 := by decide +kernel
theorem d17_9 : dc kB33 9 (.putfield 9) 3 := by decide +kernel
theorem d17_12 : dc kB33 12 (.aload_n 0) 1 := by decide +kernel
theorem d17_13 : dc kB33 13 (.iconst 4) 1 := by decide +kernel
theorem d17_14 : dc kB33 14 (.newarray .long) 2 := by decide +kernel
theorem d17_16 : dc kB33 16 (.putfield 13) 3 := by decide +kernel
theorem sl_10 {Z : State} {az : Array Value} (hw : HW Z az) : Jvm.RoadKit.slotOf Z cSL "hashesAndCounts" "[J" ≠ Jvm.RoadKit.slotOf Z cSL "held" cOA := slot_ne (Z := Z) (Or.inl (w119 hw)) (Or.inl (w116 hw)) (by decide) (t := (.array .long)) (t' := (.array (.object "java/lang/Object"))) (by decide) (by decide)
theorem d17_19 : dc kB33 19 .return_ 1 := by decide +kernel
theorem sl_11 {Z : State} {az : Array Value} (hw : HW Z az) : Jvm.RoadKit.slotOf Z cSL "held" cOA ≠ Jvm.RoadKit.slotOf Z cSL "hashesAndCounts" "[J" := slot_ne (Z := Z) (Or.inl (w116 hw)) (Or.inl (w119 hw)) (by decide) (t := (.array (.object "java/lang/Object"))) (t' := (.array .long)) (by decide) (by decide)
theorem sl_12 {Z : State} {az : Array Value} (hw : HW Z az) : Jvm.RoadKit.slotOf Z cSL "size" "I" ≠ Jvm.RoadKit.slotOf Z cSL "held" cOA := slot_ne (Z := Z) (Or.inl (w234 hw)) (Or.inl (w116 hw)) (by decide) (t := .int) (t' := (.array (.object "java/lang/Object"))) (by decide) (by decide)
theorem sl_13 {Z : State} {az : Array Value} (hw : HW Z az) : Jvm.RoadKit.slotOf Z cSL "size" "I" ≠ Jvm.RoadKit.slotOf Z cSL "hashesAndCounts" "[J" := slot_ne (Z := Z) (Or.inl (w234 hw)) (Or.inl (w119 hw)) (by decide) (t := .int) (t' := (.array .long)) (by decide) (by decide)
theorem pn_com_example_reteweave_reteweave_network_SlotTable : plainName "com/example/reteweave/reteweave/network/SlotTable" = true := by first | (simp [plainName, overriddenIn]; done) | decide +kernel
theorem ef_rm17 (m : MethodId) (a0 : Addr) : entryFrame m #[(.ref a0)] 1 = mkF m 0 #[vR a0] [] := by first | (simp [entryFrame, mkF, argsToLocals, Value.category]; done) | rfl
def Q17 (Z : State) (a0 : Addr) (h0 : Heap) (n0 : Nat) (v : Option Value) (h : Heap) (L : List Loc) : Prop := ∃ r0 : Addr, ∃ r1 : Addr, ∃ rk0 : ClassId, ∃ rk1 : ClassId, v = none ∧ Fr n0 L ∧ h0.size ≤ r0 ∧ r0 < r1 ∧ Keep h0 h [a0] ∧ Exa Z h a0 cTC ∧ Fld Z h a0 cSL "held" cOA (.ref r0) ∧ Fld Z h a0 cSL "hashesAndCounts" "[J" (.ref r1) ∧ Fld Z h a0 cSL "size" "I" (.int (0 : Int32)) ∧ Exa Z h r0 cOA ∧ own_Arf Z h r0 rk0 (.object "java/lang/Object") (4 : Int32) (fun _ => .null) ∧ Exa Z h r1 "[J" ∧ own_Arf Z h r1 rk1 .long (4 : Int32) (fun _ => (.long (0 : Int64))) ∧ Ovr Z rk0 "java/lang/Object"
theorem rm17 (l : Launch) (Z : State) (az : Array Value) (hw : HW Z az) (ws : List Jvm.Cond) (a0 : Addr) (h0 : Heap) (n0 : Nat) (Z0 : n0 ≤ h0.size) (E_a0 : Exa Z h0 a0 cTC) (F_held_a0 : Fld Z h0 a0 cSL "held" cOA .null) (F_hashesAndCounts_a0 : Fld Z h0 a0 cSL "hashesAndCounts" "[J" .null) (F_size_a0 : Fld Z h0 a0 cSL "size" "I" (.int (0 : Int32))) (g_a0 : n0 ≤ a0) :
    MF l Z h0 ws ⟨cSL, "<init>", "()V"⟩ kB33 1 none ⟨1, 2, 8, 12⟩ #[(.ref a0)] (Q17 Z a0 h0 n0) := by
  refine own_body cSL n0 rfl (plainFor_of_name pn_com_example_reteweave_reteweave_network_SlotTable) (fun m => ef_rm17 m a0) ?_
  intro p e s m below meth c s₁ Bd hx hby hml hown hZ X0 e0 N0 pre0
  obtain ⟨T1, X1, e1, st1⟩ := initO X0 hx hZ hown (w113 hw) (w33 hw) (w34 hw) e0 (g := (mkF m 1 #[vR a0] [(.ref a0)])) rfl (by rw [hml]; rfl) rfl (hb hby d17_1) (by decide) (W := 0) (Nat.le_of_eq rfl) (by decide)
  obtain ⟨T2, h2, k2, X2, e2, E2, A2, x2, O2, st2⟩ := newRE X1 hx hZ hown (w114 hw) (w1 hw) e1 (g := (mkF m 6 #[vR a0] [(.int (4 : Int32)), (.ref a0)])) rfl (hb hby d17_6) rfl (by decide) (cap := 4) (by decide) (by decide) (by decide) (by decide) (ad := cOA) (by decide)
  obtain ⟨b2, g2⟩ : ∃ z, z = h0.size := ⟨_, rfl⟩
  rw [← g2] at A2 x2 st2
  have g_b2 : n0 ≤ b2 := Nat.le_trans Z0 (Nat.le_of_eq g2.symm)
  have sz_b2 : h0.size ≤ b2 := Nat.le_trans (Nat.le_refl _) (Nat.le_of_eq g2.symm)
  have Z2 : n0 ≤ h2.size := Nat.le_trans Z0 E2.1
  have K2 : Keep h0 h2 [a0] := (Keep.refl h0 [a0]).ext E2
  have E_b2 := x2
  have V_b2 : Arv Z h2 b2 k2 (.object "java/lang/Object") (4 : Int32) [.null, .null, .null, .null] .null := (Arv.new A2 (by decide)).pad (pad_rep [] .null 4)
  have A_b2 : own_Arf Z h2 b2 k2 (.object "java/lang/Object") (4 : Int32) (fun _ => .null) := own_Arf.new A2 (by decide)
  have F_a0_held_u3 : Fld Z h2 a0 cSL "held" cOA .null := (F_held_a0.ext E2)
  have E_a0_u4 : Exa Z h2 a0 cTC := (E_a0.ext E2)
  obtain ⟨T5, h5, X5, e5, W5, st5⟩ := putF X2 hx hZ hown (host := "") (Or.inl (w115 hw)) Via.refl e2 F_a0_held_u3 E_a0_u4 (Or.inl (w116 hw)) (w103 hw) (ty := (.array (.object "java/lang/Object"))) (by decide) rfl rfl (g := (mkF m 9 #[vR a0] [(.ref b2), (.ref a0)])) rfl rfl (hb hby d17_9)
  have K5 : Keep h0 h5 [a0] := K2.wr W5 (Or.inl (mg 0 rfl))
  have Fw5 := F_a0_held_u3.same W5
  have Z5 : n0 ≤ h5.size := Nat.le_trans Z2 (Keep.of_wr W5).1
  obtain ⟨Lg5, X5', N5⟩ := own_gen X5 (Fr.snoc X5 N0 g_a0)
  obtain ⟨T6, h6, k6, X6, e6, E6, A6, x6, st6⟩ := newPE X5' hx hZ (aty := .long) (w117 hw) e5 (g := (mkF m 14 #[vR a0] [(.int (4 : Int32)), (.ref a0)])) rfl (hb hby d17_14) rfl (by decide) (cap := 4) (by decide) (by decide) (by decide) (by decide) (ad := "[J") (by decide)
  obtain ⟨b6, g6⟩ : ∃ z, z = h5.size := ⟨_, rfl⟩
  rw [← g6] at A6 x6 st6
  have g_b6 : n0 ≤ b6 := Nat.le_trans Z5 (Nat.le_of_eq g6.symm)
  have sz_b6 : h0.size ≤ b6 := Nat.le_trans K5.1 (Nat.le_of_eq g6.symm)
  have Z6 : n0 ≤ h6.size := Nat.le_trans Z5 E6.1
  have K6 : Keep h0 h6 [a0] := K5.ext E6
  have E_b6 := x6
  have V_b6 : Arv Z h6 b6 k6 .long (4 : Int32) [(.long (0 : Int64)), (.long (0 : Int64)), (.long (0 : Int64)), (.long (0 : Int64))] (.long (0 : Int64)) := (Arv.new A6 (by decide)).pad (pad_rep [] (.long (0 : Int64)) 4)
  have A_b6 : own_Arf Z h6 b6 k6 .long (4 : Int32) (fun _ => (.long (0 : Int64))) := own_Arf.new A6 (by decide)
  have F_a0_hashesAndCounts_u7 : Fld Z h6 a0 cSL "hashesAndCounts" "[J" .null := (((F_hashesAndCounts_a0.ext E2).other W5 (Or.inr (sl_10 hw))).ext E6)
  have E_a0_u8 : Exa Z h6 a0 cTC := ((E_a0_u4.wr W5).ext E6)
  obtain ⟨T9, h9, X9, e9, W9, st9⟩ := putF X6 hx hZ hown (host := "") (Or.inl (w118 hw)) Via.refl e6 F_a0_hashesAndCounts_u7 E_a0_u8 (Or.inl (w119 hw)) (w103 hw) (ty := (.array .long)) (by decide) rfl rfl (g := (mkF m 16 #[vR a0] [(.ref b6), (.ref a0)])) rfl rfl (hb hby d17_16)
  have K9 : Keep h0 h9 [a0] := K6.wr W9 (Or.inl (mg 0 rfl))
  have Fw9 := F_a0_hashesAndCounts_u7.same W9
  have Z9 : n0 ≤ h9.size := Nat.le_trans Z6 (Keep.of_wr W9).1
  obtain ⟨Lg9, X9', N9⟩ := own_gen X9 (Fr.snoc X9 N5 g_a0)
  have E_a0_u10 : Exa Z h9 a0 cTC := (E_a0_u8.wr W9)
  have F_a0_held_u11 : Fld Z h9 a0 cSL "held" cOA (.ref b2) := ((Fw5.ext E6).other W9 (Or.inr (sl_11 hw)))
  have c12 : Fld Z h6 a0 cSL "size" "I" (.int (0 : Int32)) := (((F_size_a0.ext E2).other W5 (Or.inr (sl_12 hw))).ext E6)
  have F_a0_size_u13 : Fld Z h9 a0 cSL "size" "I" (.int (0 : Int32)) := (c12.other W9 (Or.inr (sl_13 hw)))
  have E_b2_u14 : Exa Z h9 b2 cOA := (((E_b2.wr W5).ext E6).wr W9)
  have ne_a0_b2 : a0 ≠ b2 := own_ne (Nat.lt_of_lt_of_le E_a0.lt (Nat.le_of_eq g2.symm))
  have V_b2_u15 : own_Arf Z h9 b2 k2 (.object "java/lang/Object") (4 : Int32) (fun _ => .null) := (((A_b2.other W5 (Ne.symm ne_a0_b2)).ext E6).other W9 (Ne.symm ne_a0_b2))
  have E_b6_u16 : Exa Z h9 b6 "[J" := (E_b6.wr W9)
  have ne_a0_b6 : a0 ≠ b6 := own_ne (Nat.lt_of_lt_of_le (E_a0_u4.wr W5).lt (Nat.le_of_eq g6.symm))
  have V_b6_u17 : own_Arf Z h9 b6 k6 .long (4 : Int32) (fun _ => (.long (0 : Int64))) := (A_b6.other W9 (Ne.symm ne_a0_b6))
  obtain ⟨fs, hr, hrun, hended, hW, hsame⟩ := X9'.leave (v := none) (fun _ => rfl) Bd.notSynchronized
  refine ⟨_, _, pre0 _ ?_, hrun, hended, _, _, rfl, ?_, ⟨_, rfl⟩, hW, hsame.mono (by decide) (by decide)⟩
  · show SP p e below s₁ (mkF m 0 #[vR a0] []) _
    refine XS.aloadN X0.here hx rfl (hb hby d17_0) rfl rfl ?_
    show SP p e below s₁ (mkF m 1 #[vR a0] [(.ref a0)]) _
    refine st1 _ ?_
    show SP p e below T1 (mkF m 4 #[vR a0] []) _
    refine XS.aloadN X1.here hx rfl (hb hby d17_4) rfl rfl ?_
    refine XS.iconst X1.here hx rfl (hb hby d17_5) ?_
    show SP p e below T1 (mkF m 6 #[vR a0] [(.int (4 : Int32)), (.ref a0)]) _
    refine st2 _ ?_
    show SP p e below T2 (mkF m 9 #[vR a0] [(.ref b2), (.ref a0)]) _
    refine st5 _ ?_
    show SP p e below T5 (mkF m 12 #[vR a0] []) _
    refine XS.aloadN X5'.here hx rfl (hb hby d17_12) rfl rfl ?_
    refine XS.iconst X5'.here hx rfl (hb hby d17_13) ?_
    show SP p e below T5 (mkF m 14 #[vR a0] [(.int (4 : Int32)), (.ref a0)]) _
    refine st6 _ ?_
    show SP p e below T6 (mkF m 16 #[vR a0] [(.ref b6), (.ref a0)]) _
    refine st9 _ ?_
    show SP p e below T9 (mkF m 19 #[vR a0] []) _
    exact X9'.returnOut hx Bd.returns (hb hby d17_19) hr
  · show Q17 Z a0 h0 n0 _ T9.heap _
    rw [e9]
    exact ⟨b2, b6, k2, k6, rfl, N9, sz_b2, (Nat.lt_of_lt_of_le (E_b2.wr W5).lt (Nat.le_of_eq g6.symm)), K9, E_a0_u10, F_a0_held_u11, Fw9, F_a0_size_u13, E_b2_u14, V_b2_u15, E_b6_u16, V_b6_u17, O2⟩
theorem d16_0 : dc kB43 0 (.aload_n 0) 1 := by decide +kernel
theorem d16_1 : dc kB43 1 (.invokespecial 1) 3 := by decide +kernel
theorem d16_4 : dc kB43 4 .return_ 1 := by decide +kernel
theorem pn_com_example_reteweave_reteweave_network_TupleCounts : plainName "com/example/reteweave/reteweave/network/TupleCounts" = true := by first | (simp [plainName, overriddenIn]; done) | decide +kernel
theorem ef_rm16 (m : MethodId) (a0 : Addr) : entryFrame m #[(.ref a0)] 1 = mkF m 0 #[vR a0] [] := by first | (simp [entryFrame, mkF, argsToLocals, Value.category]; done) | rfl
def Q16 (Z : State) (a0 : Addr) (h0 : Heap) (n0 : Nat) (v : Option Value) (h : Heap) (L : List Loc) : Prop := ∃ r0 : Addr, ∃ r1 : Addr, ∃ rk0 : ClassId, ∃ rk1 : ClassId, v = none ∧ Fr n0 L ∧ h0.size ≤ r0 ∧ r0 < r1 ∧ Keep h0 h [a0] ∧ Exa Z h a0 cTC ∧ Fld Z h a0 cSL "held" cOA (.ref r0) ∧ Fld Z h a0 cSL "hashesAndCounts" "[J" (.ref r1) ∧ Fld Z h a0 cSL "size" "I" (.int (0 : Int32)) ∧ Exa Z h r0 cOA ∧ own_Arf Z h r0 rk0 (.object "java/lang/Object") (4 : Int32) (fun _ => .null) ∧ Exa Z h r1 "[J" ∧ own_Arf Z h r1 rk1 .long (4 : Int32) (fun _ => (.long (0 : Int64))) ∧ Ovr Z rk0 "java/lang/Object"
theorem rm16 (l : Launch) (Z : State) (az : Array Value) (hw : HW Z az) (ws : List Jvm.Cond) (a0 : Addr) (h0 : Heap) (n0 : Nat) (Z0 : n0 ≤ h0.size) (E_a0 : Exa Z h0 a0 cTC) (F_held_a0 : Fld Z h0 a0 cSL "held" cOA .null) (F_hashesAndCounts_a0 : Fld Z h0 a0 cSL "hashesAndCounts" "[J" .null) (F_size_a0 : Fld Z h0 a0 cSL "size" "I" (.int (0 : Int32))) (g_a0 : n0 ≤ a0) :
    MF l Z h0 ws ⟨cTC, "<init>", "()V"⟩ kB43 1 none ⟨2, 2, 8, 24⟩ #[(.ref a0)] (Q16 Z a0 h0 n0) := by
  refine own_body cTC n0 rfl (plainFor_of_name pn_com_example_reteweave_reteweave_network_TupleCounts) (fun m => ef_rm16 m a0) ?_
  intro p e s m below meth c s₁ Bd hx hby hml hown hZ X0 e0 N0 pre0
  obtain ⟨_, _, ⟨T1, L1, k1', n1'⟩, -, X1, ⟨Lc1, hQ1, l1, y1, z1⟩, st1⟩ := X0.specialBack hx (y := ⟨cSL, "<init>", "()V"⟩) rfl hown (mvT hZ (w108 hw)) (mvT hZ (w109 hw)) (mvT hZ (w112 hw)) (by decide) (backOf (W := 0) (rm17 l Z az hw [] a0 h0 n0 Z0 E_a0 F_held_a0 F_hashesAndCounts_a0 F_size_a0 g_a0) hZ (w112 hw) (w111 hw) (by decide) (by decide)) (g := (mkF m 1 #[vR a0] [(.ref a0)])) rfl (by rw [hml]; rfl) (Steps.refl _) (a := a0) (argsL := []) (rest := []) (lenOf pd_0 rfl) rfl (Nat.le_of_eq rfl) (hb hby d16_1) (fun _ _ => ⟨rfl, e0, (own_nle rfl), (own_nle rfl)⟩)
  dsimp only [Pt.U, Pt.locs, Pt.cells, Pt.slots] at X1 l1 y1 z1 st1 hQ1
  subst l1 y1 z1
  obtain ⟨b1_0, b1_1, kk1_0, kk1_1, rfl, N1q, s1_0, lt_b1_0_b1_1, kq1, pf1_0, pf1_1, pf1_2, pf1_3, pf1_4, pf1_5, pf1_6, pf1_7, pf1_8⟩ := hQ1
  obtain ⟨Lg1, X1', N1⟩ := own_gen X1 (Fr.app N0 N1q)
  have g_b1_0 : n0 ≤ b1_0 := Nat.le_trans Z0 s1_0
  have sz_b1_0 : h0.size ≤ b1_0 := Nat.le_trans (Nat.le_refl _) s1_0
  have g_b1_1 : n0 ≤ b1_1 := Nat.le_trans Z0 (Nat.le_trans s1_0 (Nat.le_of_lt lt_b1_0_b1_1))
  have sz_b1_1 : h0.size ≤ b1_1 := Nat.le_trans (Nat.le_refl _) (Nat.le_trans s1_0 (Nat.le_of_lt lt_b1_0_b1_1))
  have K1 : Keep h0 T1.heap [a0] := (Keep.refl h0 [a0]).trans kq1 (allS (Or.inl (mg 0 rfl)) all0)
  have Z1 : n0 ≤ T1.heap.size := Nat.le_trans Z0 kq1.1
  obtain ⟨fs, hr, hrun, hended, hW, hsame⟩ := X1'.leave (v := none) (fun _ => rfl) Bd.notSynchronized
  refine ⟨_, _, pre0 _ ?_, hrun, hended, _, _, rfl, ?_, ⟨_, rfl⟩, hW, hsame.mono (by decide) (by decide)⟩
  · show SP p e below s₁ (mkF m 0 #[vR a0] []) _
    refine XS.aloadN X0.here hx rfl (hb hby d16_0) rfl rfl ?_
    show SP p e below s₁ (mkF m 1 #[vR a0] [(.ref a0)]) _
    refine st1.trans ?_
    show SP p e below T1 (mkF m 4 #[vR a0] []) _
    exact X1'.returnOut hx Bd.returns (hb hby d16_4) hr
  · show Q16 Z a0 h0 n0 _ T1.heap _
    exact ⟨b1_0, b1_1, kk1_0, kk1_1, rfl, N1, sz_b1_0, lt_b1_0_b1_1, K1, pf1_0, pf1_1, pf1_2, pf1_3, pf1_4, pf1_5, pf1_6, pf1_7, pf1_8⟩
theorem d15_0 : dc kB51 0 (.aload_n 0) 1 := by decide +kernel
theorem d15_1 : dc kB51 1 (.invokespecial 1) 3 := by decide +kernel
theorem d15_4 : dc kB51 4 (.aload_n 0) 1 := by decide +kernel
theorem d15_5 : dc kB51 5 (.new 7) 3 := by decide +kernel
theorem d15_8 : dc kB51 8 .dup 1 := by decide +kernel
theorem d15_9 : dc kB51 9 (.invokespecial 9) 3 := by decide +kernel
theorem d15_12 : dc kB51 12 (.putfield 10) 3 := by decide +kernel
theorem d15_15 : dc kB51 15 .return_ 1 := by decide +kernel
theorem pn_com_example_reteweave_reteweave_network_Derivations : plainName "com/example/reteweave/reteweave/network/Derivations" = true := by first | (simp [plainName, overriddenIn]; done) | decide +kernel
theorem ef_rm15 (m : MethodId) (a0 : Addr) : entryFrame m #[(.ref a0)] 1 = mkF m 0 #[vR a0] [] := by first | (simp [entryFrame, mkF, argsToLocals, Value.category]; done) | rfl
def Q15 (Z : State) (a0 : Addr) (h0 : Heap) (n0 : Nat) (v : Option Value) (h : Heap) (L : List Loc) : Prop := ∃ r0 : Addr, ∃ r1 : Addr, ∃ r2 : Addr, ∃ rk0 : ClassId, ∃ rk1 : ClassId, v = none ∧ Fr n0 L ∧ h0.size ≤ r0 ∧ r0 < r1 ∧ r1 < r2 ∧ Keep h0 h [a0] ∧ Exa Z h a0 cDV ∧ Fld Z h a0 cDV "counts" dC (.ref r0) ∧ Exa Z h r0 cTC ∧ Fld Z h r0 cSL "held" cOA (.ref r1) ∧ Fld Z h r0 cSL "hashesAndCounts" "[J" (.ref r2) ∧ Fld Z h r0 cSL "size" "I" (.int (0 : Int32)) ∧ Exa Z h r1 cOA ∧ own_Arf Z h r1 rk0 (.object "java/lang/Object") (4 : Int32) (fun _ => .null) ∧ Exa Z h r2 "[J" ∧ own_Arf Z h r2 rk1 .long (4 : Int32) (fun _ => (.long (0 : Int64))) ∧ Ovr Z rk0 "java/lang/Object"
theorem rm15 (l : Launch) (Z : State) (az : Array Value) (hw : HW Z az) (ws : List Jvm.Cond) (a0 : Addr) (h0 : Heap) (n0 : Nat) (Z0 : n0 ≤ h0.size) (E_a0 : Exa Z h0 a0 cDV) (F_counts_a0 : Fld Z h0 a0 cDV "counts" dC .null) (g_a0 : n0 ≤ a0) :
    MF l Z h0 ws ⟨cDV, "<init>", "()V"⟩ kB51 1 none ⟨3, 3, 11, 38⟩ #[(.ref a0)] (Q15 Z a0 h0 n0) := by
  refine own_body cDV n0 rfl (plainFor_of_name pn_com_example_reteweave_reteweave_network_Derivations) (fun m => ef_rm15 m a0) ?_
  intro p e s m below meth c s₁ Bd hx hby hml hown hZ X0 e0 N0 pre0
  have hnm := (name_of_methodNamed Bd.named Bd.method).1
  obtain ⟨T1, X1, e1, st1⟩ := initO X0 hx hZ hown (w101 hw) (w33 hw) (w34 hw) e0 (g := (mkF m 1 #[vR a0] [(.ref a0)])) rfl (by rw [hml]; rfl) rfl (hb hby d15_1) (by decide) (W := 0) (Nat.le_of_eq rfl) (by decide)
  obtain ⟨T2, h2, X2, e2, E2, A2, D2, -, st2⟩ := newO X1 hx hZ hown (w102 hw) (w103 hw) (w104 hw) e1 (g := (mkF m 5 #[vR a0] [(.ref a0)])) rfl (hb hby d15_5) (by decide) (by decide)
  obtain ⟨b2, g2⟩ : ∃ z, z = h0.size := ⟨_, rfl⟩
  rw [← g2] at A2 D2 st2
  have g_b2 : n0 ≤ b2 := Nat.le_trans Z0 (Nat.le_of_eq g2.symm)
  have sz_b2 : h0.size ≤ b2 := Nat.le_trans (Nat.le_refl _) (Nat.le_of_eq g2.symm)
  have Z2 : n0 ≤ h2.size := Nat.le_trans Z0 E2.1
  have K2 : Keep h0 h2 [a0] := (Keep.refl h0 [a0]).ext E2
  have E_b2 := A2
  have F_held_b2 : Fld Z h2 b2 cSL "held" cOA .null := D2 (Or.inl (w116 hw)) (ty := (.array (.object "java/lang/Object"))) (by decide)
  have F_hashesAndCounts_b2 : Fld Z h2 b2 cSL "hashesAndCounts" "[J" .null := D2 (Or.inl (w119 hw)) (ty := (.array .long)) (by decide)
  have F_size_b2 : Fld Z h2 b2 cSL "size" "I" (.int (0 : Int32)) := D2 (Or.inl (w234 hw)) (ty := .int) (by decide)
  obtain ⟨_, _, ⟨T3, L3, k3', n3'⟩, -, X3, ⟨Lc3, hQ3, l3, y3, z3⟩, st3⟩ := X2.specialBack hx (y := ⟨cTC, "<init>", "()V"⟩) rfl hown (mvT hZ (w105 hw)) (mvT hZ (w106 hw)) (mvT hZ (w107 hw)) (by decide) (backOf (W := 2) (rm16 l Z az hw [] b2 h2 n0 Z2 E_b2 F_held_b2 F_hashesAndCounts_b2 F_size_b2 g_b2) hZ (w107 hw) (w104 hw) (by decide) (by decide)) (g := (mkF m 9 #[vR a0] [(.ref b2), (.ref b2), (.ref a0)])) rfl (by rw [hml]; rfl) (Steps.refl _) (a := b2) (argsL := []) (rest := [(.ref b2), (.ref a0)]) (lenOf pd_0 rfl) rfl (Nat.le_of_eq rfl) (hb hby d15_9) (fun _ _ => ⟨rfl, e2, (own_nle rfl), (own_nle rfl)⟩)
  dsimp only [Pt.U, Pt.locs, Pt.cells, Pt.slots] at X3 l3 y3 z3 st3 hQ3
  subst l3 y3 z3
  obtain ⟨b3_0, b3_1, kk3_0, kk3_1, rfl, N3q, s3_0, lt_b3_0_b3_1, kq3, pf3_0, pf3_1, pf3_2, pf3_3, pf3_4, pf3_5, pf3_6, pf3_7, pf3_8⟩ := hQ3
  obtain ⟨Lg3, X3', N3⟩ := own_gen X3 (Fr.app N0 N3q)
  have g_b3_0 : n0 ≤ b3_0 := Nat.le_trans Z2 s3_0
  have sz_b3_0 : h0.size ≤ b3_0 := Nat.le_trans K2.1 s3_0
  have g_b3_1 : n0 ≤ b3_1 := Nat.le_trans Z2 (Nat.le_trans s3_0 (Nat.le_of_lt lt_b3_0_b3_1))
  have sz_b3_1 : h0.size ≤ b3_1 := Nat.le_trans K2.1 (Nat.le_trans s3_0 (Nat.le_of_lt lt_b3_0_b3_1))
  have K3 : Keep h0 T3.heap [a0] := K2.trans kq3 (allS (Or.inr sz_b2) all0)
  have Z3 : n0 ≤ T3.heap.size := Nat.le_trans Z2 kq3.1
  have ne_a0_b2 : a0 ≠ b2 := own_ne (Nat.lt_of_lt_of_le E_a0.lt (Nat.le_of_eq g2.symm))
  have F_a0_counts_u4 : Fld Z T3.heap a0 cDV "counts" dC .null := ((F_counts_a0.ext E2).keep kq3 (ninS ne_a0_b2 nin0))
  have E_a0_u5 : Exa Z T3.heap a0 cDV := ((E_a0.ext E2).keep kq3)
  obtain ⟨T6, h6, X6, e6, W6, st6⟩ := putF X3' hx hZ hown (host := "") (Or.inl (w120 hw)) Via.refl rfl F_a0_counts_u4 E_a0_u5 (Or.inr ⟨(w121 hw), rfl, hnm⟩) (w96 hw) (ty := (.object cTC)) (by decide) rfl rfl (g := (mkF m 12 #[vR a0] [(.ref b2), (.ref a0)])) rfl rfl (hb hby d15_12)
  have K6 : Keep h0 h6 [a0] := K3.wr W6 (Or.inl (mg 0 rfl))
  have Fw6 := F_a0_counts_u4.same W6
  have Z6 : n0 ≤ h6.size := Nat.le_trans Z3 (Keep.of_wr W6).1
  obtain ⟨Lg6, X6', N6⟩ := own_gen X6 (Fr.snoc X6 N3 g_a0)
  have E_a0_u7 : Exa Z h6 a0 cDV := (E_a0_u5.wr W6)
  have E_b2_u8 : Exa Z h6 b2 cTC := (pf3_0.wr W6)
  have F_b2_held_u9 : Fld Z h6 b2 cSL "held" cOA (.ref b3_0) := (pf3_1.other W6 (Or.inl (Ne.symm ne_a0_b2)))
  have F_b2_hashesAndCounts_u10 : Fld Z h6 b2 cSL "hashesAndCounts" "[J" (.ref b3_1) := (pf3_2.other W6 (Or.inl (Ne.symm ne_a0_b2)))
  have F_b2_size_u11 : Fld Z h6 b2 cSL "size" "I" (.int (0 : Int32)) := (pf3_3.other W6 (Or.inl (Ne.symm ne_a0_b2)))
  have E_b3_0_u12 : Exa Z h6 b3_0 cOA := (pf3_4.wr W6)
  have ne_a0_b3_0 : a0 ≠ b3_0 := own_ne (Nat.lt_of_lt_of_le (E_a0.ext E2).lt s3_0)
  have V_b3_0_u13 : own_Arf Z h6 b3_0 kk3_0 (.object "java/lang/Object") (4 : Int32) (fun _ => .null) := (pf3_5.other W6 (Ne.symm ne_a0_b3_0))
  have E_b3_1_u14 : Exa Z h6 b3_1 "[J" := (pf3_6.wr W6)
  have ne_a0_b3_1 : a0 ≠ b3_1 := own_ne (Nat.lt_of_lt_of_le (E_a0.ext E2).lt (Nat.le_trans s3_0 (Nat.le_of_lt lt_b3_0_b3_1)))
  have V_b3_1_u15 : own_Arf Z h6 b3_1 kk3_1 .long (4 : Int32) (fun _ => (.long (0 : Int64))) := (pf3_7.other W6 (Ne.symm ne_a0_b3_1))
  obtain ⟨fs, hr, hrun, hended, hW, hsame⟩ := X6'.leave (v := none) (fun _ => rfl) Bd.notSynchronized
  refine ⟨_, _, pre0 _ ?_, hrun, hended, _, _, rfl, ?_, ⟨_, rfl⟩, hW, hsame.mono (by decide) (by decide)⟩
  · show SP p e below s₁ (mkF m 0 #[vR a0] []) _
    refine XS.aloadN X0.here hx rfl (hb hby d15_0) rfl rfl ?_
    show SP p e below s₁ (mkF m 1 #[vR a0] [(.ref a0)]) _
    refine st1 _ ?_
    show SP p e below T1 (mkF m 4 #[vR a0] []) _
    refine XS.aloadN X1.here hx rfl (hb hby d15_4) rfl rfl ?_
    show SP p e below T1 (mkF m 5 #[vR a0] [(.ref a0)]) _
    refine st2 _ ?_
    show SP p e below T2 (mkF m 8 #[vR a0] [(.ref b2), (.ref a0)]) _
    refine XS.dup X2.here hx rfl (hb hby d15_8) rfl rfl ?_
    show SP p e below T2 (mkF m 9 #[vR a0] [(.ref b2), (.ref b2), (.ref a0)]) _
    refine st3.trans ?_
    show SP p e below T3 (mkF m 12 #[vR a0] [(.ref b2), (.ref a0)]) _
    refine st6 _ ?_
    show SP p e below T6 (mkF m 15 #[vR a0] []) _
    exact X6'.returnOut hx Bd.returns (hb hby d15_15) hr
  · show Q15 Z a0 h0 n0 _ T6.heap _
    rw [e6]
    exact ⟨b2, b3_0, b3_1, kk3_0, kk3_1, rfl, N6, sz_b2, (Nat.lt_of_lt_of_le E_b2.lt s3_0), lt_b3_0_b3_1, K6, E_a0_u7, Fw6, E_b2_u8, F_b2_held_u9, F_b2_hashesAndCounts_u10, F_b2_size_u11, E_b3_0_u12, V_b3_0_u13, E_b3_1_u14, V_b3_1_u15, pf3_8⟩
theorem d19_0 : dc kB18 0 (.aload_n 0) 1 := by decide +kernel
theorem d19_1 : dc kB18 1 (.invokespecial 1) 3 := by decide +kernel
theorem d19_4 : dc kB18 4 .return_ 1 := by decide +kernel
theorem pn_java_util_AbstractMap : plainName "java/util/AbstractMap" = true := by first | (simp [plainName, overriddenIn]; done) | decide +kernel
theorem ef_rm19 (m : MethodId) (a0 : Addr) : entryFrame m #[(.ref a0)] 1 = mkF m 0 #[vR a0] [] := by first | (simp [entryFrame, mkF, argsToLocals, Value.category]; done) | rfl
def Q19 (Z : State) (a0 : Addr) (h0 : Heap) (n0 : Nat) (v : Option Value) (h : Heap) (L : List Loc) : Prop := v = none ∧ Fr n0 L ∧ h = h0
theorem rm19 (l : Launch) (Z : State) (az : Array Value) (hw : HW Z az) (ws : List Jvm.Cond) (a0 : Addr) (h0 : Heap) (n0 : Nat) (Z0 : n0 ≤ h0.size) :
    MF l Z h0 ws ⟨"java/util/AbstractMap", "<init>", "()V"⟩ kB18 1 none ⟨1, 0, 0, 12⟩ #[(.ref a0)] (Q19 Z a0 h0 n0) := by
  refine own_body "java/util/AbstractMap" n0 rfl (plainFor_of_name pn_java_util_AbstractMap) (fun m => ef_rm19 m a0) ?_
  intro p e s m below meth c s₁ Bd hx hby hml hown hZ X0 e0 N0 pre0
  obtain ⟨T1, X1, e1, st1⟩ := initO X0 hx hZ hown (w140 hw) (w33 hw) (w34 hw) e0 (g := (mkF m 1 #[vR a0] [(.ref a0)])) rfl (by rw [hml]; rfl) rfl (hb hby d19_1) (by decide) (W := 0) (Nat.le_of_eq rfl) (by decide)
  obtain ⟨fs, hr, hrun, hended, hW, hsame⟩ := X1.leave (v := none) (fun _ => rfl)
  refine ⟨_, _, pre0 _ ?_, hrun, hended, _, _, rfl, ?_, ⟨_, rfl⟩, hW, hsame.mono (by decide) (by decide)⟩
  · show SP p e below s₁ (mkF m 0 #[vR a0] []) _
    refine XS.aloadN X0.here hx rfl (hb hby d19_0) rfl rfl ?_
    show SP p e below s₁ (mkF m 1 #[vR a0] [(.ref a0)]) _
    refine st1 _ ?_
    show SP p e below T1 (mkF m 4 #[vR a0] []) _
    exact X1.returnOut hx Bd.returns (hb hby d19_4) hr
  · show Q19 Z a0 h0 n0 _ T1.heap _
    rw [e1]
    exact ⟨rfl, N0, rfl⟩
theorem d18_0 : dc kB17 0 (.aload_n 0) 1 := by decide +kernel
theorem d18_1 : dc kB17 1 (.invokespecial 43) 3 := by decide +kernel
theorem d18_4 : dc kB17 4 (.aload_n 0) 1 := by decide +kernel
theorem d18_5 : dc kB17 5 (.ldc 92) 2 := by decide +kernel
theorem d18_7 : dc kB17 7 (.putfield 81) 3 := by decide +kernel
theorem d18_10 : dc kB17 10 .return_ 1 := by decide +kernel
theorem sl_14 {Z : State} {az : Array Value} (hw : HW Z az) : Jvm.RoadKit.slotOf Z cHM "size" "I" ≠ Jvm.RoadKit.slotOf Z cHM "loadFactor" "F" := slot_ne (Z := Z) (Or.inl (w271 hw)) (Or.inr (w143 hw)) (by decide) (t := .int) (t' := .float) (by decide) (by decide)
theorem pn_java_util_HashMap : plainName "java/util/HashMap" = true := by first | (simp [plainName, overriddenIn]; done) | decide +kernel
theorem ef_rm18 (m : MethodId) (a0 : Addr) : entryFrame m #[(.ref a0)] 1 = mkF m 0 #[vR a0] [] := by first | (simp [entryFrame, mkF, argsToLocals, Value.category]; done) | rfl
def Q18 (Z : State) (a0 : Addr) (h0 : Heap) (n0 : Nat) (v : Option Value) (h : Heap) (L : List Loc) : Prop := v = none ∧ Fr n0 L ∧ Keep h0 h [a0] ∧ Exa Z h a0 cHM ∧ Fld Z h a0 cHM "loadFactor" "F" (.float (1061158912 : UInt32)) ∧ Fld Z h a0 cHM "size" "I" (.int (0 : Int32))
theorem rm18 (l : Launch) (Z : State) (az : Array Value) (hw : HW Z az) (ws : List Jvm.Cond) (a0 : Addr) (h0 : Heap) (n0 : Nat) (Z0 : n0 ≤ h0.size) (E_a0 : Exa Z h0 a0 cHM) (F_loadFactor_a0 : Fld Z h0 a0 cHM "loadFactor" "F" (.float (0 : UInt32))) (F_size_a0 : Fld Z h0 a0 cHM "size" "I" (.int (0 : Int32))) (g_a0 : n0 ≤ a0) :
    MF l Z h0 ws ⟨cHM, "<init>", "()V"⟩ kB17 1 none ⟨2, 0, 0, 24⟩ #[(.ref a0)] (Q18 Z a0 h0 n0) := by
  refine own_body cHM n0 rfl (plainFor_of_name pn_java_util_HashMap) (fun m => ef_rm18 m a0) ?_
  intro p e s m below meth c s₁ Bd hx hby hml hown hZ X0 e0 N0 pre0
  have hnm := (name_of_methodNamed Bd.named Bd.method).1
  obtain ⟨_, _, ⟨T1, L1, k1', n1'⟩, -, X1, ⟨Lc1, hQ1, l1, y1, z1⟩, st1⟩ := X0.specialBack hx (y := ⟨"java/util/AbstractMap", "<init>", "()V"⟩) rfl hown (mvT hZ (w134 hw)) (mvT hZ (w135 hw)) (mvT hZ (w139 hw)) (by decide) (backOf (W := 0) (rm19 l Z az hw [] a0 h0 n0 Z0) hZ (w139 hw) (w138 hw) (by decide) (by decide)) (g := (mkF m 1 #[vR a0] [(.ref a0)])) rfl (by rw [hml]; rfl) (Steps.refl _) (a := a0) (argsL := []) (rest := []) (lenOf pd_0 rfl) rfl (Nat.le_of_eq rfl) (hb hby d18_1) (fun _ _ => ⟨rfl, e0, (own_nle rfl), (own_nle rfl)⟩)
  dsimp only [Pt.U, Pt.locs, Pt.cells, Pt.slots] at X1 l1 y1 z1 st1 hQ1
  subst l1 y1 z1
  obtain ⟨rfl, N1q, e1⟩ := hQ1
  obtain ⟨Lg1, X1', N1⟩ := own_gen X1 (Fr.app N0 N1q)
  obtain ⟨T2, h2, X2, e2, W2, st2⟩ := putF X1' hx hZ hown (host := "") (Or.inl (w142 hw)) Via.refl e1 F_loadFactor_a0 E_a0 (Or.inr ⟨(w143 hw), rfl, hnm⟩) (w129 hw) (ty := .float) (by decide) rfl rfl (g := (mkF m 7 #[vR a0] [(.float (1061158912 : UInt32)), (.ref a0)])) rfl rfl (hb hby d18_7)
  have K2 : Keep h0 h2 [a0] := (Keep.refl h0 [a0]).wr W2 (Or.inl (mg 0 rfl))
  have Fw2 := F_loadFactor_a0.same W2
  have Z2 : n0 ≤ h2.size := Nat.le_trans Z0 (Keep.of_wr W2).1
  obtain ⟨Lg2, X2', N2⟩ := own_gen X2 (Fr.snoc X2 N1 g_a0)
  have E_a0_u3 : Exa Z h2 a0 cHM := (E_a0.wr W2)
  have F_a0_size_u4 : Fld Z h2 a0 cHM "size" "I" (.int (0 : Int32)) := (F_size_a0.other W2 (Or.inr (sl_14 hw)))
  obtain ⟨fs, hr, hrun, hended, hW, hsame⟩ := X2'.leave (v := none) (fun _ => rfl) Bd.notSynchronized
  refine ⟨_, _, pre0 _ ?_, hrun, hended, _, _, rfl, ?_, ⟨_, rfl⟩, hW, hsame.mono (by decide) (by decide)⟩
  · show SP p e below s₁ (mkF m 0 #[vR a0] []) _
    refine XS.aloadN X0.here hx rfl (hb hby d18_0) rfl rfl ?_
    show SP p e below s₁ (mkF m 1 #[vR a0] [(.ref a0)]) _
    refine st1.trans ?_
    show SP p e below T1 (mkF m 4 #[vR a0] []) _
    refine XS.aloadN X1'.here hx rfl (hb hby d18_4) rfl rfl ?_
    show SP p e below T1 (mkF m 5 #[vR a0] [(.ref a0)]) _
    refine X1'.ldcFloatC hx hown (mvT hZ (w141 hw)) (g := (mkF m 5 #[vR a0] [(.ref a0)])) rfl (hb hby d18_5) _ ?_
    show SP p e below T1 (mkF m 7 #[vR a0] [(.float (1061158912 : UInt32)), (.ref a0)]) _
    refine st2 _ ?_
    show SP p e below T2 (mkF m 10 #[vR a0] []) _
    exact X2'.returnOut hx Bd.returns (hb hby d18_10) hr
  · show Q18 Z a0 h0 n0 _ T2.heap _
    rw [e2]
    exact ⟨rfl, N2, K2, E_a0_u3, Fw2, F_a0_size_u4⟩
theorem d10_0 : dc kB24 0 (.aload_n 0) 1 := by decide +kernel
theorem d10_1 : dc kB24 1 (.invokespecial 7) 3 := by decide +kernel
theorem d10_4 : dc kB24 4 (.aload_n 0) 1 := by decide +kernel
theorem d10_5 : dc kB24 5 (.new 12) 3 := by decide +kernel
theorem d10_8 : dc kB24 8 .dup 1 := by decide +kernel
theorem d10_9 : dc kB24 9 (.invokespecial 14) 3 := by decide +kernel
theorem d10_12 : dc kB24 12 (.putfield 15) 3 := by decide +kernel
theorem d10_15 : dc kB24 15 (.aload_n 0) 1 := by decide +kernel
theorem d10_16 : dc kB24 16 (.new 19) 3 := by decide +kernel
theorem d10_19 : dc kB24 19 .dup 1 := by decide +kernel
theorem d10_20 : dc kB24 20 (.invokespecial 21) 3 := by decide +kernel
theorem d10_23 : dc kB24 23 (.putfield 22) 3 := by decide +kernel
theorem sl_15 {Z : State} {az : Array Value} (hw : HW Z az) : Jvm.RoadKit.slotOf Z cPN "told" dC ≠ Jvm.RoadKit.slotOf Z cPN "derivations" dD := slot_ne (Z := Z) (Or.inr (w127 hw)) (Or.inr (w123 hw)) (by decide) (t := (.object cTC)) (t' := (.object cDV)) (by decide) (by decide)
theorem d10_26 : dc kB24 26 (.aload_n 0) 1 := by decide +kernel
theorem d10_27 : dc kB24 27 (.new 26) 3 := by decide +kernel
theorem d10_30 : dc kB24 30 .dup 1 := by decide +kernel
theorem d10_31 : dc kB24 31 (.invokespecial 28) 3 := by decide +kernel
theorem d10_34 : dc kB24 34 (.putfield 29) 3 := by decide +kernel
theorem sl_16 {Z : State} {az : Array Value} (hw : HW Z az) : Jvm.RoadKit.slotOf Z cPN "indexes" "Ljava/util/Map;" ≠ Jvm.RoadKit.slotOf Z cPN "derivations" dD := slot_ne (Z := Z) (Or.inr (w145 hw)) (Or.inr (w123 hw)) (by decide) (t := (.object "java/util/Map")) (t' := (.object cDV)) (by decide) (by decide)
theorem sl_17 {Z : State} {az : Array Value} (hw : HW Z az) : Jvm.RoadKit.slotOf Z cPN "indexes" "Ljava/util/Map;" ≠ Jvm.RoadKit.slotOf Z cPN "told" dC := slot_ne (Z := Z) (Or.inr (w145 hw)) (Or.inr (w127 hw)) (by decide) (t := (.object "java/util/Map")) (t' := (.object cTC)) (by decide) (by decide)
theorem d10_37 : dc kB24 37 (.aload_n 0) 1 := by decide +kernel
theorem d10_38 : dc kB24 38 (.aload_n 1) 1 := by decide +kernel
theorem d10_39 : dc kB24 39 (.putfield 33) 3 := by decide +kernel
theorem sl_18 {Z : State} {az : Array Value} (hw : HW Z az) : Jvm.RoadKit.slotOf Z cPN "fixpoint" dF ≠ Jvm.RoadKit.slotOf Z cPN "derivations" dD := slot_ne (Z := Z) (Or.inr (w147 hw)) (Or.inr (w123 hw)) (by decide) (t := (.object "com/example/reteweave/reteweave/network/Fixpoint")) (t' := (.object cDV)) (by decide) (by decide)
theorem sl_19 {Z : State} {az : Array Value} (hw : HW Z az) : Jvm.RoadKit.slotOf Z cPN "fixpoint" dF ≠ Jvm.RoadKit.slotOf Z cPN "told" dC := slot_ne (Z := Z) (Or.inr (w147 hw)) (Or.inr (w127 hw)) (by decide) (t := (.object "com/example/reteweave/reteweave/network/Fixpoint")) (t' := (.object cTC)) (by decide) (by decide)
theorem sl_20 {Z : State} {az : Array Value} (hw : HW Z az) : Jvm.RoadKit.slotOf Z cPN "fixpoint" dF ≠ Jvm.RoadKit.slotOf Z cPN "indexes" "Ljava/util/Map;" := slot_ne (Z := Z) (Or.inr (w147 hw)) (Or.inr (w145 hw)) (by decide) (t := (.object "com/example/reteweave/reteweave/network/Fixpoint")) (t' := (.object "java/util/Map")) (by decide) (by decide)
theorem d10_42 : dc kB24 42 .return_ 1 := by decide +kernel
theorem sl_21 {Z : State} {az : Array Value} (hw : HW Z az) : Jvm.RoadKit.slotOf Z cND "readers" "Ljava/util/List;" ≠ Jvm.RoadKit.slotOf Z cPN "derivations" dD := slot_ne (Z := Z) (Or.inr (w94 hw)) (Or.inr (w123 hw)) (by decide) (t := (.object "java/util/List")) (t' := (.object cDV)) (by decide) (by decide)
theorem sl_22 {Z : State} {az : Array Value} (hw : HW Z az) : Jvm.RoadKit.slotOf Z cND "readers" "Ljava/util/List;" ≠ Jvm.RoadKit.slotOf Z cPN "told" dC := slot_ne (Z := Z) (Or.inr (w94 hw)) (Or.inr (w127 hw)) (by decide) (t := (.object "java/util/List")) (t' := (.object cTC)) (by decide) (by decide)
theorem sl_23 {Z : State} {az : Array Value} (hw : HW Z az) : Jvm.RoadKit.slotOf Z cND "readers" "Ljava/util/List;" ≠ Jvm.RoadKit.slotOf Z cPN "indexes" "Ljava/util/Map;" := slot_ne (Z := Z) (Or.inr (w94 hw)) (Or.inr (w145 hw)) (by decide) (t := (.object "java/util/List")) (t' := (.object "java/util/Map")) (by decide) (by decide)
theorem sl_24 {Z : State} {az : Array Value} (hw : HW Z az) : Jvm.RoadKit.slotOf Z cND "readers" "Ljava/util/List;" ≠ Jvm.RoadKit.slotOf Z cPN "fixpoint" dF := slot_ne (Z := Z) (Or.inr (w94 hw)) (Or.inr (w147 hw)) (by decide) (t := (.object "java/util/List")) (t' := (.object "com/example/reteweave/reteweave/network/Fixpoint")) (by decide) (by decide)
theorem sl_25 {Z : State} {az : Array Value} (hw : HW Z az) : Jvm.RoadKit.slotOf Z cPN "derivations" dD ≠ Jvm.RoadKit.slotOf Z cPN "told" dC := slot_ne (Z := Z) (Or.inr (w123 hw)) (Or.inr (w127 hw)) (by decide) (t := (.object cDV)) (t' := (.object cTC)) (by decide) (by decide)
theorem sl_26 {Z : State} {az : Array Value} (hw : HW Z az) : Jvm.RoadKit.slotOf Z cPN "derivations" dD ≠ Jvm.RoadKit.slotOf Z cPN "indexes" "Ljava/util/Map;" := slot_ne (Z := Z) (Or.inr (w123 hw)) (Or.inr (w145 hw)) (by decide) (t := (.object cDV)) (t' := (.object "java/util/Map")) (by decide) (by decide)
theorem sl_27 {Z : State} {az : Array Value} (hw : HW Z az) : Jvm.RoadKit.slotOf Z cPN "derivations" dD ≠ Jvm.RoadKit.slotOf Z cPN "fixpoint" dF := slot_ne (Z := Z) (Or.inr (w123 hw)) (Or.inr (w147 hw)) (by decide) (t := (.object cDV)) (t' := (.object "com/example/reteweave/reteweave/network/Fixpoint")) (by decide) (by decide)
theorem sl_28 {Z : State} {az : Array Value} (hw : HW Z az) : Jvm.RoadKit.slotOf Z cPN "told" dC ≠ Jvm.RoadKit.slotOf Z cPN "indexes" "Ljava/util/Map;" := slot_ne (Z := Z) (Or.inr (w127 hw)) (Or.inr (w145 hw)) (by decide) (t := (.object cTC)) (t' := (.object "java/util/Map")) (by decide) (by decide)
theorem sl_29 {Z : State} {az : Array Value} (hw : HW Z az) : Jvm.RoadKit.slotOf Z cPN "told" dC ≠ Jvm.RoadKit.slotOf Z cPN "fixpoint" dF := slot_ne (Z := Z) (Or.inr (w127 hw)) (Or.inr (w147 hw)) (by decide) (t := (.object cTC)) (t' := (.object "com/example/reteweave/reteweave/network/Fixpoint")) (by decide) (by decide)
theorem sl_30 {Z : State} {az : Array Value} (hw : HW Z az) : Jvm.RoadKit.slotOf Z cPN "indexes" "Ljava/util/Map;" ≠ Jvm.RoadKit.slotOf Z cPN "fixpoint" dF := slot_ne (Z := Z) (Or.inr (w145 hw)) (Or.inr (w147 hw)) (by decide) (t := (.object "java/util/Map")) (t' := (.object "com/example/reteweave/reteweave/network/Fixpoint")) (by decide) (by decide)
theorem pn_com_example_reteweave_reteweave_network_ProductionNode : plainName "com/example/reteweave/reteweave/network/ProductionNode" = true := by first | (simp [plainName, overriddenIn]; done) | decide +kernel
theorem ef_rm10 (m : MethodId) (a0 : Addr) : entryFrame m #[(.ref a0), .null] 2 = mkF m 0 #[vR a0, .val .null] [] := by first | (simp [entryFrame, mkF, argsToLocals, Value.category]; done) | rfl
def Q10 (Z : State) (a0 eD : Addr) (h0 : Heap) (n0 : Nat) (v : Option Value) (h : Heap) (L : List Loc) : Prop := ∃ r0 : Addr, ∃ r1 : Addr, ∃ r2 : Addr, ∃ r3 : Addr, ∃ r4 : Addr, ∃ r5 : Addr, ∃ r6 : Addr, ∃ r7 : Addr, ∃ r8 : Addr, ∃ rk0 : ClassId, ∃ rk1 : ClassId, ∃ rk2 : ClassId, ∃ rk3 : ClassId, v = none ∧ Fr n0 L ∧ h0.size ≤ r0 ∧ r0 < r1 ∧ r1 < r2 ∧ r2 < r3 ∧ r3 < r4 ∧ r4 < r5 ∧ r5 < r6 ∧ r6 < r7 ∧ r7 < r8 ∧ Keep h0 h [a0] ∧ Exa Z h a0 cPN ∧ Fld Z h a0 cND "readers" "Ljava/util/List;" (.ref r0) ∧ Fld Z h a0 cPN "derivations" dD (.ref r1) ∧ Fld Z h a0 cPN "told" dC (.ref r5) ∧ Fld Z h a0 cPN "indexes" "Ljava/util/Map;" (.ref r8) ∧ Fld Z h a0 cPN "fixpoint" dF .null ∧ Exa Z h r0 cAL ∧ Fld Z h r0 "java/util/AbstractList" "modCount" "I" (.int (0 : Int32)) ∧ Fld Z h r0 cAL "elementData" cOA (.ref eD) ∧ Fld Z h r0 cAL "size" "I" (.int (0 : Int32)) ∧ Exa Z h r1 cDV ∧ Fld Z h r1 cDV "counts" dC (.ref r2) ∧ Exa Z h r2 cTC ∧ Fld Z h r2 cSL "held" cOA (.ref r3) ∧ Fld Z h r2 cSL "hashesAndCounts" "[J" (.ref r4) ∧ Fld Z h r2 cSL "size" "I" (.int (0 : Int32)) ∧ Exa Z h r3 cOA ∧ own_Arf Z h r3 rk0 (.object "java/lang/Object") (4 : Int32) (fun _ => .null) ∧ Exa Z h r4 "[J" ∧ own_Arf Z h r4 rk1 .long (4 : Int32) (fun _ => (.long (0 : Int64))) ∧ Exa Z h r5 cTC ∧ Fld Z h r5 cSL "held" cOA (.ref r6) ∧ Fld Z h r5 cSL "hashesAndCounts" "[J" (.ref r7) ∧ Fld Z h r5 cSL "size" "I" (.int (0 : Int32)) ∧ Exa Z h r6 cOA ∧ own_Arf Z h r6 rk2 (.object "java/lang/Object") (4 : Int32) (fun _ => .null) ∧ Exa Z h r7 "[J" ∧ own_Arf Z h r7 rk3 .long (4 : Int32) (fun _ => (.long (0 : Int64))) ∧ Exa Z h r8 cHM ∧ Fld Z h r8 cHM "loadFactor" "F" (.float (1061158912 : UInt32)) ∧ Fld Z h r8 cHM "size" "I" (.int (0 : Int32)) ∧ Ovr Z rk0 "java/lang/Object" ∧ Ovr Z rk2 "java/lang/Object"
theorem rm10 (l : Launch) (Z : State) (az : Array Value) (hw : HW Z az) (ws : List Jvm.Cond) (a0 eD : Addr) (h0 : Heap) (n0 : Nat) (Z0 : n0 ≤ h0.size) (E_a0 : Exa Z h0 a0 cPN) (F_readers_a0 : Fld Z h0 a0 cND "readers" "Ljava/util/List;" .null) (F_derivations_a0 : Fld Z h0 a0 cPN "derivations" dD .null) (F_told_a0 : Fld Z h0 a0 cPN "told" dC .null) (F_indexes_a0 : Fld Z h0 a0 cPN "indexes" "Ljava/util/Map;" .null) (F_fixpoint_a0 : Fld Z h0 a0 cPN "fixpoint" dF .null) (S_DEFAULTCAPACITY_EMPTY_ELEMENTDATA : Sta Z h0 cAL "DEFAULTCAPACITY_EMPTY_ELEMENTDATA" cOA (.ref eD)) (g_a0 : n0 ≤ a0) :
    MF l Z h0 ws ⟨cPN, "<init>", "(Lcom/example/reteweave/reteweave/network/Fixpoint;)V"⟩ kB24 2 none ⟨5, 9, 34, 62⟩ #[(.ref a0), .null] (Q10 Z a0 eD h0 n0) := by
  refine own_body cPN n0 rfl (plainFor_of_name pn_com_example_reteweave_reteweave_network_ProductionNode) (fun m => ef_rm10 m a0) ?_
  intro p e s m below meth c s₁ Bd hx hby hml hown hZ X0 e0 N0 pre0
  have hnm := (name_of_methodNamed Bd.named Bd.method).1
  obtain ⟨_, _, ⟨T1, L1, k1', n1'⟩, -, X1, ⟨Lc1, hQ1, l1, y1, z1⟩, st1⟩ := X0.specialBack hx (y := ⟨cND, "<init>", "()V"⟩) rfl hown (mvT hZ (w63 hw)) (mvT hZ (w64 hw)) (mvT hZ (w67 hw)) (by decide) (backOf (W := 0) (rm11 l Z az hw [] a0 eD h0 n0 Z0 E_a0 F_readers_a0 F_derivations_a0 F_told_a0 F_indexes_a0 F_fixpoint_a0 S_DEFAULTCAPACITY_EMPTY_ELEMENTDATA g_a0) hZ (w67 hw) (w66 hw) (by decide) (by decide)) (g := (mkF m 1 #[vR a0, .val .null] [(.ref a0)])) rfl (by rw [hml]; rfl) (Steps.refl _) (a := a0) (argsL := []) (rest := []) (lenOf pd_0 rfl) rfl (Nat.le_of_eq rfl) (hb hby d10_1) (fun _ _ => ⟨rfl, e0, (own_nle rfl), (own_nle rfl)⟩)
  dsimp only [Pt.U, Pt.locs, Pt.cells, Pt.slots] at X1 l1 y1 z1 st1 hQ1
  subst l1 y1 z1
  obtain ⟨b1_0, rfl, N1q, s1_0, kq1, pf1_0, pf1_1, pf1_2, pf1_3, pf1_4, pf1_5, pf1_6, pf1_7, pf1_8, pf1_9⟩ := hQ1
  obtain ⟨Lg1, X1', N1⟩ := own_gen X1 (Fr.app N0 N1q)
  have g_b1_0 : n0 ≤ b1_0 := Nat.le_trans Z0 s1_0
  have sz_b1_0 : h0.size ≤ b1_0 := Nat.le_trans (Nat.le_refl _) s1_0
  have K1 : Keep h0 T1.heap [a0] := (Keep.refl h0 [a0]).trans kq1 (allS (Or.inl (mg 0 rfl)) all0)
  have Z1 : n0 ≤ T1.heap.size := Nat.le_trans Z0 kq1.1
  obtain ⟨T2, h2, X2, e2, E2, A2, D2, -, st2⟩ := newO X1' hx hZ hown (w95 hw) (w96 hw) (w97 hw) rfl (g := (mkF m 5 #[vR a0, .val .null] [(.ref a0)])) rfl (hb hby d10_5) (by decide) (by decide)
  obtain ⟨b2, g2⟩ : ∃ z, z = T1.heap.size := ⟨_, rfl⟩
  rw [← g2] at A2 D2 st2
  have g_b2 : n0 ≤ b2 := Nat.le_trans Z1 (Nat.le_of_eq g2.symm)
  have sz_b2 : h0.size ≤ b2 := Nat.le_trans K1.1 (Nat.le_of_eq g2.symm)
  have Z2 : n0 ≤ h2.size := Nat.le_trans Z1 E2.1
  have K2 : Keep h0 h2 [a0] := K1.ext E2
  have E_b2 := A2
  have F_counts_b2 : Fld Z h2 b2 cDV "counts" dC .null := D2 (Or.inr (w121 hw)) (ty := (.object cTC)) (by decide)
  obtain ⟨_, _, ⟨T3, L3, k3', n3'⟩, -, X3, ⟨Lc3, hQ3, l3, y3, z3⟩, st3⟩ := X2.specialBack hx (y := ⟨cDV, "<init>", "()V"⟩) rfl hown (mvT hZ (w98 hw)) (mvT hZ (w99 hw)) (mvT hZ (w100 hw)) (by decide) (backOf (W := 2) (rm15 l Z az hw [] b2 h2 n0 Z2 E_b2 F_counts_b2 g_b2) hZ (w100 hw) (w97 hw) (by decide) (by decide)) (g := (mkF m 9 #[vR a0, .val .null] [(.ref b2), (.ref b2), (.ref a0)])) rfl (by rw [hml]; rfl) (Steps.refl _) (a := b2) (argsL := []) (rest := [(.ref b2), (.ref a0)]) (lenOf pd_0 rfl) rfl (Nat.le_of_eq rfl) (hb hby d10_9) (fun _ _ => ⟨rfl, e2, (own_nle rfl), (own_nle rfl)⟩)
  dsimp only [Pt.U, Pt.locs, Pt.cells, Pt.slots] at X3 l3 y3 z3 st3 hQ3
  subst l3 y3 z3
  obtain ⟨b3_0, b3_1, b3_2, kk3_0, kk3_1, rfl, N3q, s3_0, lt_b3_0_b3_1, lt_b3_1_b3_2, kq3, pf3_0, pf3_1, pf3_2, pf3_3, pf3_4, pf3_5, pf3_6, pf3_7, pf3_8, pf3_9, pf3_10⟩ := hQ3
  obtain ⟨Lg3, X3', N3⟩ := own_gen X3 (Fr.app N1 N3q)
  have g_b3_0 : n0 ≤ b3_0 := Nat.le_trans Z2 s3_0
  have sz_b3_0 : h0.size ≤ b3_0 := Nat.le_trans K2.1 s3_0
  have g_b3_1 : n0 ≤ b3_1 := Nat.le_trans Z2 (Nat.le_trans s3_0 (Nat.le_of_lt lt_b3_0_b3_1))
  have sz_b3_1 : h0.size ≤ b3_1 := Nat.le_trans K2.1 (Nat.le_trans s3_0 (Nat.le_of_lt lt_b3_0_b3_1))
  have g_b3_2 : n0 ≤ b3_2 := Nat.le_trans Z2 (Nat.le_trans s3_0 (Nat.le_of_lt (Nat.lt_trans lt_b3_0_b3_1 lt_b3_1_b3_2)))
  have sz_b3_2 : h0.size ≤ b3_2 := Nat.le_trans K2.1 (Nat.le_trans s3_0 (Nat.le_of_lt (Nat.lt_trans lt_b3_0_b3_1 lt_b3_1_b3_2)))
  have K3 : Keep h0 T3.heap [a0] := K2.trans kq3 (allS (Or.inr sz_b2) all0)
  have Z3 : n0 ≤ T3.heap.size := Nat.le_trans Z2 kq3.1
  have ne_a0_b2 : a0 ≠ b2 := own_ne (Nat.lt_of_lt_of_le pf1_0.lt (Nat.le_of_eq g2.symm))
  have F_a0_derivations_u4 : Fld Z T3.heap a0 cPN "derivations" dD .null := ((pf1_2.ext E2).keep kq3 (ninS ne_a0_b2 nin0))
  have E_a0_u5 : Exa Z T3.heap a0 cPN := ((pf1_0.ext E2).keep kq3)
  obtain ⟨T6, h6, X6, e6, W6, st6⟩ := putF X3' hx hZ hown (host := "") (Or.inl (w122 hw)) Via.refl rfl F_a0_derivations_u4 E_a0_u5 (Or.inr ⟨(w123 hw), rfl, hnm⟩) (w55 hw) (ty := (.object cDV)) (by decide) rfl rfl (g := (mkF m 12 #[vR a0, .val .null] [(.ref b2), (.ref a0)])) rfl rfl (hb hby d10_12)
  have K6 : Keep h0 h6 [a0] := K3.wr W6 (Or.inl (mg 0 rfl))
  have Fw6 := F_a0_derivations_u4.same W6
  have Z6 : n0 ≤ h6.size := Nat.le_trans Z3 (Keep.of_wr W6).1
  obtain ⟨Lg6, X6', N6⟩ := own_gen X6 (Fr.snoc X6 N3 g_a0)
  obtain ⟨T7, h7, X7, e7, E7, A7, D7, -, st7⟩ := newO X6' hx hZ hown (w124 hw) (w103 hw) (w104 hw) e6 (g := (mkF m 16 #[vR a0, .val .null] [(.ref a0)])) rfl (hb hby d10_16) (by decide) (by decide)
  obtain ⟨b7, g7⟩ : ∃ z, z = h6.size := ⟨_, rfl⟩
  rw [← g7] at A7 D7 st7
  have g_b7 : n0 ≤ b7 := Nat.le_trans Z6 (Nat.le_of_eq g7.symm)
  have sz_b7 : h0.size ≤ b7 := Nat.le_trans K6.1 (Nat.le_of_eq g7.symm)
  have Z7 : n0 ≤ h7.size := Nat.le_trans Z6 E7.1
  have K7 : Keep h0 h7 [a0] := K6.ext E7
  have E_b7 := A7
  have F_held_b7 : Fld Z h7 b7 cSL "held" cOA .null := D7 (Or.inl (w116 hw)) (ty := (.array (.object "java/lang/Object"))) (by decide)
  have F_hashesAndCounts_b7 : Fld Z h7 b7 cSL "hashesAndCounts" "[J" .null := D7 (Or.inl (w119 hw)) (ty := (.array .long)) (by decide)
  have F_size_b7 : Fld Z h7 b7 cSL "size" "I" (.int (0 : Int32)) := D7 (Or.inl (w234 hw)) (ty := .int) (by decide)
  obtain ⟨_, _, ⟨T8, L8, k8', n8'⟩, -, X8, ⟨Lc8, hQ8, l8, y8, z8⟩, st8⟩ := X7.specialBack hx (y := ⟨cTC, "<init>", "()V"⟩) rfl hown (mvT hZ (w125 hw)) (mvT hZ (w106 hw)) (mvT hZ (w107 hw)) (by decide) (backOf (W := 2) (rm16 l Z az hw [] b7 h7 n0 Z7 E_b7 F_held_b7 F_hashesAndCounts_b7 F_size_b7 g_b7) hZ (w107 hw) (w104 hw) (by decide) (by decide)) (g := (mkF m 20 #[vR a0, .val .null] [(.ref b7), (.ref b7), (.ref a0)])) rfl (by rw [hml]; rfl) (Steps.refl _) (a := b7) (argsL := []) (rest := [(.ref b7), (.ref a0)]) (lenOf pd_0 rfl) rfl (Nat.le_of_eq rfl) (hb hby d10_20) (fun _ _ => ⟨rfl, e7, (own_nle rfl), (own_nle rfl)⟩)
  dsimp only [Pt.U, Pt.locs, Pt.cells, Pt.slots] at X8 l8 y8 z8 st8 hQ8
  subst l8 y8 z8
  obtain ⟨b8_0, b8_1, kk8_0, kk8_1, rfl, N8q, s8_0, lt_b8_0_b8_1, kq8, pf8_0, pf8_1, pf8_2, pf8_3, pf8_4, pf8_5, pf8_6, pf8_7, pf8_8⟩ := hQ8
  obtain ⟨Lg8, X8', N8⟩ := own_gen X8 (Fr.app N6 N8q)
  have g_b8_0 : n0 ≤ b8_0 := Nat.le_trans Z7 s8_0
  have sz_b8_0 : h0.size ≤ b8_0 := Nat.le_trans K7.1 s8_0
  have g_b8_1 : n0 ≤ b8_1 := Nat.le_trans Z7 (Nat.le_trans s8_0 (Nat.le_of_lt lt_b8_0_b8_1))
  have sz_b8_1 : h0.size ≤ b8_1 := Nat.le_trans K7.1 (Nat.le_trans s8_0 (Nat.le_of_lt lt_b8_0_b8_1))
  have K8 : Keep h0 T8.heap [a0] := K7.trans kq8 (allS (Or.inr sz_b7) all0)
  have Z8 : n0 ≤ T8.heap.size := Nat.le_trans Z7 kq8.1
  have c9 : Fld Z h6 a0 cPN "told" dC .null := (((pf1_3.ext E2).keep kq3 (ninS ne_a0_b2 nin0)).other W6 (Or.inr (sl_15 hw)))
  have ne_a0_b7 : a0 ≠ b7 := own_ne (Nat.lt_of_lt_of_le (E_a0_u5.wr W6).lt (Nat.le_of_eq g7.symm))
  have F_a0_told_u10 : Fld Z T8.heap a0 cPN "told" dC .null := ((c9.ext E7).keep kq8 (ninS ne_a0_b7 nin0))
  have E_a0_u11 : Exa Z T8.heap a0 cPN := (((E_a0_u5.wr W6).ext E7).keep kq8)
  obtain ⟨T12, h12, X12, e12, W12, st12⟩ := putF X8' hx hZ hown (host := "") (Or.inl (w126 hw)) Via.refl rfl F_a0_told_u10 E_a0_u11 (Or.inr ⟨(w127 hw), rfl, hnm⟩) (w55 hw) (ty := (.object cTC)) (by decide) rfl rfl (g := (mkF m 23 #[vR a0, .val .null] [(.ref b7), (.ref a0)])) rfl rfl (hb hby d10_23)
  have K12 : Keep h0 h12 [a0] := K8.wr W12 (Or.inl (mg 0 rfl))
  have Fw12 := F_a0_told_u10.same W12
  have Z12 : n0 ≤ h12.size := Nat.le_trans Z8 (Keep.of_wr W12).1
  obtain ⟨Lg12, X12', N12⟩ := own_gen X12 (Fr.snoc X12 N8 g_a0)
  obtain ⟨T13, h13, X13, e13, E13, A13, D13, -, st13⟩ := newO X12' hx hZ hown (w128 hw) (w129 hw) (w130 hw) e12 (g := (mkF m 27 #[vR a0, .val .null] [(.ref a0)])) rfl (hb hby d10_27) (by decide) (by decide)
  obtain ⟨b13, g13⟩ : ∃ z, z = h12.size := ⟨_, rfl⟩
  rw [← g13] at A13 D13 st13
  have g_b13 : n0 ≤ b13 := Nat.le_trans Z12 (Nat.le_of_eq g13.symm)
  have sz_b13 : h0.size ≤ b13 := Nat.le_trans K12.1 (Nat.le_of_eq g13.symm)
  have Z13 : n0 ≤ h13.size := Nat.le_trans Z12 E13.1
  have K13 : Keep h0 h13 [a0] := K12.ext E13
  have E_b13 := A13
  have F_loadFactor_b13 : Fld Z h13 b13 cHM "loadFactor" "F" (.float (0 : UInt32)) := D13 (Or.inr (w143 hw)) (ty := .float) (by decide)
  have F_size_b13 : Fld Z h13 b13 cHM "size" "I" (.int (0 : Int32)) := D13 (Or.inl (w271 hw)) (ty := .int) (by decide)
  obtain ⟨_, _, ⟨T14, L14, k14', n14'⟩, -, X14, ⟨Lc14, hQ14, l14, y14, z14⟩, st14⟩ := X13.specialBack hx (y := ⟨cHM, "<init>", "()V"⟩) rfl hown (mvT hZ (w131 hw)) (mvT hZ (w132 hw)) (mvT hZ (w133 hw)) (by decide) (backOf (W := 2) (rm18 l Z az hw [] b13 h13 n0 Z13 E_b13 F_loadFactor_b13 F_size_b13 g_b13) hZ (w133 hw) (w130 hw) (by decide) (by decide)) (g := (mkF m 31 #[vR a0, .val .null] [(.ref b13), (.ref b13), (.ref a0)])) rfl (by rw [hml]; rfl) (Steps.refl _) (a := b13) (argsL := []) (rest := [(.ref b13), (.ref a0)]) (lenOf pd_0 rfl) rfl (Nat.le_of_eq rfl) (hb hby d10_31) (fun _ _ => ⟨rfl, e13, (own_nle rfl), (own_nle rfl)⟩)
  dsimp only [Pt.U, Pt.locs, Pt.cells, Pt.slots] at X14 l14 y14 z14 st14 hQ14
  subst l14 y14 z14
  obtain ⟨rfl, N14q, kq14, pf14_0, pf14_1, pf14_2⟩ := hQ14
  obtain ⟨Lg14, X14', N14⟩ := own_gen X14 (Fr.app N12 N14q)
  have K14 : Keep h0 T14.heap [a0] := K13.trans kq14 (allS (Or.inr sz_b13) all0)
  have Z14 : n0 ≤ T14.heap.size := Nat.le_trans Z13 kq14.1
  have c15 : Fld Z h6 a0 cPN "indexes" "Ljava/util/Map;" .null := (((pf1_4.ext E2).keep kq3 (ninS ne_a0_b2 nin0)).other W6 (Or.inr (sl_16 hw)))
  have c16 : Fld Z h12 a0 cPN "indexes" "Ljava/util/Map;" .null := (((c15.ext E7).keep kq8 (ninS ne_a0_b7 nin0)).other W12 (Or.inr (sl_17 hw)))
  have ne_a0_b13 : a0 ≠ b13 := own_ne (Nat.lt_of_lt_of_le (E_a0_u11.wr W12).lt (Nat.le_of_eq g13.symm))
  have F_a0_indexes_u17 : Fld Z T14.heap a0 cPN "indexes" "Ljava/util/Map;" .null := ((c16.ext E13).keep kq14 (ninS ne_a0_b13 nin0))
  have E_a0_u18 : Exa Z T14.heap a0 cPN := (((E_a0_u11.wr W12).ext E13).keep kq14)
  obtain ⟨T19, h19, X19, e19, W19, st19⟩ := putF X14' hx hZ hown (host := "") (Or.inl (w144 hw)) Via.refl rfl F_a0_indexes_u17 E_a0_u18 (Or.inr ⟨(w145 hw), rfl, hnm⟩) (w55 hw) (ty := (.object "java/util/Map")) (by decide) rfl rfl (g := (mkF m 34 #[vR a0, .val .null] [(.ref b13), (.ref a0)])) rfl rfl (hb hby d10_34)
  have K19 : Keep h0 h19 [a0] := K14.wr W19 (Or.inl (mg 0 rfl))
  have Fw19 := F_a0_indexes_u17.same W19
  have Z19 : n0 ≤ h19.size := Nat.le_trans Z14 (Keep.of_wr W19).1
  obtain ⟨Lg19, X19', N19⟩ := own_gen X19 (Fr.snoc X19 N14 g_a0)
  have c20 : Fld Z h6 a0 cPN "fixpoint" dF .null := (((pf1_5.ext E2).keep kq3 (ninS ne_a0_b2 nin0)).other W6 (Or.inr (sl_18 hw)))
  have c21 : Fld Z h12 a0 cPN "fixpoint" dF .null := (((c20.ext E7).keep kq8 (ninS ne_a0_b7 nin0)).other W12 (Or.inr (sl_19 hw)))
  have F_a0_fixpoint_u22 : Fld Z h19 a0 cPN "fixpoint" dF .null := (((c21.ext E13).keep kq14 (ninS ne_a0_b13 nin0)).other W19 (Or.inr (sl_20 hw)))
  have E_a0_u23 : Exa Z h19 a0 cPN := (E_a0_u18.wr W19)
  obtain ⟨T24, h24, X24, e24, W24, st24⟩ := putF X19' hx hZ hown (host := "") (Or.inl (w146 hw)) Via.refl e19 F_a0_fixpoint_u22 E_a0_u23 (Or.inr ⟨(w147 hw), rfl, hnm⟩) (w55 hw) (ty := (.object "com/example/reteweave/reteweave/network/Fixpoint")) (by decide) rfl rfl (g := (mkF m 39 #[vR a0, .val .null] [.null, (.ref a0)])) rfl rfl (hb hby d10_39)
  have K24 : Keep h0 h24 [a0] := K19.wr W24 (Or.inl (mg 0 rfl))
  have Fw24 := F_a0_fixpoint_u22.same W24
  have Z24 : n0 ≤ h24.size := Nat.le_trans Z19 (Keep.of_wr W24).1
  obtain ⟨Lg24, X24', N24⟩ := own_gen X24 (Fr.snoc X24 N19 g_a0)
  have E_a0_u25 : Exa Z h24 a0 cPN := (E_a0_u23.wr W24)
  have c26 : Fld Z h6 a0 cND "readers" "Ljava/util/List;" (.ref b1_0) := (((pf1_1.ext E2).keep kq3 (ninS ne_a0_b2 nin0)).other W6 (Or.inr (sl_21 hw)))
  have c27 : Fld Z h12 a0 cND "readers" "Ljava/util/List;" (.ref b1_0) := (((c26.ext E7).keep kq8 (ninS ne_a0_b7 nin0)).other W12 (Or.inr (sl_22 hw)))
  have c28 : Fld Z h19 a0 cND "readers" "Ljava/util/List;" (.ref b1_0) := (((c27.ext E13).keep kq14 (ninS ne_a0_b13 nin0)).other W19 (Or.inr (sl_23 hw)))
  have F_a0_readers_u29 : Fld Z h24 a0 cND "readers" "Ljava/util/List;" (.ref b1_0) := (c28.other W24 (Or.inr (sl_24 hw)))
  have c30 : Fld Z h12 a0 cPN "derivations" dD (.ref b2) := (((Fw6.ext E7).keep kq8 (ninS ne_a0_b7 nin0)).other W12 (Or.inr (sl_25 hw)))
  have c31 : Fld Z h19 a0 cPN "derivations" dD (.ref b2) := (((c30.ext E13).keep kq14 (ninS ne_a0_b13 nin0)).other W19 (Or.inr (sl_26 hw)))
  have F_a0_derivations_u32 : Fld Z h24 a0 cPN "derivations" dD (.ref b2) := (c31.other W24 (Or.inr (sl_27 hw)))
  have c33 : Fld Z h19 a0 cPN "told" dC (.ref b7) := (((Fw12.ext E13).keep kq14 (ninS ne_a0_b13 nin0)).other W19 (Or.inr (sl_28 hw)))
  have F_a0_told_u34 : Fld Z h24 a0 cPN "told" dC (.ref b7) := (c33.other W24 (Or.inr (sl_29 hw)))
  have F_a0_indexes_u35 : Fld Z h24 a0 cPN "indexes" "Ljava/util/Map;" (.ref b13) := (Fw19.other W24 (Or.inr (sl_30 hw)))
  have c36 : Exa Z h6 b1_0 cAL := (((pf1_6.ext E2).keep kq3).wr W6)
  have c37 : Exa Z h12 b1_0 cAL := (((c36.ext E7).keep kq8).wr W12)
  have c38 : Exa Z h19 b1_0 cAL := (((c37.ext E13).keep kq14).wr W19)
  have E_b1_0_u39 : Exa Z h24 b1_0 cAL := (c38.wr W24)
  have ne_b1_0_b2 : b1_0 ≠ b2 := own_ne (Nat.lt_of_lt_of_le pf1_6.lt (Nat.le_of_eq g2.symm))
  have ne_a0_b1_0 : a0 ≠ b1_0 := own_ne (Nat.lt_of_lt_of_le E_a0.lt s1_0)
  have c40 : Fld Z h6 b1_0 "java/util/AbstractList" "modCount" "I" (.int (0 : Int32)) := (((pf1_7.ext E2).keep kq3 (ninS ne_b1_0_b2 nin0)).other W6 (Or.inl (Ne.symm ne_a0_b1_0)))
  have ne_b1_0_b7 : b1_0 ≠ b7 := own_ne (Nat.lt_of_lt_of_le c36.lt (Nat.le_of_eq g7.symm))
  have c41 : Fld Z h12 b1_0 "java/util/AbstractList" "modCount" "I" (.int (0 : Int32)) := (((c40.ext E7).keep kq8 (ninS ne_b1_0_b7 nin0)).other W12 (Or.inl (Ne.symm ne_a0_b1_0)))
  have ne_b1_0_b13 : b1_0 ≠ b13 := own_ne (Nat.lt_of_lt_of_le c37.lt (Nat.le_of_eq g13.symm))
  have c42 : Fld Z h19 b1_0 "java/util/AbstractList" "modCount" "I" (.int (0 : Int32)) := (((c41.ext E13).keep kq14 (ninS ne_b1_0_b13 nin0)).other W19 (Or.inl (Ne.symm ne_a0_b1_0)))
  have F_b1_0_modCount_u43 : Fld Z h24 b1_0 "java/util/AbstractList" "modCount" "I" (.int (0 : Int32)) := (c42.other W24 (Or.inl (Ne.symm ne_a0_b1_0)))
  have c44 : Fld Z h6 b1_0 cAL "elementData" cOA (.ref eD) := (((pf1_8.ext E2).keep kq3 (ninS ne_b1_0_b2 nin0)).other W6 (Or.inl (Ne.symm ne_a0_b1_0)))
  have c45 : Fld Z h12 b1_0 cAL "elementData" cOA (.ref eD) := (((c44.ext E7).keep kq8 (ninS ne_b1_0_b7 nin0)).other W12 (Or.inl (Ne.symm ne_a0_b1_0)))
  have c46 : Fld Z h19 b1_0 cAL "elementData" cOA (.ref eD) := (((c45.ext E13).keep kq14 (ninS ne_b1_0_b13 nin0)).other W19 (Or.inl (Ne.symm ne_a0_b1_0)))
  have F_b1_0_elementData_u47 : Fld Z h24 b1_0 cAL "elementData" cOA (.ref eD) := (c46.other W24 (Or.inl (Ne.symm ne_a0_b1_0)))
  have c48 : Fld Z h6 b1_0 cAL "size" "I" (.int (0 : Int32)) := (((pf1_9.ext E2).keep kq3 (ninS ne_b1_0_b2 nin0)).other W6 (Or.inl (Ne.symm ne_a0_b1_0)))
  have c49 : Fld Z h12 b1_0 cAL "size" "I" (.int (0 : Int32)) := (((c48.ext E7).keep kq8 (ninS ne_b1_0_b7 nin0)).other W12 (Or.inl (Ne.symm ne_a0_b1_0)))
  have c50 : Fld Z h19 b1_0 cAL "size" "I" (.int (0 : Int32)) := (((c49.ext E13).keep kq14 (ninS ne_b1_0_b13 nin0)).other W19 (Or.inl (Ne.symm ne_a0_b1_0)))
  have F_b1_0_size_u51 : Fld Z h24 b1_0 cAL "size" "I" (.int (0 : Int32)) := (c50.other W24 (Or.inl (Ne.symm ne_a0_b1_0)))
  have c52 : Exa Z T8.heap b2 cDV := (((pf3_0.wr W6).ext E7).keep kq8)
  have c53 : Exa Z T14.heap b2 cDV := (((c52.wr W12).ext E13).keep kq14)
  have E_b2_u54 : Exa Z h24 b2 cDV := ((c53.wr W19).wr W24)
  have ne_b2_b7 : b2 ≠ b7 := own_ne (Nat.lt_of_lt_of_le (pf3_0.wr W6).lt (Nat.le_of_eq g7.symm))
  have c55 : Fld Z T8.heap b2 cDV "counts" dC (.ref b3_0) := (((pf3_1.other W6 (Or.inl (Ne.symm ne_a0_b2))).ext E7).keep kq8 (ninS ne_b2_b7 nin0))
  have ne_b2_b13 : b2 ≠ b13 := own_ne (Nat.lt_of_lt_of_le (c52.wr W12).lt (Nat.le_of_eq g13.symm))
  have c56 : Fld Z T14.heap b2 cDV "counts" dC (.ref b3_0) := (((c55.other W12 (Or.inl (Ne.symm ne_a0_b2))).ext E13).keep kq14 (ninS ne_b2_b13 nin0))
  have F_b2_counts_u57 : Fld Z h24 b2 cDV "counts" dC (.ref b3_0) := ((c56.other W19 (Or.inl (Ne.symm ne_a0_b2))).other W24 (Or.inl (Ne.symm ne_a0_b2)))
  have c58 : Exa Z T8.heap b3_0 cTC := (((pf3_2.wr W6).ext E7).keep kq8)
  have c59 : Exa Z T14.heap b3_0 cTC := (((c58.wr W12).ext E13).keep kq14)
  have E_b3_0_u60 : Exa Z h24 b3_0 cTC := ((c59.wr W19).wr W24)
  have ne_a0_b3_0 : a0 ≠ b3_0 := own_ne (Nat.lt_of_lt_of_le (pf1_0.ext E2).lt s3_0)
  have ne_b3_0_b7 : b3_0 ≠ b7 := own_ne (Nat.lt_of_lt_of_le (pf3_2.wr W6).lt (Nat.le_of_eq g7.symm))
  have c61 : Fld Z T8.heap b3_0 cSL "held" cOA (.ref b3_1) := (((pf3_3.other W6 (Or.inl (Ne.symm ne_a0_b3_0))).ext E7).keep kq8 (ninS ne_b3_0_b7 nin0))
  have ne_b3_0_b13 : b3_0 ≠ b13 := own_ne (Nat.lt_of_lt_of_le (c58.wr W12).lt (Nat.le_of_eq g13.symm))
  have c62 : Fld Z T14.heap b3_0 cSL "held" cOA (.ref b3_1) := (((c61.other W12 (Or.inl (Ne.symm ne_a0_b3_0))).ext E13).keep kq14 (ninS ne_b3_0_b13 nin0))
  have F_b3_0_held_u63 : Fld Z h24 b3_0 cSL "held" cOA (.ref b3_1) := ((c62.other W19 (Or.inl (Ne.symm ne_a0_b3_0))).other W24 (Or.inl (Ne.symm ne_a0_b3_0)))
  have c64 : Fld Z T8.heap b3_0 cSL "hashesAndCounts" "[J" (.ref b3_2) := (((pf3_4.other W6 (Or.inl (Ne.symm ne_a0_b3_0))).ext E7).keep kq8 (ninS ne_b3_0_b7 nin0))
  have c65 : Fld Z T14.heap b3_0 cSL "hashesAndCounts" "[J" (.ref b3_2) := (((c64.other W12 (Or.inl (Ne.symm ne_a0_b3_0))).ext E13).keep kq14 (ninS ne_b3_0_b13 nin0))
  have F_b3_0_hashesAndCounts_u66 : Fld Z h24 b3_0 cSL "hashesAndCounts" "[J" (.ref b3_2) := ((c65.other W19 (Or.inl (Ne.symm ne_a0_b3_0))).other W24 (Or.inl (Ne.symm ne_a0_b3_0)))
  have c67 : Fld Z T8.heap b3_0 cSL "size" "I" (.int (0 : Int32)) := (((pf3_5.other W6 (Or.inl (Ne.symm ne_a0_b3_0))).ext E7).keep kq8 (ninS ne_b3_0_b7 nin0))
  have c68 : Fld Z T14.heap b3_0 cSL "size" "I" (.int (0 : Int32)) := (((c67.other W12 (Or.inl (Ne.symm ne_a0_b3_0))).ext E13).keep kq14 (ninS ne_b3_0_b13 nin0))
  have F_b3_0_size_u69 : Fld Z h24 b3_0 cSL "size" "I" (.int (0 : Int32)) := ((c68.other W19 (Or.inl (Ne.symm ne_a0_b3_0))).other W24 (Or.inl (Ne.symm ne_a0_b3_0)))
  have c70 : Exa Z T8.heap b3_1 cOA := (((pf3_6.wr W6).ext E7).keep kq8)
  have c71 : Exa Z T14.heap b3_1 cOA := (((c70.wr W12).ext E13).keep kq14)
  have E_b3_1_u72 : Exa Z h24 b3_1 cOA := ((c71.wr W19).wr W24)
  have ne_a0_b3_1 : a0 ≠ b3_1 := own_ne (Nat.lt_of_lt_of_le (pf1_0.ext E2).lt (Nat.le_trans s3_0 (Nat.le_of_lt lt_b3_0_b3_1)))
  have ne_b3_1_b7 : b3_1 ≠ b7 := own_ne (Nat.lt_of_lt_of_le (pf3_6.wr W6).lt (Nat.le_of_eq g7.symm))
  have c73 : own_Arf Z T8.heap b3_1 kk3_0 (.object "java/lang/Object") (4 : Int32) (fun _ => .null) := (((pf3_7.other W6 (Ne.symm ne_a0_b3_1)).ext E7).keep kq8 (ninS ne_b3_1_b7 nin0))
  have ne_b3_1_b13 : b3_1 ≠ b13 := own_ne (Nat.lt_of_lt_of_le (c70.wr W12).lt (Nat.le_of_eq g13.symm))
  have c74 : own_Arf Z T14.heap b3_1 kk3_0 (.object "java/lang/Object") (4 : Int32) (fun _ => .null) := (((c73.other W12 (Ne.symm ne_a0_b3_1)).ext E13).keep kq14 (ninS ne_b3_1_b13 nin0))
  have V_b3_1_u75 : own_Arf Z h24 b3_1 kk3_0 (.object "java/lang/Object") (4 : Int32) (fun _ => .null) := ((c74.other W19 (Ne.symm ne_a0_b3_1)).other W24 (Ne.symm ne_a0_b3_1))
  have c76 : Exa Z T8.heap b3_2 "[J" := (((pf3_8.wr W6).ext E7).keep kq8)
  have c77 : Exa Z T14.heap b3_2 "[J" := (((c76.wr W12).ext E13).keep kq14)
  have E_b3_2_u78 : Exa Z h24 b3_2 "[J" := ((c77.wr W19).wr W24)
  have ne_a0_b3_2 : a0 ≠ b3_2 := own_ne (Nat.lt_of_lt_of_le (pf1_0.ext E2).lt (Nat.le_trans s3_0 (Nat.le_of_lt (Nat.lt_trans lt_b3_0_b3_1 lt_b3_1_b3_2))))
  have ne_b3_2_b7 : b3_2 ≠ b7 := own_ne (Nat.lt_of_lt_of_le (pf3_8.wr W6).lt (Nat.le_of_eq g7.symm))
  have c79 : own_Arf Z T8.heap b3_2 kk3_1 .long (4 : Int32) (fun _ => (.long (0 : Int64))) := (((pf3_9.other W6 (Ne.symm ne_a0_b3_2)).ext E7).keep kq8 (ninS ne_b3_2_b7 nin0))
  have ne_b3_2_b13 : b3_2 ≠ b13 := own_ne (Nat.lt_of_lt_of_le (c76.wr W12).lt (Nat.le_of_eq g13.symm))
  have c80 : own_Arf Z T14.heap b3_2 kk3_1 .long (4 : Int32) (fun _ => (.long (0 : Int64))) := (((c79.other W12 (Ne.symm ne_a0_b3_2)).ext E13).keep kq14 (ninS ne_b3_2_b13 nin0))
  have V_b3_2_u81 : own_Arf Z h24 b3_2 kk3_1 .long (4 : Int32) (fun _ => (.long (0 : Int64))) := ((c80.other W19 (Ne.symm ne_a0_b3_2)).other W24 (Ne.symm ne_a0_b3_2))
  have c82 : Exa Z T14.heap b7 cTC := (((pf8_0.wr W12).ext E13).keep kq14)
  have E_b7_u83 : Exa Z h24 b7 cTC := ((c82.wr W19).wr W24)
  have ne_b7_b13 : b7 ≠ b13 := own_ne (Nat.lt_of_lt_of_le (pf8_0.wr W12).lt (Nat.le_of_eq g13.symm))
  have c84 : Fld Z T14.heap b7 cSL "held" cOA (.ref b8_0) := (((pf8_1.other W12 (Or.inl (Ne.symm ne_a0_b7))).ext E13).keep kq14 (ninS ne_b7_b13 nin0))
  have F_b7_held_u85 : Fld Z h24 b7 cSL "held" cOA (.ref b8_0) := ((c84.other W19 (Or.inl (Ne.symm ne_a0_b7))).other W24 (Or.inl (Ne.symm ne_a0_b7)))
  have c86 : Fld Z T14.heap b7 cSL "hashesAndCounts" "[J" (.ref b8_1) := (((pf8_2.other W12 (Or.inl (Ne.symm ne_a0_b7))).ext E13).keep kq14 (ninS ne_b7_b13 nin0))
  have F_b7_hashesAndCounts_u87 : Fld Z h24 b7 cSL "hashesAndCounts" "[J" (.ref b8_1) := ((c86.other W19 (Or.inl (Ne.symm ne_a0_b7))).other W24 (Or.inl (Ne.symm ne_a0_b7)))
  have c88 : Fld Z T14.heap b7 cSL "size" "I" (.int (0 : Int32)) := (((pf8_3.other W12 (Or.inl (Ne.symm ne_a0_b7))).ext E13).keep kq14 (ninS ne_b7_b13 nin0))
  have F_b7_size_u89 : Fld Z h24 b7 cSL "size" "I" (.int (0 : Int32)) := ((c88.other W19 (Or.inl (Ne.symm ne_a0_b7))).other W24 (Or.inl (Ne.symm ne_a0_b7)))
  have c90 : Exa Z T14.heap b8_0 cOA := (((pf8_4.wr W12).ext E13).keep kq14)
  have E_b8_0_u91 : Exa Z h24 b8_0 cOA := ((c90.wr W19).wr W24)
  have ne_a0_b8_0 : a0 ≠ b8_0 := own_ne (Nat.lt_of_lt_of_le ((E_a0_u5.wr W6).ext E7).lt s8_0)
  have ne_b8_0_b13 : b8_0 ≠ b13 := own_ne (Nat.lt_of_lt_of_le (pf8_4.wr W12).lt (Nat.le_of_eq g13.symm))
  have c92 : own_Arf Z T14.heap b8_0 kk8_0 (.object "java/lang/Object") (4 : Int32) (fun _ => .null) := (((pf8_5.other W12 (Ne.symm ne_a0_b8_0)).ext E13).keep kq14 (ninS ne_b8_0_b13 nin0))
  have V_b8_0_u93 : own_Arf Z h24 b8_0 kk8_0 (.object "java/lang/Object") (4 : Int32) (fun _ => .null) := ((c92.other W19 (Ne.symm ne_a0_b8_0)).other W24 (Ne.symm ne_a0_b8_0))
  have c94 : Exa Z T14.heap b8_1 "[J" := (((pf8_6.wr W12).ext E13).keep kq14)
  have E_b8_1_u95 : Exa Z h24 b8_1 "[J" := ((c94.wr W19).wr W24)
  have ne_a0_b8_1 : a0 ≠ b8_1 := own_ne (Nat.lt_of_lt_of_le ((E_a0_u5.wr W6).ext E7).lt (Nat.le_trans s8_0 (Nat.le_of_lt lt_b8_0_b8_1)))
  have ne_b8_1_b13 : b8_1 ≠ b13 := own_ne (Nat.lt_of_lt_of_le (pf8_6.wr W12).lt (Nat.le_of_eq g13.symm))
  have c96 : own_Arf Z T14.heap b8_1 kk8_1 .long (4 : Int32) (fun _ => (.long (0 : Int64))) := (((pf8_7.other W12 (Ne.symm ne_a0_b8_1)).ext E13).keep kq14 (ninS ne_b8_1_b13 nin0))
  have V_b8_1_u97 : own_Arf Z h24 b8_1 kk8_1 .long (4 : Int32) (fun _ => (.long (0 : Int64))) := ((c96.other W19 (Ne.symm ne_a0_b8_1)).other W24 (Ne.symm ne_a0_b8_1))
  have E_b13_u98 : Exa Z h24 b13 cHM := ((pf14_0.wr W19).wr W24)
  have F_b13_loadFactor_u99 : Fld Z h24 b13 cHM "loadFactor" "F" (.float (1061158912 : UInt32)) := ((pf14_1.other W19 (Or.inl (Ne.symm ne_a0_b13))).other W24 (Or.inl (Ne.symm ne_a0_b13)))
  have F_b13_size_u100 : Fld Z h24 b13 cHM "size" "I" (.int (0 : Int32)) := ((pf14_2.other W19 (Or.inl (Ne.symm ne_a0_b13))).other W24 (Or.inl (Ne.symm ne_a0_b13)))
  obtain ⟨fs, hr, hrun, hended, hW, hsame⟩ := X24'.leave (v := none) (fun _ => rfl) Bd.notSynchronized
  refine ⟨_, _, pre0 _ ?_, hrun, hended, _, _, rfl, ?_, ⟨_, rfl⟩, hW, hsame.mono (by decide) (by decide)⟩
  · show SP p e below s₁ (mkF m 0 #[vR a0, .val .null] []) _
    refine XS.aloadN X0.here hx rfl (hb hby d10_0) rfl rfl ?_
    show SP p e below s₁ (mkF m 1 #[vR a0, .val .null] [(.ref a0)]) _
    refine st1.trans ?_
    show SP p e below T1 (mkF m 4 #[vR a0, .val .null] []) _
    refine XS.aloadN X1'.here hx rfl (hb hby d10_4) rfl rfl ?_
    show SP p e below T1 (mkF m 5 #[vR a0, .val .null] [(.ref a0)]) _
    refine st2 _ ?_
    show SP p e below T2 (mkF m 8 #[vR a0, .val .null] [(.ref b2), (.ref a0)]) _
    refine XS.dup X2.here hx rfl (hb hby d10_8) rfl rfl ?_
    show SP p e below T2 (mkF m 9 #[vR a0, .val .null] [(.ref b2), (.ref b2), (.ref a0)]) _
    refine st3.trans ?_
    show SP p e below T3 (mkF m 12 #[vR a0, .val .null] [(.ref b2), (.ref a0)]) _
    refine st6 _ ?_
    show SP p e below T6 (mkF m 15 #[vR a0, .val .null] []) _
    refine XS.aloadN X6'.here hx rfl (hb hby d10_15) rfl rfl ?_
    show SP p e below T6 (mkF m 16 #[vR a0, .val .null] [(.ref a0)]) _
    refine st7 _ ?_
    show SP p e below T7 (mkF m 19 #[vR a0, .val .null] [(.ref b7), (.ref a0)]) _
    refine XS.dup X7.here hx rfl (hb hby d10_19) rfl rfl ?_
    show SP p e below T7 (mkF m 20 #[vR a0, .val .null] [(.ref b7), (.ref b7), (.ref a0)]) _
    refine st8.trans ?_
    show SP p e below T8 (mkF m 23 #[vR a0, .val .null] [(.ref b7), (.ref a0)]) _
    refine st12 _ ?_
    show SP p e below T12 (mkF m 26 #[vR a0, .val .null] []) _
    refine XS.aloadN X12'.here hx rfl (hb hby d10_26) rfl rfl ?_
    show SP p e below T12 (mkF m 27 #[vR a0, .val .null] [(.ref a0)]) _
    refine st13 _ ?_
    show SP p e below T13 (mkF m 30 #[vR a0, .val .null] [(.ref b13), (.ref a0)]) _
    refine XS.dup X13.here hx rfl (hb hby d10_30) rfl rfl ?_
    show SP p e below T13 (mkF m 31 #[vR a0, .val .null] [(.ref b13), (.ref b13), (.ref a0)]) _
    refine st14.trans ?_
    show SP p e below T14 (mkF m 34 #[vR a0, .val .null] [(.ref b13), (.ref a0)]) _
    refine st19 _ ?_
    show SP p e below T19 (mkF m 37 #[vR a0, .val .null] []) _
    refine XS.aloadN X19'.here hx rfl (hb hby d10_37) rfl rfl ?_
    refine XS.aloadN X19'.here hx rfl (hb hby d10_38) rfl rfl ?_
    show SP p e below T19 (mkF m 39 #[vR a0, .val .null] [.null, (.ref a0)]) _
    refine st24 _ ?_
    show SP p e below T24 (mkF m 42 #[vR a0, .val .null] []) _
    exact X24'.returnOut hx Bd.returns (hb hby d10_42) hr
  · show Q10 Z a0 eD h0 n0 _ T24.heap _
    rw [e24]
    exact ⟨b1_0, b2, b3_0, b3_1, b3_2, b7, b8_0, b8_1, b13, kk3_0, kk3_1, kk8_0, kk8_1, rfl, N24, sz_b1_0, (Nat.lt_of_lt_of_le pf1_6.lt (Nat.le_of_eq g2.symm)), (Nat.lt_of_lt_of_le E_b2.lt s3_0), lt_b3_0_b3_1, lt_b3_1_b3_2, (Nat.lt_of_lt_of_le (pf3_8.wr W6).lt (Nat.le_of_eq g7.symm)), (Nat.lt_of_lt_of_le E_b7.lt s8_0), lt_b8_0_b8_1, (Nat.lt_of_lt_of_le (pf8_6.wr W12).lt (Nat.le_of_eq g13.symm)), K24, E_a0_u25, F_a0_readers_u29, F_a0_derivations_u32, F_a0_told_u34, F_a0_indexes_u35, Fw24, E_b1_0_u39, F_b1_0_modCount_u43, F_b1_0_elementData_u47, F_b1_0_size_u51, E_b2_u54, F_b2_counts_u57, E_b3_0_u60, F_b3_0_held_u63, F_b3_0_hashesAndCounts_u66, F_b3_0_size_u69, E_b3_1_u72, V_b3_1_u75, E_b3_2_u78, V_b3_2_u81, E_b7_u83, F_b7_held_u85, F_b7_hashesAndCounts_u87, F_b7_size_u89, E_b8_0_u91, V_b8_0_u93, E_b8_1_u95, V_b8_1_u97, E_b13_u98, F_b13_loadFactor_u99, F_b13_size_u100, pf3_10, pf8_8⟩
theorem d9_0 : dc kB23 0 (.aload_n 0) 1 := by decide +kernel
theorem d9_1 : dc kB23 1 .aconst_null 1 := by decide +kernel
theorem d9_2 : dc kB23 2 (.invokespecial 1) 3 := by decide +kernel
theorem pd_7 : parseMethodDescriptor "(Lcom/example/reteweave/reteweave/network/Fixpoint;)V" = some ⟨[(.object "com/example/reteweave/reteweave/network/Fixpoint")], none⟩ := by decide +kernel
theorem d9_5 : dc kB23 5 .return_ 1 := by decide +kernel
theorem ef_rm9 (m : MethodId) (a0 : Addr) : entryFrame m #[(.ref a0)] 1 = mkF m 0 #[vR a0] [] := by first | (simp [entryFrame, mkF, argsToLocals, Value.category]; done) | rfl
def Q9 (Z : State) (a0 eD : Addr) (h0 : Heap) (n0 : Nat) (v : Option Value) (h : Heap) (L : List Loc) : Prop := ∃ r0 : Addr, ∃ r1 : Addr, ∃ r2 : Addr, ∃ r3 : Addr, ∃ r4 : Addr, ∃ r5 : Addr, ∃ r6 : Addr, ∃ r7 : Addr, ∃ r8 : Addr, ∃ rk0 : ClassId, ∃ rk1 : ClassId, ∃ rk2 : ClassId, ∃ rk3 : ClassId, v = none ∧ Fr n0 L ∧ h0.size ≤ r0 ∧ r0 < r1 ∧ r1 < r2 ∧ r2 < r3 ∧ r3 < r4 ∧ r4 < r5 ∧ r5 < r6 ∧ r6 < r7 ∧ r7 < r8 ∧ Keep h0 h [a0] ∧ Exa Z h a0 cPN ∧ Fld Z h a0 cND "readers" "Ljava/util/List;" (.ref r0) ∧ Fld Z h a0 cPN "derivations" dD (.ref r1) ∧ Fld Z h a0 cPN "told" dC (.ref r5) ∧ Fld Z h a0 cPN "indexes" "Ljava/util/Map;" (.ref r8) ∧ Fld Z h a0 cPN "fixpoint" dF .null ∧ Exa Z h r0 cAL ∧ Fld Z h r0 "java/util/AbstractList" "modCount" "I" (.int (0 : Int32)) ∧ Fld Z h r0 cAL "elementData" cOA (.ref eD) ∧ Fld Z h r0 cAL "size" "I" (.int (0 : Int32)) ∧ Exa Z h r1 cDV ∧ Fld Z h r1 cDV "counts" dC (.ref r2) ∧ Exa Z h r2 cTC ∧ Fld Z h r2 cSL "held" cOA (.ref r3) ∧ Fld Z h r2 cSL "hashesAndCounts" "[J" (.ref r4) ∧ Fld Z h r2 cSL "size" "I" (.int (0 : Int32)) ∧ Exa Z h r3 cOA ∧ own_Arf Z h r3 rk0 (.object "java/lang/Object") (4 : Int32) (fun _ => .null) ∧ Exa Z h r4 "[J" ∧ own_Arf Z h r4 rk1 .long (4 : Int32) (fun _ => (.long (0 : Int64))) ∧ Exa Z h r5 cTC ∧ Fld Z h r5 cSL "held" cOA (.ref r6) ∧ Fld Z h r5 cSL "hashesAndCounts" "[J" (.ref r7) ∧ Fld Z h r5 cSL "size" "I" (.int (0 : Int32)) ∧ Exa Z h r6 cOA ∧ own_Arf Z h r6 rk2 (.object "java/lang/Object") (4 : Int32) (fun _ => .null) ∧ Exa Z h r7 "[J" ∧ own_Arf Z h r7 rk3 .long (4 : Int32) (fun _ => (.long (0 : Int64))) ∧ Exa Z h r8 cHM ∧ Fld Z h r8 cHM "loadFactor" "F" (.float (1061158912 : UInt32)) ∧ Fld Z h r8 cHM "size" "I" (.int (0 : Int32)) ∧ Ovr Z rk0 "java/lang/Object" ∧ Ovr Z rk2 "java/lang/Object"
theorem rm9 (l : Launch) (Z : State) (az : Array Value) (hw : HW Z az) (ws : List Jvm.Cond) (a0 eD : Addr) (h0 : Heap) (n0 : Nat) (Z0 : n0 ≤ h0.size) (E_a0 : Exa Z h0 a0 cPN) (F_readers_a0 : Fld Z h0 a0 cND "readers" "Ljava/util/List;" .null) (F_derivations_a0 : Fld Z h0 a0 cPN "derivations" dD .null) (F_told_a0 : Fld Z h0 a0 cPN "told" dC .null) (F_indexes_a0 : Fld Z h0 a0 cPN "indexes" "Ljava/util/Map;" .null) (F_fixpoint_a0 : Fld Z h0 a0 cPN "fixpoint" dF .null) (S_DEFAULTCAPACITY_EMPTY_ELEMENTDATA : Sta Z h0 cAL "DEFAULTCAPACITY_EMPTY_ELEMENTDATA" cOA (.ref eD)) (g_a0 : n0 ≤ a0) :
    MF l Z h0 ws ⟨cPN, "<init>", "()V"⟩ kB23 1 none ⟨6, 9, 34, 75⟩ #[(.ref a0)] (Q9 Z a0 eD h0 n0) := by
  refine own_body cPN n0 rfl (plainFor_of_name pn_com_example_reteweave_reteweave_network_ProductionNode) (fun m => ef_rm9 m a0) ?_
  intro p e s m below meth c s₁ Bd hx hby hml hown hZ X0 e0 N0 pre0
  obtain ⟨_, _, ⟨T1, L1, k1', n1'⟩, -, X1, ⟨Lc1, hQ1, l1, y1, z1⟩, st1⟩ := X0.specialBack hx (y := ⟨cPN, "<init>", "(Lcom/example/reteweave/reteweave/network/Fixpoint;)V"⟩) rfl hown (mvT hZ (w60 hw)) (mvT hZ (w61 hw)) (mvT hZ (w62 hw)) (by decide) (backOf (W := 0) (rm10 l Z az hw [] a0 eD h0 n0 Z0 E_a0 F_readers_a0 F_derivations_a0 F_told_a0 F_indexes_a0 F_fixpoint_a0 S_DEFAULTCAPACITY_EMPTY_ELEMENTDATA g_a0) hZ (w62 hw) (w56 hw) (by decide) (by decide)) (g := (mkF m 2 #[vR a0] [.null, (.ref a0)])) rfl (by rw [hml]; rfl) (Steps.refl _) (a := a0) (argsL := [.null]) (rest := []) (lenOf pd_7 rfl) rfl (Nat.le_of_eq rfl) (hb hby d9_2) (fun _ _ => ⟨rfl, e0, (own_nle rfl), (own_nle rfl)⟩)
  dsimp only [Pt.U, Pt.locs, Pt.cells, Pt.slots] at X1 l1 y1 z1 st1 hQ1
  subst l1 y1 z1
  obtain ⟨b1_0, b1_1, b1_2, b1_3, b1_4, b1_5, b1_6, b1_7, b1_8, kk1_0, kk1_1, kk1_2, kk1_3, rfl, N1q, s1_0, lt_b1_0_b1_1, lt_b1_1_b1_2, lt_b1_2_b1_3, lt_b1_3_b1_4, lt_b1_4_b1_5, lt_b1_5_b1_6, lt_b1_6_b1_7, lt_b1_7_b1_8, kq1, pf1_0, pf1_1, pf1_2, pf1_3, pf1_4, pf1_5, pf1_6, pf1_7, pf1_8, pf1_9, pf1_10, pf1_11, pf1_12, pf1_13, pf1_14, pf1_15, pf1_16, pf1_17, pf1_18, pf1_19, pf1_20, pf1_21, pf1_22, pf1_23, pf1_24, pf1_25, pf1_26, pf1_27, pf1_28, pf1_29, pf1_30, pf1_31, pf1_32⟩ := hQ1
  obtain ⟨Lg1, X1', N1⟩ := own_gen X1 (Fr.app N0 N1q)
  have g_b1_0 : n0 ≤ b1_0 := Nat.le_trans Z0 s1_0
  have sz_b1_0 : h0.size ≤ b1_0 := Nat.le_trans (Nat.le_refl _) s1_0
  have g_b1_1 : n0 ≤ b1_1 := Nat.le_trans Z0 (Nat.le_trans s1_0 (Nat.le_of_lt lt_b1_0_b1_1))
  have sz_b1_1 : h0.size ≤ b1_1 := Nat.le_trans (Nat.le_refl _) (Nat.le_trans s1_0 (Nat.le_of_lt lt_b1_0_b1_1))
  have g_b1_2 : n0 ≤ b1_2 := Nat.le_trans Z0 (Nat.le_trans s1_0 (Nat.le_of_lt (Nat.lt_trans lt_b1_0_b1_1 lt_b1_1_b1_2)))
  have sz_b1_2 : h0.size ≤ b1_2 := Nat.le_trans (Nat.le_refl _) (Nat.le_trans s1_0 (Nat.le_of_lt (Nat.lt_trans lt_b1_0_b1_1 lt_b1_1_b1_2)))
  have g_b1_3 : n0 ≤ b1_3 := Nat.le_trans Z0 (Nat.le_trans s1_0 (Nat.le_of_lt (Nat.lt_trans (Nat.lt_trans lt_b1_0_b1_1 lt_b1_1_b1_2) lt_b1_2_b1_3)))
  have sz_b1_3 : h0.size ≤ b1_3 := Nat.le_trans (Nat.le_refl _) (Nat.le_trans s1_0 (Nat.le_of_lt (Nat.lt_trans (Nat.lt_trans lt_b1_0_b1_1 lt_b1_1_b1_2) lt_b1_2_b1_3)))
  have g_b1_4 : n0 ≤ b1_4 := Nat.le_trans Z0 (Nat.le_trans s1_0 (Nat.le_of_lt (Nat.lt_trans (Nat.lt_trans (Nat.lt_trans lt_b1_0_b1_1 lt_b1_1_b1_2) lt_b1_2_b1_3) lt_b1_3_b1_4)))
  have sz_b1_4 : h0.size ≤ b1_4 := Nat.le_trans (Nat.le_refl _) (Nat.le_trans s1_0 (Nat.le_of_lt (Nat.lt_trans (Nat.lt_trans (Nat.lt_trans lt_b1_0_b1_1 lt_b1_1_b1_2) lt_b1_2_b1_3) lt_b1_3_b1_4)))
  have g_b1_5 : n0 ≤ b1_5 := Nat.le_trans Z0 (Nat.le_trans s1_0 (Nat.le_of_lt (Nat.lt_trans (Nat.lt_trans (Nat.lt_trans (Nat.lt_trans lt_b1_0_b1_1 lt_b1_1_b1_2) lt_b1_2_b1_3) lt_b1_3_b1_4) lt_b1_4_b1_5)))
  have sz_b1_5 : h0.size ≤ b1_5 := Nat.le_trans (Nat.le_refl _) (Nat.le_trans s1_0 (Nat.le_of_lt (Nat.lt_trans (Nat.lt_trans (Nat.lt_trans (Nat.lt_trans lt_b1_0_b1_1 lt_b1_1_b1_2) lt_b1_2_b1_3) lt_b1_3_b1_4) lt_b1_4_b1_5)))
  have g_b1_6 : n0 ≤ b1_6 := Nat.le_trans Z0 (Nat.le_trans s1_0 (Nat.le_of_lt (Nat.lt_trans (Nat.lt_trans (Nat.lt_trans (Nat.lt_trans (Nat.lt_trans lt_b1_0_b1_1 lt_b1_1_b1_2) lt_b1_2_b1_3) lt_b1_3_b1_4) lt_b1_4_b1_5) lt_b1_5_b1_6)))
  have sz_b1_6 : h0.size ≤ b1_6 := Nat.le_trans (Nat.le_refl _) (Nat.le_trans s1_0 (Nat.le_of_lt (Nat.lt_trans (Nat.lt_trans (Nat.lt_trans (Nat.lt_trans (Nat.lt_trans lt_b1_0_b1_1 lt_b1_1_b1_2) lt_b1_2_b1_3) lt_b1_3_b1_4) lt_b1_4_b1_5) lt_b1_5_b1_6)))
  have g_b1_7 : n0 ≤ b1_7 := Nat.le_trans Z0 (Nat.le_trans s1_0 (Nat.le_of_lt (Nat.lt_trans (Nat.lt_trans (Nat.lt_trans (Nat.lt_trans (Nat.lt_trans (Nat.lt_trans lt_b1_0_b1_1 lt_b1_1_b1_2) lt_b1_2_b1_3) lt_b1_3_b1_4) lt_b1_4_b1_5) lt_b1_5_b1_6) lt_b1_6_b1_7)))
  have sz_b1_7 : h0.size ≤ b1_7 := Nat.le_trans (Nat.le_refl _) (Nat.le_trans s1_0 (Nat.le_of_lt (Nat.lt_trans (Nat.lt_trans (Nat.lt_trans (Nat.lt_trans (Nat.lt_trans (Nat.lt_trans lt_b1_0_b1_1 lt_b1_1_b1_2) lt_b1_2_b1_3) lt_b1_3_b1_4) lt_b1_4_b1_5) lt_b1_5_b1_6) lt_b1_6_b1_7)))
  have g_b1_8 : n0 ≤ b1_8 := Nat.le_trans Z0 (Nat.le_trans s1_0 (Nat.le_of_lt (Nat.lt_trans (Nat.lt_trans (Nat.lt_trans (Nat.lt_trans (Nat.lt_trans (Nat.lt_trans (Nat.lt_trans lt_b1_0_b1_1 lt_b1_1_b1_2) lt_b1_2_b1_3) lt_b1_3_b1_4) lt_b1_4_b1_5) lt_b1_5_b1_6) lt_b1_6_b1_7) lt_b1_7_b1_8)))
  have sz_b1_8 : h0.size ≤ b1_8 := Nat.le_trans (Nat.le_refl _) (Nat.le_trans s1_0 (Nat.le_of_lt (Nat.lt_trans (Nat.lt_trans (Nat.lt_trans (Nat.lt_trans (Nat.lt_trans (Nat.lt_trans (Nat.lt_trans lt_b1_0_b1_1 lt_b1_1_b1_2) lt_b1_2_b1_3) lt_b1_3_b1_4) lt_b1_4_b1_5) lt_b1_5_b1_6) lt_b1_6_b1_7) lt_b1_7_b1_8)))
  have K1 : Keep h0 T1.heap [a0] := (Keep.refl h0 [a0]).trans kq1 (allS (Or.inl (mg 0 rfl)) all0)
  have Z1 : n0 ≤ T1.heap.size := Nat.le_trans Z0 kq1.1
  obtain ⟨fs, hr, hrun, hended, hW, hsame⟩ := X1'.leave (v := none) (fun _ => rfl) Bd.notSynchronized
  refine ⟨_, _, pre0 _ ?_, hrun, hended, _, _, rfl, ?_, ⟨_, rfl⟩, hW, hsame.mono (by decide) (by decide)⟩
  · show SP p e below s₁ (mkF m 0 #[vR a0] []) _
    refine XS.aloadN X0.here hx rfl (hb hby d9_0) rfl rfl ?_
    refine XS.aconstNull X0.here hx rfl (hb hby d9_1) ?_
    show SP p e below s₁ (mkF m 2 #[vR a0] [.null, (.ref a0)]) _
    refine st1.trans ?_
    show SP p e below T1 (mkF m 5 #[vR a0] []) _
    exact X1'.returnOut hx Bd.returns (hb hby d9_5) hr
  · show Q9 Z a0 eD h0 n0 _ T1.heap _
    exact ⟨b1_0, b1_1, b1_2, b1_3, b1_4, b1_5, b1_6, b1_7, b1_8, kk1_0, kk1_1, kk1_2, kk1_3, rfl, N1, sz_b1_0, lt_b1_0_b1_1, lt_b1_1_b1_2, lt_b1_2_b1_3, lt_b1_3_b1_4, lt_b1_4_b1_5, lt_b1_5_b1_6, lt_b1_6_b1_7, lt_b1_7_b1_8, K1, pf1_0, pf1_1, pf1_2, pf1_3, pf1_4, pf1_5, pf1_6, pf1_7, pf1_8, pf1_9, pf1_10, pf1_11, pf1_12, pf1_13, pf1_14, pf1_15, pf1_16, pf1_17, pf1_18, pf1_19, pf1_20, pf1_21, pf1_22, pf1_23, pf1_24, pf1_25, pf1_26, pf1_27, pf1_28, pf1_29, pf1_30, pf1_31, pf1_32⟩
theorem d26_0 : dc kB4 0 (.iload_n 0) 1 := by decide +kernel
theorem d26_1 : dc kB4 1 (.ifCond .gt 14) 3 := by decide +kernel
theorem d26_15 : dc kB4 15 (.bipush 31) 2 := by decide +kernel
theorem d26_17 : dc kB4 17 (.istore_n 1) 1 := by decide +kernel
theorem d26_18 : dc kB4 18 (.iload_n 0) 1 := by decide +kernel
theorem d26_19 : dc kB4 19 (.ldc_w 264) 3 := by decide +kernel
theorem d26_22 : dc kB4 22 (.if_icmp .lt 11) 3 := by decide +kernel
theorem d26_33 : dc kB4 33 (.iload_n 0) 1 := by decide +kernel
theorem d26_34 : dc kB4 34 (.sipush 256) 3 := by decide +kernel
theorem d26_37 : dc kB4 37 (.if_icmp .lt 11) 3 := by decide +kernel
theorem d26_48 : dc kB4 48 (.iload_n 0) 1 := by decide +kernel
theorem d26_49 : dc kB4 49 (.bipush 16) 2 := by decide +kernel
theorem d26_51 : dc kB4 51 (.if_icmp .lt 10) 3 := by decide +kernel
theorem d26_61 : dc kB4 61 (.iload_n 0) 1 := by decide +kernel
theorem d26_62 : dc kB4 62 (.iconst 4) 1 := by decide +kernel
theorem d26_63 : dc kB4 63 (.if_icmp .lt 10) 3 := by decide +kernel
theorem d26_66 : dc kB4 66 (.iinc 1 (-2)) 3 := by decide +kernel
theorem d26_69 : dc kB4 69 (.iload_n 0) 1 := by decide +kernel
theorem d26_70 : dc kB4 70 (.iconst 2) 1 := by decide +kernel
theorem d26_71 : dc kB4 71 .iushr 1 := by decide +kernel
theorem d26_72 : dc kB4 72 (.istore_n 0) 1 := by decide +kernel
theorem d26_73 : dc kB4 73 (.iload_n 1) 1 := by decide +kernel
theorem d26_74 : dc kB4 74 (.iload_n 0) 1 := by decide +kernel
theorem d26_75 : dc kB4 75 (.iconst 1) 1 := by decide +kernel
theorem d26_76 : dc kB4 76 .iushr 1 := by decide +kernel
theorem d26_77 : dc kB4 77 .isub 1 := by decide +kernel
theorem d26_78 : dc kB4 78 .ireturn 1 := by decide +kernel
theorem pn_java_lang_Integer : plainName "java/lang/Integer" = true := by first | (simp [plainName, overriddenIn]; done) | decide +kernel
theorem ef_rm26 (m : MethodId)  : entryFrame m #[(.int (4 : Int32))] 2 = mkF m 0 #[vI (4 : Int32), .unset] [] := by first | (simp [entryFrame, mkF, argsToLocals, Value.category]; done) | rfl
def Q26 (Z : State)  (h0 : Heap) (n0 : Nat) (v : Option Value) (h : Heap) (L : List Loc) : Prop := v = some (.int (29 : Int32)) ∧ Fr n0 L ∧ h = h0
theorem rm26 (l : Launch) (Z : State) (az : Array Value) (hw : HW Z az) (ws : List Jvm.Cond)  (h0 : Heap) (n0 : Nat) (Z0 : n0 ≤ h0.size) :
    MF l Z h0 ws ⟨"java/lang/Integer", "numberOfLeadingZeros", "(I)I"⟩ kB4 2 (some .int) ⟨0, 0, 0, 0⟩ #[(.int (4 : Int32))] (Q26 Z  h0 n0) := by
  refine own_body "java/lang/Integer" n0 rfl (plainFor_of_name pn_java_lang_Integer) (fun m => ef_rm26 m ) ?_
  intro p e s m below meth c s₁ Bd hx hby hml hown hZ X0 e0 N0 pre0
  obtain ⟨fs, hr, hrun, hended, hW, hsame⟩ := X0.leave (v := some (.int (29 : Int32))) (fun h => by rw [Bd.returns] at h; cases h) Bd.notSynchronized
  refine ⟨_, _, pre0 _ ?_, hrun, hended, _, _, rfl, ?_, ⟨_, rfl⟩, hW, hsame.mono (by decide) (by decide)⟩
  · show SP p e below s₁ (mkF m 0 #[vI (4 : Int32), .unset] []) _
    refine XS.iloadN X0.here hx rfl (hb hby d26_0) rfl ?_
    refine XS.ifYes X0.here hx rfl (pc0 := 1) (pc' := 15) rfl (hb hby d26_1) rfl ((if0 _ _).trans (tlt (by decide : (0 : Int32) < (4 : Int32))).2.2.1) (by decide) (by decide) ?_
    refine XS.bipush X0.here hx rfl (hb hby d26_15) ?_
    refine XS.istoreN X0.here hx rfl (hb hby d26_17) rfl (l' := #[vI (4 : Int32), vI (31 : Int32)]) rfl ?_
    refine XS.iloadN X0.here hx rfl (hb hby d26_18) rfl ?_
    show SP p e below s₁ (mkF m 19 #[vI (4 : Int32), vI (31 : Int32)] [(.int (4 : Int32))]) _
    refine X0.ldcwInt hx hown (mvT hZ (w182 hw)) (g := (mkF m 19 #[vI (4 : Int32), vI (31 : Int32)] [(.int (4 : Int32))])) rfl (hb hby d26_19) _ ?_
    show SP p e below s₁ (mkF m 22 #[vI (4 : Int32), vI (31 : Int32)] [(.int (65536 : Int32)), (.int (4 : Int32))]) _
    refine XS.icmpYes X0.here hx rfl (pc0 := 22) (pc' := 33) rfl (hb hby d26_22) rfl (tlt (by decide : (4 : Int32) < (65536 : Int32))).1 (by decide) (by decide) ?_
    refine XS.iloadN X0.here hx rfl (hb hby d26_33) rfl ?_
    refine XS.sipush X0.here hx rfl (hb hby d26_34) ?_
    refine XS.icmpYes X0.here hx rfl (pc0 := 37) (pc' := 48) rfl (hb hby d26_37) rfl (tlt (by decide : (4 : Int32) < (256 : Int32))).1 (by decide) (by decide) ?_
    refine XS.iloadN X0.here hx rfl (hb hby d26_48) rfl ?_
    refine XS.bipush X0.here hx rfl (hb hby d26_49) ?_
    refine XS.icmpYes X0.here hx rfl (pc0 := 51) (pc' := 61) rfl (hb hby d26_51) rfl (tlt (by decide : (4 : Int32) < (16 : Int32))).1 (by decide) (by decide) ?_
    refine XS.iloadN X0.here hx rfl (hb hby d26_61) rfl ?_
    refine XS.iconst X0.here hx rfl (hb hby d26_62) ?_
    refine XS.icmpNo X0.here hx rfl (hb hby d26_63) rfl (flt (by decide : ¬ ((4 : Int32) < (4 : Int32)))).1 ?_
    refine XS.iinc X0.here hx rfl (hb hby d26_66) rfl (l' := #[vI (4 : Int32), vI (29 : Int32)]) rfl ?_
    refine XS.iloadN X0.here hx rfl (hb hby d26_69) rfl ?_
    refine XS.iconst X0.here hx rfl (hb hby d26_70) ?_
    show SP p e below s₁ (mkF m 71 #[vI (4 : Int32), vI (29 : Int32)] [(.int (2 : Int32)), (.int (4 : Int32))]) _
    refine XS.iushr X0.here hx rfl (hb hby d26_71) rfl ?_
    refine XS.istoreN X0.here hx rfl (hb hby d26_72) rfl (l' := #[vI (1 : Int32), vI (29 : Int32)]) rfl ?_
    refine XS.iloadN X0.here hx rfl (hb hby d26_73) rfl ?_
    refine XS.iloadN X0.here hx rfl (hb hby d26_74) rfl ?_
    refine XS.iconst X0.here hx rfl (hb hby d26_75) ?_
    refine XS.iushr X0.here hx rfl (hb hby d26_76) rfl ?_
    refine XS.isub X0.here hx rfl (hb hby d26_77) rfl ?_
    show SP p e below s₁ (mkF m 78 #[vI (1 : Int32), vI (29 : Int32)] [(.int (29 : Int32))]) _
    exact retI X0 hx Bd.returns (hb hby d26_78) hr
  · show Q26 Z  h0 n0 _ s₁.heap _
    rw [e0]
    exact ⟨rfl, N0, rfl⟩
theorem d25_0 : dc kB32 0 (.iload_n 0) 1 := by decide +kernel
theorem d25_1 : dc kB32 1 (.ldc 61) 2 := by decide +kernel
theorem d25_3 : dc kB32 3 .imul 1 := by decide +kernel
theorem d25_4 : dc kB32 4 (.iload_n 1) 1 := by decide +kernel
theorem d25_5 : dc kB32 5 (.invokestatic 62) 3 := by decide +kernel
theorem pd_8 : parseMethodDescriptor "(I)I" = some ⟨[.int], some .int⟩ := by decide +kernel
theorem d25_8 : dc kB32 8 (.iconst 1) 1 := by decide +kernel
theorem d25_9 : dc kB32 9 .iadd 1 := by decide +kernel
theorem d25_10 : dc kB32 10 .iushr 1 := by decide +kernel
theorem d25_11 : dc kB32 11 .ireturn 1 := by decide +kernel
def own_home (p0 : Int32) : Int32 := (((p0 * (-1640531527 : Int32)).toUInt32 >>> ((30 : Int32) &&& 31).toUInt32).toInt32)
theorem ef_rm25 (m : MethodId) (p0 : Int32) : entryFrame m #[(.int p0), (.int (4 : Int32))] 2 = mkF m 0 #[vI p0, vI (4 : Int32)] [] := by first | (simp [entryFrame, mkF, argsToLocals, Value.category]; done) | rfl
def Q25 (Z : State) (p0 : Int32) (h0 : Heap) (n0 : Nat) (v : Option Value) (h : Heap) (L : List Loc) : Prop := v = some (.int (own_home p0)) ∧ Fr n0 L ∧ h = h0
theorem rm25 (l : Launch) (Z : State) (az : Array Value) (hw : HW Z az) (ws : List Jvm.Cond) (p0 : Int32) (h0 : Heap) (n0 : Nat) (Z0 : n0 ≤ h0.size) :
    MF l Z h0 ws ⟨cSL, "home", "(II)I"⟩ kB32 2 (some .int) ⟨1, 0, 0, 14⟩ #[(.int p0), (.int (4 : Int32))] (Q25 Z p0 h0 n0) := by
  refine own_body cSL n0 rfl (plainFor_of_name pn_com_example_reteweave_reteweave_network_SlotTable) (fun m => ef_rm25 m p0) ?_
  intro p e s m below meth c s₁ Bd hx hby hml hown hZ X0 e0 N0 pre0
  obtain ⟨_, _, ⟨T1, L1, k1', n1'⟩, -, X1, ⟨Lc1, hQ1, l1, y1, z1⟩, st1⟩ := Jvm.LawKit.callS X0 hx (y := ⟨"java/lang/Integer", "numberOfLeadingZeros", "(I)I"⟩) hown (mvT hZ (w178 hw)) (mvT hZ (w179 hw)) (mvT hZ (w180 hw)) (mvT hZ (w181 hw)) (by decide) (backOf (W := 1) (rm26 l Z az hw []  h0 n0 Z0) hZ (w181 hw) (w180 hw) (by decide) (by decide)) (g := (mkF m 5 #[vI p0, vI (4 : Int32)] [(.int (4 : Int32)), (.int (p0 * (-1640531527 : Int32)))])) rfl (by rw [hml]; rfl) (argsL := [(.int (4 : Int32))]) (rest := [(.int (p0 * (-1640531527 : Int32)))]) (lenOf pd_8 rfl) rfl (Nat.le_of_eq rfl) (hb hby d25_5) (fun _ _ => ⟨rfl, e0, (own_nle rfl), (own_nle rfl)⟩)
  dsimp only [Pt.U, Pt.locs, Pt.cells, Pt.slots] at X1 l1 y1 z1 st1 hQ1
  subst l1 y1 z1
  obtain ⟨rfl, N1q, e1⟩ := hQ1
  obtain ⟨Lg1, X1', N1⟩ := own_gen X1 (Fr.app N0 N1q)
  obtain ⟨fs, hr, hrun, hended, hW, hsame⟩ := X1'.leave (v := some (.int (own_home p0))) (fun h => by rw [Bd.returns] at h; cases h) Bd.notSynchronized
  refine ⟨_, _, pre0 _ ?_, hrun, hended, _, _, rfl, ?_, ⟨_, rfl⟩, hW, hsame.mono (by decide) (by decide)⟩
  · show SP p e below s₁ (mkF m 0 #[vI p0, vI (4 : Int32)] []) _
    refine XS.iloadN X0.here hx rfl (hb hby d25_0) rfl ?_
    show SP p e below s₁ (mkF m 1 #[vI p0, vI (4 : Int32)] [(.int p0)]) _
    refine X0.ldcInt hx hown (mvT hZ (w177 hw)) (g := (mkF m 1 #[vI p0, vI (4 : Int32)] [(.int p0)])) rfl (hb hby d25_1) _ ?_
    show SP p e below s₁ (mkF m 3 #[vI p0, vI (4 : Int32)] [(.int (-1640531527 : Int32)), (.int p0)]) _
    refine XS.imul X0.here hx rfl (hb hby d25_3) rfl ?_
    refine XS.iloadN X0.here hx rfl (hb hby d25_4) rfl ?_
    show SP p e below s₁ (mkF m 5 #[vI p0, vI (4 : Int32)] [(.int (4 : Int32)), (.int (p0 * (-1640531527 : Int32)))]) _
    refine st1 _ ?_
    show SP p e below T1 (mkF m 8 #[vI p0, vI (4 : Int32)] [(.int (29 : Int32)), (.int (p0 * (-1640531527 : Int32)))]) _
    refine XS.iconst X1'.here hx rfl (hb hby d25_8) ?_
    refine XS.iadd X1'.here hx rfl (hb hby d25_9) rfl ?_
    refine XS.iushr X1'.here hx rfl (hb hby d25_10) rfl ?_
    show SP p e below T1 (mkF m 11 #[vI p0, vI (4 : Int32)] [(.int (((p0 * (-1640531527 : Int32)).toUInt32 >>> ((30 : Int32) &&& 31).toUInt32).toInt32))]) _
    exact retI X1' hx Bd.returns (hb hby d25_11) hr
  · show Q25 Z p0 h0 n0 _ T1.heap _
    rw [e1]
    exact ⟨rfl, N1, rfl⟩
theorem d37_0 : dc kB31 0 (.iload_n 0) 1 := by decide +kernel
theorem d37_1 : dc kB31 1 .i2l 1 := by decide +kernel
theorem d37_2 : dc kB31 2 (.bipush 32) 2 := by decide +kernel
theorem d37_4 : dc kB31 4 .lshl 1 := by decide +kernel
theorem d37_5 : dc kB31 5 (.iload_n 1) 1 := by decide +kernel
theorem d37_6 : dc kB31 6 .i2l 1 := by decide +kernel
theorem d37_7 : dc kB31 7 (.ldc2_w 59) 3 := by decide +kernel
theorem d37_10 : dc kB31 10 .land 1 := by decide +kernel
theorem d37_11 : dc kB31 11 .lor 1 := by decide +kernel
theorem d37_12 : dc kB31 12 .lreturn 1 := by decide +kernel
def own_hc (p0 p1 : Int32) : Int64 := (((p0.toInt64) <<< ((32 : Int32) &&& 0x3f).toInt64) ||| ((p1.toInt64) &&& (4294967295 : Int64)))
theorem ef_rm37 (m : MethodId) (p0 p1 : Int32) : entryFrame m #[(.int p0), (.int p1)] 2 = mkF m 0 #[vI p0, vI p1] [] := by first | (simp [entryFrame, mkF, argsToLocals, Value.category]; done) | rfl
def Q37 (Z : State) (p0 p1 : Int32) (h0 : Heap) (n0 : Nat) (v : Option Value) (h : Heap) (L : List Loc) : Prop := v = some (.long (own_hc p0 p1)) ∧ Fr n0 L ∧ h = h0
theorem rm37 (l : Launch) (Z : State) (az : Array Value) (hw : HW Z az) (ws : List Jvm.Cond) (p0 p1 : Int32) (h0 : Heap) (n0 : Nat) (Z0 : n0 ≤ h0.size) :
    MF l Z h0 ws ⟨cSL, "hashAndCount", "(II)J"⟩ kB31 2 (some .long) ⟨0, 0, 0, 0⟩ #[(.int p0), (.int p1)] (Q37 Z p0 p1 h0 n0) := by
  refine own_body cSL n0 rfl (plainFor_of_name pn_com_example_reteweave_reteweave_network_SlotTable) (fun m => ef_rm37 m p0 p1) ?_
  intro p e s m below meth c s₁ Bd hx hby hml hown hZ X0 e0 N0 pre0
  obtain ⟨fs, hr, hrun, hended, hW, hsame⟩ := X0.leave (v := some (.long (own_hc p0 p1))) (fun h => by rw [Bd.returns] at h; cases h) Bd.notSynchronized
  refine ⟨_, _, pre0 _ ?_, hrun, hended, _, _, rfl, ?_, ⟨_, rfl⟩, hW, hsame.mono (by decide) (by decide)⟩
  · show SP p e below s₁ (mkF m 0 #[vI p0, vI p1] []) _
    refine XS.iloadN X0.here hx rfl (hb hby d37_0) rfl ?_
    refine XS.i2l X0.here hx rfl (hb hby d37_1) rfl ?_
    refine XS.bipush X0.here hx rfl (hb hby d37_2) ?_
    refine XS.lshl X0.here hx rfl (hb hby d37_4) rfl ?_
    refine XS.iloadN X0.here hx rfl (hb hby d37_5) rfl ?_
    refine XS.i2l X0.here hx rfl (hb hby d37_6) rfl ?_
    show SP p e below s₁ (mkF m 7 #[vI p0, vI p1] [(.long (p1.toInt64)), (.long ((p0.toInt64) <<< ((32 : Int32) &&& 0x3f).toInt64))]) _
    refine X0.ldc2Long hx hown (mvT hZ (w256 hw)) (g := (mkF m 7 #[vI p0, vI p1] [(.long (p1.toInt64)), (.long ((p0.toInt64) <<< ((32 : Int32) &&& 0x3f).toInt64))])) rfl (hb hby d37_7) _ ?_
    show SP p e below s₁ (mkF m 10 #[vI p0, vI p1] [(.long (4294967295 : Int64)), (.long (p1.toInt64)), (.long ((p0.toInt64) <<< ((32 : Int32) &&& 0x3f).toInt64))]) _
    refine XS.land X0.here hx rfl (hb hby d37_10) rfl ?_
    refine XS.lor X0.here hx rfl (hb hby d37_11) rfl ?_
    show SP p e below s₁ (mkF m 12 #[vI p0, vI p1] [(.long (((p0.toInt64) <<< ((32 : Int32) &&& 0x3f).toInt64) ||| ((p1.toInt64) &&& (4294967295 : Int64))))]) _
    show SP p e below s₁ (mkF m 12 #[vI p0, vI p1] [(.long (own_hc p0 p1))]) _
    generalize (own_hc p0 p1) = gv at hr ⊢
    jvm_step X0.here [X0.here.top, hx, (hb hby d37_12), X0.method', Bd.returns, narrow]
    first | (intro acts; rw [hr _ acts rfl rfl rfl]) | rw [hr _ _ rfl rfl rfl]
    exact Steps.refl _
  · show Q37 Z p0 p1 h0 n0 _ s₁.heap _
    rw [e0]
    exact ⟨rfl, N0, rfl⟩
theorem d42_0 : dc kB30 0 (.aload_n 0) 1 := by decide +kernel
theorem d42_1 : dc kB30 1 (.getfield 13) 3 := by decide +kernel
theorem d42_4 : dc kB30 4 (.iload_n 1) 1 := by decide +kernel
theorem d42_5 : dc kB30 5 .laload 1 := by decide +kernel
theorem d42_6 : dc kB30 6 (.bipush 32) 2 := by decide +kernel
theorem d42_8 : dc kB30 8 .lushr 1 := by decide +kernel
theorem d42_9 : dc kB30 9 .l2i 1 := by decide +kernel
theorem d42_10 : dc kB30 10 .ireturn 1 := by decide +kernel
def own_hh (w : Int64) : Int32 := (((w.toUInt64 >>> ((32 : Int32) &&& 0x3f).toInt64.toUInt64).toInt64).toInt32)
theorem ef_rm42 (m : MethodId) (a0 : Addr) (p1 : Int32) : entryFrame m #[(.ref a0), (.int p1)] 2 = mkF m 0 #[vR a0, vI p1] [] := by first | (simp [entryFrame, mkF, argsToLocals, Value.category]; done) | rfl
def Q42 (Z : State) (a0 : Addr) (p1 : Int32) (aG : Addr) (kG : ClassId) (g : Nat → Value) (w : Int64) (h0 : Heap) (n0 : Nat) (v : Option Value) (h : Heap) (L : List Loc) : Prop := v = some (.int (own_hh w)) ∧ Fr n0 L ∧ h = h0
theorem rm42 (l : Launch) (Z : State) (az : Array Value) (hw : HW Z az) (ws : List Jvm.Cond) (a0 : Addr) (p1 : Int32) (aG : Addr) (kG : ClassId) (g : Nat → Value) (w : Int64) (h0 : Heap) (n0 : Nat) (Z0 : n0 ≤ h0.size) (E_a0 : Exa Z h0 a0 cTC) (F_hashesAndCounts_a0 : Fld Z h0 a0 cSL "hashesAndCounts" "[J" (.ref aG)) (V_aG : own_Arf Z h0 aG kG .long (4 : Int32) g) (E_aG : Exa Z h0 aG "[J") (hc4 : ¬ (p1 < (0 : Int32))) (hc5 : p1 < (4 : Int32)) (hc6 : g (p1).toNatClampNeg = (.long w)) :
    MF l Z h0 ws ⟨cSL, "hashAt", "(I)I"⟩ kB30 2 (some .int) ⟨0, 0, 0, 0⟩ #[(.ref a0), (.int p1)] (Q42 Z a0 p1 aG kG g w h0 n0) := by
  refine own_body cSL n0 rfl (plainFor_of_name pn_com_example_reteweave_reteweave_network_SlotTable) (fun m => ef_rm42 m a0 p1) ?_
  intro p e s m below meth c s₁ Bd hx hby hml hown hZ X0 e0 N0 pre0
  obtain ⟨T1, X1, e1, st1⟩ := getF X0 hx hZ hown (host := "") (Or.inl (w118 hw)) Via.refl e0 F_hashesAndCounts_a0 (g := (mkF m 1 #[vR a0, vI p1] [(.ref a0)])) rfl rfl (hb hby d42_1)
  obtain ⟨cl2, Ar2, qk2, Sz2, Ng2, Hs2, Gf2⟩ := id V_aG
  have hin3 : ¬ (p1 < 0 ∨ cl2.slots.size ≤ (p1).toNatClampNeg) := inb_of Sz2 ⟨hc4, hc5⟩
  have hat4 : cl2.slots[(p1).toNatClampNeg]? = some (.long w) := own_at Hs2 hin3 hc6
  obtain ⟨fs, hr, hrun, hended, hW, hsame⟩ := X1.leave (v := some (.int (own_hh w))) (fun h => by rw [Bd.returns] at h; cases h) Bd.notSynchronized
  refine ⟨_, _, pre0 _ ?_, hrun, hended, _, _, rfl, ?_, ⟨_, rfl⟩, hW, hsame.mono (by decide) (by decide)⟩
  · show SP p e below s₁ (mkF m 0 #[vR a0, vI p1] []) _
    refine XS.aloadN X0.here hx rfl (hb hby d42_0) rfl rfl ?_
    show SP p e below s₁ (mkF m 1 #[vR a0, vI p1] [(.ref a0)]) _
    refine st1 _ ?_
    show SP p e below T1 (mkF m 4 #[vR a0, vI p1] [(.ref aG)]) _
    refine XS.iloadN X1.here hx rfl (hb hby d42_4) rfl ?_
    show SP p e below T1 (mkF m 5 #[vR a0, vI p1] [(.int p1), (.ref aG)]) _
    refine X1.laload hx (j := p1) (v := (.long w)) (by rw [e1]; exact Ar2.1) (State.isArrayOf_alike hZ.alike Ar2.2.1) Ar2.2.2 hin3 hat4 (g := (mkF m 5 #[vR a0, vI p1] [(.int p1), (.ref aG)])) rfl rfl (hb hby d42_5) _ ?_
    show SP p e below T1 (mkF m 6 #[vR a0, vI p1] [(.long w)]) _
    refine XS.bipush X1.here hx rfl (hb hby d42_6) ?_
    show SP p e below T1 (mkF m 8 #[vR a0, vI p1] [(.int (32 : Int32)), (.long w)]) _
    refine XS.lushr X1.here hx rfl (hb hby d42_8) rfl ?_
    refine XS.l2i X1.here hx rfl (hb hby d42_9) rfl ?_
    show SP p e below T1 (mkF m 10 #[vR a0, vI p1] [(.int (((w.toUInt64 >>> ((32 : Int32) &&& 0x3f).toInt64.toUInt64).toInt64).toInt32))]) _
    exact retI X1 hx Bd.returns (hb hby d42_10) hr
  · show Q42 Z a0 p1 aG kG g w h0 n0 _ T1.heap _
    rw [e1]
    exact ⟨rfl, N0, rfl⟩
theorem d46_0 : dc kB35 0 (.aload_n 0) 1 := by decide +kernel
theorem d46_1 : dc kB35 1 (.getfield 13) 3 := by decide +kernel
theorem d46_4 : dc kB35 4 (.iload_n 1) 1 := by decide +kernel
theorem d46_5 : dc kB35 5 .laload 1 := by decide +kernel
theorem d46_6 : dc kB35 6 .l2i 1 := by decide +kernel
theorem d46_7 : dc kB35 7 .ireturn 1 := by decide +kernel
theorem ef_rm46 (m : MethodId) (a0 : Addr) (p1 : Int32) : entryFrame m #[(.ref a0), (.int p1)] 2 = mkF m 0 #[vR a0, vI p1] [] := by first | (simp [entryFrame, mkF, argsToLocals, Value.category]; done) | rfl
def Q46 (Z : State) (a0 : Addr) (p1 : Int32) (aG : Addr) (kG : ClassId) (g : Nat → Value) (w : Int64) (h0 : Heap) (n0 : Nat) (v : Option Value) (h : Heap) (L : List Loc) : Prop := v = some (.int (w.toInt32)) ∧ Fr n0 L ∧ h = h0
theorem rm46 (l : Launch) (Z : State) (az : Array Value) (hw : HW Z az) (ws : List Jvm.Cond) (a0 : Addr) (p1 : Int32) (aG : Addr) (kG : ClassId) (g : Nat → Value) (w : Int64) (h0 : Heap) (n0 : Nat) (Z0 : n0 ≤ h0.size) (E_a0 : Exa Z h0 a0 cTC) (F_hashesAndCounts_a0 : Fld Z h0 a0 cSL "hashesAndCounts" "[J" (.ref aG)) (V_aG : own_Arf Z h0 aG kG .long (4 : Int32) g) (E_aG : Exa Z h0 aG "[J") (hc4 : ¬ (p1 < (0 : Int32))) (hc5 : p1 < (4 : Int32)) (hc6 : g (p1).toNatClampNeg = (.long w)) :
    MF l Z h0 ws ⟨cSL, "countAt", "(I)I"⟩ kB35 2 (some .int) ⟨0, 0, 0, 0⟩ #[(.ref a0), (.int p1)] (Q46 Z a0 p1 aG kG g w h0 n0) := by
  refine own_body cSL n0 rfl (plainFor_of_name pn_com_example_reteweave_reteweave_network_SlotTable) (fun m => ef_rm46 m a0 p1) ?_
  intro p e s m below meth c s₁ Bd hx hby hml hown hZ X0 e0 N0 pre0
  obtain ⟨T1, X1, e1, st1⟩ := getF X0 hx hZ hown (host := "") (Or.inl (w118 hw)) Via.refl e0 F_hashesAndCounts_a0 (g := (mkF m 1 #[vR a0, vI p1] [(.ref a0)])) rfl rfl (hb hby d46_1)
  obtain ⟨cl2, Ar2, qk2, Sz2, Ng2, Hs2, Gf2⟩ := id V_aG
  have hin3 : ¬ (p1 < 0 ∨ cl2.slots.size ≤ (p1).toNatClampNeg) := inb_of Sz2 ⟨hc4, hc5⟩
  have hat4 : cl2.slots[(p1).toNatClampNeg]? = some (.long w) := own_at Hs2 hin3 hc6
  obtain ⟨fs, hr, hrun, hended, hW, hsame⟩ := X1.leave (v := some (.int (w.toInt32))) (fun h => by rw [Bd.returns] at h; cases h) Bd.notSynchronized
  refine ⟨_, _, pre0 _ ?_, hrun, hended, _, _, rfl, ?_, ⟨_, rfl⟩, hW, hsame.mono (by decide) (by decide)⟩
  · show SP p e below s₁ (mkF m 0 #[vR a0, vI p1] []) _
    refine XS.aloadN X0.here hx rfl (hb hby d46_0) rfl rfl ?_
    show SP p e below s₁ (mkF m 1 #[vR a0, vI p1] [(.ref a0)]) _
    refine st1 _ ?_
    show SP p e below T1 (mkF m 4 #[vR a0, vI p1] [(.ref aG)]) _
    refine XS.iloadN X1.here hx rfl (hb hby d46_4) rfl ?_
    show SP p e below T1 (mkF m 5 #[vR a0, vI p1] [(.int p1), (.ref aG)]) _
    refine X1.laload hx (j := p1) (v := (.long w)) (by rw [e1]; exact Ar2.1) (State.isArrayOf_alike hZ.alike Ar2.2.1) Ar2.2.2 hin3 hat4 (g := (mkF m 5 #[vR a0, vI p1] [(.int p1), (.ref aG)])) rfl rfl (hb hby d46_5) _ ?_
    show SP p e below T1 (mkF m 6 #[vR a0, vI p1] [(.long w)]) _
    refine XS.l2i X1.here hx rfl (hb hby d46_6) rfl ?_
    show SP p e below T1 (mkF m 7 #[vR a0, vI p1] [(.int (w.toInt32))]) _
    exact retI X1 hx Bd.returns (hb hby d46_7) hr
  · show Q46 Z a0 p1 aG kG g w h0 n0 _ T1.heap _
    rw [e1]
    exact ⟨rfl, N0, rfl⟩
theorem d48_0 : dc kB29 0 (.aload_n 0) 1 := by decide +kernel
theorem d48_1 : dc kB29 1 (.getfield 13) 3 := by decide +kernel
theorem d48_4 : dc kB29 4 (.iload_n 1) 1 := by decide +kernel
theorem d48_5 : dc kB29 5 (.aload_n 0) 1 := by decide +kernel
theorem d48_6 : dc kB29 6 (.iload_n 1) 1 := by decide +kernel
theorem d48_7 : dc kB29 7 (.invokevirtual 37) 3 := by decide +kernel
theorem d48_10 : dc kB29 10 (.iload_n 2) 1 := by decide +kernel
theorem d48_11 : dc kB29 11 (.invokestatic 51) 3 := by decide +kernel
theorem pd_9 : parseMethodDescriptor "(II)J" = some ⟨[.int, .int], some .long⟩ := by decide +kernel
theorem d48_14 : dc kB29 14 .lastore 1 := by decide +kernel
theorem d48_15 : dc kB29 15 .return_ 1 := by decide +kernel
theorem ef_rm48 (m : MethodId) (a0 : Addr) (p1 p2 : Int32) : entryFrame m #[(.ref a0), (.int p1), (.int p2)] 3 = mkF m 0 #[vR a0, vI p1, vI p2] [] := by first | (simp [entryFrame, mkF, argsToLocals, Value.category]; done) | rfl
def Q48 (Z : State) (a0 : Addr) (p1 p2 : Int32) (aG : Addr) (kG : ClassId) (g : Nat → Value) (w : Int64) (h0 : Heap) (n0 : Nat) (v : Option Value) (h : Heap) (L : List Loc) : Prop := v = none ∧ Fr n0 L ∧ Keep h0 h [aG] ∧ own_Arf Z h aG kG .long (4 : Int32) (own_upd g (p1).toNatClampNeg (.long (own_hc (own_hh w) p2))) ∧ Exa Z h aG "[J"
theorem rm48 (l : Launch) (Z : State) (az : Array Value) (hw : HW Z az) (ws : List Jvm.Cond) (a0 : Addr) (p1 p2 : Int32) (aG : Addr) (kG : ClassId) (g : Nat → Value) (w : Int64) (h0 : Heap) (n0 : Nat) (Z0 : n0 ≤ h0.size) (E_a0 : Exa Z h0 a0 cTC) (F_hashesAndCounts_a0 : Fld Z h0 a0 cSL "hashesAndCounts" "[J" (.ref aG)) (V_aG : own_Arf Z h0 aG kG .long (4 : Int32) g) (E_aG : Exa Z h0 aG "[J") (hc4 : ¬ (p1 < (0 : Int32))) (hc5 : p1 < (4 : Int32)) (hc6 : g (p1).toNatClampNeg = (.long w)) (g_aG : n0 ≤ aG) :
    MF l Z h0 ws ⟨cSL, "setCountAt", "(II)V"⟩ kB29 3 none ⟨1, 0, 0, 15⟩ #[(.ref a0), (.int p1), (.int p2)] (Q48 Z a0 p1 p2 aG kG g w h0 n0) := by
  refine own_body cSL n0 rfl (plainFor_of_name pn_com_example_reteweave_reteweave_network_SlotTable) (fun m => ef_rm48 m a0 p1 p2) ?_
  intro p e s m below meth c s₁ Bd hx hby hml hown hZ X0 e0 N0 pre0
  obtain ⟨T1, X1, e1, st1⟩ := getF X0 hx hZ hown (host := "") (Or.inl (w118 hw)) Via.refl e0 F_hashesAndCounts_a0 (g := (mkF m 1 #[vR a0, vI p1, vI p2] [(.ref a0)])) rfl rfl (hb hby d48_1)
  obtain ⟨cq2, q2, q2'⟩ := E_a0.cell
  obtain ⟨_, _, ⟨T2, L2, k2', n2'⟩, -, X2, ⟨Lc2, hQ2, l2, y2, z2⟩, st2⟩ := X1.privateBack hx (y := ⟨cSL, "hashAt", "(I)I"⟩) hown (mvT hZ (w289 hw)) (mvT hZ (w290 hw)) (own_privS (mvT hZ (w172 hw)) rfl (Cond.privateMethod_at (mvP hZ (w291 hw) (args := #[]))) (mvT hZ (w290 hw)) (by decide)) (Cond.privateMethod_at (mvP hZ (w291 hw) (args := #[]))) (mvT hZ (w292 hw)) (by decide) (backOf (W := 2) (rm42 l Z az hw [] a0 p1 aG kG g w h0 n0 Z0 E_a0 F_hashesAndCounts_a0 V_aG E_aG hc4 hc5 hc6) hZ (w292 hw) (w111 hw) (by decide) (by decide)) (g := (mkF m 7 #[vR a0, vI p1, vI p2] [(.int p1), (.ref a0), (.int p1), (.ref aG)])) rfl (by rw [hml]; rfl) (Steps.refl _) (a := a0) (by rw [e1]; exact q2) q2' (argsL := [(.int p1)]) (rest := [(.int p1), (.ref aG)]) (lenOf pd_8 rfl) rfl (Nat.le_of_eq rfl) (hb hby d48_7) (fun _ _ => ⟨rfl, e1, (own_nle rfl), (own_nle rfl)⟩)
  dsimp only [Pt.U, Pt.locs, Pt.cells, Pt.slots] at X2 l2 y2 z2 st2 hQ2
  subst l2 y2 z2
  obtain ⟨rfl, N2q, e2⟩ := hQ2
  obtain ⟨Lg2, X2', N2⟩ := own_gen X2 (Fr.app N0 N2q)
  obtain ⟨_, _, ⟨T3, L3, k3', n3'⟩, -, X3, ⟨Lc3, hQ3, l3, y3, z3⟩, st3⟩ := Jvm.LawKit.callS X2' hx (y := ⟨cSL, "hashAndCount", "(II)J"⟩) hown (mvT hZ (w253 hw)) (mvT hZ (w254 hw)) (mvT hZ (w111 hw)) (mvT hZ (w255 hw)) (by decide) (backOf (W := 2) (rm37 l Z az hw [] (own_hh w) p2 h0 n0 Z0) hZ (w255 hw) (w111 hw) (by decide) (by decide)) (g := (mkF m 11 #[vR a0, vI p1, vI p2] [(.int p2), (.int (own_hh w)), (.int p1), (.ref aG)])) rfl (by rw [hml]; rfl) (argsL := [(.int (own_hh w)), (.int p2)]) (rest := [(.int p1), (.ref aG)]) (lenOf pd_9 rfl) rfl (Nat.le_of_eq rfl) (hb hby d48_11) (fun _ _ => ⟨rfl, e2, (own_nle rfl), (own_nle rfl)⟩)
  dsimp only [Pt.U, Pt.locs, Pt.cells, Pt.slots] at X3 l3 y3 z3 st3 hQ3
  subst l3 y3 z3
  obtain ⟨rfl, N3q, e3⟩ := hQ3
  obtain ⟨Lg3, X3', N3⟩ := own_gen X3 (Fr.app N2 N3q)
  obtain ⟨cl4, Ar4, qk4, Sz4, Ng4, Hs4, Gf4⟩ := id V_aG
  have hin5 : ¬ (p1 < 0 ∨ cl4.slots.size ≤ (p1).toNatClampNeg) := inb_of Sz4 ⟨hc4, hc5⟩
  obtain ⟨T6, h6, X6, e6, W6, st6⟩ := stJ X3' hx hZ e3 Ar4 (j := p1) hin5 (g := (mkF m 14 #[vR a0, vI p1, vI p2] [(.long (own_hc (own_hh w) p2)), (.int p1), (.ref aG)])) rfl rfl (hb hby d48_14)
  have K6 : Keep h0 h6 [aG] := (Keep.refl h0 [aG]).wr W6 (Or.inl (mg 0 rfl))
  have V_aG_6 : own_Arf Z h6 aG kG .long (4 : Int32) (own_upd g (p1).toNatClampNeg (.long (own_hc (own_hh w) p2))) := own_Arf.set (v := (.long (own_hc (own_hh w) p2))) Ar4 qk4 Sz4 Ng4 Hs4 Gf4 rfl W6
  have Z6 : n0 ≤ h6.size := Nat.le_trans Z0 (Keep.of_wr W6).1
  obtain ⟨Lg6, X6', N6⟩ := own_gen X6 (Fr.snoc X6 N3 g_aG)
  have E_aG_u7 : Exa Z h6 aG "[J" := (E_aG.wr W6)
  obtain ⟨fs, hr, hrun, hended, hW, hsame⟩ := X6'.leave (v := none) (fun _ => rfl) Bd.notSynchronized
  refine ⟨_, _, pre0 _ ?_, hrun, hended, _, _, rfl, ?_, ⟨_, rfl⟩, hW, hsame.mono (by decide) (by decide)⟩
  · show SP p e below s₁ (mkF m 0 #[vR a0, vI p1, vI p2] []) _
    refine XS.aloadN X0.here hx rfl (hb hby d48_0) rfl rfl ?_
    show SP p e below s₁ (mkF m 1 #[vR a0, vI p1, vI p2] [(.ref a0)]) _
    refine st1 _ ?_
    show SP p e below T1 (mkF m 4 #[vR a0, vI p1, vI p2] [(.ref aG)]) _
    refine XS.iloadN X1.here hx rfl (hb hby d48_4) rfl ?_
    refine XS.aloadN X1.here hx rfl (hb hby d48_5) rfl rfl ?_
    refine XS.iloadN X1.here hx rfl (hb hby d48_6) rfl ?_
    show SP p e below T1 (mkF m 7 #[vR a0, vI p1, vI p2] [(.int p1), (.ref a0), (.int p1), (.ref aG)]) _
    refine st2.trans ?_
    show SP p e below T2 (mkF m 10 #[vR a0, vI p1, vI p2] [(.int (own_hh w)), (.int p1), (.ref aG)]) _
    refine XS.iloadN X2'.here hx rfl (hb hby d48_10) rfl ?_
    show SP p e below T2 (mkF m 11 #[vR a0, vI p1, vI p2] [(.int p2), (.int (own_hh w)), (.int p1), (.ref aG)]) _
    refine st3 _ ?_
    show SP p e below T3 (mkF m 14 #[vR a0, vI p1, vI p2] [(.long (own_hc (own_hh w) p2)), (.int p1), (.ref aG)]) _
    refine st6 _ ?_
    show SP p e below T6 (mkF m 15 #[vR a0, vI p1, vI p2] []) _
    exact X6'.returnOut hx Bd.returns (hb hby d48_15) hr
  · show Q48 Z a0 p1 p2 aG kG g w h0 n0 _ T6.heap _
    rw [e6]
    exact ⟨rfl, N6, K6, V_aG_6, E_aG_u7⟩
theorem d54_0 : dc kB7 0 (.aload_n 0) 1 := by decide +kernel
theorem d54_1 : dc kB7 1 (.getfield 273) 3 := by decide +kernel
theorem d54_4 : dc kB7 4 .lreturn 1 := by decide +kernel
theorem ef_rm54 (m : MethodId) (a0 : Addr) : entryFrame m #[(.ref a0)] 1 = mkF m 0 #[vR a0] [] := by first | (simp [entryFrame, mkF, argsToLocals, Value.category]; done) | rfl
def Q54 (Z : State) (a0 : Addr) (q0 : Int64) (h0 : Heap) (n0 : Nat) (v : Option Value) (h : Heap) (L : List Loc) : Prop := v = some (.long q0) ∧ Fr n0 L ∧ h = h0
theorem rm54 (l : Launch) (Z : State) (az : Array Value) (hw : HW Z az) (ws : List Jvm.Cond) (a0 : Addr) (q0 : Int64) (h0 : Heap) (n0 : Nat) (Z0 : n0 ≤ h0.size) (E_a0 : Exa Z h0 a0 cLG) (F_value_a0 : Fld Z h0 a0 cLG "value" "J" (.long q0)) :
    MF l Z h0 ws ⟨cLG, "longValue", "()J"⟩ kB7 1 (some .long) ⟨0, 0, 0, 0⟩ #[(.ref a0)] (Q54 Z a0 q0 h0 n0) := by
  refine own_body cLG n0 rfl (plainFor_of_name pn_java_lang_Long) (fun m => ef_rm54 m a0) ?_
  intro p e s m below meth c s₁ Bd hx hby hml hown hZ X0 e0 N0 pre0
  obtain ⟨T1, X1, e1, st1⟩ := getF X0 hx hZ hown (host := "") (Or.inl (w47 hw)) Via.refl e0 F_value_a0 (g := (mkF m 1 #[vR a0] [(.ref a0)])) rfl rfl (hb hby d54_1)
  obtain ⟨fs, hr, hrun, hended, hW, hsame⟩ := X1.leave (v := some (.long q0)) (fun h => by rw [Bd.returns] at h; cases h) Bd.notSynchronized
  refine ⟨_, _, pre0 _ ?_, hrun, hended, _, _, rfl, ?_, ⟨_, rfl⟩, hW, hsame.mono (by decide) (by decide)⟩
  · show SP p e below s₁ (mkF m 0 #[vR a0] []) _
    refine XS.aloadN X0.here hx rfl (hb hby d54_0) rfl rfl ?_
    show SP p e below s₁ (mkF m 1 #[vR a0] [(.ref a0)]) _
    refine st1 _ ?_
    show SP p e below T1 (mkF m 4 #[vR a0] [(.long q0)]) _
    jvm_step X1.here [X1.here.top, hx, (hb hby d54_4), X1.method', Bd.returns, narrow]
    first | (intro acts; rw [hr _ acts rfl rfl rfl]) | rw [hr _ _ rfl rfl rfl]
    exact Steps.refl _
  · show Q54 Z a0 q0 h0 n0 _ T1.heap _
    rw [e1]
    exact ⟨rfl, N0, rfl⟩
theorem d53_0 : dc kB10 0 (.aload_n 1) 1 := by decide +kernel
theorem d53_1 : dc kB10 1 (.instanceof 1) 3 := by decide +kernel
theorem d53_4 : dc kB10 4 (.ifCond .eq 24) 3 := by decide +kernel
theorem d53_7 : dc kB10 7 (.aload_n 0) 1 := by decide +kernel
theorem d53_8 : dc kB10 8 (.getfield 273) 3 := by decide +kernel
theorem d53_11 : dc kB10 11 (.aload_n 1) 1 := by decide +kernel
theorem d53_12 : dc kB10 12 (.checkcast 1) 3 := by decide +kernel
theorem d53_15 : dc kB10 15 (.invokevirtual 280) 3 := by decide +kernel
theorem pd_10 : parseMethodDescriptor "()J" = some ⟨[], some .long⟩ := by decide +kernel
theorem d53_18 : dc kB10 18 .lcmp 1 := by decide +kernel
theorem d53_19 : dc kB10 19 (.ifCond .ne 7) 3 := by decide +kernel
theorem d53_22 : dc kB10 22 (.iconst 1) 1 := by decide +kernel
theorem d53_23 : dc kB10 23 (.goto 4) 3 := by decide +kernel
theorem d53_27 : dc kB10 27 .ireturn 1 := by decide +kernel
theorem ef_rm53e (m : MethodId) (a0 a1 : Addr) : entryFrame m #[(.ref a0), (.ref a1)] 2 = mkF m 0 #[vR a0, vR a1] [] := by first | (simp [entryFrame, mkF, argsToLocals, Value.category]; done) | rfl
def Q53e (Z : State) (a0 a1 : Addr) (x0 x1 : Int64) (h0 : Heap) (n0 : Nat) (v : Option Value) (h : Heap) (L : List Loc) : Prop := v = some (.int (1 : Int32)) ∧ Fr n0 L ∧ h = h0
theorem rm53e (l : Launch) (Z : State) (az : Array Value) (hw : HW Z az) (ws : List Jvm.Cond) (a0 a1 : Addr) (x0 x1 : Int64) (h0 : Heap) (n0 : Nat) (Z0 : n0 ≤ h0.size) (E_a0 : Exa Z h0 a0 cLG) (F_value_a0 : Fld Z h0 a0 cLG "value" "J" (.long x0)) (E_a1 : Exa Z h0 a1 cLG) (F_value_a1 : Fld Z h0 a1 cLG "value" "J" (.long x1)) (hc4 : (lcmpW x0 x1) = (0 : Int32)) :
    MF l Z h0 ws ⟨cLG, "equals", "(Ljava/lang/Object;)Z"⟩ kB10 2 (some .boolean) ⟨1, 0, 0, 14⟩ #[(.ref a0), (.ref a1)] (Q53e Z a0 a1 x0 x1 h0 n0) := by
  refine own_body cLG n0 rfl (plainFor_of_name pn_java_lang_Long) (fun m => ef_rm53e m a0 a1) ?_
  intro p e s m below meth c s₁ Bd hx hby hml hown hZ X0 e0 N0 pre0
  obtain ⟨T1, X1, e1, st1⟩ := instY X0 hx hZ hown (w325 hw) e0 (Ins.self E_a1) (g := (mkF m 1 #[vR a0, vR a1] [(.ref a1)])) rfl rfl (hb hby d53_1)
  obtain ⟨T2, X2, e2, st2⟩ := getF X1 hx hZ hown (host := "") (Or.inl (w47 hw)) Via.refl e1 F_value_a0 (g := (mkF m 8 #[vR a0, vR a1] [(.ref a0)])) rfl rfl (hb hby d53_8)
  obtain ⟨T3, X3, e3, st3⟩ := castY X2 hx hZ hown (w325 hw) e2 (Ins.self E_a1) (g := (mkF m 12 #[vR a0, vR a1] [(.ref a1), (.long x0)])) rfl rfl (hb hby d53_12)
  obtain ⟨cq4, kq4, q4a, q4b, q4c⟩ := isOf hZ e3 E_a1
  obtain ⟨_, _, ⟨T4, L4, k4', n4'⟩, -, X4, ⟨Lc4, hQ4, l4, y4, z4⟩, st4⟩ := X3.virtualBack hx (y := ⟨cLG, "longValue", "()J"⟩) (z := ⟨cLG, "longValue", "()J"⟩) hown (mvT hZ (w351 hw)) (mvT hZ (w352 hw)) (notFace_of_selects (args := #[]) (mvT hZ (w354 hw))) (mvT hZ (w354 hw)) (mvT hZ (w353 hw)) (by decide) (backOf (W := 2) (rm54 l Z az hw [] a1 x1 h0 n0 Z0 E_a1 F_value_a1) hZ (w355 hw) (w4 hw) (by decide) (by decide)) q4a q4c (g := (mkF m 15 #[vR a0, vR a1] [(.ref a1), (.long x0)])) rfl (by rw [hml]; rfl) (Steps.refl _) (argsL := []) (rest := [(.long x0)]) (lenOf pd_10 rfl) rfl (Nat.le_of_eq rfl) (hb hby d53_15) (fun _ _ => ⟨rfl, e3, (own_nle rfl), (own_nle rfl)⟩)
  dsimp only [Pt.U, Pt.locs, Pt.cells, Pt.slots] at X4 l4 y4 z4 st4 hQ4
  subst l4 y4 z4
  obtain ⟨rfl, N4q, e4⟩ := hQ4
  obtain ⟨Lg4, X4', N4⟩ := own_gen X4 (Fr.app N0 N4q)
  obtain ⟨fs, hr, hrun, hended, hW, hsame⟩ := X4'.leave (v := some (.int (1 : Int32))) (fun h => by rw [Bd.returns] at h; cases h) Bd.notSynchronized
  refine ⟨_, _, pre0 _ ?_, hrun, hended, _, _, rfl, ?_, ⟨_, rfl⟩, hW, hsame.mono (by decide) (by decide)⟩
  · show SP p e below s₁ (mkF m 0 #[vR a0, vR a1] []) _
    refine XS.aloadN X0.here hx rfl (hb hby d53_0) rfl rfl ?_
    show SP p e below s₁ (mkF m 1 #[vR a0, vR a1] [(.ref a1)]) _
    refine st1 _ ?_
    show SP p e below T1 (mkF m 4 #[vR a0, vR a1] [(.int (1 : Int32))]) _
    refine XS.ifNo X1.here hx rfl (hb hby d53_4) rfl ((if0 _ _).trans (feq (by decide : ¬ ((1 : Int32) = (0 : Int32)))).1) ?_
    refine XS.aloadN X1.here hx rfl (hb hby d53_7) rfl rfl ?_
    show SP p e below T1 (mkF m 8 #[vR a0, vR a1] [(.ref a0)]) _
    refine st2 _ ?_
    show SP p e below T2 (mkF m 11 #[vR a0, vR a1] [(.long x0)]) _
    refine XS.aloadN X2.here hx rfl (hb hby d53_11) rfl rfl ?_
    show SP p e below T2 (mkF m 12 #[vR a0, vR a1] [(.ref a1), (.long x0)]) _
    refine st3 _ ?_
    show SP p e below T3 (mkF m 15 #[vR a0, vR a1] [(.ref a1), (.long x0)]) _
    refine st4.trans ?_
    show SP p e below T4 (mkF m 18 #[vR a0, vR a1] [(.long x1), (.long x0)]) _
    refine XS.lcmp X4'.here hx rfl (hb hby d53_18) rfl ?_
    refine XS.ifNo X4'.here hx rfl (hb hby d53_19) rfl ((if0 _ _).trans (teq hc4).2) ?_
    refine XS.iconst X4'.here hx rfl (hb hby d53_22) ?_
    refine XS.goto X4'.here hx rfl (pc0 := 23) (pc' := 27) rfl (hb hby d53_23) (by decide) (by decide) ?_
    show SP p e below T4 (mkF m 27 #[vR a0, vR a1] [(.int (1 : Int32))]) _
    exact retN X4' hx (t := .boolean) Bd.returns (by simp) (hb hby d53_27) hr
  · show Q53e Z a0 a1 x0 x1 h0 n0 _ T4.heap _
    rw [e4]
    exact ⟨rfl, N4, rfl⟩
theorem d53_26 : dc kB10 26 (.iconst 0) 1 := by decide +kernel
theorem ef_rm53d (m : MethodId) (a0 a1 : Addr) : entryFrame m #[(.ref a0), (.ref a1)] 2 = mkF m 0 #[vR a0, vR a1] [] := by first | (simp [entryFrame, mkF, argsToLocals, Value.category]; done) | rfl
def Q53d (Z : State) (a0 a1 : Addr) (x0 x1 : Int64) (h0 : Heap) (n0 : Nat) (v : Option Value) (h : Heap) (L : List Loc) : Prop := v = some (.int (0 : Int32)) ∧ Fr n0 L ∧ h = h0
theorem rm53d (l : Launch) (Z : State) (az : Array Value) (hw : HW Z az) (ws : List Jvm.Cond) (a0 a1 : Addr) (x0 x1 : Int64) (h0 : Heap) (n0 : Nat) (Z0 : n0 ≤ h0.size) (E_a0 : Exa Z h0 a0 cLG) (F_value_a0 : Fld Z h0 a0 cLG "value" "J" (.long x0)) (E_a1 : Exa Z h0 a1 cLG) (F_value_a1 : Fld Z h0 a1 cLG "value" "J" (.long x1)) (hc4 : ¬ ((lcmpW x0 x1) = (0 : Int32))) :
    MF l Z h0 ws ⟨cLG, "equals", "(Ljava/lang/Object;)Z"⟩ kB10 2 (some .boolean) ⟨1, 0, 0, 14⟩ #[(.ref a0), (.ref a1)] (Q53d Z a0 a1 x0 x1 h0 n0) := by
  refine own_body cLG n0 rfl (plainFor_of_name pn_java_lang_Long) (fun m => ef_rm53d m a0 a1) ?_
  intro p e s m below meth c s₁ Bd hx hby hml hown hZ X0 e0 N0 pre0
  obtain ⟨T1, X1, e1, st1⟩ := instY X0 hx hZ hown (w325 hw) e0 (Ins.self E_a1) (g := (mkF m 1 #[vR a0, vR a1] [(.ref a1)])) rfl rfl (hb hby d53_1)
  obtain ⟨T2, X2, e2, st2⟩ := getF X1 hx hZ hown (host := "") (Or.inl (w47 hw)) Via.refl e1 F_value_a0 (g := (mkF m 8 #[vR a0, vR a1] [(.ref a0)])) rfl rfl (hb hby d53_8)
  obtain ⟨T3, X3, e3, st3⟩ := castY X2 hx hZ hown (w325 hw) e2 (Ins.self E_a1) (g := (mkF m 12 #[vR a0, vR a1] [(.ref a1), (.long x0)])) rfl rfl (hb hby d53_12)
  obtain ⟨cq4, kq4, q4a, q4b, q4c⟩ := isOf hZ e3 E_a1
  obtain ⟨_, _, ⟨T4, L4, k4', n4'⟩, -, X4, ⟨Lc4, hQ4, l4, y4, z4⟩, st4⟩ := X3.virtualBack hx (y := ⟨cLG, "longValue", "()J"⟩) (z := ⟨cLG, "longValue", "()J"⟩) hown (mvT hZ (w351 hw)) (mvT hZ (w352 hw)) (notFace_of_selects (args := #[]) (mvT hZ (w354 hw))) (mvT hZ (w354 hw)) (mvT hZ (w353 hw)) (by decide) (backOf (W := 2) (rm54 l Z az hw [] a1 x1 h0 n0 Z0 E_a1 F_value_a1) hZ (w355 hw) (w4 hw) (by decide) (by decide)) q4a q4c (g := (mkF m 15 #[vR a0, vR a1] [(.ref a1), (.long x0)])) rfl (by rw [hml]; rfl) (Steps.refl _) (argsL := []) (rest := [(.long x0)]) (lenOf pd_10 rfl) rfl (Nat.le_of_eq rfl) (hb hby d53_15) (fun _ _ => ⟨rfl, e3, (own_nle rfl), (own_nle rfl)⟩)
  dsimp only [Pt.U, Pt.locs, Pt.cells, Pt.slots] at X4 l4 y4 z4 st4 hQ4
  subst l4 y4 z4
  obtain ⟨rfl, N4q, e4⟩ := hQ4
  obtain ⟨Lg4, X4', N4⟩ := own_gen X4 (Fr.app N0 N4q)
  obtain ⟨fs, hr, hrun, hended, hW, hsame⟩ := X4'.leave (v := some (.int (0 : Int32))) (fun h => by rw [Bd.returns] at h; cases h) Bd.notSynchronized
  refine ⟨_, _, pre0 _ ?_, hrun, hended, _, _, rfl, ?_, ⟨_, rfl⟩, hW, hsame.mono (by decide) (by decide)⟩
  · show SP p e below s₁ (mkF m 0 #[vR a0, vR a1] []) _
    refine XS.aloadN X0.here hx rfl (hb hby d53_0) rfl rfl ?_
    show SP p e below s₁ (mkF m 1 #[vR a0, vR a1] [(.ref a1)]) _
    refine st1 _ ?_
    show SP p e below T1 (mkF m 4 #[vR a0, vR a1] [(.int (1 : Int32))]) _
    refine XS.ifNo X1.here hx rfl (hb hby d53_4) rfl ((if0 _ _).trans (feq (by decide : ¬ ((1 : Int32) = (0 : Int32)))).1) ?_
    refine XS.aloadN X1.here hx rfl (hb hby d53_7) rfl rfl ?_
    show SP p e below T1 (mkF m 8 #[vR a0, vR a1] [(.ref a0)]) _
    refine st2 _ ?_
    show SP p e below T2 (mkF m 11 #[vR a0, vR a1] [(.long x0)]) _
    refine XS.aloadN X2.here hx rfl (hb hby d53_11) rfl rfl ?_
    show SP p e below T2 (mkF m 12 #[vR a0, vR a1] [(.ref a1), (.long x0)]) _
    refine st3 _ ?_
    show SP p e below T3 (mkF m 15 #[vR a0, vR a1] [(.ref a1), (.long x0)]) _
    refine st4.trans ?_
    show SP p e below T4 (mkF m 18 #[vR a0, vR a1] [(.long x1), (.long x0)]) _
    refine XS.lcmp X4'.here hx rfl (hb hby d53_18) rfl ?_
    refine XS.ifYes X4'.here hx rfl (pc0 := 19) (pc' := 26) rfl (hb hby d53_19) rfl ((if0 _ _).trans (feq hc4).2) (by decide) (by decide) ?_
    refine XS.iconst X4'.here hx rfl (hb hby d53_26) ?_
    show SP p e below T4 (mkF m 27 #[vR a0, vR a1] [(.int (0 : Int32))]) _
    exact retN X4' hx (t := .boolean) Bd.returns (by simp) (hb hby d53_27) hr
  · show Q53d Z a0 a1 x0 x1 h0 n0 _ T4.heap _
    rw [e4]
    exact ⟨rfl, N4, rfl⟩
theorem d52_0 : dc kB3 0 (.aload_n 0) 1 := by decide +kernel
theorem d52_1 : dc kB3 1 (.aload_n 1) 1 := by decide +kernel
theorem d52_2 : dc kB3 2 (.if_acmp .eq 15) 3 := by decide +kernel
theorem d52_17 : dc kB3 17 (.iconst 1) 1 := by decide +kernel
theorem d52_18 : dc kB3 18 (.goto 4) 3 := by decide +kernel
theorem d52_22 : dc kB3 22 .ireturn 1 := by decide +kernel
theorem pn_java_util_Objects : plainName "java/util/Objects" = true := by first | (simp [plainName, overriddenIn]; done) | decide +kernel
theorem ef_rm52s (m : MethodId) (a0 : Addr) : entryFrame m #[(.ref a0), (.ref a0)] 2 = mkF m 0 #[vR a0, vR a0] [] := by first | (simp [entryFrame, mkF, argsToLocals, Value.category]; done) | rfl
def Q52s (Z : State) (a0 : Addr) (h0 : Heap) (n0 : Nat) (v : Option Value) (h : Heap) (L : List Loc) : Prop := v = some (.int (1 : Int32)) ∧ Fr n0 L ∧ h = h0
theorem rm52s (l : Launch) (Z : State) (az : Array Value) (hw : HW Z az) (ws : List Jvm.Cond) (a0 : Addr) (h0 : Heap) (n0 : Nat) (Z0 : n0 ≤ h0.size) :
    MF l Z h0 ws ⟨"java/util/Objects", "equals", "(Ljava/lang/Object;Ljava/lang/Object;)Z"⟩ kB3 2 (some .boolean) ⟨0, 0, 0, 0⟩ #[(.ref a0), (.ref a0)] (Q52s Z a0 h0 n0) := by
  refine own_body "java/util/Objects" n0 rfl (plainFor_of_name pn_java_util_Objects) (fun m => ef_rm52s m a0) ?_
  intro p e s m below meth c s₁ Bd hx hby hml hown hZ X0 e0 N0 pre0
  obtain ⟨fs, hr, hrun, hended, hW, hsame⟩ := X0.leave (v := some (.int (1 : Int32))) (fun h => by rw [Bd.returns] at h; cases h) Bd.notSynchronized
  refine ⟨_, _, pre0 _ ?_, hrun, hended, _, _, rfl, ?_, ⟨_, rfl⟩, hW, hsame.mono (by decide) (by decide)⟩
  · show SP p e below s₁ (mkF m 0 #[vR a0, vR a0] []) _
    refine XS.aloadN X0.here hx rfl (hb hby d52_0) rfl rfl ?_
    refine XS.aloadN X0.here hx rfl (hb hby d52_1) rfl rfl ?_
    show SP p e below s₁ (mkF m 2 #[vR a0, vR a0] [(.ref a0), (.ref a0)]) _
    refine Jvm.RoadKit.acmp (g := (mkF m 2 #[vR a0, vR a0] [(.ref a0), (.ref a0)])) X0 hx rfl rfl rfl (pc0 := 2) (pc' := 17) (same := true) rfl (hb hby d52_2) rfl (decide_eq_true rfl) (by decide) (by decide) ?_
    show SP p e below s₁ (mkF m 17 #[vR a0, vR a0] []) _
    refine XS.iconst X0.here hx rfl (hb hby d52_17) ?_
    refine XS.goto X0.here hx rfl (pc0 := 18) (pc' := 22) rfl (hb hby d52_18) (by decide) (by decide) ?_
    show SP p e below s₁ (mkF m 22 #[vR a0, vR a0] [(.int (1 : Int32))]) _
    exact retN X0 hx (t := .boolean) Bd.returns (by simp) (hb hby d52_22) hr
  · show Q52s Z a0 h0 n0 _ s₁.heap _
    rw [e0]
    exact ⟨rfl, N0, rfl⟩
theorem d52_5 : dc kB3 5 (.aload_n 0) 1 := by decide +kernel
theorem d52_6 : dc kB3 6 (.ifnull 15) 3 := by decide +kernel
theorem d52_9 : dc kB3 9 (.aload_n 0) 1 := by decide +kernel
theorem d52_10 : dc kB3 10 (.aload_n 1) 1 := by decide +kernel
theorem d52_11 : dc kB3 11 (.invokevirtual 14) 3 := by decide +kernel
theorem pd_11 : parseMethodDescriptor "(Ljava/lang/Object;)Z" = some ⟨[(.object "java/lang/Object")], some .boolean⟩ := by decide +kernel
theorem d52_14 : dc kB3 14 (.ifCond .eq 7) 3 := by decide +kernel
theorem ef_rm52e (m : MethodId) (a0 a1 : Addr) : entryFrame m #[(.ref a0), (.ref a1)] 2 = mkF m 0 #[vR a0, vR a1] [] := by first | (simp [entryFrame, mkF, argsToLocals, Value.category]; done) | rfl
def Q52e (Z : State) (a0 a1 : Addr) (x0 x1 : Int64) (h0 : Heap) (n0 : Nat) (v : Option Value) (h : Heap) (L : List Loc) : Prop := v = some (.int (1 : Int32)) ∧ Fr n0 L ∧ h = h0
theorem rm52e (l : Launch) (Z : State) (az : Array Value) (hw : HW Z az) (ws : List Jvm.Cond) (a0 a1 : Addr) (x0 x1 : Int64) (h0 : Heap) (n0 : Nat) (Z0 : n0 ≤ h0.size) (E_a0 : Exa Z h0 a0 cLG) (F_value_a0 : Fld Z h0 a0 cLG "value" "J" (.long x0)) (E_a1 : Exa Z h0 a1 cLG) (F_value_a1 : Fld Z h0 a1 cLG "value" "J" (.long x1)) (hne_a0_a1 : a0 ≠ a1) (hc5 : (lcmpW x0 x1) = (0 : Int32)) :
    MF l Z h0 ws ⟨"java/util/Objects", "equals", "(Ljava/lang/Object;Ljava/lang/Object;)Z"⟩ kB3 2 (some .boolean) ⟨2, 0, 0, 27⟩ #[(.ref a0), (.ref a1)] (Q52e Z a0 a1 x0 x1 h0 n0) := by
  refine own_body "java/util/Objects" n0 rfl (plainFor_of_name pn_java_util_Objects) (fun m => ef_rm52e m a0 a1) ?_
  intro p e s m below meth c s₁ Bd hx hby hml hown hZ X0 e0 N0 pre0
  obtain ⟨cq1, kq1, q1a, q1b, q1c⟩ := isOf hZ e0 E_a0
  obtain ⟨_, _, ⟨T1, L1, k1', n1'⟩, -, X1, ⟨Lc1, hQ1, l1, y1, z1⟩, st1⟩ := X0.virtualBack hx (y := ⟨"java/lang/Object", "equals", "(Ljava/lang/Object;)Z"⟩) (z := ⟨cLG, "equals", "(Ljava/lang/Object;)Z"⟩) hown (mvT hZ (w347 hw)) (mvT hZ (w299 hw)) (own_nf (args := #[]) (mvT hZ (w19 hw)) rfl) (mvT hZ (w348 hw)) (mvT hZ (w349 hw)) (by decide) (backOf (W := 0) (rm53e l Z az hw [] a0 a1 x0 x1 h0 n0 Z0 E_a0 F_value_a0 E_a1 F_value_a1 hc5) hZ (w350 hw) (w4 hw) (by decide) (by decide)) q1a q1c (g := (mkF m 11 #[vR a0, vR a1] [(.ref a1), (.ref a0)])) rfl (by rw [hml]; rfl) (Steps.refl _) (argsL := [(.ref a1)]) (rest := []) (lenOf pd_11 rfl) rfl (Nat.le_of_eq rfl) (hb hby d52_11) (fun _ _ => ⟨rfl, e0, (own_nle rfl), (own_nle rfl)⟩)
  dsimp only [Pt.U, Pt.locs, Pt.cells, Pt.slots] at X1 l1 y1 z1 st1 hQ1
  subst l1 y1 z1
  obtain ⟨rfl, N1q, e1⟩ := hQ1
  obtain ⟨Lg1, X1', N1⟩ := own_gen X1 (Fr.app N0 N1q)
  obtain ⟨fs, hr, hrun, hended, hW, hsame⟩ := X1'.leave (v := some (.int (1 : Int32))) (fun h => by rw [Bd.returns] at h; cases h) Bd.notSynchronized
  refine ⟨_, _, pre0 _ ?_, hrun, hended, _, _, rfl, ?_, ⟨_, rfl⟩, hW, hsame.mono (by decide) (by decide)⟩
  · show SP p e below s₁ (mkF m 0 #[vR a0, vR a1] []) _
    refine XS.aloadN X0.here hx rfl (hb hby d52_0) rfl rfl ?_
    refine XS.aloadN X0.here hx rfl (hb hby d52_1) rfl rfl ?_
    show SP p e below s₁ (mkF m 2 #[vR a0, vR a1] [(.ref a1), (.ref a0)]) _
    refine Jvm.RoadKit.acmp (g := (mkF m 2 #[vR a0, vR a1] [(.ref a1), (.ref a0)])) X0 hx rfl rfl rfl (pc0 := 2) (pc' := 5) (same := false) rfl (hb hby d52_2) rfl (decide_eq_false fun q => hne_a0_a1 (Value.ref.inj q)) (by decide) (by decide) ?_
    show SP p e below s₁ (mkF m 5 #[vR a0, vR a1] []) _
    refine XS.aloadN X0.here hx rfl (hb hby d52_5) rfl rfl ?_
    show SP p e below s₁ (mkF m 6 #[vR a0, vR a1] [(.ref a0)]) _
    refine XS.ifnullNo X0.here hx rfl (hb hby d52_6) rfl ?_
    refine XS.aloadN X0.here hx rfl (hb hby d52_9) rfl rfl ?_
    refine XS.aloadN X0.here hx rfl (hb hby d52_10) rfl rfl ?_
    show SP p e below s₁ (mkF m 11 #[vR a0, vR a1] [(.ref a1), (.ref a0)]) _
    refine st1.trans ?_
    show SP p e below T1 (mkF m 14 #[vR a0, vR a1] [(.int (1 : Int32))]) _
    refine XS.ifNo X1'.here hx rfl (hb hby d52_14) rfl ((if0 _ _).trans (feq (by decide : ¬ ((1 : Int32) = (0 : Int32)))).1) ?_
    refine XS.iconst X1'.here hx rfl (hb hby d52_17) ?_
    refine XS.goto X1'.here hx rfl (pc0 := 18) (pc' := 22) rfl (hb hby d52_18) (by decide) (by decide) ?_
    show SP p e below T1 (mkF m 22 #[vR a0, vR a1] [(.int (1 : Int32))]) _
    exact retN X1' hx (t := .boolean) Bd.returns (by simp) (hb hby d52_22) hr
  · show Q52e Z a0 a1 x0 x1 h0 n0 _ T1.heap _
    rw [e1]
    exact ⟨rfl, N1, rfl⟩
theorem d52_21 : dc kB3 21 (.iconst 0) 1 := by decide +kernel
theorem ef_rm52d (m : MethodId) (a0 a1 : Addr) : entryFrame m #[(.ref a0), (.ref a1)] 2 = mkF m 0 #[vR a0, vR a1] [] := by first | (simp [entryFrame, mkF, argsToLocals, Value.category]; done) | rfl
def Q52d (Z : State) (a0 a1 : Addr) (x0 x1 : Int64) (h0 : Heap) (n0 : Nat) (v : Option Value) (h : Heap) (L : List Loc) : Prop := v = some (.int (0 : Int32)) ∧ Fr n0 L ∧ h = h0
theorem rm52d (l : Launch) (Z : State) (az : Array Value) (hw : HW Z az) (ws : List Jvm.Cond) (a0 a1 : Addr) (x0 x1 : Int64) (h0 : Heap) (n0 : Nat) (Z0 : n0 ≤ h0.size) (E_a0 : Exa Z h0 a0 cLG) (F_value_a0 : Fld Z h0 a0 cLG "value" "J" (.long x0)) (E_a1 : Exa Z h0 a1 cLG) (F_value_a1 : Fld Z h0 a1 cLG "value" "J" (.long x1)) (hne_a0_a1 : a0 ≠ a1) (hc5 : ¬ ((lcmpW x0 x1) = (0 : Int32))) :
    MF l Z h0 ws ⟨"java/util/Objects", "equals", "(Ljava/lang/Object;Ljava/lang/Object;)Z"⟩ kB3 2 (some .boolean) ⟨2, 0, 0, 27⟩ #[(.ref a0), (.ref a1)] (Q52d Z a0 a1 x0 x1 h0 n0) := by
  refine own_body "java/util/Objects" n0 rfl (plainFor_of_name pn_java_util_Objects) (fun m => ef_rm52d m a0 a1) ?_
  intro p e s m below meth c s₁ Bd hx hby hml hown hZ X0 e0 N0 pre0
  obtain ⟨cq1, kq1, q1a, q1b, q1c⟩ := isOf hZ e0 E_a0
  obtain ⟨_, _, ⟨T1, L1, k1', n1'⟩, -, X1, ⟨Lc1, hQ1, l1, y1, z1⟩, st1⟩ := X0.virtualBack hx (y := ⟨"java/lang/Object", "equals", "(Ljava/lang/Object;)Z"⟩) (z := ⟨cLG, "equals", "(Ljava/lang/Object;)Z"⟩) hown (mvT hZ (w347 hw)) (mvT hZ (w299 hw)) (own_nf (args := #[]) (mvT hZ (w19 hw)) rfl) (mvT hZ (w348 hw)) (mvT hZ (w349 hw)) (by decide) (backOf (W := 0) (rm53d l Z az hw [] a0 a1 x0 x1 h0 n0 Z0 E_a0 F_value_a0 E_a1 F_value_a1 hc5) hZ (w350 hw) (w4 hw) (by decide) (by decide)) q1a q1c (g := (mkF m 11 #[vR a0, vR a1] [(.ref a1), (.ref a0)])) rfl (by rw [hml]; rfl) (Steps.refl _) (argsL := [(.ref a1)]) (rest := []) (lenOf pd_11 rfl) rfl (Nat.le_of_eq rfl) (hb hby d52_11) (fun _ _ => ⟨rfl, e0, (own_nle rfl), (own_nle rfl)⟩)
  dsimp only [Pt.U, Pt.locs, Pt.cells, Pt.slots] at X1 l1 y1 z1 st1 hQ1
  subst l1 y1 z1
  obtain ⟨rfl, N1q, e1⟩ := hQ1
  obtain ⟨Lg1, X1', N1⟩ := own_gen X1 (Fr.app N0 N1q)
  obtain ⟨fs, hr, hrun, hended, hW, hsame⟩ := X1'.leave (v := some (.int (0 : Int32))) (fun h => by rw [Bd.returns] at h; cases h) Bd.notSynchronized
  refine ⟨_, _, pre0 _ ?_, hrun, hended, _, _, rfl, ?_, ⟨_, rfl⟩, hW, hsame.mono (by decide) (by decide)⟩
  · show SP p e below s₁ (mkF m 0 #[vR a0, vR a1] []) _
    refine XS.aloadN X0.here hx rfl (hb hby d52_0) rfl rfl ?_
    refine XS.aloadN X0.here hx rfl (hb hby d52_1) rfl rfl ?_
    show SP p e below s₁ (mkF m 2 #[vR a0, vR a1] [(.ref a1), (.ref a0)]) _
    refine Jvm.RoadKit.acmp (g := (mkF m 2 #[vR a0, vR a1] [(.ref a1), (.ref a0)])) X0 hx rfl rfl rfl (pc0 := 2) (pc' := 5) (same := false) rfl (hb hby d52_2) rfl (decide_eq_false fun q => hne_a0_a1 (Value.ref.inj q)) (by decide) (by decide) ?_
    show SP p e below s₁ (mkF m 5 #[vR a0, vR a1] []) _
    refine XS.aloadN X0.here hx rfl (hb hby d52_5) rfl rfl ?_
    show SP p e below s₁ (mkF m 6 #[vR a0, vR a1] [(.ref a0)]) _
    refine XS.ifnullNo X0.here hx rfl (hb hby d52_6) rfl ?_
    refine XS.aloadN X0.here hx rfl (hb hby d52_9) rfl rfl ?_
    refine XS.aloadN X0.here hx rfl (hb hby d52_10) rfl rfl ?_
    show SP p e below s₁ (mkF m 11 #[vR a0, vR a1] [(.ref a1), (.ref a0)]) _
    refine st1.trans ?_
    show SP p e below T1 (mkF m 14 #[vR a0, vR a1] [(.int (0 : Int32))]) _
    refine XS.ifYes X1'.here hx rfl (pc0 := 14) (pc' := 21) rfl (hb hby d52_14) rfl ((if0 _ _).trans (teq (by decide : (0 : Int32) = (0 : Int32))).1) (by decide) (by decide) ?_
    refine XS.iconst X1'.here hx rfl (hb hby d52_21) ?_
    show SP p e below T1 (mkF m 22 #[vR a0, vR a1] [(.int (0 : Int32))]) _
    exact retN X1' hx (t := .boolean) Bd.returns (by simp) (hb hby d52_22) hr
  · show Q52d Z a0 a1 x0 x1 h0 n0 _ T1.heap _
    rw [e1]
    exact ⟨rfl, N1, rfl⟩
theorem d45_0 : dc kB15 0 (.aload_n 0) 1 := by decide +kernel
theorem d45_1 : dc kB15 1 (.aload_n 1) 1 := by decide +kernel
theorem d45_2 : dc kB15 2 (.if_acmp .ne 5) 3 := by decide +kernel
theorem d45_5 : dc kB15 5 (.iconst 1) 1 := by decide +kernel
theorem d45_6 : dc kB15 6 .ireturn 1 := by decide +kernel
theorem ef_rm45S (m : MethodId) (a0 : Addr) : entryFrame m #[(.ref a0), (.ref a0)] 4 = mkF m 0 #[vR a0, vR a0, .unset, .unset] [] := by first | (simp [entryFrame, mkF, argsToLocals, Value.category]; done) | rfl
def Q45S (Z : State) (a0 : Addr) (h0 : Heap) (n0 : Nat) (v : Option Value) (h : Heap) (L : List Loc) : Prop := v = some (.int (1 : Int32)) ∧ Fr n0 L ∧ h = h0
theorem rm45S (l : Launch) (Z : State) (az : Array Value) (hw : HW Z az) (ws : List Jvm.Cond) (a0 : Addr) (h0 : Heap) (n0 : Nat) (Z0 : n0 ≤ h0.size) :
    MF l Z h0 ws ⟨"java/util/Arrays", "equals", "([Ljava/lang/Object;[Ljava/lang/Object;)Z"⟩ kB15 4 (some .boolean) ⟨0, 0, 0, 0⟩ #[(.ref a0), (.ref a0)] (Q45S Z a0 h0 n0) := by
  refine own_body "java/util/Arrays" n0 rfl (plainFor_of_name pn_java_util_Arrays) (fun m => ef_rm45S m a0) ?_
  intro p e s m below meth c s₁ Bd hx hby hml hown hZ X0 e0 N0 pre0
  obtain ⟨fs, hr, hrun, hended, hW, hsame⟩ := X0.leave (v := some (.int (1 : Int32))) (fun h => by rw [Bd.returns] at h; cases h) Bd.notSynchronized
  refine ⟨_, _, pre0 _ ?_, hrun, hended, _, _, rfl, ?_, ⟨_, rfl⟩, hW, hsame.mono (by decide) (by decide)⟩
  · show SP p e below s₁ (mkF m 0 #[vR a0, vR a0, .unset, .unset] []) _
    refine XS.aloadN X0.here hx rfl (hb hby d45_0) rfl rfl ?_
    refine XS.aloadN X0.here hx rfl (hb hby d45_1) rfl rfl ?_
    show SP p e below s₁ (mkF m 2 #[vR a0, vR a0, .unset, .unset] [(.ref a0), (.ref a0)]) _
    refine Jvm.RoadKit.acmp (g := (mkF m 2 #[vR a0, vR a0, .unset, .unset] [(.ref a0), (.ref a0)])) X0 hx rfl rfl rfl (pc0 := 2) (pc' := 5) (same := true) rfl (hb hby d45_2) rfl (decide_eq_true rfl) (by decide) (by decide) ?_
    show SP p e below s₁ (mkF m 5 #[vR a0, vR a0, .unset, .unset] []) _
    refine XS.iconst X0.here hx rfl (hb hby d45_5) ?_
    show SP p e below s₁ (mkF m 6 #[vR a0, vR a0, .unset, .unset] [(.int (1 : Int32))]) _
    exact retN X0 hx (t := .boolean) Bd.returns (by simp) (hb hby d45_6) hr
  · show Q45S Z a0 h0 n0 _ s₁.heap _
    rw [e0]
    exact ⟨rfl, N0, rfl⟩
theorem d45_7 : dc kB15 7 (.aload_n 0) 1 := by decide +kernel
theorem d45_8 : dc kB15 8 (.ifnull 7) 3 := by decide +kernel
theorem d45_11 : dc kB15 11 (.aload_n 1) 1 := by decide +kernel
theorem d45_12 : dc kB15 12 (.ifnonnull 5) 3 := by decide +kernel
theorem d45_17 : dc kB15 17 (.aload_n 0) 1 := by decide +kernel
theorem d45_18 : dc kB15 18 .arraylength 1 := by decide +kernel
theorem d45_19 : dc kB15 19 (.istore_n 2) 1 := by decide +kernel
theorem d45_20 : dc kB15 20 (.aload_n 1) 1 := by decide +kernel
theorem d45_21 : dc kB15 21 .arraylength 1 := by decide +kernel
theorem d45_22 : dc kB15 22 (.iload_n 2) 1 := by decide +kernel
theorem d45_23 : dc kB15 23 (.if_icmp .eq 5) 3 := by decide +kernel
theorem d45_28 : dc kB15 28 (.iconst 0) 1 := by decide +kernel
theorem d45_29 : dc kB15 29 (.istore_n 3) 1 := by decide +kernel
theorem d45_30 : dc kB15 30 (.iload_n 3) 1 := by decide +kernel
theorem d45_31 : dc kB15 31 (.iload_n 2) 1 := by decide +kernel
theorem d45_32 : dc kB15 32 (.if_icmp .ge 23) 3 := by decide +kernel
theorem d45_35 : dc kB15 35 (.aload_n 0) 1 := by decide +kernel
theorem d45_36 : dc kB15 36 (.iload_n 3) 1 := by decide +kernel
theorem d45_37 : dc kB15 37 .aaload 1 := by decide +kernel
theorem d45_38 : dc kB15 38 (.aload_n 1) 1 := by decide +kernel
theorem d45_39 : dc kB15 39 (.iload_n 3) 1 := by decide +kernel
theorem d45_40 : dc kB15 40 .aaload 1 := by decide +kernel
theorem d45_41 : dc kB15 41 (.invokestatic 296) 3 := by decide +kernel
theorem pd_12 : parseMethodDescriptor "(Ljava/lang/Object;Ljava/lang/Object;)Z" = some ⟨[(.object "java/lang/Object"), (.object "java/lang/Object")], some .boolean⟩ := by decide +kernel
theorem d45_44 : dc kB15 44 (.ifCond .ne 5) 3 := by decide +kernel
theorem d45_49 : dc kB15 49 (.iinc 3 1) 3 := by decide +kernel
theorem d45_52 : dc kB15 52 (.goto (-22)) 3 := by decide +kernel
theorem d45_55 : dc kB15 55 (.iconst 1) 1 := by decide +kernel
theorem d45_56 : dc kB15 56 .ireturn 1 := by decide +kernel
theorem ef_rm45s (m : MethodId) (a0 a1 : Addr) : entryFrame m #[(.ref a0), (.ref a1)] 4 = mkF m 0 #[vR a0, vR a1, .unset, .unset] [] := by first | (simp [entryFrame, mkF, argsToLocals, Value.category]; done) | rfl
def Q45s (Z : State) (a0 a1 : Addr) (ka0 : ClassId) (lx : Addr) (ka1 : ClassId) (h0 : Heap) (n0 : Nat) (v : Option Value) (h : Heap) (L : List Loc) : Prop := v = some (.int (1 : Int32)) ∧ Fr n0 L ∧ h = h0
theorem rm45s (l : Launch) (Z : State) (az : Array Value) (hw : HW Z az) (ws : List Jvm.Cond) (a0 a1 : Addr) (ka0 : ClassId) (lx : Addr) (ka1 : ClassId) (h0 : Heap) (n0 : Nat) (Z0 : n0 ≤ h0.size) (V_a0 : Arv Z h0 a0 ka0 (.object "java/lang/Object") (1 : Int32) [(.ref lx)] .null) (E_a0 : Exa Z h0 a0 cOA) (V_a1 : Arv Z h0 a1 ka1 (.object "java/lang/Object") (1 : Int32) [(.ref lx)] .null) (E_a1 : Exa Z h0 a1 cOA) (hne_a0_a1 : a0 ≠ a1) :
    MF l Z h0 ws ⟨"java/util/Arrays", "equals", "([Ljava/lang/Object;[Ljava/lang/Object;)Z"⟩ kB15 4 (some .boolean) ⟨1, 0, 0, 13⟩ #[(.ref a0), (.ref a1)] (Q45s Z a0 a1 ka0 lx ka1 h0 n0) := by
  refine own_body "java/util/Arrays" n0 rfl (plainFor_of_name pn_java_util_Arrays) (fun m => ef_rm45s m a0 a1) ?_
  intro p e s m below meth c s₁ Bd hx hby hml hown hZ X0 e0 N0 pre0
  obtain ⟨cl1, Ar1, qk1, Sz1, Ng1, Hs1, Gf1⟩ := id V_a0
  obtain ⟨cl2, Ar2, qk2, Sz2, Ng2, Hs2, Gf2⟩ := id V_a1
  have hin3 : ¬ ((0 : Int32) < 0 ∨ cl1.slots.size ≤ ((0 : Int32)).toNatClampNeg) := inb_of Sz1 ⟨by decide, by decide⟩
  have hat4 : cl1.slots[((0 : Int32)).toNatClampNeg]? = some (.ref lx) := Hs1.at hin3 rfl
  have hin5 : ¬ ((0 : Int32) < 0 ∨ cl2.slots.size ≤ ((0 : Int32)).toNatClampNeg) := inb_of Sz2 ⟨by decide, by decide⟩
  have hat6 : cl2.slots[((0 : Int32)).toNatClampNeg]? = some (.ref lx) := Hs2.at hin5 rfl
  obtain ⟨_, _, ⟨T7, L7, k7', n7'⟩, -, X7, ⟨Lc7, hQ7, l7, y7, z7⟩, st7⟩ := Jvm.LawKit.callS X0 hx (y := ⟨"java/util/Objects", "equals", "(Ljava/lang/Object;Ljava/lang/Object;)Z"⟩) hown (mvT hZ (w343 hw)) (mvT hZ (w344 hw)) (mvT hZ (w345 hw)) (mvT hZ (w346 hw)) (by decide) (backOf (W := 0) (rm52s l Z az hw [] lx h0 n0 Z0) hZ (w346 hw) (w345 hw) (by decide) (by decide)) (g := (mkF m 41 #[vR a0, vR a1, vI (1 : Int32), vI (0 : Int32)] [(.ref lx), (.ref lx)])) rfl (by rw [hml]; rfl) (argsL := [(.ref lx), (.ref lx)]) (rest := []) (lenOf pd_12 rfl) rfl (Nat.le_of_eq rfl) (hb hby d45_41) (fun _ _ => ⟨rfl, e0, (own_nle rfl), (own_nle rfl)⟩)
  dsimp only [Pt.U, Pt.locs, Pt.cells, Pt.slots] at X7 l7 y7 z7 st7 hQ7
  subst l7 y7 z7
  obtain ⟨rfl, N7q, e7⟩ := hQ7
  obtain ⟨Lg7, X7', N7⟩ := own_gen X7 (Fr.app N0 N7q)
  obtain ⟨fs, hr, hrun, hended, hW, hsame⟩ := X7'.leave (v := some (.int (1 : Int32))) (fun h => by rw [Bd.returns] at h; cases h) Bd.notSynchronized
  refine ⟨_, _, pre0 _ ?_, hrun, hended, _, _, rfl, ?_, ⟨_, rfl⟩, hW, hsame.mono (by decide) (by decide)⟩
  · show SP p e below s₁ (mkF m 0 #[vR a0, vR a1, .unset, .unset] []) _
    refine XS.aloadN X0.here hx rfl (hb hby d45_0) rfl rfl ?_
    refine XS.aloadN X0.here hx rfl (hb hby d45_1) rfl rfl ?_
    show SP p e below s₁ (mkF m 2 #[vR a0, vR a1, .unset, .unset] [(.ref a1), (.ref a0)]) _
    refine Jvm.RoadKit.acmp (g := (mkF m 2 #[vR a0, vR a1, .unset, .unset] [(.ref a1), (.ref a0)])) X0 hx rfl rfl rfl (pc0 := 2) (pc' := 7) (same := false) rfl (hb hby d45_2) rfl (decide_eq_false fun q => hne_a0_a1 (Value.ref.inj q)) (by decide) (by decide) ?_
    show SP p e below s₁ (mkF m 7 #[vR a0, vR a1, .unset, .unset] []) _
    refine XS.aloadN X0.here hx rfl (hb hby d45_7) rfl rfl ?_
    show SP p e below s₁ (mkF m 8 #[vR a0, vR a1, .unset, .unset] [(.ref a0)]) _
    refine XS.ifnullNo X0.here hx rfl (hb hby d45_8) rfl ?_
    refine XS.aloadN X0.here hx rfl (hb hby d45_11) rfl rfl ?_
    show SP p e below s₁ (mkF m 12 #[vR a0, vR a1, .unset, .unset] [(.ref a1)]) _
    refine XS.ifnonnullYes X0.here hx rfl (pc0 := 12) (pc' := 17) rfl (hb hby d45_12) rfl (by decide) (by decide) ?_
    refine XS.aloadN X0.here hx rfl (hb hby d45_17) rfl rfl ?_
    show SP p e below s₁ (mkF m 18 #[vR a0, vR a1, .unset, .unset] [(.ref a0)]) _
    refine X0.arraylength hx (by rw [e0]; exact Ar1.1) (State.isArrayOf_alike hZ.alike Ar1.2.1) (g := (mkF m 18 #[vR a0, vR a1, .unset, .unset] [(.ref a0)])) rfl rfl (hb hby d45_18) _ ?_
    rw [len_of Sz1 Ng1]
    show SP p e below s₁ (mkF m 19 #[vR a0, vR a1, .unset, .unset] [(.int (1 : Int32))]) _
    refine XS.istoreN X0.here hx rfl (hb hby d45_19) rfl (l' := #[vR a0, vR a1, vI (1 : Int32), .unset]) rfl ?_
    refine XS.aloadN X0.here hx rfl (hb hby d45_20) rfl rfl ?_
    show SP p e below s₁ (mkF m 21 #[vR a0, vR a1, vI (1 : Int32), .unset] [(.ref a1)]) _
    refine X0.arraylength hx (by rw [e0]; exact Ar2.1) (State.isArrayOf_alike hZ.alike Ar2.2.1) (g := (mkF m 21 #[vR a0, vR a1, vI (1 : Int32), .unset] [(.ref a1)])) rfl rfl (hb hby d45_21) _ ?_
    rw [len_of Sz2 Ng2]
    show SP p e below s₁ (mkF m 22 #[vR a0, vR a1, vI (1 : Int32), .unset] [(.int (1 : Int32))]) _
    refine XS.iloadN X0.here hx rfl (hb hby d45_22) rfl ?_
    refine XS.icmpYes X0.here hx rfl (pc0 := 23) (pc' := 28) rfl (hb hby d45_23) rfl (teq (by decide : (1 : Int32) = (1 : Int32))).1 (by decide) (by decide) ?_
    refine XS.iconst X0.here hx rfl (hb hby d45_28) ?_
    refine XS.istoreN X0.here hx rfl (hb hby d45_29) rfl (l' := #[vR a0, vR a1, vI (1 : Int32), vI (0 : Int32)]) rfl ?_
    refine XS.iloadN X0.here hx rfl (hb hby d45_30) rfl ?_
    refine XS.iloadN X0.here hx rfl (hb hby d45_31) rfl ?_
    refine XS.icmpNo X0.here hx rfl (hb hby d45_32) rfl (tlt (by decide : (0 : Int32) < (1 : Int32))).2.1 ?_
    refine XS.aloadN X0.here hx rfl (hb hby d45_35) rfl rfl ?_
    refine XS.iloadN X0.here hx rfl (hb hby d45_36) rfl ?_
    show SP p e below s₁ (mkF m 37 #[vR a0, vR a1, vI (1 : Int32), vI (0 : Int32)] [(.int (0 : Int32)), (.ref a0)]) _
    refine X0.aaload hx (j := (0 : Int32)) (v := (.ref lx)) (by rw [e0]; exact Ar1.1) (State.isArrayOf_alike hZ.alike Ar1.2.1) rfl Ar1.2.2 hin3 hat4 (g := (mkF m 37 #[vR a0, vR a1, vI (1 : Int32), vI (0 : Int32)] [(.int (0 : Int32)), (.ref a0)])) rfl rfl (hb hby d45_37) _ ?_
    show SP p e below s₁ (mkF m 38 #[vR a0, vR a1, vI (1 : Int32), vI (0 : Int32)] [(.ref lx)]) _
    refine XS.aloadN X0.here hx rfl (hb hby d45_38) rfl rfl ?_
    refine XS.iloadN X0.here hx rfl (hb hby d45_39) rfl ?_
    show SP p e below s₁ (mkF m 40 #[vR a0, vR a1, vI (1 : Int32), vI (0 : Int32)] [(.int (0 : Int32)), (.ref a1), (.ref lx)]) _
    refine X0.aaload hx (j := (0 : Int32)) (v := (.ref lx)) (by rw [e0]; exact Ar2.1) (State.isArrayOf_alike hZ.alike Ar2.2.1) rfl Ar2.2.2 hin5 hat6 (g := (mkF m 40 #[vR a0, vR a1, vI (1 : Int32), vI (0 : Int32)] [(.int (0 : Int32)), (.ref a1), (.ref lx)])) rfl rfl (hb hby d45_40) _ ?_
    show SP p e below s₁ (mkF m 41 #[vR a0, vR a1, vI (1 : Int32), vI (0 : Int32)] [(.ref lx), (.ref lx)]) _
    refine st7 _ ?_
    show SP p e below T7 (mkF m 44 #[vR a0, vR a1, vI (1 : Int32), vI (0 : Int32)] [(.int (1 : Int32))]) _
    refine XS.ifYes X7'.here hx rfl (pc0 := 44) (pc' := 49) rfl (hb hby d45_44) rfl ((if0 _ _).trans (feq (by decide : ¬ ((1 : Int32) = (0 : Int32)))).2) (by decide) (by decide) ?_
    refine XS.iinc X7'.here hx rfl (hb hby d45_49) rfl (l' := #[vR a0, vR a1, vI (1 : Int32), vI (1 : Int32)]) rfl ?_
    refine XS.goto X7'.here hx rfl (pc0 := 52) (pc' := 30) rfl (hb hby d45_52) (by decide) (by decide) ?_
    refine XS.iloadN X7'.here hx rfl (hb hby d45_30) rfl ?_
    refine XS.iloadN X7'.here hx rfl (hb hby d45_31) rfl ?_
    refine XS.icmpYes X7'.here hx rfl (pc0 := 32) (pc' := 55) rfl (hb hby d45_32) rfl (flt (by decide : ¬ ((1 : Int32) < (1 : Int32)))).2.1 (by decide) (by decide) ?_
    refine XS.iconst X7'.here hx rfl (hb hby d45_55) ?_
    show SP p e below T7 (mkF m 56 #[vR a0, vR a1, vI (1 : Int32), vI (1 : Int32)] [(.int (1 : Int32))]) _
    exact retN X7' hx (t := .boolean) Bd.returns (by simp) (hb hby d45_56) hr
  · show Q45s Z a0 a1 ka0 lx ka1 h0 n0 _ T7.heap _
    rw [e7]
    exact ⟨rfl, N7, rfl⟩
theorem ef_rm45e (m : MethodId) (a0 a1 : Addr) : entryFrame m #[(.ref a0), (.ref a1)] 4 = mkF m 0 #[vR a0, vR a1, .unset, .unset] [] := by first | (simp [entryFrame, mkF, argsToLocals, Value.category]; done) | rfl
def Q45e (Z : State) (a0 a1 : Addr) (ka0 : ClassId) (lx : Addr) (ka1 : ClassId) (ly : Addr) (x0 x1 : Int64) (h0 : Heap) (n0 : Nat) (v : Option Value) (h : Heap) (L : List Loc) : Prop := v = some (.int (1 : Int32)) ∧ Fr n0 L ∧ h = h0
theorem rm45e (l : Launch) (Z : State) (az : Array Value) (hw : HW Z az) (ws : List Jvm.Cond) (a0 a1 : Addr) (ka0 : ClassId) (lx : Addr) (ka1 : ClassId) (ly : Addr) (x0 x1 : Int64) (h0 : Heap) (n0 : Nat) (Z0 : n0 ≤ h0.size) (V_a0 : Arv Z h0 a0 ka0 (.object "java/lang/Object") (1 : Int32) [(.ref lx)] .null) (E_a0 : Exa Z h0 a0 cOA) (V_a1 : Arv Z h0 a1 ka1 (.object "java/lang/Object") (1 : Int32) [(.ref ly)] .null) (E_a1 : Exa Z h0 a1 cOA) (hne_a0_a1 : a0 ≠ a1) (E_lx : Exa Z h0 lx cLG) (F_value_lx : Fld Z h0 lx cLG "value" "J" (.long x0)) (E_ly : Exa Z h0 ly cLG) (F_value_ly : Fld Z h0 ly cLG "value" "J" (.long x1)) (hne_lx_ly : lx ≠ ly) (hc10 : (lcmpW x0 x1) = (0 : Int32)) :
    MF l Z h0 ws ⟨"java/util/Arrays", "equals", "([Ljava/lang/Object;[Ljava/lang/Object;)Z"⟩ kB15 4 (some .boolean) ⟨3, 0, 0, 40⟩ #[(.ref a0), (.ref a1)] (Q45e Z a0 a1 ka0 lx ka1 ly x0 x1 h0 n0) := by
  refine own_body "java/util/Arrays" n0 rfl (plainFor_of_name pn_java_util_Arrays) (fun m => ef_rm45e m a0 a1) ?_
  intro p e s m below meth c s₁ Bd hx hby hml hown hZ X0 e0 N0 pre0
  obtain ⟨cl1, Ar1, qk1, Sz1, Ng1, Hs1, Gf1⟩ := id V_a0
  obtain ⟨cl2, Ar2, qk2, Sz2, Ng2, Hs2, Gf2⟩ := id V_a1
  have hin3 : ¬ ((0 : Int32) < 0 ∨ cl1.slots.size ≤ ((0 : Int32)).toNatClampNeg) := inb_of Sz1 ⟨by decide, by decide⟩
  have hat4 : cl1.slots[((0 : Int32)).toNatClampNeg]? = some (.ref lx) := Hs1.at hin3 rfl
  have hin5 : ¬ ((0 : Int32) < 0 ∨ cl2.slots.size ≤ ((0 : Int32)).toNatClampNeg) := inb_of Sz2 ⟨by decide, by decide⟩
  have hat6 : cl2.slots[((0 : Int32)).toNatClampNeg]? = some (.ref ly) := Hs2.at hin5 rfl
  obtain ⟨_, _, ⟨T7, L7, k7', n7'⟩, -, X7, ⟨Lc7, hQ7, l7, y7, z7⟩, st7⟩ := Jvm.LawKit.callS X0 hx (y := ⟨"java/util/Objects", "equals", "(Ljava/lang/Object;Ljava/lang/Object;)Z"⟩) hown (mvT hZ (w343 hw)) (mvT hZ (w344 hw)) (mvT hZ (w345 hw)) (mvT hZ (w346 hw)) (by decide) (backOf (W := 0) (rm52e l Z az hw [] lx ly x0 x1 h0 n0 Z0 E_lx F_value_lx E_ly F_value_ly hne_lx_ly hc10) hZ (w346 hw) (w345 hw) (by decide) (by decide)) (g := (mkF m 41 #[vR a0, vR a1, vI (1 : Int32), vI (0 : Int32)] [(.ref ly), (.ref lx)])) rfl (by rw [hml]; rfl) (argsL := [(.ref lx), (.ref ly)]) (rest := []) (lenOf pd_12 rfl) rfl (Nat.le_of_eq rfl) (hb hby d45_41) (fun _ _ => ⟨rfl, e0, (own_nle rfl), (own_nle rfl)⟩)
  dsimp only [Pt.U, Pt.locs, Pt.cells, Pt.slots] at X7 l7 y7 z7 st7 hQ7
  subst l7 y7 z7
  obtain ⟨rfl, N7q, e7⟩ := hQ7
  obtain ⟨Lg7, X7', N7⟩ := own_gen X7 (Fr.app N0 N7q)
  obtain ⟨fs, hr, hrun, hended, hW, hsame⟩ := X7'.leave (v := some (.int (1 : Int32))) (fun h => by rw [Bd.returns] at h; cases h) Bd.notSynchronized
  refine ⟨_, _, pre0 _ ?_, hrun, hended, _, _, rfl, ?_, ⟨_, rfl⟩, hW, hsame.mono (by decide) (by decide)⟩
  · show SP p e below s₁ (mkF m 0 #[vR a0, vR a1, .unset, .unset] []) _
    refine XS.aloadN X0.here hx rfl (hb hby d45_0) rfl rfl ?_
    refine XS.aloadN X0.here hx rfl (hb hby d45_1) rfl rfl ?_
    show SP p e below s₁ (mkF m 2 #[vR a0, vR a1, .unset, .unset] [(.ref a1), (.ref a0)]) _
    refine Jvm.RoadKit.acmp (g := (mkF m 2 #[vR a0, vR a1, .unset, .unset] [(.ref a1), (.ref a0)])) X0 hx rfl rfl rfl (pc0 := 2) (pc' := 7) (same := false) rfl (hb hby d45_2) rfl (decide_eq_false fun q => hne_a0_a1 (Value.ref.inj q)) (by decide) (by decide) ?_
    show SP p e below s₁ (mkF m 7 #[vR a0, vR a1, .unset, .unset] []) _
    refine XS.aloadN X0.here hx rfl (hb hby d45_7) rfl rfl ?_
    show SP p e below s₁ (mkF m 8 #[vR a0, vR a1, .unset, .unset] [(.ref a0)]) _
    refine XS.ifnullNo X0.here hx rfl (hb hby d45_8) rfl ?_
    refine XS.aloadN X0.here hx rfl (hb hby d45_11) rfl rfl ?_
    show SP p e below s₁ (mkF m 12 #[vR a0, vR a1, .unset, .unset] [(.ref a1)]) _
    refine XS.ifnonnullYes X0.here hx rfl (pc0 := 12) (pc' := 17) rfl (hb hby d45_12) rfl (by decide) (by decide) ?_
    refine XS.aloadN X0.here hx rfl (hb hby d45_17) rfl rfl ?_
    show SP p e below s₁ (mkF m 18 #[vR a0, vR a1, .unset, .unset] [(.ref a0)]) _
    refine X0.arraylength hx (by rw [e0]; exact Ar1.1) (State.isArrayOf_alike hZ.alike Ar1.2.1) (g := (mkF m 18 #[vR a0, vR a1, .unset, .unset] [(.ref a0)])) rfl rfl (hb hby d45_18) _ ?_
    rw [len_of Sz1 Ng1]
    show SP p e below s₁ (mkF m 19 #[vR a0, vR a1, .unset, .unset] [(.int (1 : Int32))]) _
    refine XS.istoreN X0.here hx rfl (hb hby d45_19) rfl (l' := #[vR a0, vR a1, vI (1 : Int32), .unset]) rfl ?_
    refine XS.aloadN X0.here hx rfl (hb hby d45_20) rfl rfl ?_
    show SP p e below s₁ (mkF m 21 #[vR a0, vR a1, vI (1 : Int32), .unset] [(.ref a1)]) _
    refine X0.arraylength hx (by rw [e0]; exact Ar2.1) (State.isArrayOf_alike hZ.alike Ar2.2.1) (g := (mkF m 21 #[vR a0, vR a1, vI (1 : Int32), .unset] [(.ref a1)])) rfl rfl (hb hby d45_21) _ ?_
    rw [len_of Sz2 Ng2]
    show SP p e below s₁ (mkF m 22 #[vR a0, vR a1, vI (1 : Int32), .unset] [(.int (1 : Int32))]) _
    refine XS.iloadN X0.here hx rfl (hb hby d45_22) rfl ?_
    refine XS.icmpYes X0.here hx rfl (pc0 := 23) (pc' := 28) rfl (hb hby d45_23) rfl (teq (by decide : (1 : Int32) = (1 : Int32))).1 (by decide) (by decide) ?_
    refine XS.iconst X0.here hx rfl (hb hby d45_28) ?_
    refine XS.istoreN X0.here hx rfl (hb hby d45_29) rfl (l' := #[vR a0, vR a1, vI (1 : Int32), vI (0 : Int32)]) rfl ?_
    refine XS.iloadN X0.here hx rfl (hb hby d45_30) rfl ?_
    refine XS.iloadN X0.here hx rfl (hb hby d45_31) rfl ?_
    refine XS.icmpNo X0.here hx rfl (hb hby d45_32) rfl (tlt (by decide : (0 : Int32) < (1 : Int32))).2.1 ?_
    refine XS.aloadN X0.here hx rfl (hb hby d45_35) rfl rfl ?_
    refine XS.iloadN X0.here hx rfl (hb hby d45_36) rfl ?_
    show SP p e below s₁ (mkF m 37 #[vR a0, vR a1, vI (1 : Int32), vI (0 : Int32)] [(.int (0 : Int32)), (.ref a0)]) _
    refine X0.aaload hx (j := (0 : Int32)) (v := (.ref lx)) (by rw [e0]; exact Ar1.1) (State.isArrayOf_alike hZ.alike Ar1.2.1) rfl Ar1.2.2 hin3 hat4 (g := (mkF m 37 #[vR a0, vR a1, vI (1 : Int32), vI (0 : Int32)] [(.int (0 : Int32)), (.ref a0)])) rfl rfl (hb hby d45_37) _ ?_
    show SP p e below s₁ (mkF m 38 #[vR a0, vR a1, vI (1 : Int32), vI (0 : Int32)] [(.ref lx)]) _
    refine XS.aloadN X0.here hx rfl (hb hby d45_38) rfl rfl ?_
    refine XS.iloadN X0.here hx rfl (hb hby d45_39) rfl ?_
    show SP p e below s₁ (mkF m 40 #[vR a0, vR a1, vI (1 : Int32), vI (0 : Int32)] [(.int (0 : Int32)), (.ref a1), (.ref lx)]) _
    refine X0.aaload hx (j := (0 : Int32)) (v := (.ref ly)) (by rw [e0]; exact Ar2.1) (State.isArrayOf_alike hZ.alike Ar2.2.1) rfl Ar2.2.2 hin5 hat6 (g := (mkF m 40 #[vR a0, vR a1, vI (1 : Int32), vI (0 : Int32)] [(.int (0 : Int32)), (.ref a1), (.ref lx)])) rfl rfl (hb hby d45_40) _ ?_
    show SP p e below s₁ (mkF m 41 #[vR a0, vR a1, vI (1 : Int32), vI (0 : Int32)] [(.ref ly), (.ref lx)]) _
    refine st7 _ ?_
    show SP p e below T7 (mkF m 44 #[vR a0, vR a1, vI (1 : Int32), vI (0 : Int32)] [(.int (1 : Int32))]) _
    refine XS.ifYes X7'.here hx rfl (pc0 := 44) (pc' := 49) rfl (hb hby d45_44) rfl ((if0 _ _).trans (feq (by decide : ¬ ((1 : Int32) = (0 : Int32)))).2) (by decide) (by decide) ?_
    refine XS.iinc X7'.here hx rfl (hb hby d45_49) rfl (l' := #[vR a0, vR a1, vI (1 : Int32), vI (1 : Int32)]) rfl ?_
    refine XS.goto X7'.here hx rfl (pc0 := 52) (pc' := 30) rfl (hb hby d45_52) (by decide) (by decide) ?_
    refine XS.iloadN X7'.here hx rfl (hb hby d45_30) rfl ?_
    refine XS.iloadN X7'.here hx rfl (hb hby d45_31) rfl ?_
    refine XS.icmpYes X7'.here hx rfl (pc0 := 32) (pc' := 55) rfl (hb hby d45_32) rfl (flt (by decide : ¬ ((1 : Int32) < (1 : Int32)))).2.1 (by decide) (by decide) ?_
    refine XS.iconst X7'.here hx rfl (hb hby d45_55) ?_
    show SP p e below T7 (mkF m 56 #[vR a0, vR a1, vI (1 : Int32), vI (1 : Int32)] [(.int (1 : Int32))]) _
    exact retN X7' hx (t := .boolean) Bd.returns (by simp) (hb hby d45_56) hr
  · show Q45e Z a0 a1 ka0 lx ka1 ly x0 x1 h0 n0 _ T7.heap _
    rw [e7]
    exact ⟨rfl, N7, rfl⟩
theorem d45_47 : dc kB15 47 (.iconst 0) 1 := by decide +kernel
theorem d45_48 : dc kB15 48 .ireturn 1 := by decide +kernel
theorem ef_rm45d (m : MethodId) (a0 a1 : Addr) : entryFrame m #[(.ref a0), (.ref a1)] 4 = mkF m 0 #[vR a0, vR a1, .unset, .unset] [] := by first | (simp [entryFrame, mkF, argsToLocals, Value.category]; done) | rfl
def Q45d (Z : State) (a0 a1 : Addr) (ka0 : ClassId) (lx : Addr) (ka1 : ClassId) (ly : Addr) (x0 x1 : Int64) (h0 : Heap) (n0 : Nat) (v : Option Value) (h : Heap) (L : List Loc) : Prop := v = some (.int (0 : Int32)) ∧ Fr n0 L ∧ h = h0
theorem rm45d (l : Launch) (Z : State) (az : Array Value) (hw : HW Z az) (ws : List Jvm.Cond) (a0 a1 : Addr) (ka0 : ClassId) (lx : Addr) (ka1 : ClassId) (ly : Addr) (x0 x1 : Int64) (h0 : Heap) (n0 : Nat) (Z0 : n0 ≤ h0.size) (V_a0 : Arv Z h0 a0 ka0 (.object "java/lang/Object") (1 : Int32) [(.ref lx)] .null) (E_a0 : Exa Z h0 a0 cOA) (V_a1 : Arv Z h0 a1 ka1 (.object "java/lang/Object") (1 : Int32) [(.ref ly)] .null) (E_a1 : Exa Z h0 a1 cOA) (hne_a0_a1 : a0 ≠ a1) (E_lx : Exa Z h0 lx cLG) (F_value_lx : Fld Z h0 lx cLG "value" "J" (.long x0)) (E_ly : Exa Z h0 ly cLG) (F_value_ly : Fld Z h0 ly cLG "value" "J" (.long x1)) (hne_lx_ly : lx ≠ ly) (hc10 : ¬ ((lcmpW x0 x1) = (0 : Int32))) :
    MF l Z h0 ws ⟨"java/util/Arrays", "equals", "([Ljava/lang/Object;[Ljava/lang/Object;)Z"⟩ kB15 4 (some .boolean) ⟨3, 0, 0, 40⟩ #[(.ref a0), (.ref a1)] (Q45d Z a0 a1 ka0 lx ka1 ly x0 x1 h0 n0) := by
  refine own_body "java/util/Arrays" n0 rfl (plainFor_of_name pn_java_util_Arrays) (fun m => ef_rm45d m a0 a1) ?_
  intro p e s m below meth c s₁ Bd hx hby hml hown hZ X0 e0 N0 pre0
  obtain ⟨cl1, Ar1, qk1, Sz1, Ng1, Hs1, Gf1⟩ := id V_a0
  obtain ⟨cl2, Ar2, qk2, Sz2, Ng2, Hs2, Gf2⟩ := id V_a1
  have hin3 : ¬ ((0 : Int32) < 0 ∨ cl1.slots.size ≤ ((0 : Int32)).toNatClampNeg) := inb_of Sz1 ⟨by decide, by decide⟩
  have hat4 : cl1.slots[((0 : Int32)).toNatClampNeg]? = some (.ref lx) := Hs1.at hin3 rfl
  have hin5 : ¬ ((0 : Int32) < 0 ∨ cl2.slots.size ≤ ((0 : Int32)).toNatClampNeg) := inb_of Sz2 ⟨by decide, by decide⟩
  have hat6 : cl2.slots[((0 : Int32)).toNatClampNeg]? = some (.ref ly) := Hs2.at hin5 rfl
  obtain ⟨_, _, ⟨T7, L7, k7', n7'⟩, -, X7, ⟨Lc7, hQ7, l7, y7, z7⟩, st7⟩ := Jvm.LawKit.callS X0 hx (y := ⟨"java/util/Objects", "equals", "(Ljava/lang/Object;Ljava/lang/Object;)Z"⟩) hown (mvT hZ (w343 hw)) (mvT hZ (w344 hw)) (mvT hZ (w345 hw)) (mvT hZ (w346 hw)) (by decide) (backOf (W := 0) (rm52d l Z az hw [] lx ly x0 x1 h0 n0 Z0 E_lx F_value_lx E_ly F_value_ly hne_lx_ly hc10) hZ (w346 hw) (w345 hw) (by decide) (by decide)) (g := (mkF m 41 #[vR a0, vR a1, vI (1 : Int32), vI (0 : Int32)] [(.ref ly), (.ref lx)])) rfl (by rw [hml]; rfl) (argsL := [(.ref lx), (.ref ly)]) (rest := []) (lenOf pd_12 rfl) rfl (Nat.le_of_eq rfl) (hb hby d45_41) (fun _ _ => ⟨rfl, e0, (own_nle rfl), (own_nle rfl)⟩)
  dsimp only [Pt.U, Pt.locs, Pt.cells, Pt.slots] at X7 l7 y7 z7 st7 hQ7
  subst l7 y7 z7
  obtain ⟨rfl, N7q, e7⟩ := hQ7
  obtain ⟨Lg7, X7', N7⟩ := own_gen X7 (Fr.app N0 N7q)
  obtain ⟨fs, hr, hrun, hended, hW, hsame⟩ := X7'.leave (v := some (.int (0 : Int32))) (fun h => by rw [Bd.returns] at h; cases h) Bd.notSynchronized
  refine ⟨_, _, pre0 _ ?_, hrun, hended, _, _, rfl, ?_, ⟨_, rfl⟩, hW, hsame.mono (by decide) (by decide)⟩
  · show SP p e below s₁ (mkF m 0 #[vR a0, vR a1, .unset, .unset] []) _
    refine XS.aloadN X0.here hx rfl (hb hby d45_0) rfl rfl ?_
    refine XS.aloadN X0.here hx rfl (hb hby d45_1) rfl rfl ?_
    show SP p e below s₁ (mkF m 2 #[vR a0, vR a1, .unset, .unset] [(.ref a1), (.ref a0)]) _
    refine Jvm.RoadKit.acmp (g := (mkF m 2 #[vR a0, vR a1, .unset, .unset] [(.ref a1), (.ref a0)])) X0 hx rfl rfl rfl (pc0 := 2) (pc' := 7) (same := false) rfl (hb hby d45_2) rfl (decide_eq_false fun q => hne_a0_a1 (Value.ref.inj q)) (by decide) (by decide) ?_
    show SP p e below s₁ (mkF m 7 #[vR a0, vR a1, .unset, .unset] []) _
    refine XS.aloadN X0.here hx rfl (hb hby d45_7) rfl rfl ?_
    show SP p e below s₁ (mkF m 8 #[vR a0, vR a1, .unset, .unset] [(.ref a0)]) _
    refine XS.ifnullNo X0.here hx rfl (hb hby d45_8) rfl ?_
    refine XS.aloadN X0.here hx rfl (hb hby d45_11) rfl rfl ?_
    show SP p e below s₁ (mkF m 12 #[vR a0, vR a1, .unset, .unset] [(.ref a1)]) _
    refine XS.ifnonnullYes X0.here hx rfl (pc0 := 12) (pc' := 17) rfl (hb hby d45_12) rfl (by decide) (by decide) ?_
    refine XS.aloadN X0.here hx rfl (hb hby d45_17) rfl rfl ?_
    show SP p e below s₁ (mkF m 18 #[vR a0, vR a1, .unset, .unset] [(.ref a0)]) _
    refine X0.arraylength hx (by rw [e0]; exact Ar1.1) (State.isArrayOf_alike hZ.alike Ar1.2.1) (g := (mkF m 18 #[vR a0, vR a1, .unset, .unset] [(.ref a0)])) rfl rfl (hb hby d45_18) _ ?_
    rw [len_of Sz1 Ng1]
    show SP p e below s₁ (mkF m 19 #[vR a0, vR a1, .unset, .unset] [(.int (1 : Int32))]) _
    refine XS.istoreN X0.here hx rfl (hb hby d45_19) rfl (l' := #[vR a0, vR a1, vI (1 : Int32), .unset]) rfl ?_
    refine XS.aloadN X0.here hx rfl (hb hby d45_20) rfl rfl ?_
    show SP p e below s₁ (mkF m 21 #[vR a0, vR a1, vI (1 : Int32), .unset] [(.ref a1)]) _
    refine X0.arraylength hx (by rw [e0]; exact Ar2.1) (State.isArrayOf_alike hZ.alike Ar2.2.1) (g := (mkF m 21 #[vR a0, vR a1, vI (1 : Int32), .unset] [(.ref a1)])) rfl rfl (hb hby d45_21) _ ?_
    rw [len_of Sz2 Ng2]
    show SP p e below s₁ (mkF m 22 #[vR a0, vR a1, vI (1 : Int32), .unset] [(.int (1 : Int32))]) _
    refine XS.iloadN X0.here hx rfl (hb hby d45_22) rfl ?_
    refine XS.icmpYes X0.here hx rfl (pc0 := 23) (pc' := 28) rfl (hb hby d45_23) rfl (teq (by decide : (1 : Int32) = (1 : Int32))).1 (by decide) (by decide) ?_
    refine XS.iconst X0.here hx rfl (hb hby d45_28) ?_
    refine XS.istoreN X0.here hx rfl (hb hby d45_29) rfl (l' := #[vR a0, vR a1, vI (1 : Int32), vI (0 : Int32)]) rfl ?_
    refine XS.iloadN X0.here hx rfl (hb hby d45_30) rfl ?_
    refine XS.iloadN X0.here hx rfl (hb hby d45_31) rfl ?_
    refine XS.icmpNo X0.here hx rfl (hb hby d45_32) rfl (tlt (by decide : (0 : Int32) < (1 : Int32))).2.1 ?_
    refine XS.aloadN X0.here hx rfl (hb hby d45_35) rfl rfl ?_
    refine XS.iloadN X0.here hx rfl (hb hby d45_36) rfl ?_
    show SP p e below s₁ (mkF m 37 #[vR a0, vR a1, vI (1 : Int32), vI (0 : Int32)] [(.int (0 : Int32)), (.ref a0)]) _
    refine X0.aaload hx (j := (0 : Int32)) (v := (.ref lx)) (by rw [e0]; exact Ar1.1) (State.isArrayOf_alike hZ.alike Ar1.2.1) rfl Ar1.2.2 hin3 hat4 (g := (mkF m 37 #[vR a0, vR a1, vI (1 : Int32), vI (0 : Int32)] [(.int (0 : Int32)), (.ref a0)])) rfl rfl (hb hby d45_37) _ ?_
    show SP p e below s₁ (mkF m 38 #[vR a0, vR a1, vI (1 : Int32), vI (0 : Int32)] [(.ref lx)]) _
    refine XS.aloadN X0.here hx rfl (hb hby d45_38) rfl rfl ?_
    refine XS.iloadN X0.here hx rfl (hb hby d45_39) rfl ?_
    show SP p e below s₁ (mkF m 40 #[vR a0, vR a1, vI (1 : Int32), vI (0 : Int32)] [(.int (0 : Int32)), (.ref a1), (.ref lx)]) _
    refine X0.aaload hx (j := (0 : Int32)) (v := (.ref ly)) (by rw [e0]; exact Ar2.1) (State.isArrayOf_alike hZ.alike Ar2.2.1) rfl Ar2.2.2 hin5 hat6 (g := (mkF m 40 #[vR a0, vR a1, vI (1 : Int32), vI (0 : Int32)] [(.int (0 : Int32)), (.ref a1), (.ref lx)])) rfl rfl (hb hby d45_40) _ ?_
    show SP p e below s₁ (mkF m 41 #[vR a0, vR a1, vI (1 : Int32), vI (0 : Int32)] [(.ref ly), (.ref lx)]) _
    refine st7 _ ?_
    show SP p e below T7 (mkF m 44 #[vR a0, vR a1, vI (1 : Int32), vI (0 : Int32)] [(.int (0 : Int32))]) _
    refine XS.ifNo X7'.here hx rfl (hb hby d45_44) rfl ((if0 _ _).trans (teq (by decide : (0 : Int32) = (0 : Int32))).2) ?_
    refine XS.iconst X7'.here hx rfl (hb hby d45_47) ?_
    show SP p e below T7 (mkF m 48 #[vR a0, vR a1, vI (1 : Int32), vI (0 : Int32)] [(.int (0 : Int32))]) _
    exact retN X7' hx (t := .boolean) Bd.returns (by simp) (hb hby d45_48) hr
  · show Q45d Z a0 a1 ka0 lx ka1 ly x0 x1 h0 n0 _ T7.heap _
    rw [e7]
    exact ⟨rfl, N7, rfl⟩
theorem d44_0 : dc kB38 0 (.aload_n 1) 1 := by decide +kernel
theorem d44_1 : dc kB38 1 (.instanceof 8) 3 := by decide +kernel
theorem d44_4 : dc kB38 4 (.ifCond .eq 37) 3 := by decide +kernel
theorem d44_7 : dc kB38 7 (.aload_n 1) 1 := by decide +kernel
theorem d44_8 : dc kB38 8 (.checkcast 8) 3 := by decide +kernel
theorem d44_11 : dc kB38 11 (.astore_n 2) 1 := by decide +kernel
theorem d44_12 : dc kB38 12 (.aload_n 0) 1 := by decide +kernel
theorem d44_13 : dc kB38 13 (.getfield 19) 3 := by decide +kernel
theorem d44_16 : dc kB38 16 (.aload_n 2) 1 := by decide +kernel
theorem d44_17 : dc kB38 17 (.getfield 19) 3 := by decide +kernel
theorem d44_20 : dc kB38 20 (.if_icmp .ne 21) 3 := by decide +kernel
theorem d44_23 : dc kB38 23 (.aload_n 0) 1 := by decide +kernel
theorem d44_24 : dc kB38 24 (.getfield 7) 3 := by decide +kernel
theorem d44_27 : dc kB38 27 (.aload_n 2) 1 := by decide +kernel
theorem d44_28 : dc kB38 28 (.getfield 7) 3 := by decide +kernel
theorem d44_31 : dc kB38 31 (.invokestatic 50) 3 := by decide +kernel
theorem pd_13 : parseMethodDescriptor "([Ljava/lang/Object;[Ljava/lang/Object;)Z" = some ⟨[(.array (.object "java/lang/Object")), (.array (.object "java/lang/Object"))], some .boolean⟩ := by decide +kernel
theorem d44_34 : dc kB38 34 (.ifCond .eq 7) 3 := by decide +kernel
theorem d44_37 : dc kB38 37 (.iconst 1) 1 := by decide +kernel
theorem d44_38 : dc kB38 38 (.goto 4) 3 := by decide +kernel
theorem d44_42 : dc kB38 42 .ireturn 1 := by decide +kernel
theorem ef_rm44S (m : MethodId) (a0 : Addr) : entryFrame m #[(.ref a0), (.ref a0)] 3 = mkF m 0 #[vR a0, vR a0, .unset] [] := by first | (simp [entryFrame, mkF, argsToLocals, Value.category]; done) | rfl
def Q44S (Z : State) (a0 : Addr) (h0x : Int32) (v0 : Addr) (kv0 : ClassId) (lx : Addr) (x0 : Int64) (h0 : Heap) (n0 : Nat) (v : Option Value) (h : Heap) (L : List Loc) : Prop := v = some (.int (1 : Int32)) ∧ Fr n0 L ∧ h = h0
theorem rm44S (l : Launch) (Z : State) (az : Array Value) (hw : HW Z az) (ws : List Jvm.Cond) (a0 : Addr) (h0x : Int32) (v0 : Addr) (kv0 : ClassId) (lx : Addr) (x0 : Int64) (h0 : Heap) (n0 : Nat) (Z0 : n0 ≤ h0.size) (E_a0 : Exa Z h0 a0 cTU) (F_hash_a0 : Fld Z h0 a0 cTU "hash" "I" (.int h0x)) (F_values_a0 : Fld Z h0 a0 cTU "values" cOA (.ref v0)) (V_v0 : Arv Z h0 v0 kv0 (.object "java/lang/Object") (1 : Int32) [(.ref lx)] .null) (E_v0 : Exa Z h0 v0 cOA) (E_lx : Exa Z h0 lx cLG) (F_value_lx : Fld Z h0 lx cLG "value" "J" (.long x0)) :
    MF l Z h0 ws ⟨cTU, "equals", "(Ljava/lang/Object;)Z"⟩ kB38 3 (some .boolean) ⟨1, 0, 0, 15⟩ #[(.ref a0), (.ref a0)] (Q44S Z a0 h0x v0 kv0 lx x0 h0 n0) := by
  refine own_body cTU n0 rfl (plainFor_of_name pn_com_example_reteweave_reteweave_network_Tuple) (fun m => ef_rm44S m a0) ?_
  intro p e s m below meth c s₁ Bd hx hby hml hown hZ X0 e0 N0 pre0
  obtain ⟨T1, X1, e1, st1⟩ := instY X0 hx hZ hown (w27 hw) e0 (Ins.self E_a0) (g := (mkF m 1 #[vR a0, vR a0, .unset] [(.ref a0)])) rfl rfl (hb hby d44_1)
  obtain ⟨T2, X2, e2, st2⟩ := castY X1 hx hZ hown (w27 hw) e1 (Ins.self E_a0) (g := (mkF m 8 #[vR a0, vR a0, .unset] [(.ref a0)])) rfl rfl (hb hby d44_8)
  obtain ⟨T3, X3, e3, st3⟩ := getF X2 hx hZ hown (host := "") (Or.inl (w52 hw)) Via.refl e2 F_hash_a0 (g := (mkF m 13 #[vR a0, vR a0, vR a0] [(.ref a0)])) rfl rfl (hb hby d44_13)
  obtain ⟨T4, X4, e4, st4⟩ := getF X3 hx hZ hown (host := "") (Or.inl (w52 hw)) Via.refl e3 F_hash_a0 (g := (mkF m 17 #[vR a0, vR a0, vR a0] [(.ref a0), (.int h0x)])) rfl rfl (hb hby d44_17)
  obtain ⟨T5, X5, e5, st5⟩ := getF X4 hx hZ hown (host := "") (Or.inl (w35 hw)) Via.refl e4 F_values_a0 (g := (mkF m 24 #[vR a0, vR a0, vR a0] [(.ref a0)])) rfl rfl (hb hby d44_24)
  obtain ⟨T6, X6, e6, st6⟩ := getF X5 hx hZ hown (host := "") (Or.inl (w35 hw)) Via.refl e5 F_values_a0 (g := (mkF m 28 #[vR a0, vR a0, vR a0] [(.ref a0), (.ref v0)])) rfl rfl (hb hby d44_28)
  obtain ⟨_, _, ⟨T7, L7, k7', n7'⟩, -, X7, ⟨Lc7, hQ7, l7, y7, z7⟩, st7⟩ := Jvm.LawKit.callS X6 hx (y := ⟨"java/util/Arrays", "equals", "([Ljava/lang/Object;[Ljava/lang/Object;)Z"⟩) hown (mvT hZ (w304 hw)) (mvT hZ (w305 hw)) (mvT hZ (w39 hw)) (mvT hZ (w306 hw)) (by decide) (backOf (W := 0) (rm45S l Z az hw [] v0 h0 n0 Z0) hZ (w306 hw) (w39 hw) (by decide) (by decide)) (g := (mkF m 31 #[vR a0, vR a0, vR a0] [(.ref v0), (.ref v0)])) rfl (by rw [hml]; rfl) (argsL := [(.ref v0), (.ref v0)]) (rest := []) (lenOf pd_13 rfl) rfl (Nat.le_of_eq rfl) (hb hby d44_31) (fun _ _ => ⟨rfl, e6, (own_nle rfl), (own_nle rfl)⟩)
  dsimp only [Pt.U, Pt.locs, Pt.cells, Pt.slots] at X7 l7 y7 z7 st7 hQ7
  subst l7 y7 z7
  obtain ⟨rfl, N7q, e7⟩ := hQ7
  obtain ⟨Lg7, X7', N7⟩ := own_gen X7 (Fr.app N0 N7q)
  obtain ⟨fs, hr, hrun, hended, hW, hsame⟩ := X7'.leave (v := some (.int (1 : Int32))) (fun h => by rw [Bd.returns] at h; cases h) Bd.notSynchronized
  refine ⟨_, _, pre0 _ ?_, hrun, hended, _, _, rfl, ?_, ⟨_, rfl⟩, hW, hsame.mono (by decide) (by decide)⟩
  · show SP p e below s₁ (mkF m 0 #[vR a0, vR a0, .unset] []) _
    refine XS.aloadN X0.here hx rfl (hb hby d44_0) rfl rfl ?_
    show SP p e below s₁ (mkF m 1 #[vR a0, vR a0, .unset] [(.ref a0)]) _
    refine st1 _ ?_
    show SP p e below T1 (mkF m 4 #[vR a0, vR a0, .unset] [(.int (1 : Int32))]) _
    refine XS.ifNo X1.here hx rfl (hb hby d44_4) rfl ((if0 _ _).trans (feq (by decide : ¬ ((1 : Int32) = (0 : Int32)))).1) ?_
    refine XS.aloadN X1.here hx rfl (hb hby d44_7) rfl rfl ?_
    show SP p e below T1 (mkF m 8 #[vR a0, vR a0, .unset] [(.ref a0)]) _
    refine st2 _ ?_
    show SP p e below T2 (mkF m 11 #[vR a0, vR a0, .unset] [(.ref a0)]) _
    refine XS.astoreN X2.here hx rfl (hb hby d44_11) rfl rfl (l' := #[vR a0, vR a0, vR a0]) rfl ?_
    refine XS.aloadN X2.here hx rfl (hb hby d44_12) rfl rfl ?_
    show SP p e below T2 (mkF m 13 #[vR a0, vR a0, vR a0] [(.ref a0)]) _
    refine st3 _ ?_
    show SP p e below T3 (mkF m 16 #[vR a0, vR a0, vR a0] [(.int h0x)]) _
    refine XS.aloadN X3.here hx rfl (hb hby d44_16) rfl rfl ?_
    show SP p e below T3 (mkF m 17 #[vR a0, vR a0, vR a0] [(.ref a0), (.int h0x)]) _
    refine st4 _ ?_
    show SP p e below T4 (mkF m 20 #[vR a0, vR a0, vR a0] [(.int h0x), (.int h0x)]) _
    refine XS.icmpNo X4.here hx rfl (hb hby d44_20) rfl (teq (rfl : h0x = h0x)).2 ?_
    refine XS.aloadN X4.here hx rfl (hb hby d44_23) rfl rfl ?_
    show SP p e below T4 (mkF m 24 #[vR a0, vR a0, vR a0] [(.ref a0)]) _
    refine st5 _ ?_
    show SP p e below T5 (mkF m 27 #[vR a0, vR a0, vR a0] [(.ref v0)]) _
    refine XS.aloadN X5.here hx rfl (hb hby d44_27) rfl rfl ?_
    show SP p e below T5 (mkF m 28 #[vR a0, vR a0, vR a0] [(.ref a0), (.ref v0)]) _
    refine st6 _ ?_
    show SP p e below T6 (mkF m 31 #[vR a0, vR a0, vR a0] [(.ref v0), (.ref v0)]) _
    refine st7 _ ?_
    show SP p e below T7 (mkF m 34 #[vR a0, vR a0, vR a0] [(.int (1 : Int32))]) _
    refine XS.ifNo X7'.here hx rfl (hb hby d44_34) rfl ((if0 _ _).trans (feq (by decide : ¬ ((1 : Int32) = (0 : Int32)))).1) ?_
    refine XS.iconst X7'.here hx rfl (hb hby d44_37) ?_
    refine XS.goto X7'.here hx rfl (pc0 := 38) (pc' := 42) rfl (hb hby d44_38) (by decide) (by decide) ?_
    show SP p e below T7 (mkF m 42 #[vR a0, vR a0, vR a0] [(.int (1 : Int32))]) _
    exact retN X7' hx (t := .boolean) Bd.returns (by simp) (hb hby d44_42) hr
  · show Q44S Z a0 h0x v0 kv0 lx x0 h0 n0 _ T7.heap _
    rw [e7]
    exact ⟨rfl, N7, rfl⟩
theorem ef_rm44s (m : MethodId) (a0 a1 : Addr) : entryFrame m #[(.ref a0), (.ref a1)] 3 = mkF m 0 #[vR a0, vR a1, .unset] [] := by first | (simp [entryFrame, mkF, argsToLocals, Value.category]; done) | rfl
def Q44s (Z : State) (a0 a1 : Addr) (h0x : Int32) (v0 : Addr) (kv0 : ClassId) (lx : Addr) (x0 : Int64) (h1x : Int32) (v1 : Addr) (kv1 : ClassId) (h0 : Heap) (n0 : Nat) (v : Option Value) (h : Heap) (L : List Loc) : Prop := v = some (.int (1 : Int32)) ∧ Fr n0 L ∧ h = h0
theorem rm44s (l : Launch) (Z : State) (az : Array Value) (hw : HW Z az) (ws : List Jvm.Cond) (a0 a1 : Addr) (h0x : Int32) (v0 : Addr) (kv0 : ClassId) (lx : Addr) (x0 : Int64) (h1x : Int32) (v1 : Addr) (kv1 : ClassId) (h0 : Heap) (n0 : Nat) (Z0 : n0 ≤ h0.size) (E_a0 : Exa Z h0 a0 cTU) (F_hash_a0 : Fld Z h0 a0 cTU "hash" "I" (.int h0x)) (F_values_a0 : Fld Z h0 a0 cTU "values" cOA (.ref v0)) (V_v0 : Arv Z h0 v0 kv0 (.object "java/lang/Object") (1 : Int32) [(.ref lx)] .null) (E_v0 : Exa Z h0 v0 cOA) (E_lx : Exa Z h0 lx cLG) (F_value_lx : Fld Z h0 lx cLG "value" "J" (.long x0)) (E_a1 : Exa Z h0 a1 cTU) (F_hash_a1 : Fld Z h0 a1 cTU "hash" "I" (.int h1x)) (F_values_a1 : Fld Z h0 a1 cTU "values" cOA (.ref v1)) (V_v1 : Arv Z h0 v1 kv1 (.object "java/lang/Object") (1 : Int32) [(.ref lx)] .null) (E_v1 : Exa Z h0 v1 cOA) (hne_a0_a1 : a0 ≠ a1) (hne_v0_v1 : v0 ≠ v1) (hc14 : h0x = h1x) :
    MF l Z h0 ws ⟨cTU, "equals", "(Ljava/lang/Object;)Z"⟩ kB38 3 (some .boolean) ⟨4, 0, 0, 55⟩ #[(.ref a0), (.ref a1)] (Q44s Z a0 a1 h0x v0 kv0 lx x0 h1x v1 kv1 h0 n0) := by
  refine own_body cTU n0 rfl (plainFor_of_name pn_com_example_reteweave_reteweave_network_Tuple) (fun m => ef_rm44s m a0 a1) ?_
  intro p e s m below meth c s₁ Bd hx hby hml hown hZ X0 e0 N0 pre0
  obtain ⟨T1, X1, e1, st1⟩ := instY X0 hx hZ hown (w27 hw) e0 (Ins.self E_a1) (g := (mkF m 1 #[vR a0, vR a1, .unset] [(.ref a1)])) rfl rfl (hb hby d44_1)
  obtain ⟨T2, X2, e2, st2⟩ := castY X1 hx hZ hown (w27 hw) e1 (Ins.self E_a1) (g := (mkF m 8 #[vR a0, vR a1, .unset] [(.ref a1)])) rfl rfl (hb hby d44_8)
  obtain ⟨T3, X3, e3, st3⟩ := getF X2 hx hZ hown (host := "") (Or.inl (w52 hw)) Via.refl e2 F_hash_a0 (g := (mkF m 13 #[vR a0, vR a1, vR a1] [(.ref a0)])) rfl rfl (hb hby d44_13)
  obtain ⟨T4, X4, e4, st4⟩ := getF X3 hx hZ hown (host := "") (Or.inl (w52 hw)) Via.refl e3 F_hash_a1 (g := (mkF m 17 #[vR a0, vR a1, vR a1] [(.ref a1), (.int h0x)])) rfl rfl (hb hby d44_17)
  obtain ⟨T5, X5, e5, st5⟩ := getF X4 hx hZ hown (host := "") (Or.inl (w35 hw)) Via.refl e4 F_values_a0 (g := (mkF m 24 #[vR a0, vR a1, vR a1] [(.ref a0)])) rfl rfl (hb hby d44_24)
  obtain ⟨T6, X6, e6, st6⟩ := getF X5 hx hZ hown (host := "") (Or.inl (w35 hw)) Via.refl e5 F_values_a1 (g := (mkF m 28 #[vR a0, vR a1, vR a1] [(.ref a1), (.ref v0)])) rfl rfl (hb hby d44_28)
  obtain ⟨_, _, ⟨T7, L7, k7', n7'⟩, -, X7, ⟨Lc7, hQ7, l7, y7, z7⟩, st7⟩ := Jvm.LawKit.callS X6 hx (y := ⟨"java/util/Arrays", "equals", "([Ljava/lang/Object;[Ljava/lang/Object;)Z"⟩) hown (mvT hZ (w304 hw)) (mvT hZ (w305 hw)) (mvT hZ (w39 hw)) (mvT hZ (w306 hw)) (by decide) (backOf (W := 0) (rm45s l Z az hw [] v0 v1 kv0 lx kv1 h0 n0 Z0 V_v0 E_v0 V_v1 E_v1 hne_v0_v1) hZ (w306 hw) (w39 hw) (by decide) (by decide)) (g := (mkF m 31 #[vR a0, vR a1, vR a1] [(.ref v1), (.ref v0)])) rfl (by rw [hml]; rfl) (argsL := [(.ref v0), (.ref v1)]) (rest := []) (lenOf pd_13 rfl) rfl (Nat.le_of_eq rfl) (hb hby d44_31) (fun _ _ => ⟨rfl, e6, (own_nle rfl), (own_nle rfl)⟩)
  dsimp only [Pt.U, Pt.locs, Pt.cells, Pt.slots] at X7 l7 y7 z7 st7 hQ7
  subst l7 y7 z7
  obtain ⟨rfl, N7q, e7⟩ := hQ7
  obtain ⟨Lg7, X7', N7⟩ := own_gen X7 (Fr.app N0 N7q)
  obtain ⟨fs, hr, hrun, hended, hW, hsame⟩ := X7'.leave (v := some (.int (1 : Int32))) (fun h => by rw [Bd.returns] at h; cases h) Bd.notSynchronized
  refine ⟨_, _, pre0 _ ?_, hrun, hended, _, _, rfl, ?_, ⟨_, rfl⟩, hW, hsame.mono (by decide) (by decide)⟩
  · show SP p e below s₁ (mkF m 0 #[vR a0, vR a1, .unset] []) _
    refine XS.aloadN X0.here hx rfl (hb hby d44_0) rfl rfl ?_
    show SP p e below s₁ (mkF m 1 #[vR a0, vR a1, .unset] [(.ref a1)]) _
    refine st1 _ ?_
    show SP p e below T1 (mkF m 4 #[vR a0, vR a1, .unset] [(.int (1 : Int32))]) _
    refine XS.ifNo X1.here hx rfl (hb hby d44_4) rfl ((if0 _ _).trans (feq (by decide : ¬ ((1 : Int32) = (0 : Int32)))).1) ?_
    refine XS.aloadN X1.here hx rfl (hb hby d44_7) rfl rfl ?_
    show SP p e below T1 (mkF m 8 #[vR a0, vR a1, .unset] [(.ref a1)]) _
    refine st2 _ ?_
    show SP p e below T2 (mkF m 11 #[vR a0, vR a1, .unset] [(.ref a1)]) _
    refine XS.astoreN X2.here hx rfl (hb hby d44_11) rfl rfl (l' := #[vR a0, vR a1, vR a1]) rfl ?_
    refine XS.aloadN X2.here hx rfl (hb hby d44_12) rfl rfl ?_
    show SP p e below T2 (mkF m 13 #[vR a0, vR a1, vR a1] [(.ref a0)]) _
    refine st3 _ ?_
    show SP p e below T3 (mkF m 16 #[vR a0, vR a1, vR a1] [(.int h0x)]) _
    refine XS.aloadN X3.here hx rfl (hb hby d44_16) rfl rfl ?_
    show SP p e below T3 (mkF m 17 #[vR a0, vR a1, vR a1] [(.ref a1), (.int h0x)]) _
    refine st4 _ ?_
    show SP p e below T4 (mkF m 20 #[vR a0, vR a1, vR a1] [(.int h1x), (.int h0x)]) _
    refine XS.icmpNo X4.here hx rfl (hb hby d44_20) rfl (teq hc14).2 ?_
    refine XS.aloadN X4.here hx rfl (hb hby d44_23) rfl rfl ?_
    show SP p e below T4 (mkF m 24 #[vR a0, vR a1, vR a1] [(.ref a0)]) _
    refine st5 _ ?_
    show SP p e below T5 (mkF m 27 #[vR a0, vR a1, vR a1] [(.ref v0)]) _
    refine XS.aloadN X5.here hx rfl (hb hby d44_27) rfl rfl ?_
    show SP p e below T5 (mkF m 28 #[vR a0, vR a1, vR a1] [(.ref a1), (.ref v0)]) _
    refine st6 _ ?_
    show SP p e below T6 (mkF m 31 #[vR a0, vR a1, vR a1] [(.ref v1), (.ref v0)]) _
    refine st7 _ ?_
    show SP p e below T7 (mkF m 34 #[vR a0, vR a1, vR a1] [(.int (1 : Int32))]) _
    refine XS.ifNo X7'.here hx rfl (hb hby d44_34) rfl ((if0 _ _).trans (feq (by decide : ¬ ((1 : Int32) = (0 : Int32)))).1) ?_
    refine XS.iconst X7'.here hx rfl (hb hby d44_37) ?_
    refine XS.goto X7'.here hx rfl (pc0 := 38) (pc' := 42) rfl (hb hby d44_38) (by decide) (by decide) ?_
    show SP p e below T7 (mkF m 42 #[vR a0, vR a1, vR a1] [(.int (1 : Int32))]) _
    exact retN X7' hx (t := .boolean) Bd.returns (by simp) (hb hby d44_42) hr
  · show Q44s Z a0 a1 h0x v0 kv0 lx x0 h1x v1 kv1 h0 n0 _ T7.heap _
    rw [e7]
    exact ⟨rfl, N7, rfl⟩
theorem ef_rm44e (m : MethodId) (a0 a1 : Addr) : entryFrame m #[(.ref a0), (.ref a1)] 3 = mkF m 0 #[vR a0, vR a1, .unset] [] := by first | (simp [entryFrame, mkF, argsToLocals, Value.category]; done) | rfl
def Q44e (Z : State) (a0 a1 : Addr) (h0x : Int32) (v0 : Addr) (kv0 : ClassId) (lx : Addr) (x0 : Int64) (h1x : Int32) (v1 : Addr) (kv1 : ClassId) (ly : Addr) (x1 : Int64) (h0 : Heap) (n0 : Nat) (v : Option Value) (h : Heap) (L : List Loc) : Prop := v = some (.int (1 : Int32)) ∧ Fr n0 L ∧ h = h0
theorem rm44e (l : Launch) (Z : State) (az : Array Value) (hw : HW Z az) (ws : List Jvm.Cond) (a0 a1 : Addr) (h0x : Int32) (v0 : Addr) (kv0 : ClassId) (lx : Addr) (x0 : Int64) (h1x : Int32) (v1 : Addr) (kv1 : ClassId) (ly : Addr) (x1 : Int64) (h0 : Heap) (n0 : Nat) (Z0 : n0 ≤ h0.size) (E_a0 : Exa Z h0 a0 cTU) (F_hash_a0 : Fld Z h0 a0 cTU "hash" "I" (.int h0x)) (F_values_a0 : Fld Z h0 a0 cTU "values" cOA (.ref v0)) (V_v0 : Arv Z h0 v0 kv0 (.object "java/lang/Object") (1 : Int32) [(.ref lx)] .null) (E_v0 : Exa Z h0 v0 cOA) (E_lx : Exa Z h0 lx cLG) (F_value_lx : Fld Z h0 lx cLG "value" "J" (.long x0)) (E_a1 : Exa Z h0 a1 cTU) (F_hash_a1 : Fld Z h0 a1 cTU "hash" "I" (.int h1x)) (F_values_a1 : Fld Z h0 a1 cTU "values" cOA (.ref v1)) (V_v1 : Arv Z h0 v1 kv1 (.object "java/lang/Object") (1 : Int32) [(.ref ly)] .null) (E_v1 : Exa Z h0 v1 cOA) (E_ly : Exa Z h0 ly cLG) (F_value_ly : Fld Z h0 ly cLG "value" "J" (.long x1)) (hne_a0_a1 : a0 ≠ a1) (hne_v0_v1 : v0 ≠ v1) (hne_lx_ly : lx ≠ ly) (hc17 : h0x = h1x) (hc18 : (lcmpW x0 x1) = (0 : Int32)) :
    MF l Z h0 ws ⟨cTU, "equals", "(Ljava/lang/Object;)Z"⟩ kB38 3 (some .boolean) ⟨4, 0, 0, 55⟩ #[(.ref a0), (.ref a1)] (Q44e Z a0 a1 h0x v0 kv0 lx x0 h1x v1 kv1 ly x1 h0 n0) := by
  refine own_body cTU n0 rfl (plainFor_of_name pn_com_example_reteweave_reteweave_network_Tuple) (fun m => ef_rm44e m a0 a1) ?_
  intro p e s m below meth c s₁ Bd hx hby hml hown hZ X0 e0 N0 pre0
  obtain ⟨T1, X1, e1, st1⟩ := instY X0 hx hZ hown (w27 hw) e0 (Ins.self E_a1) (g := (mkF m 1 #[vR a0, vR a1, .unset] [(.ref a1)])) rfl rfl (hb hby d44_1)
  obtain ⟨T2, X2, e2, st2⟩ := castY X1 hx hZ hown (w27 hw) e1 (Ins.self E_a1) (g := (mkF m 8 #[vR a0, vR a1, .unset] [(.ref a1)])) rfl rfl (hb hby d44_8)
  obtain ⟨T3, X3, e3, st3⟩ := getF X2 hx hZ hown (host := "") (Or.inl (w52 hw)) Via.refl e2 F_hash_a0 (g := (mkF m 13 #[vR a0, vR a1, vR a1] [(.ref a0)])) rfl rfl (hb hby d44_13)
  obtain ⟨T4, X4, e4, st4⟩ := getF X3 hx hZ hown (host := "") (Or.inl (w52 hw)) Via.refl e3 F_hash_a1 (g := (mkF m 17 #[vR a0, vR a1, vR a1] [(.ref a1), (.int h0x)])) rfl rfl (hb hby d44_17)
  obtain ⟨T5, X5, e5, st5⟩ := getF X4 hx hZ hown (host := "") (Or.inl (w35 hw)) Via.refl e4 F_values_a0 (g := (mkF m 24 #[vR a0, vR a1, vR a1] [(.ref a0)])) rfl rfl (hb hby d44_24)
  obtain ⟨T6, X6, e6, st6⟩ := getF X5 hx hZ hown (host := "") (Or.inl (w35 hw)) Via.refl e5 F_values_a1 (g := (mkF m 28 #[vR a0, vR a1, vR a1] [(.ref a1), (.ref v0)])) rfl rfl (hb hby d44_28)
  obtain ⟨_, _, ⟨T7, L7, k7', n7'⟩, -, X7, ⟨Lc7, hQ7, l7, y7, z7⟩, st7⟩ := Jvm.LawKit.callS X6 hx (y := ⟨"java/util/Arrays", "equals", "([Ljava/lang/Object;[Ljava/lang/Object;)Z"⟩) hown (mvT hZ (w304 hw)) (mvT hZ (w305 hw)) (mvT hZ (w39 hw)) (mvT hZ (w306 hw)) (by decide) (backOf (W := 0) (rm45e l Z az hw [] v0 v1 kv0 lx kv1 ly x0 x1 h0 n0 Z0 V_v0 E_v0 V_v1 E_v1 hne_v0_v1 E_lx F_value_lx E_ly F_value_ly hne_lx_ly hc18) hZ (w306 hw) (w39 hw) (by decide) (by decide)) (g := (mkF m 31 #[vR a0, vR a1, vR a1] [(.ref v1), (.ref v0)])) rfl (by rw [hml]; rfl) (argsL := [(.ref v0), (.ref v1)]) (rest := []) (lenOf pd_13 rfl) rfl (Nat.le_of_eq rfl) (hb hby d44_31) (fun _ _ => ⟨rfl, e6, (own_nle rfl), (own_nle rfl)⟩)
  dsimp only [Pt.U, Pt.locs, Pt.cells, Pt.slots] at X7 l7 y7 z7 st7 hQ7
  subst l7 y7 z7
  obtain ⟨rfl, N7q, e7⟩ := hQ7
  obtain ⟨Lg7, X7', N7⟩ := own_gen X7 (Fr.app N0 N7q)
  obtain ⟨fs, hr, hrun, hended, hW, hsame⟩ := X7'.leave (v := some (.int (1 : Int32))) (fun h => by rw [Bd.returns] at h; cases h) Bd.notSynchronized
  refine ⟨_, _, pre0 _ ?_, hrun, hended, _, _, rfl, ?_, ⟨_, rfl⟩, hW, hsame.mono (by decide) (by decide)⟩
  · show SP p e below s₁ (mkF m 0 #[vR a0, vR a1, .unset] []) _
    refine XS.aloadN X0.here hx rfl (hb hby d44_0) rfl rfl ?_
    show SP p e below s₁ (mkF m 1 #[vR a0, vR a1, .unset] [(.ref a1)]) _
    refine st1 _ ?_
    show SP p e below T1 (mkF m 4 #[vR a0, vR a1, .unset] [(.int (1 : Int32))]) _
    refine XS.ifNo X1.here hx rfl (hb hby d44_4) rfl ((if0 _ _).trans (feq (by decide : ¬ ((1 : Int32) = (0 : Int32)))).1) ?_
    refine XS.aloadN X1.here hx rfl (hb hby d44_7) rfl rfl ?_
    show SP p e below T1 (mkF m 8 #[vR a0, vR a1, .unset] [(.ref a1)]) _
    refine st2 _ ?_
    show SP p e below T2 (mkF m 11 #[vR a0, vR a1, .unset] [(.ref a1)]) _
    refine XS.astoreN X2.here hx rfl (hb hby d44_11) rfl rfl (l' := #[vR a0, vR a1, vR a1]) rfl ?_
    refine XS.aloadN X2.here hx rfl (hb hby d44_12) rfl rfl ?_
    show SP p e below T2 (mkF m 13 #[vR a0, vR a1, vR a1] [(.ref a0)]) _
    refine st3 _ ?_
    show SP p e below T3 (mkF m 16 #[vR a0, vR a1, vR a1] [(.int h0x)]) _
    refine XS.aloadN X3.here hx rfl (hb hby d44_16) rfl rfl ?_
    show SP p e below T3 (mkF m 17 #[vR a0, vR a1, vR a1] [(.ref a1), (.int h0x)]) _
    refine st4 _ ?_
    show SP p e below T4 (mkF m 20 #[vR a0, vR a1, vR a1] [(.int h1x), (.int h0x)]) _
    refine XS.icmpNo X4.here hx rfl (hb hby d44_20) rfl (teq hc17).2 ?_
    refine XS.aloadN X4.here hx rfl (hb hby d44_23) rfl rfl ?_
    show SP p e below T4 (mkF m 24 #[vR a0, vR a1, vR a1] [(.ref a0)]) _
    refine st5 _ ?_
    show SP p e below T5 (mkF m 27 #[vR a0, vR a1, vR a1] [(.ref v0)]) _
    refine XS.aloadN X5.here hx rfl (hb hby d44_27) rfl rfl ?_
    show SP p e below T5 (mkF m 28 #[vR a0, vR a1, vR a1] [(.ref a1), (.ref v0)]) _
    refine st6 _ ?_
    show SP p e below T6 (mkF m 31 #[vR a0, vR a1, vR a1] [(.ref v1), (.ref v0)]) _
    refine st7 _ ?_
    show SP p e below T7 (mkF m 34 #[vR a0, vR a1, vR a1] [(.int (1 : Int32))]) _
    refine XS.ifNo X7'.here hx rfl (hb hby d44_34) rfl ((if0 _ _).trans (feq (by decide : ¬ ((1 : Int32) = (0 : Int32)))).1) ?_
    refine XS.iconst X7'.here hx rfl (hb hby d44_37) ?_
    refine XS.goto X7'.here hx rfl (pc0 := 38) (pc' := 42) rfl (hb hby d44_38) (by decide) (by decide) ?_
    show SP p e below T7 (mkF m 42 #[vR a0, vR a1, vR a1] [(.int (1 : Int32))]) _
    exact retN X7' hx (t := .boolean) Bd.returns (by simp) (hb hby d44_42) hr
  · show Q44e Z a0 a1 h0x v0 kv0 lx x0 h1x v1 kv1 ly x1 h0 n0 _ T7.heap _
    rw [e7]
    exact ⟨rfl, N7, rfl⟩
theorem d44_41 : dc kB38 41 (.iconst 0) 1 := by decide +kernel
theorem ef_rm44d (m : MethodId) (a0 a1 : Addr) : entryFrame m #[(.ref a0), (.ref a1)] 3 = mkF m 0 #[vR a0, vR a1, .unset] [] := by first | (simp [entryFrame, mkF, argsToLocals, Value.category]; done) | rfl
def Q44d (Z : State) (a0 a1 : Addr) (h0x : Int32) (v0 : Addr) (kv0 : ClassId) (lx : Addr) (x0 : Int64) (h1x : Int32) (v1 : Addr) (kv1 : ClassId) (ly : Addr) (x1 : Int64) (h0 : Heap) (n0 : Nat) (v : Option Value) (h : Heap) (L : List Loc) : Prop := v = some (.int (0 : Int32)) ∧ Fr n0 L ∧ h = h0
theorem rm44d (l : Launch) (Z : State) (az : Array Value) (hw : HW Z az) (ws : List Jvm.Cond) (a0 a1 : Addr) (h0x : Int32) (v0 : Addr) (kv0 : ClassId) (lx : Addr) (x0 : Int64) (h1x : Int32) (v1 : Addr) (kv1 : ClassId) (ly : Addr) (x1 : Int64) (h0 : Heap) (n0 : Nat) (Z0 : n0 ≤ h0.size) (E_a0 : Exa Z h0 a0 cTU) (F_hash_a0 : Fld Z h0 a0 cTU "hash" "I" (.int h0x)) (F_values_a0 : Fld Z h0 a0 cTU "values" cOA (.ref v0)) (V_v0 : Arv Z h0 v0 kv0 (.object "java/lang/Object") (1 : Int32) [(.ref lx)] .null) (E_v0 : Exa Z h0 v0 cOA) (E_lx : Exa Z h0 lx cLG) (F_value_lx : Fld Z h0 lx cLG "value" "J" (.long x0)) (E_a1 : Exa Z h0 a1 cTU) (F_hash_a1 : Fld Z h0 a1 cTU "hash" "I" (.int h1x)) (F_values_a1 : Fld Z h0 a1 cTU "values" cOA (.ref v1)) (V_v1 : Arv Z h0 v1 kv1 (.object "java/lang/Object") (1 : Int32) [(.ref ly)] .null) (E_v1 : Exa Z h0 v1 cOA) (E_ly : Exa Z h0 ly cLG) (F_value_ly : Fld Z h0 ly cLG "value" "J" (.long x1)) (hne_a0_a1 : a0 ≠ a1) (hne_v0_v1 : v0 ≠ v1) (hne_lx_ly : lx ≠ ly) (hc17 : h0x = h1x) (hc18 : ¬ ((lcmpW x0 x1) = (0 : Int32))) :
    MF l Z h0 ws ⟨cTU, "equals", "(Ljava/lang/Object;)Z"⟩ kB38 3 (some .boolean) ⟨4, 0, 0, 55⟩ #[(.ref a0), (.ref a1)] (Q44d Z a0 a1 h0x v0 kv0 lx x0 h1x v1 kv1 ly x1 h0 n0) := by
  refine own_body cTU n0 rfl (plainFor_of_name pn_com_example_reteweave_reteweave_network_Tuple) (fun m => ef_rm44d m a0 a1) ?_
  intro p e s m below meth c s₁ Bd hx hby hml hown hZ X0 e0 N0 pre0
  obtain ⟨T1, X1, e1, st1⟩ := instY X0 hx hZ hown (w27 hw) e0 (Ins.self E_a1) (g := (mkF m 1 #[vR a0, vR a1, .unset] [(.ref a1)])) rfl rfl (hb hby d44_1)
  obtain ⟨T2, X2, e2, st2⟩ := castY X1 hx hZ hown (w27 hw) e1 (Ins.self E_a1) (g := (mkF m 8 #[vR a0, vR a1, .unset] [(.ref a1)])) rfl rfl (hb hby d44_8)
  obtain ⟨T3, X3, e3, st3⟩ := getF X2 hx hZ hown (host := "") (Or.inl (w52 hw)) Via.refl e2 F_hash_a0 (g := (mkF m 13 #[vR a0, vR a1, vR a1] [(.ref a0)])) rfl rfl (hb hby d44_13)
  obtain ⟨T4, X4, e4, st4⟩ := getF X3 hx hZ hown (host := "") (Or.inl (w52 hw)) Via.refl e3 F_hash_a1 (g := (mkF m 17 #[vR a0, vR a1, vR a1] [(.ref a1), (.int h0x)])) rfl rfl (hb hby d44_17)
  obtain ⟨T5, X5, e5, st5⟩ := getF X4 hx hZ hown (host := "") (Or.inl (w35 hw)) Via.refl e4 F_values_a0 (g := (mkF m 24 #[vR a0, vR a1, vR a1] [(.ref a0)])) rfl rfl (hb hby d44_24)
  obtain ⟨T6, X6, e6, st6⟩ := getF X5 hx hZ hown (host := "") (Or.inl (w35 hw)) Via.refl e5 F_values_a1 (g := (mkF m 28 #[vR a0, vR a1, vR a1] [(.ref a1), (.ref v0)])) rfl rfl (hb hby d44_28)
  obtain ⟨_, _, ⟨T7, L7, k7', n7'⟩, -, X7, ⟨Lc7, hQ7, l7, y7, z7⟩, st7⟩ := Jvm.LawKit.callS X6 hx (y := ⟨"java/util/Arrays", "equals", "([Ljava/lang/Object;[Ljava/lang/Object;)Z"⟩) hown (mvT hZ (w304 hw)) (mvT hZ (w305 hw)) (mvT hZ (w39 hw)) (mvT hZ (w306 hw)) (by decide) (backOf (W := 0) (rm45d l Z az hw [] v0 v1 kv0 lx kv1 ly x0 x1 h0 n0 Z0 V_v0 E_v0 V_v1 E_v1 hne_v0_v1 E_lx F_value_lx E_ly F_value_ly hne_lx_ly hc18) hZ (w306 hw) (w39 hw) (by decide) (by decide)) (g := (mkF m 31 #[vR a0, vR a1, vR a1] [(.ref v1), (.ref v0)])) rfl (by rw [hml]; rfl) (argsL := [(.ref v0), (.ref v1)]) (rest := []) (lenOf pd_13 rfl) rfl (Nat.le_of_eq rfl) (hb hby d44_31) (fun _ _ => ⟨rfl, e6, (own_nle rfl), (own_nle rfl)⟩)
  dsimp only [Pt.U, Pt.locs, Pt.cells, Pt.slots] at X7 l7 y7 z7 st7 hQ7
  subst l7 y7 z7
  obtain ⟨rfl, N7q, e7⟩ := hQ7
  obtain ⟨Lg7, X7', N7⟩ := own_gen X7 (Fr.app N0 N7q)
  obtain ⟨fs, hr, hrun, hended, hW, hsame⟩ := X7'.leave (v := some (.int (0 : Int32))) (fun h => by rw [Bd.returns] at h; cases h) Bd.notSynchronized
  refine ⟨_, _, pre0 _ ?_, hrun, hended, _, _, rfl, ?_, ⟨_, rfl⟩, hW, hsame.mono (by decide) (by decide)⟩
  · show SP p e below s₁ (mkF m 0 #[vR a0, vR a1, .unset] []) _
    refine XS.aloadN X0.here hx rfl (hb hby d44_0) rfl rfl ?_
    show SP p e below s₁ (mkF m 1 #[vR a0, vR a1, .unset] [(.ref a1)]) _
    refine st1 _ ?_
    show SP p e below T1 (mkF m 4 #[vR a0, vR a1, .unset] [(.int (1 : Int32))]) _
    refine XS.ifNo X1.here hx rfl (hb hby d44_4) rfl ((if0 _ _).trans (feq (by decide : ¬ ((1 : Int32) = (0 : Int32)))).1) ?_
    refine XS.aloadN X1.here hx rfl (hb hby d44_7) rfl rfl ?_
    show SP p e below T1 (mkF m 8 #[vR a0, vR a1, .unset] [(.ref a1)]) _
    refine st2 _ ?_
    show SP p e below T2 (mkF m 11 #[vR a0, vR a1, .unset] [(.ref a1)]) _
    refine XS.astoreN X2.here hx rfl (hb hby d44_11) rfl rfl (l' := #[vR a0, vR a1, vR a1]) rfl ?_
    refine XS.aloadN X2.here hx rfl (hb hby d44_12) rfl rfl ?_
    show SP p e below T2 (mkF m 13 #[vR a0, vR a1, vR a1] [(.ref a0)]) _
    refine st3 _ ?_
    show SP p e below T3 (mkF m 16 #[vR a0, vR a1, vR a1] [(.int h0x)]) _
    refine XS.aloadN X3.here hx rfl (hb hby d44_16) rfl rfl ?_
    show SP p e below T3 (mkF m 17 #[vR a0, vR a1, vR a1] [(.ref a1), (.int h0x)]) _
    refine st4 _ ?_
    show SP p e below T4 (mkF m 20 #[vR a0, vR a1, vR a1] [(.int h1x), (.int h0x)]) _
    refine XS.icmpNo X4.here hx rfl (hb hby d44_20) rfl (teq hc17).2 ?_
    refine XS.aloadN X4.here hx rfl (hb hby d44_23) rfl rfl ?_
    show SP p e below T4 (mkF m 24 #[vR a0, vR a1, vR a1] [(.ref a0)]) _
    refine st5 _ ?_
    show SP p e below T5 (mkF m 27 #[vR a0, vR a1, vR a1] [(.ref v0)]) _
    refine XS.aloadN X5.here hx rfl (hb hby d44_27) rfl rfl ?_
    show SP p e below T5 (mkF m 28 #[vR a0, vR a1, vR a1] [(.ref a1), (.ref v0)]) _
    refine st6 _ ?_
    show SP p e below T6 (mkF m 31 #[vR a0, vR a1, vR a1] [(.ref v1), (.ref v0)]) _
    refine st7 _ ?_
    show SP p e below T7 (mkF m 34 #[vR a0, vR a1, vR a1] [(.int (0 : Int32))]) _
    refine XS.ifYes X7'.here hx rfl (pc0 := 34) (pc' := 41) rfl (hb hby d44_34) rfl ((if0 _ _).trans (teq (by decide : (0 : Int32) = (0 : Int32))).1) (by decide) (by decide) ?_
    refine XS.iconst X7'.here hx rfl (hb hby d44_41) ?_
    show SP p e below T7 (mkF m 42 #[vR a0, vR a1, vR a1] [(.int (0 : Int32))]) _
    exact retN X7' hx (t := .boolean) Bd.returns (by simp) (hb hby d44_42) hr
  · show Q44d Z a0 a1 h0x v0 kv0 lx x0 h1x v1 kv1 ly x1 h0 n0 _ T7.heap _
    rw [e7]
    exact ⟨rfl, N7, rfl⟩
theorem own_fldu {Z : State} {h : Heap} {a : Addr} {C n d : String} {v w : Value} (A : Fld Z h a C n d v) (B : Fld Z h a C n d w) : v = w := by
  obtain ⟨c1, _, _, _, f1, h1, h2, -, -, -, -, h7⟩ := A
  obtain ⟨c2, _, _, _, f2, g1, g2, -, -, -, -, g7⟩ := B
  cases h1.symm.trans g1
  cases h2.symm.trans g2
  exact Option.some.inj (h7.symm.trans g7)
def own_eqv (x y : Int64) : Int32 := if x = y then (1 : Int32) else (0 : Int32)
def QTY (Z : State) (a0 a1 : Addr) (h0x : Int32) (v0 : Addr) (kv0 : ClassId) (lx : Addr) (x0 : Int64) (h1x : Int32) (v1 : Addr) (kv1 : ClassId) (ly : Addr) (x1 : Int64) (h0 : Heap) (n0 : Nat) (v : Option Value) (h : Heap) (L : List Loc) : Prop := v = some (.int (own_eqv x0 x1)) ∧ Fr n0 L ∧ h = h0
theorem rmTY (l : Launch) (Z : State) (az : Array Value) (hw : HW Z az) (ws : List Jvm.Cond) (a0 a1 : Addr) (h0x : Int32) (v0 : Addr) (kv0 : ClassId) (lx : Addr) (x0 : Int64) (h1x : Int32) (v1 : Addr) (kv1 : ClassId) (ly : Addr) (x1 : Int64) (h0 : Heap) (n0 : Nat) (Z0 : n0 ≤ h0.size) (E_a0 : Exa Z h0 a0 cTU) (F_hash_a0 : Fld Z h0 a0 cTU "hash" "I" (.int h0x)) (F_values_a0 : Fld Z h0 a0 cTU "values" cOA (.ref v0)) (V_v0 : Arv Z h0 v0 kv0 (.object "java/lang/Object") (1 : Int32) [(.ref lx)] .null) (E_v0 : Exa Z h0 v0 cOA) (E_lx : Exa Z h0 lx cLG) (F_value_lx : Fld Z h0 lx cLG "value" "J" (.long x0)) (E_a1 : Exa Z h0 a1 cTU) (F_hash_a1 : Fld Z h0 a1 cTU "hash" "I" (.int h1x)) (F_values_a1 : Fld Z h0 a1 cTU "values" cOA (.ref v1)) (V_v1 : Arv Z h0 v1 kv1 (.object "java/lang/Object") (1 : Int32) [(.ref ly)] .null) (E_v1 : Exa Z h0 v1 cOA) (E_ly : Exa Z h0 ly cLG) (F_value_ly : Fld Z h0 ly cLG "value" "J" (.long x1)) (hne_a0_a1 : a0 ≠ a1) (hne_v0_v1 : v0 ≠ v1) (hh : h0x = h1x) :
    MF l Z h0 ws ⟨cTU, "equals", "(Ljava/lang/Object;)Z"⟩ kB38 3 (some .boolean) ⟨4, 0, 0, 55⟩ #[(.ref a0), (.ref a1)] (QTY Z a0 a1 h0x v0 kv0 lx x0 h1x v1 kv1 ly x1 h0 n0) := by
  by_cases hl : lx = ly
  · subst hl
    have e := Value.long.inj (own_fldu F_value_lx F_value_ly)
    subst e
    refine own_mono (rm44s l Z az hw ws a0 a1 h0x v0 kv0 lx x0 h1x v1 kv1 h0 n0 Z0 E_a0 F_hash_a0 F_values_a0 V_v0 E_v0 E_lx F_value_lx E_a1 F_hash_a1 F_values_a1 V_v1 E_v1 hne_a0_a1 hne_v0_v1 hh) fun v h L q => ?_
    obtain ⟨rfl, qN, rfl⟩ := q
    exact ⟨by rw [show own_eqv x0 x0 = (1 : Int32) from if_pos rfl], qN, rfl⟩
  · by_cases hq : (lcmpW x0 x1) = (0 : Int32)
    · refine own_mono (rm44e l Z az hw ws a0 a1 h0x v0 kv0 lx x0 h1x v1 kv1 ly x1 h0 n0 Z0 E_a0 F_hash_a0 F_values_a0 V_v0 E_v0 E_lx F_value_lx E_a1 F_hash_a1 F_values_a1 V_v1 E_v1 E_ly F_value_ly hne_a0_a1 hne_v0_v1 hl hh hq) fun v h L q => ?_
      obtain ⟨rfl, qN, rfl⟩ := q
      exact ⟨by rw [show own_eqv x0 x1 = (1 : Int32) from if_pos ((lw_eq _ _).mp hq)], qN, rfl⟩
    · refine own_mono (rm44d l Z az hw ws a0 a1 h0x v0 kv0 lx x0 h1x v1 kv1 ly x1 h0 n0 Z0 E_a0 F_hash_a0 F_values_a0 V_v0 E_v0 E_lx F_value_lx E_a1 F_hash_a1 F_values_a1 V_v1 E_v1 E_ly F_value_ly hne_a0_a1 hne_v0_v1 hl hh hq) fun v h L q => ?_
      obtain ⟨rfl, qN, rfl⟩ := q
      exact ⟨by rw [show own_eqv x0 x1 = (0 : Int32) from if_neg fun z => hq ((lw_eq _ _).mpr z)], qN, rfl⟩
theorem d43_0 : dc kB44 0 (.aload_n 1) 1 := by decide +kernel
theorem d43_1 : dc kB44 1 (.aload_n 2) 1 := by decide +kernel
theorem d43_2 : dc kB44 2 (.invokevirtual 7) 3 := by decide +kernel
theorem d43_5 : dc kB44 5 .ireturn 1 := by decide +kernel
theorem ef_rm43S (m : MethodId) (a0 a1 : Addr) : entryFrame m #[(.ref a0), (.ref a1), (.ref a1)] 3 = mkF m 0 #[vR a0, vR a1, vR a1] [] := by first | (simp [entryFrame, mkF, argsToLocals, Value.category]; done) | rfl
def Q43S (Z : State) (a0 a1 : Addr) (h0x : Int32) (v0 : Addr) (kv0 : ClassId) (lx : Addr) (x0 : Int64) (h0 : Heap) (n0 : Nat) (v : Option Value) (h : Heap) (L : List Loc) : Prop := v = some (.int (1 : Int32)) ∧ Fr n0 L ∧ h = h0
theorem rm43S (l : Launch) (Z : State) (az : Array Value) (hw : HW Z az) (ws : List Jvm.Cond) (a0 a1 : Addr) (h0x : Int32) (v0 : Addr) (kv0 : ClassId) (lx : Addr) (x0 : Int64) (h0 : Heap) (n0 : Nat) (Z0 : n0 ≤ h0.size) (E_a1 : Exa Z h0 a1 cTU) (F_hash_a1 : Fld Z h0 a1 cTU "hash" "I" (.int h0x)) (F_values_a1 : Fld Z h0 a1 cTU "values" cOA (.ref v0)) (V_v0 : Arv Z h0 v0 kv0 (.object "java/lang/Object") (1 : Int32) [(.ref lx)] .null) (E_v0 : Exa Z h0 v0 cOA) (E_lx : Exa Z h0 lx cLG) (F_value_lx : Fld Z h0 lx cLG "value" "J" (.long x0)) :
    MF l Z h0 ws ⟨cTC, "holds", dH⟩ kB44 3 (some .boolean) ⟨5, 0, 0, 69⟩ #[(.ref a0), (.ref a1), (.ref a1)] (Q43S Z a0 a1 h0x v0 kv0 lx x0 h0 n0) := by
  refine own_body cTC n0 rfl (plainFor_of_name pn_com_example_reteweave_reteweave_network_TupleCounts) (fun m => ef_rm43S m a0 a1) ?_
  intro p e s m below meth c s₁ Bd hx hby hml hown hZ X0 e0 N0 pre0
  obtain ⟨cq1, kq1, q1a, q1b, q1c⟩ := isOf hZ e0 E_a1
  obtain ⟨_, _, ⟨T1, L1, k1', n1'⟩, -, X1, ⟨Lc1, hQ1, l1, y1, z1⟩, st1⟩ := X0.virtualBack hx (y := ⟨"java/lang/Object", "equals", "(Ljava/lang/Object;)Z"⟩) (z := ⟨cTU, "equals", "(Ljava/lang/Object;)Z"⟩) hown (mvT hZ (w298 hw)) (mvT hZ (w299 hw)) (own_nf (args := #[]) (mvT hZ (w19 hw)) rfl) (mvT hZ (w301 hw)) (mvT hZ (w302 hw)) (by decide) (backOf (W := 0) (rm44S l Z az hw [] a1 h0x v0 kv0 lx x0 h0 n0 Z0 E_a1 F_hash_a1 F_values_a1 V_v0 E_v0 E_lx F_value_lx) hZ (w303 hw) (w13 hw) (by decide) (by decide)) q1a q1c (g := (mkF m 2 #[vR a0, vR a1, vR a1] [(.ref a1), (.ref a1)])) rfl (by rw [hml]; rfl) (Steps.refl _) (argsL := [(.ref a1)]) (rest := []) (lenOf pd_11 rfl) rfl (Nat.le_of_eq rfl) (hb hby d43_2) (fun _ _ => ⟨rfl, e0, (own_nle rfl), (own_nle rfl)⟩)
  dsimp only [Pt.U, Pt.locs, Pt.cells, Pt.slots] at X1 l1 y1 z1 st1 hQ1
  subst l1 y1 z1
  obtain ⟨rfl, N1q, e1⟩ := hQ1
  obtain ⟨Lg1, X1', N1⟩ := own_gen X1 (Fr.app N0 N1q)
  obtain ⟨fs, hr, hrun, hended, hW, hsame⟩ := X1'.leave (v := some (.int (1 : Int32))) (fun h => by rw [Bd.returns] at h; cases h) Bd.notSynchronized
  refine ⟨_, _, pre0 _ ?_, hrun, hended, _, _, rfl, ?_, ⟨_, rfl⟩, hW, hsame.mono (by decide) (by decide)⟩
  · show SP p e below s₁ (mkF m 0 #[vR a0, vR a1, vR a1] []) _
    refine XS.aloadN X0.here hx rfl (hb hby d43_0) rfl rfl ?_
    refine XS.aloadN X0.here hx rfl (hb hby d43_1) rfl rfl ?_
    show SP p e below s₁ (mkF m 2 #[vR a0, vR a1, vR a1] [(.ref a1), (.ref a1)]) _
    refine st1.trans ?_
    show SP p e below T1 (mkF m 5 #[vR a0, vR a1, vR a1] [(.int (1 : Int32))]) _
    exact retN X1' hx (t := .boolean) Bd.returns (by simp) (hb hby d43_5) hr
  · show Q43S Z a0 a1 h0x v0 kv0 lx x0 h0 n0 _ T1.heap _
    rw [e1]
    exact ⟨rfl, N1, rfl⟩
theorem ef_rm43Y (m : MethodId) (a0 a1 a2 : Addr) : entryFrame m #[(.ref a0), (.ref a1), (.ref a2)] 3 = mkF m 0 #[vR a0, vR a1, vR a2] [] := by first | (simp [entryFrame, mkF, argsToLocals, Value.category]; done) | rfl
def Q43Y (Z : State) (a0 a1 a2 : Addr) (h0x : Int32) (v0 : Addr) (kv0 : ClassId) (lx : Addr) (x0 : Int64) (h1x : Int32) (v1 : Addr) (kv1 : ClassId) (ly : Addr) (x1 : Int64) (h0 : Heap) (n0 : Nat) (v : Option Value) (h : Heap) (L : List Loc) : Prop := v = some (.int (own_eqv x0 x1)) ∧ Fr n0 L ∧ h = h0
theorem rm43Y (l : Launch) (Z : State) (az : Array Value) (hw : HW Z az) (ws : List Jvm.Cond) (a0 a1 a2 : Addr) (h0x : Int32) (v0 : Addr) (kv0 : ClassId) (lx : Addr) (x0 : Int64) (h1x : Int32) (v1 : Addr) (kv1 : ClassId) (ly : Addr) (x1 : Int64) (h0 : Heap) (n0 : Nat) (Z0 : n0 ≤ h0.size) (E_a1 : Exa Z h0 a1 cTU) (F_hash_a1 : Fld Z h0 a1 cTU "hash" "I" (.int h0x)) (F_values_a1 : Fld Z h0 a1 cTU "values" cOA (.ref v0)) (V_v0 : Arv Z h0 v0 kv0 (.object "java/lang/Object") (1 : Int32) [(.ref lx)] .null) (E_v0 : Exa Z h0 v0 cOA) (E_lx : Exa Z h0 lx cLG) (F_value_lx : Fld Z h0 lx cLG "value" "J" (.long x0)) (E_a2 : Exa Z h0 a2 cTU) (F_hash_a2 : Fld Z h0 a2 cTU "hash" "I" (.int h1x)) (F_values_a2 : Fld Z h0 a2 cTU "values" cOA (.ref v1)) (V_v1 : Arv Z h0 v1 kv1 (.object "java/lang/Object") (1 : Int32) [(.ref ly)] .null) (E_v1 : Exa Z h0 v1 cOA) (E_ly : Exa Z h0 ly cLG) (F_value_ly : Fld Z h0 ly cLG "value" "J" (.long x1)) (hne_a1_a2 : a1 ≠ a2) (hne_v0_v1 : v0 ≠ v1) (hc16 : h0x = h1x) (hc17 : nar .boolean (own_eqv x0 x1) = (own_eqv x0 x1)) :
    MF l Z h0 ws ⟨cTC, "holds", dH⟩ kB44 3 (some .boolean) ⟨5, 0, 0, 69⟩ #[(.ref a0), (.ref a1), (.ref a2)] (Q43Y Z a0 a1 a2 h0x v0 kv0 lx x0 h1x v1 kv1 ly x1 h0 n0) := by
  refine own_body cTC n0 rfl (plainFor_of_name pn_com_example_reteweave_reteweave_network_TupleCounts) (fun m => ef_rm43Y m a0 a1 a2) ?_
  intro p e s m below meth c s₁ Bd hx hby hml hown hZ X0 e0 N0 pre0
  obtain ⟨cq1, kq1, q1a, q1b, q1c⟩ := isOf hZ e0 E_a1
  obtain ⟨_, _, ⟨T1, L1, k1', n1'⟩, -, X1, ⟨Lc1, hQ1, l1, y1, z1⟩, st1⟩ := X0.virtualBack hx (y := ⟨"java/lang/Object", "equals", "(Ljava/lang/Object;)Z"⟩) (z := ⟨cTU, "equals", "(Ljava/lang/Object;)Z"⟩) hown (mvT hZ (w298 hw)) (mvT hZ (w299 hw)) (own_nf (args := #[]) (mvT hZ (w19 hw)) rfl) (mvT hZ (w301 hw)) (mvT hZ (w302 hw)) (by decide) (backOf (W := 0) (rmTY l Z az hw [] a1 a2 h0x v0 kv0 lx x0 h1x v1 kv1 ly x1 h0 n0 Z0 E_a1 F_hash_a1 F_values_a1 V_v0 E_v0 E_lx F_value_lx E_a2 F_hash_a2 F_values_a2 V_v1 E_v1 E_ly F_value_ly hne_a1_a2 hne_v0_v1 hc16) hZ (w303 hw) (w13 hw) (by decide) (by decide)) q1a q1c (g := (mkF m 2 #[vR a0, vR a1, vR a2] [(.ref a2), (.ref a1)])) rfl (by rw [hml]; rfl) (Steps.refl _) (argsL := [(.ref a2)]) (rest := []) (lenOf pd_11 rfl) rfl (Nat.le_of_eq rfl) (hb hby d43_2) (fun _ _ => ⟨rfl, e0, (own_nle rfl), (own_nle rfl)⟩)
  dsimp only [Pt.U, Pt.locs, Pt.cells, Pt.slots] at X1 l1 y1 z1 st1 hQ1
  subst l1 y1 z1
  obtain ⟨rfl, N1q, e1⟩ := hQ1
  obtain ⟨Lg1, X1', N1⟩ := own_gen X1 (Fr.app N0 N1q)
  obtain ⟨fs, hr, hrun, hended, hW, hsame⟩ := X1'.leave (v := some (.int (own_eqv x0 x1))) (fun h => by rw [Bd.returns] at h; cases h) Bd.notSynchronized
  refine ⟨_, _, pre0 _ ?_, hrun, hended, _, _, rfl, ?_, ⟨_, rfl⟩, hW, hsame.mono (by decide) (by decide)⟩
  · show SP p e below s₁ (mkF m 0 #[vR a0, vR a1, vR a2] []) _
    refine XS.aloadN X0.here hx rfl (hb hby d43_0) rfl rfl ?_
    refine XS.aloadN X0.here hx rfl (hb hby d43_1) rfl rfl ?_
    show SP p e below s₁ (mkF m 2 #[vR a0, vR a1, vR a2] [(.ref a2), (.ref a1)]) _
    refine st1.trans ?_
    show SP p e below T1 (mkF m 5 #[vR a0, vR a1, vR a2] [(.int (own_eqv x0 x1))]) _
    exact retN X1' hx (t := .boolean) Bd.returns (by simp) (hb hby d43_5) (fun f acts q1 q2 q3 => by rw [hc17]; exact hr f acts q1 q2 q3)
  · show Q43Y Z a0 a1 a2 h0x v0 kv0 lx x0 h1x v1 kv1 ly x1 h0 n0 _ T1.heap _
    rw [e1]
    exact ⟨rfl, N1, rfl⟩
def own_nx (x : Int32) : Int32 := ((x + (1 : Int32)) &&& (3 : Int32))
theorem d24_34 : dc kB37 34 (.aload_n 0) 1 := by decide +kernel
theorem d24_35 : dc kB37 35 (.iload 4) 2 := by decide +kernel
theorem d24_37 : dc kB37 37 (.invokevirtual 37) 3 := by decide +kernel
theorem d24_40 : dc kB37 40 (.iload_n 1) 1 := by decide +kernel
theorem d24_41 : dc kB37 41 (.if_icmp .ne 21) 3 := by decide +kernel
theorem d24_44 : dc kB37 44 (.aload_n 0) 1 := by decide +kernel
theorem d24_45 : dc kB37 45 (.aload_n 0) 1 := by decide +kernel
theorem d24_46 : dc kB37 46 (.getfield 9) 3 := by decide +kernel
theorem d24_49 : dc kB37 49 (.iload 4) 2 := by decide +kernel
theorem d24_51 : dc kB37 51 .aaload 1 := by decide +kernel
theorem d24_52 : dc kB37 52 (.aload_n 2) 1 := by decide +kernel
theorem d24_53 : dc kB37 53 (.invokevirtual 40) 3 := by decide +kernel
theorem pd_14 : parseMethodDescriptor "(Ljava/lang/Object;Lcom/example/reteweave/reteweave/network/Tuple;)Z" = some ⟨[(.object "java/lang/Object"), (.object "com/example/reteweave/reteweave/network/Tuple")], some .boolean⟩ := by decide +kernel
theorem d24_56 : dc kB37 56 (.ifCond .eq 6) 3 := by decide +kernel
theorem sgHS (l : Launch) (Z : State) (az : Array Value) (hw : HW Z az) {p : Program} {e : Env} {s : State} {m : MethodId} {args : Array Value} {below : List Frame} {meth : Method} {c : Code} (hx : p.tables.exec = Jvm.exec) (hby : c.code = kB37) (hml : c.maxLocals = 5) (hown : s.vm.findClass cSL = some m.cls) (hZ : Z.Warmed39 s.vm) (a0 : Addr) (p1 : Int32) (a2 : Addr) (i : Int32) (aH aG : Addr) (kH : ClassId) (f : Nat → Value) (kG : ClassId) (g : Nat → Value) (vt : Addr) (kvt : ClassId) (lt : Addr) (xt w : Int64) (h0 : Heap) (n0 : Nat) (Z0 : n0 ≤ h0.size) (E_a0 : Exa Z h0 a0 cTC) (F_held_a0 : Fld Z h0 a0 cSL "held" cOA (.ref aH)) (F_hashesAndCounts_a0 : Fld Z h0 a0 cSL "hashesAndCounts" "[J" (.ref aG)) (V_aH : own_Arf Z h0 aH kH (.object "java/lang/Object") (4 : Int32) f) (E_aH : Exa Z h0 aH cOA) (V_aG : own_Arf Z h0 aG kG .long (4 : Int32) g) (E_aG : Exa Z h0 aG "[J") (E_a2 : Exa Z h0 a2 cTU) (F_hash_a2 : Fld Z h0 a2 cTU "hash" "I" (.int p1)) (F_values_a2 : Fld Z h0 a2 cTU "values" cOA (.ref vt)) (V_vt : Arv Z h0 vt kvt (.object "java/lang/Object") (1 : Int32) [(.ref lt)] .null) (E_vt : Exa Z h0 vt cOA) (E_lt : Exa Z h0 lt cLG) (F_value_lt : Fld Z h0 lt cLG "value" "J" (.long xt)) (hc14 : ¬ (i < (0 : Int32))) (hc15 : i < (4 : Int32)) (hc16 : g (i).toNatClampNeg = (.long w)) (hc17 : (own_hh w) = p1) (hc18 : f (i).toNatClampNeg = (.ref a2)) :
    own_Seg p l e (⟨6, 0, 0, 85⟩ : Room) s m args below meth c n0 0 0 0 0 h0 (mkF m 34 #[vR a0, vI p1, vR a2, vI (3 : Int32), vI i] []) (fun h g => g = (mkF m 59 #[vR a0, vI p1, vR a2, vI (3 : Int32), vI i] []) ∧ h = h0) := by
  intro s₁ hT
  obtain ⟨Lz0, X0, e0, N0⟩ := hT
  obtain ⟨cq1, q1, q1'⟩ := E_a0.cell
  obtain ⟨_, _, ⟨T1, L1, k1', n1'⟩, -, X1, ⟨Lc1, hQ1, l1, y1, z1⟩, st1⟩ := X0.privateBack hx (y := ⟨cSL, "hashAt", "(I)I"⟩) hown (mvT hZ (w289 hw)) (mvT hZ (w290 hw)) (own_privS (mvT hZ (w172 hw)) rfl (Cond.privateMethod_at (mvP hZ (w291 hw) (args := #[]))) (mvT hZ (w290 hw)) (by decide)) (Cond.privateMethod_at (mvP hZ (w291 hw) (args := #[]))) (mvT hZ (w292 hw)) (by decide) (backOf (W := 0) (rm42 l Z az hw [] a0 i aG kG g w h0 n0 Z0 E_a0 F_hashesAndCounts_a0 V_aG E_aG hc14 hc15 hc16) hZ (w292 hw) (w111 hw) (by decide) (by decide)) (g := (mkF m 37 #[vR a0, vI p1, vR a2, vI (3 : Int32), vI i] [(.int i), (.ref a0)])) rfl (by rw [hml]; rfl) (Steps.refl _) (a := a0) (by rw [e0]; exact q1) q1' (argsL := [(.int i)]) (rest := []) (lenOf pd_8 rfl) rfl (Nat.le_of_eq rfl) (hb hby d24_37) (fun _ _ => ⟨rfl, e0, (own_nle rfl), (own_nle rfl)⟩)
  dsimp only [Pt.U, Pt.locs, Pt.cells, Pt.slots] at X1 l1 y1 z1 st1 hQ1
  subst l1 y1 z1
  obtain ⟨rfl, N1q, e1⟩ := hQ1
  obtain ⟨Lg1, X1', N1⟩ := own_gen X1 (Fr.app N0 N1q)
  obtain ⟨T2, X2, e2, st2⟩ := getF X1' hx hZ hown (host := "") (Or.inl (w115 hw)) Via.refl e1 F_held_a0 (g := (mkF m 46 #[vR a0, vI p1, vR a2, vI (3 : Int32), vI i] [(.ref a0), (.ref a0)])) rfl rfl (hb hby d24_46)
  obtain ⟨cl3, Ar3, qk3, Sz3, Ng3, Hs3, Gf3⟩ := id V_aH
  have hin4 : ¬ (i < 0 ∨ cl3.slots.size ≤ (i).toNatClampNeg) := inb_of Sz3 ⟨hc14, hc15⟩
  have hat5 : cl3.slots[(i).toNatClampNeg]? = some (.ref a2) := own_at Hs3 hin4 hc18
  obtain ⟨cq6, kq6, q6a, q6b, q6c⟩ := isOf hZ e2 E_a0
  obtain ⟨_, _, ⟨T6, L6, k6', n6'⟩, -, X6, ⟨Lc6, hQ6, l6, y6, z6⟩, st6⟩ := X2.virtualBack hx (y := ⟨cSL, "holds", dH⟩) (z := ⟨cTC, "holds", dH⟩) hown (mvT hZ (w293 hw)) (mvT hZ (w294 hw)) (own_nf (args := #[]) (mvT hZ (w172 hw)) rfl) (mvT hZ (w295 hw)) (mvT hZ (w296 hw)) (by decide) (backOf (W := 0) (rm43S l Z az hw [] a0 a2 p1 vt kvt lt xt h0 n0 Z0 E_a2 F_hash_a2 F_values_a2 V_vt E_vt E_lt F_value_lt) hZ (w297 hw) (w104 hw) (by decide) (by decide)) q6a q6c (g := (mkF m 53 #[vR a0, vI p1, vR a2, vI (3 : Int32), vI i] [(.ref a2), (.ref a2), (.ref a0)])) rfl (by rw [hml]; rfl) (Steps.refl _) (argsL := [(.ref a2), (.ref a2)]) (rest := []) (lenOf pd_14 rfl) rfl (Nat.le_of_eq rfl) (hb hby d24_53) (fun _ _ => ⟨rfl, e2, (own_nle rfl), (own_nle rfl)⟩)
  dsimp only [Pt.U, Pt.locs, Pt.cells, Pt.slots] at X6 l6 y6 z6 st6 hQ6
  subst l6 y6 z6
  obtain ⟨rfl, N6q, e6⟩ := hQ6
  obtain ⟨Lg6, X6', N6⟩ := own_gen X6 (Fr.app N1 N6q)
  refine ⟨_, _, _, ⟨rfl, rfl⟩, ⟨_, X6', e6, N6⟩, fun t hr => ?_⟩
  show SP p e below s₁ (mkF m 34 #[vR a0, vI p1, vR a2, vI (3 : Int32), vI i] []) _
  refine XS.aloadN X0.here hx rfl (hb hby d24_34) rfl rfl ?_
  refine XS.iload X0.here hx rfl (hb hby d24_35) rfl ?_
  show SP p e below s₁ (mkF m 37 #[vR a0, vI p1, vR a2, vI (3 : Int32), vI i] [(.int i), (.ref a0)]) _
  refine st1.trans ?_
  show SP p e below T1 (mkF m 40 #[vR a0, vI p1, vR a2, vI (3 : Int32), vI i] [(.int (own_hh w))]) _
  refine XS.iloadN X1'.here hx rfl (hb hby d24_40) rfl ?_
  refine XS.icmpNo X1'.here hx rfl (hb hby d24_41) rfl (teq hc17).2 ?_
  refine XS.aloadN X1'.here hx rfl (hb hby d24_44) rfl rfl ?_
  refine XS.aloadN X1'.here hx rfl (hb hby d24_45) rfl rfl ?_
  show SP p e below T1 (mkF m 46 #[vR a0, vI p1, vR a2, vI (3 : Int32), vI i] [(.ref a0), (.ref a0)]) _
  refine st2 _ ?_
  show SP p e below T2 (mkF m 49 #[vR a0, vI p1, vR a2, vI (3 : Int32), vI i] [(.ref aH), (.ref a0)]) _
  refine XS.iload X2.here hx rfl (hb hby d24_49) rfl ?_
  show SP p e below T2 (mkF m 51 #[vR a0, vI p1, vR a2, vI (3 : Int32), vI i] [(.int i), (.ref aH), (.ref a0)]) _
  refine X2.aaload hx (j := i) (v := (.ref a2)) (by rw [e2]; exact Ar3.1) (State.isArrayOf_alike hZ.alike Ar3.2.1) rfl Ar3.2.2 hin4 hat5 (g := (mkF m 51 #[vR a0, vI p1, vR a2, vI (3 : Int32), vI i] [(.int i), (.ref aH), (.ref a0)])) rfl rfl (hb hby d24_51) _ ?_
  show SP p e below T2 (mkF m 52 #[vR a0, vI p1, vR a2, vI (3 : Int32), vI i] [(.ref a2), (.ref a0)]) _
  refine XS.aloadN X2.here hx rfl (hb hby d24_52) rfl rfl ?_
  show SP p e below T2 (mkF m 53 #[vR a0, vI p1, vR a2, vI (3 : Int32), vI i] [(.ref a2), (.ref a2), (.ref a0)]) _
  refine st6.trans ?_
  show SP p e below T6 (mkF m 56 #[vR a0, vI p1, vR a2, vI (3 : Int32), vI i] [(.int (1 : Int32))]) _
  refine XS.ifNo X6'.here hx rfl (hb hby d24_56) rfl ((if0 _ _).trans (feq (by decide : ¬ ((1 : Int32) = (0 : Int32)))).1) ?_
  exact hr
theorem sgHY (l : Launch) (Z : State) (az : Array Value) (hw : HW Z az) {p : Program} {e : Env} {s : State} {m : MethodId} {args : Array Value} {below : List Frame} {meth : Method} {c : Code} (hx : p.tables.exec = Jvm.exec) (hby : c.code = kB37) (hml : c.maxLocals = 5) (hown : s.vm.findClass cSL = some m.cls) (hZ : Z.Warmed39 s.vm) (a0 : Addr) (p1 : Int32) (a2 : Addr) (i : Int32) (aH aG : Addr) (kH : ClassId) (f : Nat → Value) (kG : ClassId) (g : Nat → Value) (o : Addr) (ho : Int32) (vo : Addr) (kvo : ClassId) (lo : Addr) (xo : Int64) (vt : Addr) (kvt : ClassId) (lt : Addr) (xt w : Int64) (h0 : Heap) (n0 : Nat) (Z0 : n0 ≤ h0.size) (E_a0 : Exa Z h0 a0 cTC) (F_held_a0 : Fld Z h0 a0 cSL "held" cOA (.ref aH)) (F_hashesAndCounts_a0 : Fld Z h0 a0 cSL "hashesAndCounts" "[J" (.ref aG)) (V_aH : own_Arf Z h0 aH kH (.object "java/lang/Object") (4 : Int32) f) (E_aH : Exa Z h0 aH cOA) (V_aG : own_Arf Z h0 aG kG .long (4 : Int32) g) (E_aG : Exa Z h0 aG "[J") (E_o : Exa Z h0 o cTU) (F_hash_o : Fld Z h0 o cTU "hash" "I" (.int ho)) (F_values_o : Fld Z h0 o cTU "values" cOA (.ref vo)) (V_vo : Arv Z h0 vo kvo (.object "java/lang/Object") (1 : Int32) [(.ref lo)] .null) (E_vo : Exa Z h0 vo cOA) (E_lo : Exa Z h0 lo cLG) (F_value_lo : Fld Z h0 lo cLG "value" "J" (.long xo)) (E_a2 : Exa Z h0 a2 cTU) (F_hash_a2 : Fld Z h0 a2 cTU "hash" "I" (.int p1)) (F_values_a2 : Fld Z h0 a2 cTU "values" cOA (.ref vt)) (V_vt : Arv Z h0 vt kvt (.object "java/lang/Object") (1 : Int32) [(.ref lt)] .null) (E_vt : Exa Z h0 vt cOA) (E_lt : Exa Z h0 lt cLG) (F_value_lt : Fld Z h0 lt cLG "value" "J" (.long xt)) (hne_o_a2 : o ≠ a2) (hne_vo_vt : vo ≠ vt) (hc23 : ¬ (i < (0 : Int32))) (hc24 : i < (4 : Int32)) (hc25 : g (i).toNatClampNeg = (.long w)) (hc26 : (own_hh w) = p1) (hc27 : f (i).toNatClampNeg = (.ref o)) (hc28 : ho = p1) (hc29 : nar .boolean (own_eqv xo xt) = (own_eqv xo xt)) (hc30 : ¬ ((own_eqv xo xt) = (0 : Int32))) :
    own_Seg p l e (⟨6, 0, 0, 85⟩ : Room) s m args below meth c n0 0 0 0 0 h0 (mkF m 34 #[vR a0, vI p1, vR a2, vI (3 : Int32), vI i] []) (fun h g => g = (mkF m 59 #[vR a0, vI p1, vR a2, vI (3 : Int32), vI i] []) ∧ h = h0) := by
  intro s₁ hT
  obtain ⟨Lz0, X0, e0, N0⟩ := hT
  obtain ⟨cq1, q1, q1'⟩ := E_a0.cell
  obtain ⟨_, _, ⟨T1, L1, k1', n1'⟩, -, X1, ⟨Lc1, hQ1, l1, y1, z1⟩, st1⟩ := X0.privateBack hx (y := ⟨cSL, "hashAt", "(I)I"⟩) hown (mvT hZ (w289 hw)) (mvT hZ (w290 hw)) (own_privS (mvT hZ (w172 hw)) rfl (Cond.privateMethod_at (mvP hZ (w291 hw) (args := #[]))) (mvT hZ (w290 hw)) (by decide)) (Cond.privateMethod_at (mvP hZ (w291 hw) (args := #[]))) (mvT hZ (w292 hw)) (by decide) (backOf (W := 0) (rm42 l Z az hw [] a0 i aG kG g w h0 n0 Z0 E_a0 F_hashesAndCounts_a0 V_aG E_aG hc23 hc24 hc25) hZ (w292 hw) (w111 hw) (by decide) (by decide)) (g := (mkF m 37 #[vR a0, vI p1, vR a2, vI (3 : Int32), vI i] [(.int i), (.ref a0)])) rfl (by rw [hml]; rfl) (Steps.refl _) (a := a0) (by rw [e0]; exact q1) q1' (argsL := [(.int i)]) (rest := []) (lenOf pd_8 rfl) rfl (Nat.le_of_eq rfl) (hb hby d24_37) (fun _ _ => ⟨rfl, e0, (own_nle rfl), (own_nle rfl)⟩)
  dsimp only [Pt.U, Pt.locs, Pt.cells, Pt.slots] at X1 l1 y1 z1 st1 hQ1
  subst l1 y1 z1
  obtain ⟨rfl, N1q, e1⟩ := hQ1
  obtain ⟨Lg1, X1', N1⟩ := own_gen X1 (Fr.app N0 N1q)
  obtain ⟨T2, X2, e2, st2⟩ := getF X1' hx hZ hown (host := "") (Or.inl (w115 hw)) Via.refl e1 F_held_a0 (g := (mkF m 46 #[vR a0, vI p1, vR a2, vI (3 : Int32), vI i] [(.ref a0), (.ref a0)])) rfl rfl (hb hby d24_46)
  obtain ⟨cl3, Ar3, qk3, Sz3, Ng3, Hs3, Gf3⟩ := id V_aH
  have hin4 : ¬ (i < 0 ∨ cl3.slots.size ≤ (i).toNatClampNeg) := inb_of Sz3 ⟨hc23, hc24⟩
  have hat5 : cl3.slots[(i).toNatClampNeg]? = some (.ref o) := own_at Hs3 hin4 hc27
  obtain ⟨cq6, kq6, q6a, q6b, q6c⟩ := isOf hZ e2 E_a0
  obtain ⟨_, _, ⟨T6, L6, k6', n6'⟩, -, X6, ⟨Lc6, hQ6, l6, y6, z6⟩, st6⟩ := X2.virtualBack hx (y := ⟨cSL, "holds", dH⟩) (z := ⟨cTC, "holds", dH⟩) hown (mvT hZ (w293 hw)) (mvT hZ (w294 hw)) (own_nf (args := #[]) (mvT hZ (w172 hw)) rfl) (mvT hZ (w295 hw)) (mvT hZ (w296 hw)) (by decide) (backOf (W := 0) (rm43Y l Z az hw [] a0 o a2 ho vo kvo lo xo p1 vt kvt lt xt h0 n0 Z0 E_o F_hash_o F_values_o V_vo E_vo E_lo F_value_lo E_a2 F_hash_a2 F_values_a2 V_vt E_vt E_lt F_value_lt hne_o_a2 hne_vo_vt hc28 hc29) hZ (w297 hw) (w104 hw) (by decide) (by decide)) q6a q6c (g := (mkF m 53 #[vR a0, vI p1, vR a2, vI (3 : Int32), vI i] [(.ref a2), (.ref o), (.ref a0)])) rfl (by rw [hml]; rfl) (Steps.refl _) (argsL := [(.ref o), (.ref a2)]) (rest := []) (lenOf pd_14 rfl) rfl (Nat.le_of_eq rfl) (hb hby d24_53) (fun _ _ => ⟨rfl, e2, (own_nle rfl), (own_nle rfl)⟩)
  dsimp only [Pt.U, Pt.locs, Pt.cells, Pt.slots] at X6 l6 y6 z6 st6 hQ6
  subst l6 y6 z6
  obtain ⟨rfl, N6q, e6⟩ := hQ6
  obtain ⟨Lg6, X6', N6⟩ := own_gen X6 (Fr.app N1 N6q)
  refine ⟨_, _, _, ⟨rfl, rfl⟩, ⟨_, X6', e6, N6⟩, fun t hr => ?_⟩
  show SP p e below s₁ (mkF m 34 #[vR a0, vI p1, vR a2, vI (3 : Int32), vI i] []) _
  refine XS.aloadN X0.here hx rfl (hb hby d24_34) rfl rfl ?_
  refine XS.iload X0.here hx rfl (hb hby d24_35) rfl ?_
  show SP p e below s₁ (mkF m 37 #[vR a0, vI p1, vR a2, vI (3 : Int32), vI i] [(.int i), (.ref a0)]) _
  refine st1.trans ?_
  show SP p e below T1 (mkF m 40 #[vR a0, vI p1, vR a2, vI (3 : Int32), vI i] [(.int (own_hh w))]) _
  refine XS.iloadN X1'.here hx rfl (hb hby d24_40) rfl ?_
  refine XS.icmpNo X1'.here hx rfl (hb hby d24_41) rfl (teq hc26).2 ?_
  refine XS.aloadN X1'.here hx rfl (hb hby d24_44) rfl rfl ?_
  refine XS.aloadN X1'.here hx rfl (hb hby d24_45) rfl rfl ?_
  show SP p e below T1 (mkF m 46 #[vR a0, vI p1, vR a2, vI (3 : Int32), vI i] [(.ref a0), (.ref a0)]) _
  refine st2 _ ?_
  show SP p e below T2 (mkF m 49 #[vR a0, vI p1, vR a2, vI (3 : Int32), vI i] [(.ref aH), (.ref a0)]) _
  refine XS.iload X2.here hx rfl (hb hby d24_49) rfl ?_
  show SP p e below T2 (mkF m 51 #[vR a0, vI p1, vR a2, vI (3 : Int32), vI i] [(.int i), (.ref aH), (.ref a0)]) _
  refine X2.aaload hx (j := i) (v := (.ref o)) (by rw [e2]; exact Ar3.1) (State.isArrayOf_alike hZ.alike Ar3.2.1) rfl Ar3.2.2 hin4 hat5 (g := (mkF m 51 #[vR a0, vI p1, vR a2, vI (3 : Int32), vI i] [(.int i), (.ref aH), (.ref a0)])) rfl rfl (hb hby d24_51) _ ?_
  show SP p e below T2 (mkF m 52 #[vR a0, vI p1, vR a2, vI (3 : Int32), vI i] [(.ref o), (.ref a0)]) _
  refine XS.aloadN X2.here hx rfl (hb hby d24_52) rfl rfl ?_
  show SP p e below T2 (mkF m 53 #[vR a0, vI p1, vR a2, vI (3 : Int32), vI i] [(.ref a2), (.ref o), (.ref a0)]) _
  refine st6.trans ?_
  show SP p e below T6 (mkF m 56 #[vR a0, vI p1, vR a2, vI (3 : Int32), vI i] [(.int (own_eqv xo xt))]) _
  refine XS.ifNo X6'.here hx rfl (hb hby d24_56) rfl ((if0 _ _).trans (feq hc30).1) ?_
  exact hr
theorem sgMh (l : Launch) (Z : State) (az : Array Value) (hw : HW Z az) {p : Program} {e : Env} {s : State} {m : MethodId} {args : Array Value} {below : List Frame} {meth : Method} {c : Code} (hx : p.tables.exec = Jvm.exec) (hby : c.code = kB37) (hml : c.maxLocals = 5) (hown : s.vm.findClass cSL = some m.cls) (hZ : Z.Warmed39 s.vm) (a0 : Addr) (p1 : Int32) (a2 : Addr) (i : Int32) (aH aG : Addr) (kG : ClassId) (g : Nat → Value) (w : Int64) (h0 : Heap) (n0 : Nat) (Z0 : n0 ≤ h0.size) (E_a0 : Exa Z h0 a0 cTC) (F_held_a0 : Fld Z h0 a0 cSL "held" cOA (.ref aH)) (F_hashesAndCounts_a0 : Fld Z h0 a0 cSL "hashesAndCounts" "[J" (.ref aG)) (V_aG : own_Arf Z h0 aG kG .long (4 : Int32) g) (E_aG : Exa Z h0 aG "[J") (hc5 : ¬ (i < (0 : Int32))) (hc6 : i < (4 : Int32)) (hc7 : g (i).toNatClampNeg = (.long w)) (hc8 : ¬ ((own_hh w) = p1)) :
    own_Seg p l e (⟨6, 0, 0, 85⟩ : Room) s m args below meth c n0 0 0 0 0 h0 (mkF m 34 #[vR a0, vI p1, vR a2, vI (3 : Int32), vI i] []) (fun h g => g = (mkF m 62 #[vR a0, vI p1, vR a2, vI (3 : Int32), vI i] []) ∧ h = h0) := by
  intro s₁ hT
  obtain ⟨Lz0, X0, e0, N0⟩ := hT
  obtain ⟨cq1, q1, q1'⟩ := E_a0.cell
  obtain ⟨_, _, ⟨T1, L1, k1', n1'⟩, -, X1, ⟨Lc1, hQ1, l1, y1, z1⟩, st1⟩ := X0.privateBack hx (y := ⟨cSL, "hashAt", "(I)I"⟩) hown (mvT hZ (w289 hw)) (mvT hZ (w290 hw)) (own_privS (mvT hZ (w172 hw)) rfl (Cond.privateMethod_at (mvP hZ (w291 hw) (args := #[]))) (mvT hZ (w290 hw)) (by decide)) (Cond.privateMethod_at (mvP hZ (w291 hw) (args := #[]))) (mvT hZ (w292 hw)) (by decide) (backOf (W := 0) (rm42 l Z az hw [] a0 i aG kG g w h0 n0 Z0 E_a0 F_hashesAndCounts_a0 V_aG E_aG hc5 hc6 hc7) hZ (w292 hw) (w111 hw) (by decide) (by decide)) (g := (mkF m 37 #[vR a0, vI p1, vR a2, vI (3 : Int32), vI i] [(.int i), (.ref a0)])) rfl (by rw [hml]; rfl) (Steps.refl _) (a := a0) (by rw [e0]; exact q1) q1' (argsL := [(.int i)]) (rest := []) (lenOf pd_8 rfl) rfl (Nat.le_of_eq rfl) (hb hby d24_37) (fun _ _ => ⟨rfl, e0, (own_nle rfl), (own_nle rfl)⟩)
  dsimp only [Pt.U, Pt.locs, Pt.cells, Pt.slots] at X1 l1 y1 z1 st1 hQ1
  subst l1 y1 z1
  obtain ⟨rfl, N1q, e1⟩ := hQ1
  obtain ⟨Lg1, X1', N1⟩ := own_gen X1 (Fr.app N0 N1q)
  refine ⟨_, _, _, ⟨rfl, rfl⟩, ⟨_, X1', e1, N1⟩, fun t hr => ?_⟩
  show SP p e below s₁ (mkF m 34 #[vR a0, vI p1, vR a2, vI (3 : Int32), vI i] []) _
  refine XS.aloadN X0.here hx rfl (hb hby d24_34) rfl rfl ?_
  refine XS.iload X0.here hx rfl (hb hby d24_35) rfl ?_
  show SP p e below s₁ (mkF m 37 #[vR a0, vI p1, vR a2, vI (3 : Int32), vI i] [(.int i), (.ref a0)]) _
  refine st1.trans ?_
  show SP p e below T1 (mkF m 40 #[vR a0, vI p1, vR a2, vI (3 : Int32), vI i] [(.int (own_hh w))]) _
  refine XS.iloadN X1'.here hx rfl (hb hby d24_40) rfl ?_
  refine XS.icmpYes X1'.here hx rfl (pc0 := 41) (pc' := 62) rfl (hb hby d24_41) rfl (feq hc8).2 (by decide) (by decide) ?_
  exact hr
theorem sgMe (l : Launch) (Z : State) (az : Array Value) (hw : HW Z az) {p : Program} {e : Env} {s : State} {m : MethodId} {args : Array Value} {below : List Frame} {meth : Method} {c : Code} (hx : p.tables.exec = Jvm.exec) (hby : c.code = kB37) (hml : c.maxLocals = 5) (hown : s.vm.findClass cSL = some m.cls) (hZ : Z.Warmed39 s.vm) (a0 : Addr) (p1 : Int32) (a2 : Addr) (i : Int32) (aH aG : Addr) (kH : ClassId) (f : Nat → Value) (kG : ClassId) (g : Nat → Value) (o : Addr) (ho : Int32) (vo : Addr) (kvo : ClassId) (lo : Addr) (xo : Int64) (vt : Addr) (kvt : ClassId) (lt : Addr) (xt w : Int64) (h0 : Heap) (n0 : Nat) (Z0 : n0 ≤ h0.size) (E_a0 : Exa Z h0 a0 cTC) (F_held_a0 : Fld Z h0 a0 cSL "held" cOA (.ref aH)) (F_hashesAndCounts_a0 : Fld Z h0 a0 cSL "hashesAndCounts" "[J" (.ref aG)) (V_aH : own_Arf Z h0 aH kH (.object "java/lang/Object") (4 : Int32) f) (E_aH : Exa Z h0 aH cOA) (V_aG : own_Arf Z h0 aG kG .long (4 : Int32) g) (E_aG : Exa Z h0 aG "[J") (E_o : Exa Z h0 o cTU) (F_hash_o : Fld Z h0 o cTU "hash" "I" (.int ho)) (F_values_o : Fld Z h0 o cTU "values" cOA (.ref vo)) (V_vo : Arv Z h0 vo kvo (.object "java/lang/Object") (1 : Int32) [(.ref lo)] .null) (E_vo : Exa Z h0 vo cOA) (E_lo : Exa Z h0 lo cLG) (F_value_lo : Fld Z h0 lo cLG "value" "J" (.long xo)) (E_a2 : Exa Z h0 a2 cTU) (F_hash_a2 : Fld Z h0 a2 cTU "hash" "I" (.int p1)) (F_values_a2 : Fld Z h0 a2 cTU "values" cOA (.ref vt)) (V_vt : Arv Z h0 vt kvt (.object "java/lang/Object") (1 : Int32) [(.ref lt)] .null) (E_vt : Exa Z h0 vt cOA) (E_lt : Exa Z h0 lt cLG) (F_value_lt : Fld Z h0 lt cLG "value" "J" (.long xt)) (hne_o_a2 : o ≠ a2) (hne_vo_vt : vo ≠ vt) (hc23 : ¬ (i < (0 : Int32))) (hc24 : i < (4 : Int32)) (hc25 : g (i).toNatClampNeg = (.long w)) (hc26 : (own_hh w) = p1) (hc27 : f (i).toNatClampNeg = (.ref o)) (hc28 : ho = p1) (hc29 : nar .boolean (own_eqv xo xt) = (own_eqv xo xt)) (hc30 : (own_eqv xo xt) = (0 : Int32)) :
    own_Seg p l e (⟨6, 0, 0, 85⟩ : Room) s m args below meth c n0 0 0 0 0 h0 (mkF m 34 #[vR a0, vI p1, vR a2, vI (3 : Int32), vI i] []) (fun h g => g = (mkF m 62 #[vR a0, vI p1, vR a2, vI (3 : Int32), vI i] []) ∧ h = h0) := by
  intro s₁ hT
  obtain ⟨Lz0, X0, e0, N0⟩ := hT
  obtain ⟨cq1, q1, q1'⟩ := E_a0.cell
  obtain ⟨_, _, ⟨T1, L1, k1', n1'⟩, -, X1, ⟨Lc1, hQ1, l1, y1, z1⟩, st1⟩ := X0.privateBack hx (y := ⟨cSL, "hashAt", "(I)I"⟩) hown (mvT hZ (w289 hw)) (mvT hZ (w290 hw)) (own_privS (mvT hZ (w172 hw)) rfl (Cond.privateMethod_at (mvP hZ (w291 hw) (args := #[]))) (mvT hZ (w290 hw)) (by decide)) (Cond.privateMethod_at (mvP hZ (w291 hw) (args := #[]))) (mvT hZ (w292 hw)) (by decide) (backOf (W := 0) (rm42 l Z az hw [] a0 i aG kG g w h0 n0 Z0 E_a0 F_hashesAndCounts_a0 V_aG E_aG hc23 hc24 hc25) hZ (w292 hw) (w111 hw) (by decide) (by decide)) (g := (mkF m 37 #[vR a0, vI p1, vR a2, vI (3 : Int32), vI i] [(.int i), (.ref a0)])) rfl (by rw [hml]; rfl) (Steps.refl _) (a := a0) (by rw [e0]; exact q1) q1' (argsL := [(.int i)]) (rest := []) (lenOf pd_8 rfl) rfl (Nat.le_of_eq rfl) (hb hby d24_37) (fun _ _ => ⟨rfl, e0, (own_nle rfl), (own_nle rfl)⟩)
  dsimp only [Pt.U, Pt.locs, Pt.cells, Pt.slots] at X1 l1 y1 z1 st1 hQ1
  subst l1 y1 z1
  obtain ⟨rfl, N1q, e1⟩ := hQ1
  obtain ⟨Lg1, X1', N1⟩ := own_gen X1 (Fr.app N0 N1q)
  obtain ⟨T2, X2, e2, st2⟩ := getF X1' hx hZ hown (host := "") (Or.inl (w115 hw)) Via.refl e1 F_held_a0 (g := (mkF m 46 #[vR a0, vI p1, vR a2, vI (3 : Int32), vI i] [(.ref a0), (.ref a0)])) rfl rfl (hb hby d24_46)
  obtain ⟨cl3, Ar3, qk3, Sz3, Ng3, Hs3, Gf3⟩ := id V_aH
  have hin4 : ¬ (i < 0 ∨ cl3.slots.size ≤ (i).toNatClampNeg) := inb_of Sz3 ⟨hc23, hc24⟩
  have hat5 : cl3.slots[(i).toNatClampNeg]? = some (.ref o) := own_at Hs3 hin4 hc27
  obtain ⟨cq6, kq6, q6a, q6b, q6c⟩ := isOf hZ e2 E_a0
  obtain ⟨_, _, ⟨T6, L6, k6', n6'⟩, -, X6, ⟨Lc6, hQ6, l6, y6, z6⟩, st6⟩ := X2.virtualBack hx (y := ⟨cSL, "holds", dH⟩) (z := ⟨cTC, "holds", dH⟩) hown (mvT hZ (w293 hw)) (mvT hZ (w294 hw)) (own_nf (args := #[]) (mvT hZ (w172 hw)) rfl) (mvT hZ (w295 hw)) (mvT hZ (w296 hw)) (by decide) (backOf (W := 0) (rm43Y l Z az hw [] a0 o a2 ho vo kvo lo xo p1 vt kvt lt xt h0 n0 Z0 E_o F_hash_o F_values_o V_vo E_vo E_lo F_value_lo E_a2 F_hash_a2 F_values_a2 V_vt E_vt E_lt F_value_lt hne_o_a2 hne_vo_vt hc28 hc29) hZ (w297 hw) (w104 hw) (by decide) (by decide)) q6a q6c (g := (mkF m 53 #[vR a0, vI p1, vR a2, vI (3 : Int32), vI i] [(.ref a2), (.ref o), (.ref a0)])) rfl (by rw [hml]; rfl) (Steps.refl _) (argsL := [(.ref o), (.ref a2)]) (rest := []) (lenOf pd_14 rfl) rfl (Nat.le_of_eq rfl) (hb hby d24_53) (fun _ _ => ⟨rfl, e2, (own_nle rfl), (own_nle rfl)⟩)
  dsimp only [Pt.U, Pt.locs, Pt.cells, Pt.slots] at X6 l6 y6 z6 st6 hQ6
  subst l6 y6 z6
  obtain ⟨rfl, N6q, e6⟩ := hQ6
  obtain ⟨Lg6, X6', N6⟩ := own_gen X6 (Fr.app N1 N6q)
  refine ⟨_, _, _, ⟨rfl, rfl⟩, ⟨_, X6', e6, N6⟩, fun t hr => ?_⟩
  show SP p e below s₁ (mkF m 34 #[vR a0, vI p1, vR a2, vI (3 : Int32), vI i] []) _
  refine XS.aloadN X0.here hx rfl (hb hby d24_34) rfl rfl ?_
  refine XS.iload X0.here hx rfl (hb hby d24_35) rfl ?_
  show SP p e below s₁ (mkF m 37 #[vR a0, vI p1, vR a2, vI (3 : Int32), vI i] [(.int i), (.ref a0)]) _
  refine st1.trans ?_
  show SP p e below T1 (mkF m 40 #[vR a0, vI p1, vR a2, vI (3 : Int32), vI i] [(.int (own_hh w))]) _
  refine XS.iloadN X1'.here hx rfl (hb hby d24_40) rfl ?_
  refine XS.icmpNo X1'.here hx rfl (hb hby d24_41) rfl (teq hc26).2 ?_
  refine XS.aloadN X1'.here hx rfl (hb hby d24_44) rfl rfl ?_
  refine XS.aloadN X1'.here hx rfl (hb hby d24_45) rfl rfl ?_
  show SP p e below T1 (mkF m 46 #[vR a0, vI p1, vR a2, vI (3 : Int32), vI i] [(.ref a0), (.ref a0)]) _
  refine st2 _ ?_
  show SP p e below T2 (mkF m 49 #[vR a0, vI p1, vR a2, vI (3 : Int32), vI i] [(.ref aH), (.ref a0)]) _
  refine XS.iload X2.here hx rfl (hb hby d24_49) rfl ?_
  show SP p e below T2 (mkF m 51 #[vR a0, vI p1, vR a2, vI (3 : Int32), vI i] [(.int i), (.ref aH), (.ref a0)]) _
  refine X2.aaload hx (j := i) (v := (.ref o)) (by rw [e2]; exact Ar3.1) (State.isArrayOf_alike hZ.alike Ar3.2.1) rfl Ar3.2.2 hin4 hat5 (g := (mkF m 51 #[vR a0, vI p1, vR a2, vI (3 : Int32), vI i] [(.int i), (.ref aH), (.ref a0)])) rfl rfl (hb hby d24_51) _ ?_
  show SP p e below T2 (mkF m 52 #[vR a0, vI p1, vR a2, vI (3 : Int32), vI i] [(.ref o), (.ref a0)]) _
  refine XS.aloadN X2.here hx rfl (hb hby d24_52) rfl rfl ?_
  show SP p e below T2 (mkF m 53 #[vR a0, vI p1, vR a2, vI (3 : Int32), vI i] [(.ref a2), (.ref o), (.ref a0)]) _
  refine st6.trans ?_
  show SP p e below T6 (mkF m 56 #[vR a0, vI p1, vR a2, vI (3 : Int32), vI i] [(.int (own_eqv xo xt))]) _
  refine XS.ifYes X6'.here hx rfl (pc0 := 56) (pc' := 62) rfl (hb hby d24_56) rfl ((if0 _ _).trans (teq hc30).1) (by decide) (by decide) ?_
  exact hr
theorem own_nb1 (x y : Int64) : nar .boolean (own_eqv x y) = own_eqv x y := by
  unfold own_eqv
  split <;> decide
theorem sgM (l : Launch) (Z : State) (az : Array Value) (hw : HW Z az) {p : Program} {e : Env} {s : State} {m : MethodId} {args : Array Value} {below : List Frame} {meth : Method} {c : Code} (hx : p.tables.exec = Jvm.exec) (hby : c.code = kB37) (hml : c.maxLocals = 5) (hown : s.vm.findClass cSL = some m.cls) (hZ : Z.Warmed39 s.vm) (a0 : Addr) (p1 : Int32) (a2 : Addr) (i : Int32) (aH aG : Addr) (kH : ClassId) (f : Nat → Value) (kG : ClassId) (g : Nat → Value) (o : Addr) (ho : Int32) (vo : Addr) (kvo : ClassId) (lo : Addr) (xo : Int64) (vt : Addr) (kvt : ClassId) (lt : Addr) (xt w : Int64) (h0 : Heap) (n0 : Nat) (Z0 : n0 ≤ h0.size) (E_a0 : Exa Z h0 a0 cTC) (F_held_a0 : Fld Z h0 a0 cSL "held" cOA (.ref aH)) (F_hashesAndCounts_a0 : Fld Z h0 a0 cSL "hashesAndCounts" "[J" (.ref aG)) (V_aH : own_Arf Z h0 aH kH (.object "java/lang/Object") (4 : Int32) f) (E_aH : Exa Z h0 aH cOA) (V_aG : own_Arf Z h0 aG kG .long (4 : Int32) g) (E_aG : Exa Z h0 aG "[J") (E_o : Exa Z h0 o cTU) (F_hash_o : Fld Z h0 o cTU "hash" "I" (.int ho)) (F_values_o : Fld Z h0 o cTU "values" cOA (.ref vo)) (V_vo : Arv Z h0 vo kvo (.object "java/lang/Object") (1 : Int32) [(.ref lo)] .null) (E_vo : Exa Z h0 vo cOA) (E_lo : Exa Z h0 lo cLG) (F_value_lo : Fld Z h0 lo cLG "value" "J" (.long xo)) (E_a2 : Exa Z h0 a2 cTU) (F_hash_a2 : Fld Z h0 a2 cTU "hash" "I" (.int p1)) (F_values_a2 : Fld Z h0 a2 cTU "values" cOA (.ref vt)) (V_vt : Arv Z h0 vt kvt (.object "java/lang/Object") (1 : Int32) [(.ref lt)] .null) (E_vt : Exa Z h0 vt cOA) (E_lt : Exa Z h0 lt cLG) (F_value_lt : Fld Z h0 lt cLG "value" "J" (.long xt)) (hne_o_a2 : o ≠ a2) (hne_vo_vt : vo ≠ vt) (j1 : ¬ (i < (0 : Int32))) (j2 : i < (4 : Int32)) (j3 : g (i).toNatClampNeg = (.long w)) (j4 : f (i).toNatClampNeg = (.ref o)) (hJ : ¬ ((own_hh w) = p1) ∨ ((own_hh w) = p1 ∧ ho = p1 ∧ own_eqv xo xt = (0 : Int32))) :
    own_Seg p l e (⟨6, 0, 0, 85⟩ : Room) s m args below meth c n0 0 0 0 0 h0 (mkF m 34 #[vR a0, vI p1, vR a2, vI (3 : Int32), vI i] []) (fun h g => g = (mkF m 62 #[vR a0, vI p1, vR a2, vI (3 : Int32), vI i] []) ∧ h = h0) := by
  rcases hJ with q | ⟨q, q2, q3⟩
  · exact sgMh l Z az hw hx hby hml hown hZ a0 p1 a2 i aH aG kG g w h0 n0 Z0 E_a0 F_held_a0 F_hashesAndCounts_a0 V_aG E_aG j1 j2 j3 q
  · exact sgMe l Z az hw hx hby hml hown hZ a0 p1 a2 i aH aG kH f kG g o ho vo kvo lo xo vt kvt lt xt w h0 n0 Z0 E_a0 F_held_a0 F_hashesAndCounts_a0 V_aH E_aH V_aG E_aG E_o F_hash_o F_values_o V_vo E_vo E_lo F_value_lo E_a2 F_hash_a2 F_values_a2 V_vt E_vt E_lt F_value_lt hne_o_a2 hne_vo_vt j1 j2 j3 q j4 q2 (own_nb1 _ _) q3
theorem d24_0 : dc kB37 0 (.aload_n 0) 1 := by decide +kernel
theorem d24_1 : dc kB37 1 (.getfield 9) 3 := by decide +kernel
theorem d24_4 : dc kB37 4 .arraylength 1 := by decide +kernel
theorem d24_5 : dc kB37 5 (.iconst 1) 1 := by decide +kernel
theorem d24_6 : dc kB37 6 .isub 1 := by decide +kernel
theorem d24_7 : dc kB37 7 (.istore_n 3) 1 := by decide +kernel
theorem d24_8 : dc kB37 8 (.iload_n 1) 1 := by decide +kernel
theorem d24_9 : dc kB37 9 (.aload_n 0) 1 := by decide +kernel
theorem d24_10 : dc kB37 10 (.getfield 9) 3 := by decide +kernel
theorem d24_13 : dc kB37 13 .arraylength 1 := by decide +kernel
theorem d24_14 : dc kB37 14 (.invokestatic 33) 3 := by decide +kernel
theorem pd_15 : parseMethodDescriptor "(II)I" = some ⟨[.int, .int], some .int⟩ := by decide +kernel
theorem d24_17 : dc kB37 17 (.istore 4) 2 := by decide +kernel
theorem d24_19 : dc kB37 19 (.aload_n 0) 1 := by decide +kernel
theorem d24_20 : dc kB37 20 (.getfield 9) 3 := by decide +kernel
theorem d24_23 : dc kB37 23 (.iload 4) 2 := by decide +kernel
theorem d24_25 : dc kB37 25 .aaload 1 := by decide +kernel
theorem d24_26 : dc kB37 26 (.ifnonnull 8) 3 := by decide +kernel
theorem d24_29 : dc kB37 29 (.iconst (-1)) 1 := by decide +kernel
theorem d24_30 : dc kB37 30 (.iload 4) 2 := by decide +kernel
theorem d24_32 : dc kB37 32 .isub 1 := by decide +kernel
theorem d24_33 : dc kB37 33 .ireturn 1 := by decide +kernel
theorem ef_rm24A (m : MethodId) (a0 : Addr) (p1 : Int32) (a2 : Addr) : entryFrame m #[(.ref a0), (.int p1), (.ref a2)] 5 = mkF m 0 #[vR a0, vI p1, vR a2, .unset, .unset] [] := by first | (simp [entryFrame, mkF, argsToLocals, Value.category]; done) | rfl
def Q24A (Z : State) (a0 : Addr) (p1 : Int32) (a2 aH aG : Addr) (kH : ClassId) (f : Nat → Value) (h0 : Heap) (n0 : Nat) (v : Option Value) (h : Heap) (L : List Loc) : Prop := v = some (.int ((-1 : Int32) - (own_home p1))) ∧ Fr n0 L ∧ h = h0
theorem rm24A (l : Launch) (Z : State) (az : Array Value) (hw : HW Z az) (ws : List Jvm.Cond) (a0 : Addr) (p1 : Int32) (a2 aH aG : Addr) (kH : ClassId) (f : Nat → Value) (h0 : Heap) (n0 : Nat) (Z0 : n0 ≤ h0.size) (E_a0 : Exa Z h0 a0 cTC) (F_held_a0 : Fld Z h0 a0 cSL "held" cOA (.ref aH)) (F_hashesAndCounts_a0 : Fld Z h0 a0 cSL "hashesAndCounts" "[J" (.ref aG)) (V_aH : own_Arf Z h0 aH kH (.object "java/lang/Object") (4 : Int32) f) (E_aH : Exa Z h0 aH cOA) (hc5 : ¬ ((own_home p1) < (0 : Int32))) (hc6 : (own_home p1) < (4 : Int32)) (hc7 : f ((own_home p1)).toNatClampNeg = .null) :
    MF l Z h0 ws ⟨cSL, "find", dG⟩ kB37 5 (some .int) ⟨6, 0, 0, 85⟩ #[(.ref a0), (.int p1), (.ref a2)] (Q24A Z a0 p1 a2 aH aG kH f h0 n0) := by
  refine own_body cSL n0 rfl (plainFor_of_name pn_com_example_reteweave_reteweave_network_SlotTable) (fun m => ef_rm24A m a0 p1 a2) ?_
  intro p e s m below meth c s₁ Bd hx hby hml hown hZ X0 e0 N0 pre0
  obtain ⟨T1, X1, e1, st1⟩ := getF X0 hx hZ hown (host := "") (Or.inl (w115 hw)) Via.refl e0 F_held_a0 (g := (mkF m 1 #[vR a0, vI p1, vR a2, .unset, .unset] [(.ref a0)])) rfl rfl (hb hby d24_1)
  obtain ⟨cl2, Ar2, qk2, Sz2, Ng2, Hs2, Gf2⟩ := id V_aH
  obtain ⟨T3, X3, e3, st3⟩ := getF X1 hx hZ hown (host := "") (Or.inl (w115 hw)) Via.refl e1 F_held_a0 (g := (mkF m 10 #[vR a0, vI p1, vR a2, vI (3 : Int32), .unset] [(.ref a0), (.int p1)])) rfl rfl (hb hby d24_10)
  obtain ⟨_, _, ⟨T4, L4, k4', n4'⟩, -, X4, ⟨Lc4, hQ4, l4, y4, z4⟩, st4⟩ := Jvm.LawKit.callS X3 hx (y := ⟨cSL, "home", "(II)I"⟩) hown (mvT hZ (w174 hw)) (mvT hZ (w175 hw)) (mvT hZ (w111 hw)) (mvT hZ (w176 hw)) (by decide) (backOf (W := 0) (rm25 l Z az hw [] p1 h0 n0 Z0) hZ (w176 hw) (w111 hw) (by decide) (by decide)) (g := (mkF m 14 #[vR a0, vI p1, vR a2, vI (3 : Int32), .unset] [(.int (4 : Int32)), (.int p1)])) rfl (by rw [hml]; rfl) (argsL := [(.int p1), (.int (4 : Int32))]) (rest := []) (lenOf pd_15 rfl) rfl (Nat.le_of_eq rfl) (hb hby d24_14) (fun _ _ => ⟨rfl, e3, (own_nle rfl), (own_nle rfl)⟩)
  dsimp only [Pt.U, Pt.locs, Pt.cells, Pt.slots] at X4 l4 y4 z4 st4 hQ4
  subst l4 y4 z4
  obtain ⟨rfl, N4q, e4⟩ := hQ4
  obtain ⟨Lg4, X4', N4⟩ := own_gen X4 (Fr.app N0 N4q)
  obtain ⟨T5, X5, e5, st5⟩ := getF X4' hx hZ hown (host := "") (Or.inl (w115 hw)) Via.refl e4 F_held_a0 (g := (mkF m 20 #[vR a0, vI p1, vR a2, vI (3 : Int32), vI (own_home p1)] [(.ref a0)])) rfl rfl (hb hby d24_20)
  have hin6 : ¬ ((own_home p1) < 0 ∨ cl2.slots.size ≤ ((own_home p1)).toNatClampNeg) := inb_of Sz2 ⟨hc5, hc6⟩
  have hat7 : cl2.slots[((own_home p1)).toNatClampNeg]? = some .null := own_at Hs2 hin6 hc7
  obtain ⟨fs, hr, hrun, hended, hW, hsame⟩ := X5.leave (v := some (.int ((-1 : Int32) - (own_home p1)))) (fun h => by rw [Bd.returns] at h; cases h) Bd.notSynchronized
  refine ⟨_, _, pre0 _ ?_, hrun, hended, _, _, rfl, ?_, ⟨_, rfl⟩, hW, hsame.mono (by decide) (by decide)⟩
  · show SP p e below s₁ (mkF m 0 #[vR a0, vI p1, vR a2, .unset, .unset] []) _
    refine XS.aloadN X0.here hx rfl (hb hby d24_0) rfl rfl ?_
    show SP p e below s₁ (mkF m 1 #[vR a0, vI p1, vR a2, .unset, .unset] [(.ref a0)]) _
    refine st1 _ ?_
    show SP p e below T1 (mkF m 4 #[vR a0, vI p1, vR a2, .unset, .unset] [(.ref aH)]) _
    refine X1.arraylength hx (by rw [e1]; exact Ar2.1) (State.isArrayOf_alike hZ.alike Ar2.2.1) (g := (mkF m 4 #[vR a0, vI p1, vR a2, .unset, .unset] [(.ref aH)])) rfl rfl (hb hby d24_4) _ ?_
    rw [len_of Sz2 Ng2]
    show SP p e below T1 (mkF m 5 #[vR a0, vI p1, vR a2, .unset, .unset] [(.int (4 : Int32))]) _
    refine XS.iconst X1.here hx rfl (hb hby d24_5) ?_
    refine XS.isub X1.here hx rfl (hb hby d24_6) rfl ?_
    refine XS.istoreN X1.here hx rfl (hb hby d24_7) rfl (l' := #[vR a0, vI p1, vR a2, vI (3 : Int32), .unset]) rfl ?_
    refine XS.iloadN X1.here hx rfl (hb hby d24_8) rfl ?_
    refine XS.aloadN X1.here hx rfl (hb hby d24_9) rfl rfl ?_
    show SP p e below T1 (mkF m 10 #[vR a0, vI p1, vR a2, vI (3 : Int32), .unset] [(.ref a0), (.int p1)]) _
    refine st3 _ ?_
    show SP p e below T3 (mkF m 13 #[vR a0, vI p1, vR a2, vI (3 : Int32), .unset] [(.ref aH), (.int p1)]) _
    refine X3.arraylength hx (by rw [e3]; exact Ar2.1) (State.isArrayOf_alike hZ.alike Ar2.2.1) (g := (mkF m 13 #[vR a0, vI p1, vR a2, vI (3 : Int32), .unset] [(.ref aH), (.int p1)])) rfl rfl (hb hby d24_13) _ ?_
    rw [len_of Sz2 Ng2]
    show SP p e below T3 (mkF m 14 #[vR a0, vI p1, vR a2, vI (3 : Int32), .unset] [(.int (4 : Int32)), (.int p1)]) _
    refine st4 _ ?_
    show SP p e below T4 (mkF m 17 #[vR a0, vI p1, vR a2, vI (3 : Int32), .unset] [(.int (own_home p1))]) _
    refine XS.istore X4'.here hx rfl (hb hby d24_17) rfl (l' := #[vR a0, vI p1, vR a2, vI (3 : Int32), vI (own_home p1)]) rfl ?_
    refine XS.aloadN X4'.here hx rfl (hb hby d24_19) rfl rfl ?_
    show SP p e below T4 (mkF m 20 #[vR a0, vI p1, vR a2, vI (3 : Int32), vI (own_home p1)] [(.ref a0)]) _
    refine st5 _ ?_
    show SP p e below T5 (mkF m 23 #[vR a0, vI p1, vR a2, vI (3 : Int32), vI (own_home p1)] [(.ref aH)]) _
    refine XS.iload X5.here hx rfl (hb hby d24_23) rfl ?_
    show SP p e below T5 (mkF m 25 #[vR a0, vI p1, vR a2, vI (3 : Int32), vI (own_home p1)] [(.int (own_home p1)), (.ref aH)]) _
    refine X5.aaload hx (j := (own_home p1)) (v := .null) (by rw [e5]; exact Ar2.1) (State.isArrayOf_alike hZ.alike Ar2.2.1) rfl Ar2.2.2 hin6 hat7 (g := (mkF m 25 #[vR a0, vI p1, vR a2, vI (3 : Int32), vI (own_home p1)] [(.int (own_home p1)), (.ref aH)])) rfl rfl (hb hby d24_25) _ ?_
    show SP p e below T5 (mkF m 26 #[vR a0, vI p1, vR a2, vI (3 : Int32), vI (own_home p1)] [.null]) _
    refine XS.ifnonnullNo X5.here hx rfl (hb hby d24_26) rfl ?_
    refine XS.iconst X5.here hx rfl (hb hby d24_29) ?_
    refine XS.iload X5.here hx rfl (hb hby d24_30) rfl ?_
    refine XS.isub X5.here hx rfl (hb hby d24_32) rfl ?_
    show SP p e below T5 (mkF m 33 #[vR a0, vI p1, vR a2, vI (3 : Int32), vI (own_home p1)] [(.int ((-1 : Int32) - (own_home p1)))]) _
    exact retI X5 hx Bd.returns (hb hby d24_33) hr
  · show Q24A Z a0 p1 a2 aH aG kH f h0 n0 _ T5.heap _
    rw [e5]
    exact ⟨rfl, N4, rfl⟩
theorem d24_59 : dc kB37 59 (.iload 4) 2 := by decide +kernel
theorem d24_61 : dc kB37 61 .ireturn 1 := by decide +kernel
theorem ef_rm24B (m : MethodId) (a0 : Addr) (p1 : Int32) (a2 : Addr) : entryFrame m #[(.ref a0), (.int p1), (.ref a2)] 5 = mkF m 0 #[vR a0, vI p1, vR a2, .unset, .unset] [] := by first | (simp [entryFrame, mkF, argsToLocals, Value.category]; done) | rfl
def Q24B (Z : State) (a0 : Addr) (p1 : Int32) (a2 aH aG : Addr) (kH : ClassId) (f : Nat → Value) (kG : ClassId) (g : Nat → Value) (vt : Addr) (kvt : ClassId) (lt : Addr) (xt w : Int64) (h0 : Heap) (n0 : Nat) (v : Option Value) (h : Heap) (L : List Loc) : Prop := v = some (.int (own_home p1)) ∧ Fr n0 L ∧ h = h0
theorem rm24B (l : Launch) (Z : State) (az : Array Value) (hw : HW Z az) (ws : List Jvm.Cond) (a0 : Addr) (p1 : Int32) (a2 aH aG : Addr) (kH : ClassId) (f : Nat → Value) (kG : ClassId) (g : Nat → Value) (vt : Addr) (kvt : ClassId) (lt : Addr) (xt w : Int64) (h0 : Heap) (n0 : Nat) (Z0 : n0 ≤ h0.size) (E_a0 : Exa Z h0 a0 cTC) (F_held_a0 : Fld Z h0 a0 cSL "held" cOA (.ref aH)) (F_hashesAndCounts_a0 : Fld Z h0 a0 cSL "hashesAndCounts" "[J" (.ref aG)) (V_aH : own_Arf Z h0 aH kH (.object "java/lang/Object") (4 : Int32) f) (E_aH : Exa Z h0 aH cOA) (V_aG : own_Arf Z h0 aG kG .long (4 : Int32) g) (E_aG : Exa Z h0 aG "[J") (E_a2 : Exa Z h0 a2 cTU) (F_hash_a2 : Fld Z h0 a2 cTU "hash" "I" (.int p1)) (F_values_a2 : Fld Z h0 a2 cTU "values" cOA (.ref vt)) (V_vt : Arv Z h0 vt kvt (.object "java/lang/Object") (1 : Int32) [(.ref lt)] .null) (E_vt : Exa Z h0 vt cOA) (E_lt : Exa Z h0 lt cLG) (F_value_lt : Fld Z h0 lt cLG "value" "J" (.long xt)) (hc14 : ¬ ((own_home p1) < (0 : Int32))) (hc15 : (own_home p1) < (4 : Int32)) (hc16 : f ((own_home p1)).toNatClampNeg = (.ref a2)) (hc17 : g ((own_home p1)).toNatClampNeg = (.long w)) (hc18 : (own_hh w) = p1) :
    MF l Z h0 ws ⟨cSL, "find", dG⟩ kB37 5 (some .int) ⟨6, 0, 0, 85⟩ #[(.ref a0), (.int p1), (.ref a2)] (Q24B Z a0 p1 a2 aH aG kH f kG g vt kvt lt xt w h0 n0) := by
  refine own_body cSL n0 rfl (plainFor_of_name pn_com_example_reteweave_reteweave_network_SlotTable) (fun m => ef_rm24B m a0 p1 a2) ?_
  intro p e s m below meth c s₁ Bd hx hby hml hown hZ X0 e0 N0 pre0
  obtain ⟨T1, X1, e1, st1⟩ := getF X0 hx hZ hown (host := "") (Or.inl (w115 hw)) Via.refl e0 F_held_a0 (g := (mkF m 1 #[vR a0, vI p1, vR a2, .unset, .unset] [(.ref a0)])) rfl rfl (hb hby d24_1)
  obtain ⟨cl2, Ar2, qk2, Sz2, Ng2, Hs2, Gf2⟩ := id V_aH
  obtain ⟨T3, X3, e3, st3⟩ := getF X1 hx hZ hown (host := "") (Or.inl (w115 hw)) Via.refl e1 F_held_a0 (g := (mkF m 10 #[vR a0, vI p1, vR a2, vI (3 : Int32), .unset] [(.ref a0), (.int p1)])) rfl rfl (hb hby d24_10)
  obtain ⟨_, _, ⟨T4, L4, k4', n4'⟩, -, X4, ⟨Lc4, hQ4, l4, y4, z4⟩, st4⟩ := Jvm.LawKit.callS X3 hx (y := ⟨cSL, "home", "(II)I"⟩) hown (mvT hZ (w174 hw)) (mvT hZ (w175 hw)) (mvT hZ (w111 hw)) (mvT hZ (w176 hw)) (by decide) (backOf (W := 0) (rm25 l Z az hw [] p1 h0 n0 Z0) hZ (w176 hw) (w111 hw) (by decide) (by decide)) (g := (mkF m 14 #[vR a0, vI p1, vR a2, vI (3 : Int32), .unset] [(.int (4 : Int32)), (.int p1)])) rfl (by rw [hml]; rfl) (argsL := [(.int p1), (.int (4 : Int32))]) (rest := []) (lenOf pd_15 rfl) rfl (Nat.le_of_eq rfl) (hb hby d24_14) (fun _ _ => ⟨rfl, e3, (own_nle rfl), (own_nle rfl)⟩)
  dsimp only [Pt.U, Pt.locs, Pt.cells, Pt.slots] at X4 l4 y4 z4 st4 hQ4
  subst l4 y4 z4
  obtain ⟨rfl, N4q, e4⟩ := hQ4
  obtain ⟨Lg4, X4', N4⟩ := own_gen X4 (Fr.app N0 N4q)
  obtain ⟨T5, X5, e5, st5⟩ := getF X4' hx hZ hown (host := "") (Or.inl (w115 hw)) Via.refl e4 F_held_a0 (g := (mkF m 20 #[vR a0, vI p1, vR a2, vI (3 : Int32), vI (own_home p1)] [(.ref a0)])) rfl rfl (hb hby d24_20)
  have hin6 : ¬ ((own_home p1) < 0 ∨ cl2.slots.size ≤ ((own_home p1)).toNatClampNeg) := inb_of Sz2 ⟨hc14, hc15⟩
  have hat7 : cl2.slots[((own_home p1)).toNatClampNeg]? = some (.ref a2) := own_at Hs2 hin6 hc16
  obtain ⟨T8, hs8, g8, ⟨rfl, es8⟩, ⟨Lg8, X8, e8, N8⟩, st8⟩ := sgHS l Z az hw hx hby hml hown hZ a0 p1 a2 (own_home p1) aH aG kH f kG g vt kvt lt xt w h0 n0 Z0 E_a0 F_held_a0 F_hashesAndCounts_a0 V_aH E_aH V_aG E_aG E_a2 F_hash_a2 F_values_a2 V_vt E_vt E_lt F_value_lt hc14 hc15 hc17 hc18 hc16 T5 ⟨_, X5, e5, N4⟩
  rw [es8] at e8
  obtain ⟨fs, hr, hrun, hended, hW, hsame⟩ := X8.leave (v := some (.int (own_home p1))) (fun h => by rw [Bd.returns] at h; cases h) Bd.notSynchronized
  refine ⟨_, _, pre0 _ ?_, hrun, hended, _, _, rfl, ?_, ⟨_, rfl⟩, hW, hsame.mono (by decide) (by decide)⟩
  · show SP p e below s₁ (mkF m 0 #[vR a0, vI p1, vR a2, .unset, .unset] []) _
    refine XS.aloadN X0.here hx rfl (hb hby d24_0) rfl rfl ?_
    show SP p e below s₁ (mkF m 1 #[vR a0, vI p1, vR a2, .unset, .unset] [(.ref a0)]) _
    refine st1 _ ?_
    show SP p e below T1 (mkF m 4 #[vR a0, vI p1, vR a2, .unset, .unset] [(.ref aH)]) _
    refine X1.arraylength hx (by rw [e1]; exact Ar2.1) (State.isArrayOf_alike hZ.alike Ar2.2.1) (g := (mkF m 4 #[vR a0, vI p1, vR a2, .unset, .unset] [(.ref aH)])) rfl rfl (hb hby d24_4) _ ?_
    rw [len_of Sz2 Ng2]
    show SP p e below T1 (mkF m 5 #[vR a0, vI p1, vR a2, .unset, .unset] [(.int (4 : Int32))]) _
    refine XS.iconst X1.here hx rfl (hb hby d24_5) ?_
    refine XS.isub X1.here hx rfl (hb hby d24_6) rfl ?_
    refine XS.istoreN X1.here hx rfl (hb hby d24_7) rfl (l' := #[vR a0, vI p1, vR a2, vI (3 : Int32), .unset]) rfl ?_
    refine XS.iloadN X1.here hx rfl (hb hby d24_8) rfl ?_
    refine XS.aloadN X1.here hx rfl (hb hby d24_9) rfl rfl ?_
    show SP p e below T1 (mkF m 10 #[vR a0, vI p1, vR a2, vI (3 : Int32), .unset] [(.ref a0), (.int p1)]) _
    refine st3 _ ?_
    show SP p e below T3 (mkF m 13 #[vR a0, vI p1, vR a2, vI (3 : Int32), .unset] [(.ref aH), (.int p1)]) _
    refine X3.arraylength hx (by rw [e3]; exact Ar2.1) (State.isArrayOf_alike hZ.alike Ar2.2.1) (g := (mkF m 13 #[vR a0, vI p1, vR a2, vI (3 : Int32), .unset] [(.ref aH), (.int p1)])) rfl rfl (hb hby d24_13) _ ?_
    rw [len_of Sz2 Ng2]
    show SP p e below T3 (mkF m 14 #[vR a0, vI p1, vR a2, vI (3 : Int32), .unset] [(.int (4 : Int32)), (.int p1)]) _
    refine st4 _ ?_
    show SP p e below T4 (mkF m 17 #[vR a0, vI p1, vR a2, vI (3 : Int32), .unset] [(.int (own_home p1))]) _
    refine XS.istore X4'.here hx rfl (hb hby d24_17) rfl (l' := #[vR a0, vI p1, vR a2, vI (3 : Int32), vI (own_home p1)]) rfl ?_
    refine XS.aloadN X4'.here hx rfl (hb hby d24_19) rfl rfl ?_
    show SP p e below T4 (mkF m 20 #[vR a0, vI p1, vR a2, vI (3 : Int32), vI (own_home p1)] [(.ref a0)]) _
    refine st5 _ ?_
    show SP p e below T5 (mkF m 23 #[vR a0, vI p1, vR a2, vI (3 : Int32), vI (own_home p1)] [(.ref aH)]) _
    refine XS.iload X5.here hx rfl (hb hby d24_23) rfl ?_
    show SP p e below T5 (mkF m 25 #[vR a0, vI p1, vR a2, vI (3 : Int32), vI (own_home p1)] [(.int (own_home p1)), (.ref aH)]) _
    refine X5.aaload hx (j := (own_home p1)) (v := (.ref a2)) (by rw [e5]; exact Ar2.1) (State.isArrayOf_alike hZ.alike Ar2.2.1) rfl Ar2.2.2 hin6 hat7 (g := (mkF m 25 #[vR a0, vI p1, vR a2, vI (3 : Int32), vI (own_home p1)] [(.int (own_home p1)), (.ref aH)])) rfl rfl (hb hby d24_25) _ ?_
    show SP p e below T5 (mkF m 26 #[vR a0, vI p1, vR a2, vI (3 : Int32), vI (own_home p1)] [(.ref a2)]) _
    refine XS.ifnonnullYes X5.here hx rfl (pc0 := 26) (pc' := 34) rfl (hb hby d24_26) rfl (by decide) (by decide) ?_
    show SP p e below T5 (mkF m 34 #[vR a0, vI p1, vR a2, vI (3 : Int32), vI (own_home p1)] []) _
    refine st8 _ ?_
    show SP p e below T8 (mkF m 59 #[vR a0, vI p1, vR a2, vI (3 : Int32), vI (own_home p1)] []) _
    refine XS.iload X8.here hx rfl (hb hby d24_59) rfl ?_
    show SP p e below T8 (mkF m 61 #[vR a0, vI p1, vR a2, vI (3 : Int32), vI (own_home p1)] [(.int (own_home p1))]) _
    exact retI X8 hx Bd.returns (hb hby d24_61) hr
  · show Q24B Z a0 p1 a2 aH aG kH f kG g vt kvt lt xt w h0 n0 _ T8.heap _
    rw [e8]
    exact ⟨rfl, N8, rfl⟩
theorem ef_rm24Y (m : MethodId) (a0 : Addr) (p1 : Int32) (a2 : Addr) : entryFrame m #[(.ref a0), (.int p1), (.ref a2)] 5 = mkF m 0 #[vR a0, vI p1, vR a2, .unset, .unset] [] := by first | (simp [entryFrame, mkF, argsToLocals, Value.category]; done) | rfl
def Q24Y (Z : State) (a0 : Addr) (p1 : Int32) (a2 aH aG : Addr) (kH : ClassId) (f : Nat → Value) (kG : ClassId) (g : Nat → Value) (o : Addr) (ho : Int32) (vo : Addr) (kvo : ClassId) (lo : Addr) (xo : Int64) (vt : Addr) (kvt : ClassId) (lt : Addr) (xt w : Int64) (h0 : Heap) (n0 : Nat) (v : Option Value) (h : Heap) (L : List Loc) : Prop := v = some (.int (own_home p1)) ∧ Fr n0 L ∧ h = h0
theorem rm24Y (l : Launch) (Z : State) (az : Array Value) (hw : HW Z az) (ws : List Jvm.Cond) (a0 : Addr) (p1 : Int32) (a2 aH aG : Addr) (kH : ClassId) (f : Nat → Value) (kG : ClassId) (g : Nat → Value) (o : Addr) (ho : Int32) (vo : Addr) (kvo : ClassId) (lo : Addr) (xo : Int64) (vt : Addr) (kvt : ClassId) (lt : Addr) (xt w : Int64) (h0 : Heap) (n0 : Nat) (Z0 : n0 ≤ h0.size) (E_a0 : Exa Z h0 a0 cTC) (F_held_a0 : Fld Z h0 a0 cSL "held" cOA (.ref aH)) (F_hashesAndCounts_a0 : Fld Z h0 a0 cSL "hashesAndCounts" "[J" (.ref aG)) (V_aH : own_Arf Z h0 aH kH (.object "java/lang/Object") (4 : Int32) f) (E_aH : Exa Z h0 aH cOA) (V_aG : own_Arf Z h0 aG kG .long (4 : Int32) g) (E_aG : Exa Z h0 aG "[J") (E_o : Exa Z h0 o cTU) (F_hash_o : Fld Z h0 o cTU "hash" "I" (.int ho)) (F_values_o : Fld Z h0 o cTU "values" cOA (.ref vo)) (V_vo : Arv Z h0 vo kvo (.object "java/lang/Object") (1 : Int32) [(.ref lo)] .null) (E_vo : Exa Z h0 vo cOA) (E_lo : Exa Z h0 lo cLG) (F_value_lo : Fld Z h0 lo cLG "value" "J" (.long xo)) (E_a2 : Exa Z h0 a2 cTU) (F_hash_a2 : Fld Z h0 a2 cTU "hash" "I" (.int p1)) (F_values_a2 : Fld Z h0 a2 cTU "values" cOA (.ref vt)) (V_vt : Arv Z h0 vt kvt (.object "java/lang/Object") (1 : Int32) [(.ref lt)] .null) (E_vt : Exa Z h0 vt cOA) (E_lt : Exa Z h0 lt cLG) (F_value_lt : Fld Z h0 lt cLG "value" "J" (.long xt)) (hne_o_a2 : o ≠ a2) (hne_vo_vt : vo ≠ vt) (hc23 : ¬ ((own_home p1) < (0 : Int32))) (hc24 : (own_home p1) < (4 : Int32)) (hc25 : f ((own_home p1)).toNatClampNeg = (.ref o)) (hc26 : g ((own_home p1)).toNatClampNeg = (.long w)) (hc27 : (own_hh w) = p1) (hc28 : ho = p1) (hc29 : nar .boolean (own_eqv xo xt) = (own_eqv xo xt)) (hc30 : ¬ ((own_eqv xo xt) = (0 : Int32))) :
    MF l Z h0 ws ⟨cSL, "find", dG⟩ kB37 5 (some .int) ⟨6, 0, 0, 85⟩ #[(.ref a0), (.int p1), (.ref a2)] (Q24Y Z a0 p1 a2 aH aG kH f kG g o ho vo kvo lo xo vt kvt lt xt w h0 n0) := by
  refine own_body cSL n0 rfl (plainFor_of_name pn_com_example_reteweave_reteweave_network_SlotTable) (fun m => ef_rm24Y m a0 p1 a2) ?_
  intro p e s m below meth c s₁ Bd hx hby hml hown hZ X0 e0 N0 pre0
  obtain ⟨T1, X1, e1, st1⟩ := getF X0 hx hZ hown (host := "") (Or.inl (w115 hw)) Via.refl e0 F_held_a0 (g := (mkF m 1 #[vR a0, vI p1, vR a2, .unset, .unset] [(.ref a0)])) rfl rfl (hb hby d24_1)
  obtain ⟨cl2, Ar2, qk2, Sz2, Ng2, Hs2, Gf2⟩ := id V_aH
  obtain ⟨T3, X3, e3, st3⟩ := getF X1 hx hZ hown (host := "") (Or.inl (w115 hw)) Via.refl e1 F_held_a0 (g := (mkF m 10 #[vR a0, vI p1, vR a2, vI (3 : Int32), .unset] [(.ref a0), (.int p1)])) rfl rfl (hb hby d24_10)
  obtain ⟨_, _, ⟨T4, L4, k4', n4'⟩, -, X4, ⟨Lc4, hQ4, l4, y4, z4⟩, st4⟩ := Jvm.LawKit.callS X3 hx (y := ⟨cSL, "home", "(II)I"⟩) hown (mvT hZ (w174 hw)) (mvT hZ (w175 hw)) (mvT hZ (w111 hw)) (mvT hZ (w176 hw)) (by decide) (backOf (W := 0) (rm25 l Z az hw [] p1 h0 n0 Z0) hZ (w176 hw) (w111 hw) (by decide) (by decide)) (g := (mkF m 14 #[vR a0, vI p1, vR a2, vI (3 : Int32), .unset] [(.int (4 : Int32)), (.int p1)])) rfl (by rw [hml]; rfl) (argsL := [(.int p1), (.int (4 : Int32))]) (rest := []) (lenOf pd_15 rfl) rfl (Nat.le_of_eq rfl) (hb hby d24_14) (fun _ _ => ⟨rfl, e3, (own_nle rfl), (own_nle rfl)⟩)
  dsimp only [Pt.U, Pt.locs, Pt.cells, Pt.slots] at X4 l4 y4 z4 st4 hQ4
  subst l4 y4 z4
  obtain ⟨rfl, N4q, e4⟩ := hQ4
  obtain ⟨Lg4, X4', N4⟩ := own_gen X4 (Fr.app N0 N4q)
  obtain ⟨T5, X5, e5, st5⟩ := getF X4' hx hZ hown (host := "") (Or.inl (w115 hw)) Via.refl e4 F_held_a0 (g := (mkF m 20 #[vR a0, vI p1, vR a2, vI (3 : Int32), vI (own_home p1)] [(.ref a0)])) rfl rfl (hb hby d24_20)
  have hin6 : ¬ ((own_home p1) < 0 ∨ cl2.slots.size ≤ ((own_home p1)).toNatClampNeg) := inb_of Sz2 ⟨hc23, hc24⟩
  have hat7 : cl2.slots[((own_home p1)).toNatClampNeg]? = some (.ref o) := own_at Hs2 hin6 hc25
  obtain ⟨T8, hs8, g8, ⟨rfl, es8⟩, ⟨Lg8, X8, e8, N8⟩, st8⟩ := sgHY l Z az hw hx hby hml hown hZ a0 p1 a2 (own_home p1) aH aG kH f kG g o ho vo kvo lo xo vt kvt lt xt w h0 n0 Z0 E_a0 F_held_a0 F_hashesAndCounts_a0 V_aH E_aH V_aG E_aG E_o F_hash_o F_values_o V_vo E_vo E_lo F_value_lo E_a2 F_hash_a2 F_values_a2 V_vt E_vt E_lt F_value_lt hne_o_a2 hne_vo_vt hc23 hc24 hc26 hc27 hc25 hc28 hc29 hc30 T5 ⟨_, X5, e5, N4⟩
  rw [es8] at e8
  obtain ⟨fs, hr, hrun, hended, hW, hsame⟩ := X8.leave (v := some (.int (own_home p1))) (fun h => by rw [Bd.returns] at h; cases h) Bd.notSynchronized
  refine ⟨_, _, pre0 _ ?_, hrun, hended, _, _, rfl, ?_, ⟨_, rfl⟩, hW, hsame.mono (by decide) (by decide)⟩
  · show SP p e below s₁ (mkF m 0 #[vR a0, vI p1, vR a2, .unset, .unset] []) _
    refine XS.aloadN X0.here hx rfl (hb hby d24_0) rfl rfl ?_
    show SP p e below s₁ (mkF m 1 #[vR a0, vI p1, vR a2, .unset, .unset] [(.ref a0)]) _
    refine st1 _ ?_
    show SP p e below T1 (mkF m 4 #[vR a0, vI p1, vR a2, .unset, .unset] [(.ref aH)]) _
    refine X1.arraylength hx (by rw [e1]; exact Ar2.1) (State.isArrayOf_alike hZ.alike Ar2.2.1) (g := (mkF m 4 #[vR a0, vI p1, vR a2, .unset, .unset] [(.ref aH)])) rfl rfl (hb hby d24_4) _ ?_
    rw [len_of Sz2 Ng2]
    show SP p e below T1 (mkF m 5 #[vR a0, vI p1, vR a2, .unset, .unset] [(.int (4 : Int32))]) _
    refine XS.iconst X1.here hx rfl (hb hby d24_5) ?_
    refine XS.isub X1.here hx rfl (hb hby d24_6) rfl ?_
    refine XS.istoreN X1.here hx rfl (hb hby d24_7) rfl (l' := #[vR a0, vI p1, vR a2, vI (3 : Int32), .unset]) rfl ?_
    refine XS.iloadN X1.here hx rfl (hb hby d24_8) rfl ?_
    refine XS.aloadN X1.here hx rfl (hb hby d24_9) rfl rfl ?_
    show SP p e below T1 (mkF m 10 #[vR a0, vI p1, vR a2, vI (3 : Int32), .unset] [(.ref a0), (.int p1)]) _
    refine st3 _ ?_
    show SP p e below T3 (mkF m 13 #[vR a0, vI p1, vR a2, vI (3 : Int32), .unset] [(.ref aH), (.int p1)]) _
    refine X3.arraylength hx (by rw [e3]; exact Ar2.1) (State.isArrayOf_alike hZ.alike Ar2.2.1) (g := (mkF m 13 #[vR a0, vI p1, vR a2, vI (3 : Int32), .unset] [(.ref aH), (.int p1)])) rfl rfl (hb hby d24_13) _ ?_
    rw [len_of Sz2 Ng2]
    show SP p e below T3 (mkF m 14 #[vR a0, vI p1, vR a2, vI (3 : Int32), .unset] [(.int (4 : Int32)), (.int p1)]) _
    refine st4 _ ?_
    show SP p e below T4 (mkF m 17 #[vR a0, vI p1, vR a2, vI (3 : Int32), .unset] [(.int (own_home p1))]) _
    refine XS.istore X4'.here hx rfl (hb hby d24_17) rfl (l' := #[vR a0, vI p1, vR a2, vI (3 : Int32), vI (own_home p1)]) rfl ?_
    refine XS.aloadN X4'.here hx rfl (hb hby d24_19) rfl rfl ?_
    show SP p e below T4 (mkF m 20 #[vR a0, vI p1, vR a2, vI (3 : Int32), vI (own_home p1)] [(.ref a0)]) _
    refine st5 _ ?_
    show SP p e below T5 (mkF m 23 #[vR a0, vI p1, vR a2, vI (3 : Int32), vI (own_home p1)] [(.ref aH)]) _
    refine XS.iload X5.here hx rfl (hb hby d24_23) rfl ?_
    show SP p e below T5 (mkF m 25 #[vR a0, vI p1, vR a2, vI (3 : Int32), vI (own_home p1)] [(.int (own_home p1)), (.ref aH)]) _
    refine X5.aaload hx (j := (own_home p1)) (v := (.ref o)) (by rw [e5]; exact Ar2.1) (State.isArrayOf_alike hZ.alike Ar2.2.1) rfl Ar2.2.2 hin6 hat7 (g := (mkF m 25 #[vR a0, vI p1, vR a2, vI (3 : Int32), vI (own_home p1)] [(.int (own_home p1)), (.ref aH)])) rfl rfl (hb hby d24_25) _ ?_
    show SP p e below T5 (mkF m 26 #[vR a0, vI p1, vR a2, vI (3 : Int32), vI (own_home p1)] [(.ref o)]) _
    refine XS.ifnonnullYes X5.here hx rfl (pc0 := 26) (pc' := 34) rfl (hb hby d24_26) rfl (by decide) (by decide) ?_
    show SP p e below T5 (mkF m 34 #[vR a0, vI p1, vR a2, vI (3 : Int32), vI (own_home p1)] []) _
    refine st8 _ ?_
    show SP p e below T8 (mkF m 59 #[vR a0, vI p1, vR a2, vI (3 : Int32), vI (own_home p1)] []) _
    refine XS.iload X8.here hx rfl (hb hby d24_59) rfl ?_
    show SP p e below T8 (mkF m 61 #[vR a0, vI p1, vR a2, vI (3 : Int32), vI (own_home p1)] [(.int (own_home p1))]) _
    exact retI X8 hx Bd.returns (hb hby d24_61) hr
  · show Q24Y Z a0 p1 a2 aH aG kH f kG g o ho vo kvo lo xo vt kvt lt xt w h0 n0 _ T8.heap _
    rw [e8]
    exact ⟨rfl, N8, rfl⟩
theorem d24_62 : dc kB37 62 (.iload 4) 2 := by decide +kernel
theorem d24_64 : dc kB37 64 (.iconst 1) 1 := by decide +kernel
theorem d24_65 : dc kB37 65 .iadd 1 := by decide +kernel
theorem d24_66 : dc kB37 66 (.iload_n 3) 1 := by decide +kernel
theorem d24_67 : dc kB37 67 .iand 1 := by decide +kernel
theorem d24_68 : dc kB37 68 (.istore 4) 2 := by decide +kernel
theorem d24_70 : dc kB37 70 (.goto (-51)) 3 := by decide +kernel
theorem ef_rm24C (m : MethodId) (a0 : Addr) (p1 : Int32) (a2 : Addr) : entryFrame m #[(.ref a0), (.int p1), (.ref a2)] 5 = mkF m 0 #[vR a0, vI p1, vR a2, .unset, .unset] [] := by first | (simp [entryFrame, mkF, argsToLocals, Value.category]; done) | rfl
def Q24C (Z : State) (a0 : Addr) (p1 : Int32) (a2 aH aG : Addr) (kH : ClassId) (f : Nat → Value) (kG : ClassId) (g : Nat → Value) (o : Addr) (ho : Int32) (vo : Addr) (kvo : ClassId) (lo : Addr) (xo : Int64) (vt : Addr) (kvt : ClassId) (lt : Addr) (xt w : Int64) (h0 : Heap) (n0 : Nat) (v : Option Value) (h : Heap) (L : List Loc) : Prop := v = some (.int ((-1 : Int32) - (own_nx (own_home p1)))) ∧ Fr n0 L ∧ h = h0
theorem rm24C (l : Launch) (Z : State) (az : Array Value) (hw : HW Z az) (ws : List Jvm.Cond) (a0 : Addr) (p1 : Int32) (a2 aH aG : Addr) (kH : ClassId) (f : Nat → Value) (kG : ClassId) (g : Nat → Value) (o : Addr) (ho : Int32) (vo : Addr) (kvo : ClassId) (lo : Addr) (xo : Int64) (vt : Addr) (kvt : ClassId) (lt : Addr) (xt w : Int64) (h0 : Heap) (n0 : Nat) (Z0 : n0 ≤ h0.size) (E_a0 : Exa Z h0 a0 cTC) (F_held_a0 : Fld Z h0 a0 cSL "held" cOA (.ref aH)) (F_hashesAndCounts_a0 : Fld Z h0 a0 cSL "hashesAndCounts" "[J" (.ref aG)) (V_aH : own_Arf Z h0 aH kH (.object "java/lang/Object") (4 : Int32) f) (E_aH : Exa Z h0 aH cOA) (V_aG : own_Arf Z h0 aG kG .long (4 : Int32) g) (E_aG : Exa Z h0 aG "[J") (E_o : Exa Z h0 o cTU) (F_hash_o : Fld Z h0 o cTU "hash" "I" (.int ho)) (F_values_o : Fld Z h0 o cTU "values" cOA (.ref vo)) (V_vo : Arv Z h0 vo kvo (.object "java/lang/Object") (1 : Int32) [(.ref lo)] .null) (E_vo : Exa Z h0 vo cOA) (E_lo : Exa Z h0 lo cLG) (F_value_lo : Fld Z h0 lo cLG "value" "J" (.long xo)) (E_a2 : Exa Z h0 a2 cTU) (F_hash_a2 : Fld Z h0 a2 cTU "hash" "I" (.int p1)) (F_values_a2 : Fld Z h0 a2 cTU "values" cOA (.ref vt)) (V_vt : Arv Z h0 vt kvt (.object "java/lang/Object") (1 : Int32) [(.ref lt)] .null) (E_vt : Exa Z h0 vt cOA) (E_lt : Exa Z h0 lt cLG) (F_value_lt : Fld Z h0 lt cLG "value" "J" (.long xt)) (hne_o_a2 : o ≠ a2) (hne_vo_vt : vo ≠ vt) (hc23 : ¬ ((own_home p1) < (0 : Int32))) (hc24 : (own_home p1) < (4 : Int32)) (hc25 : f ((own_home p1)).toNatClampNeg = (.ref o)) (hc26 : g ((own_home p1)).toNatClampNeg = (.long w)) (hc27 : ¬ ((own_hh w) = p1) ∨ ((own_hh w) = p1 ∧ ho = p1 ∧ own_eqv xo xt = (0 : Int32))) (hc28 : ¬ ((own_nx (own_home p1)) < (0 : Int32))) (hc29 : (own_nx (own_home p1)) < (4 : Int32)) (hc30 : f ((own_nx (own_home p1))).toNatClampNeg = .null) :
    MF l Z h0 ws ⟨cSL, "find", dG⟩ kB37 5 (some .int) ⟨6, 0, 0, 85⟩ #[(.ref a0), (.int p1), (.ref a2)] (Q24C Z a0 p1 a2 aH aG kH f kG g o ho vo kvo lo xo vt kvt lt xt w h0 n0) := by
  refine own_body cSL n0 rfl (plainFor_of_name pn_com_example_reteweave_reteweave_network_SlotTable) (fun m => ef_rm24C m a0 p1 a2) ?_
  intro p e s m below meth c s₁ Bd hx hby hml hown hZ X0 e0 N0 pre0
  obtain ⟨T1, X1, e1, st1⟩ := getF X0 hx hZ hown (host := "") (Or.inl (w115 hw)) Via.refl e0 F_held_a0 (g := (mkF m 1 #[vR a0, vI p1, vR a2, .unset, .unset] [(.ref a0)])) rfl rfl (hb hby d24_1)
  obtain ⟨cl2, Ar2, qk2, Sz2, Ng2, Hs2, Gf2⟩ := id V_aH
  obtain ⟨T3, X3, e3, st3⟩ := getF X1 hx hZ hown (host := "") (Or.inl (w115 hw)) Via.refl e1 F_held_a0 (g := (mkF m 10 #[vR a0, vI p1, vR a2, vI (3 : Int32), .unset] [(.ref a0), (.int p1)])) rfl rfl (hb hby d24_10)
  obtain ⟨_, _, ⟨T4, L4, k4', n4'⟩, -, X4, ⟨Lc4, hQ4, l4, y4, z4⟩, st4⟩ := Jvm.LawKit.callS X3 hx (y := ⟨cSL, "home", "(II)I"⟩) hown (mvT hZ (w174 hw)) (mvT hZ (w175 hw)) (mvT hZ (w111 hw)) (mvT hZ (w176 hw)) (by decide) (backOf (W := 0) (rm25 l Z az hw [] p1 h0 n0 Z0) hZ (w176 hw) (w111 hw) (by decide) (by decide)) (g := (mkF m 14 #[vR a0, vI p1, vR a2, vI (3 : Int32), .unset] [(.int (4 : Int32)), (.int p1)])) rfl (by rw [hml]; rfl) (argsL := [(.int p1), (.int (4 : Int32))]) (rest := []) (lenOf pd_15 rfl) rfl (Nat.le_of_eq rfl) (hb hby d24_14) (fun _ _ => ⟨rfl, e3, (own_nle rfl), (own_nle rfl)⟩)
  dsimp only [Pt.U, Pt.locs, Pt.cells, Pt.slots] at X4 l4 y4 z4 st4 hQ4
  subst l4 y4 z4
  obtain ⟨rfl, N4q, e4⟩ := hQ4
  obtain ⟨Lg4, X4', N4⟩ := own_gen X4 (Fr.app N0 N4q)
  obtain ⟨T5, X5, e5, st5⟩ := getF X4' hx hZ hown (host := "") (Or.inl (w115 hw)) Via.refl e4 F_held_a0 (g := (mkF m 20 #[vR a0, vI p1, vR a2, vI (3 : Int32), vI (own_home p1)] [(.ref a0)])) rfl rfl (hb hby d24_20)
  have hin6 : ¬ ((own_home p1) < 0 ∨ cl2.slots.size ≤ ((own_home p1)).toNatClampNeg) := inb_of Sz2 ⟨hc23, hc24⟩
  have hat7 : cl2.slots[((own_home p1)).toNatClampNeg]? = some (.ref o) := own_at Hs2 hin6 hc25
  obtain ⟨T8, hs8, g8, ⟨rfl, es8⟩, ⟨Lg8, X8, e8, N8⟩, st8⟩ := sgM l Z az hw hx hby hml hown hZ a0 p1 a2 (own_home p1) aH aG kH f kG g o ho vo kvo lo xo vt kvt lt xt w h0 n0 Z0 E_a0 F_held_a0 F_hashesAndCounts_a0 V_aH E_aH V_aG E_aG E_o F_hash_o F_values_o V_vo E_vo E_lo F_value_lo E_a2 F_hash_a2 F_values_a2 V_vt E_vt E_lt F_value_lt hne_o_a2 hne_vo_vt hc23 hc24 hc26 hc25 hc27 T5 ⟨_, X5, e5, N4⟩
  rw [es8] at e8
  obtain ⟨T9, X9, e9, st9⟩ := getF X8 hx hZ hown (host := "") (Or.inl (w115 hw)) Via.refl e8 F_held_a0 (g := (mkF m 20 #[vR a0, vI p1, vR a2, vI (3 : Int32), vI (own_nx (own_home p1))] [(.ref a0)])) rfl rfl (hb hby d24_20)
  have hin10 : ¬ ((own_nx (own_home p1)) < 0 ∨ cl2.slots.size ≤ ((own_nx (own_home p1))).toNatClampNeg) := inb_of Sz2 ⟨hc28, hc29⟩
  have hat11 : cl2.slots[((own_nx (own_home p1))).toNatClampNeg]? = some .null := own_at Hs2 hin10 hc30
  obtain ⟨fs, hr, hrun, hended, hW, hsame⟩ := X9.leave (v := some (.int ((-1 : Int32) - (own_nx (own_home p1))))) (fun h => by rw [Bd.returns] at h; cases h) Bd.notSynchronized
  refine ⟨_, _, pre0 _ ?_, hrun, hended, _, _, rfl, ?_, ⟨_, rfl⟩, hW, hsame.mono (by decide) (by decide)⟩
  · show SP p e below s₁ (mkF m 0 #[vR a0, vI p1, vR a2, .unset, .unset] []) _
    refine XS.aloadN X0.here hx rfl (hb hby d24_0) rfl rfl ?_
    show SP p e below s₁ (mkF m 1 #[vR a0, vI p1, vR a2, .unset, .unset] [(.ref a0)]) _
    refine st1 _ ?_
    show SP p e below T1 (mkF m 4 #[vR a0, vI p1, vR a2, .unset, .unset] [(.ref aH)]) _
    refine X1.arraylength hx (by rw [e1]; exact Ar2.1) (State.isArrayOf_alike hZ.alike Ar2.2.1) (g := (mkF m 4 #[vR a0, vI p1, vR a2, .unset, .unset] [(.ref aH)])) rfl rfl (hb hby d24_4) _ ?_
    rw [len_of Sz2 Ng2]
    show SP p e below T1 (mkF m 5 #[vR a0, vI p1, vR a2, .unset, .unset] [(.int (4 : Int32))]) _
    refine XS.iconst X1.here hx rfl (hb hby d24_5) ?_
    refine XS.isub X1.here hx rfl (hb hby d24_6) rfl ?_
    refine XS.istoreN X1.here hx rfl (hb hby d24_7) rfl (l' := #[vR a0, vI p1, vR a2, vI (3 : Int32), .unset]) rfl ?_
    refine XS.iloadN X1.here hx rfl (hb hby d24_8) rfl ?_
    refine XS.aloadN X1.here hx rfl (hb hby d24_9) rfl rfl ?_
    show SP p e below T1 (mkF m 10 #[vR a0, vI p1, vR a2, vI (3 : Int32), .unset] [(.ref a0), (.int p1)]) _
    refine st3 _ ?_
    show SP p e below T3 (mkF m 13 #[vR a0, vI p1, vR a2, vI (3 : Int32), .unset] [(.ref aH), (.int p1)]) _
    refine X3.arraylength hx (by rw [e3]; exact Ar2.1) (State.isArrayOf_alike hZ.alike Ar2.2.1) (g := (mkF m 13 #[vR a0, vI p1, vR a2, vI (3 : Int32), .unset] [(.ref aH), (.int p1)])) rfl rfl (hb hby d24_13) _ ?_
    rw [len_of Sz2 Ng2]
    show SP p e below T3 (mkF m 14 #[vR a0, vI p1, vR a2, vI (3 : Int32), .unset] [(.int (4 : Int32)), (.int p1)]) _
    refine st4 _ ?_
    show SP p e below T4 (mkF m 17 #[vR a0, vI p1, vR a2, vI (3 : Int32), .unset] [(.int (own_home p1))]) _
    refine XS.istore X4'.here hx rfl (hb hby d24_17) rfl (l' := #[vR a0, vI p1, vR a2, vI (3 : Int32), vI (own_home p1)]) rfl ?_
    refine XS.aloadN X4'.here hx rfl (hb hby d24_19) rfl rfl ?_
    show SP p e below T4 (mkF m 20 #[vR a0, vI p1, vR a2, vI (3 : Int32), vI (own_home p1)] [(.ref a0)]) _
    refine st5 _ ?_
    show SP p e below T5 (mkF m 23 #[vR a0, vI p1, vR a2, vI (3 : Int32), vI (own_home p1)] [(.ref aH)]) _
    refine XS.iload X5.here hx rfl (hb hby d24_23) rfl ?_
    show SP p e below T5 (mkF m 25 #[vR a0, vI p1, vR a2, vI (3 : Int32), vI (own_home p1)] [(.int (own_home p1)), (.ref aH)]) _
    refine X5.aaload hx (j := (own_home p1)) (v := (.ref o)) (by rw [e5]; exact Ar2.1) (State.isArrayOf_alike hZ.alike Ar2.2.1) rfl Ar2.2.2 hin6 hat7 (g := (mkF m 25 #[vR a0, vI p1, vR a2, vI (3 : Int32), vI (own_home p1)] [(.int (own_home p1)), (.ref aH)])) rfl rfl (hb hby d24_25) _ ?_
    show SP p e below T5 (mkF m 26 #[vR a0, vI p1, vR a2, vI (3 : Int32), vI (own_home p1)] [(.ref o)]) _
    refine XS.ifnonnullYes X5.here hx rfl (pc0 := 26) (pc' := 34) rfl (hb hby d24_26) rfl (by decide) (by decide) ?_
    show SP p e below T5 (mkF m 34 #[vR a0, vI p1, vR a2, vI (3 : Int32), vI (own_home p1)] []) _
    refine st8 _ ?_
    show SP p e below T8 (mkF m 62 #[vR a0, vI p1, vR a2, vI (3 : Int32), vI (own_home p1)] []) _
    refine XS.iload X8.here hx rfl (hb hby d24_62) rfl ?_
    refine XS.iconst X8.here hx rfl (hb hby d24_64) ?_
    refine XS.iadd X8.here hx rfl (hb hby d24_65) rfl ?_
    refine XS.iloadN X8.here hx rfl (hb hby d24_66) rfl ?_
    refine XS.iand X8.here hx rfl (hb hby d24_67) rfl ?_
    show SP p e below T8 (mkF m 68 #[vR a0, vI p1, vR a2, vI (3 : Int32), vI (own_home p1)] [(.int (own_nx (own_home p1)))]) _
    refine XS.istore X8.here hx rfl (hb hby d24_68) rfl (l' := #[vR a0, vI p1, vR a2, vI (3 : Int32), vI (own_nx (own_home p1))]) rfl ?_
    refine XS.goto X8.here hx rfl (pc0 := 70) (pc' := 19) rfl (hb hby d24_70) (by decide) (by decide) ?_
    refine XS.aloadN X8.here hx rfl (hb hby d24_19) rfl rfl ?_
    show SP p e below T8 (mkF m 20 #[vR a0, vI p1, vR a2, vI (3 : Int32), vI (own_nx (own_home p1))] [(.ref a0)]) _
    refine st9 _ ?_
    show SP p e below T9 (mkF m 23 #[vR a0, vI p1, vR a2, vI (3 : Int32), vI (own_nx (own_home p1))] [(.ref aH)]) _
    refine XS.iload X9.here hx rfl (hb hby d24_23) rfl ?_
    show SP p e below T9 (mkF m 25 #[vR a0, vI p1, vR a2, vI (3 : Int32), vI (own_nx (own_home p1))] [(.int (own_nx (own_home p1))), (.ref aH)]) _
    refine X9.aaload hx (j := (own_nx (own_home p1))) (v := .null) (by rw [e9]; exact Ar2.1) (State.isArrayOf_alike hZ.alike Ar2.2.1) rfl Ar2.2.2 hin10 hat11 (g := (mkF m 25 #[vR a0, vI p1, vR a2, vI (3 : Int32), vI (own_nx (own_home p1))] [(.int (own_nx (own_home p1))), (.ref aH)])) rfl rfl (hb hby d24_25) _ ?_
    show SP p e below T9 (mkF m 26 #[vR a0, vI p1, vR a2, vI (3 : Int32), vI (own_nx (own_home p1))] [.null]) _
    refine XS.ifnonnullNo X9.here hx rfl (hb hby d24_26) rfl ?_
    refine XS.iconst X9.here hx rfl (hb hby d24_29) ?_
    refine XS.iload X9.here hx rfl (hb hby d24_30) rfl ?_
    refine XS.isub X9.here hx rfl (hb hby d24_32) rfl ?_
    show SP p e below T9 (mkF m 33 #[vR a0, vI p1, vR a2, vI (3 : Int32), vI (own_nx (own_home p1))] [(.int ((-1 : Int32) - (own_nx (own_home p1))))]) _
    exact retI X9 hx Bd.returns (hb hby d24_33) hr
  · show Q24C Z a0 p1 a2 aH aG kH f kG g o ho vo kvo lo xo vt kvt lt xt w h0 n0 _ T9.heap _
    rw [e9]
    exact ⟨rfl, N8, rfl⟩
theorem ef_rm24D (m : MethodId) (a0 : Addr) (p1 : Int32) (a2 : Addr) : entryFrame m #[(.ref a0), (.int p1), (.ref a2)] 5 = mkF m 0 #[vR a0, vI p1, vR a2, .unset, .unset] [] := by first | (simp [entryFrame, mkF, argsToLocals, Value.category]; done) | rfl
def Q24D (Z : State) (a0 : Addr) (p1 : Int32) (a2 aH aG : Addr) (kH : ClassId) (f : Nat → Value) (kG : ClassId) (g : Nat → Value) (o : Addr) (ho : Int32) (vo : Addr) (kvo : ClassId) (lo : Addr) (xo : Int64) (vt : Addr) (kvt : ClassId) (lt : Addr) (xt w w2 : Int64) (h0 : Heap) (n0 : Nat) (v : Option Value) (h : Heap) (L : List Loc) : Prop := v = some (.int (own_nx (own_home p1))) ∧ Fr n0 L ∧ h = h0
theorem rm24D (l : Launch) (Z : State) (az : Array Value) (hw : HW Z az) (ws : List Jvm.Cond) (a0 : Addr) (p1 : Int32) (a2 aH aG : Addr) (kH : ClassId) (f : Nat → Value) (kG : ClassId) (g : Nat → Value) (o : Addr) (ho : Int32) (vo : Addr) (kvo : ClassId) (lo : Addr) (xo : Int64) (vt : Addr) (kvt : ClassId) (lt : Addr) (xt w w2 : Int64) (h0 : Heap) (n0 : Nat) (Z0 : n0 ≤ h0.size) (E_a0 : Exa Z h0 a0 cTC) (F_held_a0 : Fld Z h0 a0 cSL "held" cOA (.ref aH)) (F_hashesAndCounts_a0 : Fld Z h0 a0 cSL "hashesAndCounts" "[J" (.ref aG)) (V_aH : own_Arf Z h0 aH kH (.object "java/lang/Object") (4 : Int32) f) (E_aH : Exa Z h0 aH cOA) (V_aG : own_Arf Z h0 aG kG .long (4 : Int32) g) (E_aG : Exa Z h0 aG "[J") (E_o : Exa Z h0 o cTU) (F_hash_o : Fld Z h0 o cTU "hash" "I" (.int ho)) (F_values_o : Fld Z h0 o cTU "values" cOA (.ref vo)) (V_vo : Arv Z h0 vo kvo (.object "java/lang/Object") (1 : Int32) [(.ref lo)] .null) (E_vo : Exa Z h0 vo cOA) (E_lo : Exa Z h0 lo cLG) (F_value_lo : Fld Z h0 lo cLG "value" "J" (.long xo)) (E_a2 : Exa Z h0 a2 cTU) (F_hash_a2 : Fld Z h0 a2 cTU "hash" "I" (.int p1)) (F_values_a2 : Fld Z h0 a2 cTU "values" cOA (.ref vt)) (V_vt : Arv Z h0 vt kvt (.object "java/lang/Object") (1 : Int32) [(.ref lt)] .null) (E_vt : Exa Z h0 vt cOA) (E_lt : Exa Z h0 lt cLG) (F_value_lt : Fld Z h0 lt cLG "value" "J" (.long xt)) (hne_o_a2 : o ≠ a2) (hne_vo_vt : vo ≠ vt) (hc23 : ¬ ((own_home p1) < (0 : Int32))) (hc24 : (own_home p1) < (4 : Int32)) (hc25 : f ((own_home p1)).toNatClampNeg = (.ref o)) (hc26 : g ((own_home p1)).toNatClampNeg = (.long w)) (hc27 : ¬ ((own_hh w) = p1) ∨ ((own_hh w) = p1 ∧ ho = p1 ∧ own_eqv xo xt = (0 : Int32))) (hc28 : ¬ ((own_nx (own_home p1)) < (0 : Int32))) (hc29 : (own_nx (own_home p1)) < (4 : Int32)) (hc30 : f ((own_nx (own_home p1))).toNatClampNeg = (.ref a2)) (hc31 : g ((own_nx (own_home p1))).toNatClampNeg = (.long w2)) (hc32 : (own_hh w2) = p1) :
    MF l Z h0 ws ⟨cSL, "find", dG⟩ kB37 5 (some .int) ⟨6, 0, 0, 85⟩ #[(.ref a0), (.int p1), (.ref a2)] (Q24D Z a0 p1 a2 aH aG kH f kG g o ho vo kvo lo xo vt kvt lt xt w w2 h0 n0) := by
  refine own_body cSL n0 rfl (plainFor_of_name pn_com_example_reteweave_reteweave_network_SlotTable) (fun m => ef_rm24D m a0 p1 a2) ?_
  intro p e s m below meth c s₁ Bd hx hby hml hown hZ X0 e0 N0 pre0
  obtain ⟨T1, X1, e1, st1⟩ := getF X0 hx hZ hown (host := "") (Or.inl (w115 hw)) Via.refl e0 F_held_a0 (g := (mkF m 1 #[vR a0, vI p1, vR a2, .unset, .unset] [(.ref a0)])) rfl rfl (hb hby d24_1)
  obtain ⟨cl2, Ar2, qk2, Sz2, Ng2, Hs2, Gf2⟩ := id V_aH
  obtain ⟨T3, X3, e3, st3⟩ := getF X1 hx hZ hown (host := "") (Or.inl (w115 hw)) Via.refl e1 F_held_a0 (g := (mkF m 10 #[vR a0, vI p1, vR a2, vI (3 : Int32), .unset] [(.ref a0), (.int p1)])) rfl rfl (hb hby d24_10)
  obtain ⟨_, _, ⟨T4, L4, k4', n4'⟩, -, X4, ⟨Lc4, hQ4, l4, y4, z4⟩, st4⟩ := Jvm.LawKit.callS X3 hx (y := ⟨cSL, "home", "(II)I"⟩) hown (mvT hZ (w174 hw)) (mvT hZ (w175 hw)) (mvT hZ (w111 hw)) (mvT hZ (w176 hw)) (by decide) (backOf (W := 0) (rm25 l Z az hw [] p1 h0 n0 Z0) hZ (w176 hw) (w111 hw) (by decide) (by decide)) (g := (mkF m 14 #[vR a0, vI p1, vR a2, vI (3 : Int32), .unset] [(.int (4 : Int32)), (.int p1)])) rfl (by rw [hml]; rfl) (argsL := [(.int p1), (.int (4 : Int32))]) (rest := []) (lenOf pd_15 rfl) rfl (Nat.le_of_eq rfl) (hb hby d24_14) (fun _ _ => ⟨rfl, e3, (own_nle rfl), (own_nle rfl)⟩)
  dsimp only [Pt.U, Pt.locs, Pt.cells, Pt.slots] at X4 l4 y4 z4 st4 hQ4
  subst l4 y4 z4
  obtain ⟨rfl, N4q, e4⟩ := hQ4
  obtain ⟨Lg4, X4', N4⟩ := own_gen X4 (Fr.app N0 N4q)
  obtain ⟨T5, X5, e5, st5⟩ := getF X4' hx hZ hown (host := "") (Or.inl (w115 hw)) Via.refl e4 F_held_a0 (g := (mkF m 20 #[vR a0, vI p1, vR a2, vI (3 : Int32), vI (own_home p1)] [(.ref a0)])) rfl rfl (hb hby d24_20)
  have hin6 : ¬ ((own_home p1) < 0 ∨ cl2.slots.size ≤ ((own_home p1)).toNatClampNeg) := inb_of Sz2 ⟨hc23, hc24⟩
  have hat7 : cl2.slots[((own_home p1)).toNatClampNeg]? = some (.ref o) := own_at Hs2 hin6 hc25
  obtain ⟨T8, hs8, g8, ⟨rfl, es8⟩, ⟨Lg8, X8, e8, N8⟩, st8⟩ := sgM l Z az hw hx hby hml hown hZ a0 p1 a2 (own_home p1) aH aG kH f kG g o ho vo kvo lo xo vt kvt lt xt w h0 n0 Z0 E_a0 F_held_a0 F_hashesAndCounts_a0 V_aH E_aH V_aG E_aG E_o F_hash_o F_values_o V_vo E_vo E_lo F_value_lo E_a2 F_hash_a2 F_values_a2 V_vt E_vt E_lt F_value_lt hne_o_a2 hne_vo_vt hc23 hc24 hc26 hc25 hc27 T5 ⟨_, X5, e5, N4⟩
  rw [es8] at e8
  obtain ⟨T9, X9, e9, st9⟩ := getF X8 hx hZ hown (host := "") (Or.inl (w115 hw)) Via.refl e8 F_held_a0 (g := (mkF m 20 #[vR a0, vI p1, vR a2, vI (3 : Int32), vI (own_nx (own_home p1))] [(.ref a0)])) rfl rfl (hb hby d24_20)
  have hin10 : ¬ ((own_nx (own_home p1)) < 0 ∨ cl2.slots.size ≤ ((own_nx (own_home p1))).toNatClampNeg) := inb_of Sz2 ⟨hc28, hc29⟩
  have hat11 : cl2.slots[((own_nx (own_home p1))).toNatClampNeg]? = some (.ref a2) := own_at Hs2 hin10 hc30
  obtain ⟨T12, hs12, g12, ⟨rfl, es12⟩, ⟨Lg12, X12, e12, N12⟩, st12⟩ := sgHS l Z az hw hx hby hml hown hZ a0 p1 a2 (own_nx (own_home p1)) aH aG kH f kG g vt kvt lt xt w2 h0 n0 Z0 E_a0 F_held_a0 F_hashesAndCounts_a0 V_aH E_aH V_aG E_aG E_a2 F_hash_a2 F_values_a2 V_vt E_vt E_lt F_value_lt hc28 hc29 hc31 hc32 hc30 T9 ⟨_, X9, e9, N8⟩
  rw [es12] at e12
  obtain ⟨fs, hr, hrun, hended, hW, hsame⟩ := X12.leave (v := some (.int (own_nx (own_home p1)))) (fun h => by rw [Bd.returns] at h; cases h) Bd.notSynchronized
  refine ⟨_, _, pre0 _ ?_, hrun, hended, _, _, rfl, ?_, ⟨_, rfl⟩, hW, hsame.mono (by decide) (by decide)⟩
  · show SP p e below s₁ (mkF m 0 #[vR a0, vI p1, vR a2, .unset, .unset] []) _
    refine XS.aloadN X0.here hx rfl (hb hby d24_0) rfl rfl ?_
    show SP p e below s₁ (mkF m 1 #[vR a0, vI p1, vR a2, .unset, .unset] [(.ref a0)]) _
    refine st1 _ ?_
    show SP p e below T1 (mkF m 4 #[vR a0, vI p1, vR a2, .unset, .unset] [(.ref aH)]) _
    refine X1.arraylength hx (by rw [e1]; exact Ar2.1) (State.isArrayOf_alike hZ.alike Ar2.2.1) (g := (mkF m 4 #[vR a0, vI p1, vR a2, .unset, .unset] [(.ref aH)])) rfl rfl (hb hby d24_4) _ ?_
    rw [len_of Sz2 Ng2]
    show SP p e below T1 (mkF m 5 #[vR a0, vI p1, vR a2, .unset, .unset] [(.int (4 : Int32))]) _
    refine XS.iconst X1.here hx rfl (hb hby d24_5) ?_
    refine XS.isub X1.here hx rfl (hb hby d24_6) rfl ?_
    refine XS.istoreN X1.here hx rfl (hb hby d24_7) rfl (l' := #[vR a0, vI p1, vR a2, vI (3 : Int32), .unset]) rfl ?_
    refine XS.iloadN X1.here hx rfl (hb hby d24_8) rfl ?_
    refine XS.aloadN X1.here hx rfl (hb hby d24_9) rfl rfl ?_
    show SP p e below T1 (mkF m 10 #[vR a0, vI p1, vR a2, vI (3 : Int32), .unset] [(.ref a0), (.int p1)]) _
    refine st3 _ ?_
    show SP p e below T3 (mkF m 13 #[vR a0, vI p1, vR a2, vI (3 : Int32), .unset] [(.ref aH), (.int p1)]) _
    refine X3.arraylength hx (by rw [e3]; exact Ar2.1) (State.isArrayOf_alike hZ.alike Ar2.2.1) (g := (mkF m 13 #[vR a0, vI p1, vR a2, vI (3 : Int32), .unset] [(.ref aH), (.int p1)])) rfl rfl (hb hby d24_13) _ ?_
    rw [len_of Sz2 Ng2]
    show SP p e below T3 (mkF m 14 #[vR a0, vI p1, vR a2, vI (3 : Int32), .unset] [(.int (4 : Int32)), (.int p1)]) _
    refine st4 _ ?_
    show SP p e below T4 (mkF m 17 #[vR a0, vI p1, vR a2, vI (3 : Int32), .unset] [(.int (own_home p1))]) _
    refine XS.istore X4'.here hx rfl (hb hby d24_17) rfl (l' := #[vR a0, vI p1, vR a2, vI (3 : Int32), vI (own_home p1)]) rfl ?_
    refine XS.aloadN X4'.here hx rfl (hb hby d24_19) rfl rfl ?_
    show SP p e below T4 (mkF m 20 #[vR a0, vI p1, vR a2, vI (3 : Int32), vI (own_home p1)] [(.ref a0)]) _
    refine st5 _ ?_
    show SP p e below T5 (mkF m 23 #[vR a0, vI p1, vR a2, vI (3 : Int32), vI (own_home p1)] [(.ref aH)]) _
    refine XS.iload X5.here hx rfl (hb hby d24_23) rfl ?_
    show SP p e below T5 (mkF m 25 #[vR a0, vI p1, vR a2, vI (3 : Int32), vI (own_home p1)] [(.int (own_home p1)), (.ref aH)]) _
    refine X5.aaload hx (j := (own_home p1)) (v := (.ref o)) (by rw [e5]; exact Ar2.1) (State.isArrayOf_alike hZ.alike Ar2.2.1) rfl Ar2.2.2 hin6 hat7 (g := (mkF m 25 #[vR a0, vI p1, vR a2, vI (3 : Int32), vI (own_home p1)] [(.int (own_home p1)), (.ref aH)])) rfl rfl (hb hby d24_25) _ ?_
    show SP p e below T5 (mkF m 26 #[vR a0, vI p1, vR a2, vI (3 : Int32), vI (own_home p1)] [(.ref o)]) _
    refine XS.ifnonnullYes X5.here hx rfl (pc0 := 26) (pc' := 34) rfl (hb hby d24_26) rfl (by decide) (by decide) ?_
    show SP p e below T5 (mkF m 34 #[vR a0, vI p1, vR a2, vI (3 : Int32), vI (own_home p1)] []) _
    refine st8 _ ?_
    show SP p e below T8 (mkF m 62 #[vR a0, vI p1, vR a2, vI (3 : Int32), vI (own_home p1)] []) _
    refine XS.iload X8.here hx rfl (hb hby d24_62) rfl ?_
    refine XS.iconst X8.here hx rfl (hb hby d24_64) ?_
    refine XS.iadd X8.here hx rfl (hb hby d24_65) rfl ?_
    refine XS.iloadN X8.here hx rfl (hb hby d24_66) rfl ?_
    refine XS.iand X8.here hx rfl (hb hby d24_67) rfl ?_
    show SP p e below T8 (mkF m 68 #[vR a0, vI p1, vR a2, vI (3 : Int32), vI (own_home p1)] [(.int (own_nx (own_home p1)))]) _
    refine XS.istore X8.here hx rfl (hb hby d24_68) rfl (l' := #[vR a0, vI p1, vR a2, vI (3 : Int32), vI (own_nx (own_home p1))]) rfl ?_
    refine XS.goto X8.here hx rfl (pc0 := 70) (pc' := 19) rfl (hb hby d24_70) (by decide) (by decide) ?_
    refine XS.aloadN X8.here hx rfl (hb hby d24_19) rfl rfl ?_
    show SP p e below T8 (mkF m 20 #[vR a0, vI p1, vR a2, vI (3 : Int32), vI (own_nx (own_home p1))] [(.ref a0)]) _
    refine st9 _ ?_
    show SP p e below T9 (mkF m 23 #[vR a0, vI p1, vR a2, vI (3 : Int32), vI (own_nx (own_home p1))] [(.ref aH)]) _
    refine XS.iload X9.here hx rfl (hb hby d24_23) rfl ?_
    show SP p e below T9 (mkF m 25 #[vR a0, vI p1, vR a2, vI (3 : Int32), vI (own_nx (own_home p1))] [(.int (own_nx (own_home p1))), (.ref aH)]) _
    refine X9.aaload hx (j := (own_nx (own_home p1))) (v := (.ref a2)) (by rw [e9]; exact Ar2.1) (State.isArrayOf_alike hZ.alike Ar2.2.1) rfl Ar2.2.2 hin10 hat11 (g := (mkF m 25 #[vR a0, vI p1, vR a2, vI (3 : Int32), vI (own_nx (own_home p1))] [(.int (own_nx (own_home p1))), (.ref aH)])) rfl rfl (hb hby d24_25) _ ?_
    show SP p e below T9 (mkF m 26 #[vR a0, vI p1, vR a2, vI (3 : Int32), vI (own_nx (own_home p1))] [(.ref a2)]) _
    refine XS.ifnonnullYes X9.here hx rfl (pc0 := 26) (pc' := 34) rfl (hb hby d24_26) rfl (by decide) (by decide) ?_
    show SP p e below T9 (mkF m 34 #[vR a0, vI p1, vR a2, vI (3 : Int32), vI (own_nx (own_home p1))] []) _
    refine st12 _ ?_
    show SP p e below T12 (mkF m 59 #[vR a0, vI p1, vR a2, vI (3 : Int32), vI (own_nx (own_home p1))] []) _
    refine XS.iload X12.here hx rfl (hb hby d24_59) rfl ?_
    show SP p e below T12 (mkF m 61 #[vR a0, vI p1, vR a2, vI (3 : Int32), vI (own_nx (own_home p1))] [(.int (own_nx (own_home p1)))]) _
    exact retI X12 hx Bd.returns (hb hby d24_61) hr
  · show Q24D Z a0 p1 a2 aH aG kH f kG g o ho vo kvo lo xo vt kvt lt xt w w2 h0 n0 _ T12.heap _
    rw [e12]
    exact ⟨rfl, N12, rfl⟩
def own_TP (Z : State) (h : Heap) (t u : Addr) (xt xu : Int64) (ht hu : Int32) : Prop := ∃ (vt vu : Addr) (kvt kvu : ClassId) (lt lu : Addr), Exa Z h t cTU ∧ Fld Z h t cTU "hash" "I" (.int ht) ∧ Fld Z h t cTU "values" cOA (.ref vt) ∧ Arv Z h vt kvt (.object "java/lang/Object") (1 : Int32) [(.ref lt)] .null ∧ Exa Z h vt cOA ∧ Exa Z h lt cLG ∧ Fld Z h lt cLG "value" "J" (.long xt) ∧ Exa Z h u cTU ∧ Fld Z h u cTU "hash" "I" (.int hu) ∧ Fld Z h u cTU "values" cOA (.ref vu) ∧ Arv Z h vu kvu (.object "java/lang/Object") (1 : Int32) [(.ref lu)] .null ∧ Exa Z h vu cOA ∧ Exa Z h lu cLG ∧ Fld Z h lu cLG "value" "J" (.long xu) ∧ u ≠ t ∧ vu ≠ vt
def own_FR (f g : Nat → Value) (t u : Addr) (xt xu : Int64) (ht hu r : Int32) : Prop := (f ((own_home ht)).toNatClampNeg = .null ∧ r = (-1 : Int32) - (own_home ht)) ∨ (f ((own_home ht)).toNatClampNeg = (.ref t) ∧ (∃ w : Int64, g ((own_home ht)).toNatClampNeg = (.long w) ∧ own_hh w = ht) ∧ r = (own_home ht)) ∨ (f ((own_home ht)).toNatClampNeg = (.ref u) ∧ (∃ w : Int64, g ((own_home ht)).toNatClampNeg = (.long w) ∧ own_hh w = hu) ∧ hu = ht ∧ xu = xt ∧ r = (own_home ht)) ∨ (f ((own_home ht)).toNatClampNeg = (.ref u) ∧ (∃ w : Int64, g ((own_home ht)).toNatClampNeg = (.long w) ∧ own_hh w = hu) ∧ (hu ≠ ht ∨ xu ≠ xt) ∧ f ((own_nx (own_home ht))).toNatClampNeg = .null ∧ r = (-1 : Int32) - (own_nx (own_home ht))) ∨ (f ((own_home ht)).toNatClampNeg = (.ref u) ∧ (∃ w : Int64, g ((own_home ht)).toNatClampNeg = (.long w) ∧ own_hh w = hu) ∧ (hu ≠ ht ∨ xu ≠ xt) ∧ f ((own_nx (own_home ht))).toNatClampNeg = (.ref t) ∧ (∃ w : Int64, g ((own_nx (own_home ht))).toNatClampNeg = (.long w) ∧ own_hh w = ht) ∧ r = (own_nx (own_home ht)))
theorem own_h4 (h : Int32) : own_home h = 0 ∨ own_home h = 1 ∨ own_home h = 2 ∨ own_home h = 3 := by
  unfold own_home
  generalize h * (-1640531527 : Int32) = x
  have e : ((x.toUInt32 >>> ((30 : Int32) &&& 31).toUInt32).toInt32).toBitVec = x.toBitVec >>> 30 := by
    show x.toBitVec >>> (((30 : Int32) &&& 31).toUInt32.toBitVec % 32) = _
    rw [show ((30 : Int32) &&& 31).toUInt32.toBitVec % 32 = 30#32 from by decide]
    rfl
  have lt : (x.toBitVec >>> 30).toNat < 4 := by
    rw [BitVec.toNat_ushiftRight, Nat.shiftRight_eq_div_pow]
    have := x.toBitVec.isLt
    omega
  have : (x.toBitVec >>> 30).toNat = 0 ∨ (x.toBitVec >>> 30).toNat = 1 ∨ (x.toBitVec >>> 30).toNat = 2 ∨ (x.toBitVec >>> 30).toNat = 3 := by omega
  rcases this with u | u | u | u
  · exact Or.inl (Int32.toBitVec_inj.mp (e.trans (BitVec.eq_of_toNat_eq u)))
  · exact Or.inr (Or.inl (Int32.toBitVec_inj.mp (e.trans (BitVec.eq_of_toNat_eq u))))
  · exact Or.inr (Or.inr (Or.inl (Int32.toBitVec_inj.mp (e.trans (BitVec.eq_of_toNat_eq u)))))
  · exact Or.inr (Or.inr (Or.inr (Int32.toBitVec_inj.mp (e.trans (BitVec.eq_of_toNat_eq u)))))
theorem own_hb (h : Int32) : ¬ (own_home h < (0 : Int32)) ∧ own_home h < (4 : Int32) ∧ ¬ (own_nx (own_home h) < (0 : Int32)) ∧ own_nx (own_home h) < (4 : Int32) := by
  rcases own_h4 h with e | e | e | e <;> rw [e] <;> decide
theorem own_miss {a hu ht : Int32} {xu xt : Int64} (q : a = hu) (c : hu ≠ ht ∨ xu ≠ xt) : ¬ (a = ht) ∨ (a = ht ∧ hu = ht ∧ own_eqv xu xt = (0 : Int32)) := by
  subst q
  by_cases e : a = ht
  · exact Or.inr ⟨e, e, if_neg (c.resolve_left (fun z => z e))⟩
  · exact Or.inl e
def QF (Z : State) (a0 : Addr) (p1 : Int32) (a2 aH aG : Addr) (kH : ClassId) (f : Nat → Value) (kG : ClassId) (g : Nat → Value) (u : Addr) (xt xu : Int64) (hu r : Int32) (h0 : Heap) (n0 : Nat) (v : Option Value) (h : Heap) (L : List Loc) : Prop := v = some (.int r) ∧ Fr n0 L ∧ h = h0
theorem rmF (l : Launch) (Z : State) (az : Array Value) (hw : HW Z az) (ws : List Jvm.Cond) (a0 : Addr) (p1 : Int32) (a2 aH aG : Addr) (kH : ClassId) (f : Nat → Value) (kG : ClassId) (g : Nat → Value) (u : Addr) (xt xu : Int64) (hu r : Int32) (h0 : Heap) (n0 : Nat) (Z0 : n0 ≤ h0.size) (E_a0 : Exa Z h0 a0 cTC) (F_held_a0 : Fld Z h0 a0 cSL "held" cOA (.ref aH)) (F_hashesAndCounts_a0 : Fld Z h0 a0 cSL "hashesAndCounts" "[J" (.ref aG)) (V_aH : own_Arf Z h0 aH kH (.object "java/lang/Object") (4 : Int32) f) (E_aH : Exa Z h0 aH cOA) (V_aG : own_Arf Z h0 aG kG .long (4 : Int32) g) (E_aG : Exa Z h0 aG "[J") (J_tp : own_TP Z h0 a2 u xt xu p1 hu) (hFR : own_FR f g a2 u xt xu p1 hu r) :
    MF l Z h0 ws ⟨cSL, "find", dG⟩ kB37 5 (some .int) ⟨6, 0, 0, 85⟩ #[(.ref a0), (.int p1), (.ref a2)] (QF Z a0 p1 a2 aH aG kH f kG g u xt xu hu r h0 n0) := by
  obtain ⟨vt, vu, kvt, kvu, lt, lu, T1, T2, T3, T4, T5, T6, T7, U1, U2, U3, U4, U5, U6, U7, ne1, ne2⟩ := J_tp
  obtain ⟨b1, b2, b3, b4⟩ := own_hb p1
  rcases hFR with ⟨q1, rfl⟩ | ⟨q1, ⟨w, q2, q3⟩, rfl⟩ | ⟨q1, ⟨w, q2, q3⟩, q4, q5, rfl⟩ | ⟨q1, ⟨w, q2, q3⟩, q4, q5, rfl⟩ | ⟨q1, ⟨w, q2, q3⟩, q4, q5, ⟨w2, q6, q7⟩, rfl⟩
  · exact rm24A l Z az hw ws a0 p1 a2 aH aG kH f h0 n0 Z0 E_a0 F_held_a0 F_hashesAndCounts_a0 V_aH E_aH b1 b2 q1
  · exact rm24B l Z az hw ws a0 p1 a2 aH aG kH f kG g vt kvt lt xt w h0 n0 Z0 E_a0 F_held_a0 F_hashesAndCounts_a0 V_aH E_aH V_aG E_aG T1 T2 T3 T4 T5 T6 T7 b1 b2 q1 q2 q3
  · exact rm24Y l Z az hw ws a0 p1 a2 aH aG kH f kG g u hu vu kvu lu xu vt kvt lt xt w h0 n0 Z0 E_a0 F_held_a0 F_hashesAndCounts_a0 V_aH E_aH V_aG E_aG U1 U2 U3 U4 U5 U6 U7 T1 T2 T3 T4 T5 T6 T7 ne1 ne2 b1 b2 q1 q2 (q3.trans q4) q4 (own_nb1 _ _) (by rw [own_eqv, if_pos q5]; decide)
  · exact rm24C l Z az hw ws a0 p1 a2 aH aG kH f kG g u hu vu kvu lu xu vt kvt lt xt w h0 n0 Z0 E_a0 F_held_a0 F_hashesAndCounts_a0 V_aH E_aH V_aG E_aG U1 U2 U3 U4 U5 U6 U7 T1 T2 T3 T4 T5 T6 T7 ne1 ne2 b1 b2 q1 q2 (own_miss q3 q4) b3 b4 q5
  · exact rm24D l Z az hw ws a0 p1 a2 aH aG kH f kG g u hu vu kvu lu xu vt kvt lt xt w w2 h0 n0 Z0 E_a0 F_held_a0 F_hashesAndCounts_a0 V_aH E_aH V_aG E_aG U1 U2 U3 U4 U5 U6 U7 T1 T2 T3 T4 T5 T6 T7 ne1 ne2 b1 b2 q1 q2 (own_miss q3 q4) b3 b4 q5 q6 q7
theorem d23_0 : dc kB39 0 (.aload_n 0) 1 := by decide +kernel
theorem d23_1 : dc kB39 1 (.getfield 19) 3 := by decide +kernel
theorem d23_4 : dc kB39 4 .ireturn 1 := by decide +kernel
theorem ef_rm23 (m : MethodId) (a0 : Addr) : entryFrame m #[(.ref a0)] 1 = mkF m 0 #[vR a0] [] := by first | (simp [entryFrame, mkF, argsToLocals, Value.category]; done) | rfl
def Q23 (Z : State) (a0 : Addr) (ht : Int32) (h0 : Heap) (n0 : Nat) (v : Option Value) (h : Heap) (L : List Loc) : Prop := v = some (.int ht) ∧ Fr n0 L ∧ h = h0
theorem rm23 (l : Launch) (Z : State) (az : Array Value) (hw : HW Z az) (ws : List Jvm.Cond) (a0 : Addr) (ht : Int32) (h0 : Heap) (n0 : Nat) (Z0 : n0 ≤ h0.size) (F_hash_a0 : Fld Z h0 a0 cTU "hash" "I" (.int ht)) :
    MF l Z h0 ws ⟨cTU, "hashCode", "()I"⟩ kB39 1 (some .int) ⟨0, 0, 0, 0⟩ #[(.ref a0)] (Q23 Z a0 ht h0 n0) := by
  refine own_body cTU n0 rfl (plainFor_of_name pn_com_example_reteweave_reteweave_network_Tuple) (fun m => ef_rm23 m a0) ?_
  intro p e s m below meth c s₁ Bd hx hby hml hown hZ X0 e0 N0 pre0
  obtain ⟨T1, X1, e1, st1⟩ := getF X0 hx hZ hown (host := "") (Or.inl (w52 hw)) Via.refl e0 F_hash_a0 (g := (mkF m 1 #[vR a0] [(.ref a0)])) rfl rfl (hb hby d23_1)
  obtain ⟨fs, hr, hrun, hended, hW, hsame⟩ := X1.leave (v := some (.int ht)) (fun h => by rw [Bd.returns] at h; cases h) Bd.notSynchronized
  refine ⟨_, _, pre0 _ ?_, hrun, hended, _, _, rfl, ?_, ⟨_, rfl⟩, hW, hsame.mono (by decide) (by decide)⟩
  · show SP p e below s₁ (mkF m 0 #[vR a0] []) _
    refine XS.aloadN X0.here hx rfl (hb hby d23_0) rfl rfl ?_
    show SP p e below s₁ (mkF m 1 #[vR a0] [(.ref a0)]) _
    refine st1 _ ?_
    show SP p e below T1 (mkF m 4 #[vR a0] [(.int ht)]) _
    exact retI X1 hx Bd.returns (hb hby d23_4) hr
  · show Q23 Z a0 ht h0 n0 _ T1.heap _
    rw [e1]
    exact ⟨rfl, N0, rfl⟩
theorem d22_0 : dc kB45 0 (.aload_n 0) 1 := by decide +kernel
theorem d22_1 : dc kB45 1 (.aload_n 1) 1 := by decide +kernel
theorem d22_2 : dc kB45 2 (.invokevirtual 13) 3 := by decide +kernel
theorem d22_5 : dc kB45 5 (.aload_n 1) 1 := by decide +kernel
theorem d22_6 : dc kB45 6 (.invokevirtual 19) 3 := by decide +kernel
theorem pd_16 : parseMethodDescriptor "(ILcom/example/reteweave/reteweave/network/Tuple;)I" = some ⟨[.int, (.object "com/example/reteweave/reteweave/network/Tuple")], some .int⟩ := by decide +kernel
theorem d22_9 : dc kB45 9 (.istore_n 2) 1 := by decide +kernel
theorem d22_10 : dc kB45 10 (.iload_n 2) 1 := by decide +kernel
theorem d22_11 : dc kB45 11 (.ifCond .ge 7) 3 := by decide +kernel
theorem d22_14 : dc kB45 14 (.iconst 0) 1 := by decide +kernel
theorem d22_15 : dc kB45 15 (.goto 8) 3 := by decide +kernel
theorem d22_23 : dc kB45 23 .ireturn 1 := by decide +kernel
theorem ef_rm22N (m : MethodId) (a0 a1 : Addr) : entryFrame m #[(.ref a0), (.ref a1)] 3 = mkF m 0 #[vR a0, vR a1, .unset] [] := by first | (simp [entryFrame, mkF, argsToLocals, Value.category]; done) | rfl
def Q22N (Z : State) (a0 a1 aH aG : Addr) (kH : ClassId) (f : Nat → Value) (kG : ClassId) (g : Nat → Value) (ht : Int32) (u : Addr) (xt xu : Int64) (hu r : Int32) (h0 : Heap) (n0 : Nat) (v : Option Value) (h : Heap) (L : List Loc) : Prop := v = some (.int (0 : Int32)) ∧ Fr n0 L ∧ h = h0
theorem rm22N (l : Launch) (Z : State) (az : Array Value) (hw : HW Z az) (ws : List Jvm.Cond) (a0 a1 aH aG : Addr) (kH : ClassId) (f : Nat → Value) (kG : ClassId) (g : Nat → Value) (ht : Int32) (u : Addr) (xt xu : Int64) (hu r : Int32) (h0 : Heap) (n0 : Nat) (Z0 : n0 ≤ h0.size) (E_a0 : Exa Z h0 a0 cTC) (F_held_a0 : Fld Z h0 a0 cSL "held" cOA (.ref aH)) (F_hashesAndCounts_a0 : Fld Z h0 a0 cSL "hashesAndCounts" "[J" (.ref aG)) (V_aH : own_Arf Z h0 aH kH (.object "java/lang/Object") (4 : Int32) f) (E_aH : Exa Z h0 aH cOA) (V_aG : own_Arf Z h0 aG kG .long (4 : Int32) g) (E_aG : Exa Z h0 aG "[J") (E_a1 : Exa Z h0 a1 cTU) (F_hash_a1 : Fld Z h0 a1 cTU "hash" "I" (.int ht)) (J_tp : own_TP Z h0 a1 u xt xu ht hu) (hFR : own_FR f g a1 u xt xu ht hu r) (hc11 : r < (0 : Int32)) :
    MF l Z h0 ws ⟨cTC, "count", dN⟩ kB45 3 (some .int) ⟨7, 0, 0, 101⟩ #[(.ref a0), (.ref a1)] (Q22N Z a0 a1 aH aG kH f kG g ht u xt xu hu r h0 n0) := by
  refine own_body cTC n0 rfl (plainFor_of_name pn_com_example_reteweave_reteweave_network_TupleCounts) (fun m => ef_rm22N m a0 a1) ?_
  intro p e s m below meth c s₁ Bd hx hby hml hown hZ X0 e0 N0 pre0
  obtain ⟨cq1, kq1, q1a, q1b, q1c⟩ := isOf hZ e0 E_a1
  obtain ⟨_, _, ⟨T1, L1, k1', n1'⟩, -, X1, ⟨Lc1, hQ1, l1, y1, z1⟩, st1⟩ := X0.virtualBack hx (y := ⟨cTU, "hashCode", "()I"⟩) (z := ⟨cTU, "hashCode", "()I"⟩) hown (mvT hZ (w163 hw)) (mvT hZ (w164 hw)) (notFace_of_selects (args := #[]) (mvT hZ (w166 hw))) (mvT hZ (w166 hw)) (mvT hZ (w165 hw)) (by decide) (backOf (W := 1) (rm23 l Z az hw [] a1 ht h0 n0 Z0 F_hash_a1) hZ (w167 hw) (w13 hw) (by decide) (by decide)) q1a q1c (g := (mkF m 2 #[vR a0, vR a1, .unset] [(.ref a1), (.ref a0)])) rfl (by rw [hml]; rfl) (Steps.refl _) (argsL := []) (rest := [(.ref a0)]) (lenOf pd_3 rfl) rfl (Nat.le_of_eq rfl) (hb hby d22_2) (fun _ _ => ⟨rfl, e0, (own_nle rfl), (own_nle rfl)⟩)
  dsimp only [Pt.U, Pt.locs, Pt.cells, Pt.slots] at X1 l1 y1 z1 st1 hQ1
  subst l1 y1 z1
  obtain ⟨rfl, N1q, e1⟩ := hQ1
  obtain ⟨Lg1, X1', N1⟩ := own_gen X1 (Fr.app N0 N1q)
  obtain ⟨cq2, kq2, q2a, q2b, q2c⟩ := isOf hZ e1 E_a0
  obtain ⟨_, _, ⟨T2, L2, k2', n2'⟩, -, X2, ⟨Lc2, hQ2, l2, y2, z2⟩, st2⟩ := X1'.virtualBackUp hx (x := ⟨cTC, "find", dG⟩) (y := ⟨cSL, "find", dG⟩) (owner := cSL) hown (mvT hZ (w168 hw)) (mvT hZ (w169 hw)) (mvT hZ (w170 hw)) (by decide) (mvT hZ (w172 hw)) (mvT hZ (w171 hw)) (backOf (W := 0) (rmF l Z az hw [] a0 ht a1 aH aG kH f kG g u xt xu hu r h0 n0 Z0 E_a0 F_held_a0 F_hashesAndCounts_a0 V_aH E_aH V_aG E_aG J_tp hFR) hZ (w173 hw) (w111 hw) (by decide) (by decide)) q2a q2c (g := (mkF m 6 #[vR a0, vR a1, .unset] [(.ref a1), (.int ht), (.ref a0)])) rfl (by rw [hml]; rfl) (Steps.refl _) (argsL := [(.int ht), (.ref a1)]) (rest := []) (lenOf pd_16 rfl) rfl (Nat.le_of_eq rfl) (hb hby d22_6) (fun _ _ => ⟨rfl, e1, (own_nle rfl), (own_nle rfl)⟩)
  dsimp only [Pt.U, Pt.locs, Pt.cells, Pt.slots] at X2 l2 y2 z2 st2 hQ2
  subst l2 y2 z2
  obtain ⟨rfl, N2q, e2⟩ := hQ2
  obtain ⟨Lg2, X2', N2⟩ := own_gen X2 (Fr.app N1 N2q)
  obtain ⟨fs, hr, hrun, hended, hW, hsame⟩ := X2'.leave (v := some (.int (0 : Int32))) (fun h => by rw [Bd.returns] at h; cases h) Bd.notSynchronized
  refine ⟨_, _, pre0 _ ?_, hrun, hended, _, _, rfl, ?_, ⟨_, rfl⟩, hW, hsame.mono (by decide) (by decide)⟩
  · show SP p e below s₁ (mkF m 0 #[vR a0, vR a1, .unset] []) _
    refine XS.aloadN X0.here hx rfl (hb hby d22_0) rfl rfl ?_
    refine XS.aloadN X0.here hx rfl (hb hby d22_1) rfl rfl ?_
    show SP p e below s₁ (mkF m 2 #[vR a0, vR a1, .unset] [(.ref a1), (.ref a0)]) _
    refine st1.trans ?_
    show SP p e below T1 (mkF m 5 #[vR a0, vR a1, .unset] [(.int ht), (.ref a0)]) _
    refine XS.aloadN X1'.here hx rfl (hb hby d22_5) rfl rfl ?_
    show SP p e below T1 (mkF m 6 #[vR a0, vR a1, .unset] [(.ref a1), (.int ht), (.ref a0)]) _
    refine st2.trans ?_
    show SP p e below T2 (mkF m 9 #[vR a0, vR a1, .unset] [(.int r)]) _
    refine XS.istoreN X2'.here hx rfl (hb hby d22_9) rfl (l' := #[vR a0, vR a1, vI r]) rfl ?_
    refine XS.iloadN X2'.here hx rfl (hb hby d22_10) rfl ?_
    refine XS.ifNo X2'.here hx rfl (hb hby d22_11) rfl ((if0 _ _).trans (tlt hc11).2.1) ?_
    refine XS.iconst X2'.here hx rfl (hb hby d22_14) ?_
    refine XS.goto X2'.here hx rfl (pc0 := 15) (pc' := 23) rfl (hb hby d22_15) (by decide) (by decide) ?_
    show SP p e below T2 (mkF m 23 #[vR a0, vR a1, vI r] [(.int (0 : Int32))]) _
    exact retI X2' hx Bd.returns (hb hby d22_23) hr
  · show Q22N Z a0 a1 aH aG kH f kG g ht u xt xu hu r h0 n0 _ T2.heap _
    rw [e2]
    exact ⟨rfl, N2, rfl⟩
theorem d22_18 : dc kB45 18 (.aload_n 0) 1 := by decide +kernel
theorem d22_19 : dc kB45 19 (.iload_n 2) 1 := by decide +kernel
theorem d22_20 : dc kB45 20 (.invokevirtual 25) 3 := by decide +kernel
theorem ef_rm22Y (m : MethodId) (a0 a1 : Addr) : entryFrame m #[(.ref a0), (.ref a1)] 3 = mkF m 0 #[vR a0, vR a1, .unset] [] := by first | (simp [entryFrame, mkF, argsToLocals, Value.category]; done) | rfl
def Q22Y (Z : State) (a0 a1 aH aG : Addr) (kH : ClassId) (f : Nat → Value) (kG : ClassId) (g : Nat → Value) (ht : Int32) (u : Addr) (xt xu : Int64) (hu r : Int32) (w : Int64) (h0 : Heap) (n0 : Nat) (v : Option Value) (h : Heap) (L : List Loc) : Prop := v = some (.int (w.toInt32)) ∧ Fr n0 L ∧ h = h0
theorem rm22Y (l : Launch) (Z : State) (az : Array Value) (hw : HW Z az) (ws : List Jvm.Cond) (a0 a1 aH aG : Addr) (kH : ClassId) (f : Nat → Value) (kG : ClassId) (g : Nat → Value) (ht : Int32) (u : Addr) (xt xu : Int64) (hu r : Int32) (w : Int64) (h0 : Heap) (n0 : Nat) (Z0 : n0 ≤ h0.size) (E_a0 : Exa Z h0 a0 cTC) (F_held_a0 : Fld Z h0 a0 cSL "held" cOA (.ref aH)) (F_hashesAndCounts_a0 : Fld Z h0 a0 cSL "hashesAndCounts" "[J" (.ref aG)) (V_aH : own_Arf Z h0 aH kH (.object "java/lang/Object") (4 : Int32) f) (E_aH : Exa Z h0 aH cOA) (V_aG : own_Arf Z h0 aG kG .long (4 : Int32) g) (E_aG : Exa Z h0 aG "[J") (E_a1 : Exa Z h0 a1 cTU) (F_hash_a1 : Fld Z h0 a1 cTU "hash" "I" (.int ht)) (J_tp : own_TP Z h0 a1 u xt xu ht hu) (hFR : own_FR f g a1 u xt xu ht hu r) (hc11 : ¬ (r < (0 : Int32))) (hc12 : r < (4 : Int32)) (hc13 : g (r).toNatClampNeg = (.long w)) :
    MF l Z h0 ws ⟨cTC, "count", dN⟩ kB45 3 (some .int) ⟨7, 0, 0, 101⟩ #[(.ref a0), (.ref a1)] (Q22Y Z a0 a1 aH aG kH f kG g ht u xt xu hu r w h0 n0) := by
  refine own_body cTC n0 rfl (plainFor_of_name pn_com_example_reteweave_reteweave_network_TupleCounts) (fun m => ef_rm22Y m a0 a1) ?_
  intro p e s m below meth c s₁ Bd hx hby hml hown hZ X0 e0 N0 pre0
  obtain ⟨cq1, kq1, q1a, q1b, q1c⟩ := isOf hZ e0 E_a1
  obtain ⟨_, _, ⟨T1, L1, k1', n1'⟩, -, X1, ⟨Lc1, hQ1, l1, y1, z1⟩, st1⟩ := X0.virtualBack hx (y := ⟨cTU, "hashCode", "()I"⟩) (z := ⟨cTU, "hashCode", "()I"⟩) hown (mvT hZ (w163 hw)) (mvT hZ (w164 hw)) (notFace_of_selects (args := #[]) (mvT hZ (w166 hw))) (mvT hZ (w166 hw)) (mvT hZ (w165 hw)) (by decide) (backOf (W := 1) (rm23 l Z az hw [] a1 ht h0 n0 Z0 F_hash_a1) hZ (w167 hw) (w13 hw) (by decide) (by decide)) q1a q1c (g := (mkF m 2 #[vR a0, vR a1, .unset] [(.ref a1), (.ref a0)])) rfl (by rw [hml]; rfl) (Steps.refl _) (argsL := []) (rest := [(.ref a0)]) (lenOf pd_3 rfl) rfl (Nat.le_of_eq rfl) (hb hby d22_2) (fun _ _ => ⟨rfl, e0, (own_nle rfl), (own_nle rfl)⟩)
  dsimp only [Pt.U, Pt.locs, Pt.cells, Pt.slots] at X1 l1 y1 z1 st1 hQ1
  subst l1 y1 z1
  obtain ⟨rfl, N1q, e1⟩ := hQ1
  obtain ⟨Lg1, X1', N1⟩ := own_gen X1 (Fr.app N0 N1q)
  obtain ⟨cq2, kq2, q2a, q2b, q2c⟩ := isOf hZ e1 E_a0
  obtain ⟨_, _, ⟨T2, L2, k2', n2'⟩, -, X2, ⟨Lc2, hQ2, l2, y2, z2⟩, st2⟩ := X1'.virtualBackUp hx (x := ⟨cTC, "find", dG⟩) (y := ⟨cSL, "find", dG⟩) (owner := cSL) hown (mvT hZ (w168 hw)) (mvT hZ (w169 hw)) (mvT hZ (w170 hw)) (by decide) (mvT hZ (w172 hw)) (mvT hZ (w171 hw)) (backOf (W := 0) (rmF l Z az hw [] a0 ht a1 aH aG kH f kG g u xt xu hu r h0 n0 Z0 E_a0 F_held_a0 F_hashesAndCounts_a0 V_aH E_aH V_aG E_aG J_tp hFR) hZ (w173 hw) (w111 hw) (by decide) (by decide)) q2a q2c (g := (mkF m 6 #[vR a0, vR a1, .unset] [(.ref a1), (.int ht), (.ref a0)])) rfl (by rw [hml]; rfl) (Steps.refl _) (argsL := [(.int ht), (.ref a1)]) (rest := []) (lenOf pd_16 rfl) rfl (Nat.le_of_eq rfl) (hb hby d22_6) (fun _ _ => ⟨rfl, e1, (own_nle rfl), (own_nle rfl)⟩)
  dsimp only [Pt.U, Pt.locs, Pt.cells, Pt.slots] at X2 l2 y2 z2 st2 hQ2
  subst l2 y2 z2
  obtain ⟨rfl, N2q, e2⟩ := hQ2
  obtain ⟨Lg2, X2', N2⟩ := own_gen X2 (Fr.app N1 N2q)
  obtain ⟨cq3, kq3, q3a, q3b, q3c⟩ := isOf hZ e2 E_a0
  obtain ⟨_, _, ⟨T3, L3, k3', n3'⟩, -, X3, ⟨Lc3, hQ3, l3, y3, z3⟩, st3⟩ := X2'.virtualBackUp hx (x := ⟨cTC, "countAt", "(I)I"⟩) (y := ⟨cSL, "countAt", "(I)I"⟩) (owner := cSL) hown (mvT hZ (w307 hw)) (mvT hZ (w308 hw)) (mvT hZ (w309 hw)) (by decide) (mvT hZ (w311 hw)) (mvT hZ (w310 hw)) (backOf (W := 0) (rm46 l Z az hw [] a0 r aG kG g w h0 n0 Z0 E_a0 F_hashesAndCounts_a0 V_aG E_aG hc11 hc12 hc13) hZ (w312 hw) (w111 hw) (by decide) (by decide)) q3a q3c (g := (mkF m 20 #[vR a0, vR a1, vI r] [(.int r), (.ref a0)])) rfl (by rw [hml]; rfl) (Steps.refl _) (argsL := [(.int r)]) (rest := []) (lenOf pd_8 rfl) rfl (Nat.le_of_eq rfl) (hb hby d22_20) (fun _ _ => ⟨rfl, e2, (own_nle rfl), (own_nle rfl)⟩)
  dsimp only [Pt.U, Pt.locs, Pt.cells, Pt.slots] at X3 l3 y3 z3 st3 hQ3
  subst l3 y3 z3
  obtain ⟨rfl, N3q, e3⟩ := hQ3
  obtain ⟨Lg3, X3', N3⟩ := own_gen X3 (Fr.app N2 N3q)
  obtain ⟨fs, hr, hrun, hended, hW, hsame⟩ := X3'.leave (v := some (.int (w.toInt32))) (fun h => by rw [Bd.returns] at h; cases h) Bd.notSynchronized
  refine ⟨_, _, pre0 _ ?_, hrun, hended, _, _, rfl, ?_, ⟨_, rfl⟩, hW, hsame.mono (by decide) (by decide)⟩
  · show SP p e below s₁ (mkF m 0 #[vR a0, vR a1, .unset] []) _
    refine XS.aloadN X0.here hx rfl (hb hby d22_0) rfl rfl ?_
    refine XS.aloadN X0.here hx rfl (hb hby d22_1) rfl rfl ?_
    show SP p e below s₁ (mkF m 2 #[vR a0, vR a1, .unset] [(.ref a1), (.ref a0)]) _
    refine st1.trans ?_
    show SP p e below T1 (mkF m 5 #[vR a0, vR a1, .unset] [(.int ht), (.ref a0)]) _
    refine XS.aloadN X1'.here hx rfl (hb hby d22_5) rfl rfl ?_
    show SP p e below T1 (mkF m 6 #[vR a0, vR a1, .unset] [(.ref a1), (.int ht), (.ref a0)]) _
    refine st2.trans ?_
    show SP p e below T2 (mkF m 9 #[vR a0, vR a1, .unset] [(.int r)]) _
    refine XS.istoreN X2'.here hx rfl (hb hby d22_9) rfl (l' := #[vR a0, vR a1, vI r]) rfl ?_
    refine XS.iloadN X2'.here hx rfl (hb hby d22_10) rfl ?_
    refine XS.ifYes X2'.here hx rfl (pc0 := 11) (pc' := 18) rfl (hb hby d22_11) rfl ((if0 _ _).trans (flt hc11).2.1) (by decide) (by decide) ?_
    refine XS.aloadN X2'.here hx rfl (hb hby d22_18) rfl rfl ?_
    refine XS.iloadN X2'.here hx rfl (hb hby d22_19) rfl ?_
    show SP p e below T2 (mkF m 20 #[vR a0, vR a1, vI r] [(.int r), (.ref a0)]) _
    refine st3.trans ?_
    show SP p e below T3 (mkF m 23 #[vR a0, vR a1, vI r] [(.int (w.toInt32))]) _
    exact retI X3' hx Bd.returns (hb hby d22_23) hr
  · show Q22Y Z a0 a1 aH aG kH f kG g ht u xt xu hu r w h0 n0 _ T3.heap _
    rw [e3]
    exact ⟨rfl, N3, rfl⟩
theorem d36_0 : dc kB27 0 (.aload_n 0) 1 := by decide +kernel
theorem d36_1 : dc kB27 1 (.getfield 17) 3 := by decide +kernel
theorem d36_4 : dc kB27 4 (.aload_n 0) 1 := by decide +kernel
theorem d36_5 : dc kB27 5 (.getfield 9) 3 := by decide +kernel
theorem d36_8 : dc kB27 8 .arraylength 1 := by decide +kernel
theorem d36_9 : dc kB27 9 (.iconst 1) 1 := by decide +kernel
theorem d36_10 : dc kB27 10 .isub 1 := by decide +kernel
theorem d36_11 : dc kB27 11 (.if_icmp .ne 13) 3 := by decide +kernel
theorem d36_24 : dc kB27 24 (.iconst (-1)) 1 := by decide +kernel
theorem d36_25 : dc kB27 25 (.iload_n 1) 1 := by decide +kernel
theorem d36_26 : dc kB27 26 .isub 1 := by decide +kernel
theorem d36_27 : dc kB27 27 (.istore 5) 2 := by decide +kernel
theorem d36_29 : dc kB27 29 (.aload_n 0) 1 := by decide +kernel
theorem d36_30 : dc kB27 30 (.getfield 9) 3 := by decide +kernel
theorem d36_33 : dc kB27 33 (.iload 5) 2 := by decide +kernel
theorem d36_35 : dc kB27 35 (.aload_n 2) 1 := by decide +kernel
theorem d36_36 : dc kB27 36 .aastore 1 := by decide +kernel
theorem d36_37 : dc kB27 37 (.aload_n 0) 1 := by decide +kernel
theorem d36_38 : dc kB27 38 (.getfield 13) 3 := by decide +kernel
theorem d36_41 : dc kB27 41 (.iload 5) 2 := by decide +kernel
theorem d36_43 : dc kB27 43 (.iload_n 3) 1 := by decide +kernel
theorem d36_44 : dc kB27 44 (.iload 4) 2 := by decide +kernel
theorem d36_46 : dc kB27 46 (.invokestatic 51) 3 := by decide +kernel
theorem d36_49 : dc kB27 49 .lastore 1 := by decide +kernel
theorem d36_50 : dc kB27 50 (.aload_n 0) 1 := by decide +kernel
theorem d36_51 : dc kB27 51 .dup 1 := by decide +kernel
theorem d36_52 : dc kB27 52 (.getfield 17) 3 := by decide +kernel
theorem d36_55 : dc kB27 55 (.iconst 1) 1 := by decide +kernel
theorem d36_56 : dc kB27 56 .iadd 1 := by decide +kernel
theorem d36_57 : dc kB27 57 (.putfield 17) 3 := by decide +kernel
theorem d36_60 : dc kB27 60 (.aload_n 0) 1 := by decide +kernel
theorem d36_61 : dc kB27 61 (.getfield 17) 3 := by decide +kernel
theorem d36_64 : dc kB27 64 (.aload_n 0) 1 := by decide +kernel
theorem d36_65 : dc kB27 65 (.getfield 9) 3 := by decide +kernel
theorem sl_31 {Z : State} {az : Array Value} (hw : HW Z az) : Jvm.RoadKit.slotOf Z cSL "held" cOA ≠ Jvm.RoadKit.slotOf Z cSL "size" "I" := slot_ne (Z := Z) (Or.inl (w116 hw)) (Or.inl (w234 hw)) (by decide) (t := (.array (.object "java/lang/Object"))) (t' := .int) (by decide) (by decide)
theorem d36_68 : dc kB27 68 .arraylength 1 := by decide +kernel
theorem d36_69 : dc kB27 69 (.iconst 4) 1 := by decide +kernel
theorem d36_70 : dc kB27 70 .idiv 1 := by decide +kernel
theorem d36_71 : dc kB27 71 (.iconst 3) 1 := by decide +kernel
theorem d36_72 : dc kB27 72 .imul 1 := by decide +kernel
theorem d36_73 : dc kB27 73 (.if_icmp .lt 24) 3 := by decide +kernel
theorem d36_97 : dc kB27 97 .return_ 1 := by decide +kernel
theorem sl_32 {Z : State} {az : Array Value} (hw : HW Z az) : Jvm.RoadKit.slotOf Z cSL "hashesAndCounts" "[J" ≠ Jvm.RoadKit.slotOf Z cSL "size" "I" := slot_ne (Z := Z) (Or.inl (w119 hw)) (Or.inl (w234 hw)) (by decide) (t := (.array .long)) (t' := .int) (by decide) (by decide)
theorem ef_rm36 (m : MethodId) (a0 : Addr) (p1 : Int32) (a2 : Addr) (p3 p4 : Int32) : entryFrame m #[(.ref a0), (.int p1), (.ref a2), (.int p3), (.int p4)] 6 = mkF m 0 #[vR a0, vI p1, vR a2, vI p3, vI p4, .unset] [] := by first | (simp [entryFrame, mkF, argsToLocals, Value.category]; done) | rfl
def Q36 (Z : State) (a0 : Addr) (p1 : Int32) (a2 : Addr) (p3 p4 : Int32) (aH aG : Addr) (sz : Int32) (kH : ClassId) (f : Nat → Value) (kG : ClassId) (g : Nat → Value) (h0 : Heap) (n0 : Nat) (v : Option Value) (h : Heap) (L : List Loc) : Prop := v = none ∧ Fr n0 L ∧ Keep h0 h [aH, aG, a0] ∧ own_Arf Z h aH kH (.object "java/lang/Object") (4 : Int32) (own_upd f (((-1 : Int32) - p1)).toNatClampNeg (.ref a2)) ∧ Exa Z h aH cOA ∧ own_Arf Z h aG kG .long (4 : Int32) (own_upd g (((-1 : Int32) - p1)).toNatClampNeg (.long (own_hc p3 p4))) ∧ Exa Z h aG "[J" ∧ Exa Z h a0 cTC ∧ Fld Z h a0 cSL "held" cOA (.ref aH) ∧ Fld Z h a0 cSL "hashesAndCounts" "[J" (.ref aG) ∧ Fld Z h a0 cSL "size" "I" (.int (sz + (1 : Int32)))
theorem rm36 (l : Launch) (Z : State) (az : Array Value) (hw : HW Z az) (ws : List Jvm.Cond) (a0 : Addr) (p1 : Int32) (a2 : Addr) (p3 p4 : Int32) (aH aG : Addr) (sz : Int32) (kH : ClassId) (f : Nat → Value) (kG : ClassId) (g : Nat → Value) (h0 : Heap) (n0 : Nat) (Z0 : n0 ≤ h0.size) (E_a0 : Exa Z h0 a0 cTC) (F_held_a0 : Fld Z h0 a0 cSL "held" cOA (.ref aH)) (F_hashesAndCounts_a0 : Fld Z h0 a0 cSL "hashesAndCounts" "[J" (.ref aG)) (F_size_a0 : Fld Z h0 a0 cSL "size" "I" (.int sz)) (V_aH : own_Arf Z h0 aH kH (.object "java/lang/Object") (4 : Int32) f) (E_aH : Exa Z h0 aH cOA) (O_kH : Ovr Z kH "java/lang/Object") (V_aG : own_Arf Z h0 aG kG .long (4 : Int32) g) (E_aG : Exa Z h0 aG "[J") (E_a2 : Exa Z h0 a2 cTU) (hc10 : ¬ (sz = (3 : Int32))) (hc11 : ¬ (((-1 : Int32) - p1) < (0 : Int32))) (hc12 : ((-1 : Int32) - p1) < (4 : Int32)) (g_aH : n0 ≤ aH) (g_aG : n0 ≤ aG) (g_a0 : n0 ≤ a0) (hc16 : (sz + (1 : Int32)) < (3 : Int32)) :
    MF l Z h0 ws ⟨cSL, "insert", "(ILjava/lang/Object;II)V"⟩ kB27 6 none ⟨1, 0, 0, 15⟩ #[(.ref a0), (.int p1), (.ref a2), (.int p3), (.int p4)] (Q36 Z a0 p1 a2 p3 p4 aH aG sz kH f kG g h0 n0) := by
  refine own_body cSL n0 rfl (plainFor_of_name pn_com_example_reteweave_reteweave_network_SlotTable) (fun m => ef_rm36 m a0 p1 a2 p3 p4) ?_
  intro p e s m below meth c s₁ Bd hx hby hml hown hZ X0 e0 N0 pre0
  obtain ⟨T1, X1, e1, st1⟩ := getF X0 hx hZ hown (host := "") (Or.inl (w233 hw)) Via.refl e0 F_size_a0 (g := (mkF m 1 #[vR a0, vI p1, vR a2, vI p3, vI p4, .unset] [(.ref a0)])) rfl rfl (hb hby d36_1)
  obtain ⟨T2, X2, e2, st2⟩ := getF X1 hx hZ hown (host := "") (Or.inl (w115 hw)) Via.refl e1 F_held_a0 (g := (mkF m 5 #[vR a0, vI p1, vR a2, vI p3, vI p4, .unset] [(.ref a0), (.int sz)])) rfl rfl (hb hby d36_5)
  obtain ⟨cl3, Ar3, qk3, Sz3, Ng3, Hs3, Gf3⟩ := id V_aH
  obtain ⟨T4, X4, e4, st4⟩ := getF X2 hx hZ hown (host := "") (Or.inl (w115 hw)) Via.refl e2 F_held_a0 (g := (mkF m 30 #[vR a0, vI p1, vR a2, vI p3, vI p4, vI ((-1 : Int32) - p1)] [(.ref a0)])) rfl rfl (hb hby d36_30)
  have hin5 : ¬ (((-1 : Int32) - p1) < 0 ∨ cl3.slots.size ≤ (((-1 : Int32) - p1)).toNatClampNeg) := inb_of Sz3 ⟨hc11, hc12⟩
  obtain ⟨T6, h6, X6, e6, W6, st6⟩ := stR X4 hx hZ e4 Ar3 (j := ((-1 : Int32) - p1)) hin5 rfl (Sto.ofV Ar3 qk3 O_kH (Ins.of_exa E_a2 (w252 hw))) (g := (mkF m 36 #[vR a0, vI p1, vR a2, vI p3, vI p4, vI ((-1 : Int32) - p1)] [(.ref a2), (.int ((-1 : Int32) - p1)), (.ref aH)])) rfl rfl (hb hby d36_36)
  have K6 : Keep h0 h6 [aH, aG, a0] := (Keep.refl h0 [aH, aG, a0]).wr W6 (Or.inl (mg 0 rfl))
  have V_aH_6 : own_Arf Z h6 aH kH (.object "java/lang/Object") (4 : Int32) (own_upd f (((-1 : Int32) - p1)).toNatClampNeg (.ref a2)) := own_Arf.set (v := (.ref a2)) Ar3 qk3 Sz3 Ng3 Hs3 Gf3 rfl W6
  have Z6 : n0 ≤ h6.size := Nat.le_trans Z0 (Keep.of_wr W6).1
  obtain ⟨Lg6, X6', N6⟩ := own_gen X6 (Fr.snoc X6 N0 g_aH)
  have ne_a0_aH : a0 ≠ aH := ne_exa E_a0 E_aH (by decide)
  have F_a0_hashesAndCounts_u7 : Fld Z h6 a0 cSL "hashesAndCounts" "[J" (.ref aG) := (F_hashesAndCounts_a0.other W6 (Or.inl ne_a0_aH))
  obtain ⟨T8, X8, e8, st8⟩ := getF X6' hx hZ hown (host := "") (Or.inl (w118 hw)) Via.refl e6 F_a0_hashesAndCounts_u7 (g := (mkF m 38 #[vR a0, vI p1, vR a2, vI p3, vI p4, vI ((-1 : Int32) - p1)] [(.ref a0)])) rfl rfl (hb hby d36_38)
  obtain ⟨_, _, ⟨T9, L9, k9', n9'⟩, -, X9, ⟨Lc9, hQ9, l9, y9, z9⟩, st9⟩ := Jvm.LawKit.callS X8 hx (y := ⟨cSL, "hashAndCount", "(II)J"⟩) hown (mvT hZ (w253 hw)) (mvT hZ (w254 hw)) (mvT hZ (w111 hw)) (mvT hZ (w255 hw)) (by decide) (backOf (W := 2) (rm37 l Z az hw [] p3 p4 h6 n0 Z6) hZ (w255 hw) (w111 hw) (by decide) (by decide)) (g := (mkF m 46 #[vR a0, vI p1, vR a2, vI p3, vI p4, vI ((-1 : Int32) - p1)] [(.int p4), (.int p3), (.int ((-1 : Int32) - p1)), (.ref aG)])) rfl (by rw [hml]; rfl) (argsL := [(.int p3), (.int p4)]) (rest := [(.int ((-1 : Int32) - p1)), (.ref aG)]) (lenOf pd_9 rfl) rfl (Nat.le_of_eq rfl) (hb hby d36_46) (fun _ _ => ⟨rfl, e8, (own_nle rfl), (own_nle rfl)⟩)
  dsimp only [Pt.U, Pt.locs, Pt.cells, Pt.slots] at X9 l9 y9 z9 st9 hQ9
  subst l9 y9 z9
  obtain ⟨rfl, N9q, e9⟩ := hQ9
  obtain ⟨Lg9, X9', N9⟩ := own_gen X9 (Fr.app N6 N9q)
  have ne_aG_aH : aG ≠ aH := ne_exa E_aG E_aH (by decide)
  have V_aG_u10 : own_Arf Z h6 aG kG .long (4 : Int32) g := (V_aG.other W6 ne_aG_aH)
  obtain ⟨cl11, Ar11, qk11, Sz11, Ng11, Hs11, Gf11⟩ := id V_aG_u10
  have hin12 : ¬ (((-1 : Int32) - p1) < 0 ∨ cl11.slots.size ≤ (((-1 : Int32) - p1)).toNatClampNeg) := inb_of Sz11 ⟨hc11, hc12⟩
  obtain ⟨T13, h13, X13, e13, W13, st13⟩ := stJ X9' hx hZ e9 Ar11 (j := ((-1 : Int32) - p1)) hin12 (g := (mkF m 49 #[vR a0, vI p1, vR a2, vI p3, vI p4, vI ((-1 : Int32) - p1)] [(.long (own_hc p3 p4)), (.int ((-1 : Int32) - p1)), (.ref aG)])) rfl rfl (hb hby d36_49)
  have K13 : Keep h0 h13 [aH, aG, a0] := K6.wr W13 (Or.inl (mg 1 rfl))
  have V_aG_13 : own_Arf Z h13 aG kG .long (4 : Int32) (own_upd g (((-1 : Int32) - p1)).toNatClampNeg (.long (own_hc p3 p4))) := own_Arf.set (v := (.long (own_hc p3 p4))) Ar11 qk11 Sz11 Ng11 Hs11 Gf11 rfl W13
  have Z13 : n0 ≤ h13.size := Nat.le_trans Z6 (Keep.of_wr W13).1
  obtain ⟨Lg13, X13', N13⟩ := own_gen X13 (Fr.snoc X13 N9 g_aG)
  have ne_a0_aG : a0 ≠ aG := ne_exa E_a0 E_aG (by decide)
  have F_a0_size_u14 : Fld Z h13 a0 cSL "size" "I" (.int sz) := ((F_size_a0.other W6 (Or.inl ne_a0_aH)).other W13 (Or.inl ne_a0_aG))
  obtain ⟨T15, X15, e15, st15⟩ := getF X13' hx hZ hown (host := "") (Or.inl (w233 hw)) Via.refl e13 F_a0_size_u14 (g := (mkF m 52 #[vR a0, vI p1, vR a2, vI p3, vI p4, vI ((-1 : Int32) - p1)] [(.ref a0), (.ref a0)])) rfl rfl (hb hby d36_52)
  have E_a0_u16 : Exa Z h13 a0 cTC := ((E_a0.wr W6).wr W13)
  obtain ⟨T17, h17, X17, e17, W17, st17⟩ := putF X15 hx hZ hown (host := "") (Or.inl (w233 hw)) Via.refl e15 F_a0_size_u14 E_a0_u16 (Or.inl (w234 hw)) (w103 hw) (ty := .int) (by decide) rfl rfl (g := (mkF m 57 #[vR a0, vI p1, vR a2, vI p3, vI p4, vI ((-1 : Int32) - p1)] [(.int (sz + (1 : Int32))), (.ref a0)])) rfl rfl (hb hby d36_57)
  have K17 : Keep h0 h17 [aH, aG, a0] := K13.wr W17 (Or.inl (mg 2 rfl))
  have Fw17 := F_a0_size_u14.same W17
  have Z17 : n0 ≤ h17.size := Nat.le_trans Z13 (Keep.of_wr W17).1
  obtain ⟨Lg17, X17', N17⟩ := own_gen X17 (Fr.snoc X17 N13 g_a0)
  obtain ⟨T18, X18, e18, st18⟩ := getF X17' hx hZ hown (host := "") (Or.inl (w233 hw)) Via.refl e17 Fw17 (g := (mkF m 61 #[vR a0, vI p1, vR a2, vI p3, vI p4, vI ((-1 : Int32) - p1)] [(.ref a0)])) rfl rfl (hb hby d36_61)
  have F_a0_held_u19 : Fld Z h17 a0 cSL "held" cOA (.ref aH) := (((F_held_a0.other W6 (Or.inl ne_a0_aH)).other W13 (Or.inl ne_a0_aG)).other W17 (Or.inr (sl_31 hw)))
  obtain ⟨T20, X20, e20, st20⟩ := getF X18 hx hZ hown (host := "") (Or.inl (w115 hw)) Via.refl e18 F_a0_held_u19 (g := (mkF m 65 #[vR a0, vI p1, vR a2, vI p3, vI p4, vI ((-1 : Int32) - p1)] [(.ref a0), (.int (sz + (1 : Int32)))])) rfl rfl (hb hby d36_65)
  have ne_aH_aG : aH ≠ aG := ne_exa E_aH E_aG (by decide)
  have ne_aH_a0 : aH ≠ a0 := ne_exa E_aH E_a0 (by decide)
  have V_aH_u21 : own_Arf Z h17 aH kH (.object "java/lang/Object") (4 : Int32) (own_upd f (((-1 : Int32) - p1)).toNatClampNeg (.ref a2)) := ((V_aH_6.other W13 ne_aH_aG).other W17 ne_aH_a0)
  obtain ⟨cl22, Ar22, qk22, Sz22, Ng22, Hs22, Gf22⟩ := id V_aH_u21
  have E_aH_u23 : Exa Z h17 aH cOA := (((E_aH.wr W6).wr W13).wr W17)
  have ne_aG_a0 : aG ≠ a0 := ne_exa E_aG E_a0 (by decide)
  have V_aG_u24 : own_Arf Z h17 aG kG .long (4 : Int32) (own_upd g (((-1 : Int32) - p1)).toNatClampNeg (.long (own_hc p3 p4))) := (V_aG_13.other W17 ne_aG_a0)
  have E_aG_u25 : Exa Z h17 aG "[J" := (((E_aG.wr W6).wr W13).wr W17)
  have E_a0_u26 : Exa Z h17 a0 cTC := (E_a0_u16.wr W17)
  have F_a0_hashesAndCounts_u27 : Fld Z h17 a0 cSL "hashesAndCounts" "[J" (.ref aG) := ((F_a0_hashesAndCounts_u7.other W13 (Or.inl ne_a0_aG)).other W17 (Or.inr (sl_32 hw)))
  obtain ⟨fs, hr, hrun, hended, hW, hsame⟩ := X20.leave (v := none) (fun _ => rfl) Bd.notSynchronized
  refine ⟨_, _, pre0 _ ?_, hrun, hended, _, _, rfl, ?_, ⟨_, rfl⟩, hW, hsame.mono (by decide) (by decide)⟩
  · show SP p e below s₁ (mkF m 0 #[vR a0, vI p1, vR a2, vI p3, vI p4, .unset] []) _
    refine XS.aloadN X0.here hx rfl (hb hby d36_0) rfl rfl ?_
    show SP p e below s₁ (mkF m 1 #[vR a0, vI p1, vR a2, vI p3, vI p4, .unset] [(.ref a0)]) _
    refine st1 _ ?_
    show SP p e below T1 (mkF m 4 #[vR a0, vI p1, vR a2, vI p3, vI p4, .unset] [(.int sz)]) _
    refine XS.aloadN X1.here hx rfl (hb hby d36_4) rfl rfl ?_
    show SP p e below T1 (mkF m 5 #[vR a0, vI p1, vR a2, vI p3, vI p4, .unset] [(.ref a0), (.int sz)]) _
    refine st2 _ ?_
    show SP p e below T2 (mkF m 8 #[vR a0, vI p1, vR a2, vI p3, vI p4, .unset] [(.ref aH), (.int sz)]) _
    refine X2.arraylength hx (by rw [e2]; exact Ar3.1) (State.isArrayOf_alike hZ.alike Ar3.2.1) (g := (mkF m 8 #[vR a0, vI p1, vR a2, vI p3, vI p4, .unset] [(.ref aH), (.int sz)])) rfl rfl (hb hby d36_8) _ ?_
    rw [len_of Sz3 Ng3]
    show SP p e below T2 (mkF m 9 #[vR a0, vI p1, vR a2, vI p3, vI p4, .unset] [(.int (4 : Int32)), (.int sz)]) _
    refine XS.iconst X2.here hx rfl (hb hby d36_9) ?_
    refine XS.isub X2.here hx rfl (hb hby d36_10) rfl ?_
    refine XS.icmpYes X2.here hx rfl (pc0 := 11) (pc' := 24) rfl (hb hby d36_11) rfl (feq hc10).2 (by decide) (by decide) ?_
    refine XS.iconst X2.here hx rfl (hb hby d36_24) ?_
    refine XS.iloadN X2.here hx rfl (hb hby d36_25) rfl ?_
    refine XS.isub X2.here hx rfl (hb hby d36_26) rfl ?_
    refine XS.istore X2.here hx rfl (hb hby d36_27) rfl (l' := #[vR a0, vI p1, vR a2, vI p3, vI p4, vI ((-1 : Int32) - p1)]) rfl ?_
    refine XS.aloadN X2.here hx rfl (hb hby d36_29) rfl rfl ?_
    show SP p e below T2 (mkF m 30 #[vR a0, vI p1, vR a2, vI p3, vI p4, vI ((-1 : Int32) - p1)] [(.ref a0)]) _
    refine st4 _ ?_
    show SP p e below T4 (mkF m 33 #[vR a0, vI p1, vR a2, vI p3, vI p4, vI ((-1 : Int32) - p1)] [(.ref aH)]) _
    refine XS.iload X4.here hx rfl (hb hby d36_33) rfl ?_
    refine XS.aloadN X4.here hx rfl (hb hby d36_35) rfl rfl ?_
    show SP p e below T4 (mkF m 36 #[vR a0, vI p1, vR a2, vI p3, vI p4, vI ((-1 : Int32) - p1)] [(.ref a2), (.int ((-1 : Int32) - p1)), (.ref aH)]) _
    refine st6 _ ?_
    show SP p e below T6 (mkF m 37 #[vR a0, vI p1, vR a2, vI p3, vI p4, vI ((-1 : Int32) - p1)] []) _
    refine XS.aloadN X6'.here hx rfl (hb hby d36_37) rfl rfl ?_
    show SP p e below T6 (mkF m 38 #[vR a0, vI p1, vR a2, vI p3, vI p4, vI ((-1 : Int32) - p1)] [(.ref a0)]) _
    refine st8 _ ?_
    show SP p e below T8 (mkF m 41 #[vR a0, vI p1, vR a2, vI p3, vI p4, vI ((-1 : Int32) - p1)] [(.ref aG)]) _
    refine XS.iload X8.here hx rfl (hb hby d36_41) rfl ?_
    refine XS.iloadN X8.here hx rfl (hb hby d36_43) rfl ?_
    refine XS.iload X8.here hx rfl (hb hby d36_44) rfl ?_
    show SP p e below T8 (mkF m 46 #[vR a0, vI p1, vR a2, vI p3, vI p4, vI ((-1 : Int32) - p1)] [(.int p4), (.int p3), (.int ((-1 : Int32) - p1)), (.ref aG)]) _
    refine st9 _ ?_
    show SP p e below T9 (mkF m 49 #[vR a0, vI p1, vR a2, vI p3, vI p4, vI ((-1 : Int32) - p1)] [(.long (own_hc p3 p4)), (.int ((-1 : Int32) - p1)), (.ref aG)]) _
    refine st13 _ ?_
    show SP p e below T13 (mkF m 50 #[vR a0, vI p1, vR a2, vI p3, vI p4, vI ((-1 : Int32) - p1)] []) _
    refine XS.aloadN X13'.here hx rfl (hb hby d36_50) rfl rfl ?_
    refine XS.dup X13'.here hx rfl (hb hby d36_51) rfl rfl ?_
    show SP p e below T13 (mkF m 52 #[vR a0, vI p1, vR a2, vI p3, vI p4, vI ((-1 : Int32) - p1)] [(.ref a0), (.ref a0)]) _
    refine st15 _ ?_
    show SP p e below T15 (mkF m 55 #[vR a0, vI p1, vR a2, vI p3, vI p4, vI ((-1 : Int32) - p1)] [(.int sz), (.ref a0)]) _
    refine XS.iconst X15.here hx rfl (hb hby d36_55) ?_
    refine XS.iadd X15.here hx rfl (hb hby d36_56) rfl ?_
    show SP p e below T15 (mkF m 57 #[vR a0, vI p1, vR a2, vI p3, vI p4, vI ((-1 : Int32) - p1)] [(.int (sz + (1 : Int32))), (.ref a0)]) _
    refine st17 _ ?_
    show SP p e below T17 (mkF m 60 #[vR a0, vI p1, vR a2, vI p3, vI p4, vI ((-1 : Int32) - p1)] []) _
    refine XS.aloadN X17'.here hx rfl (hb hby d36_60) rfl rfl ?_
    show SP p e below T17 (mkF m 61 #[vR a0, vI p1, vR a2, vI p3, vI p4, vI ((-1 : Int32) - p1)] [(.ref a0)]) _
    refine st18 _ ?_
    show SP p e below T18 (mkF m 64 #[vR a0, vI p1, vR a2, vI p3, vI p4, vI ((-1 : Int32) - p1)] [(.int (sz + (1 : Int32)))]) _
    refine XS.aloadN X18.here hx rfl (hb hby d36_64) rfl rfl ?_
    show SP p e below T18 (mkF m 65 #[vR a0, vI p1, vR a2, vI p3, vI p4, vI ((-1 : Int32) - p1)] [(.ref a0), (.int (sz + (1 : Int32)))]) _
    refine st20 _ ?_
    show SP p e below T20 (mkF m 68 #[vR a0, vI p1, vR a2, vI p3, vI p4, vI ((-1 : Int32) - p1)] [(.ref aH), (.int (sz + (1 : Int32)))]) _
    refine X20.arraylength hx (by rw [e20]; exact Ar22.1) (State.isArrayOf_alike hZ.alike Ar22.2.1) (g := (mkF m 68 #[vR a0, vI p1, vR a2, vI p3, vI p4, vI ((-1 : Int32) - p1)] [(.ref aH), (.int (sz + (1 : Int32)))])) rfl rfl (hb hby d36_68) _ ?_
    rw [len_of Sz22 Ng22]
    show SP p e below T20 (mkF m 69 #[vR a0, vI p1, vR a2, vI p3, vI p4, vI ((-1 : Int32) - p1)] [(.int (4 : Int32)), (.int (sz + (1 : Int32)))]) _
    refine XS.iconst X20.here hx rfl (hb hby d36_69) ?_
    show SP p e below T20 (mkF m 70 #[vR a0, vI p1, vR a2, vI p3, vI p4, vI ((-1 : Int32) - p1)] [(.int (4 : Int32)), (.int (4 : Int32)), (.int (sz + (1 : Int32)))]) _
    refine XS.idiv X20.here hx rfl (hb hby d36_70) rfl (by decide) ?_
    refine XS.iconst X20.here hx rfl (hb hby d36_71) ?_
    refine XS.imul X20.here hx rfl (hb hby d36_72) rfl ?_
    refine XS.icmpYes X20.here hx rfl (pc0 := 73) (pc' := 97) rfl (hb hby d36_73) rfl (tlt hc16).1 (by decide) (by decide) ?_
    show SP p e below T20 (mkF m 97 #[vR a0, vI p1, vR a2, vI p3, vI p4, vI ((-1 : Int32) - p1)] []) _
    exact X20.returnOut hx Bd.returns (hb hby d36_97) hr
  · show Q36 Z a0 p1 a2 p3 p4 aH aG sz kH f kG g h0 n0 _ T20.heap _
    rw [e20]
    exact ⟨rfl, N17, K17, V_aH_u21, E_aH_u23, V_aG_u24, E_aG_u25, E_a0_u26, F_a0_held_u19, F_a0_hashesAndCounts_u27, Fw17⟩
theorem d51_0 : dc kB28 0 (.aload_n 0) 1 := by decide +kernel
theorem d51_1 : dc kB28 1 (.getfield 9) 3 := by decide +kernel
theorem d51_4 : dc kB28 4 .arraylength 1 := by decide +kernel
theorem d51_5 : dc kB28 5 (.iconst 1) 1 := by decide +kernel
theorem d51_6 : dc kB28 6 .isub 1 := by decide +kernel
theorem d51_7 : dc kB28 7 (.istore_n 2) 1 := by decide +kernel
theorem d51_8 : dc kB28 8 (.iload_n 1) 1 := by decide +kernel
theorem d51_9 : dc kB28 9 (.istore_n 3) 1 := by decide +kernel
theorem d51_10 : dc kB28 10 (.iload_n 3) 1 := by decide +kernel
theorem d51_11 : dc kB28 11 (.iconst 1) 1 := by decide +kernel
theorem d51_12 : dc kB28 12 .iadd 1 := by decide +kernel
theorem d51_13 : dc kB28 13 (.iload_n 2) 1 := by decide +kernel
theorem d51_14 : dc kB28 14 .iand 1 := by decide +kernel
theorem d51_15 : dc kB28 15 (.istore 4) 2 := by decide +kernel
theorem d51_17 : dc kB28 17 (.aload_n 0) 1 := by decide +kernel
theorem d51_18 : dc kB28 18 (.getfield 9) 3 := by decide +kernel
theorem d51_21 : dc kB28 21 (.iload 4) 2 := by decide +kernel
theorem d51_23 : dc kB28 23 .aaload 1 := by decide +kernel
theorem d51_24 : dc kB28 24 (.ifnull 75) 3 := by decide +kernel
theorem d51_99 : dc kB28 99 (.aload_n 0) 1 := by decide +kernel
theorem d51_100 : dc kB28 100 (.getfield 9) 3 := by decide +kernel
theorem d51_103 : dc kB28 103 (.iload_n 3) 1 := by decide +kernel
theorem d51_104 : dc kB28 104 .aconst_null 1 := by decide +kernel
theorem d51_105 : dc kB28 105 .aastore 1 := by decide +kernel
theorem d51_106 : dc kB28 106 (.aload_n 0) 1 := by decide +kernel
theorem d51_107 : dc kB28 107 .dup 1 := by decide +kernel
theorem d51_108 : dc kB28 108 (.getfield 17) 3 := by decide +kernel
theorem d51_111 : dc kB28 111 (.iconst 1) 1 := by decide +kernel
theorem d51_112 : dc kB28 112 .isub 1 := by decide +kernel
theorem d51_113 : dc kB28 113 (.putfield 17) 3 := by decide +kernel
theorem d51_116 : dc kB28 116 (.aload_n 0) 1 := by decide +kernel
theorem d51_117 : dc kB28 117 (.getfield 9) 3 := by decide +kernel
theorem d51_120 : dc kB28 120 .arraylength 1 := by decide +kernel
theorem d51_121 : dc kB28 121 (.iconst 4) 1 := by decide +kernel
theorem d51_122 : dc kB28 122 (.if_icmp .le 29) 3 := by decide +kernel
theorem d51_151 : dc kB28 151 .return_ 1 := by decide +kernel
theorem ef_rm510 (m : MethodId) (a0 : Addr) (p1 : Int32) : entryFrame m #[(.ref a0), (.int p1)] 6 = mkF m 0 #[vR a0, vI p1, .unset, .unset, .unset, .unset] [] := by first | (simp [entryFrame, mkF, argsToLocals, Value.category]; done) | rfl
def Q510 (Z : State) (a0 : Addr) (p1 : Int32) (aH aG : Addr) (sz : Int32) (kH : ClassId) (f : Nat → Value) (kG : ClassId) (g : Nat → Value) (h0 : Heap) (n0 : Nat) (v : Option Value) (h : Heap) (L : List Loc) : Prop := v = none ∧ Fr n0 L ∧ Keep h0 h [aH, a0] ∧ own_Arf Z h aH kH (.object "java/lang/Object") (4 : Int32) (own_upd f (p1).toNatClampNeg .null) ∧ Exa Z h aH cOA ∧ Exa Z h a0 cTC ∧ Fld Z h a0 cSL "held" cOA (.ref aH) ∧ Fld Z h a0 cSL "hashesAndCounts" "[J" (.ref aG) ∧ Fld Z h a0 cSL "size" "I" (.int (sz - (1 : Int32)))
theorem rm510 (l : Launch) (Z : State) (az : Array Value) (hw : HW Z az) (ws : List Jvm.Cond) (a0 : Addr) (p1 : Int32) (aH aG : Addr) (sz : Int32) (kH : ClassId) (f : Nat → Value) (kG : ClassId) (g : Nat → Value) (h0 : Heap) (n0 : Nat) (Z0 : n0 ≤ h0.size) (E_a0 : Exa Z h0 a0 cTC) (F_held_a0 : Fld Z h0 a0 cSL "held" cOA (.ref aH)) (F_hashesAndCounts_a0 : Fld Z h0 a0 cSL "hashesAndCounts" "[J" (.ref aG)) (F_size_a0 : Fld Z h0 a0 cSL "size" "I" (.int sz)) (V_aH : own_Arf Z h0 aH kH (.object "java/lang/Object") (4 : Int32) f) (E_aH : Exa Z h0 aH cOA) (O_kH : Ovr Z kH "java/lang/Object") (V_aG : own_Arf Z h0 aG kG .long (4 : Int32) g) (E_aG : Exa Z h0 aG "[J") (hc9 : ¬ ((own_nx p1) < (0 : Int32))) (hc10 : (own_nx p1) < (4 : Int32)) (hc11 : f ((own_nx p1)).toNatClampNeg = .null) (hc12 : ¬ (p1 < (0 : Int32))) (hc13 : p1 < (4 : Int32)) (g_aH : n0 ≤ aH) (g_a0 : n0 ≤ a0) :
    MF l Z h0 ws ⟨cSL, "remove", "(I)V"⟩ kB28 6 none ⟨2, 0, 0, 27⟩ #[(.ref a0), (.int p1)] (Q510 Z a0 p1 aH aG sz kH f kG g h0 n0) := by
  refine own_body cSL n0 rfl (plainFor_of_name pn_com_example_reteweave_reteweave_network_SlotTable) (fun m => ef_rm510 m a0 p1) ?_
  intro p e s m below meth c s₁ Bd hx hby hml hown hZ X0 e0 N0 pre0
  obtain ⟨T1, X1, e1, st1⟩ := getF X0 hx hZ hown (host := "") (Or.inl (w115 hw)) Via.refl e0 F_held_a0 (g := (mkF m 1 #[vR a0, vI p1, .unset, .unset, .unset, .unset] [(.ref a0)])) rfl rfl (hb hby d51_1)
  obtain ⟨cl2, Ar2, qk2, Sz2, Ng2, Hs2, Gf2⟩ := id V_aH
  obtain ⟨T3, X3, e3, st3⟩ := getF X1 hx hZ hown (host := "") (Or.inl (w115 hw)) Via.refl e1 F_held_a0 (g := (mkF m 18 #[vR a0, vI p1, vI (3 : Int32), vI p1, vI (own_nx p1), .unset] [(.ref a0)])) rfl rfl (hb hby d51_18)
  have hin4 : ¬ ((own_nx p1) < 0 ∨ cl2.slots.size ≤ ((own_nx p1)).toNatClampNeg) := inb_of Sz2 ⟨hc9, hc10⟩
  have hat5 : cl2.slots[((own_nx p1)).toNatClampNeg]? = some .null := own_at Hs2 hin4 hc11
  obtain ⟨T6, X6, e6, st6⟩ := getF X3 hx hZ hown (host := "") (Or.inl (w115 hw)) Via.refl e3 F_held_a0 (g := (mkF m 100 #[vR a0, vI p1, vI (3 : Int32), vI p1, vI (own_nx p1), .unset] [(.ref a0)])) rfl rfl (hb hby d51_100)
  have hin7 : ¬ (p1 < 0 ∨ cl2.slots.size ≤ (p1).toNatClampNeg) := inb_of Sz2 ⟨hc12, hc13⟩
  obtain ⟨T8, h8, X8, e8, W8, st8⟩ := stR X6 hx hZ e6 Ar2 (j := p1) hin7 rfl (Or.inl rfl) (g := (mkF m 105 #[vR a0, vI p1, vI (3 : Int32), vI p1, vI (own_nx p1), .unset] [.null, (.int p1), (.ref aH)])) rfl rfl (hb hby d51_105)
  have K8 : Keep h0 h8 [aH, a0] := (Keep.refl h0 [aH, a0]).wr W8 (Or.inl (mg 0 rfl))
  have V_aH_8 : own_Arf Z h8 aH kH (.object "java/lang/Object") (4 : Int32) (own_upd f (p1).toNatClampNeg .null) := own_Arf.set (v := .null) Ar2 qk2 Sz2 Ng2 Hs2 Gf2 rfl W8
  have Z8 : n0 ≤ h8.size := Nat.le_trans Z0 (Keep.of_wr W8).1
  obtain ⟨Lg8, X8', N8⟩ := own_gen X8 (Fr.snoc X8 N0 g_aH)
  have ne_a0_aH : a0 ≠ aH := ne_exa E_a0 E_aH (by decide)
  have F_a0_size_u9 : Fld Z h8 a0 cSL "size" "I" (.int sz) := (F_size_a0.other W8 (Or.inl ne_a0_aH))
  obtain ⟨T10, X10, e10, st10⟩ := getF X8' hx hZ hown (host := "") (Or.inl (w233 hw)) Via.refl e8 F_a0_size_u9 (g := (mkF m 108 #[vR a0, vI p1, vI (3 : Int32), vI p1, vI (own_nx p1), .unset] [(.ref a0), (.ref a0)])) rfl rfl (hb hby d51_108)
  have E_a0_u11 : Exa Z h8 a0 cTC := (E_a0.wr W8)
  obtain ⟨T12, h12, X12, e12, W12, st12⟩ := putF X10 hx hZ hown (host := "") (Or.inl (w233 hw)) Via.refl e10 F_a0_size_u9 E_a0_u11 (Or.inl (w234 hw)) (w103 hw) (ty := .int) (by decide) rfl rfl (g := (mkF m 113 #[vR a0, vI p1, vI (3 : Int32), vI p1, vI (own_nx p1), .unset] [(.int (sz - (1 : Int32))), (.ref a0)])) rfl rfl (hb hby d51_113)
  have K12 : Keep h0 h12 [aH, a0] := K8.wr W12 (Or.inl (mg 1 rfl))
  have Fw12 := F_a0_size_u9.same W12
  have Z12 : n0 ≤ h12.size := Nat.le_trans Z8 (Keep.of_wr W12).1
  obtain ⟨Lg12, X12', N12⟩ := own_gen X12 (Fr.snoc X12 N8 g_a0)
  have F_a0_held_u13 : Fld Z h12 a0 cSL "held" cOA (.ref aH) := ((F_held_a0.other W8 (Or.inl ne_a0_aH)).other W12 (Or.inr (sl_31 hw)))
  obtain ⟨T14, X14, e14, st14⟩ := getF X12' hx hZ hown (host := "") (Or.inl (w115 hw)) Via.refl e12 F_a0_held_u13 (g := (mkF m 117 #[vR a0, vI p1, vI (3 : Int32), vI p1, vI (own_nx p1), .unset] [(.ref a0)])) rfl rfl (hb hby d51_117)
  have ne_aH_a0 : aH ≠ a0 := ne_exa E_aH E_a0 (by decide)
  have V_aH_u15 : own_Arf Z h12 aH kH (.object "java/lang/Object") (4 : Int32) (own_upd f (p1).toNatClampNeg .null) := (V_aH_8.other W12 ne_aH_a0)
  obtain ⟨cl16, Ar16, qk16, Sz16, Ng16, Hs16, Gf16⟩ := id V_aH_u15
  have E_aH_u17 : Exa Z h12 aH cOA := ((E_aH.wr W8).wr W12)
  have E_a0_u18 : Exa Z h12 a0 cTC := (E_a0_u11.wr W12)
  have F_a0_hashesAndCounts_u19 : Fld Z h12 a0 cSL "hashesAndCounts" "[J" (.ref aG) := ((F_hashesAndCounts_a0.other W8 (Or.inl ne_a0_aH)).other W12 (Or.inr (sl_32 hw)))
  obtain ⟨fs, hr, hrun, hended, hW, hsame⟩ := X14.leave (v := none) (fun _ => rfl) Bd.notSynchronized
  refine ⟨_, _, pre0 _ ?_, hrun, hended, _, _, rfl, ?_, ⟨_, rfl⟩, hW, hsame.mono (by decide) (by decide)⟩
  · show SP p e below s₁ (mkF m 0 #[vR a0, vI p1, .unset, .unset, .unset, .unset] []) _
    refine XS.aloadN X0.here hx rfl (hb hby d51_0) rfl rfl ?_
    show SP p e below s₁ (mkF m 1 #[vR a0, vI p1, .unset, .unset, .unset, .unset] [(.ref a0)]) _
    refine st1 _ ?_
    show SP p e below T1 (mkF m 4 #[vR a0, vI p1, .unset, .unset, .unset, .unset] [(.ref aH)]) _
    refine X1.arraylength hx (by rw [e1]; exact Ar2.1) (State.isArrayOf_alike hZ.alike Ar2.2.1) (g := (mkF m 4 #[vR a0, vI p1, .unset, .unset, .unset, .unset] [(.ref aH)])) rfl rfl (hb hby d51_4) _ ?_
    rw [len_of Sz2 Ng2]
    show SP p e below T1 (mkF m 5 #[vR a0, vI p1, .unset, .unset, .unset, .unset] [(.int (4 : Int32))]) _
    refine XS.iconst X1.here hx rfl (hb hby d51_5) ?_
    refine XS.isub X1.here hx rfl (hb hby d51_6) rfl ?_
    refine XS.istoreN X1.here hx rfl (hb hby d51_7) rfl (l' := #[vR a0, vI p1, vI (3 : Int32), .unset, .unset, .unset]) rfl ?_
    refine XS.iloadN X1.here hx rfl (hb hby d51_8) rfl ?_
    refine XS.istoreN X1.here hx rfl (hb hby d51_9) rfl (l' := #[vR a0, vI p1, vI (3 : Int32), vI p1, .unset, .unset]) rfl ?_
    refine XS.iloadN X1.here hx rfl (hb hby d51_10) rfl ?_
    refine XS.iconst X1.here hx rfl (hb hby d51_11) ?_
    refine XS.iadd X1.here hx rfl (hb hby d51_12) rfl ?_
    refine XS.iloadN X1.here hx rfl (hb hby d51_13) rfl ?_
    refine XS.iand X1.here hx rfl (hb hby d51_14) rfl ?_
    show SP p e below T1 (mkF m 15 #[vR a0, vI p1, vI (3 : Int32), vI p1, .unset, .unset] [(.int (own_nx p1))]) _
    refine XS.istore X1.here hx rfl (hb hby d51_15) rfl (l' := #[vR a0, vI p1, vI (3 : Int32), vI p1, vI (own_nx p1), .unset]) rfl ?_
    refine XS.aloadN X1.here hx rfl (hb hby d51_17) rfl rfl ?_
    show SP p e below T1 (mkF m 18 #[vR a0, vI p1, vI (3 : Int32), vI p1, vI (own_nx p1), .unset] [(.ref a0)]) _
    refine st3 _ ?_
    show SP p e below T3 (mkF m 21 #[vR a0, vI p1, vI (3 : Int32), vI p1, vI (own_nx p1), .unset] [(.ref aH)]) _
    refine XS.iload X3.here hx rfl (hb hby d51_21) rfl ?_
    show SP p e below T3 (mkF m 23 #[vR a0, vI p1, vI (3 : Int32), vI p1, vI (own_nx p1), .unset] [(.int (own_nx p1)), (.ref aH)]) _
    refine X3.aaload hx (j := (own_nx p1)) (v := .null) (by rw [e3]; exact Ar2.1) (State.isArrayOf_alike hZ.alike Ar2.2.1) rfl Ar2.2.2 hin4 hat5 (g := (mkF m 23 #[vR a0, vI p1, vI (3 : Int32), vI p1, vI (own_nx p1), .unset] [(.int (own_nx p1)), (.ref aH)])) rfl rfl (hb hby d51_23) _ ?_
    show SP p e below T3 (mkF m 24 #[vR a0, vI p1, vI (3 : Int32), vI p1, vI (own_nx p1), .unset] [.null]) _
    refine XS.ifnullYes X3.here hx rfl (pc0 := 24) (pc' := 99) rfl (hb hby d51_24) rfl (by decide) (by decide) ?_
    refine XS.aloadN X3.here hx rfl (hb hby d51_99) rfl rfl ?_
    show SP p e below T3 (mkF m 100 #[vR a0, vI p1, vI (3 : Int32), vI p1, vI (own_nx p1), .unset] [(.ref a0)]) _
    refine st6 _ ?_
    show SP p e below T6 (mkF m 103 #[vR a0, vI p1, vI (3 : Int32), vI p1, vI (own_nx p1), .unset] [(.ref aH)]) _
    refine XS.iloadN X6.here hx rfl (hb hby d51_103) rfl ?_
    refine XS.aconstNull X6.here hx rfl (hb hby d51_104) ?_
    show SP p e below T6 (mkF m 105 #[vR a0, vI p1, vI (3 : Int32), vI p1, vI (own_nx p1), .unset] [.null, (.int p1), (.ref aH)]) _
    refine st8 _ ?_
    show SP p e below T8 (mkF m 106 #[vR a0, vI p1, vI (3 : Int32), vI p1, vI (own_nx p1), .unset] []) _
    refine XS.aloadN X8'.here hx rfl (hb hby d51_106) rfl rfl ?_
    refine XS.dup X8'.here hx rfl (hb hby d51_107) rfl rfl ?_
    show SP p e below T8 (mkF m 108 #[vR a0, vI p1, vI (3 : Int32), vI p1, vI (own_nx p1), .unset] [(.ref a0), (.ref a0)]) _
    refine st10 _ ?_
    show SP p e below T10 (mkF m 111 #[vR a0, vI p1, vI (3 : Int32), vI p1, vI (own_nx p1), .unset] [(.int sz), (.ref a0)]) _
    refine XS.iconst X10.here hx rfl (hb hby d51_111) ?_
    refine XS.isub X10.here hx rfl (hb hby d51_112) rfl ?_
    show SP p e below T10 (mkF m 113 #[vR a0, vI p1, vI (3 : Int32), vI p1, vI (own_nx p1), .unset] [(.int (sz - (1 : Int32))), (.ref a0)]) _
    refine st12 _ ?_
    show SP p e below T12 (mkF m 116 #[vR a0, vI p1, vI (3 : Int32), vI p1, vI (own_nx p1), .unset] []) _
    refine XS.aloadN X12'.here hx rfl (hb hby d51_116) rfl rfl ?_
    show SP p e below T12 (mkF m 117 #[vR a0, vI p1, vI (3 : Int32), vI p1, vI (own_nx p1), .unset] [(.ref a0)]) _
    refine st14 _ ?_
    show SP p e below T14 (mkF m 120 #[vR a0, vI p1, vI (3 : Int32), vI p1, vI (own_nx p1), .unset] [(.ref aH)]) _
    refine X14.arraylength hx (by rw [e14]; exact Ar16.1) (State.isArrayOf_alike hZ.alike Ar16.2.1) (g := (mkF m 120 #[vR a0, vI p1, vI (3 : Int32), vI p1, vI (own_nx p1), .unset] [(.ref aH)])) rfl rfl (hb hby d51_120) _ ?_
    rw [len_of Sz16 Ng16]
    show SP p e below T14 (mkF m 121 #[vR a0, vI p1, vI (3 : Int32), vI p1, vI (own_nx p1), .unset] [(.int (4 : Int32))]) _
    refine XS.iconst X14.here hx rfl (hb hby d51_121) ?_
    refine XS.icmpYes X14.here hx rfl (pc0 := 122) (pc' := 151) rfl (hb hby d51_122) rfl (flt (by decide : ¬ ((4 : Int32) < (4 : Int32)))).2.2.2 (by decide) (by decide) ?_
    show SP p e below T14 (mkF m 151 #[vR a0, vI p1, vI (3 : Int32), vI p1, vI (own_nx p1), .unset] []) _
    exact X14.returnOut hx Bd.returns (hb hby d51_151) hr
  · show Q510 Z a0 p1 aH aG sz kH f kG g h0 n0 _ T14.heap _
    rw [e14]
    exact ⟨rfl, N12, K12, V_aH_u15, E_aH_u17, E_a0_u18, F_a0_held_u13, F_a0_hashesAndCounts_u19, Fw12⟩
theorem d51_27 : dc kB28 27 (.aload_n 0) 1 := by decide +kernel
theorem d51_28 : dc kB28 28 (.iload 4) 2 := by decide +kernel
theorem d51_30 : dc kB28 30 (.invokevirtual 37) 3 := by decide +kernel
theorem d51_33 : dc kB28 33 (.aload_n 0) 1 := by decide +kernel
theorem d51_34 : dc kB28 34 (.getfield 9) 3 := by decide +kernel
theorem d51_37 : dc kB28 37 .arraylength 1 := by decide +kernel
theorem d51_38 : dc kB28 38 (.invokestatic 33) 3 := by decide +kernel
theorem d51_41 : dc kB28 41 (.istore 5) 2 := by decide +kernel
theorem d51_43 : dc kB28 43 (.iload 4) 2 := by decide +kernel
theorem d51_45 : dc kB28 45 (.iload 5) 2 := by decide +kernel
theorem d51_47 : dc kB28 47 .isub 1 := by decide +kernel
theorem d51_48 : dc kB28 48 (.iload_n 2) 1 := by decide +kernel
theorem d51_49 : dc kB28 49 .iand 1 := by decide +kernel
theorem d51_50 : dc kB28 50 (.iload 4) 2 := by decide +kernel
theorem d51_52 : dc kB28 52 (.iload_n 3) 1 := by decide +kernel
theorem d51_53 : dc kB28 53 .isub 1 := by decide +kernel
theorem d51_54 : dc kB28 54 (.iload_n 2) 1 := by decide +kernel
theorem d51_55 : dc kB28 55 .iand 1 := by decide +kernel
theorem d51_56 : dc kB28 56 (.if_icmp .lt 32) 3 := by decide +kernel
theorem d51_88 : dc kB28 88 (.iload 4) 2 := by decide +kernel
theorem d51_90 : dc kB28 90 (.iconst 1) 1 := by decide +kernel
theorem d51_91 : dc kB28 91 .iadd 1 := by decide +kernel
theorem d51_92 : dc kB28 92 (.iload_n 2) 1 := by decide +kernel
theorem d51_93 : dc kB28 93 .iand 1 := by decide +kernel
theorem d51_94 : dc kB28 94 (.istore 4) 2 := by decide +kernel
theorem d51_96 : dc kB28 96 (.goto (-79)) 3 := by decide +kernel
theorem ef_rm511 (m : MethodId) (a0 : Addr) (p1 : Int32) : entryFrame m #[(.ref a0), (.int p1)] 6 = mkF m 0 #[vR a0, vI p1, .unset, .unset, .unset, .unset] [] := by first | (simp [entryFrame, mkF, argsToLocals, Value.category]; done) | rfl
def Q511 (Z : State) (a0 : Addr) (p1 : Int32) (aH aG : Addr) (sz : Int32) (kH : ClassId) (f : Nat → Value) (kG : ClassId) (g : Nat → Value) (o : Addr) (w : Int64) (h0 : Heap) (n0 : Nat) (v : Option Value) (h : Heap) (L : List Loc) : Prop := v = none ∧ Fr n0 L ∧ Keep h0 h [aH, a0] ∧ own_Arf Z h aH kH (.object "java/lang/Object") (4 : Int32) (own_upd f (p1).toNatClampNeg .null) ∧ Exa Z h aH cOA ∧ Exa Z h a0 cTC ∧ Fld Z h a0 cSL "held" cOA (.ref aH) ∧ Fld Z h a0 cSL "hashesAndCounts" "[J" (.ref aG) ∧ Fld Z h a0 cSL "size" "I" (.int (sz - (1 : Int32)))
theorem rm511 (l : Launch) (Z : State) (az : Array Value) (hw : HW Z az) (ws : List Jvm.Cond) (a0 : Addr) (p1 : Int32) (aH aG : Addr) (sz : Int32) (kH : ClassId) (f : Nat → Value) (kG : ClassId) (g : Nat → Value) (o : Addr) (w : Int64) (h0 : Heap) (n0 : Nat) (Z0 : n0 ≤ h0.size) (E_a0 : Exa Z h0 a0 cTC) (F_held_a0 : Fld Z h0 a0 cSL "held" cOA (.ref aH)) (F_hashesAndCounts_a0 : Fld Z h0 a0 cSL "hashesAndCounts" "[J" (.ref aG)) (F_size_a0 : Fld Z h0 a0 cSL "size" "I" (.int sz)) (V_aH : own_Arf Z h0 aH kH (.object "java/lang/Object") (4 : Int32) f) (E_aH : Exa Z h0 aH cOA) (O_kH : Ovr Z kH "java/lang/Object") (V_aG : own_Arf Z h0 aG kG .long (4 : Int32) g) (E_aG : Exa Z h0 aG "[J") (E_o : Exa Z h0 o cTU) (hc10 : ¬ ((own_nx p1) < (0 : Int32))) (hc11 : (own_nx p1) < (4 : Int32)) (hc12 : f ((own_nx p1)).toNatClampNeg = (.ref o)) (hc13 : g ((own_nx p1)).toNatClampNeg = (.long w)) (hc14 : (((own_nx p1) - (own_home (own_hh w))) &&& (3 : Int32)) < (((own_nx p1) - p1) &&& (3 : Int32))) (hc15 : ¬ ((own_nx (own_nx p1)) < (0 : Int32))) (hc16 : (own_nx (own_nx p1)) < (4 : Int32)) (hc17 : f ((own_nx (own_nx p1))).toNatClampNeg = .null) (hc18 : ¬ (p1 < (0 : Int32))) (hc19 : p1 < (4 : Int32)) (g_aH : n0 ≤ aH) (g_a0 : n0 ≤ a0) :
    MF l Z h0 ws ⟨cSL, "remove", "(I)V"⟩ kB28 6 none ⟨2, 0, 0, 27⟩ #[(.ref a0), (.int p1)] (Q511 Z a0 p1 aH aG sz kH f kG g o w h0 n0) := by
  refine own_body cSL n0 rfl (plainFor_of_name pn_com_example_reteweave_reteweave_network_SlotTable) (fun m => ef_rm511 m a0 p1) ?_
  intro p e s m below meth c s₁ Bd hx hby hml hown hZ X0 e0 N0 pre0
  obtain ⟨T1, X1, e1, st1⟩ := getF X0 hx hZ hown (host := "") (Or.inl (w115 hw)) Via.refl e0 F_held_a0 (g := (mkF m 1 #[vR a0, vI p1, .unset, .unset, .unset, .unset] [(.ref a0)])) rfl rfl (hb hby d51_1)
  obtain ⟨cl2, Ar2, qk2, Sz2, Ng2, Hs2, Gf2⟩ := id V_aH
  obtain ⟨T3, X3, e3, st3⟩ := getF X1 hx hZ hown (host := "") (Or.inl (w115 hw)) Via.refl e1 F_held_a0 (g := (mkF m 18 #[vR a0, vI p1, vI (3 : Int32), vI p1, vI (own_nx p1), .unset] [(.ref a0)])) rfl rfl (hb hby d51_18)
  have hin4 : ¬ ((own_nx p1) < 0 ∨ cl2.slots.size ≤ ((own_nx p1)).toNatClampNeg) := inb_of Sz2 ⟨hc10, hc11⟩
  have hat5 : cl2.slots[((own_nx p1)).toNatClampNeg]? = some (.ref o) := own_at Hs2 hin4 hc12
  obtain ⟨cq6, q6, q6'⟩ := E_a0.cell
  obtain ⟨_, _, ⟨T6, L6, k6', n6'⟩, -, X6, ⟨Lc6, hQ6, l6, y6, z6⟩, st6⟩ := X3.privateBack hx (y := ⟨cSL, "hashAt", "(I)I"⟩) hown (mvT hZ (w289 hw)) (mvT hZ (w290 hw)) (own_privS (mvT hZ (w172 hw)) rfl (Cond.privateMethod_at (mvP hZ (w291 hw) (args := #[]))) (mvT hZ (w290 hw)) (by decide)) (Cond.privateMethod_at (mvP hZ (w291 hw) (args := #[]))) (mvT hZ (w292 hw)) (by decide) (backOf (W := 0) (rm42 l Z az hw [] a0 (own_nx p1) aG kG g w h0 n0 Z0 E_a0 F_hashesAndCounts_a0 V_aG E_aG hc10 hc11 hc13) hZ (w292 hw) (w111 hw) (by decide) (by decide)) (g := (mkF m 30 #[vR a0, vI p1, vI (3 : Int32), vI p1, vI (own_nx p1), .unset] [(.int (own_nx p1)), (.ref a0)])) rfl (by rw [hml]; rfl) (Steps.refl _) (a := a0) (by rw [e3]; exact q6) q6' (argsL := [(.int (own_nx p1))]) (rest := []) (lenOf pd_8 rfl) rfl (Nat.le_of_eq rfl) (hb hby d51_30) (fun _ _ => ⟨rfl, e3, (own_nle rfl), (own_nle rfl)⟩)
  dsimp only [Pt.U, Pt.locs, Pt.cells, Pt.slots] at X6 l6 y6 z6 st6 hQ6
  subst l6 y6 z6
  obtain ⟨rfl, N6q, e6⟩ := hQ6
  obtain ⟨Lg6, X6', N6⟩ := own_gen X6 (Fr.app N0 N6q)
  obtain ⟨T7, X7, e7, st7⟩ := getF X6' hx hZ hown (host := "") (Or.inl (w115 hw)) Via.refl e6 F_held_a0 (g := (mkF m 34 #[vR a0, vI p1, vI (3 : Int32), vI p1, vI (own_nx p1), .unset] [(.ref a0), (.int (own_hh w))])) rfl rfl (hb hby d51_34)
  obtain ⟨_, _, ⟨T8, L8, k8', n8'⟩, -, X8, ⟨Lc8, hQ8, l8, y8, z8⟩, st8⟩ := Jvm.LawKit.callS X7 hx (y := ⟨cSL, "home", "(II)I"⟩) hown (mvT hZ (w174 hw)) (mvT hZ (w175 hw)) (mvT hZ (w111 hw)) (mvT hZ (w176 hw)) (by decide) (backOf (W := 0) (rm25 l Z az hw [] (own_hh w) h0 n0 Z0) hZ (w176 hw) (w111 hw) (by decide) (by decide)) (g := (mkF m 38 #[vR a0, vI p1, vI (3 : Int32), vI p1, vI (own_nx p1), .unset] [(.int (4 : Int32)), (.int (own_hh w))])) rfl (by rw [hml]; rfl) (argsL := [(.int (own_hh w)), (.int (4 : Int32))]) (rest := []) (lenOf pd_15 rfl) rfl (Nat.le_of_eq rfl) (hb hby d51_38) (fun _ _ => ⟨rfl, e7, (own_nle rfl), (own_nle rfl)⟩)
  dsimp only [Pt.U, Pt.locs, Pt.cells, Pt.slots] at X8 l8 y8 z8 st8 hQ8
  subst l8 y8 z8
  obtain ⟨rfl, N8q, e8⟩ := hQ8
  obtain ⟨Lg8, X8', N8⟩ := own_gen X8 (Fr.app N6 N8q)
  obtain ⟨T9, X9, e9, st9⟩ := getF X8' hx hZ hown (host := "") (Or.inl (w115 hw)) Via.refl e8 F_held_a0 (g := (mkF m 18 #[vR a0, vI p1, vI (3 : Int32), vI p1, vI (own_nx (own_nx p1)), vI (own_home (own_hh w))] [(.ref a0)])) rfl rfl (hb hby d51_18)
  have hin10 : ¬ ((own_nx (own_nx p1)) < 0 ∨ cl2.slots.size ≤ ((own_nx (own_nx p1))).toNatClampNeg) := inb_of Sz2 ⟨hc15, hc16⟩
  have hat11 : cl2.slots[((own_nx (own_nx p1))).toNatClampNeg]? = some .null := own_at Hs2 hin10 hc17
  obtain ⟨T12, X12, e12, st12⟩ := getF X9 hx hZ hown (host := "") (Or.inl (w115 hw)) Via.refl e9 F_held_a0 (g := (mkF m 100 #[vR a0, vI p1, vI (3 : Int32), vI p1, vI (own_nx (own_nx p1)), vI (own_home (own_hh w))] [(.ref a0)])) rfl rfl (hb hby d51_100)
  have hin13 : ¬ (p1 < 0 ∨ cl2.slots.size ≤ (p1).toNatClampNeg) := inb_of Sz2 ⟨hc18, hc19⟩
  obtain ⟨T14, h14, X14, e14, W14, st14⟩ := stR X12 hx hZ e12 Ar2 (j := p1) hin13 rfl (Or.inl rfl) (g := (mkF m 105 #[vR a0, vI p1, vI (3 : Int32), vI p1, vI (own_nx (own_nx p1)), vI (own_home (own_hh w))] [.null, (.int p1), (.ref aH)])) rfl rfl (hb hby d51_105)
  have K14 : Keep h0 h14 [aH, a0] := (Keep.refl h0 [aH, a0]).wr W14 (Or.inl (mg 0 rfl))
  have V_aH_14 : own_Arf Z h14 aH kH (.object "java/lang/Object") (4 : Int32) (own_upd f (p1).toNatClampNeg .null) := own_Arf.set (v := .null) Ar2 qk2 Sz2 Ng2 Hs2 Gf2 rfl W14
  have Z14 : n0 ≤ h14.size := Nat.le_trans Z0 (Keep.of_wr W14).1
  obtain ⟨Lg14, X14', N14⟩ := own_gen X14 (Fr.snoc X14 N8 g_aH)
  have ne_a0_aH : a0 ≠ aH := ne_exa E_a0 E_aH (by decide)
  have F_a0_size_u15 : Fld Z h14 a0 cSL "size" "I" (.int sz) := (F_size_a0.other W14 (Or.inl ne_a0_aH))
  obtain ⟨T16, X16, e16, st16⟩ := getF X14' hx hZ hown (host := "") (Or.inl (w233 hw)) Via.refl e14 F_a0_size_u15 (g := (mkF m 108 #[vR a0, vI p1, vI (3 : Int32), vI p1, vI (own_nx (own_nx p1)), vI (own_home (own_hh w))] [(.ref a0), (.ref a0)])) rfl rfl (hb hby d51_108)
  have E_a0_u17 : Exa Z h14 a0 cTC := (E_a0.wr W14)
  obtain ⟨T18, h18, X18, e18, W18, st18⟩ := putF X16 hx hZ hown (host := "") (Or.inl (w233 hw)) Via.refl e16 F_a0_size_u15 E_a0_u17 (Or.inl (w234 hw)) (w103 hw) (ty := .int) (by decide) rfl rfl (g := (mkF m 113 #[vR a0, vI p1, vI (3 : Int32), vI p1, vI (own_nx (own_nx p1)), vI (own_home (own_hh w))] [(.int (sz - (1 : Int32))), (.ref a0)])) rfl rfl (hb hby d51_113)
  have K18 : Keep h0 h18 [aH, a0] := K14.wr W18 (Or.inl (mg 1 rfl))
  have Fw18 := F_a0_size_u15.same W18
  have Z18 : n0 ≤ h18.size := Nat.le_trans Z14 (Keep.of_wr W18).1
  obtain ⟨Lg18, X18', N18⟩ := own_gen X18 (Fr.snoc X18 N14 g_a0)
  have F_a0_held_u19 : Fld Z h18 a0 cSL "held" cOA (.ref aH) := ((F_held_a0.other W14 (Or.inl ne_a0_aH)).other W18 (Or.inr (sl_31 hw)))
  obtain ⟨T20, X20, e20, st20⟩ := getF X18' hx hZ hown (host := "") (Or.inl (w115 hw)) Via.refl e18 F_a0_held_u19 (g := (mkF m 117 #[vR a0, vI p1, vI (3 : Int32), vI p1, vI (own_nx (own_nx p1)), vI (own_home (own_hh w))] [(.ref a0)])) rfl rfl (hb hby d51_117)
  have ne_aH_a0 : aH ≠ a0 := ne_exa E_aH E_a0 (by decide)
  have V_aH_u21 : own_Arf Z h18 aH kH (.object "java/lang/Object") (4 : Int32) (own_upd f (p1).toNatClampNeg .null) := (V_aH_14.other W18 ne_aH_a0)
  obtain ⟨cl22, Ar22, qk22, Sz22, Ng22, Hs22, Gf22⟩ := id V_aH_u21
  have E_aH_u23 : Exa Z h18 aH cOA := ((E_aH.wr W14).wr W18)
  have E_a0_u24 : Exa Z h18 a0 cTC := (E_a0_u17.wr W18)
  have F_a0_hashesAndCounts_u25 : Fld Z h18 a0 cSL "hashesAndCounts" "[J" (.ref aG) := ((F_hashesAndCounts_a0.other W14 (Or.inl ne_a0_aH)).other W18 (Or.inr (sl_32 hw)))
  obtain ⟨fs, hr, hrun, hended, hW, hsame⟩ := X20.leave (v := none) (fun _ => rfl) Bd.notSynchronized
  refine ⟨_, _, pre0 _ ?_, hrun, hended, _, _, rfl, ?_, ⟨_, rfl⟩, hW, hsame.mono (by decide) (by decide)⟩
  · show SP p e below s₁ (mkF m 0 #[vR a0, vI p1, .unset, .unset, .unset, .unset] []) _
    refine XS.aloadN X0.here hx rfl (hb hby d51_0) rfl rfl ?_
    show SP p e below s₁ (mkF m 1 #[vR a0, vI p1, .unset, .unset, .unset, .unset] [(.ref a0)]) _
    refine st1 _ ?_
    show SP p e below T1 (mkF m 4 #[vR a0, vI p1, .unset, .unset, .unset, .unset] [(.ref aH)]) _
    refine X1.arraylength hx (by rw [e1]; exact Ar2.1) (State.isArrayOf_alike hZ.alike Ar2.2.1) (g := (mkF m 4 #[vR a0, vI p1, .unset, .unset, .unset, .unset] [(.ref aH)])) rfl rfl (hb hby d51_4) _ ?_
    rw [len_of Sz2 Ng2]
    show SP p e below T1 (mkF m 5 #[vR a0, vI p1, .unset, .unset, .unset, .unset] [(.int (4 : Int32))]) _
    refine XS.iconst X1.here hx rfl (hb hby d51_5) ?_
    refine XS.isub X1.here hx rfl (hb hby d51_6) rfl ?_
    refine XS.istoreN X1.here hx rfl (hb hby d51_7) rfl (l' := #[vR a0, vI p1, vI (3 : Int32), .unset, .unset, .unset]) rfl ?_
    refine XS.iloadN X1.here hx rfl (hb hby d51_8) rfl ?_
    refine XS.istoreN X1.here hx rfl (hb hby d51_9) rfl (l' := #[vR a0, vI p1, vI (3 : Int32), vI p1, .unset, .unset]) rfl ?_
    refine XS.iloadN X1.here hx rfl (hb hby d51_10) rfl ?_
    refine XS.iconst X1.here hx rfl (hb hby d51_11) ?_
    refine XS.iadd X1.here hx rfl (hb hby d51_12) rfl ?_
    refine XS.iloadN X1.here hx rfl (hb hby d51_13) rfl ?_
    refine XS.iand X1.here hx rfl (hb hby d51_14) rfl ?_
    show SP p e below T1 (mkF m 15 #[vR a0, vI p1, vI (3 : Int32), vI p1, .unset, .unset] [(.int (own_nx p1))]) _
    refine XS.istore X1.here hx rfl (hb hby d51_15) rfl (l' := #[vR a0, vI p1, vI (3 : Int32), vI p1, vI (own_nx p1), .unset]) rfl ?_
    refine XS.aloadN X1.here hx rfl (hb hby d51_17) rfl rfl ?_
    show SP p e below T1 (mkF m 18 #[vR a0, vI p1, vI (3 : Int32), vI p1, vI (own_nx p1), .unset] [(.ref a0)]) _
    refine st3 _ ?_
    show SP p e below T3 (mkF m 21 #[vR a0, vI p1, vI (3 : Int32), vI p1, vI (own_nx p1), .unset] [(.ref aH)]) _
    refine XS.iload X3.here hx rfl (hb hby d51_21) rfl ?_
    show SP p e below T3 (mkF m 23 #[vR a0, vI p1, vI (3 : Int32), vI p1, vI (own_nx p1), .unset] [(.int (own_nx p1)), (.ref aH)]) _
    refine X3.aaload hx (j := (own_nx p1)) (v := (.ref o)) (by rw [e3]; exact Ar2.1) (State.isArrayOf_alike hZ.alike Ar2.2.1) rfl Ar2.2.2 hin4 hat5 (g := (mkF m 23 #[vR a0, vI p1, vI (3 : Int32), vI p1, vI (own_nx p1), .unset] [(.int (own_nx p1)), (.ref aH)])) rfl rfl (hb hby d51_23) _ ?_
    show SP p e below T3 (mkF m 24 #[vR a0, vI p1, vI (3 : Int32), vI p1, vI (own_nx p1), .unset] [(.ref o)]) _
    refine XS.ifnullNo X3.here hx rfl (hb hby d51_24) rfl ?_
    refine XS.aloadN X3.here hx rfl (hb hby d51_27) rfl rfl ?_
    refine XS.iload X3.here hx rfl (hb hby d51_28) rfl ?_
    show SP p e below T3 (mkF m 30 #[vR a0, vI p1, vI (3 : Int32), vI p1, vI (own_nx p1), .unset] [(.int (own_nx p1)), (.ref a0)]) _
    refine st6.trans ?_
    show SP p e below T6 (mkF m 33 #[vR a0, vI p1, vI (3 : Int32), vI p1, vI (own_nx p1), .unset] [(.int (own_hh w))]) _
    refine XS.aloadN X6'.here hx rfl (hb hby d51_33) rfl rfl ?_
    show SP p e below T6 (mkF m 34 #[vR a0, vI p1, vI (3 : Int32), vI p1, vI (own_nx p1), .unset] [(.ref a0), (.int (own_hh w))]) _
    refine st7 _ ?_
    show SP p e below T7 (mkF m 37 #[vR a0, vI p1, vI (3 : Int32), vI p1, vI (own_nx p1), .unset] [(.ref aH), (.int (own_hh w))]) _
    refine X7.arraylength hx (by rw [e7]; exact Ar2.1) (State.isArrayOf_alike hZ.alike Ar2.2.1) (g := (mkF m 37 #[vR a0, vI p1, vI (3 : Int32), vI p1, vI (own_nx p1), .unset] [(.ref aH), (.int (own_hh w))])) rfl rfl (hb hby d51_37) _ ?_
    rw [len_of Sz2 Ng2]
    show SP p e below T7 (mkF m 38 #[vR a0, vI p1, vI (3 : Int32), vI p1, vI (own_nx p1), .unset] [(.int (4 : Int32)), (.int (own_hh w))]) _
    refine st8 _ ?_
    show SP p e below T8 (mkF m 41 #[vR a0, vI p1, vI (3 : Int32), vI p1, vI (own_nx p1), .unset] [(.int (own_home (own_hh w)))]) _
    refine XS.istore X8'.here hx rfl (hb hby d51_41) rfl (l' := #[vR a0, vI p1, vI (3 : Int32), vI p1, vI (own_nx p1), vI (own_home (own_hh w))]) rfl ?_
    refine XS.iload X8'.here hx rfl (hb hby d51_43) rfl ?_
    refine XS.iload X8'.here hx rfl (hb hby d51_45) rfl ?_
    refine XS.isub X8'.here hx rfl (hb hby d51_47) rfl ?_
    refine XS.iloadN X8'.here hx rfl (hb hby d51_48) rfl ?_
    refine XS.iand X8'.here hx rfl (hb hby d51_49) rfl ?_
    refine XS.iload X8'.here hx rfl (hb hby d51_50) rfl ?_
    refine XS.iloadN X8'.here hx rfl (hb hby d51_52) rfl ?_
    refine XS.isub X8'.here hx rfl (hb hby d51_53) rfl ?_
    refine XS.iloadN X8'.here hx rfl (hb hby d51_54) rfl ?_
    refine XS.iand X8'.here hx rfl (hb hby d51_55) rfl ?_
    refine XS.icmpYes X8'.here hx rfl (pc0 := 56) (pc' := 88) rfl (hb hby d51_56) rfl (tlt hc14).1 (by decide) (by decide) ?_
    refine XS.iload X8'.here hx rfl (hb hby d51_88) rfl ?_
    show SP p e below T8 (mkF m 90 #[vR a0, vI p1, vI (3 : Int32), vI p1, vI (own_nx p1), vI (own_home (own_hh w))] [(.int (own_nx p1))]) _
    refine XS.iconst X8'.here hx rfl (hb hby d51_90) ?_
    refine XS.iadd X8'.here hx rfl (hb hby d51_91) rfl ?_
    refine XS.iloadN X8'.here hx rfl (hb hby d51_92) rfl ?_
    refine XS.iand X8'.here hx rfl (hb hby d51_93) rfl ?_
    show SP p e below T8 (mkF m 94 #[vR a0, vI p1, vI (3 : Int32), vI p1, vI (own_nx p1), vI (own_home (own_hh w))] [(.int (own_nx (own_nx p1)))]) _
    refine XS.istore X8'.here hx rfl (hb hby d51_94) rfl (l' := #[vR a0, vI p1, vI (3 : Int32), vI p1, vI (own_nx (own_nx p1)), vI (own_home (own_hh w))]) rfl ?_
    refine XS.goto X8'.here hx rfl (pc0 := 96) (pc' := 17) rfl (hb hby d51_96) (by decide) (by decide) ?_
    refine XS.aloadN X8'.here hx rfl (hb hby d51_17) rfl rfl ?_
    show SP p e below T8 (mkF m 18 #[vR a0, vI p1, vI (3 : Int32), vI p1, vI (own_nx (own_nx p1)), vI (own_home (own_hh w))] [(.ref a0)]) _
    refine st9 _ ?_
    show SP p e below T9 (mkF m 21 #[vR a0, vI p1, vI (3 : Int32), vI p1, vI (own_nx (own_nx p1)), vI (own_home (own_hh w))] [(.ref aH)]) _
    refine XS.iload X9.here hx rfl (hb hby d51_21) rfl ?_
    show SP p e below T9 (mkF m 23 #[vR a0, vI p1, vI (3 : Int32), vI p1, vI (own_nx (own_nx p1)), vI (own_home (own_hh w))] [(.int (own_nx (own_nx p1))), (.ref aH)]) _
    refine X9.aaload hx (j := (own_nx (own_nx p1))) (v := .null) (by rw [e9]; exact Ar2.1) (State.isArrayOf_alike hZ.alike Ar2.2.1) rfl Ar2.2.2 hin10 hat11 (g := (mkF m 23 #[vR a0, vI p1, vI (3 : Int32), vI p1, vI (own_nx (own_nx p1)), vI (own_home (own_hh w))] [(.int (own_nx (own_nx p1))), (.ref aH)])) rfl rfl (hb hby d51_23) _ ?_
    show SP p e below T9 (mkF m 24 #[vR a0, vI p1, vI (3 : Int32), vI p1, vI (own_nx (own_nx p1)), vI (own_home (own_hh w))] [.null]) _
    refine XS.ifnullYes X9.here hx rfl (pc0 := 24) (pc' := 99) rfl (hb hby d51_24) rfl (by decide) (by decide) ?_
    refine XS.aloadN X9.here hx rfl (hb hby d51_99) rfl rfl ?_
    show SP p e below T9 (mkF m 100 #[vR a0, vI p1, vI (3 : Int32), vI p1, vI (own_nx (own_nx p1)), vI (own_home (own_hh w))] [(.ref a0)]) _
    refine st12 _ ?_
    show SP p e below T12 (mkF m 103 #[vR a0, vI p1, vI (3 : Int32), vI p1, vI (own_nx (own_nx p1)), vI (own_home (own_hh w))] [(.ref aH)]) _
    refine XS.iloadN X12.here hx rfl (hb hby d51_103) rfl ?_
    refine XS.aconstNull X12.here hx rfl (hb hby d51_104) ?_
    show SP p e below T12 (mkF m 105 #[vR a0, vI p1, vI (3 : Int32), vI p1, vI (own_nx (own_nx p1)), vI (own_home (own_hh w))] [.null, (.int p1), (.ref aH)]) _
    refine st14 _ ?_
    show SP p e below T14 (mkF m 106 #[vR a0, vI p1, vI (3 : Int32), vI p1, vI (own_nx (own_nx p1)), vI (own_home (own_hh w))] []) _
    refine XS.aloadN X14'.here hx rfl (hb hby d51_106) rfl rfl ?_
    refine XS.dup X14'.here hx rfl (hb hby d51_107) rfl rfl ?_
    show SP p e below T14 (mkF m 108 #[vR a0, vI p1, vI (3 : Int32), vI p1, vI (own_nx (own_nx p1)), vI (own_home (own_hh w))] [(.ref a0), (.ref a0)]) _
    refine st16 _ ?_
    show SP p e below T16 (mkF m 111 #[vR a0, vI p1, vI (3 : Int32), vI p1, vI (own_nx (own_nx p1)), vI (own_home (own_hh w))] [(.int sz), (.ref a0)]) _
    refine XS.iconst X16.here hx rfl (hb hby d51_111) ?_
    refine XS.isub X16.here hx rfl (hb hby d51_112) rfl ?_
    show SP p e below T16 (mkF m 113 #[vR a0, vI p1, vI (3 : Int32), vI p1, vI (own_nx (own_nx p1)), vI (own_home (own_hh w))] [(.int (sz - (1 : Int32))), (.ref a0)]) _
    refine st18 _ ?_
    show SP p e below T18 (mkF m 116 #[vR a0, vI p1, vI (3 : Int32), vI p1, vI (own_nx (own_nx p1)), vI (own_home (own_hh w))] []) _
    refine XS.aloadN X18'.here hx rfl (hb hby d51_116) rfl rfl ?_
    show SP p e below T18 (mkF m 117 #[vR a0, vI p1, vI (3 : Int32), vI p1, vI (own_nx (own_nx p1)), vI (own_home (own_hh w))] [(.ref a0)]) _
    refine st20 _ ?_
    show SP p e below T20 (mkF m 120 #[vR a0, vI p1, vI (3 : Int32), vI p1, vI (own_nx (own_nx p1)), vI (own_home (own_hh w))] [(.ref aH)]) _
    refine X20.arraylength hx (by rw [e20]; exact Ar22.1) (State.isArrayOf_alike hZ.alike Ar22.2.1) (g := (mkF m 120 #[vR a0, vI p1, vI (3 : Int32), vI p1, vI (own_nx (own_nx p1)), vI (own_home (own_hh w))] [(.ref aH)])) rfl rfl (hb hby d51_120) _ ?_
    rw [len_of Sz22 Ng22]
    show SP p e below T20 (mkF m 121 #[vR a0, vI p1, vI (3 : Int32), vI p1, vI (own_nx (own_nx p1)), vI (own_home (own_hh w))] [(.int (4 : Int32))]) _
    refine XS.iconst X20.here hx rfl (hb hby d51_121) ?_
    refine XS.icmpYes X20.here hx rfl (pc0 := 122) (pc' := 151) rfl (hb hby d51_122) rfl (flt (by decide : ¬ ((4 : Int32) < (4 : Int32)))).2.2.2 (by decide) (by decide) ?_
    show SP p e below T20 (mkF m 151 #[vR a0, vI p1, vI (3 : Int32), vI p1, vI (own_nx (own_nx p1)), vI (own_home (own_hh w))] []) _
    exact X20.returnOut hx Bd.returns (hb hby d51_151) hr
  · show Q511 Z a0 p1 aH aG sz kH f kG g o w h0 n0 _ T20.heap _
    rw [e20]
    exact ⟨rfl, N18, K18, V_aH_u21, E_aH_u23, E_a0_u24, F_a0_held_u19, F_a0_hashesAndCounts_u25, Fw18⟩
theorem d51_59 : dc kB28 59 (.aload_n 0) 1 := by decide +kernel
theorem d51_60 : dc kB28 60 (.getfield 9) 3 := by decide +kernel
theorem d51_63 : dc kB28 63 (.iload_n 3) 1 := by decide +kernel
theorem d51_64 : dc kB28 64 (.aload_n 0) 1 := by decide +kernel
theorem d51_65 : dc kB28 65 (.getfield 9) 3 := by decide +kernel
theorem d51_68 : dc kB28 68 (.iload 4) 2 := by decide +kernel
theorem d51_70 : dc kB28 70 .aaload 1 := by decide +kernel
theorem d51_71 : dc kB28 71 .aastore 1 := by decide +kernel
theorem d51_72 : dc kB28 72 (.aload_n 0) 1 := by decide +kernel
theorem d51_73 : dc kB28 73 (.getfield 13) 3 := by decide +kernel
theorem d51_76 : dc kB28 76 (.iload_n 3) 1 := by decide +kernel
theorem d51_77 : dc kB28 77 (.aload_n 0) 1 := by decide +kernel
theorem d51_78 : dc kB28 78 (.getfield 13) 3 := by decide +kernel
theorem d51_81 : dc kB28 81 (.iload 4) 2 := by decide +kernel
theorem d51_83 : dc kB28 83 .laload 1 := by decide +kernel
theorem d51_84 : dc kB28 84 .lastore 1 := by decide +kernel
theorem d51_85 : dc kB28 85 (.iload 4) 2 := by decide +kernel
theorem d51_87 : dc kB28 87 (.istore_n 3) 1 := by decide +kernel
theorem ef_rm512 (m : MethodId) (a0 : Addr) (p1 : Int32) : entryFrame m #[(.ref a0), (.int p1)] 6 = mkF m 0 #[vR a0, vI p1, .unset, .unset, .unset, .unset] [] := by first | (simp [entryFrame, mkF, argsToLocals, Value.category]; done) | rfl
def Q512 (Z : State) (a0 : Addr) (p1 : Int32) (aH aG : Addr) (sz : Int32) (kH : ClassId) (f : Nat → Value) (kG : ClassId) (g : Nat → Value) (o : Addr) (w : Int64) (h0 : Heap) (n0 : Nat) (v : Option Value) (h : Heap) (L : List Loc) : Prop := v = none ∧ Fr n0 L ∧ Keep h0 h [aH, aG, a0] ∧ own_Arf Z h aH kH (.object "java/lang/Object") (4 : Int32) (own_upd (own_upd f (p1).toNatClampNeg (.ref o)) ((own_nx p1)).toNatClampNeg .null) ∧ Exa Z h aH cOA ∧ own_Arf Z h aG kG .long (4 : Int32) (own_upd g (p1).toNatClampNeg (.long w)) ∧ Exa Z h aG "[J" ∧ Exa Z h a0 cTC ∧ Fld Z h a0 cSL "held" cOA (.ref aH) ∧ Fld Z h a0 cSL "hashesAndCounts" "[J" (.ref aG) ∧ Fld Z h a0 cSL "size" "I" (.int (sz - (1 : Int32)))
theorem rm512 (l : Launch) (Z : State) (az : Array Value) (hw : HW Z az) (ws : List Jvm.Cond) (a0 : Addr) (p1 : Int32) (aH aG : Addr) (sz : Int32) (kH : ClassId) (f : Nat → Value) (kG : ClassId) (g : Nat → Value) (o : Addr) (w : Int64) (h0 : Heap) (n0 : Nat) (Z0 : n0 ≤ h0.size) (E_a0 : Exa Z h0 a0 cTC) (F_held_a0 : Fld Z h0 a0 cSL "held" cOA (.ref aH)) (F_hashesAndCounts_a0 : Fld Z h0 a0 cSL "hashesAndCounts" "[J" (.ref aG)) (F_size_a0 : Fld Z h0 a0 cSL "size" "I" (.int sz)) (V_aH : own_Arf Z h0 aH kH (.object "java/lang/Object") (4 : Int32) f) (E_aH : Exa Z h0 aH cOA) (O_kH : Ovr Z kH "java/lang/Object") (V_aG : own_Arf Z h0 aG kG .long (4 : Int32) g) (E_aG : Exa Z h0 aG "[J") (E_o : Exa Z h0 o cTU) (hc10 : ¬ ((own_nx p1) < (0 : Int32))) (hc11 : (own_nx p1) < (4 : Int32)) (hc12 : f ((own_nx p1)).toNatClampNeg = (.ref o)) (hc13 : g ((own_nx p1)).toNatClampNeg = (.long w)) (hc14 : ¬ ((((own_nx p1) - (own_home (own_hh w))) &&& (3 : Int32)) < (((own_nx p1) - p1) &&& (3 : Int32)))) (hc15 : ¬ (p1 < (0 : Int32))) (hc16 : p1 < (4 : Int32)) (g_aH : n0 ≤ aH) (g_aG : n0 ≤ aG) (hc19 : ¬ ((own_nx (own_nx p1)) < (0 : Int32))) (hc20 : (own_nx (own_nx p1)) < (4 : Int32)) (hc21 : (own_upd f (p1).toNatClampNeg (.ref o)) ((own_nx (own_nx p1))).toNatClampNeg = .null) (g_a0 : n0 ≤ a0) :
    MF l Z h0 ws ⟨cSL, "remove", "(I)V"⟩ kB28 6 none ⟨2, 0, 0, 27⟩ #[(.ref a0), (.int p1)] (Q512 Z a0 p1 aH aG sz kH f kG g o w h0 n0) := by
  refine own_body cSL n0 rfl (plainFor_of_name pn_com_example_reteweave_reteweave_network_SlotTable) (fun m => ef_rm512 m a0 p1) ?_
  intro p e s m below meth c s₁ Bd hx hby hml hown hZ X0 e0 N0 pre0
  obtain ⟨T1, X1, e1, st1⟩ := getF X0 hx hZ hown (host := "") (Or.inl (w115 hw)) Via.refl e0 F_held_a0 (g := (mkF m 1 #[vR a0, vI p1, .unset, .unset, .unset, .unset] [(.ref a0)])) rfl rfl (hb hby d51_1)
  obtain ⟨cl2, Ar2, qk2, Sz2, Ng2, Hs2, Gf2⟩ := id V_aH
  obtain ⟨T3, X3, e3, st3⟩ := getF X1 hx hZ hown (host := "") (Or.inl (w115 hw)) Via.refl e1 F_held_a0 (g := (mkF m 18 #[vR a0, vI p1, vI (3 : Int32), vI p1, vI (own_nx p1), .unset] [(.ref a0)])) rfl rfl (hb hby d51_18)
  have hin4 : ¬ ((own_nx p1) < 0 ∨ cl2.slots.size ≤ ((own_nx p1)).toNatClampNeg) := inb_of Sz2 ⟨hc10, hc11⟩
  have hat5 : cl2.slots[((own_nx p1)).toNatClampNeg]? = some (.ref o) := own_at Hs2 hin4 hc12
  obtain ⟨cq6, q6, q6'⟩ := E_a0.cell
  obtain ⟨_, _, ⟨T6, L6, k6', n6'⟩, -, X6, ⟨Lc6, hQ6, l6, y6, z6⟩, st6⟩ := X3.privateBack hx (y := ⟨cSL, "hashAt", "(I)I"⟩) hown (mvT hZ (w289 hw)) (mvT hZ (w290 hw)) (own_privS (mvT hZ (w172 hw)) rfl (Cond.privateMethod_at (mvP hZ (w291 hw) (args := #[]))) (mvT hZ (w290 hw)) (by decide)) (Cond.privateMethod_at (mvP hZ (w291 hw) (args := #[]))) (mvT hZ (w292 hw)) (by decide) (backOf (W := 0) (rm42 l Z az hw [] a0 (own_nx p1) aG kG g w h0 n0 Z0 E_a0 F_hashesAndCounts_a0 V_aG E_aG hc10 hc11 hc13) hZ (w292 hw) (w111 hw) (by decide) (by decide)) (g := (mkF m 30 #[vR a0, vI p1, vI (3 : Int32), vI p1, vI (own_nx p1), .unset] [(.int (own_nx p1)), (.ref a0)])) rfl (by rw [hml]; rfl) (Steps.refl _) (a := a0) (by rw [e3]; exact q6) q6' (argsL := [(.int (own_nx p1))]) (rest := []) (lenOf pd_8 rfl) rfl (Nat.le_of_eq rfl) (hb hby d51_30) (fun _ _ => ⟨rfl, e3, (own_nle rfl), (own_nle rfl)⟩)
  dsimp only [Pt.U, Pt.locs, Pt.cells, Pt.slots] at X6 l6 y6 z6 st6 hQ6
  subst l6 y6 z6
  obtain ⟨rfl, N6q, e6⟩ := hQ6
  obtain ⟨Lg6, X6', N6⟩ := own_gen X6 (Fr.app N0 N6q)
  obtain ⟨T7, X7, e7, st7⟩ := getF X6' hx hZ hown (host := "") (Or.inl (w115 hw)) Via.refl e6 F_held_a0 (g := (mkF m 34 #[vR a0, vI p1, vI (3 : Int32), vI p1, vI (own_nx p1), .unset] [(.ref a0), (.int (own_hh w))])) rfl rfl (hb hby d51_34)
  obtain ⟨_, _, ⟨T8, L8, k8', n8'⟩, -, X8, ⟨Lc8, hQ8, l8, y8, z8⟩, st8⟩ := Jvm.LawKit.callS X7 hx (y := ⟨cSL, "home", "(II)I"⟩) hown (mvT hZ (w174 hw)) (mvT hZ (w175 hw)) (mvT hZ (w111 hw)) (mvT hZ (w176 hw)) (by decide) (backOf (W := 0) (rm25 l Z az hw [] (own_hh w) h0 n0 Z0) hZ (w176 hw) (w111 hw) (by decide) (by decide)) (g := (mkF m 38 #[vR a0, vI p1, vI (3 : Int32), vI p1, vI (own_nx p1), .unset] [(.int (4 : Int32)), (.int (own_hh w))])) rfl (by rw [hml]; rfl) (argsL := [(.int (own_hh w)), (.int (4 : Int32))]) (rest := []) (lenOf pd_15 rfl) rfl (Nat.le_of_eq rfl) (hb hby d51_38) (fun _ _ => ⟨rfl, e7, (own_nle rfl), (own_nle rfl)⟩)
  dsimp only [Pt.U, Pt.locs, Pt.cells, Pt.slots] at X8 l8 y8 z8 st8 hQ8
  subst l8 y8 z8
  obtain ⟨rfl, N8q, e8⟩ := hQ8
  obtain ⟨Lg8, X8', N8⟩ := own_gen X8 (Fr.app N6 N8q)
  obtain ⟨T9, X9, e9, st9⟩ := getF X8' hx hZ hown (host := "") (Or.inl (w115 hw)) Via.refl e8 F_held_a0 (g := (mkF m 60 #[vR a0, vI p1, vI (3 : Int32), vI p1, vI (own_nx p1), vI (own_home (own_hh w))] [(.ref a0)])) rfl rfl (hb hby d51_60)
  obtain ⟨T10, X10, e10, st10⟩ := getF X9 hx hZ hown (host := "") (Or.inl (w115 hw)) Via.refl e9 F_held_a0 (g := (mkF m 65 #[vR a0, vI p1, vI (3 : Int32), vI p1, vI (own_nx p1), vI (own_home (own_hh w))] [(.ref a0), (.int p1), (.ref aH)])) rfl rfl (hb hby d51_65)
  have hin11 : ¬ ((own_nx p1) < 0 ∨ cl2.slots.size ≤ ((own_nx p1)).toNatClampNeg) := inb_of Sz2 ⟨hc10, hc11⟩
  have hat12 : cl2.slots[((own_nx p1)).toNatClampNeg]? = some (.ref o) := own_at Hs2 hin11 hc12
  have hin13 : ¬ (p1 < 0 ∨ cl2.slots.size ≤ (p1).toNatClampNeg) := inb_of Sz2 ⟨hc15, hc16⟩
  obtain ⟨T14, h14, X14, e14, W14, st14⟩ := stR X10 hx hZ e10 Ar2 (j := p1) hin13 rfl (Sto.ofV Ar2 qk2 O_kH (Ins.of_exa E_o (w252 hw))) (g := (mkF m 71 #[vR a0, vI p1, vI (3 : Int32), vI p1, vI (own_nx p1), vI (own_home (own_hh w))] [(.ref o), (.int p1), (.ref aH)])) rfl rfl (hb hby d51_71)
  have K14 : Keep h0 h14 [aH, aG, a0] := (Keep.refl h0 [aH, aG, a0]).wr W14 (Or.inl (mg 0 rfl))
  have V_aH_14 : own_Arf Z h14 aH kH (.object "java/lang/Object") (4 : Int32) (own_upd f (p1).toNatClampNeg (.ref o)) := own_Arf.set (v := (.ref o)) Ar2 qk2 Sz2 Ng2 Hs2 Gf2 rfl W14
  have Z14 : n0 ≤ h14.size := Nat.le_trans Z0 (Keep.of_wr W14).1
  obtain ⟨Lg14, X14', N14⟩ := own_gen X14 (Fr.snoc X14 N8 g_aH)
  have ne_a0_aH : a0 ≠ aH := ne_exa E_a0 E_aH (by decide)
  have F_a0_hashesAndCounts_u15 : Fld Z h14 a0 cSL "hashesAndCounts" "[J" (.ref aG) := (F_hashesAndCounts_a0.other W14 (Or.inl ne_a0_aH))
  obtain ⟨T16, X16, e16, st16⟩ := getF X14' hx hZ hown (host := "") (Or.inl (w118 hw)) Via.refl e14 F_a0_hashesAndCounts_u15 (g := (mkF m 73 #[vR a0, vI p1, vI (3 : Int32), vI p1, vI (own_nx p1), vI (own_home (own_hh w))] [(.ref a0)])) rfl rfl (hb hby d51_73)
  obtain ⟨T17, X17, e17, st17⟩ := getF X16 hx hZ hown (host := "") (Or.inl (w118 hw)) Via.refl e16 F_a0_hashesAndCounts_u15 (g := (mkF m 78 #[vR a0, vI p1, vI (3 : Int32), vI p1, vI (own_nx p1), vI (own_home (own_hh w))] [(.ref a0), (.int p1), (.ref aG)])) rfl rfl (hb hby d51_78)
  have ne_aG_aH : aG ≠ aH := ne_exa E_aG E_aH (by decide)
  have V_aG_u18 : own_Arf Z h14 aG kG .long (4 : Int32) g := (V_aG.other W14 ne_aG_aH)
  obtain ⟨cl19, Ar19, qk19, Sz19, Ng19, Hs19, Gf19⟩ := id V_aG_u18
  have hin20 : ¬ ((own_nx p1) < 0 ∨ cl19.slots.size ≤ ((own_nx p1)).toNatClampNeg) := inb_of Sz19 ⟨hc10, hc11⟩
  have hat21 : cl19.slots[((own_nx p1)).toNatClampNeg]? = some (.long w) := own_at Hs19 hin20 hc13
  have hin22 : ¬ (p1 < 0 ∨ cl19.slots.size ≤ (p1).toNatClampNeg) := inb_of Sz19 ⟨hc15, hc16⟩
  obtain ⟨T23, h23, X23, e23, W23, st23⟩ := stJ X17 hx hZ e17 Ar19 (j := p1) hin22 (g := (mkF m 84 #[vR a0, vI p1, vI (3 : Int32), vI p1, vI (own_nx p1), vI (own_home (own_hh w))] [(.long w), (.int p1), (.ref aG)])) rfl rfl (hb hby d51_84)
  have K23 : Keep h0 h23 [aH, aG, a0] := K14.wr W23 (Or.inl (mg 1 rfl))
  have V_aG_23 : own_Arf Z h23 aG kG .long (4 : Int32) (own_upd g (p1).toNatClampNeg (.long w)) := own_Arf.set (v := (.long w)) Ar19 qk19 Sz19 Ng19 Hs19 Gf19 rfl W23
  have Z23 : n0 ≤ h23.size := Nat.le_trans Z14 (Keep.of_wr W23).1
  obtain ⟨Lg23, X23', N23⟩ := own_gen X23 (Fr.snoc X23 N14 g_aG)
  have ne_a0_aG : a0 ≠ aG := ne_exa E_a0 E_aG (by decide)
  have F_a0_held_u24 : Fld Z h23 a0 cSL "held" cOA (.ref aH) := ((F_held_a0.other W14 (Or.inl ne_a0_aH)).other W23 (Or.inl ne_a0_aG))
  obtain ⟨T25, X25, e25, st25⟩ := getF X23' hx hZ hown (host := "") (Or.inl (w115 hw)) Via.refl e23 F_a0_held_u24 (g := (mkF m 18 #[vR a0, vI p1, vI (3 : Int32), vI (own_nx p1), vI (own_nx (own_nx p1)), vI (own_home (own_hh w))] [(.ref a0)])) rfl rfl (hb hby d51_18)
  have ne_aH_aG : aH ≠ aG := ne_exa E_aH E_aG (by decide)
  have V_aH_u26 : own_Arf Z h23 aH kH (.object "java/lang/Object") (4 : Int32) (own_upd f (p1).toNatClampNeg (.ref o)) := (V_aH_14.other W23 ne_aH_aG)
  obtain ⟨cl27, Ar27, qk27, Sz27, Ng27, Hs27, Gf27⟩ := id V_aH_u26
  have hin28 : ¬ ((own_nx (own_nx p1)) < 0 ∨ cl27.slots.size ≤ ((own_nx (own_nx p1))).toNatClampNeg) := inb_of Sz27 ⟨hc19, hc20⟩
  have hat29 : cl27.slots[((own_nx (own_nx p1))).toNatClampNeg]? = some .null := own_at Hs27 hin28 hc21
  obtain ⟨T30, X30, e30, st30⟩ := getF X25 hx hZ hown (host := "") (Or.inl (w115 hw)) Via.refl e25 F_a0_held_u24 (g := (mkF m 100 #[vR a0, vI p1, vI (3 : Int32), vI (own_nx p1), vI (own_nx (own_nx p1)), vI (own_home (own_hh w))] [(.ref a0)])) rfl rfl (hb hby d51_100)
  have hin31 : ¬ ((own_nx p1) < 0 ∨ cl27.slots.size ≤ ((own_nx p1)).toNatClampNeg) := inb_of Sz27 ⟨hc10, hc11⟩
  obtain ⟨T32, h32, X32, e32, W32, st32⟩ := stR X30 hx hZ e30 Ar27 (j := (own_nx p1)) hin31 rfl (Or.inl rfl) (g := (mkF m 105 #[vR a0, vI p1, vI (3 : Int32), vI (own_nx p1), vI (own_nx (own_nx p1)), vI (own_home (own_hh w))] [.null, (.int (own_nx p1)), (.ref aH)])) rfl rfl (hb hby d51_105)
  have K32 : Keep h0 h32 [aH, aG, a0] := K23.wr W32 (Or.inl (mg 0 rfl))
  have V_aH_32 : own_Arf Z h32 aH kH (.object "java/lang/Object") (4 : Int32) (own_upd (own_upd f (p1).toNatClampNeg (.ref o)) ((own_nx p1)).toNatClampNeg .null) := own_Arf.set (v := .null) Ar27 qk27 Sz27 Ng27 Hs27 Gf27 rfl W32
  have Z32 : n0 ≤ h32.size := Nat.le_trans Z23 (Keep.of_wr W32).1
  obtain ⟨Lg32, X32', N32⟩ := own_gen X32 (Fr.snoc X32 N23 g_aH)
  have F_a0_size_u33 : Fld Z h32 a0 cSL "size" "I" (.int sz) := (((F_size_a0.other W14 (Or.inl ne_a0_aH)).other W23 (Or.inl ne_a0_aG)).other W32 (Or.inl ne_a0_aH))
  obtain ⟨T34, X34, e34, st34⟩ := getF X32' hx hZ hown (host := "") (Or.inl (w233 hw)) Via.refl e32 F_a0_size_u33 (g := (mkF m 108 #[vR a0, vI p1, vI (3 : Int32), vI (own_nx p1), vI (own_nx (own_nx p1)), vI (own_home (own_hh w))] [(.ref a0), (.ref a0)])) rfl rfl (hb hby d51_108)
  have E_a0_u35 : Exa Z h32 a0 cTC := (((E_a0.wr W14).wr W23).wr W32)
  obtain ⟨T36, h36, X36, e36, W36, st36⟩ := putF X34 hx hZ hown (host := "") (Or.inl (w233 hw)) Via.refl e34 F_a0_size_u33 E_a0_u35 (Or.inl (w234 hw)) (w103 hw) (ty := .int) (by decide) rfl rfl (g := (mkF m 113 #[vR a0, vI p1, vI (3 : Int32), vI (own_nx p1), vI (own_nx (own_nx p1)), vI (own_home (own_hh w))] [(.int (sz - (1 : Int32))), (.ref a0)])) rfl rfl (hb hby d51_113)
  have K36 : Keep h0 h36 [aH, aG, a0] := K32.wr W36 (Or.inl (mg 2 rfl))
  have Fw36 := F_a0_size_u33.same W36
  have Z36 : n0 ≤ h36.size := Nat.le_trans Z32 (Keep.of_wr W36).1
  obtain ⟨Lg36, X36', N36⟩ := own_gen X36 (Fr.snoc X36 N32 g_a0)
  have F_a0_held_u37 : Fld Z h36 a0 cSL "held" cOA (.ref aH) := ((F_a0_held_u24.other W32 (Or.inl ne_a0_aH)).other W36 (Or.inr (sl_31 hw)))
  obtain ⟨T38, X38, e38, st38⟩ := getF X36' hx hZ hown (host := "") (Or.inl (w115 hw)) Via.refl e36 F_a0_held_u37 (g := (mkF m 117 #[vR a0, vI p1, vI (3 : Int32), vI (own_nx p1), vI (own_nx (own_nx p1)), vI (own_home (own_hh w))] [(.ref a0)])) rfl rfl (hb hby d51_117)
  have ne_aH_a0 : aH ≠ a0 := ne_exa E_aH E_a0 (by decide)
  have V_aH_u39 : own_Arf Z h36 aH kH (.object "java/lang/Object") (4 : Int32) (own_upd (own_upd f (p1).toNatClampNeg (.ref o)) ((own_nx p1)).toNatClampNeg .null) := (V_aH_32.other W36 ne_aH_a0)
  obtain ⟨cl40, Ar40, qk40, Sz40, Ng40, Hs40, Gf40⟩ := id V_aH_u39
  have c41 : Exa Z h32 aH cOA := (((E_aH.wr W14).wr W23).wr W32)
  have E_aH_u42 : Exa Z h36 aH cOA := (c41.wr W36)
  have ne_aG_a0 : aG ≠ a0 := ne_exa E_aG E_a0 (by decide)
  have V_aG_u43 : own_Arf Z h36 aG kG .long (4 : Int32) (own_upd g (p1).toNatClampNeg (.long w)) := ((V_aG_23.other W32 ne_aG_aH).other W36 ne_aG_a0)
  have c44 : Exa Z h32 aG "[J" := (((E_aG.wr W14).wr W23).wr W32)
  have E_aG_u45 : Exa Z h36 aG "[J" := (c44.wr W36)
  have E_a0_u46 : Exa Z h36 a0 cTC := (E_a0_u35.wr W36)
  have F_a0_hashesAndCounts_u47 : Fld Z h36 a0 cSL "hashesAndCounts" "[J" (.ref aG) := (((F_a0_hashesAndCounts_u15.other W23 (Or.inl ne_a0_aG)).other W32 (Or.inl ne_a0_aH)).other W36 (Or.inr (sl_32 hw)))
  obtain ⟨fs, hr, hrun, hended, hW, hsame⟩ := X38.leave (v := none) (fun _ => rfl) Bd.notSynchronized
  refine ⟨_, _, pre0 _ ?_, hrun, hended, _, _, rfl, ?_, ⟨_, rfl⟩, hW, hsame.mono (by decide) (by decide)⟩
  · show SP p e below s₁ (mkF m 0 #[vR a0, vI p1, .unset, .unset, .unset, .unset] []) _
    refine XS.aloadN X0.here hx rfl (hb hby d51_0) rfl rfl ?_
    show SP p e below s₁ (mkF m 1 #[vR a0, vI p1, .unset, .unset, .unset, .unset] [(.ref a0)]) _
    refine st1 _ ?_
    show SP p e below T1 (mkF m 4 #[vR a0, vI p1, .unset, .unset, .unset, .unset] [(.ref aH)]) _
    refine X1.arraylength hx (by rw [e1]; exact Ar2.1) (State.isArrayOf_alike hZ.alike Ar2.2.1) (g := (mkF m 4 #[vR a0, vI p1, .unset, .unset, .unset, .unset] [(.ref aH)])) rfl rfl (hb hby d51_4) _ ?_
    rw [len_of Sz2 Ng2]
    show SP p e below T1 (mkF m 5 #[vR a0, vI p1, .unset, .unset, .unset, .unset] [(.int (4 : Int32))]) _
    refine XS.iconst X1.here hx rfl (hb hby d51_5) ?_
    refine XS.isub X1.here hx rfl (hb hby d51_6) rfl ?_
    refine XS.istoreN X1.here hx rfl (hb hby d51_7) rfl (l' := #[vR a0, vI p1, vI (3 : Int32), .unset, .unset, .unset]) rfl ?_
    refine XS.iloadN X1.here hx rfl (hb hby d51_8) rfl ?_
    refine XS.istoreN X1.here hx rfl (hb hby d51_9) rfl (l' := #[vR a0, vI p1, vI (3 : Int32), vI p1, .unset, .unset]) rfl ?_
    refine XS.iloadN X1.here hx rfl (hb hby d51_10) rfl ?_
    refine XS.iconst X1.here hx rfl (hb hby d51_11) ?_
    refine XS.iadd X1.here hx rfl (hb hby d51_12) rfl ?_
    refine XS.iloadN X1.here hx rfl (hb hby d51_13) rfl ?_
    refine XS.iand X1.here hx rfl (hb hby d51_14) rfl ?_
    show SP p e below T1 (mkF m 15 #[vR a0, vI p1, vI (3 : Int32), vI p1, .unset, .unset] [(.int (own_nx p1))]) _
    refine XS.istore X1.here hx rfl (hb hby d51_15) rfl (l' := #[vR a0, vI p1, vI (3 : Int32), vI p1, vI (own_nx p1), .unset]) rfl ?_
    refine XS.aloadN X1.here hx rfl (hb hby d51_17) rfl rfl ?_
    show SP p e below T1 (mkF m 18 #[vR a0, vI p1, vI (3 : Int32), vI p1, vI (own_nx p1), .unset] [(.ref a0)]) _
    refine st3 _ ?_
    show SP p e below T3 (mkF m 21 #[vR a0, vI p1, vI (3 : Int32), vI p1, vI (own_nx p1), .unset] [(.ref aH)]) _
    refine XS.iload X3.here hx rfl (hb hby d51_21) rfl ?_
    show SP p e below T3 (mkF m 23 #[vR a0, vI p1, vI (3 : Int32), vI p1, vI (own_nx p1), .unset] [(.int (own_nx p1)), (.ref aH)]) _
    refine X3.aaload hx (j := (own_nx p1)) (v := (.ref o)) (by rw [e3]; exact Ar2.1) (State.isArrayOf_alike hZ.alike Ar2.2.1) rfl Ar2.2.2 hin4 hat5 (g := (mkF m 23 #[vR a0, vI p1, vI (3 : Int32), vI p1, vI (own_nx p1), .unset] [(.int (own_nx p1)), (.ref aH)])) rfl rfl (hb hby d51_23) _ ?_
    show SP p e below T3 (mkF m 24 #[vR a0, vI p1, vI (3 : Int32), vI p1, vI (own_nx p1), .unset] [(.ref o)]) _
    refine XS.ifnullNo X3.here hx rfl (hb hby d51_24) rfl ?_
    refine XS.aloadN X3.here hx rfl (hb hby d51_27) rfl rfl ?_
    refine XS.iload X3.here hx rfl (hb hby d51_28) rfl ?_
    show SP p e below T3 (mkF m 30 #[vR a0, vI p1, vI (3 : Int32), vI p1, vI (own_nx p1), .unset] [(.int (own_nx p1)), (.ref a0)]) _
    refine st6.trans ?_
    show SP p e below T6 (mkF m 33 #[vR a0, vI p1, vI (3 : Int32), vI p1, vI (own_nx p1), .unset] [(.int (own_hh w))]) _
    refine XS.aloadN X6'.here hx rfl (hb hby d51_33) rfl rfl ?_
    show SP p e below T6 (mkF m 34 #[vR a0, vI p1, vI (3 : Int32), vI p1, vI (own_nx p1), .unset] [(.ref a0), (.int (own_hh w))]) _
    refine st7 _ ?_
    show SP p e below T7 (mkF m 37 #[vR a0, vI p1, vI (3 : Int32), vI p1, vI (own_nx p1), .unset] [(.ref aH), (.int (own_hh w))]) _
    refine X7.arraylength hx (by rw [e7]; exact Ar2.1) (State.isArrayOf_alike hZ.alike Ar2.2.1) (g := (mkF m 37 #[vR a0, vI p1, vI (3 : Int32), vI p1, vI (own_nx p1), .unset] [(.ref aH), (.int (own_hh w))])) rfl rfl (hb hby d51_37) _ ?_
    rw [len_of Sz2 Ng2]
    show SP p e below T7 (mkF m 38 #[vR a0, vI p1, vI (3 : Int32), vI p1, vI (own_nx p1), .unset] [(.int (4 : Int32)), (.int (own_hh w))]) _
    refine st8 _ ?_
    show SP p e below T8 (mkF m 41 #[vR a0, vI p1, vI (3 : Int32), vI p1, vI (own_nx p1), .unset] [(.int (own_home (own_hh w)))]) _
    refine XS.istore X8'.here hx rfl (hb hby d51_41) rfl (l' := #[vR a0, vI p1, vI (3 : Int32), vI p1, vI (own_nx p1), vI (own_home (own_hh w))]) rfl ?_
    refine XS.iload X8'.here hx rfl (hb hby d51_43) rfl ?_
    refine XS.iload X8'.here hx rfl (hb hby d51_45) rfl ?_
    refine XS.isub X8'.here hx rfl (hb hby d51_47) rfl ?_
    refine XS.iloadN X8'.here hx rfl (hb hby d51_48) rfl ?_
    refine XS.iand X8'.here hx rfl (hb hby d51_49) rfl ?_
    refine XS.iload X8'.here hx rfl (hb hby d51_50) rfl ?_
    refine XS.iloadN X8'.here hx rfl (hb hby d51_52) rfl ?_
    refine XS.isub X8'.here hx rfl (hb hby d51_53) rfl ?_
    refine XS.iloadN X8'.here hx rfl (hb hby d51_54) rfl ?_
    refine XS.iand X8'.here hx rfl (hb hby d51_55) rfl ?_
    refine XS.icmpNo X8'.here hx rfl (hb hby d51_56) rfl (flt hc14).1 ?_
    refine XS.aloadN X8'.here hx rfl (hb hby d51_59) rfl rfl ?_
    show SP p e below T8 (mkF m 60 #[vR a0, vI p1, vI (3 : Int32), vI p1, vI (own_nx p1), vI (own_home (own_hh w))] [(.ref a0)]) _
    refine st9 _ ?_
    show SP p e below T9 (mkF m 63 #[vR a0, vI p1, vI (3 : Int32), vI p1, vI (own_nx p1), vI (own_home (own_hh w))] [(.ref aH)]) _
    refine XS.iloadN X9.here hx rfl (hb hby d51_63) rfl ?_
    refine XS.aloadN X9.here hx rfl (hb hby d51_64) rfl rfl ?_
    show SP p e below T9 (mkF m 65 #[vR a0, vI p1, vI (3 : Int32), vI p1, vI (own_nx p1), vI (own_home (own_hh w))] [(.ref a0), (.int p1), (.ref aH)]) _
    refine st10 _ ?_
    show SP p e below T10 (mkF m 68 #[vR a0, vI p1, vI (3 : Int32), vI p1, vI (own_nx p1), vI (own_home (own_hh w))] [(.ref aH), (.int p1), (.ref aH)]) _
    refine XS.iload X10.here hx rfl (hb hby d51_68) rfl ?_
    show SP p e below T10 (mkF m 70 #[vR a0, vI p1, vI (3 : Int32), vI p1, vI (own_nx p1), vI (own_home (own_hh w))] [(.int (own_nx p1)), (.ref aH), (.int p1), (.ref aH)]) _
    refine X10.aaload hx (j := (own_nx p1)) (v := (.ref o)) (by rw [e10]; exact Ar2.1) (State.isArrayOf_alike hZ.alike Ar2.2.1) rfl Ar2.2.2 hin11 hat12 (g := (mkF m 70 #[vR a0, vI p1, vI (3 : Int32), vI p1, vI (own_nx p1), vI (own_home (own_hh w))] [(.int (own_nx p1)), (.ref aH), (.int p1), (.ref aH)])) rfl rfl (hb hby d51_70) _ ?_
    show SP p e below T10 (mkF m 71 #[vR a0, vI p1, vI (3 : Int32), vI p1, vI (own_nx p1), vI (own_home (own_hh w))] [(.ref o), (.int p1), (.ref aH)]) _
    refine st14 _ ?_
    show SP p e below T14 (mkF m 72 #[vR a0, vI p1, vI (3 : Int32), vI p1, vI (own_nx p1), vI (own_home (own_hh w))] []) _
    refine XS.aloadN X14'.here hx rfl (hb hby d51_72) rfl rfl ?_
    show SP p e below T14 (mkF m 73 #[vR a0, vI p1, vI (3 : Int32), vI p1, vI (own_nx p1), vI (own_home (own_hh w))] [(.ref a0)]) _
    refine st16 _ ?_
    show SP p e below T16 (mkF m 76 #[vR a0, vI p1, vI (3 : Int32), vI p1, vI (own_nx p1), vI (own_home (own_hh w))] [(.ref aG)]) _
    refine XS.iloadN X16.here hx rfl (hb hby d51_76) rfl ?_
    refine XS.aloadN X16.here hx rfl (hb hby d51_77) rfl rfl ?_
    show SP p e below T16 (mkF m 78 #[vR a0, vI p1, vI (3 : Int32), vI p1, vI (own_nx p1), vI (own_home (own_hh w))] [(.ref a0), (.int p1), (.ref aG)]) _
    refine st17 _ ?_
    show SP p e below T17 (mkF m 81 #[vR a0, vI p1, vI (3 : Int32), vI p1, vI (own_nx p1), vI (own_home (own_hh w))] [(.ref aG), (.int p1), (.ref aG)]) _
    refine XS.iload X17.here hx rfl (hb hby d51_81) rfl ?_
    show SP p e below T17 (mkF m 83 #[vR a0, vI p1, vI (3 : Int32), vI p1, vI (own_nx p1), vI (own_home (own_hh w))] [(.int (own_nx p1)), (.ref aG), (.int p1), (.ref aG)]) _
    refine X17.laload hx (j := (own_nx p1)) (v := (.long w)) (by rw [e17]; exact Ar19.1) (State.isArrayOf_alike hZ.alike Ar19.2.1) Ar19.2.2 hin20 hat21 (g := (mkF m 83 #[vR a0, vI p1, vI (3 : Int32), vI p1, vI (own_nx p1), vI (own_home (own_hh w))] [(.int (own_nx p1)), (.ref aG), (.int p1), (.ref aG)])) rfl rfl (hb hby d51_83) _ ?_
    show SP p e below T17 (mkF m 84 #[vR a0, vI p1, vI (3 : Int32), vI p1, vI (own_nx p1), vI (own_home (own_hh w))] [(.long w), (.int p1), (.ref aG)]) _
    refine st23 _ ?_
    show SP p e below T23 (mkF m 85 #[vR a0, vI p1, vI (3 : Int32), vI p1, vI (own_nx p1), vI (own_home (own_hh w))] []) _
    refine XS.iload X23'.here hx rfl (hb hby d51_85) rfl ?_
    refine XS.istoreN X23'.here hx rfl (hb hby d51_87) rfl (l' := #[vR a0, vI p1, vI (3 : Int32), vI (own_nx p1), vI (own_nx p1), vI (own_home (own_hh w))]) rfl ?_
    refine XS.iload X23'.here hx rfl (hb hby d51_88) rfl ?_
    refine XS.iconst X23'.here hx rfl (hb hby d51_90) ?_
    refine XS.iadd X23'.here hx rfl (hb hby d51_91) rfl ?_
    refine XS.iloadN X23'.here hx rfl (hb hby d51_92) rfl ?_
    refine XS.iand X23'.here hx rfl (hb hby d51_93) rfl ?_
    show SP p e below T23 (mkF m 94 #[vR a0, vI p1, vI (3 : Int32), vI (own_nx p1), vI (own_nx p1), vI (own_home (own_hh w))] [(.int (own_nx (own_nx p1)))]) _
    refine XS.istore X23'.here hx rfl (hb hby d51_94) rfl (l' := #[vR a0, vI p1, vI (3 : Int32), vI (own_nx p1), vI (own_nx (own_nx p1)), vI (own_home (own_hh w))]) rfl ?_
    refine XS.goto X23'.here hx rfl (pc0 := 96) (pc' := 17) rfl (hb hby d51_96) (by decide) (by decide) ?_
    refine XS.aloadN X23'.here hx rfl (hb hby d51_17) rfl rfl ?_
    show SP p e below T23 (mkF m 18 #[vR a0, vI p1, vI (3 : Int32), vI (own_nx p1), vI (own_nx (own_nx p1)), vI (own_home (own_hh w))] [(.ref a0)]) _
    refine st25 _ ?_
    show SP p e below T25 (mkF m 21 #[vR a0, vI p1, vI (3 : Int32), vI (own_nx p1), vI (own_nx (own_nx p1)), vI (own_home (own_hh w))] [(.ref aH)]) _
    refine XS.iload X25.here hx rfl (hb hby d51_21) rfl ?_
    show SP p e below T25 (mkF m 23 #[vR a0, vI p1, vI (3 : Int32), vI (own_nx p1), vI (own_nx (own_nx p1)), vI (own_home (own_hh w))] [(.int (own_nx (own_nx p1))), (.ref aH)]) _
    refine X25.aaload hx (j := (own_nx (own_nx p1))) (v := .null) (by rw [e25]; exact Ar27.1) (State.isArrayOf_alike hZ.alike Ar27.2.1) rfl Ar27.2.2 hin28 hat29 (g := (mkF m 23 #[vR a0, vI p1, vI (3 : Int32), vI (own_nx p1), vI (own_nx (own_nx p1)), vI (own_home (own_hh w))] [(.int (own_nx (own_nx p1))), (.ref aH)])) rfl rfl (hb hby d51_23) _ ?_
    show SP p e below T25 (mkF m 24 #[vR a0, vI p1, vI (3 : Int32), vI (own_nx p1), vI (own_nx (own_nx p1)), vI (own_home (own_hh w))] [.null]) _
    refine XS.ifnullYes X25.here hx rfl (pc0 := 24) (pc' := 99) rfl (hb hby d51_24) rfl (by decide) (by decide) ?_
    refine XS.aloadN X25.here hx rfl (hb hby d51_99) rfl rfl ?_
    show SP p e below T25 (mkF m 100 #[vR a0, vI p1, vI (3 : Int32), vI (own_nx p1), vI (own_nx (own_nx p1)), vI (own_home (own_hh w))] [(.ref a0)]) _
    refine st30 _ ?_
    show SP p e below T30 (mkF m 103 #[vR a0, vI p1, vI (3 : Int32), vI (own_nx p1), vI (own_nx (own_nx p1)), vI (own_home (own_hh w))] [(.ref aH)]) _
    refine XS.iloadN X30.here hx rfl (hb hby d51_103) rfl ?_
    refine XS.aconstNull X30.here hx rfl (hb hby d51_104) ?_
    show SP p e below T30 (mkF m 105 #[vR a0, vI p1, vI (3 : Int32), vI (own_nx p1), vI (own_nx (own_nx p1)), vI (own_home (own_hh w))] [.null, (.int (own_nx p1)), (.ref aH)]) _
    refine st32 _ ?_
    show SP p e below T32 (mkF m 106 #[vR a0, vI p1, vI (3 : Int32), vI (own_nx p1), vI (own_nx (own_nx p1)), vI (own_home (own_hh w))] []) _
    refine XS.aloadN X32'.here hx rfl (hb hby d51_106) rfl rfl ?_
    refine XS.dup X32'.here hx rfl (hb hby d51_107) rfl rfl ?_
    show SP p e below T32 (mkF m 108 #[vR a0, vI p1, vI (3 : Int32), vI (own_nx p1), vI (own_nx (own_nx p1)), vI (own_home (own_hh w))] [(.ref a0), (.ref a0)]) _
    refine st34 _ ?_
    show SP p e below T34 (mkF m 111 #[vR a0, vI p1, vI (3 : Int32), vI (own_nx p1), vI (own_nx (own_nx p1)), vI (own_home (own_hh w))] [(.int sz), (.ref a0)]) _
    refine XS.iconst X34.here hx rfl (hb hby d51_111) ?_
    refine XS.isub X34.here hx rfl (hb hby d51_112) rfl ?_
    show SP p e below T34 (mkF m 113 #[vR a0, vI p1, vI (3 : Int32), vI (own_nx p1), vI (own_nx (own_nx p1)), vI (own_home (own_hh w))] [(.int (sz - (1 : Int32))), (.ref a0)]) _
    refine st36 _ ?_
    show SP p e below T36 (mkF m 116 #[vR a0, vI p1, vI (3 : Int32), vI (own_nx p1), vI (own_nx (own_nx p1)), vI (own_home (own_hh w))] []) _
    refine XS.aloadN X36'.here hx rfl (hb hby d51_116) rfl rfl ?_
    show SP p e below T36 (mkF m 117 #[vR a0, vI p1, vI (3 : Int32), vI (own_nx p1), vI (own_nx (own_nx p1)), vI (own_home (own_hh w))] [(.ref a0)]) _
    refine st38 _ ?_
    show SP p e below T38 (mkF m 120 #[vR a0, vI p1, vI (3 : Int32), vI (own_nx p1), vI (own_nx (own_nx p1)), vI (own_home (own_hh w))] [(.ref aH)]) _
    refine X38.arraylength hx (by rw [e38]; exact Ar40.1) (State.isArrayOf_alike hZ.alike Ar40.2.1) (g := (mkF m 120 #[vR a0, vI p1, vI (3 : Int32), vI (own_nx p1), vI (own_nx (own_nx p1)), vI (own_home (own_hh w))] [(.ref aH)])) rfl rfl (hb hby d51_120) _ ?_
    rw [len_of Sz40 Ng40]
    show SP p e below T38 (mkF m 121 #[vR a0, vI p1, vI (3 : Int32), vI (own_nx p1), vI (own_nx (own_nx p1)), vI (own_home (own_hh w))] [(.int (4 : Int32))]) _
    refine XS.iconst X38.here hx rfl (hb hby d51_121) ?_
    refine XS.icmpYes X38.here hx rfl (pc0 := 122) (pc' := 151) rfl (hb hby d51_122) rfl (flt (by decide : ¬ ((4 : Int32) < (4 : Int32)))).2.2.2 (by decide) (by decide) ?_
    show SP p e below T38 (mkF m 151 #[vR a0, vI p1, vI (3 : Int32), vI (own_nx p1), vI (own_nx (own_nx p1)), vI (own_home (own_hh w))] []) _
    exact X38.returnOut hx Bd.returns (hb hby d51_151) hr
  · show Q512 Z a0 p1 aH aG sz kH f kG g o w h0 n0 _ T38.heap _
    rw [e38]
    exact ⟨rfl, N36, K36, V_aH_u39, E_aH_u42, V_aG_u43, E_aG_u45, E_a0_u46, F_a0_held_u37, F_a0_hashesAndCounts_u47, Fw36⟩
def own_RR (f g : Nat → Value) (t u : Addr) (i : Int32) (f2 g2 : Nat → Value) : Prop := (f ((own_nx i)).toNatClampNeg = .null ∧ f2 = own_upd f (i).toNatClampNeg .null ∧ g = g2) ∨ (∃ (o : Addr) (w : Int64), (o = t ∨ o = u) ∧ f ((own_nx i)).toNatClampNeg = (.ref o) ∧ g ((own_nx i)).toNatClampNeg = (.long w) ∧ ((((own_nx i) - (own_home (own_hh w))) &&& (3 : Int32)) < (((own_nx i) - i) &&& (3 : Int32))) ∧ f ((own_nx (own_nx i))).toNatClampNeg = .null ∧ f2 = own_upd f (i).toNatClampNeg .null ∧ g = g2) ∨ (∃ (o : Addr) (w : Int64), (o = t ∨ o = u) ∧ f ((own_nx i)).toNatClampNeg = (.ref o) ∧ g ((own_nx i)).toNatClampNeg = (.long w) ∧ ¬ ((((own_nx i) - (own_home (own_hh w))) &&& (3 : Int32)) < (((own_nx i) - i) &&& (3 : Int32))) ∧ own_upd f (i).toNatClampNeg (.ref o) ((own_nx (own_nx i))).toNatClampNeg = .null ∧ f2 = own_upd (own_upd f (i).toNatClampNeg (.ref o)) ((own_nx i)).toNatClampNeg .null ∧ g2 = own_upd g (i).toNatClampNeg (.long w))
theorem own_i4 {i : Int32} (h1 : ¬ (i < (0 : Int32))) (h2 : i < (4 : Int32)) : i = 0 ∨ i = 1 ∨ i = 2 ∨ i = 3 := by
  rw [Int32.lt_iff_toInt_lt] at h1 h2
  have e0 : (0 : Int32).toInt = 0 := rfl
  have e4 : (4 : Int32).toInt = 4 := rfl
  have : i.toInt = 0 ∨ i.toInt = 1 ∨ i.toInt = 2 ∨ i.toInt = 3 := by omega
  rcases this with e | e | e | e
  · exact Or.inl (Int32.toInt_inj.mp e)
  · exact Or.inr (Or.inl (Int32.toInt_inj.mp e))
  · exact Or.inr (Or.inr (Or.inl (Int32.toInt_inj.mp e)))
  · exact Or.inr (Or.inr (Or.inr (Int32.toInt_inj.mp e)))
theorem own_nb4 {i : Int32} (h1 : ¬ (i < (0 : Int32))) (h2 : i < (4 : Int32)) : ¬ (own_nx i < (0 : Int32)) ∧ own_nx i < (4 : Int32) ∧ ¬ (own_nx (own_nx i) < (0 : Int32)) ∧ own_nx (own_nx i) < (4 : Int32) := by
  rcases own_i4 h1 h2 with rfl | rfl | rfl | rfl <;> decide
theorem own_kw {h h' : Heap} {ws ws' : List Addr} (K : Keep h h' ws) (s : ∀ x ∈ ws, x ∈ ws') : Keep h h' ws' := ⟨K.1, fun x c q n => K.2.1 x c q fun m => n (s x m), K.2.2⟩
def QR (Z : State) (a0 : Addr) (p1 : Int32) (aH aG : Addr) (sz : Int32) (kH : ClassId) (f : Nat → Value) (kG : ClassId) (g : Nat → Value) (t u : Addr) (f2 g2 : Nat → Value) (h0 : Heap) (n0 : Nat) (v : Option Value) (h : Heap) (L : List Loc) : Prop := v = none ∧ Fr n0 L ∧ Keep h0 h [aH, aG, a0] ∧ own_Arf Z h aH kH (.object "java/lang/Object") (4 : Int32) f2 ∧ Exa Z h aH cOA ∧ own_Arf Z h aG kG .long (4 : Int32) g2 ∧ Exa Z h aG "[J" ∧ Exa Z h a0 cTC ∧ Fld Z h a0 cSL "held" cOA (.ref aH) ∧ Fld Z h a0 cSL "hashesAndCounts" "[J" (.ref aG) ∧ Fld Z h a0 cSL "size" "I" (.int (sz - (1 : Int32)))
theorem rmR (l : Launch) (Z : State) (az : Array Value) (hw : HW Z az) (ws : List Jvm.Cond) (a0 : Addr) (p1 : Int32) (aH aG : Addr) (sz : Int32) (kH : ClassId) (f : Nat → Value) (kG : ClassId) (g : Nat → Value) (t u : Addr) (f2 g2 : Nat → Value) (h0 : Heap) (n0 : Nat) (Z0 : n0 ≤ h0.size) (E_a0 : Exa Z h0 a0 cTC) (F_held_a0 : Fld Z h0 a0 cSL "held" cOA (.ref aH)) (F_hashesAndCounts_a0 : Fld Z h0 a0 cSL "hashesAndCounts" "[J" (.ref aG)) (F_size_a0 : Fld Z h0 a0 cSL "size" "I" (.int sz)) (V_aH : own_Arf Z h0 aH kH (.object "java/lang/Object") (4 : Int32) f) (E_aH : Exa Z h0 aH cOA) (O_kH : Ovr Z kH "java/lang/Object") (V_aG : own_Arf Z h0 aG kG .long (4 : Int32) g) (E_aG : Exa Z h0 aG "[J") (E_t : Exa Z h0 t cTU) (E_u : Exa Z h0 u cTU) (i1 : ¬ (p1 < (0 : Int32))) (i2 : p1 < (4 : Int32)) (hR : own_RR f g t u p1 f2 g2) (g_aH : n0 ≤ aH) (g_aG : n0 ≤ aG) (g_a0 : n0 ≤ a0) :
    MF l Z h0 ws ⟨cSL, "remove", "(I)V"⟩ kB28 6 none ⟨2, 0, 0, 27⟩ #[(.ref a0), (.int p1)] (QR Z a0 p1 aH aG sz kH f kG g t u f2 g2 h0 n0) := by
  obtain ⟨b1, b2, b3, b4⟩ := own_nb4 i1 i2
  rcases hR with ⟨q1, rfl, rfl⟩ | ⟨o, w, qo, q1, q2, q3, q4, rfl, rfl⟩ | ⟨o, w, qo, q1, q2, q3, q4, rfl, rfl⟩
  · refine own_mono (rm510 l Z az hw ws a0 p1 aH aG sz kH f kG g h0 n0 Z0 E_a0 F_held_a0 F_hashesAndCounts_a0 F_size_a0 V_aH E_aH O_kH V_aG E_aG b1 b2 q1 i1 i2 g_aH g_a0) fun v h L q => ?_
    obtain ⟨rfl, qN, qK, qV_aH, qE_aH, qE_a0, qF_held_a0, qF_hashesAndCounts_a0, qF_size_a0⟩ := q
    exact ⟨rfl, qN, own_kw qK (fun _ hx => by simp only [List.mem_cons, List.not_mem_nil, or_false] at hx ⊢; rcases hx with rfl | rfl <;> simp), qV_aH, qE_aH, V_aG.keep qK (ninS (ne_exa E_aG E_aH (by decide)) (ninS (ne_exa E_aG E_a0 (by decide)) nin0)), E_aG.keep qK, qE_a0, qF_held_a0, qF_hashesAndCounts_a0, qF_size_a0⟩
  · have E_o : Exa Z h0 o cTU := by rcases qo with rfl | rfl <;> assumption
    refine own_mono (rm511 l Z az hw ws a0 p1 aH aG sz kH f kG g o w h0 n0 Z0 E_a0 F_held_a0 F_hashesAndCounts_a0 F_size_a0 V_aH E_aH O_kH V_aG E_aG E_o b1 b2 q1 q2 q3 b3 b4 q4 i1 i2 g_aH g_a0) fun v h L q => ?_
    obtain ⟨rfl, qN, qK, qV_aH, qE_aH, qE_a0, qF_held_a0, qF_hashesAndCounts_a0, qF_size_a0⟩ := q
    exact ⟨rfl, qN, own_kw qK (fun _ hx => by simp only [List.mem_cons, List.not_mem_nil, or_false] at hx ⊢; rcases hx with rfl | rfl <;> simp), qV_aH, qE_aH, V_aG.keep qK (ninS (ne_exa E_aG E_aH (by decide)) (ninS (ne_exa E_aG E_a0 (by decide)) nin0)), E_aG.keep qK, qE_a0, qF_held_a0, qF_hashesAndCounts_a0, qF_size_a0⟩
  · have E_o : Exa Z h0 o cTU := by rcases qo with rfl | rfl <;> assumption
    refine own_mono (rm512 l Z az hw ws a0 p1 aH aG sz kH f kG g o w h0 n0 Z0 E_a0 F_held_a0 F_hashesAndCounts_a0 F_size_a0 V_aH E_aH O_kH V_aG E_aG E_o b1 b2 q1 q2 q3 i1 i2 g_aH g_aG b3 b4 q4 g_a0) fun v h L q => ?_
    obtain ⟨rfl, qN, qK, qV_aH, qE_aH, qV_aG, qE_aG, qE_a0, qF_held_a0, qF_hashesAndCounts_a0, qF_size_a0⟩ := q
    exact ⟨rfl, qN, qK, qV_aH, qE_aH, qV_aG, qE_aG, qE_a0, qF_held_a0, qF_hashesAndCounts_a0, qF_size_a0⟩
theorem d47_0 : dc kB36 0 (.aload_n 0) 1 := by decide +kernel
theorem d47_1 : dc kB36 1 (.iload_n 1) 1 := by decide +kernel
theorem d47_2 : dc kB36 2 (.invokevirtual 21) 3 := by decide +kernel
theorem d47_5 : dc kB36 5 (.iload_n 2) 1 := by decide +kernel
theorem d47_6 : dc kB36 6 .iadd 1 := by decide +kernel
theorem d47_7 : dc kB36 7 (.istore_n 3) 1 := by decide +kernel
theorem d47_8 : dc kB36 8 (.iload_n 3) 1 := by decide +kernel
theorem d47_9 : dc kB36 9 (.ifCond .ne 11) 3 := by decide +kernel
theorem d47_20 : dc kB36 20 (.aload_n 0) 1 := by decide +kernel
theorem d47_21 : dc kB36 21 (.iload_n 1) 1 := by decide +kernel
theorem d47_22 : dc kB36 22 (.iload_n 3) 1 := by decide +kernel
theorem d47_23 : dc kB36 23 (.invokevirtual 29) 3 := by decide +kernel
theorem pd_17 : parseMethodDescriptor "(II)V" = some ⟨[.int, .int], none⟩ := by decide +kernel
theorem d47_26 : dc kB36 26 (.iload_n 3) 1 := by decide +kernel
theorem d47_27 : dc kB36 27 .ireturn 1 := by decide +kernel
theorem ef_rm47s (m : MethodId) (a0 : Addr) (p1 p2 : Int32) : entryFrame m #[(.ref a0), (.int p1), (.int p2)] 4 = mkF m 0 #[vR a0, vI p1, vI p2, .unset] [] := by first | (simp [entryFrame, mkF, argsToLocals, Value.category]; done) | rfl
def Q47s (Z : State) (a0 : Addr) (p1 p2 : Int32) (aH aG : Addr) (sz : Int32) (kH : ClassId) (f : Nat → Value) (kG : ClassId) (g : Nat → Value) (w : Int64) (h0 : Heap) (n0 : Nat) (v : Option Value) (h : Heap) (L : List Loc) : Prop := v = some (.int ((w.toInt32) + p2)) ∧ Fr n0 L ∧ Keep h0 h [aG] ∧ Exa Z h aG "[J" ∧ own_Arf Z h aG kG .long (4 : Int32) (own_upd g (p1).toNatClampNeg (.long (own_hc (own_hh w) ((w.toInt32) + p2))))
theorem rm47s (l : Launch) (Z : State) (az : Array Value) (hw : HW Z az) (ws : List Jvm.Cond) (a0 : Addr) (p1 p2 : Int32) (aH aG : Addr) (sz : Int32) (kH : ClassId) (f : Nat → Value) (kG : ClassId) (g : Nat → Value) (w : Int64) (h0 : Heap) (n0 : Nat) (Z0 : n0 ≤ h0.size) (E_a0 : Exa Z h0 a0 cTC) (F_held_a0 : Fld Z h0 a0 cSL "held" cOA (.ref aH)) (F_hashesAndCounts_a0 : Fld Z h0 a0 cSL "hashesAndCounts" "[J" (.ref aG)) (F_size_a0 : Fld Z h0 a0 cSL "size" "I" (.int sz)) (V_aH : own_Arf Z h0 aH kH (.object "java/lang/Object") (4 : Int32) f) (E_aH : Exa Z h0 aH cOA) (V_aG : own_Arf Z h0 aG kG .long (4 : Int32) g) (E_aG : Exa Z h0 aG "[J") (hc8 : ¬ (p1 < (0 : Int32))) (hc9 : p1 < (4 : Int32)) (hc10 : g (p1).toNatClampNeg = (.long w)) (hc11 : ¬ (((w.toInt32) + p2) = (0 : Int32))) (g_aG : n0 ≤ aG) :
    MF l Z h0 ws ⟨cSL, "addToCountAt", "(II)I"⟩ kB36 4 (some .int) ⟨2, 0, 0, 29⟩ #[(.ref a0), (.int p1), (.int p2)] (Q47s Z a0 p1 p2 aH aG sz kH f kG g w h0 n0) := by
  refine own_body cSL n0 rfl (plainFor_of_name pn_com_example_reteweave_reteweave_network_SlotTable) (fun m => ef_rm47s m a0 p1 p2) ?_
  intro p e s m below meth c s₁ Bd hx hby hml hown hZ X0 e0 N0 pre0
  obtain ⟨cq1, kq1, q1a, q1b, q1c⟩ := isOf hZ e0 E_a0
  obtain ⟨_, _, ⟨T1, L1, k1', n1'⟩, -, X1, ⟨Lc1, hQ1, l1, y1, z1⟩, st1⟩ := X0.virtualBack hx (y := ⟨cSL, "countAt", "(I)I"⟩) (z := ⟨cSL, "countAt", "(I)I"⟩) hown (mvT hZ (w319 hw)) (mvT hZ (w309 hw)) (notFace_of_selects (args := #[]) (mvT hZ (w320 hw))) (mvT hZ (w320 hw)) (mvT hZ (w310 hw)) (by decide) (backOf (W := 0) (rm46 l Z az hw [] a0 p1 aG kG g w h0 n0 Z0 E_a0 F_hashesAndCounts_a0 V_aG E_aG hc8 hc9 hc10) hZ (w312 hw) (w111 hw) (by decide) (by decide)) q1a q1c (g := (mkF m 2 #[vR a0, vI p1, vI p2, .unset] [(.int p1), (.ref a0)])) rfl (by rw [hml]; rfl) (Steps.refl _) (argsL := [(.int p1)]) (rest := []) (lenOf pd_8 rfl) rfl (Nat.le_of_eq rfl) (hb hby d47_2) (fun _ _ => ⟨rfl, e0, (own_nle rfl), (own_nle rfl)⟩)
  dsimp only [Pt.U, Pt.locs, Pt.cells, Pt.slots] at X1 l1 y1 z1 st1 hQ1
  subst l1 y1 z1
  obtain ⟨rfl, N1q, e1⟩ := hQ1
  obtain ⟨Lg1, X1', N1⟩ := own_gen X1 (Fr.app N0 N1q)
  obtain ⟨cq2, q2, q2'⟩ := E_a0.cell
  obtain ⟨_, _, ⟨T2, L2, k2', n2'⟩, -, X2, ⟨Lc2, hQ2, l2, y2, z2⟩, st2⟩ := X1'.privateBack hx (y := ⟨cSL, "setCountAt", "(II)V"⟩) hown (mvT hZ (w321 hw)) (mvT hZ (w322 hw)) (own_privS (mvT hZ (w172 hw)) rfl (Cond.privateMethod_at (mvP hZ (w323 hw) (args := #[]))) (mvT hZ (w322 hw)) (by decide)) (Cond.privateMethod_at (mvP hZ (w323 hw) (args := #[]))) (mvT hZ (w324 hw)) (by decide) (backOf (W := 0) (rm48 l Z az hw [] a0 p1 ((w.toInt32) + p2) aG kG g w h0 n0 Z0 E_a0 F_hashesAndCounts_a0 V_aG E_aG hc8 hc9 hc10 g_aG) hZ (w324 hw) (w111 hw) (by decide) (by decide)) (g := (mkF m 23 #[vR a0, vI p1, vI p2, vI ((w.toInt32) + p2)] [(.int ((w.toInt32) + p2)), (.int p1), (.ref a0)])) rfl (by rw [hml]; rfl) (Steps.refl _) (a := a0) (by rw [e1]; exact q2) q2' (argsL := [(.int p1), (.int ((w.toInt32) + p2))]) (rest := []) (lenOf pd_17 rfl) rfl (Nat.le_of_eq rfl) (hb hby d47_23) (fun _ _ => ⟨rfl, e1, (own_nle rfl), (own_nle rfl)⟩)
  dsimp only [Pt.U, Pt.locs, Pt.cells, Pt.slots] at X2 l2 y2 z2 st2 hQ2
  subst l2 y2 z2
  obtain ⟨rfl, N2q, kq2, pf2_0, pf2_1⟩ := hQ2
  obtain ⟨Lg2, X2', N2⟩ := own_gen X2 (Fr.app N1 N2q)
  have K2 : Keep h0 T2.heap [aG] := (Keep.refl h0 [aG]).trans kq2 (allS (Or.inl (mg 0 rfl)) all0)
  have Z2 : n0 ≤ T2.heap.size := Nat.le_trans Z0 kq2.1
  obtain ⟨fs, hr, hrun, hended, hW, hsame⟩ := X2'.leave (v := some (.int ((w.toInt32) + p2))) (fun h => by rw [Bd.returns] at h; cases h) Bd.notSynchronized
  refine ⟨_, _, pre0 _ ?_, hrun, hended, _, _, rfl, ?_, ⟨_, rfl⟩, hW, hsame.mono (by decide) (by decide)⟩
  · show SP p e below s₁ (mkF m 0 #[vR a0, vI p1, vI p2, .unset] []) _
    refine XS.aloadN X0.here hx rfl (hb hby d47_0) rfl rfl ?_
    refine XS.iloadN X0.here hx rfl (hb hby d47_1) rfl ?_
    show SP p e below s₁ (mkF m 2 #[vR a0, vI p1, vI p2, .unset] [(.int p1), (.ref a0)]) _
    refine st1.trans ?_
    show SP p e below T1 (mkF m 5 #[vR a0, vI p1, vI p2, .unset] [(.int (w.toInt32))]) _
    refine XS.iloadN X1'.here hx rfl (hb hby d47_5) rfl ?_
    refine XS.iadd X1'.here hx rfl (hb hby d47_6) rfl ?_
    refine XS.istoreN X1'.here hx rfl (hb hby d47_7) rfl (l' := #[vR a0, vI p1, vI p2, vI ((w.toInt32) + p2)]) rfl ?_
    refine XS.iloadN X1'.here hx rfl (hb hby d47_8) rfl ?_
    refine XS.ifYes X1'.here hx rfl (pc0 := 9) (pc' := 20) rfl (hb hby d47_9) rfl ((if0 _ _).trans (feq hc11).2) (by decide) (by decide) ?_
    refine XS.aloadN X1'.here hx rfl (hb hby d47_20) rfl rfl ?_
    refine XS.iloadN X1'.here hx rfl (hb hby d47_21) rfl ?_
    refine XS.iloadN X1'.here hx rfl (hb hby d47_22) rfl ?_
    show SP p e below T1 (mkF m 23 #[vR a0, vI p1, vI p2, vI ((w.toInt32) + p2)] [(.int ((w.toInt32) + p2)), (.int p1), (.ref a0)]) _
    refine st2.trans ?_
    show SP p e below T2 (mkF m 26 #[vR a0, vI p1, vI p2, vI ((w.toInt32) + p2)] []) _
    refine XS.iloadN X2'.here hx rfl (hb hby d47_26) rfl ?_
    show SP p e below T2 (mkF m 27 #[vR a0, vI p1, vI p2, vI ((w.toInt32) + p2)] [(.int ((w.toInt32) + p2))]) _
    exact retI X2' hx Bd.returns (hb hby d47_27) hr
  · show Q47s Z a0 p1 p2 aH aG sz kH f kG g w h0 n0 _ T2.heap _
    exact ⟨rfl, N2, K2, pf2_1, pf2_0⟩
theorem d47_12 : dc kB36 12 (.aload_n 0) 1 := by decide +kernel
theorem d47_13 : dc kB36 13 (.iload_n 1) 1 := by decide +kernel
theorem d47_14 : dc kB36 14 (.invokevirtual 25) 3 := by decide +kernel
theorem pd_18 : parseMethodDescriptor "(I)V" = some ⟨[.int], none⟩ := by decide +kernel
theorem d47_17 : dc kB36 17 (.goto 9) 3 := by decide +kernel
theorem ef_rm47R (m : MethodId) (a0 : Addr) (p1 p2 : Int32) : entryFrame m #[(.ref a0), (.int p1), (.int p2)] 4 = mkF m 0 #[vR a0, vI p1, vI p2, .unset] [] := by first | (simp [entryFrame, mkF, argsToLocals, Value.category]; done) | rfl
def Q47R (Z : State) (a0 : Addr) (p1 p2 : Int32) (aH aG : Addr) (sz : Int32) (kH : ClassId) (f : Nat → Value) (kG : ClassId) (g : Nat → Value) (w : Int64) (t u : Addr) (f2 g2 : Nat → Value) (h0 : Heap) (n0 : Nat) (v : Option Value) (h : Heap) (L : List Loc) : Prop := v = some (.int ((w.toInt32) + p2)) ∧ Fr n0 L ∧ Keep h0 h [aH, aG, a0] ∧ Exa Z h aH cOA ∧ own_Arf Z h aH kH (.object "java/lang/Object") (4 : Int32) f2 ∧ Exa Z h aG "[J" ∧ own_Arf Z h aG kG .long (4 : Int32) g2 ∧ Exa Z h a0 cTC ∧ Fld Z h a0 cSL "held" cOA (.ref aH) ∧ Fld Z h a0 cSL "hashesAndCounts" "[J" (.ref aG) ∧ Fld Z h a0 cSL "size" "I" (.int (sz - (1 : Int32)))
theorem rm47R (l : Launch) (Z : State) (az : Array Value) (hw : HW Z az) (ws : List Jvm.Cond) (a0 : Addr) (p1 p2 : Int32) (aH aG : Addr) (sz : Int32) (kH : ClassId) (f : Nat → Value) (kG : ClassId) (g : Nat → Value) (w : Int64) (t u : Addr) (f2 g2 : Nat → Value) (h0 : Heap) (n0 : Nat) (Z0 : n0 ≤ h0.size) (E_a0 : Exa Z h0 a0 cTC) (F_held_a0 : Fld Z h0 a0 cSL "held" cOA (.ref aH)) (F_hashesAndCounts_a0 : Fld Z h0 a0 cSL "hashesAndCounts" "[J" (.ref aG)) (F_size_a0 : Fld Z h0 a0 cSL "size" "I" (.int sz)) (V_aH : own_Arf Z h0 aH kH (.object "java/lang/Object") (4 : Int32) f) (E_aH : Exa Z h0 aH cOA) (O_kH : Ovr Z kH "java/lang/Object") (V_aG : own_Arf Z h0 aG kG .long (4 : Int32) g) (E_aG : Exa Z h0 aG "[J") (E_t : Exa Z h0 t cTU) (E_u : Exa Z h0 u cTU) (hc11 : own_RR f g t u p1 f2 g2) (hc12 : ¬ (p1 < (0 : Int32))) (hc13 : p1 < (4 : Int32)) (hc14 : g (p1).toNatClampNeg = (.long w)) (hc15 : ((w.toInt32) + p2) = (0 : Int32)) (g_aH : n0 ≤ aH) (g_aG : n0 ≤ aG) (g_a0 : n0 ≤ a0) :
    MF l Z h0 ws ⟨cSL, "addToCountAt", "(II)I"⟩ kB36 4 (some .int) ⟨3, 0, 0, 44⟩ #[(.ref a0), (.int p1), (.int p2)] (Q47R Z a0 p1 p2 aH aG sz kH f kG g w t u f2 g2 h0 n0) := by
  refine own_body cSL n0 rfl (plainFor_of_name pn_com_example_reteweave_reteweave_network_SlotTable) (fun m => ef_rm47R m a0 p1 p2) ?_
  intro p e s m below meth c s₁ Bd hx hby hml hown hZ X0 e0 N0 pre0
  obtain ⟨cq1, kq1, q1a, q1b, q1c⟩ := isOf hZ e0 E_a0
  obtain ⟨_, _, ⟨T1, L1, k1', n1'⟩, -, X1, ⟨Lc1, hQ1, l1, y1, z1⟩, st1⟩ := X0.virtualBack hx (y := ⟨cSL, "countAt", "(I)I"⟩) (z := ⟨cSL, "countAt", "(I)I"⟩) hown (mvT hZ (w319 hw)) (mvT hZ (w309 hw)) (notFace_of_selects (args := #[]) (mvT hZ (w320 hw))) (mvT hZ (w320 hw)) (mvT hZ (w310 hw)) (by decide) (backOf (W := 0) (rm46 l Z az hw [] a0 p1 aG kG g w h0 n0 Z0 E_a0 F_hashesAndCounts_a0 V_aG E_aG hc12 hc13 hc14) hZ (w312 hw) (w111 hw) (by decide) (by decide)) q1a q1c (g := (mkF m 2 #[vR a0, vI p1, vI p2, .unset] [(.int p1), (.ref a0)])) rfl (by rw [hml]; rfl) (Steps.refl _) (argsL := [(.int p1)]) (rest := []) (lenOf pd_8 rfl) rfl (Nat.le_of_eq rfl) (hb hby d47_2) (fun _ _ => ⟨rfl, e0, (own_nle rfl), (own_nle rfl)⟩)
  dsimp only [Pt.U, Pt.locs, Pt.cells, Pt.slots] at X1 l1 y1 z1 st1 hQ1
  subst l1 y1 z1
  obtain ⟨rfl, N1q, e1⟩ := hQ1
  obtain ⟨Lg1, X1', N1⟩ := own_gen X1 (Fr.app N0 N1q)
  obtain ⟨cq2, kq2, q2a, q2b, q2c⟩ := isOf hZ e1 E_a0
  obtain ⟨_, _, ⟨T2, L2, k2', n2'⟩, -, X2, ⟨Lc2, hQ2, l2, y2, z2⟩, st2⟩ := X1'.virtualBack hx (y := ⟨cSL, "remove", "(I)V"⟩) (z := ⟨cSL, "remove", "(I)V"⟩) hown (mvT hZ (w338 hw)) (mvT hZ (w339 hw)) (notFace_of_selects (args := #[]) (mvT hZ (w341 hw))) (mvT hZ (w341 hw)) (mvT hZ (w340 hw)) (by decide) (backOf (W := 0) (rmR l Z az hw [] a0 p1 aH aG sz kH f kG g t u f2 g2 h0 n0 Z0 E_a0 F_held_a0 F_hashesAndCounts_a0 F_size_a0 V_aH E_aH O_kH V_aG E_aG E_t E_u hc12 hc13 hc11 g_aH g_aG g_a0) hZ (w342 hw) (w111 hw) (by decide) (by decide)) q2a q2c (g := (mkF m 14 #[vR a0, vI p1, vI p2, vI ((w.toInt32) + p2)] [(.int p1), (.ref a0)])) rfl (by rw [hml]; rfl) (Steps.refl _) (argsL := [(.int p1)]) (rest := []) (lenOf pd_18 rfl) rfl (Nat.le_of_eq rfl) (hb hby d47_14) (fun _ _ => ⟨rfl, e1, (own_nle rfl), (own_nle rfl)⟩)
  dsimp only [Pt.U, Pt.locs, Pt.cells, Pt.slots] at X2 l2 y2 z2 st2 hQ2
  subst l2 y2 z2
  obtain ⟨rfl, N2q, kq2, pf2_0, pf2_1, pf2_2, pf2_3, pf2_4, pf2_5, pf2_6, pf2_7⟩ := hQ2
  obtain ⟨Lg2, X2', N2⟩ := own_gen X2 (Fr.app N1 N2q)
  have K2 : Keep h0 T2.heap [aH, aG, a0] := (Keep.refl h0 [aH, aG, a0]).trans kq2 (allS (Or.inl (mg 0 rfl)) (allS (Or.inl (mg 1 rfl)) (allS (Or.inl (mg 2 rfl)) all0)))
  have Z2 : n0 ≤ T2.heap.size := Nat.le_trans Z0 kq2.1
  obtain ⟨fs, hr, hrun, hended, hW, hsame⟩ := X2'.leave (v := some (.int ((w.toInt32) + p2))) (fun h => by rw [Bd.returns] at h; cases h) Bd.notSynchronized
  refine ⟨_, _, pre0 _ ?_, hrun, hended, _, _, rfl, ?_, ⟨_, rfl⟩, hW, hsame.mono (by decide) (by decide)⟩
  · show SP p e below s₁ (mkF m 0 #[vR a0, vI p1, vI p2, .unset] []) _
    refine XS.aloadN X0.here hx rfl (hb hby d47_0) rfl rfl ?_
    refine XS.iloadN X0.here hx rfl (hb hby d47_1) rfl ?_
    show SP p e below s₁ (mkF m 2 #[vR a0, vI p1, vI p2, .unset] [(.int p1), (.ref a0)]) _
    refine st1.trans ?_
    show SP p e below T1 (mkF m 5 #[vR a0, vI p1, vI p2, .unset] [(.int (w.toInt32))]) _
    refine XS.iloadN X1'.here hx rfl (hb hby d47_5) rfl ?_
    refine XS.iadd X1'.here hx rfl (hb hby d47_6) rfl ?_
    refine XS.istoreN X1'.here hx rfl (hb hby d47_7) rfl (l' := #[vR a0, vI p1, vI p2, vI ((w.toInt32) + p2)]) rfl ?_
    refine XS.iloadN X1'.here hx rfl (hb hby d47_8) rfl ?_
    refine XS.ifNo X1'.here hx rfl (hb hby d47_9) rfl ((if0 _ _).trans (teq hc15).2) ?_
    refine XS.aloadN X1'.here hx rfl (hb hby d47_12) rfl rfl ?_
    refine XS.iloadN X1'.here hx rfl (hb hby d47_13) rfl ?_
    show SP p e below T1 (mkF m 14 #[vR a0, vI p1, vI p2, vI ((w.toInt32) + p2)] [(.int p1), (.ref a0)]) _
    refine st2.trans ?_
    show SP p e below T2 (mkF m 17 #[vR a0, vI p1, vI p2, vI ((w.toInt32) + p2)] []) _
    refine XS.goto X2'.here hx rfl (pc0 := 17) (pc' := 26) rfl (hb hby d47_17) (by decide) (by decide) ?_
    refine XS.iloadN X2'.here hx rfl (hb hby d47_26) rfl ?_
    show SP p e below T2 (mkF m 27 #[vR a0, vI p1, vI p2, vI ((w.toInt32) + p2)] [(.int ((w.toInt32) + p2))]) _
    exact retI X2' hx Bd.returns (hb hby d47_27) hr
  · show Q47R Z a0 p1 p2 aH aG sz kH f kG g w t u f2 g2 h0 n0 _ T2.heap _
    exact ⟨rfl, N2, K2, pf2_1, pf2_0, pf2_3, pf2_2, pf2_4, pf2_5, pf2_6, pf2_7⟩
theorem d27_0 : dc kB46 0 (.aload_n 0) 1 := by decide +kernel
theorem d27_1 : dc kB46 1 (.aload_n 1) 1 := by decide +kernel
theorem d27_2 : dc kB46 2 (.invokevirtual 13) 3 := by decide +kernel
theorem d27_5 : dc kB46 5 (.aload_n 1) 1 := by decide +kernel
theorem d27_6 : dc kB46 6 (.invokevirtual 19) 3 := by decide +kernel
theorem d27_9 : dc kB46 9 (.istore_n 3) 1 := by decide +kernel
theorem d27_10 : dc kB46 10 (.iload_n 3) 1 := by decide +kernel
theorem d27_11 : dc kB46 11 (.ifCond .ge 24) 3 := by decide +kernel
theorem d27_14 : dc kB46 14 (.iload_n 2) 1 := by decide +kernel
theorem d27_15 : dc kB46 15 (.istore 4) 2 := by decide +kernel
theorem d27_17 : dc kB46 17 (.iload_n 2) 1 := by decide +kernel
theorem d27_18 : dc kB46 18 (.ifCond .eq 25) 3 := by decide +kernel
theorem d27_43 : dc kB46 43 (.iload 4) 2 := by decide +kernel
theorem d27_45 : dc kB46 45 .ireturn 1 := by decide +kernel
theorem ef_rm27i (m : MethodId) (a0 a1 : Addr) : entryFrame m #[(.ref a0), (.ref a1), (.int (0 : Int32))] 5 = mkF m 0 #[vR a0, vR a1, vI (0 : Int32), .unset, .unset] [] := by first | (simp [entryFrame, mkF, argsToLocals, Value.category]; done) | rfl
def Q27i (Z : State) (a0 a1 aH aG : Addr) (sz : Int32) (kH : ClassId) (f : Nat → Value) (kG : ClassId) (g : Nat → Value) (ht : Int32) (u : Addr) (xt xu : Int64) (hu r : Int32) (h0 : Heap) (n0 : Nat) (v : Option Value) (h : Heap) (L : List Loc) : Prop := v = some (.int (0 : Int32)) ∧ Fr n0 L ∧ h = h0
theorem rm27i (l : Launch) (Z : State) (az : Array Value) (hw : HW Z az) (ws : List Jvm.Cond) (a0 a1 aH aG : Addr) (sz : Int32) (kH : ClassId) (f : Nat → Value) (kG : ClassId) (g : Nat → Value) (ht : Int32) (u : Addr) (xt xu : Int64) (hu r : Int32) (h0 : Heap) (n0 : Nat) (Z0 : n0 ≤ h0.size) (E_a0 : Exa Z h0 a0 cTC) (F_held_a0 : Fld Z h0 a0 cSL "held" cOA (.ref aH)) (F_hashesAndCounts_a0 : Fld Z h0 a0 cSL "hashesAndCounts" "[J" (.ref aG)) (F_size_a0 : Fld Z h0 a0 cSL "size" "I" (.int sz)) (V_aH : own_Arf Z h0 aH kH (.object "java/lang/Object") (4 : Int32) f) (E_aH : Exa Z h0 aH cOA) (O_kH : Ovr Z kH "java/lang/Object") (V_aG : own_Arf Z h0 aG kG .long (4 : Int32) g) (E_aG : Exa Z h0 aG "[J") (E_a1 : Exa Z h0 a1 cTU) (F_hash_a1 : Fld Z h0 a1 cTU "hash" "I" (.int ht)) (J_tp : own_TP Z h0 a1 u xt xu ht hu) (hFR : own_FR f g a1 u xt xu ht hu r) (hc13 : r < (0 : Int32)) :
    MF l Z h0 ws ⟨cTC, "add", dI⟩ kB46 5 (some .int) ⟨8, 0, 0, 120⟩ #[(.ref a0), (.ref a1), (.int (0 : Int32))] (Q27i Z a0 a1 aH aG sz kH f kG g ht u xt xu hu r h0 n0) := by
  refine own_body cTC n0 rfl (plainFor_of_name pn_com_example_reteweave_reteweave_network_TupleCounts) (fun m => ef_rm27i m a0 a1) ?_
  intro p e s m below meth c s₁ Bd hx hby hml hown hZ X0 e0 N0 pre0
  obtain ⟨cq1, kq1, q1a, q1b, q1c⟩ := isOf hZ e0 E_a1
  obtain ⟨_, _, ⟨T1, L1, k1', n1'⟩, -, X1, ⟨Lc1, hQ1, l1, y1, z1⟩, st1⟩ := X0.virtualBack hx (y := ⟨cTU, "hashCode", "()I"⟩) (z := ⟨cTU, "hashCode", "()I"⟩) hown (mvT hZ (w163 hw)) (mvT hZ (w164 hw)) (notFace_of_selects (args := #[]) (mvT hZ (w166 hw))) (mvT hZ (w166 hw)) (mvT hZ (w165 hw)) (by decide) (backOf (W := 1) (rm23 l Z az hw [] a1 ht h0 n0 Z0 F_hash_a1) hZ (w167 hw) (w13 hw) (by decide) (by decide)) q1a q1c (g := (mkF m 2 #[vR a0, vR a1, vI (0 : Int32), .unset, .unset] [(.ref a1), (.ref a0)])) rfl (by rw [hml]; rfl) (Steps.refl _) (argsL := []) (rest := [(.ref a0)]) (lenOf pd_3 rfl) rfl (Nat.le_of_eq rfl) (hb hby d27_2) (fun _ _ => ⟨rfl, e0, (own_nle rfl), (own_nle rfl)⟩)
  dsimp only [Pt.U, Pt.locs, Pt.cells, Pt.slots] at X1 l1 y1 z1 st1 hQ1
  subst l1 y1 z1
  obtain ⟨rfl, N1q, e1⟩ := hQ1
  obtain ⟨Lg1, X1', N1⟩ := own_gen X1 (Fr.app N0 N1q)
  obtain ⟨cq2, kq2, q2a, q2b, q2c⟩ := isOf hZ e1 E_a0
  obtain ⟨_, _, ⟨T2, L2, k2', n2'⟩, -, X2, ⟨Lc2, hQ2, l2, y2, z2⟩, st2⟩ := X1'.virtualBackUp hx (x := ⟨cTC, "find", dG⟩) (y := ⟨cSL, "find", dG⟩) (owner := cSL) hown (mvT hZ (w168 hw)) (mvT hZ (w169 hw)) (mvT hZ (w170 hw)) (by decide) (mvT hZ (w172 hw)) (mvT hZ (w171 hw)) (backOf (W := 0) (rmF l Z az hw [] a0 ht a1 aH aG kH f kG g u xt xu hu r h0 n0 Z0 E_a0 F_held_a0 F_hashesAndCounts_a0 V_aH E_aH V_aG E_aG J_tp hFR) hZ (w173 hw) (w111 hw) (by decide) (by decide)) q2a q2c (g := (mkF m 6 #[vR a0, vR a1, vI (0 : Int32), .unset, .unset] [(.ref a1), (.int ht), (.ref a0)])) rfl (by rw [hml]; rfl) (Steps.refl _) (argsL := [(.int ht), (.ref a1)]) (rest := []) (lenOf pd_16 rfl) rfl (Nat.le_of_eq rfl) (hb hby d27_6) (fun _ _ => ⟨rfl, e1, (own_nle rfl), (own_nle rfl)⟩)
  dsimp only [Pt.U, Pt.locs, Pt.cells, Pt.slots] at X2 l2 y2 z2 st2 hQ2
  subst l2 y2 z2
  obtain ⟨rfl, N2q, e2⟩ := hQ2
  obtain ⟨Lg2, X2', N2⟩ := own_gen X2 (Fr.app N1 N2q)
  obtain ⟨fs, hr, hrun, hended, hW, hsame⟩ := X2'.leave (v := some (.int (0 : Int32))) (fun h => by rw [Bd.returns] at h; cases h) Bd.notSynchronized
  refine ⟨_, _, pre0 _ ?_, hrun, hended, _, _, rfl, ?_, ⟨_, rfl⟩, hW, hsame.mono (by decide) (by decide)⟩
  · show SP p e below s₁ (mkF m 0 #[vR a0, vR a1, vI (0 : Int32), .unset, .unset] []) _
    refine XS.aloadN X0.here hx rfl (hb hby d27_0) rfl rfl ?_
    refine XS.aloadN X0.here hx rfl (hb hby d27_1) rfl rfl ?_
    show SP p e below s₁ (mkF m 2 #[vR a0, vR a1, vI (0 : Int32), .unset, .unset] [(.ref a1), (.ref a0)]) _
    refine st1.trans ?_
    show SP p e below T1 (mkF m 5 #[vR a0, vR a1, vI (0 : Int32), .unset, .unset] [(.int ht), (.ref a0)]) _
    refine XS.aloadN X1'.here hx rfl (hb hby d27_5) rfl rfl ?_
    show SP p e below T1 (mkF m 6 #[vR a0, vR a1, vI (0 : Int32), .unset, .unset] [(.ref a1), (.int ht), (.ref a0)]) _
    refine st2.trans ?_
    show SP p e below T2 (mkF m 9 #[vR a0, vR a1, vI (0 : Int32), .unset, .unset] [(.int r)]) _
    refine XS.istoreN X2'.here hx rfl (hb hby d27_9) rfl (l' := #[vR a0, vR a1, vI (0 : Int32), vI r, .unset]) rfl ?_
    refine XS.iloadN X2'.here hx rfl (hb hby d27_10) rfl ?_
    refine XS.ifNo X2'.here hx rfl (hb hby d27_11) rfl ((if0 _ _).trans (tlt hc13).2.1) ?_
    refine XS.iloadN X2'.here hx rfl (hb hby d27_14) rfl ?_
    refine XS.istore X2'.here hx rfl (hb hby d27_15) rfl (l' := #[vR a0, vR a1, vI (0 : Int32), vI r, vI (0 : Int32)]) rfl ?_
    refine XS.iloadN X2'.here hx rfl (hb hby d27_17) rfl ?_
    refine XS.ifYes X2'.here hx rfl (pc0 := 18) (pc' := 43) rfl (hb hby d27_18) rfl ((if0 _ _).trans (teq (by decide : (0 : Int32) = (0 : Int32))).1) (by decide) (by decide) ?_
    refine XS.iload X2'.here hx rfl (hb hby d27_43) rfl ?_
    show SP p e below T2 (mkF m 45 #[vR a0, vR a1, vI (0 : Int32), vI r, vI (0 : Int32)] [(.int (0 : Int32))]) _
    exact retI X2' hx Bd.returns (hb hby d27_45) hr
  · show Q27i Z a0 a1 aH aG sz kH f kG g ht u xt xu hu r h0 n0 _ T2.heap _
    rw [e2]
    exact ⟨rfl, N2, rfl⟩
theorem d27_21 : dc kB46 21 (.aload_n 0) 1 := by decide +kernel
theorem d27_22 : dc kB46 22 (.iload_n 3) 1 := by decide +kernel
theorem d27_23 : dc kB46 23 (.aload_n 1) 1 := by decide +kernel
theorem d27_24 : dc kB46 24 (.aload_n 1) 1 := by decide +kernel
theorem d27_25 : dc kB46 25 (.invokevirtual 13) 3 := by decide +kernel
theorem d27_28 : dc kB46 28 (.iload_n 2) 1 := by decide +kernel
theorem d27_29 : dc kB46 29 (.invokevirtual 29) 3 := by decide +kernel
theorem pd_19 : parseMethodDescriptor "(ILjava/lang/Object;II)V" = some ⟨[.int, (.object "java/lang/Object"), .int, .int], none⟩ := by decide +kernel
theorem d27_32 : dc kB46 32 (.goto 11) 3 := by decide +kernel
theorem ef_rm27n (m : MethodId) (a0 a1 : Addr) (p2 : Int32) : entryFrame m #[(.ref a0), (.ref a1), (.int p2)] 5 = mkF m 0 #[vR a0, vR a1, vI p2, .unset, .unset] [] := by first | (simp [entryFrame, mkF, argsToLocals, Value.category]; done) | rfl
def Q27n (Z : State) (a0 a1 : Addr) (p2 : Int32) (aH aG : Addr) (sz : Int32) (kH : ClassId) (f : Nat → Value) (kG : ClassId) (g : Nat → Value) (ht : Int32) (u : Addr) (xt xu : Int64) (hu r : Int32) (h0 : Heap) (n0 : Nat) (v : Option Value) (h : Heap) (L : List Loc) : Prop := v = some (.int p2) ∧ Fr n0 L ∧ Keep h0 h [aH, aG, a0] ∧ Exa Z h aH cOA ∧ own_Arf Z h aH kH (.object "java/lang/Object") (4 : Int32) (own_upd f (((-1 : Int32) - r)).toNatClampNeg (.ref a1)) ∧ Exa Z h aG "[J" ∧ own_Arf Z h aG kG .long (4 : Int32) (own_upd g (((-1 : Int32) - r)).toNatClampNeg (.long (own_hc ht p2))) ∧ Exa Z h a0 cTC ∧ Fld Z h a0 cSL "held" cOA (.ref aH) ∧ Fld Z h a0 cSL "hashesAndCounts" "[J" (.ref aG) ∧ Fld Z h a0 cSL "size" "I" (.int (sz + (1 : Int32)))
theorem rm27n (l : Launch) (Z : State) (az : Array Value) (hw : HW Z az) (ws : List Jvm.Cond) (a0 a1 : Addr) (p2 : Int32) (aH aG : Addr) (sz : Int32) (kH : ClassId) (f : Nat → Value) (kG : ClassId) (g : Nat → Value) (ht : Int32) (u : Addr) (xt xu : Int64) (hu r : Int32) (h0 : Heap) (n0 : Nat) (Z0 : n0 ≤ h0.size) (E_a0 : Exa Z h0 a0 cTC) (F_held_a0 : Fld Z h0 a0 cSL "held" cOA (.ref aH)) (F_hashesAndCounts_a0 : Fld Z h0 a0 cSL "hashesAndCounts" "[J" (.ref aG)) (F_size_a0 : Fld Z h0 a0 cSL "size" "I" (.int sz)) (V_aH : own_Arf Z h0 aH kH (.object "java/lang/Object") (4 : Int32) f) (E_aH : Exa Z h0 aH cOA) (O_kH : Ovr Z kH "java/lang/Object") (V_aG : own_Arf Z h0 aG kG .long (4 : Int32) g) (E_aG : Exa Z h0 aG "[J") (E_a1 : Exa Z h0 a1 cTU) (F_hash_a1 : Fld Z h0 a1 cTU "hash" "I" (.int ht)) (J_tp : own_TP Z h0 a1 u xt xu ht hu) (hFR : own_FR f g a1 u xt xu ht hu r) (hc13 : r < (0 : Int32)) (hc14 : ¬ (p2 = (0 : Int32))) (hc15 : ¬ (sz = (3 : Int32))) (hc16 : ¬ (((-1 : Int32) - r) < (0 : Int32))) (hc17 : ((-1 : Int32) - r) < (4 : Int32)) (g_aH : n0 ≤ aH) (g_aG : n0 ≤ aG) (g_a0 : n0 ≤ a0) (hc21 : (sz + (1 : Int32)) < (3 : Int32)) :
    MF l Z h0 ws ⟨cTC, "add", dI⟩ kB46 5 (some .int) ⟨8, 0, 0, 120⟩ #[(.ref a0), (.ref a1), (.int p2)] (Q27n Z a0 a1 p2 aH aG sz kH f kG g ht u xt xu hu r h0 n0) := by
  refine own_body cTC n0 rfl (plainFor_of_name pn_com_example_reteweave_reteweave_network_TupleCounts) (fun m => ef_rm27n m a0 a1 p2) ?_
  intro p e s m below meth c s₁ Bd hx hby hml hown hZ X0 e0 N0 pre0
  obtain ⟨cq1, kq1, q1a, q1b, q1c⟩ := isOf hZ e0 E_a1
  obtain ⟨_, _, ⟨T1, L1, k1', n1'⟩, -, X1, ⟨Lc1, hQ1, l1, y1, z1⟩, st1⟩ := X0.virtualBack hx (y := ⟨cTU, "hashCode", "()I"⟩) (z := ⟨cTU, "hashCode", "()I"⟩) hown (mvT hZ (w163 hw)) (mvT hZ (w164 hw)) (notFace_of_selects (args := #[]) (mvT hZ (w166 hw))) (mvT hZ (w166 hw)) (mvT hZ (w165 hw)) (by decide) (backOf (W := 1) (rm23 l Z az hw [] a1 ht h0 n0 Z0 F_hash_a1) hZ (w167 hw) (w13 hw) (by decide) (by decide)) q1a q1c (g := (mkF m 2 #[vR a0, vR a1, vI p2, .unset, .unset] [(.ref a1), (.ref a0)])) rfl (by rw [hml]; rfl) (Steps.refl _) (argsL := []) (rest := [(.ref a0)]) (lenOf pd_3 rfl) rfl (Nat.le_of_eq rfl) (hb hby d27_2) (fun _ _ => ⟨rfl, e0, (own_nle rfl), (own_nle rfl)⟩)
  dsimp only [Pt.U, Pt.locs, Pt.cells, Pt.slots] at X1 l1 y1 z1 st1 hQ1
  subst l1 y1 z1
  obtain ⟨rfl, N1q, e1⟩ := hQ1
  obtain ⟨Lg1, X1', N1⟩ := own_gen X1 (Fr.app N0 N1q)
  obtain ⟨cq2, kq2, q2a, q2b, q2c⟩ := isOf hZ e1 E_a0
  obtain ⟨_, _, ⟨T2, L2, k2', n2'⟩, -, X2, ⟨Lc2, hQ2, l2, y2, z2⟩, st2⟩ := X1'.virtualBackUp hx (x := ⟨cTC, "find", dG⟩) (y := ⟨cSL, "find", dG⟩) (owner := cSL) hown (mvT hZ (w168 hw)) (mvT hZ (w169 hw)) (mvT hZ (w170 hw)) (by decide) (mvT hZ (w172 hw)) (mvT hZ (w171 hw)) (backOf (W := 0) (rmF l Z az hw [] a0 ht a1 aH aG kH f kG g u xt xu hu r h0 n0 Z0 E_a0 F_held_a0 F_hashesAndCounts_a0 V_aH E_aH V_aG E_aG J_tp hFR) hZ (w173 hw) (w111 hw) (by decide) (by decide)) q2a q2c (g := (mkF m 6 #[vR a0, vR a1, vI p2, .unset, .unset] [(.ref a1), (.int ht), (.ref a0)])) rfl (by rw [hml]; rfl) (Steps.refl _) (argsL := [(.int ht), (.ref a1)]) (rest := []) (lenOf pd_16 rfl) rfl (Nat.le_of_eq rfl) (hb hby d27_6) (fun _ _ => ⟨rfl, e1, (own_nle rfl), (own_nle rfl)⟩)
  dsimp only [Pt.U, Pt.locs, Pt.cells, Pt.slots] at X2 l2 y2 z2 st2 hQ2
  subst l2 y2 z2
  obtain ⟨rfl, N2q, e2⟩ := hQ2
  obtain ⟨Lg2, X2', N2⟩ := own_gen X2 (Fr.app N1 N2q)
  obtain ⟨cq3, kq3, q3a, q3b, q3c⟩ := isOf hZ e2 E_a1
  obtain ⟨_, _, ⟨T3, L3, k3', n3'⟩, -, X3, ⟨Lc3, hQ3, l3, y3, z3⟩, st3⟩ := X2'.virtualBack hx (y := ⟨cTU, "hashCode", "()I"⟩) (z := ⟨cTU, "hashCode", "()I"⟩) hown (mvT hZ (w163 hw)) (mvT hZ (w164 hw)) (notFace_of_selects (args := #[]) (mvT hZ (w166 hw))) (mvT hZ (w166 hw)) (mvT hZ (w165 hw)) (by decide) (backOf (W := 3) (rm23 l Z az hw [] a1 ht h0 n0 Z0 F_hash_a1) hZ (w167 hw) (w13 hw) (by decide) (by decide)) q3a q3c (g := (mkF m 25 #[vR a0, vR a1, vI p2, vI r, vI p2] [(.ref a1), (.ref a1), (.int r), (.ref a0)])) rfl (by rw [hml]; rfl) (Steps.refl _) (argsL := []) (rest := [(.ref a1), (.int r), (.ref a0)]) (lenOf pd_3 rfl) rfl (Nat.le_of_eq rfl) (hb hby d27_25) (fun _ _ => ⟨rfl, e2, (own_nle rfl), (own_nle rfl)⟩)
  dsimp only [Pt.U, Pt.locs, Pt.cells, Pt.slots] at X3 l3 y3 z3 st3 hQ3
  subst l3 y3 z3
  obtain ⟨rfl, N3q, e3⟩ := hQ3
  obtain ⟨Lg3, X3', N3⟩ := own_gen X3 (Fr.app N2 N3q)
  obtain ⟨cq4, kq4, q4a, q4b, q4c⟩ := isOf hZ e3 E_a0
  obtain ⟨_, _, ⟨T4, L4, k4', n4'⟩, -, X4, ⟨Lc4, hQ4, l4, y4, z4⟩, st4⟩ := X3'.virtualBackUp hx (x := ⟨cTC, "insert", "(ILjava/lang/Object;II)V"⟩) (y := ⟨cSL, "insert", "(ILjava/lang/Object;II)V"⟩) (owner := cSL) hown (mvT hZ (w246 hw)) (mvT hZ (w247 hw)) (mvT hZ (w248 hw)) (by decide) (mvT hZ (w250 hw)) (mvT hZ (w249 hw)) (backOf (W := 0) (rm36 l Z az hw [] a0 r a1 ht p2 aH aG sz kH f kG g h0 n0 Z0 E_a0 F_held_a0 F_hashesAndCounts_a0 F_size_a0 V_aH E_aH O_kH V_aG E_aG E_a1 hc15 hc16 hc17 g_aH g_aG g_a0 hc21) hZ (w251 hw) (w111 hw) (by decide) (by decide)) q4a q4c (g := (mkF m 29 #[vR a0, vR a1, vI p2, vI r, vI p2] [(.int p2), (.int ht), (.ref a1), (.int r), (.ref a0)])) rfl (by rw [hml]; rfl) (Steps.refl _) (argsL := [(.int r), (.ref a1), (.int ht), (.int p2)]) (rest := []) (lenOf pd_19 rfl) rfl (Nat.le_of_eq rfl) (hb hby d27_29) (fun _ _ => ⟨rfl, e3, (own_nle rfl), (own_nle rfl)⟩)
  dsimp only [Pt.U, Pt.locs, Pt.cells, Pt.slots] at X4 l4 y4 z4 st4 hQ4
  subst l4 y4 z4
  obtain ⟨rfl, N4q, kq4, pf4_0, pf4_1, pf4_2, pf4_3, pf4_4, pf4_5, pf4_6, pf4_7⟩ := hQ4
  obtain ⟨Lg4, X4', N4⟩ := own_gen X4 (Fr.app N3 N4q)
  have K4 : Keep h0 T4.heap [aH, aG, a0] := (Keep.refl h0 [aH, aG, a0]).trans kq4 (allS (Or.inl (mg 0 rfl)) (allS (Or.inl (mg 1 rfl)) (allS (Or.inl (mg 2 rfl)) all0)))
  have Z4 : n0 ≤ T4.heap.size := Nat.le_trans Z0 kq4.1
  obtain ⟨fs, hr, hrun, hended, hW, hsame⟩ := X4'.leave (v := some (.int p2)) (fun h => by rw [Bd.returns] at h; cases h) Bd.notSynchronized
  refine ⟨_, _, pre0 _ ?_, hrun, hended, _, _, rfl, ?_, ⟨_, rfl⟩, hW, hsame.mono (by decide) (by decide)⟩
  · show SP p e below s₁ (mkF m 0 #[vR a0, vR a1, vI p2, .unset, .unset] []) _
    refine XS.aloadN X0.here hx rfl (hb hby d27_0) rfl rfl ?_
    refine XS.aloadN X0.here hx rfl (hb hby d27_1) rfl rfl ?_
    show SP p e below s₁ (mkF m 2 #[vR a0, vR a1, vI p2, .unset, .unset] [(.ref a1), (.ref a0)]) _
    refine st1.trans ?_
    show SP p e below T1 (mkF m 5 #[vR a0, vR a1, vI p2, .unset, .unset] [(.int ht), (.ref a0)]) _
    refine XS.aloadN X1'.here hx rfl (hb hby d27_5) rfl rfl ?_
    show SP p e below T1 (mkF m 6 #[vR a0, vR a1, vI p2, .unset, .unset] [(.ref a1), (.int ht), (.ref a0)]) _
    refine st2.trans ?_
    show SP p e below T2 (mkF m 9 #[vR a0, vR a1, vI p2, .unset, .unset] [(.int r)]) _
    refine XS.istoreN X2'.here hx rfl (hb hby d27_9) rfl (l' := #[vR a0, vR a1, vI p2, vI r, .unset]) rfl ?_
    refine XS.iloadN X2'.here hx rfl (hb hby d27_10) rfl ?_
    refine XS.ifNo X2'.here hx rfl (hb hby d27_11) rfl ((if0 _ _).trans (tlt hc13).2.1) ?_
    refine XS.iloadN X2'.here hx rfl (hb hby d27_14) rfl ?_
    refine XS.istore X2'.here hx rfl (hb hby d27_15) rfl (l' := #[vR a0, vR a1, vI p2, vI r, vI p2]) rfl ?_
    refine XS.iloadN X2'.here hx rfl (hb hby d27_17) rfl ?_
    refine XS.ifNo X2'.here hx rfl (hb hby d27_18) rfl ((if0 _ _).trans (feq hc14).1) ?_
    refine XS.aloadN X2'.here hx rfl (hb hby d27_21) rfl rfl ?_
    refine XS.iloadN X2'.here hx rfl (hb hby d27_22) rfl ?_
    refine XS.aloadN X2'.here hx rfl (hb hby d27_23) rfl rfl ?_
    refine XS.aloadN X2'.here hx rfl (hb hby d27_24) rfl rfl ?_
    show SP p e below T2 (mkF m 25 #[vR a0, vR a1, vI p2, vI r, vI p2] [(.ref a1), (.ref a1), (.int r), (.ref a0)]) _
    refine st3.trans ?_
    show SP p e below T3 (mkF m 28 #[vR a0, vR a1, vI p2, vI r, vI p2] [(.int ht), (.ref a1), (.int r), (.ref a0)]) _
    refine XS.iloadN X3'.here hx rfl (hb hby d27_28) rfl ?_
    show SP p e below T3 (mkF m 29 #[vR a0, vR a1, vI p2, vI r, vI p2] [(.int p2), (.int ht), (.ref a1), (.int r), (.ref a0)]) _
    refine st4.trans ?_
    show SP p e below T4 (mkF m 32 #[vR a0, vR a1, vI p2, vI r, vI p2] []) _
    refine XS.goto X4'.here hx rfl (pc0 := 32) (pc' := 43) rfl (hb hby d27_32) (by decide) (by decide) ?_
    refine XS.iload X4'.here hx rfl (hb hby d27_43) rfl ?_
    show SP p e below T4 (mkF m 45 #[vR a0, vR a1, vI p2, vI r, vI p2] [(.int p2)]) _
    exact retI X4' hx Bd.returns (hb hby d27_45) hr
  · show Q27n Z a0 a1 p2 aH aG sz kH f kG g ht u xt xu hu r h0 n0 _ T4.heap _
    exact ⟨rfl, N4, K4, pf4_1, pf4_0, pf4_3, pf4_2, pf4_4, pf4_5, pf4_6, pf4_7⟩
theorem d27_35 : dc kB46 35 (.aload_n 0) 1 := by decide +kernel
theorem d27_36 : dc kB46 36 (.iload_n 3) 1 := by decide +kernel
theorem d27_37 : dc kB46 37 (.iload_n 2) 1 := by decide +kernel
theorem d27_38 : dc kB46 38 (.invokevirtual 33) 3 := by decide +kernel
theorem d27_41 : dc kB46 41 (.istore 4) 2 := by decide +kernel
theorem ef_rm27s (m : MethodId) (a0 a1 : Addr) (p2 : Int32) : entryFrame m #[(.ref a0), (.ref a1), (.int p2)] 5 = mkF m 0 #[vR a0, vR a1, vI p2, .unset, .unset] [] := by first | (simp [entryFrame, mkF, argsToLocals, Value.category]; done) | rfl
def Q27s (Z : State) (a0 a1 : Addr) (p2 : Int32) (aH aG : Addr) (sz : Int32) (kH : ClassId) (f : Nat → Value) (kG : ClassId) (g : Nat → Value) (ht : Int32) (u : Addr) (xt xu : Int64) (hu r : Int32) (w : Int64) (h0 : Heap) (n0 : Nat) (v : Option Value) (h : Heap) (L : List Loc) : Prop := v = some (.int ((w.toInt32) + p2)) ∧ Fr n0 L ∧ Keep h0 h [aG] ∧ Exa Z h aG "[J" ∧ own_Arf Z h aG kG .long (4 : Int32) (own_upd g (r).toNatClampNeg (.long (own_hc (own_hh w) ((w.toInt32) + p2))))
theorem rm27s (l : Launch) (Z : State) (az : Array Value) (hw : HW Z az) (ws : List Jvm.Cond) (a0 a1 : Addr) (p2 : Int32) (aH aG : Addr) (sz : Int32) (kH : ClassId) (f : Nat → Value) (kG : ClassId) (g : Nat → Value) (ht : Int32) (u : Addr) (xt xu : Int64) (hu r : Int32) (w : Int64) (h0 : Heap) (n0 : Nat) (Z0 : n0 ≤ h0.size) (E_a0 : Exa Z h0 a0 cTC) (F_held_a0 : Fld Z h0 a0 cSL "held" cOA (.ref aH)) (F_hashesAndCounts_a0 : Fld Z h0 a0 cSL "hashesAndCounts" "[J" (.ref aG)) (F_size_a0 : Fld Z h0 a0 cSL "size" "I" (.int sz)) (V_aH : own_Arf Z h0 aH kH (.object "java/lang/Object") (4 : Int32) f) (E_aH : Exa Z h0 aH cOA) (O_kH : Ovr Z kH "java/lang/Object") (V_aG : own_Arf Z h0 aG kG .long (4 : Int32) g) (E_aG : Exa Z h0 aG "[J") (E_a1 : Exa Z h0 a1 cTU) (F_hash_a1 : Fld Z h0 a1 cTU "hash" "I" (.int ht)) (J_tp : own_TP Z h0 a1 u xt xu ht hu) (hFR : own_FR f g a1 u xt xu ht hu r) (hc13 : ¬ (r < (0 : Int32))) (hc14 : r < (4 : Int32)) (hc15 : g (r).toNatClampNeg = (.long w)) (hc16 : ¬ (((w.toInt32) + p2) = (0 : Int32))) (g_aG : n0 ≤ aG) :
    MF l Z h0 ws ⟨cTC, "add", dI⟩ kB46 5 (some .int) ⟨8, 0, 0, 120⟩ #[(.ref a0), (.ref a1), (.int p2)] (Q27s Z a0 a1 p2 aH aG sz kH f kG g ht u xt xu hu r w h0 n0) := by
  refine own_body cTC n0 rfl (plainFor_of_name pn_com_example_reteweave_reteweave_network_TupleCounts) (fun m => ef_rm27s m a0 a1 p2) ?_
  intro p e s m below meth c s₁ Bd hx hby hml hown hZ X0 e0 N0 pre0
  obtain ⟨cq1, kq1, q1a, q1b, q1c⟩ := isOf hZ e0 E_a1
  obtain ⟨_, _, ⟨T1, L1, k1', n1'⟩, -, X1, ⟨Lc1, hQ1, l1, y1, z1⟩, st1⟩ := X0.virtualBack hx (y := ⟨cTU, "hashCode", "()I"⟩) (z := ⟨cTU, "hashCode", "()I"⟩) hown (mvT hZ (w163 hw)) (mvT hZ (w164 hw)) (notFace_of_selects (args := #[]) (mvT hZ (w166 hw))) (mvT hZ (w166 hw)) (mvT hZ (w165 hw)) (by decide) (backOf (W := 1) (rm23 l Z az hw [] a1 ht h0 n0 Z0 F_hash_a1) hZ (w167 hw) (w13 hw) (by decide) (by decide)) q1a q1c (g := (mkF m 2 #[vR a0, vR a1, vI p2, .unset, .unset] [(.ref a1), (.ref a0)])) rfl (by rw [hml]; rfl) (Steps.refl _) (argsL := []) (rest := [(.ref a0)]) (lenOf pd_3 rfl) rfl (Nat.le_of_eq rfl) (hb hby d27_2) (fun _ _ => ⟨rfl, e0, (own_nle rfl), (own_nle rfl)⟩)
  dsimp only [Pt.U, Pt.locs, Pt.cells, Pt.slots] at X1 l1 y1 z1 st1 hQ1
  subst l1 y1 z1
  obtain ⟨rfl, N1q, e1⟩ := hQ1
  obtain ⟨Lg1, X1', N1⟩ := own_gen X1 (Fr.app N0 N1q)
  obtain ⟨cq2, kq2, q2a, q2b, q2c⟩ := isOf hZ e1 E_a0
  obtain ⟨_, _, ⟨T2, L2, k2', n2'⟩, -, X2, ⟨Lc2, hQ2, l2, y2, z2⟩, st2⟩ := X1'.virtualBackUp hx (x := ⟨cTC, "find", dG⟩) (y := ⟨cSL, "find", dG⟩) (owner := cSL) hown (mvT hZ (w168 hw)) (mvT hZ (w169 hw)) (mvT hZ (w170 hw)) (by decide) (mvT hZ (w172 hw)) (mvT hZ (w171 hw)) (backOf (W := 0) (rmF l Z az hw [] a0 ht a1 aH aG kH f kG g u xt xu hu r h0 n0 Z0 E_a0 F_held_a0 F_hashesAndCounts_a0 V_aH E_aH V_aG E_aG J_tp hFR) hZ (w173 hw) (w111 hw) (by decide) (by decide)) q2a q2c (g := (mkF m 6 #[vR a0, vR a1, vI p2, .unset, .unset] [(.ref a1), (.int ht), (.ref a0)])) rfl (by rw [hml]; rfl) (Steps.refl _) (argsL := [(.int ht), (.ref a1)]) (rest := []) (lenOf pd_16 rfl) rfl (Nat.le_of_eq rfl) (hb hby d27_6) (fun _ _ => ⟨rfl, e1, (own_nle rfl), (own_nle rfl)⟩)
  dsimp only [Pt.U, Pt.locs, Pt.cells, Pt.slots] at X2 l2 y2 z2 st2 hQ2
  subst l2 y2 z2
  obtain ⟨rfl, N2q, e2⟩ := hQ2
  obtain ⟨Lg2, X2', N2⟩ := own_gen X2 (Fr.app N1 N2q)
  obtain ⟨cq3, kq3, q3a, q3b, q3c⟩ := isOf hZ e2 E_a0
  obtain ⟨_, _, ⟨T3, L3, k3', n3'⟩, -, X3, ⟨Lc3, hQ3, l3, y3, z3⟩, st3⟩ := X2'.virtualBackUp hx (x := ⟨cTC, "addToCountAt", "(II)I"⟩) (y := ⟨cSL, "addToCountAt", "(II)I"⟩) (owner := cSL) hown (mvT hZ (w313 hw)) (mvT hZ (w314 hw)) (mvT hZ (w315 hw)) (by decide) (mvT hZ (w317 hw)) (mvT hZ (w316 hw)) (backOf (W := 0) (rm47s l Z az hw [] a0 r p2 aH aG sz kH f kG g w h0 n0 Z0 E_a0 F_held_a0 F_hashesAndCounts_a0 F_size_a0 V_aH E_aH V_aG E_aG hc13 hc14 hc15 hc16 g_aG) hZ (w318 hw) (w111 hw) (by decide) (by decide)) q3a q3c (g := (mkF m 38 #[vR a0, vR a1, vI p2, vI r, .unset] [(.int p2), (.int r), (.ref a0)])) rfl (by rw [hml]; rfl) (Steps.refl _) (argsL := [(.int r), (.int p2)]) (rest := []) (lenOf pd_15 rfl) rfl (Nat.le_of_eq rfl) (hb hby d27_38) (fun _ _ => ⟨rfl, e2, (own_nle rfl), (own_nle rfl)⟩)
  dsimp only [Pt.U, Pt.locs, Pt.cells, Pt.slots] at X3 l3 y3 z3 st3 hQ3
  subst l3 y3 z3
  obtain ⟨rfl, N3q, kq3, pf3_0, pf3_1⟩ := hQ3
  obtain ⟨Lg3, X3', N3⟩ := own_gen X3 (Fr.app N2 N3q)
  have K3 : Keep h0 T3.heap [aG] := (Keep.refl h0 [aG]).trans kq3 (allS (Or.inl (mg 0 rfl)) all0)
  have Z3 : n0 ≤ T3.heap.size := Nat.le_trans Z0 kq3.1
  obtain ⟨fs, hr, hrun, hended, hW, hsame⟩ := X3'.leave (v := some (.int ((w.toInt32) + p2))) (fun h => by rw [Bd.returns] at h; cases h) Bd.notSynchronized
  refine ⟨_, _, pre0 _ ?_, hrun, hended, _, _, rfl, ?_, ⟨_, rfl⟩, hW, hsame.mono (by decide) (by decide)⟩
  · show SP p e below s₁ (mkF m 0 #[vR a0, vR a1, vI p2, .unset, .unset] []) _
    refine XS.aloadN X0.here hx rfl (hb hby d27_0) rfl rfl ?_
    refine XS.aloadN X0.here hx rfl (hb hby d27_1) rfl rfl ?_
    show SP p e below s₁ (mkF m 2 #[vR a0, vR a1, vI p2, .unset, .unset] [(.ref a1), (.ref a0)]) _
    refine st1.trans ?_
    show SP p e below T1 (mkF m 5 #[vR a0, vR a1, vI p2, .unset, .unset] [(.int ht), (.ref a0)]) _
    refine XS.aloadN X1'.here hx rfl (hb hby d27_5) rfl rfl ?_
    show SP p e below T1 (mkF m 6 #[vR a0, vR a1, vI p2, .unset, .unset] [(.ref a1), (.int ht), (.ref a0)]) _
    refine st2.trans ?_
    show SP p e below T2 (mkF m 9 #[vR a0, vR a1, vI p2, .unset, .unset] [(.int r)]) _
    refine XS.istoreN X2'.here hx rfl (hb hby d27_9) rfl (l' := #[vR a0, vR a1, vI p2, vI r, .unset]) rfl ?_
    refine XS.iloadN X2'.here hx rfl (hb hby d27_10) rfl ?_
    refine XS.ifYes X2'.here hx rfl (pc0 := 11) (pc' := 35) rfl (hb hby d27_11) rfl ((if0 _ _).trans (flt hc13).2.1) (by decide) (by decide) ?_
    refine XS.aloadN X2'.here hx rfl (hb hby d27_35) rfl rfl ?_
    refine XS.iloadN X2'.here hx rfl (hb hby d27_36) rfl ?_
    refine XS.iloadN X2'.here hx rfl (hb hby d27_37) rfl ?_
    show SP p e below T2 (mkF m 38 #[vR a0, vR a1, vI p2, vI r, .unset] [(.int p2), (.int r), (.ref a0)]) _
    refine st3.trans ?_
    show SP p e below T3 (mkF m 41 #[vR a0, vR a1, vI p2, vI r, .unset] [(.int ((w.toInt32) + p2))]) _
    refine XS.istore X3'.here hx rfl (hb hby d27_41) rfl (l' := #[vR a0, vR a1, vI p2, vI r, vI ((w.toInt32) + p2)]) rfl ?_
    refine XS.iload X3'.here hx rfl (hb hby d27_43) rfl ?_
    show SP p e below T3 (mkF m 45 #[vR a0, vR a1, vI p2, vI r, vI ((w.toInt32) + p2)] [(.int ((w.toInt32) + p2))]) _
    exact retI X3' hx Bd.returns (hb hby d27_45) hr
  · show Q27s Z a0 a1 p2 aH aG sz kH f kG g ht u xt xu hu r w h0 n0 _ T3.heap _
    exact ⟨rfl, N3, K3, pf3_0, pf3_1⟩
theorem ef_rm27R (m : MethodId) (a0 a1 : Addr) (p2 : Int32) : entryFrame m #[(.ref a0), (.ref a1), (.int p2)] 5 = mkF m 0 #[vR a0, vR a1, vI p2, .unset, .unset] [] := by first | (simp [entryFrame, mkF, argsToLocals, Value.category]; done) | rfl
def Q27R (Z : State) (a0 a1 : Addr) (p2 : Int32) (aH aG : Addr) (sz : Int32) (kH : ClassId) (f : Nat → Value) (kG : ClassId) (g : Nat → Value) (ht : Int32) (u : Addr) (xt xu : Int64) (hu r : Int32) (w : Int64) (f2 g2 : Nat → Value) (h0 : Heap) (n0 : Nat) (v : Option Value) (h : Heap) (L : List Loc) : Prop := v = some (.int ((w.toInt32) + p2)) ∧ Fr n0 L ∧ Keep h0 h [aH, aG, a0] ∧ Exa Z h aH cOA ∧ own_Arf Z h aH kH (.object "java/lang/Object") (4 : Int32) f2 ∧ Exa Z h aG "[J" ∧ own_Arf Z h aG kG .long (4 : Int32) g2 ∧ Exa Z h a0 cTC ∧ Fld Z h a0 cSL "held" cOA (.ref aH) ∧ Fld Z h a0 cSL "hashesAndCounts" "[J" (.ref aG) ∧ Fld Z h a0 cSL "size" "I" (.int (sz - (1 : Int32)))
theorem rm27R (l : Launch) (Z : State) (az : Array Value) (hw : HW Z az) (ws : List Jvm.Cond) (a0 a1 : Addr) (p2 : Int32) (aH aG : Addr) (sz : Int32) (kH : ClassId) (f : Nat → Value) (kG : ClassId) (g : Nat → Value) (ht : Int32) (u : Addr) (xt xu : Int64) (hu r : Int32) (w : Int64) (f2 g2 : Nat → Value) (h0 : Heap) (n0 : Nat) (Z0 : n0 ≤ h0.size) (E_a0 : Exa Z h0 a0 cTC) (F_held_a0 : Fld Z h0 a0 cSL "held" cOA (.ref aH)) (F_hashesAndCounts_a0 : Fld Z h0 a0 cSL "hashesAndCounts" "[J" (.ref aG)) (F_size_a0 : Fld Z h0 a0 cSL "size" "I" (.int sz)) (V_aH : own_Arf Z h0 aH kH (.object "java/lang/Object") (4 : Int32) f) (E_aH : Exa Z h0 aH cOA) (O_kH : Ovr Z kH "java/lang/Object") (V_aG : own_Arf Z h0 aG kG .long (4 : Int32) g) (E_aG : Exa Z h0 aG "[J") (E_a1 : Exa Z h0 a1 cTU) (F_hash_a1 : Fld Z h0 a1 cTU "hash" "I" (.int ht)) (J_tp : own_TP Z h0 a1 u xt xu ht hu) (hFR : own_FR f g a1 u xt xu ht hu r) (E_u : Exa Z h0 u cTU) (hc14 : own_RR f g a1 u r f2 g2) (hc15 : ¬ (r < (0 : Int32))) (hc16 : r < (4 : Int32)) (hc17 : g (r).toNatClampNeg = (.long w)) (hc18 : ((w.toInt32) + p2) = (0 : Int32)) (g_aH : n0 ≤ aH) (g_aG : n0 ≤ aG) (g_a0 : n0 ≤ a0) :
    MF l Z h0 ws ⟨cTC, "add", dI⟩ kB46 5 (some .int) ⟨8, 0, 0, 120⟩ #[(.ref a0), (.ref a1), (.int p2)] (Q27R Z a0 a1 p2 aH aG sz kH f kG g ht u xt xu hu r w f2 g2 h0 n0) := by
  refine own_body cTC n0 rfl (plainFor_of_name pn_com_example_reteweave_reteweave_network_TupleCounts) (fun m => ef_rm27R m a0 a1 p2) ?_
  intro p e s m below meth c s₁ Bd hx hby hml hown hZ X0 e0 N0 pre0
  obtain ⟨cq1, kq1, q1a, q1b, q1c⟩ := isOf hZ e0 E_a1
  obtain ⟨_, _, ⟨T1, L1, k1', n1'⟩, -, X1, ⟨Lc1, hQ1, l1, y1, z1⟩, st1⟩ := X0.virtualBack hx (y := ⟨cTU, "hashCode", "()I"⟩) (z := ⟨cTU, "hashCode", "()I"⟩) hown (mvT hZ (w163 hw)) (mvT hZ (w164 hw)) (notFace_of_selects (args := #[]) (mvT hZ (w166 hw))) (mvT hZ (w166 hw)) (mvT hZ (w165 hw)) (by decide) (backOf (W := 1) (rm23 l Z az hw [] a1 ht h0 n0 Z0 F_hash_a1) hZ (w167 hw) (w13 hw) (by decide) (by decide)) q1a q1c (g := (mkF m 2 #[vR a0, vR a1, vI p2, .unset, .unset] [(.ref a1), (.ref a0)])) rfl (by rw [hml]; rfl) (Steps.refl _) (argsL := []) (rest := [(.ref a0)]) (lenOf pd_3 rfl) rfl (Nat.le_of_eq rfl) (hb hby d27_2) (fun _ _ => ⟨rfl, e0, (own_nle rfl), (own_nle rfl)⟩)
  dsimp only [Pt.U, Pt.locs, Pt.cells, Pt.slots] at X1 l1 y1 z1 st1 hQ1
  subst l1 y1 z1
  obtain ⟨rfl, N1q, e1⟩ := hQ1
  obtain ⟨Lg1, X1', N1⟩ := own_gen X1 (Fr.app N0 N1q)
  obtain ⟨cq2, kq2, q2a, q2b, q2c⟩ := isOf hZ e1 E_a0
  obtain ⟨_, _, ⟨T2, L2, k2', n2'⟩, -, X2, ⟨Lc2, hQ2, l2, y2, z2⟩, st2⟩ := X1'.virtualBackUp hx (x := ⟨cTC, "find", dG⟩) (y := ⟨cSL, "find", dG⟩) (owner := cSL) hown (mvT hZ (w168 hw)) (mvT hZ (w169 hw)) (mvT hZ (w170 hw)) (by decide) (mvT hZ (w172 hw)) (mvT hZ (w171 hw)) (backOf (W := 0) (rmF l Z az hw [] a0 ht a1 aH aG kH f kG g u xt xu hu r h0 n0 Z0 E_a0 F_held_a0 F_hashesAndCounts_a0 V_aH E_aH V_aG E_aG J_tp hFR) hZ (w173 hw) (w111 hw) (by decide) (by decide)) q2a q2c (g := (mkF m 6 #[vR a0, vR a1, vI p2, .unset, .unset] [(.ref a1), (.int ht), (.ref a0)])) rfl (by rw [hml]; rfl) (Steps.refl _) (argsL := [(.int ht), (.ref a1)]) (rest := []) (lenOf pd_16 rfl) rfl (Nat.le_of_eq rfl) (hb hby d27_6) (fun _ _ => ⟨rfl, e1, (own_nle rfl), (own_nle rfl)⟩)
  dsimp only [Pt.U, Pt.locs, Pt.cells, Pt.slots] at X2 l2 y2 z2 st2 hQ2
  subst l2 y2 z2
  obtain ⟨rfl, N2q, e2⟩ := hQ2
  obtain ⟨Lg2, X2', N2⟩ := own_gen X2 (Fr.app N1 N2q)
  obtain ⟨cq3, kq3, q3a, q3b, q3c⟩ := isOf hZ e2 E_a0
  obtain ⟨_, _, ⟨T3, L3, k3', n3'⟩, -, X3, ⟨Lc3, hQ3, l3, y3, z3⟩, st3⟩ := X2'.virtualBackUp hx (x := ⟨cTC, "addToCountAt", "(II)I"⟩) (y := ⟨cSL, "addToCountAt", "(II)I"⟩) (owner := cSL) hown (mvT hZ (w313 hw)) (mvT hZ (w314 hw)) (mvT hZ (w315 hw)) (by decide) (mvT hZ (w317 hw)) (mvT hZ (w316 hw)) (backOf (W := 0) (rm47R l Z az hw [] a0 r p2 aH aG sz kH f kG g w a1 u f2 g2 h0 n0 Z0 E_a0 F_held_a0 F_hashesAndCounts_a0 F_size_a0 V_aH E_aH O_kH V_aG E_aG E_a1 E_u hc14 hc15 hc16 hc17 hc18 g_aH g_aG g_a0) hZ (w318 hw) (w111 hw) (by decide) (by decide)) q3a q3c (g := (mkF m 38 #[vR a0, vR a1, vI p2, vI r, .unset] [(.int p2), (.int r), (.ref a0)])) rfl (by rw [hml]; rfl) (Steps.refl _) (argsL := [(.int r), (.int p2)]) (rest := []) (lenOf pd_15 rfl) rfl (Nat.le_of_eq rfl) (hb hby d27_38) (fun _ _ => ⟨rfl, e2, (own_nle rfl), (own_nle rfl)⟩)
  dsimp only [Pt.U, Pt.locs, Pt.cells, Pt.slots] at X3 l3 y3 z3 st3 hQ3
  subst l3 y3 z3
  obtain ⟨rfl, N3q, kq3, pf3_0, pf3_1, pf3_2, pf3_3, pf3_4, pf3_5, pf3_6, pf3_7⟩ := hQ3
  obtain ⟨Lg3, X3', N3⟩ := own_gen X3 (Fr.app N2 N3q)
  have K3 : Keep h0 T3.heap [aH, aG, a0] := (Keep.refl h0 [aH, aG, a0]).trans kq3 (allS (Or.inl (mg 0 rfl)) (allS (Or.inl (mg 1 rfl)) (allS (Or.inl (mg 2 rfl)) all0)))
  have Z3 : n0 ≤ T3.heap.size := Nat.le_trans Z0 kq3.1
  obtain ⟨fs, hr, hrun, hended, hW, hsame⟩ := X3'.leave (v := some (.int ((w.toInt32) + p2))) (fun h => by rw [Bd.returns] at h; cases h) Bd.notSynchronized
  refine ⟨_, _, pre0 _ ?_, hrun, hended, _, _, rfl, ?_, ⟨_, rfl⟩, hW, hsame.mono (by decide) (by decide)⟩
  · show SP p e below s₁ (mkF m 0 #[vR a0, vR a1, vI p2, .unset, .unset] []) _
    refine XS.aloadN X0.here hx rfl (hb hby d27_0) rfl rfl ?_
    refine XS.aloadN X0.here hx rfl (hb hby d27_1) rfl rfl ?_
    show SP p e below s₁ (mkF m 2 #[vR a0, vR a1, vI p2, .unset, .unset] [(.ref a1), (.ref a0)]) _
    refine st1.trans ?_
    show SP p e below T1 (mkF m 5 #[vR a0, vR a1, vI p2, .unset, .unset] [(.int ht), (.ref a0)]) _
    refine XS.aloadN X1'.here hx rfl (hb hby d27_5) rfl rfl ?_
    show SP p e below T1 (mkF m 6 #[vR a0, vR a1, vI p2, .unset, .unset] [(.ref a1), (.int ht), (.ref a0)]) _
    refine st2.trans ?_
    show SP p e below T2 (mkF m 9 #[vR a0, vR a1, vI p2, .unset, .unset] [(.int r)]) _
    refine XS.istoreN X2'.here hx rfl (hb hby d27_9) rfl (l' := #[vR a0, vR a1, vI p2, vI r, .unset]) rfl ?_
    refine XS.iloadN X2'.here hx rfl (hb hby d27_10) rfl ?_
    refine XS.ifYes X2'.here hx rfl (pc0 := 11) (pc' := 35) rfl (hb hby d27_11) rfl ((if0 _ _).trans (flt hc15).2.1) (by decide) (by decide) ?_
    refine XS.aloadN X2'.here hx rfl (hb hby d27_35) rfl rfl ?_
    refine XS.iloadN X2'.here hx rfl (hb hby d27_36) rfl ?_
    refine XS.iloadN X2'.here hx rfl (hb hby d27_37) rfl ?_
    show SP p e below T2 (mkF m 38 #[vR a0, vR a1, vI p2, vI r, .unset] [(.int p2), (.int r), (.ref a0)]) _
    refine st3.trans ?_
    show SP p e below T3 (mkF m 41 #[vR a0, vR a1, vI p2, vI r, .unset] [(.int ((w.toInt32) + p2))]) _
    refine XS.istore X3'.here hx rfl (hb hby d27_41) rfl (l' := #[vR a0, vR a1, vI p2, vI r, vI ((w.toInt32) + p2)]) rfl ?_
    refine XS.iload X3'.here hx rfl (hb hby d27_43) rfl ?_
    show SP p e below T3 (mkF m 45 #[vR a0, vR a1, vI p2, vI r, vI ((w.toInt32) + p2)] [(.int ((w.toInt32) + p2))]) _
    exact retI X3' hx Bd.returns (hb hby d27_45) hr
  · show Q27R Z a0 a1 p2 aH aG sz kH f kG g ht u xt xu hu r w f2 g2 h0 n0 _ T3.heap _
    exact ⟨rfl, N3, K3, pf3_0, pf3_1, pf3_2, pf3_3, pf3_4, pf3_5, pf3_6, pf3_7⟩
theorem d21_0 : dc kB52 0 (.aload_n 0) 1 := by decide +kernel
theorem d21_1 : dc kB52 1 (.getfield 10) 3 := by decide +kernel
theorem d21_4 : dc kB52 4 (.aload_n 1) 1 := by decide +kernel
theorem d21_5 : dc kB52 5 (.invokevirtual 16) 3 := by decide +kernel
theorem pd_20 : parseMethodDescriptor "(Lcom/example/reteweave/reteweave/network/Tuple;)I" = some ⟨[(.object "com/example/reteweave/reteweave/network/Tuple")], some .int⟩ := by decide +kernel
theorem d21_8 : dc kB52 8 (.istore_n 3) 1 := by decide +kernel
theorem d21_9 : dc kB52 9 (.iload_n 3) 1 := by decide +kernel
theorem d21_10 : dc kB52 10 (.iload_n 2) 1 := by decide +kernel
theorem d21_11 : dc kB52 11 .iadd 1 := by decide +kernel
theorem d21_12 : dc kB52 12 (.istore 4) 2 := by decide +kernel
theorem d21_14 : dc kB52 14 (.iload 4) 2 := by decide +kernel
theorem d21_16 : dc kB52 16 (.ifCond .ge 23) 3 := by decide +kernel
theorem d21_39 : dc kB52 39 (.aload_n 0) 1 := by decide +kernel
theorem d21_40 : dc kB52 40 (.getfield 10) 3 := by decide +kernel
theorem d21_43 : dc kB52 43 (.aload_n 1) 1 := by decide +kernel
theorem d21_44 : dc kB52 44 (.iload_n 2) 1 := by decide +kernel
theorem d21_45 : dc kB52 45 (.invokevirtual 35) 3 := by decide +kernel
theorem pd_21 : parseMethodDescriptor "(Lcom/example/reteweave/reteweave/network/Tuple;I)I" = some ⟨[(.object "com/example/reteweave/reteweave/network/Tuple"), .int], some .int⟩ := by decide +kernel
theorem d21_48 : dc kB52 48 .pop 1 := by decide +kernel
theorem d21_49 : dc kB52 49 (.iconst 0) 1 := by decide +kernel
theorem d21_50 : dc kB52 50 (.istore 5) 2 := by decide +kernel
theorem d21_52 : dc kB52 52 (.iload_n 3) 1 := by decide +kernel
theorem d21_53 : dc kB52 53 (.ifCond .ne 14) 3 := by decide +kernel
theorem d21_56 : dc kB52 56 (.iload 4) 2 := by decide +kernel
theorem d21_58 : dc kB52 58 (.ifCond .le 9) 3 := by decide +kernel
theorem d21_67 : dc kB52 67 (.iload_n 3) 1 := by decide +kernel
theorem d21_68 : dc kB52 68 (.ifCond .le 11) 3 := by decide +kernel
theorem d21_79 : dc kB52 79 (.iload 5) 2 := by decide +kernel
theorem d21_81 : dc kB52 81 .ireturn 1 := by decide +kernel
theorem ef_rm21i (m : MethodId) (a0 a1 : Addr) : entryFrame m #[(.ref a0), (.ref a1), (.int (0 : Int32))] 6 = mkF m 0 #[vR a0, vR a1, vI (0 : Int32), .unset, .unset, .unset] [] := by first | (simp [entryFrame, mkF, argsToLocals, Value.category]; done) | rfl
def Q21i (Z : State) (a0 a1 ct aH aG : Addr) (sz : Int32) (kH : ClassId) (f : Nat → Value) (kG : ClassId) (g : Nat → Value) (ht : Int32) (u : Addr) (xt xu : Int64) (hu r : Int32) (h0 : Heap) (n0 : Nat) (v : Option Value) (h : Heap) (L : List Loc) : Prop := v = some (.int (0 : Int32)) ∧ Fr n0 L ∧ h = h0
theorem rm21i (l : Launch) (Z : State) (az : Array Value) (hw : HW Z az) (ws : List Jvm.Cond) (a0 a1 ct aH aG : Addr) (sz : Int32) (kH : ClassId) (f : Nat → Value) (kG : ClassId) (g : Nat → Value) (ht : Int32) (u : Addr) (xt xu : Int64) (hu r : Int32) (h0 : Heap) (n0 : Nat) (Z0 : n0 ≤ h0.size) (E_a0 : Exa Z h0 a0 cDV) (F_counts_a0 : Fld Z h0 a0 cDV "counts" dC (.ref ct)) (E_ct : Exa Z h0 ct cTC) (F_held_ct : Fld Z h0 ct cSL "held" cOA (.ref aH)) (F_hashesAndCounts_ct : Fld Z h0 ct cSL "hashesAndCounts" "[J" (.ref aG)) (F_size_ct : Fld Z h0 ct cSL "size" "I" (.int sz)) (V_aH : own_Arf Z h0 aH kH (.object "java/lang/Object") (4 : Int32) f) (E_aH : Exa Z h0 aH cOA) (O_kH : Ovr Z kH "java/lang/Object") (V_aG : own_Arf Z h0 aG kG .long (4 : Int32) g) (E_aG : Exa Z h0 aG "[J") (E_a1 : Exa Z h0 a1 cTU) (F_hash_a1 : Fld Z h0 a1 cTU "hash" "I" (.int ht)) (J_tp : own_TP Z h0 a1 u xt xu ht hu) (hFR : own_FR f g a1 u xt xu ht hu r) (hc15 : r < (0 : Int32)) :
    MF l Z h0 ws ⟨cDV, "add", dI⟩ kB52 6 (some .int) ⟨9, 0, 0, 140⟩ #[(.ref a0), (.ref a1), (.int (0 : Int32))] (Q21i Z a0 a1 ct aH aG sz kH f kG g ht u xt xu hu r h0 n0) := by
  refine own_body cDV n0 rfl (plainFor_of_name pn_com_example_reteweave_reteweave_network_Derivations) (fun m => ef_rm21i m a0 a1) ?_
  intro p e s m below meth c s₁ Bd hx hby hml hown hZ X0 e0 N0 pre0
  obtain ⟨T1, X1, e1, st1⟩ := getF X0 hx hZ hown (host := "") (Or.inl (w120 hw)) Via.refl e0 F_counts_a0 (g := (mkF m 1 #[vR a0, vR a1, vI (0 : Int32), .unset, .unset, .unset] [(.ref a0)])) rfl rfl (hb hby d21_1)
  obtain ⟨cq2, kq2, q2a, q2b, q2c⟩ := isOf hZ e1 E_ct
  obtain ⟨_, _, ⟨T2, L2, k2', n2'⟩, -, X2, ⟨Lc2, hQ2, l2, y2, z2⟩, st2⟩ := X1.virtualBack hx (y := ⟨cTC, "count", dN⟩) (z := ⟨cTC, "count", dN⟩) hown (mvT hZ (w158 hw)) (mvT hZ (w159 hw)) (notFace_of_selects (args := #[]) (mvT hZ (w161 hw))) (mvT hZ (w161 hw)) (mvT hZ (w160 hw)) (by decide) (backOf (W := 0) (rm22N l Z az hw [] ct a1 aH aG kH f kG g ht u xt xu hu r h0 n0 Z0 E_ct F_held_ct F_hashesAndCounts_ct V_aH E_aH V_aG E_aG E_a1 F_hash_a1 J_tp hFR hc15) hZ (w162 hw) (w104 hw) (by decide) (by decide)) q2a q2c (g := (mkF m 5 #[vR a0, vR a1, vI (0 : Int32), .unset, .unset, .unset] [(.ref a1), (.ref ct)])) rfl (by rw [hml]; rfl) (Steps.refl _) (argsL := [(.ref a1)]) (rest := []) (lenOf pd_20 rfl) rfl (Nat.le_of_eq rfl) (hb hby d21_5) (fun _ _ => ⟨rfl, e1, (own_nle rfl), (own_nle rfl)⟩)
  dsimp only [Pt.U, Pt.locs, Pt.cells, Pt.slots] at X2 l2 y2 z2 st2 hQ2
  subst l2 y2 z2
  obtain ⟨rfl, N2q, e2⟩ := hQ2
  obtain ⟨Lg2, X2', N2⟩ := own_gen X2 (Fr.app N0 N2q)
  obtain ⟨T3, X3, e3, st3⟩ := getF X2' hx hZ hown (host := "") (Or.inl (w120 hw)) Via.refl e2 F_counts_a0 (g := (mkF m 40 #[vR a0, vR a1, vI (0 : Int32), vI (0 : Int32), vI (0 : Int32), .unset] [(.ref a0)])) rfl rfl (hb hby d21_40)
  obtain ⟨cq4, kq4, q4a, q4b, q4c⟩ := isOf hZ e3 E_ct
  obtain ⟨_, _, ⟨T4, L4, k4', n4'⟩, -, X4, ⟨Lc4, hQ4, l4, y4, z4⟩, st4⟩ := X3.virtualBack hx (y := ⟨cTC, "add", dI⟩) (z := ⟨cTC, "add", dI⟩) hown (mvT hZ (w183 hw)) (mvT hZ (w184 hw)) (notFace_of_selects (args := #[]) (mvT hZ (w186 hw))) (mvT hZ (w186 hw)) (mvT hZ (w185 hw)) (by decide) (backOf (W := 0) (rm27i l Z az hw [] ct a1 aH aG sz kH f kG g ht u xt xu hu r h0 n0 Z0 E_ct F_held_ct F_hashesAndCounts_ct F_size_ct V_aH E_aH O_kH V_aG E_aG E_a1 F_hash_a1 J_tp hFR hc15) hZ (w187 hw) (w104 hw) (by decide) (by decide)) q4a q4c (g := (mkF m 45 #[vR a0, vR a1, vI (0 : Int32), vI (0 : Int32), vI (0 : Int32), .unset] [(.int (0 : Int32)), (.ref a1), (.ref ct)])) rfl (by rw [hml]; rfl) (Steps.refl _) (argsL := [(.ref a1), (.int (0 : Int32))]) (rest := []) (lenOf pd_21 rfl) rfl (Nat.le_of_eq rfl) (hb hby d21_45) (fun _ _ => ⟨rfl, e3, (own_nle rfl), (own_nle rfl)⟩)
  dsimp only [Pt.U, Pt.locs, Pt.cells, Pt.slots] at X4 l4 y4 z4 st4 hQ4
  subst l4 y4 z4
  obtain ⟨rfl, N4q, e4⟩ := hQ4
  obtain ⟨Lg4, X4', N4⟩ := own_gen X4 (Fr.app N2 N4q)
  obtain ⟨fs, hr, hrun, hended, hW, hsame⟩ := X4'.leave (v := some (.int (0 : Int32))) (fun h => by rw [Bd.returns] at h; cases h) Bd.notSynchronized
  refine ⟨_, _, pre0 _ ?_, hrun, hended, _, _, rfl, ?_, ⟨_, rfl⟩, hW, hsame.mono (by decide) (by decide)⟩
  · show SP p e below s₁ (mkF m 0 #[vR a0, vR a1, vI (0 : Int32), .unset, .unset, .unset] []) _
    refine XS.aloadN X0.here hx rfl (hb hby d21_0) rfl rfl ?_
    show SP p e below s₁ (mkF m 1 #[vR a0, vR a1, vI (0 : Int32), .unset, .unset, .unset] [(.ref a0)]) _
    refine st1 _ ?_
    show SP p e below T1 (mkF m 4 #[vR a0, vR a1, vI (0 : Int32), .unset, .unset, .unset] [(.ref ct)]) _
    refine XS.aloadN X1.here hx rfl (hb hby d21_4) rfl rfl ?_
    show SP p e below T1 (mkF m 5 #[vR a0, vR a1, vI (0 : Int32), .unset, .unset, .unset] [(.ref a1), (.ref ct)]) _
    refine st2.trans ?_
    show SP p e below T2 (mkF m 8 #[vR a0, vR a1, vI (0 : Int32), .unset, .unset, .unset] [(.int (0 : Int32))]) _
    refine XS.istoreN X2'.here hx rfl (hb hby d21_8) rfl (l' := #[vR a0, vR a1, vI (0 : Int32), vI (0 : Int32), .unset, .unset]) rfl ?_
    refine XS.iloadN X2'.here hx rfl (hb hby d21_9) rfl ?_
    refine XS.iloadN X2'.here hx rfl (hb hby d21_10) rfl ?_
    refine XS.iadd X2'.here hx rfl (hb hby d21_11) rfl ?_
    refine XS.istore X2'.here hx rfl (hb hby d21_12) rfl (l' := #[vR a0, vR a1, vI (0 : Int32), vI (0 : Int32), vI (0 : Int32), .unset]) rfl ?_
    refine XS.iload X2'.here hx rfl (hb hby d21_14) rfl ?_
    refine XS.ifYes X2'.here hx rfl (pc0 := 16) (pc' := 39) rfl (hb hby d21_16) rfl ((if0 _ _).trans (flt (by decide : ¬ ((0 : Int32) < (0 : Int32)))).2.1) (by decide) (by decide) ?_
    refine XS.aloadN X2'.here hx rfl (hb hby d21_39) rfl rfl ?_
    show SP p e below T2 (mkF m 40 #[vR a0, vR a1, vI (0 : Int32), vI (0 : Int32), vI (0 : Int32), .unset] [(.ref a0)]) _
    refine st3 _ ?_
    show SP p e below T3 (mkF m 43 #[vR a0, vR a1, vI (0 : Int32), vI (0 : Int32), vI (0 : Int32), .unset] [(.ref ct)]) _
    refine XS.aloadN X3.here hx rfl (hb hby d21_43) rfl rfl ?_
    refine XS.iloadN X3.here hx rfl (hb hby d21_44) rfl ?_
    show SP p e below T3 (mkF m 45 #[vR a0, vR a1, vI (0 : Int32), vI (0 : Int32), vI (0 : Int32), .unset] [(.int (0 : Int32)), (.ref a1), (.ref ct)]) _
    refine st4.trans ?_
    show SP p e below T4 (mkF m 48 #[vR a0, vR a1, vI (0 : Int32), vI (0 : Int32), vI (0 : Int32), .unset] [(.int (0 : Int32))]) _
    refine XS.pop X4'.here hx rfl (hb hby d21_48) rfl rfl ?_
    refine XS.iconst X4'.here hx rfl (hb hby d21_49) ?_
    refine XS.istore X4'.here hx rfl (hb hby d21_50) rfl (l' := #[vR a0, vR a1, vI (0 : Int32), vI (0 : Int32), vI (0 : Int32), vI (0 : Int32)]) rfl ?_
    refine XS.iloadN X4'.here hx rfl (hb hby d21_52) rfl ?_
    refine XS.ifNo X4'.here hx rfl (hb hby d21_53) rfl ((if0 _ _).trans (teq (by decide : (0 : Int32) = (0 : Int32))).2) ?_
    refine XS.iload X4'.here hx rfl (hb hby d21_56) rfl ?_
    refine XS.ifYes X4'.here hx rfl (pc0 := 58) (pc' := 67) rfl (hb hby d21_58) rfl ((if0 _ _).trans (flt (by decide : ¬ ((0 : Int32) < (0 : Int32)))).2.2.2) (by decide) (by decide) ?_
    refine XS.iloadN X4'.here hx rfl (hb hby d21_67) rfl ?_
    refine XS.ifYes X4'.here hx rfl (pc0 := 68) (pc' := 79) rfl (hb hby d21_68) rfl ((if0 _ _).trans (flt (by decide : ¬ ((0 : Int32) < (0 : Int32)))).2.2.2) (by decide) (by decide) ?_
    refine XS.iload X4'.here hx rfl (hb hby d21_79) rfl ?_
    show SP p e below T4 (mkF m 81 #[vR a0, vR a1, vI (0 : Int32), vI (0 : Int32), vI (0 : Int32), vI (0 : Int32)] [(.int (0 : Int32))]) _
    exact retI X4' hx Bd.returns (hb hby d21_81) hr
  · show Q21i Z a0 a1 ct aH aG sz kH f kG g ht u xt xu hu r h0 n0 _ T4.heap _
    rw [e4]
    exact ⟨rfl, N4, rfl⟩
theorem d21_61 : dc kB52 61 (.iconst 1) 1 := by decide +kernel
theorem d21_62 : dc kB52 62 (.istore 5) 2 := by decide +kernel
theorem d21_64 : dc kB52 64 (.goto 15) 3 := by decide +kernel
theorem ef_rm21n (m : MethodId) (a0 a1 : Addr) (p2 : Int32) : entryFrame m #[(.ref a0), (.ref a1), (.int p2)] 6 = mkF m 0 #[vR a0, vR a1, vI p2, .unset, .unset, .unset] [] := by first | (simp [entryFrame, mkF, argsToLocals, Value.category]; done) | rfl
def Q21n (Z : State) (a0 a1 : Addr) (p2 : Int32) (ct aH aG : Addr) (sz : Int32) (kH : ClassId) (f : Nat → Value) (kG : ClassId) (g : Nat → Value) (ht : Int32) (u : Addr) (xt xu : Int64) (hu r : Int32) (h0 : Heap) (n0 : Nat) (v : Option Value) (h : Heap) (L : List Loc) : Prop := v = some (.int (1 : Int32)) ∧ Fr n0 L ∧ Keep h0 h [aH, aG, ct] ∧ Exa Z h aH cOA ∧ own_Arf Z h aH kH (.object "java/lang/Object") (4 : Int32) (own_upd f (((-1 : Int32) - r)).toNatClampNeg (.ref a1)) ∧ Exa Z h aG "[J" ∧ own_Arf Z h aG kG .long (4 : Int32) (own_upd g (((-1 : Int32) - r)).toNatClampNeg (.long (own_hc ht p2))) ∧ Exa Z h ct cTC ∧ Fld Z h ct cSL "held" cOA (.ref aH) ∧ Fld Z h ct cSL "hashesAndCounts" "[J" (.ref aG) ∧ Fld Z h ct cSL "size" "I" (.int (sz + (1 : Int32)))
theorem rm21n (l : Launch) (Z : State) (az : Array Value) (hw : HW Z az) (ws : List Jvm.Cond) (a0 a1 : Addr) (p2 : Int32) (ct aH aG : Addr) (sz : Int32) (kH : ClassId) (f : Nat → Value) (kG : ClassId) (g : Nat → Value) (ht : Int32) (u : Addr) (xt xu : Int64) (hu r : Int32) (h0 : Heap) (n0 : Nat) (Z0 : n0 ≤ h0.size) (E_a0 : Exa Z h0 a0 cDV) (F_counts_a0 : Fld Z h0 a0 cDV "counts" dC (.ref ct)) (E_ct : Exa Z h0 ct cTC) (F_held_ct : Fld Z h0 ct cSL "held" cOA (.ref aH)) (F_hashesAndCounts_ct : Fld Z h0 ct cSL "hashesAndCounts" "[J" (.ref aG)) (F_size_ct : Fld Z h0 ct cSL "size" "I" (.int sz)) (V_aH : own_Arf Z h0 aH kH (.object "java/lang/Object") (4 : Int32) f) (E_aH : Exa Z h0 aH cOA) (O_kH : Ovr Z kH "java/lang/Object") (V_aG : own_Arf Z h0 aG kG .long (4 : Int32) g) (E_aG : Exa Z h0 aG "[J") (E_a1 : Exa Z h0 a1 cTU) (F_hash_a1 : Fld Z h0 a1 cTU "hash" "I" (.int ht)) (J_tp : own_TP Z h0 a1 u xt xu ht hu) (hFR : own_FR f g a1 u xt xu ht hu r) (hc15 : r < (0 : Int32)) (hc16 : ¬ (((0 : Int32) + p2) < (0 : Int32))) (hc17 : ¬ (p2 = (0 : Int32))) (hc18 : ¬ (sz = (3 : Int32))) (hc19 : ¬ (((-1 : Int32) - r) < (0 : Int32))) (hc20 : ((-1 : Int32) - r) < (4 : Int32)) (g_aH : n0 ≤ aH) (g_aG : n0 ≤ aG) (g_ct : n0 ≤ ct) (hc24 : (sz + (1 : Int32)) < (3 : Int32)) (hc25 : (0 : Int32) < ((0 : Int32) + p2)) :
    MF l Z h0 ws ⟨cDV, "add", dI⟩ kB52 6 (some .int) ⟨9, 0, 0, 140⟩ #[(.ref a0), (.ref a1), (.int p2)] (Q21n Z a0 a1 p2 ct aH aG sz kH f kG g ht u xt xu hu r h0 n0) := by
  refine own_body cDV n0 rfl (plainFor_of_name pn_com_example_reteweave_reteweave_network_Derivations) (fun m => ef_rm21n m a0 a1 p2) ?_
  intro p e s m below meth c s₁ Bd hx hby hml hown hZ X0 e0 N0 pre0
  obtain ⟨T1, X1, e1, st1⟩ := getF X0 hx hZ hown (host := "") (Or.inl (w120 hw)) Via.refl e0 F_counts_a0 (g := (mkF m 1 #[vR a0, vR a1, vI p2, .unset, .unset, .unset] [(.ref a0)])) rfl rfl (hb hby d21_1)
  obtain ⟨cq2, kq2, q2a, q2b, q2c⟩ := isOf hZ e1 E_ct
  obtain ⟨_, _, ⟨T2, L2, k2', n2'⟩, -, X2, ⟨Lc2, hQ2, l2, y2, z2⟩, st2⟩ := X1.virtualBack hx (y := ⟨cTC, "count", dN⟩) (z := ⟨cTC, "count", dN⟩) hown (mvT hZ (w158 hw)) (mvT hZ (w159 hw)) (notFace_of_selects (args := #[]) (mvT hZ (w161 hw))) (mvT hZ (w161 hw)) (mvT hZ (w160 hw)) (by decide) (backOf (W := 0) (rm22N l Z az hw [] ct a1 aH aG kH f kG g ht u xt xu hu r h0 n0 Z0 E_ct F_held_ct F_hashesAndCounts_ct V_aH E_aH V_aG E_aG E_a1 F_hash_a1 J_tp hFR hc15) hZ (w162 hw) (w104 hw) (by decide) (by decide)) q2a q2c (g := (mkF m 5 #[vR a0, vR a1, vI p2, .unset, .unset, .unset] [(.ref a1), (.ref ct)])) rfl (by rw [hml]; rfl) (Steps.refl _) (argsL := [(.ref a1)]) (rest := []) (lenOf pd_20 rfl) rfl (Nat.le_of_eq rfl) (hb hby d21_5) (fun _ _ => ⟨rfl, e1, (own_nle rfl), (own_nle rfl)⟩)
  dsimp only [Pt.U, Pt.locs, Pt.cells, Pt.slots] at X2 l2 y2 z2 st2 hQ2
  subst l2 y2 z2
  obtain ⟨rfl, N2q, e2⟩ := hQ2
  obtain ⟨Lg2, X2', N2⟩ := own_gen X2 (Fr.app N0 N2q)
  obtain ⟨T3, X3, e3, st3⟩ := getF X2' hx hZ hown (host := "") (Or.inl (w120 hw)) Via.refl e2 F_counts_a0 (g := (mkF m 40 #[vR a0, vR a1, vI p2, vI (0 : Int32), vI ((0 : Int32) + p2), .unset] [(.ref a0)])) rfl rfl (hb hby d21_40)
  obtain ⟨cq4, kq4, q4a, q4b, q4c⟩ := isOf hZ e3 E_ct
  obtain ⟨_, _, ⟨T4, L4, k4', n4'⟩, -, X4, ⟨Lc4, hQ4, l4, y4, z4⟩, st4⟩ := X3.virtualBack hx (y := ⟨cTC, "add", dI⟩) (z := ⟨cTC, "add", dI⟩) hown (mvT hZ (w183 hw)) (mvT hZ (w184 hw)) (notFace_of_selects (args := #[]) (mvT hZ (w186 hw))) (mvT hZ (w186 hw)) (mvT hZ (w185 hw)) (by decide) (backOf (W := 0) (rm27n l Z az hw [] ct a1 p2 aH aG sz kH f kG g ht u xt xu hu r h0 n0 Z0 E_ct F_held_ct F_hashesAndCounts_ct F_size_ct V_aH E_aH O_kH V_aG E_aG E_a1 F_hash_a1 J_tp hFR hc15 hc17 hc18 hc19 hc20 g_aH g_aG g_ct hc24) hZ (w187 hw) (w104 hw) (by decide) (by decide)) q4a q4c (g := (mkF m 45 #[vR a0, vR a1, vI p2, vI (0 : Int32), vI ((0 : Int32) + p2), .unset] [(.int p2), (.ref a1), (.ref ct)])) rfl (by rw [hml]; rfl) (Steps.refl _) (argsL := [(.ref a1), (.int p2)]) (rest := []) (lenOf pd_21 rfl) rfl (Nat.le_of_eq rfl) (hb hby d21_45) (fun _ _ => ⟨rfl, e3, (own_nle rfl), (own_nle rfl)⟩)
  dsimp only [Pt.U, Pt.locs, Pt.cells, Pt.slots] at X4 l4 y4 z4 st4 hQ4
  subst l4 y4 z4
  obtain ⟨rfl, N4q, kq4, pf4_0, pf4_1, pf4_2, pf4_3, pf4_4, pf4_5, pf4_6, pf4_7⟩ := hQ4
  obtain ⟨Lg4, X4', N4⟩ := own_gen X4 (Fr.app N2 N4q)
  have K4 : Keep h0 T4.heap [aH, aG, ct] := (Keep.refl h0 [aH, aG, ct]).trans kq4 (allS (Or.inl (mg 0 rfl)) (allS (Or.inl (mg 1 rfl)) (allS (Or.inl (mg 2 rfl)) all0)))
  have Z4 : n0 ≤ T4.heap.size := Nat.le_trans Z0 kq4.1
  obtain ⟨fs, hr, hrun, hended, hW, hsame⟩ := X4'.leave (v := some (.int (1 : Int32))) (fun h => by rw [Bd.returns] at h; cases h) Bd.notSynchronized
  refine ⟨_, _, pre0 _ ?_, hrun, hended, _, _, rfl, ?_, ⟨_, rfl⟩, hW, hsame.mono (by decide) (by decide)⟩
  · show SP p e below s₁ (mkF m 0 #[vR a0, vR a1, vI p2, .unset, .unset, .unset] []) _
    refine XS.aloadN X0.here hx rfl (hb hby d21_0) rfl rfl ?_
    show SP p e below s₁ (mkF m 1 #[vR a0, vR a1, vI p2, .unset, .unset, .unset] [(.ref a0)]) _
    refine st1 _ ?_
    show SP p e below T1 (mkF m 4 #[vR a0, vR a1, vI p2, .unset, .unset, .unset] [(.ref ct)]) _
    refine XS.aloadN X1.here hx rfl (hb hby d21_4) rfl rfl ?_
    show SP p e below T1 (mkF m 5 #[vR a0, vR a1, vI p2, .unset, .unset, .unset] [(.ref a1), (.ref ct)]) _
    refine st2.trans ?_
    show SP p e below T2 (mkF m 8 #[vR a0, vR a1, vI p2, .unset, .unset, .unset] [(.int (0 : Int32))]) _
    refine XS.istoreN X2'.here hx rfl (hb hby d21_8) rfl (l' := #[vR a0, vR a1, vI p2, vI (0 : Int32), .unset, .unset]) rfl ?_
    refine XS.iloadN X2'.here hx rfl (hb hby d21_9) rfl ?_
    refine XS.iloadN X2'.here hx rfl (hb hby d21_10) rfl ?_
    refine XS.iadd X2'.here hx rfl (hb hby d21_11) rfl ?_
    refine XS.istore X2'.here hx rfl (hb hby d21_12) rfl (l' := #[vR a0, vR a1, vI p2, vI (0 : Int32), vI ((0 : Int32) + p2), .unset]) rfl ?_
    refine XS.iload X2'.here hx rfl (hb hby d21_14) rfl ?_
    refine XS.ifYes X2'.here hx rfl (pc0 := 16) (pc' := 39) rfl (hb hby d21_16) rfl ((if0 _ _).trans (flt hc16).2.1) (by decide) (by decide) ?_
    refine XS.aloadN X2'.here hx rfl (hb hby d21_39) rfl rfl ?_
    show SP p e below T2 (mkF m 40 #[vR a0, vR a1, vI p2, vI (0 : Int32), vI ((0 : Int32) + p2), .unset] [(.ref a0)]) _
    refine st3 _ ?_
    show SP p e below T3 (mkF m 43 #[vR a0, vR a1, vI p2, vI (0 : Int32), vI ((0 : Int32) + p2), .unset] [(.ref ct)]) _
    refine XS.aloadN X3.here hx rfl (hb hby d21_43) rfl rfl ?_
    refine XS.iloadN X3.here hx rfl (hb hby d21_44) rfl ?_
    show SP p e below T3 (mkF m 45 #[vR a0, vR a1, vI p2, vI (0 : Int32), vI ((0 : Int32) + p2), .unset] [(.int p2), (.ref a1), (.ref ct)]) _
    refine st4.trans ?_
    show SP p e below T4 (mkF m 48 #[vR a0, vR a1, vI p2, vI (0 : Int32), vI ((0 : Int32) + p2), .unset] [(.int p2)]) _
    refine XS.pop X4'.here hx rfl (hb hby d21_48) rfl rfl ?_
    refine XS.iconst X4'.here hx rfl (hb hby d21_49) ?_
    refine XS.istore X4'.here hx rfl (hb hby d21_50) rfl (l' := #[vR a0, vR a1, vI p2, vI (0 : Int32), vI ((0 : Int32) + p2), vI (0 : Int32)]) rfl ?_
    refine XS.iloadN X4'.here hx rfl (hb hby d21_52) rfl ?_
    refine XS.ifNo X4'.here hx rfl (hb hby d21_53) rfl ((if0 _ _).trans (teq (by decide : (0 : Int32) = (0 : Int32))).2) ?_
    refine XS.iload X4'.here hx rfl (hb hby d21_56) rfl ?_
    refine XS.ifNo X4'.here hx rfl (hb hby d21_58) rfl ((if0 _ _).trans (tlt hc25).2.2.2) ?_
    refine XS.iconst X4'.here hx rfl (hb hby d21_61) ?_
    refine XS.istore X4'.here hx rfl (hb hby d21_62) rfl (l' := #[vR a0, vR a1, vI p2, vI (0 : Int32), vI ((0 : Int32) + p2), vI (1 : Int32)]) rfl ?_
    refine XS.goto X4'.here hx rfl (pc0 := 64) (pc' := 79) rfl (hb hby d21_64) (by decide) (by decide) ?_
    refine XS.iload X4'.here hx rfl (hb hby d21_79) rfl ?_
    show SP p e below T4 (mkF m 81 #[vR a0, vR a1, vI p2, vI (0 : Int32), vI ((0 : Int32) + p2), vI (1 : Int32)] [(.int (1 : Int32))]) _
    exact retI X4' hx Bd.returns (hb hby d21_81) hr
  · show Q21n Z a0 a1 p2 ct aH aG sz kH f kG g ht u xt xu hu r h0 n0 _ T4.heap _
    exact ⟨rfl, N4, K4, pf4_0, pf4_1, pf4_2, pf4_3, pf4_4, pf4_5, pf4_6, pf4_7⟩
theorem d21_71 : dc kB52 71 (.iload 4) 2 := by decide +kernel
theorem d21_73 : dc kB52 73 (.ifCond .ne 6) 3 := by decide +kernel
theorem ef_rm21s (m : MethodId) (a0 a1 : Addr) (p2 : Int32) : entryFrame m #[(.ref a0), (.ref a1), (.int p2)] 6 = mkF m 0 #[vR a0, vR a1, vI p2, .unset, .unset, .unset] [] := by first | (simp [entryFrame, mkF, argsToLocals, Value.category]; done) | rfl
def Q21s (Z : State) (a0 a1 : Addr) (p2 : Int32) (ct aH aG : Addr) (sz : Int32) (kH : ClassId) (f : Nat → Value) (kG : ClassId) (g : Nat → Value) (ht : Int32) (u : Addr) (xt xu : Int64) (hu r : Int32) (w : Int64) (h0 : Heap) (n0 : Nat) (v : Option Value) (h : Heap) (L : List Loc) : Prop := v = some (.int (0 : Int32)) ∧ Fr n0 L ∧ Keep h0 h [aG] ∧ Exa Z h aG "[J" ∧ own_Arf Z h aG kG .long (4 : Int32) (own_upd g (r).toNatClampNeg (.long (own_hc (own_hh w) ((w.toInt32) + p2))))
theorem rm21s (l : Launch) (Z : State) (az : Array Value) (hw : HW Z az) (ws : List Jvm.Cond) (a0 a1 : Addr) (p2 : Int32) (ct aH aG : Addr) (sz : Int32) (kH : ClassId) (f : Nat → Value) (kG : ClassId) (g : Nat → Value) (ht : Int32) (u : Addr) (xt xu : Int64) (hu r : Int32) (w : Int64) (h0 : Heap) (n0 : Nat) (Z0 : n0 ≤ h0.size) (E_a0 : Exa Z h0 a0 cDV) (F_counts_a0 : Fld Z h0 a0 cDV "counts" dC (.ref ct)) (E_ct : Exa Z h0 ct cTC) (F_held_ct : Fld Z h0 ct cSL "held" cOA (.ref aH)) (F_hashesAndCounts_ct : Fld Z h0 ct cSL "hashesAndCounts" "[J" (.ref aG)) (F_size_ct : Fld Z h0 ct cSL "size" "I" (.int sz)) (V_aH : own_Arf Z h0 aH kH (.object "java/lang/Object") (4 : Int32) f) (E_aH : Exa Z h0 aH cOA) (O_kH : Ovr Z kH "java/lang/Object") (V_aG : own_Arf Z h0 aG kG .long (4 : Int32) g) (E_aG : Exa Z h0 aG "[J") (E_a1 : Exa Z h0 a1 cTU) (F_hash_a1 : Fld Z h0 a1 cTU "hash" "I" (.int ht)) (J_tp : own_TP Z h0 a1 u xt xu ht hu) (hFR : own_FR f g a1 u xt xu ht hu r) (hc15 : ¬ (r < (0 : Int32))) (hc16 : r < (4 : Int32)) (hc17 : g (r).toNatClampNeg = (.long w)) (hc18 : ¬ (((w.toInt32) + p2) < (0 : Int32))) (hc19 : ¬ (((w.toInt32) + p2) = (0 : Int32))) (g_aG : n0 ≤ aG) (hc21 : ¬ ((w.toInt32) = (0 : Int32))) (hc22 : (0 : Int32) < (w.toInt32)) :
    MF l Z h0 ws ⟨cDV, "add", dI⟩ kB52 6 (some .int) ⟨9, 0, 0, 140⟩ #[(.ref a0), (.ref a1), (.int p2)] (Q21s Z a0 a1 p2 ct aH aG sz kH f kG g ht u xt xu hu r w h0 n0) := by
  refine own_body cDV n0 rfl (plainFor_of_name pn_com_example_reteweave_reteweave_network_Derivations) (fun m => ef_rm21s m a0 a1 p2) ?_
  intro p e s m below meth c s₁ Bd hx hby hml hown hZ X0 e0 N0 pre0
  obtain ⟨T1, X1, e1, st1⟩ := getF X0 hx hZ hown (host := "") (Or.inl (w120 hw)) Via.refl e0 F_counts_a0 (g := (mkF m 1 #[vR a0, vR a1, vI p2, .unset, .unset, .unset] [(.ref a0)])) rfl rfl (hb hby d21_1)
  obtain ⟨cq2, kq2, q2a, q2b, q2c⟩ := isOf hZ e1 E_ct
  obtain ⟨_, _, ⟨T2, L2, k2', n2'⟩, -, X2, ⟨Lc2, hQ2, l2, y2, z2⟩, st2⟩ := X1.virtualBack hx (y := ⟨cTC, "count", dN⟩) (z := ⟨cTC, "count", dN⟩) hown (mvT hZ (w158 hw)) (mvT hZ (w159 hw)) (notFace_of_selects (args := #[]) (mvT hZ (w161 hw))) (mvT hZ (w161 hw)) (mvT hZ (w160 hw)) (by decide) (backOf (W := 0) (rm22Y l Z az hw [] ct a1 aH aG kH f kG g ht u xt xu hu r w h0 n0 Z0 E_ct F_held_ct F_hashesAndCounts_ct V_aH E_aH V_aG E_aG E_a1 F_hash_a1 J_tp hFR hc15 hc16 hc17) hZ (w162 hw) (w104 hw) (by decide) (by decide)) q2a q2c (g := (mkF m 5 #[vR a0, vR a1, vI p2, .unset, .unset, .unset] [(.ref a1), (.ref ct)])) rfl (by rw [hml]; rfl) (Steps.refl _) (argsL := [(.ref a1)]) (rest := []) (lenOf pd_20 rfl) rfl (Nat.le_of_eq rfl) (hb hby d21_5) (fun _ _ => ⟨rfl, e1, (own_nle rfl), (own_nle rfl)⟩)
  dsimp only [Pt.U, Pt.locs, Pt.cells, Pt.slots] at X2 l2 y2 z2 st2 hQ2
  subst l2 y2 z2
  obtain ⟨rfl, N2q, e2⟩ := hQ2
  obtain ⟨Lg2, X2', N2⟩ := own_gen X2 (Fr.app N0 N2q)
  obtain ⟨T3, X3, e3, st3⟩ := getF X2' hx hZ hown (host := "") (Or.inl (w120 hw)) Via.refl e2 F_counts_a0 (g := (mkF m 40 #[vR a0, vR a1, vI p2, vI (w.toInt32), vI ((w.toInt32) + p2), .unset] [(.ref a0)])) rfl rfl (hb hby d21_40)
  obtain ⟨cq4, kq4, q4a, q4b, q4c⟩ := isOf hZ e3 E_ct
  obtain ⟨_, _, ⟨T4, L4, k4', n4'⟩, -, X4, ⟨Lc4, hQ4, l4, y4, z4⟩, st4⟩ := X3.virtualBack hx (y := ⟨cTC, "add", dI⟩) (z := ⟨cTC, "add", dI⟩) hown (mvT hZ (w183 hw)) (mvT hZ (w184 hw)) (notFace_of_selects (args := #[]) (mvT hZ (w186 hw))) (mvT hZ (w186 hw)) (mvT hZ (w185 hw)) (by decide) (backOf (W := 0) (rm27s l Z az hw [] ct a1 p2 aH aG sz kH f kG g ht u xt xu hu r w h0 n0 Z0 E_ct F_held_ct F_hashesAndCounts_ct F_size_ct V_aH E_aH O_kH V_aG E_aG E_a1 F_hash_a1 J_tp hFR hc15 hc16 hc17 hc19 g_aG) hZ (w187 hw) (w104 hw) (by decide) (by decide)) q4a q4c (g := (mkF m 45 #[vR a0, vR a1, vI p2, vI (w.toInt32), vI ((w.toInt32) + p2), .unset] [(.int p2), (.ref a1), (.ref ct)])) rfl (by rw [hml]; rfl) (Steps.refl _) (argsL := [(.ref a1), (.int p2)]) (rest := []) (lenOf pd_21 rfl) rfl (Nat.le_of_eq rfl) (hb hby d21_45) (fun _ _ => ⟨rfl, e3, (own_nle rfl), (own_nle rfl)⟩)
  dsimp only [Pt.U, Pt.locs, Pt.cells, Pt.slots] at X4 l4 y4 z4 st4 hQ4
  subst l4 y4 z4
  obtain ⟨rfl, N4q, kq4, pf4_0, pf4_1⟩ := hQ4
  obtain ⟨Lg4, X4', N4⟩ := own_gen X4 (Fr.app N2 N4q)
  have K4 : Keep h0 T4.heap [aG] := (Keep.refl h0 [aG]).trans kq4 (allS (Or.inl (mg 0 rfl)) all0)
  have Z4 : n0 ≤ T4.heap.size := Nat.le_trans Z0 kq4.1
  obtain ⟨fs, hr, hrun, hended, hW, hsame⟩ := X4'.leave (v := some (.int (0 : Int32))) (fun h => by rw [Bd.returns] at h; cases h) Bd.notSynchronized
  refine ⟨_, _, pre0 _ ?_, hrun, hended, _, _, rfl, ?_, ⟨_, rfl⟩, hW, hsame.mono (by decide) (by decide)⟩
  · show SP p e below s₁ (mkF m 0 #[vR a0, vR a1, vI p2, .unset, .unset, .unset] []) _
    refine XS.aloadN X0.here hx rfl (hb hby d21_0) rfl rfl ?_
    show SP p e below s₁ (mkF m 1 #[vR a0, vR a1, vI p2, .unset, .unset, .unset] [(.ref a0)]) _
    refine st1 _ ?_
    show SP p e below T1 (mkF m 4 #[vR a0, vR a1, vI p2, .unset, .unset, .unset] [(.ref ct)]) _
    refine XS.aloadN X1.here hx rfl (hb hby d21_4) rfl rfl ?_
    show SP p e below T1 (mkF m 5 #[vR a0, vR a1, vI p2, .unset, .unset, .unset] [(.ref a1), (.ref ct)]) _
    refine st2.trans ?_
    show SP p e below T2 (mkF m 8 #[vR a0, vR a1, vI p2, .unset, .unset, .unset] [(.int (w.toInt32))]) _
    refine XS.istoreN X2'.here hx rfl (hb hby d21_8) rfl (l' := #[vR a0, vR a1, vI p2, vI (w.toInt32), .unset, .unset]) rfl ?_
    refine XS.iloadN X2'.here hx rfl (hb hby d21_9) rfl ?_
    refine XS.iloadN X2'.here hx rfl (hb hby d21_10) rfl ?_
    refine XS.iadd X2'.here hx rfl (hb hby d21_11) rfl ?_
    refine XS.istore X2'.here hx rfl (hb hby d21_12) rfl (l' := #[vR a0, vR a1, vI p2, vI (w.toInt32), vI ((w.toInt32) + p2), .unset]) rfl ?_
    refine XS.iload X2'.here hx rfl (hb hby d21_14) rfl ?_
    refine XS.ifYes X2'.here hx rfl (pc0 := 16) (pc' := 39) rfl (hb hby d21_16) rfl ((if0 _ _).trans (flt hc18).2.1) (by decide) (by decide) ?_
    refine XS.aloadN X2'.here hx rfl (hb hby d21_39) rfl rfl ?_
    show SP p e below T2 (mkF m 40 #[vR a0, vR a1, vI p2, vI (w.toInt32), vI ((w.toInt32) + p2), .unset] [(.ref a0)]) _
    refine st3 _ ?_
    show SP p e below T3 (mkF m 43 #[vR a0, vR a1, vI p2, vI (w.toInt32), vI ((w.toInt32) + p2), .unset] [(.ref ct)]) _
    refine XS.aloadN X3.here hx rfl (hb hby d21_43) rfl rfl ?_
    refine XS.iloadN X3.here hx rfl (hb hby d21_44) rfl ?_
    show SP p e below T3 (mkF m 45 #[vR a0, vR a1, vI p2, vI (w.toInt32), vI ((w.toInt32) + p2), .unset] [(.int p2), (.ref a1), (.ref ct)]) _
    refine st4.trans ?_
    show SP p e below T4 (mkF m 48 #[vR a0, vR a1, vI p2, vI (w.toInt32), vI ((w.toInt32) + p2), .unset] [(.int ((w.toInt32) + p2))]) _
    refine XS.pop X4'.here hx rfl (hb hby d21_48) rfl rfl ?_
    refine XS.iconst X4'.here hx rfl (hb hby d21_49) ?_
    refine XS.istore X4'.here hx rfl (hb hby d21_50) rfl (l' := #[vR a0, vR a1, vI p2, vI (w.toInt32), vI ((w.toInt32) + p2), vI (0 : Int32)]) rfl ?_
    refine XS.iloadN X4'.here hx rfl (hb hby d21_52) rfl ?_
    refine XS.ifYes X4'.here hx rfl (pc0 := 53) (pc' := 67) rfl (hb hby d21_53) rfl ((if0 _ _).trans (feq hc21).2) (by decide) (by decide) ?_
    refine XS.iloadN X4'.here hx rfl (hb hby d21_67) rfl ?_
    refine XS.ifNo X4'.here hx rfl (hb hby d21_68) rfl ((if0 _ _).trans (tlt hc22).2.2.2) ?_
    refine XS.iload X4'.here hx rfl (hb hby d21_71) rfl ?_
    refine XS.ifYes X4'.here hx rfl (pc0 := 73) (pc' := 79) rfl (hb hby d21_73) rfl ((if0 _ _).trans (feq hc19).2) (by decide) (by decide) ?_
    refine XS.iload X4'.here hx rfl (hb hby d21_79) rfl ?_
    show SP p e below T4 (mkF m 81 #[vR a0, vR a1, vI p2, vI (w.toInt32), vI ((w.toInt32) + p2), vI (0 : Int32)] [(.int (0 : Int32))]) _
    exact retI X4' hx Bd.returns (hb hby d21_81) hr
  · show Q21s Z a0 a1 p2 ct aH aG sz kH f kG g ht u xt xu hu r w h0 n0 _ T4.heap _
    exact ⟨rfl, N4, K4, pf4_0, pf4_1⟩
theorem d21_76 : dc kB52 76 (.iconst (-1)) 1 := by decide +kernel
theorem d21_77 : dc kB52 77 (.istore 5) 2 := by decide +kernel
theorem ef_rm21R (m : MethodId) (a0 a1 : Addr) (p2 : Int32) : entryFrame m #[(.ref a0), (.ref a1), (.int p2)] 6 = mkF m 0 #[vR a0, vR a1, vI p2, .unset, .unset, .unset] [] := by first | (simp [entryFrame, mkF, argsToLocals, Value.category]; done) | rfl
def Q21R (Z : State) (a0 a1 : Addr) (p2 : Int32) (ct aH aG : Addr) (sz : Int32) (kH : ClassId) (f : Nat → Value) (kG : ClassId) (g : Nat → Value) (ht : Int32) (u : Addr) (xt xu : Int64) (hu r : Int32) (w : Int64) (f2 g2 : Nat → Value) (h0 : Heap) (n0 : Nat) (v : Option Value) (h : Heap) (L : List Loc) : Prop := v = some (.int (-1 : Int32)) ∧ Fr n0 L ∧ Keep h0 h [aH, aG, ct] ∧ Exa Z h aH cOA ∧ own_Arf Z h aH kH (.object "java/lang/Object") (4 : Int32) f2 ∧ Exa Z h aG "[J" ∧ own_Arf Z h aG kG .long (4 : Int32) g2 ∧ Exa Z h ct cTC ∧ Fld Z h ct cSL "held" cOA (.ref aH) ∧ Fld Z h ct cSL "hashesAndCounts" "[J" (.ref aG) ∧ Fld Z h ct cSL "size" "I" (.int (sz - (1 : Int32)))
theorem rm21R (l : Launch) (Z : State) (az : Array Value) (hw : HW Z az) (ws : List Jvm.Cond) (a0 a1 : Addr) (p2 : Int32) (ct aH aG : Addr) (sz : Int32) (kH : ClassId) (f : Nat → Value) (kG : ClassId) (g : Nat → Value) (ht : Int32) (u : Addr) (xt xu : Int64) (hu r : Int32) (w : Int64) (f2 g2 : Nat → Value) (h0 : Heap) (n0 : Nat) (Z0 : n0 ≤ h0.size) (E_a0 : Exa Z h0 a0 cDV) (F_counts_a0 : Fld Z h0 a0 cDV "counts" dC (.ref ct)) (E_ct : Exa Z h0 ct cTC) (F_held_ct : Fld Z h0 ct cSL "held" cOA (.ref aH)) (F_hashesAndCounts_ct : Fld Z h0 ct cSL "hashesAndCounts" "[J" (.ref aG)) (F_size_ct : Fld Z h0 ct cSL "size" "I" (.int sz)) (V_aH : own_Arf Z h0 aH kH (.object "java/lang/Object") (4 : Int32) f) (E_aH : Exa Z h0 aH cOA) (O_kH : Ovr Z kH "java/lang/Object") (V_aG : own_Arf Z h0 aG kG .long (4 : Int32) g) (E_aG : Exa Z h0 aG "[J") (E_a1 : Exa Z h0 a1 cTU) (F_hash_a1 : Fld Z h0 a1 cTU "hash" "I" (.int ht)) (J_tp : own_TP Z h0 a1 u xt xu ht hu) (hFR : own_FR f g a1 u xt xu ht hu r) (E_u : Exa Z h0 u cTU) (hc16 : own_RR f g a1 u r f2 g2) (hc17 : ¬ (r < (0 : Int32))) (hc18 : r < (4 : Int32)) (hc19 : g (r).toNatClampNeg = (.long w)) (hc20 : ¬ (((w.toInt32) + p2) < (0 : Int32))) (hc21 : ((w.toInt32) + p2) = (0 : Int32)) (g_aH : n0 ≤ aH) (g_aG : n0 ≤ aG) (g_ct : n0 ≤ ct) (hc25 : ¬ ((w.toInt32) = (0 : Int32))) (hc26 : (0 : Int32) < (w.toInt32)) :
    MF l Z h0 ws ⟨cDV, "add", dI⟩ kB52 6 (some .int) ⟨9, 0, 0, 140⟩ #[(.ref a0), (.ref a1), (.int p2)] (Q21R Z a0 a1 p2 ct aH aG sz kH f kG g ht u xt xu hu r w f2 g2 h0 n0) := by
  refine own_body cDV n0 rfl (plainFor_of_name pn_com_example_reteweave_reteweave_network_Derivations) (fun m => ef_rm21R m a0 a1 p2) ?_
  intro p e s m below meth c s₁ Bd hx hby hml hown hZ X0 e0 N0 pre0
  obtain ⟨T1, X1, e1, st1⟩ := getF X0 hx hZ hown (host := "") (Or.inl (w120 hw)) Via.refl e0 F_counts_a0 (g := (mkF m 1 #[vR a0, vR a1, vI p2, .unset, .unset, .unset] [(.ref a0)])) rfl rfl (hb hby d21_1)
  obtain ⟨cq2, kq2, q2a, q2b, q2c⟩ := isOf hZ e1 E_ct
  obtain ⟨_, _, ⟨T2, L2, k2', n2'⟩, -, X2, ⟨Lc2, hQ2, l2, y2, z2⟩, st2⟩ := X1.virtualBack hx (y := ⟨cTC, "count", dN⟩) (z := ⟨cTC, "count", dN⟩) hown (mvT hZ (w158 hw)) (mvT hZ (w159 hw)) (notFace_of_selects (args := #[]) (mvT hZ (w161 hw))) (mvT hZ (w161 hw)) (mvT hZ (w160 hw)) (by decide) (backOf (W := 0) (rm22Y l Z az hw [] ct a1 aH aG kH f kG g ht u xt xu hu r w h0 n0 Z0 E_ct F_held_ct F_hashesAndCounts_ct V_aH E_aH V_aG E_aG E_a1 F_hash_a1 J_tp hFR hc17 hc18 hc19) hZ (w162 hw) (w104 hw) (by decide) (by decide)) q2a q2c (g := (mkF m 5 #[vR a0, vR a1, vI p2, .unset, .unset, .unset] [(.ref a1), (.ref ct)])) rfl (by rw [hml]; rfl) (Steps.refl _) (argsL := [(.ref a1)]) (rest := []) (lenOf pd_20 rfl) rfl (Nat.le_of_eq rfl) (hb hby d21_5) (fun _ _ => ⟨rfl, e1, (own_nle rfl), (own_nle rfl)⟩)
  dsimp only [Pt.U, Pt.locs, Pt.cells, Pt.slots] at X2 l2 y2 z2 st2 hQ2
  subst l2 y2 z2
  obtain ⟨rfl, N2q, e2⟩ := hQ2
  obtain ⟨Lg2, X2', N2⟩ := own_gen X2 (Fr.app N0 N2q)
  obtain ⟨T3, X3, e3, st3⟩ := getF X2' hx hZ hown (host := "") (Or.inl (w120 hw)) Via.refl e2 F_counts_a0 (g := (mkF m 40 #[vR a0, vR a1, vI p2, vI (w.toInt32), vI ((w.toInt32) + p2), .unset] [(.ref a0)])) rfl rfl (hb hby d21_40)
  obtain ⟨cq4, kq4, q4a, q4b, q4c⟩ := isOf hZ e3 E_ct
  obtain ⟨_, _, ⟨T4, L4, k4', n4'⟩, -, X4, ⟨Lc4, hQ4, l4, y4, z4⟩, st4⟩ := X3.virtualBack hx (y := ⟨cTC, "add", dI⟩) (z := ⟨cTC, "add", dI⟩) hown (mvT hZ (w183 hw)) (mvT hZ (w184 hw)) (notFace_of_selects (args := #[]) (mvT hZ (w186 hw))) (mvT hZ (w186 hw)) (mvT hZ (w185 hw)) (by decide) (backOf (W := 0) (rm27R l Z az hw [] ct a1 p2 aH aG sz kH f kG g ht u xt xu hu r w f2 g2 h0 n0 Z0 E_ct F_held_ct F_hashesAndCounts_ct F_size_ct V_aH E_aH O_kH V_aG E_aG E_a1 F_hash_a1 J_tp hFR E_u hc16 hc17 hc18 hc19 hc21 g_aH g_aG g_ct) hZ (w187 hw) (w104 hw) (by decide) (by decide)) q4a q4c (g := (mkF m 45 #[vR a0, vR a1, vI p2, vI (w.toInt32), vI ((w.toInt32) + p2), .unset] [(.int p2), (.ref a1), (.ref ct)])) rfl (by rw [hml]; rfl) (Steps.refl _) (argsL := [(.ref a1), (.int p2)]) (rest := []) (lenOf pd_21 rfl) rfl (Nat.le_of_eq rfl) (hb hby d21_45) (fun _ _ => ⟨rfl, e3, (own_nle rfl), (own_nle rfl)⟩)
  dsimp only [Pt.U, Pt.locs, Pt.cells, Pt.slots] at X4 l4 y4 z4 st4 hQ4
  subst l4 y4 z4
  obtain ⟨rfl, N4q, kq4, pf4_0, pf4_1, pf4_2, pf4_3, pf4_4, pf4_5, pf4_6, pf4_7⟩ := hQ4
  obtain ⟨Lg4, X4', N4⟩ := own_gen X4 (Fr.app N2 N4q)
  have K4 : Keep h0 T4.heap [aH, aG, ct] := (Keep.refl h0 [aH, aG, ct]).trans kq4 (allS (Or.inl (mg 0 rfl)) (allS (Or.inl (mg 1 rfl)) (allS (Or.inl (mg 2 rfl)) all0)))
  have Z4 : n0 ≤ T4.heap.size := Nat.le_trans Z0 kq4.1
  obtain ⟨fs, hr, hrun, hended, hW, hsame⟩ := X4'.leave (v := some (.int (-1 : Int32))) (fun h => by rw [Bd.returns] at h; cases h) Bd.notSynchronized
  refine ⟨_, _, pre0 _ ?_, hrun, hended, _, _, rfl, ?_, ⟨_, rfl⟩, hW, hsame.mono (by decide) (by decide)⟩
  · show SP p e below s₁ (mkF m 0 #[vR a0, vR a1, vI p2, .unset, .unset, .unset] []) _
    refine XS.aloadN X0.here hx rfl (hb hby d21_0) rfl rfl ?_
    show SP p e below s₁ (mkF m 1 #[vR a0, vR a1, vI p2, .unset, .unset, .unset] [(.ref a0)]) _
    refine st1 _ ?_
    show SP p e below T1 (mkF m 4 #[vR a0, vR a1, vI p2, .unset, .unset, .unset] [(.ref ct)]) _
    refine XS.aloadN X1.here hx rfl (hb hby d21_4) rfl rfl ?_
    show SP p e below T1 (mkF m 5 #[vR a0, vR a1, vI p2, .unset, .unset, .unset] [(.ref a1), (.ref ct)]) _
    refine st2.trans ?_
    show SP p e below T2 (mkF m 8 #[vR a0, vR a1, vI p2, .unset, .unset, .unset] [(.int (w.toInt32))]) _
    refine XS.istoreN X2'.here hx rfl (hb hby d21_8) rfl (l' := #[vR a0, vR a1, vI p2, vI (w.toInt32), .unset, .unset]) rfl ?_
    refine XS.iloadN X2'.here hx rfl (hb hby d21_9) rfl ?_
    refine XS.iloadN X2'.here hx rfl (hb hby d21_10) rfl ?_
    refine XS.iadd X2'.here hx rfl (hb hby d21_11) rfl ?_
    refine XS.istore X2'.here hx rfl (hb hby d21_12) rfl (l' := #[vR a0, vR a1, vI p2, vI (w.toInt32), vI ((w.toInt32) + p2), .unset]) rfl ?_
    refine XS.iload X2'.here hx rfl (hb hby d21_14) rfl ?_
    refine XS.ifYes X2'.here hx rfl (pc0 := 16) (pc' := 39) rfl (hb hby d21_16) rfl ((if0 _ _).trans (flt hc20).2.1) (by decide) (by decide) ?_
    refine XS.aloadN X2'.here hx rfl (hb hby d21_39) rfl rfl ?_
    show SP p e below T2 (mkF m 40 #[vR a0, vR a1, vI p2, vI (w.toInt32), vI ((w.toInt32) + p2), .unset] [(.ref a0)]) _
    refine st3 _ ?_
    show SP p e below T3 (mkF m 43 #[vR a0, vR a1, vI p2, vI (w.toInt32), vI ((w.toInt32) + p2), .unset] [(.ref ct)]) _
    refine XS.aloadN X3.here hx rfl (hb hby d21_43) rfl rfl ?_
    refine XS.iloadN X3.here hx rfl (hb hby d21_44) rfl ?_
    show SP p e below T3 (mkF m 45 #[vR a0, vR a1, vI p2, vI (w.toInt32), vI ((w.toInt32) + p2), .unset] [(.int p2), (.ref a1), (.ref ct)]) _
    refine st4.trans ?_
    show SP p e below T4 (mkF m 48 #[vR a0, vR a1, vI p2, vI (w.toInt32), vI ((w.toInt32) + p2), .unset] [(.int ((w.toInt32) + p2))]) _
    refine XS.pop X4'.here hx rfl (hb hby d21_48) rfl rfl ?_
    refine XS.iconst X4'.here hx rfl (hb hby d21_49) ?_
    refine XS.istore X4'.here hx rfl (hb hby d21_50) rfl (l' := #[vR a0, vR a1, vI p2, vI (w.toInt32), vI ((w.toInt32) + p2), vI (0 : Int32)]) rfl ?_
    refine XS.iloadN X4'.here hx rfl (hb hby d21_52) rfl ?_
    refine XS.ifYes X4'.here hx rfl (pc0 := 53) (pc' := 67) rfl (hb hby d21_53) rfl ((if0 _ _).trans (feq hc25).2) (by decide) (by decide) ?_
    refine XS.iloadN X4'.here hx rfl (hb hby d21_67) rfl ?_
    refine XS.ifNo X4'.here hx rfl (hb hby d21_68) rfl ((if0 _ _).trans (tlt hc26).2.2.2) ?_
    refine XS.iload X4'.here hx rfl (hb hby d21_71) rfl ?_
    refine XS.ifNo X4'.here hx rfl (hb hby d21_73) rfl ((if0 _ _).trans (teq hc21).2) ?_
    refine XS.iconst X4'.here hx rfl (hb hby d21_76) ?_
    refine XS.istore X4'.here hx rfl (hb hby d21_77) rfl (l' := #[vR a0, vR a1, vI p2, vI (w.toInt32), vI ((w.toInt32) + p2), vI (-1 : Int32)]) rfl ?_
    refine XS.iload X4'.here hx rfl (hb hby d21_79) rfl ?_
    show SP p e below T4 (mkF m 81 #[vR a0, vR a1, vI p2, vI (w.toInt32), vI ((w.toInt32) + p2), vI (-1 : Int32)] [(.int (-1 : Int32))]) _
    exact retI X4' hx Bd.returns (hb hby d21_81) hr
  · show Q21R Z a0 a1 p2 ct aH aG sz kH f kG g ht u xt xu hu r w f2 g2 h0 n0 _ T4.heap _
    exact ⟨rfl, N4, K4, pf4_0, pf4_1, pf4_2, pf4_3, pf4_4, pf4_5, pf4_6, pf4_7⟩
theorem d39_0 : dc kB16 0 (.aload_n 0) 1 := by decide +kernel
theorem d39_1 : dc kB16 1 (.getfield 156) 3 := by decide +kernel
theorem d39_4 : dc kB16 4 (.ifCond .ne 7) 3 := by decide +kernel
theorem d39_7 : dc kB16 7 (.iconst 1) 1 := by decide +kernel
theorem d39_8 : dc kB16 8 (.goto 4) 3 := by decide +kernel
theorem d39_12 : dc kB16 12 .ireturn 1 := by decide +kernel
theorem ef_rm39 (m : MethodId) (a0 : Addr) : entryFrame m #[(.ref a0)] 1 = mkF m 0 #[vR a0] [] := by first | (simp [entryFrame, mkF, argsToLocals, Value.category]; done) | rfl
def Q39 (Z : State) (a0 : Addr) (h0 : Heap) (n0 : Nat) (v : Option Value) (h : Heap) (L : List Loc) : Prop := v = some (.int (1 : Int32)) ∧ Fr n0 L ∧ h = h0
theorem rm39 (l : Launch) (Z : State) (az : Array Value) (hw : HW Z az) (ws : List Jvm.Cond) (a0 : Addr) (h0 : Heap) (n0 : Nat) (Z0 : n0 ≤ h0.size) (E_a0 : Exa Z h0 a0 cHM) (F_size_a0 : Fld Z h0 a0 cHM "size" "I" (.int (0 : Int32))) :
    MF l Z h0 ws ⟨cHM, "isEmpty", "()Z"⟩ kB16 1 (some .boolean) ⟨0, 0, 0, 0⟩ #[(.ref a0)] (Q39 Z a0 h0 n0) := by
  refine own_body cHM n0 rfl (plainFor_of_name pn_java_util_HashMap) (fun m => ef_rm39 m a0) ?_
  intro p e s m below meth c s₁ Bd hx hby hml hown hZ X0 e0 N0 pre0
  obtain ⟨T1, X1, e1, st1⟩ := getF X0 hx hZ hown (host := "") (Or.inl (w270 hw)) Via.refl e0 F_size_a0 (g := (mkF m 1 #[vR a0] [(.ref a0)])) rfl rfl (hb hby d39_1)
  obtain ⟨fs, hr, hrun, hended, hW, hsame⟩ := X1.leave (v := some (.int (1 : Int32))) (fun h => by rw [Bd.returns] at h; cases h) Bd.notSynchronized
  refine ⟨_, _, pre0 _ ?_, hrun, hended, _, _, rfl, ?_, ⟨_, rfl⟩, hW, hsame.mono (by decide) (by decide)⟩
  · show SP p e below s₁ (mkF m 0 #[vR a0] []) _
    refine XS.aloadN X0.here hx rfl (hb hby d39_0) rfl rfl ?_
    show SP p e below s₁ (mkF m 1 #[vR a0] [(.ref a0)]) _
    refine st1 _ ?_
    show SP p e below T1 (mkF m 4 #[vR a0] [(.int (0 : Int32))]) _
    refine XS.ifNo X1.here hx rfl (hb hby d39_4) rfl ((if0 _ _).trans (teq (by decide : (0 : Int32) = (0 : Int32))).2) ?_
    refine XS.iconst X1.here hx rfl (hb hby d39_7) ?_
    refine XS.goto X1.here hx rfl (pc0 := 8) (pc' := 12) rfl (hb hby d39_8) (by decide) (by decide) ?_
    show SP p e below T1 (mkF m 12 #[vR a0] [(.int (1 : Int32))]) _
    exact retN X1 hx (t := .boolean) Bd.returns (by simp) (hb hby d39_12) hr
  · show Q39 Z a0 h0 n0 _ T1.heap _
    rw [e1]
    exact ⟨rfl, N0, rfl⟩
theorem d41_0 : dc kB12 0 (.aload_n 0) 1 := by decide +kernel
theorem d41_1 : dc kB12 1 (.getfield 48) 3 := by decide +kernel
theorem d41_4 : dc kB12 4 .ireturn 1 := by decide +kernel
theorem ef_rm41 (m : MethodId) (a0 : Addr) : entryFrame m #[(.ref a0)] 1 = mkF m 0 #[vR a0] [] := by first | (simp [entryFrame, mkF, argsToLocals, Value.category]; done) | rfl
def Q41 (Z : State) (a0 : Addr) (h0 : Heap) (n0 : Nat) (v : Option Value) (h : Heap) (L : List Loc) : Prop := v = some (.int (0 : Int32)) ∧ Fr n0 L ∧ h = h0
theorem rm41 (l : Launch) (Z : State) (az : Array Value) (hw : HW Z az) (ws : List Jvm.Cond) (a0 : Addr) (h0 : Heap) (n0 : Nat) (Z0 : n0 ≤ h0.size) (F_size_a0 : Fld Z h0 a0 cAL "size" "I" (.int (0 : Int32))) :
    MF l Z h0 ws ⟨cAL, "size", "()I"⟩ kB12 1 (some .int) ⟨0, 0, 0, 0⟩ #[(.ref a0)] (Q41 Z a0 h0 n0) := by
  refine own_body cAL n0 rfl (plainFor_of_name pn_java_util_ArrayList) (fun m => ef_rm41 m a0) ?_
  intro p e s m below meth c s₁ Bd hx hby hml hown hZ X0 e0 N0 pre0
  obtain ⟨T1, X1, e1, st1⟩ := getF X0 hx hZ hown (host := "") (Or.inl (w287 hw)) Via.refl e0 F_size_a0 (g := (mkF m 1 #[vR a0] [(.ref a0)])) rfl rfl (hb hby d41_1)
  obtain ⟨fs, hr, hrun, hended, hW, hsame⟩ := X1.leave (v := some (.int (0 : Int32))) (fun h => by rw [Bd.returns] at h; cases h) Bd.notSynchronized
  refine ⟨_, _, pre0 _ ?_, hrun, hended, _, _, rfl, ?_, ⟨_, rfl⟩, hW, hsame.mono (by decide) (by decide)⟩
  · show SP p e below s₁ (mkF m 0 #[vR a0] []) _
    refine XS.aloadN X0.here hx rfl (hb hby d41_0) rfl rfl ?_
    show SP p e below s₁ (mkF m 1 #[vR a0] [(.ref a0)]) _
    refine st1 _ ?_
    show SP p e below T1 (mkF m 4 #[vR a0] [(.int (0 : Int32))]) _
    exact retI X1 hx Bd.returns (hb hby d41_4) hr
  · show Q41 Z a0 h0 n0 _ T1.heap _
    rw [e1]
    exact ⟨rfl, N0, rfl⟩
theorem d38_0 : dc kB22 0 (.aload_n 0) 1 := by decide +kernel
theorem d38_1 : dc kB22 1 (.getfield 29) 3 := by decide +kernel
theorem d38_4 : dc kB22 4 (.invokeinterface 134 1) 5 := by decide +kernel
theorem pd_22 : parseMethodDescriptor "()Z" = some ⟨[], some .boolean⟩ := by decide +kernel
theorem d38_9 : dc kB22 9 (.ifCond .eq 4) 3 := by decide +kernel
theorem d38_12 : dc kB22 12 .return_ 1 := by decide +kernel
theorem ef_rm38 (m : MethodId) (a0 a1 : Addr) (p2 : Int32) : entryFrame m #[(.ref a0), (.ref a1), (.int p2)] 5 = mkF m 0 #[vR a0, vR a1, vI p2, .unset, .unset] [] := by first | (simp [entryFrame, mkF, argsToLocals, Value.category]; done) | rfl
def Q38 (Z : State) (a0 a1 : Addr) (p2 : Int32) (hm : Addr) (h0 : Heap) (n0 : Nat) (v : Option Value) (h : Heap) (L : List Loc) : Prop := v = none ∧ Fr n0 L ∧ h = h0
theorem rm38 (l : Launch) (Z : State) (az : Array Value) (hw : HW Z az) (ws : List Jvm.Cond) (a0 a1 : Addr) (p2 : Int32) (hm : Addr) (h0 : Heap) (n0 : Nat) (Z0 : n0 ≤ h0.size) (E_a0 : Exa Z h0 a0 cPN) (F_indexes_a0 : Fld Z h0 a0 cPN "indexes" "Ljava/util/Map;" (.ref hm)) (E_hm : Exa Z h0 hm cHM) (F_size_hm : Fld Z h0 hm cHM "size" "I" (.int (0 : Int32))) :
    MF l Z h0 ws ⟨cPN, "index", dV⟩ kB22 5 none ⟨1, 0, 0, 12⟩ #[(.ref a0), (.ref a1), (.int p2)] (Q38 Z a0 a1 p2 hm h0 n0) := by
  refine own_body cPN n0 rfl (plainFor_of_name pn_com_example_reteweave_reteweave_network_ProductionNode) (fun m => ef_rm38 m a0 a1 p2) ?_
  intro p e s m below meth c s₁ Bd hx hby hml hown hZ X0 e0 N0 pre0
  obtain ⟨T1, X1, e1, st1⟩ := getF X0 hx hZ hown (host := "") (Or.inl (w144 hw)) Via.refl e0 F_indexes_a0 (g := (mkF m 1 #[vR a0, vR a1, vI p2, .unset, .unset] [(.ref a0)])) rfl rfl (hb hby d38_1)
  obtain ⟨cq2, kq2, q2a, q2b, q2c⟩ := isOf hZ e1 E_hm
  obtain ⟨_, _, ⟨T2, L2, k2', n2'⟩, -, X2, ⟨Lc2, hQ2, l2, y2, z2⟩, st2⟩ := X1.interfaceBack hx (xi := ⟨"java/util/Map", "isEmpty", "()Z"⟩) (y := ⟨cHM, "isEmpty", "()Z"⟩) hown (mvT hZ (w261 hw)) (mvT hZ (w262 hw)) (mvT hZ (w263 hw)) (mvT hZ (w264 hw)) (mvT hZ (w265 hw)) (mvT hZ (w266 hw)) (mvT hZ (w267 hw)) (mvT hZ (w268 hw)) (by decide) (backOf (W := 0) (rm39 l Z az hw [] hm h0 n0 Z0 E_hm F_size_hm) hZ (w269 hw) (w130 hw) (by decide) (by decide)) q2a q2b q2c (g := (mkF m 4 #[vR a0, vR a1, vI p2, .unset, .unset] [(.ref hm)])) rfl (by rw [hml]; rfl) (Steps.refl _) (argsL := []) (rest := []) (lenOf pd_22 rfl) rfl (Nat.le_of_eq rfl) (hb hby d38_4) (fun _ _ => ⟨rfl, e1, (own_nle rfl), (own_nle rfl)⟩)
  dsimp only [Pt.U, Pt.locs, Pt.cells, Pt.slots] at X2 l2 y2 z2 st2 hQ2
  subst l2 y2 z2
  obtain ⟨rfl, N2q, e2⟩ := hQ2
  obtain ⟨Lg2, X2', N2⟩ := own_gen X2 (Fr.app N0 N2q)
  obtain ⟨fs, hr, hrun, hended, hW, hsame⟩ := X2'.leave (v := none) (fun _ => rfl)
  refine ⟨_, _, pre0 _ ?_, hrun, hended, _, _, rfl, ?_, ⟨_, rfl⟩, hW, hsame.mono (by decide) (by decide)⟩
  · show SP p e below s₁ (mkF m 0 #[vR a0, vR a1, vI p2, .unset, .unset] []) _
    refine XS.aloadN X0.here hx rfl (hb hby d38_0) rfl rfl ?_
    show SP p e below s₁ (mkF m 1 #[vR a0, vR a1, vI p2, .unset, .unset] [(.ref a0)]) _
    refine st1 _ ?_
    show SP p e below T1 (mkF m 4 #[vR a0, vR a1, vI p2, .unset, .unset] [(.ref hm)]) _
    refine st2.trans ?_
    show SP p e below T2 (mkF m 9 #[vR a0, vR a1, vI p2, .unset, .unset] [(.int (1 : Int32))]) _
    refine XS.ifNo X2'.here hx rfl (hb hby d38_9) rfl ((if0 _ _).trans (feq (by decide : ¬ ((1 : Int32) = (0 : Int32)))).1) ?_
    show SP p e below T2 (mkF m 12 #[vR a0, vR a1, vI p2, .unset, .unset] []) _
    exact X2'.returnOut hx Bd.returns (hb hby d38_12) hr
  · show Q38 Z a0 a1 p2 hm h0 n0 _ T2.heap _
    rw [e2]
    exact ⟨rfl, N2, rfl⟩
theorem d40_0 : dc kB21 0 (.iconst 0) 1 := by decide +kernel
theorem d40_1 : dc kB21 1 (.istore_n 3) 1 := by decide +kernel
theorem d40_2 : dc kB21 2 (.iload_n 3) 1 := by decide +kernel
theorem d40_3 : dc kB21 3 (.aload_n 0) 1 := by decide +kernel
theorem d40_4 : dc kB21 4 (.getfield 10) 3 := by decide +kernel
theorem d40_7 : dc kB21 7 (.invokeinterface 22 1) 5 := by decide +kernel
theorem d40_12 : dc kB21 12 (.if_icmp .ge 29) 3 := by decide +kernel
theorem d40_41 : dc kB21 41 .return_ 1 := by decide +kernel
theorem ef_rm40 (m : MethodId) (a0 a1 : Addr) (p2 : Int32) : entryFrame m #[(.ref a0), (.ref a1), (.int p2)] 4 = mkF m 0 #[vR a0, vR a1, vI p2, .unset] [] := by first | (simp [entryFrame, mkF, argsToLocals, Value.category]; done) | rfl
def Q40 (Z : State) (a0 a1 : Addr) (p2 : Int32) (rd : Addr) (h0 : Heap) (n0 : Nat) (v : Option Value) (h : Heap) (L : List Loc) : Prop := v = none ∧ Fr n0 L ∧ h = h0
theorem rm40 (l : Launch) (Z : State) (az : Array Value) (hw : HW Z az) (ws : List Jvm.Cond) (a0 a1 : Addr) (p2 : Int32) (rd : Addr) (h0 : Heap) (n0 : Nat) (Z0 : n0 ≤ h0.size) (E_a0 : Exa Z h0 a0 cPN) (F_readers_a0 : Fld Z h0 a0 cND "readers" "Ljava/util/List;" (.ref rd)) (E_rd : Exa Z h0 rd cAL) (F_size_rd : Fld Z h0 rd cAL "size" "I" (.int (0 : Int32))) :
    MF l Z h0 ws ⟨cND, "emit", dV⟩ kB21 4 none ⟨1, 0, 0, 13⟩ #[(.ref a0), (.ref a1), (.int p2)] (Q40 Z a0 a1 p2 rd h0 n0) := by
  refine own_body cND n0 rfl (plainFor_of_name pn_com_example_reteweave_reteweave_network_Node) (fun m => ef_rm40 m a0 a1 p2) ?_
  intro p e s m below meth c s₁ Bd hx hby hml hown hZ X0 e0 N0 pre0
  obtain ⟨T1, X1, e1, st1⟩ := getF X0 hx hZ hown (host := "") (Or.inl (w93 hw)) Via.refl e0 F_readers_a0 (g := (mkF m 4 #[vR a0, vR a1, vI p2, vI (0 : Int32)] [(.ref a0), (.int (0 : Int32))])) rfl rfl (hb hby d40_4)
  obtain ⟨cq2, kq2, q2a, q2b, q2c⟩ := isOf hZ e1 E_rd
  obtain ⟨_, _, ⟨T2, L2, k2', n2'⟩, -, X2, ⟨Lc2, hQ2, l2, y2, z2⟩, st2⟩ := X1.interfaceBack hx (xi := ⟨"java/util/List", "size", "()I"⟩) (y := ⟨cAL, "size", "()I"⟩) hown (mvT hZ (w278 hw)) (mvT hZ (w279 hw)) (mvT hZ (w280 hw)) (mvT hZ (w281 hw)) (mvT hZ (w282 hw)) (mvT hZ (w283 hw)) (mvT hZ (w284 hw)) (mvT hZ (w285 hw)) (by decide) (backOf (W := 1) (rm41 l Z az hw [] rd h0 n0 Z0 F_size_rd) hZ (w286 hw) (w71 hw) (by decide) (by decide)) q2a q2b q2c (g := (mkF m 7 #[vR a0, vR a1, vI p2, vI (0 : Int32)] [(.ref rd), (.int (0 : Int32))])) rfl (by rw [hml]; rfl) (Steps.refl _) (argsL := []) (rest := [(.int (0 : Int32))]) (lenOf pd_3 rfl) rfl (Nat.le_of_eq rfl) (hb hby d40_7) (fun _ _ => ⟨rfl, e1, (own_nle rfl), (own_nle rfl)⟩)
  dsimp only [Pt.U, Pt.locs, Pt.cells, Pt.slots] at X2 l2 y2 z2 st2 hQ2
  subst l2 y2 z2
  obtain ⟨rfl, N2q, e2⟩ := hQ2
  obtain ⟨Lg2, X2', N2⟩ := own_gen X2 (Fr.app N0 N2q)
  obtain ⟨fs, hr, hrun, hended, hW, hsame⟩ := X2'.leave (v := none) (fun _ => rfl)
  refine ⟨_, _, pre0 _ ?_, hrun, hended, _, _, rfl, ?_, ⟨_, rfl⟩, hW, hsame.mono (by decide) (by decide)⟩
  · show SP p e below s₁ (mkF m 0 #[vR a0, vR a1, vI p2, .unset] []) _
    refine XS.iconst X0.here hx rfl (hb hby d40_0) ?_
    refine XS.istoreN X0.here hx rfl (hb hby d40_1) rfl (l' := #[vR a0, vR a1, vI p2, vI (0 : Int32)]) rfl ?_
    refine XS.iloadN X0.here hx rfl (hb hby d40_2) rfl ?_
    refine XS.aloadN X0.here hx rfl (hb hby d40_3) rfl rfl ?_
    show SP p e below s₁ (mkF m 4 #[vR a0, vR a1, vI p2, vI (0 : Int32)] [(.ref a0), (.int (0 : Int32))]) _
    refine st1 _ ?_
    show SP p e below T1 (mkF m 7 #[vR a0, vR a1, vI p2, vI (0 : Int32)] [(.ref rd), (.int (0 : Int32))]) _
    refine st2.trans ?_
    show SP p e below T2 (mkF m 12 #[vR a0, vR a1, vI p2, vI (0 : Int32)] [(.int (0 : Int32)), (.int (0 : Int32))]) _
    refine XS.icmpYes X2'.here hx rfl (pc0 := 12) (pc' := 41) rfl (hb hby d40_12) rfl (flt (by decide : ¬ ((0 : Int32) < (0 : Int32)))).2.1 (by decide) (by decide) ?_
    show SP p e below T2 (mkF m 41 #[vR a0, vR a1, vI p2, vI (0 : Int32)] []) _
    exact X2'.returnOut hx Bd.returns (hb hby d40_41) hr
  · show Q40 Z a0 a1 p2 rd h0 n0 _ T2.heap _
    rw [e2]
    exact ⟨rfl, N2, rfl⟩
theorem d20_0 : dc kB25 0 (.aload_n 0) 1 := by decide +kernel
theorem d20_1 : dc kB25 1 (.getfield 15) 3 := by decide +kernel
theorem d20_4 : dc kB25 4 (.aload_n 1) 1 := by decide +kernel
theorem d20_5 : dc kB25 5 (.iload_n 2) 1 := by decide +kernel
theorem d20_6 : dc kB25 6 (.invokevirtual 41) 3 := by decide +kernel
theorem d20_9 : dc kB25 9 (.istore_n 3) 1 := by decide +kernel
theorem d20_10 : dc kB25 10 (.aload_n 0) 1 := by decide +kernel
theorem d20_11 : dc kB25 11 (.getfield 33) 3 := by decide +kernel
theorem d20_14 : dc kB25 14 (.ifnull 16) 3 := by decide +kernel
theorem d20_30 : dc kB25 30 (.iload_n 3) 1 := by decide +kernel
theorem d20_31 : dc kB25 31 (.ifCond .eq 15) 3 := by decide +kernel
theorem d20_46 : dc kB25 46 .return_ 1 := by decide +kernel
theorem ef_rm20i (m : MethodId) (a0 a1 : Addr) : entryFrame m #[(.ref a0), (.ref a1), (.int (0 : Int32))] 4 = mkF m 0 #[vR a0, vR a1, vI (0 : Int32), .unset] [] := by first | (simp [entryFrame, mkF, argsToLocals, Value.category]; done) | rfl
def Q20i (Z : State) (a0 a1 dv hm rd ct aH aG : Addr) (sz : Int32) (kH : ClassId) (f : Nat → Value) (kG : ClassId) (g : Nat → Value) (ht : Int32) (u : Addr) (xt xu : Int64) (hu r : Int32) (h0 : Heap) (n0 : Nat) (v : Option Value) (h : Heap) (L : List Loc) : Prop := v = none ∧ Fr n0 L ∧ h = h0
theorem rm20i (l : Launch) (Z : State) (az : Array Value) (hw : HW Z az) (ws : List Jvm.Cond) (a0 a1 dv hm rd ct aH aG : Addr) (sz : Int32) (kH : ClassId) (f : Nat → Value) (kG : ClassId) (g : Nat → Value) (ht : Int32) (u : Addr) (xt xu : Int64) (hu r : Int32) (h0 : Heap) (n0 : Nat) (Z0 : n0 ≤ h0.size) (E_a0 : Exa Z h0 a0 cPN) (F_derivations_a0 : Fld Z h0 a0 cPN "derivations" dD (.ref dv)) (F_fixpoint_a0 : Fld Z h0 a0 cPN "fixpoint" dF .null) (F_indexes_a0 : Fld Z h0 a0 cPN "indexes" "Ljava/util/Map;" (.ref hm)) (F_readers_a0 : Fld Z h0 a0 cND "readers" "Ljava/util/List;" (.ref rd)) (E_hm : Exa Z h0 hm cHM) (F_size_hm : Fld Z h0 hm cHM "size" "I" (.int (0 : Int32))) (E_rd : Exa Z h0 rd cAL) (F_size_rd : Fld Z h0 rd cAL "size" "I" (.int (0 : Int32))) (E_dv : Exa Z h0 dv cDV) (F_counts_dv : Fld Z h0 dv cDV "counts" dC (.ref ct)) (E_ct : Exa Z h0 ct cTC) (F_held_ct : Fld Z h0 ct cSL "held" cOA (.ref aH)) (F_hashesAndCounts_ct : Fld Z h0 ct cSL "hashesAndCounts" "[J" (.ref aG)) (F_size_ct : Fld Z h0 ct cSL "size" "I" (.int sz)) (V_aH : own_Arf Z h0 aH kH (.object "java/lang/Object") (4 : Int32) f) (E_aH : Exa Z h0 aH cOA) (O_kH : Ovr Z kH "java/lang/Object") (V_aG : own_Arf Z h0 aG kG .long (4 : Int32) g) (E_aG : Exa Z h0 aG "[J") (E_a1 : Exa Z h0 a1 cTU) (F_hash_a1 : Fld Z h0 a1 cTU "hash" "I" (.int ht)) (J_tp : own_TP Z h0 a1 u xt xu ht hu) (hFR : own_FR f g a1 u xt xu ht hu r) (hc24 : r < (0 : Int32)) :
    MF l Z h0 ws ⟨cPN, "update", dV⟩ kB25 4 none ⟨10, 0, 0, 160⟩ #[(.ref a0), (.ref a1), (.int (0 : Int32))] (Q20i Z a0 a1 dv hm rd ct aH aG sz kH f kG g ht u xt xu hu r h0 n0) := by
  refine own_body cPN n0 rfl (plainFor_of_name pn_com_example_reteweave_reteweave_network_ProductionNode) (fun m => ef_rm20i m a0 a1) ?_
  intro p e s m below meth c s₁ Bd hx hby hml hown hZ X0 e0 N0 pre0
  obtain ⟨T1, X1, e1, st1⟩ := getF X0 hx hZ hown (host := "") (Or.inl (w122 hw)) Via.refl e0 F_derivations_a0 (g := (mkF m 1 #[vR a0, vR a1, vI (0 : Int32), .unset] [(.ref a0)])) rfl rfl (hb hby d20_1)
  obtain ⟨cq2, kq2, q2a, q2b, q2c⟩ := isOf hZ e1 E_dv
  obtain ⟨_, _, ⟨T2, L2, k2', n2'⟩, -, X2, ⟨Lc2, hQ2, l2, y2, z2⟩, st2⟩ := X1.virtualBack hx (y := ⟨cDV, "add", dI⟩) (z := ⟨cDV, "add", dI⟩) hown (mvT hZ (w153 hw)) (mvT hZ (w154 hw)) (notFace_of_selects (args := #[]) (mvT hZ (w156 hw))) (mvT hZ (w156 hw)) (mvT hZ (w155 hw)) (by decide) (backOf (W := 0) (rm21i l Z az hw [] dv a1 ct aH aG sz kH f kG g ht u xt xu hu r h0 n0 Z0 E_dv F_counts_dv E_ct F_held_ct F_hashesAndCounts_ct F_size_ct V_aH E_aH O_kH V_aG E_aG E_a1 F_hash_a1 J_tp hFR hc24) hZ (w157 hw) (w97 hw) (by decide) (by decide)) q2a q2c (g := (mkF m 6 #[vR a0, vR a1, vI (0 : Int32), .unset] [(.int (0 : Int32)), (.ref a1), (.ref dv)])) rfl (by rw [hml]; rfl) (Steps.refl _) (argsL := [(.ref a1), (.int (0 : Int32))]) (rest := []) (lenOf pd_21 rfl) rfl (Nat.le_of_eq rfl) (hb hby d20_6) (fun _ _ => ⟨rfl, e1, (own_nle rfl), (own_nle rfl)⟩)
  dsimp only [Pt.U, Pt.locs, Pt.cells, Pt.slots] at X2 l2 y2 z2 st2 hQ2
  subst l2 y2 z2
  obtain ⟨rfl, N2q, e2⟩ := hQ2
  obtain ⟨Lg2, X2', N2⟩ := own_gen X2 (Fr.app N0 N2q)
  obtain ⟨T3, X3, e3, st3⟩ := getF X2' hx hZ hown (host := "") (Or.inl (w146 hw)) Via.refl e2 F_fixpoint_a0 (g := (mkF m 11 #[vR a0, vR a1, vI (0 : Int32), vI (0 : Int32)] [(.ref a0)])) rfl rfl (hb hby d20_11)
  obtain ⟨fs, hr, hrun, hended, hW, hsame⟩ := X3.leave (v := none) (fun _ => rfl)
  refine ⟨_, _, pre0 _ ?_, hrun, hended, _, _, rfl, ?_, ⟨_, rfl⟩, hW, hsame.mono (by decide) (by decide)⟩
  · show SP p e below s₁ (mkF m 0 #[vR a0, vR a1, vI (0 : Int32), .unset] []) _
    refine XS.aloadN X0.here hx rfl (hb hby d20_0) rfl rfl ?_
    show SP p e below s₁ (mkF m 1 #[vR a0, vR a1, vI (0 : Int32), .unset] [(.ref a0)]) _
    refine st1 _ ?_
    show SP p e below T1 (mkF m 4 #[vR a0, vR a1, vI (0 : Int32), .unset] [(.ref dv)]) _
    refine XS.aloadN X1.here hx rfl (hb hby d20_4) rfl rfl ?_
    refine XS.iloadN X1.here hx rfl (hb hby d20_5) rfl ?_
    show SP p e below T1 (mkF m 6 #[vR a0, vR a1, vI (0 : Int32), .unset] [(.int (0 : Int32)), (.ref a1), (.ref dv)]) _
    refine st2.trans ?_
    show SP p e below T2 (mkF m 9 #[vR a0, vR a1, vI (0 : Int32), .unset] [(.int (0 : Int32))]) _
    refine XS.istoreN X2'.here hx rfl (hb hby d20_9) rfl (l' := #[vR a0, vR a1, vI (0 : Int32), vI (0 : Int32)]) rfl ?_
    refine XS.aloadN X2'.here hx rfl (hb hby d20_10) rfl rfl ?_
    show SP p e below T2 (mkF m 11 #[vR a0, vR a1, vI (0 : Int32), vI (0 : Int32)] [(.ref a0)]) _
    refine st3 _ ?_
    show SP p e below T3 (mkF m 14 #[vR a0, vR a1, vI (0 : Int32), vI (0 : Int32)] [.null]) _
    refine XS.ifnullYes X3.here hx rfl (pc0 := 14) (pc' := 30) rfl (hb hby d20_14) rfl (by decide) (by decide) ?_
    refine XS.iloadN X3.here hx rfl (hb hby d20_30) rfl ?_
    refine XS.ifYes X3.here hx rfl (pc0 := 31) (pc' := 46) rfl (hb hby d20_31) rfl ((if0 _ _).trans (teq (by decide : (0 : Int32) = (0 : Int32))).1) (by decide) (by decide) ?_
    show SP p e below T3 (mkF m 46 #[vR a0, vR a1, vI (0 : Int32), vI (0 : Int32)] []) _
    exact X3.returnOut hx Bd.returns (hb hby d20_46) hr
  · show Q20i Z a0 a1 dv hm rd ct aH aG sz kH f kG g ht u xt xu hu r h0 n0 _ T3.heap _
    rw [e3]
    exact ⟨rfl, N2, rfl⟩
theorem d20_34 : dc kB25 34 (.aload_n 0) 1 := by decide +kernel
theorem d20_35 : dc kB25 35 (.aload_n 1) 1 := by decide +kernel
theorem d20_36 : dc kB25 36 (.iload_n 3) 1 := by decide +kernel
theorem d20_37 : dc kB25 37 (.invokevirtual 51) 3 := by decide +kernel
theorem pd_23 : parseMethodDescriptor "(Lcom/example/reteweave/reteweave/network/Tuple;I)V" = some ⟨[(.object "com/example/reteweave/reteweave/network/Tuple"), .int], none⟩ := by decide +kernel
theorem d20_40 : dc kB25 40 (.aload_n 0) 1 := by decide +kernel
theorem d20_41 : dc kB25 41 (.aload_n 1) 1 := by decide +kernel
theorem d20_42 : dc kB25 42 (.iload_n 3) 1 := by decide +kernel
theorem d20_43 : dc kB25 43 (.invokevirtual 55) 3 := by decide +kernel
theorem ef_rm20n (m : MethodId) (a0 a1 : Addr) (p2 : Int32) : entryFrame m #[(.ref a0), (.ref a1), (.int p2)] 4 = mkF m 0 #[vR a0, vR a1, vI p2, .unset] [] := by first | (simp [entryFrame, mkF, argsToLocals, Value.category]; done) | rfl
def Q20n (Z : State) (a0 a1 : Addr) (p2 : Int32) (dv hm rd ct aH aG : Addr) (sz : Int32) (kH : ClassId) (f : Nat → Value) (kG : ClassId) (g : Nat → Value) (ht : Int32) (u : Addr) (xt xu : Int64) (hu r : Int32) (h0 : Heap) (n0 : Nat) (v : Option Value) (h : Heap) (L : List Loc) : Prop := v = none ∧ Fr n0 L ∧ Keep h0 h [aH, aG, ct] ∧ Exa Z h aH cOA ∧ own_Arf Z h aH kH (.object "java/lang/Object") (4 : Int32) (own_upd f (((-1 : Int32) - r)).toNatClampNeg (.ref a1)) ∧ Exa Z h aG "[J" ∧ own_Arf Z h aG kG .long (4 : Int32) (own_upd g (((-1 : Int32) - r)).toNatClampNeg (.long (own_hc ht p2))) ∧ Exa Z h ct cTC ∧ Fld Z h ct cSL "held" cOA (.ref aH) ∧ Fld Z h ct cSL "hashesAndCounts" "[J" (.ref aG) ∧ Fld Z h ct cSL "size" "I" (.int (sz + (1 : Int32)))
theorem rm20n (l : Launch) (Z : State) (az : Array Value) (hw : HW Z az) (ws : List Jvm.Cond) (a0 a1 : Addr) (p2 : Int32) (dv hm rd ct aH aG : Addr) (sz : Int32) (kH : ClassId) (f : Nat → Value) (kG : ClassId) (g : Nat → Value) (ht : Int32) (u : Addr) (xt xu : Int64) (hu r : Int32) (h0 : Heap) (n0 : Nat) (Z0 : n0 ≤ h0.size) (E_a0 : Exa Z h0 a0 cPN) (F_derivations_a0 : Fld Z h0 a0 cPN "derivations" dD (.ref dv)) (F_fixpoint_a0 : Fld Z h0 a0 cPN "fixpoint" dF .null) (F_indexes_a0 : Fld Z h0 a0 cPN "indexes" "Ljava/util/Map;" (.ref hm)) (F_readers_a0 : Fld Z h0 a0 cND "readers" "Ljava/util/List;" (.ref rd)) (E_hm : Exa Z h0 hm cHM) (F_size_hm : Fld Z h0 hm cHM "size" "I" (.int (0 : Int32))) (E_rd : Exa Z h0 rd cAL) (F_size_rd : Fld Z h0 rd cAL "size" "I" (.int (0 : Int32))) (E_dv : Exa Z h0 dv cDV) (F_counts_dv : Fld Z h0 dv cDV "counts" dC (.ref ct)) (E_ct : Exa Z h0 ct cTC) (F_held_ct : Fld Z h0 ct cSL "held" cOA (.ref aH)) (F_hashesAndCounts_ct : Fld Z h0 ct cSL "hashesAndCounts" "[J" (.ref aG)) (F_size_ct : Fld Z h0 ct cSL "size" "I" (.int sz)) (V_aH : own_Arf Z h0 aH kH (.object "java/lang/Object") (4 : Int32) f) (E_aH : Exa Z h0 aH cOA) (O_kH : Ovr Z kH "java/lang/Object") (V_aG : own_Arf Z h0 aG kG .long (4 : Int32) g) (E_aG : Exa Z h0 aG "[J") (E_a1 : Exa Z h0 a1 cTU) (F_hash_a1 : Fld Z h0 a1 cTU "hash" "I" (.int ht)) (J_tp : own_TP Z h0 a1 u xt xu ht hu) (hFR : own_FR f g a1 u xt xu ht hu r) (hc24 : r < (0 : Int32)) (hc25 : ¬ (((0 : Int32) + p2) < (0 : Int32))) (hc26 : ¬ (p2 = (0 : Int32))) (hc27 : ¬ (sz = (3 : Int32))) (hc28 : ¬ (((-1 : Int32) - r) < (0 : Int32))) (hc29 : ((-1 : Int32) - r) < (4 : Int32)) (g_aH : n0 ≤ aH) (g_aG : n0 ≤ aG) (g_ct : n0 ≤ ct) (hc33 : (sz + (1 : Int32)) < (3 : Int32)) (hc34 : (0 : Int32) < ((0 : Int32) + p2)) :
    MF l Z h0 ws ⟨cPN, "update", dV⟩ kB25 4 none ⟨10, 0, 0, 160⟩ #[(.ref a0), (.ref a1), (.int p2)] (Q20n Z a0 a1 p2 dv hm rd ct aH aG sz kH f kG g ht u xt xu hu r h0 n0) := by
  refine own_body cPN n0 rfl (plainFor_of_name pn_com_example_reteweave_reteweave_network_ProductionNode) (fun m => ef_rm20n m a0 a1 p2) ?_
  intro p e s m below meth c s₁ Bd hx hby hml hown hZ X0 e0 N0 pre0
  obtain ⟨T1, X1, e1, st1⟩ := getF X0 hx hZ hown (host := "") (Or.inl (w122 hw)) Via.refl e0 F_derivations_a0 (g := (mkF m 1 #[vR a0, vR a1, vI p2, .unset] [(.ref a0)])) rfl rfl (hb hby d20_1)
  obtain ⟨cq2, kq2, q2a, q2b, q2c⟩ := isOf hZ e1 E_dv
  obtain ⟨_, _, ⟨T2, L2, k2', n2'⟩, -, X2, ⟨Lc2, hQ2, l2, y2, z2⟩, st2⟩ := X1.virtualBack hx (y := ⟨cDV, "add", dI⟩) (z := ⟨cDV, "add", dI⟩) hown (mvT hZ (w153 hw)) (mvT hZ (w154 hw)) (notFace_of_selects (args := #[]) (mvT hZ (w156 hw))) (mvT hZ (w156 hw)) (mvT hZ (w155 hw)) (by decide) (backOf (W := 0) (rm21n l Z az hw [] dv a1 p2 ct aH aG sz kH f kG g ht u xt xu hu r h0 n0 Z0 E_dv F_counts_dv E_ct F_held_ct F_hashesAndCounts_ct F_size_ct V_aH E_aH O_kH V_aG E_aG E_a1 F_hash_a1 J_tp hFR hc24 hc25 hc26 hc27 hc28 hc29 g_aH g_aG g_ct hc33 hc34) hZ (w157 hw) (w97 hw) (by decide) (by decide)) q2a q2c (g := (mkF m 6 #[vR a0, vR a1, vI p2, .unset] [(.int p2), (.ref a1), (.ref dv)])) rfl (by rw [hml]; rfl) (Steps.refl _) (argsL := [(.ref a1), (.int p2)]) (rest := []) (lenOf pd_21 rfl) rfl (Nat.le_of_eq rfl) (hb hby d20_6) (fun _ _ => ⟨rfl, e1, (own_nle rfl), (own_nle rfl)⟩)
  dsimp only [Pt.U, Pt.locs, Pt.cells, Pt.slots] at X2 l2 y2 z2 st2 hQ2
  subst l2 y2 z2
  obtain ⟨rfl, N2q, kq2, pf2_0, pf2_1, pf2_2, pf2_3, pf2_4, pf2_5, pf2_6, pf2_7⟩ := hQ2
  obtain ⟨Lg2, X2', N2⟩ := own_gen X2 (Fr.app N0 N2q)
  have K2 : Keep h0 T2.heap [aH, aG, ct] := (Keep.refl h0 [aH, aG, ct]).trans kq2 (allS (Or.inl (mg 0 rfl)) (allS (Or.inl (mg 1 rfl)) (allS (Or.inl (mg 2 rfl)) all0)))
  have Z2 : n0 ≤ T2.heap.size := Nat.le_trans Z0 kq2.1
  have ne_a0_aH : a0 ≠ aH := ne_exa E_a0 E_aH (by decide)
  have ne_a0_aG : a0 ≠ aG := ne_exa E_a0 E_aG (by decide)
  have ne_a0_ct : a0 ≠ ct := ne_exa E_a0 E_ct (by decide)
  have F_a0_fixpoint_u3 : Fld Z T2.heap a0 cPN "fixpoint" dF .null := (F_fixpoint_a0.keep kq2 (ninS ne_a0_aH (ninS ne_a0_aG (ninS ne_a0_ct nin0))))
  obtain ⟨T4, X4, e4, st4⟩ := getF X2' hx hZ hown (host := "") (Or.inl (w146 hw)) Via.refl rfl F_a0_fixpoint_u3 (g := (mkF m 11 #[vR a0, vR a1, vI p2, vI (1 : Int32)] [(.ref a0)])) rfl rfl (hb hby d20_11)
  have E_a0_u6 : Exa Z T2.heap a0 cPN := (E_a0.keep kq2)
  have F_a0_indexes_u7 : Fld Z T2.heap a0 cPN "indexes" "Ljava/util/Map;" (.ref hm) := (F_indexes_a0.keep kq2 (ninS ne_a0_aH (ninS ne_a0_aG (ninS ne_a0_ct nin0))))
  have E_hm_u8 : Exa Z T2.heap hm cHM := (E_hm.keep kq2)
  have ne_hm_aH : hm ≠ aH := ne_exa E_hm E_aH (by decide)
  have ne_hm_aG : hm ≠ aG := ne_exa E_hm E_aG (by decide)
  have ne_hm_ct : hm ≠ ct := ne_exa E_hm E_ct (by decide)
  have F_hm_size_u9 : Fld Z T2.heap hm cHM "size" "I" (.int (0 : Int32)) := (F_size_hm.keep kq2 (ninS ne_hm_aH (ninS ne_hm_aG (ninS ne_hm_ct nin0))))
  obtain ⟨cq5, q5, q5'⟩ := E_a0_u6.cell
  obtain ⟨_, _, ⟨T5, L5, k5', n5'⟩, -, X5, ⟨Lc5, hQ5, l5, y5, z5⟩, st5⟩ := X4.privateBack hx (y := ⟨cPN, "index", dV⟩) hown (mvT hZ (w257 hw)) (mvT hZ (w258 hw)) (own_priv (mvT hZ (w55 hw)) (Cond.privateMethod_at (mvP hZ (w259 hw) (args := #[]))) (mvT hZ (w258 hw)) (by decide)) (Cond.privateMethod_at (mvP hZ (w259 hw) (args := #[]))) (mvT hZ (w260 hw)) (by decide) (backOf (W := 0) (rm38 l Z az hw [] a0 a1 (1 : Int32) hm T2.heap n0 Z2 E_a0_u6 F_a0_indexes_u7 E_hm_u8 F_hm_size_u9) hZ (w260 hw) (w56 hw) (by decide) (by decide)) (g := (mkF m 37 #[vR a0, vR a1, vI p2, vI (1 : Int32)] [(.int (1 : Int32)), (.ref a1), (.ref a0)])) rfl (by rw [hml]; rfl) (Steps.refl _) (a := a0) (by rw [e4]; exact q5) q5' (argsL := [(.ref a1), (.int (1 : Int32))]) (rest := []) (lenOf pd_23 rfl) rfl (Nat.le_of_eq rfl) (hb hby d20_37) (fun _ _ => ⟨rfl, e4, (own_nle rfl), (own_nle rfl)⟩)
  dsimp only [Pt.U, Pt.locs, Pt.cells, Pt.slots] at X5 l5 y5 z5 st5 hQ5
  subst l5 y5 z5
  obtain ⟨rfl, N5q, e5⟩ := hQ5
  obtain ⟨Lg5, X5', N5⟩ := own_gen X5 (Fr.app N2 N5q)
  have F_a0_readers_u11 : Fld Z T2.heap a0 cND "readers" "Ljava/util/List;" (.ref rd) := (F_readers_a0.keep kq2 (ninS ne_a0_aH (ninS ne_a0_aG (ninS ne_a0_ct nin0))))
  have E_rd_u12 : Exa Z T2.heap rd cAL := (E_rd.keep kq2)
  have ne_rd_aH : rd ≠ aH := ne_exa E_rd E_aH (by decide)
  have ne_rd_aG : rd ≠ aG := ne_exa E_rd E_aG (by decide)
  have ne_rd_ct : rd ≠ ct := ne_exa E_rd E_ct (by decide)
  have F_rd_size_u13 : Fld Z T2.heap rd cAL "size" "I" (.int (0 : Int32)) := (F_size_rd.keep kq2 (ninS ne_rd_aH (ninS ne_rd_aG (ninS ne_rd_ct nin0))))
  obtain ⟨cq10, kq10, q10a, q10b, q10c⟩ := isOf hZ e5 E_a0_u6
  obtain ⟨_, _, ⟨T10, L10, k10', n10'⟩, -, X10, ⟨Lc10, hQ10, l10, y10, z10⟩, st10⟩ := X5'.virtualBackUp hx (x := ⟨cPN, "emit", dV⟩) (y := ⟨cND, "emit", dV⟩) (owner := cND) hown (mvT hZ (w272 hw)) (mvT hZ (w273 hw)) (mvT hZ (w274 hw)) (by decide) (mvT hZ (w276 hw)) (mvT hZ (w275 hw)) (backOf (W := 0) (rm40 l Z az hw [] a0 a1 (1 : Int32) rd T2.heap n0 Z2 E_a0_u6 F_a0_readers_u11 E_rd_u12 F_rd_size_u13) hZ (w277 hw) (w66 hw) (by decide) (by decide)) q10a q10c (g := (mkF m 43 #[vR a0, vR a1, vI p2, vI (1 : Int32)] [(.int (1 : Int32)), (.ref a1), (.ref a0)])) rfl (by rw [hml]; rfl) (Steps.refl _) (argsL := [(.ref a1), (.int (1 : Int32))]) (rest := []) (lenOf pd_23 rfl) rfl (Nat.le_of_eq rfl) (hb hby d20_43) (fun _ _ => ⟨rfl, e5, (own_nle rfl), (own_nle rfl)⟩)
  dsimp only [Pt.U, Pt.locs, Pt.cells, Pt.slots] at X10 l10 y10 z10 st10 hQ10
  subst l10 y10 z10
  obtain ⟨rfl, N10q, e10⟩ := hQ10
  obtain ⟨Lg10, X10', N10⟩ := own_gen X10 (Fr.app N5 N10q)
  obtain ⟨fs, hr, hrun, hended, hW, hsame⟩ := X10'.leave (v := none) (fun _ => rfl) Bd.notSynchronized
  refine ⟨_, _, pre0 _ ?_, hrun, hended, _, _, rfl, ?_, ⟨_, rfl⟩, hW, hsame.mono (by decide) (by decide)⟩
  · show SP p e below s₁ (mkF m 0 #[vR a0, vR a1, vI p2, .unset] []) _
    refine XS.aloadN X0.here hx rfl (hb hby d20_0) rfl rfl ?_
    show SP p e below s₁ (mkF m 1 #[vR a0, vR a1, vI p2, .unset] [(.ref a0)]) _
    refine st1 _ ?_
    show SP p e below T1 (mkF m 4 #[vR a0, vR a1, vI p2, .unset] [(.ref dv)]) _
    refine XS.aloadN X1.here hx rfl (hb hby d20_4) rfl rfl ?_
    refine XS.iloadN X1.here hx rfl (hb hby d20_5) rfl ?_
    show SP p e below T1 (mkF m 6 #[vR a0, vR a1, vI p2, .unset] [(.int p2), (.ref a1), (.ref dv)]) _
    refine st2.trans ?_
    show SP p e below T2 (mkF m 9 #[vR a0, vR a1, vI p2, .unset] [(.int (1 : Int32))]) _
    refine XS.istoreN X2'.here hx rfl (hb hby d20_9) rfl (l' := #[vR a0, vR a1, vI p2, vI (1 : Int32)]) rfl ?_
    refine XS.aloadN X2'.here hx rfl (hb hby d20_10) rfl rfl ?_
    show SP p e below T2 (mkF m 11 #[vR a0, vR a1, vI p2, vI (1 : Int32)] [(.ref a0)]) _
    refine st4 _ ?_
    show SP p e below T4 (mkF m 14 #[vR a0, vR a1, vI p2, vI (1 : Int32)] [.null]) _
    refine XS.ifnullYes X4.here hx rfl (pc0 := 14) (pc' := 30) rfl (hb hby d20_14) rfl (by decide) (by decide) ?_
    refine XS.iloadN X4.here hx rfl (hb hby d20_30) rfl ?_
    refine XS.ifNo X4.here hx rfl (hb hby d20_31) rfl ((if0 _ _).trans (feq (by decide : ¬ ((1 : Int32) = (0 : Int32)))).1) ?_
    refine XS.aloadN X4.here hx rfl (hb hby d20_34) rfl rfl ?_
    refine XS.aloadN X4.here hx rfl (hb hby d20_35) rfl rfl ?_
    refine XS.iloadN X4.here hx rfl (hb hby d20_36) rfl ?_
    show SP p e below T4 (mkF m 37 #[vR a0, vR a1, vI p2, vI (1 : Int32)] [(.int (1 : Int32)), (.ref a1), (.ref a0)]) _
    refine st5.trans ?_
    show SP p e below T5 (mkF m 40 #[vR a0, vR a1, vI p2, vI (1 : Int32)] []) _
    refine XS.aloadN X5'.here hx rfl (hb hby d20_40) rfl rfl ?_
    refine XS.aloadN X5'.here hx rfl (hb hby d20_41) rfl rfl ?_
    refine XS.iloadN X5'.here hx rfl (hb hby d20_42) rfl ?_
    show SP p e below T5 (mkF m 43 #[vR a0, vR a1, vI p2, vI (1 : Int32)] [(.int (1 : Int32)), (.ref a1), (.ref a0)]) _
    refine st10.trans ?_
    show SP p e below T10 (mkF m 46 #[vR a0, vR a1, vI p2, vI (1 : Int32)] []) _
    exact X10'.returnOut hx Bd.returns (hb hby d20_46) hr
  · show Q20n Z a0 a1 p2 dv hm rd ct aH aG sz kH f kG g ht u xt xu hu r h0 n0 _ T10.heap _
    rw [e10]
    exact ⟨rfl, N10, K2, pf2_0, pf2_1, pf2_2, pf2_3, pf2_4, pf2_5, pf2_6, pf2_7⟩
theorem ef_rm20s (m : MethodId) (a0 a1 : Addr) (p2 : Int32) : entryFrame m #[(.ref a0), (.ref a1), (.int p2)] 4 = mkF m 0 #[vR a0, vR a1, vI p2, .unset] [] := by first | (simp [entryFrame, mkF, argsToLocals, Value.category]; done) | rfl
def Q20s (Z : State) (a0 a1 : Addr) (p2 : Int32) (dv hm rd ct aH aG : Addr) (sz : Int32) (kH : ClassId) (f : Nat → Value) (kG : ClassId) (g : Nat → Value) (ht : Int32) (u : Addr) (xt xu : Int64) (hu r : Int32) (w : Int64) (h0 : Heap) (n0 : Nat) (v : Option Value) (h : Heap) (L : List Loc) : Prop := v = none ∧ Fr n0 L ∧ Keep h0 h [aG] ∧ Exa Z h aG "[J" ∧ own_Arf Z h aG kG .long (4 : Int32) (own_upd g (r).toNatClampNeg (.long (own_hc (own_hh w) ((w.toInt32) + p2))))
theorem rm20s (l : Launch) (Z : State) (az : Array Value) (hw : HW Z az) (ws : List Jvm.Cond) (a0 a1 : Addr) (p2 : Int32) (dv hm rd ct aH aG : Addr) (sz : Int32) (kH : ClassId) (f : Nat → Value) (kG : ClassId) (g : Nat → Value) (ht : Int32) (u : Addr) (xt xu : Int64) (hu r : Int32) (w : Int64) (h0 : Heap) (n0 : Nat) (Z0 : n0 ≤ h0.size) (E_a0 : Exa Z h0 a0 cPN) (F_derivations_a0 : Fld Z h0 a0 cPN "derivations" dD (.ref dv)) (F_fixpoint_a0 : Fld Z h0 a0 cPN "fixpoint" dF .null) (F_indexes_a0 : Fld Z h0 a0 cPN "indexes" "Ljava/util/Map;" (.ref hm)) (F_readers_a0 : Fld Z h0 a0 cND "readers" "Ljava/util/List;" (.ref rd)) (E_hm : Exa Z h0 hm cHM) (F_size_hm : Fld Z h0 hm cHM "size" "I" (.int (0 : Int32))) (E_rd : Exa Z h0 rd cAL) (F_size_rd : Fld Z h0 rd cAL "size" "I" (.int (0 : Int32))) (E_dv : Exa Z h0 dv cDV) (F_counts_dv : Fld Z h0 dv cDV "counts" dC (.ref ct)) (E_ct : Exa Z h0 ct cTC) (F_held_ct : Fld Z h0 ct cSL "held" cOA (.ref aH)) (F_hashesAndCounts_ct : Fld Z h0 ct cSL "hashesAndCounts" "[J" (.ref aG)) (F_size_ct : Fld Z h0 ct cSL "size" "I" (.int sz)) (V_aH : own_Arf Z h0 aH kH (.object "java/lang/Object") (4 : Int32) f) (E_aH : Exa Z h0 aH cOA) (O_kH : Ovr Z kH "java/lang/Object") (V_aG : own_Arf Z h0 aG kG .long (4 : Int32) g) (E_aG : Exa Z h0 aG "[J") (E_a1 : Exa Z h0 a1 cTU) (F_hash_a1 : Fld Z h0 a1 cTU "hash" "I" (.int ht)) (J_tp : own_TP Z h0 a1 u xt xu ht hu) (hFR : own_FR f g a1 u xt xu ht hu r) (hc24 : ¬ (r < (0 : Int32))) (hc25 : r < (4 : Int32)) (hc26 : g (r).toNatClampNeg = (.long w)) (hc27 : ¬ (((w.toInt32) + p2) < (0 : Int32))) (hc28 : ¬ (((w.toInt32) + p2) = (0 : Int32))) (g_aG : n0 ≤ aG) (hc30 : ¬ ((w.toInt32) = (0 : Int32))) (hc31 : (0 : Int32) < (w.toInt32)) :
    MF l Z h0 ws ⟨cPN, "update", dV⟩ kB25 4 none ⟨10, 0, 0, 160⟩ #[(.ref a0), (.ref a1), (.int p2)] (Q20s Z a0 a1 p2 dv hm rd ct aH aG sz kH f kG g ht u xt xu hu r w h0 n0) := by
  refine own_body cPN n0 rfl (plainFor_of_name pn_com_example_reteweave_reteweave_network_ProductionNode) (fun m => ef_rm20s m a0 a1 p2) ?_
  intro p e s m below meth c s₁ Bd hx hby hml hown hZ X0 e0 N0 pre0
  obtain ⟨T1, X1, e1, st1⟩ := getF X0 hx hZ hown (host := "") (Or.inl (w122 hw)) Via.refl e0 F_derivations_a0 (g := (mkF m 1 #[vR a0, vR a1, vI p2, .unset] [(.ref a0)])) rfl rfl (hb hby d20_1)
  obtain ⟨cq2, kq2, q2a, q2b, q2c⟩ := isOf hZ e1 E_dv
  obtain ⟨_, _, ⟨T2, L2, k2', n2'⟩, -, X2, ⟨Lc2, hQ2, l2, y2, z2⟩, st2⟩ := X1.virtualBack hx (y := ⟨cDV, "add", dI⟩) (z := ⟨cDV, "add", dI⟩) hown (mvT hZ (w153 hw)) (mvT hZ (w154 hw)) (notFace_of_selects (args := #[]) (mvT hZ (w156 hw))) (mvT hZ (w156 hw)) (mvT hZ (w155 hw)) (by decide) (backOf (W := 0) (rm21s l Z az hw [] dv a1 p2 ct aH aG sz kH f kG g ht u xt xu hu r w h0 n0 Z0 E_dv F_counts_dv E_ct F_held_ct F_hashesAndCounts_ct F_size_ct V_aH E_aH O_kH V_aG E_aG E_a1 F_hash_a1 J_tp hFR hc24 hc25 hc26 hc27 hc28 g_aG hc30 hc31) hZ (w157 hw) (w97 hw) (by decide) (by decide)) q2a q2c (g := (mkF m 6 #[vR a0, vR a1, vI p2, .unset] [(.int p2), (.ref a1), (.ref dv)])) rfl (by rw [hml]; rfl) (Steps.refl _) (argsL := [(.ref a1), (.int p2)]) (rest := []) (lenOf pd_21 rfl) rfl (Nat.le_of_eq rfl) (hb hby d20_6) (fun _ _ => ⟨rfl, e1, (own_nle rfl), (own_nle rfl)⟩)
  dsimp only [Pt.U, Pt.locs, Pt.cells, Pt.slots] at X2 l2 y2 z2 st2 hQ2
  subst l2 y2 z2
  obtain ⟨rfl, N2q, kq2, pf2_0, pf2_1⟩ := hQ2
  obtain ⟨Lg2, X2', N2⟩ := own_gen X2 (Fr.app N0 N2q)
  have K2 : Keep h0 T2.heap [aG] := (Keep.refl h0 [aG]).trans kq2 (allS (Or.inl (mg 0 rfl)) all0)
  have Z2 : n0 ≤ T2.heap.size := Nat.le_trans Z0 kq2.1
  have ne_a0_aG : a0 ≠ aG := ne_exa E_a0 E_aG (by decide)
  have F_a0_fixpoint_u3 : Fld Z T2.heap a0 cPN "fixpoint" dF .null := (F_fixpoint_a0.keep kq2 (ninS ne_a0_aG nin0))
  obtain ⟨T4, X4, e4, st4⟩ := getF X2' hx hZ hown (host := "") (Or.inl (w146 hw)) Via.refl rfl F_a0_fixpoint_u3 (g := (mkF m 11 #[vR a0, vR a1, vI p2, vI (0 : Int32)] [(.ref a0)])) rfl rfl (hb hby d20_11)
  obtain ⟨fs, hr, hrun, hended, hW, hsame⟩ := X4.leave (v := none) (fun _ => rfl) Bd.notSynchronized
  refine ⟨_, _, pre0 _ ?_, hrun, hended, _, _, rfl, ?_, ⟨_, rfl⟩, hW, hsame.mono (by decide) (by decide)⟩
  · show SP p e below s₁ (mkF m 0 #[vR a0, vR a1, vI p2, .unset] []) _
    refine XS.aloadN X0.here hx rfl (hb hby d20_0) rfl rfl ?_
    show SP p e below s₁ (mkF m 1 #[vR a0, vR a1, vI p2, .unset] [(.ref a0)]) _
    refine st1 _ ?_
    show SP p e below T1 (mkF m 4 #[vR a0, vR a1, vI p2, .unset] [(.ref dv)]) _
    refine XS.aloadN X1.here hx rfl (hb hby d20_4) rfl rfl ?_
    refine XS.iloadN X1.here hx rfl (hb hby d20_5) rfl ?_
    show SP p e below T1 (mkF m 6 #[vR a0, vR a1, vI p2, .unset] [(.int p2), (.ref a1), (.ref dv)]) _
    refine st2.trans ?_
    show SP p e below T2 (mkF m 9 #[vR a0, vR a1, vI p2, .unset] [(.int (0 : Int32))]) _
    refine XS.istoreN X2'.here hx rfl (hb hby d20_9) rfl (l' := #[vR a0, vR a1, vI p2, vI (0 : Int32)]) rfl ?_
    refine XS.aloadN X2'.here hx rfl (hb hby d20_10) rfl rfl ?_
    show SP p e below T2 (mkF m 11 #[vR a0, vR a1, vI p2, vI (0 : Int32)] [(.ref a0)]) _
    refine st4 _ ?_
    show SP p e below T4 (mkF m 14 #[vR a0, vR a1, vI p2, vI (0 : Int32)] [.null]) _
    refine XS.ifnullYes X4.here hx rfl (pc0 := 14) (pc' := 30) rfl (hb hby d20_14) rfl (by decide) (by decide) ?_
    refine XS.iloadN X4.here hx rfl (hb hby d20_30) rfl ?_
    refine XS.ifYes X4.here hx rfl (pc0 := 31) (pc' := 46) rfl (hb hby d20_31) rfl ((if0 _ _).trans (teq (by decide : (0 : Int32) = (0 : Int32))).1) (by decide) (by decide) ?_
    show SP p e below T4 (mkF m 46 #[vR a0, vR a1, vI p2, vI (0 : Int32)] []) _
    exact X4.returnOut hx Bd.returns (hb hby d20_46) hr
  · show Q20s Z a0 a1 p2 dv hm rd ct aH aG sz kH f kG g ht u xt xu hu r w h0 n0 _ T4.heap _
    rw [e4]
    exact ⟨rfl, N2, K2, pf2_0, pf2_1⟩
theorem ef_rm20R (m : MethodId) (a0 a1 : Addr) (p2 : Int32) : entryFrame m #[(.ref a0), (.ref a1), (.int p2)] 4 = mkF m 0 #[vR a0, vR a1, vI p2, .unset] [] := by first | (simp [entryFrame, mkF, argsToLocals, Value.category]; done) | rfl
def Q20R (Z : State) (a0 a1 : Addr) (p2 : Int32) (dv hm rd ct aH aG : Addr) (sz : Int32) (kH : ClassId) (f : Nat → Value) (kG : ClassId) (g : Nat → Value) (ht : Int32) (u : Addr) (xt xu : Int64) (hu r : Int32) (w : Int64) (f2 g2 : Nat → Value) (h0 : Heap) (n0 : Nat) (v : Option Value) (h : Heap) (L : List Loc) : Prop := v = none ∧ Fr n0 L ∧ Keep h0 h [aH, aG, ct] ∧ Exa Z h aH cOA ∧ own_Arf Z h aH kH (.object "java/lang/Object") (4 : Int32) f2 ∧ Exa Z h aG "[J" ∧ own_Arf Z h aG kG .long (4 : Int32) g2 ∧ Exa Z h ct cTC ∧ Fld Z h ct cSL "held" cOA (.ref aH) ∧ Fld Z h ct cSL "hashesAndCounts" "[J" (.ref aG) ∧ Fld Z h ct cSL "size" "I" (.int (sz - (1 : Int32)))
theorem rm20R (l : Launch) (Z : State) (az : Array Value) (hw : HW Z az) (ws : List Jvm.Cond) (a0 a1 : Addr) (p2 : Int32) (dv hm rd ct aH aG : Addr) (sz : Int32) (kH : ClassId) (f : Nat → Value) (kG : ClassId) (g : Nat → Value) (ht : Int32) (u : Addr) (xt xu : Int64) (hu r : Int32) (w : Int64) (f2 g2 : Nat → Value) (h0 : Heap) (n0 : Nat) (Z0 : n0 ≤ h0.size) (E_a0 : Exa Z h0 a0 cPN) (F_derivations_a0 : Fld Z h0 a0 cPN "derivations" dD (.ref dv)) (F_fixpoint_a0 : Fld Z h0 a0 cPN "fixpoint" dF .null) (F_indexes_a0 : Fld Z h0 a0 cPN "indexes" "Ljava/util/Map;" (.ref hm)) (F_readers_a0 : Fld Z h0 a0 cND "readers" "Ljava/util/List;" (.ref rd)) (E_hm : Exa Z h0 hm cHM) (F_size_hm : Fld Z h0 hm cHM "size" "I" (.int (0 : Int32))) (E_rd : Exa Z h0 rd cAL) (F_size_rd : Fld Z h0 rd cAL "size" "I" (.int (0 : Int32))) (E_dv : Exa Z h0 dv cDV) (F_counts_dv : Fld Z h0 dv cDV "counts" dC (.ref ct)) (E_ct : Exa Z h0 ct cTC) (F_held_ct : Fld Z h0 ct cSL "held" cOA (.ref aH)) (F_hashesAndCounts_ct : Fld Z h0 ct cSL "hashesAndCounts" "[J" (.ref aG)) (F_size_ct : Fld Z h0 ct cSL "size" "I" (.int sz)) (V_aH : own_Arf Z h0 aH kH (.object "java/lang/Object") (4 : Int32) f) (E_aH : Exa Z h0 aH cOA) (O_kH : Ovr Z kH "java/lang/Object") (V_aG : own_Arf Z h0 aG kG .long (4 : Int32) g) (E_aG : Exa Z h0 aG "[J") (E_a1 : Exa Z h0 a1 cTU) (F_hash_a1 : Fld Z h0 a1 cTU "hash" "I" (.int ht)) (J_tp : own_TP Z h0 a1 u xt xu ht hu) (hFR : own_FR f g a1 u xt xu ht hu r) (E_u : Exa Z h0 u cTU) (hc25 : own_RR f g a1 u r f2 g2) (hc26 : ¬ (r < (0 : Int32))) (hc27 : r < (4 : Int32)) (hc28 : g (r).toNatClampNeg = (.long w)) (hc29 : ¬ (((w.toInt32) + p2) < (0 : Int32))) (hc30 : ((w.toInt32) + p2) = (0 : Int32)) (g_aH : n0 ≤ aH) (g_aG : n0 ≤ aG) (g_ct : n0 ≤ ct) (hc34 : ¬ ((w.toInt32) = (0 : Int32))) (hc35 : (0 : Int32) < (w.toInt32)) :
    MF l Z h0 ws ⟨cPN, "update", dV⟩ kB25 4 none ⟨10, 0, 0, 160⟩ #[(.ref a0), (.ref a1), (.int p2)] (Q20R Z a0 a1 p2 dv hm rd ct aH aG sz kH f kG g ht u xt xu hu r w f2 g2 h0 n0) := by
  refine own_body cPN n0 rfl (plainFor_of_name pn_com_example_reteweave_reteweave_network_ProductionNode) (fun m => ef_rm20R m a0 a1 p2) ?_
  intro p e s m below meth c s₁ Bd hx hby hml hown hZ X0 e0 N0 pre0
  obtain ⟨T1, X1, e1, st1⟩ := getF X0 hx hZ hown (host := "") (Or.inl (w122 hw)) Via.refl e0 F_derivations_a0 (g := (mkF m 1 #[vR a0, vR a1, vI p2, .unset] [(.ref a0)])) rfl rfl (hb hby d20_1)
  obtain ⟨cq2, kq2, q2a, q2b, q2c⟩ := isOf hZ e1 E_dv
  obtain ⟨_, _, ⟨T2, L2, k2', n2'⟩, -, X2, ⟨Lc2, hQ2, l2, y2, z2⟩, st2⟩ := X1.virtualBack hx (y := ⟨cDV, "add", dI⟩) (z := ⟨cDV, "add", dI⟩) hown (mvT hZ (w153 hw)) (mvT hZ (w154 hw)) (notFace_of_selects (args := #[]) (mvT hZ (w156 hw))) (mvT hZ (w156 hw)) (mvT hZ (w155 hw)) (by decide) (backOf (W := 0) (rm21R l Z az hw [] dv a1 p2 ct aH aG sz kH f kG g ht u xt xu hu r w f2 g2 h0 n0 Z0 E_dv F_counts_dv E_ct F_held_ct F_hashesAndCounts_ct F_size_ct V_aH E_aH O_kH V_aG E_aG E_a1 F_hash_a1 J_tp hFR E_u hc25 hc26 hc27 hc28 hc29 hc30 g_aH g_aG g_ct hc34 hc35) hZ (w157 hw) (w97 hw) (by decide) (by decide)) q2a q2c (g := (mkF m 6 #[vR a0, vR a1, vI p2, .unset] [(.int p2), (.ref a1), (.ref dv)])) rfl (by rw [hml]; rfl) (Steps.refl _) (argsL := [(.ref a1), (.int p2)]) (rest := []) (lenOf pd_21 rfl) rfl (Nat.le_of_eq rfl) (hb hby d20_6) (fun _ _ => ⟨rfl, e1, (own_nle rfl), (own_nle rfl)⟩)
  dsimp only [Pt.U, Pt.locs, Pt.cells, Pt.slots] at X2 l2 y2 z2 st2 hQ2
  subst l2 y2 z2
  obtain ⟨rfl, N2q, kq2, pf2_0, pf2_1, pf2_2, pf2_3, pf2_4, pf2_5, pf2_6, pf2_7⟩ := hQ2
  obtain ⟨Lg2, X2', N2⟩ := own_gen X2 (Fr.app N0 N2q)
  have K2 : Keep h0 T2.heap [aH, aG, ct] := (Keep.refl h0 [aH, aG, ct]).trans kq2 (allS (Or.inl (mg 0 rfl)) (allS (Or.inl (mg 1 rfl)) (allS (Or.inl (mg 2 rfl)) all0)))
  have Z2 : n0 ≤ T2.heap.size := Nat.le_trans Z0 kq2.1
  have ne_a0_aH : a0 ≠ aH := ne_exa E_a0 E_aH (by decide)
  have ne_a0_aG : a0 ≠ aG := ne_exa E_a0 E_aG (by decide)
  have ne_a0_ct : a0 ≠ ct := ne_exa E_a0 E_ct (by decide)
  have F_a0_fixpoint_u3 : Fld Z T2.heap a0 cPN "fixpoint" dF .null := (F_fixpoint_a0.keep kq2 (ninS ne_a0_aH (ninS ne_a0_aG (ninS ne_a0_ct nin0))))
  obtain ⟨T4, X4, e4, st4⟩ := getF X2' hx hZ hown (host := "") (Or.inl (w146 hw)) Via.refl rfl F_a0_fixpoint_u3 (g := (mkF m 11 #[vR a0, vR a1, vI p2, vI (-1 : Int32)] [(.ref a0)])) rfl rfl (hb hby d20_11)
  have E_a0_u6 : Exa Z T2.heap a0 cPN := (E_a0.keep kq2)
  have F_a0_indexes_u7 : Fld Z T2.heap a0 cPN "indexes" "Ljava/util/Map;" (.ref hm) := (F_indexes_a0.keep kq2 (ninS ne_a0_aH (ninS ne_a0_aG (ninS ne_a0_ct nin0))))
  have E_hm_u8 : Exa Z T2.heap hm cHM := (E_hm.keep kq2)
  have ne_hm_aH : hm ≠ aH := ne_exa E_hm E_aH (by decide)
  have ne_hm_aG : hm ≠ aG := ne_exa E_hm E_aG (by decide)
  have ne_hm_ct : hm ≠ ct := ne_exa E_hm E_ct (by decide)
  have F_hm_size_u9 : Fld Z T2.heap hm cHM "size" "I" (.int (0 : Int32)) := (F_size_hm.keep kq2 (ninS ne_hm_aH (ninS ne_hm_aG (ninS ne_hm_ct nin0))))
  obtain ⟨cq5, q5, q5'⟩ := E_a0_u6.cell
  obtain ⟨_, _, ⟨T5, L5, k5', n5'⟩, -, X5, ⟨Lc5, hQ5, l5, y5, z5⟩, st5⟩ := X4.privateBack hx (y := ⟨cPN, "index", dV⟩) hown (mvT hZ (w257 hw)) (mvT hZ (w258 hw)) (own_priv (mvT hZ (w55 hw)) (Cond.privateMethod_at (mvP hZ (w259 hw) (args := #[]))) (mvT hZ (w258 hw)) (by decide)) (Cond.privateMethod_at (mvP hZ (w259 hw) (args := #[]))) (mvT hZ (w260 hw)) (by decide) (backOf (W := 0) (rm38 l Z az hw [] a0 a1 (-1 : Int32) hm T2.heap n0 Z2 E_a0_u6 F_a0_indexes_u7 E_hm_u8 F_hm_size_u9) hZ (w260 hw) (w56 hw) (by decide) (by decide)) (g := (mkF m 37 #[vR a0, vR a1, vI p2, vI (-1 : Int32)] [(.int (-1 : Int32)), (.ref a1), (.ref a0)])) rfl (by rw [hml]; rfl) (Steps.refl _) (a := a0) (by rw [e4]; exact q5) q5' (argsL := [(.ref a1), (.int (-1 : Int32))]) (rest := []) (lenOf pd_23 rfl) rfl (Nat.le_of_eq rfl) (hb hby d20_37) (fun _ _ => ⟨rfl, e4, (own_nle rfl), (own_nle rfl)⟩)
  dsimp only [Pt.U, Pt.locs, Pt.cells, Pt.slots] at X5 l5 y5 z5 st5 hQ5
  subst l5 y5 z5
  obtain ⟨rfl, N5q, e5⟩ := hQ5
  obtain ⟨Lg5, X5', N5⟩ := own_gen X5 (Fr.app N2 N5q)
  have F_a0_readers_u11 : Fld Z T2.heap a0 cND "readers" "Ljava/util/List;" (.ref rd) := (F_readers_a0.keep kq2 (ninS ne_a0_aH (ninS ne_a0_aG (ninS ne_a0_ct nin0))))
  have E_rd_u12 : Exa Z T2.heap rd cAL := (E_rd.keep kq2)
  have ne_rd_aH : rd ≠ aH := ne_exa E_rd E_aH (by decide)
  have ne_rd_aG : rd ≠ aG := ne_exa E_rd E_aG (by decide)
  have ne_rd_ct : rd ≠ ct := ne_exa E_rd E_ct (by decide)
  have F_rd_size_u13 : Fld Z T2.heap rd cAL "size" "I" (.int (0 : Int32)) := (F_size_rd.keep kq2 (ninS ne_rd_aH (ninS ne_rd_aG (ninS ne_rd_ct nin0))))
  obtain ⟨cq10, kq10, q10a, q10b, q10c⟩ := isOf hZ e5 E_a0_u6
  obtain ⟨_, _, ⟨T10, L10, k10', n10'⟩, -, X10, ⟨Lc10, hQ10, l10, y10, z10⟩, st10⟩ := X5'.virtualBackUp hx (x := ⟨cPN, "emit", dV⟩) (y := ⟨cND, "emit", dV⟩) (owner := cND) hown (mvT hZ (w272 hw)) (mvT hZ (w273 hw)) (mvT hZ (w274 hw)) (by decide) (mvT hZ (w276 hw)) (mvT hZ (w275 hw)) (backOf (W := 0) (rm40 l Z az hw [] a0 a1 (-1 : Int32) rd T2.heap n0 Z2 E_a0_u6 F_a0_readers_u11 E_rd_u12 F_rd_size_u13) hZ (w277 hw) (w66 hw) (by decide) (by decide)) q10a q10c (g := (mkF m 43 #[vR a0, vR a1, vI p2, vI (-1 : Int32)] [(.int (-1 : Int32)), (.ref a1), (.ref a0)])) rfl (by rw [hml]; rfl) (Steps.refl _) (argsL := [(.ref a1), (.int (-1 : Int32))]) (rest := []) (lenOf pd_23 rfl) rfl (Nat.le_of_eq rfl) (hb hby d20_43) (fun _ _ => ⟨rfl, e5, (own_nle rfl), (own_nle rfl)⟩)
  dsimp only [Pt.U, Pt.locs, Pt.cells, Pt.slots] at X10 l10 y10 z10 st10 hQ10
  subst l10 y10 z10
  obtain ⟨rfl, N10q, e10⟩ := hQ10
  obtain ⟨Lg10, X10', N10⟩ := own_gen X10 (Fr.app N5 N10q)
  obtain ⟨fs, hr, hrun, hended, hW, hsame⟩ := X10'.leave (v := none) (fun _ => rfl) Bd.notSynchronized
  refine ⟨_, _, pre0 _ ?_, hrun, hended, _, _, rfl, ?_, ⟨_, rfl⟩, hW, hsame.mono (by decide) (by decide)⟩
  · show SP p e below s₁ (mkF m 0 #[vR a0, vR a1, vI p2, .unset] []) _
    refine XS.aloadN X0.here hx rfl (hb hby d20_0) rfl rfl ?_
    show SP p e below s₁ (mkF m 1 #[vR a0, vR a1, vI p2, .unset] [(.ref a0)]) _
    refine st1 _ ?_
    show SP p e below T1 (mkF m 4 #[vR a0, vR a1, vI p2, .unset] [(.ref dv)]) _
    refine XS.aloadN X1.here hx rfl (hb hby d20_4) rfl rfl ?_
    refine XS.iloadN X1.here hx rfl (hb hby d20_5) rfl ?_
    show SP p e below T1 (mkF m 6 #[vR a0, vR a1, vI p2, .unset] [(.int p2), (.ref a1), (.ref dv)]) _
    refine st2.trans ?_
    show SP p e below T2 (mkF m 9 #[vR a0, vR a1, vI p2, .unset] [(.int (-1 : Int32))]) _
    refine XS.istoreN X2'.here hx rfl (hb hby d20_9) rfl (l' := #[vR a0, vR a1, vI p2, vI (-1 : Int32)]) rfl ?_
    refine XS.aloadN X2'.here hx rfl (hb hby d20_10) rfl rfl ?_
    show SP p e below T2 (mkF m 11 #[vR a0, vR a1, vI p2, vI (-1 : Int32)] [(.ref a0)]) _
    refine st4 _ ?_
    show SP p e below T4 (mkF m 14 #[vR a0, vR a1, vI p2, vI (-1 : Int32)] [.null]) _
    refine XS.ifnullYes X4.here hx rfl (pc0 := 14) (pc' := 30) rfl (hb hby d20_14) rfl (by decide) (by decide) ?_
    refine XS.iloadN X4.here hx rfl (hb hby d20_30) rfl ?_
    refine XS.ifNo X4.here hx rfl (hb hby d20_31) rfl ((if0 _ _).trans (feq (by decide : ¬ ((-1 : Int32) = (0 : Int32)))).1) ?_
    refine XS.aloadN X4.here hx rfl (hb hby d20_34) rfl rfl ?_
    refine XS.aloadN X4.here hx rfl (hb hby d20_35) rfl rfl ?_
    refine XS.iloadN X4.here hx rfl (hb hby d20_36) rfl ?_
    show SP p e below T4 (mkF m 37 #[vR a0, vR a1, vI p2, vI (-1 : Int32)] [(.int (-1 : Int32)), (.ref a1), (.ref a0)]) _
    refine st5.trans ?_
    show SP p e below T5 (mkF m 40 #[vR a0, vR a1, vI p2, vI (-1 : Int32)] []) _
    refine XS.aloadN X5'.here hx rfl (hb hby d20_40) rfl rfl ?_
    refine XS.aloadN X5'.here hx rfl (hb hby d20_41) rfl rfl ?_
    refine XS.iloadN X5'.here hx rfl (hb hby d20_42) rfl ?_
    show SP p e below T5 (mkF m 43 #[vR a0, vR a1, vI p2, vI (-1 : Int32)] [(.int (-1 : Int32)), (.ref a1), (.ref a0)]) _
    refine st10.trans ?_
    show SP p e below T10 (mkF m 46 #[vR a0, vR a1, vI p2, vI (-1 : Int32)] []) _
    exact X10'.returnOut hx Bd.returns (hb hby d20_46) hr
  · show Q20R Z a0 a1 p2 dv hm rd ct aH aG sz kH f kG g ht u xt xu hu r w f2 g2 h0 n0 _ T10.heap _
    rw [e10]
    exact ⟨rfl, N10, K2, pf2_0, pf2_1, pf2_2, pf2_3, pf2_4, pf2_5, pf2_6, pf2_7⟩
def own_UP (f g : Nat → Value) (sz : Int32) (t u : Addr) (xt xu : Int64) (ht hu x : Int32) (P : (Nat → Value) → (Nat → Value) → Int32 → Prop) : Prop :=
  (x = (0 : Int32) ∧ ∃ r : Int32, own_FR f g t u xt xu ht hu r ∧ r < (0 : Int32) ∧ P f g sz) ∨
  (∃ r : Int32, own_FR f g t u xt xu ht hu r ∧ r < (0 : Int32) ∧ ¬ (x = (0 : Int32)) ∧ ¬ (((0 : Int32) + x) < (0 : Int32)) ∧ ¬ (sz = (3 : Int32)) ∧ ¬ (((-1 : Int32) - r) < (0 : Int32)) ∧ ((-1 : Int32) - r) < (4 : Int32) ∧ (sz + (1 : Int32)) < (3 : Int32) ∧ (0 : Int32) < ((0 : Int32) + x) ∧ P (own_upd f (((-1 : Int32) - r)).toNatClampNeg (.ref t)) (own_upd g (((-1 : Int32) - r)).toNatClampNeg (.long (own_hc ht x))) (sz + (1 : Int32))) ∨
  (∃ (r : Int32) (w : Int64), own_FR f g t u xt xu ht hu r ∧ ¬ (r < (0 : Int32)) ∧ r < (4 : Int32) ∧ g (r).toNatClampNeg = (.long w) ∧ ¬ (((w.toInt32) + x) < (0 : Int32)) ∧ ¬ (((w.toInt32) + x) = (0 : Int32)) ∧ ¬ ((w.toInt32) = (0 : Int32)) ∧ (0 : Int32) < (w.toInt32) ∧ P f (own_upd g (r).toNatClampNeg (.long (own_hc (own_hh w) ((w.toInt32) + x)))) sz) ∨
  (∃ (r : Int32) (w : Int64) (f2 g2 : Nat → Value), own_FR f g t u xt xu ht hu r ∧ ¬ (r < (0 : Int32)) ∧ r < (4 : Int32) ∧ g (r).toNatClampNeg = (.long w) ∧ ¬ (((w.toInt32) + x) < (0 : Int32)) ∧ ((w.toInt32) + x) = (0 : Int32) ∧ ¬ ((w.toInt32) = (0 : Int32)) ∧ (0 : Int32) < (w.toInt32) ∧ own_RR f g t u r f2 g2 ∧ P f2 g2 (sz - (1 : Int32)))
def QU (Z : State) (a0 a1 : Addr) (p2 : Int32) (dv hm rd ct aH aG : Addr) (sz : Int32) (kH : ClassId) (f : Nat → Value) (kG : ClassId) (g : Nat → Value) (ht : Int32) (u : Addr) (xt xu : Int64) (hu : Int32) (P : (Nat → Value) → (Nat → Value) → Int32 → Prop) (h0 : Heap) (n0 : Nat) (v : Option Value) (h : Heap) (L : List Loc) : Prop := ∃ f2 : Nat → Value, ∃ g2 : Nat → Value, ∃ sz2 : Int32, v = none ∧ Fr n0 L ∧ Keep h0 h [aH, aG, ct] ∧ own_Arf Z h aH kH (.object "java/lang/Object") (4 : Int32) f2 ∧ Exa Z h aH cOA ∧ own_Arf Z h aG kG .long (4 : Int32) g2 ∧ Exa Z h aG "[J" ∧ Exa Z h ct cTC ∧ Fld Z h ct cSL "held" cOA (.ref aH) ∧ Fld Z h ct cSL "hashesAndCounts" "[J" (.ref aG) ∧ Fld Z h ct cSL "size" "I" (.int sz2) ∧ P f2 g2 sz2
theorem rmU (l : Launch) (Z : State) (az : Array Value) (hw : HW Z az) (ws : List Jvm.Cond) (a0 a1 : Addr) (p2 : Int32) (dv hm rd ct aH aG : Addr) (sz : Int32) (kH : ClassId) (f : Nat → Value) (kG : ClassId) (g : Nat → Value) (ht : Int32) (u : Addr) (xt xu : Int64) (hu : Int32) (P : (Nat → Value) → (Nat → Value) → Int32 → Prop) (h0 : Heap) (n0 : Nat) (Z0 : n0 ≤ h0.size) (E_a0 : Exa Z h0 a0 cPN) (F_derivations_a0 : Fld Z h0 a0 cPN "derivations" dD (.ref dv)) (F_fixpoint_a0 : Fld Z h0 a0 cPN "fixpoint" dF .null) (F_indexes_a0 : Fld Z h0 a0 cPN "indexes" "Ljava/util/Map;" (.ref hm)) (F_readers_a0 : Fld Z h0 a0 cND "readers" "Ljava/util/List;" (.ref rd)) (E_hm : Exa Z h0 hm cHM) (F_size_hm : Fld Z h0 hm cHM "size" "I" (.int (0 : Int32))) (E_rd : Exa Z h0 rd cAL) (F_size_rd : Fld Z h0 rd cAL "size" "I" (.int (0 : Int32))) (E_dv : Exa Z h0 dv cDV) (F_counts_dv : Fld Z h0 dv cDV "counts" dC (.ref ct)) (E_ct : Exa Z h0 ct cTC) (F_held_ct : Fld Z h0 ct cSL "held" cOA (.ref aH)) (F_hashesAndCounts_ct : Fld Z h0 ct cSL "hashesAndCounts" "[J" (.ref aG)) (F_size_ct : Fld Z h0 ct cSL "size" "I" (.int sz)) (V_aH : own_Arf Z h0 aH kH (.object "java/lang/Object") (4 : Int32) f) (E_aH : Exa Z h0 aH cOA) (O_kH : Ovr Z kH "java/lang/Object") (V_aG : own_Arf Z h0 aG kG .long (4 : Int32) g) (E_aG : Exa Z h0 aG "[J") (E_a1 : Exa Z h0 a1 cTU) (F_hash_a1 : Fld Z h0 a1 cTU "hash" "I" (.int ht)) (J_tp : own_TP Z h0 a1 u xt xu ht hu) (E_u : Exa Z h0 u cTU) (hU : own_UP f g sz a1 u xt xu ht hu p2 P) (g_aH : n0 ≤ aH) (g_aG : n0 ≤ aG) (g_ct : n0 ≤ ct) :
    MF l Z h0 ws ⟨cPN, "update", dV⟩ kB25 4 none ⟨10, 0, 0, 160⟩ #[(.ref a0), (.ref a1), (.int p2)] (QU Z a0 a1 p2 dv hm rd ct aH aG sz kH f kG g ht u xt xu hu P h0 n0) := by
  rcases hU with ⟨rfl, r, q1, q2, hP⟩ | ⟨r, q1, q2, q3, q4, q5, q6, q7, q8, q9, hP⟩ | ⟨r, w, q1, q2, q3, q4, q5, q6, q7, q8, hP⟩ | ⟨r, w, f2, g2, q1, q2, q3, q4, q5, q6, q7, q8, q9, hP⟩
  · refine own_mono (rm20i l Z az hw ws a0 a1 dv hm rd ct aH aG sz kH f kG g ht u xt xu hu r h0 n0 Z0 E_a0 F_derivations_a0 F_fixpoint_a0 F_indexes_a0 F_readers_a0 E_hm F_size_hm E_rd F_size_rd E_dv F_counts_dv E_ct F_held_ct F_hashesAndCounts_ct F_size_ct V_aH E_aH O_kH V_aG E_aG E_a1 F_hash_a1 J_tp q1 q2) fun v h L q => ?_
    obtain ⟨rfl, qN, rfl⟩ := q
    exact ⟨f, g, sz, rfl, qN, Keep.refl _ _, V_aH, E_aH, V_aG, E_aG, E_ct, F_held_ct, F_hashesAndCounts_ct, F_size_ct, hP⟩
  · refine own_mono (rm20n l Z az hw ws a0 a1 p2 dv hm rd ct aH aG sz kH f kG g ht u xt xu hu r h0 n0 Z0 E_a0 F_derivations_a0 F_fixpoint_a0 F_indexes_a0 F_readers_a0 E_hm F_size_hm E_rd F_size_rd E_dv F_counts_dv E_ct F_held_ct F_hashesAndCounts_ct F_size_ct V_aH E_aH O_kH V_aG E_aG E_a1 F_hash_a1 J_tp q1 q2 q4 q3 q5 q6 q7 g_aH g_aG g_ct q8 q9) fun v h L q => ?_
    obtain ⟨rfl, qN, qK, qE_aH, qV_aH, qE_aG, qV_aG, qE_ct, qF_held_ct, qF_hashesAndCounts_ct, qF_size_ct⟩ := q
    exact ⟨_, _, _, rfl, qN, qK, qV_aH, qE_aH, qV_aG, qE_aG, qE_ct, qF_held_ct, qF_hashesAndCounts_ct, qF_size_ct, hP⟩
  · refine own_mono (rm20s l Z az hw ws a0 a1 p2 dv hm rd ct aH aG sz kH f kG g ht u xt xu hu r w h0 n0 Z0 E_a0 F_derivations_a0 F_fixpoint_a0 F_indexes_a0 F_readers_a0 E_hm F_size_hm E_rd F_size_rd E_dv F_counts_dv E_ct F_held_ct F_hashesAndCounts_ct F_size_ct V_aH E_aH O_kH V_aG E_aG E_a1 F_hash_a1 J_tp q1 q2 q3 q4 q5 q6 g_aG q7 q8) fun v h L q => ?_
    obtain ⟨rfl, qN, qK, qE_aG, qV_aG⟩ := q
    exact ⟨_, _, _, rfl, qN, own_kw qK (fun _ hx => by simp only [List.mem_cons, List.not_mem_nil, or_false] at hx ⊢; rcases hx with rfl <;> simp), V_aH.keep qK (ninS (ne_exa E_aH E_aG (by decide)) nin0), E_aH.keep qK, qV_aG, qE_aG, E_ct.keep qK, F_held_ct.keep qK (ninS (ne_exa E_ct E_aG (by decide)) nin0), F_hashesAndCounts_ct.keep qK (ninS (ne_exa E_ct E_aG (by decide)) nin0), F_size_ct.keep qK (ninS (ne_exa E_ct E_aG (by decide)) nin0), hP⟩
  · refine own_mono (rm20R l Z az hw ws a0 a1 p2 dv hm rd ct aH aG sz kH f kG g ht u xt xu hu r w f2 g2 h0 n0 Z0 E_a0 F_derivations_a0 F_fixpoint_a0 F_indexes_a0 F_readers_a0 E_hm F_size_hm E_rd F_size_rd E_dv F_counts_dv E_ct F_held_ct F_hashesAndCounts_ct F_size_ct V_aH E_aH O_kH V_aG E_aG E_a1 F_hash_a1 J_tp q1 E_u q9 q2 q3 q4 q5 q6 g_aH g_aG g_ct q7 q8) fun v h L q => ?_
    obtain ⟨rfl, qN, qK, qE_aH, qV_aH, qE_aG, qV_aG, qE_ct, qF_held_ct, qF_hashesAndCounts_ct, qF_size_ct⟩ := q
    exact ⟨_, _, _, rfl, qN, qK, qV_aH, qE_aH, qV_aG, qE_aG, qE_ct, qF_held_ct, qF_hashesAndCounts_ct, qF_size_ct, hP⟩
theorem d32_0 : dc kB19 0 (.aload_n 0) 1 := by decide +kernel
theorem d32_1 : dc kB19 1 (.invokespecial 1) 3 := by decide +kernel
theorem d32_4 : dc kB19 4 .return_ 1 := by decide +kernel
theorem pn_java_util_AbstractSet : plainName "java/util/AbstractSet" = true := by first | (simp [plainName, overriddenIn]; done) | decide +kernel
theorem ef_rm32 (m : MethodId) (a0 : Addr) : entryFrame m #[(.ref a0)] 1 = mkF m 0 #[vR a0] [] := by first | (simp [entryFrame, mkF, argsToLocals, Value.category]; done) | rfl
def Q32 (Z : State) (a0 : Addr) (h0 : Heap) (n0 : Nat) (v : Option Value) (h : Heap) (L : List Loc) : Prop := v = none ∧ Fr n0 L ∧ h = h0
theorem rm32 (l : Launch) (Z : State) (az : Array Value) (hw : HW Z az) (ws : List Jvm.Cond) (a0 : Addr) (h0 : Heap) (n0 : Nat) (Z0 : n0 ≤ h0.size) :
    MF l Z h0 ws ⟨"java/util/AbstractSet", "<init>", "()V"⟩ kB19 1 none ⟨2, 0, 0, 24⟩ #[(.ref a0)] (Q32 Z a0 h0 n0) := by
  refine own_body "java/util/AbstractSet" n0 rfl (plainFor_of_name pn_java_util_AbstractSet) (fun m => ef_rm32 m a0) ?_
  intro p e s m below meth c s₁ Bd hx hby hml hown hZ X0 e0 N0 pre0
  obtain ⟨_, _, ⟨T1, L1, k1', n1'⟩, -, X1, ⟨Lc1, hQ1, l1, y1, z1⟩, st1⟩ := X0.specialBack hx (y := ⟨"java/util/AbstractCollection", "<init>", "()V"⟩) rfl hown (mvT hZ (w216 hw)) (mvT hZ (w82 hw)) (mvT hZ (w86 hw)) (by decide) (backOf (W := 0) (rm14 l Z az hw [] a0 h0 n0 Z0) hZ (w86 hw) (w85 hw) (by decide) (by decide)) (g := (mkF m 1 #[vR a0] [(.ref a0)])) rfl (by rw [hml]; rfl) (Steps.refl _) (a := a0) (argsL := []) (rest := []) (lenOf pd_0 rfl) rfl (Nat.le_of_eq rfl) (hb hby d32_1) (fun _ _ => ⟨rfl, e0, (own_nle rfl), (own_nle rfl)⟩)
  dsimp only [Pt.U, Pt.locs, Pt.cells, Pt.slots] at X1 l1 y1 z1 st1 hQ1
  subst l1 y1 z1
  obtain ⟨rfl, N1q, e1⟩ := hQ1
  obtain ⟨Lg1, X1', N1⟩ := own_gen X1 (Fr.app N0 N1q)
  obtain ⟨fs, hr, hrun, hended, hW, hsame⟩ := X1'.leave (v := none) (fun _ => rfl)
  refine ⟨_, _, pre0 _ ?_, hrun, hended, _, _, rfl, ?_, ⟨_, rfl⟩, hW, hsame.mono (by decide) (by decide)⟩
  · show SP p e below s₁ (mkF m 0 #[vR a0] []) _
    refine XS.aloadN X0.here hx rfl (hb hby d32_0) rfl rfl ?_
    show SP p e below s₁ (mkF m 1 #[vR a0] [(.ref a0)]) _
    refine st1.trans ?_
    show SP p e below T1 (mkF m 4 #[vR a0] []) _
    exact X1'.returnOut hx Bd.returns (hb hby d32_4) hr
  · show Q32 Z a0 h0 n0 _ T1.heap _
    rw [e1]
    exact ⟨rfl, N1, rfl⟩
theorem d31_0 : dc kB48 0 (.aload_n 0) 1 := by decide +kernel
theorem d31_1 : dc kB48 1 (.aload_n 1) 1 := by decide +kernel
theorem d31_2 : dc kB48 2 (.putfield 1) 3 := by decide +kernel
theorem d31_5 : dc kB48 5 (.aload_n 0) 1 := by decide +kernel
theorem d31_6 : dc kB48 6 (.invokespecial 7) 3 := by decide +kernel
theorem d31_9 : dc kB48 9 .return_ 1 := by decide +kernel
theorem pn_com_example_reteweave_reteweave_network_TupleCounts_View : plainName "com/example/reteweave/reteweave/network/TupleCounts$View" = true := by first | (simp [plainName, overriddenIn]; done) | decide +kernel
theorem ef_rm31 (m : MethodId) (a0 a1 : Addr) : entryFrame m #[(.ref a0), (.ref a1)] 2 = mkF m 0 #[vR a0, vR a1] [] := by first | (simp [entryFrame, mkF, argsToLocals, Value.category]; done) | rfl
def Q31 (Z : State) (a0 a1 : Addr) (h0 : Heap) (n0 : Nat) (v : Option Value) (h : Heap) (L : List Loc) : Prop := v = none ∧ Fr n0 L ∧ Keep h0 h [a0] ∧ Exa Z h a0 cVW ∧ Fld Z h a0 cVW "this$0" dC (.ref a1)
theorem rm31 (l : Launch) (Z : State) (az : Array Value) (hw : HW Z az) (ws : List Jvm.Cond) (a0 a1 : Addr) (h0 : Heap) (n0 : Nat) (Z0 : n0 ≤ h0.size) (E_a0 : Exa Z h0 a0 cVW) (F_this_0_a0 : Fld Z h0 a0 cVW "this$0" dC .null) (g_a0 : n0 ≤ a0) :
    MF l Z h0 ws ⟨cVW, "<init>", "(Lcom/example/reteweave/reteweave/network/TupleCounts;)V"⟩ kB48 2 none ⟨3, 0, 0, 36⟩ #[(.ref a0), (.ref a1)] (Q31 Z a0 a1 h0 n0) := by
  refine own_body cVW n0 rfl (plainFor_of_name pn_com_example_reteweave_reteweave_network_TupleCounts_View) (fun m => ef_rm31 m a0 a1) ?_
  intro p e s m below meth c s₁ Bd hx hby hml hown hZ X0 e0 N0 pre0
  have hnm := (name_of_methodNamed Bd.named Bd.method).1
  obtain ⟨T1, h1, X1, e1, W1, st1⟩ := putF X0 hx hZ hown (host := "") (Or.inl (w209 hw)) Via.refl e0 F_this_0_a0 E_a0 (Or.inr ⟨(w210 hw), rfl, hnm⟩) (w204 hw) (ty := (.object cTC)) (by decide) rfl rfl (g := (mkF m 2 #[vR a0, vR a1] [(.ref a1), (.ref a0)])) rfl rfl (hb hby d31_2)
  have K1 : Keep h0 h1 [a0] := (Keep.refl h0 [a0]).wr W1 (Or.inl (mg 0 rfl))
  have Fw1 := F_this_0_a0.same W1
  have Z1 : n0 ≤ h1.size := Nat.le_trans Z0 (Keep.of_wr W1).1
  obtain ⟨Lg1, X1', N1⟩ := own_gen X1 (Fr.snoc X1 N0 g_a0)
  obtain ⟨_, _, ⟨T2, L2, k2', n2'⟩, -, X2, ⟨Lc2, hQ2, l2, y2, z2⟩, st2⟩ := X1'.specialBack hx (y := ⟨"java/util/AbstractSet", "<init>", "()V"⟩) rfl hown (mvT hZ (w211 hw)) (mvT hZ (w212 hw)) (mvT hZ (w215 hw)) (by decide) (backOf (W := 0) (rm32 l Z az hw [] a0 h1 n0 Z1) hZ (w215 hw) (w214 hw) (by decide) (by decide)) (g := (mkF m 6 #[vR a0, vR a1] [(.ref a0)])) rfl (by rw [hml]; rfl) (Steps.refl _) (a := a0) (argsL := []) (rest := []) (lenOf pd_0 rfl) rfl (Nat.le_of_eq rfl) (hb hby d31_6) (fun _ _ => ⟨rfl, e1, (own_nle rfl), (own_nle rfl)⟩)
  dsimp only [Pt.U, Pt.locs, Pt.cells, Pt.slots] at X2 l2 y2 z2 st2 hQ2
  subst l2 y2 z2
  obtain ⟨rfl, N2q, e2⟩ := hQ2
  obtain ⟨Lg2, X2', N2⟩ := own_gen X2 (Fr.app N1 N2q)
  have E_a0_u3 : Exa Z h1 a0 cVW := (E_a0.wr W1)
  obtain ⟨fs, hr, hrun, hended, hW, hsame⟩ := X2'.leave (v := none) (fun _ => rfl) Bd.notSynchronized
  refine ⟨_, _, pre0 _ ?_, hrun, hended, _, _, rfl, ?_, ⟨_, rfl⟩, hW, hsame.mono (by decide) (by decide)⟩
  · show SP p e below s₁ (mkF m 0 #[vR a0, vR a1] []) _
    refine XS.aloadN X0.here hx rfl (hb hby d31_0) rfl rfl ?_
    refine XS.aloadN X0.here hx rfl (hb hby d31_1) rfl rfl ?_
    show SP p e below s₁ (mkF m 2 #[vR a0, vR a1] [(.ref a1), (.ref a0)]) _
    refine st1 _ ?_
    show SP p e below T1 (mkF m 5 #[vR a0, vR a1] []) _
    refine XS.aloadN X1'.here hx rfl (hb hby d31_5) rfl rfl ?_
    show SP p e below T1 (mkF m 6 #[vR a0, vR a1] [(.ref a0)]) _
    refine st2.trans ?_
    show SP p e below T2 (mkF m 9 #[vR a0, vR a1] []) _
    exact X2'.returnOut hx Bd.returns (hb hby d31_9) hr
  · show Q31 Z a0 a1 h0 n0 _ T2.heap _
    rw [e2]
    exact ⟨rfl, N2, K1, E_a0_u3, Fw1⟩
theorem d30_0 : dc kB47 0 (.new 53) 3 := by decide +kernel
theorem d30_3 : dc kB47 3 .dup 1 := by decide +kernel
theorem d30_4 : dc kB47 4 (.aload_n 0) 1 := by decide +kernel
theorem d30_5 : dc kB47 5 (.invokespecial 55) 3 := by decide +kernel
theorem pd_24 : parseMethodDescriptor "(Lcom/example/reteweave/reteweave/network/TupleCounts;)V" = some ⟨[(.object "com/example/reteweave/reteweave/network/TupleCounts")], none⟩ := by decide +kernel
theorem own_specialR {p : Program} {l : Launch} {e : Env} {R : Room} {s Z : State} {m : MethodId} {args az : Array Value} {below : List Frame} {meth : Method} {c : Code} {T : State} {locs : List Loc} {cells slots : Nat}
    (X : Stand p l e R s m args below meth c T locs cells slots) (hexec : p.tables.exec = Jvm.exec) (hZ : Z.Warmed39 s.vm) {own : String} {index : Nat} {y : MethodName} (hy1 : y.name = "<init>")
    (hown : s.vm.findClass own = some m.cls) (hlink : (Cond.methodRef own index y).before az Z = true) (hinst : (Cond.instanceMethod y).before az Z = true)
    {bytes : ByteArray} {maxL : Nat} (hcode : (Cond.code y bytes maxL none).before args s = true) (hy : y.cls ≠ "java/lang/invoke/MethodHandle" ∧ y.cls ≠ "java/lang/invoke/VarHandle")
    {W : Nat} {Pre : Jvm.Free.Pt → Array Value → Prop} {Post : Jvm.Free.Pt → Array Value → Option Value → Jvm.Free.Pt → Prop} (hK : Jvm.Free.Back l R p e below s args y 3 W Pre Post)
    {g : JFrame} (hg : g.method = m) (hsize : g.locals.size = c.maxLocals) {s₀ : State} (hcome : Steps p.tables e below s₀ (T.setTop g)) {a : Addr} {argsL rest : List Value}
    (hlen : ∀ sig, parseMethodDescriptor y.desc = some sig → argsL.length = sig.parameters.length) (hstack : g.stack = argsL.reverse ++ .ref a :: rest) (hW : 2 * g.monitorRoom + (rest.map fun v => v.category).sum ≤ W)
    (hdg : decode c.code g.pc = .ok (.invokespecial index, 3)) (hpre : ∀ vm₁, s.WarmedH vm₁ → Pre ⟨T.setVm vm₁, locs, cells, slots⟩ (.ref a :: argsL).toArray) :
    ∃ (v : Option Value) (vm₁ : Vm) (B : Jvm.Free.Pt), s.WarmedH vm₁ ∧ Stand p l e R s m args below meth c B.U B.locs B.cells B.slots ∧ Post ⟨T.setVm vm₁, locs, cells, slots⟩ (.ref a :: argsL).toArray v B ∧
      Steps p.tables e below s₀ (B.U.setTop { g with pc := g.pc + 3, stack := v.toList ++ rest }) := by
  subst hg
  have hWT : Z.Warmed39 T.vm := hZ.trans X.warmed.wide
  have hinst' : (Cond.instanceMethod y).before args s = true := mvT hZ hinst
  obtain ⟨obj, methO, hnO, hmO, hstO, habO⟩ := Cond.instanceMethod_spec hinst'
  obtain ⟨objZ, methZ, hnZ, hmZ, -, -⟩ := Cond.instanceMethod_spec hinst
  obtain ⟨methO', cO, hmO', hcO, hbO, hlO, -, hlockO, -, hsigO⟩ := Cond.code_spec hnO hcode
  cases hmO.symm.trans hmO'
  obtain ⟨kO, hkO, hnameO⟩ := className_of_methodNamed hnO
  obtain ⟨hnameMO, hdescO⟩ := name_of_methodNamed hnO hmO
  have hT := Cond.methodRef_warmed39 hWT hnZ hy hlink
  obtain ⟨r, c', hf, hready, hfind, hnamed⟩ := Cond.methodRef_named (s := Z.setVm T.vm) e (cur := g.method.cls) (by show T.vm.findClass own = _; rw [X.warmed.alike.findClass]; exact hown) hT
  have hnT : (Z.setVm T.vm).methodNamed? y = some obj := X.named hnO
  cases (State.methodFound?_of_named hnT hy).symm.trans hf
  have hc : c' = obj.cls := Option.some.inj (hfind.symm.trans (findClass_of_methodNamed hnT))
  subst hc
  obtain ⟨kO₂, hkO₂, -⟩ := X.warmed.alike.2.2 _ _ hkO
  have hmO₂ : T.vm.method? obj = some methO := by rw [X.warmed.alike.method?]; exact hmO
  have hfound : lookupSpecial T.vm obj.cls "<init>" methO.desc = .method obj := by
    rw [X.warmed.alike.lookupSpecial, hdescO, ← hy1]; exact lookupSpecial_of_named hnO hmO hstO
  have st : ∀ target, (∀ acts, Steps p.tables e below (doInvoke e (T.setTop { g with stack := rest }) acts obj (.ref a :: argsL).toArray).1 target) → Steps p.tables e below (T.setTop g) target := by
    intro target hrest
    jvm_step X.here [hexec, hdg, Op.invokespecial.wp_init (e := e) (s := T) (k := kO₂) (meth := methO) (m := obj) (a := a) (args := argsL) (rest := rest) (f := g) X.here.top hnamed hready hkO₂ hmO₂ (by rw [hnameMO]; exact hy1) hstO habO hfound (hlen _ hsigO) hstack]
    exact hrest
  have eT : T.setVm T.vm = T := by cases T; rfl
  have hp := hpre T.vm X.warmed
  rw [eT] at hp
  obtain ⟨v, B, X', hpost, hsteps⟩ := hK g.method meth c ⟨T, locs, cells, slots⟩ { g with stack := rest } (.invokespecial index) obj (.ref a :: argsL).toArray X rfl hsize hdg hW (X.named hnO) hp
  refine ⟨v, T.vm, B, X.warmed, X', ?_, (hcome.trans (st _ fun acts => by rw [doInvoke_state]; exact Steps.refl _)).trans hsteps⟩
  rw [eT]
  exact hpost
theorem d30_8 : dc kB47 8 .areturn 1 := by decide +kernel
theorem ef_rm30 (m : MethodId) (a0 : Addr) : entryFrame m #[(.ref a0)] 1 = mkF m 0 #[vR a0] [] := by first | (simp [entryFrame, mkF, argsToLocals, Value.category]; done) | rfl
def Q30 (Z : State) (a0 : Addr) (h0 : Heap) (n0 : Nat) (v : Option Value) (h : Heap) (L : List Loc) : Prop := ∃ r0 : Addr, v = some (.ref r0) ∧ Fr n0 L ∧ h0.size ≤ r0 ∧ Keep h0 h [] ∧ Exa Z h r0 cVW ∧ Fld Z h r0 cVW "this$0" dC (.ref a0)
theorem rm30 (l : Launch) (Z : State) (az : Array Value) (hw : HW Z az) (ws : List Jvm.Cond) (a0 : Addr) (h0 : Heap) (n0 : Nat) (Z0 : n0 ≤ h0.size) :
    MF l Z h0 ws ⟨cTC, "tuples", "()Ljava/util/Set;"⟩ kB47 1 (some (.object "java/util/Set")) ⟨4, 1, 1, 50⟩ #[(.ref a0)] (Q30 Z a0 h0 n0) := by
  refine own_body cTC n0 rfl (plainFor_of_name pn_com_example_reteweave_reteweave_network_TupleCounts) (fun m => ef_rm30 m a0) ?_
  intro p e s m below meth c s₁ Bd hx hby hml hown hZ X0 e0 N0 pre0
  obtain ⟨T1, h1, X1, e1, E1, A1, D1, -, st1⟩ := newO X0 hx hZ hown (w203 hw) (w204 hw) (w205 hw) e0 (g := (mkF m 0 #[vR a0] [])) rfl (hb hby d30_0) (by decide) (by decide)
  obtain ⟨b1, g1⟩ : ∃ z, z = h0.size := ⟨_, rfl⟩
  rw [← g1] at A1 D1 st1
  have g_b1 : n0 ≤ b1 := Nat.le_trans Z0 (Nat.le_of_eq g1.symm)
  have sz_b1 : h0.size ≤ b1 := Nat.le_trans (Nat.le_refl _) (Nat.le_of_eq g1.symm)
  have Z1 : n0 ≤ h1.size := Nat.le_trans Z0 E1.1
  have K1 : Keep h0 h1 [] := (Keep.refl h0 []).ext E1
  have E_b1 := A1
  have F_this_0_b1 : Fld Z h1 b1 cVW "this$0" dC .null := D1 (Or.inr (w210 hw)) (ty := (.object cTC)) (by decide)
  obtain ⟨_, _, ⟨T2, L2, k2', n2'⟩, -, X2, ⟨Lc2, hQ2, l2, y2, z2⟩, st2⟩ := own_specialR X1 hx hZ (y := ⟨cVW, "<init>", "(Lcom/example/reteweave/reteweave/network/TupleCounts;)V"⟩) rfl hown (w206 hw) (w207 hw) (mvT hZ (w208 hw)) (by decide) (backOf (W := 1) (rm31 l Z az hw [] b1 a0 h1 n0 Z1 E_b1 F_this_0_b1 g_b1) hZ (w208 hw) (w205 hw) (by decide) (by decide)) (g := (mkF m 5 #[vR a0] [(.ref a0), (.ref b1), (.ref b1)])) rfl (by rw [hml]; rfl) (Steps.refl _) (a := b1) (argsL := [(.ref a0)]) (rest := [(.ref b1)]) (lenOf pd_24 rfl) rfl (Nat.le_of_eq rfl) (hb hby d30_5) (fun _ _ => ⟨rfl, e1, (own_nle rfl), (own_nle rfl)⟩)
  dsimp only [Pt.U, Pt.locs, Pt.cells, Pt.slots] at X2 l2 y2 z2 st2 hQ2
  subst l2 y2 z2
  obtain ⟨rfl, N2q, kq2, pf2_0, pf2_1⟩ := hQ2
  obtain ⟨Lg2, X2', N2⟩ := own_gen X2 (Fr.app N0 N2q)
  have K2 : Keep h0 T2.heap [] := K1.trans kq2 (allS (Or.inr sz_b1) all0)
  have Z2 : n0 ≤ T2.heap.size := Nat.le_trans Z1 kq2.1
  obtain ⟨fs, hr, hrun, hended, hW, hsame⟩ := X2'.leave (v := some (.ref b1)) (fun h => by rw [Bd.returns] at h; cases h) Bd.notSynchronized
  refine ⟨_, _, pre0 _ ?_, hrun, hended, _, _, rfl, ?_, ⟨_, rfl⟩, hW, hsame.mono (by decide) (by decide)⟩
  · show SP p e below s₁ (mkF m 0 #[vR a0] []) _
    refine st1 _ ?_
    show SP p e below T1 (mkF m 3 #[vR a0] [(.ref b1)]) _
    refine XS.dup X1.here hx rfl (hb hby d30_3) rfl rfl ?_
    refine XS.aloadN X1.here hx rfl (hb hby d30_4) rfl rfl ?_
    show SP p e below T1 (mkF m 5 #[vR a0] [(.ref a0), (.ref b1), (.ref b1)]) _
    refine st2.trans ?_
    show SP p e below T2 (mkF m 8 #[vR a0] [(.ref b1)]) _
    jvm_step X2'.here [X2'.here.top, hx, (hb hby d30_8), X2'.method', Bd.returns, Value.isRef, FieldType.isReference]
    first | (intro acts; rw [hr _ acts rfl rfl rfl]) | rw [hr _ _ rfl rfl rfl]
    exact Steps.refl _
  · show Q30 Z a0 h0 n0 _ T2.heap _
    exact ⟨b1, rfl, N2, sz_b1, K2, pf2_0, pf2_1⟩
theorem d29_0 : dc kB53 0 (.aload_n 0) 1 := by decide +kernel
theorem d29_1 : dc kB53 1 (.getfield 10) 3 := by decide +kernel
theorem d29_4 : dc kB53 4 (.invokevirtual 39) 3 := by decide +kernel
theorem pd_25 : parseMethodDescriptor "()Ljava/util/Set;" = some ⟨[], some (.object "java/util/Set")⟩ := by decide +kernel
theorem d29_7 : dc kB53 7 .areturn 1 := by decide +kernel
theorem ef_rm29 (m : MethodId) (a0 : Addr) : entryFrame m #[(.ref a0)] 1 = mkF m 0 #[vR a0] [] := by first | (simp [entryFrame, mkF, argsToLocals, Value.category]; done) | rfl
def Q29 (Z : State) (a0 ct : Addr) (h0 : Heap) (n0 : Nat) (v : Option Value) (h : Heap) (L : List Loc) : Prop := ∃ r0 : Addr, v = some (.ref r0) ∧ Fr n0 L ∧ h0.size ≤ r0 ∧ Keep h0 h [] ∧ Exa Z h r0 cVW ∧ Fld Z h r0 cVW "this$0" dC (.ref ct)
theorem rm29 (l : Launch) (Z : State) (az : Array Value) (hw : HW Z az) (ws : List Jvm.Cond) (a0 ct : Addr) (h0 : Heap) (n0 : Nat) (Z0 : n0 ≤ h0.size) (E_a0 : Exa Z h0 a0 cDV) (F_counts_a0 : Fld Z h0 a0 cDV "counts" dC (.ref ct)) (E_ct : Exa Z h0 ct cTC) :
    MF l Z h0 ws ⟨cDV, "tuples", "()Ljava/util/Set;"⟩ kB53 1 (some (.object "java/util/Set")) ⟨5, 1, 1, 62⟩ #[(.ref a0)] (Q29 Z a0 ct h0 n0) := by
  refine own_body cDV n0 rfl (plainFor_of_name pn_com_example_reteweave_reteweave_network_Derivations) (fun m => ef_rm29 m a0) ?_
  intro p e s m below meth c s₁ Bd hx hby hml hown hZ X0 e0 N0 pre0
  obtain ⟨T1, X1, e1, st1⟩ := getF X0 hx hZ hown (host := "") (Or.inl (w120 hw)) Via.refl e0 F_counts_a0 (g := (mkF m 1 #[vR a0] [(.ref a0)])) rfl rfl (hb hby d29_1)
  obtain ⟨cq2, kq2, q2a, q2b, q2c⟩ := isOf hZ e1 E_ct
  obtain ⟨_, _, ⟨T2, L2, k2', n2'⟩, -, X2, ⟨Lc2, hQ2, l2, y2, z2⟩, st2⟩ := X1.virtualBack hx (y := ⟨cTC, "tuples", "()Ljava/util/Set;"⟩) (z := ⟨cTC, "tuples", "()Ljava/util/Set;"⟩) hown (mvT hZ (w198 hw)) (mvT hZ (w199 hw)) (notFace_of_selects (args := #[]) (mvT hZ (w201 hw))) (mvT hZ (w201 hw)) (mvT hZ (w200 hw)) (by decide) (backOf (W := 0) (rm30 l Z az hw [] ct h0 n0 Z0) hZ (w202 hw) (w104 hw) (by decide) (by decide)) q2a q2c (g := (mkF m 4 #[vR a0] [(.ref ct)])) rfl (by rw [hml]; rfl) (Steps.refl _) (argsL := []) (rest := []) (lenOf pd_25 rfl) rfl (Nat.le_of_eq rfl) (hb hby d29_4) (fun _ _ => ⟨rfl, e1, (own_nle rfl), (own_nle rfl)⟩)
  dsimp only [Pt.U, Pt.locs, Pt.cells, Pt.slots] at X2 l2 y2 z2 st2 hQ2
  subst l2 y2 z2
  obtain ⟨b2_0, rfl, N2q, s2_0, kq2, pf2_0, pf2_1⟩ := hQ2
  obtain ⟨Lg2, X2', N2⟩ := own_gen X2 (Fr.app N0 N2q)
  have g_b2_0 : n0 ≤ b2_0 := Nat.le_trans Z0 s2_0
  have sz_b2_0 : h0.size ≤ b2_0 := Nat.le_trans (Nat.le_refl _) s2_0
  have K2 : Keep h0 T2.heap [] := (Keep.refl h0 []).trans kq2 all0
  have Z2 : n0 ≤ T2.heap.size := Nat.le_trans Z0 kq2.1
  obtain ⟨fs, hr, hrun, hended, hW, hsame⟩ := X2'.leave (v := some (.ref b2_0)) (fun h => by rw [Bd.returns] at h; cases h) Bd.notSynchronized
  refine ⟨_, _, pre0 _ ?_, hrun, hended, _, _, rfl, ?_, ⟨_, rfl⟩, hW, hsame.mono (by decide) (by decide)⟩
  · show SP p e below s₁ (mkF m 0 #[vR a0] []) _
    refine XS.aloadN X0.here hx rfl (hb hby d29_0) rfl rfl ?_
    show SP p e below s₁ (mkF m 1 #[vR a0] [(.ref a0)]) _
    refine st1 _ ?_
    show SP p e below T1 (mkF m 4 #[vR a0] [(.ref ct)]) _
    refine st2.trans ?_
    show SP p e below T2 (mkF m 7 #[vR a0] [(.ref b2_0)]) _
    jvm_step X2'.here [X2'.here.top, hx, (hb hby d29_7), X2'.method', Bd.returns, Value.isRef, FieldType.isReference]
    first | (intro acts; rw [hr _ acts rfl rfl rfl]) | rw [hr _ _ rfl rfl rfl]
    exact Steps.refl _
  · show Q29 Z a0 ct h0 n0 _ T2.heap _
    exact ⟨b2_0, rfl, N2, sz_b2_0, K2, pf2_0, pf2_1⟩
theorem d28_0 : dc kB26 0 (.aload_n 0) 1 := by decide +kernel
theorem d28_1 : dc kB26 1 (.getfield 33) 3 := by decide +kernel
theorem d28_4 : dc kB26 4 (.ifnonnull 13) 3 := by decide +kernel
theorem d28_7 : dc kB26 7 (.aload_n 0) 1 := by decide +kernel
theorem d28_8 : dc kB26 8 (.getfield 15) 3 := by decide +kernel
theorem d28_11 : dc kB26 11 (.invokevirtual 58) 3 := by decide +kernel
theorem d28_14 : dc kB26 14 (.goto 10) 3 := by decide +kernel
theorem d28_24 : dc kB26 24 .areturn 1 := by decide +kernel
theorem ef_rm28 (m : MethodId) (a0 : Addr) : entryFrame m #[(.ref a0)] 1 = mkF m 0 #[vR a0] [] := by first | (simp [entryFrame, mkF, argsToLocals, Value.category]; done) | rfl
def Q28 (Z : State) (a0 dv ct : Addr) (h0 : Heap) (n0 : Nat) (v : Option Value) (h : Heap) (L : List Loc) : Prop := ∃ r0 : Addr, v = some (.ref r0) ∧ Fr n0 L ∧ h0.size ≤ r0 ∧ Keep h0 h [] ∧ Exa Z h r0 cVW ∧ Fld Z h r0 cVW "this$0" dC (.ref ct)
theorem rm28 (l : Launch) (Z : State) (az : Array Value) (hw : HW Z az) (ws : List Jvm.Cond) (a0 dv ct : Addr) (h0 : Heap) (n0 : Nat) (Z0 : n0 ≤ h0.size) (E_a0 : Exa Z h0 a0 cPN) (F_derivations_a0 : Fld Z h0 a0 cPN "derivations" dD (.ref dv)) (F_fixpoint_a0 : Fld Z h0 a0 cPN "fixpoint" dF .null) (E_dv : Exa Z h0 dv cDV) (F_counts_dv : Fld Z h0 dv cDV "counts" dC (.ref ct)) (E_ct : Exa Z h0 ct cTC) :
    MF l Z h0 ws ⟨cPN, "matches", "()Ljava/util/Set;"⟩ kB26 1 (some (.object "java/util/Set")) ⟨6, 1, 1, 74⟩ #[(.ref a0)] (Q28 Z a0 dv ct h0 n0) := by
  refine own_body cPN n0 rfl (plainFor_of_name pn_com_example_reteweave_reteweave_network_ProductionNode) (fun m => ef_rm28 m a0) ?_
  intro p e s m below meth c s₁ Bd hx hby hml hown hZ X0 e0 N0 pre0
  obtain ⟨T1, X1, e1, st1⟩ := getF X0 hx hZ hown (host := "") (Or.inl (w146 hw)) Via.refl e0 F_fixpoint_a0 (g := (mkF m 1 #[vR a0] [(.ref a0)])) rfl rfl (hb hby d28_1)
  obtain ⟨T2, X2, e2, st2⟩ := getF X1 hx hZ hown (host := "") (Or.inl (w122 hw)) Via.refl e1 F_derivations_a0 (g := (mkF m 8 #[vR a0] [(.ref a0)])) rfl rfl (hb hby d28_8)
  obtain ⟨cq3, kq3, q3a, q3b, q3c⟩ := isOf hZ e2 E_dv
  obtain ⟨_, _, ⟨T3, L3, k3', n3'⟩, -, X3, ⟨Lc3, hQ3, l3, y3, z3⟩, st3⟩ := X2.virtualBack hx (y := ⟨cDV, "tuples", "()Ljava/util/Set;"⟩) (z := ⟨cDV, "tuples", "()Ljava/util/Set;"⟩) hown (mvT hZ (w193 hw)) (mvT hZ (w194 hw)) (notFace_of_selects (args := #[]) (mvT hZ (w196 hw))) (mvT hZ (w196 hw)) (mvT hZ (w195 hw)) (by decide) (backOf (W := 0) (rm29 l Z az hw [] dv ct h0 n0 Z0 E_dv F_counts_dv E_ct) hZ (w197 hw) (w97 hw) (by decide) (by decide)) q3a q3c (g := (mkF m 11 #[vR a0] [(.ref dv)])) rfl (by rw [hml]; rfl) (Steps.refl _) (argsL := []) (rest := []) (lenOf pd_25 rfl) rfl (Nat.le_of_eq rfl) (hb hby d28_11) (fun _ _ => ⟨rfl, e2, (own_nle rfl), (own_nle rfl)⟩)
  dsimp only [Pt.U, Pt.locs, Pt.cells, Pt.slots] at X3 l3 y3 z3 st3 hQ3
  subst l3 y3 z3
  obtain ⟨b3_0, rfl, N3q, s3_0, kq3, pf3_0, pf3_1⟩ := hQ3
  obtain ⟨Lg3, X3', N3⟩ := own_gen X3 (Fr.app N0 N3q)
  have g_b3_0 : n0 ≤ b3_0 := Nat.le_trans Z0 s3_0
  have sz_b3_0 : h0.size ≤ b3_0 := Nat.le_trans (Nat.le_refl _) s3_0
  have K3 : Keep h0 T3.heap [] := (Keep.refl h0 []).trans kq3 all0
  have Z3 : n0 ≤ T3.heap.size := Nat.le_trans Z0 kq3.1
  obtain ⟨fs, hr, hrun, hended, hW, hsame⟩ := X3'.leave (v := some (.ref b3_0)) (fun h => by rw [Bd.returns] at h; cases h) Bd.notSynchronized
  refine ⟨_, _, pre0 _ ?_, hrun, hended, _, _, rfl, ?_, ⟨_, rfl⟩, hW, hsame.mono (by decide) (by decide)⟩
  · show SP p e below s₁ (mkF m 0 #[vR a0] []) _
    refine XS.aloadN X0.here hx rfl (hb hby d28_0) rfl rfl ?_
    show SP p e below s₁ (mkF m 1 #[vR a0] [(.ref a0)]) _
    refine st1 _ ?_
    show SP p e below T1 (mkF m 4 #[vR a0] [.null]) _
    refine XS.ifnonnullNo X1.here hx rfl (hb hby d28_4) rfl ?_
    refine XS.aloadN X1.here hx rfl (hb hby d28_7) rfl rfl ?_
    show SP p e below T1 (mkF m 8 #[vR a0] [(.ref a0)]) _
    refine st2 _ ?_
    show SP p e below T2 (mkF m 11 #[vR a0] [(.ref dv)]) _
    refine st3.trans ?_
    show SP p e below T3 (mkF m 14 #[vR a0] [(.ref b3_0)]) _
    refine XS.goto X3'.here hx rfl (pc0 := 14) (pc' := 24) rfl (hb hby d28_14) (by decide) (by decide) ?_
    show SP p e below T3 (mkF m 24 #[vR a0] [(.ref b3_0)]) _
    jvm_step X3'.here [X3'.here.top, hx, (hb hby d28_24), X3'.method', Bd.returns, Value.isRef, FieldType.isReference]
    first | (intro acts; rw [hr _ acts rfl rfl rfl]) | rw [hr _ _ rfl rfl rfl]
    exact Steps.refl _
  · show Q28 Z a0 dv ct h0 n0 _ T3.heap _
    exact ⟨b3_0, rfl, N3, sz_b3_0, K3, pf3_0, pf3_1⟩
theorem d34_0 : dc kB34 0 (.aload_n 0) 1 := by decide +kernel
theorem d34_1 : dc kB34 1 (.getfield 17) 3 := by decide +kernel
theorem d34_4 : dc kB34 4 .ireturn 1 := by decide +kernel
theorem ef_rm34 (m : MethodId) (a0 : Addr) : entryFrame m #[(.ref a0)] 1 = mkF m 0 #[vR a0] [] := by first | (simp [entryFrame, mkF, argsToLocals, Value.category]; done) | rfl
def Q34 (Z : State) (a0 : Addr) (sz : Int32) (h0 : Heap) (n0 : Nat) (v : Option Value) (h : Heap) (L : List Loc) : Prop := v = some (.int sz) ∧ Fr n0 L ∧ h = h0
theorem rm34 (l : Launch) (Z : State) (az : Array Value) (hw : HW Z az) (ws : List Jvm.Cond) (a0 : Addr) (sz : Int32) (h0 : Heap) (n0 : Nat) (Z0 : n0 ≤ h0.size) (F_size_a0 : Fld Z h0 a0 cSL "size" "I" (.int sz)) :
    MF l Z h0 ws ⟨cSL, "size", "()I"⟩ kB34 1 (some .int) ⟨0, 0, 0, 0⟩ #[(.ref a0)] (Q34 Z a0 sz h0 n0) := by
  refine own_body cSL n0 rfl (plainFor_of_name pn_com_example_reteweave_reteweave_network_SlotTable) (fun m => ef_rm34 m a0) ?_
  intro p e s m below meth c s₁ Bd hx hby hml hown hZ X0 e0 N0 pre0
  obtain ⟨T1, X1, e1, st1⟩ := getF X0 hx hZ hown (host := "") (Or.inl (w233 hw)) Via.refl e0 F_size_a0 (g := (mkF m 1 #[vR a0] [(.ref a0)])) rfl rfl (hb hby d34_1)
  obtain ⟨fs, hr, hrun, hended, hW, hsame⟩ := X1.leave (v := some (.int sz)) (fun h => by rw [Bd.returns] at h; cases h) Bd.notSynchronized
  refine ⟨_, _, pre0 _ ?_, hrun, hended, _, _, rfl, ?_, ⟨_, rfl⟩, hW, hsame.mono (by decide) (by decide)⟩
  · show SP p e below s₁ (mkF m 0 #[vR a0] []) _
    refine XS.aloadN X0.here hx rfl (hb hby d34_0) rfl rfl ?_
    show SP p e below s₁ (mkF m 1 #[vR a0] [(.ref a0)]) _
    refine st1 _ ?_
    show SP p e below T1 (mkF m 4 #[vR a0] [(.int sz)]) _
    exact retI X1 hx Bd.returns (hb hby d34_4) hr
  · show Q34 Z a0 sz h0 n0 _ T1.heap _
    rw [e1]
    exact ⟨rfl, N0, rfl⟩
theorem d33_0 : dc kB49 0 (.aload_n 0) 1 := by decide +kernel
theorem d33_1 : dc kB49 1 (.getfield 1) 3 := by decide +kernel
theorem d33_4 : dc kB49 4 (.invokevirtual 13) 3 := by decide +kernel
theorem d33_7 : dc kB49 7 .ireturn 1 := by decide +kernel
theorem ef_rm33 (m : MethodId) (a0 : Addr) : entryFrame m #[(.ref a0)] 1 = mkF m 0 #[vR a0] [] := by first | (simp [entryFrame, mkF, argsToLocals, Value.category]; done) | rfl
def Q33 (Z : State) (a0 ct : Addr) (sz : Int32) (h0 : Heap) (n0 : Nat) (v : Option Value) (h : Heap) (L : List Loc) : Prop := v = some (.int sz) ∧ Fr n0 L ∧ h = h0
theorem rm33 (l : Launch) (Z : State) (az : Array Value) (hw : HW Z az) (ws : List Jvm.Cond) (a0 ct : Addr) (sz : Int32) (h0 : Heap) (n0 : Nat) (Z0 : n0 ≤ h0.size) (E_a0 : Exa Z h0 a0 cVW) (F_this_0_a0 : Fld Z h0 a0 cVW "this$0" dC (.ref ct)) (E_ct : Exa Z h0 ct cTC) (F_size_ct : Fld Z h0 ct cSL "size" "I" (.int sz)) :
    MF l Z h0 ws ⟨cVW, "size", "()I"⟩ kB49 1 (some .int) ⟨1, 0, 0, 12⟩ #[(.ref a0)] (Q33 Z a0 ct sz h0 n0) := by
  refine own_body cVW n0 rfl (plainFor_of_name pn_com_example_reteweave_reteweave_network_TupleCounts_View) (fun m => ef_rm33 m a0) ?_
  intro p e s m below meth c s₁ Bd hx hby hml hown hZ X0 e0 N0 pre0
  obtain ⟨T1, X1, e1, st1⟩ := getF X0 hx hZ hown (host := "") (Or.inl (w209 hw)) Via.refl e0 F_this_0_a0 (g := (mkF m 1 #[vR a0] [(.ref a0)])) rfl rfl (hb hby d33_1)
  obtain ⟨cq2, kq2, q2a, q2b, q2c⟩ := isOf hZ e1 E_ct
  obtain ⟨_, _, ⟨T2, L2, k2', n2'⟩, -, X2, ⟨Lc2, hQ2, l2, y2, z2⟩, st2⟩ := X1.virtualBackUp hx (x := ⟨cTC, "size", "()I"⟩) (y := ⟨cSL, "size", "()I"⟩) (owner := cSL) hown (mvT hZ (w227 hw)) (mvT hZ (w228 hw)) (mvT hZ (w229 hw)) (by decide) (mvT hZ (w231 hw)) (mvT hZ (w230 hw)) (backOf (W := 0) (rm34 l Z az hw [] ct sz h0 n0 Z0 F_size_ct) hZ (w232 hw) (w111 hw) (by decide) (by decide)) q2a q2c (g := (mkF m 4 #[vR a0] [(.ref ct)])) rfl (by rw [hml]; rfl) (Steps.refl _) (argsL := []) (rest := []) (lenOf pd_3 rfl) rfl (Nat.le_of_eq rfl) (hb hby d33_4) (fun _ _ => ⟨rfl, e1, (own_nle rfl), (own_nle rfl)⟩)
  dsimp only [Pt.U, Pt.locs, Pt.cells, Pt.slots] at X2 l2 y2 z2 st2 hQ2
  subst l2 y2 z2
  obtain ⟨rfl, N2q, e2⟩ := hQ2
  obtain ⟨Lg2, X2', N2⟩ := own_gen X2 (Fr.app N0 N2q)
  obtain ⟨fs, hr, hrun, hended, hW, hsame⟩ := X2'.leave (v := some (.int sz)) (fun h => by rw [Bd.returns] at h; cases h) Bd.notSynchronized
  refine ⟨_, _, pre0 _ ?_, hrun, hended, _, _, rfl, ?_, ⟨_, rfl⟩, hW, hsame.mono (by decide) (by decide)⟩
  · show SP p e below s₁ (mkF m 0 #[vR a0] []) _
    refine XS.aloadN X0.here hx rfl (hb hby d33_0) rfl rfl ?_
    show SP p e below s₁ (mkF m 1 #[vR a0] [(.ref a0)]) _
    refine st1 _ ?_
    show SP p e below T1 (mkF m 4 #[vR a0] [(.ref ct)]) _
    refine st2.trans ?_
    show SP p e below T2 (mkF m 7 #[vR a0] [(.int sz)]) _
    exact retI X2' hx Bd.returns (hb hby d33_7) hr
  · show Q33 Z a0 ct sz h0 n0 _ T2.heap _
    rw [e2]
    exact ⟨rfl, N2, rfl⟩
theorem d35_0 : dc kB50 0 (.aload_n 1) 1 := by decide +kernel
theorem d35_1 : dc kB50 1 (.instanceof 19) 3 := by decide +kernel
theorem d35_4 : dc kB50 4 (.ifCond .eq 23) 3 := by decide +kernel
theorem d35_7 : dc kB50 7 (.aload_n 1) 1 := by decide +kernel
theorem d35_8 : dc kB50 8 (.checkcast 19) 3 := by decide +kernel
theorem d35_11 : dc kB50 11 (.astore_n 2) 1 := by decide +kernel
theorem d35_12 : dc kB50 12 (.aload_n 0) 1 := by decide +kernel
theorem d35_13 : dc kB50 13 (.getfield 1) 3 := by decide +kernel
theorem d35_16 : dc kB50 16 (.aload_n 2) 1 := by decide +kernel
theorem d35_17 : dc kB50 17 (.invokevirtual 21) 3 := by decide +kernel
theorem d35_20 : dc kB50 20 (.ifCond .eq 7) 3 := by decide +kernel
theorem d35_27 : dc kB50 27 (.iconst 0) 1 := by decide +kernel
theorem d35_28 : dc kB50 28 .ireturn 1 := by decide +kernel
theorem ef_rm35N (m : MethodId) (a0 a1 : Addr) : entryFrame m #[(.ref a0), (.ref a1)] 3 = mkF m 0 #[vR a0, vR a1, .unset] [] := by first | (simp [entryFrame, mkF, argsToLocals, Value.category]; done) | rfl
def Q35N (Z : State) (a0 a1 ct aH aG : Addr) (kH : ClassId) (f : Nat → Value) (kG : ClassId) (g : Nat → Value) (ht : Int32) (u : Addr) (xt xu : Int64) (hu r : Int32) (h0 : Heap) (n0 : Nat) (v : Option Value) (h : Heap) (L : List Loc) : Prop := v = some (.int (0 : Int32)) ∧ Fr n0 L ∧ h = h0
theorem rm35N (l : Launch) (Z : State) (az : Array Value) (hw : HW Z az) (ws : List Jvm.Cond) (a0 a1 ct aH aG : Addr) (kH : ClassId) (f : Nat → Value) (kG : ClassId) (g : Nat → Value) (ht : Int32) (u : Addr) (xt xu : Int64) (hu r : Int32) (h0 : Heap) (n0 : Nat) (Z0 : n0 ≤ h0.size) (E_a0 : Exa Z h0 a0 cVW) (F_this_0_a0 : Fld Z h0 a0 cVW "this$0" dC (.ref ct)) (E_ct : Exa Z h0 ct cTC) (F_held_ct : Fld Z h0 ct cSL "held" cOA (.ref aH)) (F_hashesAndCounts_ct : Fld Z h0 ct cSL "hashesAndCounts" "[J" (.ref aG)) (V_aH : own_Arf Z h0 aH kH (.object "java/lang/Object") (4 : Int32) f) (E_aH : Exa Z h0 aH cOA) (V_aG : own_Arf Z h0 aG kG .long (4 : Int32) g) (E_aG : Exa Z h0 aG "[J") (E_a1 : Exa Z h0 a1 cTU) (F_hash_a1 : Fld Z h0 a1 cTU "hash" "I" (.int ht)) (J_tp : own_TP Z h0 a1 u xt xu ht hu) (hFR : own_FR f g a1 u xt xu ht hu r) (hc13 : r < (0 : Int32)) :
    MF l Z h0 ws ⟨cVW, "contains", "(Ljava/lang/Object;)Z"⟩ kB50 3 (some .boolean) ⟨9, 0, 0, 130⟩ #[(.ref a0), (.ref a1)] (Q35N Z a0 a1 ct aH aG kH f kG g ht u xt xu hu r h0 n0) := by
  refine own_body cVW n0 rfl (plainFor_of_name pn_com_example_reteweave_reteweave_network_TupleCounts_View) (fun m => ef_rm35N m a0 a1) ?_
  intro p e s m below meth c s₁ Bd hx hby hml hown hZ X0 e0 N0 pre0
  obtain ⟨T1, X1, e1, st1⟩ := instY X0 hx hZ hown (w243 hw) e0 (Ins.self E_a1) (g := (mkF m 1 #[vR a0, vR a1, .unset] [(.ref a1)])) rfl rfl (hb hby d35_1)
  obtain ⟨T2, X2, e2, st2⟩ := castY X1 hx hZ hown (w243 hw) e1 (Ins.self E_a1) (g := (mkF m 8 #[vR a0, vR a1, .unset] [(.ref a1)])) rfl rfl (hb hby d35_8)
  obtain ⟨T3, X3, e3, st3⟩ := getF X2 hx hZ hown (host := "") (Or.inl (w209 hw)) Via.refl e2 F_this_0_a0 (g := (mkF m 13 #[vR a0, vR a1, vR a1] [(.ref a0)])) rfl rfl (hb hby d35_13)
  obtain ⟨cq4, kq4, q4a, q4b, q4c⟩ := isOf hZ e3 E_ct
  obtain ⟨_, _, ⟨T4, L4, k4', n4'⟩, -, X4, ⟨Lc4, hQ4, l4, y4, z4⟩, st4⟩ := X3.virtualBack hx (y := ⟨cTC, "count", dN⟩) (z := ⟨cTC, "count", dN⟩) hown (mvT hZ (w245 hw)) (mvT hZ (w159 hw)) (notFace_of_selects (args := #[]) (mvT hZ (w161 hw))) (mvT hZ (w161 hw)) (mvT hZ (w160 hw)) (by decide) (backOf (W := 0) (rm22N l Z az hw [] ct a1 aH aG kH f kG g ht u xt xu hu r h0 n0 Z0 E_ct F_held_ct F_hashesAndCounts_ct V_aH E_aH V_aG E_aG E_a1 F_hash_a1 J_tp hFR hc13) hZ (w162 hw) (w104 hw) (by decide) (by decide)) q4a q4c (g := (mkF m 17 #[vR a0, vR a1, vR a1] [(.ref a1), (.ref ct)])) rfl (by rw [hml]; rfl) (Steps.refl _) (argsL := [(.ref a1)]) (rest := []) (lenOf pd_20 rfl) rfl (Nat.le_of_eq rfl) (hb hby d35_17) (fun _ _ => ⟨rfl, e3, (own_nle rfl), (own_nle rfl)⟩)
  dsimp only [Pt.U, Pt.locs, Pt.cells, Pt.slots] at X4 l4 y4 z4 st4 hQ4
  subst l4 y4 z4
  obtain ⟨rfl, N4q, e4⟩ := hQ4
  obtain ⟨Lg4, X4', N4⟩ := own_gen X4 (Fr.app N0 N4q)
  obtain ⟨fs, hr, hrun, hended, hW, hsame⟩ := X4'.leave (v := some (.int (0 : Int32))) (fun h => by rw [Bd.returns] at h; cases h) Bd.notSynchronized
  refine ⟨_, _, pre0 _ ?_, hrun, hended, _, _, rfl, ?_, ⟨_, rfl⟩, hW, hsame.mono (by decide) (by decide)⟩
  · show SP p e below s₁ (mkF m 0 #[vR a0, vR a1, .unset] []) _
    refine XS.aloadN X0.here hx rfl (hb hby d35_0) rfl rfl ?_
    show SP p e below s₁ (mkF m 1 #[vR a0, vR a1, .unset] [(.ref a1)]) _
    refine st1 _ ?_
    show SP p e below T1 (mkF m 4 #[vR a0, vR a1, .unset] [(.int (1 : Int32))]) _
    refine XS.ifNo X1.here hx rfl (hb hby d35_4) rfl ((if0 _ _).trans (feq (by decide : ¬ ((1 : Int32) = (0 : Int32)))).1) ?_
    refine XS.aloadN X1.here hx rfl (hb hby d35_7) rfl rfl ?_
    show SP p e below T1 (mkF m 8 #[vR a0, vR a1, .unset] [(.ref a1)]) _
    refine st2 _ ?_
    show SP p e below T2 (mkF m 11 #[vR a0, vR a1, .unset] [(.ref a1)]) _
    refine XS.astoreN X2.here hx rfl (hb hby d35_11) rfl rfl (l' := #[vR a0, vR a1, vR a1]) rfl ?_
    refine XS.aloadN X2.here hx rfl (hb hby d35_12) rfl rfl ?_
    show SP p e below T2 (mkF m 13 #[vR a0, vR a1, vR a1] [(.ref a0)]) _
    refine st3 _ ?_
    show SP p e below T3 (mkF m 16 #[vR a0, vR a1, vR a1] [(.ref ct)]) _
    refine XS.aloadN X3.here hx rfl (hb hby d35_16) rfl rfl ?_
    show SP p e below T3 (mkF m 17 #[vR a0, vR a1, vR a1] [(.ref a1), (.ref ct)]) _
    refine st4.trans ?_
    show SP p e below T4 (mkF m 20 #[vR a0, vR a1, vR a1] [(.int (0 : Int32))]) _
    refine XS.ifYes X4'.here hx rfl (pc0 := 20) (pc' := 27) rfl (hb hby d35_20) rfl ((if0 _ _).trans (teq (by decide : (0 : Int32) = (0 : Int32))).1) (by decide) (by decide) ?_
    refine XS.iconst X4'.here hx rfl (hb hby d35_27) ?_
    show SP p e below T4 (mkF m 28 #[vR a0, vR a1, vR a1] [(.int (0 : Int32))]) _
    exact retN X4' hx (t := .boolean) Bd.returns (by simp) (hb hby d35_28) hr
  · show Q35N Z a0 a1 ct aH aG kH f kG g ht u xt xu hu r h0 n0 _ T4.heap _
    rw [e4]
    exact ⟨rfl, N4, rfl⟩
theorem d35_23 : dc kB50 23 (.iconst 1) 1 := by decide +kernel
theorem d35_24 : dc kB50 24 (.goto 4) 3 := by decide +kernel
theorem ef_rm35Y (m : MethodId) (a0 a1 : Addr) : entryFrame m #[(.ref a0), (.ref a1)] 3 = mkF m 0 #[vR a0, vR a1, .unset] [] := by first | (simp [entryFrame, mkF, argsToLocals, Value.category]; done) | rfl
def Q35Y (Z : State) (a0 a1 ct aH aG : Addr) (kH : ClassId) (f : Nat → Value) (kG : ClassId) (g : Nat → Value) (ht : Int32) (u : Addr) (xt xu : Int64) (hu r : Int32) (w : Int64) (h0 : Heap) (n0 : Nat) (v : Option Value) (h : Heap) (L : List Loc) : Prop := v = some (.int (1 : Int32)) ∧ Fr n0 L ∧ h = h0
theorem rm35Y (l : Launch) (Z : State) (az : Array Value) (hw : HW Z az) (ws : List Jvm.Cond) (a0 a1 ct aH aG : Addr) (kH : ClassId) (f : Nat → Value) (kG : ClassId) (g : Nat → Value) (ht : Int32) (u : Addr) (xt xu : Int64) (hu r : Int32) (w : Int64) (h0 : Heap) (n0 : Nat) (Z0 : n0 ≤ h0.size) (E_a0 : Exa Z h0 a0 cVW) (F_this_0_a0 : Fld Z h0 a0 cVW "this$0" dC (.ref ct)) (E_ct : Exa Z h0 ct cTC) (F_held_ct : Fld Z h0 ct cSL "held" cOA (.ref aH)) (F_hashesAndCounts_ct : Fld Z h0 ct cSL "hashesAndCounts" "[J" (.ref aG)) (V_aH : own_Arf Z h0 aH kH (.object "java/lang/Object") (4 : Int32) f) (E_aH : Exa Z h0 aH cOA) (V_aG : own_Arf Z h0 aG kG .long (4 : Int32) g) (E_aG : Exa Z h0 aG "[J") (E_a1 : Exa Z h0 a1 cTU) (F_hash_a1 : Fld Z h0 a1 cTU "hash" "I" (.int ht)) (J_tp : own_TP Z h0 a1 u xt xu ht hu) (hFR : own_FR f g a1 u xt xu ht hu r) (hc13 : ¬ (r < (0 : Int32))) (hc14 : r < (4 : Int32)) (hc15 : g (r).toNatClampNeg = (.long w)) (hc16 : ¬ ((w.toInt32) = (0 : Int32))) :
    MF l Z h0 ws ⟨cVW, "contains", "(Ljava/lang/Object;)Z"⟩ kB50 3 (some .boolean) ⟨9, 0, 0, 130⟩ #[(.ref a0), (.ref a1)] (Q35Y Z a0 a1 ct aH aG kH f kG g ht u xt xu hu r w h0 n0) := by
  refine own_body cVW n0 rfl (plainFor_of_name pn_com_example_reteweave_reteweave_network_TupleCounts_View) (fun m => ef_rm35Y m a0 a1) ?_
  intro p e s m below meth c s₁ Bd hx hby hml hown hZ X0 e0 N0 pre0
  obtain ⟨T1, X1, e1, st1⟩ := instY X0 hx hZ hown (w243 hw) e0 (Ins.self E_a1) (g := (mkF m 1 #[vR a0, vR a1, .unset] [(.ref a1)])) rfl rfl (hb hby d35_1)
  obtain ⟨T2, X2, e2, st2⟩ := castY X1 hx hZ hown (w243 hw) e1 (Ins.self E_a1) (g := (mkF m 8 #[vR a0, vR a1, .unset] [(.ref a1)])) rfl rfl (hb hby d35_8)
  obtain ⟨T3, X3, e3, st3⟩ := getF X2 hx hZ hown (host := "") (Or.inl (w209 hw)) Via.refl e2 F_this_0_a0 (g := (mkF m 13 #[vR a0, vR a1, vR a1] [(.ref a0)])) rfl rfl (hb hby d35_13)
  obtain ⟨cq4, kq4, q4a, q4b, q4c⟩ := isOf hZ e3 E_ct
  obtain ⟨_, _, ⟨T4, L4, k4', n4'⟩, -, X4, ⟨Lc4, hQ4, l4, y4, z4⟩, st4⟩ := X3.virtualBack hx (y := ⟨cTC, "count", dN⟩) (z := ⟨cTC, "count", dN⟩) hown (mvT hZ (w245 hw)) (mvT hZ (w159 hw)) (notFace_of_selects (args := #[]) (mvT hZ (w161 hw))) (mvT hZ (w161 hw)) (mvT hZ (w160 hw)) (by decide) (backOf (W := 0) (rm22Y l Z az hw [] ct a1 aH aG kH f kG g ht u xt xu hu r w h0 n0 Z0 E_ct F_held_ct F_hashesAndCounts_ct V_aH E_aH V_aG E_aG E_a1 F_hash_a1 J_tp hFR hc13 hc14 hc15) hZ (w162 hw) (w104 hw) (by decide) (by decide)) q4a q4c (g := (mkF m 17 #[vR a0, vR a1, vR a1] [(.ref a1), (.ref ct)])) rfl (by rw [hml]; rfl) (Steps.refl _) (argsL := [(.ref a1)]) (rest := []) (lenOf pd_20 rfl) rfl (Nat.le_of_eq rfl) (hb hby d35_17) (fun _ _ => ⟨rfl, e3, (own_nle rfl), (own_nle rfl)⟩)
  dsimp only [Pt.U, Pt.locs, Pt.cells, Pt.slots] at X4 l4 y4 z4 st4 hQ4
  subst l4 y4 z4
  obtain ⟨rfl, N4q, e4⟩ := hQ4
  obtain ⟨Lg4, X4', N4⟩ := own_gen X4 (Fr.app N0 N4q)
  obtain ⟨fs, hr, hrun, hended, hW, hsame⟩ := X4'.leave (v := some (.int (1 : Int32))) (fun h => by rw [Bd.returns] at h; cases h) Bd.notSynchronized
  refine ⟨_, _, pre0 _ ?_, hrun, hended, _, _, rfl, ?_, ⟨_, rfl⟩, hW, hsame.mono (by decide) (by decide)⟩
  · show SP p e below s₁ (mkF m 0 #[vR a0, vR a1, .unset] []) _
    refine XS.aloadN X0.here hx rfl (hb hby d35_0) rfl rfl ?_
    show SP p e below s₁ (mkF m 1 #[vR a0, vR a1, .unset] [(.ref a1)]) _
    refine st1 _ ?_
    show SP p e below T1 (mkF m 4 #[vR a0, vR a1, .unset] [(.int (1 : Int32))]) _
    refine XS.ifNo X1.here hx rfl (hb hby d35_4) rfl ((if0 _ _).trans (feq (by decide : ¬ ((1 : Int32) = (0 : Int32)))).1) ?_
    refine XS.aloadN X1.here hx rfl (hb hby d35_7) rfl rfl ?_
    show SP p e below T1 (mkF m 8 #[vR a0, vR a1, .unset] [(.ref a1)]) _
    refine st2 _ ?_
    show SP p e below T2 (mkF m 11 #[vR a0, vR a1, .unset] [(.ref a1)]) _
    refine XS.astoreN X2.here hx rfl (hb hby d35_11) rfl rfl (l' := #[vR a0, vR a1, vR a1]) rfl ?_
    refine XS.aloadN X2.here hx rfl (hb hby d35_12) rfl rfl ?_
    show SP p e below T2 (mkF m 13 #[vR a0, vR a1, vR a1] [(.ref a0)]) _
    refine st3 _ ?_
    show SP p e below T3 (mkF m 16 #[vR a0, vR a1, vR a1] [(.ref ct)]) _
    refine XS.aloadN X3.here hx rfl (hb hby d35_16) rfl rfl ?_
    show SP p e below T3 (mkF m 17 #[vR a0, vR a1, vR a1] [(.ref a1), (.ref ct)]) _
    refine st4.trans ?_
    show SP p e below T4 (mkF m 20 #[vR a0, vR a1, vR a1] [(.int (w.toInt32))]) _
    refine XS.ifNo X4'.here hx rfl (hb hby d35_20) rfl ((if0 _ _).trans (feq hc16).1) ?_
    refine XS.iconst X4'.here hx rfl (hb hby d35_23) ?_
    refine XS.goto X4'.here hx rfl (pc0 := 24) (pc' := 28) rfl (hb hby d35_24) (by decide) (by decide) ?_
    show SP p e below T4 (mkF m 28 #[vR a0, vR a1, vR a1] [(.int (1 : Int32))]) _
    exact retN X4' hx (t := .boolean) Bd.returns (by simp) (hb hby d35_28) hr
  · show Q35Y Z a0 a1 ct aH aG kH f kG g ht u xt xu hu r w h0 n0 _ T4.heap _
    rw [e4]
    exact ⟨rfl, N4, rfl⟩
def own_gz (c : Int32) : Int32 := if (0 : Int32) < c then (1 : Int32) else (0 : Int32)
def own_KN (f g : Nat → Value) (t u : Addr) (xt xu : Int64) (ht hu c : Int32) : Prop := (∃ r : Int32, own_FR f g t u xt xu ht hu r ∧ r < (0 : Int32) ∧ c = (0 : Int32)) ∨ (∃ (r : Int32) (w : Int64), own_FR f g t u xt xu ht hu r ∧ ¬ (r < (0 : Int32)) ∧ r < (4 : Int32) ∧ g (r).toNatClampNeg = (.long w) ∧ ¬ ((w.toInt32) = (0 : Int32)) ∧ (0 : Int32) < c)
def QCO (Z : State) (a0 a1 ct aH aG : Addr) (kH : ClassId) (f : Nat → Value) (kG : ClassId) (g : Nat → Value) (ht : Int32) (u : Addr) (xt xu : Int64) (hu c : Int32) (h0 : Heap) (n0 : Nat) (v : Option Value) (h : Heap) (L : List Loc) : Prop := v = some (.int (own_gz c)) ∧ Fr n0 L ∧ h = h0
theorem rmCO (l : Launch) (Z : State) (az : Array Value) (hw : HW Z az) (ws : List Jvm.Cond) (a0 a1 ct aH aG : Addr) (kH : ClassId) (f : Nat → Value) (kG : ClassId) (g : Nat → Value) (ht : Int32) (u : Addr) (xt xu : Int64) (hu c : Int32) (h0 : Heap) (n0 : Nat) (Z0 : n0 ≤ h0.size) (E_a0 : Exa Z h0 a0 cVW) (F_this_0_a0 : Fld Z h0 a0 cVW "this$0" dC (.ref ct)) (E_ct : Exa Z h0 ct cTC) (F_held_ct : Fld Z h0 ct cSL "held" cOA (.ref aH)) (F_hashesAndCounts_ct : Fld Z h0 ct cSL "hashesAndCounts" "[J" (.ref aG)) (V_aH : own_Arf Z h0 aH kH (.object "java/lang/Object") (4 : Int32) f) (E_aH : Exa Z h0 aH cOA) (V_aG : own_Arf Z h0 aG kG .long (4 : Int32) g) (E_aG : Exa Z h0 aG "[J") (E_a1 : Exa Z h0 a1 cTU) (F_hash_a1 : Fld Z h0 a1 cTU "hash" "I" (.int ht)) (J_tp : own_TP Z h0 a1 u xt xu ht hu) (hK : own_KN f g a1 u xt xu ht hu c) :
    MF l Z h0 ws ⟨cVW, "contains", "(Ljava/lang/Object;)Z"⟩ kB50 3 (some .boolean) ⟨9, 0, 0, 130⟩ #[(.ref a0), (.ref a1)] (QCO Z a0 a1 ct aH aG kH f kG g ht u xt xu hu c h0 n0) := by
  rcases hK with ⟨r, q1, q2, rfl⟩ | ⟨r, w, q1, q2, q3, q4, q5, q6⟩
  · refine own_mono (rm35N l Z az hw ws a0 a1 ct aH aG kH f kG g ht u xt xu hu r h0 n0 Z0 E_a0 F_this_0_a0 E_ct F_held_ct F_hashesAndCounts_ct V_aH E_aH V_aG E_aG E_a1 F_hash_a1 J_tp q1 q2) fun v h L q => ?_
    obtain ⟨rfl, qN, rfl⟩ := q
    exact ⟨by rw [show own_gz (0 : Int32) = (0 : Int32) from if_neg (by decide)], qN, rfl⟩
  · refine own_mono (rm35Y l Z az hw ws a0 a1 ct aH aG kH f kG g ht u xt xu hu r w h0 n0 Z0 E_a0 F_this_0_a0 E_ct F_held_ct F_hashesAndCounts_ct V_aH E_aH V_aG E_aG E_a1 F_hash_a1 J_tp q1 q2 q3 q4 q5) fun v h L q => ?_
    obtain ⟨rfl, qN, rfl⟩ := q
    exact ⟨by rw [show own_gz c = (1 : Int32) from if_pos q6], qN, rfl⟩
theorem own_hcb (h c : Int32) : (own_hc h c).toBitVec = (h.toBitVec.signExtend 64 <<< 32) ||| (c.toBitVec.signExtend 64 &&& 4294967295#64) := by
  show (h.toBitVec.signExtend 64 <<< ((((32 : Int32) &&& 0x3f).toInt64).toBitVec.smod 64)) ||| (c.toBitVec.signExtend 64 &&& 4294967295#64) = _
  rw [show ((((32 : Int32) &&& 0x3f).toInt64).toBitVec.smod 64) = 32#64 from by decide]
  rfl
theorem own_ones (i : Nat) : (4294967295#64).getLsbD i = decide (i < 32) := by
  by_cases hi : i < 64
  · have : ∀ j : Fin 64, (4294967295#64).getLsbD j.val = decide (j.val < 32) := by decide
    exact this ⟨i, hi⟩
  · rw [BitVec.getLsbD_of_ge _ _ (by omega)]
    exact (decide_eq_false (by omega)).symm
theorem own_hcc (h c : Int32) : (own_hc h c).toInt32 = c := by
  apply Int32.toBitVec_inj.mp
  show (own_hc h c).toBitVec.signExtend 32 = c.toBitVec
  rw [own_hcb]
  apply BitVec.eq_of_getLsbD_eq
  intro i hi
  have h2 : i < 64 := by omega
  rw [BitVec.getLsbD_signExtend, if_pos (show i < 64 by omega), BitVec.getLsbD_or, BitVec.getLsbD_and, own_ones, BitVec.getLsbD_shiftLeft, BitVec.getLsbD_signExtend c.toBitVec, if_pos hi]
  simp only [hi, h2, decide_true, Bool.true_and, Bool.and_true, Bool.not_true, Bool.false_and, Bool.false_or]
theorem own_hch (h c : Int32) : own_hh (own_hc h c) = h := by
  apply Int32.toBitVec_inj.mp
  show ((own_hc h c).toBitVec >>> ((((32 : Int32) &&& 0x3f).toInt64.toUInt64).toBitVec % 64)).signExtend 32 = h.toBitVec
  rw [own_hcb, show ((((32 : Int32) &&& 0x3f).toInt64.toUInt64).toBitVec % 64) = 32#64 from by decide]
  apply BitVec.eq_of_getLsbD_eq
  intro i hi
  show (((h.toBitVec.signExtend 64 <<< 32 ||| c.toBitVec.signExtend 64 &&& 4294967295#64) >>> 32).signExtend 32).getLsbD i = _
  have h2 : 32 + i < 64 := by omega
  rw [BitVec.getLsbD_signExtend, if_pos (show i < 64 by omega), BitVec.getLsbD_ushiftRight, BitVec.getLsbD_or, BitVec.getLsbD_and, own_ones, BitVec.getLsbD_shiftLeft, BitVec.getLsbD_signExtend h.toBitVec, show 32 + i - 32 = i by omega, if_pos hi, decide_eq_false (show ¬ 32 + i < 32 by omega)]
  simp only [hi, h2, decide_true, Bool.true_and, Bool.and_false, Bool.not_false, Bool.or_false]
  simp
  intro _
  omega
abbrev own_N (i : Int32) : Nat := i.toNatClampNeg
theorem own_p4 (h : Int32) : ¬ (own_home h < (0 : Int32)) ∧ own_home h < (4 : Int32) ∧ ¬ (((-1 : Int32) - ((-1 : Int32) - own_home h)) < (0 : Int32)) ∧ ((-1 : Int32) - own_home h) < (0 : Int32) ∧ ((-1 : Int32) - own_nx (own_home h)) < (0 : Int32) ∧ ¬ (own_nx (own_home h) < (0 : Int32)) ∧ own_nx (own_home h) < (4 : Int32) ∧ own_N (own_nx (own_home h)) ≠ own_N (own_home h) ∧ own_N (own_nx (own_nx (own_home h))) ≠ own_N (own_home h) ∧ own_N (own_nx (own_nx (own_home h))) ≠ own_N (own_nx (own_home h)) ∧ own_nx (own_nx (own_nx (own_nx (own_home h)))) = own_home h ∧ own_N (own_nx (own_nx (own_nx (own_home h)))) ≠ own_N (own_nx (own_home h)) := by
  rcases own_h4 h with e | e | e | e <;> rw [e] <;> decide
theorem own_nn (x : Int32) : (-1 : Int32) - ((-1 : Int32) - x) = x := by
  rw [Int32.sub_eq_add_neg, Int32.neg_sub, Int32.sub_eq_add_neg x, show -(-1 : Int32) = 1 from by decide, Int32.add_comm x, ← Int32.add_assoc, show (-1 : Int32) + 1 = 0 from by decide, Int32.zero_add]
theorem own_inj {h k : Int32} (e : own_N (own_home h) = own_N (own_home k)) : own_home h = own_home k := by
  rcases own_h4 h with a | a | a | a <;> rcases own_h4 k with b | b | b | b <;> rw [a, b] at e ⊢ <;> revert e <;> decide
theorem own_inx {h k : Int32} (e : own_N (own_home h) = own_N (own_nx (own_home k))) : own_home h = own_nx (own_home k) := by
  rcases own_h4 h with a | a | a | a <;> rcases own_h4 k with b | b | b | b <;> rw [a, b] at e ⊢ <;> revert e <;> decide
theorem own_tst (h : Int32) : (((own_nx (own_home h)) - (own_nx (own_home h))) &&& (3 : Int32)) < (((own_nx (own_home h)) - (own_home h)) &&& (3 : Int32)) := by
  rcases own_h4 h with e | e | e | e <;> rw [e] <;> decide
theorem own_pos {x : Int32} (h1 : ¬ (x < (0 : Int32))) (h2 : ¬ (x = (0 : Int32))) : (0 : Int32) < x := by
  rw [Int32.lt_iff_toInt_lt] at *
  have : x.toInt ≠ 0 := fun e => h2 (Int32.toInt_inj.mp e)
  show 0 < x.toInt
  have h1 : ¬ (x.toInt < 0) := h1
  omega
theorem own_posn {x : Int32} (h : (0 : Int32) < x) : ¬ (x = (0 : Int32)) := fun e => by
  subst e
  exact absurd h (by decide)
def own_F1 (i : Nat) (t : Addr) (f : Nat → Value) : Prop := ∀ k, f k = if k = i then .ref t else .null
def own_CS (t u : Addr) (h c : Int32) (f g : Nat → Value) (sz : Int32) : Prop := (c = (0 : Int32) ∧ (∀ k, f k = .null) ∧ sz = (0 : Int32)) ∨ ((0 : Int32) < c ∧ ∃ o : Addr, (o = t ∨ o = u) ∧ own_F1 (own_N (own_home h)) o f ∧ g (own_N (own_home h)) = .long (own_hc h c) ∧ sz = (1 : Int32))
theorem own_F1.ins {f : Nat → Value} (F : ∀ k, f k = .null) (i : Nat) (t : Addr) : own_F1 i t (own_upd f i (.ref t)) := fun k => by
  unfold own_upd
  split
  · rfl
  · exact F k
theorem own_F1.del {f : Nat → Value} {i : Nat} {t : Addr} (F : own_F1 i t f) : ∀ k, own_upd f i .null k = .null := fun k => by
  unfold own_upd
  split
  · rfl
  · rename_i q
    rw [F k, if_neg q]
theorem own_F1.at {f : Nat → Value} {i : Nat} {t : Addr} (F : own_F1 i t f) : f i = .ref t := by rw [F i, if_pos rfl]
theorem own_F1.off {f : Nat → Value} {i k : Nat} {t : Addr} (F : own_F1 i t f) (q : k ≠ i) : f k = .null := by rw [F k, if_neg q]
theorem own_FRs {t u o : Addr} {x : Int64} {h c : Int32} {f g : Nat → Value} (ho : o = t ∨ o = u) (F : own_F1 (own_N (own_home h)) o f) (G : g (own_N (own_home h)) = .long (own_hc h c)) : own_FR f g t u x x h h (own_home h) := by
  rcases ho with rfl | rfl
  · exact Or.inr (Or.inl ⟨F.at, ⟨_, G, own_hch _ _⟩, rfl⟩)
  · exact Or.inr (Or.inr (Or.inl ⟨F.at, ⟨_, G, own_hch _ _⟩, rfl, rfl, rfl⟩))
theorem own_us {t u : Addr} {x : Int64} {h c y sz : Int32} {f g : Nat → Value} (H : own_CS t u h c f g sz) (h1 : ¬ ((c + y) < (0 : Int32))) : own_UP f g sz t u x x h h y (own_CS t u h (c + y)) := by
  obtain ⟨b1, b2, b3, b4, b5, b6, b7, b8, b9, b10, -⟩ := own_p4 h
  rcases H with ⟨rfl, F, rfl⟩ | ⟨hc, o, ho, F, G, rfl⟩
  · have R : own_FR f g t u x x h h ((-1 : Int32) - own_home h) := Or.inl ⟨F _, rfl⟩
    by_cases hy : y = (0 : Int32)
    · subst hy
      exact Or.inl ⟨rfl, _, R, b4, Or.inl ⟨rfl, F, rfl⟩⟩
    · refine Or.inr (Or.inl ⟨_, R, b4, hy, h1, by decide, b3, by rw [own_nn]; exact b2, by decide, ?_, ?_⟩)
      · exact own_pos h1 (by rw [Int32.zero_add]; exact hy)
      · rw [own_nn]
        refine Or.inr ⟨own_pos h1 (by rw [Int32.zero_add]; exact hy), t, Or.inl rfl, own_F1.ins F _ _, ?_, rfl⟩
        rw [own_upd_eq, Int32.zero_add]
  · have R := own_FRs (x := x) ho F G
    have e := own_hcc h c
    by_cases hz : c + y = (0 : Int32)
    · refine Or.inr (Or.inr (Or.inr ⟨_, _, own_upd f (own_N (own_home h)) .null, g, R, b1, b2, G, by rw [e]; exact h1, by rw [e]; exact hz, by rw [e]; exact own_posn hc, by rw [e]; exact hc, Or.inl ⟨F.off b8, rfl, rfl⟩, Or.inl ⟨hz, F.del, by decide⟩⟩))
    · refine Or.inr (Or.inr (Or.inl ⟨_, _, R, b1, b2, G, by rw [e]; exact h1, by rw [e]; exact hz, by rw [e]; exact own_posn hc, by rw [e]; exact hc, Or.inr ⟨own_pos h1 hz, o, ho, F, ?_, rfl⟩⟩))
      rw [own_upd_eq, own_hch, e]
theorem own_CS.comm {t u : Addr} {h c sz : Int32} {f g : Nat → Value} (H : own_CS t u h c f g sz) : own_CS u t h c f g sz := by
  rcases H with ⟨a, b, c⟩ | ⟨a, o, ho, b, c, d⟩
  · exact Or.inl ⟨a, b, c⟩
  · exact Or.inr ⟨a, o, ho.symm, b, c, d⟩
def own_F2 (i j : Nat) (t u : Addr) (f : Nat → Value) : Prop := ∀ k, f k = if k = i then .ref t else if k = j then .ref u else .null
theorem own_F2.a {f : Nat → Value} {i j : Nat} {t u : Addr} (F : own_F2 i j t u f) : f i = .ref t := by rw [F i, if_pos rfl]
theorem own_F2.b {f : Nat → Value} {i j : Nat} {t u : Addr} (F : own_F2 i j t u f) (q : j ≠ i) : f j = .ref u := by rw [F j, if_neg q, if_pos rfl]
theorem own_F2.off {f : Nat → Value} {i j k : Nat} {t u : Addr} (F : own_F2 i j t u f) (q : k ≠ i) (r : k ≠ j) : f k = .null := by rw [F k, if_neg q, if_neg r]
theorem own_F2.dela {f : Nat → Value} {i j : Nat} {t u : Addr} (F : own_F2 i j t u f) (q : j ≠ i) : own_F1 j u (own_upd f i .null) := fun k => by
  unfold own_upd
  by_cases e : k = i
  · subst e
    rw [if_pos rfl, if_neg (Ne.symm q)]
  · rw [if_neg e, F k, if_neg e]
theorem own_F2.delb {f : Nat → Value} {i j : Nat} {t u : Addr} (F : own_F2 i j t u f) (q : j ≠ i) : own_F1 i t (own_upd f j .null) := fun k => by
  unfold own_upd
  by_cases e : k = j
  · subst e
    rw [if_pos rfl, if_neg q]
  · rw [if_neg e, F k]
    split
    · rfl
    · rfl
theorem own_F2.mov {f : Nat → Value} {i j : Nat} {t u : Addr} (F : own_F2 i j t u f) : own_F1 i u (own_upd (own_upd f i (.ref u)) j .null) ∨ j = i := by
  by_cases q : j = i
  · exact Or.inr q
  · refine Or.inl fun k => ?_
    unfold own_upd
    by_cases e : k = j
    · subst e
      rw [if_pos rfl, if_neg q]
    · rw [if_neg e]
      by_cases e' : k = i
      · rw [if_pos e', if_pos e']
      · rw [if_neg e', if_neg e', F k, if_neg e', if_neg e]
theorem own_F1.addb {f : Nat → Value} {i j : Nat} {t u : Addr} (F : own_F1 i t f) (q : j ≠ i) : own_F2 i j t u (own_upd f j (.ref u)) := fun k => by
  unfold own_upd
  by_cases e : k = j
  · subst e
    rw [if_pos rfl, if_neg q, if_pos rfl]
  · rw [if_neg e, F k]
    split
    · rfl
    · rfl
def own_CD (t u : Addr) (h h' c d : Int32) (f g : Nat → Value) (sz : Int32) : Prop := (c = (0 : Int32) ∧ d = (0 : Int32) ∧ (∀ k, f k = .null) ∧ sz = (0 : Int32)) ∨ ((0 : Int32) < c ∧ d = (0 : Int32) ∧ own_F1 (own_N (own_home h)) t f ∧ g (own_N (own_home h)) = .long (own_hc h c) ∧ sz = (1 : Int32)) ∨ (c = (0 : Int32) ∧ (0 : Int32) < d ∧ own_F1 (own_N (own_home h')) u f ∧ g (own_N (own_home h')) = .long (own_hc h' d) ∧ sz = (1 : Int32)) ∨ (∃ B : Int32, (0 : Int32) < c ∧ (0 : Int32) < d ∧ own_N B ≠ own_N (own_home h) ∧ (B = own_home h' ∨ (own_home h' = own_home h ∧ B = own_nx (own_home h))) ∧ own_F2 (own_N (own_home h)) (own_N B) t u f ∧ g (own_N (own_home h)) = .long (own_hc h c) ∧ g (own_N B) = .long (own_hc h' d) ∧ sz = (2 : Int32))
theorem own_rt {t u : Addr} {h h' d B : Int32} {f g : Nat → Value} (n : own_N B ≠ own_N (own_home h)) (hB : B = own_home h' ∨ (own_home h' = own_home h ∧ B = own_nx (own_home h))) (F : own_F2 (own_N (own_home h)) (own_N B) t u f) (G : g (own_N B) = .long (own_hc h' d)) :
    ∃ f2 g2, own_RR f g t u (own_home h) f2 g2 ∧ own_F1 (own_N (own_home h')) u f2 ∧ g2 (own_N (own_home h')) = .long (own_hc h' d) := by
  obtain ⟨-, -, -, -, -, -, -, b8, b9, b10, -, -⟩ := own_p4 h
  rcases hB with rfl | ⟨e, rfl⟩
  · by_cases q : own_N (own_nx (own_home h)) = own_N (own_home h')
    · have q' := own_inx q.symm
      rw [q'] at F G ⊢
      refine ⟨_, _, Or.inr (Or.inl ⟨u, _, Or.inr rfl, F.b b8, G, ?_, F.off b9 b10, rfl, rfl⟩), F.dela b8, G⟩
      rw [own_hch, q']
      exact own_tst h
    · exact ⟨_, _, Or.inl ⟨F.off b8 q, rfl, rfl⟩, F.dela n, G⟩
  · rw [e]
    refine ⟨_, _, Or.inr (Or.inr ⟨u, _, Or.inr rfl, F.b b8, G, ?_, ?_, rfl, rfl⟩), F.mov.resolve_right n, own_upd_eq⟩
    · rw [own_hch, e]
      exact fun z => Int32.lt_irrefl z
    · exact (own_upd_ne b9).trans (F.off b9 b10)
theorem own_ru {t u : Addr} {h h' c B : Int32} {f g : Nat → Value} (n : own_N B ≠ own_N (own_home h)) (hB : B = own_home h' ∨ (own_home h' = own_home h ∧ B = own_nx (own_home h))) (F : own_F2 (own_N (own_home h)) (own_N B) t u f) (G : g (own_N (own_home h)) = .long (own_hc h c)) :
    own_RR f g u t B (own_upd f (own_N B) .null) g := by
  obtain ⟨-, -, -, -, -, -, -, b8, b9, b10, -, -⟩ := own_p4 h
  rcases hB with rfl | ⟨e, rfl⟩
  · obtain ⟨-, -, -, -, -, -, -, d8, d9, d10, -, -⟩ := own_p4 h'
    by_cases q : own_N (own_nx (own_home h')) = own_N (own_home h)
    · have q' := own_inx q.symm
      rw [q'] at F G
      refine Or.inr (Or.inl ⟨t, _, Or.inr rfl, F.a, G, ?_, F.off d10 d9, rfl, rfl⟩)
      rw [own_hch, q']
      exact own_tst h'
    · exact Or.inl ⟨F.off q d8, rfl, rfl⟩
  · exact Or.inl ⟨F.off b9 b10, rfl, rfl⟩
theorem own_dt {t u : Addr} {x x' : Int64} {h h' c d y sz : Int32} {f g : Nat → Value} (H : own_CD t u h h' c d f g sz) (hx : x' ≠ x) (h0 : c = (0 : Int32) → y = (0 : Int32) ∨ d = (0 : Int32)) (h1 : ¬ ((c + y) < (0 : Int32))) : own_UP f g sz t u x x' h h' y (own_CD t u h h' (c + y) d) := by
  obtain ⟨b1, b2, b3, b4, b5, b6, b7, b8, b9, b10, -⟩ := own_p4 h
  rcases H with ⟨rfl, rfl, F, rfl⟩ | ⟨hc, rfl, F, G, rfl⟩ | ⟨rfl, hd, F, G, rfl⟩ | ⟨B, hc, hd, n, hB, F, G, G', rfl⟩
  · have R : own_FR f g t u x x' h h' ((-1 : Int32) - own_home h) := Or.inl ⟨F _, rfl⟩
    by_cases hy : y = (0 : Int32)
    · subst hy
      exact Or.inl ⟨rfl, _, R, b4, Or.inl ⟨rfl, rfl, F, rfl⟩⟩
    · refine Or.inr (Or.inl ⟨_, R, b4, hy, h1, by decide, b3, by rw [own_nn]; exact b2, by decide, own_pos h1 (by rw [Int32.zero_add]; exact hy), ?_⟩)
      rw [own_nn]
      refine Or.inr (Or.inl ⟨own_pos h1 (by rw [Int32.zero_add]; exact hy), rfl, own_F1.ins F _ _, ?_, rfl⟩)
      rw [own_upd_eq, Int32.zero_add]
  · have R : own_FR f g t u x x' h h' (own_home h) := Or.inr (Or.inl ⟨F.at, ⟨_, G, own_hch _ _⟩, rfl⟩)
    have e := own_hcc h c
    by_cases hz : c + y = (0 : Int32)
    · exact Or.inr (Or.inr (Or.inr ⟨_, _, own_upd f (own_N (own_home h)) .null, g, R, b1, b2, G, by rw [e]; exact h1, by rw [e]; exact hz, by rw [e]; exact own_posn hc, by rw [e]; exact hc, Or.inl ⟨F.off b8, rfl, rfl⟩, Or.inl ⟨hz, rfl, F.del, by decide⟩⟩))
    · refine Or.inr (Or.inr (Or.inl ⟨_, _, R, b1, b2, G, by rw [e]; exact h1, by rw [e]; exact hz, by rw [e]; exact own_posn hc, by rw [e]; exact hc, Or.inr (Or.inl ⟨own_pos h1 hz, rfl, F, ?_, rfl⟩)⟩))
      rw [own_upd_eq, own_hch, e]
  · rcases h0 rfl with rfl | rfl
    · by_cases q : own_N (own_home h) = own_N (own_home h')
      · have q' := own_inj q
        refine Or.inl ⟨rfl, (-1 : Int32) - own_nx (own_home h), Or.inr (Or.inr (Or.inr (Or.inl ⟨by rw [q']; exact F.at, ⟨_, by rw [q']; exact G, own_hch _ _⟩, Or.inr hx, F.off (by rw [← q']; exact b8), rfl⟩))), b5, Or.inr (Or.inr (Or.inl ⟨rfl, hd, F, G, rfl⟩))⟩
      · exact Or.inl ⟨rfl, _, Or.inl ⟨F.off q, rfl⟩, b4, Or.inr (Or.inr (Or.inl ⟨rfl, hd, F, G, rfl⟩))⟩
    · exact absurd rfl (own_posn hd)
  · have R : own_FR f g t u x x' h h' (own_home h) := Or.inr (Or.inl ⟨F.a, ⟨_, G, own_hch _ _⟩, rfl⟩)
    have e := own_hcc h c
    by_cases hz : c + y = (0 : Int32)
    · obtain ⟨f2, g2, RR, F', G2⟩ := own_rt n hB F G'
      exact Or.inr (Or.inr (Or.inr ⟨_, _, f2, g2, R, b1, b2, G, by rw [e]; exact h1, by rw [e]; exact hz, by rw [e]; exact own_posn hc, by rw [e]; exact hc, RR, Or.inr (Or.inr (Or.inl ⟨hz, hd, F', G2, by decide⟩))⟩))
    · refine Or.inr (Or.inr (Or.inl ⟨_, _, R, b1, b2, G, by rw [e]; exact h1, by rw [e]; exact hz, by rw [e]; exact own_posn hc, by rw [e]; exact hc, Or.inr (Or.inr (Or.inr ⟨B, own_pos h1 hz, hd, n, hB, F, ?_, (own_upd_ne n).trans G', rfl⟩))⟩))
      rw [own_upd_eq, own_hch, e]
theorem own_du {t u : Addr} {x x' : Int64} {h h' c d y sz : Int32} {f g : Nat → Value} (H : own_CD t u h h' c d f g sz) (hx : x ≠ x') (h1 : ¬ ((d + y) < (0 : Int32))) : own_UP f g sz u t x' x h' h y (own_CD t u h h' c (d + y)) := by
  obtain ⟨b1, b2, b3, b4, b5, b6, b7, b8, b9, b10, -⟩ := own_p4 h'
  rcases H with ⟨rfl, rfl, F, rfl⟩ | ⟨hc, rfl, F, G, rfl⟩ | ⟨rfl, hd, F, G, rfl⟩ | ⟨B, hc, hd, n, hB, F, G, G', rfl⟩
  · have R : own_FR f g u t x' x h' h ((-1 : Int32) - own_home h') := Or.inl ⟨F _, rfl⟩
    by_cases hy : y = (0 : Int32)
    · subst hy
      exact Or.inl ⟨rfl, _, R, b4, Or.inl ⟨rfl, rfl, F, rfl⟩⟩
    · refine Or.inr (Or.inl ⟨_, R, b4, hy, h1, by decide, b3, by rw [own_nn]; exact b2, by decide, own_pos h1 (by rw [Int32.zero_add]; exact hy), ?_⟩)
      rw [own_nn]
      refine Or.inr (Or.inr (Or.inl ⟨rfl, own_pos h1 (by rw [Int32.zero_add]; exact hy), own_F1.ins F _ _, ?_, rfl⟩))
      rw [own_upd_eq, Int32.zero_add]
  · by_cases q : own_N (own_home h') = own_N (own_home h)
    · have q' := own_inj q
      have R : own_FR f g u t x' x h' h ((-1 : Int32) - own_nx (own_home h')) := Or.inr (Or.inr (Or.inr (Or.inl ⟨by rw [q']; exact F.at, ⟨_, by rw [q']; exact G, own_hch _ _⟩, Or.inr hx, F.off (by rw [← q]; exact b8), rfl⟩)))
      by_cases hy : y = (0 : Int32)
      · subst hy
        exact Or.inl ⟨rfl, _, R, b5, Or.inr (Or.inl ⟨hc, rfl, F, G, rfl⟩)⟩
      · refine Or.inr (Or.inl ⟨_, R, b5, hy, h1, by decide, by rw [own_nn]; exact b6, by rw [own_nn]; exact b7, by decide, own_pos h1 (by rw [Int32.zero_add]; exact hy), ?_⟩)
        rw [own_nn]
        have n : own_N (own_nx (own_home h')) ≠ own_N (own_home h) := by rw [← q]; exact b8
        refine Or.inr (Or.inr (Or.inr ⟨_, hc, own_pos h1 (by rw [Int32.zero_add]; exact hy), n, Or.inr ⟨q', by rw [q']⟩, F.addb n, (own_upd_ne (Ne.symm n)).trans G, ?_, rfl⟩))
        rw [own_upd_eq, Int32.zero_add]
    · have R : own_FR f g u t x' x h' h ((-1 : Int32) - own_home h') := Or.inl ⟨F.off q, rfl⟩
      by_cases hy : y = (0 : Int32)
      · subst hy
        exact Or.inl ⟨rfl, _, R, b4, Or.inr (Or.inl ⟨hc, rfl, F, G, rfl⟩)⟩
      · refine Or.inr (Or.inl ⟨_, R, b4, hy, h1, by decide, b3, by rw [own_nn]; exact b2, by decide, own_pos h1 (by rw [Int32.zero_add]; exact hy), ?_⟩)
        rw [own_nn]
        refine Or.inr (Or.inr (Or.inr ⟨_, hc, own_pos h1 (by rw [Int32.zero_add]; exact hy), q, Or.inl rfl, F.addb q, (own_upd_ne (Ne.symm q)).trans G, ?_, rfl⟩))
        rw [own_upd_eq, Int32.zero_add]
  · have R : own_FR f g u t x' x h' h (own_home h') := Or.inr (Or.inl ⟨F.at, ⟨_, G, own_hch _ _⟩, rfl⟩)
    have e := own_hcc h' d
    by_cases hz : d + y = (0 : Int32)
    · exact Or.inr (Or.inr (Or.inr ⟨_, _, own_upd f (own_N (own_home h')) .null, g, R, b1, b2, G, by rw [e]; exact h1, by rw [e]; exact hz, by rw [e]; exact own_posn hd, by rw [e]; exact hd, Or.inl ⟨F.off b8, rfl, rfl⟩, Or.inl ⟨rfl, hz, F.del, by decide⟩⟩))
    · refine Or.inr (Or.inr (Or.inl ⟨_, _, R, b1, b2, G, by rw [e]; exact h1, by rw [e]; exact hz, by rw [e]; exact own_posn hd, by rw [e]; exact hd, Or.inr (Or.inr (Or.inl ⟨rfl, own_pos h1 hz, F, ?_, rfl⟩))⟩))
      rw [own_upd_eq, own_hch, e]
  · have R : own_FR f g u t x' x h' h B ∧ ¬ (B < (0 : Int32)) ∧ B < (4 : Int32) := by
      rcases hB with rfl | ⟨q, rfl⟩
      · exact ⟨Or.inr (Or.inl ⟨F.b n, ⟨_, G', own_hch _ _⟩, rfl⟩), b1, b2⟩
      · rw [← q] at F G G' n ⊢
        exact ⟨Or.inr (Or.inr (Or.inr (Or.inr ⟨F.a, ⟨_, G, own_hch _ _⟩, Or.inr hx, F.b n, ⟨_, G', own_hch _ _⟩, rfl⟩))), b6, b7⟩
    obtain ⟨R, b1, b2⟩ := R
    have e := own_hcc h' d
    by_cases hz : d + y = (0 : Int32)
    · exact Or.inr (Or.inr (Or.inr ⟨_, _, _, g, R, b1, b2, G', by rw [e]; exact h1, by rw [e]; exact hz, by rw [e]; exact own_posn hd, by rw [e]; exact hd, own_ru n hB F G, Or.inr (Or.inl ⟨hc, hz, F.delb n, G, by decide⟩)⟩))
    · refine Or.inr (Or.inr (Or.inl ⟨_, _, R, b1, b2, G', by rw [e]; exact h1, by rw [e]; exact hz, by rw [e]; exact own_posn hd, by rw [e]; exact hd, Or.inr (Or.inr (Or.inr ⟨B, hc, own_pos h1 hz, n, hB, F, (own_upd_ne (Ne.symm n)).trans G, ?_, rfl⟩))⟩))
      rw [own_upd_eq, own_hch, e]
theorem own_UP.mono {f g : Nat → Value} {sz : Int32} {t u : Addr} {xt xu : Int64} {ht hu x : Int32} {P Q : (Nat → Value) → (Nat → Value) → Int32 → Prop} (H : own_UP f g sz t u xt xu ht hu x P) (q : ∀ f g sz, P f g sz → Q f g sz) : own_UP f g sz t u xt xu ht hu x Q := by
  rcases H with ⟨a, r, b, c, d⟩ | ⟨r, a, b, c, d, e, i, j, k, l, m⟩ | ⟨r, w, a, b, c, d, e, i, j, k, m⟩ | ⟨r, w, f2, g2, a, b, c, d, e, i, j, k, l, m⟩
  · exact Or.inl ⟨a, r, b, c, q _ _ _ d⟩
  · exact Or.inr (Or.inl ⟨r, a, b, c, d, e, i, j, k, l, q _ _ _ m⟩)
  · exact Or.inr (Or.inr (Or.inl ⟨r, w, a, b, c, d, e, i, j, k, q _ _ _ m⟩))
  · exact Or.inr (Or.inr (Or.inr ⟨r, w, f2, g2, a, b, c, d, e, i, j, k, l, q _ _ _ m⟩))
theorem own_ks {t u : Addr} {x : Int64} {h c sz : Int32} {f g : Nat → Value} (H : own_CS t u h c f g sz) : own_KN f g t u x x h h c ∧ sz = own_gz c := by
  obtain ⟨b1, b2, b3, b4, -⟩ := own_p4 h
  rcases H with ⟨rfl, F, rfl⟩ | ⟨hc, o, ho, F, G, rfl⟩
  · exact ⟨Or.inl ⟨_, Or.inl ⟨F _, rfl⟩, b4, rfl⟩, rfl⟩
  · exact ⟨Or.inr ⟨_, _, own_FRs ho F G, b1, b2, G, by rw [own_hcc]; exact own_posn hc, hc⟩, (if_pos hc).symm⟩
theorem own_kd {t u : Addr} {x x' : Int64} {h h' c d sz : Int32} {f g : Nat → Value} (H : own_CD t u h h' c d f g sz) (hx : x ≠ x') : own_KN f g t u x x' h h' c ∧ own_KN f g u t x' x h' h d ∧ sz = own_gz c + own_gz d := by
  obtain ⟨b1, b2, b3, b4, b5, b6, b7, b8, b9, b10, -⟩ := own_p4 h
  obtain ⟨d1, d2, d3, d4, d5, d6, d7, d8, d9, d10, -⟩ := own_p4 h'
  rcases H with ⟨rfl, rfl, F, rfl⟩ | ⟨hc, rfl, F, G, rfl⟩ | ⟨rfl, hd, F, G, rfl⟩ | ⟨B, hc, hd, n, hB, F, G, G', rfl⟩
  · exact ⟨Or.inl ⟨_, Or.inl ⟨F _, rfl⟩, b4, rfl⟩, Or.inl ⟨_, Or.inl ⟨F _, rfl⟩, d4, rfl⟩, rfl⟩
  · refine ⟨Or.inr ⟨_, _, Or.inr (Or.inl ⟨F.at, ⟨_, G, own_hch _ _⟩, rfl⟩), b1, b2, G, by rw [own_hcc]; exact own_posn hc, hc⟩, ?_, by rw [own_gz, if_pos hc]; rfl⟩
    by_cases q : own_N (own_home h') = own_N (own_home h)
    · have q' := own_inj q
      exact Or.inl ⟨_, Or.inr (Or.inr (Or.inr (Or.inl ⟨by rw [q']; exact F.at, ⟨_, by rw [q']; exact G, own_hch _ _⟩, Or.inr hx, F.off (by rw [← q]; exact d8), rfl⟩))), d5, rfl⟩
    · exact Or.inl ⟨_, Or.inl ⟨F.off q, rfl⟩, d4, rfl⟩
  · refine ⟨?_, Or.inr ⟨_, _, Or.inr (Or.inl ⟨F.at, ⟨_, G, own_hch _ _⟩, rfl⟩), d1, d2, G, by rw [own_hcc]; exact own_posn hd, hd⟩, by rw [own_gz, own_gz, if_pos hd]; rfl⟩
    by_cases q : own_N (own_home h) = own_N (own_home h')
    · have q' := own_inj q
      exact Or.inl ⟨_, Or.inr (Or.inr (Or.inr (Or.inl ⟨by rw [q']; exact F.at, ⟨_, by rw [q']; exact G, own_hch _ _⟩, Or.inr (Ne.symm hx), F.off (by rw [← q]; exact b8), rfl⟩))), b5, rfl⟩
    · exact Or.inl ⟨_, Or.inl ⟨F.off q, rfl⟩, b4, rfl⟩
  · refine ⟨Or.inr ⟨_, _, Or.inr (Or.inl ⟨F.a, ⟨_, G, own_hch _ _⟩, rfl⟩), b1, b2, G, by rw [own_hcc]; exact own_posn hc, hc⟩, ?_, by rw [own_gz, own_gz, if_pos hc, if_pos hd]; rfl⟩
    rcases hB with rfl | ⟨q, rfl⟩
    · exact Or.inr ⟨_, _, Or.inr (Or.inl ⟨F.b n, ⟨_, G', own_hch _ _⟩, rfl⟩), d1, d2, G', by rw [own_hcc]; exact own_posn hd, hd⟩
    · rw [← q] at F G G' n
      exact Or.inr ⟨_, _, Or.inr (Or.inr (Or.inr (Or.inr ⟨F.a, ⟨_, G, own_hch _ _⟩, Or.inr hx, F.b n, ⟨_, G', own_hch _ _⟩, rfl⟩))), d6, d7, G', by rw [own_hcc]; exact own_posn hd, hd⟩
def own_k (k n : Int32) : Int32 := (((k.toUInt32 >>> (n &&& 31).toUInt32).toInt32) &&& (7 : Int32))
def own_p (k : Int32) : Int32 := (k &&& (7 : Int32))
def own_nA (k z : Int32) : Int32 := if z = (1 : Int32) then own_p k + own_k k (3 : Int32) else own_p k
def own_r (k z : Int32) : Int32 := own_k k (6 : Int32) % (own_nA k z + (1 : Int32))
def own_nB (k z : Int32) : Int32 := if z = (1 : Int32) then own_nA k z - own_r k z else own_k k (3 : Int32)
def own_s (k z : Int32) : Int32 := own_k k (9 : Int32) % (own_nB k z + (1 : Int32))
def own_n2 (k z : Int32) : Int32 := own_nB k z - own_s k z
def own_n1 (k z : Int32) : Int32 := if z = (1 : Int32) then own_n2 k z else own_nA k z - own_r k z
def own_ex (k z : Int32) : Int32 := if z = (1 : Int32) then own_gz (own_n1 k z) else own_gz (own_n1 k z) + own_gz (own_n2 k z)
def own_sm (a b : Int64) : Int32 := if a = b then (1 : Int32) else (0 : Int32)
theorem own_and7 (x : Int32) : 0 ≤ (x &&& (7 : Int32)).toInt ∧ (x &&& (7 : Int32)).toInt ≤ 7 := by
  have e : (x &&& (7 : Int32)).toInt = (x.toBitVec &&& 7#32).toInt := rfl
  have l : (x.toBitVec &&& 7#32).toNat ≤ 7 := by
    rw [BitVec.toNat_and]
    exact Nat.and_le_right
  rw [e, BitVec.toInt_eq_toNat_of_lt (by omega)]
  omega
theorem own_ta {a b : Int32} (h1 : -1000 ≤ a.toInt + b.toInt) (h2 : a.toInt + b.toInt ≤ 1000) : (a + b).toInt = a.toInt + b.toInt := by
  rw [Int32.toInt_add]
  exact Int.bmod_eq_of_le (by omega) (by omega)
theorem own_ts {a b : Int32} (h1 : -1000 ≤ a.toInt - b.toInt) (h2 : a.toInt - b.toInt ≤ 1000) : (a - b).toInt = a.toInt - b.toInt := by
  rw [Int32.toInt_sub]
  exact Int.bmod_eq_of_le (by omega) (by omega)
theorem own_mod {x n : Int32} (h1 : 0 ≤ x.toInt) (h2 : 0 ≤ n.toInt) (h3 : n.toInt ≤ 100) : 0 ≤ (x % (n + (1 : Int32))).toInt ∧ (x % (n + (1 : Int32))).toInt ≤ n.toInt ∧ ¬ (n + (1 : Int32) = (0 : Int32)) := by
  have e1 : ((1 : Int32)).toInt = 1 := rfl
  have e : (n + (1 : Int32)).toInt = n.toInt + 1 := own_ta (by omega) (by omega)
  rw [Int32.toInt_mod, e]
  have a := Int.tmod_nonneg (n.toInt + 1) h1
  have b := Int.tmod_lt_of_pos x.toInt (show 0 < n.toInt + 1 by omega)
  refine ⟨a, by omega, fun q => ?_⟩
  have := congrArg Int32.toInt q
  rw [e] at this
  have z : (0 : Int32).toInt = 0 := rfl
  omega
theorem own_nl {x : Int32} (h : 0 ≤ x.toInt) : ¬ (x < (0 : Int32)) := by
  rw [Int32.lt_iff_toInt_lt]
  show ¬ (x.toInt < 0)
  omega
theorem own_bds (k z : Int32) : (0 ≤ (own_p k).toInt ∧ (own_p k).toInt ≤ 7) ∧ (0 ≤ (own_k k 3).toInt ∧ (own_k k 3).toInt ≤ 7) ∧ (0 ≤ (own_nA k z).toInt ∧ (own_nA k z).toInt ≤ 14) ∧ (0 ≤ (own_r k z).toInt ∧ (own_r k z).toInt ≤ (own_nA k z).toInt) ∧ (0 ≤ (own_nB k z).toInt ∧ (own_nB k z).toInt ≤ 14) ∧ (0 ≤ (own_s k z).toInt ∧ (own_s k z).toInt ≤ (own_nB k z).toInt) ∧ ¬ (own_nA k z + (1 : Int32) = (0 : Int32)) ∧ ¬ (own_nB k z + (1 : Int32) = (0 : Int32)) := by
  have p : 0 ≤ (own_p k).toInt ∧ (own_p k).toInt ≤ 7 := own_and7 k
  have q : ∀ n, 0 ≤ (own_k k n).toInt ∧ (own_k k n).toInt ≤ 7 := fun n => own_and7 _
  have q3 := q 3
  have a : 0 ≤ (own_nA k z).toInt ∧ (own_nA k z).toInt ≤ 14 := by
    unfold own_nA
    split
    · rw [own_ta (by omega) (by omega)]
      omega
    · omega
  have r := own_mod (n := own_nA k z) (q 6).1 a.1 (by omega)
  have rr : 0 ≤ (own_r k z).toInt ∧ (own_r k z).toInt ≤ (own_nA k z).toInt := ⟨r.1, r.2.1⟩
  have b : 0 ≤ (own_nB k z).toInt ∧ (own_nB k z).toInt ≤ 14 := by
    unfold own_nB
    split
    · rw [own_ts (by omega) (by omega)]
      omega
    · omega
  have s := own_mod (n := own_nB k z) (q 9).1 b.1 (by omega)
  exact ⟨p, q3, a, rr, b, ⟨s.1, s.2.1⟩, r.2.2, s.2.2⟩
def own_S1 (a b : Int64) (t u : Addr) (k : Int32) (f g : Nat → Value) (sz : Int32) : Prop := (a = b → own_CS t u (own_th a) (own_p k) f g sz) ∧ (a ≠ b → own_CD t u (own_th a) (own_th b) (own_p k) 0 f g sz)
def own_S2 (a b : Int64) (t u : Addr) (k : Int32) (f g : Nat → Value) (sz : Int32) : Prop := (a = b → own_CS t u (own_th a) (own_nA k 1) f g sz) ∧ (a ≠ b → own_CD t u (own_th a) (own_th b) (own_p k) (own_k k 3) f g sz)
def own_S3 (a b : Int64) (t u : Addr) (k : Int32) (f g : Nat → Value) (sz : Int32) : Prop := (a = b → own_CS t u (own_th a) (own_nB k 1) f g sz) ∧ (a ≠ b → own_CD t u (own_th a) (own_th b) (own_n1 k 0) (own_k k 3) f g sz)
def own_S4 (a b : Int64) (t u : Addr) (k : Int32) (f g : Nat → Value) (sz : Int32) : Prop := (a = b → own_CS t u (own_th a) (own_n2 k 1) f g sz) ∧ (a ≠ b → own_CD t u (own_th a) (own_th b) (own_n1 k 0) (own_n2 k 0) f g sz)
theorem own_sm1 (a : Int64) : own_sm a a = 1 := if_pos rfl
theorem own_sm0 {a b : Int64} (h : a ≠ b) : own_sm a b = 0 := if_neg h
theorem own_st1 (a b : Int64) (t u : Addr) (k : Int32) : own_UP (fun _ => .null) (fun _ => .long (0 : Int64)) (0 : Int32) t u a b (own_th a) (own_th b) (own_p k) (own_S1 a b t u k) := by
  have p := (own_bds k 0).1
  by_cases e : a = b
  · subst e
    exact (own_us (c := 0) (Or.inl ⟨rfl, fun _ => rfl, rfl⟩) (by rw [Int32.zero_add]; exact own_nl p.1)).mono fun _ _ _ H => ⟨fun _ => by rw [Int32.zero_add] at H; exact H, fun n => absurd rfl n⟩
  · exact (own_dt (c := 0) (d := 0) (Or.inl ⟨rfl, rfl, fun _ => rfl, rfl⟩) (Ne.symm e) (fun _ => Or.inr rfl) (by rw [Int32.zero_add]; exact own_nl p.1)).mono fun _ _ _ H => ⟨fun n => absurd n e, fun _ => by rw [Int32.zero_add] at H; exact H⟩
theorem own_st2 {a b : Int64} {t u : Addr} {k : Int32} {f g : Nat → Value} {sz : Int32} (H : own_S1 a b t u k f g sz) : own_UP f g sz u t b a (own_th b) (own_th a) (own_k k 3) (own_S2 a b t u k) := by
  have p := (own_bds k 1)
  by_cases e : a = b
  · subst e
    exact (own_us (H.1 rfl).comm (own_nl p.2.2.1.1)).mono fun _ _ _ K => ⟨fun _ => K.comm, fun n => absurd rfl n⟩
  · exact (own_du (H.2 e) e (by rw [Int32.zero_add]; exact own_nl p.2.1.1)).mono fun _ _ _ K => ⟨fun n => absurd n e, fun _ => by rw [Int32.zero_add] at K; exact K⟩
theorem own_st3 {a b : Int64} {t u : Addr} {k : Int32} {f g : Nat → Value} {sz : Int32} (H : own_S2 a b t u k f g sz) : own_UP f g sz t u a b (own_th a) (own_th b) (-own_r k (own_sm a b)) (own_S3 a b t u k) := by
  by_cases e : a = b
  · subst e
    obtain ⟨-, -, p1, p2, p3, p4, -⟩ := own_bds k 1
    rw [own_sm1]
    have z : own_nA k 1 + -own_r k 1 = own_nB k 1 := (Int32.sub_eq_add_neg _ _).symm
    exact (own_us (H.1 rfl) (by rw [z]; exact own_nl p3.1)).mono fun _ _ _ K => ⟨fun _ => by rw [z] at K; exact K, fun n => absurd rfl n⟩
  · obtain ⟨p0, -, p1, p2, p3, p4, -⟩ := own_bds k 0
    rw [own_sm0 e]
    have z : own_p k + -own_r k 0 = own_n1 k 0 := (Int32.sub_eq_add_neg _ _).symm
    have y : (own_n1 k 0).toInt = (own_p k).toInt - (own_r k 0).toInt := own_ts (by omega) (by have := p2.1; omega)
    have p2' : 0 ≤ (own_r k 0).toInt ∧ (own_r k 0).toInt ≤ (own_p k).toInt := p2
    refine (own_dt (H.2 e) (Ne.symm e) (fun q => Or.inl ?_) (by rw [z]; exact own_nl (by omega))).mono fun _ _ _ K => ⟨fun n => absurd n e, fun _ => by rw [z] at K; exact K⟩
    have q' : (own_p k).toInt = 0 := by rw [q]; rfl
    have : own_r k 0 = 0 := Int32.toInt_inj.mp (by show (own_r k 0).toInt = 0; omega)
    rw [this]
    rfl
theorem own_st4 {a b : Int64} {t u : Addr} {k : Int32} {f g : Nat → Value} {sz : Int32} (H : own_S3 a b t u k f g sz) : own_UP f g sz u t b a (own_th b) (own_th a) (-own_s k (own_sm a b)) (own_S4 a b t u k) := by
  by_cases e : a = b
  · subst e
    obtain ⟨-, -, p1, p2, p3, p4, -⟩ := own_bds k 1
    rw [own_sm1]
    have z : own_nB k 1 + -own_s k 1 = own_n2 k 1 := (Int32.sub_eq_add_neg _ _).symm
    have y : (own_n2 k 1).toInt = (own_nB k 1).toInt - (own_s k 1).toInt := own_ts (by omega) (by omega)
    exact (own_us (H.1 rfl).comm (by rw [z]; exact own_nl (by omega))).mono fun _ _ _ K => ⟨fun _ => by rw [z] at K; exact K.comm, fun n => absurd rfl n⟩
  · obtain ⟨p0, -, p1, p2, p3, p4, -⟩ := own_bds k 0
    rw [own_sm0 e]
    have z : own_k k 3 + -own_s k 0 = own_n2 k 0 := (Int32.sub_eq_add_neg _ _).symm
    have y : (own_n2 k 0).toInt = (own_nB k 0).toInt - (own_s k 0).toInt := own_ts (by omega) (by omega)
    exact (own_du (H.2 e) e (by rw [z]; exact own_nl (by omega))).mono fun _ _ _ K => ⟨fun n => absurd n e, fun _ => by rw [z] at K; exact K⟩
theorem own_st5 {a b : Int64} {t u : Addr} {k : Int32} {f g : Nat → Value} {sz : Int32} (H : own_S4 a b t u k f g sz) : sz = own_ex k (own_sm a b) ∧ own_KN f g t u a b (own_th a) (own_th b) (own_n1 k (own_sm a b)) ∧ own_KN f g u t b a (own_th b) (own_th a) (own_n2 k (own_sm a b)) := by
  by_cases e : a = b
  · subst e
    rw [own_sm1]
    have K := own_ks (x := a) (H.1 rfl)
    exact ⟨K.2, K.1, (own_ks (H.1 rfl).comm).1⟩
  · rw [own_sm0 e]
    have K := own_kd (H.2 e) e
    exact ⟨K.2.2, K.1, K.2.1⟩
def own_c1 (k : Int32) : Int32 := own_p k + own_k k (3 : Int32)
def own_r1 (k : Int32) : Int32 := own_k k (6 : Int32) % (own_c1 k + (1 : Int32))
def own_c2 (k : Int32) : Int32 := own_c1 k - own_r1 k
def own_s1 (k : Int32) : Int32 := own_k k (9 : Int32) % (own_c2 k + (1 : Int32))
def own_c3 (k : Int32) : Int32 := own_c2 k - own_s1 k
def own_r0 (k : Int32) : Int32 := own_k k (6 : Int32) % (own_p k + (1 : Int32))
def own_d1 (k : Int32) : Int32 := own_p k - own_r0 k
def own_s0 (k : Int32) : Int32 := own_k k (9 : Int32) % (own_k k (3 : Int32) + (1 : Int32))
def own_d2 (k : Int32) : Int32 := own_k k (3 : Int32) - own_s0 k
theorem own_q1 (k : Int32) : own_n1 k 1 = own_c3 k ∧ own_n2 k 1 = own_c3 k ∧ own_r k 1 = own_r1 k ∧ own_s k 1 = own_s1 k ∧ own_ex k 1 = own_gz (own_c3 k) ∧ own_c1 k + (1 : Int32) ≠ (0 : Int32) ∧ own_c2 k + (1 : Int32) ≠ (0 : Int32) := by
  obtain ⟨-, -, -, -, -, -, a, b⟩ := own_bds k 1
  have e1 : own_nA k 1 = own_c1 k := if_pos rfl
  have e2 : own_r k 1 = own_r1 k := by rw [own_r, e1, own_r1]
  have e3 : own_nB k 1 = own_c2 k := (if_pos rfl).trans (by rw [e1, e2, own_c2])
  have e4 : own_s k 1 = own_s1 k := by rw [own_s, e3, own_s1]
  have e5 : own_n2 k 1 = own_c3 k := by rw [own_n2, e3, e4, own_c3]
  have e6 : own_n1 k 1 = own_c3 k := (if_pos rfl).trans e5
  rw [e1] at a
  rw [e3] at b
  exact ⟨e6, e5, e2, e4, (if_pos rfl).trans (by rw [e6]), a, b⟩
theorem own_q0 (k : Int32) : own_n1 k 0 = own_d1 k ∧ own_n2 k 0 = own_d2 k ∧ own_r k 0 = own_r0 k ∧ own_s k 0 = own_s0 k ∧ own_ex k 0 = own_gz (own_d1 k) + own_gz (own_d2 k) ∧ own_p k + (1 : Int32) ≠ (0 : Int32) ∧ own_k k (3 : Int32) + (1 : Int32) ≠ (0 : Int32) := by
  obtain ⟨-, -, -, -, -, -, a, b⟩ := own_bds k 0
  have z : ¬ ((0 : Int32) = 1) := by decide
  have e1 : own_nA k 0 = own_p k := if_neg z
  have e2 : own_r k 0 = own_r0 k := by rw [own_r, e1, own_r0]
  have e3 : own_nB k 0 = own_k k (3 : Int32) := if_neg z
  have e4 : own_s k 0 = own_s0 k := by rw [own_s, e3, own_s0]
  have e5 : own_n2 k 0 = own_d2 k := by rw [own_n2, e3, e4, own_d2]
  have e6 : own_n1 k 0 = own_d1 k := (if_neg z).trans (by rw [e1, e2, own_d1])
  rw [e1] at a
  rw [e3] at b
  exact ⟨e6, e5, e2, e4, (if_neg z).trans (by rw [e6, e5]), a, b⟩
theorem own_smz (a b : Int64) : own_sm a b = 1 ∨ own_sm a b = 0 := by
  unfold own_sm
  split
  · exact Or.inl rfl
  · exact Or.inr rfl
def own_b (a b : Int64) (k : Int32) : Int64 := if (k &&& (1 : Int32)) = (0 : Int32) then b else a
theorem sgBa (l : Launch) (Z : State) (az : Array Value) (hw : HW Z az) {p : Program} {e : Env} {s : State} {m : MethodId} {args : Array Value} {below : List Frame} {meth : Method} {c : Code} (hx : p.tables.exec = Jvm.exec) (hby : c.code = code) (hml : c.maxLocals = 20) (hown : s.vm.findClass cLW = some m.cls) (hZ : Z.Warmed39 s.vm) {kc ks : Nat} (q0 q1 : Int64) (x4 : Slot) (p3 : Int32) (h0 : Heap) (n0 : Nat) (Z0 : n0 ≤ h0.size) (hc0 : (p3 &&& (1 : Int32)) = (0 : Int32)) :
    own_Seg p l e room_1 s m args below meth c n0 kc ks kc ks h0 (mkF m 0 #[.val (.long q0), .second, .val (.long q1), .second, x4, vI p3, .unset, .unset, .unset, .unset, .unset, .unset, .unset, .unset, .unset, .unset, .unset, .unset, .unset, .unset] []) (fun h g => g = (mkF m 14 #[.val (.long q0), .second, .val (.long q1), .second, x4, vI p3, .val (.long q1), .second, .unset, .unset, .unset, .unset, .unset, .unset, .unset, .unset, .unset, .unset, .unset, .unset] []) ∧ h = h0) := by
  intro s₁ hT
  obtain ⟨Lz0, X0, e0, N0⟩ := hT
  refine ⟨_, _, _, ⟨rfl, rfl⟩, ⟨_, X0, e0, N0⟩, fun t hr => ?_⟩
  show SP p e below s₁ (mkF m 0 #[.val (.long q0), .second, .val (.long q1), .second, x4, vI p3, .unset, .unset, .unset, .unset, .unset, .unset, .unset, .unset, .unset, .unset, .unset, .unset, .unset, .unset] []) _
  refine XS.iload X0.here hx rfl (hb hby at_0) rfl ?_
  refine XS.iconst X0.here hx rfl (hb hby at_2) ?_
  refine XS.iand X0.here hx rfl (hb hby at_3) rfl ?_
  refine XS.ifYes X0.here hx rfl (pc0 := 4) (pc' := 11) rfl (hb hby at_4) rfl ((if0 _ _).trans (teq hc0).1) (by decide) (by decide) ?_
  refine XS.lloadN X0.here hx rfl (hb hby at_11) rfl ?_
  refine XS.lstore X0.here hx rfl (hb hby at_12) rfl (l' := #[.val (.long q0), .second, .val (.long q1), .second, x4, vI p3, .val (.long q1), .second, .unset, .unset, .unset, .unset, .unset, .unset, .unset, .unset, .unset, .unset, .unset, .unset]) rfl ?_
  exact hr
theorem sgBb (l : Launch) (Z : State) (az : Array Value) (hw : HW Z az) {p : Program} {e : Env} {s : State} {m : MethodId} {args : Array Value} {below : List Frame} {meth : Method} {c : Code} (hx : p.tables.exec = Jvm.exec) (hby : c.code = code) (hml : c.maxLocals = 20) (hown : s.vm.findClass cLW = some m.cls) (hZ : Z.Warmed39 s.vm) {kc ks : Nat} (q0 q1 : Int64) (x4 : Slot) (p3 : Int32) (h0 : Heap) (n0 : Nat) (Z0 : n0 ≤ h0.size) (hc0 : ¬ ((p3 &&& (1 : Int32)) = (0 : Int32))) :
    own_Seg p l e room_1 s m args below meth c n0 kc ks kc ks h0 (mkF m 0 #[.val (.long q0), .second, .val (.long q1), .second, x4, vI p3, .unset, .unset, .unset, .unset, .unset, .unset, .unset, .unset, .unset, .unset, .unset, .unset, .unset, .unset] []) (fun h g => g = (mkF m 14 #[.val (.long q0), .second, .val (.long q1), .second, x4, vI p3, .val (.long q0), .second, .unset, .unset, .unset, .unset, .unset, .unset, .unset, .unset, .unset, .unset, .unset, .unset] []) ∧ h = h0) := by
  intro s₁ hT
  obtain ⟨Lz0, X0, e0, N0⟩ := hT
  refine ⟨_, _, _, ⟨rfl, rfl⟩, ⟨_, X0, e0, N0⟩, fun t hr => ?_⟩
  show SP p e below s₁ (mkF m 0 #[.val (.long q0), .second, .val (.long q1), .second, x4, vI p3, .unset, .unset, .unset, .unset, .unset, .unset, .unset, .unset, .unset, .unset, .unset, .unset, .unset, .unset] []) _
  refine XS.iload X0.here hx rfl (hb hby at_0) rfl ?_
  refine XS.iconst X0.here hx rfl (hb hby at_2) ?_
  refine XS.iand X0.here hx rfl (hb hby at_3) rfl ?_
  refine XS.ifNo X0.here hx rfl (hb hby at_4) rfl ((if0 _ _).trans (feq hc0).1) ?_
  refine XS.lloadN X0.here hx rfl (hb hby at_7) rfl ?_
  refine XS.goto X0.here hx rfl (pc0 := 8) (pc' := 12) rfl (hb hby at_8) (by decide) (by decide) ?_
  refine XS.lstore X0.here hx rfl (hb hby at_12) rfl (l' := #[.val (.long q0), .second, .val (.long q1), .second, x4, vI p3, .val (.long q0), .second, .unset, .unset, .unset, .unset, .unset, .unset, .unset, .unset, .unset, .unset, .unset, .unset]) rfl ?_
  exact hr
theorem sgB (l : Launch) (Z : State) (az : Array Value) (hw : HW Z az) {p : Program} {e : Env} {s : State} {m : MethodId} {args : Array Value} {below : List Frame} {meth : Method} {c : Code} (hx : p.tables.exec = Jvm.exec) (hby : c.code = code) (hml : c.maxLocals = 20) (hown : s.vm.findClass cLW = some m.cls) (hZ : Z.Warmed39 s.vm) {kc ks : Nat} (q0 q1 : Int64) (x4 : Slot) (p3 : Int32) (h0 : Heap) (n0 : Nat) (Z0 : n0 ≤ h0.size) :
    own_Seg p l e room_1 s m args below meth c n0 kc ks kc ks h0 (mkF m 0 #[.val (.long q0), .second, .val (.long q1), .second, x4, vI p3, .unset, .unset, .unset, .unset, .unset, .unset, .unset, .unset, .unset, .unset, .unset, .unset, .unset, .unset] []) (fun h g => ∃ bb : Int64, g = (mkF m 14 #[.val (.long q0), .second, .val (.long q1), .second, x4, vI p3, .val (.long bb), .second, .unset, .unset, .unset, .unset, .unset, .unset, .unset, .unset, .unset, .unset, .unset, .unset] []) ∧ h = h0 ∧ bb = own_b q0 q1 p3) := by
  by_cases hq : (p3 &&& (1 : Int32)) = (0 : Int32)
  · exact own_Seg.mono (sgBa l Z az hw hx hby hml hown hZ q0 q1 x4 p3 h0 n0 Z0 hq) fun _ _ q => ⟨_, q.1, q.2, (show own_b q0 q1 p3 = q1 from if_pos hq).symm⟩
  · exact own_Seg.mono (sgBb l Z az hw hx hby hml hown hZ q0 q1 x4 p3 h0 n0 Z0 hq) fun _ _ q => ⟨_, q.1, q.2, (show own_b q0 q1 p3 = q0 from if_neg hq).symm⟩
theorem sgEa (l : Launch) (Z : State) (az : Array Value) (hw : HW Z az) {p : Program} {e : Env} {s : State} {m : MethodId} {args : Array Value} {below : List Frame} {meth : Method} {c : Code} (hx : p.tables.exec = Jvm.exec) (hby : c.code = code) (hml : c.maxLocals = 20) (hown : s.vm.findClass cLW = some m.cls) (hZ : Z.Warmed39 s.vm) {kc ks : Nat} (q0 : Int64) (x2 x3 x4 x5 : Slot) (q6 : Int64) (h0 : Heap) (n0 : Nat) (Z0 : n0 ≤ h0.size) (hc0 : (lcmpW q0 q6) = (0 : Int32)) :
    own_Seg p l e room_1 s m args below meth c n0 kc ks kc ks h0 (mkF m 14 #[.val (.long q0), .second, x2, x3, x4, x5, .val (.long q6), .second, .unset, .unset, .unset, .unset, .unset, .unset, .unset, .unset, .unset, .unset, .unset, .unset] []) (fun h g => g = (mkF m 28 #[.val (.long q0), .second, x2, x3, x4, x5, .val (.long q6), .second, vI (1 : Int32), .unset, .unset, .unset, .unset, .unset, .unset, .unset, .unset, .unset, .unset, .unset] []) ∧ h = h0) := by
  intro s₁ hT
  obtain ⟨Lz0, X0, e0, N0⟩ := hT
  refine ⟨_, _, _, ⟨rfl, rfl⟩, ⟨_, X0, e0, N0⟩, fun t hr => ?_⟩
  show SP p e below s₁ (mkF m 14 #[.val (.long q0), .second, x2, x3, x4, x5, .val (.long q6), .second, .unset, .unset, .unset, .unset, .unset, .unset, .unset, .unset, .unset, .unset, .unset, .unset] []) _
  refine XS.lloadN X0.here hx rfl (hb hby at_14) rfl ?_
  refine XS.lload X0.here hx rfl (hb hby at_15) rfl ?_
  refine XS.lcmp X0.here hx rfl (hb hby at_17) rfl ?_
  refine XS.ifNo X0.here hx rfl (hb hby at_18) rfl ((if0 _ _).trans (teq hc0).2) ?_
  refine XS.iconst X0.here hx rfl (hb hby at_21) ?_
  refine XS.goto X0.here hx rfl (pc0 := 22) (pc' := 26) rfl (hb hby at_22) (by decide) (by decide) ?_
  refine XS.istore X0.here hx rfl (hb hby at_26) rfl (l' := #[.val (.long q0), .second, x2, x3, x4, x5, .val (.long q6), .second, vI (1 : Int32), .unset, .unset, .unset, .unset, .unset, .unset, .unset, .unset, .unset, .unset, .unset]) rfl ?_
  exact hr
theorem sgEb (l : Launch) (Z : State) (az : Array Value) (hw : HW Z az) {p : Program} {e : Env} {s : State} {m : MethodId} {args : Array Value} {below : List Frame} {meth : Method} {c : Code} (hx : p.tables.exec = Jvm.exec) (hby : c.code = code) (hml : c.maxLocals = 20) (hown : s.vm.findClass cLW = some m.cls) (hZ : Z.Warmed39 s.vm) {kc ks : Nat} (q0 : Int64) (x2 x3 x4 x5 : Slot) (q6 : Int64) (h0 : Heap) (n0 : Nat) (Z0 : n0 ≤ h0.size) (hc0 : ¬ ((lcmpW q0 q6) = (0 : Int32))) :
    own_Seg p l e room_1 s m args below meth c n0 kc ks kc ks h0 (mkF m 14 #[.val (.long q0), .second, x2, x3, x4, x5, .val (.long q6), .second, .unset, .unset, .unset, .unset, .unset, .unset, .unset, .unset, .unset, .unset, .unset, .unset] []) (fun h g => g = (mkF m 28 #[.val (.long q0), .second, x2, x3, x4, x5, .val (.long q6), .second, vI (0 : Int32), .unset, .unset, .unset, .unset, .unset, .unset, .unset, .unset, .unset, .unset, .unset] []) ∧ h = h0) := by
  intro s₁ hT
  obtain ⟨Lz0, X0, e0, N0⟩ := hT
  refine ⟨_, _, _, ⟨rfl, rfl⟩, ⟨_, X0, e0, N0⟩, fun t hr => ?_⟩
  show SP p e below s₁ (mkF m 14 #[.val (.long q0), .second, x2, x3, x4, x5, .val (.long q6), .second, .unset, .unset, .unset, .unset, .unset, .unset, .unset, .unset, .unset, .unset, .unset, .unset] []) _
  refine XS.lloadN X0.here hx rfl (hb hby at_14) rfl ?_
  refine XS.lload X0.here hx rfl (hb hby at_15) rfl ?_
  refine XS.lcmp X0.here hx rfl (hb hby at_17) rfl ?_
  refine XS.ifYes X0.here hx rfl (pc0 := 18) (pc' := 25) rfl (hb hby at_18) rfl ((if0 _ _).trans (feq hc0).2) (by decide) (by decide) ?_
  refine XS.iconst X0.here hx rfl (hb hby at_25) ?_
  refine XS.istore X0.here hx rfl (hb hby at_26) rfl (l' := #[.val (.long q0), .second, x2, x3, x4, x5, .val (.long q6), .second, vI (0 : Int32), .unset, .unset, .unset, .unset, .unset, .unset, .unset, .unset, .unset, .unset, .unset]) rfl ?_
  exact hr
theorem sgE (l : Launch) (Z : State) (az : Array Value) (hw : HW Z az) {p : Program} {e : Env} {s : State} {m : MethodId} {args : Array Value} {below : List Frame} {meth : Method} {c : Code} (hx : p.tables.exec = Jvm.exec) (hby : c.code = code) (hml : c.maxLocals = 20) (hown : s.vm.findClass cLW = some m.cls) (hZ : Z.Warmed39 s.vm) {kc ks : Nat} (q0 : Int64) (x2 x3 x4 x5 : Slot) (q6 : Int64) (h0 : Heap) (n0 : Nat) (Z0 : n0 ≤ h0.size) :
    own_Seg p l e room_1 s m args below meth c n0 kc ks kc ks h0 (mkF m 14 #[.val (.long q0), .second, x2, x3, x4, x5, .val (.long q6), .second, .unset, .unset, .unset, .unset, .unset, .unset, .unset, .unset, .unset, .unset, .unset, .unset] []) (fun h g => ∃ zz : Int32, g = (mkF m 28 #[.val (.long q0), .second, x2, x3, x4, x5, .val (.long q6), .second, vI zz, .unset, .unset, .unset, .unset, .unset, .unset, .unset, .unset, .unset, .unset, .unset] []) ∧ h = h0 ∧ zz = own_sm q0 q6) := by
  by_cases hq : (lcmpW q0 q6) = (0 : Int32)
  · exact own_Seg.mono (sgEa l Z az hw hx hby hml hown hZ q0 x2 x3 x4 x5 q6 h0 n0 Z0 hq) fun _ _ q => ⟨_, q.1, q.2, (show own_sm q0 q6 = 1 from if_pos ((lw_eq _ _).mp hq)).symm⟩
  · exact own_Seg.mono (sgEb l Z az hw hx hby hml hown hZ q0 x2 x3 x4 x5 q6 h0 n0 Z0 hq) fun _ _ q => ⟨_, q.1, q.2, (show own_sm q0 q6 = 0 from if_neg fun z => hq ((lw_eq _ _).mpr z)).symm⟩
theorem sgG1a (l : Launch) (Z : State) (az : Array Value) (hw : HW Z az) {p : Program} {e : Env} {s : State} {m : MethodId} {args : Array Value} {below : List Frame} {meth : Method} {c : Code} (hx : p.tables.exec = Jvm.exec) (hby : c.code = code) (hml : c.maxLocals = 20) (hown : s.vm.findClass cLW = some m.cls) (hZ : Z.Warmed39 s.vm) {kc ks : Nat} (x0 x1 x2 x3 x4 x5 x6 x7 x8 x9 x10 x11 x12 : Slot) (cv : Int32) (x14 x15 x16 : Slot) (h0 : Heap) (n0 : Nat) (Z0 : n0 ≤ h0.size) (hc0 : (0 : Int32) < cv) :
    own_Seg p l e room_1 s m args below meth c n0 kc ks kc ks h0 (mkF m 178 #[x0, x1, x2, x3, x4, x5, x6, x7, x8, x9, x10, x11, x12, vI cv, x14, x15, x16, .unset, .unset, .unset] []) (fun h g => g = (mkF m 188 #[x0, x1, x2, x3, x4, x5, x6, x7, x8, x9, x10, x11, x12, vI cv, x14, x15, x16, .unset, .unset, .unset] [(.int (1 : Int32))]) ∧ h = h0) := by
  intro s₁ hT
  obtain ⟨Lz0, X0, e0, N0⟩ := hT
  refine ⟨_, _, _, ⟨rfl, rfl⟩, ⟨_, X0, e0, N0⟩, fun t hr => ?_⟩
  show SP p e below s₁ (mkF m 178 #[x0, x1, x2, x3, x4, x5, x6, x7, x8, x9, x10, x11, x12, vI cv, x14, x15, x16, .unset, .unset, .unset] []) _
  refine XS.iload X0.here hx rfl (hb hby at_178) rfl ?_
  refine XS.ifNo X0.here hx rfl (hb hby at_180) rfl ((if0 _ _).trans (tlt hc0).2.2.2) ?_
  refine XS.iconst X0.here hx rfl (hb hby at_183) ?_
  refine XS.goto X0.here hx rfl (pc0 := 184) (pc' := 188) rfl (hb hby at_184) (by decide) (by decide) ?_
  exact hr
theorem sgG1b (l : Launch) (Z : State) (az : Array Value) (hw : HW Z az) {p : Program} {e : Env} {s : State} {m : MethodId} {args : Array Value} {below : List Frame} {meth : Method} {c : Code} (hx : p.tables.exec = Jvm.exec) (hby : c.code = code) (hml : c.maxLocals = 20) (hown : s.vm.findClass cLW = some m.cls) (hZ : Z.Warmed39 s.vm) {kc ks : Nat} (x0 x1 x2 x3 x4 x5 x6 x7 x8 x9 x10 x11 x12 : Slot) (cv : Int32) (x14 x15 x16 : Slot) (h0 : Heap) (n0 : Nat) (Z0 : n0 ≤ h0.size) (hc0 : ¬ ((0 : Int32) < cv)) :
    own_Seg p l e room_1 s m args below meth c n0 kc ks kc ks h0 (mkF m 178 #[x0, x1, x2, x3, x4, x5, x6, x7, x8, x9, x10, x11, x12, vI cv, x14, x15, x16, .unset, .unset, .unset] []) (fun h g => g = (mkF m 188 #[x0, x1, x2, x3, x4, x5, x6, x7, x8, x9, x10, x11, x12, vI cv, x14, x15, x16, .unset, .unset, .unset] [(.int (0 : Int32))]) ∧ h = h0) := by
  intro s₁ hT
  obtain ⟨Lz0, X0, e0, N0⟩ := hT
  refine ⟨_, _, _, ⟨rfl, rfl⟩, ⟨_, X0, e0, N0⟩, fun t hr => ?_⟩
  show SP p e below s₁ (mkF m 178 #[x0, x1, x2, x3, x4, x5, x6, x7, x8, x9, x10, x11, x12, vI cv, x14, x15, x16, .unset, .unset, .unset] []) _
  refine XS.iload X0.here hx rfl (hb hby at_178) rfl ?_
  refine XS.ifYes X0.here hx rfl (pc0 := 180) (pc' := 187) rfl (hb hby at_180) rfl ((if0 _ _).trans (flt hc0).2.2.2) (by decide) (by decide) ?_
  refine XS.iconst X0.here hx rfl (hb hby at_187) ?_
  exact hr
theorem sgG1 (l : Launch) (Z : State) (az : Array Value) (hw : HW Z az) {p : Program} {e : Env} {s : State} {m : MethodId} {args : Array Value} {below : List Frame} {meth : Method} {c : Code} (hx : p.tables.exec = Jvm.exec) (hby : c.code = code) (hml : c.maxLocals = 20) (hown : s.vm.findClass cLW = some m.cls) (hZ : Z.Warmed39 s.vm) {kc ks : Nat} (x0 x1 x2 x3 x4 x5 x6 x7 x8 x9 x10 x11 x12 : Slot) (cv : Int32) (x14 x15 x16 : Slot) (h0 : Heap) (n0 : Nat) (Z0 : n0 ≤ h0.size) :
    own_Seg p l e room_1 s m args below meth c n0 kc ks kc ks h0 (mkF m 178 #[x0, x1, x2, x3, x4, x5, x6, x7, x8, x9, x10, x11, x12, vI cv, x14, x15, x16, .unset, .unset, .unset] []) (fun h g => g = (mkF m 188 #[x0, x1, x2, x3, x4, x5, x6, x7, x8, x9, x10, x11, x12, vI cv, x14, x15, x16, .unset, .unset, .unset] [(.int (own_gz cv))]) ∧ h = h0) := by
  by_cases hq : (0 : Int32) < cv
  · rw [show own_gz cv = 1 from if_pos hq]
    exact sgG1a l Z az hw hx hby hml hown hZ x0 x1 x2 x3 x4 x5 x6 x7 x8 x9 x10 x11 x12 cv x14 x15 x16 h0 n0 Z0 hq
  · rw [show own_gz cv = 0 from if_neg hq]
    exact sgG1b l Z az hw hx hby hml hown hZ x0 x1 x2 x3 x4 x5 x6 x7 x8 x9 x10 x11 x12 cv x14 x15 x16 h0 n0 Z0 hq
theorem sgG2a (l : Launch) (Z : State) (az : Array Value) (hw : HW Z az) {p : Program} {e : Env} {s : State} {m : MethodId} {args : Array Value} {below : List Frame} {meth : Method} {c : Code} (hx : p.tables.exec = Jvm.exec) (hby : c.code = code) (hml : c.maxLocals = 20) (hown : s.vm.findClass cLW = some m.cls) (hZ : Z.Warmed39 s.vm) {kc ks : Nat} (x0 x1 x2 x3 x4 x5 x6 x7 x8 x9 x10 x11 x12 : Slot) (cv : Int32) (x14 x15 x16 : Slot) (h0 : Heap) (n0 : Nat) (Z0 : n0 ≤ h0.size) (hc0 : (0 : Int32) < cv) :
    own_Seg p l e room_1 s m args below meth c n0 kc ks kc ks h0 (mkF m 193 #[x0, x1, x2, x3, x4, x5, x6, x7, x8, x9, x10, x11, x12, vI cv, x14, x15, x16, .unset, .unset, .unset] []) (fun h g => g = (mkF m 203 #[x0, x1, x2, x3, x4, x5, x6, x7, x8, x9, x10, x11, x12, vI cv, x14, x15, x16, .unset, .unset, .unset] [(.int (1 : Int32))]) ∧ h = h0) := by
  intro s₁ hT
  obtain ⟨Lz0, X0, e0, N0⟩ := hT
  refine ⟨_, _, _, ⟨rfl, rfl⟩, ⟨_, X0, e0, N0⟩, fun t hr => ?_⟩
  show SP p e below s₁ (mkF m 193 #[x0, x1, x2, x3, x4, x5, x6, x7, x8, x9, x10, x11, x12, vI cv, x14, x15, x16, .unset, .unset, .unset] []) _
  refine XS.iload X0.here hx rfl (hb hby at_193) rfl ?_
  refine XS.ifNo X0.here hx rfl (hb hby at_195) rfl ((if0 _ _).trans (tlt hc0).2.2.2) ?_
  refine XS.iconst X0.here hx rfl (hb hby at_198) ?_
  refine XS.goto X0.here hx rfl (pc0 := 199) (pc' := 203) rfl (hb hby at_199) (by decide) (by decide) ?_
  exact hr
theorem sgG2b (l : Launch) (Z : State) (az : Array Value) (hw : HW Z az) {p : Program} {e : Env} {s : State} {m : MethodId} {args : Array Value} {below : List Frame} {meth : Method} {c : Code} (hx : p.tables.exec = Jvm.exec) (hby : c.code = code) (hml : c.maxLocals = 20) (hown : s.vm.findClass cLW = some m.cls) (hZ : Z.Warmed39 s.vm) {kc ks : Nat} (x0 x1 x2 x3 x4 x5 x6 x7 x8 x9 x10 x11 x12 : Slot) (cv : Int32) (x14 x15 x16 : Slot) (h0 : Heap) (n0 : Nat) (Z0 : n0 ≤ h0.size) (hc0 : ¬ ((0 : Int32) < cv)) :
    own_Seg p l e room_1 s m args below meth c n0 kc ks kc ks h0 (mkF m 193 #[x0, x1, x2, x3, x4, x5, x6, x7, x8, x9, x10, x11, x12, vI cv, x14, x15, x16, .unset, .unset, .unset] []) (fun h g => g = (mkF m 203 #[x0, x1, x2, x3, x4, x5, x6, x7, x8, x9, x10, x11, x12, vI cv, x14, x15, x16, .unset, .unset, .unset] [(.int (0 : Int32))]) ∧ h = h0) := by
  intro s₁ hT
  obtain ⟨Lz0, X0, e0, N0⟩ := hT
  refine ⟨_, _, _, ⟨rfl, rfl⟩, ⟨_, X0, e0, N0⟩, fun t hr => ?_⟩
  show SP p e below s₁ (mkF m 193 #[x0, x1, x2, x3, x4, x5, x6, x7, x8, x9, x10, x11, x12, vI cv, x14, x15, x16, .unset, .unset, .unset] []) _
  refine XS.iload X0.here hx rfl (hb hby at_193) rfl ?_
  refine XS.ifYes X0.here hx rfl (pc0 := 195) (pc' := 202) rfl (hb hby at_195) rfl ((if0 _ _).trans (flt hc0).2.2.2) (by decide) (by decide) ?_
  refine XS.iconst X0.here hx rfl (hb hby at_202) ?_
  exact hr
theorem sgG2 (l : Launch) (Z : State) (az : Array Value) (hw : HW Z az) {p : Program} {e : Env} {s : State} {m : MethodId} {args : Array Value} {below : List Frame} {meth : Method} {c : Code} (hx : p.tables.exec = Jvm.exec) (hby : c.code = code) (hml : c.maxLocals = 20) (hown : s.vm.findClass cLW = some m.cls) (hZ : Z.Warmed39 s.vm) {kc ks : Nat} (x0 x1 x2 x3 x4 x5 x6 x7 x8 x9 x10 x11 x12 : Slot) (cv : Int32) (x14 x15 x16 : Slot) (h0 : Heap) (n0 : Nat) (Z0 : n0 ≤ h0.size) :
    own_Seg p l e room_1 s m args below meth c n0 kc ks kc ks h0 (mkF m 193 #[x0, x1, x2, x3, x4, x5, x6, x7, x8, x9, x10, x11, x12, vI cv, x14, x15, x16, .unset, .unset, .unset] []) (fun h g => g = (mkF m 203 #[x0, x1, x2, x3, x4, x5, x6, x7, x8, x9, x10, x11, x12, vI cv, x14, x15, x16, .unset, .unset, .unset] [(.int (own_gz cv))]) ∧ h = h0) := by
  by_cases hq : (0 : Int32) < cv
  · rw [show own_gz cv = 1 from if_pos hq]
    exact sgG2a l Z az hw hx hby hml hown hZ x0 x1 x2 x3 x4 x5 x6 x7 x8 x9 x10 x11 x12 cv x14 x15 x16 h0 n0 Z0 hq
  · rw [show own_gz cv = 0 from if_neg hq]
    exact sgG2b l Z az hw hx hby hml hown hZ x0 x1 x2 x3 x4 x5 x6 x7 x8 x9 x10 x11 x12 cv x14 x15 x16 h0 n0 Z0 hq
theorem sgG3a (l : Launch) (Z : State) (az : Array Value) (hw : HW Z az) {p : Program} {e : Env} {s : State} {m : MethodId} {args : Array Value} {below : List Frame} {meth : Method} {c : Code} (hx : p.tables.exec = Jvm.exec) (hby : c.code = code) (hml : c.maxLocals = 20) (hown : s.vm.findClass cLW = some m.cls) (hZ : Z.Warmed39 s.vm) {kc ks : Nat} (x0 x1 x2 x3 x4 x5 x6 x7 x8 x9 x10 x11 x12 x13 : Slot) (cv : Int32) (x15 x16 : Slot) (vv : Int32) (h0 : Heap) (n0 : Nat) (Z0 : n0 ≤ h0.size) (hc0 : (0 : Int32) < cv) :
    own_Seg p l e room_1 s m args below meth c n0 kc ks kc ks h0 (mkF m 203 #[x0, x1, x2, x3, x4, x5, x6, x7, x8, x9, x10, x11, x12, x13, vI cv, x15, x16, .unset, .unset, .unset] [(.int vv)]) (fun h g => g = (mkF m 213 #[x0, x1, x2, x3, x4, x5, x6, x7, x8, x9, x10, x11, x12, x13, vI cv, x15, x16, .unset, .unset, .unset] [(.int (1 : Int32)), (.int vv)]) ∧ h = h0) := by
  intro s₁ hT
  obtain ⟨Lz0, X0, e0, N0⟩ := hT
  refine ⟨_, _, _, ⟨rfl, rfl⟩, ⟨_, X0, e0, N0⟩, fun t hr => ?_⟩
  show SP p e below s₁ (mkF m 203 #[x0, x1, x2, x3, x4, x5, x6, x7, x8, x9, x10, x11, x12, x13, vI cv, x15, x16, .unset, .unset, .unset] [(.int vv)]) _
  refine XS.iload X0.here hx rfl (hb hby at_203) rfl ?_
  refine XS.ifNo X0.here hx rfl (hb hby at_205) rfl ((if0 _ _).trans (tlt hc0).2.2.2) ?_
  refine XS.iconst X0.here hx rfl (hb hby at_208) ?_
  refine XS.goto X0.here hx rfl (pc0 := 209) (pc' := 213) rfl (hb hby at_209) (by decide) (by decide) ?_
  exact hr
theorem sgG3b (l : Launch) (Z : State) (az : Array Value) (hw : HW Z az) {p : Program} {e : Env} {s : State} {m : MethodId} {args : Array Value} {below : List Frame} {meth : Method} {c : Code} (hx : p.tables.exec = Jvm.exec) (hby : c.code = code) (hml : c.maxLocals = 20) (hown : s.vm.findClass cLW = some m.cls) (hZ : Z.Warmed39 s.vm) {kc ks : Nat} (x0 x1 x2 x3 x4 x5 x6 x7 x8 x9 x10 x11 x12 x13 : Slot) (cv : Int32) (x15 x16 : Slot) (vv : Int32) (h0 : Heap) (n0 : Nat) (Z0 : n0 ≤ h0.size) (hc0 : ¬ ((0 : Int32) < cv)) :
    own_Seg p l e room_1 s m args below meth c n0 kc ks kc ks h0 (mkF m 203 #[x0, x1, x2, x3, x4, x5, x6, x7, x8, x9, x10, x11, x12, x13, vI cv, x15, x16, .unset, .unset, .unset] [(.int vv)]) (fun h g => g = (mkF m 213 #[x0, x1, x2, x3, x4, x5, x6, x7, x8, x9, x10, x11, x12, x13, vI cv, x15, x16, .unset, .unset, .unset] [(.int (0 : Int32)), (.int vv)]) ∧ h = h0) := by
  intro s₁ hT
  obtain ⟨Lz0, X0, e0, N0⟩ := hT
  refine ⟨_, _, _, ⟨rfl, rfl⟩, ⟨_, X0, e0, N0⟩, fun t hr => ?_⟩
  show SP p e below s₁ (mkF m 203 #[x0, x1, x2, x3, x4, x5, x6, x7, x8, x9, x10, x11, x12, x13, vI cv, x15, x16, .unset, .unset, .unset] [(.int vv)]) _
  refine XS.iload X0.here hx rfl (hb hby at_203) rfl ?_
  refine XS.ifYes X0.here hx rfl (pc0 := 205) (pc' := 212) rfl (hb hby at_205) rfl ((if0 _ _).trans (flt hc0).2.2.2) (by decide) (by decide) ?_
  refine XS.iconst X0.here hx rfl (hb hby at_212) ?_
  exact hr
theorem sgG3 (l : Launch) (Z : State) (az : Array Value) (hw : HW Z az) {p : Program} {e : Env} {s : State} {m : MethodId} {args : Array Value} {below : List Frame} {meth : Method} {c : Code} (hx : p.tables.exec = Jvm.exec) (hby : c.code = code) (hml : c.maxLocals = 20) (hown : s.vm.findClass cLW = some m.cls) (hZ : Z.Warmed39 s.vm) {kc ks : Nat} (x0 x1 x2 x3 x4 x5 x6 x7 x8 x9 x10 x11 x12 x13 : Slot) (cv : Int32) (x15 x16 : Slot) (vv : Int32) (h0 : Heap) (n0 : Nat) (Z0 : n0 ≤ h0.size) :
    own_Seg p l e room_1 s m args below meth c n0 kc ks kc ks h0 (mkF m 203 #[x0, x1, x2, x3, x4, x5, x6, x7, x8, x9, x10, x11, x12, x13, vI cv, x15, x16, .unset, .unset, .unset] [(.int vv)]) (fun h g => g = (mkF m 213 #[x0, x1, x2, x3, x4, x5, x6, x7, x8, x9, x10, x11, x12, x13, vI cv, x15, x16, .unset, .unset, .unset] [(.int (own_gz cv)), (.int vv)]) ∧ h = h0) := by
  by_cases hq : (0 : Int32) < cv
  · rw [show own_gz cv = 1 from if_pos hq]
    exact sgG3a l Z az hw hx hby hml hown hZ x0 x1 x2 x3 x4 x5 x6 x7 x8 x9 x10 x11 x12 x13 cv x15 x16 vv h0 n0 Z0 hq
  · rw [show own_gz cv = 0 from if_neg hq]
    exact sgG3b l Z az hw hx hby hml hown hZ x0 x1 x2 x3 x4 x5 x6 x7 x8 x9 x10 x11 x12 x13 cv x15 x16 vv h0 n0 Z0 hq
theorem sgG4a (l : Launch) (Z : State) (az : Array Value) (hw : HW Z az) {p : Program} {e : Env} {s : State} {m : MethodId} {args : Array Value} {below : List Frame} {meth : Method} {c : Code} (hx : p.tables.exec = Jvm.exec) (hby : c.code = code) (hml : c.maxLocals = 20) (hown : s.vm.findClass cLW = some m.cls) (hZ : Z.Warmed39 s.vm) {kc ks : Nat} (x0 x1 x2 x3 x4 x5 x6 x7 x8 x9 x10 x11 x12 : Slot) (cv : Int32) (x14 x15 x16 x17 x18 x19 : Slot) (vv : Int32) (h0 : Heap) (n0 : Nat) (Z0 : n0 ≤ h0.size) (hc0 : (0 : Int32) < cv) :
    own_Seg p l e room_1 s m args below meth c n0 kc ks kc ks h0 (mkF m 291 #[x0, x1, x2, x3, x4, x5, x6, x7, x8, x9, x10, x11, x12, vI cv, x14, x15, x16, x17, x18, x19] [(.int vv)]) (fun h g => g = (mkF m 301 #[x0, x1, x2, x3, x4, x5, x6, x7, x8, x9, x10, x11, x12, vI cv, x14, x15, x16, x17, x18, x19] [(.int (1 : Int32)), (.int vv)]) ∧ h = h0) := by
  intro s₁ hT
  obtain ⟨Lz0, X0, e0, N0⟩ := hT
  refine ⟨_, _, _, ⟨rfl, rfl⟩, ⟨_, X0, e0, N0⟩, fun t hr => ?_⟩
  show SP p e below s₁ (mkF m 291 #[x0, x1, x2, x3, x4, x5, x6, x7, x8, x9, x10, x11, x12, vI cv, x14, x15, x16, x17, x18, x19] [(.int vv)]) _
  refine XS.iload X0.here hx rfl (hb hby at_291) rfl ?_
  refine XS.ifNo X0.here hx rfl (hb hby at_293) rfl ((if0 _ _).trans (tlt hc0).2.2.2) ?_
  refine XS.iconst X0.here hx rfl (hb hby at_296) ?_
  refine XS.goto X0.here hx rfl (pc0 := 297) (pc' := 301) rfl (hb hby at_297) (by decide) (by decide) ?_
  exact hr
theorem sgG4b (l : Launch) (Z : State) (az : Array Value) (hw : HW Z az) {p : Program} {e : Env} {s : State} {m : MethodId} {args : Array Value} {below : List Frame} {meth : Method} {c : Code} (hx : p.tables.exec = Jvm.exec) (hby : c.code = code) (hml : c.maxLocals = 20) (hown : s.vm.findClass cLW = some m.cls) (hZ : Z.Warmed39 s.vm) {kc ks : Nat} (x0 x1 x2 x3 x4 x5 x6 x7 x8 x9 x10 x11 x12 : Slot) (cv : Int32) (x14 x15 x16 x17 x18 x19 : Slot) (vv : Int32) (h0 : Heap) (n0 : Nat) (Z0 : n0 ≤ h0.size) (hc0 : ¬ ((0 : Int32) < cv)) :
    own_Seg p l e room_1 s m args below meth c n0 kc ks kc ks h0 (mkF m 291 #[x0, x1, x2, x3, x4, x5, x6, x7, x8, x9, x10, x11, x12, vI cv, x14, x15, x16, x17, x18, x19] [(.int vv)]) (fun h g => g = (mkF m 301 #[x0, x1, x2, x3, x4, x5, x6, x7, x8, x9, x10, x11, x12, vI cv, x14, x15, x16, x17, x18, x19] [(.int (0 : Int32)), (.int vv)]) ∧ h = h0) := by
  intro s₁ hT
  obtain ⟨Lz0, X0, e0, N0⟩ := hT
  refine ⟨_, _, _, ⟨rfl, rfl⟩, ⟨_, X0, e0, N0⟩, fun t hr => ?_⟩
  show SP p e below s₁ (mkF m 291 #[x0, x1, x2, x3, x4, x5, x6, x7, x8, x9, x10, x11, x12, vI cv, x14, x15, x16, x17, x18, x19] [(.int vv)]) _
  refine XS.iload X0.here hx rfl (hb hby at_291) rfl ?_
  refine XS.ifYes X0.here hx rfl (pc0 := 293) (pc' := 300) rfl (hb hby at_293) rfl ((if0 _ _).trans (flt hc0).2.2.2) (by decide) (by decide) ?_
  refine XS.iconst X0.here hx rfl (hb hby at_300) ?_
  exact hr
theorem sgG4 (l : Launch) (Z : State) (az : Array Value) (hw : HW Z az) {p : Program} {e : Env} {s : State} {m : MethodId} {args : Array Value} {below : List Frame} {meth : Method} {c : Code} (hx : p.tables.exec = Jvm.exec) (hby : c.code = code) (hml : c.maxLocals = 20) (hown : s.vm.findClass cLW = some m.cls) (hZ : Z.Warmed39 s.vm) {kc ks : Nat} (x0 x1 x2 x3 x4 x5 x6 x7 x8 x9 x10 x11 x12 : Slot) (cv : Int32) (x14 x15 x16 x17 x18 x19 : Slot) (vv : Int32) (h0 : Heap) (n0 : Nat) (Z0 : n0 ≤ h0.size) :
    own_Seg p l e room_1 s m args below meth c n0 kc ks kc ks h0 (mkF m 291 #[x0, x1, x2, x3, x4, x5, x6, x7, x8, x9, x10, x11, x12, vI cv, x14, x15, x16, x17, x18, x19] [(.int vv)]) (fun h g => g = (mkF m 301 #[x0, x1, x2, x3, x4, x5, x6, x7, x8, x9, x10, x11, x12, vI cv, x14, x15, x16, x17, x18, x19] [(.int (own_gz cv)), (.int vv)]) ∧ h = h0) := by
  by_cases hq : (0 : Int32) < cv
  · rw [show own_gz cv = 1 from if_pos hq]
    exact sgG4a l Z az hw hx hby hml hown hZ x0 x1 x2 x3 x4 x5 x6 x7 x8 x9 x10 x11 x12 cv x14 x15 x16 x17 x18 x19 vv h0 n0 Z0 hq
  · rw [show own_gz cv = 0 from if_neg hq]
    exact sgG4b l Z az hw hx hby hml hown hZ x0 x1 x2 x3 x4 x5 x6 x7 x8 x9 x10 x11 x12 cv x14 x15 x16 x17 x18 x19 vv h0 n0 Z0 hq
theorem sgG5a (l : Launch) (Z : State) (az : Array Value) (hw : HW Z az) {p : Program} {e : Env} {s : State} {m : MethodId} {args : Array Value} {below : List Frame} {meth : Method} {c : Code} (hx : p.tables.exec = Jvm.exec) (hby : c.code = code) (hml : c.maxLocals = 20) (hown : s.vm.findClass cLW = some m.cls) (hZ : Z.Warmed39 s.vm) {kc ks : Nat} (x0 x1 x2 x3 x4 x5 x6 x7 x8 x9 x10 x11 x12 x13 : Slot) (cv : Int32) (x15 x16 x17 x18 x19 : Slot) (vv : Int32) (h0 : Heap) (n0 : Nat) (Z0 : n0 ≤ h0.size) (hc0 : (0 : Int32) < cv) :
    own_Seg p l e room_1 s m args below meth c n0 kc ks kc ks h0 (mkF m 313 #[x0, x1, x2, x3, x4, x5, x6, x7, x8, x9, x10, x11, x12, x13, vI cv, x15, x16, x17, x18, x19] [(.int vv)]) (fun h g => g = (mkF m 323 #[x0, x1, x2, x3, x4, x5, x6, x7, x8, x9, x10, x11, x12, x13, vI cv, x15, x16, x17, x18, x19] [(.int (1 : Int32)), (.int vv)]) ∧ h = h0) := by
  intro s₁ hT
  obtain ⟨Lz0, X0, e0, N0⟩ := hT
  refine ⟨_, _, _, ⟨rfl, rfl⟩, ⟨_, X0, e0, N0⟩, fun t hr => ?_⟩
  show SP p e below s₁ (mkF m 313 #[x0, x1, x2, x3, x4, x5, x6, x7, x8, x9, x10, x11, x12, x13, vI cv, x15, x16, x17, x18, x19] [(.int vv)]) _
  refine XS.iload X0.here hx rfl (hb hby at_313) rfl ?_
  refine XS.ifNo X0.here hx rfl (hb hby at_315) rfl ((if0 _ _).trans (tlt hc0).2.2.2) ?_
  refine XS.iconst X0.here hx rfl (hb hby at_318) ?_
  refine XS.goto X0.here hx rfl (pc0 := 319) (pc' := 323) rfl (hb hby at_319) (by decide) (by decide) ?_
  exact hr
theorem sgG5b (l : Launch) (Z : State) (az : Array Value) (hw : HW Z az) {p : Program} {e : Env} {s : State} {m : MethodId} {args : Array Value} {below : List Frame} {meth : Method} {c : Code} (hx : p.tables.exec = Jvm.exec) (hby : c.code = code) (hml : c.maxLocals = 20) (hown : s.vm.findClass cLW = some m.cls) (hZ : Z.Warmed39 s.vm) {kc ks : Nat} (x0 x1 x2 x3 x4 x5 x6 x7 x8 x9 x10 x11 x12 x13 : Slot) (cv : Int32) (x15 x16 x17 x18 x19 : Slot) (vv : Int32) (h0 : Heap) (n0 : Nat) (Z0 : n0 ≤ h0.size) (hc0 : ¬ ((0 : Int32) < cv)) :
    own_Seg p l e room_1 s m args below meth c n0 kc ks kc ks h0 (mkF m 313 #[x0, x1, x2, x3, x4, x5, x6, x7, x8, x9, x10, x11, x12, x13, vI cv, x15, x16, x17, x18, x19] [(.int vv)]) (fun h g => g = (mkF m 323 #[x0, x1, x2, x3, x4, x5, x6, x7, x8, x9, x10, x11, x12, x13, vI cv, x15, x16, x17, x18, x19] [(.int (0 : Int32)), (.int vv)]) ∧ h = h0) := by
  intro s₁ hT
  obtain ⟨Lz0, X0, e0, N0⟩ := hT
  refine ⟨_, _, _, ⟨rfl, rfl⟩, ⟨_, X0, e0, N0⟩, fun t hr => ?_⟩
  show SP p e below s₁ (mkF m 313 #[x0, x1, x2, x3, x4, x5, x6, x7, x8, x9, x10, x11, x12, x13, vI cv, x15, x16, x17, x18, x19] [(.int vv)]) _
  refine XS.iload X0.here hx rfl (hb hby at_313) rfl ?_
  refine XS.ifYes X0.here hx rfl (pc0 := 315) (pc' := 322) rfl (hb hby at_315) rfl ((if0 _ _).trans (flt hc0).2.2.2) (by decide) (by decide) ?_
  refine XS.iconst X0.here hx rfl (hb hby at_322) ?_
  exact hr
theorem sgG5 (l : Launch) (Z : State) (az : Array Value) (hw : HW Z az) {p : Program} {e : Env} {s : State} {m : MethodId} {args : Array Value} {below : List Frame} {meth : Method} {c : Code} (hx : p.tables.exec = Jvm.exec) (hby : c.code = code) (hml : c.maxLocals = 20) (hown : s.vm.findClass cLW = some m.cls) (hZ : Z.Warmed39 s.vm) {kc ks : Nat} (x0 x1 x2 x3 x4 x5 x6 x7 x8 x9 x10 x11 x12 x13 : Slot) (cv : Int32) (x15 x16 x17 x18 x19 : Slot) (vv : Int32) (h0 : Heap) (n0 : Nat) (Z0 : n0 ≤ h0.size) :
    own_Seg p l e room_1 s m args below meth c n0 kc ks kc ks h0 (mkF m 313 #[x0, x1, x2, x3, x4, x5, x6, x7, x8, x9, x10, x11, x12, x13, vI cv, x15, x16, x17, x18, x19] [(.int vv)]) (fun h g => g = (mkF m 323 #[x0, x1, x2, x3, x4, x5, x6, x7, x8, x9, x10, x11, x12, x13, vI cv, x15, x16, x17, x18, x19] [(.int (own_gz cv)), (.int vv)]) ∧ h = h0) := by
  by_cases hq : (0 : Int32) < cv
  · rw [show own_gz cv = 1 from if_pos hq]
    exact sgG5a l Z az hw hx hby hml hown hZ x0 x1 x2 x3 x4 x5 x6 x7 x8 x9 x10 x11 x12 x13 cv x15 x16 x17 x18 x19 vv h0 n0 Z0 hq
  · rw [show own_gz cv = 0 from if_neg hq]
    exact sgG5b l Z az hw hx hby hml hown hZ x0 x1 x2 x3 x4 x5 x6 x7 x8 x9 x10 x11 x12 x13 cv x15 x16 x17 x18 x19 vv h0 n0 Z0 hq
theorem sgI1 (l : Launch) (Z : State) (az : Array Value) (hw : HW Z az) {p : Program} {e : Env} {s : State} {m : MethodId} {args : Array Value} {below : List Frame} {meth : Method} {c : Code} (hx : p.tables.exec = Jvm.exec) (hby : c.code = code) (hml : c.maxLocals = 20) (hown : s.vm.findClass cLW = some m.cls) (hZ : Z.Warmed39 s.vm) {kc ks : Nat} (x0 x1 x2 x3 : Slot) (p2 : Int32) (x5 x6 x7 x9 x10 : Slot) (h0 : Heap) (n0 : Nat) (Z0 : n0 ≤ h0.size) (hc0 : ((own_c1 p2) + (1 : Int32)) ≠ (0 : Int32)) (hc1 : ((own_c2 p2) + (1 : Int32)) ≠ (0 : Int32)) :
    own_Seg p l e room_1 s m args below meth c n0 kc ks kc ks h0 (mkF m 61 #[x0, x1, x2, x3, vI p2, x5, x6, x7, vI (1 : Int32), x9, x10, .unset, .unset, .unset, .unset, .unset, .unset, .unset, .unset, .unset] []) (fun h g => g = (mkF m 216 #[x0, x1, x2, x3, vI p2, x5, x6, x7, vI (1 : Int32), x9, x10, vI (own_p p2), vI (own_k p2 (3 : Int32)), vI (own_c3 p2), vI (own_c3 p2), vI (own_r1 p2), vI (own_s1 p2), vI (own_gz (own_c3 p2)), .unset, .unset] []) ∧ h = h0) := by
  intro s₁ hT
  obtain ⟨Lz0, X0, e0, N0⟩ := hT
  obtain ⟨T1, hs1, g1, ⟨rfl, es1⟩, ⟨Lg1, X1, e1, N1⟩, st1⟩ := sgG1 l Z az hw hx hby hml hown hZ (x0) (x1) (x2) (x3) (vI p2) (x5) (x6) (x7) (vI (1 : Int32)) (x9) (x10) (vI (own_p p2)) (vI (own_k p2 (3 : Int32))) (own_c3 p2) (vI (own_c3 p2)) (vI (own_r1 p2)) (vI (own_s1 p2)) h0 n0 Z0 s₁ ⟨_, X0, e0, N0⟩
  rw [es1] at e1
  refine ⟨_, _, _, ⟨rfl, rfl⟩, ⟨_, X1, e1, N1⟩, fun t hr => ?_⟩
  show SP p e below s₁ (mkF m 61 #[x0, x1, x2, x3, vI p2, x5, x6, x7, vI (1 : Int32), x9, x10, .unset, .unset, .unset, .unset, .unset, .unset, .unset, .unset, .unset] []) _
  refine XS.iload X0.here hx rfl (hb hby at_61) rfl ?_
  refine XS.bipush X0.here hx rfl (hb hby at_63) ?_
  refine XS.iand X0.here hx rfl (hb hby at_65) rfl ?_
  show SP p e below s₁ (mkF m 66 #[x0, x1, x2, x3, vI p2, x5, x6, x7, vI (1 : Int32), x9, x10, .unset, .unset, .unset, .unset, .unset, .unset, .unset, .unset, .unset] [(.int (own_p p2))]) _
  refine XS.istore X0.here hx rfl (hb hby at_66) rfl (l' := #[x0, x1, x2, x3, vI p2, x5, x6, x7, vI (1 : Int32), x9, x10, vI (own_p p2), .unset, .unset, .unset, .unset, .unset, .unset, .unset, .unset]) rfl ?_
  refine XS.iload X0.here hx rfl (hb hby at_68) rfl ?_
  refine XS.iconst X0.here hx rfl (hb hby at_70) ?_
  refine XS.iushr X0.here hx rfl (hb hby at_71) rfl ?_
  refine XS.bipush X0.here hx rfl (hb hby at_72) ?_
  refine XS.iand X0.here hx rfl (hb hby at_74) rfl ?_
  show SP p e below s₁ (mkF m 75 #[x0, x1, x2, x3, vI p2, x5, x6, x7, vI (1 : Int32), x9, x10, vI (own_p p2), .unset, .unset, .unset, .unset, .unset, .unset, .unset, .unset] [(.int (own_k p2 (3 : Int32)))]) _
  refine XS.istore X0.here hx rfl (hb hby at_75) rfl (l' := #[x0, x1, x2, x3, vI p2, x5, x6, x7, vI (1 : Int32), x9, x10, vI (own_p p2), vI (own_k p2 (3 : Int32)), .unset, .unset, .unset, .unset, .unset, .unset, .unset]) rfl ?_
  refine XS.iload X0.here hx rfl (hb hby at_77) rfl ?_
  refine XS.ifNo X0.here hx rfl (hb hby at_79) rfl ((if0 _ _).trans (feq (by decide : ¬ ((1 : Int32) = (0 : Int32)))).1) ?_
  refine XS.iload X0.here hx rfl (hb hby at_82) rfl ?_
  refine XS.iload X0.here hx rfl (hb hby at_84) rfl ?_
  refine XS.iadd X0.here hx rfl (hb hby at_86) rfl ?_
  refine XS.goto X0.here hx rfl (pc0 := 87) (pc' := 92) rfl (hb hby at_87) (by decide) (by decide) ?_
  show SP p e below s₁ (mkF m 92 #[x0, x1, x2, x3, vI p2, x5, x6, x7, vI (1 : Int32), x9, x10, vI (own_p p2), vI (own_k p2 (3 : Int32)), .unset, .unset, .unset, .unset, .unset, .unset, .unset] [(.int (own_c1 p2))]) _
  refine XS.istore X0.here hx rfl (hb hby at_92) rfl (l' := #[x0, x1, x2, x3, vI p2, x5, x6, x7, vI (1 : Int32), x9, x10, vI (own_p p2), vI (own_k p2 (3 : Int32)), vI (own_c1 p2), .unset, .unset, .unset, .unset, .unset, .unset]) rfl ?_
  refine XS.iload X0.here hx rfl (hb hby at_94) rfl ?_
  refine XS.ifNo X0.here hx rfl (hb hby at_96) rfl ((if0 _ _).trans (feq (by decide : ¬ ((1 : Int32) = (0 : Int32)))).1) ?_
  refine XS.iload X0.here hx rfl (hb hby at_99) rfl ?_
  refine XS.iload X0.here hx rfl (hb hby at_101) rfl ?_
  refine XS.iadd X0.here hx rfl (hb hby at_103) rfl ?_
  refine XS.goto X0.here hx rfl (pc0 := 104) (pc' := 109) rfl (hb hby at_104) (by decide) (by decide) ?_
  show SP p e below s₁ (mkF m 109 #[x0, x1, x2, x3, vI p2, x5, x6, x7, vI (1 : Int32), x9, x10, vI (own_p p2), vI (own_k p2 (3 : Int32)), vI (own_c1 p2), .unset, .unset, .unset, .unset, .unset, .unset] [(.int (own_c1 p2))]) _
  refine XS.istore X0.here hx rfl (hb hby at_109) rfl (l' := #[x0, x1, x2, x3, vI p2, x5, x6, x7, vI (1 : Int32), x9, x10, vI (own_p p2), vI (own_k p2 (3 : Int32)), vI (own_c1 p2), vI (own_c1 p2), .unset, .unset, .unset, .unset, .unset]) rfl ?_
  refine XS.iload X0.here hx rfl (hb hby at_111) rfl ?_
  refine XS.bipush X0.here hx rfl (hb hby at_113) ?_
  refine XS.iushr X0.here hx rfl (hb hby at_115) rfl ?_
  refine XS.bipush X0.here hx rfl (hb hby at_116) ?_
  refine XS.iand X0.here hx rfl (hb hby at_118) rfl ?_
  show SP p e below s₁ (mkF m 119 #[x0, x1, x2, x3, vI p2, x5, x6, x7, vI (1 : Int32), x9, x10, vI (own_p p2), vI (own_k p2 (3 : Int32)), vI (own_c1 p2), vI (own_c1 p2), .unset, .unset, .unset, .unset, .unset] [(.int (own_k p2 (6 : Int32)))]) _
  refine XS.iload X0.here hx rfl (hb hby at_119) rfl ?_
  refine XS.iconst X0.here hx rfl (hb hby at_121) ?_
  refine XS.iadd X0.here hx rfl (hb hby at_122) rfl ?_
  show SP p e below s₁ (mkF m 123 #[x0, x1, x2, x3, vI p2, x5, x6, x7, vI (1 : Int32), x9, x10, vI (own_p p2), vI (own_k p2 (3 : Int32)), vI (own_c1 p2), vI (own_c1 p2), .unset, .unset, .unset, .unset, .unset] [(.int ((own_c1 p2) + (1 : Int32))), (.int (own_k p2 (6 : Int32)))]) _
  refine iremM X0 hx rfl (hb hby at_123) rfl hc0 ?_
  show SP p e below s₁ (mkF m 124 #[x0, x1, x2, x3, vI p2, x5, x6, x7, vI (1 : Int32), x9, x10, vI (own_p p2), vI (own_k p2 (3 : Int32)), vI (own_c1 p2), vI (own_c1 p2), .unset, .unset, .unset, .unset, .unset] [(.int (own_r1 p2))]) _
  refine XS.istore X0.here hx rfl (hb hby at_124) rfl (l' := #[x0, x1, x2, x3, vI p2, x5, x6, x7, vI (1 : Int32), x9, x10, vI (own_p p2), vI (own_k p2 (3 : Int32)), vI (own_c1 p2), vI (own_c1 p2), vI (own_r1 p2), .unset, .unset, .unset, .unset]) rfl ?_
  refine XS.iload X0.here hx rfl (hb hby at_126) rfl ?_
  refine XS.iload X0.here hx rfl (hb hby at_128) rfl ?_
  refine XS.isub X0.here hx rfl (hb hby at_130) rfl ?_
  show SP p e below s₁ (mkF m 131 #[x0, x1, x2, x3, vI p2, x5, x6, x7, vI (1 : Int32), x9, x10, vI (own_p p2), vI (own_k p2 (3 : Int32)), vI (own_c1 p2), vI (own_c1 p2), vI (own_r1 p2), .unset, .unset, .unset, .unset] [(.int (own_c2 p2))]) _
  refine XS.istore X0.here hx rfl (hb hby at_131) rfl (l' := #[x0, x1, x2, x3, vI p2, x5, x6, x7, vI (1 : Int32), x9, x10, vI (own_p p2), vI (own_k p2 (3 : Int32)), vI (own_c2 p2), vI (own_c1 p2), vI (own_r1 p2), .unset, .unset, .unset, .unset]) rfl ?_
  refine XS.iload X0.here hx rfl (hb hby at_133) rfl ?_
  refine XS.ifNo X0.here hx rfl (hb hby at_135) rfl ((if0 _ _).trans (feq (by decide : ¬ ((1 : Int32) = (0 : Int32)))).1) ?_
  refine XS.iload X0.here hx rfl (hb hby at_138) rfl ?_
  refine XS.istore X0.here hx rfl (hb hby at_140) rfl (l' := #[x0, x1, x2, x3, vI p2, x5, x6, x7, vI (1 : Int32), x9, x10, vI (own_p p2), vI (own_k p2 (3 : Int32)), vI (own_c2 p2), vI (own_c2 p2), vI (own_r1 p2), .unset, .unset, .unset, .unset]) rfl ?_
  refine XS.iload X0.here hx rfl (hb hby at_142) rfl ?_
  refine XS.bipush X0.here hx rfl (hb hby at_144) ?_
  refine XS.iushr X0.here hx rfl (hb hby at_146) rfl ?_
  refine XS.bipush X0.here hx rfl (hb hby at_147) ?_
  refine XS.iand X0.here hx rfl (hb hby at_149) rfl ?_
  show SP p e below s₁ (mkF m 150 #[x0, x1, x2, x3, vI p2, x5, x6, x7, vI (1 : Int32), x9, x10, vI (own_p p2), vI (own_k p2 (3 : Int32)), vI (own_c2 p2), vI (own_c2 p2), vI (own_r1 p2), .unset, .unset, .unset, .unset] [(.int (own_k p2 (9 : Int32)))]) _
  refine XS.iload X0.here hx rfl (hb hby at_150) rfl ?_
  refine XS.iconst X0.here hx rfl (hb hby at_152) ?_
  refine XS.iadd X0.here hx rfl (hb hby at_153) rfl ?_
  show SP p e below s₁ (mkF m 154 #[x0, x1, x2, x3, vI p2, x5, x6, x7, vI (1 : Int32), x9, x10, vI (own_p p2), vI (own_k p2 (3 : Int32)), vI (own_c2 p2), vI (own_c2 p2), vI (own_r1 p2), .unset, .unset, .unset, .unset] [(.int ((own_c2 p2) + (1 : Int32))), (.int (own_k p2 (9 : Int32)))]) _
  refine iremM X0 hx rfl (hb hby at_154) rfl hc1 ?_
  show SP p e below s₁ (mkF m 155 #[x0, x1, x2, x3, vI p2, x5, x6, x7, vI (1 : Int32), x9, x10, vI (own_p p2), vI (own_k p2 (3 : Int32)), vI (own_c2 p2), vI (own_c2 p2), vI (own_r1 p2), .unset, .unset, .unset, .unset] [(.int (own_s1 p2))]) _
  refine XS.istore X0.here hx rfl (hb hby at_155) rfl (l' := #[x0, x1, x2, x3, vI p2, x5, x6, x7, vI (1 : Int32), x9, x10, vI (own_p p2), vI (own_k p2 (3 : Int32)), vI (own_c2 p2), vI (own_c2 p2), vI (own_r1 p2), vI (own_s1 p2), .unset, .unset, .unset]) rfl ?_
  refine XS.iload X0.here hx rfl (hb hby at_157) rfl ?_
  refine XS.iload X0.here hx rfl (hb hby at_159) rfl ?_
  refine XS.isub X0.here hx rfl (hb hby at_161) rfl ?_
  show SP p e below s₁ (mkF m 162 #[x0, x1, x2, x3, vI p2, x5, x6, x7, vI (1 : Int32), x9, x10, vI (own_p p2), vI (own_k p2 (3 : Int32)), vI (own_c2 p2), vI (own_c2 p2), vI (own_r1 p2), vI (own_s1 p2), .unset, .unset, .unset] [(.int (own_c3 p2))]) _
  refine XS.istore X0.here hx rfl (hb hby at_162) rfl (l' := #[x0, x1, x2, x3, vI p2, x5, x6, x7, vI (1 : Int32), x9, x10, vI (own_p p2), vI (own_k p2 (3 : Int32)), vI (own_c2 p2), vI (own_c3 p2), vI (own_r1 p2), vI (own_s1 p2), .unset, .unset, .unset]) rfl ?_
  refine XS.iload X0.here hx rfl (hb hby at_164) rfl ?_
  refine XS.ifNo X0.here hx rfl (hb hby at_166) rfl ((if0 _ _).trans (feq (by decide : ¬ ((1 : Int32) = (0 : Int32)))).1) ?_
  refine XS.iload X0.here hx rfl (hb hby at_169) rfl ?_
  refine XS.istore X0.here hx rfl (hb hby at_171) rfl (l' := #[x0, x1, x2, x3, vI p2, x5, x6, x7, vI (1 : Int32), x9, x10, vI (own_p p2), vI (own_k p2 (3 : Int32)), vI (own_c3 p2), vI (own_c3 p2), vI (own_r1 p2), vI (own_s1 p2), .unset, .unset, .unset]) rfl ?_
  refine XS.iload X0.here hx rfl (hb hby at_173) rfl ?_
  refine XS.ifNo X0.here hx rfl (hb hby at_175) rfl ((if0 _ _).trans (feq (by decide : ¬ ((1 : Int32) = (0 : Int32)))).1) ?_
  show SP p e below s₁ (mkF m 178 #[x0, x1, x2, x3, vI p2, x5, x6, x7, vI (1 : Int32), x9, x10, vI (own_p p2), vI (own_k p2 (3 : Int32)), vI (own_c3 p2), vI (own_c3 p2), vI (own_r1 p2), vI (own_s1 p2), .unset, .unset, .unset] []) _
  refine st1 _ ?_
  show SP p e below T1 (mkF m 188 #[x0, x1, x2, x3, vI p2, x5, x6, x7, vI (1 : Int32), x9, x10, vI (own_p p2), vI (own_k p2 (3 : Int32)), vI (own_c3 p2), vI (own_c3 p2), vI (own_r1 p2), vI (own_s1 p2), .unset, .unset, .unset] [(.int (own_gz (own_c3 p2)))]) _
  refine XS.istore X1.here hx rfl (hb hby at_188) rfl (l' := #[x0, x1, x2, x3, vI p2, x5, x6, x7, vI (1 : Int32), x9, x10, vI (own_p p2), vI (own_k p2 (3 : Int32)), vI (own_c3 p2), vI (own_c3 p2), vI (own_r1 p2), vI (own_s1 p2), vI (own_gz (own_c3 p2)), .unset, .unset]) rfl ?_
  refine XS.goto X1.here hx rfl (pc0 := 190) (pc' := 216) rfl (hb hby at_190) (by decide) (by decide) ?_
  exact hr
theorem sgI0 (l : Launch) (Z : State) (az : Array Value) (hw : HW Z az) {p : Program} {e : Env} {s : State} {m : MethodId} {args : Array Value} {below : List Frame} {meth : Method} {c : Code} (hx : p.tables.exec = Jvm.exec) (hby : c.code = code) (hml : c.maxLocals = 20) (hown : s.vm.findClass cLW = some m.cls) (hZ : Z.Warmed39 s.vm) {kc ks : Nat} (x0 x1 x2 x3 : Slot) (p2 : Int32) (x5 x6 x7 x9 x10 : Slot) (h0 : Heap) (n0 : Nat) (Z0 : n0 ≤ h0.size) (hc0 : ((own_p p2) + (1 : Int32)) ≠ (0 : Int32)) (hc1 : ((own_k p2 (3 : Int32)) + (1 : Int32)) ≠ (0 : Int32)) :
    own_Seg p l e room_1 s m args below meth c n0 kc ks kc ks h0 (mkF m 61 #[x0, x1, x2, x3, vI p2, x5, x6, x7, vI (0 : Int32), x9, x10, .unset, .unset, .unset, .unset, .unset, .unset, .unset, .unset, .unset] []) (fun h g => g = (mkF m 216 #[x0, x1, x2, x3, vI p2, x5, x6, x7, vI (0 : Int32), x9, x10, vI (own_p p2), vI (own_k p2 (3 : Int32)), vI (own_d1 p2), vI (own_d2 p2), vI (own_r0 p2), vI (own_s0 p2), vI ((own_gz (own_d1 p2)) + (own_gz (own_d2 p2))), .unset, .unset] []) ∧ h = h0) := by
  intro s₁ hT
  obtain ⟨Lz0, X0, e0, N0⟩ := hT
  obtain ⟨T1, hs1, g1, ⟨rfl, es1⟩, ⟨Lg1, X1, e1, N1⟩, st1⟩ := sgG2 l Z az hw hx hby hml hown hZ (x0) (x1) (x2) (x3) (vI p2) (x5) (x6) (x7) (vI (0 : Int32)) (x9) (x10) (vI (own_p p2)) (vI (own_k p2 (3 : Int32))) (own_d1 p2) (vI (own_d2 p2)) (vI (own_r0 p2)) (vI (own_s0 p2)) h0 n0 Z0 s₁ ⟨_, X0, e0, N0⟩
  rw [es1] at e1
  obtain ⟨T2, hs2, g2, ⟨rfl, es2⟩, ⟨Lg2, X2, e2, N2⟩, st2⟩ := sgG3 l Z az hw hx hby hml hown hZ (x0) (x1) (x2) (x3) (vI p2) (x5) (x6) (x7) (vI (0 : Int32)) (x9) (x10) (vI (own_p p2)) (vI (own_k p2 (3 : Int32))) (vI (own_d1 p2)) (own_d2 p2) (vI (own_r0 p2)) (vI (own_s0 p2)) (own_gz (own_d1 p2)) h0 n0 Z0 T1 ⟨_, X1, e1, N1⟩
  rw [es2] at e2
  refine ⟨_, _, _, ⟨rfl, rfl⟩, ⟨_, X2, e2, N2⟩, fun t hr => ?_⟩
  show SP p e below s₁ (mkF m 61 #[x0, x1, x2, x3, vI p2, x5, x6, x7, vI (0 : Int32), x9, x10, .unset, .unset, .unset, .unset, .unset, .unset, .unset, .unset, .unset] []) _
  refine XS.iload X0.here hx rfl (hb hby at_61) rfl ?_
  refine XS.bipush X0.here hx rfl (hb hby at_63) ?_
  refine XS.iand X0.here hx rfl (hb hby at_65) rfl ?_
  show SP p e below s₁ (mkF m 66 #[x0, x1, x2, x3, vI p2, x5, x6, x7, vI (0 : Int32), x9, x10, .unset, .unset, .unset, .unset, .unset, .unset, .unset, .unset, .unset] [(.int (own_p p2))]) _
  refine XS.istore X0.here hx rfl (hb hby at_66) rfl (l' := #[x0, x1, x2, x3, vI p2, x5, x6, x7, vI (0 : Int32), x9, x10, vI (own_p p2), .unset, .unset, .unset, .unset, .unset, .unset, .unset, .unset]) rfl ?_
  refine XS.iload X0.here hx rfl (hb hby at_68) rfl ?_
  refine XS.iconst X0.here hx rfl (hb hby at_70) ?_
  refine XS.iushr X0.here hx rfl (hb hby at_71) rfl ?_
  refine XS.bipush X0.here hx rfl (hb hby at_72) ?_
  refine XS.iand X0.here hx rfl (hb hby at_74) rfl ?_
  show SP p e below s₁ (mkF m 75 #[x0, x1, x2, x3, vI p2, x5, x6, x7, vI (0 : Int32), x9, x10, vI (own_p p2), .unset, .unset, .unset, .unset, .unset, .unset, .unset, .unset] [(.int (own_k p2 (3 : Int32)))]) _
  refine XS.istore X0.here hx rfl (hb hby at_75) rfl (l' := #[x0, x1, x2, x3, vI p2, x5, x6, x7, vI (0 : Int32), x9, x10, vI (own_p p2), vI (own_k p2 (3 : Int32)), .unset, .unset, .unset, .unset, .unset, .unset, .unset]) rfl ?_
  refine XS.iload X0.here hx rfl (hb hby at_77) rfl ?_
  refine XS.ifYes X0.here hx rfl (pc0 := 79) (pc' := 90) rfl (hb hby at_79) rfl ((if0 _ _).trans (teq (by decide : (0 : Int32) = (0 : Int32))).1) (by decide) (by decide) ?_
  refine XS.iload X0.here hx rfl (hb hby at_90) rfl ?_
  refine XS.istore X0.here hx rfl (hb hby at_92) rfl (l' := #[x0, x1, x2, x3, vI p2, x5, x6, x7, vI (0 : Int32), x9, x10, vI (own_p p2), vI (own_k p2 (3 : Int32)), vI (own_p p2), .unset, .unset, .unset, .unset, .unset, .unset]) rfl ?_
  refine XS.iload X0.here hx rfl (hb hby at_94) rfl ?_
  refine XS.ifYes X0.here hx rfl (pc0 := 96) (pc' := 107) rfl (hb hby at_96) rfl ((if0 _ _).trans (teq (by decide : (0 : Int32) = (0 : Int32))).1) (by decide) (by decide) ?_
  refine XS.iload X0.here hx rfl (hb hby at_107) rfl ?_
  refine XS.istore X0.here hx rfl (hb hby at_109) rfl (l' := #[x0, x1, x2, x3, vI p2, x5, x6, x7, vI (0 : Int32), x9, x10, vI (own_p p2), vI (own_k p2 (3 : Int32)), vI (own_p p2), vI (own_k p2 (3 : Int32)), .unset, .unset, .unset, .unset, .unset]) rfl ?_
  refine XS.iload X0.here hx rfl (hb hby at_111) rfl ?_
  refine XS.bipush X0.here hx rfl (hb hby at_113) ?_
  refine XS.iushr X0.here hx rfl (hb hby at_115) rfl ?_
  refine XS.bipush X0.here hx rfl (hb hby at_116) ?_
  show SP p e below s₁ (mkF m 118 #[x0, x1, x2, x3, vI p2, x5, x6, x7, vI (0 : Int32), x9, x10, vI (own_p p2), vI (own_k p2 (3 : Int32)), vI (own_p p2), vI (own_k p2 (3 : Int32)), .unset, .unset, .unset, .unset, .unset] [(.int (7 : Int32)), (.int ((p2.toUInt32 >>> ((6 : Int32) &&& 31).toUInt32).toInt32))]) _
  refine XS.iand X0.here hx rfl (hb hby at_118) rfl ?_
  show SP p e below s₁ (mkF m 119 #[x0, x1, x2, x3, vI p2, x5, x6, x7, vI (0 : Int32), x9, x10, vI (own_p p2), vI (own_k p2 (3 : Int32)), vI (own_p p2), vI (own_k p2 (3 : Int32)), .unset, .unset, .unset, .unset, .unset] [(.int (own_k p2 (6 : Int32)))]) _
  refine XS.iload X0.here hx rfl (hb hby at_119) rfl ?_
  refine XS.iconst X0.here hx rfl (hb hby at_121) ?_
  refine XS.iadd X0.here hx rfl (hb hby at_122) rfl ?_
  show SP p e below s₁ (mkF m 123 #[x0, x1, x2, x3, vI p2, x5, x6, x7, vI (0 : Int32), x9, x10, vI (own_p p2), vI (own_k p2 (3 : Int32)), vI (own_p p2), vI (own_k p2 (3 : Int32)), .unset, .unset, .unset, .unset, .unset] [(.int ((own_p p2) + (1 : Int32))), (.int (own_k p2 (6 : Int32)))]) _
  refine iremM X0 hx rfl (hb hby at_123) rfl hc0 ?_
  show SP p e below s₁ (mkF m 124 #[x0, x1, x2, x3, vI p2, x5, x6, x7, vI (0 : Int32), x9, x10, vI (own_p p2), vI (own_k p2 (3 : Int32)), vI (own_p p2), vI (own_k p2 (3 : Int32)), .unset, .unset, .unset, .unset, .unset] [(.int (own_r0 p2))]) _
  refine XS.istore X0.here hx rfl (hb hby at_124) rfl (l' := #[x0, x1, x2, x3, vI p2, x5, x6, x7, vI (0 : Int32), x9, x10, vI (own_p p2), vI (own_k p2 (3 : Int32)), vI (own_p p2), vI (own_k p2 (3 : Int32)), vI (own_r0 p2), .unset, .unset, .unset, .unset]) rfl ?_
  refine XS.iload X0.here hx rfl (hb hby at_126) rfl ?_
  refine XS.iload X0.here hx rfl (hb hby at_128) rfl ?_
  refine XS.isub X0.here hx rfl (hb hby at_130) rfl ?_
  show SP p e below s₁ (mkF m 131 #[x0, x1, x2, x3, vI p2, x5, x6, x7, vI (0 : Int32), x9, x10, vI (own_p p2), vI (own_k p2 (3 : Int32)), vI (own_p p2), vI (own_k p2 (3 : Int32)), vI (own_r0 p2), .unset, .unset, .unset, .unset] [(.int (own_d1 p2))]) _
  refine XS.istore X0.here hx rfl (hb hby at_131) rfl (l' := #[x0, x1, x2, x3, vI p2, x5, x6, x7, vI (0 : Int32), x9, x10, vI (own_p p2), vI (own_k p2 (3 : Int32)), vI (own_d1 p2), vI (own_k p2 (3 : Int32)), vI (own_r0 p2), .unset, .unset, .unset, .unset]) rfl ?_
  refine XS.iload X0.here hx rfl (hb hby at_133) rfl ?_
  refine XS.ifYes X0.here hx rfl (pc0 := 135) (pc' := 142) rfl (hb hby at_135) rfl ((if0 _ _).trans (teq (by decide : (0 : Int32) = (0 : Int32))).1) (by decide) (by decide) ?_
  refine XS.iload X0.here hx rfl (hb hby at_142) rfl ?_
  refine XS.bipush X0.here hx rfl (hb hby at_144) ?_
  refine XS.iushr X0.here hx rfl (hb hby at_146) rfl ?_
  refine XS.bipush X0.here hx rfl (hb hby at_147) ?_
  refine XS.iand X0.here hx rfl (hb hby at_149) rfl ?_
  show SP p e below s₁ (mkF m 150 #[x0, x1, x2, x3, vI p2, x5, x6, x7, vI (0 : Int32), x9, x10, vI (own_p p2), vI (own_k p2 (3 : Int32)), vI (own_d1 p2), vI (own_k p2 (3 : Int32)), vI (own_r0 p2), .unset, .unset, .unset, .unset] [(.int (own_k p2 (9 : Int32)))]) _
  refine XS.iload X0.here hx rfl (hb hby at_150) rfl ?_
  refine XS.iconst X0.here hx rfl (hb hby at_152) ?_
  refine XS.iadd X0.here hx rfl (hb hby at_153) rfl ?_
  show SP p e below s₁ (mkF m 154 #[x0, x1, x2, x3, vI p2, x5, x6, x7, vI (0 : Int32), x9, x10, vI (own_p p2), vI (own_k p2 (3 : Int32)), vI (own_d1 p2), vI (own_k p2 (3 : Int32)), vI (own_r0 p2), .unset, .unset, .unset, .unset] [(.int ((own_k p2 (3 : Int32)) + (1 : Int32))), (.int (own_k p2 (9 : Int32)))]) _
  refine iremM X0 hx rfl (hb hby at_154) rfl hc1 ?_
  show SP p e below s₁ (mkF m 155 #[x0, x1, x2, x3, vI p2, x5, x6, x7, vI (0 : Int32), x9, x10, vI (own_p p2), vI (own_k p2 (3 : Int32)), vI (own_d1 p2), vI (own_k p2 (3 : Int32)), vI (own_r0 p2), .unset, .unset, .unset, .unset] [(.int (own_s0 p2))]) _
  refine XS.istore X0.here hx rfl (hb hby at_155) rfl (l' := #[x0, x1, x2, x3, vI p2, x5, x6, x7, vI (0 : Int32), x9, x10, vI (own_p p2), vI (own_k p2 (3 : Int32)), vI (own_d1 p2), vI (own_k p2 (3 : Int32)), vI (own_r0 p2), vI (own_s0 p2), .unset, .unset, .unset]) rfl ?_
  refine XS.iload X0.here hx rfl (hb hby at_157) rfl ?_
  refine XS.iload X0.here hx rfl (hb hby at_159) rfl ?_
  refine XS.isub X0.here hx rfl (hb hby at_161) rfl ?_
  show SP p e below s₁ (mkF m 162 #[x0, x1, x2, x3, vI p2, x5, x6, x7, vI (0 : Int32), x9, x10, vI (own_p p2), vI (own_k p2 (3 : Int32)), vI (own_d1 p2), vI (own_k p2 (3 : Int32)), vI (own_r0 p2), vI (own_s0 p2), .unset, .unset, .unset] [(.int (own_d2 p2))]) _
  refine XS.istore X0.here hx rfl (hb hby at_162) rfl (l' := #[x0, x1, x2, x3, vI p2, x5, x6, x7, vI (0 : Int32), x9, x10, vI (own_p p2), vI (own_k p2 (3 : Int32)), vI (own_d1 p2), vI (own_d2 p2), vI (own_r0 p2), vI (own_s0 p2), .unset, .unset, .unset]) rfl ?_
  refine XS.iload X0.here hx rfl (hb hby at_164) rfl ?_
  refine XS.ifYes X0.here hx rfl (pc0 := 166) (pc' := 173) rfl (hb hby at_166) rfl ((if0 _ _).trans (teq (by decide : (0 : Int32) = (0 : Int32))).1) (by decide) (by decide) ?_
  refine XS.iload X0.here hx rfl (hb hby at_173) rfl ?_
  refine XS.ifYes X0.here hx rfl (pc0 := 175) (pc' := 193) rfl (hb hby at_175) rfl ((if0 _ _).trans (teq (by decide : (0 : Int32) = (0 : Int32))).1) (by decide) (by decide) ?_
  show SP p e below s₁ (mkF m 193 #[x0, x1, x2, x3, vI p2, x5, x6, x7, vI (0 : Int32), x9, x10, vI (own_p p2), vI (own_k p2 (3 : Int32)), vI (own_d1 p2), vI (own_d2 p2), vI (own_r0 p2), vI (own_s0 p2), .unset, .unset, .unset] []) _
  refine st1 _ ?_
  show SP p e below T1 (mkF m 203 #[x0, x1, x2, x3, vI p2, x5, x6, x7, vI (0 : Int32), x9, x10, vI (own_p p2), vI (own_k p2 (3 : Int32)), vI (own_d1 p2), vI (own_d2 p2), vI (own_r0 p2), vI (own_s0 p2), .unset, .unset, .unset] [(.int (own_gz (own_d1 p2)))]) _
  refine st2 _ ?_
  show SP p e below T2 (mkF m 213 #[x0, x1, x2, x3, vI p2, x5, x6, x7, vI (0 : Int32), x9, x10, vI (own_p p2), vI (own_k p2 (3 : Int32)), vI (own_d1 p2), vI (own_d2 p2), vI (own_r0 p2), vI (own_s0 p2), .unset, .unset, .unset] [(.int (own_gz (own_d2 p2))), (.int (own_gz (own_d1 p2)))]) _
  refine XS.iadd X2.here hx rfl (hb hby at_213) rfl ?_
  refine XS.istore X2.here hx rfl (hb hby at_214) rfl (l' := #[x0, x1, x2, x3, vI p2, x5, x6, x7, vI (0 : Int32), x9, x10, vI (own_p p2), vI (own_k p2 (3 : Int32)), vI (own_d1 p2), vI (own_d2 p2), vI (own_r0 p2), vI (own_s0 p2), vI ((own_gz (own_d1 p2)) + (own_gz (own_d2 p2))), .unset, .unset]) rfl ?_
  exact hr
abbrev own_NS (k z n1 n2 r s ex : Int32) : Prop := n1 = own_n1 k z ∧ n2 = own_n2 k z ∧ r = own_r k z ∧ s = own_s k z ∧ ex = own_ex k z
theorem sgI (l : Launch) (Z : State) (az : Array Value) (hw : HW Z az) {p : Program} {e : Env} {s : State} {m : MethodId} {args : Array Value} {below : List Frame} {meth : Method} {c : Code} (hx : p.tables.exec = Jvm.exec) (hby : c.code = code) (hml : c.maxLocals = 20) (hown : s.vm.findClass cLW = some m.cls) (hZ : Z.Warmed39 s.vm) {kc ks : Nat} (x0 x1 x2 x3 : Slot) (p2 : Int32) (x5 x6 x7 x9 x10 : Slot) (z : Int32) (h0 : Heap) (n0 : Nat) (Z0 : n0 ≤ h0.size) (hz : z = (1 : Int32) ∨ z = (0 : Int32)) :
    own_Seg p l e room_1 s m args below meth c n0 kc ks kc ks h0 (mkF m 61 #[x0, x1, x2, x3, vI p2, x5, x6, x7, vI z, x9, x10, .unset, .unset, .unset, .unset, .unset, .unset, .unset, .unset, .unset] []) (fun h g => ∃ n1 : Int32, ∃ n2 : Int32, ∃ rr : Int32, ∃ ss : Int32, ∃ ex : Int32, g = (mkF m 216 #[x0, x1, x2, x3, vI p2, x5, x6, x7, vI z, x9, x10, vI (own_p p2), vI (own_k p2 (3 : Int32)), vI n1, vI n2, vI rr, vI ss, vI ex, .unset, .unset] []) ∧ h = h0 ∧ own_NS p2 z n1 n2 rr ss ex) := by
  rcases hz with rfl | rfl
  · obtain ⟨e1, e2, e3, e4, e5, e6, e7⟩ := own_q1 p2
    exact own_Seg.mono (sgI1 l Z az hw hx hby hml hown hZ x0 x1 x2 x3 p2 x5 x6 x7 x9 x10 h0 n0 Z0 e6 e7) fun _ _ q => ⟨_, _, _, _, _, q.1, q.2, e1.symm, e2.symm, e3.symm, e4.symm, e5.symm⟩
  · obtain ⟨e1, e2, e3, e4, e5, e6, e7⟩ := own_q0 p2
    exact own_Seg.mono (sgI0 l Z az hw hx hby hml hown hZ x0 x1 x2 x3 p2 x5 x6 x7 x9 x10 h0 n0 Z0 e6 e7) fun _ _ q => ⟨_, _, _, _, _, q.1, q.2, e1.symm, e2.symm, e3.symm, e4.symm, e5.symm⟩
theorem pd_26 : parseMethodDescriptor "(J)Ljava/lang/Long;" = some ⟨[.long], some (.object "java/lang/Long")⟩ := by decide +kernel
theorem pn_com_example_reteweave_reteweave_network_ProductionNodeMatchesPinLaw : plainName "com/example/reteweave/reteweave/network/ProductionNodeMatchesPinLaw" = true := by first | (simp [plainName, overriddenIn]; done) | decide +kernel
theorem ef_rm0 (m : MethodId) (q0 q1 : Int64) (p2 p3 : Int32) : entryFrame m #[(.long q0), (.long q1), (.int p2), (.int p3)] maxLocals = mkF m 0 #[.val (.long q0), .second, .val (.long q1), .second, vI p2, vI p3, .unset, .unset, .unset, .unset, .unset, .unset, .unset, .unset, .unset, .unset, .unset, .unset, .unset, .unset] [] := by first | (simp [entryFrame, mkF, argsToLocals, Value.category, maxLocals]; done) | rfl
def Q0 (Z : State) (q0 q1 : Int64) (p2 p3 : Int32) (cA : Addr) (kC : ClassId) (fC : Nat → Value) (lc1 : Addr) (lv1 : Int64) (lc2 : Addr) (lv2 : Int64) (eD : Addr) (h0 : Heap) (n0 : Nat) (v : Option Value) (h : Heap) (L : List Loc) : Prop := v = some (.int (1 : Int32)) ∧ Fr n0 L
theorem rm0 (l : Launch) (Z : State) (az : Array Value) (hw : HW Z az) (ws : List Jvm.Cond) (q0 q1 : Int64) (p2 p3 : Int32) (cA : Addr) (kC : ClassId) (fC : Nat → Value) (lc1 : Addr) (lv1 : Int64) (lc2 : Addr) (lv2 : Int64) (eD : Addr) (h0 : Heap) (n0 : Nat) (Z0 : n0 ≤ h0.size) (S_cache : Sta Z h0 "java/lang/Long$LongCache" "cache" "[Ljava/lang/Long;" (.ref cA)) (V_cA : own_Arf Z h0 cA kC (.object cLG) (256 : Int32) fC) (E_cA : Exa Z h0 cA "[Ljava/lang/Long;") (E_lc1 : Exa Z h0 lc1 cLG) (F_value_lc1 : Fld Z h0 lc1 cLG "value" "J" (.long lv1)) (E_lc2 : Exa Z h0 lc2 cLG) (F_value_lc2 : Fld Z h0 lc2 cLG "value" "J" (.long lv2)) (S_DEFAULTCAPACITY_EMPTY_ELEMENTDATA : Sta Z h0 cAL "DEFAULTCAPACITY_EMPTY_ELEMENTDATA" cOA (.ref eD)) (hc8 : own_Cc fC q0 lc1 lv1) (hc9 : own_Cc fC (own_b q0 q1 p3) lc2 lv2) :
    MetFree l x (head1 (Jvm.Cond.code x code maxLocals ret :: ws) room_1) (fun a U => a = #[(.long q0), (.long q1), (.int p2), (.int p3)] ∧ Z.Warmed39 U.vm ∧ U.heap = h0) (fun _ _ _ _ _ => True) (fun _ U o U' => ∃ v L, o = .returned v ∧ Q0 Z q0 q1 p2 p3 cA kC fC lc1 lv1 lc2 lv2 eD h0 n0 v U'.heap L ∧ FrameEnd U o U' L room_1.cells room_1.slots) := by
  refine MetFree.of_bodySF (plainFor_of_name pn_com_example_reteweave_reteweave_network_ProductionNodeMatchesPinLaw) hisR ?_
  intro p e s m args below meth c s₁ Bd hml0 hP hK
  obtain ⟨rfl, hZ, hh⟩ := hP
  have hx := Bd.exec
  have hby := Bd.bytes
  have hml : c.maxLocals = 20 := hml0
  have hown : s.vm.findClass cLW = some m.cls := findClass_of_methodNamed Bd.named
  have hnm := (name_of_methodNamed Bd.named Bd.method).1
  have X0 : Stand p l e room_1 s m #[(.long q0), (.long q1), (.int p2), (.int p3)] below meth c s₁ [] 0 0 := Stand.of_body Bd
  have e0 : s₁.heap = h0 := by rw [← hh, Bd.state]; rfl
  have N0 := Fr.nil n0
  have pre0 : ∀ t, Steps p.tables e below (s₁.setTop (mkF m 0 #[.val (.long q0), .second, .val (.long q1), .second, vI p2, vI p3, .unset, .unset, .unset, .unset, .unset, .unset, .unset, .unset, .unset, .unset, .unset, .unset, .unset, .unset] [])) t → Steps p.tables e below (s₁.setTop (entryFrame m #[(.long q0), (.long q1), (.int p2), (.int p3)] maxLocals)) t := fun t k => castTop (ef_rm0 m q0 q1 p2 p3) k
  obtain ⟨T1, hs1, g1, ⟨x1_0, rfl, es1, pf1_0⟩, ⟨Lg1, X1, e1, N1⟩, st1⟩ := sgB l Z az hw hx hby hml hown hZ q0 q1 (vI p2) p3 h0 n0 Z0 s₁ ⟨_, X0, e0, N0⟩
  rw [es1] at e1
  obtain ⟨T2, hs2, g2, ⟨x2_0, rfl, es2, pf2_0⟩, ⟨Lg2, X2, e2, N2⟩, st2⟩ := sgE l Z az hw hx hby hml hown hZ q0 (.val (.long q1)) .second (vI p2) (vI p3) x1_0 h0 n0 Z0 T1 ⟨_, X1, e1, N1⟩
  rw [es2] at e2
  obtain ⟨T3, h3, k3, X3, e3, E3, A3, x3, O3, st3⟩ := newRE X2 hx hZ hown (w0 hw) (w1 hw) e2 (g := (mkF m 29 #[.val (.long q0), .second, .val (.long q1), .second, vI p2, vI p3, .val (.long x1_0), .second, vI x2_0, .unset, .unset, .unset, .unset, .unset, .unset, .unset, .unset, .unset, .unset, .unset] [(.int (1 : Int32))])) rfl (hb hby at_29) rfl (by decide) (cap := 1) (by decide) (by decide) (by decide) (by decide) (ad := cOA) (by decide)
  obtain ⟨b3, g3⟩ : ∃ z, z = h0.size := ⟨_, rfl⟩
  rw [← g3] at A3 x3 st3
  have g_b3 : n0 ≤ b3 := Nat.le_trans Z0 (Nat.le_of_eq g3.symm)
  have sz_b3 : h0.size ≤ b3 := Nat.le_trans (Nat.le_refl _) (Nat.le_of_eq g3.symm)
  have Z3 : n0 ≤ h3.size := Nat.le_trans Z0 E3.1
  have K3 : Keep h0 h3 [] := (Keep.refl h0 []).ext E3
  have E_b3 := x3
  have V_b3 : Arv Z h3 b3 k3 (.object "java/lang/Object") (1 : Int32) [.null] .null := (Arv.new A3 (by decide)).pad (pad_rep [] .null 1)
  have S_Long_LongCache_cache_u5 : Sta Z h3 "java/lang/Long$LongCache" "cache" "[Ljava/lang/Long;" (.ref cA) := (S_cache.ext E3)
  have V_cA_u6 : own_Arf Z h3 cA kC (.object cLG) (256 : Int32) fC := (V_cA.ext E3)
  have E_cA_u7 : Exa Z h3 cA "[Ljava/lang/Long;" := (E_cA.ext E3)
  have E_lc1_u8 : Exa Z h3 lc1 cLG := (E_lc1.ext E3)
  have F_lc1_value_u9 : Fld Z h3 lc1 cLG "value" "J" (.long lv1) := (F_value_lc1.ext E3)
  obtain ⟨_, _, ⟨T4, L4, k4', n4'⟩, -, X4, ⟨Lc4, hQ4, l4, y4, z4⟩, st4⟩ := Jvm.LawKit.callS X3 hx (y := ⟨cLG, "valueOf", "(J)Ljava/lang/Long;"⟩) hown (mvT hZ (w2 hw)) (mvT hZ (w3 hw)) (mvT hZ (w4 hw)) (mvT hZ (w5 hw)) (by decide) (backOf (W := 3) (rmVO l Z az hw [] q0 cA kC fC lc1 lv1 h3 n0 Z3 S_Long_LongCache_cache_u5 V_cA_u6 E_cA_u7 E_lc1_u8 F_lc1_value_u9 hc8) hZ (w5 hw) (w4 hw) (by decide) (by decide)) (g := (mkF m 35 #[.val (.long q0), .second, .val (.long q1), .second, vI p2, vI p3, .val (.long x1_0), .second, vI x2_0, .unset, .unset, .unset, .unset, .unset, .unset, .unset, .unset, .unset, .unset, .unset] [(.long q0), (.int (0 : Int32)), (.ref b3), (.ref b3)])) rfl (by rw [hml]; rfl) (argsL := [(.long q0)]) (rest := [(.int (0 : Int32)), (.ref b3), (.ref b3)]) (lenOf pd_26 rfl) rfl (Nat.le_of_eq rfl) (hb hby at_35) (fun _ _ => ⟨rfl, e3, (own_nle rfl), (own_nle rfl)⟩)
  dsimp only [Pt.U, Pt.locs, Pt.cells, Pt.slots] at X4 l4 y4 z4 st4 hQ4
  subst l4 y4 z4
  obtain ⟨x4_0, rfl, N4q, kq4, pf4_0, pf4_1⟩ := hQ4
  obtain ⟨Lg4, X4', N4⟩ := own_gen X4 (Fr.app N2 N4q)
  have K4 : Keep h0 T4.heap [] := K3.trans kq4 all0
  have Z4 : n0 ≤ T4.heap.size := Nat.le_trans Z3 kq4.1
  have V_b3_u10 : Arv Z T4.heap b3 k3 (.object "java/lang/Object") (1 : Int32) [.null] .null := (V_b3.keep kq4 nin0)
  obtain ⟨cl11, Ar11, qk11, Sz11, Ng11, Hs11, Gf11⟩ := id V_b3_u10
  have hin12 : ¬ ((0 : Int32) < 0 ∨ cl11.slots.size ≤ ((0 : Int32)).toNatClampNeg) := inb_of Sz11 ⟨by decide, by decide⟩
  obtain ⟨T13, h13, X13, e13, W13, st13⟩ := stR X4' hx hZ rfl Ar11 (j := (0 : Int32)) hin12 rfl (Sto.ofV Ar11 qk11 O3 (Ins.of_exa pf4_0 (w10 hw))) (g := (mkF m 38 #[.val (.long q0), .second, .val (.long q1), .second, vI p2, vI p3, .val (.long x1_0), .second, vI x2_0, .unset, .unset, .unset, .unset, .unset, .unset, .unset, .unset, .unset, .unset, .unset] [(.ref x4_0), (.int (0 : Int32)), (.ref b3), (.ref b3)])) rfl rfl (hb hby at_38)
  have K13 : Keep h0 h13 [] := K4.wr W13 (Or.inr sz_b3)
  have V_b3_13 : Arv Z h13 b3 k3 (.object "java/lang/Object") (1 : Int32) [(.ref x4_0)] .null := Arv.set (v := (.ref x4_0)) Ar11 qk11 Sz11 Ng11 Hs11 Gf11 rfl W13 0 rfl (Nat.le_of_ble_eq_true rfl)
  have Z13 : n0 ≤ h13.size := Nat.le_trans Z4 (Keep.of_wr W13).1
  obtain ⟨Lg13, X13', N13⟩ := own_gen X13 (Fr.snoc X13 N4 g_b3)
  have E_b3_u15 : Exa Z h13 b3 cOA := ((E_b3.keep kq4).wr W13)
  have E_x4_0_u16 : Exa Z h13 x4_0 cLG := (pf4_0.wr W13)
  have ne_x4_0_b3 : x4_0 ≠ b3 := ne_exa E_x4_0_u16 E_b3_u15 (by decide)
  have F_x4_0_value_u17 : Fld Z h13 x4_0 cLG "value" "J" (.long q0) := (pf4_1.other W13 (Or.inl ne_x4_0_b3))
  obtain ⟨_, _, ⟨T14, L14, k14', n14'⟩, -, X14, ⟨Lc14, hQ14, l14, y14, z14⟩, st14⟩ := Jvm.LawKit.callS X13' hx (y := ⟨cTU, "of", "([Ljava/lang/Object;)Lcom/example/reteweave/reteweave/network/Tuple;"⟩) hown (mvT hZ (w11 hw)) (mvT hZ (w12 hw)) (mvT hZ (w13 hw)) (mvT hZ (w14 hw)) (by decide) (backOf (W := 0) (rm2 l Z az hw [] b3 k3 x4_0 q0 h13 n0 Z13 V_b3_13 E_b3_u15 E_x4_0_u16 F_x4_0_value_u17) hZ (w14 hw) (w13 hw) (by decide) (by decide)) (g := (mkF m 39 #[.val (.long q0), .second, .val (.long q1), .second, vI p2, vI p3, .val (.long x1_0), .second, vI x2_0, .unset, .unset, .unset, .unset, .unset, .unset, .unset, .unset, .unset, .unset, .unset] [(.ref b3)])) rfl (by rw [hml]; rfl) (argsL := [(.ref b3)]) (rest := []) (lenOf pd_6 rfl) rfl (Nat.le_of_eq rfl) (hb hby at_39) (fun _ _ => ⟨rfl, e13, (own_nle rfl), (own_nle rfl)⟩)
  dsimp only [Pt.U, Pt.locs, Pt.cells, Pt.slots] at X14 l14 y14 z14 st14 hQ14
  subst l14 y14 z14
  obtain ⟨b14_0, b14_1, rfl, N14q, s14_0, lt_b14_0_b14_1, kq14, pf14_0, pf14_1, pf14_2, pf14_3, pf14_4⟩ := hQ14
  obtain ⟨Lg14, X14', N14⟩ := own_gen X14 (Fr.app N13 N14q)
  have g_b14_0 : n0 ≤ b14_0 := Nat.le_trans Z13 s14_0
  have sz_b14_0 : h0.size ≤ b14_0 := Nat.le_trans K13.1 s14_0
  have g_b14_1 : n0 ≤ b14_1 := Nat.le_trans Z13 (Nat.le_trans s14_0 (Nat.le_of_lt lt_b14_0_b14_1))
  have sz_b14_1 : h0.size ≤ b14_1 := Nat.le_trans K13.1 (Nat.le_trans s14_0 (Nat.le_of_lt lt_b14_0_b14_1))
  have K14 : Keep h0 T14.heap [] := K13.trans kq14 all0
  have Z14 : n0 ≤ T14.heap.size := Nat.le_trans Z13 kq14.1
  obtain ⟨T18, h18, k18, X18, e18, E18, A18, x18, O18, st18⟩ := newRE X14' hx hZ hown (w0 hw) (w1 hw) rfl (g := (mkF m 45 #[.val (.long q0), .second, .val (.long q1), .second, vI p2, vI p3, .val (.long x1_0), .second, vI x2_0, vR b14_1, .unset, .unset, .unset, .unset, .unset, .unset, .unset, .unset, .unset, .unset] [(.int (1 : Int32))])) rfl (hb hby at_45) rfl (by decide) (cap := 1) (by decide) (by decide) (by decide) (by decide) (ad := cOA) (by decide)
  obtain ⟨b18, g18⟩ : ∃ z, z = T14.heap.size := ⟨_, rfl⟩
  rw [← g18] at A18 x18 st18
  have g_b18 : n0 ≤ b18 := Nat.le_trans Z14 (Nat.le_of_eq g18.symm)
  have sz_b18 : h0.size ≤ b18 := Nat.le_trans K14.1 (Nat.le_of_eq g18.symm)
  have Z18 : n0 ≤ h18.size := Nat.le_trans Z14 E18.1
  have K18 : Keep h0 h18 [] := K14.ext E18
  have E_b18 := x18
  have V_b18 : Arv Z h18 b18 k18 (.object "java/lang/Object") (1 : Int32) [.null] .null := (Arv.new A18 (by decide)).pad (pad_rep [] .null 1)
  have c20 : Sta Z T14.heap "java/lang/Long$LongCache" "cache" "[Ljava/lang/Long;" (.ref cA) := (own_Sta ((own_Sta S_Long_LongCache_cache_u5 kq4 (fun _ m => nomatch m)).wr W13) kq14 (fun _ m => nomatch m))
  have S_Long_LongCache_cache_u21 : Sta Z h18 "java/lang/Long$LongCache" "cache" "[Ljava/lang/Long;" (.ref cA) := (c20.ext E18)
  have ne_cA_b3 : cA ≠ b3 := own_ne (Nat.lt_of_lt_of_le E_cA.lt (Nat.le_of_eq g3.symm))
  have c22 : own_Arf Z T14.heap cA kC (.object cLG) (256 : Int32) fC := (((V_cA_u6.keep kq4 nin0).other W13 ne_cA_b3).keep kq14 nin0)
  have V_cA_u23 : own_Arf Z h18 cA kC (.object cLG) (256 : Int32) fC := (c22.ext E18)
  have c24 : Exa Z T14.heap cA "[Ljava/lang/Long;" := (((E_cA_u7.keep kq4).wr W13).keep kq14)
  have E_cA_u25 : Exa Z h18 cA "[Ljava/lang/Long;" := (c24.ext E18)
  have c26 : Exa Z h13 lc2 cLG := (((E_lc2.ext E3).keep kq4).wr W13)
  have E_lc2_u27 : Exa Z h18 lc2 cLG := ((c26.keep kq14).ext E18)
  have ne_lc2_b3 : lc2 ≠ b3 := own_ne (Nat.lt_of_lt_of_le E_lc2.lt (Nat.le_of_eq g3.symm))
  have c28 : Fld Z h13 lc2 cLG "value" "J" (.long lv2) := (((F_value_lc2.ext E3).keep kq4 nin0).other W13 (Or.inl ne_lc2_b3))
  have F_lc2_value_u29 : Fld Z h18 lc2 cLG "value" "J" (.long lv2) := ((c28.keep kq14 nin0).ext E18)
  obtain ⟨_, _, ⟨T19, L19, k19', n19'⟩, -, X19, ⟨Lc19, hQ19, l19, y19, z19⟩, st19⟩ := Jvm.LawKit.callS X18 hx (y := ⟨cLG, "valueOf", "(J)Ljava/lang/Long;"⟩) hown (mvT hZ (w2 hw)) (mvT hZ (w3 hw)) (mvT hZ (w4 hw)) (mvT hZ (w5 hw)) (by decide) (backOf (W := 3) (rmVO l Z az hw [] x1_0 cA kC fC lc2 lv2 h18 n0 Z18 S_Long_LongCache_cache_u21 V_cA_u23 E_cA_u25 E_lc2_u27 F_lc2_value_u29 (by rw [pf1_0]; exact hc9)) hZ (w5 hw) (w4 hw) (by decide) (by decide)) (g := (mkF m 52 #[.val (.long q0), .second, .val (.long q1), .second, vI p2, vI p3, .val (.long x1_0), .second, vI x2_0, vR b14_1, .unset, .unset, .unset, .unset, .unset, .unset, .unset, .unset, .unset, .unset] [(.long x1_0), (.int (0 : Int32)), (.ref b18), (.ref b18)])) rfl (by rw [hml]; rfl) (argsL := [(.long x1_0)]) (rest := [(.int (0 : Int32)), (.ref b18), (.ref b18)]) (lenOf pd_26 rfl) rfl (Nat.le_of_eq rfl) (hb hby at_52) (fun _ _ => ⟨rfl, e18, (own_nle rfl), (own_nle rfl)⟩)
  dsimp only [Pt.U, Pt.locs, Pt.cells, Pt.slots] at X19 l19 y19 z19 st19 hQ19
  subst l19 y19 z19
  obtain ⟨x19_0, rfl, N19q, kq19, pf19_0, pf19_1⟩ := hQ19
  obtain ⟨Lg19, X19', N19⟩ := own_gen X19 (Fr.app N14 N19q)
  have K19 : Keep h0 T19.heap [] := K18.trans kq19 all0
  have Z19 : n0 ≤ T19.heap.size := Nat.le_trans Z18 kq19.1
  have V_b18_u30 : Arv Z T19.heap b18 k18 (.object "java/lang/Object") (1 : Int32) [.null] .null := (V_b18.keep kq19 nin0)
  obtain ⟨cl31, Ar31, qk31, Sz31, Ng31, Hs31, Gf31⟩ := id V_b18_u30
  have hin32 : ¬ ((0 : Int32) < 0 ∨ cl31.slots.size ≤ ((0 : Int32)).toNatClampNeg) := inb_of Sz31 ⟨by decide, by decide⟩
  obtain ⟨T33, h33, X33, e33, W33, st33⟩ := stR X19' hx hZ rfl Ar31 (j := (0 : Int32)) hin32 rfl (Sto.ofV Ar31 qk31 O18 (Ins.of_exa pf19_0 (w10 hw))) (g := (mkF m 55 #[.val (.long q0), .second, .val (.long q1), .second, vI p2, vI p3, .val (.long x1_0), .second, vI x2_0, vR b14_1, .unset, .unset, .unset, .unset, .unset, .unset, .unset, .unset, .unset, .unset] [(.ref x19_0), (.int (0 : Int32)), (.ref b18), (.ref b18)])) rfl rfl (hb hby at_55)
  have K33 : Keep h0 h33 [] := K19.wr W33 (Or.inr sz_b18)
  have V_b18_33 : Arv Z h33 b18 k18 (.object "java/lang/Object") (1 : Int32) [(.ref x19_0)] .null := Arv.set (v := (.ref x19_0)) Ar31 qk31 Sz31 Ng31 Hs31 Gf31 rfl W33 0 rfl (Nat.le_of_ble_eq_true rfl)
  have Z33 : n0 ≤ h33.size := Nat.le_trans Z19 (Keep.of_wr W33).1
  obtain ⟨Lg33, X33', N33⟩ := own_gen X33 (Fr.snoc X33 N19 g_b18)
  have E_b18_u35 : Exa Z h33 b18 cOA := ((E_b18.keep kq19).wr W33)
  have E_x19_0_u36 : Exa Z h33 x19_0 cLG := (pf19_0.wr W33)
  have ne_x19_0_b18 : x19_0 ≠ b18 := ne_exa E_x19_0_u36 E_b18_u35 (by decide)
  have F_x19_0_value_u37 : Fld Z h33 x19_0 cLG "value" "J" (.long x1_0) := (pf19_1.other W33 (Or.inl ne_x19_0_b18))
  obtain ⟨_, _, ⟨T34, L34, k34', n34'⟩, -, X34, ⟨Lc34, hQ34, l34, y34, z34⟩, st34⟩ := Jvm.LawKit.callS X33' hx (y := ⟨cTU, "of", "([Ljava/lang/Object;)Lcom/example/reteweave/reteweave/network/Tuple;"⟩) hown (mvT hZ (w11 hw)) (mvT hZ (w12 hw)) (mvT hZ (w13 hw)) (mvT hZ (w14 hw)) (by decide) (backOf (W := 0) (rm2 l Z az hw [] b18 k18 x19_0 x1_0 h33 n0 Z33 V_b18_33 E_b18_u35 E_x19_0_u36 F_x19_0_value_u37) hZ (w14 hw) (w13 hw) (by decide) (by decide)) (g := (mkF m 56 #[.val (.long q0), .second, .val (.long q1), .second, vI p2, vI p3, .val (.long x1_0), .second, vI x2_0, vR b14_1, .unset, .unset, .unset, .unset, .unset, .unset, .unset, .unset, .unset, .unset] [(.ref b18)])) rfl (by rw [hml]; rfl) (argsL := [(.ref b18)]) (rest := []) (lenOf pd_6 rfl) rfl (Nat.le_of_eq rfl) (hb hby at_56) (fun _ _ => ⟨rfl, e33, (own_nle rfl), (own_nle rfl)⟩)
  dsimp only [Pt.U, Pt.locs, Pt.cells, Pt.slots] at X34 l34 y34 z34 st34 hQ34
  subst l34 y34 z34
  obtain ⟨b34_0, b34_1, rfl, N34q, s34_0, lt_b34_0_b34_1, kq34, pf34_0, pf34_1, pf34_2, pf34_3, pf34_4⟩ := hQ34
  obtain ⟨Lg34, X34', N34⟩ := own_gen X34 (Fr.app N33 N34q)
  have g_b34_0 : n0 ≤ b34_0 := Nat.le_trans Z33 s34_0
  have sz_b34_0 : h0.size ≤ b34_0 := Nat.le_trans K33.1 s34_0
  have g_b34_1 : n0 ≤ b34_1 := Nat.le_trans Z33 (Nat.le_trans s34_0 (Nat.le_of_lt lt_b34_0_b34_1))
  have sz_b34_1 : h0.size ≤ b34_1 := Nat.le_trans K33.1 (Nat.le_trans s34_0 (Nat.le_of_lt lt_b34_0_b34_1))
  have K34 : Keep h0 T34.heap [] := K33.trans kq34 all0
  have Z34 : n0 ≤ T34.heap.size := Nat.le_trans Z33 kq34.1
  obtain ⟨T38, hs38, g38, ⟨x38_0, x38_1, x38_2, x38_3, x38_4, rfl, es38, pf38_0⟩, ⟨Lg38, X38, e38, N38⟩, st38⟩ := sgI l Z az hw hx hby hml hown hZ (.val (.long q0)) .second (.val (.long q1)) .second p2 (vI p3) (.val (.long x1_0)) .second (vR b14_1) (vR b34_1) x2_0 T34.heap n0 Z34 (by rw [pf2_0]; exact own_smz _ _) T34 ⟨_, X34', rfl, N34⟩
  rw [es38] at e38
  obtain ⟨T39, h39, X39, e39, E39, A39, D39, -, st39⟩ := newO X38 hx hZ hown (w54 hw) (w55 hw) (w56 hw) e38 (g := (mkF m 216 #[.val (.long q0), .second, .val (.long q1), .second, vI p2, vI p3, .val (.long x1_0), .second, vI x2_0, vR b14_1, vR b34_1, vI (own_p p2), vI (own_k p2 (3 : Int32)), vI x38_0, vI x38_1, vI x38_2, vI x38_3, vI x38_4, .unset, .unset] [])) rfl (hb hby at_216) (by decide) (by decide)
  obtain ⟨b39, g39⟩ : ∃ z, z = T34.heap.size := ⟨_, rfl⟩
  rw [← g39] at A39 D39 st39
  have g_b39 : n0 ≤ b39 := Nat.le_trans Z34 (Nat.le_of_eq g39.symm)
  have sz_b39 : h0.size ≤ b39 := Nat.le_trans K34.1 (Nat.le_of_eq g39.symm)
  have Z39 : n0 ≤ h39.size := Nat.le_trans Z34 E39.1
  have K39 : Keep h0 h39 [] := K34.ext E39
  have E_b39 := A39
  have F_readers_b39 : Fld Z h39 b39 cND "readers" "Ljava/util/List;" .null := D39 (Or.inr (w94 hw)) (ty := (.object "java/util/List")) (by decide)
  have F_derivations_b39 : Fld Z h39 b39 cPN "derivations" dD .null := D39 (Or.inr (w123 hw)) (ty := (.object cDV)) (by decide)
  have F_told_b39 : Fld Z h39 b39 cPN "told" dC .null := D39 (Or.inr (w127 hw)) (ty := (.object cTC)) (by decide)
  have F_indexes_b39 : Fld Z h39 b39 cPN "indexes" "Ljava/util/Map;" .null := D39 (Or.inr (w145 hw)) (ty := (.object "java/util/Map")) (by decide)
  have F_fixpoint_b39 : Fld Z h39 b39 cPN "fixpoint" dF .null := D39 (Or.inr (w147 hw)) (ty := (.object "com/example/reteweave/reteweave/network/Fixpoint")) (by decide)
  have c41 : Sta Z h13 cAL "DEFAULTCAPACITY_EMPTY_ELEMENTDATA" cOA (.ref eD) := ((own_Sta (S_DEFAULTCAPACITY_EMPTY_ELEMENTDATA.ext E3) kq4 (fun _ m => nomatch m)).wr W13)
  have c42 : Sta Z T19.heap cAL "DEFAULTCAPACITY_EMPTY_ELEMENTDATA" cOA (.ref eD) := (own_Sta ((own_Sta c41 kq14 (fun _ m => nomatch m)).ext E18) kq19 (fun _ m => nomatch m))
  have S_ArrayList_DEFAULTCAPACITY_EMPTY_ELEMENTDATA_u43 : Sta Z h39 cAL "DEFAULTCAPACITY_EMPTY_ELEMENTDATA" cOA (.ref eD) := ((own_Sta (c42.wr W33) kq34 (fun _ m => nomatch m)).ext E39)
  obtain ⟨_, _, ⟨T40, L40, k40', n40'⟩, -, X40, ⟨Lc40, hQ40, l40, y40, z40⟩, st40⟩ := X39.specialBack hx (y := ⟨cPN, "<init>", "()V"⟩) rfl hown (mvT hZ (w57 hw)) (mvT hZ (w58 hw)) (mvT hZ (w59 hw)) (by decide) (backOf (W := 1) (rm9 l Z az hw [] b39 eD h39 n0 Z39 E_b39 F_readers_b39 F_derivations_b39 F_told_b39 F_indexes_b39 F_fixpoint_b39 S_ArrayList_DEFAULTCAPACITY_EMPTY_ELEMENTDATA_u43 g_b39) hZ (w59 hw) (w56 hw) (by decide) (by decide)) (g := (mkF m 220 #[.val (.long q0), .second, .val (.long q1), .second, vI p2, vI p3, .val (.long x1_0), .second, vI x2_0, vR b14_1, vR b34_1, vI (own_p p2), vI (own_k p2 (3 : Int32)), vI x38_0, vI x38_1, vI x38_2, vI x38_3, vI x38_4, .unset, .unset] [(.ref b39), (.ref b39)])) rfl (by rw [hml]; rfl) (Steps.refl _) (a := b39) (argsL := []) (rest := [(.ref b39)]) (lenOf pd_0 rfl) rfl (Nat.le_of_eq rfl) (hb hby at_220) (fun _ _ => ⟨rfl, e39, (own_nle rfl), (own_nle rfl)⟩)
  dsimp only [Pt.U, Pt.locs, Pt.cells, Pt.slots] at X40 l40 y40 z40 st40 hQ40
  subst l40 y40 z40
  obtain ⟨b40_0, b40_1, b40_2, b40_3, b40_4, b40_5, b40_6, b40_7, b40_8, kk40_0, kk40_1, kk40_2, kk40_3, rfl, N40q, s40_0, lt_b40_0_b40_1, lt_b40_1_b40_2, lt_b40_2_b40_3, lt_b40_3_b40_4, lt_b40_4_b40_5, lt_b40_5_b40_6, lt_b40_6_b40_7, lt_b40_7_b40_8, kq40, pf40_0, pf40_1, pf40_2, pf40_3, pf40_4, pf40_5, pf40_6, pf40_7, pf40_8, pf40_9, pf40_10, pf40_11, pf40_12, pf40_13, pf40_14, pf40_15, pf40_16, pf40_17, pf40_18, pf40_19, pf40_20, pf40_21, pf40_22, pf40_23, pf40_24, pf40_25, pf40_26, pf40_27, pf40_28, pf40_29, pf40_30, pf40_31, pf40_32⟩ := hQ40
  obtain ⟨Lg40, X40', N40⟩ := own_gen X40 (Fr.app N38 N40q)
  have g_b40_0 : n0 ≤ b40_0 := Nat.le_trans Z39 s40_0
  have sz_b40_0 : h0.size ≤ b40_0 := Nat.le_trans K39.1 s40_0
  have g_b40_1 : n0 ≤ b40_1 := Nat.le_trans Z39 (Nat.le_trans s40_0 (Nat.le_of_lt lt_b40_0_b40_1))
  have sz_b40_1 : h0.size ≤ b40_1 := Nat.le_trans K39.1 (Nat.le_trans s40_0 (Nat.le_of_lt lt_b40_0_b40_1))
  have g_b40_2 : n0 ≤ b40_2 := Nat.le_trans Z39 (Nat.le_trans s40_0 (Nat.le_of_lt (Nat.lt_trans lt_b40_0_b40_1 lt_b40_1_b40_2)))
  have sz_b40_2 : h0.size ≤ b40_2 := Nat.le_trans K39.1 (Nat.le_trans s40_0 (Nat.le_of_lt (Nat.lt_trans lt_b40_0_b40_1 lt_b40_1_b40_2)))
  have g_b40_3 : n0 ≤ b40_3 := Nat.le_trans Z39 (Nat.le_trans s40_0 (Nat.le_of_lt (Nat.lt_trans (Nat.lt_trans lt_b40_0_b40_1 lt_b40_1_b40_2) lt_b40_2_b40_3)))
  have sz_b40_3 : h0.size ≤ b40_3 := Nat.le_trans K39.1 (Nat.le_trans s40_0 (Nat.le_of_lt (Nat.lt_trans (Nat.lt_trans lt_b40_0_b40_1 lt_b40_1_b40_2) lt_b40_2_b40_3)))
  have g_b40_4 : n0 ≤ b40_4 := Nat.le_trans Z39 (Nat.le_trans s40_0 (Nat.le_of_lt (Nat.lt_trans (Nat.lt_trans (Nat.lt_trans lt_b40_0_b40_1 lt_b40_1_b40_2) lt_b40_2_b40_3) lt_b40_3_b40_4)))
  have sz_b40_4 : h0.size ≤ b40_4 := Nat.le_trans K39.1 (Nat.le_trans s40_0 (Nat.le_of_lt (Nat.lt_trans (Nat.lt_trans (Nat.lt_trans lt_b40_0_b40_1 lt_b40_1_b40_2) lt_b40_2_b40_3) lt_b40_3_b40_4)))
  have g_b40_5 : n0 ≤ b40_5 := Nat.le_trans Z39 (Nat.le_trans s40_0 (Nat.le_of_lt (Nat.lt_trans (Nat.lt_trans (Nat.lt_trans (Nat.lt_trans lt_b40_0_b40_1 lt_b40_1_b40_2) lt_b40_2_b40_3) lt_b40_3_b40_4) lt_b40_4_b40_5)))
  have sz_b40_5 : h0.size ≤ b40_5 := Nat.le_trans K39.1 (Nat.le_trans s40_0 (Nat.le_of_lt (Nat.lt_trans (Nat.lt_trans (Nat.lt_trans (Nat.lt_trans lt_b40_0_b40_1 lt_b40_1_b40_2) lt_b40_2_b40_3) lt_b40_3_b40_4) lt_b40_4_b40_5)))
  have g_b40_6 : n0 ≤ b40_6 := Nat.le_trans Z39 (Nat.le_trans s40_0 (Nat.le_of_lt (Nat.lt_trans (Nat.lt_trans (Nat.lt_trans (Nat.lt_trans (Nat.lt_trans lt_b40_0_b40_1 lt_b40_1_b40_2) lt_b40_2_b40_3) lt_b40_3_b40_4) lt_b40_4_b40_5) lt_b40_5_b40_6)))
  have sz_b40_6 : h0.size ≤ b40_6 := Nat.le_trans K39.1 (Nat.le_trans s40_0 (Nat.le_of_lt (Nat.lt_trans (Nat.lt_trans (Nat.lt_trans (Nat.lt_trans (Nat.lt_trans lt_b40_0_b40_1 lt_b40_1_b40_2) lt_b40_2_b40_3) lt_b40_3_b40_4) lt_b40_4_b40_5) lt_b40_5_b40_6)))
  have g_b40_7 : n0 ≤ b40_7 := Nat.le_trans Z39 (Nat.le_trans s40_0 (Nat.le_of_lt (Nat.lt_trans (Nat.lt_trans (Nat.lt_trans (Nat.lt_trans (Nat.lt_trans (Nat.lt_trans lt_b40_0_b40_1 lt_b40_1_b40_2) lt_b40_2_b40_3) lt_b40_3_b40_4) lt_b40_4_b40_5) lt_b40_5_b40_6) lt_b40_6_b40_7)))
  have sz_b40_7 : h0.size ≤ b40_7 := Nat.le_trans K39.1 (Nat.le_trans s40_0 (Nat.le_of_lt (Nat.lt_trans (Nat.lt_trans (Nat.lt_trans (Nat.lt_trans (Nat.lt_trans (Nat.lt_trans lt_b40_0_b40_1 lt_b40_1_b40_2) lt_b40_2_b40_3) lt_b40_3_b40_4) lt_b40_4_b40_5) lt_b40_5_b40_6) lt_b40_6_b40_7)))
  have g_b40_8 : n0 ≤ b40_8 := Nat.le_trans Z39 (Nat.le_trans s40_0 (Nat.le_of_lt (Nat.lt_trans (Nat.lt_trans (Nat.lt_trans (Nat.lt_trans (Nat.lt_trans (Nat.lt_trans (Nat.lt_trans lt_b40_0_b40_1 lt_b40_1_b40_2) lt_b40_2_b40_3) lt_b40_3_b40_4) lt_b40_4_b40_5) lt_b40_5_b40_6) lt_b40_6_b40_7) lt_b40_7_b40_8)))
  have sz_b40_8 : h0.size ≤ b40_8 := Nat.le_trans K39.1 (Nat.le_trans s40_0 (Nat.le_of_lt (Nat.lt_trans (Nat.lt_trans (Nat.lt_trans (Nat.lt_trans (Nat.lt_trans (Nat.lt_trans (Nat.lt_trans lt_b40_0_b40_1 lt_b40_1_b40_2) lt_b40_2_b40_3) lt_b40_3_b40_4) lt_b40_4_b40_5) lt_b40_5_b40_6) lt_b40_6_b40_7) lt_b40_7_b40_8)))
  have K40 : Keep h0 T40.heap [] := K39.trans kq40 (allS (Or.inr sz_b39) all0)
  have Z40 : n0 ≤ T40.heap.size := Nat.le_trans Z39 kq40.1
  obtain ⟨hn1, hn2, hn3, hn4, hn5⟩ := pf38_0
  rw [pf2_0] at hn1 hn2 hn3 hn4 hn5
  have c45 : Exa Z h33 b14_1 cTU := (((pf14_2.ext E18).keep kq19).wr W33)
  have E_b14_1_u46 : Exa Z T40.heap b14_1 cTU := (((c45.keep kq34).ext E39).keep kq40)
  have ne_b14_1_b18 : b14_1 ≠ b18 := own_ne (Nat.lt_of_lt_of_le pf14_2.lt (Nat.le_of_eq g18.symm))
  have c47 : Fld Z h33 b14_1 cTU "hash" "I" (.int (own_th q0)) := (((pf14_4.ext E18).keep kq19 nin0).other W33 (Or.inl ne_b14_1_b18))
  have ne_b14_1_b39 : b14_1 ≠ b39 := own_ne (Nat.lt_of_lt_of_le (c45.keep kq34).lt (Nat.le_of_eq g39.symm))
  have F_b14_1_hash_u48 : Fld Z T40.heap b14_1 cTU "hash" "I" (.int (own_th q0)) := (((c47.keep kq34 nin0).ext E39).keep kq40 (ninS ne_b14_1_b39 nin0))
  have c49 : Fld Z h33 b14_1 cTU "values" cOA (.ref b14_0) := (((pf14_3.ext E18).keep kq19 nin0).other W33 (Or.inl ne_b14_1_b18))
  have F_b14_1_values_u50 : Fld Z T40.heap b14_1 cTU "values" cOA (.ref b14_0) := (((c49.keep kq34 nin0).ext E39).keep kq40 (ninS ne_b14_1_b39 nin0))
  have ne_b14_0_b18 : b14_0 ≠ b18 := own_ne (Nat.lt_of_lt_of_le pf14_0.lt (Nat.le_of_eq g18.symm))
  have c51 : Arv Z h33 b14_0 k3 (.object "java/lang/Object") (1 : Int32) [(.ref x4_0)] .null := (((pf14_1.ext E18).keep kq19 nin0).other W33 ne_b14_0_b18)
  have c52 : Exa Z h33 b14_0 cOA := (((pf14_0.ext E18).keep kq19).wr W33)
  have ne_b14_0_b39 : b14_0 ≠ b39 := own_ne (Nat.lt_of_lt_of_le (c52.keep kq34).lt (Nat.le_of_eq g39.symm))
  have V_b14_0_u53 : Arv Z T40.heap b14_0 k3 (.object "java/lang/Object") (1 : Int32) [(.ref x4_0)] .null := (((c51.keep kq34 nin0).ext E39).keep kq40 (ninS ne_b14_0_b39 nin0))
  have c54 : Exa Z h33 b14_0 cOA := (((pf14_0.ext E18).keep kq19).wr W33)
  have E_b14_0_u55 : Exa Z T40.heap b14_0 cOA := (((c54.keep kq34).ext E39).keep kq40)
  have c56 : Exa Z T19.heap x4_0 cLG := (((E_x4_0_u16.keep kq14).ext E18).keep kq19)
  have c57 : Exa Z h39 x4_0 cLG := (((c56.wr W33).keep kq34).ext E39)
  have E_x4_0_u58 : Exa Z T40.heap x4_0 cLG := (c57.keep kq40)
  have c59 : Fld Z T19.heap x4_0 cLG "value" "J" (.long q0) := (((F_x4_0_value_u17.keep kq14 nin0).ext E18).keep kq19 nin0)
  have ne_x4_0_b18 : x4_0 ≠ b18 := own_ne (Nat.lt_of_lt_of_le (E_x4_0_u16.keep kq14).lt (Nat.le_of_eq g18.symm))
  have c60 : Fld Z h39 x4_0 cLG "value" "J" (.long q0) := (((c59.other W33 (Or.inl ne_x4_0_b18)).keep kq34 nin0).ext E39)
  have ne_x4_0_b39 : x4_0 ≠ b39 := own_ne (Nat.lt_of_lt_of_le ((c56.wr W33).keep kq34).lt (Nat.le_of_eq g39.symm))
  have F_x4_0_value_u61 : Fld Z T40.heap x4_0 cLG "value" "J" (.long q0) := (c60.keep kq40 (ninS ne_x4_0_b39 nin0))
  have E_b34_1_u62 : Exa Z T40.heap b34_1 cTU := ((pf34_2.ext E39).keep kq40)
  have ne_b34_1_b39 : b34_1 ≠ b39 := own_ne (Nat.lt_of_lt_of_le pf34_2.lt (Nat.le_of_eq g39.symm))
  have F_b34_1_hash_u63 : Fld Z T40.heap b34_1 cTU "hash" "I" (.int (own_th x1_0)) := ((pf34_4.ext E39).keep kq40 (ninS ne_b34_1_b39 nin0))
  have F_b34_1_values_u64 : Fld Z T40.heap b34_1 cTU "values" cOA (.ref b34_0) := ((pf34_3.ext E39).keep kq40 (ninS ne_b34_1_b39 nin0))
  have ne_b34_0_b39 : b34_0 ≠ b39 := own_ne (Nat.lt_of_lt_of_le pf34_0.lt (Nat.le_of_eq g39.symm))
  have V_b34_0_u65 : Arv Z T40.heap b34_0 k18 (.object "java/lang/Object") (1 : Int32) [(.ref x19_0)] .null := ((pf34_1.ext E39).keep kq40 (ninS ne_b34_0_b39 nin0))
  have E_b34_0_u66 : Exa Z T40.heap b34_0 cOA := ((pf34_0.ext E39).keep kq40)
  have E_x19_0_u67 : Exa Z T40.heap x19_0 cLG := (((E_x19_0_u36.keep kq34).ext E39).keep kq40)
  have ne_x19_0_b39 : x19_0 ≠ b39 := own_ne (Nat.lt_of_lt_of_le (E_x19_0_u36.keep kq34).lt (Nat.le_of_eq g39.symm))
  have F_x19_0_value_u68 : Fld Z T40.heap x19_0 cLG "value" "J" (.long x1_0) := (((F_x19_0_value_u37.keep kq34 nin0).ext E39).keep kq40 (ninS ne_x19_0_b39 nin0))
  have ne_b14_1_b34_1 : b14_1 ≠ b34_1 := own_ne (Nat.lt_of_lt_of_le c45.lt (Nat.le_trans s34_0 (Nat.le_of_lt lt_b34_0_b34_1)))
  have ne_b14_0_b34_0 : b14_0 ≠ b34_0 := own_ne (Nat.lt_of_lt_of_le c54.lt s34_0)
  obtain ⟨cq44, kq44, q44a, q44b, q44c⟩ := isOf hZ rfl pf40_0
  obtain ⟨_, _, ⟨T44, L44, k44', n44'⟩, -, X44, ⟨Lc44, hQ44, l44, y44, z44⟩, st44⟩ := X40'.virtualBack hx (y := ⟨cPN, "update", dV⟩) (z := ⟨cPN, "update", dV⟩) hown (mvT hZ (w148 hw)) (mvT hZ (w149 hw)) (notFace_of_selects (args := #[]) (mvT hZ (w151 hw))) (mvT hZ (w151 hw)) (mvT hZ (w150 hw)) (by decide) (backOf (W := 0) (rmU l Z az hw [] b39 b14_1 (own_p p2) b40_1 b40_8 b40_0 b40_2 b40_3 b40_4 (0 : Int32) kk40_0 (fun _ => .null) kk40_1 (fun _ => (.long (0 : Int64))) (own_th q0) b34_1 q0 x1_0 (own_th x1_0) (own_S1 q0 x1_0 b14_1 b34_1 p2) T40.heap n0 Z40 pf40_0 pf40_2 pf40_5 pf40_4 pf40_1 pf40_28 pf40_30 pf40_6 pf40_9 pf40_10 pf40_11 pf40_12 pf40_13 pf40_14 pf40_15 pf40_17 pf40_16 pf40_31 pf40_19 pf40_18 E_b14_1_u46 F_b14_1_hash_u48 ⟨b14_0, b34_0, k3, k18, x4_0, x19_0, E_b14_1_u46, F_b14_1_hash_u48, F_b14_1_values_u50, V_b14_0_u53, E_b14_0_u55, E_x4_0_u58, F_x4_0_value_u61, E_b34_1_u62, F_b34_1_hash_u63, F_b34_1_values_u64, V_b34_0_u65, E_b34_0_u66, E_x19_0_u67, F_x19_0_value_u68, (Ne.symm ne_b14_1_b34_1), (Ne.symm ne_b14_0_b34_0)⟩ E_b34_1_u62 (own_st1 q0 x1_0 b14_1 b34_1 p2) g_b40_3 g_b40_4 g_b40_2) hZ (w152 hw) (w56 hw) (by decide) (by decide)) q44a q44c (g := (mkF m 231 #[.val (.long q0), .second, .val (.long q1), .second, vI p2, vI p3, .val (.long x1_0), .second, vI x2_0, vR b14_1, vR b34_1, vI (own_p p2), vI (own_k p2 (3 : Int32)), vI x38_0, vI x38_1, vI x38_2, vI x38_3, vI x38_4, vR b39, .unset] [(.int (own_p p2)), (.ref b14_1), (.ref b39)])) rfl (by rw [hml]; rfl) (Steps.refl _) (argsL := [(.ref b14_1), (.int (own_p p2))]) (rest := []) (lenOf pd_23 rfl) rfl (Nat.le_of_eq rfl) (hb hby at_231) (fun _ _ => ⟨rfl, rfl, (own_nle rfl), (own_nle rfl)⟩)
  dsimp only [Pt.U, Pt.locs, Pt.cells, Pt.slots] at X44 l44 y44 z44 st44 hQ44
  subst l44 y44 z44
  obtain ⟨x44_0, x44_1, x44_2, rfl, N44q, kq44, pf44_0, pf44_1, pf44_2, pf44_3, pf44_4, pf44_5, pf44_6, pf44_7, pf44_8⟩ := hQ44
  obtain ⟨Lg44, X44', N44⟩ := own_gen X44 (Fr.app N40 N44q)
  have K44 : Keep h0 T44.heap [] := K40.trans kq44 (allS (Or.inr sz_b40_3) (allS (Or.inr sz_b40_4) (allS (Or.inr sz_b40_2) all0)))
  have Z44 : n0 ≤ T44.heap.size := Nat.le_trans Z40 kq44.1
  have E_b39_u70 : Exa Z T44.heap b39 cPN := (pf40_0.keep kq44)
  have ne_b39_b40_3 : b39 ≠ b40_3 := own_ne (Nat.lt_of_lt_of_le E_b39.lt (Nat.le_trans s40_0 (Nat.le_of_lt (Nat.lt_trans (Nat.lt_trans lt_b40_0_b40_1 lt_b40_1_b40_2) lt_b40_2_b40_3))))
  have ne_b39_b40_4 : b39 ≠ b40_4 := own_ne (Nat.lt_of_lt_of_le E_b39.lt (Nat.le_trans s40_0 (Nat.le_of_lt (Nat.lt_trans (Nat.lt_trans (Nat.lt_trans lt_b40_0_b40_1 lt_b40_1_b40_2) lt_b40_2_b40_3) lt_b40_3_b40_4))))
  have ne_b39_b40_2 : b39 ≠ b40_2 := own_ne (Nat.lt_of_lt_of_le E_b39.lt (Nat.le_trans s40_0 (Nat.le_of_lt (Nat.lt_trans lt_b40_0_b40_1 lt_b40_1_b40_2))))
  have F_b39_derivations_u71 : Fld Z T44.heap b39 cPN "derivations" dD (.ref b40_1) := (pf40_2.keep kq44 (ninS ne_b39_b40_3 (ninS ne_b39_b40_4 (ninS ne_b39_b40_2 nin0))))
  have F_b39_fixpoint_u72 : Fld Z T44.heap b39 cPN "fixpoint" dF .null := (pf40_5.keep kq44 (ninS ne_b39_b40_3 (ninS ne_b39_b40_4 (ninS ne_b39_b40_2 nin0))))
  have F_b39_indexes_u73 : Fld Z T44.heap b39 cPN "indexes" "Ljava/util/Map;" (.ref b40_8) := (pf40_4.keep kq44 (ninS ne_b39_b40_3 (ninS ne_b39_b40_4 (ninS ne_b39_b40_2 nin0))))
  have F_b39_readers_u74 : Fld Z T44.heap b39 cND "readers" "Ljava/util/List;" (.ref b40_0) := (pf40_1.keep kq44 (ninS ne_b39_b40_3 (ninS ne_b39_b40_4 (ninS ne_b39_b40_2 nin0))))
  have E_b40_8_u75 : Exa Z T44.heap b40_8 cHM := (pf40_28.keep kq44)
  have ne_b40_3_b40_8 : b40_3 ≠ b40_8 := own_ne (Nat.lt_trans (Nat.lt_trans (Nat.lt_trans (Nat.lt_trans lt_b40_3_b40_4 lt_b40_4_b40_5) lt_b40_5_b40_6) lt_b40_6_b40_7) lt_b40_7_b40_8)
  have ne_b40_4_b40_8 : b40_4 ≠ b40_8 := own_ne (Nat.lt_trans (Nat.lt_trans (Nat.lt_trans lt_b40_4_b40_5 lt_b40_5_b40_6) lt_b40_6_b40_7) lt_b40_7_b40_8)
  have ne_b40_2_b40_8 : b40_2 ≠ b40_8 := own_ne (Nat.lt_trans (Nat.lt_trans (Nat.lt_trans (Nat.lt_trans (Nat.lt_trans lt_b40_2_b40_3 lt_b40_3_b40_4) lt_b40_4_b40_5) lt_b40_5_b40_6) lt_b40_6_b40_7) lt_b40_7_b40_8)
  have F_b40_8_size_u76 : Fld Z T44.heap b40_8 cHM "size" "I" (.int (0 : Int32)) := (pf40_30.keep kq44 (ninS (Ne.symm ne_b40_3_b40_8) (ninS (Ne.symm ne_b40_4_b40_8) (ninS (Ne.symm ne_b40_2_b40_8) nin0))))
  have E_b40_0_u77 : Exa Z T44.heap b40_0 cAL := (pf40_6.keep kq44)
  have ne_b40_0_b40_3 : b40_0 ≠ b40_3 := own_ne (Nat.lt_trans (Nat.lt_trans lt_b40_0_b40_1 lt_b40_1_b40_2) lt_b40_2_b40_3)
  have ne_b40_0_b40_4 : b40_0 ≠ b40_4 := own_ne (Nat.lt_trans (Nat.lt_trans (Nat.lt_trans lt_b40_0_b40_1 lt_b40_1_b40_2) lt_b40_2_b40_3) lt_b40_3_b40_4)
  have ne_b40_0_b40_2 : b40_0 ≠ b40_2 := own_ne (Nat.lt_trans lt_b40_0_b40_1 lt_b40_1_b40_2)
  have F_b40_0_size_u78 : Fld Z T44.heap b40_0 cAL "size" "I" (.int (0 : Int32)) := (pf40_9.keep kq44 (ninS ne_b40_0_b40_3 (ninS ne_b40_0_b40_4 (ninS ne_b40_0_b40_2 nin0))))
  have E_b40_1_u79 : Exa Z T44.heap b40_1 cDV := (pf40_10.keep kq44)
  have ne_b40_1_b40_3 : b40_1 ≠ b40_3 := own_ne (Nat.lt_trans lt_b40_1_b40_2 lt_b40_2_b40_3)
  have ne_b40_1_b40_4 : b40_1 ≠ b40_4 := own_ne (Nat.lt_trans (Nat.lt_trans lt_b40_1_b40_2 lt_b40_2_b40_3) lt_b40_3_b40_4)
  have ne_b40_1_b40_2 : b40_1 ≠ b40_2 := own_ne lt_b40_1_b40_2
  have F_b40_1_counts_u80 : Fld Z T44.heap b40_1 cDV "counts" dC (.ref b40_2) := (pf40_11.keep kq44 (ninS ne_b40_1_b40_3 (ninS ne_b40_1_b40_4 (ninS ne_b40_1_b40_2 nin0))))
  have E_b34_1_u81 : Exa Z T44.heap b34_1 cTU := (E_b34_1_u62.keep kq44)
  have ne_b34_1_b40_3 : b34_1 ≠ b40_3 := own_ne (Nat.lt_of_lt_of_le (pf34_2.ext E39).lt (Nat.le_trans s40_0 (Nat.le_of_lt (Nat.lt_trans (Nat.lt_trans lt_b40_0_b40_1 lt_b40_1_b40_2) lt_b40_2_b40_3))))
  have ne_b34_1_b40_4 : b34_1 ≠ b40_4 := own_ne (Nat.lt_of_lt_of_le (pf34_2.ext E39).lt (Nat.le_trans s40_0 (Nat.le_of_lt (Nat.lt_trans (Nat.lt_trans (Nat.lt_trans lt_b40_0_b40_1 lt_b40_1_b40_2) lt_b40_2_b40_3) lt_b40_3_b40_4))))
  have ne_b34_1_b40_2 : b34_1 ≠ b40_2 := own_ne (Nat.lt_of_lt_of_le (pf34_2.ext E39).lt (Nat.le_trans s40_0 (Nat.le_of_lt (Nat.lt_trans lt_b40_0_b40_1 lt_b40_1_b40_2))))
  have F_b34_1_hash_u82 : Fld Z T44.heap b34_1 cTU "hash" "I" (.int (own_th x1_0)) := (F_b34_1_hash_u63.keep kq44 (ninS ne_b34_1_b40_3 (ninS ne_b34_1_b40_4 (ninS ne_b34_1_b40_2 nin0))))
  have F_b34_1_values_u83 : Fld Z T44.heap b34_1 cTU "values" cOA (.ref b34_0) := (F_b34_1_values_u64.keep kq44 (ninS ne_b34_1_b40_3 (ninS ne_b34_1_b40_4 (ninS ne_b34_1_b40_2 nin0))))
  have ne_b34_0_b40_3 : b34_0 ≠ b40_3 := own_ne (Nat.lt_of_lt_of_le (pf34_0.ext E39).lt (Nat.le_trans s40_0 (Nat.le_of_lt (Nat.lt_trans (Nat.lt_trans lt_b40_0_b40_1 lt_b40_1_b40_2) lt_b40_2_b40_3))))
  have ne_b34_0_b40_4 : b34_0 ≠ b40_4 := own_ne (Nat.lt_of_lt_of_le (pf34_0.ext E39).lt (Nat.le_trans s40_0 (Nat.le_of_lt (Nat.lt_trans (Nat.lt_trans (Nat.lt_trans lt_b40_0_b40_1 lt_b40_1_b40_2) lt_b40_2_b40_3) lt_b40_3_b40_4))))
  have ne_b34_0_b40_2 : b34_0 ≠ b40_2 := own_ne (Nat.lt_of_lt_of_le (pf34_0.ext E39).lt (Nat.le_trans s40_0 (Nat.le_of_lt (Nat.lt_trans lt_b40_0_b40_1 lt_b40_1_b40_2))))
  have V_b34_0_u84 : Arv Z T44.heap b34_0 k18 (.object "java/lang/Object") (1 : Int32) [(.ref x19_0)] .null := (V_b34_0_u65.keep kq44 (ninS ne_b34_0_b40_3 (ninS ne_b34_0_b40_4 (ninS ne_b34_0_b40_2 nin0))))
  have E_b34_0_u85 : Exa Z T44.heap b34_0 cOA := (E_b34_0_u66.keep kq44)
  have E_x19_0_u86 : Exa Z T44.heap x19_0 cLG := (E_x19_0_u67.keep kq44)
  have ne_x19_0_b40_3 : x19_0 ≠ b40_3 := own_ne (Nat.lt_of_lt_of_le ((E_x19_0_u36.keep kq34).ext E39).lt (Nat.le_trans s40_0 (Nat.le_of_lt (Nat.lt_trans (Nat.lt_trans lt_b40_0_b40_1 lt_b40_1_b40_2) lt_b40_2_b40_3))))
  have ne_x19_0_b40_4 : x19_0 ≠ b40_4 := own_ne (Nat.lt_of_lt_of_le ((E_x19_0_u36.keep kq34).ext E39).lt (Nat.le_trans s40_0 (Nat.le_of_lt (Nat.lt_trans (Nat.lt_trans (Nat.lt_trans lt_b40_0_b40_1 lt_b40_1_b40_2) lt_b40_2_b40_3) lt_b40_3_b40_4))))
  have ne_x19_0_b40_2 : x19_0 ≠ b40_2 := own_ne (Nat.lt_of_lt_of_le ((E_x19_0_u36.keep kq34).ext E39).lt (Nat.le_trans s40_0 (Nat.le_of_lt (Nat.lt_trans lt_b40_0_b40_1 lt_b40_1_b40_2))))
  have F_x19_0_value_u87 : Fld Z T44.heap x19_0 cLG "value" "J" (.long x1_0) := (F_x19_0_value_u68.keep kq44 (ninS ne_x19_0_b40_3 (ninS ne_x19_0_b40_4 (ninS ne_x19_0_b40_2 nin0))))
  have E_b14_1_u88 : Exa Z T44.heap b14_1 cTU := (E_b14_1_u46.keep kq44)
  have ne_b14_1_b40_3 : b14_1 ≠ b40_3 := own_ne (Nat.lt_of_lt_of_le ((c45.keep kq34).ext E39).lt (Nat.le_trans s40_0 (Nat.le_of_lt (Nat.lt_trans (Nat.lt_trans lt_b40_0_b40_1 lt_b40_1_b40_2) lt_b40_2_b40_3))))
  have ne_b14_1_b40_4 : b14_1 ≠ b40_4 := own_ne (Nat.lt_of_lt_of_le ((c45.keep kq34).ext E39).lt (Nat.le_trans s40_0 (Nat.le_of_lt (Nat.lt_trans (Nat.lt_trans (Nat.lt_trans lt_b40_0_b40_1 lt_b40_1_b40_2) lt_b40_2_b40_3) lt_b40_3_b40_4))))
  have ne_b14_1_b40_2 : b14_1 ≠ b40_2 := own_ne (Nat.lt_of_lt_of_le ((c45.keep kq34).ext E39).lt (Nat.le_trans s40_0 (Nat.le_of_lt (Nat.lt_trans lt_b40_0_b40_1 lt_b40_1_b40_2))))
  have F_b14_1_hash_u89 : Fld Z T44.heap b14_1 cTU "hash" "I" (.int (own_th q0)) := (F_b14_1_hash_u48.keep kq44 (ninS ne_b14_1_b40_3 (ninS ne_b14_1_b40_4 (ninS ne_b14_1_b40_2 nin0))))
  have F_b14_1_values_u90 : Fld Z T44.heap b14_1 cTU "values" cOA (.ref b14_0) := (F_b14_1_values_u50.keep kq44 (ninS ne_b14_1_b40_3 (ninS ne_b14_1_b40_4 (ninS ne_b14_1_b40_2 nin0))))
  have ne_b14_0_b40_3 : b14_0 ≠ b40_3 := own_ne (Nat.lt_of_lt_of_le ((c54.keep kq34).ext E39).lt (Nat.le_trans s40_0 (Nat.le_of_lt (Nat.lt_trans (Nat.lt_trans lt_b40_0_b40_1 lt_b40_1_b40_2) lt_b40_2_b40_3))))
  have ne_b14_0_b40_4 : b14_0 ≠ b40_4 := own_ne (Nat.lt_of_lt_of_le ((c54.keep kq34).ext E39).lt (Nat.le_trans s40_0 (Nat.le_of_lt (Nat.lt_trans (Nat.lt_trans (Nat.lt_trans lt_b40_0_b40_1 lt_b40_1_b40_2) lt_b40_2_b40_3) lt_b40_3_b40_4))))
  have ne_b14_0_b40_2 : b14_0 ≠ b40_2 := own_ne (Nat.lt_of_lt_of_le ((c54.keep kq34).ext E39).lt (Nat.le_trans s40_0 (Nat.le_of_lt (Nat.lt_trans lt_b40_0_b40_1 lt_b40_1_b40_2))))
  have V_b14_0_u91 : Arv Z T44.heap b14_0 k3 (.object "java/lang/Object") (1 : Int32) [(.ref x4_0)] .null := (V_b14_0_u53.keep kq44 (ninS ne_b14_0_b40_3 (ninS ne_b14_0_b40_4 (ninS ne_b14_0_b40_2 nin0))))
  have E_b14_0_u92 : Exa Z T44.heap b14_0 cOA := (E_b14_0_u55.keep kq44)
  have E_x4_0_u93 : Exa Z T44.heap x4_0 cLG := (E_x4_0_u58.keep kq44)
  have ne_x4_0_b40_3 : x4_0 ≠ b40_3 := own_ne (Nat.lt_of_lt_of_le c57.lt (Nat.le_trans s40_0 (Nat.le_of_lt (Nat.lt_trans (Nat.lt_trans lt_b40_0_b40_1 lt_b40_1_b40_2) lt_b40_2_b40_3))))
  have ne_x4_0_b40_4 : x4_0 ≠ b40_4 := own_ne (Nat.lt_of_lt_of_le c57.lt (Nat.le_trans s40_0 (Nat.le_of_lt (Nat.lt_trans (Nat.lt_trans (Nat.lt_trans lt_b40_0_b40_1 lt_b40_1_b40_2) lt_b40_2_b40_3) lt_b40_3_b40_4))))
  have ne_x4_0_b40_2 : x4_0 ≠ b40_2 := own_ne (Nat.lt_of_lt_of_le c57.lt (Nat.le_trans s40_0 (Nat.le_of_lt (Nat.lt_trans lt_b40_0_b40_1 lt_b40_1_b40_2))))
  have F_x4_0_value_u94 : Fld Z T44.heap x4_0 cLG "value" "J" (.long q0) := (F_x4_0_value_u61.keep kq44 (ninS ne_x4_0_b40_3 (ninS ne_x4_0_b40_4 (ninS ne_x4_0_b40_2 nin0))))
  obtain ⟨cq69, kq69, q69a, q69b, q69c⟩ := isOf hZ rfl E_b39_u70
  obtain ⟨_, _, ⟨T69, L69, k69', n69'⟩, -, X69, ⟨Lc69, hQ69, l69, y69, z69⟩, st69⟩ := X44'.virtualBack hx (y := ⟨cPN, "update", dV⟩) (z := ⟨cPN, "update", dV⟩) hown (mvT hZ (w148 hw)) (mvT hZ (w149 hw)) (notFace_of_selects (args := #[]) (mvT hZ (w151 hw))) (mvT hZ (w151 hw)) (mvT hZ (w150 hw)) (by decide) (backOf (W := 0) (rmU l Z az hw [] b39 b34_1 (own_k p2 (3 : Int32)) b40_1 b40_8 b40_0 b40_2 b40_3 b40_4 x44_2 kk40_0 x44_0 kk40_1 x44_1 (own_th x1_0) b14_1 x1_0 q0 (own_th q0) (own_S2 q0 x1_0 b14_1 b34_1 p2) T44.heap n0 Z44 E_b39_u70 F_b39_derivations_u71 F_b39_fixpoint_u72 F_b39_indexes_u73 F_b39_readers_u74 E_b40_8_u75 F_b40_8_size_u76 E_b40_0_u77 F_b40_0_size_u78 E_b40_1_u79 F_b40_1_counts_u80 pf44_4 pf44_5 pf44_6 pf44_7 pf44_0 pf44_1 pf40_31 pf44_2 pf44_3 E_b34_1_u81 F_b34_1_hash_u82 ⟨b34_0, b14_0, k18, k3, x19_0, x4_0, E_b34_1_u81, F_b34_1_hash_u82, F_b34_1_values_u83, V_b34_0_u84, E_b34_0_u85, E_x19_0_u86, F_x19_0_value_u87, E_b14_1_u88, F_b14_1_hash_u89, F_b14_1_values_u90, V_b14_0_u91, E_b14_0_u92, E_x4_0_u93, F_x4_0_value_u94, ne_b14_1_b34_1, ne_b14_0_b34_0⟩ E_b14_1_u88 (own_st2 pf44_8) g_b40_3 g_b40_4 g_b40_2) hZ (w152 hw) (w56 hw) (by decide) (by decide)) q69a q69c (g := (mkF m 240 #[.val (.long q0), .second, .val (.long q1), .second, vI p2, vI p3, .val (.long x1_0), .second, vI x2_0, vR b14_1, vR b34_1, vI (own_p p2), vI (own_k p2 (3 : Int32)), vI x38_0, vI x38_1, vI x38_2, vI x38_3, vI x38_4, vR b39, .unset] [(.int (own_k p2 (3 : Int32))), (.ref b34_1), (.ref b39)])) rfl (by rw [hml]; rfl) (Steps.refl _) (argsL := [(.ref b34_1), (.int (own_k p2 (3 : Int32)))]) (rest := []) (lenOf pd_23 rfl) rfl (Nat.le_of_eq rfl) (hb hby at_240) (fun _ _ => ⟨rfl, rfl, (own_nle rfl), (own_nle rfl)⟩)
  dsimp only [Pt.U, Pt.locs, Pt.cells, Pt.slots] at X69 l69 y69 z69 st69 hQ69
  subst l69 y69 z69
  obtain ⟨x69_0, x69_1, x69_2, rfl, N69q, kq69, pf69_0, pf69_1, pf69_2, pf69_3, pf69_4, pf69_5, pf69_6, pf69_7, pf69_8⟩ := hQ69
  obtain ⟨Lg69, X69', N69⟩ := own_gen X69 (Fr.app N44 N69q)
  have K69 : Keep h0 T69.heap [] := K44.trans kq69 (allS (Or.inr sz_b40_3) (allS (Or.inr sz_b40_4) (allS (Or.inr sz_b40_2) all0)))
  have Z69 : n0 ≤ T69.heap.size := Nat.le_trans Z44 kq69.1
  have E_b39_u96 : Exa Z T69.heap b39 cPN := (E_b39_u70.keep kq69)
  have F_b39_derivations_u97 : Fld Z T69.heap b39 cPN "derivations" dD (.ref b40_1) := (F_b39_derivations_u71.keep kq69 (ninS ne_b39_b40_3 (ninS ne_b39_b40_4 (ninS ne_b39_b40_2 nin0))))
  have F_b39_fixpoint_u98 : Fld Z T69.heap b39 cPN "fixpoint" dF .null := (F_b39_fixpoint_u72.keep kq69 (ninS ne_b39_b40_3 (ninS ne_b39_b40_4 (ninS ne_b39_b40_2 nin0))))
  have F_b39_indexes_u99 : Fld Z T69.heap b39 cPN "indexes" "Ljava/util/Map;" (.ref b40_8) := (F_b39_indexes_u73.keep kq69 (ninS ne_b39_b40_3 (ninS ne_b39_b40_4 (ninS ne_b39_b40_2 nin0))))
  have F_b39_readers_u100 : Fld Z T69.heap b39 cND "readers" "Ljava/util/List;" (.ref b40_0) := (F_b39_readers_u74.keep kq69 (ninS ne_b39_b40_3 (ninS ne_b39_b40_4 (ninS ne_b39_b40_2 nin0))))
  have E_b40_8_u101 : Exa Z T69.heap b40_8 cHM := (E_b40_8_u75.keep kq69)
  have F_b40_8_size_u102 : Fld Z T69.heap b40_8 cHM "size" "I" (.int (0 : Int32)) := (F_b40_8_size_u76.keep kq69 (ninS (Ne.symm ne_b40_3_b40_8) (ninS (Ne.symm ne_b40_4_b40_8) (ninS (Ne.symm ne_b40_2_b40_8) nin0))))
  have E_b40_0_u103 : Exa Z T69.heap b40_0 cAL := (E_b40_0_u77.keep kq69)
  have F_b40_0_size_u104 : Fld Z T69.heap b40_0 cAL "size" "I" (.int (0 : Int32)) := (F_b40_0_size_u78.keep kq69 (ninS ne_b40_0_b40_3 (ninS ne_b40_0_b40_4 (ninS ne_b40_0_b40_2 nin0))))
  have E_b40_1_u105 : Exa Z T69.heap b40_1 cDV := (E_b40_1_u79.keep kq69)
  have F_b40_1_counts_u106 : Fld Z T69.heap b40_1 cDV "counts" dC (.ref b40_2) := (F_b40_1_counts_u80.keep kq69 (ninS ne_b40_1_b40_3 (ninS ne_b40_1_b40_4 (ninS ne_b40_1_b40_2 nin0))))
  have E_b14_1_u107 : Exa Z T69.heap b14_1 cTU := (E_b14_1_u88.keep kq69)
  have F_b14_1_hash_u108 : Fld Z T69.heap b14_1 cTU "hash" "I" (.int (own_th q0)) := (F_b14_1_hash_u89.keep kq69 (ninS ne_b14_1_b40_3 (ninS ne_b14_1_b40_4 (ninS ne_b14_1_b40_2 nin0))))
  have F_b14_1_values_u109 : Fld Z T69.heap b14_1 cTU "values" cOA (.ref b14_0) := (F_b14_1_values_u90.keep kq69 (ninS ne_b14_1_b40_3 (ninS ne_b14_1_b40_4 (ninS ne_b14_1_b40_2 nin0))))
  have V_b14_0_u110 : Arv Z T69.heap b14_0 k3 (.object "java/lang/Object") (1 : Int32) [(.ref x4_0)] .null := (V_b14_0_u91.keep kq69 (ninS ne_b14_0_b40_3 (ninS ne_b14_0_b40_4 (ninS ne_b14_0_b40_2 nin0))))
  have E_b14_0_u111 : Exa Z T69.heap b14_0 cOA := (E_b14_0_u92.keep kq69)
  have E_x4_0_u112 : Exa Z T69.heap x4_0 cLG := (E_x4_0_u93.keep kq69)
  have F_x4_0_value_u113 : Fld Z T69.heap x4_0 cLG "value" "J" (.long q0) := (F_x4_0_value_u94.keep kq69 (ninS ne_x4_0_b40_3 (ninS ne_x4_0_b40_4 (ninS ne_x4_0_b40_2 nin0))))
  have E_b34_1_u114 : Exa Z T69.heap b34_1 cTU := (E_b34_1_u81.keep kq69)
  have F_b34_1_hash_u115 : Fld Z T69.heap b34_1 cTU "hash" "I" (.int (own_th x1_0)) := (F_b34_1_hash_u82.keep kq69 (ninS ne_b34_1_b40_3 (ninS ne_b34_1_b40_4 (ninS ne_b34_1_b40_2 nin0))))
  have F_b34_1_values_u116 : Fld Z T69.heap b34_1 cTU "values" cOA (.ref b34_0) := (F_b34_1_values_u83.keep kq69 (ninS ne_b34_1_b40_3 (ninS ne_b34_1_b40_4 (ninS ne_b34_1_b40_2 nin0))))
  have V_b34_0_u117 : Arv Z T69.heap b34_0 k18 (.object "java/lang/Object") (1 : Int32) [(.ref x19_0)] .null := (V_b34_0_u84.keep kq69 (ninS ne_b34_0_b40_3 (ninS ne_b34_0_b40_4 (ninS ne_b34_0_b40_2 nin0))))
  have E_b34_0_u118 : Exa Z T69.heap b34_0 cOA := (E_b34_0_u85.keep kq69)
  have E_x19_0_u119 : Exa Z T69.heap x19_0 cLG := (E_x19_0_u86.keep kq69)
  have F_x19_0_value_u120 : Fld Z T69.heap x19_0 cLG "value" "J" (.long x1_0) := (F_x19_0_value_u87.keep kq69 (ninS ne_x19_0_b40_3 (ninS ne_x19_0_b40_4 (ninS ne_x19_0_b40_2 nin0))))
  obtain ⟨cq95, kq95, q95a, q95b, q95c⟩ := isOf hZ rfl E_b39_u96
  obtain ⟨_, _, ⟨T95, L95, k95', n95'⟩, -, X95, ⟨Lc95, hQ95, l95, y95, z95⟩, st95⟩ := X69'.virtualBack hx (y := ⟨cPN, "update", dV⟩) (z := ⟨cPN, "update", dV⟩) hown (mvT hZ (w148 hw)) (mvT hZ (w149 hw)) (notFace_of_selects (args := #[]) (mvT hZ (w151 hw))) (mvT hZ (w151 hw)) (mvT hZ (w150 hw)) (by decide) (backOf (W := 0) (rmU l Z az hw [] b39 b14_1 (-x38_2) b40_1 b40_8 b40_0 b40_2 b40_3 b40_4 x69_2 kk40_0 x69_0 kk40_1 x69_1 (own_th q0) b34_1 q0 x1_0 (own_th x1_0) (own_S3 q0 x1_0 b14_1 b34_1 p2) T69.heap n0 Z69 E_b39_u96 F_b39_derivations_u97 F_b39_fixpoint_u98 F_b39_indexes_u99 F_b39_readers_u100 E_b40_8_u101 F_b40_8_size_u102 E_b40_0_u103 F_b40_0_size_u104 E_b40_1_u105 F_b40_1_counts_u106 pf69_4 pf69_5 pf69_6 pf69_7 pf69_0 pf69_1 pf40_31 pf69_2 pf69_3 E_b14_1_u107 F_b14_1_hash_u108 ⟨b14_0, b34_0, k3, k18, x4_0, x19_0, E_b14_1_u107, F_b14_1_hash_u108, F_b14_1_values_u109, V_b14_0_u110, E_b14_0_u111, E_x4_0_u112, F_x4_0_value_u113, E_b34_1_u114, F_b34_1_hash_u115, F_b34_1_values_u116, V_b34_0_u117, E_b34_0_u118, E_x19_0_u119, F_x19_0_value_u120, (Ne.symm ne_b14_1_b34_1), (Ne.symm ne_b14_0_b34_0)⟩ E_b34_1_u114 (by rw [hn3]; exact own_st3 pf69_8) g_b40_3 g_b40_4 g_b40_2) hZ (w152 hw) (w56 hw) (by decide) (by decide)) q95a q95c (g := (mkF m 250 #[.val (.long q0), .second, .val (.long q1), .second, vI p2, vI p3, .val (.long x1_0), .second, vI x2_0, vR b14_1, vR b34_1, vI (own_p p2), vI (own_k p2 (3 : Int32)), vI x38_0, vI x38_1, vI x38_2, vI x38_3, vI x38_4, vR b39, .unset] [(.int (-x38_2)), (.ref b14_1), (.ref b39)])) rfl (by rw [hml]; rfl) (Steps.refl _) (argsL := [(.ref b14_1), (.int (-x38_2))]) (rest := []) (lenOf pd_23 rfl) rfl (Nat.le_of_eq rfl) (hb hby at_250) (fun _ _ => ⟨rfl, rfl, (own_nle rfl), (own_nle rfl)⟩)
  dsimp only [Pt.U, Pt.locs, Pt.cells, Pt.slots] at X95 l95 y95 z95 st95 hQ95
  subst l95 y95 z95
  obtain ⟨x95_0, x95_1, x95_2, rfl, N95q, kq95, pf95_0, pf95_1, pf95_2, pf95_3, pf95_4, pf95_5, pf95_6, pf95_7, pf95_8⟩ := hQ95
  obtain ⟨Lg95, X95', N95⟩ := own_gen X95 (Fr.app N69 N95q)
  have K95 : Keep h0 T95.heap [] := K69.trans kq95 (allS (Or.inr sz_b40_3) (allS (Or.inr sz_b40_4) (allS (Or.inr sz_b40_2) all0)))
  have Z95 : n0 ≤ T95.heap.size := Nat.le_trans Z69 kq95.1
  have E_b39_u122 : Exa Z T95.heap b39 cPN := (E_b39_u96.keep kq95)
  have F_b39_derivations_u123 : Fld Z T95.heap b39 cPN "derivations" dD (.ref b40_1) := (F_b39_derivations_u97.keep kq95 (ninS ne_b39_b40_3 (ninS ne_b39_b40_4 (ninS ne_b39_b40_2 nin0))))
  have F_b39_fixpoint_u124 : Fld Z T95.heap b39 cPN "fixpoint" dF .null := (F_b39_fixpoint_u98.keep kq95 (ninS ne_b39_b40_3 (ninS ne_b39_b40_4 (ninS ne_b39_b40_2 nin0))))
  have F_b39_indexes_u125 : Fld Z T95.heap b39 cPN "indexes" "Ljava/util/Map;" (.ref b40_8) := (F_b39_indexes_u99.keep kq95 (ninS ne_b39_b40_3 (ninS ne_b39_b40_4 (ninS ne_b39_b40_2 nin0))))
  have F_b39_readers_u126 : Fld Z T95.heap b39 cND "readers" "Ljava/util/List;" (.ref b40_0) := (F_b39_readers_u100.keep kq95 (ninS ne_b39_b40_3 (ninS ne_b39_b40_4 (ninS ne_b39_b40_2 nin0))))
  have E_b40_8_u127 : Exa Z T95.heap b40_8 cHM := (E_b40_8_u101.keep kq95)
  have F_b40_8_size_u128 : Fld Z T95.heap b40_8 cHM "size" "I" (.int (0 : Int32)) := (F_b40_8_size_u102.keep kq95 (ninS (Ne.symm ne_b40_3_b40_8) (ninS (Ne.symm ne_b40_4_b40_8) (ninS (Ne.symm ne_b40_2_b40_8) nin0))))
  have E_b40_0_u129 : Exa Z T95.heap b40_0 cAL := (E_b40_0_u103.keep kq95)
  have F_b40_0_size_u130 : Fld Z T95.heap b40_0 cAL "size" "I" (.int (0 : Int32)) := (F_b40_0_size_u104.keep kq95 (ninS ne_b40_0_b40_3 (ninS ne_b40_0_b40_4 (ninS ne_b40_0_b40_2 nin0))))
  have E_b40_1_u131 : Exa Z T95.heap b40_1 cDV := (E_b40_1_u105.keep kq95)
  have F_b40_1_counts_u132 : Fld Z T95.heap b40_1 cDV "counts" dC (.ref b40_2) := (F_b40_1_counts_u106.keep kq95 (ninS ne_b40_1_b40_3 (ninS ne_b40_1_b40_4 (ninS ne_b40_1_b40_2 nin0))))
  have E_b34_1_u133 : Exa Z T95.heap b34_1 cTU := (E_b34_1_u114.keep kq95)
  have F_b34_1_hash_u134 : Fld Z T95.heap b34_1 cTU "hash" "I" (.int (own_th x1_0)) := (F_b34_1_hash_u115.keep kq95 (ninS ne_b34_1_b40_3 (ninS ne_b34_1_b40_4 (ninS ne_b34_1_b40_2 nin0))))
  have F_b34_1_values_u135 : Fld Z T95.heap b34_1 cTU "values" cOA (.ref b34_0) := (F_b34_1_values_u116.keep kq95 (ninS ne_b34_1_b40_3 (ninS ne_b34_1_b40_4 (ninS ne_b34_1_b40_2 nin0))))
  have V_b34_0_u136 : Arv Z T95.heap b34_0 k18 (.object "java/lang/Object") (1 : Int32) [(.ref x19_0)] .null := (V_b34_0_u117.keep kq95 (ninS ne_b34_0_b40_3 (ninS ne_b34_0_b40_4 (ninS ne_b34_0_b40_2 nin0))))
  have E_b34_0_u137 : Exa Z T95.heap b34_0 cOA := (E_b34_0_u118.keep kq95)
  have E_x19_0_u138 : Exa Z T95.heap x19_0 cLG := (E_x19_0_u119.keep kq95)
  have F_x19_0_value_u139 : Fld Z T95.heap x19_0 cLG "value" "J" (.long x1_0) := (F_x19_0_value_u120.keep kq95 (ninS ne_x19_0_b40_3 (ninS ne_x19_0_b40_4 (ninS ne_x19_0_b40_2 nin0))))
  have E_b14_1_u140 : Exa Z T95.heap b14_1 cTU := (E_b14_1_u107.keep kq95)
  have F_b14_1_hash_u141 : Fld Z T95.heap b14_1 cTU "hash" "I" (.int (own_th q0)) := (F_b14_1_hash_u108.keep kq95 (ninS ne_b14_1_b40_3 (ninS ne_b14_1_b40_4 (ninS ne_b14_1_b40_2 nin0))))
  have F_b14_1_values_u142 : Fld Z T95.heap b14_1 cTU "values" cOA (.ref b14_0) := (F_b14_1_values_u109.keep kq95 (ninS ne_b14_1_b40_3 (ninS ne_b14_1_b40_4 (ninS ne_b14_1_b40_2 nin0))))
  have V_b14_0_u143 : Arv Z T95.heap b14_0 k3 (.object "java/lang/Object") (1 : Int32) [(.ref x4_0)] .null := (V_b14_0_u110.keep kq95 (ninS ne_b14_0_b40_3 (ninS ne_b14_0_b40_4 (ninS ne_b14_0_b40_2 nin0))))
  have E_b14_0_u144 : Exa Z T95.heap b14_0 cOA := (E_b14_0_u111.keep kq95)
  have E_x4_0_u145 : Exa Z T95.heap x4_0 cLG := (E_x4_0_u112.keep kq95)
  have F_x4_0_value_u146 : Fld Z T95.heap x4_0 cLG "value" "J" (.long q0) := (F_x4_0_value_u113.keep kq95 (ninS ne_x4_0_b40_3 (ninS ne_x4_0_b40_4 (ninS ne_x4_0_b40_2 nin0))))
  obtain ⟨cq121, kq121, q121a, q121b, q121c⟩ := isOf hZ rfl E_b39_u122
  obtain ⟨_, _, ⟨T121, L121, k121', n121'⟩, -, X121, ⟨Lc121, hQ121, l121, y121, z121⟩, st121⟩ := X95'.virtualBack hx (y := ⟨cPN, "update", dV⟩) (z := ⟨cPN, "update", dV⟩) hown (mvT hZ (w148 hw)) (mvT hZ (w149 hw)) (notFace_of_selects (args := #[]) (mvT hZ (w151 hw))) (mvT hZ (w151 hw)) (mvT hZ (w150 hw)) (by decide) (backOf (W := 0) (rmU l Z az hw [] b39 b34_1 (-x38_3) b40_1 b40_8 b40_0 b40_2 b40_3 b40_4 x95_2 kk40_0 x95_0 kk40_1 x95_1 (own_th x1_0) b14_1 x1_0 q0 (own_th q0) (own_S4 q0 x1_0 b14_1 b34_1 p2) T95.heap n0 Z95 E_b39_u122 F_b39_derivations_u123 F_b39_fixpoint_u124 F_b39_indexes_u125 F_b39_readers_u126 E_b40_8_u127 F_b40_8_size_u128 E_b40_0_u129 F_b40_0_size_u130 E_b40_1_u131 F_b40_1_counts_u132 pf95_4 pf95_5 pf95_6 pf95_7 pf95_0 pf95_1 pf40_31 pf95_2 pf95_3 E_b34_1_u133 F_b34_1_hash_u134 ⟨b34_0, b14_0, k18, k3, x19_0, x4_0, E_b34_1_u133, F_b34_1_hash_u134, F_b34_1_values_u135, V_b34_0_u136, E_b34_0_u137, E_x19_0_u138, F_x19_0_value_u139, E_b14_1_u140, F_b14_1_hash_u141, F_b14_1_values_u142, V_b14_0_u143, E_b14_0_u144, E_x4_0_u145, F_x4_0_value_u146, ne_b14_1_b34_1, ne_b14_0_b34_0⟩ E_b14_1_u140 (by rw [hn4]; exact own_st4 pf95_8) g_b40_3 g_b40_4 g_b40_2) hZ (w152 hw) (w56 hw) (by decide) (by decide)) q121a q121c (g := (mkF m 260 #[.val (.long q0), .second, .val (.long q1), .second, vI p2, vI p3, .val (.long x1_0), .second, vI x2_0, vR b14_1, vR b34_1, vI (own_p p2), vI (own_k p2 (3 : Int32)), vI x38_0, vI x38_1, vI x38_2, vI x38_3, vI x38_4, vR b39, .unset] [(.int (-x38_3)), (.ref b34_1), (.ref b39)])) rfl (by rw [hml]; rfl) (Steps.refl _) (argsL := [(.ref b34_1), (.int (-x38_3))]) (rest := []) (lenOf pd_23 rfl) rfl (Nat.le_of_eq rfl) (hb hby at_260) (fun _ _ => ⟨rfl, rfl, (own_nle rfl), (own_nle rfl)⟩)
  dsimp only [Pt.U, Pt.locs, Pt.cells, Pt.slots] at X121 l121 y121 z121 st121 hQ121
  subst l121 y121 z121
  obtain ⟨x121_0, x121_1, x121_2, rfl, N121q, kq121, pf121_0, pf121_1, pf121_2, pf121_3, pf121_4, pf121_5, pf121_6, pf121_7, pf121_8⟩ := hQ121
  obtain ⟨Lg121, X121', N121⟩ := own_gen X121 (Fr.app N95 N121q)
  have K121 : Keep h0 T121.heap [] := K95.trans kq121 (allS (Or.inr sz_b40_3) (allS (Or.inr sz_b40_4) (allS (Or.inr sz_b40_2) all0)))
  have Z121 : n0 ≤ T121.heap.size := Nat.le_trans Z95 kq121.1
  have E_b39_u148 : Exa Z T121.heap b39 cPN := (E_b39_u122.keep kq121)
  have F_b39_derivations_u149 : Fld Z T121.heap b39 cPN "derivations" dD (.ref b40_1) := (F_b39_derivations_u123.keep kq121 (ninS ne_b39_b40_3 (ninS ne_b39_b40_4 (ninS ne_b39_b40_2 nin0))))
  have F_b39_fixpoint_u150 : Fld Z T121.heap b39 cPN "fixpoint" dF .null := (F_b39_fixpoint_u124.keep kq121 (ninS ne_b39_b40_3 (ninS ne_b39_b40_4 (ninS ne_b39_b40_2 nin0))))
  have E_b40_1_u151 : Exa Z T121.heap b40_1 cDV := (E_b40_1_u131.keep kq121)
  have F_b40_1_counts_u152 : Fld Z T121.heap b40_1 cDV "counts" dC (.ref b40_2) := (F_b40_1_counts_u132.keep kq121 (ninS ne_b40_1_b40_3 (ninS ne_b40_1_b40_4 (ninS ne_b40_1_b40_2 nin0))))
  obtain ⟨cq147, kq147, q147a, q147b, q147c⟩ := isOf hZ rfl E_b39_u148
  obtain ⟨_, _, ⟨T147, L147, k147', n147'⟩, -, X147, ⟨Lc147, hQ147, l147, y147, z147⟩, st147⟩ := X121'.virtualBack hx (y := ⟨cPN, "matches", "()Ljava/util/Set;"⟩) (z := ⟨cPN, "matches", "()Ljava/util/Set;"⟩) hown (mvT hZ (w188 hw)) (mvT hZ (w189 hw)) (notFace_of_selects (args := #[]) (mvT hZ (w191 hw))) (mvT hZ (w191 hw)) (mvT hZ (w190 hw)) (by decide) (backOf (W := 0) (rm28 l Z az hw [] b39 b40_1 b40_2 T121.heap n0 Z121 E_b39_u148 F_b39_derivations_u149 F_b39_fixpoint_u150 E_b40_1_u151 F_b40_1_counts_u152 pf121_4) hZ (w192 hw) (w56 hw) (by decide) (by decide)) q147a q147c (g := (mkF m 265 #[.val (.long q0), .second, .val (.long q1), .second, vI p2, vI p3, .val (.long x1_0), .second, vI x2_0, vR b14_1, vR b34_1, vI (own_p p2), vI (own_k p2 (3 : Int32)), vI x38_0, vI x38_1, vI x38_2, vI x38_3, vI x38_4, vR b39, .unset] [(.ref b39)])) rfl (by rw [hml]; rfl) (Steps.refl _) (argsL := []) (rest := []) (lenOf pd_25 rfl) rfl (Nat.le_of_eq rfl) (hb hby at_265) (fun _ _ => ⟨rfl, rfl, (own_nle rfl), (own_nle rfl)⟩)
  dsimp only [Pt.U, Pt.locs, Pt.cells, Pt.slots] at X147 l147 y147 z147 st147 hQ147
  subst l147 y147 z147
  obtain ⟨b147_0, rfl, N147q, s147_0, kq147, pf147_0, pf147_1⟩ := hQ147
  obtain ⟨Lg147, X147', N147⟩ := own_gen X147 (Fr.app N121 N147q)
  have g_b147_0 : n0 ≤ b147_0 := Nat.le_trans Z121 s147_0
  have sz_b147_0 : h0.size ≤ b147_0 := Nat.le_trans K121.1 s147_0
  have K147 : Keep h0 T147.heap [] := K121.trans kq147 all0
  have Z147 : n0 ≤ T147.heap.size := Nat.le_trans Z121 kq147.1
  have E_b40_2_u154 : Exa Z T147.heap b40_2 cTC := (pf121_4.keep kq147)
  have F_b40_2_size_u155 : Fld Z T147.heap b40_2 cSL "size" "I" (.int x121_2) := (pf121_7.keep kq147 nin0)
  obtain ⟨cq153, kq153, q153a, q153b, q153c⟩ := isOf hZ rfl pf147_0
  obtain ⟨_, _, ⟨T153, L153, k153', n153'⟩, -, X153, ⟨Lc153, hQ153, l153, y153, z153⟩, st153⟩ := X147'.interfaceBack hx (xi := ⟨"java/util/Set", "size", "()I"⟩) (y := ⟨cVW, "size", "()I"⟩) hown (mvT hZ (w218 hw)) (mvT hZ (w219 hw)) (mvT hZ (w220 hw)) (mvT hZ (w221 hw)) (mvT hZ (w222 hw)) (mvT hZ (w223 hw)) (mvT hZ (w224 hw)) (mvT hZ (w225 hw)) (by decide) (backOf (W := 0) (rm33 l Z az hw [] b147_0 b40_2 x121_2 T147.heap n0 Z147 pf147_0 pf147_1 E_b40_2_u154 F_b40_2_size_u155) hZ (w226 hw) (w205 hw) (by decide) (by decide)) q153a q153b q153c (g := (mkF m 272 #[.val (.long q0), .second, .val (.long q1), .second, vI p2, vI p3, .val (.long x1_0), .second, vI x2_0, vR b14_1, vR b34_1, vI (own_p p2), vI (own_k p2 (3 : Int32)), vI x38_0, vI x38_1, vI x38_2, vI x38_3, vI x38_4, vR b39, vR b147_0] [(.ref b147_0)])) rfl (by rw [hml]; rfl) (Steps.refl _) (argsL := []) (rest := []) (lenOf pd_3 rfl) rfl (Nat.le_of_eq rfl) (hb hby at_272) (fun _ _ => ⟨rfl, rfl, (own_nle rfl), (own_nle rfl)⟩)
  dsimp only [Pt.U, Pt.locs, Pt.cells, Pt.slots] at X153 l153 y153 z153 st153 hQ153
  subst l153 y153 z153
  obtain ⟨rfl, N153q, e153⟩ := hQ153
  obtain ⟨Lg153, X153', N153⟩ := own_gen X153 (Fr.app N147 N153q)
  have hpv156 : x121_2 = x38_4 := (own_st5 pf121_8).1.trans hn5.symm
  have F_b40_2_held_u158 : Fld Z T147.heap b40_2 cSL "held" cOA (.ref b40_3) := (pf121_5.keep kq147 nin0)
  have F_b40_2_hashesAndCounts_u159 : Fld Z T147.heap b40_2 cSL "hashesAndCounts" "[J" (.ref b40_4) := (pf121_6.keep kq147 nin0)
  have V_b40_3_u160 : own_Arf Z T147.heap b40_3 kk40_0 (.object "java/lang/Object") (4 : Int32) x121_0 := (pf121_0.keep kq147 nin0)
  have E_b40_3_u161 : Exa Z T147.heap b40_3 cOA := (pf121_1.keep kq147)
  have V_b40_4_u162 : own_Arf Z T147.heap b40_4 kk40_1 .long (4 : Int32) x121_1 := (pf121_2.keep kq147 nin0)
  have E_b40_4_u163 : Exa Z T147.heap b40_4 "[J" := (pf121_3.keep kq147)
  have E_b14_1_u164 : Exa Z T147.heap b14_1 cTU := ((E_b14_1_u140.keep kq121).keep kq147)
  have F_b14_1_hash_u165 : Fld Z T147.heap b14_1 cTU "hash" "I" (.int (own_th q0)) := ((F_b14_1_hash_u141.keep kq121 (ninS ne_b14_1_b40_3 (ninS ne_b14_1_b40_4 (ninS ne_b14_1_b40_2 nin0)))).keep kq147 nin0)
  have F_b14_1_values_u166 : Fld Z T147.heap b14_1 cTU "values" cOA (.ref b14_0) := ((F_b14_1_values_u142.keep kq121 (ninS ne_b14_1_b40_3 (ninS ne_b14_1_b40_4 (ninS ne_b14_1_b40_2 nin0)))).keep kq147 nin0)
  have V_b14_0_u167 : Arv Z T147.heap b14_0 k3 (.object "java/lang/Object") (1 : Int32) [(.ref x4_0)] .null := ((V_b14_0_u143.keep kq121 (ninS ne_b14_0_b40_3 (ninS ne_b14_0_b40_4 (ninS ne_b14_0_b40_2 nin0)))).keep kq147 nin0)
  have E_b14_0_u168 : Exa Z T147.heap b14_0 cOA := ((E_b14_0_u144.keep kq121).keep kq147)
  have E_x4_0_u169 : Exa Z T147.heap x4_0 cLG := ((E_x4_0_u145.keep kq121).keep kq147)
  have F_x4_0_value_u170 : Fld Z T147.heap x4_0 cLG "value" "J" (.long q0) := ((F_x4_0_value_u146.keep kq121 (ninS ne_x4_0_b40_3 (ninS ne_x4_0_b40_4 (ninS ne_x4_0_b40_2 nin0)))).keep kq147 nin0)
  have E_b34_1_u171 : Exa Z T147.heap b34_1 cTU := ((E_b34_1_u133.keep kq121).keep kq147)
  have F_b34_1_hash_u172 : Fld Z T147.heap b34_1 cTU "hash" "I" (.int (own_th x1_0)) := ((F_b34_1_hash_u134.keep kq121 (ninS ne_b34_1_b40_3 (ninS ne_b34_1_b40_4 (ninS ne_b34_1_b40_2 nin0)))).keep kq147 nin0)
  have F_b34_1_values_u173 : Fld Z T147.heap b34_1 cTU "values" cOA (.ref b34_0) := ((F_b34_1_values_u135.keep kq121 (ninS ne_b34_1_b40_3 (ninS ne_b34_1_b40_4 (ninS ne_b34_1_b40_2 nin0)))).keep kq147 nin0)
  have V_b34_0_u174 : Arv Z T147.heap b34_0 k18 (.object "java/lang/Object") (1 : Int32) [(.ref x19_0)] .null := ((V_b34_0_u136.keep kq121 (ninS ne_b34_0_b40_3 (ninS ne_b34_0_b40_4 (ninS ne_b34_0_b40_2 nin0)))).keep kq147 nin0)
  have E_b34_0_u175 : Exa Z T147.heap b34_0 cOA := ((E_b34_0_u137.keep kq121).keep kq147)
  have E_x19_0_u176 : Exa Z T147.heap x19_0 cLG := ((E_x19_0_u138.keep kq121).keep kq147)
  have F_x19_0_value_u177 : Fld Z T147.heap x19_0 cLG "value" "J" (.long x1_0) := ((F_x19_0_value_u139.keep kq121 (ninS ne_x19_0_b40_3 (ninS ne_x19_0_b40_4 (ninS ne_x19_0_b40_2 nin0)))).keep kq147 nin0)
  obtain ⟨cq157, kq157, q157a, q157b, q157c⟩ := isOf hZ e153 pf147_0
  obtain ⟨_, _, ⟨T157, L157, k157', n157'⟩, -, X157, ⟨Lc157, hQ157, l157, y157, z157⟩, st157⟩ := X153'.interfaceBack hx (xi := ⟨"java/util/Set", "contains", "(Ljava/lang/Object;)Z"⟩) (y := ⟨cVW, "contains", "(Ljava/lang/Object;)Z"⟩) hown (mvT hZ (w235 hw)) (mvT hZ (w236 hw)) (mvT hZ (w237 hw)) (mvT hZ (w238 hw)) (mvT hZ (w239 hw)) (mvT hZ (w240 hw)) (mvT hZ (w241 hw)) (mvT hZ (w225 hw)) (by decide) (backOf (W := 0) (rmCO l Z az hw [] b147_0 b14_1 b40_2 b40_3 b40_4 kk40_0 x121_0 kk40_1 x121_1 (own_th q0) b34_1 q0 x1_0 (own_th x1_0) x38_0 T147.heap n0 Z147 pf147_0 pf147_1 E_b40_2_u154 F_b40_2_held_u158 F_b40_2_hashesAndCounts_u159 V_b40_3_u160 E_b40_3_u161 V_b40_4_u162 E_b40_4_u163 E_b14_1_u164 F_b14_1_hash_u165 ⟨b14_0, b34_0, k3, k18, x4_0, x19_0, E_b14_1_u164, F_b14_1_hash_u165, F_b14_1_values_u166, V_b14_0_u167, E_b14_0_u168, E_x4_0_u169, F_x4_0_value_u170, E_b34_1_u171, F_b34_1_hash_u172, F_b34_1_values_u173, V_b34_0_u174, E_b34_0_u175, E_x19_0_u176, F_x19_0_value_u177, (Ne.symm ne_b14_1_b34_1), (Ne.symm ne_b14_0_b34_0)⟩ (by rw [hn1]; exact (own_st5 pf121_8).2.1)) hZ (w242 hw) (w205 hw) (by decide) (by decide)) q157a q157b q157c (g := (mkF m 286 #[.val (.long q0), .second, .val (.long q1), .second, vI p2, vI p3, .val (.long x1_0), .second, vI x2_0, vR b14_1, vR b34_1, vI (own_p p2), vI (own_k p2 (3 : Int32)), vI x38_0, vI x38_1, vI x38_2, vI x38_3, vI x38_4, vR b39, vR b147_0] [(.ref b14_1), (.ref b147_0)])) rfl (by rw [hml]; rfl) (Steps.refl _) (argsL := [(.ref b14_1)]) (rest := []) (lenOf pd_11 rfl) rfl (Nat.le_of_eq rfl) (hb hby at_286) (fun _ _ => ⟨rfl, e153, (own_nle rfl), (own_nle rfl)⟩)
  dsimp only [Pt.U, Pt.locs, Pt.cells, Pt.slots] at X157 l157 y157 z157 st157 hQ157
  subst l157 y157 z157
  obtain ⟨rfl, N157q, e157⟩ := hQ157
  obtain ⟨Lg157, X157', N157⟩ := own_gen X157 (Fr.app N153 N157q)
  obtain ⟨T178, hs178, g178, ⟨rfl, es178⟩, ⟨Lg178, X178, e178, N178⟩, st178⟩ := sgG4 l Z az hw hx hby hml hown hZ (.val (.long q0)) .second (.val (.long q1)) .second (vI p2) (vI p3) (.val (.long x1_0)) .second (vI x2_0) (vR b14_1) (vR b34_1) (vI (own_p p2)) (vI (own_k p2 (3 : Int32))) x38_0 (vI x38_1) (vI x38_2) (vI x38_3) (vI x38_4) (vR b39) (vR b147_0) (own_gz x38_0) T147.heap n0 Z147 T157 ⟨_, X157', e157, N157⟩
  rw [es178] at e178
  obtain ⟨cq179, kq179, q179a, q179b, q179c⟩ := isOf hZ e178 pf147_0
  obtain ⟨_, _, ⟨T179, L179, k179', n179'⟩, -, X179, ⟨Lc179, hQ179, l179, y179, z179⟩, st179⟩ := X178.interfaceBack hx (xi := ⟨"java/util/Set", "contains", "(Ljava/lang/Object;)Z"⟩) (y := ⟨cVW, "contains", "(Ljava/lang/Object;)Z"⟩) hown (mvT hZ (w235 hw)) (mvT hZ (w236 hw)) (mvT hZ (w237 hw)) (mvT hZ (w238 hw)) (mvT hZ (w239 hw)) (mvT hZ (w240 hw)) (mvT hZ (w241 hw)) (mvT hZ (w225 hw)) (by decide) (backOf (W := 0) (rmCO l Z az hw [] b147_0 b34_1 b40_2 b40_3 b40_4 kk40_0 x121_0 kk40_1 x121_1 (own_th x1_0) b14_1 x1_0 q0 (own_th q0) x38_1 T147.heap n0 Z147 pf147_0 pf147_1 E_b40_2_u154 F_b40_2_held_u158 F_b40_2_hashesAndCounts_u159 V_b40_3_u160 E_b40_3_u161 V_b40_4_u162 E_b40_4_u163 E_b34_1_u171 F_b34_1_hash_u172 ⟨b34_0, b14_0, k18, k3, x19_0, x4_0, E_b34_1_u171, F_b34_1_hash_u172, F_b34_1_values_u173, V_b34_0_u174, E_b34_0_u175, E_x19_0_u176, F_x19_0_value_u177, E_b14_1_u164, F_b14_1_hash_u165, F_b14_1_values_u166, V_b14_0_u167, E_b14_0_u168, E_x4_0_u169, F_x4_0_value_u170, ne_b14_1_b34_1, ne_b14_0_b34_0⟩ (by rw [hn2]; exact (own_st5 pf121_8).2.2)) hZ (w242 hw) (w205 hw) (by decide) (by decide)) q179a q179b q179c (g := (mkF m 308 #[.val (.long q0), .second, .val (.long q1), .second, vI p2, vI p3, .val (.long x1_0), .second, vI x2_0, vR b14_1, vR b34_1, vI (own_p p2), vI (own_k p2 (3 : Int32)), vI x38_0, vI x38_1, vI x38_2, vI x38_3, vI x38_4, vR b39, vR b147_0] [(.ref b34_1), (.ref b147_0)])) rfl (by rw [hml]; rfl) (Steps.refl _) (argsL := [(.ref b34_1)]) (rest := []) (lenOf pd_11 rfl) rfl (Nat.le_of_eq rfl) (hb hby at_308) (fun _ _ => ⟨rfl, e178, (own_nle rfl), (own_nle rfl)⟩)
  dsimp only [Pt.U, Pt.locs, Pt.cells, Pt.slots] at X179 l179 y179 z179 st179 hQ179
  subst l179 y179 z179
  obtain ⟨rfl, N179q, e179⟩ := hQ179
  obtain ⟨Lg179, X179', N179⟩ := own_gen X179 (Fr.app N178 N179q)
  obtain ⟨T180, hs180, g180, ⟨rfl, es180⟩, ⟨Lg180, X180, e180, N180⟩, st180⟩ := sgG5 l Z az hw hx hby hml hown hZ (.val (.long q0)) .second (.val (.long q1)) .second (vI p2) (vI p3) (.val (.long x1_0)) .second (vI x2_0) (vR b14_1) (vR b34_1) (vI (own_p p2)) (vI (own_k p2 (3 : Int32))) (vI x38_0) x38_1 (vI x38_2) (vI x38_3) (vI x38_4) (vR b39) (vR b147_0) (own_gz x38_1) T147.heap n0 Z147 T179 ⟨_, X179', e179, N179⟩
  rw [es180] at e180
  obtain ⟨fs, hr, hrun, hended, hW, hsame⟩ := X180.leave (v := some (.int (1 : Int32))) (fun h => by rw [Bd.returns] at h; cases h) Bd.notSynchronized
  refine ⟨_, _, pre0 _ ?_, hrun, hended, _, _, rfl, ?_, ⟨_, rfl⟩, hW, hsame.mono (by decide) (by decide)⟩
  · show SP p e below s₁ (mkF m 0 #[.val (.long q0), .second, .val (.long q1), .second, vI p2, vI p3, .unset, .unset, .unset, .unset, .unset, .unset, .unset, .unset, .unset, .unset, .unset, .unset, .unset, .unset] []) _
    refine st1 _ ?_
    show SP p e below T1 (mkF m 14 #[.val (.long q0), .second, .val (.long q1), .second, vI p2, vI p3, .val (.long x1_0), .second, .unset, .unset, .unset, .unset, .unset, .unset, .unset, .unset, .unset, .unset, .unset, .unset] []) _
    refine st2 _ ?_
    show SP p e below T2 (mkF m 28 #[.val (.long q0), .second, .val (.long q1), .second, vI p2, vI p3, .val (.long x1_0), .second, vI x2_0, .unset, .unset, .unset, .unset, .unset, .unset, .unset, .unset, .unset, .unset, .unset] []) _
    refine XS.iconst X2.here hx rfl (hb hby at_28) ?_
    show SP p e below T2 (mkF m 29 #[.val (.long q0), .second, .val (.long q1), .second, vI p2, vI p3, .val (.long x1_0), .second, vI x2_0, .unset, .unset, .unset, .unset, .unset, .unset, .unset, .unset, .unset, .unset, .unset] [(.int (1 : Int32))]) _
    refine st3 _ ?_
    show SP p e below T3 (mkF m 32 #[.val (.long q0), .second, .val (.long q1), .second, vI p2, vI p3, .val (.long x1_0), .second, vI x2_0, .unset, .unset, .unset, .unset, .unset, .unset, .unset, .unset, .unset, .unset, .unset] [(.ref b3)]) _
    refine XS.dup X3.here hx rfl (hb hby at_32) rfl rfl ?_
    refine XS.iconst X3.here hx rfl (hb hby at_33) ?_
    refine XS.lloadN X3.here hx rfl (hb hby at_34) rfl ?_
    show SP p e below T3 (mkF m 35 #[.val (.long q0), .second, .val (.long q1), .second, vI p2, vI p3, .val (.long x1_0), .second, vI x2_0, .unset, .unset, .unset, .unset, .unset, .unset, .unset, .unset, .unset, .unset, .unset] [(.long q0), (.int (0 : Int32)), (.ref b3), (.ref b3)]) _
    refine st4 _ ?_
    show SP p e below T4 (mkF m 38 #[.val (.long q0), .second, .val (.long q1), .second, vI p2, vI p3, .val (.long x1_0), .second, vI x2_0, .unset, .unset, .unset, .unset, .unset, .unset, .unset, .unset, .unset, .unset, .unset] [(.ref x4_0), (.int (0 : Int32)), (.ref b3), (.ref b3)]) _
    refine st13 _ ?_
    show SP p e below T13 (mkF m 39 #[.val (.long q0), .second, .val (.long q1), .second, vI p2, vI p3, .val (.long x1_0), .second, vI x2_0, .unset, .unset, .unset, .unset, .unset, .unset, .unset, .unset, .unset, .unset, .unset] [(.ref b3)]) _
    refine st14 _ ?_
    show SP p e below T14 (mkF m 42 #[.val (.long q0), .second, .val (.long q1), .second, vI p2, vI p3, .val (.long x1_0), .second, vI x2_0, .unset, .unset, .unset, .unset, .unset, .unset, .unset, .unset, .unset, .unset, .unset] [(.ref b14_1)]) _
    refine XS.astore X14'.here hx rfl (hb hby at_42) rfl rfl (l' := #[.val (.long q0), .second, .val (.long q1), .second, vI p2, vI p3, .val (.long x1_0), .second, vI x2_0, vR b14_1, .unset, .unset, .unset, .unset, .unset, .unset, .unset, .unset, .unset, .unset]) rfl ?_
    refine XS.iconst X14'.here hx rfl (hb hby at_44) ?_
    show SP p e below T14 (mkF m 45 #[.val (.long q0), .second, .val (.long q1), .second, vI p2, vI p3, .val (.long x1_0), .second, vI x2_0, vR b14_1, .unset, .unset, .unset, .unset, .unset, .unset, .unset, .unset, .unset, .unset] [(.int (1 : Int32))]) _
    refine st18 _ ?_
    show SP p e below T18 (mkF m 48 #[.val (.long q0), .second, .val (.long q1), .second, vI p2, vI p3, .val (.long x1_0), .second, vI x2_0, vR b14_1, .unset, .unset, .unset, .unset, .unset, .unset, .unset, .unset, .unset, .unset] [(.ref b18)]) _
    refine XS.dup X18.here hx rfl (hb hby at_48) rfl rfl ?_
    refine XS.iconst X18.here hx rfl (hb hby at_49) ?_
    refine XS.lload X18.here hx rfl (hb hby at_50) rfl ?_
    show SP p e below T18 (mkF m 52 #[.val (.long q0), .second, .val (.long q1), .second, vI p2, vI p3, .val (.long x1_0), .second, vI x2_0, vR b14_1, .unset, .unset, .unset, .unset, .unset, .unset, .unset, .unset, .unset, .unset] [(.long x1_0), (.int (0 : Int32)), (.ref b18), (.ref b18)]) _
    refine st19 _ ?_
    show SP p e below T19 (mkF m 55 #[.val (.long q0), .second, .val (.long q1), .second, vI p2, vI p3, .val (.long x1_0), .second, vI x2_0, vR b14_1, .unset, .unset, .unset, .unset, .unset, .unset, .unset, .unset, .unset, .unset] [(.ref x19_0), (.int (0 : Int32)), (.ref b18), (.ref b18)]) _
    refine st33 _ ?_
    show SP p e below T33 (mkF m 56 #[.val (.long q0), .second, .val (.long q1), .second, vI p2, vI p3, .val (.long x1_0), .second, vI x2_0, vR b14_1, .unset, .unset, .unset, .unset, .unset, .unset, .unset, .unset, .unset, .unset] [(.ref b18)]) _
    refine st34 _ ?_
    show SP p e below T34 (mkF m 59 #[.val (.long q0), .second, .val (.long q1), .second, vI p2, vI p3, .val (.long x1_0), .second, vI x2_0, vR b14_1, .unset, .unset, .unset, .unset, .unset, .unset, .unset, .unset, .unset, .unset] [(.ref b34_1)]) _
    refine XS.astore X34'.here hx rfl (hb hby at_59) rfl rfl (l' := #[.val (.long q0), .second, .val (.long q1), .second, vI p2, vI p3, .val (.long x1_0), .second, vI x2_0, vR b14_1, vR b34_1, .unset, .unset, .unset, .unset, .unset, .unset, .unset, .unset, .unset]) rfl ?_
    show SP p e below T34 (mkF m 61 #[.val (.long q0), .second, .val (.long q1), .second, vI p2, vI p3, .val (.long x1_0), .second, vI x2_0, vR b14_1, vR b34_1, .unset, .unset, .unset, .unset, .unset, .unset, .unset, .unset, .unset] []) _
    refine st38 _ ?_
    show SP p e below T38 (mkF m 216 #[.val (.long q0), .second, .val (.long q1), .second, vI p2, vI p3, .val (.long x1_0), .second, vI x2_0, vR b14_1, vR b34_1, vI (own_p p2), vI (own_k p2 (3 : Int32)), vI x38_0, vI x38_1, vI x38_2, vI x38_3, vI x38_4, .unset, .unset] []) _
    refine st39 _ ?_
    show SP p e below T39 (mkF m 219 #[.val (.long q0), .second, .val (.long q1), .second, vI p2, vI p3, .val (.long x1_0), .second, vI x2_0, vR b14_1, vR b34_1, vI (own_p p2), vI (own_k p2 (3 : Int32)), vI x38_0, vI x38_1, vI x38_2, vI x38_3, vI x38_4, .unset, .unset] [(.ref b39)]) _
    refine XS.dup X39.here hx rfl (hb hby at_219) rfl rfl ?_
    show SP p e below T39 (mkF m 220 #[.val (.long q0), .second, .val (.long q1), .second, vI p2, vI p3, .val (.long x1_0), .second, vI x2_0, vR b14_1, vR b34_1, vI (own_p p2), vI (own_k p2 (3 : Int32)), vI x38_0, vI x38_1, vI x38_2, vI x38_3, vI x38_4, .unset, .unset] [(.ref b39), (.ref b39)]) _
    refine st40.trans ?_
    show SP p e below T40 (mkF m 223 #[.val (.long q0), .second, .val (.long q1), .second, vI p2, vI p3, .val (.long x1_0), .second, vI x2_0, vR b14_1, vR b34_1, vI (own_p p2), vI (own_k p2 (3 : Int32)), vI x38_0, vI x38_1, vI x38_2, vI x38_3, vI x38_4, .unset, .unset] [(.ref b39)]) _
    refine XS.astore X40'.here hx rfl (hb hby at_223) rfl rfl (l' := #[.val (.long q0), .second, .val (.long q1), .second, vI p2, vI p3, .val (.long x1_0), .second, vI x2_0, vR b14_1, vR b34_1, vI (own_p p2), vI (own_k p2 (3 : Int32)), vI x38_0, vI x38_1, vI x38_2, vI x38_3, vI x38_4, vR b39, .unset]) rfl ?_
    refine XS.aload X40'.here hx rfl (hb hby at_225) rfl rfl ?_
    refine XS.aload X40'.here hx rfl (hb hby at_227) rfl rfl ?_
    refine XS.iload X40'.here hx rfl (hb hby at_229) rfl ?_
    show SP p e below T40 (mkF m 231 #[.val (.long q0), .second, .val (.long q1), .second, vI p2, vI p3, .val (.long x1_0), .second, vI x2_0, vR b14_1, vR b34_1, vI (own_p p2), vI (own_k p2 (3 : Int32)), vI x38_0, vI x38_1, vI x38_2, vI x38_3, vI x38_4, vR b39, .unset] [(.int (own_p p2)), (.ref b14_1), (.ref b39)]) _
    refine st44.trans ?_
    show SP p e below T44 (mkF m 234 #[.val (.long q0), .second, .val (.long q1), .second, vI p2, vI p3, .val (.long x1_0), .second, vI x2_0, vR b14_1, vR b34_1, vI (own_p p2), vI (own_k p2 (3 : Int32)), vI x38_0, vI x38_1, vI x38_2, vI x38_3, vI x38_4, vR b39, .unset] []) _
    refine XS.aload X44'.here hx rfl (hb hby at_234) rfl rfl ?_
    refine XS.aload X44'.here hx rfl (hb hby at_236) rfl rfl ?_
    refine XS.iload X44'.here hx rfl (hb hby at_238) rfl ?_
    show SP p e below T44 (mkF m 240 #[.val (.long q0), .second, .val (.long q1), .second, vI p2, vI p3, .val (.long x1_0), .second, vI x2_0, vR b14_1, vR b34_1, vI (own_p p2), vI (own_k p2 (3 : Int32)), vI x38_0, vI x38_1, vI x38_2, vI x38_3, vI x38_4, vR b39, .unset] [(.int (own_k p2 (3 : Int32))), (.ref b34_1), (.ref b39)]) _
    refine st69.trans ?_
    show SP p e below T69 (mkF m 243 #[.val (.long q0), .second, .val (.long q1), .second, vI p2, vI p3, .val (.long x1_0), .second, vI x2_0, vR b14_1, vR b34_1, vI (own_p p2), vI (own_k p2 (3 : Int32)), vI x38_0, vI x38_1, vI x38_2, vI x38_3, vI x38_4, vR b39, .unset] []) _
    refine XS.aload X69'.here hx rfl (hb hby at_243) rfl rfl ?_
    refine XS.aload X69'.here hx rfl (hb hby at_245) rfl rfl ?_
    refine XS.iload X69'.here hx rfl (hb hby at_247) rfl ?_
    show SP p e below T69 (mkF m 249 #[.val (.long q0), .second, .val (.long q1), .second, vI p2, vI p3, .val (.long x1_0), .second, vI x2_0, vR b14_1, vR b34_1, vI (own_p p2), vI (own_k p2 (3 : Int32)), vI x38_0, vI x38_1, vI x38_2, vI x38_3, vI x38_4, vR b39, .unset] [(.int x38_2), (.ref b14_1), (.ref b39)]) _
    refine XS.ineg X69'.here hx rfl (hb hby at_249) rfl ?_
    show SP p e below T69 (mkF m 250 #[.val (.long q0), .second, .val (.long q1), .second, vI p2, vI p3, .val (.long x1_0), .second, vI x2_0, vR b14_1, vR b34_1, vI (own_p p2), vI (own_k p2 (3 : Int32)), vI x38_0, vI x38_1, vI x38_2, vI x38_3, vI x38_4, vR b39, .unset] [(.int (-x38_2)), (.ref b14_1), (.ref b39)]) _
    refine st95.trans ?_
    show SP p e below T95 (mkF m 253 #[.val (.long q0), .second, .val (.long q1), .second, vI p2, vI p3, .val (.long x1_0), .second, vI x2_0, vR b14_1, vR b34_1, vI (own_p p2), vI (own_k p2 (3 : Int32)), vI x38_0, vI x38_1, vI x38_2, vI x38_3, vI x38_4, vR b39, .unset] []) _
    refine XS.aload X95'.here hx rfl (hb hby at_253) rfl rfl ?_
    refine XS.aload X95'.here hx rfl (hb hby at_255) rfl rfl ?_
    refine XS.iload X95'.here hx rfl (hb hby at_257) rfl ?_
    show SP p e below T95 (mkF m 259 #[.val (.long q0), .second, .val (.long q1), .second, vI p2, vI p3, .val (.long x1_0), .second, vI x2_0, vR b14_1, vR b34_1, vI (own_p p2), vI (own_k p2 (3 : Int32)), vI x38_0, vI x38_1, vI x38_2, vI x38_3, vI x38_4, vR b39, .unset] [(.int x38_3), (.ref b34_1), (.ref b39)]) _
    refine XS.ineg X95'.here hx rfl (hb hby at_259) rfl ?_
    show SP p e below T95 (mkF m 260 #[.val (.long q0), .second, .val (.long q1), .second, vI p2, vI p3, .val (.long x1_0), .second, vI x2_0, vR b14_1, vR b34_1, vI (own_p p2), vI (own_k p2 (3 : Int32)), vI x38_0, vI x38_1, vI x38_2, vI x38_3, vI x38_4, vR b39, .unset] [(.int (-x38_3)), (.ref b34_1), (.ref b39)]) _
    refine st121.trans ?_
    show SP p e below T121 (mkF m 263 #[.val (.long q0), .second, .val (.long q1), .second, vI p2, vI p3, .val (.long x1_0), .second, vI x2_0, vR b14_1, vR b34_1, vI (own_p p2), vI (own_k p2 (3 : Int32)), vI x38_0, vI x38_1, vI x38_2, vI x38_3, vI x38_4, vR b39, .unset] []) _
    refine XS.aload X121'.here hx rfl (hb hby at_263) rfl rfl ?_
    show SP p e below T121 (mkF m 265 #[.val (.long q0), .second, .val (.long q1), .second, vI p2, vI p3, .val (.long x1_0), .second, vI x2_0, vR b14_1, vR b34_1, vI (own_p p2), vI (own_k p2 (3 : Int32)), vI x38_0, vI x38_1, vI x38_2, vI x38_3, vI x38_4, vR b39, .unset] [(.ref b39)]) _
    refine st147.trans ?_
    show SP p e below T147 (mkF m 268 #[.val (.long q0), .second, .val (.long q1), .second, vI p2, vI p3, .val (.long x1_0), .second, vI x2_0, vR b14_1, vR b34_1, vI (own_p p2), vI (own_k p2 (3 : Int32)), vI x38_0, vI x38_1, vI x38_2, vI x38_3, vI x38_4, vR b39, .unset] [(.ref b147_0)]) _
    refine XS.astore X147'.here hx rfl (hb hby at_268) rfl rfl (l' := #[.val (.long q0), .second, .val (.long q1), .second, vI p2, vI p3, .val (.long x1_0), .second, vI x2_0, vR b14_1, vR b34_1, vI (own_p p2), vI (own_k p2 (3 : Int32)), vI x38_0, vI x38_1, vI x38_2, vI x38_3, vI x38_4, vR b39, vR b147_0]) rfl ?_
    refine XS.aload X147'.here hx rfl (hb hby at_270) rfl rfl ?_
    show SP p e below T147 (mkF m 272 #[.val (.long q0), .second, .val (.long q1), .second, vI p2, vI p3, .val (.long x1_0), .second, vI x2_0, vR b14_1, vR b34_1, vI (own_p p2), vI (own_k p2 (3 : Int32)), vI x38_0, vI x38_1, vI x38_2, vI x38_3, vI x38_4, vR b39, vR b147_0] [(.ref b147_0)]) _
    refine st153.trans ?_
    show SP p e below T153 (mkF m 277 #[.val (.long q0), .second, .val (.long q1), .second, vI p2, vI p3, .val (.long x1_0), .second, vI x2_0, vR b14_1, vR b34_1, vI (own_p p2), vI (own_k p2 (3 : Int32)), vI x38_0, vI x38_1, vI x38_2, vI x38_3, vI x38_4, vR b39, vR b147_0] [(.int x121_2)]) _
    refine XS.iload X153'.here hx rfl (hb hby at_277) rfl ?_
    refine XS.icmpNo X153'.here hx rfl (hb hby at_279) rfl (teq hpv156).2 ?_
    refine XS.aload X153'.here hx rfl (hb hby at_282) rfl rfl ?_
    refine XS.aload X153'.here hx rfl (hb hby at_284) rfl rfl ?_
    show SP p e below T153 (mkF m 286 #[.val (.long q0), .second, .val (.long q1), .second, vI p2, vI p3, .val (.long x1_0), .second, vI x2_0, vR b14_1, vR b34_1, vI (own_p p2), vI (own_k p2 (3 : Int32)), vI x38_0, vI x38_1, vI x38_2, vI x38_3, vI x38_4, vR b39, vR b147_0] [(.ref b14_1), (.ref b147_0)]) _
    refine st157.trans ?_
    show SP p e below T157 (mkF m 291 #[.val (.long q0), .second, .val (.long q1), .second, vI p2, vI p3, .val (.long x1_0), .second, vI x2_0, vR b14_1, vR b34_1, vI (own_p p2), vI (own_k p2 (3 : Int32)), vI x38_0, vI x38_1, vI x38_2, vI x38_3, vI x38_4, vR b39, vR b147_0] [(.int (own_gz x38_0))]) _
    refine st178 _ ?_
    show SP p e below T178 (mkF m 301 #[.val (.long q0), .second, .val (.long q1), .second, vI p2, vI p3, .val (.long x1_0), .second, vI x2_0, vR b14_1, vR b34_1, vI (own_p p2), vI (own_k p2 (3 : Int32)), vI x38_0, vI x38_1, vI x38_2, vI x38_3, vI x38_4, vR b39, vR b147_0] [(.int (own_gz x38_0)), (.int (own_gz x38_0))]) _
    refine XS.icmpNo X178.here hx rfl (hb hby at_301) rfl (teq (rfl : (own_gz x38_0) = (own_gz x38_0))).2 ?_
    refine XS.aload X178.here hx rfl (hb hby at_304) rfl rfl ?_
    refine XS.aload X178.here hx rfl (hb hby at_306) rfl rfl ?_
    show SP p e below T178 (mkF m 308 #[.val (.long q0), .second, .val (.long q1), .second, vI p2, vI p3, .val (.long x1_0), .second, vI x2_0, vR b14_1, vR b34_1, vI (own_p p2), vI (own_k p2 (3 : Int32)), vI x38_0, vI x38_1, vI x38_2, vI x38_3, vI x38_4, vR b39, vR b147_0] [(.ref b34_1), (.ref b147_0)]) _
    refine st179.trans ?_
    show SP p e below T179 (mkF m 313 #[.val (.long q0), .second, .val (.long q1), .second, vI p2, vI p3, .val (.long x1_0), .second, vI x2_0, vR b14_1, vR b34_1, vI (own_p p2), vI (own_k p2 (3 : Int32)), vI x38_0, vI x38_1, vI x38_2, vI x38_3, vI x38_4, vR b39, vR b147_0] [(.int (own_gz x38_1))]) _
    refine st180 _ ?_
    show SP p e below T180 (mkF m 323 #[.val (.long q0), .second, .val (.long q1), .second, vI p2, vI p3, .val (.long x1_0), .second, vI x2_0, vR b14_1, vR b34_1, vI (own_p p2), vI (own_k p2 (3 : Int32)), vI x38_0, vI x38_1, vI x38_2, vI x38_3, vI x38_4, vR b39, vR b147_0] [(.int (own_gz x38_1)), (.int (own_gz x38_1))]) _
    refine XS.icmpNo X180.here hx rfl (hb hby at_323) rfl (teq (rfl : (own_gz x38_1) = (own_gz x38_1))).2 ?_
    refine XS.iconst X180.here hx rfl (hb hby at_326) ?_
    refine XS.goto X180.here hx rfl (pc0 := 327) (pc' := 331) rfl (hb hby at_327) (by decide) (by decide) ?_
    show SP p e below T180 (mkF m 331 #[.val (.long q0), .second, .val (.long q1), .second, vI p2, vI p3, .val (.long x1_0), .second, vI x2_0, vR b14_1, vR b34_1, vI (own_p p2), vI (own_k p2 (3 : Int32)), vI x38_0, vI x38_1, vI x38_2, vI x38_3, vI x38_4, vR b39, vR b147_0] [(.int (1 : Int32))]) _
    exact retN X180 hx (t := .boolean) Bd.returns (by simp) (hb hby at_331) hr
  · show Q0 Z q0 q1 p2 p3 cA kC fC lc1 lv1 lc2 lv2 eD h0 n0 _ T180.heap _
    rw [e180]
    exact ⟨rfl, N180⟩
def own_T : Term := Term.static "java/lang/Long$LongCache" "cache" "[Ljava/lang/Long;"
def own_I : Cond := .and (.exactly (.elem own_T (.index 0)) cLG) (.eq (.field (.elem own_T (.index 0)) cLG "value" "J") (.op1 .i2l (.sub (.index 0) (.int 128))))
theorem own_cache {Z : State} {args : Array Value} (w1 : (Cond.initializedFor "java/lang/Long$LongCache" "cache" "[Ljava/lang/Long;").before args Z = true) (w2 : (Cond.arrayOf own_T (.object cLG)).before args Z = true) (w3 : (Cond.exactly own_T "[Ljava/lang/Long;").before args Z = true) (w4 : (Cond.eq (.length own_T) (.int 256)).before args Z = true) (w5 : (Cond.all own_T own_I).before args Z = true) (wl : (Cond.laysFinal cLG cLG "value" "J").before args Z = true) :
    ∃ (cA : Addr) (kC : ClassId) (fC : Nat → Value), Sta Z Z.heap "java/lang/Long$LongCache" "cache" "[Ljava/lang/Long;" (.ref cA) ∧ own_Arf Z Z.heap cA kC (.object cLG) (256 : Int32) fC ∧ Exa Z Z.heap cA "[Ljava/lang/Long;" ∧ ∀ v : Int64, ∃ (lc : Addr) (lv : Int64), Exa Z Z.heap lc cLG ∧ Fld Z Z.heap lc cLG "value" "J" (.long lv) ∧ own_Cc fC v lc lv := by
  obtain ⟨cA, vA⟩ := arr_v (Cond.before_iff.mp w2)
  have S := Sta.start vA (Or.inl w1)
  have X := Exa.start vA (Cond.before_iff.mp w3)
  obtain ⟨a', cell, hv, hA, harr, hvm⟩ := Jvm.Free.IntBox.arrayOf_fwd w2 vA
  cases hv
  have hat := Jvm.Free.IntBox.arrayAt_of hA harr hvm
  obtain ⟨hsz, hsize⟩ := Jvm.Free.IntBox.length_fwd w4 vA hA harr hvm
  have hs : cell.slots.size = 256 := by
    have e := len_toInt hsz
    rw [hsize] at e
    have : ((256 : Int32)).toInt = 256 := by decide
    omega
  have hall := Cond.all_elim vA hat (Cond.before_iff.mp w5)
  obtain ⟨-, -, c', kV, iV, fV, -, -, hfV, hstV, -⟩ := Cond.laysFinal_spec wl
  have one : ∀ i, i < 256 → ∃ b : Addr, cell.slots[i]? = some (.ref b) ∧ Exa Z Z.heap b cLG ∧ Fld Z Z.heap b cLG "value" "J" (.long (i.toInt32 - 128).toInt64) := by
    intro i hi
    have hval : own_I.holds args Z none Z [i] = true := by simpa [Cond.holds] using hall i (by rw [hs]; exact hi)
    rw [own_I, Cond.holds_and, Bool.and_eq_true] at hval
    obtain ⟨hex, heq⟩ := hval
    obtain ⟨hnn, hback⟩ := Jvm.Free.IntBox.place_nonneg i hi
    have ev : own_T.eval args Z none [i] Z = some (.ref cA) := vA
    have evE : (Term.elem own_T (.index 0)).eval args Z none [i] Z = cell.slots[i]? := by simp [Term.eval, ev, hnn, hat, hback]
    obtain ⟨b, cB, cellB, kB, heB, hcB, hcellB, hkB, hnsB, hclsB, hszB⟩ := Cond.exactly_spec hex
    rw [evE] at heB
    subst hclsB
    refine ⟨b, heB, ⟨cellB, kB, hcellB, hcB, hkB, hnsB, hszB⟩, ?_⟩
    have hsub : (Term.op1 .i2l (.sub (.index 0) (.int 128))).eval args Z none [i] Z = some (.long (i.toInt32 - 128).toInt64) := rfl
    obtain ⟨b', cellB', hbe, hB', hkn, hns, has, gB⟩ := Jvm.Free.LongBox.fieldLong_fwd heq (evE.trans heB) hsub hfV hstV
    cases hbe
    exact ⟨cellB', c', kV, iV, fV, hB', hfV, hstV, hkn, hns, has, gB⟩
  refine ⟨cA, cell.cls, fun i => (cell.slots[i]?).getD .null, S, ⟨cell, ⟨hA, harr, hvm⟩, rfl, hs, by decide, fun i hi => ?_, fun i hi => ?_⟩, X, fun v => ?_⟩
  · show cell.slots[i]? = some ((cell.slots[i]?).getD .null)
    rw [Array.getElem?_eq_getElem hi]
    rfl
  · obtain ⟨b, hb, -⟩ := one i (by rw [← hs]; exact hi)
    show fits _ ((cell.slots[i]?).getD .null) = true
    rw [hb]
    rfl
  · obtain ⟨b0, hb0, E0, F0⟩ := one 128 (by decide)
    by_cases h1 : (lcmpW v (-128 : Int64)) < (0 : Int32)
    · exact ⟨b0, _, E0, F0, fun q => absurd h1 q⟩
    · by_cases h2 : (0 : Int32) < (lcmpW v (127 : Int64))
      · exact ⟨b0, _, E0, F0, fun _ q => absurd h2 q⟩
      · have g1 : ¬ v < -128 := fun q => h1 ((lw_lt _ _).mpr q)
        have g2 : ¬ v > 127 := fun q => h2 ((lw_gt _ _).mpr q)
        obtain ⟨p1, p2⟩ := Jvm.Free.LongBox.place_okL v g1 g2
        obtain ⟨b, hb, E, F⟩ := one _ p2
        rw [Jvm.Free.LongBox.place_valL v g1 g2] at F
        refine ⟨b, v, E, F, fun _ _ => ⟨fun q => p1 (Or.inl q), ?_, ?_, rfl⟩⟩
        · rw [Int32.lt_iff_toInt_lt]
          have e : (256 : Int32).toInt = 256 := by decide
          unfold Int32.toNatClampNeg at p2
          rw [e]
          omega
        · show (cell.slots[(v.toInt32 + (128 : Int32)).toNatClampNeg]?).getD Value.null = _
          rw [hb]
          rfl
theorem comes_1 {Post : Tables → Env → Array Value → State → Outcome → State → Prop} (hpost : ∀ tb e args s v u, (limb_1_1.after args s (.returned v) u = true ∧ limb_1_2.after args s (.returned v) u = true ∧ True) → FrameEnd s (.returned v) u (Jvm.fieldLocs frame_1_writes args s ++ Jvm.arrayLocs frame_1_arrays args s ++ Jvm.staticLocs frame_1_statics s) 48 192 → Post tb e args s (.returned v) u) :
    ArmFor flags0 classFile x code maxLocals ret World_1 tables_1 room_1 Calls_1 rest_1 Pre_1 Post := by
  intro l hfl _ _ p e ha hc hk s m args below hf hA hF happ hP
  obtain ⟨hcalls, hrest, hpre⟩ := hP
  obtain ⟨-, -, -, hnamed, -, -, -, hat⟩ := (Spec.applies_iff hf).mp happ
  obtain ⟨hg, hn⟩ := and_e (Cond.before_iff.mp (show (Jvm.Cond.and given_1 narrow_1).before args s = true from hpre))
  obtain ⟨gc, hg⟩ := and_e hg
  obtain ⟨gi0, hg⟩ := and_e hg
  obtain ⟨gi1, hg⟩ := and_e hg
  obtain ⟨gi2, hg⟩ := and_e hg
  have gi3 := hg
  obtain ⟨w0, w1, w2, w3, rfl⟩ : ∃ w0 w1 w2 w3 : Value, args = #[w0, w1, w2, w3] := by
    have hs : args.size = 4 := by simpa [Cond.value, given_1] using gc
    obtain ⟨L⟩ := args
    match L, hs with
    | [w0, w1, w2, w3], _ => exact ⟨w0, w1, w2, w3, rfl⟩
  have hw := fun d (hd : d ∈ tables_1) => atoms_spec (ws := Jvm.Cond.code x code maxLocals ret :: tables_1) hat d (List.mem_cons_of_mem _ hd)
  obtain ⟨hsets, hown0⟩ := atoms_of _ (rest_1_c_eq ▸ (show rest_1_c.before _ s = true from hrest))
  obtain ⟨i0, ei0⟩ := isL_v gi0
  obtain rfl : w0 = (.long i0) := Option.some.inj ei0
  obtain ⟨i1, ei1⟩ := isL_v gi1
  obtain rfl : w1 = (.long i1) := Option.some.inj ei1
  obtain ⟨i2, ei2⟩ := is_v gi2
  obtain rfl : w2 = (.int i2) := Option.some.inj ei2
  obtain ⟨i3, ei3⟩ := is_v gi3
  obtain rfl : w3 = (.int i3) := Option.some.inj ei3
  obtain ⟨cA, kC, fC, sA, vA, eA, one⟩ := own_cache (hsets _ (mg 1 rfl)) (hsets _ (mg 2 rfl)) (hsets _ (mg 3 rfl)) (hsets _ (mg 4 rfl)) (hsets _ (mg 5 rfl)) (w48 hw)
  obtain ⟨lc1, lv1, E1, F1, C1⟩ := one i0
  obtain ⟨lc2, lv2, E2, F2, C2⟩ := one (own_b i0 i1 i3)
  obtain ⟨eD, vD⟩ := arr_v (Cond.before_iff.mp (hsets _ (mg 12 rfl)))
  have sD := Sta.start vD (Or.inr ⟨(w71 hw), (hsets _ (mg 8 rfl))⟩)
  obtain ⟨n, o, h1, h2, h3, _, L, rfl, ⟨rfl, N⟩, hq⟩ := rm0 l s _ hw tables_1 i0 i1 i2 i3 cA kC fC lc1 lv1 lc2 lv2 eD s.heap s.heap.size (Nat.le_refl _) sA vA eA E1 F1 E2 F2 sD C1 C2 p e ha hc hk s m _ below hf ((Spec.applies_iff_loose hf).mp happ).1 ⟨rfl, State.Warmed39.refl s, rfl⟩ trivial
  refine ⟨n, _, h1, h2, h3, hpost _ _ _ _ _ _ ⟨Cond.after_iff.mpr rfl, Cond.after_iff.mpr (eq_i res_at (Term.int_eval (1)) rfl), trivial⟩ ⟨hq.1, hq.2.1, (hq.2.2.sift fun y hy => Or.inr (N y hy)).mono (by decide) (by decide)⟩⟩
theorem main_1_1 : Claimed_1_1 := comes_1 fun _ _ _ _ _ _ h hF => ⟨h.1, hF⟩
theorem main_1_2 : Claimed_1_2 := comes_1 fun _ _ _ _ _ _ h hF => ⟨h.2.1, hF⟩
end Jvm.Pilot.@@N@@
namespace Jvm.Pilot.@@N@@
open Jvm Jvm.ClassFile Sem Op Lib Jvm.Free Jvm.Stand Jvm.Pilot.@@N@@.Jvm.D
/-! MADE BY PROGRAM (witnessworld.py) out of the Statement's table words and the real class files: 42 classes; the members and pool entries that the words name. The judged class is class 1, her method 1. -/
namespace start1
open Jvm.ClassFile
def wM (a n d : Nat) : MethodInfo := { accessFlags := a, nameIndex := n, descriptorIndex := d, attributes := #[] }
def wN (a n d : Nat) : FieldInfo := { accessFlags := a, nameIndex := n, descriptorIndex := d, attributes := #[] }
def wF (n : String) (t : FieldType) (a s : Nat) : Field := { name := n, type := t, accessFlags := a, slot := s, constantValue := 0 }
def wC (a b : Nat) (c : ByteArray) : Code := { maxStack := a, maxLocals := b, code := c, exceptionTable := #[], attributes := #[] }
def wD (n d : String) (p : List FieldType) (r : Option FieldType) (a : Nat) (c : Option Code) : Method := { name := n, desc := d, sig := { parameters := p, returnType := r }, accessFlags := a, code := c }
def u (s : String) : CpInfo := .utf8 (stringToUtf16 s)
/-- a pool by its gaps: so many unusable entries, then the entry; so many at the end -/
def gap : Nat → List CpInfo → List CpInfo
  | 0, r => r
  | n + 1, r => .unusable :: gap n r
def poolList (es : List (Nat × CpInfo)) (last : Nat) : List CpInfo := es.foldr (fun e r => gap e.1 (e.2 :: r)) (gap last [])
def pool (es : List (Nat × CpInfo)) (last : Nat) : Array CpInfo := ⟨poolList es last⟩
def fileOf (pool : Array CpInfo) (this : Nat) (attrs : Array Attribute := #[]) (ms : Array MethodInfo := #[]) (fl : Nat := 33) (sup : Nat := 0) (ifs : Array Nat := #[]) (fds : Array FieldInfo := #[]) : ClassFile where
  minorVersion := 0
  majorVersion := 65
  constantPool := pool
  accessFlags := fl
  thisClass := this
  superClass := sup
  interfaces := ifs
  fields := fds
  methods := ms
  attributes := attrs
def plain (name : String) (sup : Option ClassId) : Class where
  name := name
  kind := .ordinary
  loader := none
  accessFlags := 33
  super := sup
  interfaces := #[]
  cf := none
  fields := #[]
  methods := #[]
  instanceTypes := #[]
  staticTypes := #[]
  resolved := #[]
  callSites := []
  init := .initialized
  statics := none
  mirror := none

def pool0 : Array CpInfo := pool [(5, u "<init>"), (0, u "()V"), (1, .class_ 10), (1, u "java/lang/Object"), (16, u "hashCode"), (0, u "()I"), (63, u "equals"), (0, u "(Ljava/lang/Object;)Z"), (2, u "clone"), (0, u "()Ljava/lang/Object;")] 26

def k0c0 : Code := wC 0 1 object_method_1_code
def k0m0 : Method := wD "<init>" "()V" [] none 1 (some k0c0)
def k0m1 : Method := wD "hashCode" "()I" [] (some .int) 257 none
def k0c2 : Code := wC 2 2 jdk_18_method_1_code
def k0m2 : Method := wD "equals" "(Ljava/lang/Object;)Z" [(.object "java/lang/Object")] (some .boolean) 1 (some k0c2)
def k0m3 : Method := wD "clone" "()Ljava/lang/Object;" [] (some (.object "java/lang/Object")) 260 none
/-- java/lang/Object -/
def k0 : Class := { plain "java/lang/Object" none with
  accessFlags := 33
  interfaces := #[]
  cf := some (fileOf pool0 8 #[] #[(wM 1 5 6), (wM 257 27 28), (wM 1 92 93), (wM 260 96 97)] 33 0 #[] #[])
  fields := #[]
  methods := #[k0m0, k0m1, k0m2, k0m3]
  instanceTypes := #[]
  staticTypes := #[]
  resolved := Array.replicate 124 none
  statics := none }

def pool1 : Array CpInfo := pool [(2, .class_ 4), (0, .nameAndType 5 6), (0, u "java/lang/Object"), (0, u "<init>"), (0, u "()V"), (0, .methodref 8 9), (0, .class_ 10), (0, .nameAndType 11 12), (0, u "java/lang/Long"), (0, u "valueOf"), (0, u "(J)Ljava/lang/Long;"), (0, .methodref 14 15), (0, .class_ 16), (0, .nameAndType 17 18), (0, u "com/example/reteweave/reteweave/network/Tuple"), (0, u "of"), (0, u "([Ljava/lang/Object;)Lcom/example/reteweave/reteweave/network/Tuple;"), (0, .class_ 20), (0, u "com/example/reteweave/reteweave/network/ProductionNode"), (0, .methodref 19 3), (0, .methodref 19 23), (0, .nameAndType 24 25), (0, u "update"), (0, u "(Lcom/example/reteweave/reteweave/network/Tuple;I)V"), (0, .methodref 19 27), (0, .nameAndType 28 29), (0, u "matches"), (0, u "()Ljava/util/Set;"), (0, .interfaceMethodref 31 32), (0, .class_ 33), (0, .nameAndType 34 35), (0, u "java/util/Set"), (0, u "size"), (0, u "()I"), (0, .interfaceMethodref 31 37), (0, .nameAndType 38 39), (0, u "contains"), (0, u "(Ljava/lang/Object;)Z"), (0, .class_ 41), (0, u "com/example/reteweave/reteweave/network/ProductionNodeMatchesPinLaw"), (2, u "law"), (0, u "(JJII)Z")] 3

def k1m0 : Method := wD "<init>" "()V" [] none 1 none
def k1c1 : Code := wC 5 20 code
def k1m1 : Method := wD "law" "(JJII)Z" [.long, .long, .int, .int] (some .boolean) 9 (some k1c1)
/-- com/example/reteweave/reteweave/network/ProductionNodeMatchesPinLaw -/
def k1 : Class := { plain "com/example/reteweave/reteweave/network/ProductionNodeMatchesPinLaw" (some 0) with
  accessFlags := 49
  interfaces := #[]
  cf := some (fileOf pool1 40 #[] #[(wM 1 5 6), (wM 9 44 45)] 49 2 #[] #[])
  fields := #[]
  methods := #[k1m0, k1m1]
  instanceTypes := #[]
  staticTypes := #[]
  resolved := Array.replicate 49 none
  statics := none }

def pool2 : Array CpInfo := pool [(1, .class_ 2), (0, u "java/io/Serializable"), (0, .class_ 4), (0, u "java/lang/Object")] 2

/-- java/io/Serializable -/
def k2 : Class := { plain "java/io/Serializable" (some 0) with
  accessFlags := 1537
  interfaces := #[]
  cf := some (fileOf pool2 1 #[] #[] 1537 3 #[] #[])
  fields := #[]
  methods := #[]
  instanceTypes := #[]
  staticTypes := #[]
  resolved := Array.replicate 7 none
  statics := none }

def pool3 : Array CpInfo := pool [(1, .methodref 2 3), (0, .class_ 4), (0, .nameAndType 5 6), (0, u "java/lang/Object"), (0, u "<init>"), (0, u "()V"), (1, .class_ 10), (1, u "java/lang/Number"), (2, .class_ 14), (0, u "java/io/Serializable"), (0, u "serialVersionUID"), (0, u "J")] 20

def k3c0 : Code := wC 1 1 jdk_18_method_1_code
def k3m0 : Method := wD "<init>" "()V" [] none 1 (some k3c0)
/-- java/lang/Number -/
def k3 : Class := { plain "java/lang/Number" (some 0) with
  accessFlags := 1057
  interfaces := #[2]
  cf := some (fileOf pool3 8 #[] #[(wM 1 5 6)] 1057 2 #[13] #[(wN 26 15 16)])
  fields := #[wF "serialVersionUID" .long 26 0]
  methods := #[k3m0]
  instanceTypes := #[]
  staticTypes := #[.long]
  resolved := Array.replicate 37 none
  statics := none }

def pool4 : Array CpInfo := pool [(1, .class_ 2), (0, u "java/lang/Comparable"), (0, .class_ 4), (0, u "java/lang/Object")] 7

/-- java/lang/Comparable -/
def k4 : Class := { plain "java/lang/Comparable" (some 0) with
  accessFlags := 1537
  interfaces := #[]
  cf := some (fileOf pool4 1 #[] #[] 1537 3 #[] #[])
  fields := #[]
  methods := #[]
  instanceTypes := #[]
  staticTypes := #[]
  resolved := Array.replicate 12 none
  statics := none }

def pool5 : Array CpInfo := pool [(1, .class_ 2), (0, u "java/lang/constant/Constable"), (0, .class_ 4), (0, u "java/lang/Object")] 6

/-- java/lang/constant/Constable -/
def k5 : Class := { plain "java/lang/constant/Constable" (some 0) with
  accessFlags := 1537
  interfaces := #[]
  cf := some (fileOf pool5 1 #[] #[] 1537 3 #[] #[])
  fields := #[]
  methods := #[]
  instanceTypes := #[]
  staticTypes := #[]
  resolved := Array.replicate 11 none
  statics := none }

def pool6 : Array CpInfo := pool [(1, .class_ 2), (0, u "java/lang/constant/ConstantDesc"), (0, .class_ 4), (0, u "java/lang/Object")] 32

/-- java/lang/constant/ConstantDesc -/
def k6 : Class := { plain "java/lang/constant/ConstantDesc" (some 0) with
  accessFlags := 1537
  interfaces := #[]
  cf := some (fileOf pool6 1 #[] #[] 1537 3 #[] #[])
  fields := #[]
  methods := #[]
  instanceTypes := #[]
  staticTypes := #[]
  resolved := Array.replicate 37 none
  statics := none }

def pool7 : Array CpInfo := pool [(1, .class_ 2), (0, u "java/lang/Long"), (55, .nameAndType 59 60), (0, u "<init>"), (0, u "()V"), (24, u "valueOf"), (15, u "(J)I"), (59, u "()I"), (67, u "(J)Ljava/lang/Long;"), (0, .long 18446744073709551488), (1, .long 127), (1, .fieldref 235 236), (0, .class_ 237), (0, .nameAndType 238 239), (0, u "java/lang/Long$LongCache"), (0, u "cache"), (0, u "[Ljava/lang/Long;"), (0, .methodref 1 241), (0, .nameAndType 59 242), (0, u "(J)V"), (27, .methodref 271 58), (0, .class_ 272), (0, u "java/lang/Number"), (0, .fieldref 1 274), (0, .nameAndType 275 276), (0, u "value"), (0, u "J"), (0, .methodref 1 278), (0, .nameAndType 279 101), (0, u "hashCode"), (0, .methodref 1 281), (0, .nameAndType 282 283), (0, u "longValue"), (0, u "()J"), (77, u "TYPE"), (0, u "Ljava/lang/Class;"), (0, .class_ 364), (0, u "java/lang/Comparable"), (0, .class_ 366), (0, u "java/lang/constant/Constable"), (0, .class_ 368), (0, u "java/lang/constant/ConstantDesc"), (0, u "MIN_VALUE"), (1, u "MAX_VALUE"), (4, u "SIZE"), (0, u "I"), (1, u "BYTES"), (1, u "serialVersionUID"), (77, u "equals"), (0, u "(Ljava/lang/Object;)Z")] 63

def k7c0 : Code := wC 4 3 jdk_35_method_24_code
def k7m0 : Method := wD "valueOf" "(J)Ljava/lang/Long;" [.long] (some (.object "java/lang/Long")) 9 (some k7c0)
def k7c1 : Code := wC 3 3 jdk_35_method_26_code
def k7m1 : Method := wD "<init>" "(J)V" [.long] none 1 (some k7c1)
def k7c2 : Code := wC 2 1 jdk_35_method_31_code
def k7m2 : Method := wD "longValue" "()J" [] (some .long) 1 (some k7c2)
def k7c3 : Code := wC 2 1 jdk_35_method_35_code
def k7m3 : Method := wD "hashCode" "()I" [] (some .int) 1 (some k7c3)
def k7c4 : Code := wC 5 2 jdk_35_method_36_code
def k7m4 : Method := wD "hashCode" "(J)I" [.long] (some .int) 9 (some k7c4)
def k7c5 : Code := wC 4 2 jdk_35_method_37_code
def k7m5 : Method := wD "equals" "(Ljava/lang/Object;)Z" [(.object "java/lang/Object")] (some .boolean) 1 (some k7c5)
/-- java/lang/Long -/
def k7 : Class := { plain "java/lang/Long" (some 3) with
  accessFlags := 49
  interfaces := #[4, 5, 6]
  cf := some (fileOf pool7 1 #[.nestMembers #[235]] #[(wM 9 85 229), (wM 1 59 242), (wM 1 282 283), (wM 1 279 161), (wM 9 279 101), (wM 1 459 460)] 49 271 #[363, 365, 367] #[(wN 25 369 276), (wN 25 371 276), (wN 25 361 362), (wN 18 275 276), (wN 25 376 377), (wN 25 379 377), (wN 26 381 276)])
  fields := #[wF "MIN_VALUE" .long 25 0, wF "MAX_VALUE" .long 25 1, wF "TYPE" (.object "java/lang/Class") 25 2, wF "value" .long 18 0, wF "SIZE" .int 25 3, wF "BYTES" .int 25 4, wF "serialVersionUID" .long 26 5]
  methods := #[k7m0, k7m1, k7m2, k7m3, k7m4, k7m5]
  instanceTypes := #[.long]
  staticTypes := #[.long, .long, (.object "java/lang/Class"), .int, .int, .long]
  resolved := Array.replicate 524 none
  statics := none }

def pool8 : Array CpInfo := pool [(2, .class_ 4), (1, u "java/lang/Object"), (0, u "<init>"), (0, u "()V"), (0, .class_ 8), (0, u "java/lang/Long"), (7, .class_ 18), (1, u "java/lang/Long$LongCache"), (0, u "$assertionsDisabled"), (0, u "Z"), (8, u "archivedCache"), (0, u "[Ljava/lang/Long;"), (7, u "cache")] 24

def k8m0 : Method := wD "<init>" "()V" [] none 2 none
/-- java/lang/Long$LongCache -/
def k8 : Class := { plain "java/lang/Long$LongCache" (some 0) with
  accessFlags := 48
  interfaces := #[]
  cf := some (fileOf pool8 16 #[.nestHost 7] #[(wM 2 5 6)] 48 2 #[] #[(wN 24 38 30), (wN 8 29 30), (wN 4120 19 20)])
  fields := #[wF "cache" (.array (.object "java/lang/Long")) 24 0, wF "archivedCache" (.array (.object "java/lang/Long")) 8 1, wF "$assertionsDisabled" .boolean 4120 2]
  methods := #[k8m0]
  instanceTypes := #[]
  staticTypes := #[(.array (.object "java/lang/Long")), (.array (.object "java/lang/Long")), .boolean]
  resolved := Array.replicate 63 none
  statics := some 0 }

def pool9 : Array CpInfo := pool [(1, .methodref 2 3), (0, .class_ 4), (0, .nameAndType 5 6), (0, u "java/lang/Object"), (0, u "<init>"), (0, u "()V"), (0, .fieldref 8 9), (0, .class_ 10), (0, .nameAndType 11 12), (0, u "com/example/reteweave/reteweave/network/Tuple"), (0, u "values"), (0, u "[Ljava/lang/Object;"), (0, .methodref 14 15), (0, .class_ 16), (0, .nameAndType 17 18), (0, u "java/util/Arrays"), (0, u "hashCode"), (0, u "([Ljava/lang/Object;)I"), (0, .fieldref 8 20), (0, .nameAndType 21 22), (0, u "hash"), (0, u "I"), (0, .methodref 24 25), (0, .class_ 12), (0, .nameAndType 26 27), (0, u "clone"), (0, u "()Ljava/lang/Object;"), (0, .methodref 8 29), (0, .nameAndType 30 31), (0, u "holding"), (0, u "([Ljava/lang/Object;)Lcom/example/reteweave/reteweave/network/Tuple;"), (9, u "EMPTY"), (0, u "Lcom/example/reteweave/reteweave/network/Tuple;"), (0, .methodref 8 44), (0, .nameAndType 5 45), (0, u "([Ljava/lang/Object;)V"), (4, .methodref 14 51), (0, .nameAndType 52 53), (0, u "equals"), (0, u "([Ljava/lang/Object;[Ljava/lang/Object;)Z"), (6, u "of"), (4, u "()I"), (8, u "(Ljava/lang/Object;)Z")] 4

def k9c0 : Code := wC 2 2 prog_111_method_1_code
def k9m0 : Method := wD "<init>" "([Ljava/lang/Object;)V" [(.array (.object "java/lang/Object"))] none 2 (some k9c0)
def k9c1 : Code := wC 1 1 prog_111_method_2_code
def k9m1 : Method := wD "of" "([Ljava/lang/Object;)Lcom/example/reteweave/reteweave/network/Tuple;" [(.array (.object "java/lang/Object"))] (some (.object "com/example/reteweave/reteweave/network/Tuple")) 137 (some k9c1)
def k9c2 : Code := wC 3 5 prog_111_method_4_code
def k9m2 : Method := wD "holding" "([Ljava/lang/Object;)Lcom/example/reteweave/reteweave/network/Tuple;" [(.array (.object "java/lang/Object"))] (some (.object "com/example/reteweave/reteweave/network/Tuple")) 8 (some k9c2)
def k9c3 : Code := wC 2 3 prog_111_method_10_code
def k9m3 : Method := wD "equals" "(Ljava/lang/Object;)Z" [(.object "java/lang/Object")] (some .boolean) 1 (some k9c3)
def k9c4 : Code := wC 1 1 prog_111_method_11_code
def k9m4 : Method := wD "hashCode" "()I" [] (some .int) 1 (some k9c4)
/-- com/example/reteweave/reteweave/network/Tuple -/
def k9 : Class := { plain "com/example/reteweave/reteweave/network/Tuple" (some 0) with
  accessFlags := 49
  interfaces := #[]
  cf := some (fileOf pool9 8 #[] #[(wM 2 5 45), (wM 137 60 31), (wM 8 30 31), (wM 1 52 74), (wM 1 17 65)] 49 2 #[] #[(wN 26 41 42), (wN 18 11 12), (wN 18 21 22)])
  fields := #[wF "EMPTY" (.object "com/example/reteweave/reteweave/network/Tuple") 26 0, wF "values" (.array (.object "java/lang/Object")) 18 0, wF "hash" .int 18 1]
  methods := #[k9m0, k9m1, k9m2, k9m3, k9m4]
  instanceTypes := #[(.array (.object "java/lang/Object")), .int]
  staticTypes := #[(.object "com/example/reteweave/reteweave/network/Tuple")]
  resolved := Array.replicate 79 none
  statics := none }

def pool10 : Array CpInfo := pool [(1, .class_ 2), (0, u "java/lang/Cloneable"), (0, .class_ 4), (0, u "java/lang/Object")] 2

/-- java/lang/Cloneable -/
def k10 : Class := { plain "java/lang/Cloneable" (some 0) with
  accessFlags := 1537
  interfaces := #[]
  cf := some (fileOf pool10 1 #[] #[] 1537 3 #[] #[])
  fields := #[]
  methods := #[]
  instanceTypes := #[]
  staticTypes := #[]
  resolved := Array.replicate 7 none
  statics := none }

def pool11 : Array CpInfo := pool [(2, .class_ 4), (1, u "java/lang/Object"), (0, u "<init>"), (0, u "()V"), (7, .class_ 16), (1, u "java/util/Arrays"), (25, u "()I"), (31, .class_ 76), (1, u "java/util/Arrays$NaturalOrder"), (36, .class_ 115), (1, u "java/util/Arrays$LegacyMergeSort"), (1, u "Z"), (58, .class_ 178), (1, u "java/util/Objects"), (117, .methodref 176 297), (0, .nameAndType 298 299), (0, u "equals"), (0, u "(Ljava/lang/Object;Ljava/lang/Object;)Z"), (75, .class_ 376), (0, u "java/util/Arrays$ArrayList"), (6, .methodref 2 384), (0, .nameAndType 385 42), (0, u "hashCode"), (3, u "([Ljava/lang/Object;)I"), (55, u "$assertionsDisabled"), (6, u "([Ljava/lang/Object;[Ljava/lang/Object;)Z"), (262, u "MIN_ARRAY_SORT_GRAN"), (0, u "I"), (2, u "INSERTIONSORT_THRESHOLD"), (255, .class_ 976), (0, u "java/util/Arrays$ArrayItr")] 52

def k11m0 : Method := wD "<init>" "()V" [] none 2 none
def k11c1 : Code := wC 3 4 jdk_65_method_97_code
def k11m1 : Method := wD "equals" "([Ljava/lang/Object;[Ljava/lang/Object;)Z" [(.array (.object "java/lang/Object")), (.array (.object "java/lang/Object"))] (some .boolean) 9 (some k11c1)
def k11c2 : Code := wC 2 6 jdk_65_method_157_code
def k11m2 : Method := wD "hashCode" "([Ljava/lang/Object;)I" [(.array (.object "java/lang/Object"))] (some .int) 9 (some k11c2)
/-- java/util/Arrays -/
def k11 : Class := { plain "java/util/Arrays" (some 0) with
  accessFlags := 49
  interfaces := #[]
  cf := some (fileOf pool11 14 #[.nestMembers #[975, 375, 113, 74]] #[(wM 2 5 6), (wM 9 298 452), (wM 9 385 389)] 49 2 #[] #[(wN 26 715 716), (wN 26 719 716), (wN 4120 445 117)])
  fields := #[wF "MIN_ARRAY_SORT_GRAN" .int 26 0, wF "INSERTIONSORT_THRESHOLD" .int 26 1, wF "$assertionsDisabled" .boolean 4120 2]
  methods := #[k11m0, k11m1, k11m2]
  instanceTypes := #[]
  staticTypes := #[.int, .int, .boolean]
  resolved := Array.replicate 1029 none
  statics := none }

def pool12 : Array CpInfo := pool [(1, .methodref 2 3), (0, .class_ 4), (0, .nameAndType 5 6), (0, u "java/lang/Object"), (0, u "<init>"), (0, u "()V"), (0, .class_ 8), (0, u "java/util/ArrayList"), (0, .methodref 7 3), (0, .fieldref 11 12), (0, .class_ 13), (0, .nameAndType 14 15), (0, u "com/example/reteweave/reteweave/network/Node"), (0, u "readers"), (0, u "Ljava/util/List;"), (1, .class_ 19), (1, u "java/util/List"), (2, .interfaceMethodref 17 23), (0, .nameAndType 24 25), (0, u "size"), (0, u "()I"), (4, .class_ 31), (0, u "com/example/reteweave/reteweave/network/Receiver"), (0, .interfaceMethodref 30 33), (0, .nameAndType 34 35), (0, u "update"), (0, u "(Lcom/example/reteweave/reteweave/network/Tuple;I)V"), (6, u "emit")] 3

def k12c0 : Code := wC 3 1 prog_102_method_1_code
def k12m0 : Method := wD "<init>" "()V" [] none 1 (some k12c0)
def k12c1 : Code := wC 3 4 prog_102_method_3_code
def k12m1 : Method := wD "emit" "(Lcom/example/reteweave/reteweave/network/Tuple;I)V" [(.object "com/example/reteweave/reteweave/network/Tuple"), .int] none 16 (some k12c1)
/-- com/example/reteweave/reteweave/network/Node -/
def k12 : Class := { plain "com/example/reteweave/reteweave/network/Node" (some 0) with
  accessFlags := 1057
  interfaces := #[]
  cf := some (fileOf pool12 11 #[] #[(wM 1 5 6), (wM 16 42 35)] 1057 2 #[] #[(wN 18 14 15)])
  fields := #[wF "readers" (.object "java/util/List") 18 0]
  methods := #[k12m0, k12m1]
  instanceTypes := #[(.object "java/util/List")]
  staticTypes := #[]
  resolved := Array.replicate 46 none
  statics := none }

def pool13 : Array CpInfo := pool [(1, .class_ 2), (0, u "com/example/reteweave/reteweave/network/Receiver"), (0, .class_ 4), (0, u "java/lang/Object"), (0, u "update"), (0, u "(Lcom/example/reteweave/reteweave/network/Tuple;I)V")] 2

def k13m0 : Method := wD "update" "(Lcom/example/reteweave/reteweave/network/Tuple;I)V" [(.object "com/example/reteweave/reteweave/network/Tuple"), .int] none 1025 none
/-- com/example/reteweave/reteweave/network/Receiver -/
def k13 : Class := { plain "com/example/reteweave/reteweave/network/Receiver" (some 0) with
  accessFlags := 1537
  interfaces := #[]
  cf := some (fileOf pool13 1 #[] #[(wM 1025 5 6)] 1537 3 #[] #[])
  fields := #[]
  methods := #[k13m0]
  instanceTypes := #[]
  staticTypes := #[]
  resolved := Array.replicate 9 none
  statics := none }

def pool14 : Array CpInfo := pool [(1, .methodref 2 3), (0, .class_ 4), (0, .nameAndType 5 6), (0, u "com/example/reteweave/reteweave/network/ProductionNode"), (0, u "<init>"), (0, u "(Lcom/example/reteweave/reteweave/network/Fixpoint;)V"), (0, .methodref 8 9), (0, .class_ 10), (0, .nameAndType 5 11), (0, u "com/example/reteweave/reteweave/network/Node"), (0, u "()V"), (0, .class_ 13), (0, u "com/example/reteweave/reteweave/network/Derivations"), (0, .methodref 12 9), (0, .fieldref 2 16), (0, .nameAndType 17 18), (0, u "derivations"), (0, u "Lcom/example/reteweave/reteweave/network/Derivations;"), (0, .class_ 20), (0, u "com/example/reteweave/reteweave/network/TupleCounts"), (0, .methodref 19 9), (0, .fieldref 2 23), (0, .nameAndType 24 25), (0, u "told"), (0, u "Lcom/example/reteweave/reteweave/network/TupleCounts;"), (0, .class_ 27), (0, u "java/util/HashMap"), (0, .methodref 26 9), (0, .fieldref 2 30), (0, .nameAndType 31 32), (0, u "indexes"), (0, u "Ljava/util/Map;"), (0, .fieldref 2 34), (0, .nameAndType 35 36), (0, u "fixpoint"), (0, u "Lcom/example/reteweave/reteweave/network/Fixpoint;"), (4, .methodref 12 42), (0, .nameAndType 43 44), (0, u "add"), (0, u "(Lcom/example/reteweave/reteweave/network/Tuple;I)I"), (6, .methodref 2 52), (0, .nameAndType 53 54), (0, u "index"), (0, u "(Lcom/example/reteweave/reteweave/network/Tuple;I)V"), (0, .methodref 2 56), (0, .nameAndType 57 54), (0, u "emit"), (0, .methodref 12 59), (0, .nameAndType 60 61), (0, u "tuples"), (0, u "()Ljava/util/Set;"), (0, .methodref 19 59), (19, .class_ 84), (1, u "java/util/Map"), (9, u "matches"), (11, u "()Z"), (27, .interfaceMethodref 82 135), (0, .nameAndType 136 106), (0, u "isEmpty"), (7, .class_ 145), (0, u "com/example/reteweave/reteweave/network/Receiver"), (6, u "update")] 12

def k14c0 : Code := wC 2 1 prog_103_method_1_code
def k14m0 : Method := wD "<init>" "()V" [] none 1 (some k14c0)
def k14c1 : Code := wC 3 2 prog_103_method_2_code
def k14m1 : Method := wD "<init>" "(Lcom/example/reteweave/reteweave/network/Fixpoint;)V" [(.object "com/example/reteweave/reteweave/network/Fixpoint")] none 0 (some k14c1)
def k14c2 : Code := wC 4 4 prog_103_method_4_code
def k14m2 : Method := wD "update" "(Lcom/example/reteweave/reteweave/network/Tuple;I)V" [(.object "com/example/reteweave/reteweave/network/Tuple"), .int] none 1 (some k14c2)
def k14c3 : Code := wC 1 1 prog_103_method_5_code
def k14m3 : Method := wD "matches" "()Ljava/util/Set;" [] (some (.object "java/util/Set")) 1 (some k14c3)
def k14c4 : Code := wC 3 5 prog_103_method_10_code
def k14m4 : Method := wD "index" "(Lcom/example/reteweave/reteweave/network/Tuple;I)V" [(.object "com/example/reteweave/reteweave/network/Tuple"), .int] none 2 (some k14c4)
/-- com/example/reteweave/reteweave/network/ProductionNode -/
def k14 : Class := { plain "com/example/reteweave/reteweave/network/ProductionNode" (some 12) with
  accessFlags := 49
  interfaces := #[13]
  cf := some (fileOf pool14 2 #[] #[(wM 1 5 11), (wM 0 5 6), (wM 1 152 54), (wM 1 94 61), (wM 2 53 54)] 49 8 #[144] #[(wN 18 17 18), (wN 18 35 36), (wN 18 24 25), (wN 18 31 32)])
  fields := #[wF "derivations" (.object "com/example/reteweave/reteweave/network/Derivations") 18 1, wF "fixpoint" (.object "com/example/reteweave/reteweave/network/Fixpoint") 18 2, wF "told" (.object "com/example/reteweave/reteweave/network/TupleCounts") 18 3, wF "indexes" (.object "java/util/Map") 18 4]
  methods := #[k14m0, k14m1, k14m2, k14m3, k14m4]
  instanceTypes := #[(.object "java/util/List"), (.object "com/example/reteweave/reteweave/network/Derivations"), (.object "com/example/reteweave/reteweave/network/Fixpoint"), (.object "com/example/reteweave/reteweave/network/TupleCounts"), (.object "java/util/Map")]
  staticTypes := #[]
  resolved := Array.replicate 165 none
  statics := none }

def pool15 : Array CpInfo := pool [(8, .class_ 10), (1, u "java/lang/Iterable"), (24, .class_ 36), (0, u "java/lang/Object")] 25

/-- java/lang/Iterable -/
def k15 : Class := { plain "java/lang/Iterable" (some 0) with
  accessFlags := 1537
  interfaces := #[]
  cf := some (fileOf pool15 8 #[] #[] 1537 35 #[] #[])
  fields := #[]
  methods := #[]
  instanceTypes := #[]
  staticTypes := #[]
  resolved := Array.replicate 62 none
  statics := none }

def pool16 : Array CpInfo := pool [(10, .class_ 12), (1, u "java/util/Collection"), (47, .class_ 61), (0, u "java/lang/Object"), (0, .class_ 63), (0, u "java/lang/Iterable")] 51

/-- java/util/Collection -/
def k16 : Class := { plain "java/util/Collection" (some 0) with
  accessFlags := 1537
  interfaces := #[15]
  cf := some (fileOf pool16 10 #[] #[] 1537 60 #[62] #[])
  fields := #[]
  methods := #[]
  instanceTypes := #[]
  staticTypes := #[]
  resolved := Array.replicate 115 none
  statics := none }

def pool17 : Array CpInfo := pool [(1, .methodref 2 3), (0, .class_ 4), (0, .nameAndType 5 6), (0, u "java/lang/Object"), (0, u "<init>"), (0, u "()V"), (1, .class_ 10), (1, u "java/util/AbstractCollection"), (66, .class_ 78), (0, u "java/util/Collection")] 81

def k17c0 : Code := wC 1 1 jdk_22_method_1_code
def k17m0 : Method := wD "<init>" "()V" [] none 4 (some k17c0)
/-- java/util/AbstractCollection -/
def k17 : Class := { plain "java/util/AbstractCollection" (some 0) with
  accessFlags := 1057
  interfaces := #[16]
  cf := some (fileOf pool17 8 #[] #[(wM 4 5 6)] 1057 2 #[77] #[])
  fields := #[]
  methods := #[k17m0]
  instanceTypes := #[]
  staticTypes := #[]
  resolved := Array.replicate 160 none
  statics := none }

def pool18 : Array CpInfo := pool [(8, .class_ 10), (1, u "java/util/SequencedCollection"), (15, .class_ 27), (0, u "java/lang/Object"), (0, .class_ 29), (0, u "java/util/Collection")] 27

/-- java/util/SequencedCollection -/
def k18 : Class := { plain "java/util/SequencedCollection" (some 0) with
  accessFlags := 1537
  interfaces := #[16]
  cf := some (fileOf pool18 8 #[] #[] 1537 26 #[28] #[])
  fields := #[]
  methods := #[]
  instanceTypes := #[]
  staticTypes := #[]
  resolved := Array.replicate 57 none
  statics := none }

def pool19 : Array CpInfo := pool [(8, .class_ 10), (1, u "java/util/List"), (68, u "size"), (0, u "()I"), (22, .class_ 104), (0, u "java/lang/Object"), (15, .class_ 121), (0, u "java/util/SequencedCollection")] 129

def k19m0 : Method := wD "size" "()I" [] (some .int) 1025 none
/-- java/util/List -/
def k19 : Class := { plain "java/util/List" (some 0) with
  accessFlags := 1537
  interfaces := #[18]
  cf := some (fileOf pool19 8 #[] #[(wM 1025 79 80)] 1537 103 #[120] #[])
  fields := #[]
  methods := #[k19m0]
  instanceTypes := #[]
  staticTypes := #[]
  resolved := Array.replicate 251 none
  statics := none }

def pool20 : Array CpInfo := pool [(1, .methodref 2 3), (0, .class_ 4), (0, .nameAndType 5 6), (0, u "java/util/AbstractCollection"), (0, u "<init>"), (0, u "()V"), (0, .fieldref 8 9), (0, .class_ 10), (0, .nameAndType 11 12), (0, u "java/util/AbstractList"), (0, u "modCount"), (0, u "I"), (64, .class_ 78), (0, u "java/util/AbstractList$Itr"), (3, .class_ 83), (0, u "java/util/AbstractList$ListItr"), (9, .class_ 94), (0, u "java/util/AbstractList$RandomAccessSubList"), (3, .class_ 99), (0, u "java/util/AbstractList$SubList"), (33, .class_ 134), (0, u "java/util/List"), (73, .class_ 209), (0, u "java/util/AbstractList$SubList$1"), (0, .class_ 211), (0, u "java/util/AbstractList$RandomAccessSpliterator")] 6

def k20c0 : Code := wC 2 1 jdk_39_method_1_code
def k20m0 : Method := wD "<init>" "()V" [] none 4 (some k20c0)
/-- java/util/AbstractList -/
def k20 : Class := { plain "java/util/AbstractList" (some 17) with
  accessFlags := 1057
  interfaces := #[19]
  cf := some (fileOf pool20 8 #[.nestMembers #[93, 98, 208, 210, 82, 77]] #[(wM 4 5 6)] 1057 2 #[133] #[(wN 132 11 12)])
  fields := #[wF "modCount" .int 132 0]
  methods := #[k20m0]
  instanceTypes := #[.int]
  staticTypes := #[]
  resolved := Array.replicate 218 none
  statics := none }

def pool21 : Array CpInfo := pool [(1, .class_ 2), (0, u "java/util/RandomAccess"), (0, .class_ 4), (0, u "java/lang/Object")] 2

/-- java/util/RandomAccess -/
def k21 : Class := { plain "java/util/RandomAccess" (some 0) with
  accessFlags := 1537
  interfaces := #[]
  cf := some (fileOf pool21 1 #[] #[] 1537 3 #[] #[])
  fields := #[]
  methods := #[]
  instanceTypes := #[]
  staticTypes := #[]
  resolved := Array.replicate 7 none
  statics := none }

def pool22 : Array CpInfo := pool [(1, .methodref 2 3), (0, .class_ 4), (0, .nameAndType 5 6), (0, u "java/util/AbstractList"), (0, u "<init>"), (0, u "()V"), (2, .fieldref 10 11), (0, .class_ 12), (0, .nameAndType 13 14), (0, u "java/util/ArrayList"), (0, u "elementData"), (0, u "[Ljava/lang/Object;"), (2, u "EMPTY_ELEMENTDATA"), (21, .fieldref 10 40), (0, .nameAndType 41 14), (0, u "DEFAULTCAPACITY_EMPTY_ELEMENTDATA"), (6, .fieldref 10 49), (0, .nameAndType 50 51), (0, u "size"), (0, u "I"), (96, .class_ 149), (0, u "java/util/List"), (36, u "()I"), (75, .class_ 263), (0, u "java/util/ArrayList$ListItr"), (3, .class_ 268), (0, u "java/util/ArrayList$Itr"), (7, .class_ 277), (0, u "java/util/ArrayList$SubList"), (12, .class_ 291), (0, u "java/util/ArrayList$ArrayListSpliterator"), (37, .class_ 330), (0, u "java/util/RandomAccess"), (0, .class_ 332), (0, u "java/lang/Cloneable"), (0, .class_ 334), (0, u "java/io/Serializable"), (0, u "serialVersionUID"), (0, u "J"), (3, u "DEFAULT_CAPACITY"), (159, .class_ 501), (0, u "java/util/ArrayList$SubList$2"), (0, .class_ 503), (0, u "java/util/ArrayList$SubList$1")] 5

def k22c0 : Code := wC 2 1 jdk_38_method_2_code
def k22m0 : Method := wD "<init>" "()V" [] none 1 (some k22c0)
def k22c1 : Code := wC 1 1 jdk_38_method_8_code
def k22m1 : Method := wD "size" "()I" [] (some .int) 1 (some k22c1)
/-- java/util/ArrayList -/
def k22 : Class := { plain "java/util/ArrayList" (some 20) with
  accessFlags := 33
  interfaces := #[19, 21, 10, 2]
  cf := some (fileOf pool22 10 #[.nestMembers #[290, 276, 500, 502, 262, 267]] #[(wM 1 5 6), (wM 1 50 186)] 33 2 #[148, 329, 331, 333] #[(wN 26 335 336), (wN 26 340 51), (wN 26 17 14), (wN 26 41 14), (wN 128 13 14), (wN 2 50 51)])
  fields := #[wF "serialVersionUID" .long 26 0, wF "DEFAULT_CAPACITY" .int 26 1, wF "EMPTY_ELEMENTDATA" (.array (.object "java/lang/Object")) 26 2, wF "DEFAULTCAPACITY_EMPTY_ELEMENTDATA" (.array (.object "java/lang/Object")) 26 3, wF "elementData" (.array (.object "java/lang/Object")) 128 1, wF "size" .int 2 2]
  methods := #[k22m0, k22m1]
  instanceTypes := #[.int, (.array (.object "java/lang/Object")), .int]
  staticTypes := #[.long, .int, (.array (.object "java/lang/Object")), (.array (.object "java/lang/Object"))]
  resolved := Array.replicate 509 none
  statics := some 1 }

def pool23 : Array CpInfo := pool [(1, .methodref 2 3), (0, .class_ 4), (0, .nameAndType 5 6), (0, u "java/lang/Object"), (0, u "<init>"), (0, u "()V"), (0, .class_ 8), (0, u "com/example/reteweave/reteweave/network/TupleCounts"), (0, .methodref 7 3), (0, .fieldref 11 12), (0, .class_ 13), (0, .nameAndType 14 15), (0, u "com/example/reteweave/reteweave/network/Derivations"), (0, u "counts"), (0, u "Lcom/example/reteweave/reteweave/network/TupleCounts;"), (0, .methodref 7 17), (0, .nameAndType 18 19), (0, u "count"), (0, u "(Lcom/example/reteweave/reteweave/network/Tuple;)I"), (15, .methodref 7 36), (0, .nameAndType 37 38), (0, u "add"), (0, u "(Lcom/example/reteweave/reteweave/network/Tuple;I)I"), (0, .methodref 7 40), (0, .nameAndType 41 42), (0, u "tuples"), (0, u "()Ljava/util/Set;")] 22

def k23c0 : Code := wC 3 1 prog_84_method_1_code
def k23m0 : Method := wD "<init>" "()V" [] none 0 (some k23c0)
def k23c1 : Code := wC 5 6 prog_84_method_2_code
def k23m1 : Method := wD "add" "(Lcom/example/reteweave/reteweave/network/Tuple;I)I" [(.object "com/example/reteweave/reteweave/network/Tuple"), .int] (some .int) 0 (some k23c1)
def k23c2 : Code := wC 1 1 prog_84_method_3_code
def k23m2 : Method := wD "tuples" "()Ljava/util/Set;" [] (some (.object "java/util/Set")) 0 (some k23c2)
/-- com/example/reteweave/reteweave/network/Derivations -/
def k23 : Class := { plain "com/example/reteweave/reteweave/network/Derivations" (some 0) with
  accessFlags := 48
  interfaces := #[]
  cf := some (fileOf pool23 11 #[] #[(wM 0 5 6), (wM 0 37 38), (wM 0 41 42)] 48 2 #[] #[(wN 18 14 15)])
  fields := #[wF "counts" (.object "com/example/reteweave/reteweave/network/TupleCounts") 18 0]
  methods := #[k23m0, k23m1, k23m2]
  instanceTypes := #[(.object "com/example/reteweave/reteweave/network/TupleCounts")]
  staticTypes := #[]
  resolved := Array.replicate 65 none
  statics := none }

def pool24 : Array CpInfo := pool [(1, .methodref 2 3), (0, .class_ 4), (0, .nameAndType 5 6), (0, u "java/lang/Object"), (0, u "<init>"), (0, u "()V"), (0, .class_ 8), (0, u "com/example/reteweave/reteweave/network/SlotTable"), (0, .fieldref 7 10), (0, .nameAndType 11 12), (0, u "held"), (0, u "[Ljava/lang/Object;"), (0, .fieldref 7 14), (0, .nameAndType 15 16), (0, u "hashesAndCounts"), (0, u "[J"), (0, .fieldref 7 18), (0, .nameAndType 19 20), (0, u "size"), (0, u "I"), (0, .methodref 7 22), (0, .nameAndType 23 24), (0, u "countAt"), (0, u "(I)I"), (0, .methodref 7 26), (0, .nameAndType 27 28), (0, u "remove"), (0, u "(I)V"), (0, .methodref 7 30), (0, .nameAndType 31 32), (0, u "setCountAt"), (0, u "(II)V"), (0, .methodref 7 34), (0, .nameAndType 35 36), (0, u "home"), (0, u "(II)I"), (0, .methodref 7 38), (0, .nameAndType 39 24), (0, u "hashAt"), (0, .methodref 7 41), (0, .nameAndType 42 43), (0, u "holds"), (0, u "(Ljava/lang/Object;Lcom/example/reteweave/reteweave/network/Tuple;)Z"), (7, .methodref 7 52), (0, .nameAndType 53 54), (0, u "hashAndCount"), (0, u "(II)J"), (0, .integer 1073741824), (3, .long 4294967295), (1, .integer 2654435769), (0, .methodref 63 64), (0, .class_ 65), (0, .nameAndType 66 24), (0, u "java/lang/Integer"), (0, u "numberOfLeadingZeros"), (0, u "SMALLEST"), (2, u "LARGEST"), (0, u "SPREAD"), (2, u "()I"), (3, u "addToCountAt"), (3, u "find"), (0, u "(ILcom/example/reteweave/reteweave/network/Tuple;)I"), (0, u "insert"), (0, u "(ILjava/lang/Object;II)V")] 4

def k24c0 : Code := wC 2 1 prog_107_method_1_code
def k24m0 : Method := wD "<init>" "()V" [] none 0 (some k24c0)
def k24m1 : Method := wD "holds" "(Ljava/lang/Object;Lcom/example/reteweave/reteweave/network/Tuple;)Z" [(.object "java/lang/Object"), (.object "com/example/reteweave/reteweave/network/Tuple")] (some .boolean) 1024 none
def k24c2 : Code := wC 1 1 prog_107_method_3_code
def k24m2 : Method := wD "size" "()I" [] (some .int) 16 (some k24c2)
def k24c3 : Code := wC 2 2 prog_107_method_6_code
def k24m3 : Method := wD "countAt" "(I)I" [.int] (some .int) 16 (some k24c3)
def k24c4 : Code := wC 3 4 prog_107_method_7_code
def k24m4 : Method := wD "addToCountAt" "(II)I" [.int, .int] (some .int) 16 (some k24c4)
def k24c5 : Code := wC 3 5 prog_107_method_9_code
def k24m5 : Method := wD "find" "(ILcom/example/reteweave/reteweave/network/Tuple;)I" [.int, (.object "com/example/reteweave/reteweave/network/Tuple")] (some .int) 16 (some k24c5)
def k24c6 : Code := wC 4 6 prog_107_method_10_code
def k24m6 : Method := wD "insert" "(ILjava/lang/Object;II)V" [.int, (.object "java/lang/Object"), .int, .int] none 16 (some k24c6)
def k24c7 : Code := wC 4 6 prog_107_method_11_code
def k24m7 : Method := wD "remove" "(I)V" [.int] none 16 (some k24c7)
def k24c8 : Code := wC 4 3 prog_107_method_13_code
def k24m8 : Method := wD "setCountAt" "(II)V" [.int, .int] none 2 (some k24c8)
def k24c9 : Code := wC 3 2 prog_107_method_14_code
def k24m9 : Method := wD "hashAt" "(I)I" [.int] (some .int) 2 (some k24c9)
def k24c10 : Code := wC 6 2 prog_107_method_15_code
def k24m10 : Method := wD "hashAndCount" "(II)J" [.int, .int] (some .long) 10 (some k24c10)
def k24c11 : Code := wC 3 2 prog_107_method_16_code
def k24m11 : Method := wD "home" "(II)I" [.int, .int] (some .int) 10 (some k24c11)
/-- com/example/reteweave/reteweave/network/SlotTable -/
def k24 : Class := { plain "com/example/reteweave/reteweave/network/SlotTable" (some 0) with
  accessFlags := 1056
  interfaces := #[]
  cf := some (fileOf pool24 7 #[] #[(wM 0 5 6), (wM 1024 42 43), (wM 16 19 74), (wM 16 23 24), (wM 16 78 36), (wM 16 82 83), (wM 16 84 85), (wM 16 27 28), (wM 2 31 32), (wM 2 39 24), (wM 10 53 54), (wM 10 35 36)] 1056 2 #[] #[(wN 26 67 20), (wN 26 70 20), (wN 26 71 20), (wN 2 11 12), (wN 2 15 16), (wN 2 19 20)])
  fields := #[wF "SMALLEST" .int 26 0, wF "LARGEST" .int 26 1, wF "SPREAD" .int 26 2, wF "held" (.array (.object "java/lang/Object")) 2 0, wF "hashesAndCounts" (.array .long) 2 1, wF "size" .int 2 2]
  methods := #[k24m0, k24m1, k24m2, k24m3, k24m4, k24m5, k24m6, k24m7, k24m8, k24m9, k24m10, k24m11]
  instanceTypes := #[(.array (.object "java/lang/Object")), (.array .long), .int]
  staticTypes := #[.int, .int, .int]
  resolved := Array.replicate 90 none
  statics := none }

def pool25 : Array CpInfo := pool [(1, .methodref 2 3), (0, .class_ 4), (0, .nameAndType 5 6), (0, u "com/example/reteweave/reteweave/network/SlotTable"), (0, u "<init>"), (0, u "()V"), (0, .methodref 8 9), (0, .class_ 10), (0, .nameAndType 11 12), (0, u "java/lang/Object"), (0, u "equals"), (0, u "(Ljava/lang/Object;)Z"), (0, .methodref 14 15), (0, .class_ 16), (0, .nameAndType 17 18), (0, u "com/example/reteweave/reteweave/network/Tuple"), (0, u "hashCode"), (0, u "()I"), (0, .methodref 20 21), (0, .class_ 22), (0, .nameAndType 23 24), (0, u "com/example/reteweave/reteweave/network/TupleCounts"), (0, u "find"), (0, u "(ILcom/example/reteweave/reteweave/network/Tuple;)I"), (0, .methodref 20 26), (0, .nameAndType 27 28), (0, u "countAt"), (0, u "(I)I"), (0, .methodref 20 30), (0, .nameAndType 31 32), (0, u "insert"), (0, u "(ILjava/lang/Object;II)V"), (0, .methodref 20 34), (0, .nameAndType 35 36), (0, u "addToCountAt"), (0, u "(II)I"), (16, .class_ 54), (0, u "com/example/reteweave/reteweave/network/TupleCounts$View"), (0, .methodref 53 56), (0, .nameAndType 5 57), (0, u "(Lcom/example/reteweave/reteweave/network/TupleCounts;)V"), (2, u "holds"), (0, u "(Ljava/lang/Object;Lcom/example/reteweave/reteweave/network/Tuple;)Z"), (0, u "count"), (0, u "(Lcom/example/reteweave/reteweave/network/Tuple;)I"), (1, u "add"), (0, u "(Lcom/example/reteweave/reteweave/network/Tuple;I)I"), (4, u "tuples"), (0, u "()Ljava/util/Set;"), (5, .class_ 79), (0, u "com/example/reteweave/reteweave/network/TupleCounts$View$1")] 2

def k25c0 : Code := wC 1 1 prog_112_method_1_code
def k25m0 : Method := wD "<init>" "()V" [] none 0 (some k25c0)
def k25c1 : Code := wC 2 3 prog_112_method_2_code
def k25m1 : Method := wD "holds" "(Ljava/lang/Object;Lcom/example/reteweave/reteweave/network/Tuple;)Z" [(.object "java/lang/Object"), (.object "com/example/reteweave/reteweave/network/Tuple")] (some .boolean) 0 (some k25c1)
def k25c2 : Code := wC 3 3 prog_112_method_3_code
def k25m2 : Method := wD "count" "(Lcom/example/reteweave/reteweave/network/Tuple;)I" [(.object "com/example/reteweave/reteweave/network/Tuple")] (some .int) 0 (some k25c2)
def k25c3 : Code := wC 5 5 prog_112_method_4_code
def k25m3 : Method := wD "add" "(Lcom/example/reteweave/reteweave/network/Tuple;I)I" [(.object "com/example/reteweave/reteweave/network/Tuple"), .int] (some .int) 0 (some k25c3)
def k25c4 : Code := wC 3 1 prog_112_method_7_code
def k25m4 : Method := wD "tuples" "()Ljava/util/Set;" [] (some (.object "java/util/Set")) 0 (some k25c4)
/-- com/example/reteweave/reteweave/network/TupleCounts -/
def k25 : Class := { plain "com/example/reteweave/reteweave/network/TupleCounts" (some 24) with
  accessFlags := 48
  interfaces := #[]
  cf := some (fileOf pool25 20 #[.nestMembers #[53, 78]] #[(wM 0 5 6), (wM 0 60 61), (wM 0 62 63), (wM 0 65 66), (wM 0 71 72)] 48 2 #[] #[])
  fields := #[]
  methods := #[k25m0, k25m1, k25m2, k25m3, k25m4]
  instanceTypes := #[(.array (.object "java/lang/Object")), (.array .long), .int]
  staticTypes := #[]
  resolved := ((Array.replicate 82 none).setIfInBounds 53 (some (.cls 32))).setIfInBounds 55 (some (.method ⟨32, 0⟩))
  statics := none }

def pool26 : Array CpInfo := pool [(2, .class_ 4), (1, u "java/util/Map"), (26, u "()Z"), (4, .class_ 37), (0, u "java/util/Map$Entry"), (55, .class_ 94), (0, u "java/lang/Object"), (10, u "isEmpty")] 157

def k26m0 : Method := wD "isEmpty" "()Z" [] (some .boolean) 1025 none
/-- java/util/Map -/
def k26 : Class := { plain "java/util/Map" (some 0) with
  accessFlags := 1537
  interfaces := #[]
  cf := some (fileOf pool26 2 #[.nestMembers #[36]] #[(wM 1025 105 31)] 1537 93 #[] #[])
  fields := #[]
  methods := #[k26m0]
  instanceTypes := #[]
  staticTypes := #[]
  resolved := Array.replicate 263 none
  statics := none }

def pool27 : Array CpInfo := pool [(1, .methodref 2 3), (0, .class_ 4), (0, .nameAndType 5 6), (0, u "java/lang/Object"), (0, u "<init>"), (0, u "()V"), (1, .class_ 10), (1, u "java/util/AbstractMap"), (42, .class_ 54), (0, u "java/util/Map"), (9, u "keySet"), (0, u "Ljava/util/Set;"), (0, .class_ 67), (0, u "java/util/AbstractMap$1"), (5, u "values"), (0, u "Ljava/util/Collection;"), (0, .class_ 76), (0, u "java/util/AbstractMap$2"), (104, .class_ 182), (0, u "java/util/AbstractMap$ViewCollection"), (0, .class_ 184), (0, u "java/util/AbstractMap$SimpleImmutableEntry"), (0, .class_ 186), (0, u "java/util/AbstractMap$SimpleEntry"), (0, .class_ 188), (0, u "java/util/AbstractMap$2$1"), (0, .class_ 190), (0, u "java/util/AbstractMap$1$1")] 5

def k27c0 : Code := wC 1 1 jdk_71_method_1_code
def k27m0 : Method := wD "<init>" "()V" [] none 4 (some k27c0)
/-- java/util/AbstractMap -/
def k27 : Class := { plain "java/util/AbstractMap" (some 0) with
  accessFlags := 1057
  interfaces := #[26]
  cf := some (fileOf pool27 8 #[.nestMembers #[181, 183, 185, 75, 187, 66, 189]] #[(wM 4 5 6)] 1057 2 #[53] #[(wN 128 64 65), (wN 128 73 74)])
  fields := #[wF "keySet" (.object "java/util/Set") 128 0, wF "values" (.object "java/util/Collection") 128 1]
  methods := #[k27m0]
  instanceTypes := #[(.object "java/util/Set"), (.object "java/util/Collection")]
  staticTypes := #[]
  resolved := Array.replicate 196 none
  statics := none }

def pool28 : Array CpInfo := pool [(40, .class_ 41), (0, u "java/util/HashMap"), (1, .methodref 44 45), (0, .class_ 46), (0, .nameAndType 47 48), (0, u "java/util/AbstractMap"), (0, u "<init>"), (0, u "()V"), (32, .fieldref 40 82), (0, .nameAndType 83 84), (0, u "loadFactor"), (0, u "F"), (5, u "threshold"), (0, u "I"), (0, .float 1061158912), (8, .class_ 103), (1, u "java/util/Map"), (0, u "size"), (2, u "table"), (0, u "[Ljava/util/HashMap$Node;"), (14, u "entrySet"), (12, u "()Z"), (19, .fieldref 40 157), (0, .nameAndType 104 91), (5, .class_ 165), (1, u "java/util/HashMap$Node"), (14, .class_ 181), (0, u "java/util/HashMap$TreeNode"), (22, u "modCount"), (37, u "Ljava/util/Set;"), (0, .class_ 244), (0, u "java/util/HashMap$KeySet"), (18, .class_ 264), (0, u "java/util/HashMap$Values"), (3, .class_ 269), (0, u "java/util/HashMap$EntrySet"), (76, .class_ 348), (1, u "java/util/HashMap$UnsafeHolder"), (43, .class_ 393), (0, u "java/lang/Cloneable"), (0, .class_ 395), (0, u "java/io/Serializable"), (0, u "serialVersionUID"), (0, u "J"), (3, u "DEFAULT_INITIAL_CAPACITY"), (1, u "MAXIMUM_CAPACITY"), (0, u "DEFAULT_LOAD_FACTOR"), (0, u "TREEIFY_THRESHOLD"), (1, u "UNTREEIFY_THRESHOLD"), (1, u "MIN_TREEIFY_CAPACITY"), (52, u "isEmpty"), (133, .class_ 597), (0, u "java/util/HashMap$EntrySpliterator"), (0, .class_ 599), (0, u "java/util/HashMap$ValueSpliterator"), (0, .class_ 601), (0, u "java/util/HashMap$KeySpliterator"), (0, .class_ 603), (0, u "java/util/HashMap$HashMapSpliterator"), (0, .class_ 605), (0, u "java/util/HashMap$EntryIterator"), (0, .class_ 607), (0, u "java/util/HashMap$ValueIterator"), (0, .class_ 609), (0, u "java/util/HashMap$KeyIterator"), (0, .class_ 611), (0, u "java/util/HashMap$HashIterator")] 17

def k28c0 : Code := wC 2 1 jdk_69_method_7_code
def k28m0 : Method := wD "<init>" "()V" [] none 1 (some k28c0)
def k28c1 : Code := wC 1 1 jdk_69_method_11_code
def k28m1 : Method := wD "isEmpty" "()Z" [] (some .boolean) 1 (some k28c1)
/-- java/util/HashMap -/
def k28 : Class := { plain "java/util/HashMap" (some 27) with
  accessFlags := 33
  interfaces := #[26, 10, 2]
  cf := some (fileOf pool28 40 #[.nestMembers #[180, 596, 598, 600, 602, 604, 606, 608, 610, 346, 268, 263, 243, 163]] #[(wM 1 47 48), (wM 1 462 136)] 33 44 #[101, 392, 394] #[(wN 26 396 397), (wN 24 401 91), (wN 24 403 91), (wN 24 404 84), (wN 24 405 91), (wN 24 407 91), (wN 24 409 91), (wN 128 107 108), (wN 128 123 242), (wN 128 104 91), (wN 128 204 91), (wN 0 90 91), (wN 16 83 84)])
  fields := #[wF "serialVersionUID" .long 26 0, wF "DEFAULT_INITIAL_CAPACITY" .int 24 1, wF "MAXIMUM_CAPACITY" .int 24 2, wF "DEFAULT_LOAD_FACTOR" .float 24 3, wF "TREEIFY_THRESHOLD" .int 24 4, wF "UNTREEIFY_THRESHOLD" .int 24 5, wF "MIN_TREEIFY_CAPACITY" .int 24 6, wF "table" (.array (.object "java/util/HashMap$Node")) 128 2, wF "entrySet" (.object "java/util/Set") 128 3, wF "size" .int 128 4, wF "modCount" .int 128 5, wF "threshold" .int 0 6, wF "loadFactor" .float 16 7]
  methods := #[k28m0, k28m1]
  instanceTypes := #[(.object "java/util/Set"), (.object "java/util/Collection"), (.array (.object "java/util/HashMap$Node")), (.object "java/util/Set"), .int, .int, .int, .float]
  staticTypes := #[.long, .int, .int, .float, .int, .int, .int]
  resolved := Array.replicate 629 none
  statics := none }

def pool29 : Array CpInfo := pool [(1, .class_ 2), (0, u "java/lang/Integer"), (16, u "digits"), (0, u "[C"), (32, u "numberOfLeadingZeros"), (0, u "(I)I"), (30, u "DigitOnes"), (0, u "[B"), (2, u "DigitTens"), (99, .class_ 190), (0, u "java/lang/Integer$IntegerCache"), (3, u "I"), (8, .class_ 204), (0, u "java/lang/Number"), (2, u "value"), (56, .integer 65536), (37, u "TYPE"), (0, u "Ljava/lang/Class;"), (0, .class_ 305), (0, u "java/lang/Comparable"), (0, .class_ 307), (0, u "java/lang/constant/Constable"), (0, .class_ 309), (0, u "java/lang/constant/ConstantDesc"), (0, u "MIN_VALUE"), (1, u "MAX_VALUE"), (3, u "SIZE"), (1, u "BYTES"), (1, u "serialVersionUID"), (0, u "J")] 131

def k29c0 : Code := wC 3 2 jdk_33_method_47_code
def k29m0 : Method := wD "numberOfLeadingZeros" "(I)I" [.int] (some .int) 9 (some k29c0)
/-- java/lang/Integer -/
def k29 : Class := { plain "java/lang/Integer" (some 3) with
  accessFlags := 49
  interfaces := #[4, 5, 6]
  cf := some (fileOf pool29 1 #[.nestMembers #[189]] #[(wM 9 53 54)] 49 203 #[304, 306, 308] #[(wN 25 310 194), (wN 25 312 194), (wN 25 302 303), (wN 24 19 20), (wN 24 89 86), (wN 24 85 86), (wN 18 207 194), (wN 25 316 194), (wN 25 318 194), (wN 26 320 321)])
  fields := #[wF "MIN_VALUE" .int 25 0, wF "MAX_VALUE" .int 25 1, wF "TYPE" (.object "java/lang/Class") 25 2, wF "digits" (.array .char) 24 3, wF "DigitTens" (.array .byte) 24 4, wF "DigitOnes" (.array .byte) 24 5, wF "value" .int 18 0, wF "SIZE" .int 25 6, wF "BYTES" .int 25 7, wF "serialVersionUID" .long 26 8]
  methods := #[k29m0]
  instanceTypes := #[.int]
  staticTypes := #[.int, .int, (.object "java/lang/Class"), (.array .char), (.array .byte), (.array .byte), .int, .int, .long]
  resolved := Array.replicate 453 none
  statics := none }

def pool30 : Array CpInfo := pool [(26, .class_ 27), (0, u "java/lang/Object"), (5, .class_ 34), (0, u "java/util/Set"), (1, .class_ 38), (1, u "java/util/Collection"), (18, u "size"), (0, u "()I"), (0, u "contains"), (0, u "(Ljava/lang/Object;)Z")] 83

def k30m0 : Method := wD "size" "()I" [] (some .int) 1025 none
def k30m1 : Method := wD "contains" "(Ljava/lang/Object;)Z" [(.object "java/lang/Object")] (some .boolean) 1025 none
/-- java/util/Set -/
def k30 : Class := { plain "java/util/Set" (some 0) with
  accessFlags := 1537
  interfaces := #[16]
  cf := some (fileOf pool30 33 #[] #[(wM 1025 57 58), (wM 1025 59 60)] 1537 26 #[36] #[])
  fields := #[]
  methods := #[k30m0, k30m1]
  instanceTypes := #[]
  staticTypes := #[]
  resolved := Array.replicate 144 none
  statics := none }

def pool31 : Array CpInfo := pool [(1, .methodref 2 3), (0, .class_ 4), (0, .nameAndType 5 6), (0, u "java/util/AbstractCollection"), (0, u "<init>"), (0, u "()V"), (0, .class_ 8), (0, u "java/util/Set"), (7, .class_ 17), (0, u "java/util/AbstractSet")] 78

def k31c0 : Code := wC 1 1 jdk_91_method_1_code
def k31m0 : Method := wD "<init>" "()V" [] none 4 (some k31c0)
/-- java/util/AbstractSet -/
def k31 : Class := { plain "java/util/AbstractSet" (some 17) with
  accessFlags := 1057
  interfaces := #[30]
  cf := some (fileOf pool31 16 #[] #[(wM 4 5 6)] 1057 2 #[7] #[])
  fields := #[]
  methods := #[k31m0]
  instanceTypes := #[]
  staticTypes := #[]
  resolved := Array.replicate 96 none
  statics := none }

def pool32 : Array CpInfo := pool [(1, .fieldref 2 3), (0, .class_ 4), (0, .nameAndType 5 6), (0, u "com/example/reteweave/reteweave/network/TupleCounts$View"), (0, u "this$0"), (0, u "Lcom/example/reteweave/reteweave/network/TupleCounts;"), (0, .methodref 8 9), (0, .class_ 10), (0, .nameAndType 11 12), (0, u "java/util/AbstractSet"), (0, u "<init>"), (0, u "()V"), (0, .methodref 14 15), (0, .class_ 16), (0, .nameAndType 17 18), (0, u "com/example/reteweave/reteweave/network/TupleCounts"), (0, u "size"), (0, u "()I"), (0, .class_ 20), (0, u "com/example/reteweave/reteweave/network/Tuple"), (0, .methodref 14 22), (0, .nameAndType 23 24), (0, u "count"), (0, u "(Lcom/example/reteweave/reteweave/network/Tuple;)I"), (5, u "(Lcom/example/reteweave/reteweave/network/TupleCounts;)V"), (3, u "contains"), (0, u "(Ljava/lang/Object;)Z")] 11

def k32c0 : Code := wC 2 2 prog_113_method_1_code
def k32m0 : Method := wD "<init>" "(Lcom/example/reteweave/reteweave/network/TupleCounts;)V" [(.object "com/example/reteweave/reteweave/network/TupleCounts")] none 2 (some k32c0)
def k32c1 : Code := wC 1 1 prog_113_method_2_code
def k32m1 : Method := wD "size" "()I" [] (some .int) 1 (some k32c1)
def k32c2 : Code := wC 2 3 prog_113_method_3_code
def k32m2 : Method := wD "contains" "(Ljava/lang/Object;)Z" [(.object "java/lang/Object")] (some .boolean) 1 (some k32c2)
/-- com/example/reteweave/reteweave/network/TupleCounts$View -/
def k32 : Class := { plain "com/example/reteweave/reteweave/network/TupleCounts$View" (some 31) with
  accessFlags := 48
  interfaces := #[]
  cf := some (fileOf pool32 2 #[.nestHost 14] #[(wM 2 11 30), (wM 1 17 18), (wM 1 34 35)] 48 8 #[] #[(wN 4112 5 6)])
  fields := #[wF "this$0" (.object "com/example/reteweave/reteweave/network/TupleCounts") 4112 0]
  methods := #[k32m0, k32m1, k32m2]
  instanceTypes := #[(.object "com/example/reteweave/reteweave/network/TupleCounts")]
  staticTypes := #[]
  resolved := Array.replicate 47 none
  statics := none }

def pool33 : Array CpInfo := pool [(2, .class_ 4), (1, u "java/lang/Object"), (0, u "<init>"), (0, u "()V"), (7, .methodref 2 15), (0, .nameAndType 16 17), (0, u "equals"), (0, u "(Ljava/lang/Object;)Z"), (5, u "(Ljava/lang/Object;Ljava/lang/Object;)Z"), (18, .class_ 44), (1, u "java/util/Objects")] 139

def k33m0 : Method := wD "<init>" "()V" [] none 2 none
def k33c1 : Code := wC 2 2 jdk_31_method_2_code
def k33m1 : Method := wD "equals" "(Ljava/lang/Object;Ljava/lang/Object;)Z" [(.object "java/lang/Object"), (.object "java/lang/Object")] (some .boolean) 9 (some k33c1)
/-- java/util/Objects -/
def k33 : Class := { plain "java/util/Objects" (some 0) with
  accessFlags := 49
  interfaces := #[]
  cf := some (fileOf pool33 42 #[] #[(wM 2 5 6), (wM 9 16 23)] 49 2 #[] #[])
  fields := #[]
  methods := #[k33m0, k33m1]
  instanceTypes := #[]
  staticTypes := #[]
  resolved := Array.replicate 184 none
  statics := none }

/-- the primitive byte -/
def k34 : Class := { plain "byte" none with kind := .primitive 'B', accessFlags := 0x411 }
/-- [B -/
def k35 : Class := { plain "[B" (some 0) with kind := .array 34 .byte, interfaces := #[10, 2], accessFlags := 1041 }

/-- the primitive int -/
def k36 : Class := { plain "int" none with kind := .primitive 'I', accessFlags := 0x411 }
/-- [I -/
def k37 : Class := { plain "[I" (some 0) with kind := .array 36 .int, interfaces := #[10, 2], accessFlags := 1041 }

/-- the primitive long -/
def k38 : Class := { plain "long" none with kind := .primitive 'J', accessFlags := 0x411 }
/-- [J -/
def k39 : Class := { plain "[J" (some 0) with kind := .array 38 .long, interfaces := #[10, 2], accessFlags := 1041 }

/-- [Ljava/lang/Long; -/
def k40 : Class := { plain "[Ljava/lang/Long;" (some 0) with kind := .array 7 (.object "java/lang/Long"), interfaces := #[10, 2], accessFlags := 1041 }

/-- [Ljava/lang/Object; -/
def k41 : Class := { plain "[Ljava/lang/Object;" (some 0) with kind := .array 0 (.object "java/lang/Object"), interfaces := #[10, 2], accessFlags := 1041 }

def wL (x : Int64) : Cell := { cls := 7, slots := #[.long x], vm := .none }
def heap : Heap := #[{ cls := 8, slots := #[.ref 2, .null, .int 0], vm := .statics 8 },
  { cls := 22, slots := #[.long 0, .int 0, .ref 259, .ref 260], vm := .statics 22 },
  { cls := 40, slots := #[.ref 3, .ref 4, .ref 5, .ref 6, .ref 7, .ref 8, .ref 9, .ref 10, .ref 11, .ref 12, .ref 13, .ref 14, .ref 15, .ref 16, .ref 17, .ref 18, .ref 19, .ref 20, .ref 21, .ref 22, .ref 23, .ref 24, .ref 25, .ref 26, .ref 27, .ref 28, .ref 29, .ref 30, .ref 31, .ref 32, .ref 33, .ref 34, .ref 35, .ref 36, .ref 37, .ref 38, .ref 39, .ref 40, .ref 41, .ref 42, .ref 43, .ref 44, .ref 45, .ref 46, .ref 47, .ref 48, .ref 49, .ref 50, .ref 51, .ref 52, .ref 53, .ref 54, .ref 55, .ref 56, .ref 57, .ref 58, .ref 59, .ref 60, .ref 61, .ref 62, .ref 63, .ref 64, .ref 65, .ref 66, .ref 67, .ref 68, .ref 69, .ref 70, .ref 71, .ref 72, .ref 73, .ref 74, .ref 75, .ref 76, .ref 77, .ref 78, .ref 79, .ref 80, .ref 81, .ref 82, .ref 83, .ref 84, .ref 85, .ref 86, .ref 87, .ref 88, .ref 89, .ref 90, .ref 91, .ref 92, .ref 93, .ref 94, .ref 95, .ref 96, .ref 97, .ref 98, .ref 99, .ref 100, .ref 101, .ref 102, .ref 103, .ref 104, .ref 105, .ref 106, .ref 107, .ref 108, .ref 109, .ref 110, .ref 111, .ref 112, .ref 113, .ref 114, .ref 115, .ref 116, .ref 117, .ref 118, .ref 119, .ref 120, .ref 121, .ref 122, .ref 123, .ref 124, .ref 125, .ref 126, .ref 127, .ref 128, .ref 129, .ref 130, .ref 131, .ref 132, .ref 133, .ref 134, .ref 135, .ref 136, .ref 137, .ref 138, .ref 139, .ref 140, .ref 141, .ref 142, .ref 143, .ref 144, .ref 145, .ref 146, .ref 147, .ref 148, .ref 149, .ref 150, .ref 151, .ref 152, .ref 153, .ref 154, .ref 155, .ref 156, .ref 157, .ref 158, .ref 159, .ref 160, .ref 161, .ref 162, .ref 163, .ref 164, .ref 165, .ref 166, .ref 167, .ref 168, .ref 169, .ref 170, .ref 171, .ref 172, .ref 173, .ref 174, .ref 175, .ref 176, .ref 177, .ref 178, .ref 179, .ref 180, .ref 181, .ref 182, .ref 183, .ref 184, .ref 185, .ref 186, .ref 187, .ref 188, .ref 189, .ref 190, .ref 191, .ref 192, .ref 193, .ref 194, .ref 195, .ref 196, .ref 197, .ref 198, .ref 199, .ref 200, .ref 201, .ref 202, .ref 203, .ref 204, .ref 205, .ref 206, .ref 207, .ref 208, .ref 209, .ref 210, .ref 211, .ref 212, .ref 213, .ref 214, .ref 215, .ref 216, .ref 217, .ref 218, .ref 219, .ref 220, .ref 221, .ref 222, .ref 223, .ref 224, .ref 225, .ref 226, .ref 227, .ref 228, .ref 229, .ref 230, .ref 231, .ref 232, .ref 233, .ref 234, .ref 235, .ref 236, .ref 237, .ref 238, .ref 239, .ref 240, .ref 241, .ref 242, .ref 243, .ref 244, .ref 245, .ref 246, .ref 247, .ref 248, .ref 249, .ref 250, .ref 251, .ref 252, .ref 253, .ref 254, .ref 255, .ref 256, .ref 257, .ref 258], vm := .none },
  wL (-128),
  wL (-127),
  wL (-126),
  wL (-125),
  wL (-124),
  wL (-123),
  wL (-122),
  wL (-121),
  wL (-120),
  wL (-119),
  wL (-118),
  wL (-117),
  wL (-116),
  wL (-115),
  wL (-114),
  wL (-113),
  wL (-112),
  wL (-111),
  wL (-110),
  wL (-109),
  wL (-108),
  wL (-107),
  wL (-106),
  wL (-105),
  wL (-104),
  wL (-103),
  wL (-102),
  wL (-101),
  wL (-100),
  wL (-99),
  wL (-98),
  wL (-97),
  wL (-96),
  wL (-95),
  wL (-94),
  wL (-93),
  wL (-92),
  wL (-91),
  wL (-90),
  wL (-89),
  wL (-88),
  wL (-87),
  wL (-86),
  wL (-85),
  wL (-84),
  wL (-83),
  wL (-82),
  wL (-81),
  wL (-80),
  wL (-79),
  wL (-78),
  wL (-77),
  wL (-76),
  wL (-75),
  wL (-74),
  wL (-73),
  wL (-72),
  wL (-71),
  wL (-70),
  wL (-69),
  wL (-68),
  wL (-67),
  wL (-66),
  wL (-65),
  wL (-64),
  wL (-63),
  wL (-62),
  wL (-61),
  wL (-60),
  wL (-59),
  wL (-58),
  wL (-57),
  wL (-56),
  wL (-55),
  wL (-54),
  wL (-53),
  wL (-52),
  wL (-51),
  wL (-50),
  wL (-49),
  wL (-48),
  wL (-47),
  wL (-46),
  wL (-45),
  wL (-44),
  wL (-43),
  wL (-42),
  wL (-41),
  wL (-40),
  wL (-39),
  wL (-38),
  wL (-37),
  wL (-36),
  wL (-35),
  wL (-34),
  wL (-33),
  wL (-32),
  wL (-31),
  wL (-30),
  wL (-29),
  wL (-28),
  wL (-27),
  wL (-26),
  wL (-25),
  wL (-24),
  wL (-23),
  wL (-22),
  wL (-21),
  wL (-20),
  wL (-19),
  wL (-18),
  wL (-17),
  wL (-16),
  wL (-15),
  wL (-14),
  wL (-13),
  wL (-12),
  wL (-11),
  wL (-10),
  wL (-9),
  wL (-8),
  wL (-7),
  wL (-6),
  wL (-5),
  wL (-4),
  wL (-3),
  wL (-2),
  wL (-1),
  wL 0,
  wL 1,
  wL 2,
  wL 3,
  wL 4,
  wL 5,
  wL 6,
  wL 7,
  wL 8,
  wL 9,
  wL 10,
  wL 11,
  wL 12,
  wL 13,
  wL 14,
  wL 15,
  wL 16,
  wL 17,
  wL 18,
  wL 19,
  wL 20,
  wL 21,
  wL 22,
  wL 23,
  wL 24,
  wL 25,
  wL 26,
  wL 27,
  wL 28,
  wL 29,
  wL 30,
  wL 31,
  wL 32,
  wL 33,
  wL 34,
  wL 35,
  wL 36,
  wL 37,
  wL 38,
  wL 39,
  wL 40,
  wL 41,
  wL 42,
  wL 43,
  wL 44,
  wL 45,
  wL 46,
  wL 47,
  wL 48,
  wL 49,
  wL 50,
  wL 51,
  wL 52,
  wL 53,
  wL 54,
  wL 55,
  wL 56,
  wL 57,
  wL 58,
  wL 59,
  wL 60,
  wL 61,
  wL 62,
  wL 63,
  wL 64,
  wL 65,
  wL 66,
  wL 67,
  wL 68,
  wL 69,
  wL 70,
  wL 71,
  wL 72,
  wL 73,
  wL 74,
  wL 75,
  wL 76,
  wL 77,
  wL 78,
  wL 79,
  wL 80,
  wL 81,
  wL 82,
  wL 83,
  wL 84,
  wL 85,
  wL 86,
  wL 87,
  wL 88,
  wL 89,
  wL 90,
  wL 91,
  wL 92,
  wL 93,
  wL 94,
  wL 95,
  wL 96,
  wL 97,
  wL 98,
  wL 99,
  wL 100,
  wL 101,
  wL 102,
  wL 103,
  wL 104,
  wL 105,
  wL 106,
  wL 107,
  wL 108,
  wL 109,
  wL 110,
  wL 111,
  wL 112,
  wL 113,
  wL 114,
  wL 115,
  wL 116,
  wL 117,
  wL 118,
  wL 119,
  wL 120,
  wL 121,
  wL 122,
  wL 123,
  wL 124,
  wL 125,
  wL 126,
  wL 127,
  { cls := 41, slots := #[], vm := .none },
  { cls := 41, slots := #[], vm := .none }]
def classes : Array Class := #[k0, k1, k2, k3, k4, k5, k6, k7, k8, k9, k10, k11, k12, k13, k14, k15, k16, k17, k18, k19, k20, k21, k22, k23, k24, k25, k26, k27, k28, k29, k30, k31, k32, k33, k34, k35, k36, k37, k38, k39, k40, k41]
def interned : List (Array UInt16 × Addr) := []
def slotsUsed : Nat := 519
def theMethod : MethodId := ⟨1, 1⟩
def args0 : Array Value := #[.long 5, .long 5, .int 3, .int 1]
def aboutOver (below : List Frame) : State where
  vm := { classes := classes, interned := interned.toArray }
  heap := heap
  slotsUsed := slotsUsed
  threads := #[{ frames := .invoking theMethod args0 :: below }]
def below0 : List Frame := [.native { method := ⟨0, 0⟩, args := #[] }]
def about1 : State := aboutOver below0
def p0 : Program := .bare "" "" ""
def e0 : Env := launch0.env 0 0 0
theorem w_frames : about1.frames = Frame.invoking theMethod args0 :: below0 := rfl
set_option maxRecDepth 65536 in
theorem w_args : argsFit about1.vm theMethod args0 = true := by decide +kernel
set_option maxRecDepth 65536 in
theorem w_heap : heapFits about1 = true := by decide +kernel
set_option maxRecDepth 65536 in
theorem w_runnable : about1.curStatus? = some .runnable := by decide +kernel
set_option maxRecDepth 65536 in
theorem w_alone : about1.alone = true := by decide +kernel
set_option maxRecDepth 65536 in
theorem w_named : about1.methodNamed? x = some theMethod := by decide +kernel
set_option maxRecDepth 65536 in
theorem w_hears : about1.hears theMethod below0 = true := by decide +kernel
set_option maxRecDepth 65536 in
theorem w_ripe : about1.ripe theMethod args0 below0 = true := by decide +kernel
theorem w_running : about1.status = .running := rfl
set_option maxRecDepth 65536 in
theorem w_room : about1.hasRoom e0.platform room_1 = true :=
  launch0.hasRoom_least _ room_1 (by decide +kernel) (by decide +kernel) (by decide +kernel) (by decide +kernel) (by decide +kernel) (by decide +kernel)
theorem allAtoms_all (ts : List Jvm.Cond) (a : Array Jvm.Value) (st : Jvm.State) : (allAtoms ts).before a st = ts.all (fun c => c.before a st) := by
  induction ts with
  | nil => rfl
  | cons c t ih =>
    show (Jvm.Cond.and c (allAtoms t)).before a st = _
    rw [Jvm.Cond.before_and, ih, List.all_cons]
def words1 : List Jvm.Cond := Jvm.Cond.code x code maxLocals ret :: tables_1
/-- a 'code' word, met by the world's own term for the bytes: nothing is compared byte by byte -/
theorem code_word {y : MethodName} {bytes : ByteArray} {mx : Nat} {rt : Option FieldType} {a : Array Value} {s : State} {m : MethodId} {meth : Method} {c : Code} (h1 : s.methodNamed? y = some m) (h2 : s.vm.method? m = some meth) (h3 : meth.code = some c) (h4 : c.code = bytes)
    (h5 : (c.maxLocals == mx && c.exceptionTable.isEmpty && decide (c.maxStack ≤ mostOperands) && decide (meth.sig.returnType = rt) && !meth.locks && decide (parseMethodDescriptor y.desc = some meth.sig)) = true) : (Jvm.Cond.code y bytes mx rt).before a s = true := by
  simp only [Bool.and_eq_true, beq_iff_eq, Bool.not_eq_true', decide_eq_true_eq] at h5
  obtain ⟨⟨⟨⟨⟨g1, g2⟩, g3⟩, g4⟩, g5⟩, g6⟩ := h5
  simp [Cond.before, Cond.holds, Cond.value, h1, h2, h3, h4, g1, g2, g3, g4, g5, g6]
def isCode : Jvm.Cond → Bool
  | .code _ _ _ _ => true
  | _ => false
theorem all_split {L : List Jvm.Cond} {P : Jvm.Cond → Bool} (h1 : L.all (fun c => isCode c || P c) = true) (h2 : ∀ c ∈ L.filter isCode, P c = true) : L.all P = true := by
  refine List.all_eq_true.mpr fun c hc => ?_
  have h := List.all_eq_true.mp h1 c hc
  rcases Bool.eq_false_or_eq_true (isCode c) with hi | hi
  · exact h2 c (List.mem_filter.mpr ⟨hc, hi⟩)
  · simpa [hi] using h
abbrev cw0 : Jvm.Cond := Cond.code x code maxLocals ret
abbrev cw1 : Jvm.Cond := Cond.code ⟨"java/lang/Long", "valueOf", "(J)Ljava/lang/Long;"⟩ jdk_35_method_24_code 3 (some (FieldType.object "java/lang/Long"))
abbrev cw2 : Jvm.Cond := Cond.code ⟨"com/example/reteweave/reteweave/network/Tuple", "of", "([Ljava/lang/Object;)Lcom/example/reteweave/reteweave/network/Tuple;"⟩ prog_111_method_2_code 1 (some (FieldType.object "com/example/reteweave/reteweave/network/Tuple"))
abbrev cw3 : Jvm.Cond := Cond.code ⟨"com/example/reteweave/reteweave/network/Tuple", "holding", "([Ljava/lang/Object;)Lcom/example/reteweave/reteweave/network/Tuple;"⟩ prog_111_method_4_code 5 (some (FieldType.object "com/example/reteweave/reteweave/network/Tuple"))
abbrev cw4 : Jvm.Cond := Cond.code ⟨"com/example/reteweave/reteweave/network/Tuple", "<init>", "([Ljava/lang/Object;)V"⟩ prog_111_method_1_code 2 none
abbrev cw5 : Jvm.Cond := Cond.code ⟨"java/lang/Object", "<init>", "()V"⟩ object_method_1_code 1 none
abbrev cw6 : Jvm.Cond := Cond.code ⟨"java/util/Arrays", "hashCode", "([Ljava/lang/Object;)I"⟩ jdk_65_method_157_code 6 (some FieldType.int)
abbrev cw7 : Jvm.Cond := Cond.code ⟨"java/lang/Long", "hashCode", "()I"⟩ jdk_35_method_35_code 1 (some FieldType.int)
abbrev cw8 : Jvm.Cond := Cond.code ⟨"java/lang/Long", "hashCode", "(J)I"⟩ jdk_35_method_36_code 2 (some FieldType.int)
abbrev cw9 : Jvm.Cond := Cond.code ⟨"com/example/reteweave/reteweave/network/ProductionNode", "<init>", "()V"⟩ prog_103_method_1_code 1 none
abbrev cw10 : Jvm.Cond := Cond.code ⟨"com/example/reteweave/reteweave/network/ProductionNode", "<init>", "(Lcom/example/reteweave/reteweave/network/Fixpoint;)V"⟩ prog_103_method_2_code 2 none
abbrev cw11 : Jvm.Cond := Cond.code ⟨"com/example/reteweave/reteweave/network/Node", "<init>", "()V"⟩ prog_102_method_1_code 1 none
abbrev cw12 : Jvm.Cond := Cond.code ⟨"java/util/ArrayList", "<init>", "()V"⟩ jdk_38_method_2_code 1 none
abbrev cw13 : Jvm.Cond := Cond.code ⟨"java/util/AbstractList", "<init>", "()V"⟩ jdk_39_method_1_code 1 none
abbrev cw14 : Jvm.Cond := Cond.code ⟨"java/util/AbstractCollection", "<init>", "()V"⟩ jdk_22_method_1_code 1 none
abbrev cw15 : Jvm.Cond := Cond.code ⟨"com/example/reteweave/reteweave/network/Derivations", "<init>", "()V"⟩ prog_84_method_1_code 1 none
abbrev cw16 : Jvm.Cond := Cond.code ⟨"com/example/reteweave/reteweave/network/TupleCounts", "<init>", "()V"⟩ prog_112_method_1_code 1 none
abbrev cw17 : Jvm.Cond := Cond.code ⟨"com/example/reteweave/reteweave/network/SlotTable", "<init>", "()V"⟩ prog_107_method_1_code 1 none
abbrev cw18 : Jvm.Cond := Cond.code ⟨"java/util/HashMap", "<init>", "()V"⟩ jdk_69_method_7_code 1 none
abbrev cw19 : Jvm.Cond := Cond.code ⟨"java/util/AbstractMap", "<init>", "()V"⟩ jdk_71_method_1_code 1 none
abbrev cw20 : Jvm.Cond := Cond.code ⟨"com/example/reteweave/reteweave/network/ProductionNode", "update", "(Lcom/example/reteweave/reteweave/network/Tuple;I)V"⟩ prog_103_method_4_code 4 none
abbrev cw21 : Jvm.Cond := Cond.code ⟨"com/example/reteweave/reteweave/network/Derivations", "add", "(Lcom/example/reteweave/reteweave/network/Tuple;I)I"⟩ prog_84_method_2_code 6 (some FieldType.int)
abbrev cw22 : Jvm.Cond := Cond.code ⟨"com/example/reteweave/reteweave/network/TupleCounts", "count", "(Lcom/example/reteweave/reteweave/network/Tuple;)I"⟩ prog_112_method_3_code 3 (some FieldType.int)
abbrev cw23 : Jvm.Cond := Cond.code ⟨"com/example/reteweave/reteweave/network/Tuple", "hashCode", "()I"⟩ prog_111_method_11_code 1 (some FieldType.int)
abbrev cw24 : Jvm.Cond := Cond.code ⟨"com/example/reteweave/reteweave/network/SlotTable", "find", "(ILcom/example/reteweave/reteweave/network/Tuple;)I"⟩ prog_107_method_9_code 5 (some FieldType.int)
abbrev cw25 : Jvm.Cond := Cond.code ⟨"com/example/reteweave/reteweave/network/SlotTable", "home", "(II)I"⟩ prog_107_method_16_code 2 (some FieldType.int)
abbrev cw26 : Jvm.Cond := Cond.code ⟨"java/lang/Integer", "numberOfLeadingZeros", "(I)I"⟩ jdk_33_method_47_code 2 (some FieldType.int)
abbrev cw27 : Jvm.Cond := Cond.code ⟨"com/example/reteweave/reteweave/network/TupleCounts", "add", "(Lcom/example/reteweave/reteweave/network/Tuple;I)I"⟩ prog_112_method_4_code 5 (some FieldType.int)
abbrev cw28 : Jvm.Cond := Cond.code ⟨"com/example/reteweave/reteweave/network/ProductionNode", "matches", "()Ljava/util/Set;"⟩ prog_103_method_5_code 1 (some (FieldType.object "java/util/Set"))
abbrev cw29 : Jvm.Cond := Cond.code ⟨"com/example/reteweave/reteweave/network/Derivations", "tuples", "()Ljava/util/Set;"⟩ prog_84_method_3_code 1 (some (FieldType.object "java/util/Set"))
abbrev cw30 : Jvm.Cond := Cond.code ⟨"com/example/reteweave/reteweave/network/TupleCounts", "tuples", "()Ljava/util/Set;"⟩ prog_112_method_7_code 1 (some (FieldType.object "java/util/Set"))
abbrev cw31 : Jvm.Cond := Cond.code ⟨"com/example/reteweave/reteweave/network/TupleCounts$View", "<init>", "(Lcom/example/reteweave/reteweave/network/TupleCounts;)V"⟩ prog_113_method_1_code 2 none
abbrev cw32 : Jvm.Cond := Cond.code ⟨"java/util/AbstractSet", "<init>", "()V"⟩ jdk_91_method_1_code 1 none
abbrev cw33 : Jvm.Cond := Cond.code ⟨"com/example/reteweave/reteweave/network/TupleCounts$View", "size", "()I"⟩ prog_113_method_2_code 1 (some FieldType.int)
abbrev cw34 : Jvm.Cond := Cond.code ⟨"com/example/reteweave/reteweave/network/SlotTable", "size", "()I"⟩ prog_107_method_3_code 1 (some FieldType.int)
abbrev cw35 : Jvm.Cond := Cond.code ⟨"com/example/reteweave/reteweave/network/TupleCounts$View", "contains", "(Ljava/lang/Object;)Z"⟩ prog_113_method_3_code 3 (some FieldType.boolean)
abbrev cw36 : Jvm.Cond := Cond.code ⟨"com/example/reteweave/reteweave/network/SlotTable", "insert", "(ILjava/lang/Object;II)V"⟩ prog_107_method_10_code 6 none
abbrev cw37 : Jvm.Cond := Cond.code ⟨"com/example/reteweave/reteweave/network/SlotTable", "hashAndCount", "(II)J"⟩ prog_107_method_15_code 2 (some FieldType.long)
abbrev cw38 : Jvm.Cond := Cond.code ⟨"com/example/reteweave/reteweave/network/ProductionNode", "index", "(Lcom/example/reteweave/reteweave/network/Tuple;I)V"⟩ prog_103_method_10_code 5 none
abbrev cw39 : Jvm.Cond := Cond.code ⟨"java/util/HashMap", "isEmpty", "()Z"⟩ jdk_69_method_11_code 1 (some FieldType.boolean)
abbrev cw40 : Jvm.Cond := Cond.code ⟨"com/example/reteweave/reteweave/network/Node", "emit", "(Lcom/example/reteweave/reteweave/network/Tuple;I)V"⟩ prog_102_method_3_code 4 none
abbrev cw41 : Jvm.Cond := Cond.code ⟨"java/util/ArrayList", "size", "()I"⟩ jdk_38_method_8_code 1 (some FieldType.int)
abbrev cw42 : Jvm.Cond := Cond.code ⟨"com/example/reteweave/reteweave/network/SlotTable", "hashAt", "(I)I"⟩ prog_107_method_14_code 2 (some FieldType.int)
abbrev cw43 : Jvm.Cond := Cond.code ⟨"com/example/reteweave/reteweave/network/TupleCounts", "holds", "(Ljava/lang/Object;Lcom/example/reteweave/reteweave/network/Tuple;)Z"⟩ prog_112_method_2_code 3 (some FieldType.boolean)
abbrev cw44 : Jvm.Cond := Cond.code ⟨"com/example/reteweave/reteweave/network/Tuple", "equals", "(Ljava/lang/Object;)Z"⟩ prog_111_method_10_code 3 (some FieldType.boolean)
abbrev cw45 : Jvm.Cond := Cond.code ⟨"java/util/Arrays", "equals", "([Ljava/lang/Object;[Ljava/lang/Object;)Z"⟩ jdk_65_method_97_code 4 (some FieldType.boolean)
abbrev cw46 : Jvm.Cond := Cond.code ⟨"com/example/reteweave/reteweave/network/SlotTable", "countAt", "(I)I"⟩ prog_107_method_6_code 2 (some FieldType.int)
abbrev cw47 : Jvm.Cond := Cond.code ⟨"com/example/reteweave/reteweave/network/SlotTable", "addToCountAt", "(II)I"⟩ prog_107_method_7_code 4 (some FieldType.int)
abbrev cw48 : Jvm.Cond := Cond.code ⟨"com/example/reteweave/reteweave/network/SlotTable", "setCountAt", "(II)V"⟩ prog_107_method_13_code 3 none
abbrev cw49 : Jvm.Cond := Cond.code ⟨"java/lang/Long", "<init>", "(J)V"⟩ jdk_35_method_26_code 3 none
abbrev cw50 : Jvm.Cond := Cond.code ⟨"java/lang/Number", "<init>", "()V"⟩ jdk_18_method_1_code 1 none
abbrev cw51 : Jvm.Cond := Cond.code ⟨"com/example/reteweave/reteweave/network/SlotTable", "remove", "(I)V"⟩ prog_107_method_11_code 6 none
abbrev cw52 : Jvm.Cond := Cond.code ⟨"java/util/Objects", "equals", "(Ljava/lang/Object;Ljava/lang/Object;)Z"⟩ jdk_31_method_2_code 2 (some FieldType.boolean)
abbrev cw53 : Jvm.Cond := Cond.code ⟨"java/lang/Long", "equals", "(Ljava/lang/Object;)Z"⟩ jdk_35_method_37_code 2 (some FieldType.boolean)
abbrev cw54 : Jvm.Cond := Cond.code ⟨"java/lang/Long", "longValue", "()J"⟩ jdk_35_method_31_code 1 (some FieldType.long)
set_option maxRecDepth 65536 in
theorem w_c0 : cw0.before args0 about1 = true := code_word (m := ⟨1, 1⟩) (meth := k1m1) (c := k1c1) (by decide +kernel) rfl rfl rfl (by decide +kernel)
set_option maxRecDepth 65536 in
theorem w_c1 : cw1.before args0 about1 = true := code_word (m := ⟨7, 0⟩) (meth := k7m0) (c := k7c0) (by decide +kernel) rfl rfl rfl (by decide +kernel)
set_option maxRecDepth 65536 in
theorem w_c2 : cw2.before args0 about1 = true := code_word (m := ⟨9, 1⟩) (meth := k9m1) (c := k9c1) (by decide +kernel) rfl rfl rfl (by decide +kernel)
set_option maxRecDepth 65536 in
theorem w_c3 : cw3.before args0 about1 = true := code_word (m := ⟨9, 2⟩) (meth := k9m2) (c := k9c2) (by decide +kernel) rfl rfl rfl (by decide +kernel)
set_option maxRecDepth 65536 in
theorem w_c4 : cw4.before args0 about1 = true := code_word (m := ⟨9, 0⟩) (meth := k9m0) (c := k9c0) (by decide +kernel) rfl rfl rfl (by decide +kernel)
set_option maxRecDepth 65536 in
theorem w_c5 : cw5.before args0 about1 = true := code_word (m := ⟨0, 0⟩) (meth := k0m0) (c := k0c0) (by decide +kernel) rfl rfl rfl (by decide +kernel)
set_option maxRecDepth 65536 in
theorem w_c6 : cw6.before args0 about1 = true := code_word (m := ⟨11, 2⟩) (meth := k11m2) (c := k11c2) (by decide +kernel) rfl rfl rfl (by decide +kernel)
set_option maxRecDepth 65536 in
theorem w_c7 : cw7.before args0 about1 = true := code_word (m := ⟨7, 3⟩) (meth := k7m3) (c := k7c3) (by decide +kernel) rfl rfl rfl (by decide +kernel)
set_option maxRecDepth 65536 in
theorem w_c8 : cw8.before args0 about1 = true := code_word (m := ⟨7, 4⟩) (meth := k7m4) (c := k7c4) (by decide +kernel) rfl rfl rfl (by decide +kernel)
set_option maxRecDepth 65536 in
theorem w_c9 : cw9.before args0 about1 = true := code_word (m := ⟨14, 0⟩) (meth := k14m0) (c := k14c0) (by decide +kernel) rfl rfl rfl (by decide +kernel)
set_option maxRecDepth 65536 in
theorem w_c10 : cw10.before args0 about1 = true := code_word (m := ⟨14, 1⟩) (meth := k14m1) (c := k14c1) (by decide +kernel) rfl rfl rfl (by decide +kernel)
set_option maxRecDepth 65536 in
theorem w_c11 : cw11.before args0 about1 = true := code_word (m := ⟨12, 0⟩) (meth := k12m0) (c := k12c0) (by decide +kernel) rfl rfl rfl (by decide +kernel)
set_option maxRecDepth 65536 in
theorem w_c12 : cw12.before args0 about1 = true := code_word (m := ⟨22, 0⟩) (meth := k22m0) (c := k22c0) (by decide +kernel) rfl rfl rfl (by decide +kernel)
set_option maxRecDepth 65536 in
theorem w_c13 : cw13.before args0 about1 = true := code_word (m := ⟨20, 0⟩) (meth := k20m0) (c := k20c0) (by decide +kernel) rfl rfl rfl (by decide +kernel)
set_option maxRecDepth 65536 in
theorem w_c14 : cw14.before args0 about1 = true := code_word (m := ⟨17, 0⟩) (meth := k17m0) (c := k17c0) (by decide +kernel) rfl rfl rfl (by decide +kernel)
set_option maxRecDepth 65536 in
theorem w_c15 : cw15.before args0 about1 = true := code_word (m := ⟨23, 0⟩) (meth := k23m0) (c := k23c0) (by decide +kernel) rfl rfl rfl (by decide +kernel)
set_option maxRecDepth 65536 in
theorem w_c16 : cw16.before args0 about1 = true := code_word (m := ⟨25, 0⟩) (meth := k25m0) (c := k25c0) (by decide +kernel) rfl rfl rfl (by decide +kernel)
set_option maxRecDepth 65536 in
theorem w_c17 : cw17.before args0 about1 = true := code_word (m := ⟨24, 0⟩) (meth := k24m0) (c := k24c0) (by decide +kernel) rfl rfl rfl (by decide +kernel)
set_option maxRecDepth 65536 in
theorem w_c18 : cw18.before args0 about1 = true := code_word (m := ⟨28, 0⟩) (meth := k28m0) (c := k28c0) (by decide +kernel) rfl rfl rfl (by decide +kernel)
set_option maxRecDepth 65536 in
theorem w_c19 : cw19.before args0 about1 = true := code_word (m := ⟨27, 0⟩) (meth := k27m0) (c := k27c0) (by decide +kernel) rfl rfl rfl (by decide +kernel)
set_option maxRecDepth 65536 in
theorem w_c20 : cw20.before args0 about1 = true := code_word (m := ⟨14, 2⟩) (meth := k14m2) (c := k14c2) (by decide +kernel) rfl rfl rfl (by decide +kernel)
set_option maxRecDepth 65536 in
theorem w_c21 : cw21.before args0 about1 = true := code_word (m := ⟨23, 1⟩) (meth := k23m1) (c := k23c1) (by decide +kernel) rfl rfl rfl (by decide +kernel)
set_option maxRecDepth 65536 in
theorem w_c22 : cw22.before args0 about1 = true := code_word (m := ⟨25, 2⟩) (meth := k25m2) (c := k25c2) (by decide +kernel) rfl rfl rfl (by decide +kernel)
set_option maxRecDepth 65536 in
theorem w_c23 : cw23.before args0 about1 = true := code_word (m := ⟨9, 4⟩) (meth := k9m4) (c := k9c4) (by decide +kernel) rfl rfl rfl (by decide +kernel)
set_option maxRecDepth 65536 in
theorem w_c24 : cw24.before args0 about1 = true := code_word (m := ⟨24, 5⟩) (meth := k24m5) (c := k24c5) (by decide +kernel) rfl rfl rfl (by decide +kernel)
set_option maxRecDepth 65536 in
theorem w_c25 : cw25.before args0 about1 = true := code_word (m := ⟨24, 11⟩) (meth := k24m11) (c := k24c11) (by decide +kernel) rfl rfl rfl (by decide +kernel)
set_option maxRecDepth 65536 in
theorem w_c26 : cw26.before args0 about1 = true := code_word (m := ⟨29, 0⟩) (meth := k29m0) (c := k29c0) (by decide +kernel) rfl rfl rfl (by decide +kernel)
set_option maxRecDepth 65536 in
theorem w_c27 : cw27.before args0 about1 = true := code_word (m := ⟨25, 3⟩) (meth := k25m3) (c := k25c3) (by decide +kernel) rfl rfl rfl (by decide +kernel)
set_option maxRecDepth 65536 in
theorem w_c28 : cw28.before args0 about1 = true := code_word (m := ⟨14, 3⟩) (meth := k14m3) (c := k14c3) (by decide +kernel) rfl rfl rfl (by decide +kernel)
set_option maxRecDepth 65536 in
theorem w_c29 : cw29.before args0 about1 = true := code_word (m := ⟨23, 2⟩) (meth := k23m2) (c := k23c2) (by decide +kernel) rfl rfl rfl (by decide +kernel)
set_option maxRecDepth 65536 in
theorem w_c30 : cw30.before args0 about1 = true := code_word (m := ⟨25, 4⟩) (meth := k25m4) (c := k25c4) (by decide +kernel) rfl rfl rfl (by decide +kernel)
set_option maxRecDepth 65536 in
theorem w_c31 : cw31.before args0 about1 = true := code_word (m := ⟨32, 0⟩) (meth := k32m0) (c := k32c0) (by decide +kernel) rfl rfl rfl (by decide +kernel)
set_option maxRecDepth 65536 in
theorem w_c32 : cw32.before args0 about1 = true := code_word (m := ⟨31, 0⟩) (meth := k31m0) (c := k31c0) (by decide +kernel) rfl rfl rfl (by decide +kernel)
set_option maxRecDepth 65536 in
theorem w_c33 : cw33.before args0 about1 = true := code_word (m := ⟨32, 1⟩) (meth := k32m1) (c := k32c1) (by decide +kernel) rfl rfl rfl (by decide +kernel)
set_option maxRecDepth 65536 in
theorem w_c34 : cw34.before args0 about1 = true := code_word (m := ⟨24, 2⟩) (meth := k24m2) (c := k24c2) (by decide +kernel) rfl rfl rfl (by decide +kernel)
set_option maxRecDepth 65536 in
theorem w_c35 : cw35.before args0 about1 = true := code_word (m := ⟨32, 2⟩) (meth := k32m2) (c := k32c2) (by decide +kernel) rfl rfl rfl (by decide +kernel)
set_option maxRecDepth 65536 in
theorem w_c36 : cw36.before args0 about1 = true := code_word (m := ⟨24, 6⟩) (meth := k24m6) (c := k24c6) (by decide +kernel) rfl rfl rfl (by decide +kernel)
set_option maxRecDepth 65536 in
theorem w_c37 : cw37.before args0 about1 = true := code_word (m := ⟨24, 10⟩) (meth := k24m10) (c := k24c10) (by decide +kernel) rfl rfl rfl (by decide +kernel)
set_option maxRecDepth 65536 in
theorem w_c38 : cw38.before args0 about1 = true := code_word (m := ⟨14, 4⟩) (meth := k14m4) (c := k14c4) (by decide +kernel) rfl rfl rfl (by decide +kernel)
set_option maxRecDepth 65536 in
theorem w_c39 : cw39.before args0 about1 = true := code_word (m := ⟨28, 1⟩) (meth := k28m1) (c := k28c1) (by decide +kernel) rfl rfl rfl (by decide +kernel)
set_option maxRecDepth 65536 in
theorem w_c40 : cw40.before args0 about1 = true := code_word (m := ⟨12, 1⟩) (meth := k12m1) (c := k12c1) (by decide +kernel) rfl rfl rfl (by decide +kernel)
set_option maxRecDepth 65536 in
theorem w_c41 : cw41.before args0 about1 = true := code_word (m := ⟨22, 1⟩) (meth := k22m1) (c := k22c1) (by decide +kernel) rfl rfl rfl (by decide +kernel)
set_option maxRecDepth 65536 in
theorem w_c42 : cw42.before args0 about1 = true := code_word (m := ⟨24, 9⟩) (meth := k24m9) (c := k24c9) (by decide +kernel) rfl rfl rfl (by decide +kernel)
set_option maxRecDepth 65536 in
theorem w_c43 : cw43.before args0 about1 = true := code_word (m := ⟨25, 1⟩) (meth := k25m1) (c := k25c1) (by decide +kernel) rfl rfl rfl (by decide +kernel)
set_option maxRecDepth 65536 in
theorem w_c44 : cw44.before args0 about1 = true := code_word (m := ⟨9, 3⟩) (meth := k9m3) (c := k9c3) (by decide +kernel) rfl rfl rfl (by decide +kernel)
set_option maxRecDepth 65536 in
theorem w_c45 : cw45.before args0 about1 = true := code_word (m := ⟨11, 1⟩) (meth := k11m1) (c := k11c1) (by decide +kernel) rfl rfl rfl (by decide +kernel)
set_option maxRecDepth 65536 in
theorem w_c46 : cw46.before args0 about1 = true := code_word (m := ⟨24, 3⟩) (meth := k24m3) (c := k24c3) (by decide +kernel) rfl rfl rfl (by decide +kernel)
set_option maxRecDepth 65536 in
theorem w_c47 : cw47.before args0 about1 = true := code_word (m := ⟨24, 4⟩) (meth := k24m4) (c := k24c4) (by decide +kernel) rfl rfl rfl (by decide +kernel)
set_option maxRecDepth 65536 in
theorem w_c48 : cw48.before args0 about1 = true := code_word (m := ⟨24, 8⟩) (meth := k24m8) (c := k24c8) (by decide +kernel) rfl rfl rfl (by decide +kernel)
set_option maxRecDepth 65536 in
theorem w_c49 : cw49.before args0 about1 = true := code_word (m := ⟨7, 1⟩) (meth := k7m1) (c := k7c1) (by decide +kernel) rfl rfl rfl (by decide +kernel)
set_option maxRecDepth 65536 in
theorem w_c50 : cw50.before args0 about1 = true := code_word (m := ⟨3, 0⟩) (meth := k3m0) (c := k3c0) (by decide +kernel) rfl rfl rfl (by decide +kernel)
set_option maxRecDepth 65536 in
theorem w_c51 : cw51.before args0 about1 = true := code_word (m := ⟨24, 7⟩) (meth := k24m7) (c := k24c7) (by decide +kernel) rfl rfl rfl (by decide +kernel)
set_option maxRecDepth 65536 in
theorem w_c52 : cw52.before args0 about1 = true := code_word (m := ⟨33, 1⟩) (meth := k33m1) (c := k33c1) (by decide +kernel) rfl rfl rfl (by decide +kernel)
set_option maxRecDepth 65536 in
theorem w_c53 : cw53.before args0 about1 = true := code_word (m := ⟨7, 5⟩) (meth := k7m5) (c := k7c5) (by decide +kernel) rfl rfl rfl (by decide +kernel)
set_option maxRecDepth 65536 in
theorem w_c54 : cw54.before args0 about1 = true := code_word (m := ⟨7, 2⟩) (meth := k7m2) (c := k7c2) (by decide +kernel) rfl rfl rfl (by decide +kernel)
def codes1 : List Jvm.Cond := [cw0, cw1, cw2, cw3, cw4, cw5, cw6, cw7, cw8, cw9, cw10, cw11, cw12, cw13, cw14, cw15, cw16, cw17, cw18, cw19, cw20, cw21, cw22, cw23, cw24, cw25, cw26, cw27, cw28, cw29, cw30, cw31, cw32, cw33, cw34, cw35, cw36, cw37, cw38, cw39, cw40, cw41, cw42, cw43, cw44, cw45, cw46, cw47, cw48, cw49, cw50, cw51, cw52, cw53, cw54]
set_option maxRecDepth 65536 in
theorem codes_eq : words1.filter isCode = codes1 := rfl
theorem w_codes : ∀ c ∈ words1.filter isCode, c.before args0 about1 = true := by
  rw [codes_eq]
  intro c hc
  simp only [codes1, List.mem_cons, List.not_mem_nil, or_false] at hc
  rcases hc with rfl | rfl | rfl | rfl | rfl | rfl | rfl | rfl | rfl | rfl | rfl | rfl | rfl | rfl | rfl | rfl | rfl | rfl | rfl | rfl | rfl | rfl | rfl | rfl | rfl | rfl | rfl | rfl | rfl | rfl | rfl | rfl | rfl | rfl | rfl | rfl | rfl | rfl | rfl | rfl | rfl | rfl | rfl | rfl | rfl | rfl | rfl | rfl | rfl | rfl | rfl | rfl | rfl | rfl | rfl
  · exact w_c0
  · exact w_c1
  · exact w_c2
  · exact w_c3
  · exact w_c4
  · exact w_c5
  · exact w_c6
  · exact w_c7
  · exact w_c8
  · exact w_c9
  · exact w_c10
  · exact w_c11
  · exact w_c12
  · exact w_c13
  · exact w_c14
  · exact w_c15
  · exact w_c16
  · exact w_c17
  · exact w_c18
  · exact w_c19
  · exact w_c20
  · exact w_c21
  · exact w_c22
  · exact w_c23
  · exact w_c24
  · exact w_c25
  · exact w_c26
  · exact w_c27
  · exact w_c28
  · exact w_c29
  · exact w_c30
  · exact w_c31
  · exact w_c32
  · exact w_c33
  · exact w_c34
  · exact w_c35
  · exact w_c36
  · exact w_c37
  · exact w_c38
  · exact w_c39
  · exact w_c40
  · exact w_c41
  · exact w_c42
  · exact w_c43
  · exact w_c44
  · exact w_c45
  · exact w_c46
  · exact w_c47
  · exact w_c48
  · exact w_c49
  · exact w_c50
  · exact w_c51
  · exact w_c52
  · exact w_c53
  · exact w_c54
set_option maxRecDepth 65536 in
theorem w_t1 : (words1.take 24).all (fun c => isCode c || c.before args0 about1) = true := by decide +kernel
set_option maxRecDepth 65536 in
theorem w_t2 : ((words1.drop 24).take 24).all (fun c => isCode c || c.before args0 about1) = true := by decide +kernel
set_option maxRecDepth 65536 in
theorem w_t3 : (((words1.drop 24).drop 24).take 24).all (fun c => isCode c || c.before args0 about1) = true := by decide +kernel
set_option maxRecDepth 65536 in
theorem w_t4 : ((((words1.drop 24).drop 24).drop 24).take 24).all (fun c => isCode c || c.before args0 about1) = true := by decide +kernel
set_option maxRecDepth 65536 in
theorem w_t5 : (((((words1.drop 24).drop 24).drop 24).drop 24).take 24).all (fun c => isCode c || c.before args0 about1) = true := by decide +kernel
set_option maxRecDepth 65536 in
theorem w_t6 : ((((((words1.drop 24).drop 24).drop 24).drop 24).drop 24).take 24).all (fun c => isCode c || c.before args0 about1) = true := by decide +kernel
set_option maxRecDepth 65536 in
theorem w_t7 : (((((((words1.drop 24).drop 24).drop 24).drop 24).drop 24).drop 24).take 24).all (fun c => isCode c || c.before args0 about1) = true := by decide +kernel
set_option maxRecDepth 65536 in
theorem w_t8 : ((((((((words1.drop 24).drop 24).drop 24).drop 24).drop 24).drop 24).drop 24).take 24).all (fun c => isCode c || c.before args0 about1) = true := by decide +kernel
set_option maxRecDepth 65536 in
theorem w_t9 : (((((((((words1.drop 24).drop 24).drop 24).drop 24).drop 24).drop 24).drop 24).drop 24).take 24).all (fun c => isCode c || c.before args0 about1) = true := by decide +kernel
set_option maxRecDepth 65536 in
theorem w_t10 : ((((((((((words1.drop 24).drop 24).drop 24).drop 24).drop 24).drop 24).drop 24).drop 24).drop 24).take 24).all (fun c => isCode c || c.before args0 about1) = true := by decide +kernel
set_option maxRecDepth 65536 in
theorem w_t11 : (((((((((((words1.drop 24).drop 24).drop 24).drop 24).drop 24).drop 24).drop 24).drop 24).drop 24).drop 24).take 24).all (fun c => isCode c || c.before args0 about1) = true := by decide +kernel
set_option maxRecDepth 65536 in
theorem w_t12 : ((((((((((((words1.drop 24).drop 24).drop 24).drop 24).drop 24).drop 24).drop 24).drop 24).drop 24).drop 24).drop 24).take 24).all (fun c => isCode c || c.before args0 about1) = true := by decide +kernel
set_option maxRecDepth 65536 in
theorem w_t13 : (((((((((((((words1.drop 24).drop 24).drop 24).drop 24).drop 24).drop 24).drop 24).drop 24).drop 24).drop 24).drop 24).drop 24).take 24).all (fun c => isCode c || c.before args0 about1) = true := by decide +kernel
set_option maxRecDepth 65536 in
theorem w_t14 : ((((((((((((((words1.drop 24).drop 24).drop 24).drop 24).drop 24).drop 24).drop 24).drop 24).drop 24).drop 24).drop 24).drop 24).drop 24).take 24).all (fun c => isCode c || c.before args0 about1) = true := by decide +kernel
set_option maxRecDepth 65536 in
theorem w_t15 : (((((((((((((((words1.drop 24).drop 24).drop 24).drop 24).drop 24).drop 24).drop 24).drop 24).drop 24).drop 24).drop 24).drop 24).drop 24).drop 24).take 24).all (fun c => isCode c || c.before args0 about1) = true := by decide +kernel
set_option maxRecDepth 65536 in
theorem w_t16 : (((((((((((((((words1.drop 24).drop 24).drop 24).drop 24).drop 24).drop 24).drop 24).drop 24).drop 24).drop 24).drop 24).drop 24).drop 24).drop 24).drop 24).all (fun c => isCode c || c.before args0 about1) = true := by decide +kernel
theorem w_tables : (allAtoms (Jvm.Cond.code x code maxLocals ret :: tables_1)).before args0 about1 = true := by
  rw [allAtoms_all]
  show words1.all (fun c => c.before args0 about1) = true
  refine all_split ?_ w_codes
  rw [← List.take_append_drop 24 words1, List.all_append, w_t1, ← List.take_append_drop 24 (words1.drop 24), List.all_append, w_t2, ← List.take_append_drop 24 ((words1.drop 24).drop 24), List.all_append, w_t3, ← List.take_append_drop 24 (((words1.drop 24).drop 24).drop 24), List.all_append, w_t4, ← List.take_append_drop 24 ((((words1.drop 24).drop 24).drop 24).drop 24), List.all_append, w_t5, ← List.take_append_drop 24 (((((words1.drop 24).drop 24).drop 24).drop 24).drop 24), List.all_append, w_t6, ← List.take_append_drop 24 ((((((words1.drop 24).drop 24).drop 24).drop 24).drop 24).drop 24), List.all_append, w_t7, ← List.take_append_drop 24 (((((((words1.drop 24).drop 24).drop 24).drop 24).drop 24).drop 24).drop 24), List.all_append, w_t8, ← List.take_append_drop 24 ((((((((words1.drop 24).drop 24).drop 24).drop 24).drop 24).drop 24).drop 24).drop 24), List.all_append, w_t9, ← List.take_append_drop 24 (((((((((words1.drop 24).drop 24).drop 24).drop 24).drop 24).drop 24).drop 24).drop 24).drop 24), List.all_append, w_t10, ← List.take_append_drop 24 ((((((((((words1.drop 24).drop 24).drop 24).drop 24).drop 24).drop 24).drop 24).drop 24).drop 24).drop 24), List.all_append, w_t11, ← List.take_append_drop 24 (((((((((((words1.drop 24).drop 24).drop 24).drop 24).drop 24).drop 24).drop 24).drop 24).drop 24).drop 24).drop 24), List.all_append, w_t12, ← List.take_append_drop 24 ((((((((((((words1.drop 24).drop 24).drop 24).drop 24).drop 24).drop 24).drop 24).drop 24).drop 24).drop 24).drop 24).drop 24), List.all_append, w_t13, ← List.take_append_drop 24 (((((((((((((words1.drop 24).drop 24).drop 24).drop 24).drop 24).drop 24).drop 24).drop 24).drop 24).drop 24).drop 24).drop 24).drop 24), List.all_append, w_t14, ← List.take_append_drop 24 ((((((((((((((words1.drop 24).drop 24).drop 24).drop 24).drop 24).drop 24).drop 24).drop 24).drop 24).drop 24).drop 24).drop 24).drop 24).drop 24), List.all_append, w_t15, w_t16]
  rfl
set_option maxRecDepth 65536 in
theorem w_rest : rest_1_c.before args0 about1 = true := by decide +kernel
set_option maxRecDepth 65536 in
theorem w_case : (Jvm.Cond.and given_1 narrow_1).before args0 about1 = true := by decide +kernel
theorem w_applies : (headSpec (Jvm.Cond.code x code maxLocals ret :: tables_1) room_1).applies x e0.platform about1 = true :=
  (Spec.applies_iff w_frames).mpr ⟨w_running, w_runnable, w_alone, w_named, w_hears, w_ripe, w_room, w_tables⟩
theorem atStart : AtStart classFile x code maxLocals ret World_1 tables_1 room_1 Calls_1 rest_1 Pre_1 launch0 p0 e0 about1 theMethod args0 below0 :=
  ⟨lists_1, trivial, launch0.admits_env _ _ _, launch0.least_env, fairChoices_fair.cas, fairChoices_fair.clock, w_frames, w_args, w_heap, w_applies, trivial, w_rest, w_case⟩
end start1
theorem witness_1 : WitnessClaimed_1 := ⟨start1.p0, start1.e0, start1.about1, start1.theMethod, start1.args0, start1.below0, start1.atStart⟩
end Jvm.Pilot.@@N@@
