import JvmDerived
import JvmDerived.Pilot.@@N@@Statement
import JvmDerived.Pilot.@@N@@Code
set_option linter.unusedVariables false
set_option linter.unusedSimpArgs false
namespace Jvm.RoadKit
open Sem ClassFile Op Lib Jvm.Stand Jvm.Free Jvm.LawKit
section New
variable {p : Program} {l : Launch} {e : Env} {R : Room} {s : State} {m : MethodId} {args : Array Value} {below : List Frame} {meth : Method} {c : Code} {T : State} {locs : List Loc} {cells slots : Nat}
theorem retI (X : Stand p l e R s m args below meth c T locs cells slots) (hx : p.tables.exec = Jvm.exec) {pc : Nat} {Ls : Array Slot} {z : Int32} {rest : List Value} (hret : meth.sig.returnType = some .int) (hd : decode c.code pc = .ok (.ireturn, 1)) {fs : List Frame}
    (hl : ∀ (f : JFrame) (acts : List Action), f.method = m → f.locked = none → f.entered = [] → (doReturn e (T.setTop f) acts (some (.int z))).1 = T.setFrames fs) : Steps p.tables e below (T.setTop (mkF m pc Ls (.int z :: rest))) (T.setFrames fs) := by
  have hm' : T.vm.method? m = some meth := X.method'
  have hn : narrow .int (.int z) = .int z := rfl
  show Steps p.tables e below (T.setTop { method := m, pc := pc, locals := Ls, stack := _ :: rest, locked := none }) _
  jvm_step X.here [X.here.top, hx, hd, hm', hret, hn]
  first | (intro acts; rw [hl _ acts rfl rfl rfl]) | rw [hl _ _ rfl rfl rfl]
  exact Steps.refl _
end New
end Jvm.RoadKit
namespace Jvm.Pilot.@@N@@
open Jvm Jvm.ClassFile Sem Op Lib Jvm.Free Jvm.Stand Jvm.LawKit Jvm.RoadKit Bundle Jvm.Pilot.@@N@@.Jvm.D
theorem own_ext {h h' : Heap} (K : Keep h h' []) : Ext h h' := ⟨K.1, fun a c q => K.2.1 a c q nin0⟩
theorem own_fits {t : FieldType} {x : Int32} (h : nar t x = x) (f : fits t (.int (nar t x)) = true) : fits t (.int x) = true := by rw [h] at f; exact f
theorem own_nb (x : Int32) : nar .byte (x.toInt8.toInt32) = x.toInt8.toInt32 := by simp [nar]
theorem own_nc (x : Int32) : nar .char (x.toUInt32.toUInt16.toUInt32.toInt32) = x.toUInt32.toUInt16.toUInt32.toInt32 := by
  show (x.toUInt32.toUInt16.toUInt32.toInt32).toUInt32.toUInt16.toUInt32.toInt32 = _
  rw [UInt32.toUInt32_toInt32, UInt16.toUInt16_toUInt32]
theorem own_gen {p : Program} {l : Launch} {e : Env} {R : Room} {s : State} {m : MethodId} {args : Array Value} {below : List Frame} {meth : Method} {c : Code} {T : State} {locs : List Loc} {cells slots n0 : Nat} (X : Stand p l e R s m args below meth c T locs cells slots) (N : Fr n0 locs) : ∃ L, Stand p l e R s m args below meth c T L cells slots ∧ Fr n0 L := ⟨_, X, N⟩
theorem own_ne {a b : Addr} (h : a < b) : a ≠ b := Nat.ne_of_lt h
theorem own_Sta {Z : State} {h h' : Heap} {C n d : String} {v : Value} {ws : List Addr} (F : Sta Z h C n d v) (K : Keep h h' ws) (q : ∀ x ∈ ws, ∀ cell : Cell, h[x]? = some cell → cell.vm.isStatics = false) : Sta Z h' C n d v := by
  obtain ⟨cf, i, k, f, st, cell, h1, h2, h3, h4, h5, h6, h7⟩ := F
  refine ⟨cf, i, k, f, st, cell, h1, h2, h3, h4, K.2.1 st cell h5 (fun m => ?_), h6, h7⟩
  rw [q st m cell h5] at h6
  cases h6
theorem own_priv {s : State} {args : Array Value} {y : MethodName} {n : Nat} (wi : (Cond.instantiable y.cls n).before args s = true) (hp : s.PrivateAt y) (hi : (Cond.instanceMethod y).before args s = true) (hy : y.cls ≠ "java/lang/invoke/MethodHandle" ∧ y.cls ≠ "java/lang/invoke/VarHandle") : (Cond.selects y.cls y y).before args s = true := by
  obtain ⟨c, k, h1, h2, -, h4, -⟩ := Cond.instantiable_spec wi
  exact selects_self_of_private h1 h2 (by cases hk : k.isInterface <;> simp_all) hp hi hy
theorem own_lremM {p : Program} {l : Launch} {e : Env} {R : Room} {s : State} {m : MethodId} {args : Array Value} {below : List Frame} {meth : Method} {c : Code} {T : State} {locs : List Loc} {cells slots : Nat} {g : JFrame} {target : State} (X : Stand p l e R s m args below meth c T locs cells slots) (hx : p.tables.exec = Jvm.exec) (hg : g.method = m) {x y : Int64} {rest : List Value} (hd : decode c.code g.pc = .ok (.lrem, 1)) (hs : g.stack = .long y :: .long x :: rest) (hy : y ≠ 0)
    (hr : Steps p.tables e below (T.setTop { g with pc := g.pc + 1, stack := .long (x % y) :: rest }) target) : Steps p.tables e below (T.setTop g) target := by
  have q : x - x / y * y = x % y := lrem_mod x y
  exact XS.lrem X.here hx hg hd hs hy (by rw [q]; exact hr)
theorem own_nf {args : Array Value} {s : State} {C : String} {y y' : MethodName} (h : (Cond.selects C y' y').before args s = true) (e : y.cls = y'.cls) : NotFace s y := fun r0 h0 => by
  obtain ⟨c2, r2, m2, q1, q2, q3, q4, kP, hkP, hkPi⟩ := Cond.selects_spec h
  have a := findClass_of_methodNamed h0
  have b := findClass_of_methodNamed q3
  rw [e] at a
  have w : r0.cls = m2.cls := Option.some.inj (a.symm.trans b)
  exact ⟨kP, by rw [w]; exact hkP, hkPi⟩
theorem own_same {a0 : Array Value} {Z : State} {C : String} {y y' : MethodName} (hsel : (Cond.selects C y' y').before a0 Z = true) (e : y.cls = y'.cls) (hi : (Cond.instanceMethod y).before a0 Z = true) (hy : y.cls ≠ "java/lang/invoke/MethodHandle" ∧ y.cls ≠ "java/lang/invoke/VarHandle") : (Cond.sameMethod y.cls y.cls y.name y.desc).before a0 Z = true := by
  obtain ⟨mk, methM, hnamed, hmethM, -, -⟩ := Cond.instanceMethod_spec hi
  have hf := State.methodFound?_of_named hnamed hy
  have hc := findClass_of_methodNamed hnamed
  obtain ⟨kr, hk, hn⟩ := own_nf hsel e mk hnamed
  have hnm : Z.methodNamed? ⟨y.cls, y.name, y.desc⟩ = some mk := hnamed
  simp [Cond.before, Cond.holds, Cond.value, hc, hf, hnm, hk, hn]
def own_Arf (Z : State) (h : Heap) (a : Addr) (k : ClassId) (ty : FieldType) (n : Int32) (f : Nat → Value) : Prop := ∃ c : Cell, Arr Z h a c ty ∧ c.cls = k ∧ c.slots.size = n.toNatClampNeg ∧ ¬ n < 0 ∧ (∀ i, i < c.slots.size → c.slots[i]? = some (f i)) ∧ ∀ i, i < c.slots.size → fits ty (f i) = true
def own_upd (f : Nat → Value) (j : Nat) (v : Value) : Nat → Value := fun i => if i = j then v else f i
theorem own_upd_eq {f : Nat → Value} {j : Nat} {v : Value} : own_upd f j v j = v := if_pos rfl
theorem own_upd_ne {f : Nat → Value} {i j : Nat} {v : Value} (q : i ≠ j) : own_upd f j v i = f i := if_neg q
section OwnArf
variable {Z : State} {h h' : Heap} {a b : Addr} {k : ClassId} {ty : FieldType} {n j : Int32} {f g : Nat → Value} {ws : List Addr} {sl : Nat} {v : Value} {c : Cell}
theorem own_Arf.lt (F : own_Arf Z h a k ty n f) : a < h.size := by obtain ⟨c, A, -⟩ := F; exact A.lt
theorem own_Arf.ext (F : own_Arf Z h a k ty n f) (E : Ext h h') : own_Arf Z h' a k ty n f := by obtain ⟨c, A, r⟩ := F; exact ⟨c, A.ext E, r⟩
theorem own_Arf.other (F : own_Arf Z h b k ty n f) (W : Wr h h' a sl v) (q : b ≠ a) : own_Arf Z h' b k ty n f := by obtain ⟨c, A, r⟩ := F; exact ⟨c, A.other W q, r⟩
theorem own_Arf.keep (F : own_Arf Z h a k ty n f) (K : Keep h h' ws) (q : a ∉ ws) : own_Arf Z h' a k ty n f := by obtain ⟨c, A, r⟩ := F; exact ⟨c, ⟨K.2.1 a c A.1 q, A.2⟩, r⟩
theorem own_Arf.new (A : Arr Z h a (newA k ty n) ty) (q : ¬ n < 0) : own_Arf Z h a k ty n (fun _ => defaultValue ty) := by
  obtain ⟨c, r1, r2, r3, r4, r5, r6⟩ := Arv.new A q
  exact ⟨c, r1, r2, r3, r4, fun i hi => r5 i hi, fun i hi => r6 i hi⟩
theorem own_Arf.nostat (A : own_Arf Z h a k ty n f) : ∀ cell : Cell, h[a]? = some cell → cell.vm.isStatics = false := by
  obtain ⟨c, r1, r2, r3, r4, r5, r6⟩ := A
  have q : Arv Z h a k ty n (List.ofFn fun i : Fin c.slots.size => f i) .null := by
    refine ⟨c, r1, r2, r3, r4, fun i hi => ?_, fun i hi => ?_⟩
    · rw [r5 i hi]; simp [List.getD_eq_getElem?_getD, hi]
    · have := r6 i hi; simpa [List.getD_eq_getElem?_getD, hi] using this
  exact q.nostat
theorem own_Arf.set (A : Arr Z h a c ty) (q1 : c.cls = k) (S : c.slots.size = n.toNatClampNeg) (q3 : ¬ n < 0) (H : ∀ i, i < c.slots.size → c.slots[i]? = some (f i)) (G : ∀ i, i < c.slots.size → fits ty (f i) = true) (hv : fits ty v = true) (W : Wr h h' a j.toNatClampNeg v) : own_Arf Z h' a k ty n (own_upd f j.toNatClampNeg v) := by
  have ez : (c.setSlot j.toNatClampNeg v).slots.size = c.slots.size := by simp [Cell.setSlot]
  refine ⟨_, A.same W, q1, by rw [ez]; exact S, q3, fun x hx => ?_, fun x hx => ?_⟩
  · rw [ez] at hx
    by_cases u : x = j.toNatClampNeg
    · subst u; rw [own_upd_eq]; simp [Cell.setSlot, hx]
    · rw [own_upd_ne u]; simp only [Cell.setSlot]; rw [Array.getElem?_setIfInBounds_ne (Ne.symm u)]; exact H x hx
  · rw [ez] at hx
    by_cases u : x = j.toNatClampNeg
    · subst u; rw [own_upd_eq]; exact hv
    · rw [own_upd_ne u]; exact G x hx
theorem own_at (H : ∀ i, i < c.slots.size → c.slots[i]? = some (f i)) (q : ¬ (j < 0 ∨ c.slots.size ≤ j.toNatClampNeg)) (u : f j.toNatClampNeg = v) : c.slots[j.toNatClampNeg]? = some v := u ▸ H _ (Nat.lt_of_not_le fun y => q (Or.inr y))
theorem own_Arf.congr (F : own_Arf Z h a k ty n f) (q : ∀ i, i < n.toNatClampNeg → g i = f i) : own_Arf Z h a k ty n g := by
  obtain ⟨c, r1, r2, r3, r4, r5, r6⟩ := F
  exact ⟨c, r1, r2, r3, r4, fun i hi => by rw [q i (r3 ▸ hi)]; exact r5 i hi, fun i hi => by rw [q i (r3 ▸ hi)]; exact r6 i hi⟩
theorem own_Arf.fit (F : own_Arf Z h a k ty n f) : ∀ i, i < n.toNatClampNeg → fits ty (f i) = true := by
  obtain ⟨c, r1, r2, r3, r4, r5, r6⟩ := F
  exact fun i hi => r6 i (r3.symm ▸ hi)
theorem own_any_at (H : ∀ i, i < c.slots.size → c.slots[i]? = some (f i)) (G : ∀ i, i < c.slots.size → fits ty (f i) = true) (q : ¬ (j < 0 ∨ c.slots.size ≤ j.toNatClampNeg)) (t : ty = .int ∨ ty = .boolean ∨ ty = .byte ∨ ty = .char ∨ ty = .short) : ∃ x, c.slots[j.toNatClampNeg]? = some (.int x) := by
  have b : j.toNatClampNeg < c.slots.size := Nat.lt_of_not_le fun y => q (Or.inr y)
  obtain ⟨x, hx⟩ := fit_I (G _ b) t
  exact ⟨x, hx ▸ H _ b⟩
def own_Any (Z : State) (h : Heap) (a : Addr) (k : ClassId) (ty : FieldType) (n : Int32) : Prop := ∃ f, own_Arf Z h a k ty n f
theorem own_Any.lt (F : own_Any Z h a k ty n) : a < h.size := by obtain ⟨f, F⟩ := F; exact F.lt
theorem own_Any.ext (F : own_Any Z h a k ty n) (E : Ext h h') : own_Any Z h' a k ty n := by obtain ⟨f, F⟩ := F; exact ⟨f, F.ext E⟩
theorem own_Any.other (F : own_Any Z h b k ty n) (W : Wr h h' a sl v) (q : b ≠ a) : own_Any Z h' b k ty n := by obtain ⟨f, F⟩ := F; exact ⟨f, F.other W q⟩
theorem own_Any.keep (F : own_Any Z h a k ty n) (K : Keep h h' ws) (q : a ∉ ws) : own_Any Z h' a k ty n := by obtain ⟨f, F⟩ := F; exact ⟨f, F.keep K q⟩
theorem own_Any.nostat (F : own_Any Z h a k ty n) : ∀ cell : Cell, h[a]? = some cell → cell.vm.isStatics = false := by obtain ⟨f, F⟩ := F; exact F.nostat
def own_cpf (f : Nat → Value) (sp : Nat) (g : Nat → Value) (dp n : Nat) : Nat → Value := fun i => if dp ≤ i ∧ i < dp + n then f (sp + (i - dp)) else g i
theorem own_Arf.toV (F : own_Arf Z h a k ty n f) : Arv Z h a k ty n ((List.range n.toNatClampNeg).map f) .null := by
  obtain ⟨c, r1, r2, r3, r4, r5, r6⟩ := F
  refine ⟨c, r1, r2, r3, r4, fun i hi => ?_, fun i hi => ?_⟩
  · rw [r5 i hi]; rw [r3] at hi; simp [List.getD_eq_getElem?_getD, hi]
  · have := r6 i hi; rw [r3] at hi; simpa [List.getD_eq_getElem?_getD, hi] using this
theorem own_Arf.ofV {vs : List Value} {d : Value} (F : Arv Z h a k ty n vs d) (q : ∀ i, i < n.toNatClampNeg → f i = vs.getD i d) : own_Arf Z h a k ty n f := by
  obtain ⟨c, r1, r2, r3, r4, r5, r6⟩ := F
  exact ⟨c, r1, r2, r3, r4, fun i hi => by rw [q i (r3 ▸ hi)]; exact r5 i hi, fun i hi => by rw [q i (r3 ▸ hi)]; exact r6 i hi⟩
theorem own_Arf.cl (A : Arv Z h a k ty n ((List.range n.toNatClampNeg).map f) .null) : own_Arf Z h a k ty n f := own_Arf.ofV A (fun i hi => by simp [List.getD_eq_getElem?_getD, hi])
theorem own_cpA {p : Program} {l : Launch} {e : Env} {R : Room} {s : State} {m : MethodId} {args : Array Value} {below : List Frame} {meth : Method} {c : Code} {T : State} {locs : List Loc} {cells slots : Nat} (X : Stand p l e R s m args below meth c T locs cells slots) (hx : p.tables.exec = Jvm.exec) (hZ : Z.Warmed39 s.vm) {a0 : Array Value} {own : String} {index : Nat} (hown : s.vm.findClass own = some m.cls)
    (w1 : (Cond.methodLink own index Jvm.Stand.acN).before a0 Z = true) (w2 : (Cond.native Jvm.Stand.acN).before a0 Z = true) (w3 : (Cond.static Jvm.Stand.acN).before a0 Z = true) (w4 : (Cond.initialized "java/lang/System").before a0 Z = true) (eT : T.heap = h)
    {k' : ClassId} {z' sp dp nn : Int32} {f' : Nat → Value} (A : own_Arf Z h a k ty n f) (B : own_Arf Z h b k' ty z' f') (hty : refKind ty = false)
    (h1 : ¬ sp < 0) (h2 : ¬ dp < 0) (h3 : ¬ nn < 0) (h4 : sp.toNatClampNeg + nn.toNatClampNeg ≤ n.toNatClampNeg) (h5 : dp.toNatClampNeg + nn.toNatClampNeg ≤ z'.toNatClampNeg) {n0 : Nat} (N : Fr n0 locs) (ge : n0 ≤ b)
    {g : JFrame} (hg : g.method = m) (hsize : g.locals.size = c.maxLocals) {rest : List Value} (hs : g.stack = .int nn :: .int dp :: .ref b :: .int sp :: .ref a :: rest) (hd : decode c.code g.pc = .ok (.invokestatic index, 3))
    (hf : 1 ≤ R.frames) {W : Nat} (hW : 2 * g.monitorRoom + (rest.map fun v => v.category).sum ≤ W) (hlo : W + (nativeFrameWords "java/lang/System" "arraycopy" 5 + 11) ≤ R.locals) :
    ∃ T' h' L, Stand p l e R s m args below meth c T' L cells slots ∧ T'.heap = h' ∧ Fr n0 L ∧ Keep h h' [b] ∧ own_Arf Z h' b k' ty z' (own_cpf f sp.toNatClampNeg f' dp.toNatClampNeg nn.toNatClampNeg) ∧
      ∀ target, Steps p.tables e below (T'.setTop { g with pc := g.pc + 3, stack := rest }) target → Steps p.tables e below (T.setTop g) target := by
  obtain ⟨T', h', L, q1, q2, q3, q4, q5, q6⟩ := cpA X hx hZ hown w1 w2 w3 w4 eT A.toV B.toV (us := (List.range nn.toNatClampNeg).map fun i => ((List.range n.toNatClampNeg).map f).getD (sp.toNatClampNeg + i) .null) (Or.inl ⟨rfl, hty⟩) h1 h2 h3 h4 h5 rfl (by simpa using h5) N ge hg hsize hs hd hf hW hlo
  refine ⟨T', h', L, q1, q2, q3, q4, own_Arf.ofV q5 fun i hi => ?_, q6⟩
  simp only [own_cpf, List.getD_eq_getElem?_getD]
  by_cases c1 : i < dp.toNatClampNeg
  · rw [if_neg (by omega), List.append_assoc, List.getElem?_append_left (by simp; omega), List.getElem?_take_of_lt c1]; simp [hi]
  · by_cases c2 : i < dp.toNatClampNeg + nn.toNatClampNeg
    · rw [if_pos ⟨by omega, c2⟩, List.getElem?_append_left (by simp; omega), List.getElem?_append_right (by simp; omega)]
      have e1 : (List.take dp.toNatClampNeg (List.map f' (List.range z'.toNatClampNeg))).length = dp.toNatClampNeg := by simp; omega
      rw [e1]
      have e2 : i - dp.toNatClampNeg < nn.toNatClampNeg := by omega
      have e3 : sp.toNatClampNeg + (i - dp.toNatClampNeg) < n.toNatClampNeg := by omega
      simp [e2, e3]
    · rw [if_neg (by omega), List.getElem?_append_right (by simp; omega)]
      have e1 : (List.take dp.toNatClampNeg (List.map f' (List.range z'.toNatClampNeg)) ++ (List.range nn.toNatClampNeg).map fun i => ((List.map f (List.range n.toNatClampNeg))[sp.toNatClampNeg + i]?).getD .null).length = dp.toNatClampNeg + nn.toNatClampNeg := by simp; omega
      rw [e1, List.getElem?_drop, show dp.toNatClampNeg + nn.toNatClampNeg + (i - (dp.toNatClampNeg + nn.toNatClampNeg)) = i by omega]
      simp [hi]
end OwnArf
theorem own_mono {l : Launch} {x : MethodName} {S : Spec} {P : Array Value → State → Prop} {K : Program → Env → List Frame → State → Array Value → Prop} {Q Q' : Option Value → Heap → List Loc → Prop} {E : State → Outcome → State → List Loc → Prop} (M : MetFree l x S P K (fun _ U o U' => ∃ v L, o = .returned v ∧ Q v U'.heap L ∧ E U o U' L)) (H : ∀ v h L, Q v h L → Q' v h L) : MetFree l x S P K (fun _ U o U' => ∃ v L, o = .returned v ∧ Q' v U'.heap L ∧ E U o U' L) := fun p e a1 a2 a3 s m args below a4 a5 a6 a7 => by
  obtain ⟨n, o, b1, b2, b3, v, L, c1, c2, c3⟩ := M p e a1 a2 a3 s m args below a4 a5 a6 a7
  exact ⟨n, o, b1, b2, b3, v, L, c1, H _ _ _ c2, c3⟩
abbrev cLM : String := "com/example/headlattice/headlattice/learn/RuleLearner$Limits"
theorem w0 {Z : State} {az : Array Value} (hw : ∀ d ∈ tables_1, d.before az Z = true) : (Jvm.Cond.constant "com/example/headlattice/headlattice/learn/LimitsAllowsConditionPinLaw" (7 : Nat) (2147483647 : Int32)).before az Z = true := hw _ (List.mem_of_getElem? (i := 0) rfl)
theorem w1 {Z : State} {az : Array Value} (hw : ∀ d ∈ tables_1, d.before az Z = true) : (Jvm.Cond.methodLink "com/example/headlattice/headlattice/learn/LimitsAllowsConditionPinLaw" (8 : Nat) ({ cls := "java/lang/Math", name := "min", desc := "(II)I" } : Jvm.MethodName)).before az Z = true := hw _ (List.mem_of_getElem? (i := 1) rfl)
theorem w2 {Z : State} {az : Array Value} (hw : ∀ d ∈ tables_1, d.before az Z = true) : (Jvm.Cond.static ({ cls := "java/lang/Math", name := "min", desc := "(II)I" } : Jvm.MethodName)).before az Z = true := hw _ (List.mem_of_getElem? (i := 2) rfl)
theorem w3 {Z : State} {az : Array Value} (hw : ∀ d ∈ tables_1, d.before az Z = true) : (Jvm.Cond.initialized "java/lang/Math").before az Z = true := hw _ (List.mem_of_getElem? (i := 3) rfl)
theorem w4 {Z : State} {az : Array Value} (hw : ∀ d ∈ tables_1, d.before az Z = true) : (Jvm.Cond.code ({ cls := "java/lang/Math", name := "min", desc := "(II)I" } : Jvm.MethodName) jdk_29_method_69_code (2 : Nat) (Option.some Jvm.ClassFile.FieldType.int)).before az Z = true := hw _ (List.mem_of_getElem? (i := 4) rfl)
theorem w5 {Z : State} {az : Array Value} (hw : ∀ d ∈ tables_1, d.before az Z = true) : (Jvm.Cond.methodLink "com/example/headlattice/headlattice/learn/LimitsAllowsConditionPinLaw" (14 : Nat) ({ cls := "java/lang/Math", name := "max", desc := "(II)I" } : Jvm.MethodName)).before az Z = true := hw _ (List.mem_of_getElem? (i := 5) rfl)
theorem w6 {Z : State} {az : Array Value} (hw : ∀ d ∈ tables_1, d.before az Z = true) : (Jvm.Cond.static ({ cls := "java/lang/Math", name := "max", desc := "(II)I" } : Jvm.MethodName)).before az Z = true := hw _ (List.mem_of_getElem? (i := 6) rfl)
theorem w7 {Z : State} {az : Array Value} (hw : ∀ d ∈ tables_1, d.before az Z = true) : (Jvm.Cond.code ({ cls := "java/lang/Math", name := "max", desc := "(II)I" } : Jvm.MethodName) jdk_29_method_65_code (2 : Nat) (Option.some Jvm.ClassFile.FieldType.int)).before az Z = true := hw _ (List.mem_of_getElem? (i := 7) rfl)
theorem w8 {Z : State} {az : Array Value} (hw : ∀ d ∈ tables_1, d.before az Z = true) : (Jvm.Cond.classLink "com/example/headlattice/headlattice/learn/LimitsAllowsConditionPinLaw" (17 : Nat) "com/example/headlattice/headlattice/learn/RuleLearner$Limits").before az Z = true := hw _ (List.mem_of_getElem? (i := 8) rfl)
theorem w9 {Z : State} {az : Array Value} (hw : ∀ d ∈ tables_1, d.before az Z = true) : (Jvm.Cond.instantiable "com/example/headlattice/headlattice/learn/RuleLearner$Limits" (4 : Nat)).before az Z = true := hw _ (List.mem_of_getElem? (i := 9) rfl)
theorem w10 {Z : State} {az : Array Value} (hw : ∀ d ∈ tables_1, d.before az Z = true) : (Jvm.Cond.initialized "com/example/headlattice/headlattice/learn/RuleLearner$Limits").before az Z = true := hw _ (List.mem_of_getElem? (i := 10) rfl)
theorem w11 {Z : State} {az : Array Value} (hw : ∀ d ∈ tables_1, d.before az Z = true) : (Jvm.Cond.methodLink "com/example/headlattice/headlattice/learn/LimitsAllowsConditionPinLaw" (19 : Nat) ({ cls := "com/example/headlattice/headlattice/learn/RuleLearner$Limits", name := "<init>", desc := "(IIDD)V" } : Jvm.MethodName)).before az Z = true := hw _ (List.mem_of_getElem? (i := 11) rfl)
theorem w12 {Z : State} {az : Array Value} (hw : ∀ d ∈ tables_1, d.before az Z = true) : (Jvm.Cond.instanceMethod ({ cls := "com/example/headlattice/headlattice/learn/RuleLearner$Limits", name := "<init>", desc := "(IIDD)V" } : Jvm.MethodName)).before az Z = true := hw _ (List.mem_of_getElem? (i := 12) rfl)
theorem w13 {Z : State} {az : Array Value} (hw : ∀ d ∈ tables_1, d.before az Z = true) : (Jvm.Cond.code ({ cls := "com/example/headlattice/headlattice/learn/RuleLearner$Limits", name := "<init>", desc := "(IIDD)V" } : Jvm.MethodName) prog_39_method_1_code (7 : Nat) (Option.none : Option Jvm.ClassFile.FieldType)).before az Z = true := hw _ (List.mem_of_getElem? (i := 13) rfl)
theorem w14 {Z : State} {az : Array Value} (hw : ∀ d ∈ tables_1, d.before az Z = true) : (Jvm.Cond.methodLink "com/example/headlattice/headlattice/learn/RuleLearner$Limits" (1 : Nat) ({ cls := "java/lang/Record", name := "<init>", desc := "()V" } : Jvm.MethodName)).before az Z = true := hw _ (List.mem_of_getElem? (i := 14) rfl)
theorem w15 {Z : State} {az : Array Value} (hw : ∀ d ∈ tables_1, d.before az Z = true) : (Jvm.Cond.instanceMethod ({ cls := "java/lang/Record", name := "<init>", desc := "()V" } : Jvm.MethodName)).before az Z = true := hw _ (List.mem_of_getElem? (i := 15) rfl)
theorem w17 {Z : State} {az : Array Value} (hw : ∀ d ∈ tables_1, d.before az Z = true) : (Jvm.Cond.initialized "java/lang/Record").before az Z = true := hw _ (List.mem_of_getElem? (i := 17) rfl)
theorem w18 {Z : State} {az : Array Value} (hw : ∀ d ∈ tables_1, d.before az Z = true) : (Jvm.Cond.code ({ cls := "java/lang/Record", name := "<init>", desc := "()V" } : Jvm.MethodName) jdk_30_method_1_code (1 : Nat) (Option.none : Option Jvm.ClassFile.FieldType)).before az Z = true := hw _ (List.mem_of_getElem? (i := 18) rfl)
theorem w19 {Z : State} {az : Array Value} (hw : ∀ d ∈ tables_1, d.before az Z = true) : (Jvm.Cond.methodLink "java/lang/Record" (1 : Nat) ({ cls := "java/lang/Object", name := "<init>", desc := "()V" } : Jvm.MethodName)).before az Z = true := hw _ (List.mem_of_getElem? (i := 19) rfl)
theorem w20 {Z : State} {az : Array Value} (hw : ∀ d ∈ tables_1, d.before az Z = true) : (Jvm.Cond.instanceMethod ({ cls := "java/lang/Object", name := "<init>", desc := "()V" } : Jvm.MethodName)).before az Z = true := hw _ (List.mem_of_getElem? (i := 20) rfl)
theorem w21 {Z : State} {az : Array Value} (hw : ∀ d ∈ tables_1, d.before az Z = true) : (Jvm.Cond.code ({ cls := "java/lang/Object", name := "<init>", desc := "()V" } : Jvm.MethodName) object_method_1_code (1 : Nat) (Option.none : Option Jvm.ClassFile.FieldType)).before az Z = true := hw _ (List.mem_of_getElem? (i := 21) rfl)
theorem w22 {Z : State} {az : Array Value} (hw : ∀ d ∈ tables_1, d.before az Z = true) : (Jvm.Cond.fieldLink "com/example/headlattice/headlattice/learn/RuleLearner$Limits" (21 : Nat) "com/example/headlattice/headlattice/learn/RuleLearner$Limits" "minCovered" "I").before az Z = true := hw _ (List.mem_of_getElem? (i := 22) rfl)
theorem w23 {Z : State} {az : Array Value} (hw : ∀ d ∈ tables_1, d.before az Z = true) : (Jvm.Cond.laysFinal "com/example/headlattice/headlattice/learn/RuleLearner$Limits" "com/example/headlattice/headlattice/learn/RuleLearner$Limits" "minCovered" "I").before az Z = true := hw _ (List.mem_of_getElem? (i := 23) rfl)
theorem w24 {Z : State} {az : Array Value} (hw : ∀ d ∈ tables_1, d.before az Z = true) : (Jvm.Cond.fieldLink "com/example/headlattice/headlattice/learn/RuleLearner$Limits" (27 : Nat) "com/example/headlattice/headlattice/learn/RuleLearner$Limits" "minExcluded" "I").before az Z = true := hw _ (List.mem_of_getElem? (i := 24) rfl)
theorem w25 {Z : State} {az : Array Value} (hw : ∀ d ∈ tables_1, d.before az Z = true) : (Jvm.Cond.laysFinal "com/example/headlattice/headlattice/learn/RuleLearner$Limits" "com/example/headlattice/headlattice/learn/RuleLearner$Limits" "minExcluded" "I").before az Z = true := hw _ (List.mem_of_getElem? (i := 25) rfl)
theorem w26 {Z : State} {az : Array Value} (hw : ∀ d ∈ tables_1, d.before az Z = true) : (Jvm.Cond.fieldLink "com/example/headlattice/headlattice/learn/RuleLearner$Limits" (30 : Nat) "com/example/headlattice/headlattice/learn/RuleLearner$Limits" "minExcludedShare" "D").before az Z = true := hw _ (List.mem_of_getElem? (i := 26) rfl)
theorem w27 {Z : State} {az : Array Value} (hw : ∀ d ∈ tables_1, d.before az Z = true) : (Jvm.Cond.laysFinal "com/example/headlattice/headlattice/learn/RuleLearner$Limits" "com/example/headlattice/headlattice/learn/RuleLearner$Limits" "minExcludedShare" "D").before az Z = true := hw _ (List.mem_of_getElem? (i := 27) rfl)
theorem w28 {Z : State} {az : Array Value} (hw : ∀ d ∈ tables_1, d.before az Z = true) : (Jvm.Cond.fieldLink "com/example/headlattice/headlattice/learn/RuleLearner$Limits" (34 : Nat) "com/example/headlattice/headlattice/learn/RuleLearner$Limits" "minPrecision" "D").before az Z = true := hw _ (List.mem_of_getElem? (i := 28) rfl)
theorem w29 {Z : State} {az : Array Value} (hw : ∀ d ∈ tables_1, d.before az Z = true) : (Jvm.Cond.laysFinal "com/example/headlattice/headlattice/learn/RuleLearner$Limits" "com/example/headlattice/headlattice/learn/RuleLearner$Limits" "minPrecision" "D").before az Z = true := hw _ (List.mem_of_getElem? (i := 29) rfl)
theorem w30 {Z : State} {az : Array Value} (hw : ∀ d ∈ tables_1, d.before az Z = true) : (Jvm.Cond.methodLink "com/example/headlattice/headlattice/learn/LimitsAllowsConditionPinLaw" (22 : Nat) ({ cls := "com/example/headlattice/headlattice/learn/RuleLearner$Limits", name := "allowsCondition", desc := "(II)Z" } : Jvm.MethodName)).before az Z = true := hw _ (List.mem_of_getElem? (i := 30) rfl)
theorem w31 {Z : State} {az : Array Value} (hw : ∀ d ∈ tables_1, d.before az Z = true) : (Jvm.Cond.declares ({ cls := "com/example/headlattice/headlattice/learn/RuleLearner$Limits", name := "allowsCondition", desc := "(II)Z" } : Jvm.MethodName)).before az Z = true := hw _ (List.mem_of_getElem? (i := 31) rfl)
theorem w32 {Z : State} {az : Array Value} (hw : ∀ d ∈ tables_1, d.before az Z = true) : (Jvm.Cond.instanceMethod ({ cls := "com/example/headlattice/headlattice/learn/RuleLearner$Limits", name := "allowsCondition", desc := "(II)Z" } : Jvm.MethodName)).before az Z = true := hw _ (List.mem_of_getElem? (i := 32) rfl)
theorem w33 {Z : State} {az : Array Value} (hw : ∀ d ∈ tables_1, d.before az Z = true) : (Jvm.Cond.selects "com/example/headlattice/headlattice/learn/RuleLearner$Limits" ({ cls := "com/example/headlattice/headlattice/learn/RuleLearner$Limits", name := "allowsCondition", desc := "(II)Z" } : Jvm.MethodName) ({ cls := "com/example/headlattice/headlattice/learn/RuleLearner$Limits", name := "allowsCondition", desc := "(II)Z" } : Jvm.MethodName)).before az Z = true := hw _ (List.mem_of_getElem? (i := 33) rfl)
theorem w34 {Z : State} {az : Array Value} (hw : ∀ d ∈ tables_1, d.before az Z = true) : (Jvm.Cond.code ({ cls := "com/example/headlattice/headlattice/learn/RuleLearner$Limits", name := "allowsCondition", desc := "(II)Z" } : Jvm.MethodName) prog_39_method_2_code (4 : Nat) (Option.some Jvm.ClassFile.FieldType.boolean)).before az Z = true := hw _ (List.mem_of_getElem? (i := 34) rfl)
theorem d1_0 : decode jdk_29_method_69_code 0 = .ok (.iload_n 0, 1) := by decide +kernel
theorem d1_1 : decode jdk_29_method_69_code 1 = .ok (.iload_n 1, 1) := by decide +kernel
theorem d1_2 : decode jdk_29_method_69_code 2 = .ok (.if_icmp .gt 7, 3) := by decide +kernel
theorem d1_5 : decode jdk_29_method_69_code 5 = .ok (.iload_n 0, 1) := by decide +kernel
theorem d1_6 : decode jdk_29_method_69_code 6 = .ok (.goto 4, 3) := by decide +kernel
theorem d1_10 : decode jdk_29_method_69_code 10 = .ok (.ireturn, 1) := by decide +kernel
theorem ef_rm1a (m : MethodId) (p0 : Int32) (p1 : Int32) : entryFrame m #[(.int p0), (.int p1)] 2 = mkF m 0 #[.val (.int p0), .val (.int p1)] [] := by first | (simp [entryFrame, mkF, argsToLocals, Value.category]; done) | rfl
def Q1a (Z : State) (p0 : Int32) (p1 : Int32) (h0 : Heap) (n0 : Nat) (v : Option Value) (h : Heap) (L : List Loc) : Prop := v = some (.int p0) ∧ Fr n0 L ∧ h = h0
set_option maxRecDepth 65536 in
set_option maxHeartbeats 40000000 in
theorem rm1a (l : Launch) (Z : State) (az : Array Value) (hw : ∀ d ∈ tables_1, d.before az Z = true) (ws : List Jvm.Cond) (p0 : Int32) (p1 : Int32) (h0 : Heap) (n0 : Nat) (Z0 : n0 ≤ h0.size) (hc0 : ¬ (p1 < p0)) :
    MetFree l (⟨"java/lang/Math", "min", "(II)I"⟩ : MethodName) (head1 (Jvm.Cond.code (⟨"java/lang/Math", "min", "(II)I"⟩ : MethodName) jdk_29_method_69_code 2 (some .int) :: ws) ({ frames := 0, cells := 0, slots := 0, locals := 0 } : Room)) (fun a U => a = #[(.int p0), (.int p1)] ∧ Z.Warmed39 U.vm ∧ U.heap = h0) (fun _ _ _ _ _ => True) (fun _ U o U' => ∃ v L, o = .returned v ∧ Q1a Z p0 p1 h0 n0 v U'.heap L ∧ FrameEnd U o U' L ({ frames := 0, cells := 0, slots := 0, locals := 0 } : Room).cells ({ frames := 0, cells := 0, slots := 0, locals := 0 } : Room).slots) := by
  refine MetFree.of_bodySF (Jvm.Free.JP.mathPlain rfl (by decide +kernel)) hisR ?_
  intro p e s m args below meth c s₁ Bd hml0 hP hK
  obtain ⟨rfl, hZ, hh⟩ := hP
  have hx := Bd.exec
  have hby := Bd.bytes
  have hml : c.maxLocals = 2 := hml0
  have hown : s.vm.findClass "java/lang/Math" = some m.cls := findClass_of_methodNamed Bd.named
  have hnm := (name_of_methodNamed Bd.named Bd.method).1
  have X0 : Stand p l e ({ frames := 0, cells := 0, slots := 0, locals := 0 } : Room) s m #[(.int p0), (.int p1)] below meth c s₁ [] 0 0 := Stand.of_body Bd
  have e0 : s₁.heap = h0 := by rw [← hh, Bd.state]; rfl
  have N0 := Fr.nil n0
  have pre0 : ∀ t, Steps p.tables e below (s₁.setTop (mkF m 0 #[.val (.int p0), .val (.int p1)] [])) t → Steps p.tables e below (s₁.setTop (entryFrame m #[(.int p0), (.int p1)] 2)) t := fun t k => castTop (ef_rm1a m p0 p1) k
  obtain ⟨fs, hr, hrun, hended, hW, hsame⟩ := X0.leave (v := some (.int p0)) (fun h => by rw [Bd.returns] at h; cases h)
  refine ⟨_, _, pre0 _ ?_, hrun, hended, _, _, rfl, ?_, ⟨_, rfl⟩, hW, hsame.mono (by decide) (by decide)⟩
  · show Steps p.tables e below (s₁.setTop (mkF m 0 #[.val (.int p0), .val (.int p1)] [])) _
    refine XS.iloadN X0.here hx rfl (hb hby d1_0) rfl ?_
    refine XS.iloadN X0.here hx rfl (hb hby d1_1) rfl ?_
    refine XS.icmpNo X0.here hx rfl (hb hby d1_2) rfl (flt hc0).2.2.1 ?_
    refine XS.iloadN X0.here hx rfl (hb hby d1_5) rfl ?_
    refine XS.goto X0.here hx rfl (pc0 := 6) (pc' := 10) rfl (hb hby d1_6) (by decide) (by decide) ?_
    show Steps p.tables e below (s₁.setTop (mkF m 10 #[.val (.int p0), .val (.int p1)] [(.int p0)])) _
    exact retI X0 hx Bd.returns (hb hby d1_10) hr
  · show Q1a Z p0 p1 h0 n0 _ s₁.heap _
    rw [e0]
    exact ⟨rfl, N0, rfl⟩
theorem d1_9 : decode jdk_29_method_69_code 9 = .ok (.iload_n 1, 1) := by decide +kernel
theorem ef_rm1b (m : MethodId) (p0 : Int32) (p1 : Int32) : entryFrame m #[(.int p0), (.int p1)] 2 = mkF m 0 #[.val (.int p0), .val (.int p1)] [] := by first | (simp [entryFrame, mkF, argsToLocals, Value.category]; done) | rfl
def Q1b (Z : State) (p0 : Int32) (p1 : Int32) (h0 : Heap) (n0 : Nat) (v : Option Value) (h : Heap) (L : List Loc) : Prop := v = some (.int p1) ∧ Fr n0 L ∧ h = h0
set_option maxRecDepth 65536 in
set_option maxHeartbeats 40000000 in
theorem rm1b (l : Launch) (Z : State) (az : Array Value) (hw : ∀ d ∈ tables_1, d.before az Z = true) (ws : List Jvm.Cond) (p0 : Int32) (p1 : Int32) (h0 : Heap) (n0 : Nat) (Z0 : n0 ≤ h0.size) (hc0 : p1 < p0) :
    MetFree l (⟨"java/lang/Math", "min", "(II)I"⟩ : MethodName) (head1 (Jvm.Cond.code (⟨"java/lang/Math", "min", "(II)I"⟩ : MethodName) jdk_29_method_69_code 2 (some .int) :: ws) ({ frames := 0, cells := 0, slots := 0, locals := 0 } : Room)) (fun a U => a = #[(.int p0), (.int p1)] ∧ Z.Warmed39 U.vm ∧ U.heap = h0) (fun _ _ _ _ _ => True) (fun _ U o U' => ∃ v L, o = .returned v ∧ Q1b Z p0 p1 h0 n0 v U'.heap L ∧ FrameEnd U o U' L ({ frames := 0, cells := 0, slots := 0, locals := 0 } : Room).cells ({ frames := 0, cells := 0, slots := 0, locals := 0 } : Room).slots) := by
  refine MetFree.of_bodySF (Jvm.Free.JP.mathPlain rfl (by decide +kernel)) hisR ?_
  intro p e s m args below meth c s₁ Bd hml0 hP hK
  obtain ⟨rfl, hZ, hh⟩ := hP
  have hx := Bd.exec
  have hby := Bd.bytes
  have hml : c.maxLocals = 2 := hml0
  have hown : s.vm.findClass "java/lang/Math" = some m.cls := findClass_of_methodNamed Bd.named
  have hnm := (name_of_methodNamed Bd.named Bd.method).1
  have X0 : Stand p l e ({ frames := 0, cells := 0, slots := 0, locals := 0 } : Room) s m #[(.int p0), (.int p1)] below meth c s₁ [] 0 0 := Stand.of_body Bd
  have e0 : s₁.heap = h0 := by rw [← hh, Bd.state]; rfl
  have N0 := Fr.nil n0
  have pre0 : ∀ t, Steps p.tables e below (s₁.setTop (mkF m 0 #[.val (.int p0), .val (.int p1)] [])) t → Steps p.tables e below (s₁.setTop (entryFrame m #[(.int p0), (.int p1)] 2)) t := fun t k => castTop (ef_rm1b m p0 p1) k
  obtain ⟨fs, hr, hrun, hended, hW, hsame⟩ := X0.leave (v := some (.int p1)) (fun h => by rw [Bd.returns] at h; cases h)
  refine ⟨_, _, pre0 _ ?_, hrun, hended, _, _, rfl, ?_, ⟨_, rfl⟩, hW, hsame.mono (by decide) (by decide)⟩
  · show Steps p.tables e below (s₁.setTop (mkF m 0 #[.val (.int p0), .val (.int p1)] [])) _
    refine XS.iloadN X0.here hx rfl (hb hby d1_0) rfl ?_
    refine XS.iloadN X0.here hx rfl (hb hby d1_1) rfl ?_
    refine XS.icmpYes X0.here hx rfl (pc0 := 2) (pc' := 9) rfl (hb hby d1_2) rfl (tlt hc0).2.2.1 (by decide) (by decide) ?_
    refine XS.iloadN X0.here hx rfl (hb hby d1_9) rfl ?_
    show Steps p.tables e below (s₁.setTop (mkF m 10 #[.val (.int p0), .val (.int p1)] [(.int p1)])) _
    exact retI X0 hx Bd.returns (hb hby d1_10) hr
  · show Q1b Z p0 p1 h0 n0 _ s₁.heap _
    rw [e0]
    exact ⟨rfl, N0, rfl⟩
theorem d2_0 : decode jdk_29_method_65_code 0 = .ok (.iload_n 0, 1) := by decide +kernel
theorem d2_1 : decode jdk_29_method_65_code 1 = .ok (.iload_n 1, 1) := by decide +kernel
theorem d2_2 : decode jdk_29_method_65_code 2 = .ok (.if_icmp .lt 7, 3) := by decide +kernel
theorem d2_5 : decode jdk_29_method_65_code 5 = .ok (.iload_n 0, 1) := by decide +kernel
theorem d2_6 : decode jdk_29_method_65_code 6 = .ok (.goto 4, 3) := by decide +kernel
theorem d2_10 : decode jdk_29_method_65_code 10 = .ok (.ireturn, 1) := by decide +kernel
theorem ef_rm2a (m : MethodId) (p0 : Int32) (p1 : Int32) : entryFrame m #[(.int p0), (.int p1)] 2 = mkF m 0 #[.val (.int p0), .val (.int p1)] [] := by first | (simp [entryFrame, mkF, argsToLocals, Value.category]; done) | rfl
def Q2a (Z : State) (p0 : Int32) (p1 : Int32) (h0 : Heap) (n0 : Nat) (v : Option Value) (h : Heap) (L : List Loc) : Prop := v = some (.int p0) ∧ Fr n0 L ∧ h = h0
set_option maxRecDepth 65536 in
set_option maxHeartbeats 40000000 in
theorem rm2a (l : Launch) (Z : State) (az : Array Value) (hw : ∀ d ∈ tables_1, d.before az Z = true) (ws : List Jvm.Cond) (p0 : Int32) (p1 : Int32) (h0 : Heap) (n0 : Nat) (Z0 : n0 ≤ h0.size) (hc0 : ¬ (p0 < p1)) :
    MetFree l (⟨"java/lang/Math", "max", "(II)I"⟩ : MethodName) (head1 (Jvm.Cond.code (⟨"java/lang/Math", "max", "(II)I"⟩ : MethodName) jdk_29_method_65_code 2 (some .int) :: ws) ({ frames := 0, cells := 0, slots := 0, locals := 0 } : Room)) (fun a U => a = #[(.int p0), (.int p1)] ∧ Z.Warmed39 U.vm ∧ U.heap = h0) (fun _ _ _ _ _ => True) (fun _ U o U' => ∃ v L, o = .returned v ∧ Q2a Z p0 p1 h0 n0 v U'.heap L ∧ FrameEnd U o U' L ({ frames := 0, cells := 0, slots := 0, locals := 0 } : Room).cells ({ frames := 0, cells := 0, slots := 0, locals := 0 } : Room).slots) := by
  refine MetFree.of_bodySF (Jvm.Free.JP.mathPlain rfl (by decide +kernel)) hisR ?_
  intro p e s m args below meth c s₁ Bd hml0 hP hK
  obtain ⟨rfl, hZ, hh⟩ := hP
  have hx := Bd.exec
  have hby := Bd.bytes
  have hml : c.maxLocals = 2 := hml0
  have hown : s.vm.findClass "java/lang/Math" = some m.cls := findClass_of_methodNamed Bd.named
  have hnm := (name_of_methodNamed Bd.named Bd.method).1
  have X0 : Stand p l e ({ frames := 0, cells := 0, slots := 0, locals := 0 } : Room) s m #[(.int p0), (.int p1)] below meth c s₁ [] 0 0 := Stand.of_body Bd
  have e0 : s₁.heap = h0 := by rw [← hh, Bd.state]; rfl
  have N0 := Fr.nil n0
  have pre0 : ∀ t, Steps p.tables e below (s₁.setTop (mkF m 0 #[.val (.int p0), .val (.int p1)] [])) t → Steps p.tables e below (s₁.setTop (entryFrame m #[(.int p0), (.int p1)] 2)) t := fun t k => castTop (ef_rm2a m p0 p1) k
  obtain ⟨fs, hr, hrun, hended, hW, hsame⟩ := X0.leave (v := some (.int p0)) (fun h => by rw [Bd.returns] at h; cases h)
  refine ⟨_, _, pre0 _ ?_, hrun, hended, _, _, rfl, ?_, ⟨_, rfl⟩, hW, hsame.mono (by decide) (by decide)⟩
  · show Steps p.tables e below (s₁.setTop (mkF m 0 #[.val (.int p0), .val (.int p1)] [])) _
    refine XS.iloadN X0.here hx rfl (hb hby d2_0) rfl ?_
    refine XS.iloadN X0.here hx rfl (hb hby d2_1) rfl ?_
    refine XS.icmpNo X0.here hx rfl (hb hby d2_2) rfl (flt hc0).1 ?_
    refine XS.iloadN X0.here hx rfl (hb hby d2_5) rfl ?_
    refine XS.goto X0.here hx rfl (pc0 := 6) (pc' := 10) rfl (hb hby d2_6) (by decide) (by decide) ?_
    show Steps p.tables e below (s₁.setTop (mkF m 10 #[.val (.int p0), .val (.int p1)] [(.int p0)])) _
    exact retI X0 hx Bd.returns (hb hby d2_10) hr
  · show Q2a Z p0 p1 h0 n0 _ s₁.heap _
    rw [e0]
    exact ⟨rfl, N0, rfl⟩
theorem d2_9 : decode jdk_29_method_65_code 9 = .ok (.iload_n 1, 1) := by decide +kernel
theorem ef_rm2b (m : MethodId) (p0 : Int32) (p1 : Int32) : entryFrame m #[(.int p0), (.int p1)] 2 = mkF m 0 #[.val (.int p0), .val (.int p1)] [] := by first | (simp [entryFrame, mkF, argsToLocals, Value.category]; done) | rfl
def Q2b (Z : State) (p0 : Int32) (p1 : Int32) (h0 : Heap) (n0 : Nat) (v : Option Value) (h : Heap) (L : List Loc) : Prop := v = some (.int p1) ∧ Fr n0 L ∧ h = h0
set_option maxRecDepth 65536 in
set_option maxHeartbeats 40000000 in
theorem rm2b (l : Launch) (Z : State) (az : Array Value) (hw : ∀ d ∈ tables_1, d.before az Z = true) (ws : List Jvm.Cond) (p0 : Int32) (p1 : Int32) (h0 : Heap) (n0 : Nat) (Z0 : n0 ≤ h0.size) (hc0 : p0 < p1) :
    MetFree l (⟨"java/lang/Math", "max", "(II)I"⟩ : MethodName) (head1 (Jvm.Cond.code (⟨"java/lang/Math", "max", "(II)I"⟩ : MethodName) jdk_29_method_65_code 2 (some .int) :: ws) ({ frames := 0, cells := 0, slots := 0, locals := 0 } : Room)) (fun a U => a = #[(.int p0), (.int p1)] ∧ Z.Warmed39 U.vm ∧ U.heap = h0) (fun _ _ _ _ _ => True) (fun _ U o U' => ∃ v L, o = .returned v ∧ Q2b Z p0 p1 h0 n0 v U'.heap L ∧ FrameEnd U o U' L ({ frames := 0, cells := 0, slots := 0, locals := 0 } : Room).cells ({ frames := 0, cells := 0, slots := 0, locals := 0 } : Room).slots) := by
  refine MetFree.of_bodySF (Jvm.Free.JP.mathPlain rfl (by decide +kernel)) hisR ?_
  intro p e s m args below meth c s₁ Bd hml0 hP hK
  obtain ⟨rfl, hZ, hh⟩ := hP
  have hx := Bd.exec
  have hby := Bd.bytes
  have hml : c.maxLocals = 2 := hml0
  have hown : s.vm.findClass "java/lang/Math" = some m.cls := findClass_of_methodNamed Bd.named
  have hnm := (name_of_methodNamed Bd.named Bd.method).1
  have X0 : Stand p l e ({ frames := 0, cells := 0, slots := 0, locals := 0 } : Room) s m #[(.int p0), (.int p1)] below meth c s₁ [] 0 0 := Stand.of_body Bd
  have e0 : s₁.heap = h0 := by rw [← hh, Bd.state]; rfl
  have N0 := Fr.nil n0
  have pre0 : ∀ t, Steps p.tables e below (s₁.setTop (mkF m 0 #[.val (.int p0), .val (.int p1)] [])) t → Steps p.tables e below (s₁.setTop (entryFrame m #[(.int p0), (.int p1)] 2)) t := fun t k => castTop (ef_rm2b m p0 p1) k
  obtain ⟨fs, hr, hrun, hended, hW, hsame⟩ := X0.leave (v := some (.int p1)) (fun h => by rw [Bd.returns] at h; cases h)
  refine ⟨_, _, pre0 _ ?_, hrun, hended, _, _, rfl, ?_, ⟨_, rfl⟩, hW, hsame.mono (by decide) (by decide)⟩
  · show Steps p.tables e below (s₁.setTop (mkF m 0 #[.val (.int p0), .val (.int p1)] [])) _
    refine XS.iloadN X0.here hx rfl (hb hby d2_0) rfl ?_
    refine XS.iloadN X0.here hx rfl (hb hby d2_1) rfl ?_
    refine XS.icmpYes X0.here hx rfl (pc0 := 2) (pc' := 9) rfl (hb hby d2_2) rfl (tlt hc0).1 (by decide) (by decide) ?_
    refine XS.iloadN X0.here hx rfl (hb hby d2_9) rfl ?_
    show Steps p.tables e below (s₁.setTop (mkF m 10 #[.val (.int p0), .val (.int p1)] [(.int p1)])) _
    exact retI X0 hx Bd.returns (hb hby d2_10) hr
  · show Q2b Z p0 p1 h0 n0 _ s₁.heap _
    rw [e0]
    exact ⟨rfl, N0, rfl⟩
theorem d4_0 : decode jdk_30_method_1_code 0 = .ok (.aload_n 0, 1) := by decide +kernel
theorem d4_1 : decode jdk_30_method_1_code 1 = .ok (.invokespecial 1, 3) := by decide +kernel
theorem d4_4 : decode jdk_30_method_1_code 4 = .ok (.return_, 1) := by decide +kernel
theorem pn_java_lang_Record : plainName "java/lang/Record" = true := by first | (simp [plainName, overriddenIn]; done) | decide +kernel
theorem ef_rm4 (m : MethodId) (a0 : Addr) : entryFrame m #[(.ref a0)] 1 = mkF m 0 #[.val (.ref a0)] [] := by first | (simp [entryFrame, mkF, argsToLocals, Value.category]; done) | rfl
def Q4 (Z : State) (a0 : Addr) (h0 : Heap) (n0 : Nat) (v : Option Value) (h : Heap) (L : List Loc) : Prop := v = none ∧ Fr n0 L ∧ h = h0
set_option maxRecDepth 65536 in
set_option maxHeartbeats 40000000 in
theorem rm4 (l : Launch) (Z : State) (az : Array Value) (hw : ∀ d ∈ tables_1, d.before az Z = true) (ws : List Jvm.Cond) (a0 : Addr) (h0 : Heap) (n0 : Nat) (Z0 : n0 ≤ h0.size) :
    MetFree l (⟨"java/lang/Record", "<init>", "()V"⟩ : MethodName) (head1 (Jvm.Cond.code (⟨"java/lang/Record", "<init>", "()V"⟩ : MethodName) jdk_30_method_1_code 1 none :: ws) ({ frames := 1, cells := 0, slots := 0, locals := 12 } : Room)) (fun a U => a = #[(.ref a0)] ∧ Z.Warmed39 U.vm ∧ U.heap = h0) (fun _ _ _ _ _ => True) (fun _ U o U' => ∃ v L, o = .returned v ∧ Q4 Z a0 h0 n0 v U'.heap L ∧ FrameEnd U o U' L ({ frames := 1, cells := 0, slots := 0, locals := 12 } : Room).cells ({ frames := 1, cells := 0, slots := 0, locals := 12 } : Room).slots) := by
  refine MetFree.of_bodySF (plainFor_of_name pn_java_lang_Record) hisR ?_
  intro p e s m args below meth c s₁ Bd hml0 hP hK
  obtain ⟨rfl, hZ, hh⟩ := hP
  have hx := Bd.exec
  have hby := Bd.bytes
  have hml : c.maxLocals = 1 := hml0
  have hown : s.vm.findClass "java/lang/Record" = some m.cls := findClass_of_methodNamed Bd.named
  have hnm := (name_of_methodNamed Bd.named Bd.method).1
  have X0 : Stand p l e ({ frames := 1, cells := 0, slots := 0, locals := 12 } : Room) s m #[(.ref a0)] below meth c s₁ [] 0 0 := Stand.of_body Bd
  have e0 : s₁.heap = h0 := by rw [← hh, Bd.state]; rfl
  have N0 := Fr.nil n0
  have pre0 : ∀ t, Steps p.tables e below (s₁.setTop (mkF m 0 #[.val (.ref a0)] [])) t → Steps p.tables e below (s₁.setTop (entryFrame m #[(.ref a0)] 1)) t := fun t k => castTop (ef_rm4 m a0) k
  obtain ⟨T1, X1, e1, st1⟩ := initO X0 hx hZ hown (w19 hw) (w20 hw) (w21 hw) e0 (g := (mkF m 1 #[.val (.ref a0)] [(.ref a0)])) rfl (by rw [hml]; rfl) rfl (hb hby d4_1) (by decide) (W := 0) (by show 2 * 0 + _ ≤ _; exact Nat.le_of_eq rfl) (by decide)
  obtain ⟨fs, hr, hrun, hended, hW, hsame⟩ := X1.leave (v := none) (fun _ => rfl)
  refine ⟨_, _, pre0 _ ?_, hrun, hended, _, _, rfl, ?_, ⟨_, rfl⟩, hW, hsame.mono (by decide) (by decide)⟩
  · show Steps p.tables e below (s₁.setTop (mkF m 0 #[.val (.ref a0)] [])) _
    refine XS.aloadN X0.here hx rfl (hb hby d4_0) rfl rfl ?_
    show Steps p.tables e below (s₁.setTop (mkF m 1 #[.val (.ref a0)] [(.ref a0)])) _
    refine st1 _ ?_
    show Steps p.tables e below (T1.setTop (mkF m 4 #[.val (.ref a0)] [])) _
    exact X1.returnOut hx Bd.returns (hb hby d4_4) hr
  · show Q4 Z a0 h0 n0 _ T1.heap _
    rw [e1]
    exact ⟨rfl, N0, rfl⟩
theorem d3_0 : decode prog_39_method_1_code 0 = .ok (.aload_n 0, 1) := by decide +kernel
theorem d3_1 : decode prog_39_method_1_code 1 = .ok (.invokespecial 1, 3) := by decide +kernel
theorem pd_0 : parseMethodDescriptor "()V" = some ⟨[], none⟩ := by decide +kernel
theorem d3_4 : decode prog_39_method_1_code 4 = .ok (.iload_n 1, 1) := by decide +kernel
theorem d3_5 : decode prog_39_method_1_code 5 = .ok (.iconst 1, 1) := by decide +kernel
theorem d3_6 : decode prog_39_method_1_code 6 = .ok (.if_icmp .ge 17, 3) := by decide +kernel
theorem d3_23 : decode prog_39_method_1_code 23 = .ok (.iload_n 2, 1) := by decide +kernel
theorem d3_24 : decode prog_39_method_1_code 24 = .ok (.ifCond .ge 17, 3) := by decide +kernel
theorem d3_41 : decode prog_39_method_1_code 41 = .ok (.dload_n 3, 1) := by decide +kernel
theorem d3_42 : decode prog_39_method_1_code 42 = .ok (.dconst 0, 1) := by decide +kernel
theorem d3_43 : decode prog_39_method_1_code 43 = .ok (.dcmp .l, 1) := by decide +kernel
theorem d3_44 : decode prog_39_method_1_code 44 = .ok (.ifCond .lt 9, 3) := by decide +kernel
theorem d3_47 : decode prog_39_method_1_code 47 = .ok (.dload_n 3, 1) := by decide +kernel
theorem d3_48 : decode prog_39_method_1_code 48 = .ok (.dconst 1, 1) := by decide +kernel
theorem d3_49 : decode prog_39_method_1_code 49 = .ok (.dcmp .g, 1) := by decide +kernel
theorem d3_50 : decode prog_39_method_1_code 50 = .ok (.ifCond .le 17, 3) := by decide +kernel
theorem d3_67 : decode prog_39_method_1_code 67 = .ok (.dload 5, 2) := by decide +kernel
theorem d3_69 : decode prog_39_method_1_code 69 = .ok (.dconst 0, 1) := by decide +kernel
theorem d3_70 : decode prog_39_method_1_code 70 = .ok (.dcmp .l, 1) := by decide +kernel
theorem d3_71 : decode prog_39_method_1_code 71 = .ok (.ifCond .lt 10, 3) := by decide +kernel
theorem d3_74 : decode prog_39_method_1_code 74 = .ok (.dload 5, 2) := by decide +kernel
theorem d3_76 : decode prog_39_method_1_code 76 = .ok (.dconst 1, 1) := by decide +kernel
theorem d3_77 : decode prog_39_method_1_code 77 = .ok (.dcmp .g, 1) := by decide +kernel
theorem d3_78 : decode prog_39_method_1_code 78 = .ok (.ifCond .lt 18, 3) := by decide +kernel
theorem d3_96 : decode prog_39_method_1_code 96 = .ok (.aload_n 0, 1) := by decide +kernel
theorem d3_97 : decode prog_39_method_1_code 97 = .ok (.iload_n 1, 1) := by decide +kernel
theorem d3_98 : decode prog_39_method_1_code 98 = .ok (.putfield 21, 3) := by decide +kernel
theorem d3_101 : decode prog_39_method_1_code 101 = .ok (.aload_n 0, 1) := by decide +kernel
theorem d3_102 : decode prog_39_method_1_code 102 = .ok (.iload_n 2, 1) := by decide +kernel
theorem d3_103 : decode prog_39_method_1_code 103 = .ok (.putfield 27, 3) := by decide +kernel
theorem sl_0 {Z : State} {az : Array Value} (hw : ∀ d ∈ tables_1, d.before az Z = true) : Jvm.RoadKit.slotOf Z cLM "minExcluded" "I" ≠ Jvm.RoadKit.slotOf Z cLM "minCovered" "I" := slot_ne (Z := Z) (Or.inr (w25 hw)) (Or.inr (w23 hw)) (by decide) (t := .int) (t' := .int) (by decide) (by decide)
theorem d3_106 : decode prog_39_method_1_code 106 = .ok (.aload_n 0, 1) := by decide +kernel
theorem d3_107 : decode prog_39_method_1_code 107 = .ok (.dload_n 3, 1) := by decide +kernel
theorem d3_108 : decode prog_39_method_1_code 108 = .ok (.putfield 30, 3) := by decide +kernel
theorem sl_1 {Z : State} {az : Array Value} (hw : ∀ d ∈ tables_1, d.before az Z = true) : Jvm.RoadKit.slotOf Z cLM "minExcludedShare" "D" ≠ Jvm.RoadKit.slotOf Z cLM "minCovered" "I" := slot_ne (Z := Z) (Or.inr (w27 hw)) (Or.inr (w23 hw)) (by decide) (t := .double) (t' := .int) (by decide) (by decide)
theorem sl_2 {Z : State} {az : Array Value} (hw : ∀ d ∈ tables_1, d.before az Z = true) : Jvm.RoadKit.slotOf Z cLM "minExcludedShare" "D" ≠ Jvm.RoadKit.slotOf Z cLM "minExcluded" "I" := slot_ne (Z := Z) (Or.inr (w27 hw)) (Or.inr (w25 hw)) (by decide) (t := .double) (t' := .int) (by decide) (by decide)
theorem d3_111 : decode prog_39_method_1_code 111 = .ok (.aload_n 0, 1) := by decide +kernel
theorem d3_112 : decode prog_39_method_1_code 112 = .ok (.dload 5, 2) := by decide +kernel
theorem d3_114 : decode prog_39_method_1_code 114 = .ok (.putfield 34, 3) := by decide +kernel
theorem sl_3 {Z : State} {az : Array Value} (hw : ∀ d ∈ tables_1, d.before az Z = true) : Jvm.RoadKit.slotOf Z cLM "minPrecision" "D" ≠ Jvm.RoadKit.slotOf Z cLM "minCovered" "I" := slot_ne (Z := Z) (Or.inr (w29 hw)) (Or.inr (w23 hw)) (by decide) (t := .double) (t' := .int) (by decide) (by decide)
theorem sl_4 {Z : State} {az : Array Value} (hw : ∀ d ∈ tables_1, d.before az Z = true) : Jvm.RoadKit.slotOf Z cLM "minPrecision" "D" ≠ Jvm.RoadKit.slotOf Z cLM "minExcluded" "I" := slot_ne (Z := Z) (Or.inr (w29 hw)) (Or.inr (w25 hw)) (by decide) (t := .double) (t' := .int) (by decide) (by decide)
theorem sl_5 {Z : State} {az : Array Value} (hw : ∀ d ∈ tables_1, d.before az Z = true) : Jvm.RoadKit.slotOf Z cLM "minPrecision" "D" ≠ Jvm.RoadKit.slotOf Z cLM "minExcludedShare" "D" := slot_ne (Z := Z) (Or.inr (w29 hw)) (Or.inr (w27 hw)) (by decide) (t := .double) (t' := .double) (by decide) (by decide)
theorem d3_117 : decode prog_39_method_1_code 117 = .ok (.return_, 1) := by decide +kernel
theorem sl_6 {Z : State} {az : Array Value} (hw : ∀ d ∈ tables_1, d.before az Z = true) : Jvm.RoadKit.slotOf Z cLM "minCovered" "I" ≠ Jvm.RoadKit.slotOf Z cLM "minExcluded" "I" := slot_ne (Z := Z) (Or.inr (w23 hw)) (Or.inr (w25 hw)) (by decide) (t := .int) (t' := .int) (by decide) (by decide)
theorem sl_7 {Z : State} {az : Array Value} (hw : ∀ d ∈ tables_1, d.before az Z = true) : Jvm.RoadKit.slotOf Z cLM "minCovered" "I" ≠ Jvm.RoadKit.slotOf Z cLM "minExcludedShare" "D" := slot_ne (Z := Z) (Or.inr (w23 hw)) (Or.inr (w27 hw)) (by decide) (t := .int) (t' := .double) (by decide) (by decide)
theorem sl_8 {Z : State} {az : Array Value} (hw : ∀ d ∈ tables_1, d.before az Z = true) : Jvm.RoadKit.slotOf Z cLM "minCovered" "I" ≠ Jvm.RoadKit.slotOf Z cLM "minPrecision" "D" := slot_ne (Z := Z) (Or.inr (w23 hw)) (Or.inr (w29 hw)) (by decide) (t := .int) (t' := .double) (by decide) (by decide)
theorem sl_9 {Z : State} {az : Array Value} (hw : ∀ d ∈ tables_1, d.before az Z = true) : Jvm.RoadKit.slotOf Z cLM "minExcluded" "I" ≠ Jvm.RoadKit.slotOf Z cLM "minExcludedShare" "D" := slot_ne (Z := Z) (Or.inr (w25 hw)) (Or.inr (w27 hw)) (by decide) (t := .int) (t' := .double) (by decide) (by decide)
theorem sl_10 {Z : State} {az : Array Value} (hw : ∀ d ∈ tables_1, d.before az Z = true) : Jvm.RoadKit.slotOf Z cLM "minExcluded" "I" ≠ Jvm.RoadKit.slotOf Z cLM "minPrecision" "D" := slot_ne (Z := Z) (Or.inr (w25 hw)) (Or.inr (w29 hw)) (by decide) (t := .int) (t' := .double) (by decide) (by decide)
theorem sl_11 {Z : State} {az : Array Value} (hw : ∀ d ∈ tables_1, d.before az Z = true) : Jvm.RoadKit.slotOf Z cLM "minExcludedShare" "D" ≠ Jvm.RoadKit.slotOf Z cLM "minPrecision" "D" := slot_ne (Z := Z) (Or.inr (w27 hw)) (Or.inr (w29 hw)) (by decide) (t := .double) (t' := .double) (by decide) (by decide)
theorem pn_com_example_headlattice_headlattice_learn_RuleLearner_Limits : plainName "com/example/headlattice/headlattice/learn/RuleLearner$Limits" = true := by first | (simp [plainName, overriddenIn]; done) | decide +kernel
theorem ef_rm3 (m : MethodId) (a0 : Addr) (p1 : Int32) (p2 : Int32) (d3 : UInt64) (d4 : UInt64) : entryFrame m #[(.ref a0), (.int p1), (.int p2), (.double d3), (.double d4)] 7 = mkF m 0 #[.val (.ref a0), .val (.int p1), .val (.int p2), .val (.double d3), .second, .val (.double d4), .second] [] := by first | (simp [entryFrame, mkF, argsToLocals, Value.category]; done) | rfl
def Q3 (Z : State) (a0 : Addr) (p1 : Int32) (p2 : Int32) (d3 : UInt64) (d4 : UInt64) (h0 : Heap) (n0 : Nat) (v : Option Value) (h : Heap) (L : List Loc) : Prop := v = none ∧ Fr n0 L ∧ Keep h0 h [a0] ∧ Exa Z h a0 cLM ∧ Fld Z h a0 cLM "minCovered" "I" (.int p1) ∧ Fld Z h a0 cLM "minExcluded" "I" (.int p2) ∧ Fld Z h a0 cLM "minExcludedShare" "D" (.double d3) ∧ Fld Z h a0 cLM "minPrecision" "D" (.double d4)
set_option maxRecDepth 65536 in
set_option maxHeartbeats 40000000 in
theorem rm3 (l : Launch) (Z : State) (az : Array Value) (hw : ∀ d ∈ tables_1, d.before az Z = true) (ws : List Jvm.Cond) (a0 : Addr) (p1 : Int32) (p2 : Int32) (d3 : UInt64) (d4 : UInt64) (h0 : Heap) (n0 : Nat) (Z0 : n0 ≤ h0.size) (E_a0 : Exa Z h0 a0 cLM) (F_minCovered_a0 : Fld Z h0 a0 cLM "minCovered" "I" (.int (0 : Int32))) (F_minExcluded_a0 : Fld Z h0 a0 cLM "minExcluded" "I" (.int (0 : Int32))) (F_minExcludedShare_a0 : Fld Z h0 a0 cLM "minExcludedShare" "D" (.double (0 : UInt64))) (F_minPrecision_a0 : Fld Z h0 a0 cLM "minPrecision" "D" (.double (0 : UInt64))) (hc5 : ¬ (p1 < (1 : Int32))) (hc6 : ¬ (p2 < (0 : Int32))) (hc7 : ¬ ((cmpValue (FP.dcmp d3 FP.dconst0) .l) < (0 : Int32))) (hc8 : ¬ ((0 : Int32) < (cmpValue (FP.dcmp d3 FP.dconst1) .g))) (hc9 : ¬ ((cmpValue (FP.dcmp d4 FP.dconst0) .l) < (0 : Int32))) (hc10 : (cmpValue (FP.dcmp d4 FP.dconst1) .g) < (0 : Int32)) (g_a0 : n0 ≤ a0) :
    MetFree l (⟨cLM, "<init>", "(IIDD)V"⟩ : MethodName) (head1 (Jvm.Cond.code (⟨cLM, "<init>", "(IIDD)V"⟩ : MethodName) prog_39_method_1_code 7 none :: ws) ({ frames := 2, cells := 0, slots := 0, locals := 24 } : Room)) (fun a U => a = #[(.ref a0), (.int p1), (.int p2), (.double d3), (.double d4)] ∧ Z.Warmed39 U.vm ∧ U.heap = h0) (fun _ _ _ _ _ => True) (fun _ U o U' => ∃ v L, o = .returned v ∧ Q3 Z a0 p1 p2 d3 d4 h0 n0 v U'.heap L ∧ FrameEnd U o U' L ({ frames := 2, cells := 0, slots := 0, locals := 24 } : Room).cells ({ frames := 2, cells := 0, slots := 0, locals := 24 } : Room).slots) := by
  refine MetFree.of_bodySF (plainFor_of_name pn_com_example_headlattice_headlattice_learn_RuleLearner_Limits) hisR ?_
  intro p e s m args below meth c s₁ Bd hml0 hP hK
  obtain ⟨rfl, hZ, hh⟩ := hP
  have hx := Bd.exec
  have hby := Bd.bytes
  have hml : c.maxLocals = 7 := hml0
  have hown : s.vm.findClass cLM = some m.cls := findClass_of_methodNamed Bd.named
  have hnm := (name_of_methodNamed Bd.named Bd.method).1
  have X0 : Stand p l e ({ frames := 2, cells := 0, slots := 0, locals := 24 } : Room) s m #[(.ref a0), (.int p1), (.int p2), (.double d3), (.double d4)] below meth c s₁ [] 0 0 := Stand.of_body Bd
  have e0 : s₁.heap = h0 := by rw [← hh, Bd.state]; rfl
  have N0 := Fr.nil n0
  have pre0 : ∀ t, Steps p.tables e below (s₁.setTop (mkF m 0 #[.val (.ref a0), .val (.int p1), .val (.int p2), .val (.double d3), .second, .val (.double d4), .second] [])) t → Steps p.tables e below (s₁.setTop (entryFrame m #[(.ref a0), (.int p1), (.int p2), (.double d3), (.double d4)] 7)) t := fun t k => castTop (ef_rm3 m a0 p1 p2 d3 d4) k
  obtain ⟨_, _, ⟨T1, L1, k1', n1'⟩, -, X1, ⟨Lc1, hQ1, l1, y1, z1⟩, st1⟩ := X0.specialBack hx (y := (⟨"java/lang/Record", "<init>", "()V"⟩ : MethodName)) rfl hown (mvT hZ (w14 hw)) (mvT hZ (w15 hw)) (mvT hZ (w18 hw)) (by decide) (backOf (W := 0) (rm4 l Z az hw [] a0 h0 n0 Z0) hZ (w18 hw) (w17 hw) (by decide) (by decide)) (g := (mkF m 1 #[.val (.ref a0), .val (.int p1), .val (.int p2), .val (.double d3), .second, .val (.double d4), .second] [(.ref a0)])) rfl (by rw [hml]; rfl) (Steps.refl _) (a := a0) (argsL := []) (rest := []) (lenOf pd_0 rfl) rfl (by show 2 * 0 + _ ≤ _; exact Nat.le_of_eq rfl) (hb hby d3_1) (fun _ _ => ⟨rfl, e0, (by decide : 0 + 0 ≤ _), (by decide : 0 + 0 ≤ _)⟩)
  dsimp only [Pt.U, Pt.locs, Pt.cells, Pt.slots] at X1 l1 y1 z1 st1 hQ1
  subst l1 y1 z1
  obtain ⟨rfl, N1q, e1⟩ := hQ1
  obtain ⟨Lg1, X1', N1⟩ := own_gen X1 (Fr.app N0 N1q)
  obtain ⟨T2, h2, X2, e2, W2, st2⟩ := putF X1' hx hZ hown (host := "") (Or.inl (w22 hw)) Via.refl e1 F_minCovered_a0 E_a0 (Or.inr ⟨(w23 hw), rfl, hnm⟩) (w9 hw) (ty := .int) (by decide) rfl rfl (g := (mkF m 98 #[.val (.ref a0), .val (.int p1), .val (.int p2), .val (.double d3), .second, .val (.double d4), .second] [(.int p1), (.ref a0)])) rfl rfl (hb hby d3_98)
  have K2 : Keep h0 h2 [a0] := (Keep.refl h0 [a0]).wr W2 (Or.inl (List.mem_of_getElem? (i := 0) rfl))
  have Fw2 := F_minCovered_a0.same W2
  have Z2 : n0 ≤ h2.size := Nat.le_trans Z0 (Keep.of_wr W2).1
  obtain ⟨Lg2, X2', N2⟩ := own_gen X2 (Fr.snoc X2 N1 g_a0)
  have F_a0_minExcluded_u3 : Fld Z h2 a0 cLM "minExcluded" "I" (.int (0 : Int32)) := (F_minExcluded_a0.other W2 (Or.inr (sl_0 hw)))
  have E_a0_u4 : Exa Z h2 a0 cLM := (E_a0.wr W2)
  obtain ⟨T5, h5, X5, e5, W5, st5⟩ := putF X2' hx hZ hown (host := "") (Or.inl (w24 hw)) Via.refl e2 F_a0_minExcluded_u3 E_a0_u4 (Or.inr ⟨(w25 hw), rfl, hnm⟩) (w9 hw) (ty := .int) (by decide) rfl rfl (g := (mkF m 103 #[.val (.ref a0), .val (.int p1), .val (.int p2), .val (.double d3), .second, .val (.double d4), .second] [(.int p2), (.ref a0)])) rfl rfl (hb hby d3_103)
  have K5 : Keep h0 h5 [a0] := K2.wr W5 (Or.inl (List.mem_of_getElem? (i := 0) rfl))
  have Fw5 := F_a0_minExcluded_u3.same W5
  have Z5 : n0 ≤ h5.size := Nat.le_trans Z2 (Keep.of_wr W5).1
  obtain ⟨Lg5, X5', N5⟩ := own_gen X5 (Fr.snoc X5 N2 g_a0)
  have F_a0_minExcludedShare_u6 : Fld Z h5 a0 cLM "minExcludedShare" "D" (.double (0 : UInt64)) := ((F_minExcludedShare_a0.other W2 (Or.inr (sl_1 hw))).other W5 (Or.inr (sl_2 hw)))
  have E_a0_u7 : Exa Z h5 a0 cLM := (E_a0_u4.wr W5)
  obtain ⟨T8, h8, X8, e8, W8, st8⟩ := putF X5' hx hZ hown (host := "") (Or.inl (w26 hw)) Via.refl e5 F_a0_minExcludedShare_u6 E_a0_u7 (Or.inr ⟨(w27 hw), rfl, hnm⟩) (w9 hw) (ty := .double) (by decide) rfl rfl (g := (mkF m 108 #[.val (.ref a0), .val (.int p1), .val (.int p2), .val (.double d3), .second, .val (.double d4), .second] [(.double d3), (.ref a0)])) rfl rfl (hb hby d3_108)
  have K8 : Keep h0 h8 [a0] := K5.wr W8 (Or.inl (List.mem_of_getElem? (i := 0) rfl))
  have Fw8 := F_a0_minExcludedShare_u6.same W8
  have Z8 : n0 ≤ h8.size := Nat.le_trans Z5 (Keep.of_wr W8).1
  obtain ⟨Lg8, X8', N8⟩ := own_gen X8 (Fr.snoc X8 N5 g_a0)
  have F_a0_minPrecision_u9 : Fld Z h8 a0 cLM "minPrecision" "D" (.double (0 : UInt64)) := (((F_minPrecision_a0.other W2 (Or.inr (sl_3 hw))).other W5 (Or.inr (sl_4 hw))).other W8 (Or.inr (sl_5 hw)))
  have E_a0_u10 : Exa Z h8 a0 cLM := (E_a0_u7.wr W8)
  obtain ⟨T11, h11, X11, e11, W11, st11⟩ := putF X8' hx hZ hown (host := "") (Or.inl (w28 hw)) Via.refl e8 F_a0_minPrecision_u9 E_a0_u10 (Or.inr ⟨(w29 hw), rfl, hnm⟩) (w9 hw) (ty := .double) (by decide) rfl rfl (g := (mkF m 114 #[.val (.ref a0), .val (.int p1), .val (.int p2), .val (.double d3), .second, .val (.double d4), .second] [(.double d4), (.ref a0)])) rfl rfl (hb hby d3_114)
  have K11 : Keep h0 h11 [a0] := K8.wr W11 (Or.inl (List.mem_of_getElem? (i := 0) rfl))
  have Fw11 := F_a0_minPrecision_u9.same W11
  have Z11 : n0 ≤ h11.size := Nat.le_trans Z8 (Keep.of_wr W11).1
  obtain ⟨Lg11, X11', N11⟩ := own_gen X11 (Fr.snoc X11 N8 g_a0)
  have E_a0_u12 : Exa Z h11 a0 cLM := (E_a0_u10.wr W11)
  have F_a0_minCovered_u13 : Fld Z h11 a0 cLM "minCovered" "I" (.int p1) := (((Fw2.other W5 (Or.inr (sl_6 hw))).other W8 (Or.inr (sl_7 hw))).other W11 (Or.inr (sl_8 hw)))
  have F_a0_minExcluded_u14 : Fld Z h11 a0 cLM "minExcluded" "I" (.int p2) := ((Fw5.other W8 (Or.inr (sl_9 hw))).other W11 (Or.inr (sl_10 hw)))
  have F_a0_minExcludedShare_u15 : Fld Z h11 a0 cLM "minExcludedShare" "D" (.double d3) := (Fw8.other W11 (Or.inr (sl_11 hw)))
  obtain ⟨fs, hr, hrun, hended, hW, hsame⟩ := X11'.leave (v := none) (fun _ => rfl)
  refine ⟨_, _, pre0 _ ?_, hrun, hended, _, _, rfl, ?_, ⟨_, rfl⟩, hW, hsame.mono (by decide) (by decide)⟩
  · show Steps p.tables e below (s₁.setTop (mkF m 0 #[.val (.ref a0), .val (.int p1), .val (.int p2), .val (.double d3), .second, .val (.double d4), .second] [])) _
    refine XS.aloadN X0.here hx rfl (hb hby d3_0) rfl rfl ?_
    show Steps p.tables e below (s₁.setTop (mkF m 1 #[.val (.ref a0), .val (.int p1), .val (.int p2), .val (.double d3), .second, .val (.double d4), .second] [(.ref a0)])) _
    refine st1.trans ?_
    show Steps p.tables e below (T1.setTop (mkF m 4 #[.val (.ref a0), .val (.int p1), .val (.int p2), .val (.double d3), .second, .val (.double d4), .second] [])) _
    refine XS.iloadN X1'.here hx rfl (hb hby d3_4) rfl ?_
    refine XS.iconst X1'.here hx rfl (hb hby d3_5) ?_
    refine XS.icmpYes X1'.here hx rfl (pc0 := 6) (pc' := 23) rfl (hb hby d3_6) rfl (flt hc5).2.1 (by decide) (by decide) ?_
    refine XS.iloadN X1'.here hx rfl (hb hby d3_23) rfl ?_
    refine XS.ifYes X1'.here hx rfl (pc0 := 24) (pc' := 41) rfl (hb hby d3_24) rfl ((if0 _ _).trans (flt hc6).2.1) (by decide) (by decide) ?_
    show Steps p.tables e below (T1.setTop (mkF m 41 #[.val (.ref a0), .val (.int p1), .val (.int p2), .val (.double d3), .second, .val (.double d4), .second] [])) _
    refine XS.dloadN X1'.here hx rfl (hb hby d3_41) rfl ?_
    show Steps p.tables e below (T1.setTop (mkF m 42 #[.val (.ref a0), .val (.int p1), .val (.int p2), .val (.double d3), .second, .val (.double d4), .second] [(.double d3)])) _
    refine XS.dconst0 X1'.here hx rfl (hb hby d3_42) rfl ?_
    show Steps p.tables e below (T1.setTop (mkF m 43 #[.val (.ref a0), .val (.int p1), .val (.int p2), .val (.double d3), .second, .val (.double d4), .second] [(.double FP.dconst0), (.double d3)])) _
    refine XS.dcmpS X1'.here hx rfl (hb hby d3_43) rfl rfl ?_
    refine XS.ifNo X1'.here hx rfl (hb hby d3_44) rfl ((if0 _ _).trans (flt hc7).1) ?_
    show Steps p.tables e below (T1.setTop (mkF m 47 #[.val (.ref a0), .val (.int p1), .val (.int p2), .val (.double d3), .second, .val (.double d4), .second] [])) _
    refine XS.dloadN X1'.here hx rfl (hb hby d3_47) rfl ?_
    show Steps p.tables e below (T1.setTop (mkF m 48 #[.val (.ref a0), .val (.int p1), .val (.int p2), .val (.double d3), .second, .val (.double d4), .second] [(.double d3)])) _
    refine XS.dconst1 X1'.here hx rfl (hb hby d3_48) rfl ?_
    show Steps p.tables e below (T1.setTop (mkF m 49 #[.val (.ref a0), .val (.int p1), .val (.int p2), .val (.double d3), .second, .val (.double d4), .second] [(.double FP.dconst1), (.double d3)])) _
    refine XS.dcmpS X1'.here hx rfl (hb hby d3_49) rfl rfl ?_
    refine XS.ifYes X1'.here hx rfl (pc0 := 50) (pc' := 67) rfl (hb hby d3_50) rfl ((if0 _ _).trans (flt hc8).2.2.2) (by decide) (by decide) ?_
    show Steps p.tables e below (T1.setTop (mkF m 67 #[.val (.ref a0), .val (.int p1), .val (.int p2), .val (.double d3), .second, .val (.double d4), .second] [])) _
    refine XS.dload X1'.here hx rfl (hb hby d3_67) rfl ?_
    show Steps p.tables e below (T1.setTop (mkF m 69 #[.val (.ref a0), .val (.int p1), .val (.int p2), .val (.double d3), .second, .val (.double d4), .second] [(.double d4)])) _
    refine XS.dconst0 X1'.here hx rfl (hb hby d3_69) rfl ?_
    show Steps p.tables e below (T1.setTop (mkF m 70 #[.val (.ref a0), .val (.int p1), .val (.int p2), .val (.double d3), .second, .val (.double d4), .second] [(.double FP.dconst0), (.double d4)])) _
    refine XS.dcmpS X1'.here hx rfl (hb hby d3_70) rfl rfl ?_
    refine XS.ifNo X1'.here hx rfl (hb hby d3_71) rfl ((if0 _ _).trans (flt hc9).1) ?_
    show Steps p.tables e below (T1.setTop (mkF m 74 #[.val (.ref a0), .val (.int p1), .val (.int p2), .val (.double d3), .second, .val (.double d4), .second] [])) _
    refine XS.dload X1'.here hx rfl (hb hby d3_74) rfl ?_
    show Steps p.tables e below (T1.setTop (mkF m 76 #[.val (.ref a0), .val (.int p1), .val (.int p2), .val (.double d3), .second, .val (.double d4), .second] [(.double d4)])) _
    refine XS.dconst1 X1'.here hx rfl (hb hby d3_76) rfl ?_
    show Steps p.tables e below (T1.setTop (mkF m 77 #[.val (.ref a0), .val (.int p1), .val (.int p2), .val (.double d3), .second, .val (.double d4), .second] [(.double FP.dconst1), (.double d4)])) _
    refine XS.dcmpS X1'.here hx rfl (hb hby d3_77) rfl rfl ?_
    refine XS.ifYes X1'.here hx rfl (pc0 := 78) (pc' := 96) rfl (hb hby d3_78) rfl ((if0 _ _).trans (tlt hc10).1) (by decide) (by decide) ?_
    refine XS.aloadN X1'.here hx rfl (hb hby d3_96) rfl rfl ?_
    refine XS.iloadN X1'.here hx rfl (hb hby d3_97) rfl ?_
    show Steps p.tables e below (T1.setTop (mkF m 98 #[.val (.ref a0), .val (.int p1), .val (.int p2), .val (.double d3), .second, .val (.double d4), .second] [(.int p1), (.ref a0)])) _
    refine st2 _ ?_
    show Steps p.tables e below (T2.setTop (mkF m 101 #[.val (.ref a0), .val (.int p1), .val (.int p2), .val (.double d3), .second, .val (.double d4), .second] [])) _
    refine XS.aloadN X2'.here hx rfl (hb hby d3_101) rfl rfl ?_
    refine XS.iloadN X2'.here hx rfl (hb hby d3_102) rfl ?_
    show Steps p.tables e below (T2.setTop (mkF m 103 #[.val (.ref a0), .val (.int p1), .val (.int p2), .val (.double d3), .second, .val (.double d4), .second] [(.int p2), (.ref a0)])) _
    refine st5 _ ?_
    show Steps p.tables e below (T5.setTop (mkF m 106 #[.val (.ref a0), .val (.int p1), .val (.int p2), .val (.double d3), .second, .val (.double d4), .second] [])) _
    refine XS.aloadN X5'.here hx rfl (hb hby d3_106) rfl rfl ?_
    show Steps p.tables e below (T5.setTop (mkF m 107 #[.val (.ref a0), .val (.int p1), .val (.int p2), .val (.double d3), .second, .val (.double d4), .second] [(.ref a0)])) _
    refine XS.dloadN X5'.here hx rfl (hb hby d3_107) rfl ?_
    show Steps p.tables e below (T5.setTop (mkF m 108 #[.val (.ref a0), .val (.int p1), .val (.int p2), .val (.double d3), .second, .val (.double d4), .second] [(.double d3), (.ref a0)])) _
    refine st8 _ ?_
    show Steps p.tables e below (T8.setTop (mkF m 111 #[.val (.ref a0), .val (.int p1), .val (.int p2), .val (.double d3), .second, .val (.double d4), .second] [])) _
    refine XS.aloadN X8'.here hx rfl (hb hby d3_111) rfl rfl ?_
    show Steps p.tables e below (T8.setTop (mkF m 112 #[.val (.ref a0), .val (.int p1), .val (.int p2), .val (.double d3), .second, .val (.double d4), .second] [(.ref a0)])) _
    refine XS.dload X8'.here hx rfl (hb hby d3_112) rfl ?_
    show Steps p.tables e below (T8.setTop (mkF m 114 #[.val (.ref a0), .val (.int p1), .val (.int p2), .val (.double d3), .second, .val (.double d4), .second] [(.double d4), (.ref a0)])) _
    refine st11 _ ?_
    show Steps p.tables e below (T11.setTop (mkF m 117 #[.val (.ref a0), .val (.int p1), .val (.int p2), .val (.double d3), .second, .val (.double d4), .second] [])) _
    exact X11'.returnOut hx Bd.returns (hb hby d3_117) hr
  · show Q3 Z a0 p1 p2 d3 d4 h0 n0 _ T11.heap _
    rw [e11]
    exact ⟨rfl, N11, K11, E_a0_u12, F_a0_minCovered_u13, F_a0_minExcluded_u14, F_a0_minExcludedShare_u15, Fw11⟩
theorem d6_0 : decode prog_39_method_2_code 0 = .ok (.iload_n 2, 1) := by decide +kernel
theorem d6_1 : decode prog_39_method_2_code 1 = .ok (.iload_n 1, 1) := by decide +kernel
theorem d6_2 : decode prog_39_method_2_code 2 = .ok (.isub, 1) := by decide +kernel
theorem d6_3 : decode prog_39_method_2_code 3 = .ok (.istore_n 3, 1) := by decide +kernel
theorem d6_4 : decode prog_39_method_2_code 4 = .ok (.iload_n 1, 1) := by decide +kernel
theorem d6_5 : decode prog_39_method_2_code 5 = .ok (.aload_n 0, 1) := by decide +kernel
theorem d6_6 : decode prog_39_method_2_code 6 = .ok (.getfield 21, 3) := by decide +kernel
theorem d6_9 : decode prog_39_method_2_code 9 = .ok (.if_icmp .lt 28, 3) := by decide +kernel
theorem d6_37 : decode prog_39_method_2_code 37 = .ok (.iconst 0, 1) := by decide +kernel
theorem d6_38 : decode prog_39_method_2_code 38 = .ok (.ireturn, 1) := by decide +kernel
theorem ef_rm6a (m : MethodId) (a0 : Addr) (p1 : Int32) (p2 : Int32) : entryFrame m #[(.ref a0), (.int p1), (.int p2)] 4 = mkF m 0 #[.val (.ref a0), .val (.int p1), .val (.int p2), .unset] [] := by first | (simp [entryFrame, mkF, argsToLocals, Value.category]; done) | rfl
def Q6a (Z : State) (a0 : Addr) (p1 : Int32) (p2 : Int32) (w_minCovered_a0 : Int32) (h0 : Heap) (n0 : Nat) (v : Option Value) (h : Heap) (L : List Loc) : Prop := v = some (.int (0 : Int32)) ∧ Fr n0 L ∧ h = h0
set_option maxRecDepth 65536 in
set_option maxHeartbeats 40000000 in
theorem rm6a (l : Launch) (Z : State) (az : Array Value) (hw : ∀ d ∈ tables_1, d.before az Z = true) (ws : List Jvm.Cond) (a0 : Addr) (p1 : Int32) (p2 : Int32) (w_minCovered_a0 : Int32) (h0 : Heap) (n0 : Nat) (Z0 : n0 ≤ h0.size) (F_minCovered_a0 : Fld Z h0 a0 cLM "minCovered" "I" (.int w_minCovered_a0)) (hc1 : p1 < w_minCovered_a0) :
    MetFree l (⟨cLM, "allowsCondition", "(II)Z"⟩ : MethodName) (head1 (Jvm.Cond.code (⟨cLM, "allowsCondition", "(II)Z"⟩ : MethodName) prog_39_method_2_code 4 (some .boolean) :: ws) ({ frames := 0, cells := 0, slots := 0, locals := 0 } : Room)) (fun a U => a = #[(.ref a0), (.int p1), (.int p2)] ∧ Z.Warmed39 U.vm ∧ U.heap = h0) (fun _ _ _ _ _ => True) (fun _ U o U' => ∃ v L, o = .returned v ∧ Q6a Z a0 p1 p2 w_minCovered_a0 h0 n0 v U'.heap L ∧ FrameEnd U o U' L ({ frames := 0, cells := 0, slots := 0, locals := 0 } : Room).cells ({ frames := 0, cells := 0, slots := 0, locals := 0 } : Room).slots) := by
  refine MetFree.of_bodySF (plainFor_of_name pn_com_example_headlattice_headlattice_learn_RuleLearner_Limits) hisR ?_
  intro p e s m args below meth c s₁ Bd hml0 hP hK
  obtain ⟨rfl, hZ, hh⟩ := hP
  have hx := Bd.exec
  have hby := Bd.bytes
  have hml : c.maxLocals = 4 := hml0
  have hown : s.vm.findClass cLM = some m.cls := findClass_of_methodNamed Bd.named
  have hnm := (name_of_methodNamed Bd.named Bd.method).1
  have X0 : Stand p l e ({ frames := 0, cells := 0, slots := 0, locals := 0 } : Room) s m #[(.ref a0), (.int p1), (.int p2)] below meth c s₁ [] 0 0 := Stand.of_body Bd
  have e0 : s₁.heap = h0 := by rw [← hh, Bd.state]; rfl
  have N0 := Fr.nil n0
  have pre0 : ∀ t, Steps p.tables e below (s₁.setTop (mkF m 0 #[.val (.ref a0), .val (.int p1), .val (.int p2), .unset] [])) t → Steps p.tables e below (s₁.setTop (entryFrame m #[(.ref a0), (.int p1), (.int p2)] 4)) t := fun t k => castTop (ef_rm6a m a0 p1 p2) k
  obtain ⟨T1, X1, e1, st1⟩ := getF X0 hx hZ hown (host := "") (Or.inl (w22 hw)) Via.refl e0 F_minCovered_a0 (g := (mkF m 6 #[.val (.ref a0), .val (.int p1), .val (.int p2), .val (.int (p2 - p1))] [(.ref a0), (.int p1)])) rfl rfl (hb hby d6_6)
  obtain ⟨fs, hr, hrun, hended, hW, hsame⟩ := X1.leave (v := some (.int (0 : Int32))) (fun h => by rw [Bd.returns] at h; cases h)
  refine ⟨_, _, pre0 _ ?_, hrun, hended, _, _, rfl, ?_, ⟨_, rfl⟩, hW, hsame.mono (by decide) (by decide)⟩
  · show Steps p.tables e below (s₁.setTop (mkF m 0 #[.val (.ref a0), .val (.int p1), .val (.int p2), .unset] [])) _
    refine XS.iloadN X0.here hx rfl (hb hby d6_0) rfl ?_
    refine XS.iloadN X0.here hx rfl (hb hby d6_1) rfl ?_
    refine XS.isub X0.here hx rfl (hb hby d6_2) rfl ?_
    refine XS.istoreN X0.here hx rfl (hb hby d6_3) rfl (l' := #[.val (.ref a0), .val (.int p1), .val (.int p2), .val (.int (p2 - p1))]) rfl ?_
    refine XS.iloadN X0.here hx rfl (hb hby d6_4) rfl ?_
    refine XS.aloadN X0.here hx rfl (hb hby d6_5) rfl rfl ?_
    show Steps p.tables e below (s₁.setTop (mkF m 6 #[.val (.ref a0), .val (.int p1), .val (.int p2), .val (.int (p2 - p1))] [(.ref a0), (.int p1)])) _
    refine st1 _ ?_
    show Steps p.tables e below (T1.setTop (mkF m 9 #[.val (.ref a0), .val (.int p1), .val (.int p2), .val (.int (p2 - p1))] [(.int w_minCovered_a0), (.int p1)])) _
    refine XS.icmpYes X1.here hx rfl (pc0 := 9) (pc' := 37) rfl (hb hby d6_9) rfl (tlt hc1).1 (by decide) (by decide) ?_
    refine XS.iconst X1.here hx rfl (hb hby d6_37) ?_
    show Steps p.tables e below (T1.setTop (mkF m 38 #[.val (.ref a0), .val (.int p1), .val (.int p2), .val (.int (p2 - p1))] [(.int (0 : Int32))])) _
    exact retN X1 hx (t := .boolean) Bd.returns (by simp) (hb hby d6_38) hr
  · show Q6a Z a0 p1 p2 w_minCovered_a0 h0 n0 _ T1.heap _
    rw [e1]
    exact ⟨rfl, N0, rfl⟩
theorem d6_12 : decode prog_39_method_2_code 12 = .ok (.iload_n 3, 1) := by decide +kernel
theorem d6_13 : decode prog_39_method_2_code 13 = .ok (.aload_n 0, 1) := by decide +kernel
theorem d6_14 : decode prog_39_method_2_code 14 = .ok (.getfield 27, 3) := by decide +kernel
theorem d6_17 : decode prog_39_method_2_code 17 = .ok (.if_icmp .lt 20, 3) := by decide +kernel
theorem ef_rm6b (m : MethodId) (a0 : Addr) (p1 : Int32) (p2 : Int32) : entryFrame m #[(.ref a0), (.int p1), (.int p2)] 4 = mkF m 0 #[.val (.ref a0), .val (.int p1), .val (.int p2), .unset] [] := by first | (simp [entryFrame, mkF, argsToLocals, Value.category]; done) | rfl
def Q6b (Z : State) (a0 : Addr) (p1 : Int32) (p2 : Int32) (w_minCovered_a0 : Int32) (w_minExcluded_a0 : Int32) (h0 : Heap) (n0 : Nat) (v : Option Value) (h : Heap) (L : List Loc) : Prop := v = some (.int (0 : Int32)) ∧ Fr n0 L ∧ h = h0
set_option maxRecDepth 65536 in
set_option maxHeartbeats 40000000 in
theorem rm6b (l : Launch) (Z : State) (az : Array Value) (hw : ∀ d ∈ tables_1, d.before az Z = true) (ws : List Jvm.Cond) (a0 : Addr) (p1 : Int32) (p2 : Int32) (w_minCovered_a0 : Int32) (w_minExcluded_a0 : Int32) (h0 : Heap) (n0 : Nat) (Z0 : n0 ≤ h0.size) (F_minCovered_a0 : Fld Z h0 a0 cLM "minCovered" "I" (.int w_minCovered_a0)) (hc1 : ¬ (p1 < w_minCovered_a0)) (F_minExcluded_a0 : Fld Z h0 a0 cLM "minExcluded" "I" (.int w_minExcluded_a0)) (hc3 : (p2 - p1) < w_minExcluded_a0) :
    MetFree l (⟨cLM, "allowsCondition", "(II)Z"⟩ : MethodName) (head1 (Jvm.Cond.code (⟨cLM, "allowsCondition", "(II)Z"⟩ : MethodName) prog_39_method_2_code 4 (some .boolean) :: ws) ({ frames := 0, cells := 0, slots := 0, locals := 0 } : Room)) (fun a U => a = #[(.ref a0), (.int p1), (.int p2)] ∧ Z.Warmed39 U.vm ∧ U.heap = h0) (fun _ _ _ _ _ => True) (fun _ U o U' => ∃ v L, o = .returned v ∧ Q6b Z a0 p1 p2 w_minCovered_a0 w_minExcluded_a0 h0 n0 v U'.heap L ∧ FrameEnd U o U' L ({ frames := 0, cells := 0, slots := 0, locals := 0 } : Room).cells ({ frames := 0, cells := 0, slots := 0, locals := 0 } : Room).slots) := by
  refine MetFree.of_bodySF (plainFor_of_name pn_com_example_headlattice_headlattice_learn_RuleLearner_Limits) hisR ?_
  intro p e s m args below meth c s₁ Bd hml0 hP hK
  obtain ⟨rfl, hZ, hh⟩ := hP
  have hx := Bd.exec
  have hby := Bd.bytes
  have hml : c.maxLocals = 4 := hml0
  have hown : s.vm.findClass cLM = some m.cls := findClass_of_methodNamed Bd.named
  have hnm := (name_of_methodNamed Bd.named Bd.method).1
  have X0 : Stand p l e ({ frames := 0, cells := 0, slots := 0, locals := 0 } : Room) s m #[(.ref a0), (.int p1), (.int p2)] below meth c s₁ [] 0 0 := Stand.of_body Bd
  have e0 : s₁.heap = h0 := by rw [← hh, Bd.state]; rfl
  have N0 := Fr.nil n0
  have pre0 : ∀ t, Steps p.tables e below (s₁.setTop (mkF m 0 #[.val (.ref a0), .val (.int p1), .val (.int p2), .unset] [])) t → Steps p.tables e below (s₁.setTop (entryFrame m #[(.ref a0), (.int p1), (.int p2)] 4)) t := fun t k => castTop (ef_rm6b m a0 p1 p2) k
  obtain ⟨T1, X1, e1, st1⟩ := getF X0 hx hZ hown (host := "") (Or.inl (w22 hw)) Via.refl e0 F_minCovered_a0 (g := (mkF m 6 #[.val (.ref a0), .val (.int p1), .val (.int p2), .val (.int (p2 - p1))] [(.ref a0), (.int p1)])) rfl rfl (hb hby d6_6)
  obtain ⟨T2, X2, e2, st2⟩ := getF X1 hx hZ hown (host := "") (Or.inl (w24 hw)) Via.refl e1 F_minExcluded_a0 (g := (mkF m 14 #[.val (.ref a0), .val (.int p1), .val (.int p2), .val (.int (p2 - p1))] [(.ref a0), (.int (p2 - p1))])) rfl rfl (hb hby d6_14)
  obtain ⟨fs, hr, hrun, hended, hW, hsame⟩ := X2.leave (v := some (.int (0 : Int32))) (fun h => by rw [Bd.returns] at h; cases h)
  refine ⟨_, _, pre0 _ ?_, hrun, hended, _, _, rfl, ?_, ⟨_, rfl⟩, hW, hsame.mono (by decide) (by decide)⟩
  · show Steps p.tables e below (s₁.setTop (mkF m 0 #[.val (.ref a0), .val (.int p1), .val (.int p2), .unset] [])) _
    refine XS.iloadN X0.here hx rfl (hb hby d6_0) rfl ?_
    refine XS.iloadN X0.here hx rfl (hb hby d6_1) rfl ?_
    refine XS.isub X0.here hx rfl (hb hby d6_2) rfl ?_
    refine XS.istoreN X0.here hx rfl (hb hby d6_3) rfl (l' := #[.val (.ref a0), .val (.int p1), .val (.int p2), .val (.int (p2 - p1))]) rfl ?_
    refine XS.iloadN X0.here hx rfl (hb hby d6_4) rfl ?_
    refine XS.aloadN X0.here hx rfl (hb hby d6_5) rfl rfl ?_
    show Steps p.tables e below (s₁.setTop (mkF m 6 #[.val (.ref a0), .val (.int p1), .val (.int p2), .val (.int (p2 - p1))] [(.ref a0), (.int p1)])) _
    refine st1 _ ?_
    show Steps p.tables e below (T1.setTop (mkF m 9 #[.val (.ref a0), .val (.int p1), .val (.int p2), .val (.int (p2 - p1))] [(.int w_minCovered_a0), (.int p1)])) _
    refine XS.icmpNo X1.here hx rfl (hb hby d6_9) rfl (flt hc1).1 ?_
    refine XS.iloadN X1.here hx rfl (hb hby d6_12) rfl ?_
    refine XS.aloadN X1.here hx rfl (hb hby d6_13) rfl rfl ?_
    show Steps p.tables e below (T1.setTop (mkF m 14 #[.val (.ref a0), .val (.int p1), .val (.int p2), .val (.int (p2 - p1))] [(.ref a0), (.int (p2 - p1))])) _
    refine st2 _ ?_
    show Steps p.tables e below (T2.setTop (mkF m 17 #[.val (.ref a0), .val (.int p1), .val (.int p2), .val (.int (p2 - p1))] [(.int w_minExcluded_a0), (.int (p2 - p1))])) _
    refine XS.icmpYes X2.here hx rfl (pc0 := 17) (pc' := 37) rfl (hb hby d6_17) rfl (tlt hc3).1 (by decide) (by decide) ?_
    refine XS.iconst X2.here hx rfl (hb hby d6_37) ?_
    show Steps p.tables e below (T2.setTop (mkF m 38 #[.val (.ref a0), .val (.int p1), .val (.int p2), .val (.int (p2 - p1))] [(.int (0 : Int32))])) _
    exact retN X2 hx (t := .boolean) Bd.returns (by simp) (hb hby d6_38) hr
  · show Q6b Z a0 p1 p2 w_minCovered_a0 w_minExcluded_a0 h0 n0 _ T2.heap _
    rw [e2]
    exact ⟨rfl, N0, rfl⟩
theorem d6_20 : decode prog_39_method_2_code 20 = .ok (.iload_n 3, 1) := by decide +kernel
theorem d6_21 : decode prog_39_method_2_code 21 = .ok (.i2d, 1) := by decide +kernel
theorem d6_22 : decode prog_39_method_2_code 22 = .ok (.iload_n 2, 1) := by decide +kernel
theorem d6_23 : decode prog_39_method_2_code 23 = .ok (.i2d, 1) := by decide +kernel
theorem d6_24 : decode prog_39_method_2_code 24 = .ok (.ddiv, 1) := by decide +kernel
theorem d6_25 : decode prog_39_method_2_code 25 = .ok (.aload_n 0, 1) := by decide +kernel
theorem d6_26 : decode prog_39_method_2_code 26 = .ok (.getfield 30, 3) := by decide +kernel
theorem d6_29 : decode prog_39_method_2_code 29 = .ok (.dcmp .l, 1) := by decide +kernel
theorem d6_30 : decode prog_39_method_2_code 30 = .ok (.ifCond .lt 7, 3) := by decide +kernel
theorem ef_rm6c (m : MethodId) (a0 : Addr) (p1 : Int32) (p2 : Int32) : entryFrame m #[(.ref a0), (.int p1), (.int p2)] 4 = mkF m 0 #[.val (.ref a0), .val (.int p1), .val (.int p2), .unset] [] := by first | (simp [entryFrame, mkF, argsToLocals, Value.category]; done) | rfl
def Q6c (Z : State) (a0 : Addr) (p1 : Int32) (p2 : Int32) (w_minCovered_a0 : Int32) (w_minExcluded_a0 : Int32) (w_minExcludedShare_a0 : UInt64) (h0 : Heap) (n0 : Nat) (v : Option Value) (h : Heap) (L : List Loc) : Prop := v = some (.int (0 : Int32)) ∧ Fr n0 L ∧ h = h0
set_option maxRecDepth 65536 in
set_option maxHeartbeats 40000000 in
theorem rm6c (l : Launch) (Z : State) (az : Array Value) (hw : ∀ d ∈ tables_1, d.before az Z = true) (ws : List Jvm.Cond) (a0 : Addr) (p1 : Int32) (p2 : Int32) (w_minCovered_a0 : Int32) (w_minExcluded_a0 : Int32) (w_minExcludedShare_a0 : UInt64) (h0 : Heap) (n0 : Nat) (Z0 : n0 ≤ h0.size) (F_minCovered_a0 : Fld Z h0 a0 cLM "minCovered" "I" (.int w_minCovered_a0)) (hc1 : ¬ (p1 < w_minCovered_a0)) (F_minExcluded_a0 : Fld Z h0 a0 cLM "minExcluded" "I" (.int w_minExcluded_a0)) (hc3 : ¬ ((p2 - p1) < w_minExcluded_a0)) (hc4 : Jvm.Free.Fl.NoNaN64 (FP.ddiv (FP.i2d (p2 - p1)) (FP.i2d p2))) (F_minExcludedShare_a0 : Fld Z h0 a0 cLM "minExcludedShare" "D" (.double w_minExcludedShare_a0)) (hc6 : (cmpValue (FP.dcmp (FP.ddiv (FP.i2d (p2 - p1)) (FP.i2d p2)) w_minExcludedShare_a0) .l) < (0 : Int32)) :
    MetFree l (⟨cLM, "allowsCondition", "(II)Z"⟩ : MethodName) (head1 (Jvm.Cond.code (⟨cLM, "allowsCondition", "(II)Z"⟩ : MethodName) prog_39_method_2_code 4 (some .boolean) :: ws) ({ frames := 0, cells := 0, slots := 0, locals := 0 } : Room)) (fun a U => a = #[(.ref a0), (.int p1), (.int p2)] ∧ Z.Warmed39 U.vm ∧ U.heap = h0) (fun _ _ _ _ _ => True) (fun _ U o U' => ∃ v L, o = .returned v ∧ Q6c Z a0 p1 p2 w_minCovered_a0 w_minExcluded_a0 w_minExcludedShare_a0 h0 n0 v U'.heap L ∧ FrameEnd U o U' L ({ frames := 0, cells := 0, slots := 0, locals := 0 } : Room).cells ({ frames := 0, cells := 0, slots := 0, locals := 0 } : Room).slots) := by
  refine MetFree.of_bodySF (plainFor_of_name pn_com_example_headlattice_headlattice_learn_RuleLearner_Limits) hisR ?_
  intro p e s m args below meth c s₁ Bd hml0 hP hK
  obtain ⟨rfl, hZ, hh⟩ := hP
  have hx := Bd.exec
  have hby := Bd.bytes
  have hml : c.maxLocals = 4 := hml0
  have hown : s.vm.findClass cLM = some m.cls := findClass_of_methodNamed Bd.named
  have hnm := (name_of_methodNamed Bd.named Bd.method).1
  have X0 : Stand p l e ({ frames := 0, cells := 0, slots := 0, locals := 0 } : Room) s m #[(.ref a0), (.int p1), (.int p2)] below meth c s₁ [] 0 0 := Stand.of_body Bd
  have e0 : s₁.heap = h0 := by rw [← hh, Bd.state]; rfl
  have N0 := Fr.nil n0
  have pre0 : ∀ t, Steps p.tables e below (s₁.setTop (mkF m 0 #[.val (.ref a0), .val (.int p1), .val (.int p2), .unset] [])) t → Steps p.tables e below (s₁.setTop (entryFrame m #[(.ref a0), (.int p1), (.int p2)] 4)) t := fun t k => castTop (ef_rm6c m a0 p1 p2) k
  obtain ⟨T1, X1, e1, st1⟩ := getF X0 hx hZ hown (host := "") (Or.inl (w22 hw)) Via.refl e0 F_minCovered_a0 (g := (mkF m 6 #[.val (.ref a0), .val (.int p1), .val (.int p2), .val (.int (p2 - p1))] [(.ref a0), (.int p1)])) rfl rfl (hb hby d6_6)
  obtain ⟨T2, X2, e2, st2⟩ := getF X1 hx hZ hown (host := "") (Or.inl (w24 hw)) Via.refl e1 F_minExcluded_a0 (g := (mkF m 14 #[.val (.ref a0), .val (.int p1), .val (.int p2), .val (.int (p2 - p1))] [(.ref a0), (.int (p2 - p1))])) rfl rfl (hb hby d6_14)
  obtain ⟨T3, X3, e3, st3⟩ := getF X2 hx hZ hown (host := "") (Or.inl (w26 hw)) Via.refl e2 F_minExcludedShare_a0 (g := (mkF m 26 #[.val (.ref a0), .val (.int p1), .val (.int p2), .val (.int (p2 - p1))] [(.ref a0), (.double (FP.ddiv (FP.i2d (p2 - p1)) (FP.i2d p2)))])) rfl rfl (hb hby d6_26)
  obtain ⟨fs, hr, hrun, hended, hW, hsame⟩ := X3.leave (v := some (.int (0 : Int32))) (fun h => by rw [Bd.returns] at h; cases h)
  refine ⟨_, _, pre0 _ ?_, hrun, hended, _, _, rfl, ?_, ⟨_, rfl⟩, hW, hsame.mono (by decide) (by decide)⟩
  · show Steps p.tables e below (s₁.setTop (mkF m 0 #[.val (.ref a0), .val (.int p1), .val (.int p2), .unset] [])) _
    refine XS.iloadN X0.here hx rfl (hb hby d6_0) rfl ?_
    refine XS.iloadN X0.here hx rfl (hb hby d6_1) rfl ?_
    refine XS.isub X0.here hx rfl (hb hby d6_2) rfl ?_
    refine XS.istoreN X0.here hx rfl (hb hby d6_3) rfl (l' := #[.val (.ref a0), .val (.int p1), .val (.int p2), .val (.int (p2 - p1))]) rfl ?_
    refine XS.iloadN X0.here hx rfl (hb hby d6_4) rfl ?_
    refine XS.aloadN X0.here hx rfl (hb hby d6_5) rfl rfl ?_
    show Steps p.tables e below (s₁.setTop (mkF m 6 #[.val (.ref a0), .val (.int p1), .val (.int p2), .val (.int (p2 - p1))] [(.ref a0), (.int p1)])) _
    refine st1 _ ?_
    show Steps p.tables e below (T1.setTop (mkF m 9 #[.val (.ref a0), .val (.int p1), .val (.int p2), .val (.int (p2 - p1))] [(.int w_minCovered_a0), (.int p1)])) _
    refine XS.icmpNo X1.here hx rfl (hb hby d6_9) rfl (flt hc1).1 ?_
    refine XS.iloadN X1.here hx rfl (hb hby d6_12) rfl ?_
    refine XS.aloadN X1.here hx rfl (hb hby d6_13) rfl rfl ?_
    show Steps p.tables e below (T1.setTop (mkF m 14 #[.val (.ref a0), .val (.int p1), .val (.int p2), .val (.int (p2 - p1))] [(.ref a0), (.int (p2 - p1))])) _
    refine st2 _ ?_
    show Steps p.tables e below (T2.setTop (mkF m 17 #[.val (.ref a0), .val (.int p1), .val (.int p2), .val (.int (p2 - p1))] [(.int w_minExcluded_a0), (.int (p2 - p1))])) _
    refine XS.icmpNo X2.here hx rfl (hb hby d6_17) rfl (flt hc3).1 ?_
    refine XS.iloadN X2.here hx rfl (hb hby d6_20) rfl ?_
    show Steps p.tables e below (T2.setTop (mkF m 21 #[.val (.ref a0), .val (.int p1), .val (.int p2), .val (.int (p2 - p1))] [(.int (p2 - p1))])) _
    refine XS.i2dS X2.here hx rfl (hb hby d6_21) rfl rfl ?_
    refine XS.iloadN X2.here hx rfl (hb hby d6_22) rfl ?_
    show Steps p.tables e below (T2.setTop (mkF m 23 #[.val (.ref a0), .val (.int p1), .val (.int p2), .val (.int (p2 - p1))] [(.int p2), (.double (FP.i2d (p2 - p1)))])) _
    refine XS.i2dS X2.here hx rfl (hb hby d6_23) rfl rfl ?_
    show Steps p.tables e below (T2.setTop (mkF m 24 #[.val (.ref a0), .val (.int p1), .val (.int p2), .val (.int (p2 - p1))] [(.double (FP.i2d p2)), (.double (FP.i2d (p2 - p1)))])) _
    refine XS.ddivS X2.here hx rfl (hb hby d6_24) rfl hc4 rfl ?_
    refine XS.aloadN X2.here hx rfl (hb hby d6_25) rfl rfl ?_
    show Steps p.tables e below (T2.setTop (mkF m 26 #[.val (.ref a0), .val (.int p1), .val (.int p2), .val (.int (p2 - p1))] [(.ref a0), (.double (FP.ddiv (FP.i2d (p2 - p1)) (FP.i2d p2)))])) _
    refine st3 _ ?_
    show Steps p.tables e below (T3.setTop (mkF m 29 #[.val (.ref a0), .val (.int p1), .val (.int p2), .val (.int (p2 - p1))] [(.double w_minExcludedShare_a0), (.double (FP.ddiv (FP.i2d (p2 - p1)) (FP.i2d p2)))])) _
    refine XS.dcmpS X3.here hx rfl (hb hby d6_29) rfl rfl ?_
    refine XS.ifYes X3.here hx rfl (pc0 := 30) (pc' := 37) rfl (hb hby d6_30) rfl ((if0 _ _).trans (tlt hc6).1) (by decide) (by decide) ?_
    refine XS.iconst X3.here hx rfl (hb hby d6_37) ?_
    show Steps p.tables e below (T3.setTop (mkF m 38 #[.val (.ref a0), .val (.int p1), .val (.int p2), .val (.int (p2 - p1))] [(.int (0 : Int32))])) _
    exact retN X3 hx (t := .boolean) Bd.returns (by simp) (hb hby d6_38) hr
  · show Q6c Z a0 p1 p2 w_minCovered_a0 w_minExcluded_a0 w_minExcludedShare_a0 h0 n0 _ T3.heap _
    rw [e3]
    exact ⟨rfl, N0, rfl⟩
theorem d6_33 : decode prog_39_method_2_code 33 = .ok (.iconst 1, 1) := by decide +kernel
theorem d6_34 : decode prog_39_method_2_code 34 = .ok (.goto 4, 3) := by decide +kernel
theorem ef_rm6d (m : MethodId) (a0 : Addr) (p1 : Int32) (p2 : Int32) : entryFrame m #[(.ref a0), (.int p1), (.int p2)] 4 = mkF m 0 #[.val (.ref a0), .val (.int p1), .val (.int p2), .unset] [] := by first | (simp [entryFrame, mkF, argsToLocals, Value.category]; done) | rfl
def Q6d (Z : State) (a0 : Addr) (p1 : Int32) (p2 : Int32) (w_minCovered_a0 : Int32) (w_minExcluded_a0 : Int32) (w_minExcludedShare_a0 : UInt64) (h0 : Heap) (n0 : Nat) (v : Option Value) (h : Heap) (L : List Loc) : Prop := v = some (.int (1 : Int32)) ∧ Fr n0 L ∧ h = h0
set_option maxRecDepth 65536 in
set_option maxHeartbeats 40000000 in
theorem rm6d (l : Launch) (Z : State) (az : Array Value) (hw : ∀ d ∈ tables_1, d.before az Z = true) (ws : List Jvm.Cond) (a0 : Addr) (p1 : Int32) (p2 : Int32) (w_minCovered_a0 : Int32) (w_minExcluded_a0 : Int32) (w_minExcludedShare_a0 : UInt64) (h0 : Heap) (n0 : Nat) (Z0 : n0 ≤ h0.size) (F_minCovered_a0 : Fld Z h0 a0 cLM "minCovered" "I" (.int w_minCovered_a0)) (hc1 : ¬ (p1 < w_minCovered_a0)) (F_minExcluded_a0 : Fld Z h0 a0 cLM "minExcluded" "I" (.int w_minExcluded_a0)) (hc3 : ¬ ((p2 - p1) < w_minExcluded_a0)) (hc4 : Jvm.Free.Fl.NoNaN64 (FP.ddiv (FP.i2d (p2 - p1)) (FP.i2d p2))) (F_minExcludedShare_a0 : Fld Z h0 a0 cLM "minExcludedShare" "D" (.double w_minExcludedShare_a0)) (hc6 : ¬ ((cmpValue (FP.dcmp (FP.ddiv (FP.i2d (p2 - p1)) (FP.i2d p2)) w_minExcludedShare_a0) .l) < (0 : Int32))) :
    MetFree l (⟨cLM, "allowsCondition", "(II)Z"⟩ : MethodName) (head1 (Jvm.Cond.code (⟨cLM, "allowsCondition", "(II)Z"⟩ : MethodName) prog_39_method_2_code 4 (some .boolean) :: ws) ({ frames := 0, cells := 0, slots := 0, locals := 0 } : Room)) (fun a U => a = #[(.ref a0), (.int p1), (.int p2)] ∧ Z.Warmed39 U.vm ∧ U.heap = h0) (fun _ _ _ _ _ => True) (fun _ U o U' => ∃ v L, o = .returned v ∧ Q6d Z a0 p1 p2 w_minCovered_a0 w_minExcluded_a0 w_minExcludedShare_a0 h0 n0 v U'.heap L ∧ FrameEnd U o U' L ({ frames := 0, cells := 0, slots := 0, locals := 0 } : Room).cells ({ frames := 0, cells := 0, slots := 0, locals := 0 } : Room).slots) := by
  refine MetFree.of_bodySF (plainFor_of_name pn_com_example_headlattice_headlattice_learn_RuleLearner_Limits) hisR ?_
  intro p e s m args below meth c s₁ Bd hml0 hP hK
  obtain ⟨rfl, hZ, hh⟩ := hP
  have hx := Bd.exec
  have hby := Bd.bytes
  have hml : c.maxLocals = 4 := hml0
  have hown : s.vm.findClass cLM = some m.cls := findClass_of_methodNamed Bd.named
  have hnm := (name_of_methodNamed Bd.named Bd.method).1
  have X0 : Stand p l e ({ frames := 0, cells := 0, slots := 0, locals := 0 } : Room) s m #[(.ref a0), (.int p1), (.int p2)] below meth c s₁ [] 0 0 := Stand.of_body Bd
  have e0 : s₁.heap = h0 := by rw [← hh, Bd.state]; rfl
  have N0 := Fr.nil n0
  have pre0 : ∀ t, Steps p.tables e below (s₁.setTop (mkF m 0 #[.val (.ref a0), .val (.int p1), .val (.int p2), .unset] [])) t → Steps p.tables e below (s₁.setTop (entryFrame m #[(.ref a0), (.int p1), (.int p2)] 4)) t := fun t k => castTop (ef_rm6d m a0 p1 p2) k
  obtain ⟨T1, X1, e1, st1⟩ := getF X0 hx hZ hown (host := "") (Or.inl (w22 hw)) Via.refl e0 F_minCovered_a0 (g := (mkF m 6 #[.val (.ref a0), .val (.int p1), .val (.int p2), .val (.int (p2 - p1))] [(.ref a0), (.int p1)])) rfl rfl (hb hby d6_6)
  obtain ⟨T2, X2, e2, st2⟩ := getF X1 hx hZ hown (host := "") (Or.inl (w24 hw)) Via.refl e1 F_minExcluded_a0 (g := (mkF m 14 #[.val (.ref a0), .val (.int p1), .val (.int p2), .val (.int (p2 - p1))] [(.ref a0), (.int (p2 - p1))])) rfl rfl (hb hby d6_14)
  obtain ⟨T3, X3, e3, st3⟩ := getF X2 hx hZ hown (host := "") (Or.inl (w26 hw)) Via.refl e2 F_minExcludedShare_a0 (g := (mkF m 26 #[.val (.ref a0), .val (.int p1), .val (.int p2), .val (.int (p2 - p1))] [(.ref a0), (.double (FP.ddiv (FP.i2d (p2 - p1)) (FP.i2d p2)))])) rfl rfl (hb hby d6_26)
  obtain ⟨fs, hr, hrun, hended, hW, hsame⟩ := X3.leave (v := some (.int (1 : Int32))) (fun h => by rw [Bd.returns] at h; cases h)
  refine ⟨_, _, pre0 _ ?_, hrun, hended, _, _, rfl, ?_, ⟨_, rfl⟩, hW, hsame.mono (by decide) (by decide)⟩
  · show Steps p.tables e below (s₁.setTop (mkF m 0 #[.val (.ref a0), .val (.int p1), .val (.int p2), .unset] [])) _
    refine XS.iloadN X0.here hx rfl (hb hby d6_0) rfl ?_
    refine XS.iloadN X0.here hx rfl (hb hby d6_1) rfl ?_
    refine XS.isub X0.here hx rfl (hb hby d6_2) rfl ?_
    refine XS.istoreN X0.here hx rfl (hb hby d6_3) rfl (l' := #[.val (.ref a0), .val (.int p1), .val (.int p2), .val (.int (p2 - p1))]) rfl ?_
    refine XS.iloadN X0.here hx rfl (hb hby d6_4) rfl ?_
    refine XS.aloadN X0.here hx rfl (hb hby d6_5) rfl rfl ?_
    show Steps p.tables e below (s₁.setTop (mkF m 6 #[.val (.ref a0), .val (.int p1), .val (.int p2), .val (.int (p2 - p1))] [(.ref a0), (.int p1)])) _
    refine st1 _ ?_
    show Steps p.tables e below (T1.setTop (mkF m 9 #[.val (.ref a0), .val (.int p1), .val (.int p2), .val (.int (p2 - p1))] [(.int w_minCovered_a0), (.int p1)])) _
    refine XS.icmpNo X1.here hx rfl (hb hby d6_9) rfl (flt hc1).1 ?_
    refine XS.iloadN X1.here hx rfl (hb hby d6_12) rfl ?_
    refine XS.aloadN X1.here hx rfl (hb hby d6_13) rfl rfl ?_
    show Steps p.tables e below (T1.setTop (mkF m 14 #[.val (.ref a0), .val (.int p1), .val (.int p2), .val (.int (p2 - p1))] [(.ref a0), (.int (p2 - p1))])) _
    refine st2 _ ?_
    show Steps p.tables e below (T2.setTop (mkF m 17 #[.val (.ref a0), .val (.int p1), .val (.int p2), .val (.int (p2 - p1))] [(.int w_minExcluded_a0), (.int (p2 - p1))])) _
    refine XS.icmpNo X2.here hx rfl (hb hby d6_17) rfl (flt hc3).1 ?_
    refine XS.iloadN X2.here hx rfl (hb hby d6_20) rfl ?_
    show Steps p.tables e below (T2.setTop (mkF m 21 #[.val (.ref a0), .val (.int p1), .val (.int p2), .val (.int (p2 - p1))] [(.int (p2 - p1))])) _
    refine XS.i2dS X2.here hx rfl (hb hby d6_21) rfl rfl ?_
    refine XS.iloadN X2.here hx rfl (hb hby d6_22) rfl ?_
    show Steps p.tables e below (T2.setTop (mkF m 23 #[.val (.ref a0), .val (.int p1), .val (.int p2), .val (.int (p2 - p1))] [(.int p2), (.double (FP.i2d (p2 - p1)))])) _
    refine XS.i2dS X2.here hx rfl (hb hby d6_23) rfl rfl ?_
    show Steps p.tables e below (T2.setTop (mkF m 24 #[.val (.ref a0), .val (.int p1), .val (.int p2), .val (.int (p2 - p1))] [(.double (FP.i2d p2)), (.double (FP.i2d (p2 - p1)))])) _
    refine XS.ddivS X2.here hx rfl (hb hby d6_24) rfl hc4 rfl ?_
    refine XS.aloadN X2.here hx rfl (hb hby d6_25) rfl rfl ?_
    show Steps p.tables e below (T2.setTop (mkF m 26 #[.val (.ref a0), .val (.int p1), .val (.int p2), .val (.int (p2 - p1))] [(.ref a0), (.double (FP.ddiv (FP.i2d (p2 - p1)) (FP.i2d p2)))])) _
    refine st3 _ ?_
    show Steps p.tables e below (T3.setTop (mkF m 29 #[.val (.ref a0), .val (.int p1), .val (.int p2), .val (.int (p2 - p1))] [(.double w_minExcludedShare_a0), (.double (FP.ddiv (FP.i2d (p2 - p1)) (FP.i2d p2)))])) _
    refine XS.dcmpS X3.here hx rfl (hb hby d6_29) rfl rfl ?_
    refine XS.ifNo X3.here hx rfl (hb hby d6_30) rfl ((if0 _ _).trans (flt hc6).1) ?_
    refine XS.iconst X3.here hx rfl (hb hby d6_33) ?_
    refine XS.goto X3.here hx rfl (pc0 := 34) (pc' := 38) rfl (hb hby d6_34) (by decide) (by decide) ?_
    show Steps p.tables e below (T3.setTop (mkF m 38 #[.val (.ref a0), .val (.int p1), .val (.int p2), .val (.int (p2 - p1))] [(.int (1 : Int32))])) _
    exact retN X3 hx (t := .boolean) Bd.returns (by simp) (hb hby d6_38) hr
  · show Q6d Z a0 p1 p2 w_minCovered_a0 w_minExcluded_a0 w_minExcludedShare_a0 h0 n0 _ T3.heap _
    rw [e3]
    exact ⟨rfl, N0, rfl⟩
section OwnFl
open Jvm.FP.Core
theorem own_q (x y : Int32) (hx : 0 ≤ x.toInt) (hy : 0 < y.toInt) : val64 (ddiv (i2d x) (i2d y)) = roundRatio b64 false x.toInt.natAbs y.toInt.natAbs 0 := by
  rw [val64_ddiv]
  have wx : Whole x.toInt (val64 (i2d x)) := i2d_int x
  have wy : Whole y.toInt (val64 (i2d y)) := i2d_int y
  have hs : ∀ s c q, val64 (i2d x) = .fin s c q → s = false := fun s c q h => by
    by_cases hz : x.toInt = 0
    · have e : x = 0 := Int32.toInt_inj.mp hz
      subst e
      have k : val64 (i2d 0) = .fin false 0 b64.qmin := by decide +kernel
      rw [k] at h
      cases h; rfl
    · rw [h] at wx
      rw [whole_sign wx hz]
      simp; omega
  cases hvx : val64 (i2d x) with
  | nan => rw [hvx] at wx; exact wx.elim
  | inf s => rw [hvx] at wx; exact wx.elim
  | fin s c q =>
    cases hvy : val64 (i2d y) with
    | nan => rw [hvy] at wy; exact wy.elim
    | inf s => rw [hvy] at wy; exact wy.elim
    | fin t d r =>
      obtain rfl := hs s c q hvx
      rw [hvx] at wx
      rw [hvy] at wy
      have hd : d ≠ 0 := fun z => by have := (whole_zero wy).mp z; omega
      have ht : t = false := by rw [whole_sign wy (by omega)]; simp; omega
      subst ht
      have ax := whole_natAbs wx
      have ay := whole_natAbs wy
      show (if d = 0 then _ else roundRatio b64 (false != false) c d (q - r)) = _
      rw [if_neg hd]
      refine roundRatio_congr (by omega) (by omega) ?_
      obtain ⟨m, e1, e2⟩ : ∃ m : Nat, q.toNat + (-r).toNat = (q - r - 0).toNat + m ∧ (-q).toNat + r.toNat = (0 - (q - r)).toNat + m := ⟨q.toNat + (-r).toNat - (q - r - 0).toNat, by omega, by omega⟩
      refine Nat.eq_of_mul_eq_mul_right (Nat.two_pow_pos m) ?_
      generalize x.toInt.natAbs = X at *
      generalize y.toInt.natAbs = Y at *
      rw [Nat.mul_assoc _ _ (2 ^ m), Nat.mul_assoc _ _ (2 ^ m), ← Nat.pow_add, ← Nat.pow_add, ← e1, ← e2, Nat.pow_add, Nat.pow_add]
      calc c * Y * (2 ^ q.toNat * 2 ^ (-r).toNat) = (c * 2 ^ q.toNat) * (Y * 2 ^ (-r).toNat) := by ac_rfl
        _ = (X * 2 ^ (-q).toNat) * (d * 2 ^ r.toNat) := by rw [ax, ay]
        _ = X * d * (2 ^ (-q).toNat * 2 ^ r.toNat) := by ac_rfl
theorem own_qm : b64.qmin = -1074 := by decide
theorem own_V (m : Nat) (hm : m < 2 ^ 53) : ∃ V : Datum, Jvm.FP.Core.fits b64 V ∧ V ≠ .nan ∧ zmag b64 V = m * 2 ^ 1030 := by
  by_cases h0 : m = 0
  · subst h0
    refine ⟨.fin false 0 b64.qmin, ⟨by decide, Int.le_refl _, by decide, Or.inl rfl⟩, Datum.noConfusion, ?_⟩
    show 0 * _ = _
    rw [Nat.zero_mul, Nat.zero_mul]
  · have l1 := Nat.log2_self_le h0
    have l2 := @Nat.lt_log2_self m
    have l3 : m.log2 < 53 := (Nat.pow_lt_pow_iff_right (by decide : 1 < 2)).mp (Nat.lt_of_le_of_lt l1 hm)
    obtain ⟨k, hk⟩ : ∃ k, k + m.log2 = 52 := ⟨52 - m.log2, by omega⟩
    refine ⟨.fin false (m * 2 ^ k) (-44 - (k : Int)), ⟨?_, ?_, ?_, Or.inr ?_⟩, Datum.noConfusion, ?_⟩
    · show m * 2 ^ k < 2 ^ 53
      have : m * 2 ^ k < 2 ^ (m.log2 + 1) * 2 ^ k := Nat.mul_lt_mul_of_pos_right l2 (Nat.two_pow_pos k)
      rw [← Nat.pow_add, show m.log2 + 1 + k = 53 by omega] at this
      exact this
    · rw [own_qm]; omega
    · show _ ≤ b64.qmax
      rw [show b64.qmax = 971 from by decide]; omega
    · show 2 ^ 52 ≤ m * 2 ^ k
      have : 2 ^ m.log2 * 2 ^ k ≤ m * 2 ^ k := Nat.mul_le_mul_right _ l1
      rw [← Nat.pow_add, show m.log2 + k = 52 by omega] at this
      exact this
    · show m * 2 ^ k * 2 ^ (-44 - (k : Int) - b64.qmin).toNat = _
      rw [own_qm, Nat.mul_assoc, ← Nat.pow_add, show k + (-44 - (k : Int) - -1074).toNat = 1030 by omega]
theorem own_lt {A B P Q : Nat} (hB : 0 < B) (hQ : 0 < Q) (hBQ : B * Q ≤ 2 ^ 41) (hA : A ≤ B) (hP : P ≤ Q) (h : A * Q < P * B) : zmag b64 (roundRatio b64 false A B 0) < zmag b64 (roundRatio b64 false P Q 0) := by
  obtain ⟨m, hm1, hm2⟩ : ∃ m, A * 2 ^ 44 ≤ m * B ∧ m * B < A * 2 ^ 44 + B := by
    refine ⟨(A * 2 ^ 44 + B - 1) / B, ?_, ?_⟩
    · have := Nat.lt_div_mul_add hB (a := A * 2 ^ 44 + B - 1)
      omega
    · have := Nat.div_mul_le_self (A * 2 ^ 44 + B - 1) B
      omega
  obtain ⟨M, hM1, hM2⟩ : ∃ M, M * Q ≤ P * 2 ^ 44 ∧ P * 2 ^ 44 < M * Q + Q := ⟨P * 2 ^ 44 / Q, Nat.div_mul_le_self _ _, Nat.lt_div_mul_add hQ⟩
  have hmM : m < M := by
    refine Nat.lt_of_not_le fun hle => ?_
    have a1 : P * 2 ^ 44 * B < (M * Q + Q) * B := Nat.mul_lt_mul_of_pos_right hM2 hB
    have a2 : M * Q * B ≤ m * Q * B := Nat.mul_le_mul_right _ (Nat.mul_le_mul_right _ hle)
    have a3 : m * B * Q ≤ (A * 2 ^ 44 + B) * Q := Nat.mul_le_mul_right _ (Nat.le_of_lt hm2)
    have a4 : (A * Q + 1) * 2 ^ 44 ≤ P * B * 2 ^ 44 := Nat.mul_le_mul_right _ h
    have b1 : P * 2 ^ 44 * B = P * B * 2 ^ 44 := by ac_rfl
    have b2 : m * Q * B = m * B * Q := by ac_rfl
    have b3 : (A * 2 ^ 44 + B) * Q = A * Q * 2 ^ 44 + B * Q := by rw [Nat.add_mul, Nat.mul_right_comm]
    have b4 : (M * Q + Q) * B = M * Q * B + B * Q := by rw [Nat.add_mul, Nat.mul_comm Q B]
    rw [b1, b4] at a1
    rw [b2] at a2
    rw [b3] at a3
    rw [Nat.add_mul] at a4
    generalize P * B = x1 at *
    generalize M * Q * B = x2 at *
    generalize m * B * Q = x3 at *
    generalize A * Q = x4 at *
    generalize B * Q = x5 at *
    omega
  have hMb : M < 2 ^ 53 := by
    refine Nat.lt_of_not_le fun hle => ?_
    have a1 : 2 ^ 53 * Q ≤ M * Q := Nat.mul_le_mul_right _ hle
    have a2 : P * 2 ^ 44 ≤ Q * 2 ^ 44 := Nat.mul_le_mul_right _ hP
    omega
  obtain ⟨V1, f1, n1, z1⟩ := own_V m (Nat.lt_trans hmM hMb)
  obtain ⟨V2, f2, n2, z2⟩ := own_V M hMb
  have e0 : (b64.qmin - b64.qmin).toNat = 0 := by rw [Int.sub_self]; rfl
  have e1 : ∀ A, inUnits A 0 b64.qmin = A * (2 ^ 44 * 2 ^ 1030) := fun A => by
    show A * 2 ^ (0 - b64.qmin).toNat = _
    rw [own_qm, ← Nat.pow_add, show (0 - (-1074 : Int)).toNat = 44 + 1030 from rfl]
  have k1 : zmag b64 (roundRatio b64 false A B 0) ≤ zmag b64 V1 := zmag_roundRatio_le good_b64 hB f1 n1 (Int.le_refl _) (by rw [own_qm]; decide) (by
    rw [e1, e0, z1, Nat.pow_zero, Nat.mul_one]
    have := Nat.mul_le_mul_right (2 ^ 1030) hm1
    generalize 2 ^ 1030 = W at *
    calc A * (2 ^ 44 * W) = A * 2 ^ 44 * W := by ac_rfl
      _ ≤ m * B * W := this
      _ = m * W * B := by ac_rfl)
  have k2 : zmag b64 V2 ≤ zmag b64 (roundRatio b64 false P Q 0) := zmag_roundRatio_ge good_b64 hQ f2 (Int.le_refl _) (by rw [own_qm]; decide) (by
    rw [e1, e0, z2, Nat.pow_zero, Nat.mul_one]
    have := Nat.mul_le_mul_right (2 ^ 1030) hM1
    generalize 2 ^ 1030 = W at *
    calc M * W * Q = M * Q * W := by ac_rfl
      _ ≤ P * 2 ^ 44 * W := this
      _ = P * (2 ^ 44 * W) := by ac_rfl)
  have k3 : zmag b64 V1 < zmag b64 V2 := by rw [z1, z2]; exact Nat.mul_lt_mul_of_pos_right hmM (Nat.two_pow_pos 1030)
  omega
theorem own_ord {x y : UInt64} (hx : val64 x ≠ .nan) (hy : val64 y ≠ .nan) (sx : sgn (val64 x) = false) (sy : sgn (val64 y) = false) : dcmp x y = some (compare (zmag b64 (val64 x) : Int) (zmag b64 (val64 y) : Int)) := by
  show order (val64 x) (val64 y) = _
  rw [order_zval good_b64 (val64_fits x) (val64_fits y) hx hy]
  unfold zval
  rw [sx, sy]
  rfl
theorem own_lt1 {a b : Nat} (h : a < b) : compare (a : Int) (b : Int) = .lt := by
  simp only [compare, compareOfLessAndEq]
  rw [if_pos (by omega)]
theorem own_nlt {a b : Nat} (h : ¬ a < b) : compare (a : Int) (b : Int) ≠ .lt := by
  simp only [compare, compareOfLessAndEq]
  rw [if_neg (by omega)]
  split <;> simp
theorem own_ngt {a b : Nat} (h : a ≤ b) : compare (a : Int) (b : Int) ≠ .gt := by
  simp only [compare, compareOfLessAndEq]
  by_cases c : a < b
  · rw [if_pos (by omega)]; simp
  · rw [if_neg (by omega), if_pos (by omega)]; simp
theorem own_ne1 {x y : Int32} (hx : 0 ≤ x.toInt) (hy : 0 < y.toInt) : val64 (ddiv (i2d x) (i2d y)) ≠ .nan ∧ sgn (val64 (ddiv (i2d x) (i2d y))) = false := by
  rw [own_q x y hx hy]
  exact ⟨roundRatio_ne_nan _ _ _ _ _, sgn_roundRatio _ _ _ _ _⟩
theorem own_nn {x y : Int32} (hx : 0 ≤ x.toInt) (hy : 0 < y.toInt) : Jvm.Free.Fl.NoNaN64 (FP.ddiv (FP.i2d x) (FP.i2d y)) := by
  rw [Jvm.Free.Fl.noNaN64_no, ← Bool.not_eq_true, dIsNaN_iff]
  exact (own_ne1 hx hy).1
theorem own_flt {E C P Q : Int32} (hE : 0 ≤ E.toInt) (hEC : E.toInt ≤ C.toInt) (hC : 0 < C.toInt) (hP : 0 ≤ P.toInt) (hPQ : P.toInt ≤ Q.toInt) (hQ : 0 < Q.toInt) (hQ2 : Q.toInt ≤ 1024) : cmpValue (FP.dcmp (FP.ddiv (FP.i2d E) (FP.i2d C)) (FP.ddiv (FP.i2d P) (FP.i2d Q))) .l < (0 : Int32) ↔ E.toInt * Q.toInt < P.toInt * C.toInt := by
  have h1 := own_ne1 hE hC
  have h2 := own_ne1 hP hQ
  have d := own_ord h1.1 h2.1 h1.2 h2.2
  rw [show FP.dcmp (FP.ddiv (FP.i2d E) (FP.i2d C)) (FP.ddiv (FP.i2d P) (FP.i2d Q)) = _ from d, own_q E C hE hC, own_q P Q hP hQ]
  have hC2 := C.toInt_lt
  obtain ⟨a, ha⟩ := Int.eq_ofNat_of_zero_le hE
  obtain ⟨b, hb⟩ := Int.eq_ofNat_of_zero_le (Int.le_of_lt hC)
  obtain ⟨x, hx⟩ := Int.eq_ofNat_of_zero_le hP
  obtain ⟨y, hy⟩ := Int.eq_ofNat_of_zero_le (Int.le_of_lt hQ)
  rw [ha, hb, hx, hy]
  simp only [Int.natAbs_natCast]
  have l1 : b * y ≤ 2 ^ 41 := by
    have : b * y ≤ 2 ^ 31 * 1024 := Nat.mul_le_mul (by omega) (by omega)
    omega
  have l2 : y * b ≤ 2 ^ 41 := by rw [Nat.mul_comm]; exact l1
  have hi : ((a : Int) * (y : Int) < (x : Int) * (b : Int)) ↔ a * y < x * b := by rw [← Int.natCast_mul, ← Int.natCast_mul]; exact Int.ofNat_lt
  rw [hi]
  constructor
  · intro h
    refine Decidable.byContradiction fun hn => ?_
    have hz : ¬ zmag b64 (roundRatio b64 false a b 0) < zmag b64 (roundRatio b64 false x y 0) := by
      rcases Nat.lt_or_eq_of_le (Nat.le_of_not_lt hn) with g | g
      · have := own_lt (A := x) (B := y) (P := a) (Q := b) (by omega) (by omega) l2 (by omega) (by omega) g
        omega
      · rw [roundRatio_congr (A := a) (B := b) (A' := x) (B' := y) (e := 0) (e' := 0) (by omega) (by omega) (by rw [g])]
        exact Nat.lt_irrefl _
    have hc := own_nlt hz
    revert h
    cases hcc : compare (zmag b64 (roundRatio b64 false a b 0) : Int) (zmag b64 (roundRatio b64 false x y 0) : Int)
    · exact absurd hcc hc
    · decide
    · decide
  · intro h
    rw [own_lt1 (own_lt (by omega) (by omega) l1 (by omega) (by omega) h)]
    decide
theorem own_s0 {P Q : Int32} (hP : 0 ≤ P.toInt) (hQ : 0 < Q.toInt) : ¬ (cmpValue (FP.dcmp (FP.ddiv (FP.i2d P) (FP.i2d Q)) FP.dconst0) .l < (0 : Int32)) := by
  have h1 := own_ne1 hP hQ
  have d := own_ord (y := dconst0) h1.1 (by rw [val64_dconst0]; exact Datum.noConfusion) h1.2 (by rw [val64_dconst0]; rfl)
  rw [show FP.dcmp (FP.ddiv (FP.i2d P) (FP.i2d Q)) FP.dconst0 = _ from d]
  have hz : zmag b64 (val64 dconst0) = 0 := by rw [val64_dconst0]; exact Nat.zero_mul _
  rw [hz]
  have hc := own_nlt (a := zmag b64 (val64 (ddiv (i2d P) (i2d Q)))) (b := 0) (Nat.not_lt_zero _)
  cases hcc : compare (zmag b64 (val64 (ddiv (i2d P) (i2d Q))) : Int) ((0 : Nat) : Int)
  · exact absurd hcc hc
  · decide
  · decide
theorem own_s1 {P Q : Int32} (hP : 0 ≤ P.toInt) (hPQ : P.toInt ≤ Q.toInt) (hQ : 0 < Q.toInt) : ¬ ((0 : Int32) < cmpValue (FP.dcmp (FP.ddiv (FP.i2d P) (FP.i2d Q)) FP.dconst1) .g) := by
  have h1 := own_ne1 hP hQ
  have f1 : val64 dconst1 ≠ .nan := by rw [val64_dconst1]; exact Datum.noConfusion
  have d := own_ord (y := dconst1) h1.1 f1 h1.2 (by rw [val64_dconst1]; rfl)
  rw [show FP.dcmp (FP.ddiv (FP.i2d P) (FP.i2d Q)) FP.dconst1 = _ from d, own_q P Q hP hQ]
  have hle : zmag b64 (roundRatio b64 false P.toInt.natAbs Q.toInt.natAbs 0) ≤ zmag b64 (val64 dconst1) := zmag_roundRatio_le good_b64 (by omega) (val64_fits dconst1) f1 (Int.le_refl _) (by rw [own_qm]; decide) (by
    have hz : zmag b64 (val64 dconst1) = 2 ^ 1074 := by
      rw [val64_dconst1]
      show 2 ^ 52 * 2 ^ (-52 - b64.qmin).toNat = _
      rw [own_qm, ← Nat.pow_add, show (-52 - (-1074 : Int)).toNat = 1022 from rfl, show 52 + 1022 = 1074 from rfl]
    rw [hz, show (b64.qmin - b64.qmin).toNat = 0 from by rw [Int.sub_self]; rfl, Nat.pow_zero, Nat.mul_one]
    show P.toInt.natAbs * 2 ^ (0 - b64.qmin).toNat ≤ _
    rw [own_qm, Nat.mul_comm]
    exact Nat.mul_le_mul_left _ (by omega))
  have hc := own_ngt hle
  cases hcc : compare (zmag b64 (roundRatio b64 false P.toInt.natAbs Q.toInt.natAbs 0) : Int) (zmag b64 (val64 dconst1) : Int)
  · decide
  · decide
  · exact absurd hcc hc
end OwnFl
def own_mn (x y : Int32) : Int32 := if y < x then y else x
def own_mx (x y : Int32) : Int32 := if x < y then y else x
theorem own_b31 (x : Int32) : 0 ≤ (x &&& (2147483647 : Int32)).toInt := by
  rw [c_mask x (2147483647 : Int32) 31 (by decide) (by decide)]
  omega
theorem own_nneg (x : Int32) : ¬ ((x &&& (2147483647 : Int32)) < (0 : Int32)) := by
  have := own_b31 x
  rw [Int32.lt_iff_toInt_lt]
  show ¬ _ < (0 : Int)
  omega
theorem own_mnx {x y : Int32} (hx : 0 ≤ x.toInt) (hy : 0 ≤ y.toInt) : 0 ≤ (own_mn x y).toInt ∧ (own_mn x y).toInt ≤ (own_mx x y).toInt := by
  unfold own_mn own_mx
  by_cases c : y < x <;> by_cases d : x < y <;> simp only [c, d, if_true, if_false] <;> rw [Int32.lt_iff_toInt_lt] at c d <;> omega
theorem own_mx1 (m : Int32) : 1 ≤ (own_mx (1 : Int32) m).toInt := by
  unfold own_mx
  have e : (1 : Int32).toInt = 1 := rfl
  by_cases d : (1 : Int32) < m
  · rw [if_pos d]; rw [Int32.lt_iff_toInt_lt] at d; omega
  · rw [if_neg d]; decide
theorem own_mx1n (m : Int32) : ¬ (own_mx (1 : Int32) m < (1 : Int32)) := by
  have := own_mx1 m
  rw [Int32.lt_iff_toInt_lt]
  show ¬ _ < (1 : Int)
  omega
theorem own_bm {x : Int} (h1 : -2 ^ 31 ≤ x) (h2 : x < 2 ^ 31) : x.bmod (2 ^ 32) = x := Int.bmod_eq_of_le (by omega) (by omega)
theorem own_bm64 {x : Int} (h1 : -2 ^ 63 ≤ x) (h2 : x < 2 ^ 63) : x.bmod (2 ^ 64) = x := Int.bmod_eq_of_le (by omega) (by omega)
theorem own_sub {c k : Int32} (hk : 0 ≤ k.toInt) (hkc : k.toInt ≤ c.toInt) : (c - k).toInt = c.toInt - k.toInt := by
  have h2 := c.toInt_lt
  rw [Int32.toInt_sub, own_bm (by omega) (by omega)]
theorem own_qb (x : Int32) : ((x &&& (1023 : Int32)) + (1 : Int32)).toInt = x.toInt % 1024 + 1 := by
  have e := c_mask x (1023 : Int32) 10 (by decide) (by decide)
  rw [Int32.toInt_add, e, own_bm (by show _ ≤ _ + (1 : Int); omega) (by show _ + (1 : Int) < _; omega)]
  rfl
theorem own_qc (x : Int32) : (((x &&& (1023 : Int32)) + (1 : Int32)) + (1 : Int32)).toInt = x.toInt % 1024 + 2 := by
  rw [Int32.toInt_add, own_qb, own_bm (by show _ ≤ _ + (1 : Int); omega) (by show _ + (1 : Int) < _; omega)]
  show x.toInt % 1024 + 1 + 1 = _
  omega
theorem own_qd (x : Int32) : (((x &&& (1023 : Int32)) + (1 : Int32)) + (1 : Int32)) ≠ (0 : Int32) := fun h => by
  have := congrArg Int32.toInt h
  rw [own_qc] at this
  have e : (0 : Int32).toInt = 0 := rfl
  omega
theorem own_pb (p x : Int32) : 0 ≤ ((p &&& (2147483647 : Int32)) % (((x &&& (1023 : Int32)) + (1 : Int32)) + (1 : Int32))).toInt ∧ ((p &&& (2147483647 : Int32)) % (((x &&& (1023 : Int32)) + (1 : Int32)) + (1 : Int32))).toInt ≤ ((x &&& (1023 : Int32)) + (1 : Int32)).toInt := by
  rw [Int32.toInt_mod, Int.tmod_eq_emod_of_nonneg (own_b31 p), own_qc, own_qb]
  have h1 := Int.emod_nonneg (p &&& (2147483647 : Int32)).toInt (show x.toInt % 1024 + 2 ≠ 0 by omega)
  have h2 := Int.emod_lt_of_pos (p &&& (2147483647 : Int32)).toInt (show 0 < x.toInt % 1024 + 2 by omega)
  omega
theorem own_lc1 {c k m : Int32} (hk : 0 ≤ k.toInt) (hkc : k.toInt ≤ c.toInt) : lcmpW (c.toInt64 - k.toInt64) m.toInt64 < (0 : Int32) ↔ c - k < m := by
  have h2 := c.toInt_lt
  rw [lw_lt, Int64.lt_iff_toInt_lt, Int32.lt_iff_toInt_lt, own_sub hk hkc, Int64.toInt_sub, Int32.toInt_toInt64, Int32.toInt_toInt64, Int32.toInt_toInt64, own_bm64 (by omega) (by omega)]
theorem own_lc2 {c k p q : Int32} (hk : 0 ≤ k.toInt) (hkc : k.toInt ≤ c.toInt) (hp : 0 ≤ p.toInt) (hpq : p.toInt ≤ q.toInt) (hq : q.toInt ≤ 1024) : lcmpW ((c.toInt64 - k.toInt64) * q.toInt64) (p.toInt64 * c.toInt64) < (0 : Int32) ↔ (c - k).toInt * q.toInt < p.toInt * c.toInt := by
  have h2 := c.toInt_lt
  have e1 : (c.toInt64 - k.toInt64).toInt = c.toInt - k.toInt := by rw [Int64.toInt_sub, Int32.toInt_toInt64, Int32.toInt_toInt64, own_bm64 (by omega) (by omega)]
  have m1 : (c.toInt - k.toInt) * q.toInt ≤ 2 ^ 31 * 1024 := Int.mul_le_mul (by omega) hq (by omega) (by omega)
  have m2 : 0 ≤ (c.toInt - k.toInt) * q.toInt := Int.mul_nonneg (by omega) (by omega)
  have m3 : p.toInt * c.toInt ≤ 1024 * 2 ^ 31 := Int.mul_le_mul (by omega) (by omega) (by omega) (by omega)
  have m4 : 0 ≤ p.toInt * c.toInt := Int.mul_nonneg hp (by omega)
  rw [lw_lt, Int64.lt_iff_toInt_lt, Int64.toInt_mul, Int64.toInt_mul, e1, Int32.toInt_toInt64, Int32.toInt_toInt64, Int32.toInt_toInt64, own_bm64 (by omega) (by omega), own_bm64 (by omega) (by omega), own_sub hk hkc]
def QMN (Z : State) (p0 : Int32) (p1 : Int32) (h0 : Heap) (n0 : Nat) (v : Option Value) (h : Heap) (L : List Loc) : Prop := v = some (.int (own_mn p0 p1)) ∧ Fr n0 L ∧ h = h0
set_option maxRecDepth 65536 in
set_option maxHeartbeats 40000000 in
theorem rmMN (l : Launch) (Z : State) (az : Array Value) (hw : ∀ d ∈ tables_1, d.before az Z = true) (ws : List Jvm.Cond) (p0 : Int32) (p1 : Int32) (h0 : Heap) (n0 : Nat) (Z0 : n0 ≤ h0.size) :
    MetFree l (⟨"java/lang/Math", "min", "(II)I"⟩ : MethodName) (head1 (Jvm.Cond.code (⟨"java/lang/Math", "min", "(II)I"⟩ : MethodName) jdk_29_method_69_code 2 (some .int) :: ws) ({ frames := 0, cells := 0, slots := 0, locals := 0 } : Room)) (fun a U => a = #[(.int p0), (.int p1)] ∧ Z.Warmed39 U.vm ∧ U.heap = h0) (fun _ _ _ _ _ => True) (fun _ U o U' => ∃ v L, o = .returned v ∧ QMN Z p0 p1 h0 n0 v U'.heap L ∧ FrameEnd U o U' L ({ frames := 0, cells := 0, slots := 0, locals := 0 } : Room).cells ({ frames := 0, cells := 0, slots := 0, locals := 0 } : Room).slots) := by
  by_cases c : p1 < p0
  · refine own_mono (rm1b l Z az hw ws p0 p1 h0 n0 Z0 c) fun v h L q => ?_
    obtain ⟨rfl, qN, rfl⟩ := q
    exact ⟨by rw [show own_mn p0 p1 = p1 from if_pos c], qN, rfl⟩
  · refine own_mono (rm1a l Z az hw ws p0 p1 h0 n0 Z0 c) fun v h L q => ?_
    obtain ⟨rfl, qN, rfl⟩ := q
    exact ⟨by rw [show own_mn p0 p1 = p0 from if_neg c], qN, rfl⟩
def QMX (Z : State) (p0 : Int32) (p1 : Int32) (h0 : Heap) (n0 : Nat) (v : Option Value) (h : Heap) (L : List Loc) : Prop := v = some (.int (own_mx p0 p1)) ∧ Fr n0 L ∧ h = h0
set_option maxRecDepth 65536 in
set_option maxHeartbeats 40000000 in
theorem rmMX (l : Launch) (Z : State) (az : Array Value) (hw : ∀ d ∈ tables_1, d.before az Z = true) (ws : List Jvm.Cond) (p0 : Int32) (p1 : Int32) (h0 : Heap) (n0 : Nat) (Z0 : n0 ≤ h0.size) :
    MetFree l (⟨"java/lang/Math", "max", "(II)I"⟩ : MethodName) (head1 (Jvm.Cond.code (⟨"java/lang/Math", "max", "(II)I"⟩ : MethodName) jdk_29_method_65_code 2 (some .int) :: ws) ({ frames := 0, cells := 0, slots := 0, locals := 0 } : Room)) (fun a U => a = #[(.int p0), (.int p1)] ∧ Z.Warmed39 U.vm ∧ U.heap = h0) (fun _ _ _ _ _ => True) (fun _ U o U' => ∃ v L, o = .returned v ∧ QMX Z p0 p1 h0 n0 v U'.heap L ∧ FrameEnd U o U' L ({ frames := 0, cells := 0, slots := 0, locals := 0 } : Room).cells ({ frames := 0, cells := 0, slots := 0, locals := 0 } : Room).slots) := by
  by_cases c : p0 < p1
  · refine own_mono (rm2b l Z az hw ws p0 p1 h0 n0 Z0 c) fun v h L q => ?_
    obtain ⟨rfl, qN, rfl⟩ := q
    exact ⟨by rw [show own_mx p0 p1 = p1 from if_pos c], qN, rfl⟩
  · refine own_mono (rm2a l Z az hw ws p0 p1 h0 n0 Z0 c) fun v h L q => ?_
    obtain ⟨rfl, qN, rfl⟩ := q
    exact ⟨by rw [show own_mx p0 p1 = p0 from if_neg c], qN, rfl⟩
theorem pd_1 : parseMethodDescriptor "(II)I" = some ⟨[.int, .int], some .int⟩ := by decide +kernel
theorem pd_2 : parseMethodDescriptor "(IIDD)V" = some ⟨[.int, .int, .double, .double], none⟩ := by decide +kernel
theorem pd_3 : parseMethodDescriptor "(II)Z" = some ⟨[.int, .int], some .boolean⟩ := by decide +kernel
theorem pn_com_example_headlattice_headlattice_learn_LimitsAllowsConditionPinLaw : plainName "com/example/headlattice/headlattice/learn/LimitsAllowsConditionPinLaw" = true := by first | (simp [plainName, overriddenIn]; done) | decide +kernel
theorem ef_rm0a (m : MethodId) (p0 : Int32) (p1 : Int32) (p2 : Int32) (p3 : Int32) (p4 : Int32) (p5 : Int32) : entryFrame m #[(.int p0), (.int p1), (.int p2), (.int p3), (.int p4), (.int p5)] maxLocals = mkF m 0 #[.val (.int p0), .val (.int p1), .val (.int p2), .val (.int p3), .val (.int p4), .val (.int p5), .unset, .unset, .unset, .unset, .unset, .unset, .unset, .unset, .unset, .unset, .unset, .unset, .unset, .unset, .unset] [] := by first | (simp [entryFrame, mkF, argsToLocals, Value.category, maxLocals]; done) | rfl
def Q0a (Z : State) (p0 : Int32) (p1 : Int32) (p2 : Int32) (p3 : Int32) (p4 : Int32) (p5 : Int32) (h0 : Heap) (n0 : Nat) (v : Option Value) (h : Heap) (L : List Loc) : Prop := v = some (.int (1 : Int32)) ∧ Fr n0 L
set_option maxRecDepth 65536 in
set_option maxHeartbeats 40000000 in
theorem rm0a (l : Launch) (Z : State) (az : Array Value) (hw : ∀ d ∈ tables_1, d.before az Z = true) (ws : List Jvm.Cond) (p0 : Int32) (p1 : Int32) (p2 : Int32) (p3 : Int32) (p4 : Int32) (p5 : Int32) (h0 : Heap) (n0 : Nat) (Z0 : n0 ≤ h0.size) (hc0 : (((p5 &&& (1023 : Int32)) + (1 : Int32)) + (1 : Int32)) ≠ (0 : Int32)) (hc1 : Jvm.Free.Fl.NoNaN64 (FP.ddiv (FP.i2d ((p4 &&& (2147483647 : Int32)) % (((p5 &&& (1023 : Int32)) + (1 : Int32)) + (1 : Int32)))) (FP.i2d ((p5 &&& (1023 : Int32)) + (1 : Int32))))) (hc2 : ¬ ((own_mx (1 : Int32) (p2 &&& (2147483647 : Int32))) < (1 : Int32))) (hc3 : ¬ ((p3 &&& (2147483647 : Int32)) < (0 : Int32))) (hc4 : ¬ ((cmpValue (FP.dcmp (FP.ddiv (FP.i2d ((p4 &&& (2147483647 : Int32)) % (((p5 &&& (1023 : Int32)) + (1 : Int32)) + (1 : Int32)))) (FP.i2d ((p5 &&& (1023 : Int32)) + (1 : Int32)))) FP.dconst0) .l) < (0 : Int32))) (hc5 : ¬ ((0 : Int32) < (cmpValue (FP.dcmp (FP.ddiv (FP.i2d ((p4 &&& (2147483647 : Int32)) % (((p5 &&& (1023 : Int32)) + (1 : Int32)) + (1 : Int32)))) (FP.i2d ((p5 &&& (1023 : Int32)) + (1 : Int32)))) FP.dconst1) .g))) (hc6 : ¬ ((cmpValue (FP.dcmp FP.dconst0 FP.dconst0) .l) < (0 : Int32))) (hc7 : (cmpValue (FP.dcmp FP.dconst0 FP.dconst1) .g) < (0 : Int32)) (hc8 : (own_mn (p0 &&& (2147483647 : Int32)) (p1 &&& (2147483647 : Int32))) < (own_mx (1 : Int32) (p2 &&& (2147483647 : Int32)))) :
    MetFree l x (head1 (Jvm.Cond.code x code maxLocals ret :: ws) room_1) (fun a U => a = #[(.int p0), (.int p1), (.int p2), (.int p3), (.int p4), (.int p5)] ∧ Z.Warmed39 U.vm ∧ U.heap = h0) (fun _ _ _ _ _ => True) (fun _ U o U' => ∃ v L, o = .returned v ∧ Q0a Z p0 p1 p2 p3 p4 p5 h0 n0 v U'.heap L ∧ FrameEnd U o U' L room_1.cells room_1.slots) := by
  refine MetFree.of_bodySF (plainFor_of_name pn_com_example_headlattice_headlattice_learn_LimitsAllowsConditionPinLaw) hisR ?_
  intro p e s m args below meth c s₁ Bd hml0 hP hK
  obtain ⟨rfl, hZ, hh⟩ := hP
  have hx := Bd.exec
  have hby := Bd.bytes
  have hml : c.maxLocals = 21 := hml0
  have hown : s.vm.findClass "com/example/headlattice/headlattice/learn/LimitsAllowsConditionPinLaw" = some m.cls := findClass_of_methodNamed Bd.named
  have hnm := (name_of_methodNamed Bd.named Bd.method).1
  have X0 : Stand p l e room_1 s m #[(.int p0), (.int p1), (.int p2), (.int p3), (.int p4), (.int p5)] below meth c s₁ [] 0 0 := Stand.of_body Bd
  have e0 : s₁.heap = h0 := by rw [← hh, Bd.state]; rfl
  have N0 := Fr.nil n0
  have pre0 : ∀ t, Steps p.tables e below (s₁.setTop (mkF m 0 #[.val (.int p0), .val (.int p1), .val (.int p2), .val (.int p3), .val (.int p4), .val (.int p5), .unset, .unset, .unset, .unset, .unset, .unset, .unset, .unset, .unset, .unset, .unset, .unset, .unset, .unset, .unset] [])) t → Steps p.tables e below (s₁.setTop (entryFrame m #[(.int p0), (.int p1), (.int p2), (.int p3), (.int p4), (.int p5)] maxLocals)) t := fun t k => castTop (ef_rm0a m p0 p1 p2 p3 p4 p5) k
  obtain ⟨_, _, ⟨T1, L1, k1', n1'⟩, -, X1, ⟨Lc1, hQ1, l1, y1, z1⟩, st1⟩ := Jvm.LawKit.callS X0 hx (y := (⟨"java/lang/Math", "min", "(II)I"⟩ : MethodName)) hown (mvT hZ (w1 hw)) (mvT hZ (w2 hw)) (mvT hZ (w3 hw)) (mvT hZ (w4 hw)) (by decide) (backOf (W := 0) (rmMN l Z az hw [] (p0 &&& (2147483647 : Int32)) (p1 &&& (2147483647 : Int32)) h0 n0 Z0) hZ (w4 hw) (w3 hw) (by decide) (by decide)) (g := (mkF m 16 #[.val (.int p0), .val (.int p1), .val (.int p2), .val (.int p3), .val (.int p4), .val (.int p5), .val (.int (p0 &&& (2147483647 : Int32))), .val (.int (p1 &&& (2147483647 : Int32))), .unset, .unset, .unset, .unset, .unset, .unset, .unset, .unset, .unset, .unset, .unset, .unset, .unset] [(.int (p1 &&& (2147483647 : Int32))), (.int (p0 &&& (2147483647 : Int32)))])) rfl (by rw [hml]; rfl) (argsL := [(.int (p0 &&& (2147483647 : Int32))), (.int (p1 &&& (2147483647 : Int32)))]) (rest := []) (lenOf pd_1 rfl) rfl (by show 2 * 0 + _ ≤ _; exact Nat.le_of_eq rfl) (hb hby at_16) (fun _ _ => ⟨rfl, e0, (by decide : 0 + 0 ≤ _), (by decide : 0 + 0 ≤ _)⟩)
  dsimp only [Pt.U, Pt.locs, Pt.cells, Pt.slots] at X1 l1 y1 z1 st1 hQ1
  subst l1 y1 z1
  obtain ⟨rfl, N1q, e1⟩ := hQ1
  obtain ⟨Lg1, X1', N1⟩ := own_gen X1 (Fr.app N0 N1q)
  obtain ⟨_, _, ⟨T2, L2, k2', n2'⟩, -, X2, ⟨Lc2, hQ2, l2, y2, z2⟩, st2⟩ := Jvm.LawKit.callS X1' hx (y := (⟨"java/lang/Math", "max", "(II)I"⟩ : MethodName)) hown (mvT hZ (w5 hw)) (mvT hZ (w6 hw)) (mvT hZ (w3 hw)) (mvT hZ (w7 hw)) (by decide) (backOf (W := 0) (rmMX l Z az hw [] (p0 &&& (2147483647 : Int32)) (p1 &&& (2147483647 : Int32)) h0 n0 Z0) hZ (w7 hw) (w3 hw) (by decide) (by decide)) (g := (mkF m 25 #[.val (.int p0), .val (.int p1), .val (.int p2), .val (.int p3), .val (.int p4), .val (.int p5), .val (.int (p0 &&& (2147483647 : Int32))), .val (.int (p1 &&& (2147483647 : Int32))), .val (.int (own_mn (p0 &&& (2147483647 : Int32)) (p1 &&& (2147483647 : Int32)))), .unset, .unset, .unset, .unset, .unset, .unset, .unset, .unset, .unset, .unset, .unset, .unset] [(.int (p1 &&& (2147483647 : Int32))), (.int (p0 &&& (2147483647 : Int32)))])) rfl (by rw [hml]; rfl) (argsL := [(.int (p0 &&& (2147483647 : Int32))), (.int (p1 &&& (2147483647 : Int32)))]) (rest := []) (lenOf pd_1 rfl) rfl (by show 2 * 0 + _ ≤ _; exact Nat.le_of_eq rfl) (hb hby at_25) (fun _ _ => ⟨rfl, e1, (by decide : 0 + 0 ≤ _), (by decide : 0 + 0 ≤ _)⟩)
  dsimp only [Pt.U, Pt.locs, Pt.cells, Pt.slots] at X2 l2 y2 z2 st2 hQ2
  subst l2 y2 z2
  obtain ⟨rfl, N2q, e2⟩ := hQ2
  obtain ⟨Lg2, X2', N2⟩ := own_gen X2 (Fr.app N1 N2q)
  obtain ⟨_, _, ⟨T3, L3, k3', n3'⟩, -, X3, ⟨Lc3, hQ3, l3, y3, z3⟩, st3⟩ := Jvm.LawKit.callS X2' hx (y := (⟨"java/lang/Math", "max", "(II)I"⟩ : MethodName)) hown (mvT hZ (w5 hw)) (mvT hZ (w6 hw)) (mvT hZ (w3 hw)) (mvT hZ (w7 hw)) (by decide) (backOf (W := 0) (rmMX l Z az hw [] (1 : Int32) (p2 &&& (2147483647 : Int32)) h0 n0 Z0) hZ (w7 hw) (w3 hw) (by decide) (by decide)) (g := (mkF m 35 #[.val (.int p0), .val (.int p1), .val (.int p2), .val (.int p3), .val (.int p4), .val (.int p5), .val (.int (p0 &&& (2147483647 : Int32))), .val (.int (p1 &&& (2147483647 : Int32))), .val (.int (own_mn (p0 &&& (2147483647 : Int32)) (p1 &&& (2147483647 : Int32)))), .val (.int (own_mx (p0 &&& (2147483647 : Int32)) (p1 &&& (2147483647 : Int32)))), .unset, .unset, .unset, .unset, .unset, .unset, .unset, .unset, .unset, .unset, .unset] [(.int (p2 &&& (2147483647 : Int32))), (.int (1 : Int32))])) rfl (by rw [hml]; rfl) (argsL := [(.int (1 : Int32)), (.int (p2 &&& (2147483647 : Int32)))]) (rest := []) (lenOf pd_1 rfl) rfl (by show 2 * 0 + _ ≤ _; exact Nat.le_of_eq rfl) (hb hby at_35) (fun _ _ => ⟨rfl, e2, (by decide : 0 + 0 ≤ _), (by decide : 0 + 0 ≤ _)⟩)
  dsimp only [Pt.U, Pt.locs, Pt.cells, Pt.slots] at X3 l3 y3 z3 st3 hQ3
  subst l3 y3 z3
  obtain ⟨rfl, N3q, e3⟩ := hQ3
  obtain ⟨Lg3, X3', N3⟩ := own_gen X3 (Fr.app N2 N3q)
  obtain ⟨T4, h4, X4, e4, E4, A4, D4, -, st4⟩ := newO X3' hx hZ hown (w8 hw) (w9 hw) (w10 hw) e3 (g := (mkF m 77 #[.val (.int p0), .val (.int p1), .val (.int p2), .val (.int p3), .val (.int p4), .val (.int p5), .val (.int (p0 &&& (2147483647 : Int32))), .val (.int (p1 &&& (2147483647 : Int32))), .val (.int (own_mn (p0 &&& (2147483647 : Int32)) (p1 &&& (2147483647 : Int32)))), .val (.int (own_mx (p0 &&& (2147483647 : Int32)) (p1 &&& (2147483647 : Int32)))), .val (.int (own_mx (1 : Int32) (p2 &&& (2147483647 : Int32)))), .val (.int (p3 &&& (2147483647 : Int32))), .val (.int ((p5 &&& (1023 : Int32)) + (1 : Int32))), .val (.int ((p4 &&& (2147483647 : Int32)) % (((p5 &&& (1023 : Int32)) + (1 : Int32)) + (1 : Int32)))), .val (.double (FP.ddiv (FP.i2d ((p4 &&& (2147483647 : Int32)) % (((p5 &&& (1023 : Int32)) + (1 : Int32)) + (1 : Int32)))) (FP.i2d ((p5 &&& (1023 : Int32)) + (1 : Int32))))), .second, .unset, .unset, .unset, .unset, .unset] [])) rfl (hb hby at_77) (by decide) (by decide)
  obtain ⟨b4, g4⟩ : ∃ z, z = h0.size := ⟨_, rfl⟩
  rw [← g4] at A4 D4 st4
  have g_b4 : n0 ≤ b4 := Nat.le_trans Z0 (Nat.le_of_eq g4.symm)
  have sz_b4 : h0.size ≤ b4 := Nat.le_trans (Nat.le_refl _) (Nat.le_of_eq g4.symm)
  have Z4 : n0 ≤ h4.size := Nat.le_trans Z0 E4.1
  have K4 : Keep h0 h4 [] := (Keep.refl h0 []).ext E4
  have E_b4 := A4
  have F_minCovered_b4 : Fld Z h4 b4 cLM "minCovered" "I" (.int (0 : Int32)) := D4 (Or.inr (w23 hw)) (ty := .int) (by decide)
  have F_minExcluded_b4 : Fld Z h4 b4 cLM "minExcluded" "I" (.int (0 : Int32)) := D4 (Or.inr (w25 hw)) (ty := .int) (by decide)
  have F_minExcludedShare_b4 : Fld Z h4 b4 cLM "minExcludedShare" "D" (.double (0 : UInt64)) := D4 (Or.inr (w27 hw)) (ty := .double) (by decide)
  have F_minPrecision_b4 : Fld Z h4 b4 cLM "minPrecision" "D" (.double (0 : UInt64)) := D4 (Or.inr (w29 hw)) (ty := .double) (by decide)
  obtain ⟨_, _, ⟨T5, L5, k5', n5'⟩, -, X5, ⟨Lc5, hQ5, l5, y5, z5⟩, st5⟩ := X4.specialBack hx (y := (⟨cLM, "<init>", "(IIDD)V"⟩ : MethodName)) rfl hown (mvT hZ (w11 hw)) (mvT hZ (w12 hw)) (mvT hZ (w13 hw)) (by decide) (backOf (W := 1) (rm3 l Z az hw [] b4 (own_mx (1 : Int32) (p2 &&& (2147483647 : Int32))) (p3 &&& (2147483647 : Int32)) (FP.ddiv (FP.i2d ((p4 &&& (2147483647 : Int32)) % (((p5 &&& (1023 : Int32)) + (1 : Int32)) + (1 : Int32)))) (FP.i2d ((p5 &&& (1023 : Int32)) + (1 : Int32)))) FP.dconst0 h4 n0 Z4 E_b4 F_minCovered_b4 F_minExcluded_b4 F_minExcludedShare_b4 F_minPrecision_b4 hc2 hc3 hc4 hc5 hc6 hc7 g_b4) hZ (w13 hw) (w10 hw) (by decide) (by decide)) (g := (mkF m 88 #[.val (.int p0), .val (.int p1), .val (.int p2), .val (.int p3), .val (.int p4), .val (.int p5), .val (.int (p0 &&& (2147483647 : Int32))), .val (.int (p1 &&& (2147483647 : Int32))), .val (.int (own_mn (p0 &&& (2147483647 : Int32)) (p1 &&& (2147483647 : Int32)))), .val (.int (own_mx (p0 &&& (2147483647 : Int32)) (p1 &&& (2147483647 : Int32)))), .val (.int (own_mx (1 : Int32) (p2 &&& (2147483647 : Int32)))), .val (.int (p3 &&& (2147483647 : Int32))), .val (.int ((p5 &&& (1023 : Int32)) + (1 : Int32))), .val (.int ((p4 &&& (2147483647 : Int32)) % (((p5 &&& (1023 : Int32)) + (1 : Int32)) + (1 : Int32)))), .val (.double (FP.ddiv (FP.i2d ((p4 &&& (2147483647 : Int32)) % (((p5 &&& (1023 : Int32)) + (1 : Int32)) + (1 : Int32)))) (FP.i2d ((p5 &&& (1023 : Int32)) + (1 : Int32))))), .second, .unset, .unset, .unset, .unset, .unset] [(.double FP.dconst0), (.double (FP.ddiv (FP.i2d ((p4 &&& (2147483647 : Int32)) % (((p5 &&& (1023 : Int32)) + (1 : Int32)) + (1 : Int32)))) (FP.i2d ((p5 &&& (1023 : Int32)) + (1 : Int32))))), (.int (p3 &&& (2147483647 : Int32))), (.int (own_mx (1 : Int32) (p2 &&& (2147483647 : Int32)))), (.ref b4), (.ref b4)])) rfl (by rw [hml]; rfl) (Steps.refl _) (a := b4) (argsL := [(.int (own_mx (1 : Int32) (p2 &&& (2147483647 : Int32)))), (.int (p3 &&& (2147483647 : Int32))), (.double (FP.ddiv (FP.i2d ((p4 &&& (2147483647 : Int32)) % (((p5 &&& (1023 : Int32)) + (1 : Int32)) + (1 : Int32)))) (FP.i2d ((p5 &&& (1023 : Int32)) + (1 : Int32))))), (.double FP.dconst0)]) (rest := [(.ref b4)]) (lenOf pd_2 rfl) rfl (by show 2 * 0 + _ ≤ _; exact Nat.le_of_eq rfl) (hb hby at_88) (fun _ _ => ⟨rfl, e4, (by decide : 1 + 0 ≤ _), (by decide : 4 + 0 ≤ _)⟩)
  dsimp only [Pt.U, Pt.locs, Pt.cells, Pt.slots] at X5 l5 y5 z5 st5 hQ5
  subst l5 y5 z5
  obtain ⟨rfl, N5q, kq5, pf5_0, pf5_1, pf5_2, pf5_3, pf5_4⟩ := hQ5
  obtain ⟨Lg5, X5', N5⟩ := own_gen X5 (Fr.app N3 N5q)
  have K5 : Keep h0 T5.heap [] := K4.trans kq5 (allS (Or.inr sz_b4) all0)
  have Z5 : n0 ≤ T5.heap.size := Nat.le_trans Z4 kq5.1
  obtain ⟨cq6, kq6, q6a, q6b, q6c⟩ := isOf hZ rfl pf5_0
  obtain ⟨_, _, ⟨T6, L6, k6', n6'⟩, -, X6, ⟨Lc6, hQ6, l6, y6, z6⟩, st6⟩ := X5'.virtualBack hx (y := (⟨cLM, "allowsCondition", "(II)Z"⟩ : MethodName)) (z := (⟨cLM, "allowsCondition", "(II)Z"⟩ : MethodName)) hown (mvT hZ (w30 hw)) (mvT hZ (w31 hw)) (notFace_of_selects (args := #[]) (mvT hZ (w33 hw))) (mvT hZ (w33 hw)) (mvT hZ (w32 hw)) (by decide) (backOf (W := 0) (rm6a l Z az hw [] b4 (own_mn (p0 &&& (2147483647 : Int32)) (p1 &&& (2147483647 : Int32))) (own_mx (p0 &&& (2147483647 : Int32)) (p1 &&& (2147483647 : Int32))) (own_mx (1 : Int32) (p2 &&& (2147483647 : Int32))) T5.heap n0 Z5 pf5_1 hc8) hZ (w34 hw) (w10 hw) (by decide) (by decide)) q6a q6c (g := (mkF m 99 #[.val (.int p0), .val (.int p1), .val (.int p2), .val (.int p3), .val (.int p4), .val (.int p5), .val (.int (p0 &&& (2147483647 : Int32))), .val (.int (p1 &&& (2147483647 : Int32))), .val (.int (own_mn (p0 &&& (2147483647 : Int32)) (p1 &&& (2147483647 : Int32)))), .val (.int (own_mx (p0 &&& (2147483647 : Int32)) (p1 &&& (2147483647 : Int32)))), .val (.int (own_mx (1 : Int32) (p2 &&& (2147483647 : Int32)))), .val (.int (p3 &&& (2147483647 : Int32))), .val (.int ((p5 &&& (1023 : Int32)) + (1 : Int32))), .val (.int ((p4 &&& (2147483647 : Int32)) % (((p5 &&& (1023 : Int32)) + (1 : Int32)) + (1 : Int32)))), .val (.double (FP.ddiv (FP.i2d ((p4 &&& (2147483647 : Int32)) % (((p5 &&& (1023 : Int32)) + (1 : Int32)) + (1 : Int32)))) (FP.i2d ((p5 &&& (1023 : Int32)) + (1 : Int32))))), .second, .val (.ref b4), .unset, .unset, .unset, .unset] [(.int (own_mx (p0 &&& (2147483647 : Int32)) (p1 &&& (2147483647 : Int32)))), (.int (own_mn (p0 &&& (2147483647 : Int32)) (p1 &&& (2147483647 : Int32)))), (.ref b4)])) rfl (by rw [hml]; rfl) (Steps.refl _) (argsL := [(.int (own_mn (p0 &&& (2147483647 : Int32)) (p1 &&& (2147483647 : Int32)))), (.int (own_mx (p0 &&& (2147483647 : Int32)) (p1 &&& (2147483647 : Int32))))]) (rest := []) (lenOf pd_3 rfl) rfl (by show 2 * 0 + _ ≤ _; exact Nat.le_of_eq rfl) (hb hby at_99) (fun _ _ => ⟨rfl, rfl, (by decide : 1 + 0 ≤ _), (by decide : 4 + 0 ≤ _)⟩)
  dsimp only [Pt.U, Pt.locs, Pt.cells, Pt.slots] at X6 l6 y6 z6 st6 hQ6
  subst l6 y6 z6
  obtain ⟨rfl, N6q, e6⟩ := hQ6
  obtain ⟨Lg6, X6', N6⟩ := own_gen X6 (Fr.app N5 N6q)
  obtain ⟨fs, hr, hrun, hended, hW, hsame⟩ := X6'.leave (v := some (.int (1 : Int32))) (fun h => by rw [Bd.returns] at h; cases h)
  refine ⟨_, _, pre0 _ ?_, hrun, hended, _, _, rfl, ?_, ⟨_, rfl⟩, hW, hsame.mono (by decide) (by decide)⟩
  · show Steps p.tables e below (s₁.setTop (mkF m 0 #[.val (.int p0), .val (.int p1), .val (.int p2), .val (.int p3), .val (.int p4), .val (.int p5), .unset, .unset, .unset, .unset, .unset, .unset, .unset, .unset, .unset, .unset, .unset, .unset, .unset, .unset, .unset] [])) _
    refine XS.iloadN X0.here hx rfl (hb hby at_0) rfl ?_
    show Steps p.tables e below (s₁.setTop (mkF m 1 #[.val (.int p0), .val (.int p1), .val (.int p2), .val (.int p3), .val (.int p4), .val (.int p5), .unset, .unset, .unset, .unset, .unset, .unset, .unset, .unset, .unset, .unset, .unset, .unset, .unset, .unset, .unset] [(.int p0)])) _
    refine X0.ldcInt hx hown (mvT hZ (w0 hw)) (g := (mkF m 1 #[.val (.int p0), .val (.int p1), .val (.int p2), .val (.int p3), .val (.int p4), .val (.int p5), .unset, .unset, .unset, .unset, .unset, .unset, .unset, .unset, .unset, .unset, .unset, .unset, .unset, .unset, .unset] [(.int p0)])) rfl (hb hby at_1) _ ?_
    show Steps p.tables e below (s₁.setTop (mkF m 3 #[.val (.int p0), .val (.int p1), .val (.int p2), .val (.int p3), .val (.int p4), .val (.int p5), .unset, .unset, .unset, .unset, .unset, .unset, .unset, .unset, .unset, .unset, .unset, .unset, .unset, .unset, .unset] [(.int (2147483647 : Int32)), (.int p0)])) _
    refine XS.iand X0.here hx rfl (hb hby at_3) rfl ?_
    refine XS.istore X0.here hx rfl (hb hby at_4) rfl (l' := #[.val (.int p0), .val (.int p1), .val (.int p2), .val (.int p3), .val (.int p4), .val (.int p5), .val (.int (p0 &&& (2147483647 : Int32))), .unset, .unset, .unset, .unset, .unset, .unset, .unset, .unset, .unset, .unset, .unset, .unset, .unset, .unset]) rfl ?_
    refine XS.iloadN X0.here hx rfl (hb hby at_6) rfl ?_
    show Steps p.tables e below (s₁.setTop (mkF m 7 #[.val (.int p0), .val (.int p1), .val (.int p2), .val (.int p3), .val (.int p4), .val (.int p5), .val (.int (p0 &&& (2147483647 : Int32))), .unset, .unset, .unset, .unset, .unset, .unset, .unset, .unset, .unset, .unset, .unset, .unset, .unset, .unset] [(.int p1)])) _
    refine X0.ldcInt hx hown (mvT hZ (w0 hw)) (g := (mkF m 7 #[.val (.int p0), .val (.int p1), .val (.int p2), .val (.int p3), .val (.int p4), .val (.int p5), .val (.int (p0 &&& (2147483647 : Int32))), .unset, .unset, .unset, .unset, .unset, .unset, .unset, .unset, .unset, .unset, .unset, .unset, .unset, .unset] [(.int p1)])) rfl (hb hby at_7) _ ?_
    show Steps p.tables e below (s₁.setTop (mkF m 9 #[.val (.int p0), .val (.int p1), .val (.int p2), .val (.int p3), .val (.int p4), .val (.int p5), .val (.int (p0 &&& (2147483647 : Int32))), .unset, .unset, .unset, .unset, .unset, .unset, .unset, .unset, .unset, .unset, .unset, .unset, .unset, .unset] [(.int (2147483647 : Int32)), (.int p1)])) _
    refine XS.iand X0.here hx rfl (hb hby at_9) rfl ?_
    refine XS.istore X0.here hx rfl (hb hby at_10) rfl (l' := #[.val (.int p0), .val (.int p1), .val (.int p2), .val (.int p3), .val (.int p4), .val (.int p5), .val (.int (p0 &&& (2147483647 : Int32))), .val (.int (p1 &&& (2147483647 : Int32))), .unset, .unset, .unset, .unset, .unset, .unset, .unset, .unset, .unset, .unset, .unset, .unset, .unset]) rfl ?_
    refine XS.iload X0.here hx rfl (hb hby at_12) rfl ?_
    refine XS.iload X0.here hx rfl (hb hby at_14) rfl ?_
    show Steps p.tables e below (s₁.setTop (mkF m 16 #[.val (.int p0), .val (.int p1), .val (.int p2), .val (.int p3), .val (.int p4), .val (.int p5), .val (.int (p0 &&& (2147483647 : Int32))), .val (.int (p1 &&& (2147483647 : Int32))), .unset, .unset, .unset, .unset, .unset, .unset, .unset, .unset, .unset, .unset, .unset, .unset, .unset] [(.int (p1 &&& (2147483647 : Int32))), (.int (p0 &&& (2147483647 : Int32)))])) _
    refine st1 _ ?_
    show Steps p.tables e below (T1.setTop (mkF m 19 #[.val (.int p0), .val (.int p1), .val (.int p2), .val (.int p3), .val (.int p4), .val (.int p5), .val (.int (p0 &&& (2147483647 : Int32))), .val (.int (p1 &&& (2147483647 : Int32))), .unset, .unset, .unset, .unset, .unset, .unset, .unset, .unset, .unset, .unset, .unset, .unset, .unset] [(.int (own_mn (p0 &&& (2147483647 : Int32)) (p1 &&& (2147483647 : Int32))))])) _
    refine XS.istore X1'.here hx rfl (hb hby at_19) rfl (l' := #[.val (.int p0), .val (.int p1), .val (.int p2), .val (.int p3), .val (.int p4), .val (.int p5), .val (.int (p0 &&& (2147483647 : Int32))), .val (.int (p1 &&& (2147483647 : Int32))), .val (.int (own_mn (p0 &&& (2147483647 : Int32)) (p1 &&& (2147483647 : Int32)))), .unset, .unset, .unset, .unset, .unset, .unset, .unset, .unset, .unset, .unset, .unset, .unset]) rfl ?_
    refine XS.iload X1'.here hx rfl (hb hby at_21) rfl ?_
    refine XS.iload X1'.here hx rfl (hb hby at_23) rfl ?_
    show Steps p.tables e below (T1.setTop (mkF m 25 #[.val (.int p0), .val (.int p1), .val (.int p2), .val (.int p3), .val (.int p4), .val (.int p5), .val (.int (p0 &&& (2147483647 : Int32))), .val (.int (p1 &&& (2147483647 : Int32))), .val (.int (own_mn (p0 &&& (2147483647 : Int32)) (p1 &&& (2147483647 : Int32)))), .unset, .unset, .unset, .unset, .unset, .unset, .unset, .unset, .unset, .unset, .unset, .unset] [(.int (p1 &&& (2147483647 : Int32))), (.int (p0 &&& (2147483647 : Int32)))])) _
    refine st2 _ ?_
    show Steps p.tables e below (T2.setTop (mkF m 28 #[.val (.int p0), .val (.int p1), .val (.int p2), .val (.int p3), .val (.int p4), .val (.int p5), .val (.int (p0 &&& (2147483647 : Int32))), .val (.int (p1 &&& (2147483647 : Int32))), .val (.int (own_mn (p0 &&& (2147483647 : Int32)) (p1 &&& (2147483647 : Int32)))), .unset, .unset, .unset, .unset, .unset, .unset, .unset, .unset, .unset, .unset, .unset, .unset] [(.int (own_mx (p0 &&& (2147483647 : Int32)) (p1 &&& (2147483647 : Int32))))])) _
    refine XS.istore X2'.here hx rfl (hb hby at_28) rfl (l' := #[.val (.int p0), .val (.int p1), .val (.int p2), .val (.int p3), .val (.int p4), .val (.int p5), .val (.int (p0 &&& (2147483647 : Int32))), .val (.int (p1 &&& (2147483647 : Int32))), .val (.int (own_mn (p0 &&& (2147483647 : Int32)) (p1 &&& (2147483647 : Int32)))), .val (.int (own_mx (p0 &&& (2147483647 : Int32)) (p1 &&& (2147483647 : Int32)))), .unset, .unset, .unset, .unset, .unset, .unset, .unset, .unset, .unset, .unset, .unset]) rfl ?_
    refine XS.iconst X2'.here hx rfl (hb hby at_30) ?_
    refine XS.iloadN X2'.here hx rfl (hb hby at_31) rfl ?_
    show Steps p.tables e below (T2.setTop (mkF m 32 #[.val (.int p0), .val (.int p1), .val (.int p2), .val (.int p3), .val (.int p4), .val (.int p5), .val (.int (p0 &&& (2147483647 : Int32))), .val (.int (p1 &&& (2147483647 : Int32))), .val (.int (own_mn (p0 &&& (2147483647 : Int32)) (p1 &&& (2147483647 : Int32)))), .val (.int (own_mx (p0 &&& (2147483647 : Int32)) (p1 &&& (2147483647 : Int32)))), .unset, .unset, .unset, .unset, .unset, .unset, .unset, .unset, .unset, .unset, .unset] [(.int p2), (.int (1 : Int32))])) _
    refine X2'.ldcInt hx hown (mvT hZ (w0 hw)) (g := (mkF m 32 #[.val (.int p0), .val (.int p1), .val (.int p2), .val (.int p3), .val (.int p4), .val (.int p5), .val (.int (p0 &&& (2147483647 : Int32))), .val (.int (p1 &&& (2147483647 : Int32))), .val (.int (own_mn (p0 &&& (2147483647 : Int32)) (p1 &&& (2147483647 : Int32)))), .val (.int (own_mx (p0 &&& (2147483647 : Int32)) (p1 &&& (2147483647 : Int32)))), .unset, .unset, .unset, .unset, .unset, .unset, .unset, .unset, .unset, .unset, .unset] [(.int p2), (.int (1 : Int32))])) rfl (hb hby at_32) _ ?_
    show Steps p.tables e below (T2.setTop (mkF m 34 #[.val (.int p0), .val (.int p1), .val (.int p2), .val (.int p3), .val (.int p4), .val (.int p5), .val (.int (p0 &&& (2147483647 : Int32))), .val (.int (p1 &&& (2147483647 : Int32))), .val (.int (own_mn (p0 &&& (2147483647 : Int32)) (p1 &&& (2147483647 : Int32)))), .val (.int (own_mx (p0 &&& (2147483647 : Int32)) (p1 &&& (2147483647 : Int32)))), .unset, .unset, .unset, .unset, .unset, .unset, .unset, .unset, .unset, .unset, .unset] [(.int (2147483647 : Int32)), (.int p2), (.int (1 : Int32))])) _
    refine XS.iand X2'.here hx rfl (hb hby at_34) rfl ?_
    show Steps p.tables e below (T2.setTop (mkF m 35 #[.val (.int p0), .val (.int p1), .val (.int p2), .val (.int p3), .val (.int p4), .val (.int p5), .val (.int (p0 &&& (2147483647 : Int32))), .val (.int (p1 &&& (2147483647 : Int32))), .val (.int (own_mn (p0 &&& (2147483647 : Int32)) (p1 &&& (2147483647 : Int32)))), .val (.int (own_mx (p0 &&& (2147483647 : Int32)) (p1 &&& (2147483647 : Int32)))), .unset, .unset, .unset, .unset, .unset, .unset, .unset, .unset, .unset, .unset, .unset] [(.int (p2 &&& (2147483647 : Int32))), (.int (1 : Int32))])) _
    refine st3 _ ?_
    show Steps p.tables e below (T3.setTop (mkF m 38 #[.val (.int p0), .val (.int p1), .val (.int p2), .val (.int p3), .val (.int p4), .val (.int p5), .val (.int (p0 &&& (2147483647 : Int32))), .val (.int (p1 &&& (2147483647 : Int32))), .val (.int (own_mn (p0 &&& (2147483647 : Int32)) (p1 &&& (2147483647 : Int32)))), .val (.int (own_mx (p0 &&& (2147483647 : Int32)) (p1 &&& (2147483647 : Int32)))), .unset, .unset, .unset, .unset, .unset, .unset, .unset, .unset, .unset, .unset, .unset] [(.int (own_mx (1 : Int32) (p2 &&& (2147483647 : Int32))))])) _
    refine XS.istore X3'.here hx rfl (hb hby at_38) rfl (l' := #[.val (.int p0), .val (.int p1), .val (.int p2), .val (.int p3), .val (.int p4), .val (.int p5), .val (.int (p0 &&& (2147483647 : Int32))), .val (.int (p1 &&& (2147483647 : Int32))), .val (.int (own_mn (p0 &&& (2147483647 : Int32)) (p1 &&& (2147483647 : Int32)))), .val (.int (own_mx (p0 &&& (2147483647 : Int32)) (p1 &&& (2147483647 : Int32)))), .val (.int (own_mx (1 : Int32) (p2 &&& (2147483647 : Int32)))), .unset, .unset, .unset, .unset, .unset, .unset, .unset, .unset, .unset, .unset]) rfl ?_
    refine XS.iloadN X3'.here hx rfl (hb hby at_40) rfl ?_
    show Steps p.tables e below (T3.setTop (mkF m 41 #[.val (.int p0), .val (.int p1), .val (.int p2), .val (.int p3), .val (.int p4), .val (.int p5), .val (.int (p0 &&& (2147483647 : Int32))), .val (.int (p1 &&& (2147483647 : Int32))), .val (.int (own_mn (p0 &&& (2147483647 : Int32)) (p1 &&& (2147483647 : Int32)))), .val (.int (own_mx (p0 &&& (2147483647 : Int32)) (p1 &&& (2147483647 : Int32)))), .val (.int (own_mx (1 : Int32) (p2 &&& (2147483647 : Int32)))), .unset, .unset, .unset, .unset, .unset, .unset, .unset, .unset, .unset, .unset] [(.int p3)])) _
    refine X3'.ldcInt hx hown (mvT hZ (w0 hw)) (g := (mkF m 41 #[.val (.int p0), .val (.int p1), .val (.int p2), .val (.int p3), .val (.int p4), .val (.int p5), .val (.int (p0 &&& (2147483647 : Int32))), .val (.int (p1 &&& (2147483647 : Int32))), .val (.int (own_mn (p0 &&& (2147483647 : Int32)) (p1 &&& (2147483647 : Int32)))), .val (.int (own_mx (p0 &&& (2147483647 : Int32)) (p1 &&& (2147483647 : Int32)))), .val (.int (own_mx (1 : Int32) (p2 &&& (2147483647 : Int32)))), .unset, .unset, .unset, .unset, .unset, .unset, .unset, .unset, .unset, .unset] [(.int p3)])) rfl (hb hby at_41) _ ?_
    show Steps p.tables e below (T3.setTop (mkF m 43 #[.val (.int p0), .val (.int p1), .val (.int p2), .val (.int p3), .val (.int p4), .val (.int p5), .val (.int (p0 &&& (2147483647 : Int32))), .val (.int (p1 &&& (2147483647 : Int32))), .val (.int (own_mn (p0 &&& (2147483647 : Int32)) (p1 &&& (2147483647 : Int32)))), .val (.int (own_mx (p0 &&& (2147483647 : Int32)) (p1 &&& (2147483647 : Int32)))), .val (.int (own_mx (1 : Int32) (p2 &&& (2147483647 : Int32)))), .unset, .unset, .unset, .unset, .unset, .unset, .unset, .unset, .unset, .unset] [(.int (2147483647 : Int32)), (.int p3)])) _
    refine XS.iand X3'.here hx rfl (hb hby at_43) rfl ?_
    refine XS.istore X3'.here hx rfl (hb hby at_44) rfl (l' := #[.val (.int p0), .val (.int p1), .val (.int p2), .val (.int p3), .val (.int p4), .val (.int p5), .val (.int (p0 &&& (2147483647 : Int32))), .val (.int (p1 &&& (2147483647 : Int32))), .val (.int (own_mn (p0 &&& (2147483647 : Int32)) (p1 &&& (2147483647 : Int32)))), .val (.int (own_mx (p0 &&& (2147483647 : Int32)) (p1 &&& (2147483647 : Int32)))), .val (.int (own_mx (1 : Int32) (p2 &&& (2147483647 : Int32)))), .val (.int (p3 &&& (2147483647 : Int32))), .unset, .unset, .unset, .unset, .unset, .unset, .unset, .unset, .unset]) rfl ?_
    refine XS.iload X3'.here hx rfl (hb hby at_46) rfl ?_
    refine XS.sipush X3'.here hx rfl (hb hby at_48) ?_
    refine XS.iand X3'.here hx rfl (hb hby at_51) rfl ?_
    refine XS.iconst X3'.here hx rfl (hb hby at_52) ?_
    refine XS.iadd X3'.here hx rfl (hb hby at_53) rfl ?_
    refine XS.istore X3'.here hx rfl (hb hby at_54) rfl (l' := #[.val (.int p0), .val (.int p1), .val (.int p2), .val (.int p3), .val (.int p4), .val (.int p5), .val (.int (p0 &&& (2147483647 : Int32))), .val (.int (p1 &&& (2147483647 : Int32))), .val (.int (own_mn (p0 &&& (2147483647 : Int32)) (p1 &&& (2147483647 : Int32)))), .val (.int (own_mx (p0 &&& (2147483647 : Int32)) (p1 &&& (2147483647 : Int32)))), .val (.int (own_mx (1 : Int32) (p2 &&& (2147483647 : Int32)))), .val (.int (p3 &&& (2147483647 : Int32))), .val (.int ((p5 &&& (1023 : Int32)) + (1 : Int32))), .unset, .unset, .unset, .unset, .unset, .unset, .unset, .unset]) rfl ?_
    refine XS.iload X3'.here hx rfl (hb hby at_56) rfl ?_
    show Steps p.tables e below (T3.setTop (mkF m 58 #[.val (.int p0), .val (.int p1), .val (.int p2), .val (.int p3), .val (.int p4), .val (.int p5), .val (.int (p0 &&& (2147483647 : Int32))), .val (.int (p1 &&& (2147483647 : Int32))), .val (.int (own_mn (p0 &&& (2147483647 : Int32)) (p1 &&& (2147483647 : Int32)))), .val (.int (own_mx (p0 &&& (2147483647 : Int32)) (p1 &&& (2147483647 : Int32)))), .val (.int (own_mx (1 : Int32) (p2 &&& (2147483647 : Int32)))), .val (.int (p3 &&& (2147483647 : Int32))), .val (.int ((p5 &&& (1023 : Int32)) + (1 : Int32))), .unset, .unset, .unset, .unset, .unset, .unset, .unset, .unset] [(.int p4)])) _
    refine X3'.ldcInt hx hown (mvT hZ (w0 hw)) (g := (mkF m 58 #[.val (.int p0), .val (.int p1), .val (.int p2), .val (.int p3), .val (.int p4), .val (.int p5), .val (.int (p0 &&& (2147483647 : Int32))), .val (.int (p1 &&& (2147483647 : Int32))), .val (.int (own_mn (p0 &&& (2147483647 : Int32)) (p1 &&& (2147483647 : Int32)))), .val (.int (own_mx (p0 &&& (2147483647 : Int32)) (p1 &&& (2147483647 : Int32)))), .val (.int (own_mx (1 : Int32) (p2 &&& (2147483647 : Int32)))), .val (.int (p3 &&& (2147483647 : Int32))), .val (.int ((p5 &&& (1023 : Int32)) + (1 : Int32))), .unset, .unset, .unset, .unset, .unset, .unset, .unset, .unset] [(.int p4)])) rfl (hb hby at_58) _ ?_
    show Steps p.tables e below (T3.setTop (mkF m 60 #[.val (.int p0), .val (.int p1), .val (.int p2), .val (.int p3), .val (.int p4), .val (.int p5), .val (.int (p0 &&& (2147483647 : Int32))), .val (.int (p1 &&& (2147483647 : Int32))), .val (.int (own_mn (p0 &&& (2147483647 : Int32)) (p1 &&& (2147483647 : Int32)))), .val (.int (own_mx (p0 &&& (2147483647 : Int32)) (p1 &&& (2147483647 : Int32)))), .val (.int (own_mx (1 : Int32) (p2 &&& (2147483647 : Int32)))), .val (.int (p3 &&& (2147483647 : Int32))), .val (.int ((p5 &&& (1023 : Int32)) + (1 : Int32))), .unset, .unset, .unset, .unset, .unset, .unset, .unset, .unset] [(.int (2147483647 : Int32)), (.int p4)])) _
    refine XS.iand X3'.here hx rfl (hb hby at_60) rfl ?_
    refine XS.iload X3'.here hx rfl (hb hby at_61) rfl ?_
    refine XS.iconst X3'.here hx rfl (hb hby at_63) ?_
    refine XS.iadd X3'.here hx rfl (hb hby at_64) rfl ?_
    show Steps p.tables e below (T3.setTop (mkF m 65 #[.val (.int p0), .val (.int p1), .val (.int p2), .val (.int p3), .val (.int p4), .val (.int p5), .val (.int (p0 &&& (2147483647 : Int32))), .val (.int (p1 &&& (2147483647 : Int32))), .val (.int (own_mn (p0 &&& (2147483647 : Int32)) (p1 &&& (2147483647 : Int32)))), .val (.int (own_mx (p0 &&& (2147483647 : Int32)) (p1 &&& (2147483647 : Int32)))), .val (.int (own_mx (1 : Int32) (p2 &&& (2147483647 : Int32)))), .val (.int (p3 &&& (2147483647 : Int32))), .val (.int ((p5 &&& (1023 : Int32)) + (1 : Int32))), .unset, .unset, .unset, .unset, .unset, .unset, .unset, .unset] [(.int (((p5 &&& (1023 : Int32)) + (1 : Int32)) + (1 : Int32))), (.int (p4 &&& (2147483647 : Int32)))])) _
    refine iremM X3' hx rfl (hb hby at_65) rfl hc0 ?_
    show Steps p.tables e below (T3.setTop (mkF m 66 #[.val (.int p0), .val (.int p1), .val (.int p2), .val (.int p3), .val (.int p4), .val (.int p5), .val (.int (p0 &&& (2147483647 : Int32))), .val (.int (p1 &&& (2147483647 : Int32))), .val (.int (own_mn (p0 &&& (2147483647 : Int32)) (p1 &&& (2147483647 : Int32)))), .val (.int (own_mx (p0 &&& (2147483647 : Int32)) (p1 &&& (2147483647 : Int32)))), .val (.int (own_mx (1 : Int32) (p2 &&& (2147483647 : Int32)))), .val (.int (p3 &&& (2147483647 : Int32))), .val (.int ((p5 &&& (1023 : Int32)) + (1 : Int32))), .unset, .unset, .unset, .unset, .unset, .unset, .unset, .unset] [(.int ((p4 &&& (2147483647 : Int32)) % (((p5 &&& (1023 : Int32)) + (1 : Int32)) + (1 : Int32))))])) _
    refine XS.istore X3'.here hx rfl (hb hby at_66) rfl (l' := #[.val (.int p0), .val (.int p1), .val (.int p2), .val (.int p3), .val (.int p4), .val (.int p5), .val (.int (p0 &&& (2147483647 : Int32))), .val (.int (p1 &&& (2147483647 : Int32))), .val (.int (own_mn (p0 &&& (2147483647 : Int32)) (p1 &&& (2147483647 : Int32)))), .val (.int (own_mx (p0 &&& (2147483647 : Int32)) (p1 &&& (2147483647 : Int32)))), .val (.int (own_mx (1 : Int32) (p2 &&& (2147483647 : Int32)))), .val (.int (p3 &&& (2147483647 : Int32))), .val (.int ((p5 &&& (1023 : Int32)) + (1 : Int32))), .val (.int ((p4 &&& (2147483647 : Int32)) % (((p5 &&& (1023 : Int32)) + (1 : Int32)) + (1 : Int32)))), .unset, .unset, .unset, .unset, .unset, .unset, .unset]) rfl ?_
    refine XS.iload X3'.here hx rfl (hb hby at_68) rfl ?_
    show Steps p.tables e below (T3.setTop (mkF m 70 #[.val (.int p0), .val (.int p1), .val (.int p2), .val (.int p3), .val (.int p4), .val (.int p5), .val (.int (p0 &&& (2147483647 : Int32))), .val (.int (p1 &&& (2147483647 : Int32))), .val (.int (own_mn (p0 &&& (2147483647 : Int32)) (p1 &&& (2147483647 : Int32)))), .val (.int (own_mx (p0 &&& (2147483647 : Int32)) (p1 &&& (2147483647 : Int32)))), .val (.int (own_mx (1 : Int32) (p2 &&& (2147483647 : Int32)))), .val (.int (p3 &&& (2147483647 : Int32))), .val (.int ((p5 &&& (1023 : Int32)) + (1 : Int32))), .val (.int ((p4 &&& (2147483647 : Int32)) % (((p5 &&& (1023 : Int32)) + (1 : Int32)) + (1 : Int32)))), .unset, .unset, .unset, .unset, .unset, .unset, .unset] [(.int ((p4 &&& (2147483647 : Int32)) % (((p5 &&& (1023 : Int32)) + (1 : Int32)) + (1 : Int32))))])) _
    refine XS.i2dS X3'.here hx rfl (hb hby at_70) rfl rfl ?_
    refine XS.iload X3'.here hx rfl (hb hby at_71) rfl ?_
    show Steps p.tables e below (T3.setTop (mkF m 73 #[.val (.int p0), .val (.int p1), .val (.int p2), .val (.int p3), .val (.int p4), .val (.int p5), .val (.int (p0 &&& (2147483647 : Int32))), .val (.int (p1 &&& (2147483647 : Int32))), .val (.int (own_mn (p0 &&& (2147483647 : Int32)) (p1 &&& (2147483647 : Int32)))), .val (.int (own_mx (p0 &&& (2147483647 : Int32)) (p1 &&& (2147483647 : Int32)))), .val (.int (own_mx (1 : Int32) (p2 &&& (2147483647 : Int32)))), .val (.int (p3 &&& (2147483647 : Int32))), .val (.int ((p5 &&& (1023 : Int32)) + (1 : Int32))), .val (.int ((p4 &&& (2147483647 : Int32)) % (((p5 &&& (1023 : Int32)) + (1 : Int32)) + (1 : Int32)))), .unset, .unset, .unset, .unset, .unset, .unset, .unset] [(.int ((p5 &&& (1023 : Int32)) + (1 : Int32))), (.double (FP.i2d ((p4 &&& (2147483647 : Int32)) % (((p5 &&& (1023 : Int32)) + (1 : Int32)) + (1 : Int32)))))])) _
    refine XS.i2dS X3'.here hx rfl (hb hby at_73) rfl rfl ?_
    show Steps p.tables e below (T3.setTop (mkF m 74 #[.val (.int p0), .val (.int p1), .val (.int p2), .val (.int p3), .val (.int p4), .val (.int p5), .val (.int (p0 &&& (2147483647 : Int32))), .val (.int (p1 &&& (2147483647 : Int32))), .val (.int (own_mn (p0 &&& (2147483647 : Int32)) (p1 &&& (2147483647 : Int32)))), .val (.int (own_mx (p0 &&& (2147483647 : Int32)) (p1 &&& (2147483647 : Int32)))), .val (.int (own_mx (1 : Int32) (p2 &&& (2147483647 : Int32)))), .val (.int (p3 &&& (2147483647 : Int32))), .val (.int ((p5 &&& (1023 : Int32)) + (1 : Int32))), .val (.int ((p4 &&& (2147483647 : Int32)) % (((p5 &&& (1023 : Int32)) + (1 : Int32)) + (1 : Int32)))), .unset, .unset, .unset, .unset, .unset, .unset, .unset] [(.double (FP.i2d ((p5 &&& (1023 : Int32)) + (1 : Int32)))), (.double (FP.i2d ((p4 &&& (2147483647 : Int32)) % (((p5 &&& (1023 : Int32)) + (1 : Int32)) + (1 : Int32)))))])) _
    refine XS.ddivS X3'.here hx rfl (hb hby at_74) rfl hc1 rfl ?_
    show Steps p.tables e below (T3.setTop (mkF m 75 #[.val (.int p0), .val (.int p1), .val (.int p2), .val (.int p3), .val (.int p4), .val (.int p5), .val (.int (p0 &&& (2147483647 : Int32))), .val (.int (p1 &&& (2147483647 : Int32))), .val (.int (own_mn (p0 &&& (2147483647 : Int32)) (p1 &&& (2147483647 : Int32)))), .val (.int (own_mx (p0 &&& (2147483647 : Int32)) (p1 &&& (2147483647 : Int32)))), .val (.int (own_mx (1 : Int32) (p2 &&& (2147483647 : Int32)))), .val (.int (p3 &&& (2147483647 : Int32))), .val (.int ((p5 &&& (1023 : Int32)) + (1 : Int32))), .val (.int ((p4 &&& (2147483647 : Int32)) % (((p5 &&& (1023 : Int32)) + (1 : Int32)) + (1 : Int32)))), .unset, .unset, .unset, .unset, .unset, .unset, .unset] [(.double (FP.ddiv (FP.i2d ((p4 &&& (2147483647 : Int32)) % (((p5 &&& (1023 : Int32)) + (1 : Int32)) + (1 : Int32)))) (FP.i2d ((p5 &&& (1023 : Int32)) + (1 : Int32)))))])) _
    refine XS.dstore X3'.here hx rfl (hb hby at_75) rfl (l' := #[.val (.int p0), .val (.int p1), .val (.int p2), .val (.int p3), .val (.int p4), .val (.int p5), .val (.int (p0 &&& (2147483647 : Int32))), .val (.int (p1 &&& (2147483647 : Int32))), .val (.int (own_mn (p0 &&& (2147483647 : Int32)) (p1 &&& (2147483647 : Int32)))), .val (.int (own_mx (p0 &&& (2147483647 : Int32)) (p1 &&& (2147483647 : Int32)))), .val (.int (own_mx (1 : Int32) (p2 &&& (2147483647 : Int32)))), .val (.int (p3 &&& (2147483647 : Int32))), .val (.int ((p5 &&& (1023 : Int32)) + (1 : Int32))), .val (.int ((p4 &&& (2147483647 : Int32)) % (((p5 &&& (1023 : Int32)) + (1 : Int32)) + (1 : Int32)))), .val (.double (FP.ddiv (FP.i2d ((p4 &&& (2147483647 : Int32)) % (((p5 &&& (1023 : Int32)) + (1 : Int32)) + (1 : Int32)))) (FP.i2d ((p5 &&& (1023 : Int32)) + (1 : Int32))))), .second, .unset, .unset, .unset, .unset, .unset]) rfl ?_
    show Steps p.tables e below (T3.setTop (mkF m 77 #[.val (.int p0), .val (.int p1), .val (.int p2), .val (.int p3), .val (.int p4), .val (.int p5), .val (.int (p0 &&& (2147483647 : Int32))), .val (.int (p1 &&& (2147483647 : Int32))), .val (.int (own_mn (p0 &&& (2147483647 : Int32)) (p1 &&& (2147483647 : Int32)))), .val (.int (own_mx (p0 &&& (2147483647 : Int32)) (p1 &&& (2147483647 : Int32)))), .val (.int (own_mx (1 : Int32) (p2 &&& (2147483647 : Int32)))), .val (.int (p3 &&& (2147483647 : Int32))), .val (.int ((p5 &&& (1023 : Int32)) + (1 : Int32))), .val (.int ((p4 &&& (2147483647 : Int32)) % (((p5 &&& (1023 : Int32)) + (1 : Int32)) + (1 : Int32)))), .val (.double (FP.ddiv (FP.i2d ((p4 &&& (2147483647 : Int32)) % (((p5 &&& (1023 : Int32)) + (1 : Int32)) + (1 : Int32)))) (FP.i2d ((p5 &&& (1023 : Int32)) + (1 : Int32))))), .second, .unset, .unset, .unset, .unset, .unset] [])) _
    refine st4 _ ?_
    show Steps p.tables e below (T4.setTop (mkF m 80 #[.val (.int p0), .val (.int p1), .val (.int p2), .val (.int p3), .val (.int p4), .val (.int p5), .val (.int (p0 &&& (2147483647 : Int32))), .val (.int (p1 &&& (2147483647 : Int32))), .val (.int (own_mn (p0 &&& (2147483647 : Int32)) (p1 &&& (2147483647 : Int32)))), .val (.int (own_mx (p0 &&& (2147483647 : Int32)) (p1 &&& (2147483647 : Int32)))), .val (.int (own_mx (1 : Int32) (p2 &&& (2147483647 : Int32)))), .val (.int (p3 &&& (2147483647 : Int32))), .val (.int ((p5 &&& (1023 : Int32)) + (1 : Int32))), .val (.int ((p4 &&& (2147483647 : Int32)) % (((p5 &&& (1023 : Int32)) + (1 : Int32)) + (1 : Int32)))), .val (.double (FP.ddiv (FP.i2d ((p4 &&& (2147483647 : Int32)) % (((p5 &&& (1023 : Int32)) + (1 : Int32)) + (1 : Int32)))) (FP.i2d ((p5 &&& (1023 : Int32)) + (1 : Int32))))), .second, .unset, .unset, .unset, .unset, .unset] [(.ref b4)])) _
    refine XS.dup X4.here hx rfl (hb hby at_80) rfl rfl ?_
    refine XS.iload X4.here hx rfl (hb hby at_81) rfl ?_
    refine XS.iload X4.here hx rfl (hb hby at_83) rfl ?_
    show Steps p.tables e below (T4.setTop (mkF m 85 #[.val (.int p0), .val (.int p1), .val (.int p2), .val (.int p3), .val (.int p4), .val (.int p5), .val (.int (p0 &&& (2147483647 : Int32))), .val (.int (p1 &&& (2147483647 : Int32))), .val (.int (own_mn (p0 &&& (2147483647 : Int32)) (p1 &&& (2147483647 : Int32)))), .val (.int (own_mx (p0 &&& (2147483647 : Int32)) (p1 &&& (2147483647 : Int32)))), .val (.int (own_mx (1 : Int32) (p2 &&& (2147483647 : Int32)))), .val (.int (p3 &&& (2147483647 : Int32))), .val (.int ((p5 &&& (1023 : Int32)) + (1 : Int32))), .val (.int ((p4 &&& (2147483647 : Int32)) % (((p5 &&& (1023 : Int32)) + (1 : Int32)) + (1 : Int32)))), .val (.double (FP.ddiv (FP.i2d ((p4 &&& (2147483647 : Int32)) % (((p5 &&& (1023 : Int32)) + (1 : Int32)) + (1 : Int32)))) (FP.i2d ((p5 &&& (1023 : Int32)) + (1 : Int32))))), .second, .unset, .unset, .unset, .unset, .unset] [(.int (p3 &&& (2147483647 : Int32))), (.int (own_mx (1 : Int32) (p2 &&& (2147483647 : Int32)))), (.ref b4), (.ref b4)])) _
    refine XS.dload X4.here hx rfl (hb hby at_85) rfl ?_
    show Steps p.tables e below (T4.setTop (mkF m 87 #[.val (.int p0), .val (.int p1), .val (.int p2), .val (.int p3), .val (.int p4), .val (.int p5), .val (.int (p0 &&& (2147483647 : Int32))), .val (.int (p1 &&& (2147483647 : Int32))), .val (.int (own_mn (p0 &&& (2147483647 : Int32)) (p1 &&& (2147483647 : Int32)))), .val (.int (own_mx (p0 &&& (2147483647 : Int32)) (p1 &&& (2147483647 : Int32)))), .val (.int (own_mx (1 : Int32) (p2 &&& (2147483647 : Int32)))), .val (.int (p3 &&& (2147483647 : Int32))), .val (.int ((p5 &&& (1023 : Int32)) + (1 : Int32))), .val (.int ((p4 &&& (2147483647 : Int32)) % (((p5 &&& (1023 : Int32)) + (1 : Int32)) + (1 : Int32)))), .val (.double (FP.ddiv (FP.i2d ((p4 &&& (2147483647 : Int32)) % (((p5 &&& (1023 : Int32)) + (1 : Int32)) + (1 : Int32)))) (FP.i2d ((p5 &&& (1023 : Int32)) + (1 : Int32))))), .second, .unset, .unset, .unset, .unset, .unset] [(.double (FP.ddiv (FP.i2d ((p4 &&& (2147483647 : Int32)) % (((p5 &&& (1023 : Int32)) + (1 : Int32)) + (1 : Int32)))) (FP.i2d ((p5 &&& (1023 : Int32)) + (1 : Int32))))), (.int (p3 &&& (2147483647 : Int32))), (.int (own_mx (1 : Int32) (p2 &&& (2147483647 : Int32)))), (.ref b4), (.ref b4)])) _
    refine XS.dconst0 X4.here hx rfl (hb hby at_87) rfl ?_
    show Steps p.tables e below (T4.setTop (mkF m 88 #[.val (.int p0), .val (.int p1), .val (.int p2), .val (.int p3), .val (.int p4), .val (.int p5), .val (.int (p0 &&& (2147483647 : Int32))), .val (.int (p1 &&& (2147483647 : Int32))), .val (.int (own_mn (p0 &&& (2147483647 : Int32)) (p1 &&& (2147483647 : Int32)))), .val (.int (own_mx (p0 &&& (2147483647 : Int32)) (p1 &&& (2147483647 : Int32)))), .val (.int (own_mx (1 : Int32) (p2 &&& (2147483647 : Int32)))), .val (.int (p3 &&& (2147483647 : Int32))), .val (.int ((p5 &&& (1023 : Int32)) + (1 : Int32))), .val (.int ((p4 &&& (2147483647 : Int32)) % (((p5 &&& (1023 : Int32)) + (1 : Int32)) + (1 : Int32)))), .val (.double (FP.ddiv (FP.i2d ((p4 &&& (2147483647 : Int32)) % (((p5 &&& (1023 : Int32)) + (1 : Int32)) + (1 : Int32)))) (FP.i2d ((p5 &&& (1023 : Int32)) + (1 : Int32))))), .second, .unset, .unset, .unset, .unset, .unset] [(.double FP.dconst0), (.double (FP.ddiv (FP.i2d ((p4 &&& (2147483647 : Int32)) % (((p5 &&& (1023 : Int32)) + (1 : Int32)) + (1 : Int32)))) (FP.i2d ((p5 &&& (1023 : Int32)) + (1 : Int32))))), (.int (p3 &&& (2147483647 : Int32))), (.int (own_mx (1 : Int32) (p2 &&& (2147483647 : Int32)))), (.ref b4), (.ref b4)])) _
    refine st5.trans ?_
    show Steps p.tables e below (T5.setTop (mkF m 91 #[.val (.int p0), .val (.int p1), .val (.int p2), .val (.int p3), .val (.int p4), .val (.int p5), .val (.int (p0 &&& (2147483647 : Int32))), .val (.int (p1 &&& (2147483647 : Int32))), .val (.int (own_mn (p0 &&& (2147483647 : Int32)) (p1 &&& (2147483647 : Int32)))), .val (.int (own_mx (p0 &&& (2147483647 : Int32)) (p1 &&& (2147483647 : Int32)))), .val (.int (own_mx (1 : Int32) (p2 &&& (2147483647 : Int32)))), .val (.int (p3 &&& (2147483647 : Int32))), .val (.int ((p5 &&& (1023 : Int32)) + (1 : Int32))), .val (.int ((p4 &&& (2147483647 : Int32)) % (((p5 &&& (1023 : Int32)) + (1 : Int32)) + (1 : Int32)))), .val (.double (FP.ddiv (FP.i2d ((p4 &&& (2147483647 : Int32)) % (((p5 &&& (1023 : Int32)) + (1 : Int32)) + (1 : Int32)))) (FP.i2d ((p5 &&& (1023 : Int32)) + (1 : Int32))))), .second, .unset, .unset, .unset, .unset, .unset] [(.ref b4)])) _
    refine XS.astore X5'.here hx rfl (hb hby at_91) rfl rfl (l' := #[.val (.int p0), .val (.int p1), .val (.int p2), .val (.int p3), .val (.int p4), .val (.int p5), .val (.int (p0 &&& (2147483647 : Int32))), .val (.int (p1 &&& (2147483647 : Int32))), .val (.int (own_mn (p0 &&& (2147483647 : Int32)) (p1 &&& (2147483647 : Int32)))), .val (.int (own_mx (p0 &&& (2147483647 : Int32)) (p1 &&& (2147483647 : Int32)))), .val (.int (own_mx (1 : Int32) (p2 &&& (2147483647 : Int32)))), .val (.int (p3 &&& (2147483647 : Int32))), .val (.int ((p5 &&& (1023 : Int32)) + (1 : Int32))), .val (.int ((p4 &&& (2147483647 : Int32)) % (((p5 &&& (1023 : Int32)) + (1 : Int32)) + (1 : Int32)))), .val (.double (FP.ddiv (FP.i2d ((p4 &&& (2147483647 : Int32)) % (((p5 &&& (1023 : Int32)) + (1 : Int32)) + (1 : Int32)))) (FP.i2d ((p5 &&& (1023 : Int32)) + (1 : Int32))))), .second, .val (.ref b4), .unset, .unset, .unset, .unset]) rfl ?_
    refine XS.aload X5'.here hx rfl (hb hby at_93) rfl rfl ?_
    refine XS.iload X5'.here hx rfl (hb hby at_95) rfl ?_
    refine XS.iload X5'.here hx rfl (hb hby at_97) rfl ?_
    show Steps p.tables e below (T5.setTop (mkF m 99 #[.val (.int p0), .val (.int p1), .val (.int p2), .val (.int p3), .val (.int p4), .val (.int p5), .val (.int (p0 &&& (2147483647 : Int32))), .val (.int (p1 &&& (2147483647 : Int32))), .val (.int (own_mn (p0 &&& (2147483647 : Int32)) (p1 &&& (2147483647 : Int32)))), .val (.int (own_mx (p0 &&& (2147483647 : Int32)) (p1 &&& (2147483647 : Int32)))), .val (.int (own_mx (1 : Int32) (p2 &&& (2147483647 : Int32)))), .val (.int (p3 &&& (2147483647 : Int32))), .val (.int ((p5 &&& (1023 : Int32)) + (1 : Int32))), .val (.int ((p4 &&& (2147483647 : Int32)) % (((p5 &&& (1023 : Int32)) + (1 : Int32)) + (1 : Int32)))), .val (.double (FP.ddiv (FP.i2d ((p4 &&& (2147483647 : Int32)) % (((p5 &&& (1023 : Int32)) + (1 : Int32)) + (1 : Int32)))) (FP.i2d ((p5 &&& (1023 : Int32)) + (1 : Int32))))), .second, .val (.ref b4), .unset, .unset, .unset, .unset] [(.int (own_mx (p0 &&& (2147483647 : Int32)) (p1 &&& (2147483647 : Int32)))), (.int (own_mn (p0 &&& (2147483647 : Int32)) (p1 &&& (2147483647 : Int32)))), (.ref b4)])) _
    refine st6.trans ?_
    show Steps p.tables e below (T6.setTop (mkF m 102 #[.val (.int p0), .val (.int p1), .val (.int p2), .val (.int p3), .val (.int p4), .val (.int p5), .val (.int (p0 &&& (2147483647 : Int32))), .val (.int (p1 &&& (2147483647 : Int32))), .val (.int (own_mn (p0 &&& (2147483647 : Int32)) (p1 &&& (2147483647 : Int32)))), .val (.int (own_mx (p0 &&& (2147483647 : Int32)) (p1 &&& (2147483647 : Int32)))), .val (.int (own_mx (1 : Int32) (p2 &&& (2147483647 : Int32)))), .val (.int (p3 &&& (2147483647 : Int32))), .val (.int ((p5 &&& (1023 : Int32)) + (1 : Int32))), .val (.int ((p4 &&& (2147483647 : Int32)) % (((p5 &&& (1023 : Int32)) + (1 : Int32)) + (1 : Int32)))), .val (.double (FP.ddiv (FP.i2d ((p4 &&& (2147483647 : Int32)) % (((p5 &&& (1023 : Int32)) + (1 : Int32)) + (1 : Int32)))) (FP.i2d ((p5 &&& (1023 : Int32)) + (1 : Int32))))), .second, .val (.ref b4), .unset, .unset, .unset, .unset] [(.int (0 : Int32))])) _
    refine XS.istore X6'.here hx rfl (hb hby at_102) rfl (l' := #[.val (.int p0), .val (.int p1), .val (.int p2), .val (.int p3), .val (.int p4), .val (.int p5), .val (.int (p0 &&& (2147483647 : Int32))), .val (.int (p1 &&& (2147483647 : Int32))), .val (.int (own_mn (p0 &&& (2147483647 : Int32)) (p1 &&& (2147483647 : Int32)))), .val (.int (own_mx (p0 &&& (2147483647 : Int32)) (p1 &&& (2147483647 : Int32)))), .val (.int (own_mx (1 : Int32) (p2 &&& (2147483647 : Int32)))), .val (.int (p3 &&& (2147483647 : Int32))), .val (.int ((p5 &&& (1023 : Int32)) + (1 : Int32))), .val (.int ((p4 &&& (2147483647 : Int32)) % (((p5 &&& (1023 : Int32)) + (1 : Int32)) + (1 : Int32)))), .val (.double (FP.ddiv (FP.i2d ((p4 &&& (2147483647 : Int32)) % (((p5 &&& (1023 : Int32)) + (1 : Int32)) + (1 : Int32)))) (FP.i2d ((p5 &&& (1023 : Int32)) + (1 : Int32))))), .second, .val (.ref b4), .val (.int (0 : Int32)), .unset, .unset, .unset]) rfl ?_
    refine XS.iload X6'.here hx rfl (hb hby at_104) rfl ?_
    refine XS.i2l X6'.here hx rfl (hb hby at_106) rfl ?_
    refine XS.iload X6'.here hx rfl (hb hby at_107) rfl ?_
    refine XS.i2l X6'.here hx rfl (hb hby at_109) rfl ?_
    show Steps p.tables e below (T6.setTop (mkF m 110 #[.val (.int p0), .val (.int p1), .val (.int p2), .val (.int p3), .val (.int p4), .val (.int p5), .val (.int (p0 &&& (2147483647 : Int32))), .val (.int (p1 &&& (2147483647 : Int32))), .val (.int (own_mn (p0 &&& (2147483647 : Int32)) (p1 &&& (2147483647 : Int32)))), .val (.int (own_mx (p0 &&& (2147483647 : Int32)) (p1 &&& (2147483647 : Int32)))), .val (.int (own_mx (1 : Int32) (p2 &&& (2147483647 : Int32)))), .val (.int (p3 &&& (2147483647 : Int32))), .val (.int ((p5 &&& (1023 : Int32)) + (1 : Int32))), .val (.int ((p4 &&& (2147483647 : Int32)) % (((p5 &&& (1023 : Int32)) + (1 : Int32)) + (1 : Int32)))), .val (.double (FP.ddiv (FP.i2d ((p4 &&& (2147483647 : Int32)) % (((p5 &&& (1023 : Int32)) + (1 : Int32)) + (1 : Int32)))) (FP.i2d ((p5 &&& (1023 : Int32)) + (1 : Int32))))), .second, .val (.ref b4), .val (.int (0 : Int32)), .unset, .unset, .unset] [(.long ((own_mn (p0 &&& (2147483647 : Int32)) (p1 &&& (2147483647 : Int32))).toInt64)), (.long ((own_mx (p0 &&& (2147483647 : Int32)) (p1 &&& (2147483647 : Int32))).toInt64))])) _
    refine XS.lsub X6'.here hx rfl (hb hby at_110) rfl ?_
    refine XS.lstore X6'.here hx rfl (hb hby at_111) rfl (l' := #[.val (.int p0), .val (.int p1), .val (.int p2), .val (.int p3), .val (.int p4), .val (.int p5), .val (.int (p0 &&& (2147483647 : Int32))), .val (.int (p1 &&& (2147483647 : Int32))), .val (.int (own_mn (p0 &&& (2147483647 : Int32)) (p1 &&& (2147483647 : Int32)))), .val (.int (own_mx (p0 &&& (2147483647 : Int32)) (p1 &&& (2147483647 : Int32)))), .val (.int (own_mx (1 : Int32) (p2 &&& (2147483647 : Int32)))), .val (.int (p3 &&& (2147483647 : Int32))), .val (.int ((p5 &&& (1023 : Int32)) + (1 : Int32))), .val (.int ((p4 &&& (2147483647 : Int32)) % (((p5 &&& (1023 : Int32)) + (1 : Int32)) + (1 : Int32)))), .val (.double (FP.ddiv (FP.i2d ((p4 &&& (2147483647 : Int32)) % (((p5 &&& (1023 : Int32)) + (1 : Int32)) + (1 : Int32)))) (FP.i2d ((p5 &&& (1023 : Int32)) + (1 : Int32))))), .second, .val (.ref b4), .val (.int (0 : Int32)), .val (.long (((own_mx (p0 &&& (2147483647 : Int32)) (p1 &&& (2147483647 : Int32))).toInt64) - ((own_mn (p0 &&& (2147483647 : Int32)) (p1 &&& (2147483647 : Int32))).toInt64))), .second, .unset]) rfl ?_
    refine XS.iload X6'.here hx rfl (hb hby at_113) rfl ?_
    refine XS.iload X6'.here hx rfl (hb hby at_115) rfl ?_
    refine XS.icmpYes X6'.here hx rfl (pc0 := 117) (pc' := 150) rfl (hb hby at_117) rfl (tlt hc8).1 (by decide) (by decide) ?_
    refine XS.iconst X6'.here hx rfl (hb hby at_150) ?_
    refine XS.istore X6'.here hx rfl (hb hby at_151) rfl (l' := #[.val (.int p0), .val (.int p1), .val (.int p2), .val (.int p3), .val (.int p4), .val (.int p5), .val (.int (p0 &&& (2147483647 : Int32))), .val (.int (p1 &&& (2147483647 : Int32))), .val (.int (own_mn (p0 &&& (2147483647 : Int32)) (p1 &&& (2147483647 : Int32)))), .val (.int (own_mx (p0 &&& (2147483647 : Int32)) (p1 &&& (2147483647 : Int32)))), .val (.int (own_mx (1 : Int32) (p2 &&& (2147483647 : Int32)))), .val (.int (p3 &&& (2147483647 : Int32))), .val (.int ((p5 &&& (1023 : Int32)) + (1 : Int32))), .val (.int ((p4 &&& (2147483647 : Int32)) % (((p5 &&& (1023 : Int32)) + (1 : Int32)) + (1 : Int32)))), .val (.double (FP.ddiv (FP.i2d ((p4 &&& (2147483647 : Int32)) % (((p5 &&& (1023 : Int32)) + (1 : Int32)) + (1 : Int32)))) (FP.i2d ((p5 &&& (1023 : Int32)) + (1 : Int32))))), .second, .val (.ref b4), .val (.int (0 : Int32)), .val (.long (((own_mx (p0 &&& (2147483647 : Int32)) (p1 &&& (2147483647 : Int32))).toInt64) - ((own_mn (p0 &&& (2147483647 : Int32)) (p1 &&& (2147483647 : Int32))).toInt64))), .second, .val (.int (0 : Int32))]) rfl ?_
    refine XS.iload X6'.here hx rfl (hb hby at_153) rfl ?_
    refine XS.iload X6'.here hx rfl (hb hby at_155) rfl ?_
    refine XS.icmpNo X6'.here hx rfl (hb hby at_157) rfl (teq (by decide : (0 : Int32) = (0 : Int32))).2 ?_
    refine XS.iconst X6'.here hx rfl (hb hby at_160) ?_
    refine XS.goto X6'.here hx rfl (pc0 := 161) (pc' := 165) rfl (hb hby at_161) (by decide) (by decide) ?_
    show Steps p.tables e below (T6.setTop (mkF m 165 #[.val (.int p0), .val (.int p1), .val (.int p2), .val (.int p3), .val (.int p4), .val (.int p5), .val (.int (p0 &&& (2147483647 : Int32))), .val (.int (p1 &&& (2147483647 : Int32))), .val (.int (own_mn (p0 &&& (2147483647 : Int32)) (p1 &&& (2147483647 : Int32)))), .val (.int (own_mx (p0 &&& (2147483647 : Int32)) (p1 &&& (2147483647 : Int32)))), .val (.int (own_mx (1 : Int32) (p2 &&& (2147483647 : Int32)))), .val (.int (p3 &&& (2147483647 : Int32))), .val (.int ((p5 &&& (1023 : Int32)) + (1 : Int32))), .val (.int ((p4 &&& (2147483647 : Int32)) % (((p5 &&& (1023 : Int32)) + (1 : Int32)) + (1 : Int32)))), .val (.double (FP.ddiv (FP.i2d ((p4 &&& (2147483647 : Int32)) % (((p5 &&& (1023 : Int32)) + (1 : Int32)) + (1 : Int32)))) (FP.i2d ((p5 &&& (1023 : Int32)) + (1 : Int32))))), .second, .val (.ref b4), .val (.int (0 : Int32)), .val (.long (((own_mx (p0 &&& (2147483647 : Int32)) (p1 &&& (2147483647 : Int32))).toInt64) - ((own_mn (p0 &&& (2147483647 : Int32)) (p1 &&& (2147483647 : Int32))).toInt64))), .second, .val (.int (0 : Int32))] [(.int (1 : Int32))])) _
    exact retN X6' hx (t := .boolean) Bd.returns (by simp) (hb hby at_165) hr
  · show Q0a Z p0 p1 p2 p3 p4 p5 h0 n0 _ T6.heap _
    rw [e6]
    exact ⟨rfl, N6⟩
theorem ef_rm0b (m : MethodId) (p0 : Int32) (p1 : Int32) (p2 : Int32) (p3 : Int32) (p4 : Int32) (p5 : Int32) : entryFrame m #[(.int p0), (.int p1), (.int p2), (.int p3), (.int p4), (.int p5)] maxLocals = mkF m 0 #[.val (.int p0), .val (.int p1), .val (.int p2), .val (.int p3), .val (.int p4), .val (.int p5), .unset, .unset, .unset, .unset, .unset, .unset, .unset, .unset, .unset, .unset, .unset, .unset, .unset, .unset, .unset] [] := by first | (simp [entryFrame, mkF, argsToLocals, Value.category, maxLocals]; done) | rfl
def Q0b (Z : State) (p0 : Int32) (p1 : Int32) (p2 : Int32) (p3 : Int32) (p4 : Int32) (p5 : Int32) (h0 : Heap) (n0 : Nat) (v : Option Value) (h : Heap) (L : List Loc) : Prop := v = some (.int (1 : Int32)) ∧ Fr n0 L
set_option maxRecDepth 65536 in
set_option maxHeartbeats 40000000 in
theorem rm0b (l : Launch) (Z : State) (az : Array Value) (hw : ∀ d ∈ tables_1, d.before az Z = true) (ws : List Jvm.Cond) (p0 : Int32) (p1 : Int32) (p2 : Int32) (p3 : Int32) (p4 : Int32) (p5 : Int32) (h0 : Heap) (n0 : Nat) (Z0 : n0 ≤ h0.size) (hc0 : (((p5 &&& (1023 : Int32)) + (1 : Int32)) + (1 : Int32)) ≠ (0 : Int32)) (hc1 : Jvm.Free.Fl.NoNaN64 (FP.ddiv (FP.i2d ((p4 &&& (2147483647 : Int32)) % (((p5 &&& (1023 : Int32)) + (1 : Int32)) + (1 : Int32)))) (FP.i2d ((p5 &&& (1023 : Int32)) + (1 : Int32))))) (hc2 : ¬ ((own_mx (1 : Int32) (p2 &&& (2147483647 : Int32))) < (1 : Int32))) (hc3 : ¬ ((p3 &&& (2147483647 : Int32)) < (0 : Int32))) (hc4 : ¬ ((cmpValue (FP.dcmp (FP.ddiv (FP.i2d ((p4 &&& (2147483647 : Int32)) % (((p5 &&& (1023 : Int32)) + (1 : Int32)) + (1 : Int32)))) (FP.i2d ((p5 &&& (1023 : Int32)) + (1 : Int32)))) FP.dconst0) .l) < (0 : Int32))) (hc5 : ¬ ((0 : Int32) < (cmpValue (FP.dcmp (FP.ddiv (FP.i2d ((p4 &&& (2147483647 : Int32)) % (((p5 &&& (1023 : Int32)) + (1 : Int32)) + (1 : Int32)))) (FP.i2d ((p5 &&& (1023 : Int32)) + (1 : Int32)))) FP.dconst1) .g))) (hc6 : ¬ ((cmpValue (FP.dcmp FP.dconst0 FP.dconst0) .l) < (0 : Int32))) (hc7 : (cmpValue (FP.dcmp FP.dconst0 FP.dconst1) .g) < (0 : Int32)) (hc8 : ¬ ((own_mn (p0 &&& (2147483647 : Int32)) (p1 &&& (2147483647 : Int32))) < (own_mx (1 : Int32) (p2 &&& (2147483647 : Int32))))) (hc9 : ((own_mx (p0 &&& (2147483647 : Int32)) (p1 &&& (2147483647 : Int32))) - (own_mn (p0 &&& (2147483647 : Int32)) (p1 &&& (2147483647 : Int32)))) < (p3 &&& (2147483647 : Int32))) (hc10 : (lcmpW (((own_mx (p0 &&& (2147483647 : Int32)) (p1 &&& (2147483647 : Int32))).toInt64) - ((own_mn (p0 &&& (2147483647 : Int32)) (p1 &&& (2147483647 : Int32))).toInt64)) ((p3 &&& (2147483647 : Int32)).toInt64)) < (0 : Int32)) :
    MetFree l x (head1 (Jvm.Cond.code x code maxLocals ret :: ws) room_1) (fun a U => a = #[(.int p0), (.int p1), (.int p2), (.int p3), (.int p4), (.int p5)] ∧ Z.Warmed39 U.vm ∧ U.heap = h0) (fun _ _ _ _ _ => True) (fun _ U o U' => ∃ v L, o = .returned v ∧ Q0b Z p0 p1 p2 p3 p4 p5 h0 n0 v U'.heap L ∧ FrameEnd U o U' L room_1.cells room_1.slots) := by
  refine MetFree.of_bodySF (plainFor_of_name pn_com_example_headlattice_headlattice_learn_LimitsAllowsConditionPinLaw) hisR ?_
  intro p e s m args below meth c s₁ Bd hml0 hP hK
  obtain ⟨rfl, hZ, hh⟩ := hP
  have hx := Bd.exec
  have hby := Bd.bytes
  have hml : c.maxLocals = 21 := hml0
  have hown : s.vm.findClass "com/example/headlattice/headlattice/learn/LimitsAllowsConditionPinLaw" = some m.cls := findClass_of_methodNamed Bd.named
  have hnm := (name_of_methodNamed Bd.named Bd.method).1
  have X0 : Stand p l e room_1 s m #[(.int p0), (.int p1), (.int p2), (.int p3), (.int p4), (.int p5)] below meth c s₁ [] 0 0 := Stand.of_body Bd
  have e0 : s₁.heap = h0 := by rw [← hh, Bd.state]; rfl
  have N0 := Fr.nil n0
  have pre0 : ∀ t, Steps p.tables e below (s₁.setTop (mkF m 0 #[.val (.int p0), .val (.int p1), .val (.int p2), .val (.int p3), .val (.int p4), .val (.int p5), .unset, .unset, .unset, .unset, .unset, .unset, .unset, .unset, .unset, .unset, .unset, .unset, .unset, .unset, .unset] [])) t → Steps p.tables e below (s₁.setTop (entryFrame m #[(.int p0), (.int p1), (.int p2), (.int p3), (.int p4), (.int p5)] maxLocals)) t := fun t k => castTop (ef_rm0b m p0 p1 p2 p3 p4 p5) k
  obtain ⟨_, _, ⟨T1, L1, k1', n1'⟩, -, X1, ⟨Lc1, hQ1, l1, y1, z1⟩, st1⟩ := Jvm.LawKit.callS X0 hx (y := (⟨"java/lang/Math", "min", "(II)I"⟩ : MethodName)) hown (mvT hZ (w1 hw)) (mvT hZ (w2 hw)) (mvT hZ (w3 hw)) (mvT hZ (w4 hw)) (by decide) (backOf (W := 0) (rmMN l Z az hw [] (p0 &&& (2147483647 : Int32)) (p1 &&& (2147483647 : Int32)) h0 n0 Z0) hZ (w4 hw) (w3 hw) (by decide) (by decide)) (g := (mkF m 16 #[.val (.int p0), .val (.int p1), .val (.int p2), .val (.int p3), .val (.int p4), .val (.int p5), .val (.int (p0 &&& (2147483647 : Int32))), .val (.int (p1 &&& (2147483647 : Int32))), .unset, .unset, .unset, .unset, .unset, .unset, .unset, .unset, .unset, .unset, .unset, .unset, .unset] [(.int (p1 &&& (2147483647 : Int32))), (.int (p0 &&& (2147483647 : Int32)))])) rfl (by rw [hml]; rfl) (argsL := [(.int (p0 &&& (2147483647 : Int32))), (.int (p1 &&& (2147483647 : Int32)))]) (rest := []) (lenOf pd_1 rfl) rfl (by show 2 * 0 + _ ≤ _; exact Nat.le_of_eq rfl) (hb hby at_16) (fun _ _ => ⟨rfl, e0, (by decide : 0 + 0 ≤ _), (by decide : 0 + 0 ≤ _)⟩)
  dsimp only [Pt.U, Pt.locs, Pt.cells, Pt.slots] at X1 l1 y1 z1 st1 hQ1
  subst l1 y1 z1
  obtain ⟨rfl, N1q, e1⟩ := hQ1
  obtain ⟨Lg1, X1', N1⟩ := own_gen X1 (Fr.app N0 N1q)
  obtain ⟨_, _, ⟨T2, L2, k2', n2'⟩, -, X2, ⟨Lc2, hQ2, l2, y2, z2⟩, st2⟩ := Jvm.LawKit.callS X1' hx (y := (⟨"java/lang/Math", "max", "(II)I"⟩ : MethodName)) hown (mvT hZ (w5 hw)) (mvT hZ (w6 hw)) (mvT hZ (w3 hw)) (mvT hZ (w7 hw)) (by decide) (backOf (W := 0) (rmMX l Z az hw [] (p0 &&& (2147483647 : Int32)) (p1 &&& (2147483647 : Int32)) h0 n0 Z0) hZ (w7 hw) (w3 hw) (by decide) (by decide)) (g := (mkF m 25 #[.val (.int p0), .val (.int p1), .val (.int p2), .val (.int p3), .val (.int p4), .val (.int p5), .val (.int (p0 &&& (2147483647 : Int32))), .val (.int (p1 &&& (2147483647 : Int32))), .val (.int (own_mn (p0 &&& (2147483647 : Int32)) (p1 &&& (2147483647 : Int32)))), .unset, .unset, .unset, .unset, .unset, .unset, .unset, .unset, .unset, .unset, .unset, .unset] [(.int (p1 &&& (2147483647 : Int32))), (.int (p0 &&& (2147483647 : Int32)))])) rfl (by rw [hml]; rfl) (argsL := [(.int (p0 &&& (2147483647 : Int32))), (.int (p1 &&& (2147483647 : Int32)))]) (rest := []) (lenOf pd_1 rfl) rfl (by show 2 * 0 + _ ≤ _; exact Nat.le_of_eq rfl) (hb hby at_25) (fun _ _ => ⟨rfl, e1, (by decide : 0 + 0 ≤ _), (by decide : 0 + 0 ≤ _)⟩)
  dsimp only [Pt.U, Pt.locs, Pt.cells, Pt.slots] at X2 l2 y2 z2 st2 hQ2
  subst l2 y2 z2
  obtain ⟨rfl, N2q, e2⟩ := hQ2
  obtain ⟨Lg2, X2', N2⟩ := own_gen X2 (Fr.app N1 N2q)
  obtain ⟨_, _, ⟨T3, L3, k3', n3'⟩, -, X3, ⟨Lc3, hQ3, l3, y3, z3⟩, st3⟩ := Jvm.LawKit.callS X2' hx (y := (⟨"java/lang/Math", "max", "(II)I"⟩ : MethodName)) hown (mvT hZ (w5 hw)) (mvT hZ (w6 hw)) (mvT hZ (w3 hw)) (mvT hZ (w7 hw)) (by decide) (backOf (W := 0) (rmMX l Z az hw [] (1 : Int32) (p2 &&& (2147483647 : Int32)) h0 n0 Z0) hZ (w7 hw) (w3 hw) (by decide) (by decide)) (g := (mkF m 35 #[.val (.int p0), .val (.int p1), .val (.int p2), .val (.int p3), .val (.int p4), .val (.int p5), .val (.int (p0 &&& (2147483647 : Int32))), .val (.int (p1 &&& (2147483647 : Int32))), .val (.int (own_mn (p0 &&& (2147483647 : Int32)) (p1 &&& (2147483647 : Int32)))), .val (.int (own_mx (p0 &&& (2147483647 : Int32)) (p1 &&& (2147483647 : Int32)))), .unset, .unset, .unset, .unset, .unset, .unset, .unset, .unset, .unset, .unset, .unset] [(.int (p2 &&& (2147483647 : Int32))), (.int (1 : Int32))])) rfl (by rw [hml]; rfl) (argsL := [(.int (1 : Int32)), (.int (p2 &&& (2147483647 : Int32)))]) (rest := []) (lenOf pd_1 rfl) rfl (by show 2 * 0 + _ ≤ _; exact Nat.le_of_eq rfl) (hb hby at_35) (fun _ _ => ⟨rfl, e2, (by decide : 0 + 0 ≤ _), (by decide : 0 + 0 ≤ _)⟩)
  dsimp only [Pt.U, Pt.locs, Pt.cells, Pt.slots] at X3 l3 y3 z3 st3 hQ3
  subst l3 y3 z3
  obtain ⟨rfl, N3q, e3⟩ := hQ3
  obtain ⟨Lg3, X3', N3⟩ := own_gen X3 (Fr.app N2 N3q)
  obtain ⟨T4, h4, X4, e4, E4, A4, D4, -, st4⟩ := newO X3' hx hZ hown (w8 hw) (w9 hw) (w10 hw) e3 (g := (mkF m 77 #[.val (.int p0), .val (.int p1), .val (.int p2), .val (.int p3), .val (.int p4), .val (.int p5), .val (.int (p0 &&& (2147483647 : Int32))), .val (.int (p1 &&& (2147483647 : Int32))), .val (.int (own_mn (p0 &&& (2147483647 : Int32)) (p1 &&& (2147483647 : Int32)))), .val (.int (own_mx (p0 &&& (2147483647 : Int32)) (p1 &&& (2147483647 : Int32)))), .val (.int (own_mx (1 : Int32) (p2 &&& (2147483647 : Int32)))), .val (.int (p3 &&& (2147483647 : Int32))), .val (.int ((p5 &&& (1023 : Int32)) + (1 : Int32))), .val (.int ((p4 &&& (2147483647 : Int32)) % (((p5 &&& (1023 : Int32)) + (1 : Int32)) + (1 : Int32)))), .val (.double (FP.ddiv (FP.i2d ((p4 &&& (2147483647 : Int32)) % (((p5 &&& (1023 : Int32)) + (1 : Int32)) + (1 : Int32)))) (FP.i2d ((p5 &&& (1023 : Int32)) + (1 : Int32))))), .second, .unset, .unset, .unset, .unset, .unset] [])) rfl (hb hby at_77) (by decide) (by decide)
  obtain ⟨b4, g4⟩ : ∃ z, z = h0.size := ⟨_, rfl⟩
  rw [← g4] at A4 D4 st4
  have g_b4 : n0 ≤ b4 := Nat.le_trans Z0 (Nat.le_of_eq g4.symm)
  have sz_b4 : h0.size ≤ b4 := Nat.le_trans (Nat.le_refl _) (Nat.le_of_eq g4.symm)
  have Z4 : n0 ≤ h4.size := Nat.le_trans Z0 E4.1
  have K4 : Keep h0 h4 [] := (Keep.refl h0 []).ext E4
  have E_b4 := A4
  have F_minCovered_b4 : Fld Z h4 b4 cLM "minCovered" "I" (.int (0 : Int32)) := D4 (Or.inr (w23 hw)) (ty := .int) (by decide)
  have F_minExcluded_b4 : Fld Z h4 b4 cLM "minExcluded" "I" (.int (0 : Int32)) := D4 (Or.inr (w25 hw)) (ty := .int) (by decide)
  have F_minExcludedShare_b4 : Fld Z h4 b4 cLM "minExcludedShare" "D" (.double (0 : UInt64)) := D4 (Or.inr (w27 hw)) (ty := .double) (by decide)
  have F_minPrecision_b4 : Fld Z h4 b4 cLM "minPrecision" "D" (.double (0 : UInt64)) := D4 (Or.inr (w29 hw)) (ty := .double) (by decide)
  obtain ⟨_, _, ⟨T5, L5, k5', n5'⟩, -, X5, ⟨Lc5, hQ5, l5, y5, z5⟩, st5⟩ := X4.specialBack hx (y := (⟨cLM, "<init>", "(IIDD)V"⟩ : MethodName)) rfl hown (mvT hZ (w11 hw)) (mvT hZ (w12 hw)) (mvT hZ (w13 hw)) (by decide) (backOf (W := 1) (rm3 l Z az hw [] b4 (own_mx (1 : Int32) (p2 &&& (2147483647 : Int32))) (p3 &&& (2147483647 : Int32)) (FP.ddiv (FP.i2d ((p4 &&& (2147483647 : Int32)) % (((p5 &&& (1023 : Int32)) + (1 : Int32)) + (1 : Int32)))) (FP.i2d ((p5 &&& (1023 : Int32)) + (1 : Int32)))) FP.dconst0 h4 n0 Z4 E_b4 F_minCovered_b4 F_minExcluded_b4 F_minExcludedShare_b4 F_minPrecision_b4 hc2 hc3 hc4 hc5 hc6 hc7 g_b4) hZ (w13 hw) (w10 hw) (by decide) (by decide)) (g := (mkF m 88 #[.val (.int p0), .val (.int p1), .val (.int p2), .val (.int p3), .val (.int p4), .val (.int p5), .val (.int (p0 &&& (2147483647 : Int32))), .val (.int (p1 &&& (2147483647 : Int32))), .val (.int (own_mn (p0 &&& (2147483647 : Int32)) (p1 &&& (2147483647 : Int32)))), .val (.int (own_mx (p0 &&& (2147483647 : Int32)) (p1 &&& (2147483647 : Int32)))), .val (.int (own_mx (1 : Int32) (p2 &&& (2147483647 : Int32)))), .val (.int (p3 &&& (2147483647 : Int32))), .val (.int ((p5 &&& (1023 : Int32)) + (1 : Int32))), .val (.int ((p4 &&& (2147483647 : Int32)) % (((p5 &&& (1023 : Int32)) + (1 : Int32)) + (1 : Int32)))), .val (.double (FP.ddiv (FP.i2d ((p4 &&& (2147483647 : Int32)) % (((p5 &&& (1023 : Int32)) + (1 : Int32)) + (1 : Int32)))) (FP.i2d ((p5 &&& (1023 : Int32)) + (1 : Int32))))), .second, .unset, .unset, .unset, .unset, .unset] [(.double FP.dconst0), (.double (FP.ddiv (FP.i2d ((p4 &&& (2147483647 : Int32)) % (((p5 &&& (1023 : Int32)) + (1 : Int32)) + (1 : Int32)))) (FP.i2d ((p5 &&& (1023 : Int32)) + (1 : Int32))))), (.int (p3 &&& (2147483647 : Int32))), (.int (own_mx (1 : Int32) (p2 &&& (2147483647 : Int32)))), (.ref b4), (.ref b4)])) rfl (by rw [hml]; rfl) (Steps.refl _) (a := b4) (argsL := [(.int (own_mx (1 : Int32) (p2 &&& (2147483647 : Int32)))), (.int (p3 &&& (2147483647 : Int32))), (.double (FP.ddiv (FP.i2d ((p4 &&& (2147483647 : Int32)) % (((p5 &&& (1023 : Int32)) + (1 : Int32)) + (1 : Int32)))) (FP.i2d ((p5 &&& (1023 : Int32)) + (1 : Int32))))), (.double FP.dconst0)]) (rest := [(.ref b4)]) (lenOf pd_2 rfl) rfl (by show 2 * 0 + _ ≤ _; exact Nat.le_of_eq rfl) (hb hby at_88) (fun _ _ => ⟨rfl, e4, (by decide : 1 + 0 ≤ _), (by decide : 4 + 0 ≤ _)⟩)
  dsimp only [Pt.U, Pt.locs, Pt.cells, Pt.slots] at X5 l5 y5 z5 st5 hQ5
  subst l5 y5 z5
  obtain ⟨rfl, N5q, kq5, pf5_0, pf5_1, pf5_2, pf5_3, pf5_4⟩ := hQ5
  obtain ⟨Lg5, X5', N5⟩ := own_gen X5 (Fr.app N3 N5q)
  have K5 : Keep h0 T5.heap [] := K4.trans kq5 (allS (Or.inr sz_b4) all0)
  have Z5 : n0 ≤ T5.heap.size := Nat.le_trans Z4 kq5.1
  obtain ⟨cq6, kq6, q6a, q6b, q6c⟩ := isOf hZ rfl pf5_0
  obtain ⟨_, _, ⟨T6, L6, k6', n6'⟩, -, X6, ⟨Lc6, hQ6, l6, y6, z6⟩, st6⟩ := X5'.virtualBack hx (y := (⟨cLM, "allowsCondition", "(II)Z"⟩ : MethodName)) (z := (⟨cLM, "allowsCondition", "(II)Z"⟩ : MethodName)) hown (mvT hZ (w30 hw)) (mvT hZ (w31 hw)) (notFace_of_selects (args := #[]) (mvT hZ (w33 hw))) (mvT hZ (w33 hw)) (mvT hZ (w32 hw)) (by decide) (backOf (W := 0) (rm6b l Z az hw [] b4 (own_mn (p0 &&& (2147483647 : Int32)) (p1 &&& (2147483647 : Int32))) (own_mx (p0 &&& (2147483647 : Int32)) (p1 &&& (2147483647 : Int32))) (own_mx (1 : Int32) (p2 &&& (2147483647 : Int32))) (p3 &&& (2147483647 : Int32)) T5.heap n0 Z5 pf5_1 hc8 pf5_2 hc9) hZ (w34 hw) (w10 hw) (by decide) (by decide)) q6a q6c (g := (mkF m 99 #[.val (.int p0), .val (.int p1), .val (.int p2), .val (.int p3), .val (.int p4), .val (.int p5), .val (.int (p0 &&& (2147483647 : Int32))), .val (.int (p1 &&& (2147483647 : Int32))), .val (.int (own_mn (p0 &&& (2147483647 : Int32)) (p1 &&& (2147483647 : Int32)))), .val (.int (own_mx (p0 &&& (2147483647 : Int32)) (p1 &&& (2147483647 : Int32)))), .val (.int (own_mx (1 : Int32) (p2 &&& (2147483647 : Int32)))), .val (.int (p3 &&& (2147483647 : Int32))), .val (.int ((p5 &&& (1023 : Int32)) + (1 : Int32))), .val (.int ((p4 &&& (2147483647 : Int32)) % (((p5 &&& (1023 : Int32)) + (1 : Int32)) + (1 : Int32)))), .val (.double (FP.ddiv (FP.i2d ((p4 &&& (2147483647 : Int32)) % (((p5 &&& (1023 : Int32)) + (1 : Int32)) + (1 : Int32)))) (FP.i2d ((p5 &&& (1023 : Int32)) + (1 : Int32))))), .second, .val (.ref b4), .unset, .unset, .unset, .unset] [(.int (own_mx (p0 &&& (2147483647 : Int32)) (p1 &&& (2147483647 : Int32)))), (.int (own_mn (p0 &&& (2147483647 : Int32)) (p1 &&& (2147483647 : Int32)))), (.ref b4)])) rfl (by rw [hml]; rfl) (Steps.refl _) (argsL := [(.int (own_mn (p0 &&& (2147483647 : Int32)) (p1 &&& (2147483647 : Int32)))), (.int (own_mx (p0 &&& (2147483647 : Int32)) (p1 &&& (2147483647 : Int32))))]) (rest := []) (lenOf pd_3 rfl) rfl (by show 2 * 0 + _ ≤ _; exact Nat.le_of_eq rfl) (hb hby at_99) (fun _ _ => ⟨rfl, rfl, (by decide : 1 + 0 ≤ _), (by decide : 4 + 0 ≤ _)⟩)
  dsimp only [Pt.U, Pt.locs, Pt.cells, Pt.slots] at X6 l6 y6 z6 st6 hQ6
  subst l6 y6 z6
  obtain ⟨rfl, N6q, e6⟩ := hQ6
  obtain ⟨Lg6, X6', N6⟩ := own_gen X6 (Fr.app N5 N6q)
  obtain ⟨fs, hr, hrun, hended, hW, hsame⟩ := X6'.leave (v := some (.int (1 : Int32))) (fun h => by rw [Bd.returns] at h; cases h)
  refine ⟨_, _, pre0 _ ?_, hrun, hended, _, _, rfl, ?_, ⟨_, rfl⟩, hW, hsame.mono (by decide) (by decide)⟩
  · show Steps p.tables e below (s₁.setTop (mkF m 0 #[.val (.int p0), .val (.int p1), .val (.int p2), .val (.int p3), .val (.int p4), .val (.int p5), .unset, .unset, .unset, .unset, .unset, .unset, .unset, .unset, .unset, .unset, .unset, .unset, .unset, .unset, .unset] [])) _
    refine XS.iloadN X0.here hx rfl (hb hby at_0) rfl ?_
    show Steps p.tables e below (s₁.setTop (mkF m 1 #[.val (.int p0), .val (.int p1), .val (.int p2), .val (.int p3), .val (.int p4), .val (.int p5), .unset, .unset, .unset, .unset, .unset, .unset, .unset, .unset, .unset, .unset, .unset, .unset, .unset, .unset, .unset] [(.int p0)])) _
    refine X0.ldcInt hx hown (mvT hZ (w0 hw)) (g := (mkF m 1 #[.val (.int p0), .val (.int p1), .val (.int p2), .val (.int p3), .val (.int p4), .val (.int p5), .unset, .unset, .unset, .unset, .unset, .unset, .unset, .unset, .unset, .unset, .unset, .unset, .unset, .unset, .unset] [(.int p0)])) rfl (hb hby at_1) _ ?_
    show Steps p.tables e below (s₁.setTop (mkF m 3 #[.val (.int p0), .val (.int p1), .val (.int p2), .val (.int p3), .val (.int p4), .val (.int p5), .unset, .unset, .unset, .unset, .unset, .unset, .unset, .unset, .unset, .unset, .unset, .unset, .unset, .unset, .unset] [(.int (2147483647 : Int32)), (.int p0)])) _
    refine XS.iand X0.here hx rfl (hb hby at_3) rfl ?_
    refine XS.istore X0.here hx rfl (hb hby at_4) rfl (l' := #[.val (.int p0), .val (.int p1), .val (.int p2), .val (.int p3), .val (.int p4), .val (.int p5), .val (.int (p0 &&& (2147483647 : Int32))), .unset, .unset, .unset, .unset, .unset, .unset, .unset, .unset, .unset, .unset, .unset, .unset, .unset, .unset]) rfl ?_
    refine XS.iloadN X0.here hx rfl (hb hby at_6) rfl ?_
    show Steps p.tables e below (s₁.setTop (mkF m 7 #[.val (.int p0), .val (.int p1), .val (.int p2), .val (.int p3), .val (.int p4), .val (.int p5), .val (.int (p0 &&& (2147483647 : Int32))), .unset, .unset, .unset, .unset, .unset, .unset, .unset, .unset, .unset, .unset, .unset, .unset, .unset, .unset] [(.int p1)])) _
    refine X0.ldcInt hx hown (mvT hZ (w0 hw)) (g := (mkF m 7 #[.val (.int p0), .val (.int p1), .val (.int p2), .val (.int p3), .val (.int p4), .val (.int p5), .val (.int (p0 &&& (2147483647 : Int32))), .unset, .unset, .unset, .unset, .unset, .unset, .unset, .unset, .unset, .unset, .unset, .unset, .unset, .unset] [(.int p1)])) rfl (hb hby at_7) _ ?_
    show Steps p.tables e below (s₁.setTop (mkF m 9 #[.val (.int p0), .val (.int p1), .val (.int p2), .val (.int p3), .val (.int p4), .val (.int p5), .val (.int (p0 &&& (2147483647 : Int32))), .unset, .unset, .unset, .unset, .unset, .unset, .unset, .unset, .unset, .unset, .unset, .unset, .unset, .unset] [(.int (2147483647 : Int32)), (.int p1)])) _
    refine XS.iand X0.here hx rfl (hb hby at_9) rfl ?_
    refine XS.istore X0.here hx rfl (hb hby at_10) rfl (l' := #[.val (.int p0), .val (.int p1), .val (.int p2), .val (.int p3), .val (.int p4), .val (.int p5), .val (.int (p0 &&& (2147483647 : Int32))), .val (.int (p1 &&& (2147483647 : Int32))), .unset, .unset, .unset, .unset, .unset, .unset, .unset, .unset, .unset, .unset, .unset, .unset, .unset]) rfl ?_
    refine XS.iload X0.here hx rfl (hb hby at_12) rfl ?_
    refine XS.iload X0.here hx rfl (hb hby at_14) rfl ?_
    show Steps p.tables e below (s₁.setTop (mkF m 16 #[.val (.int p0), .val (.int p1), .val (.int p2), .val (.int p3), .val (.int p4), .val (.int p5), .val (.int (p0 &&& (2147483647 : Int32))), .val (.int (p1 &&& (2147483647 : Int32))), .unset, .unset, .unset, .unset, .unset, .unset, .unset, .unset, .unset, .unset, .unset, .unset, .unset] [(.int (p1 &&& (2147483647 : Int32))), (.int (p0 &&& (2147483647 : Int32)))])) _
    refine st1 _ ?_
    show Steps p.tables e below (T1.setTop (mkF m 19 #[.val (.int p0), .val (.int p1), .val (.int p2), .val (.int p3), .val (.int p4), .val (.int p5), .val (.int (p0 &&& (2147483647 : Int32))), .val (.int (p1 &&& (2147483647 : Int32))), .unset, .unset, .unset, .unset, .unset, .unset, .unset, .unset, .unset, .unset, .unset, .unset, .unset] [(.int (own_mn (p0 &&& (2147483647 : Int32)) (p1 &&& (2147483647 : Int32))))])) _
    refine XS.istore X1'.here hx rfl (hb hby at_19) rfl (l' := #[.val (.int p0), .val (.int p1), .val (.int p2), .val (.int p3), .val (.int p4), .val (.int p5), .val (.int (p0 &&& (2147483647 : Int32))), .val (.int (p1 &&& (2147483647 : Int32))), .val (.int (own_mn (p0 &&& (2147483647 : Int32)) (p1 &&& (2147483647 : Int32)))), .unset, .unset, .unset, .unset, .unset, .unset, .unset, .unset, .unset, .unset, .unset, .unset]) rfl ?_
    refine XS.iload X1'.here hx rfl (hb hby at_21) rfl ?_
    refine XS.iload X1'.here hx rfl (hb hby at_23) rfl ?_
    show Steps p.tables e below (T1.setTop (mkF m 25 #[.val (.int p0), .val (.int p1), .val (.int p2), .val (.int p3), .val (.int p4), .val (.int p5), .val (.int (p0 &&& (2147483647 : Int32))), .val (.int (p1 &&& (2147483647 : Int32))), .val (.int (own_mn (p0 &&& (2147483647 : Int32)) (p1 &&& (2147483647 : Int32)))), .unset, .unset, .unset, .unset, .unset, .unset, .unset, .unset, .unset, .unset, .unset, .unset] [(.int (p1 &&& (2147483647 : Int32))), (.int (p0 &&& (2147483647 : Int32)))])) _
    refine st2 _ ?_
    show Steps p.tables e below (T2.setTop (mkF m 28 #[.val (.int p0), .val (.int p1), .val (.int p2), .val (.int p3), .val (.int p4), .val (.int p5), .val (.int (p0 &&& (2147483647 : Int32))), .val (.int (p1 &&& (2147483647 : Int32))), .val (.int (own_mn (p0 &&& (2147483647 : Int32)) (p1 &&& (2147483647 : Int32)))), .unset, .unset, .unset, .unset, .unset, .unset, .unset, .unset, .unset, .unset, .unset, .unset] [(.int (own_mx (p0 &&& (2147483647 : Int32)) (p1 &&& (2147483647 : Int32))))])) _
    refine XS.istore X2'.here hx rfl (hb hby at_28) rfl (l' := #[.val (.int p0), .val (.int p1), .val (.int p2), .val (.int p3), .val (.int p4), .val (.int p5), .val (.int (p0 &&& (2147483647 : Int32))), .val (.int (p1 &&& (2147483647 : Int32))), .val (.int (own_mn (p0 &&& (2147483647 : Int32)) (p1 &&& (2147483647 : Int32)))), .val (.int (own_mx (p0 &&& (2147483647 : Int32)) (p1 &&& (2147483647 : Int32)))), .unset, .unset, .unset, .unset, .unset, .unset, .unset, .unset, .unset, .unset, .unset]) rfl ?_
    refine XS.iconst X2'.here hx rfl (hb hby at_30) ?_
    refine XS.iloadN X2'.here hx rfl (hb hby at_31) rfl ?_
    show Steps p.tables e below (T2.setTop (mkF m 32 #[.val (.int p0), .val (.int p1), .val (.int p2), .val (.int p3), .val (.int p4), .val (.int p5), .val (.int (p0 &&& (2147483647 : Int32))), .val (.int (p1 &&& (2147483647 : Int32))), .val (.int (own_mn (p0 &&& (2147483647 : Int32)) (p1 &&& (2147483647 : Int32)))), .val (.int (own_mx (p0 &&& (2147483647 : Int32)) (p1 &&& (2147483647 : Int32)))), .unset, .unset, .unset, .unset, .unset, .unset, .unset, .unset, .unset, .unset, .unset] [(.int p2), (.int (1 : Int32))])) _
    refine X2'.ldcInt hx hown (mvT hZ (w0 hw)) (g := (mkF m 32 #[.val (.int p0), .val (.int p1), .val (.int p2), .val (.int p3), .val (.int p4), .val (.int p5), .val (.int (p0 &&& (2147483647 : Int32))), .val (.int (p1 &&& (2147483647 : Int32))), .val (.int (own_mn (p0 &&& (2147483647 : Int32)) (p1 &&& (2147483647 : Int32)))), .val (.int (own_mx (p0 &&& (2147483647 : Int32)) (p1 &&& (2147483647 : Int32)))), .unset, .unset, .unset, .unset, .unset, .unset, .unset, .unset, .unset, .unset, .unset] [(.int p2), (.int (1 : Int32))])) rfl (hb hby at_32) _ ?_
    show Steps p.tables e below (T2.setTop (mkF m 34 #[.val (.int p0), .val (.int p1), .val (.int p2), .val (.int p3), .val (.int p4), .val (.int p5), .val (.int (p0 &&& (2147483647 : Int32))), .val (.int (p1 &&& (2147483647 : Int32))), .val (.int (own_mn (p0 &&& (2147483647 : Int32)) (p1 &&& (2147483647 : Int32)))), .val (.int (own_mx (p0 &&& (2147483647 : Int32)) (p1 &&& (2147483647 : Int32)))), .unset, .unset, .unset, .unset, .unset, .unset, .unset, .unset, .unset, .unset, .unset] [(.int (2147483647 : Int32)), (.int p2), (.int (1 : Int32))])) _
    refine XS.iand X2'.here hx rfl (hb hby at_34) rfl ?_
    show Steps p.tables e below (T2.setTop (mkF m 35 #[.val (.int p0), .val (.int p1), .val (.int p2), .val (.int p3), .val (.int p4), .val (.int p5), .val (.int (p0 &&& (2147483647 : Int32))), .val (.int (p1 &&& (2147483647 : Int32))), .val (.int (own_mn (p0 &&& (2147483647 : Int32)) (p1 &&& (2147483647 : Int32)))), .val (.int (own_mx (p0 &&& (2147483647 : Int32)) (p1 &&& (2147483647 : Int32)))), .unset, .unset, .unset, .unset, .unset, .unset, .unset, .unset, .unset, .unset, .unset] [(.int (p2 &&& (2147483647 : Int32))), (.int (1 : Int32))])) _
    refine st3 _ ?_
    show Steps p.tables e below (T3.setTop (mkF m 38 #[.val (.int p0), .val (.int p1), .val (.int p2), .val (.int p3), .val (.int p4), .val (.int p5), .val (.int (p0 &&& (2147483647 : Int32))), .val (.int (p1 &&& (2147483647 : Int32))), .val (.int (own_mn (p0 &&& (2147483647 : Int32)) (p1 &&& (2147483647 : Int32)))), .val (.int (own_mx (p0 &&& (2147483647 : Int32)) (p1 &&& (2147483647 : Int32)))), .unset, .unset, .unset, .unset, .unset, .unset, .unset, .unset, .unset, .unset, .unset] [(.int (own_mx (1 : Int32) (p2 &&& (2147483647 : Int32))))])) _
    refine XS.istore X3'.here hx rfl (hb hby at_38) rfl (l' := #[.val (.int p0), .val (.int p1), .val (.int p2), .val (.int p3), .val (.int p4), .val (.int p5), .val (.int (p0 &&& (2147483647 : Int32))), .val (.int (p1 &&& (2147483647 : Int32))), .val (.int (own_mn (p0 &&& (2147483647 : Int32)) (p1 &&& (2147483647 : Int32)))), .val (.int (own_mx (p0 &&& (2147483647 : Int32)) (p1 &&& (2147483647 : Int32)))), .val (.int (own_mx (1 : Int32) (p2 &&& (2147483647 : Int32)))), .unset, .unset, .unset, .unset, .unset, .unset, .unset, .unset, .unset, .unset]) rfl ?_
    refine XS.iloadN X3'.here hx rfl (hb hby at_40) rfl ?_
    show Steps p.tables e below (T3.setTop (mkF m 41 #[.val (.int p0), .val (.int p1), .val (.int p2), .val (.int p3), .val (.int p4), .val (.int p5), .val (.int (p0 &&& (2147483647 : Int32))), .val (.int (p1 &&& (2147483647 : Int32))), .val (.int (own_mn (p0 &&& (2147483647 : Int32)) (p1 &&& (2147483647 : Int32)))), .val (.int (own_mx (p0 &&& (2147483647 : Int32)) (p1 &&& (2147483647 : Int32)))), .val (.int (own_mx (1 : Int32) (p2 &&& (2147483647 : Int32)))), .unset, .unset, .unset, .unset, .unset, .unset, .unset, .unset, .unset, .unset] [(.int p3)])) _
    refine X3'.ldcInt hx hown (mvT hZ (w0 hw)) (g := (mkF m 41 #[.val (.int p0), .val (.int p1), .val (.int p2), .val (.int p3), .val (.int p4), .val (.int p5), .val (.int (p0 &&& (2147483647 : Int32))), .val (.int (p1 &&& (2147483647 : Int32))), .val (.int (own_mn (p0 &&& (2147483647 : Int32)) (p1 &&& (2147483647 : Int32)))), .val (.int (own_mx (p0 &&& (2147483647 : Int32)) (p1 &&& (2147483647 : Int32)))), .val (.int (own_mx (1 : Int32) (p2 &&& (2147483647 : Int32)))), .unset, .unset, .unset, .unset, .unset, .unset, .unset, .unset, .unset, .unset] [(.int p3)])) rfl (hb hby at_41) _ ?_
    show Steps p.tables e below (T3.setTop (mkF m 43 #[.val (.int p0), .val (.int p1), .val (.int p2), .val (.int p3), .val (.int p4), .val (.int p5), .val (.int (p0 &&& (2147483647 : Int32))), .val (.int (p1 &&& (2147483647 : Int32))), .val (.int (own_mn (p0 &&& (2147483647 : Int32)) (p1 &&& (2147483647 : Int32)))), .val (.int (own_mx (p0 &&& (2147483647 : Int32)) (p1 &&& (2147483647 : Int32)))), .val (.int (own_mx (1 : Int32) (p2 &&& (2147483647 : Int32)))), .unset, .unset, .unset, .unset, .unset, .unset, .unset, .unset, .unset, .unset] [(.int (2147483647 : Int32)), (.int p3)])) _
    refine XS.iand X3'.here hx rfl (hb hby at_43) rfl ?_
    refine XS.istore X3'.here hx rfl (hb hby at_44) rfl (l' := #[.val (.int p0), .val (.int p1), .val (.int p2), .val (.int p3), .val (.int p4), .val (.int p5), .val (.int (p0 &&& (2147483647 : Int32))), .val (.int (p1 &&& (2147483647 : Int32))), .val (.int (own_mn (p0 &&& (2147483647 : Int32)) (p1 &&& (2147483647 : Int32)))), .val (.int (own_mx (p0 &&& (2147483647 : Int32)) (p1 &&& (2147483647 : Int32)))), .val (.int (own_mx (1 : Int32) (p2 &&& (2147483647 : Int32)))), .val (.int (p3 &&& (2147483647 : Int32))), .unset, .unset, .unset, .unset, .unset, .unset, .unset, .unset, .unset]) rfl ?_
    refine XS.iload X3'.here hx rfl (hb hby at_46) rfl ?_
    refine XS.sipush X3'.here hx rfl (hb hby at_48) ?_
    refine XS.iand X3'.here hx rfl (hb hby at_51) rfl ?_
    refine XS.iconst X3'.here hx rfl (hb hby at_52) ?_
    refine XS.iadd X3'.here hx rfl (hb hby at_53) rfl ?_
    refine XS.istore X3'.here hx rfl (hb hby at_54) rfl (l' := #[.val (.int p0), .val (.int p1), .val (.int p2), .val (.int p3), .val (.int p4), .val (.int p5), .val (.int (p0 &&& (2147483647 : Int32))), .val (.int (p1 &&& (2147483647 : Int32))), .val (.int (own_mn (p0 &&& (2147483647 : Int32)) (p1 &&& (2147483647 : Int32)))), .val (.int (own_mx (p0 &&& (2147483647 : Int32)) (p1 &&& (2147483647 : Int32)))), .val (.int (own_mx (1 : Int32) (p2 &&& (2147483647 : Int32)))), .val (.int (p3 &&& (2147483647 : Int32))), .val (.int ((p5 &&& (1023 : Int32)) + (1 : Int32))), .unset, .unset, .unset, .unset, .unset, .unset, .unset, .unset]) rfl ?_
    refine XS.iload X3'.here hx rfl (hb hby at_56) rfl ?_
    show Steps p.tables e below (T3.setTop (mkF m 58 #[.val (.int p0), .val (.int p1), .val (.int p2), .val (.int p3), .val (.int p4), .val (.int p5), .val (.int (p0 &&& (2147483647 : Int32))), .val (.int (p1 &&& (2147483647 : Int32))), .val (.int (own_mn (p0 &&& (2147483647 : Int32)) (p1 &&& (2147483647 : Int32)))), .val (.int (own_mx (p0 &&& (2147483647 : Int32)) (p1 &&& (2147483647 : Int32)))), .val (.int (own_mx (1 : Int32) (p2 &&& (2147483647 : Int32)))), .val (.int (p3 &&& (2147483647 : Int32))), .val (.int ((p5 &&& (1023 : Int32)) + (1 : Int32))), .unset, .unset, .unset, .unset, .unset, .unset, .unset, .unset] [(.int p4)])) _
    refine X3'.ldcInt hx hown (mvT hZ (w0 hw)) (g := (mkF m 58 #[.val (.int p0), .val (.int p1), .val (.int p2), .val (.int p3), .val (.int p4), .val (.int p5), .val (.int (p0 &&& (2147483647 : Int32))), .val (.int (p1 &&& (2147483647 : Int32))), .val (.int (own_mn (p0 &&& (2147483647 : Int32)) (p1 &&& (2147483647 : Int32)))), .val (.int (own_mx (p0 &&& (2147483647 : Int32)) (p1 &&& (2147483647 : Int32)))), .val (.int (own_mx (1 : Int32) (p2 &&& (2147483647 : Int32)))), .val (.int (p3 &&& (2147483647 : Int32))), .val (.int ((p5 &&& (1023 : Int32)) + (1 : Int32))), .unset, .unset, .unset, .unset, .unset, .unset, .unset, .unset] [(.int p4)])) rfl (hb hby at_58) _ ?_
    show Steps p.tables e below (T3.setTop (mkF m 60 #[.val (.int p0), .val (.int p1), .val (.int p2), .val (.int p3), .val (.int p4), .val (.int p5), .val (.int (p0 &&& (2147483647 : Int32))), .val (.int (p1 &&& (2147483647 : Int32))), .val (.int (own_mn (p0 &&& (2147483647 : Int32)) (p1 &&& (2147483647 : Int32)))), .val (.int (own_mx (p0 &&& (2147483647 : Int32)) (p1 &&& (2147483647 : Int32)))), .val (.int (own_mx (1 : Int32) (p2 &&& (2147483647 : Int32)))), .val (.int (p3 &&& (2147483647 : Int32))), .val (.int ((p5 &&& (1023 : Int32)) + (1 : Int32))), .unset, .unset, .unset, .unset, .unset, .unset, .unset, .unset] [(.int (2147483647 : Int32)), (.int p4)])) _
    refine XS.iand X3'.here hx rfl (hb hby at_60) rfl ?_
    refine XS.iload X3'.here hx rfl (hb hby at_61) rfl ?_
    refine XS.iconst X3'.here hx rfl (hb hby at_63) ?_
    refine XS.iadd X3'.here hx rfl (hb hby at_64) rfl ?_
    show Steps p.tables e below (T3.setTop (mkF m 65 #[.val (.int p0), .val (.int p1), .val (.int p2), .val (.int p3), .val (.int p4), .val (.int p5), .val (.int (p0 &&& (2147483647 : Int32))), .val (.int (p1 &&& (2147483647 : Int32))), .val (.int (own_mn (p0 &&& (2147483647 : Int32)) (p1 &&& (2147483647 : Int32)))), .val (.int (own_mx (p0 &&& (2147483647 : Int32)) (p1 &&& (2147483647 : Int32)))), .val (.int (own_mx (1 : Int32) (p2 &&& (2147483647 : Int32)))), .val (.int (p3 &&& (2147483647 : Int32))), .val (.int ((p5 &&& (1023 : Int32)) + (1 : Int32))), .unset, .unset, .unset, .unset, .unset, .unset, .unset, .unset] [(.int (((p5 &&& (1023 : Int32)) + (1 : Int32)) + (1 : Int32))), (.int (p4 &&& (2147483647 : Int32)))])) _
    refine iremM X3' hx rfl (hb hby at_65) rfl hc0 ?_
    show Steps p.tables e below (T3.setTop (mkF m 66 #[.val (.int p0), .val (.int p1), .val (.int p2), .val (.int p3), .val (.int p4), .val (.int p5), .val (.int (p0 &&& (2147483647 : Int32))), .val (.int (p1 &&& (2147483647 : Int32))), .val (.int (own_mn (p0 &&& (2147483647 : Int32)) (p1 &&& (2147483647 : Int32)))), .val (.int (own_mx (p0 &&& (2147483647 : Int32)) (p1 &&& (2147483647 : Int32)))), .val (.int (own_mx (1 : Int32) (p2 &&& (2147483647 : Int32)))), .val (.int (p3 &&& (2147483647 : Int32))), .val (.int ((p5 &&& (1023 : Int32)) + (1 : Int32))), .unset, .unset, .unset, .unset, .unset, .unset, .unset, .unset] [(.int ((p4 &&& (2147483647 : Int32)) % (((p5 &&& (1023 : Int32)) + (1 : Int32)) + (1 : Int32))))])) _
    refine XS.istore X3'.here hx rfl (hb hby at_66) rfl (l' := #[.val (.int p0), .val (.int p1), .val (.int p2), .val (.int p3), .val (.int p4), .val (.int p5), .val (.int (p0 &&& (2147483647 : Int32))), .val (.int (p1 &&& (2147483647 : Int32))), .val (.int (own_mn (p0 &&& (2147483647 : Int32)) (p1 &&& (2147483647 : Int32)))), .val (.int (own_mx (p0 &&& (2147483647 : Int32)) (p1 &&& (2147483647 : Int32)))), .val (.int (own_mx (1 : Int32) (p2 &&& (2147483647 : Int32)))), .val (.int (p3 &&& (2147483647 : Int32))), .val (.int ((p5 &&& (1023 : Int32)) + (1 : Int32))), .val (.int ((p4 &&& (2147483647 : Int32)) % (((p5 &&& (1023 : Int32)) + (1 : Int32)) + (1 : Int32)))), .unset, .unset, .unset, .unset, .unset, .unset, .unset]) rfl ?_
    refine XS.iload X3'.here hx rfl (hb hby at_68) rfl ?_
    show Steps p.tables e below (T3.setTop (mkF m 70 #[.val (.int p0), .val (.int p1), .val (.int p2), .val (.int p3), .val (.int p4), .val (.int p5), .val (.int (p0 &&& (2147483647 : Int32))), .val (.int (p1 &&& (2147483647 : Int32))), .val (.int (own_mn (p0 &&& (2147483647 : Int32)) (p1 &&& (2147483647 : Int32)))), .val (.int (own_mx (p0 &&& (2147483647 : Int32)) (p1 &&& (2147483647 : Int32)))), .val (.int (own_mx (1 : Int32) (p2 &&& (2147483647 : Int32)))), .val (.int (p3 &&& (2147483647 : Int32))), .val (.int ((p5 &&& (1023 : Int32)) + (1 : Int32))), .val (.int ((p4 &&& (2147483647 : Int32)) % (((p5 &&& (1023 : Int32)) + (1 : Int32)) + (1 : Int32)))), .unset, .unset, .unset, .unset, .unset, .unset, .unset] [(.int ((p4 &&& (2147483647 : Int32)) % (((p5 &&& (1023 : Int32)) + (1 : Int32)) + (1 : Int32))))])) _
    refine XS.i2dS X3'.here hx rfl (hb hby at_70) rfl rfl ?_
    refine XS.iload X3'.here hx rfl (hb hby at_71) rfl ?_
    show Steps p.tables e below (T3.setTop (mkF m 73 #[.val (.int p0), .val (.int p1), .val (.int p2), .val (.int p3), .val (.int p4), .val (.int p5), .val (.int (p0 &&& (2147483647 : Int32))), .val (.int (p1 &&& (2147483647 : Int32))), .val (.int (own_mn (p0 &&& (2147483647 : Int32)) (p1 &&& (2147483647 : Int32)))), .val (.int (own_mx (p0 &&& (2147483647 : Int32)) (p1 &&& (2147483647 : Int32)))), .val (.int (own_mx (1 : Int32) (p2 &&& (2147483647 : Int32)))), .val (.int (p3 &&& (2147483647 : Int32))), .val (.int ((p5 &&& (1023 : Int32)) + (1 : Int32))), .val (.int ((p4 &&& (2147483647 : Int32)) % (((p5 &&& (1023 : Int32)) + (1 : Int32)) + (1 : Int32)))), .unset, .unset, .unset, .unset, .unset, .unset, .unset] [(.int ((p5 &&& (1023 : Int32)) + (1 : Int32))), (.double (FP.i2d ((p4 &&& (2147483647 : Int32)) % (((p5 &&& (1023 : Int32)) + (1 : Int32)) + (1 : Int32)))))])) _
    refine XS.i2dS X3'.here hx rfl (hb hby at_73) rfl rfl ?_
    show Steps p.tables e below (T3.setTop (mkF m 74 #[.val (.int p0), .val (.int p1), .val (.int p2), .val (.int p3), .val (.int p4), .val (.int p5), .val (.int (p0 &&& (2147483647 : Int32))), .val (.int (p1 &&& (2147483647 : Int32))), .val (.int (own_mn (p0 &&& (2147483647 : Int32)) (p1 &&& (2147483647 : Int32)))), .val (.int (own_mx (p0 &&& (2147483647 : Int32)) (p1 &&& (2147483647 : Int32)))), .val (.int (own_mx (1 : Int32) (p2 &&& (2147483647 : Int32)))), .val (.int (p3 &&& (2147483647 : Int32))), .val (.int ((p5 &&& (1023 : Int32)) + (1 : Int32))), .val (.int ((p4 &&& (2147483647 : Int32)) % (((p5 &&& (1023 : Int32)) + (1 : Int32)) + (1 : Int32)))), .unset, .unset, .unset, .unset, .unset, .unset, .unset] [(.double (FP.i2d ((p5 &&& (1023 : Int32)) + (1 : Int32)))), (.double (FP.i2d ((p4 &&& (2147483647 : Int32)) % (((p5 &&& (1023 : Int32)) + (1 : Int32)) + (1 : Int32)))))])) _
    refine XS.ddivS X3'.here hx rfl (hb hby at_74) rfl hc1 rfl ?_
    show Steps p.tables e below (T3.setTop (mkF m 75 #[.val (.int p0), .val (.int p1), .val (.int p2), .val (.int p3), .val (.int p4), .val (.int p5), .val (.int (p0 &&& (2147483647 : Int32))), .val (.int (p1 &&& (2147483647 : Int32))), .val (.int (own_mn (p0 &&& (2147483647 : Int32)) (p1 &&& (2147483647 : Int32)))), .val (.int (own_mx (p0 &&& (2147483647 : Int32)) (p1 &&& (2147483647 : Int32)))), .val (.int (own_mx (1 : Int32) (p2 &&& (2147483647 : Int32)))), .val (.int (p3 &&& (2147483647 : Int32))), .val (.int ((p5 &&& (1023 : Int32)) + (1 : Int32))), .val (.int ((p4 &&& (2147483647 : Int32)) % (((p5 &&& (1023 : Int32)) + (1 : Int32)) + (1 : Int32)))), .unset, .unset, .unset, .unset, .unset, .unset, .unset] [(.double (FP.ddiv (FP.i2d ((p4 &&& (2147483647 : Int32)) % (((p5 &&& (1023 : Int32)) + (1 : Int32)) + (1 : Int32)))) (FP.i2d ((p5 &&& (1023 : Int32)) + (1 : Int32)))))])) _
    refine XS.dstore X3'.here hx rfl (hb hby at_75) rfl (l' := #[.val (.int p0), .val (.int p1), .val (.int p2), .val (.int p3), .val (.int p4), .val (.int p5), .val (.int (p0 &&& (2147483647 : Int32))), .val (.int (p1 &&& (2147483647 : Int32))), .val (.int (own_mn (p0 &&& (2147483647 : Int32)) (p1 &&& (2147483647 : Int32)))), .val (.int (own_mx (p0 &&& (2147483647 : Int32)) (p1 &&& (2147483647 : Int32)))), .val (.int (own_mx (1 : Int32) (p2 &&& (2147483647 : Int32)))), .val (.int (p3 &&& (2147483647 : Int32))), .val (.int ((p5 &&& (1023 : Int32)) + (1 : Int32))), .val (.int ((p4 &&& (2147483647 : Int32)) % (((p5 &&& (1023 : Int32)) + (1 : Int32)) + (1 : Int32)))), .val (.double (FP.ddiv (FP.i2d ((p4 &&& (2147483647 : Int32)) % (((p5 &&& (1023 : Int32)) + (1 : Int32)) + (1 : Int32)))) (FP.i2d ((p5 &&& (1023 : Int32)) + (1 : Int32))))), .second, .unset, .unset, .unset, .unset, .unset]) rfl ?_
    show Steps p.tables e below (T3.setTop (mkF m 77 #[.val (.int p0), .val (.int p1), .val (.int p2), .val (.int p3), .val (.int p4), .val (.int p5), .val (.int (p0 &&& (2147483647 : Int32))), .val (.int (p1 &&& (2147483647 : Int32))), .val (.int (own_mn (p0 &&& (2147483647 : Int32)) (p1 &&& (2147483647 : Int32)))), .val (.int (own_mx (p0 &&& (2147483647 : Int32)) (p1 &&& (2147483647 : Int32)))), .val (.int (own_mx (1 : Int32) (p2 &&& (2147483647 : Int32)))), .val (.int (p3 &&& (2147483647 : Int32))), .val (.int ((p5 &&& (1023 : Int32)) + (1 : Int32))), .val (.int ((p4 &&& (2147483647 : Int32)) % (((p5 &&& (1023 : Int32)) + (1 : Int32)) + (1 : Int32)))), .val (.double (FP.ddiv (FP.i2d ((p4 &&& (2147483647 : Int32)) % (((p5 &&& (1023 : Int32)) + (1 : Int32)) + (1 : Int32)))) (FP.i2d ((p5 &&& (1023 : Int32)) + (1 : Int32))))), .second, .unset, .unset, .unset, .unset, .unset] [])) _
    refine st4 _ ?_
    show Steps p.tables e below (T4.setTop (mkF m 80 #[.val (.int p0), .val (.int p1), .val (.int p2), .val (.int p3), .val (.int p4), .val (.int p5), .val (.int (p0 &&& (2147483647 : Int32))), .val (.int (p1 &&& (2147483647 : Int32))), .val (.int (own_mn (p0 &&& (2147483647 : Int32)) (p1 &&& (2147483647 : Int32)))), .val (.int (own_mx (p0 &&& (2147483647 : Int32)) (p1 &&& (2147483647 : Int32)))), .val (.int (own_mx (1 : Int32) (p2 &&& (2147483647 : Int32)))), .val (.int (p3 &&& (2147483647 : Int32))), .val (.int ((p5 &&& (1023 : Int32)) + (1 : Int32))), .val (.int ((p4 &&& (2147483647 : Int32)) % (((p5 &&& (1023 : Int32)) + (1 : Int32)) + (1 : Int32)))), .val (.double (FP.ddiv (FP.i2d ((p4 &&& (2147483647 : Int32)) % (((p5 &&& (1023 : Int32)) + (1 : Int32)) + (1 : Int32)))) (FP.i2d ((p5 &&& (1023 : Int32)) + (1 : Int32))))), .second, .unset, .unset, .unset, .unset, .unset] [(.ref b4)])) _
    refine XS.dup X4.here hx rfl (hb hby at_80) rfl rfl ?_
    refine XS.iload X4.here hx rfl (hb hby at_81) rfl ?_
    refine XS.iload X4.here hx rfl (hb hby at_83) rfl ?_
    show Steps p.tables e below (T4.setTop (mkF m 85 #[.val (.int p0), .val (.int p1), .val (.int p2), .val (.int p3), .val (.int p4), .val (.int p5), .val (.int (p0 &&& (2147483647 : Int32))), .val (.int (p1 &&& (2147483647 : Int32))), .val (.int (own_mn (p0 &&& (2147483647 : Int32)) (p1 &&& (2147483647 : Int32)))), .val (.int (own_mx (p0 &&& (2147483647 : Int32)) (p1 &&& (2147483647 : Int32)))), .val (.int (own_mx (1 : Int32) (p2 &&& (2147483647 : Int32)))), .val (.int (p3 &&& (2147483647 : Int32))), .val (.int ((p5 &&& (1023 : Int32)) + (1 : Int32))), .val (.int ((p4 &&& (2147483647 : Int32)) % (((p5 &&& (1023 : Int32)) + (1 : Int32)) + (1 : Int32)))), .val (.double (FP.ddiv (FP.i2d ((p4 &&& (2147483647 : Int32)) % (((p5 &&& (1023 : Int32)) + (1 : Int32)) + (1 : Int32)))) (FP.i2d ((p5 &&& (1023 : Int32)) + (1 : Int32))))), .second, .unset, .unset, .unset, .unset, .unset] [(.int (p3 &&& (2147483647 : Int32))), (.int (own_mx (1 : Int32) (p2 &&& (2147483647 : Int32)))), (.ref b4), (.ref b4)])) _
    refine XS.dload X4.here hx rfl (hb hby at_85) rfl ?_
    show Steps p.tables e below (T4.setTop (mkF m 87 #[.val (.int p0), .val (.int p1), .val (.int p2), .val (.int p3), .val (.int p4), .val (.int p5), .val (.int (p0 &&& (2147483647 : Int32))), .val (.int (p1 &&& (2147483647 : Int32))), .val (.int (own_mn (p0 &&& (2147483647 : Int32)) (p1 &&& (2147483647 : Int32)))), .val (.int (own_mx (p0 &&& (2147483647 : Int32)) (p1 &&& (2147483647 : Int32)))), .val (.int (own_mx (1 : Int32) (p2 &&& (2147483647 : Int32)))), .val (.int (p3 &&& (2147483647 : Int32))), .val (.int ((p5 &&& (1023 : Int32)) + (1 : Int32))), .val (.int ((p4 &&& (2147483647 : Int32)) % (((p5 &&& (1023 : Int32)) + (1 : Int32)) + (1 : Int32)))), .val (.double (FP.ddiv (FP.i2d ((p4 &&& (2147483647 : Int32)) % (((p5 &&& (1023 : Int32)) + (1 : Int32)) + (1 : Int32)))) (FP.i2d ((p5 &&& (1023 : Int32)) + (1 : Int32))))), .second, .unset, .unset, .unset, .unset, .unset] [(.double (FP.ddiv (FP.i2d ((p4 &&& (2147483647 : Int32)) % (((p5 &&& (1023 : Int32)) + (1 : Int32)) + (1 : Int32)))) (FP.i2d ((p5 &&& (1023 : Int32)) + (1 : Int32))))), (.int (p3 &&& (2147483647 : Int32))), (.int (own_mx (1 : Int32) (p2 &&& (2147483647 : Int32)))), (.ref b4), (.ref b4)])) _
    refine XS.dconst0 X4.here hx rfl (hb hby at_87) rfl ?_
    show Steps p.tables e below (T4.setTop (mkF m 88 #[.val (.int p0), .val (.int p1), .val (.int p2), .val (.int p3), .val (.int p4), .val (.int p5), .val (.int (p0 &&& (2147483647 : Int32))), .val (.int (p1 &&& (2147483647 : Int32))), .val (.int (own_mn (p0 &&& (2147483647 : Int32)) (p1 &&& (2147483647 : Int32)))), .val (.int (own_mx (p0 &&& (2147483647 : Int32)) (p1 &&& (2147483647 : Int32)))), .val (.int (own_mx (1 : Int32) (p2 &&& (2147483647 : Int32)))), .val (.int (p3 &&& (2147483647 : Int32))), .val (.int ((p5 &&& (1023 : Int32)) + (1 : Int32))), .val (.int ((p4 &&& (2147483647 : Int32)) % (((p5 &&& (1023 : Int32)) + (1 : Int32)) + (1 : Int32)))), .val (.double (FP.ddiv (FP.i2d ((p4 &&& (2147483647 : Int32)) % (((p5 &&& (1023 : Int32)) + (1 : Int32)) + (1 : Int32)))) (FP.i2d ((p5 &&& (1023 : Int32)) + (1 : Int32))))), .second, .unset, .unset, .unset, .unset, .unset] [(.double FP.dconst0), (.double (FP.ddiv (FP.i2d ((p4 &&& (2147483647 : Int32)) % (((p5 &&& (1023 : Int32)) + (1 : Int32)) + (1 : Int32)))) (FP.i2d ((p5 &&& (1023 : Int32)) + (1 : Int32))))), (.int (p3 &&& (2147483647 : Int32))), (.int (own_mx (1 : Int32) (p2 &&& (2147483647 : Int32)))), (.ref b4), (.ref b4)])) _
    refine st5.trans ?_
    show Steps p.tables e below (T5.setTop (mkF m 91 #[.val (.int p0), .val (.int p1), .val (.int p2), .val (.int p3), .val (.int p4), .val (.int p5), .val (.int (p0 &&& (2147483647 : Int32))), .val (.int (p1 &&& (2147483647 : Int32))), .val (.int (own_mn (p0 &&& (2147483647 : Int32)) (p1 &&& (2147483647 : Int32)))), .val (.int (own_mx (p0 &&& (2147483647 : Int32)) (p1 &&& (2147483647 : Int32)))), .val (.int (own_mx (1 : Int32) (p2 &&& (2147483647 : Int32)))), .val (.int (p3 &&& (2147483647 : Int32))), .val (.int ((p5 &&& (1023 : Int32)) + (1 : Int32))), .val (.int ((p4 &&& (2147483647 : Int32)) % (((p5 &&& (1023 : Int32)) + (1 : Int32)) + (1 : Int32)))), .val (.double (FP.ddiv (FP.i2d ((p4 &&& (2147483647 : Int32)) % (((p5 &&& (1023 : Int32)) + (1 : Int32)) + (1 : Int32)))) (FP.i2d ((p5 &&& (1023 : Int32)) + (1 : Int32))))), .second, .unset, .unset, .unset, .unset, .unset] [(.ref b4)])) _
    refine XS.astore X5'.here hx rfl (hb hby at_91) rfl rfl (l' := #[.val (.int p0), .val (.int p1), .val (.int p2), .val (.int p3), .val (.int p4), .val (.int p5), .val (.int (p0 &&& (2147483647 : Int32))), .val (.int (p1 &&& (2147483647 : Int32))), .val (.int (own_mn (p0 &&& (2147483647 : Int32)) (p1 &&& (2147483647 : Int32)))), .val (.int (own_mx (p0 &&& (2147483647 : Int32)) (p1 &&& (2147483647 : Int32)))), .val (.int (own_mx (1 : Int32) (p2 &&& (2147483647 : Int32)))), .val (.int (p3 &&& (2147483647 : Int32))), .val (.int ((p5 &&& (1023 : Int32)) + (1 : Int32))), .val (.int ((p4 &&& (2147483647 : Int32)) % (((p5 &&& (1023 : Int32)) + (1 : Int32)) + (1 : Int32)))), .val (.double (FP.ddiv (FP.i2d ((p4 &&& (2147483647 : Int32)) % (((p5 &&& (1023 : Int32)) + (1 : Int32)) + (1 : Int32)))) (FP.i2d ((p5 &&& (1023 : Int32)) + (1 : Int32))))), .second, .val (.ref b4), .unset, .unset, .unset, .unset]) rfl ?_
    refine XS.aload X5'.here hx rfl (hb hby at_93) rfl rfl ?_
    refine XS.iload X5'.here hx rfl (hb hby at_95) rfl ?_
    refine XS.iload X5'.here hx rfl (hb hby at_97) rfl ?_
    show Steps p.tables e below (T5.setTop (mkF m 99 #[.val (.int p0), .val (.int p1), .val (.int p2), .val (.int p3), .val (.int p4), .val (.int p5), .val (.int (p0 &&& (2147483647 : Int32))), .val (.int (p1 &&& (2147483647 : Int32))), .val (.int (own_mn (p0 &&& (2147483647 : Int32)) (p1 &&& (2147483647 : Int32)))), .val (.int (own_mx (p0 &&& (2147483647 : Int32)) (p1 &&& (2147483647 : Int32)))), .val (.int (own_mx (1 : Int32) (p2 &&& (2147483647 : Int32)))), .val (.int (p3 &&& (2147483647 : Int32))), .val (.int ((p5 &&& (1023 : Int32)) + (1 : Int32))), .val (.int ((p4 &&& (2147483647 : Int32)) % (((p5 &&& (1023 : Int32)) + (1 : Int32)) + (1 : Int32)))), .val (.double (FP.ddiv (FP.i2d ((p4 &&& (2147483647 : Int32)) % (((p5 &&& (1023 : Int32)) + (1 : Int32)) + (1 : Int32)))) (FP.i2d ((p5 &&& (1023 : Int32)) + (1 : Int32))))), .second, .val (.ref b4), .unset, .unset, .unset, .unset] [(.int (own_mx (p0 &&& (2147483647 : Int32)) (p1 &&& (2147483647 : Int32)))), (.int (own_mn (p0 &&& (2147483647 : Int32)) (p1 &&& (2147483647 : Int32)))), (.ref b4)])) _
    refine st6.trans ?_
    show Steps p.tables e below (T6.setTop (mkF m 102 #[.val (.int p0), .val (.int p1), .val (.int p2), .val (.int p3), .val (.int p4), .val (.int p5), .val (.int (p0 &&& (2147483647 : Int32))), .val (.int (p1 &&& (2147483647 : Int32))), .val (.int (own_mn (p0 &&& (2147483647 : Int32)) (p1 &&& (2147483647 : Int32)))), .val (.int (own_mx (p0 &&& (2147483647 : Int32)) (p1 &&& (2147483647 : Int32)))), .val (.int (own_mx (1 : Int32) (p2 &&& (2147483647 : Int32)))), .val (.int (p3 &&& (2147483647 : Int32))), .val (.int ((p5 &&& (1023 : Int32)) + (1 : Int32))), .val (.int ((p4 &&& (2147483647 : Int32)) % (((p5 &&& (1023 : Int32)) + (1 : Int32)) + (1 : Int32)))), .val (.double (FP.ddiv (FP.i2d ((p4 &&& (2147483647 : Int32)) % (((p5 &&& (1023 : Int32)) + (1 : Int32)) + (1 : Int32)))) (FP.i2d ((p5 &&& (1023 : Int32)) + (1 : Int32))))), .second, .val (.ref b4), .unset, .unset, .unset, .unset] [(.int (0 : Int32))])) _
    refine XS.istore X6'.here hx rfl (hb hby at_102) rfl (l' := #[.val (.int p0), .val (.int p1), .val (.int p2), .val (.int p3), .val (.int p4), .val (.int p5), .val (.int (p0 &&& (2147483647 : Int32))), .val (.int (p1 &&& (2147483647 : Int32))), .val (.int (own_mn (p0 &&& (2147483647 : Int32)) (p1 &&& (2147483647 : Int32)))), .val (.int (own_mx (p0 &&& (2147483647 : Int32)) (p1 &&& (2147483647 : Int32)))), .val (.int (own_mx (1 : Int32) (p2 &&& (2147483647 : Int32)))), .val (.int (p3 &&& (2147483647 : Int32))), .val (.int ((p5 &&& (1023 : Int32)) + (1 : Int32))), .val (.int ((p4 &&& (2147483647 : Int32)) % (((p5 &&& (1023 : Int32)) + (1 : Int32)) + (1 : Int32)))), .val (.double (FP.ddiv (FP.i2d ((p4 &&& (2147483647 : Int32)) % (((p5 &&& (1023 : Int32)) + (1 : Int32)) + (1 : Int32)))) (FP.i2d ((p5 &&& (1023 : Int32)) + (1 : Int32))))), .second, .val (.ref b4), .val (.int (0 : Int32)), .unset, .unset, .unset]) rfl ?_
    refine XS.iload X6'.here hx rfl (hb hby at_104) rfl ?_
    refine XS.i2l X6'.here hx rfl (hb hby at_106) rfl ?_
    refine XS.iload X6'.here hx rfl (hb hby at_107) rfl ?_
    refine XS.i2l X6'.here hx rfl (hb hby at_109) rfl ?_
    show Steps p.tables e below (T6.setTop (mkF m 110 #[.val (.int p0), .val (.int p1), .val (.int p2), .val (.int p3), .val (.int p4), .val (.int p5), .val (.int (p0 &&& (2147483647 : Int32))), .val (.int (p1 &&& (2147483647 : Int32))), .val (.int (own_mn (p0 &&& (2147483647 : Int32)) (p1 &&& (2147483647 : Int32)))), .val (.int (own_mx (p0 &&& (2147483647 : Int32)) (p1 &&& (2147483647 : Int32)))), .val (.int (own_mx (1 : Int32) (p2 &&& (2147483647 : Int32)))), .val (.int (p3 &&& (2147483647 : Int32))), .val (.int ((p5 &&& (1023 : Int32)) + (1 : Int32))), .val (.int ((p4 &&& (2147483647 : Int32)) % (((p5 &&& (1023 : Int32)) + (1 : Int32)) + (1 : Int32)))), .val (.double (FP.ddiv (FP.i2d ((p4 &&& (2147483647 : Int32)) % (((p5 &&& (1023 : Int32)) + (1 : Int32)) + (1 : Int32)))) (FP.i2d ((p5 &&& (1023 : Int32)) + (1 : Int32))))), .second, .val (.ref b4), .val (.int (0 : Int32)), .unset, .unset, .unset] [(.long ((own_mn (p0 &&& (2147483647 : Int32)) (p1 &&& (2147483647 : Int32))).toInt64)), (.long ((own_mx (p0 &&& (2147483647 : Int32)) (p1 &&& (2147483647 : Int32))).toInt64))])) _
    refine XS.lsub X6'.here hx rfl (hb hby at_110) rfl ?_
    refine XS.lstore X6'.here hx rfl (hb hby at_111) rfl (l' := #[.val (.int p0), .val (.int p1), .val (.int p2), .val (.int p3), .val (.int p4), .val (.int p5), .val (.int (p0 &&& (2147483647 : Int32))), .val (.int (p1 &&& (2147483647 : Int32))), .val (.int (own_mn (p0 &&& (2147483647 : Int32)) (p1 &&& (2147483647 : Int32)))), .val (.int (own_mx (p0 &&& (2147483647 : Int32)) (p1 &&& (2147483647 : Int32)))), .val (.int (own_mx (1 : Int32) (p2 &&& (2147483647 : Int32)))), .val (.int (p3 &&& (2147483647 : Int32))), .val (.int ((p5 &&& (1023 : Int32)) + (1 : Int32))), .val (.int ((p4 &&& (2147483647 : Int32)) % (((p5 &&& (1023 : Int32)) + (1 : Int32)) + (1 : Int32)))), .val (.double (FP.ddiv (FP.i2d ((p4 &&& (2147483647 : Int32)) % (((p5 &&& (1023 : Int32)) + (1 : Int32)) + (1 : Int32)))) (FP.i2d ((p5 &&& (1023 : Int32)) + (1 : Int32))))), .second, .val (.ref b4), .val (.int (0 : Int32)), .val (.long (((own_mx (p0 &&& (2147483647 : Int32)) (p1 &&& (2147483647 : Int32))).toInt64) - ((own_mn (p0 &&& (2147483647 : Int32)) (p1 &&& (2147483647 : Int32))).toInt64))), .second, .unset]) rfl ?_
    refine XS.iload X6'.here hx rfl (hb hby at_113) rfl ?_
    refine XS.iload X6'.here hx rfl (hb hby at_115) rfl ?_
    refine XS.icmpNo X6'.here hx rfl (hb hby at_117) rfl (flt hc8).1 ?_
    refine XS.lload X6'.here hx rfl (hb hby at_120) rfl ?_
    refine XS.iload X6'.here hx rfl (hb hby at_122) rfl ?_
    refine XS.i2l X6'.here hx rfl (hb hby at_124) rfl ?_
    refine XS.lcmp X6'.here hx rfl (hb hby at_125) rfl ?_
    refine XS.ifYes X6'.here hx rfl (pc0 := 126) (pc' := 150) rfl (hb hby at_126) rfl ((if0 _ _).trans (tlt hc10).1) (by decide) (by decide) ?_
    refine XS.iconst X6'.here hx rfl (hb hby at_150) ?_
    refine XS.istore X6'.here hx rfl (hb hby at_151) rfl (l' := #[.val (.int p0), .val (.int p1), .val (.int p2), .val (.int p3), .val (.int p4), .val (.int p5), .val (.int (p0 &&& (2147483647 : Int32))), .val (.int (p1 &&& (2147483647 : Int32))), .val (.int (own_mn (p0 &&& (2147483647 : Int32)) (p1 &&& (2147483647 : Int32)))), .val (.int (own_mx (p0 &&& (2147483647 : Int32)) (p1 &&& (2147483647 : Int32)))), .val (.int (own_mx (1 : Int32) (p2 &&& (2147483647 : Int32)))), .val (.int (p3 &&& (2147483647 : Int32))), .val (.int ((p5 &&& (1023 : Int32)) + (1 : Int32))), .val (.int ((p4 &&& (2147483647 : Int32)) % (((p5 &&& (1023 : Int32)) + (1 : Int32)) + (1 : Int32)))), .val (.double (FP.ddiv (FP.i2d ((p4 &&& (2147483647 : Int32)) % (((p5 &&& (1023 : Int32)) + (1 : Int32)) + (1 : Int32)))) (FP.i2d ((p5 &&& (1023 : Int32)) + (1 : Int32))))), .second, .val (.ref b4), .val (.int (0 : Int32)), .val (.long (((own_mx (p0 &&& (2147483647 : Int32)) (p1 &&& (2147483647 : Int32))).toInt64) - ((own_mn (p0 &&& (2147483647 : Int32)) (p1 &&& (2147483647 : Int32))).toInt64))), .second, .val (.int (0 : Int32))]) rfl ?_
    refine XS.iload X6'.here hx rfl (hb hby at_153) rfl ?_
    show Steps p.tables e below (T6.setTop (mkF m 155 #[.val (.int p0), .val (.int p1), .val (.int p2), .val (.int p3), .val (.int p4), .val (.int p5), .val (.int (p0 &&& (2147483647 : Int32))), .val (.int (p1 &&& (2147483647 : Int32))), .val (.int (own_mn (p0 &&& (2147483647 : Int32)) (p1 &&& (2147483647 : Int32)))), .val (.int (own_mx (p0 &&& (2147483647 : Int32)) (p1 &&& (2147483647 : Int32)))), .val (.int (own_mx (1 : Int32) (p2 &&& (2147483647 : Int32)))), .val (.int (p3 &&& (2147483647 : Int32))), .val (.int ((p5 &&& (1023 : Int32)) + (1 : Int32))), .val (.int ((p4 &&& (2147483647 : Int32)) % (((p5 &&& (1023 : Int32)) + (1 : Int32)) + (1 : Int32)))), .val (.double (FP.ddiv (FP.i2d ((p4 &&& (2147483647 : Int32)) % (((p5 &&& (1023 : Int32)) + (1 : Int32)) + (1 : Int32)))) (FP.i2d ((p5 &&& (1023 : Int32)) + (1 : Int32))))), .second, .val (.ref b4), .val (.int (0 : Int32)), .val (.long (((own_mx (p0 &&& (2147483647 : Int32)) (p1 &&& (2147483647 : Int32))).toInt64) - ((own_mn (p0 &&& (2147483647 : Int32)) (p1 &&& (2147483647 : Int32))).toInt64))), .second, .val (.int (0 : Int32))] [(.int (0 : Int32))])) _
    refine XS.iload X6'.here hx rfl (hb hby at_155) rfl ?_
    refine XS.icmpNo X6'.here hx rfl (hb hby at_157) rfl (teq (by decide : (0 : Int32) = (0 : Int32))).2 ?_
    refine XS.iconst X6'.here hx rfl (hb hby at_160) ?_
    refine XS.goto X6'.here hx rfl (pc0 := 161) (pc' := 165) rfl (hb hby at_161) (by decide) (by decide) ?_
    show Steps p.tables e below (T6.setTop (mkF m 165 #[.val (.int p0), .val (.int p1), .val (.int p2), .val (.int p3), .val (.int p4), .val (.int p5), .val (.int (p0 &&& (2147483647 : Int32))), .val (.int (p1 &&& (2147483647 : Int32))), .val (.int (own_mn (p0 &&& (2147483647 : Int32)) (p1 &&& (2147483647 : Int32)))), .val (.int (own_mx (p0 &&& (2147483647 : Int32)) (p1 &&& (2147483647 : Int32)))), .val (.int (own_mx (1 : Int32) (p2 &&& (2147483647 : Int32)))), .val (.int (p3 &&& (2147483647 : Int32))), .val (.int ((p5 &&& (1023 : Int32)) + (1 : Int32))), .val (.int ((p4 &&& (2147483647 : Int32)) % (((p5 &&& (1023 : Int32)) + (1 : Int32)) + (1 : Int32)))), .val (.double (FP.ddiv (FP.i2d ((p4 &&& (2147483647 : Int32)) % (((p5 &&& (1023 : Int32)) + (1 : Int32)) + (1 : Int32)))) (FP.i2d ((p5 &&& (1023 : Int32)) + (1 : Int32))))), .second, .val (.ref b4), .val (.int (0 : Int32)), .val (.long (((own_mx (p0 &&& (2147483647 : Int32)) (p1 &&& (2147483647 : Int32))).toInt64) - ((own_mn (p0 &&& (2147483647 : Int32)) (p1 &&& (2147483647 : Int32))).toInt64))), .second, .val (.int (0 : Int32))] [(.int (1 : Int32))])) _
    exact retN X6' hx (t := .boolean) Bd.returns (by simp) (hb hby at_165) hr
  · show Q0b Z p0 p1 p2 p3 p4 p5 h0 n0 _ T6.heap _
    rw [e6]
    exact ⟨rfl, N6⟩
theorem ef_rm0c (m : MethodId) (p0 : Int32) (p1 : Int32) (p2 : Int32) (p3 : Int32) (p4 : Int32) (p5 : Int32) : entryFrame m #[(.int p0), (.int p1), (.int p2), (.int p3), (.int p4), (.int p5)] maxLocals = mkF m 0 #[.val (.int p0), .val (.int p1), .val (.int p2), .val (.int p3), .val (.int p4), .val (.int p5), .unset, .unset, .unset, .unset, .unset, .unset, .unset, .unset, .unset, .unset, .unset, .unset, .unset, .unset, .unset] [] := by first | (simp [entryFrame, mkF, argsToLocals, Value.category, maxLocals]; done) | rfl
def Q0c (Z : State) (p0 : Int32) (p1 : Int32) (p2 : Int32) (p3 : Int32) (p4 : Int32) (p5 : Int32) (h0 : Heap) (n0 : Nat) (v : Option Value) (h : Heap) (L : List Loc) : Prop := v = some (.int (1 : Int32)) ∧ Fr n0 L
set_option maxRecDepth 65536 in
set_option maxHeartbeats 40000000 in
theorem rm0c (l : Launch) (Z : State) (az : Array Value) (hw : ∀ d ∈ tables_1, d.before az Z = true) (ws : List Jvm.Cond) (p0 : Int32) (p1 : Int32) (p2 : Int32) (p3 : Int32) (p4 : Int32) (p5 : Int32) (h0 : Heap) (n0 : Nat) (Z0 : n0 ≤ h0.size) (hc0 : (((p5 &&& (1023 : Int32)) + (1 : Int32)) + (1 : Int32)) ≠ (0 : Int32)) (hc1 : Jvm.Free.Fl.NoNaN64 (FP.ddiv (FP.i2d ((p4 &&& (2147483647 : Int32)) % (((p5 &&& (1023 : Int32)) + (1 : Int32)) + (1 : Int32)))) (FP.i2d ((p5 &&& (1023 : Int32)) + (1 : Int32))))) (hc2 : ¬ ((own_mx (1 : Int32) (p2 &&& (2147483647 : Int32))) < (1 : Int32))) (hc3 : ¬ ((p3 &&& (2147483647 : Int32)) < (0 : Int32))) (hc4 : ¬ ((cmpValue (FP.dcmp (FP.ddiv (FP.i2d ((p4 &&& (2147483647 : Int32)) % (((p5 &&& (1023 : Int32)) + (1 : Int32)) + (1 : Int32)))) (FP.i2d ((p5 &&& (1023 : Int32)) + (1 : Int32)))) FP.dconst0) .l) < (0 : Int32))) (hc5 : ¬ ((0 : Int32) < (cmpValue (FP.dcmp (FP.ddiv (FP.i2d ((p4 &&& (2147483647 : Int32)) % (((p5 &&& (1023 : Int32)) + (1 : Int32)) + (1 : Int32)))) (FP.i2d ((p5 &&& (1023 : Int32)) + (1 : Int32)))) FP.dconst1) .g))) (hc6 : ¬ ((cmpValue (FP.dcmp FP.dconst0 FP.dconst0) .l) < (0 : Int32))) (hc7 : (cmpValue (FP.dcmp FP.dconst0 FP.dconst1) .g) < (0 : Int32)) (hc8 : ¬ ((own_mn (p0 &&& (2147483647 : Int32)) (p1 &&& (2147483647 : Int32))) < (own_mx (1 : Int32) (p2 &&& (2147483647 : Int32))))) (hc9 : ¬ (((own_mx (p0 &&& (2147483647 : Int32)) (p1 &&& (2147483647 : Int32))) - (own_mn (p0 &&& (2147483647 : Int32)) (p1 &&& (2147483647 : Int32)))) < (p3 &&& (2147483647 : Int32)))) (hc10 : Jvm.Free.Fl.NoNaN64 (FP.ddiv (FP.i2d ((own_mx (p0 &&& (2147483647 : Int32)) (p1 &&& (2147483647 : Int32))) - (own_mn (p0 &&& (2147483647 : Int32)) (p1 &&& (2147483647 : Int32))))) (FP.i2d (own_mx (p0 &&& (2147483647 : Int32)) (p1 &&& (2147483647 : Int32)))))) (hc11 : (cmpValue (FP.dcmp (FP.ddiv (FP.i2d ((own_mx (p0 &&& (2147483647 : Int32)) (p1 &&& (2147483647 : Int32))) - (own_mn (p0 &&& (2147483647 : Int32)) (p1 &&& (2147483647 : Int32))))) (FP.i2d (own_mx (p0 &&& (2147483647 : Int32)) (p1 &&& (2147483647 : Int32))))) (FP.ddiv (FP.i2d ((p4 &&& (2147483647 : Int32)) % (((p5 &&& (1023 : Int32)) + (1 : Int32)) + (1 : Int32)))) (FP.i2d ((p5 &&& (1023 : Int32)) + (1 : Int32))))) .l) < (0 : Int32)) (hc12 : ¬ ((lcmpW (((own_mx (p0 &&& (2147483647 : Int32)) (p1 &&& (2147483647 : Int32))).toInt64) - ((own_mn (p0 &&& (2147483647 : Int32)) (p1 &&& (2147483647 : Int32))).toInt64)) ((p3 &&& (2147483647 : Int32)).toInt64)) < (0 : Int32))) (hc13 : (lcmpW ((((own_mx (p0 &&& (2147483647 : Int32)) (p1 &&& (2147483647 : Int32))).toInt64) - ((own_mn (p0 &&& (2147483647 : Int32)) (p1 &&& (2147483647 : Int32))).toInt64)) * (((p5 &&& (1023 : Int32)) + (1 : Int32)).toInt64)) ((((p4 &&& (2147483647 : Int32)) % (((p5 &&& (1023 : Int32)) + (1 : Int32)) + (1 : Int32))).toInt64) * ((own_mx (p0 &&& (2147483647 : Int32)) (p1 &&& (2147483647 : Int32))).toInt64))) < (0 : Int32)) :
    MetFree l x (head1 (Jvm.Cond.code x code maxLocals ret :: ws) room_1) (fun a U => a = #[(.int p0), (.int p1), (.int p2), (.int p3), (.int p4), (.int p5)] ∧ Z.Warmed39 U.vm ∧ U.heap = h0) (fun _ _ _ _ _ => True) (fun _ U o U' => ∃ v L, o = .returned v ∧ Q0c Z p0 p1 p2 p3 p4 p5 h0 n0 v U'.heap L ∧ FrameEnd U o U' L room_1.cells room_1.slots) := by
  refine MetFree.of_bodySF (plainFor_of_name pn_com_example_headlattice_headlattice_learn_LimitsAllowsConditionPinLaw) hisR ?_
  intro p e s m args below meth c s₁ Bd hml0 hP hK
  obtain ⟨rfl, hZ, hh⟩ := hP
  have hx := Bd.exec
  have hby := Bd.bytes
  have hml : c.maxLocals = 21 := hml0
  have hown : s.vm.findClass "com/example/headlattice/headlattice/learn/LimitsAllowsConditionPinLaw" = some m.cls := findClass_of_methodNamed Bd.named
  have hnm := (name_of_methodNamed Bd.named Bd.method).1
  have X0 : Stand p l e room_1 s m #[(.int p0), (.int p1), (.int p2), (.int p3), (.int p4), (.int p5)] below meth c s₁ [] 0 0 := Stand.of_body Bd
  have e0 : s₁.heap = h0 := by rw [← hh, Bd.state]; rfl
  have N0 := Fr.nil n0
  have pre0 : ∀ t, Steps p.tables e below (s₁.setTop (mkF m 0 #[.val (.int p0), .val (.int p1), .val (.int p2), .val (.int p3), .val (.int p4), .val (.int p5), .unset, .unset, .unset, .unset, .unset, .unset, .unset, .unset, .unset, .unset, .unset, .unset, .unset, .unset, .unset] [])) t → Steps p.tables e below (s₁.setTop (entryFrame m #[(.int p0), (.int p1), (.int p2), (.int p3), (.int p4), (.int p5)] maxLocals)) t := fun t k => castTop (ef_rm0c m p0 p1 p2 p3 p4 p5) k
  obtain ⟨_, _, ⟨T1, L1, k1', n1'⟩, -, X1, ⟨Lc1, hQ1, l1, y1, z1⟩, st1⟩ := Jvm.LawKit.callS X0 hx (y := (⟨"java/lang/Math", "min", "(II)I"⟩ : MethodName)) hown (mvT hZ (w1 hw)) (mvT hZ (w2 hw)) (mvT hZ (w3 hw)) (mvT hZ (w4 hw)) (by decide) (backOf (W := 0) (rmMN l Z az hw [] (p0 &&& (2147483647 : Int32)) (p1 &&& (2147483647 : Int32)) h0 n0 Z0) hZ (w4 hw) (w3 hw) (by decide) (by decide)) (g := (mkF m 16 #[.val (.int p0), .val (.int p1), .val (.int p2), .val (.int p3), .val (.int p4), .val (.int p5), .val (.int (p0 &&& (2147483647 : Int32))), .val (.int (p1 &&& (2147483647 : Int32))), .unset, .unset, .unset, .unset, .unset, .unset, .unset, .unset, .unset, .unset, .unset, .unset, .unset] [(.int (p1 &&& (2147483647 : Int32))), (.int (p0 &&& (2147483647 : Int32)))])) rfl (by rw [hml]; rfl) (argsL := [(.int (p0 &&& (2147483647 : Int32))), (.int (p1 &&& (2147483647 : Int32)))]) (rest := []) (lenOf pd_1 rfl) rfl (by show 2 * 0 + _ ≤ _; exact Nat.le_of_eq rfl) (hb hby at_16) (fun _ _ => ⟨rfl, e0, (by decide : 0 + 0 ≤ _), (by decide : 0 + 0 ≤ _)⟩)
  dsimp only [Pt.U, Pt.locs, Pt.cells, Pt.slots] at X1 l1 y1 z1 st1 hQ1
  subst l1 y1 z1
  obtain ⟨rfl, N1q, e1⟩ := hQ1
  obtain ⟨Lg1, X1', N1⟩ := own_gen X1 (Fr.app N0 N1q)
  obtain ⟨_, _, ⟨T2, L2, k2', n2'⟩, -, X2, ⟨Lc2, hQ2, l2, y2, z2⟩, st2⟩ := Jvm.LawKit.callS X1' hx (y := (⟨"java/lang/Math", "max", "(II)I"⟩ : MethodName)) hown (mvT hZ (w5 hw)) (mvT hZ (w6 hw)) (mvT hZ (w3 hw)) (mvT hZ (w7 hw)) (by decide) (backOf (W := 0) (rmMX l Z az hw [] (p0 &&& (2147483647 : Int32)) (p1 &&& (2147483647 : Int32)) h0 n0 Z0) hZ (w7 hw) (w3 hw) (by decide) (by decide)) (g := (mkF m 25 #[.val (.int p0), .val (.int p1), .val (.int p2), .val (.int p3), .val (.int p4), .val (.int p5), .val (.int (p0 &&& (2147483647 : Int32))), .val (.int (p1 &&& (2147483647 : Int32))), .val (.int (own_mn (p0 &&& (2147483647 : Int32)) (p1 &&& (2147483647 : Int32)))), .unset, .unset, .unset, .unset, .unset, .unset, .unset, .unset, .unset, .unset, .unset, .unset] [(.int (p1 &&& (2147483647 : Int32))), (.int (p0 &&& (2147483647 : Int32)))])) rfl (by rw [hml]; rfl) (argsL := [(.int (p0 &&& (2147483647 : Int32))), (.int (p1 &&& (2147483647 : Int32)))]) (rest := []) (lenOf pd_1 rfl) rfl (by show 2 * 0 + _ ≤ _; exact Nat.le_of_eq rfl) (hb hby at_25) (fun _ _ => ⟨rfl, e1, (by decide : 0 + 0 ≤ _), (by decide : 0 + 0 ≤ _)⟩)
  dsimp only [Pt.U, Pt.locs, Pt.cells, Pt.slots] at X2 l2 y2 z2 st2 hQ2
  subst l2 y2 z2
  obtain ⟨rfl, N2q, e2⟩ := hQ2
  obtain ⟨Lg2, X2', N2⟩ := own_gen X2 (Fr.app N1 N2q)
  obtain ⟨_, _, ⟨T3, L3, k3', n3'⟩, -, X3, ⟨Lc3, hQ3, l3, y3, z3⟩, st3⟩ := Jvm.LawKit.callS X2' hx (y := (⟨"java/lang/Math", "max", "(II)I"⟩ : MethodName)) hown (mvT hZ (w5 hw)) (mvT hZ (w6 hw)) (mvT hZ (w3 hw)) (mvT hZ (w7 hw)) (by decide) (backOf (W := 0) (rmMX l Z az hw [] (1 : Int32) (p2 &&& (2147483647 : Int32)) h0 n0 Z0) hZ (w7 hw) (w3 hw) (by decide) (by decide)) (g := (mkF m 35 #[.val (.int p0), .val (.int p1), .val (.int p2), .val (.int p3), .val (.int p4), .val (.int p5), .val (.int (p0 &&& (2147483647 : Int32))), .val (.int (p1 &&& (2147483647 : Int32))), .val (.int (own_mn (p0 &&& (2147483647 : Int32)) (p1 &&& (2147483647 : Int32)))), .val (.int (own_mx (p0 &&& (2147483647 : Int32)) (p1 &&& (2147483647 : Int32)))), .unset, .unset, .unset, .unset, .unset, .unset, .unset, .unset, .unset, .unset, .unset] [(.int (p2 &&& (2147483647 : Int32))), (.int (1 : Int32))])) rfl (by rw [hml]; rfl) (argsL := [(.int (1 : Int32)), (.int (p2 &&& (2147483647 : Int32)))]) (rest := []) (lenOf pd_1 rfl) rfl (by show 2 * 0 + _ ≤ _; exact Nat.le_of_eq rfl) (hb hby at_35) (fun _ _ => ⟨rfl, e2, (by decide : 0 + 0 ≤ _), (by decide : 0 + 0 ≤ _)⟩)
  dsimp only [Pt.U, Pt.locs, Pt.cells, Pt.slots] at X3 l3 y3 z3 st3 hQ3
  subst l3 y3 z3
  obtain ⟨rfl, N3q, e3⟩ := hQ3
  obtain ⟨Lg3, X3', N3⟩ := own_gen X3 (Fr.app N2 N3q)
  obtain ⟨T4, h4, X4, e4, E4, A4, D4, -, st4⟩ := newO X3' hx hZ hown (w8 hw) (w9 hw) (w10 hw) e3 (g := (mkF m 77 #[.val (.int p0), .val (.int p1), .val (.int p2), .val (.int p3), .val (.int p4), .val (.int p5), .val (.int (p0 &&& (2147483647 : Int32))), .val (.int (p1 &&& (2147483647 : Int32))), .val (.int (own_mn (p0 &&& (2147483647 : Int32)) (p1 &&& (2147483647 : Int32)))), .val (.int (own_mx (p0 &&& (2147483647 : Int32)) (p1 &&& (2147483647 : Int32)))), .val (.int (own_mx (1 : Int32) (p2 &&& (2147483647 : Int32)))), .val (.int (p3 &&& (2147483647 : Int32))), .val (.int ((p5 &&& (1023 : Int32)) + (1 : Int32))), .val (.int ((p4 &&& (2147483647 : Int32)) % (((p5 &&& (1023 : Int32)) + (1 : Int32)) + (1 : Int32)))), .val (.double (FP.ddiv (FP.i2d ((p4 &&& (2147483647 : Int32)) % (((p5 &&& (1023 : Int32)) + (1 : Int32)) + (1 : Int32)))) (FP.i2d ((p5 &&& (1023 : Int32)) + (1 : Int32))))), .second, .unset, .unset, .unset, .unset, .unset] [])) rfl (hb hby at_77) (by decide) (by decide)
  obtain ⟨b4, g4⟩ : ∃ z, z = h0.size := ⟨_, rfl⟩
  rw [← g4] at A4 D4 st4
  have g_b4 : n0 ≤ b4 := Nat.le_trans Z0 (Nat.le_of_eq g4.symm)
  have sz_b4 : h0.size ≤ b4 := Nat.le_trans (Nat.le_refl _) (Nat.le_of_eq g4.symm)
  have Z4 : n0 ≤ h4.size := Nat.le_trans Z0 E4.1
  have K4 : Keep h0 h4 [] := (Keep.refl h0 []).ext E4
  have E_b4 := A4
  have F_minCovered_b4 : Fld Z h4 b4 cLM "minCovered" "I" (.int (0 : Int32)) := D4 (Or.inr (w23 hw)) (ty := .int) (by decide)
  have F_minExcluded_b4 : Fld Z h4 b4 cLM "minExcluded" "I" (.int (0 : Int32)) := D4 (Or.inr (w25 hw)) (ty := .int) (by decide)
  have F_minExcludedShare_b4 : Fld Z h4 b4 cLM "minExcludedShare" "D" (.double (0 : UInt64)) := D4 (Or.inr (w27 hw)) (ty := .double) (by decide)
  have F_minPrecision_b4 : Fld Z h4 b4 cLM "minPrecision" "D" (.double (0 : UInt64)) := D4 (Or.inr (w29 hw)) (ty := .double) (by decide)
  obtain ⟨_, _, ⟨T5, L5, k5', n5'⟩, -, X5, ⟨Lc5, hQ5, l5, y5, z5⟩, st5⟩ := X4.specialBack hx (y := (⟨cLM, "<init>", "(IIDD)V"⟩ : MethodName)) rfl hown (mvT hZ (w11 hw)) (mvT hZ (w12 hw)) (mvT hZ (w13 hw)) (by decide) (backOf (W := 1) (rm3 l Z az hw [] b4 (own_mx (1 : Int32) (p2 &&& (2147483647 : Int32))) (p3 &&& (2147483647 : Int32)) (FP.ddiv (FP.i2d ((p4 &&& (2147483647 : Int32)) % (((p5 &&& (1023 : Int32)) + (1 : Int32)) + (1 : Int32)))) (FP.i2d ((p5 &&& (1023 : Int32)) + (1 : Int32)))) FP.dconst0 h4 n0 Z4 E_b4 F_minCovered_b4 F_minExcluded_b4 F_minExcludedShare_b4 F_minPrecision_b4 hc2 hc3 hc4 hc5 hc6 hc7 g_b4) hZ (w13 hw) (w10 hw) (by decide) (by decide)) (g := (mkF m 88 #[.val (.int p0), .val (.int p1), .val (.int p2), .val (.int p3), .val (.int p4), .val (.int p5), .val (.int (p0 &&& (2147483647 : Int32))), .val (.int (p1 &&& (2147483647 : Int32))), .val (.int (own_mn (p0 &&& (2147483647 : Int32)) (p1 &&& (2147483647 : Int32)))), .val (.int (own_mx (p0 &&& (2147483647 : Int32)) (p1 &&& (2147483647 : Int32)))), .val (.int (own_mx (1 : Int32) (p2 &&& (2147483647 : Int32)))), .val (.int (p3 &&& (2147483647 : Int32))), .val (.int ((p5 &&& (1023 : Int32)) + (1 : Int32))), .val (.int ((p4 &&& (2147483647 : Int32)) % (((p5 &&& (1023 : Int32)) + (1 : Int32)) + (1 : Int32)))), .val (.double (FP.ddiv (FP.i2d ((p4 &&& (2147483647 : Int32)) % (((p5 &&& (1023 : Int32)) + (1 : Int32)) + (1 : Int32)))) (FP.i2d ((p5 &&& (1023 : Int32)) + (1 : Int32))))), .second, .unset, .unset, .unset, .unset, .unset] [(.double FP.dconst0), (.double (FP.ddiv (FP.i2d ((p4 &&& (2147483647 : Int32)) % (((p5 &&& (1023 : Int32)) + (1 : Int32)) + (1 : Int32)))) (FP.i2d ((p5 &&& (1023 : Int32)) + (1 : Int32))))), (.int (p3 &&& (2147483647 : Int32))), (.int (own_mx (1 : Int32) (p2 &&& (2147483647 : Int32)))), (.ref b4), (.ref b4)])) rfl (by rw [hml]; rfl) (Steps.refl _) (a := b4) (argsL := [(.int (own_mx (1 : Int32) (p2 &&& (2147483647 : Int32)))), (.int (p3 &&& (2147483647 : Int32))), (.double (FP.ddiv (FP.i2d ((p4 &&& (2147483647 : Int32)) % (((p5 &&& (1023 : Int32)) + (1 : Int32)) + (1 : Int32)))) (FP.i2d ((p5 &&& (1023 : Int32)) + (1 : Int32))))), (.double FP.dconst0)]) (rest := [(.ref b4)]) (lenOf pd_2 rfl) rfl (by show 2 * 0 + _ ≤ _; exact Nat.le_of_eq rfl) (hb hby at_88) (fun _ _ => ⟨rfl, e4, (by decide : 1 + 0 ≤ _), (by decide : 4 + 0 ≤ _)⟩)
  dsimp only [Pt.U, Pt.locs, Pt.cells, Pt.slots] at X5 l5 y5 z5 st5 hQ5
  subst l5 y5 z5
  obtain ⟨rfl, N5q, kq5, pf5_0, pf5_1, pf5_2, pf5_3, pf5_4⟩ := hQ5
  obtain ⟨Lg5, X5', N5⟩ := own_gen X5 (Fr.app N3 N5q)
  have K5 : Keep h0 T5.heap [] := K4.trans kq5 (allS (Or.inr sz_b4) all0)
  have Z5 : n0 ≤ T5.heap.size := Nat.le_trans Z4 kq5.1
  obtain ⟨cq6, kq6, q6a, q6b, q6c⟩ := isOf hZ rfl pf5_0
  obtain ⟨_, _, ⟨T6, L6, k6', n6'⟩, -, X6, ⟨Lc6, hQ6, l6, y6, z6⟩, st6⟩ := X5'.virtualBack hx (y := (⟨cLM, "allowsCondition", "(II)Z"⟩ : MethodName)) (z := (⟨cLM, "allowsCondition", "(II)Z"⟩ : MethodName)) hown (mvT hZ (w30 hw)) (mvT hZ (w31 hw)) (notFace_of_selects (args := #[]) (mvT hZ (w33 hw))) (mvT hZ (w33 hw)) (mvT hZ (w32 hw)) (by decide) (backOf (W := 0) (rm6c l Z az hw [] b4 (own_mn (p0 &&& (2147483647 : Int32)) (p1 &&& (2147483647 : Int32))) (own_mx (p0 &&& (2147483647 : Int32)) (p1 &&& (2147483647 : Int32))) (own_mx (1 : Int32) (p2 &&& (2147483647 : Int32))) (p3 &&& (2147483647 : Int32)) (FP.ddiv (FP.i2d ((p4 &&& (2147483647 : Int32)) % (((p5 &&& (1023 : Int32)) + (1 : Int32)) + (1 : Int32)))) (FP.i2d ((p5 &&& (1023 : Int32)) + (1 : Int32)))) T5.heap n0 Z5 pf5_1 hc8 pf5_2 hc9 hc10 pf5_3 hc11) hZ (w34 hw) (w10 hw) (by decide) (by decide)) q6a q6c (g := (mkF m 99 #[.val (.int p0), .val (.int p1), .val (.int p2), .val (.int p3), .val (.int p4), .val (.int p5), .val (.int (p0 &&& (2147483647 : Int32))), .val (.int (p1 &&& (2147483647 : Int32))), .val (.int (own_mn (p0 &&& (2147483647 : Int32)) (p1 &&& (2147483647 : Int32)))), .val (.int (own_mx (p0 &&& (2147483647 : Int32)) (p1 &&& (2147483647 : Int32)))), .val (.int (own_mx (1 : Int32) (p2 &&& (2147483647 : Int32)))), .val (.int (p3 &&& (2147483647 : Int32))), .val (.int ((p5 &&& (1023 : Int32)) + (1 : Int32))), .val (.int ((p4 &&& (2147483647 : Int32)) % (((p5 &&& (1023 : Int32)) + (1 : Int32)) + (1 : Int32)))), .val (.double (FP.ddiv (FP.i2d ((p4 &&& (2147483647 : Int32)) % (((p5 &&& (1023 : Int32)) + (1 : Int32)) + (1 : Int32)))) (FP.i2d ((p5 &&& (1023 : Int32)) + (1 : Int32))))), .second, .val (.ref b4), .unset, .unset, .unset, .unset] [(.int (own_mx (p0 &&& (2147483647 : Int32)) (p1 &&& (2147483647 : Int32)))), (.int (own_mn (p0 &&& (2147483647 : Int32)) (p1 &&& (2147483647 : Int32)))), (.ref b4)])) rfl (by rw [hml]; rfl) (Steps.refl _) (argsL := [(.int (own_mn (p0 &&& (2147483647 : Int32)) (p1 &&& (2147483647 : Int32)))), (.int (own_mx (p0 &&& (2147483647 : Int32)) (p1 &&& (2147483647 : Int32))))]) (rest := []) (lenOf pd_3 rfl) rfl (by show 2 * 0 + _ ≤ _; exact Nat.le_of_eq rfl) (hb hby at_99) (fun _ _ => ⟨rfl, rfl, (by decide : 1 + 0 ≤ _), (by decide : 4 + 0 ≤ _)⟩)
  dsimp only [Pt.U, Pt.locs, Pt.cells, Pt.slots] at X6 l6 y6 z6 st6 hQ6
  subst l6 y6 z6
  obtain ⟨rfl, N6q, e6⟩ := hQ6
  obtain ⟨Lg6, X6', N6⟩ := own_gen X6 (Fr.app N5 N6q)
  obtain ⟨fs, hr, hrun, hended, hW, hsame⟩ := X6'.leave (v := some (.int (1 : Int32))) (fun h => by rw [Bd.returns] at h; cases h)
  refine ⟨_, _, pre0 _ ?_, hrun, hended, _, _, rfl, ?_, ⟨_, rfl⟩, hW, hsame.mono (by decide) (by decide)⟩
  · show Steps p.tables e below (s₁.setTop (mkF m 0 #[.val (.int p0), .val (.int p1), .val (.int p2), .val (.int p3), .val (.int p4), .val (.int p5), .unset, .unset, .unset, .unset, .unset, .unset, .unset, .unset, .unset, .unset, .unset, .unset, .unset, .unset, .unset] [])) _
    refine XS.iloadN X0.here hx rfl (hb hby at_0) rfl ?_
    show Steps p.tables e below (s₁.setTop (mkF m 1 #[.val (.int p0), .val (.int p1), .val (.int p2), .val (.int p3), .val (.int p4), .val (.int p5), .unset, .unset, .unset, .unset, .unset, .unset, .unset, .unset, .unset, .unset, .unset, .unset, .unset, .unset, .unset] [(.int p0)])) _
    refine X0.ldcInt hx hown (mvT hZ (w0 hw)) (g := (mkF m 1 #[.val (.int p0), .val (.int p1), .val (.int p2), .val (.int p3), .val (.int p4), .val (.int p5), .unset, .unset, .unset, .unset, .unset, .unset, .unset, .unset, .unset, .unset, .unset, .unset, .unset, .unset, .unset] [(.int p0)])) rfl (hb hby at_1) _ ?_
    show Steps p.tables e below (s₁.setTop (mkF m 3 #[.val (.int p0), .val (.int p1), .val (.int p2), .val (.int p3), .val (.int p4), .val (.int p5), .unset, .unset, .unset, .unset, .unset, .unset, .unset, .unset, .unset, .unset, .unset, .unset, .unset, .unset, .unset] [(.int (2147483647 : Int32)), (.int p0)])) _
    refine XS.iand X0.here hx rfl (hb hby at_3) rfl ?_
    refine XS.istore X0.here hx rfl (hb hby at_4) rfl (l' := #[.val (.int p0), .val (.int p1), .val (.int p2), .val (.int p3), .val (.int p4), .val (.int p5), .val (.int (p0 &&& (2147483647 : Int32))), .unset, .unset, .unset, .unset, .unset, .unset, .unset, .unset, .unset, .unset, .unset, .unset, .unset, .unset]) rfl ?_
    refine XS.iloadN X0.here hx rfl (hb hby at_6) rfl ?_
    show Steps p.tables e below (s₁.setTop (mkF m 7 #[.val (.int p0), .val (.int p1), .val (.int p2), .val (.int p3), .val (.int p4), .val (.int p5), .val (.int (p0 &&& (2147483647 : Int32))), .unset, .unset, .unset, .unset, .unset, .unset, .unset, .unset, .unset, .unset, .unset, .unset, .unset, .unset] [(.int p1)])) _
    refine X0.ldcInt hx hown (mvT hZ (w0 hw)) (g := (mkF m 7 #[.val (.int p0), .val (.int p1), .val (.int p2), .val (.int p3), .val (.int p4), .val (.int p5), .val (.int (p0 &&& (2147483647 : Int32))), .unset, .unset, .unset, .unset, .unset, .unset, .unset, .unset, .unset, .unset, .unset, .unset, .unset, .unset] [(.int p1)])) rfl (hb hby at_7) _ ?_
    show Steps p.tables e below (s₁.setTop (mkF m 9 #[.val (.int p0), .val (.int p1), .val (.int p2), .val (.int p3), .val (.int p4), .val (.int p5), .val (.int (p0 &&& (2147483647 : Int32))), .unset, .unset, .unset, .unset, .unset, .unset, .unset, .unset, .unset, .unset, .unset, .unset, .unset, .unset] [(.int (2147483647 : Int32)), (.int p1)])) _
    refine XS.iand X0.here hx rfl (hb hby at_9) rfl ?_
    refine XS.istore X0.here hx rfl (hb hby at_10) rfl (l' := #[.val (.int p0), .val (.int p1), .val (.int p2), .val (.int p3), .val (.int p4), .val (.int p5), .val (.int (p0 &&& (2147483647 : Int32))), .val (.int (p1 &&& (2147483647 : Int32))), .unset, .unset, .unset, .unset, .unset, .unset, .unset, .unset, .unset, .unset, .unset, .unset, .unset]) rfl ?_
    refine XS.iload X0.here hx rfl (hb hby at_12) rfl ?_
    refine XS.iload X0.here hx rfl (hb hby at_14) rfl ?_
    show Steps p.tables e below (s₁.setTop (mkF m 16 #[.val (.int p0), .val (.int p1), .val (.int p2), .val (.int p3), .val (.int p4), .val (.int p5), .val (.int (p0 &&& (2147483647 : Int32))), .val (.int (p1 &&& (2147483647 : Int32))), .unset, .unset, .unset, .unset, .unset, .unset, .unset, .unset, .unset, .unset, .unset, .unset, .unset] [(.int (p1 &&& (2147483647 : Int32))), (.int (p0 &&& (2147483647 : Int32)))])) _
    refine st1 _ ?_
    show Steps p.tables e below (T1.setTop (mkF m 19 #[.val (.int p0), .val (.int p1), .val (.int p2), .val (.int p3), .val (.int p4), .val (.int p5), .val (.int (p0 &&& (2147483647 : Int32))), .val (.int (p1 &&& (2147483647 : Int32))), .unset, .unset, .unset, .unset, .unset, .unset, .unset, .unset, .unset, .unset, .unset, .unset, .unset] [(.int (own_mn (p0 &&& (2147483647 : Int32)) (p1 &&& (2147483647 : Int32))))])) _
    refine XS.istore X1'.here hx rfl (hb hby at_19) rfl (l' := #[.val (.int p0), .val (.int p1), .val (.int p2), .val (.int p3), .val (.int p4), .val (.int p5), .val (.int (p0 &&& (2147483647 : Int32))), .val (.int (p1 &&& (2147483647 : Int32))), .val (.int (own_mn (p0 &&& (2147483647 : Int32)) (p1 &&& (2147483647 : Int32)))), .unset, .unset, .unset, .unset, .unset, .unset, .unset, .unset, .unset, .unset, .unset, .unset]) rfl ?_
    refine XS.iload X1'.here hx rfl (hb hby at_21) rfl ?_
    refine XS.iload X1'.here hx rfl (hb hby at_23) rfl ?_
    show Steps p.tables e below (T1.setTop (mkF m 25 #[.val (.int p0), .val (.int p1), .val (.int p2), .val (.int p3), .val (.int p4), .val (.int p5), .val (.int (p0 &&& (2147483647 : Int32))), .val (.int (p1 &&& (2147483647 : Int32))), .val (.int (own_mn (p0 &&& (2147483647 : Int32)) (p1 &&& (2147483647 : Int32)))), .unset, .unset, .unset, .unset, .unset, .unset, .unset, .unset, .unset, .unset, .unset, .unset] [(.int (p1 &&& (2147483647 : Int32))), (.int (p0 &&& (2147483647 : Int32)))])) _
    refine st2 _ ?_
    show Steps p.tables e below (T2.setTop (mkF m 28 #[.val (.int p0), .val (.int p1), .val (.int p2), .val (.int p3), .val (.int p4), .val (.int p5), .val (.int (p0 &&& (2147483647 : Int32))), .val (.int (p1 &&& (2147483647 : Int32))), .val (.int (own_mn (p0 &&& (2147483647 : Int32)) (p1 &&& (2147483647 : Int32)))), .unset, .unset, .unset, .unset, .unset, .unset, .unset, .unset, .unset, .unset, .unset, .unset] [(.int (own_mx (p0 &&& (2147483647 : Int32)) (p1 &&& (2147483647 : Int32))))])) _
    refine XS.istore X2'.here hx rfl (hb hby at_28) rfl (l' := #[.val (.int p0), .val (.int p1), .val (.int p2), .val (.int p3), .val (.int p4), .val (.int p5), .val (.int (p0 &&& (2147483647 : Int32))), .val (.int (p1 &&& (2147483647 : Int32))), .val (.int (own_mn (p0 &&& (2147483647 : Int32)) (p1 &&& (2147483647 : Int32)))), .val (.int (own_mx (p0 &&& (2147483647 : Int32)) (p1 &&& (2147483647 : Int32)))), .unset, .unset, .unset, .unset, .unset, .unset, .unset, .unset, .unset, .unset, .unset]) rfl ?_
    refine XS.iconst X2'.here hx rfl (hb hby at_30) ?_
    refine XS.iloadN X2'.here hx rfl (hb hby at_31) rfl ?_
    show Steps p.tables e below (T2.setTop (mkF m 32 #[.val (.int p0), .val (.int p1), .val (.int p2), .val (.int p3), .val (.int p4), .val (.int p5), .val (.int (p0 &&& (2147483647 : Int32))), .val (.int (p1 &&& (2147483647 : Int32))), .val (.int (own_mn (p0 &&& (2147483647 : Int32)) (p1 &&& (2147483647 : Int32)))), .val (.int (own_mx (p0 &&& (2147483647 : Int32)) (p1 &&& (2147483647 : Int32)))), .unset, .unset, .unset, .unset, .unset, .unset, .unset, .unset, .unset, .unset, .unset] [(.int p2), (.int (1 : Int32))])) _
    refine X2'.ldcInt hx hown (mvT hZ (w0 hw)) (g := (mkF m 32 #[.val (.int p0), .val (.int p1), .val (.int p2), .val (.int p3), .val (.int p4), .val (.int p5), .val (.int (p0 &&& (2147483647 : Int32))), .val (.int (p1 &&& (2147483647 : Int32))), .val (.int (own_mn (p0 &&& (2147483647 : Int32)) (p1 &&& (2147483647 : Int32)))), .val (.int (own_mx (p0 &&& (2147483647 : Int32)) (p1 &&& (2147483647 : Int32)))), .unset, .unset, .unset, .unset, .unset, .unset, .unset, .unset, .unset, .unset, .unset] [(.int p2), (.int (1 : Int32))])) rfl (hb hby at_32) _ ?_
    show Steps p.tables e below (T2.setTop (mkF m 34 #[.val (.int p0), .val (.int p1), .val (.int p2), .val (.int p3), .val (.int p4), .val (.int p5), .val (.int (p0 &&& (2147483647 : Int32))), .val (.int (p1 &&& (2147483647 : Int32))), .val (.int (own_mn (p0 &&& (2147483647 : Int32)) (p1 &&& (2147483647 : Int32)))), .val (.int (own_mx (p0 &&& (2147483647 : Int32)) (p1 &&& (2147483647 : Int32)))), .unset, .unset, .unset, .unset, .unset, .unset, .unset, .unset, .unset, .unset, .unset] [(.int (2147483647 : Int32)), (.int p2), (.int (1 : Int32))])) _
    refine XS.iand X2'.here hx rfl (hb hby at_34) rfl ?_
    show Steps p.tables e below (T2.setTop (mkF m 35 #[.val (.int p0), .val (.int p1), .val (.int p2), .val (.int p3), .val (.int p4), .val (.int p5), .val (.int (p0 &&& (2147483647 : Int32))), .val (.int (p1 &&& (2147483647 : Int32))), .val (.int (own_mn (p0 &&& (2147483647 : Int32)) (p1 &&& (2147483647 : Int32)))), .val (.int (own_mx (p0 &&& (2147483647 : Int32)) (p1 &&& (2147483647 : Int32)))), .unset, .unset, .unset, .unset, .unset, .unset, .unset, .unset, .unset, .unset, .unset] [(.int (p2 &&& (2147483647 : Int32))), (.int (1 : Int32))])) _
    refine st3 _ ?_
    show Steps p.tables e below (T3.setTop (mkF m 38 #[.val (.int p0), .val (.int p1), .val (.int p2), .val (.int p3), .val (.int p4), .val (.int p5), .val (.int (p0 &&& (2147483647 : Int32))), .val (.int (p1 &&& (2147483647 : Int32))), .val (.int (own_mn (p0 &&& (2147483647 : Int32)) (p1 &&& (2147483647 : Int32)))), .val (.int (own_mx (p0 &&& (2147483647 : Int32)) (p1 &&& (2147483647 : Int32)))), .unset, .unset, .unset, .unset, .unset, .unset, .unset, .unset, .unset, .unset, .unset] [(.int (own_mx (1 : Int32) (p2 &&& (2147483647 : Int32))))])) _
    refine XS.istore X3'.here hx rfl (hb hby at_38) rfl (l' := #[.val (.int p0), .val (.int p1), .val (.int p2), .val (.int p3), .val (.int p4), .val (.int p5), .val (.int (p0 &&& (2147483647 : Int32))), .val (.int (p1 &&& (2147483647 : Int32))), .val (.int (own_mn (p0 &&& (2147483647 : Int32)) (p1 &&& (2147483647 : Int32)))), .val (.int (own_mx (p0 &&& (2147483647 : Int32)) (p1 &&& (2147483647 : Int32)))), .val (.int (own_mx (1 : Int32) (p2 &&& (2147483647 : Int32)))), .unset, .unset, .unset, .unset, .unset, .unset, .unset, .unset, .unset, .unset]) rfl ?_
    refine XS.iloadN X3'.here hx rfl (hb hby at_40) rfl ?_
    show Steps p.tables e below (T3.setTop (mkF m 41 #[.val (.int p0), .val (.int p1), .val (.int p2), .val (.int p3), .val (.int p4), .val (.int p5), .val (.int (p0 &&& (2147483647 : Int32))), .val (.int (p1 &&& (2147483647 : Int32))), .val (.int (own_mn (p0 &&& (2147483647 : Int32)) (p1 &&& (2147483647 : Int32)))), .val (.int (own_mx (p0 &&& (2147483647 : Int32)) (p1 &&& (2147483647 : Int32)))), .val (.int (own_mx (1 : Int32) (p2 &&& (2147483647 : Int32)))), .unset, .unset, .unset, .unset, .unset, .unset, .unset, .unset, .unset, .unset] [(.int p3)])) _
    refine X3'.ldcInt hx hown (mvT hZ (w0 hw)) (g := (mkF m 41 #[.val (.int p0), .val (.int p1), .val (.int p2), .val (.int p3), .val (.int p4), .val (.int p5), .val (.int (p0 &&& (2147483647 : Int32))), .val (.int (p1 &&& (2147483647 : Int32))), .val (.int (own_mn (p0 &&& (2147483647 : Int32)) (p1 &&& (2147483647 : Int32)))), .val (.int (own_mx (p0 &&& (2147483647 : Int32)) (p1 &&& (2147483647 : Int32)))), .val (.int (own_mx (1 : Int32) (p2 &&& (2147483647 : Int32)))), .unset, .unset, .unset, .unset, .unset, .unset, .unset, .unset, .unset, .unset] [(.int p3)])) rfl (hb hby at_41) _ ?_
    show Steps p.tables e below (T3.setTop (mkF m 43 #[.val (.int p0), .val (.int p1), .val (.int p2), .val (.int p3), .val (.int p4), .val (.int p5), .val (.int (p0 &&& (2147483647 : Int32))), .val (.int (p1 &&& (2147483647 : Int32))), .val (.int (own_mn (p0 &&& (2147483647 : Int32)) (p1 &&& (2147483647 : Int32)))), .val (.int (own_mx (p0 &&& (2147483647 : Int32)) (p1 &&& (2147483647 : Int32)))), .val (.int (own_mx (1 : Int32) (p2 &&& (2147483647 : Int32)))), .unset, .unset, .unset, .unset, .unset, .unset, .unset, .unset, .unset, .unset] [(.int (2147483647 : Int32)), (.int p3)])) _
    refine XS.iand X3'.here hx rfl (hb hby at_43) rfl ?_
    refine XS.istore X3'.here hx rfl (hb hby at_44) rfl (l' := #[.val (.int p0), .val (.int p1), .val (.int p2), .val (.int p3), .val (.int p4), .val (.int p5), .val (.int (p0 &&& (2147483647 : Int32))), .val (.int (p1 &&& (2147483647 : Int32))), .val (.int (own_mn (p0 &&& (2147483647 : Int32)) (p1 &&& (2147483647 : Int32)))), .val (.int (own_mx (p0 &&& (2147483647 : Int32)) (p1 &&& (2147483647 : Int32)))), .val (.int (own_mx (1 : Int32) (p2 &&& (2147483647 : Int32)))), .val (.int (p3 &&& (2147483647 : Int32))), .unset, .unset, .unset, .unset, .unset, .unset, .unset, .unset, .unset]) rfl ?_
    refine XS.iload X3'.here hx rfl (hb hby at_46) rfl ?_
    refine XS.sipush X3'.here hx rfl (hb hby at_48) ?_
    refine XS.iand X3'.here hx rfl (hb hby at_51) rfl ?_
    refine XS.iconst X3'.here hx rfl (hb hby at_52) ?_
    refine XS.iadd X3'.here hx rfl (hb hby at_53) rfl ?_
    refine XS.istore X3'.here hx rfl (hb hby at_54) rfl (l' := #[.val (.int p0), .val (.int p1), .val (.int p2), .val (.int p3), .val (.int p4), .val (.int p5), .val (.int (p0 &&& (2147483647 : Int32))), .val (.int (p1 &&& (2147483647 : Int32))), .val (.int (own_mn (p0 &&& (2147483647 : Int32)) (p1 &&& (2147483647 : Int32)))), .val (.int (own_mx (p0 &&& (2147483647 : Int32)) (p1 &&& (2147483647 : Int32)))), .val (.int (own_mx (1 : Int32) (p2 &&& (2147483647 : Int32)))), .val (.int (p3 &&& (2147483647 : Int32))), .val (.int ((p5 &&& (1023 : Int32)) + (1 : Int32))), .unset, .unset, .unset, .unset, .unset, .unset, .unset, .unset]) rfl ?_
    refine XS.iload X3'.here hx rfl (hb hby at_56) rfl ?_
    show Steps p.tables e below (T3.setTop (mkF m 58 #[.val (.int p0), .val (.int p1), .val (.int p2), .val (.int p3), .val (.int p4), .val (.int p5), .val (.int (p0 &&& (2147483647 : Int32))), .val (.int (p1 &&& (2147483647 : Int32))), .val (.int (own_mn (p0 &&& (2147483647 : Int32)) (p1 &&& (2147483647 : Int32)))), .val (.int (own_mx (p0 &&& (2147483647 : Int32)) (p1 &&& (2147483647 : Int32)))), .val (.int (own_mx (1 : Int32) (p2 &&& (2147483647 : Int32)))), .val (.int (p3 &&& (2147483647 : Int32))), .val (.int ((p5 &&& (1023 : Int32)) + (1 : Int32))), .unset, .unset, .unset, .unset, .unset, .unset, .unset, .unset] [(.int p4)])) _
    refine X3'.ldcInt hx hown (mvT hZ (w0 hw)) (g := (mkF m 58 #[.val (.int p0), .val (.int p1), .val (.int p2), .val (.int p3), .val (.int p4), .val (.int p5), .val (.int (p0 &&& (2147483647 : Int32))), .val (.int (p1 &&& (2147483647 : Int32))), .val (.int (own_mn (p0 &&& (2147483647 : Int32)) (p1 &&& (2147483647 : Int32)))), .val (.int (own_mx (p0 &&& (2147483647 : Int32)) (p1 &&& (2147483647 : Int32)))), .val (.int (own_mx (1 : Int32) (p2 &&& (2147483647 : Int32)))), .val (.int (p3 &&& (2147483647 : Int32))), .val (.int ((p5 &&& (1023 : Int32)) + (1 : Int32))), .unset, .unset, .unset, .unset, .unset, .unset, .unset, .unset] [(.int p4)])) rfl (hb hby at_58) _ ?_
    show Steps p.tables e below (T3.setTop (mkF m 60 #[.val (.int p0), .val (.int p1), .val (.int p2), .val (.int p3), .val (.int p4), .val (.int p5), .val (.int (p0 &&& (2147483647 : Int32))), .val (.int (p1 &&& (2147483647 : Int32))), .val (.int (own_mn (p0 &&& (2147483647 : Int32)) (p1 &&& (2147483647 : Int32)))), .val (.int (own_mx (p0 &&& (2147483647 : Int32)) (p1 &&& (2147483647 : Int32)))), .val (.int (own_mx (1 : Int32) (p2 &&& (2147483647 : Int32)))), .val (.int (p3 &&& (2147483647 : Int32))), .val (.int ((p5 &&& (1023 : Int32)) + (1 : Int32))), .unset, .unset, .unset, .unset, .unset, .unset, .unset, .unset] [(.int (2147483647 : Int32)), (.int p4)])) _
    refine XS.iand X3'.here hx rfl (hb hby at_60) rfl ?_
    refine XS.iload X3'.here hx rfl (hb hby at_61) rfl ?_
    refine XS.iconst X3'.here hx rfl (hb hby at_63) ?_
    refine XS.iadd X3'.here hx rfl (hb hby at_64) rfl ?_
    show Steps p.tables e below (T3.setTop (mkF m 65 #[.val (.int p0), .val (.int p1), .val (.int p2), .val (.int p3), .val (.int p4), .val (.int p5), .val (.int (p0 &&& (2147483647 : Int32))), .val (.int (p1 &&& (2147483647 : Int32))), .val (.int (own_mn (p0 &&& (2147483647 : Int32)) (p1 &&& (2147483647 : Int32)))), .val (.int (own_mx (p0 &&& (2147483647 : Int32)) (p1 &&& (2147483647 : Int32)))), .val (.int (own_mx (1 : Int32) (p2 &&& (2147483647 : Int32)))), .val (.int (p3 &&& (2147483647 : Int32))), .val (.int ((p5 &&& (1023 : Int32)) + (1 : Int32))), .unset, .unset, .unset, .unset, .unset, .unset, .unset, .unset] [(.int (((p5 &&& (1023 : Int32)) + (1 : Int32)) + (1 : Int32))), (.int (p4 &&& (2147483647 : Int32)))])) _
    refine iremM X3' hx rfl (hb hby at_65) rfl hc0 ?_
    show Steps p.tables e below (T3.setTop (mkF m 66 #[.val (.int p0), .val (.int p1), .val (.int p2), .val (.int p3), .val (.int p4), .val (.int p5), .val (.int (p0 &&& (2147483647 : Int32))), .val (.int (p1 &&& (2147483647 : Int32))), .val (.int (own_mn (p0 &&& (2147483647 : Int32)) (p1 &&& (2147483647 : Int32)))), .val (.int (own_mx (p0 &&& (2147483647 : Int32)) (p1 &&& (2147483647 : Int32)))), .val (.int (own_mx (1 : Int32) (p2 &&& (2147483647 : Int32)))), .val (.int (p3 &&& (2147483647 : Int32))), .val (.int ((p5 &&& (1023 : Int32)) + (1 : Int32))), .unset, .unset, .unset, .unset, .unset, .unset, .unset, .unset] [(.int ((p4 &&& (2147483647 : Int32)) % (((p5 &&& (1023 : Int32)) + (1 : Int32)) + (1 : Int32))))])) _
    refine XS.istore X3'.here hx rfl (hb hby at_66) rfl (l' := #[.val (.int p0), .val (.int p1), .val (.int p2), .val (.int p3), .val (.int p4), .val (.int p5), .val (.int (p0 &&& (2147483647 : Int32))), .val (.int (p1 &&& (2147483647 : Int32))), .val (.int (own_mn (p0 &&& (2147483647 : Int32)) (p1 &&& (2147483647 : Int32)))), .val (.int (own_mx (p0 &&& (2147483647 : Int32)) (p1 &&& (2147483647 : Int32)))), .val (.int (own_mx (1 : Int32) (p2 &&& (2147483647 : Int32)))), .val (.int (p3 &&& (2147483647 : Int32))), .val (.int ((p5 &&& (1023 : Int32)) + (1 : Int32))), .val (.int ((p4 &&& (2147483647 : Int32)) % (((p5 &&& (1023 : Int32)) + (1 : Int32)) + (1 : Int32)))), .unset, .unset, .unset, .unset, .unset, .unset, .unset]) rfl ?_
    refine XS.iload X3'.here hx rfl (hb hby at_68) rfl ?_
    show Steps p.tables e below (T3.setTop (mkF m 70 #[.val (.int p0), .val (.int p1), .val (.int p2), .val (.int p3), .val (.int p4), .val (.int p5), .val (.int (p0 &&& (2147483647 : Int32))), .val (.int (p1 &&& (2147483647 : Int32))), .val (.int (own_mn (p0 &&& (2147483647 : Int32)) (p1 &&& (2147483647 : Int32)))), .val (.int (own_mx (p0 &&& (2147483647 : Int32)) (p1 &&& (2147483647 : Int32)))), .val (.int (own_mx (1 : Int32) (p2 &&& (2147483647 : Int32)))), .val (.int (p3 &&& (2147483647 : Int32))), .val (.int ((p5 &&& (1023 : Int32)) + (1 : Int32))), .val (.int ((p4 &&& (2147483647 : Int32)) % (((p5 &&& (1023 : Int32)) + (1 : Int32)) + (1 : Int32)))), .unset, .unset, .unset, .unset, .unset, .unset, .unset] [(.int ((p4 &&& (2147483647 : Int32)) % (((p5 &&& (1023 : Int32)) + (1 : Int32)) + (1 : Int32))))])) _
    refine XS.i2dS X3'.here hx rfl (hb hby at_70) rfl rfl ?_
    refine XS.iload X3'.here hx rfl (hb hby at_71) rfl ?_
    show Steps p.tables e below (T3.setTop (mkF m 73 #[.val (.int p0), .val (.int p1), .val (.int p2), .val (.int p3), .val (.int p4), .val (.int p5), .val (.int (p0 &&& (2147483647 : Int32))), .val (.int (p1 &&& (2147483647 : Int32))), .val (.int (own_mn (p0 &&& (2147483647 : Int32)) (p1 &&& (2147483647 : Int32)))), .val (.int (own_mx (p0 &&& (2147483647 : Int32)) (p1 &&& (2147483647 : Int32)))), .val (.int (own_mx (1 : Int32) (p2 &&& (2147483647 : Int32)))), .val (.int (p3 &&& (2147483647 : Int32))), .val (.int ((p5 &&& (1023 : Int32)) + (1 : Int32))), .val (.int ((p4 &&& (2147483647 : Int32)) % (((p5 &&& (1023 : Int32)) + (1 : Int32)) + (1 : Int32)))), .unset, .unset, .unset, .unset, .unset, .unset, .unset] [(.int ((p5 &&& (1023 : Int32)) + (1 : Int32))), (.double (FP.i2d ((p4 &&& (2147483647 : Int32)) % (((p5 &&& (1023 : Int32)) + (1 : Int32)) + (1 : Int32)))))])) _
    refine XS.i2dS X3'.here hx rfl (hb hby at_73) rfl rfl ?_
    show Steps p.tables e below (T3.setTop (mkF m 74 #[.val (.int p0), .val (.int p1), .val (.int p2), .val (.int p3), .val (.int p4), .val (.int p5), .val (.int (p0 &&& (2147483647 : Int32))), .val (.int (p1 &&& (2147483647 : Int32))), .val (.int (own_mn (p0 &&& (2147483647 : Int32)) (p1 &&& (2147483647 : Int32)))), .val (.int (own_mx (p0 &&& (2147483647 : Int32)) (p1 &&& (2147483647 : Int32)))), .val (.int (own_mx (1 : Int32) (p2 &&& (2147483647 : Int32)))), .val (.int (p3 &&& (2147483647 : Int32))), .val (.int ((p5 &&& (1023 : Int32)) + (1 : Int32))), .val (.int ((p4 &&& (2147483647 : Int32)) % (((p5 &&& (1023 : Int32)) + (1 : Int32)) + (1 : Int32)))), .unset, .unset, .unset, .unset, .unset, .unset, .unset] [(.double (FP.i2d ((p5 &&& (1023 : Int32)) + (1 : Int32)))), (.double (FP.i2d ((p4 &&& (2147483647 : Int32)) % (((p5 &&& (1023 : Int32)) + (1 : Int32)) + (1 : Int32)))))])) _
    refine XS.ddivS X3'.here hx rfl (hb hby at_74) rfl hc1 rfl ?_
    show Steps p.tables e below (T3.setTop (mkF m 75 #[.val (.int p0), .val (.int p1), .val (.int p2), .val (.int p3), .val (.int p4), .val (.int p5), .val (.int (p0 &&& (2147483647 : Int32))), .val (.int (p1 &&& (2147483647 : Int32))), .val (.int (own_mn (p0 &&& (2147483647 : Int32)) (p1 &&& (2147483647 : Int32)))), .val (.int (own_mx (p0 &&& (2147483647 : Int32)) (p1 &&& (2147483647 : Int32)))), .val (.int (own_mx (1 : Int32) (p2 &&& (2147483647 : Int32)))), .val (.int (p3 &&& (2147483647 : Int32))), .val (.int ((p5 &&& (1023 : Int32)) + (1 : Int32))), .val (.int ((p4 &&& (2147483647 : Int32)) % (((p5 &&& (1023 : Int32)) + (1 : Int32)) + (1 : Int32)))), .unset, .unset, .unset, .unset, .unset, .unset, .unset] [(.double (FP.ddiv (FP.i2d ((p4 &&& (2147483647 : Int32)) % (((p5 &&& (1023 : Int32)) + (1 : Int32)) + (1 : Int32)))) (FP.i2d ((p5 &&& (1023 : Int32)) + (1 : Int32)))))])) _
    refine XS.dstore X3'.here hx rfl (hb hby at_75) rfl (l' := #[.val (.int p0), .val (.int p1), .val (.int p2), .val (.int p3), .val (.int p4), .val (.int p5), .val (.int (p0 &&& (2147483647 : Int32))), .val (.int (p1 &&& (2147483647 : Int32))), .val (.int (own_mn (p0 &&& (2147483647 : Int32)) (p1 &&& (2147483647 : Int32)))), .val (.int (own_mx (p0 &&& (2147483647 : Int32)) (p1 &&& (2147483647 : Int32)))), .val (.int (own_mx (1 : Int32) (p2 &&& (2147483647 : Int32)))), .val (.int (p3 &&& (2147483647 : Int32))), .val (.int ((p5 &&& (1023 : Int32)) + (1 : Int32))), .val (.int ((p4 &&& (2147483647 : Int32)) % (((p5 &&& (1023 : Int32)) + (1 : Int32)) + (1 : Int32)))), .val (.double (FP.ddiv (FP.i2d ((p4 &&& (2147483647 : Int32)) % (((p5 &&& (1023 : Int32)) + (1 : Int32)) + (1 : Int32)))) (FP.i2d ((p5 &&& (1023 : Int32)) + (1 : Int32))))), .second, .unset, .unset, .unset, .unset, .unset]) rfl ?_
    show Steps p.tables e below (T3.setTop (mkF m 77 #[.val (.int p0), .val (.int p1), .val (.int p2), .val (.int p3), .val (.int p4), .val (.int p5), .val (.int (p0 &&& (2147483647 : Int32))), .val (.int (p1 &&& (2147483647 : Int32))), .val (.int (own_mn (p0 &&& (2147483647 : Int32)) (p1 &&& (2147483647 : Int32)))), .val (.int (own_mx (p0 &&& (2147483647 : Int32)) (p1 &&& (2147483647 : Int32)))), .val (.int (own_mx (1 : Int32) (p2 &&& (2147483647 : Int32)))), .val (.int (p3 &&& (2147483647 : Int32))), .val (.int ((p5 &&& (1023 : Int32)) + (1 : Int32))), .val (.int ((p4 &&& (2147483647 : Int32)) % (((p5 &&& (1023 : Int32)) + (1 : Int32)) + (1 : Int32)))), .val (.double (FP.ddiv (FP.i2d ((p4 &&& (2147483647 : Int32)) % (((p5 &&& (1023 : Int32)) + (1 : Int32)) + (1 : Int32)))) (FP.i2d ((p5 &&& (1023 : Int32)) + (1 : Int32))))), .second, .unset, .unset, .unset, .unset, .unset] [])) _
    refine st4 _ ?_
    show Steps p.tables e below (T4.setTop (mkF m 80 #[.val (.int p0), .val (.int p1), .val (.int p2), .val (.int p3), .val (.int p4), .val (.int p5), .val (.int (p0 &&& (2147483647 : Int32))), .val (.int (p1 &&& (2147483647 : Int32))), .val (.int (own_mn (p0 &&& (2147483647 : Int32)) (p1 &&& (2147483647 : Int32)))), .val (.int (own_mx (p0 &&& (2147483647 : Int32)) (p1 &&& (2147483647 : Int32)))), .val (.int (own_mx (1 : Int32) (p2 &&& (2147483647 : Int32)))), .val (.int (p3 &&& (2147483647 : Int32))), .val (.int ((p5 &&& (1023 : Int32)) + (1 : Int32))), .val (.int ((p4 &&& (2147483647 : Int32)) % (((p5 &&& (1023 : Int32)) + (1 : Int32)) + (1 : Int32)))), .val (.double (FP.ddiv (FP.i2d ((p4 &&& (2147483647 : Int32)) % (((p5 &&& (1023 : Int32)) + (1 : Int32)) + (1 : Int32)))) (FP.i2d ((p5 &&& (1023 : Int32)) + (1 : Int32))))), .second, .unset, .unset, .unset, .unset, .unset] [(.ref b4)])) _
    refine XS.dup X4.here hx rfl (hb hby at_80) rfl rfl ?_
    refine XS.iload X4.here hx rfl (hb hby at_81) rfl ?_
    refine XS.iload X4.here hx rfl (hb hby at_83) rfl ?_
    show Steps p.tables e below (T4.setTop (mkF m 85 #[.val (.int p0), .val (.int p1), .val (.int p2), .val (.int p3), .val (.int p4), .val (.int p5), .val (.int (p0 &&& (2147483647 : Int32))), .val (.int (p1 &&& (2147483647 : Int32))), .val (.int (own_mn (p0 &&& (2147483647 : Int32)) (p1 &&& (2147483647 : Int32)))), .val (.int (own_mx (p0 &&& (2147483647 : Int32)) (p1 &&& (2147483647 : Int32)))), .val (.int (own_mx (1 : Int32) (p2 &&& (2147483647 : Int32)))), .val (.int (p3 &&& (2147483647 : Int32))), .val (.int ((p5 &&& (1023 : Int32)) + (1 : Int32))), .val (.int ((p4 &&& (2147483647 : Int32)) % (((p5 &&& (1023 : Int32)) + (1 : Int32)) + (1 : Int32)))), .val (.double (FP.ddiv (FP.i2d ((p4 &&& (2147483647 : Int32)) % (((p5 &&& (1023 : Int32)) + (1 : Int32)) + (1 : Int32)))) (FP.i2d ((p5 &&& (1023 : Int32)) + (1 : Int32))))), .second, .unset, .unset, .unset, .unset, .unset] [(.int (p3 &&& (2147483647 : Int32))), (.int (own_mx (1 : Int32) (p2 &&& (2147483647 : Int32)))), (.ref b4), (.ref b4)])) _
    refine XS.dload X4.here hx rfl (hb hby at_85) rfl ?_
    show Steps p.tables e below (T4.setTop (mkF m 87 #[.val (.int p0), .val (.int p1), .val (.int p2), .val (.int p3), .val (.int p4), .val (.int p5), .val (.int (p0 &&& (2147483647 : Int32))), .val (.int (p1 &&& (2147483647 : Int32))), .val (.int (own_mn (p0 &&& (2147483647 : Int32)) (p1 &&& (2147483647 : Int32)))), .val (.int (own_mx (p0 &&& (2147483647 : Int32)) (p1 &&& (2147483647 : Int32)))), .val (.int (own_mx (1 : Int32) (p2 &&& (2147483647 : Int32)))), .val (.int (p3 &&& (2147483647 : Int32))), .val (.int ((p5 &&& (1023 : Int32)) + (1 : Int32))), .val (.int ((p4 &&& (2147483647 : Int32)) % (((p5 &&& (1023 : Int32)) + (1 : Int32)) + (1 : Int32)))), .val (.double (FP.ddiv (FP.i2d ((p4 &&& (2147483647 : Int32)) % (((p5 &&& (1023 : Int32)) + (1 : Int32)) + (1 : Int32)))) (FP.i2d ((p5 &&& (1023 : Int32)) + (1 : Int32))))), .second, .unset, .unset, .unset, .unset, .unset] [(.double (FP.ddiv (FP.i2d ((p4 &&& (2147483647 : Int32)) % (((p5 &&& (1023 : Int32)) + (1 : Int32)) + (1 : Int32)))) (FP.i2d ((p5 &&& (1023 : Int32)) + (1 : Int32))))), (.int (p3 &&& (2147483647 : Int32))), (.int (own_mx (1 : Int32) (p2 &&& (2147483647 : Int32)))), (.ref b4), (.ref b4)])) _
    refine XS.dconst0 X4.here hx rfl (hb hby at_87) rfl ?_
    show Steps p.tables e below (T4.setTop (mkF m 88 #[.val (.int p0), .val (.int p1), .val (.int p2), .val (.int p3), .val (.int p4), .val (.int p5), .val (.int (p0 &&& (2147483647 : Int32))), .val (.int (p1 &&& (2147483647 : Int32))), .val (.int (own_mn (p0 &&& (2147483647 : Int32)) (p1 &&& (2147483647 : Int32)))), .val (.int (own_mx (p0 &&& (2147483647 : Int32)) (p1 &&& (2147483647 : Int32)))), .val (.int (own_mx (1 : Int32) (p2 &&& (2147483647 : Int32)))), .val (.int (p3 &&& (2147483647 : Int32))), .val (.int ((p5 &&& (1023 : Int32)) + (1 : Int32))), .val (.int ((p4 &&& (2147483647 : Int32)) % (((p5 &&& (1023 : Int32)) + (1 : Int32)) + (1 : Int32)))), .val (.double (FP.ddiv (FP.i2d ((p4 &&& (2147483647 : Int32)) % (((p5 &&& (1023 : Int32)) + (1 : Int32)) + (1 : Int32)))) (FP.i2d ((p5 &&& (1023 : Int32)) + (1 : Int32))))), .second, .unset, .unset, .unset, .unset, .unset] [(.double FP.dconst0), (.double (FP.ddiv (FP.i2d ((p4 &&& (2147483647 : Int32)) % (((p5 &&& (1023 : Int32)) + (1 : Int32)) + (1 : Int32)))) (FP.i2d ((p5 &&& (1023 : Int32)) + (1 : Int32))))), (.int (p3 &&& (2147483647 : Int32))), (.int (own_mx (1 : Int32) (p2 &&& (2147483647 : Int32)))), (.ref b4), (.ref b4)])) _
    refine st5.trans ?_
    show Steps p.tables e below (T5.setTop (mkF m 91 #[.val (.int p0), .val (.int p1), .val (.int p2), .val (.int p3), .val (.int p4), .val (.int p5), .val (.int (p0 &&& (2147483647 : Int32))), .val (.int (p1 &&& (2147483647 : Int32))), .val (.int (own_mn (p0 &&& (2147483647 : Int32)) (p1 &&& (2147483647 : Int32)))), .val (.int (own_mx (p0 &&& (2147483647 : Int32)) (p1 &&& (2147483647 : Int32)))), .val (.int (own_mx (1 : Int32) (p2 &&& (2147483647 : Int32)))), .val (.int (p3 &&& (2147483647 : Int32))), .val (.int ((p5 &&& (1023 : Int32)) + (1 : Int32))), .val (.int ((p4 &&& (2147483647 : Int32)) % (((p5 &&& (1023 : Int32)) + (1 : Int32)) + (1 : Int32)))), .val (.double (FP.ddiv (FP.i2d ((p4 &&& (2147483647 : Int32)) % (((p5 &&& (1023 : Int32)) + (1 : Int32)) + (1 : Int32)))) (FP.i2d ((p5 &&& (1023 : Int32)) + (1 : Int32))))), .second, .unset, .unset, .unset, .unset, .unset] [(.ref b4)])) _
    refine XS.astore X5'.here hx rfl (hb hby at_91) rfl rfl (l' := #[.val (.int p0), .val (.int p1), .val (.int p2), .val (.int p3), .val (.int p4), .val (.int p5), .val (.int (p0 &&& (2147483647 : Int32))), .val (.int (p1 &&& (2147483647 : Int32))), .val (.int (own_mn (p0 &&& (2147483647 : Int32)) (p1 &&& (2147483647 : Int32)))), .val (.int (own_mx (p0 &&& (2147483647 : Int32)) (p1 &&& (2147483647 : Int32)))), .val (.int (own_mx (1 : Int32) (p2 &&& (2147483647 : Int32)))), .val (.int (p3 &&& (2147483647 : Int32))), .val (.int ((p5 &&& (1023 : Int32)) + (1 : Int32))), .val (.int ((p4 &&& (2147483647 : Int32)) % (((p5 &&& (1023 : Int32)) + (1 : Int32)) + (1 : Int32)))), .val (.double (FP.ddiv (FP.i2d ((p4 &&& (2147483647 : Int32)) % (((p5 &&& (1023 : Int32)) + (1 : Int32)) + (1 : Int32)))) (FP.i2d ((p5 &&& (1023 : Int32)) + (1 : Int32))))), .second, .val (.ref b4), .unset, .unset, .unset, .unset]) rfl ?_
    refine XS.aload X5'.here hx rfl (hb hby at_93) rfl rfl ?_
    refine XS.iload X5'.here hx rfl (hb hby at_95) rfl ?_
    refine XS.iload X5'.here hx rfl (hb hby at_97) rfl ?_
    show Steps p.tables e below (T5.setTop (mkF m 99 #[.val (.int p0), .val (.int p1), .val (.int p2), .val (.int p3), .val (.int p4), .val (.int p5), .val (.int (p0 &&& (2147483647 : Int32))), .val (.int (p1 &&& (2147483647 : Int32))), .val (.int (own_mn (p0 &&& (2147483647 : Int32)) (p1 &&& (2147483647 : Int32)))), .val (.int (own_mx (p0 &&& (2147483647 : Int32)) (p1 &&& (2147483647 : Int32)))), .val (.int (own_mx (1 : Int32) (p2 &&& (2147483647 : Int32)))), .val (.int (p3 &&& (2147483647 : Int32))), .val (.int ((p5 &&& (1023 : Int32)) + (1 : Int32))), .val (.int ((p4 &&& (2147483647 : Int32)) % (((p5 &&& (1023 : Int32)) + (1 : Int32)) + (1 : Int32)))), .val (.double (FP.ddiv (FP.i2d ((p4 &&& (2147483647 : Int32)) % (((p5 &&& (1023 : Int32)) + (1 : Int32)) + (1 : Int32)))) (FP.i2d ((p5 &&& (1023 : Int32)) + (1 : Int32))))), .second, .val (.ref b4), .unset, .unset, .unset, .unset] [(.int (own_mx (p0 &&& (2147483647 : Int32)) (p1 &&& (2147483647 : Int32)))), (.int (own_mn (p0 &&& (2147483647 : Int32)) (p1 &&& (2147483647 : Int32)))), (.ref b4)])) _
    refine st6.trans ?_
    show Steps p.tables e below (T6.setTop (mkF m 102 #[.val (.int p0), .val (.int p1), .val (.int p2), .val (.int p3), .val (.int p4), .val (.int p5), .val (.int (p0 &&& (2147483647 : Int32))), .val (.int (p1 &&& (2147483647 : Int32))), .val (.int (own_mn (p0 &&& (2147483647 : Int32)) (p1 &&& (2147483647 : Int32)))), .val (.int (own_mx (p0 &&& (2147483647 : Int32)) (p1 &&& (2147483647 : Int32)))), .val (.int (own_mx (1 : Int32) (p2 &&& (2147483647 : Int32)))), .val (.int (p3 &&& (2147483647 : Int32))), .val (.int ((p5 &&& (1023 : Int32)) + (1 : Int32))), .val (.int ((p4 &&& (2147483647 : Int32)) % (((p5 &&& (1023 : Int32)) + (1 : Int32)) + (1 : Int32)))), .val (.double (FP.ddiv (FP.i2d ((p4 &&& (2147483647 : Int32)) % (((p5 &&& (1023 : Int32)) + (1 : Int32)) + (1 : Int32)))) (FP.i2d ((p5 &&& (1023 : Int32)) + (1 : Int32))))), .second, .val (.ref b4), .unset, .unset, .unset, .unset] [(.int (0 : Int32))])) _
    refine XS.istore X6'.here hx rfl (hb hby at_102) rfl (l' := #[.val (.int p0), .val (.int p1), .val (.int p2), .val (.int p3), .val (.int p4), .val (.int p5), .val (.int (p0 &&& (2147483647 : Int32))), .val (.int (p1 &&& (2147483647 : Int32))), .val (.int (own_mn (p0 &&& (2147483647 : Int32)) (p1 &&& (2147483647 : Int32)))), .val (.int (own_mx (p0 &&& (2147483647 : Int32)) (p1 &&& (2147483647 : Int32)))), .val (.int (own_mx (1 : Int32) (p2 &&& (2147483647 : Int32)))), .val (.int (p3 &&& (2147483647 : Int32))), .val (.int ((p5 &&& (1023 : Int32)) + (1 : Int32))), .val (.int ((p4 &&& (2147483647 : Int32)) % (((p5 &&& (1023 : Int32)) + (1 : Int32)) + (1 : Int32)))), .val (.double (FP.ddiv (FP.i2d ((p4 &&& (2147483647 : Int32)) % (((p5 &&& (1023 : Int32)) + (1 : Int32)) + (1 : Int32)))) (FP.i2d ((p5 &&& (1023 : Int32)) + (1 : Int32))))), .second, .val (.ref b4), .val (.int (0 : Int32)), .unset, .unset, .unset]) rfl ?_
    refine XS.iload X6'.here hx rfl (hb hby at_104) rfl ?_
    refine XS.i2l X6'.here hx rfl (hb hby at_106) rfl ?_
    refine XS.iload X6'.here hx rfl (hb hby at_107) rfl ?_
    refine XS.i2l X6'.here hx rfl (hb hby at_109) rfl ?_
    show Steps p.tables e below (T6.setTop (mkF m 110 #[.val (.int p0), .val (.int p1), .val (.int p2), .val (.int p3), .val (.int p4), .val (.int p5), .val (.int (p0 &&& (2147483647 : Int32))), .val (.int (p1 &&& (2147483647 : Int32))), .val (.int (own_mn (p0 &&& (2147483647 : Int32)) (p1 &&& (2147483647 : Int32)))), .val (.int (own_mx (p0 &&& (2147483647 : Int32)) (p1 &&& (2147483647 : Int32)))), .val (.int (own_mx (1 : Int32) (p2 &&& (2147483647 : Int32)))), .val (.int (p3 &&& (2147483647 : Int32))), .val (.int ((p5 &&& (1023 : Int32)) + (1 : Int32))), .val (.int ((p4 &&& (2147483647 : Int32)) % (((p5 &&& (1023 : Int32)) + (1 : Int32)) + (1 : Int32)))), .val (.double (FP.ddiv (FP.i2d ((p4 &&& (2147483647 : Int32)) % (((p5 &&& (1023 : Int32)) + (1 : Int32)) + (1 : Int32)))) (FP.i2d ((p5 &&& (1023 : Int32)) + (1 : Int32))))), .second, .val (.ref b4), .val (.int (0 : Int32)), .unset, .unset, .unset] [(.long ((own_mn (p0 &&& (2147483647 : Int32)) (p1 &&& (2147483647 : Int32))).toInt64)), (.long ((own_mx (p0 &&& (2147483647 : Int32)) (p1 &&& (2147483647 : Int32))).toInt64))])) _
    refine XS.lsub X6'.here hx rfl (hb hby at_110) rfl ?_
    refine XS.lstore X6'.here hx rfl (hb hby at_111) rfl (l' := #[.val (.int p0), .val (.int p1), .val (.int p2), .val (.int p3), .val (.int p4), .val (.int p5), .val (.int (p0 &&& (2147483647 : Int32))), .val (.int (p1 &&& (2147483647 : Int32))), .val (.int (own_mn (p0 &&& (2147483647 : Int32)) (p1 &&& (2147483647 : Int32)))), .val (.int (own_mx (p0 &&& (2147483647 : Int32)) (p1 &&& (2147483647 : Int32)))), .val (.int (own_mx (1 : Int32) (p2 &&& (2147483647 : Int32)))), .val (.int (p3 &&& (2147483647 : Int32))), .val (.int ((p5 &&& (1023 : Int32)) + (1 : Int32))), .val (.int ((p4 &&& (2147483647 : Int32)) % (((p5 &&& (1023 : Int32)) + (1 : Int32)) + (1 : Int32)))), .val (.double (FP.ddiv (FP.i2d ((p4 &&& (2147483647 : Int32)) % (((p5 &&& (1023 : Int32)) + (1 : Int32)) + (1 : Int32)))) (FP.i2d ((p5 &&& (1023 : Int32)) + (1 : Int32))))), .second, .val (.ref b4), .val (.int (0 : Int32)), .val (.long (((own_mx (p0 &&& (2147483647 : Int32)) (p1 &&& (2147483647 : Int32))).toInt64) - ((own_mn (p0 &&& (2147483647 : Int32)) (p1 &&& (2147483647 : Int32))).toInt64))), .second, .unset]) rfl ?_
    refine XS.iload X6'.here hx rfl (hb hby at_113) rfl ?_
    refine XS.iload X6'.here hx rfl (hb hby at_115) rfl ?_
    refine XS.icmpNo X6'.here hx rfl (hb hby at_117) rfl (flt hc8).1 ?_
    refine XS.lload X6'.here hx rfl (hb hby at_120) rfl ?_
    refine XS.iload X6'.here hx rfl (hb hby at_122) rfl ?_
    refine XS.i2l X6'.here hx rfl (hb hby at_124) rfl ?_
    refine XS.lcmp X6'.here hx rfl (hb hby at_125) rfl ?_
    refine XS.ifNo X6'.here hx rfl (hb hby at_126) rfl ((if0 _ _).trans (flt hc12).1) ?_
    refine XS.lload X6'.here hx rfl (hb hby at_129) rfl ?_
    refine XS.iload X6'.here hx rfl (hb hby at_131) rfl ?_
    refine XS.i2l X6'.here hx rfl (hb hby at_133) rfl ?_
    show Steps p.tables e below (T6.setTop (mkF m 134 #[.val (.int p0), .val (.int p1), .val (.int p2), .val (.int p3), .val (.int p4), .val (.int p5), .val (.int (p0 &&& (2147483647 : Int32))), .val (.int (p1 &&& (2147483647 : Int32))), .val (.int (own_mn (p0 &&& (2147483647 : Int32)) (p1 &&& (2147483647 : Int32)))), .val (.int (own_mx (p0 &&& (2147483647 : Int32)) (p1 &&& (2147483647 : Int32)))), .val (.int (own_mx (1 : Int32) (p2 &&& (2147483647 : Int32)))), .val (.int (p3 &&& (2147483647 : Int32))), .val (.int ((p5 &&& (1023 : Int32)) + (1 : Int32))), .val (.int ((p4 &&& (2147483647 : Int32)) % (((p5 &&& (1023 : Int32)) + (1 : Int32)) + (1 : Int32)))), .val (.double (FP.ddiv (FP.i2d ((p4 &&& (2147483647 : Int32)) % (((p5 &&& (1023 : Int32)) + (1 : Int32)) + (1 : Int32)))) (FP.i2d ((p5 &&& (1023 : Int32)) + (1 : Int32))))), .second, .val (.ref b4), .val (.int (0 : Int32)), .val (.long (((own_mx (p0 &&& (2147483647 : Int32)) (p1 &&& (2147483647 : Int32))).toInt64) - ((own_mn (p0 &&& (2147483647 : Int32)) (p1 &&& (2147483647 : Int32))).toInt64))), .second, .unset] [(.long (((p5 &&& (1023 : Int32)) + (1 : Int32)).toInt64)), (.long (((own_mx (p0 &&& (2147483647 : Int32)) (p1 &&& (2147483647 : Int32))).toInt64) - ((own_mn (p0 &&& (2147483647 : Int32)) (p1 &&& (2147483647 : Int32))).toInt64)))])) _
    refine XS.lmul X6'.here hx rfl (hb hby at_134) rfl ?_
    refine XS.iload X6'.here hx rfl (hb hby at_135) rfl ?_
    refine XS.i2l X6'.here hx rfl (hb hby at_137) rfl ?_
    refine XS.iload X6'.here hx rfl (hb hby at_138) rfl ?_
    refine XS.i2l X6'.here hx rfl (hb hby at_140) rfl ?_
    show Steps p.tables e below (T6.setTop (mkF m 141 #[.val (.int p0), .val (.int p1), .val (.int p2), .val (.int p3), .val (.int p4), .val (.int p5), .val (.int (p0 &&& (2147483647 : Int32))), .val (.int (p1 &&& (2147483647 : Int32))), .val (.int (own_mn (p0 &&& (2147483647 : Int32)) (p1 &&& (2147483647 : Int32)))), .val (.int (own_mx (p0 &&& (2147483647 : Int32)) (p1 &&& (2147483647 : Int32)))), .val (.int (own_mx (1 : Int32) (p2 &&& (2147483647 : Int32)))), .val (.int (p3 &&& (2147483647 : Int32))), .val (.int ((p5 &&& (1023 : Int32)) + (1 : Int32))), .val (.int ((p4 &&& (2147483647 : Int32)) % (((p5 &&& (1023 : Int32)) + (1 : Int32)) + (1 : Int32)))), .val (.double (FP.ddiv (FP.i2d ((p4 &&& (2147483647 : Int32)) % (((p5 &&& (1023 : Int32)) + (1 : Int32)) + (1 : Int32)))) (FP.i2d ((p5 &&& (1023 : Int32)) + (1 : Int32))))), .second, .val (.ref b4), .val (.int (0 : Int32)), .val (.long (((own_mx (p0 &&& (2147483647 : Int32)) (p1 &&& (2147483647 : Int32))).toInt64) - ((own_mn (p0 &&& (2147483647 : Int32)) (p1 &&& (2147483647 : Int32))).toInt64))), .second, .unset] [(.long ((own_mx (p0 &&& (2147483647 : Int32)) (p1 &&& (2147483647 : Int32))).toInt64)), (.long (((p4 &&& (2147483647 : Int32)) % (((p5 &&& (1023 : Int32)) + (1 : Int32)) + (1 : Int32))).toInt64)), (.long ((((own_mx (p0 &&& (2147483647 : Int32)) (p1 &&& (2147483647 : Int32))).toInt64) - ((own_mn (p0 &&& (2147483647 : Int32)) (p1 &&& (2147483647 : Int32))).toInt64)) * (((p5 &&& (1023 : Int32)) + (1 : Int32)).toInt64)))])) _
    refine XS.lmul X6'.here hx rfl (hb hby at_141) rfl ?_
    refine XS.lcmp X6'.here hx rfl (hb hby at_142) rfl ?_
    refine XS.ifYes X6'.here hx rfl (pc0 := 143) (pc' := 150) rfl (hb hby at_143) rfl ((if0 _ _).trans (tlt hc13).1) (by decide) (by decide) ?_
    refine XS.iconst X6'.here hx rfl (hb hby at_150) ?_
    refine XS.istore X6'.here hx rfl (hb hby at_151) rfl (l' := #[.val (.int p0), .val (.int p1), .val (.int p2), .val (.int p3), .val (.int p4), .val (.int p5), .val (.int (p0 &&& (2147483647 : Int32))), .val (.int (p1 &&& (2147483647 : Int32))), .val (.int (own_mn (p0 &&& (2147483647 : Int32)) (p1 &&& (2147483647 : Int32)))), .val (.int (own_mx (p0 &&& (2147483647 : Int32)) (p1 &&& (2147483647 : Int32)))), .val (.int (own_mx (1 : Int32) (p2 &&& (2147483647 : Int32)))), .val (.int (p3 &&& (2147483647 : Int32))), .val (.int ((p5 &&& (1023 : Int32)) + (1 : Int32))), .val (.int ((p4 &&& (2147483647 : Int32)) % (((p5 &&& (1023 : Int32)) + (1 : Int32)) + (1 : Int32)))), .val (.double (FP.ddiv (FP.i2d ((p4 &&& (2147483647 : Int32)) % (((p5 &&& (1023 : Int32)) + (1 : Int32)) + (1 : Int32)))) (FP.i2d ((p5 &&& (1023 : Int32)) + (1 : Int32))))), .second, .val (.ref b4), .val (.int (0 : Int32)), .val (.long (((own_mx (p0 &&& (2147483647 : Int32)) (p1 &&& (2147483647 : Int32))).toInt64) - ((own_mn (p0 &&& (2147483647 : Int32)) (p1 &&& (2147483647 : Int32))).toInt64))), .second, .val (.int (0 : Int32))]) rfl ?_
    refine XS.iload X6'.here hx rfl (hb hby at_153) rfl ?_
    refine XS.iload X6'.here hx rfl (hb hby at_155) rfl ?_
    refine XS.icmpNo X6'.here hx rfl (hb hby at_157) rfl (teq (by decide : (0 : Int32) = (0 : Int32))).2 ?_
    refine XS.iconst X6'.here hx rfl (hb hby at_160) ?_
    refine XS.goto X6'.here hx rfl (pc0 := 161) (pc' := 165) rfl (hb hby at_161) (by decide) (by decide) ?_
    show Steps p.tables e below (T6.setTop (mkF m 165 #[.val (.int p0), .val (.int p1), .val (.int p2), .val (.int p3), .val (.int p4), .val (.int p5), .val (.int (p0 &&& (2147483647 : Int32))), .val (.int (p1 &&& (2147483647 : Int32))), .val (.int (own_mn (p0 &&& (2147483647 : Int32)) (p1 &&& (2147483647 : Int32)))), .val (.int (own_mx (p0 &&& (2147483647 : Int32)) (p1 &&& (2147483647 : Int32)))), .val (.int (own_mx (1 : Int32) (p2 &&& (2147483647 : Int32)))), .val (.int (p3 &&& (2147483647 : Int32))), .val (.int ((p5 &&& (1023 : Int32)) + (1 : Int32))), .val (.int ((p4 &&& (2147483647 : Int32)) % (((p5 &&& (1023 : Int32)) + (1 : Int32)) + (1 : Int32)))), .val (.double (FP.ddiv (FP.i2d ((p4 &&& (2147483647 : Int32)) % (((p5 &&& (1023 : Int32)) + (1 : Int32)) + (1 : Int32)))) (FP.i2d ((p5 &&& (1023 : Int32)) + (1 : Int32))))), .second, .val (.ref b4), .val (.int (0 : Int32)), .val (.long (((own_mx (p0 &&& (2147483647 : Int32)) (p1 &&& (2147483647 : Int32))).toInt64) - ((own_mn (p0 &&& (2147483647 : Int32)) (p1 &&& (2147483647 : Int32))).toInt64))), .second, .val (.int (0 : Int32))] [(.int (1 : Int32))])) _
    exact retN X6' hx (t := .boolean) Bd.returns (by simp) (hb hby at_165) hr
  · show Q0c Z p0 p1 p2 p3 p4 p5 h0 n0 _ T6.heap _
    rw [e6]
    exact ⟨rfl, N6⟩
theorem ef_rm0d (m : MethodId) (p0 : Int32) (p1 : Int32) (p2 : Int32) (p3 : Int32) (p4 : Int32) (p5 : Int32) : entryFrame m #[(.int p0), (.int p1), (.int p2), (.int p3), (.int p4), (.int p5)] maxLocals = mkF m 0 #[.val (.int p0), .val (.int p1), .val (.int p2), .val (.int p3), .val (.int p4), .val (.int p5), .unset, .unset, .unset, .unset, .unset, .unset, .unset, .unset, .unset, .unset, .unset, .unset, .unset, .unset, .unset] [] := by first | (simp [entryFrame, mkF, argsToLocals, Value.category, maxLocals]; done) | rfl
def Q0d (Z : State) (p0 : Int32) (p1 : Int32) (p2 : Int32) (p3 : Int32) (p4 : Int32) (p5 : Int32) (h0 : Heap) (n0 : Nat) (v : Option Value) (h : Heap) (L : List Loc) : Prop := v = some (.int (1 : Int32)) ∧ Fr n0 L
set_option maxRecDepth 65536 in
set_option maxHeartbeats 40000000 in
theorem rm0d (l : Launch) (Z : State) (az : Array Value) (hw : ∀ d ∈ tables_1, d.before az Z = true) (ws : List Jvm.Cond) (p0 : Int32) (p1 : Int32) (p2 : Int32) (p3 : Int32) (p4 : Int32) (p5 : Int32) (h0 : Heap) (n0 : Nat) (Z0 : n0 ≤ h0.size) (hc0 : (((p5 &&& (1023 : Int32)) + (1 : Int32)) + (1 : Int32)) ≠ (0 : Int32)) (hc1 : Jvm.Free.Fl.NoNaN64 (FP.ddiv (FP.i2d ((p4 &&& (2147483647 : Int32)) % (((p5 &&& (1023 : Int32)) + (1 : Int32)) + (1 : Int32)))) (FP.i2d ((p5 &&& (1023 : Int32)) + (1 : Int32))))) (hc2 : ¬ ((own_mx (1 : Int32) (p2 &&& (2147483647 : Int32))) < (1 : Int32))) (hc3 : ¬ ((p3 &&& (2147483647 : Int32)) < (0 : Int32))) (hc4 : ¬ ((cmpValue (FP.dcmp (FP.ddiv (FP.i2d ((p4 &&& (2147483647 : Int32)) % (((p5 &&& (1023 : Int32)) + (1 : Int32)) + (1 : Int32)))) (FP.i2d ((p5 &&& (1023 : Int32)) + (1 : Int32)))) FP.dconst0) .l) < (0 : Int32))) (hc5 : ¬ ((0 : Int32) < (cmpValue (FP.dcmp (FP.ddiv (FP.i2d ((p4 &&& (2147483647 : Int32)) % (((p5 &&& (1023 : Int32)) + (1 : Int32)) + (1 : Int32)))) (FP.i2d ((p5 &&& (1023 : Int32)) + (1 : Int32)))) FP.dconst1) .g))) (hc6 : ¬ ((cmpValue (FP.dcmp FP.dconst0 FP.dconst0) .l) < (0 : Int32))) (hc7 : (cmpValue (FP.dcmp FP.dconst0 FP.dconst1) .g) < (0 : Int32)) (hc8 : ¬ ((own_mn (p0 &&& (2147483647 : Int32)) (p1 &&& (2147483647 : Int32))) < (own_mx (1 : Int32) (p2 &&& (2147483647 : Int32))))) (hc9 : ¬ (((own_mx (p0 &&& (2147483647 : Int32)) (p1 &&& (2147483647 : Int32))) - (own_mn (p0 &&& (2147483647 : Int32)) (p1 &&& (2147483647 : Int32)))) < (p3 &&& (2147483647 : Int32)))) (hc10 : Jvm.Free.Fl.NoNaN64 (FP.ddiv (FP.i2d ((own_mx (p0 &&& (2147483647 : Int32)) (p1 &&& (2147483647 : Int32))) - (own_mn (p0 &&& (2147483647 : Int32)) (p1 &&& (2147483647 : Int32))))) (FP.i2d (own_mx (p0 &&& (2147483647 : Int32)) (p1 &&& (2147483647 : Int32)))))) (hc11 : ¬ ((cmpValue (FP.dcmp (FP.ddiv (FP.i2d ((own_mx (p0 &&& (2147483647 : Int32)) (p1 &&& (2147483647 : Int32))) - (own_mn (p0 &&& (2147483647 : Int32)) (p1 &&& (2147483647 : Int32))))) (FP.i2d (own_mx (p0 &&& (2147483647 : Int32)) (p1 &&& (2147483647 : Int32))))) (FP.ddiv (FP.i2d ((p4 &&& (2147483647 : Int32)) % (((p5 &&& (1023 : Int32)) + (1 : Int32)) + (1 : Int32)))) (FP.i2d ((p5 &&& (1023 : Int32)) + (1 : Int32))))) .l) < (0 : Int32))) (hc12 : ¬ ((lcmpW (((own_mx (p0 &&& (2147483647 : Int32)) (p1 &&& (2147483647 : Int32))).toInt64) - ((own_mn (p0 &&& (2147483647 : Int32)) (p1 &&& (2147483647 : Int32))).toInt64)) ((p3 &&& (2147483647 : Int32)).toInt64)) < (0 : Int32))) (hc13 : ¬ ((lcmpW ((((own_mx (p0 &&& (2147483647 : Int32)) (p1 &&& (2147483647 : Int32))).toInt64) - ((own_mn (p0 &&& (2147483647 : Int32)) (p1 &&& (2147483647 : Int32))).toInt64)) * (((p5 &&& (1023 : Int32)) + (1 : Int32)).toInt64)) ((((p4 &&& (2147483647 : Int32)) % (((p5 &&& (1023 : Int32)) + (1 : Int32)) + (1 : Int32))).toInt64) * ((own_mx (p0 &&& (2147483647 : Int32)) (p1 &&& (2147483647 : Int32))).toInt64))) < (0 : Int32))) :
    MetFree l x (head1 (Jvm.Cond.code x code maxLocals ret :: ws) room_1) (fun a U => a = #[(.int p0), (.int p1), (.int p2), (.int p3), (.int p4), (.int p5)] ∧ Z.Warmed39 U.vm ∧ U.heap = h0) (fun _ _ _ _ _ => True) (fun _ U o U' => ∃ v L, o = .returned v ∧ Q0d Z p0 p1 p2 p3 p4 p5 h0 n0 v U'.heap L ∧ FrameEnd U o U' L room_1.cells room_1.slots) := by
  refine MetFree.of_bodySF (plainFor_of_name pn_com_example_headlattice_headlattice_learn_LimitsAllowsConditionPinLaw) hisR ?_
  intro p e s m args below meth c s₁ Bd hml0 hP hK
  obtain ⟨rfl, hZ, hh⟩ := hP
  have hx := Bd.exec
  have hby := Bd.bytes
  have hml : c.maxLocals = 21 := hml0
  have hown : s.vm.findClass "com/example/headlattice/headlattice/learn/LimitsAllowsConditionPinLaw" = some m.cls := findClass_of_methodNamed Bd.named
  have hnm := (name_of_methodNamed Bd.named Bd.method).1
  have X0 : Stand p l e room_1 s m #[(.int p0), (.int p1), (.int p2), (.int p3), (.int p4), (.int p5)] below meth c s₁ [] 0 0 := Stand.of_body Bd
  have e0 : s₁.heap = h0 := by rw [← hh, Bd.state]; rfl
  have N0 := Fr.nil n0
  have pre0 : ∀ t, Steps p.tables e below (s₁.setTop (mkF m 0 #[.val (.int p0), .val (.int p1), .val (.int p2), .val (.int p3), .val (.int p4), .val (.int p5), .unset, .unset, .unset, .unset, .unset, .unset, .unset, .unset, .unset, .unset, .unset, .unset, .unset, .unset, .unset] [])) t → Steps p.tables e below (s₁.setTop (entryFrame m #[(.int p0), (.int p1), (.int p2), (.int p3), (.int p4), (.int p5)] maxLocals)) t := fun t k => castTop (ef_rm0d m p0 p1 p2 p3 p4 p5) k
  obtain ⟨_, _, ⟨T1, L1, k1', n1'⟩, -, X1, ⟨Lc1, hQ1, l1, y1, z1⟩, st1⟩ := Jvm.LawKit.callS X0 hx (y := (⟨"java/lang/Math", "min", "(II)I"⟩ : MethodName)) hown (mvT hZ (w1 hw)) (mvT hZ (w2 hw)) (mvT hZ (w3 hw)) (mvT hZ (w4 hw)) (by decide) (backOf (W := 0) (rmMN l Z az hw [] (p0 &&& (2147483647 : Int32)) (p1 &&& (2147483647 : Int32)) h0 n0 Z0) hZ (w4 hw) (w3 hw) (by decide) (by decide)) (g := (mkF m 16 #[.val (.int p0), .val (.int p1), .val (.int p2), .val (.int p3), .val (.int p4), .val (.int p5), .val (.int (p0 &&& (2147483647 : Int32))), .val (.int (p1 &&& (2147483647 : Int32))), .unset, .unset, .unset, .unset, .unset, .unset, .unset, .unset, .unset, .unset, .unset, .unset, .unset] [(.int (p1 &&& (2147483647 : Int32))), (.int (p0 &&& (2147483647 : Int32)))])) rfl (by rw [hml]; rfl) (argsL := [(.int (p0 &&& (2147483647 : Int32))), (.int (p1 &&& (2147483647 : Int32)))]) (rest := []) (lenOf pd_1 rfl) rfl (by show 2 * 0 + _ ≤ _; exact Nat.le_of_eq rfl) (hb hby at_16) (fun _ _ => ⟨rfl, e0, (by decide : 0 + 0 ≤ _), (by decide : 0 + 0 ≤ _)⟩)
  dsimp only [Pt.U, Pt.locs, Pt.cells, Pt.slots] at X1 l1 y1 z1 st1 hQ1
  subst l1 y1 z1
  obtain ⟨rfl, N1q, e1⟩ := hQ1
  obtain ⟨Lg1, X1', N1⟩ := own_gen X1 (Fr.app N0 N1q)
  obtain ⟨_, _, ⟨T2, L2, k2', n2'⟩, -, X2, ⟨Lc2, hQ2, l2, y2, z2⟩, st2⟩ := Jvm.LawKit.callS X1' hx (y := (⟨"java/lang/Math", "max", "(II)I"⟩ : MethodName)) hown (mvT hZ (w5 hw)) (mvT hZ (w6 hw)) (mvT hZ (w3 hw)) (mvT hZ (w7 hw)) (by decide) (backOf (W := 0) (rmMX l Z az hw [] (p0 &&& (2147483647 : Int32)) (p1 &&& (2147483647 : Int32)) h0 n0 Z0) hZ (w7 hw) (w3 hw) (by decide) (by decide)) (g := (mkF m 25 #[.val (.int p0), .val (.int p1), .val (.int p2), .val (.int p3), .val (.int p4), .val (.int p5), .val (.int (p0 &&& (2147483647 : Int32))), .val (.int (p1 &&& (2147483647 : Int32))), .val (.int (own_mn (p0 &&& (2147483647 : Int32)) (p1 &&& (2147483647 : Int32)))), .unset, .unset, .unset, .unset, .unset, .unset, .unset, .unset, .unset, .unset, .unset, .unset] [(.int (p1 &&& (2147483647 : Int32))), (.int (p0 &&& (2147483647 : Int32)))])) rfl (by rw [hml]; rfl) (argsL := [(.int (p0 &&& (2147483647 : Int32))), (.int (p1 &&& (2147483647 : Int32)))]) (rest := []) (lenOf pd_1 rfl) rfl (by show 2 * 0 + _ ≤ _; exact Nat.le_of_eq rfl) (hb hby at_25) (fun _ _ => ⟨rfl, e1, (by decide : 0 + 0 ≤ _), (by decide : 0 + 0 ≤ _)⟩)
  dsimp only [Pt.U, Pt.locs, Pt.cells, Pt.slots] at X2 l2 y2 z2 st2 hQ2
  subst l2 y2 z2
  obtain ⟨rfl, N2q, e2⟩ := hQ2
  obtain ⟨Lg2, X2', N2⟩ := own_gen X2 (Fr.app N1 N2q)
  obtain ⟨_, _, ⟨T3, L3, k3', n3'⟩, -, X3, ⟨Lc3, hQ3, l3, y3, z3⟩, st3⟩ := Jvm.LawKit.callS X2' hx (y := (⟨"java/lang/Math", "max", "(II)I"⟩ : MethodName)) hown (mvT hZ (w5 hw)) (mvT hZ (w6 hw)) (mvT hZ (w3 hw)) (mvT hZ (w7 hw)) (by decide) (backOf (W := 0) (rmMX l Z az hw [] (1 : Int32) (p2 &&& (2147483647 : Int32)) h0 n0 Z0) hZ (w7 hw) (w3 hw) (by decide) (by decide)) (g := (mkF m 35 #[.val (.int p0), .val (.int p1), .val (.int p2), .val (.int p3), .val (.int p4), .val (.int p5), .val (.int (p0 &&& (2147483647 : Int32))), .val (.int (p1 &&& (2147483647 : Int32))), .val (.int (own_mn (p0 &&& (2147483647 : Int32)) (p1 &&& (2147483647 : Int32)))), .val (.int (own_mx (p0 &&& (2147483647 : Int32)) (p1 &&& (2147483647 : Int32)))), .unset, .unset, .unset, .unset, .unset, .unset, .unset, .unset, .unset, .unset, .unset] [(.int (p2 &&& (2147483647 : Int32))), (.int (1 : Int32))])) rfl (by rw [hml]; rfl) (argsL := [(.int (1 : Int32)), (.int (p2 &&& (2147483647 : Int32)))]) (rest := []) (lenOf pd_1 rfl) rfl (by show 2 * 0 + _ ≤ _; exact Nat.le_of_eq rfl) (hb hby at_35) (fun _ _ => ⟨rfl, e2, (by decide : 0 + 0 ≤ _), (by decide : 0 + 0 ≤ _)⟩)
  dsimp only [Pt.U, Pt.locs, Pt.cells, Pt.slots] at X3 l3 y3 z3 st3 hQ3
  subst l3 y3 z3
  obtain ⟨rfl, N3q, e3⟩ := hQ3
  obtain ⟨Lg3, X3', N3⟩ := own_gen X3 (Fr.app N2 N3q)
  obtain ⟨T4, h4, X4, e4, E4, A4, D4, -, st4⟩ := newO X3' hx hZ hown (w8 hw) (w9 hw) (w10 hw) e3 (g := (mkF m 77 #[.val (.int p0), .val (.int p1), .val (.int p2), .val (.int p3), .val (.int p4), .val (.int p5), .val (.int (p0 &&& (2147483647 : Int32))), .val (.int (p1 &&& (2147483647 : Int32))), .val (.int (own_mn (p0 &&& (2147483647 : Int32)) (p1 &&& (2147483647 : Int32)))), .val (.int (own_mx (p0 &&& (2147483647 : Int32)) (p1 &&& (2147483647 : Int32)))), .val (.int (own_mx (1 : Int32) (p2 &&& (2147483647 : Int32)))), .val (.int (p3 &&& (2147483647 : Int32))), .val (.int ((p5 &&& (1023 : Int32)) + (1 : Int32))), .val (.int ((p4 &&& (2147483647 : Int32)) % (((p5 &&& (1023 : Int32)) + (1 : Int32)) + (1 : Int32)))), .val (.double (FP.ddiv (FP.i2d ((p4 &&& (2147483647 : Int32)) % (((p5 &&& (1023 : Int32)) + (1 : Int32)) + (1 : Int32)))) (FP.i2d ((p5 &&& (1023 : Int32)) + (1 : Int32))))), .second, .unset, .unset, .unset, .unset, .unset] [])) rfl (hb hby at_77) (by decide) (by decide)
  obtain ⟨b4, g4⟩ : ∃ z, z = h0.size := ⟨_, rfl⟩
  rw [← g4] at A4 D4 st4
  have g_b4 : n0 ≤ b4 := Nat.le_trans Z0 (Nat.le_of_eq g4.symm)
  have sz_b4 : h0.size ≤ b4 := Nat.le_trans (Nat.le_refl _) (Nat.le_of_eq g4.symm)
  have Z4 : n0 ≤ h4.size := Nat.le_trans Z0 E4.1
  have K4 : Keep h0 h4 [] := (Keep.refl h0 []).ext E4
  have E_b4 := A4
  have F_minCovered_b4 : Fld Z h4 b4 cLM "minCovered" "I" (.int (0 : Int32)) := D4 (Or.inr (w23 hw)) (ty := .int) (by decide)
  have F_minExcluded_b4 : Fld Z h4 b4 cLM "minExcluded" "I" (.int (0 : Int32)) := D4 (Or.inr (w25 hw)) (ty := .int) (by decide)
  have F_minExcludedShare_b4 : Fld Z h4 b4 cLM "minExcludedShare" "D" (.double (0 : UInt64)) := D4 (Or.inr (w27 hw)) (ty := .double) (by decide)
  have F_minPrecision_b4 : Fld Z h4 b4 cLM "minPrecision" "D" (.double (0 : UInt64)) := D4 (Or.inr (w29 hw)) (ty := .double) (by decide)
  obtain ⟨_, _, ⟨T5, L5, k5', n5'⟩, -, X5, ⟨Lc5, hQ5, l5, y5, z5⟩, st5⟩ := X4.specialBack hx (y := (⟨cLM, "<init>", "(IIDD)V"⟩ : MethodName)) rfl hown (mvT hZ (w11 hw)) (mvT hZ (w12 hw)) (mvT hZ (w13 hw)) (by decide) (backOf (W := 1) (rm3 l Z az hw [] b4 (own_mx (1 : Int32) (p2 &&& (2147483647 : Int32))) (p3 &&& (2147483647 : Int32)) (FP.ddiv (FP.i2d ((p4 &&& (2147483647 : Int32)) % (((p5 &&& (1023 : Int32)) + (1 : Int32)) + (1 : Int32)))) (FP.i2d ((p5 &&& (1023 : Int32)) + (1 : Int32)))) FP.dconst0 h4 n0 Z4 E_b4 F_minCovered_b4 F_minExcluded_b4 F_minExcludedShare_b4 F_minPrecision_b4 hc2 hc3 hc4 hc5 hc6 hc7 g_b4) hZ (w13 hw) (w10 hw) (by decide) (by decide)) (g := (mkF m 88 #[.val (.int p0), .val (.int p1), .val (.int p2), .val (.int p3), .val (.int p4), .val (.int p5), .val (.int (p0 &&& (2147483647 : Int32))), .val (.int (p1 &&& (2147483647 : Int32))), .val (.int (own_mn (p0 &&& (2147483647 : Int32)) (p1 &&& (2147483647 : Int32)))), .val (.int (own_mx (p0 &&& (2147483647 : Int32)) (p1 &&& (2147483647 : Int32)))), .val (.int (own_mx (1 : Int32) (p2 &&& (2147483647 : Int32)))), .val (.int (p3 &&& (2147483647 : Int32))), .val (.int ((p5 &&& (1023 : Int32)) + (1 : Int32))), .val (.int ((p4 &&& (2147483647 : Int32)) % (((p5 &&& (1023 : Int32)) + (1 : Int32)) + (1 : Int32)))), .val (.double (FP.ddiv (FP.i2d ((p4 &&& (2147483647 : Int32)) % (((p5 &&& (1023 : Int32)) + (1 : Int32)) + (1 : Int32)))) (FP.i2d ((p5 &&& (1023 : Int32)) + (1 : Int32))))), .second, .unset, .unset, .unset, .unset, .unset] [(.double FP.dconst0), (.double (FP.ddiv (FP.i2d ((p4 &&& (2147483647 : Int32)) % (((p5 &&& (1023 : Int32)) + (1 : Int32)) + (1 : Int32)))) (FP.i2d ((p5 &&& (1023 : Int32)) + (1 : Int32))))), (.int (p3 &&& (2147483647 : Int32))), (.int (own_mx (1 : Int32) (p2 &&& (2147483647 : Int32)))), (.ref b4), (.ref b4)])) rfl (by rw [hml]; rfl) (Steps.refl _) (a := b4) (argsL := [(.int (own_mx (1 : Int32) (p2 &&& (2147483647 : Int32)))), (.int (p3 &&& (2147483647 : Int32))), (.double (FP.ddiv (FP.i2d ((p4 &&& (2147483647 : Int32)) % (((p5 &&& (1023 : Int32)) + (1 : Int32)) + (1 : Int32)))) (FP.i2d ((p5 &&& (1023 : Int32)) + (1 : Int32))))), (.double FP.dconst0)]) (rest := [(.ref b4)]) (lenOf pd_2 rfl) rfl (by show 2 * 0 + _ ≤ _; exact Nat.le_of_eq rfl) (hb hby at_88) (fun _ _ => ⟨rfl, e4, (by decide : 1 + 0 ≤ _), (by decide : 4 + 0 ≤ _)⟩)
  dsimp only [Pt.U, Pt.locs, Pt.cells, Pt.slots] at X5 l5 y5 z5 st5 hQ5
  subst l5 y5 z5
  obtain ⟨rfl, N5q, kq5, pf5_0, pf5_1, pf5_2, pf5_3, pf5_4⟩ := hQ5
  obtain ⟨Lg5, X5', N5⟩ := own_gen X5 (Fr.app N3 N5q)
  have K5 : Keep h0 T5.heap [] := K4.trans kq5 (allS (Or.inr sz_b4) all0)
  have Z5 : n0 ≤ T5.heap.size := Nat.le_trans Z4 kq5.1
  obtain ⟨cq6, kq6, q6a, q6b, q6c⟩ := isOf hZ rfl pf5_0
  obtain ⟨_, _, ⟨T6, L6, k6', n6'⟩, -, X6, ⟨Lc6, hQ6, l6, y6, z6⟩, st6⟩ := X5'.virtualBack hx (y := (⟨cLM, "allowsCondition", "(II)Z"⟩ : MethodName)) (z := (⟨cLM, "allowsCondition", "(II)Z"⟩ : MethodName)) hown (mvT hZ (w30 hw)) (mvT hZ (w31 hw)) (notFace_of_selects (args := #[]) (mvT hZ (w33 hw))) (mvT hZ (w33 hw)) (mvT hZ (w32 hw)) (by decide) (backOf (W := 0) (rm6d l Z az hw [] b4 (own_mn (p0 &&& (2147483647 : Int32)) (p1 &&& (2147483647 : Int32))) (own_mx (p0 &&& (2147483647 : Int32)) (p1 &&& (2147483647 : Int32))) (own_mx (1 : Int32) (p2 &&& (2147483647 : Int32))) (p3 &&& (2147483647 : Int32)) (FP.ddiv (FP.i2d ((p4 &&& (2147483647 : Int32)) % (((p5 &&& (1023 : Int32)) + (1 : Int32)) + (1 : Int32)))) (FP.i2d ((p5 &&& (1023 : Int32)) + (1 : Int32)))) T5.heap n0 Z5 pf5_1 hc8 pf5_2 hc9 hc10 pf5_3 hc11) hZ (w34 hw) (w10 hw) (by decide) (by decide)) q6a q6c (g := (mkF m 99 #[.val (.int p0), .val (.int p1), .val (.int p2), .val (.int p3), .val (.int p4), .val (.int p5), .val (.int (p0 &&& (2147483647 : Int32))), .val (.int (p1 &&& (2147483647 : Int32))), .val (.int (own_mn (p0 &&& (2147483647 : Int32)) (p1 &&& (2147483647 : Int32)))), .val (.int (own_mx (p0 &&& (2147483647 : Int32)) (p1 &&& (2147483647 : Int32)))), .val (.int (own_mx (1 : Int32) (p2 &&& (2147483647 : Int32)))), .val (.int (p3 &&& (2147483647 : Int32))), .val (.int ((p5 &&& (1023 : Int32)) + (1 : Int32))), .val (.int ((p4 &&& (2147483647 : Int32)) % (((p5 &&& (1023 : Int32)) + (1 : Int32)) + (1 : Int32)))), .val (.double (FP.ddiv (FP.i2d ((p4 &&& (2147483647 : Int32)) % (((p5 &&& (1023 : Int32)) + (1 : Int32)) + (1 : Int32)))) (FP.i2d ((p5 &&& (1023 : Int32)) + (1 : Int32))))), .second, .val (.ref b4), .unset, .unset, .unset, .unset] [(.int (own_mx (p0 &&& (2147483647 : Int32)) (p1 &&& (2147483647 : Int32)))), (.int (own_mn (p0 &&& (2147483647 : Int32)) (p1 &&& (2147483647 : Int32)))), (.ref b4)])) rfl (by rw [hml]; rfl) (Steps.refl _) (argsL := [(.int (own_mn (p0 &&& (2147483647 : Int32)) (p1 &&& (2147483647 : Int32)))), (.int (own_mx (p0 &&& (2147483647 : Int32)) (p1 &&& (2147483647 : Int32))))]) (rest := []) (lenOf pd_3 rfl) rfl (by show 2 * 0 + _ ≤ _; exact Nat.le_of_eq rfl) (hb hby at_99) (fun _ _ => ⟨rfl, rfl, (by decide : 1 + 0 ≤ _), (by decide : 4 + 0 ≤ _)⟩)
  dsimp only [Pt.U, Pt.locs, Pt.cells, Pt.slots] at X6 l6 y6 z6 st6 hQ6
  subst l6 y6 z6
  obtain ⟨rfl, N6q, e6⟩ := hQ6
  obtain ⟨Lg6, X6', N6⟩ := own_gen X6 (Fr.app N5 N6q)
  obtain ⟨fs, hr, hrun, hended, hW, hsame⟩ := X6'.leave (v := some (.int (1 : Int32))) (fun h => by rw [Bd.returns] at h; cases h)
  refine ⟨_, _, pre0 _ ?_, hrun, hended, _, _, rfl, ?_, ⟨_, rfl⟩, hW, hsame.mono (by decide) (by decide)⟩
  · show Steps p.tables e below (s₁.setTop (mkF m 0 #[.val (.int p0), .val (.int p1), .val (.int p2), .val (.int p3), .val (.int p4), .val (.int p5), .unset, .unset, .unset, .unset, .unset, .unset, .unset, .unset, .unset, .unset, .unset, .unset, .unset, .unset, .unset] [])) _
    refine XS.iloadN X0.here hx rfl (hb hby at_0) rfl ?_
    show Steps p.tables e below (s₁.setTop (mkF m 1 #[.val (.int p0), .val (.int p1), .val (.int p2), .val (.int p3), .val (.int p4), .val (.int p5), .unset, .unset, .unset, .unset, .unset, .unset, .unset, .unset, .unset, .unset, .unset, .unset, .unset, .unset, .unset] [(.int p0)])) _
    refine X0.ldcInt hx hown (mvT hZ (w0 hw)) (g := (mkF m 1 #[.val (.int p0), .val (.int p1), .val (.int p2), .val (.int p3), .val (.int p4), .val (.int p5), .unset, .unset, .unset, .unset, .unset, .unset, .unset, .unset, .unset, .unset, .unset, .unset, .unset, .unset, .unset] [(.int p0)])) rfl (hb hby at_1) _ ?_
    show Steps p.tables e below (s₁.setTop (mkF m 3 #[.val (.int p0), .val (.int p1), .val (.int p2), .val (.int p3), .val (.int p4), .val (.int p5), .unset, .unset, .unset, .unset, .unset, .unset, .unset, .unset, .unset, .unset, .unset, .unset, .unset, .unset, .unset] [(.int (2147483647 : Int32)), (.int p0)])) _
    refine XS.iand X0.here hx rfl (hb hby at_3) rfl ?_
    refine XS.istore X0.here hx rfl (hb hby at_4) rfl (l' := #[.val (.int p0), .val (.int p1), .val (.int p2), .val (.int p3), .val (.int p4), .val (.int p5), .val (.int (p0 &&& (2147483647 : Int32))), .unset, .unset, .unset, .unset, .unset, .unset, .unset, .unset, .unset, .unset, .unset, .unset, .unset, .unset]) rfl ?_
    refine XS.iloadN X0.here hx rfl (hb hby at_6) rfl ?_
    show Steps p.tables e below (s₁.setTop (mkF m 7 #[.val (.int p0), .val (.int p1), .val (.int p2), .val (.int p3), .val (.int p4), .val (.int p5), .val (.int (p0 &&& (2147483647 : Int32))), .unset, .unset, .unset, .unset, .unset, .unset, .unset, .unset, .unset, .unset, .unset, .unset, .unset, .unset] [(.int p1)])) _
    refine X0.ldcInt hx hown (mvT hZ (w0 hw)) (g := (mkF m 7 #[.val (.int p0), .val (.int p1), .val (.int p2), .val (.int p3), .val (.int p4), .val (.int p5), .val (.int (p0 &&& (2147483647 : Int32))), .unset, .unset, .unset, .unset, .unset, .unset, .unset, .unset, .unset, .unset, .unset, .unset, .unset, .unset] [(.int p1)])) rfl (hb hby at_7) _ ?_
    show Steps p.tables e below (s₁.setTop (mkF m 9 #[.val (.int p0), .val (.int p1), .val (.int p2), .val (.int p3), .val (.int p4), .val (.int p5), .val (.int (p0 &&& (2147483647 : Int32))), .unset, .unset, .unset, .unset, .unset, .unset, .unset, .unset, .unset, .unset, .unset, .unset, .unset, .unset] [(.int (2147483647 : Int32)), (.int p1)])) _
    refine XS.iand X0.here hx rfl (hb hby at_9) rfl ?_
    refine XS.istore X0.here hx rfl (hb hby at_10) rfl (l' := #[.val (.int p0), .val (.int p1), .val (.int p2), .val (.int p3), .val (.int p4), .val (.int p5), .val (.int (p0 &&& (2147483647 : Int32))), .val (.int (p1 &&& (2147483647 : Int32))), .unset, .unset, .unset, .unset, .unset, .unset, .unset, .unset, .unset, .unset, .unset, .unset, .unset]) rfl ?_
    refine XS.iload X0.here hx rfl (hb hby at_12) rfl ?_
    refine XS.iload X0.here hx rfl (hb hby at_14) rfl ?_
    show Steps p.tables e below (s₁.setTop (mkF m 16 #[.val (.int p0), .val (.int p1), .val (.int p2), .val (.int p3), .val (.int p4), .val (.int p5), .val (.int (p0 &&& (2147483647 : Int32))), .val (.int (p1 &&& (2147483647 : Int32))), .unset, .unset, .unset, .unset, .unset, .unset, .unset, .unset, .unset, .unset, .unset, .unset, .unset] [(.int (p1 &&& (2147483647 : Int32))), (.int (p0 &&& (2147483647 : Int32)))])) _
    refine st1 _ ?_
    show Steps p.tables e below (T1.setTop (mkF m 19 #[.val (.int p0), .val (.int p1), .val (.int p2), .val (.int p3), .val (.int p4), .val (.int p5), .val (.int (p0 &&& (2147483647 : Int32))), .val (.int (p1 &&& (2147483647 : Int32))), .unset, .unset, .unset, .unset, .unset, .unset, .unset, .unset, .unset, .unset, .unset, .unset, .unset] [(.int (own_mn (p0 &&& (2147483647 : Int32)) (p1 &&& (2147483647 : Int32))))])) _
    refine XS.istore X1'.here hx rfl (hb hby at_19) rfl (l' := #[.val (.int p0), .val (.int p1), .val (.int p2), .val (.int p3), .val (.int p4), .val (.int p5), .val (.int (p0 &&& (2147483647 : Int32))), .val (.int (p1 &&& (2147483647 : Int32))), .val (.int (own_mn (p0 &&& (2147483647 : Int32)) (p1 &&& (2147483647 : Int32)))), .unset, .unset, .unset, .unset, .unset, .unset, .unset, .unset, .unset, .unset, .unset, .unset]) rfl ?_
    refine XS.iload X1'.here hx rfl (hb hby at_21) rfl ?_
    refine XS.iload X1'.here hx rfl (hb hby at_23) rfl ?_
    show Steps p.tables e below (T1.setTop (mkF m 25 #[.val (.int p0), .val (.int p1), .val (.int p2), .val (.int p3), .val (.int p4), .val (.int p5), .val (.int (p0 &&& (2147483647 : Int32))), .val (.int (p1 &&& (2147483647 : Int32))), .val (.int (own_mn (p0 &&& (2147483647 : Int32)) (p1 &&& (2147483647 : Int32)))), .unset, .unset, .unset, .unset, .unset, .unset, .unset, .unset, .unset, .unset, .unset, .unset] [(.int (p1 &&& (2147483647 : Int32))), (.int (p0 &&& (2147483647 : Int32)))])) _
    refine st2 _ ?_
    show Steps p.tables e below (T2.setTop (mkF m 28 #[.val (.int p0), .val (.int p1), .val (.int p2), .val (.int p3), .val (.int p4), .val (.int p5), .val (.int (p0 &&& (2147483647 : Int32))), .val (.int (p1 &&& (2147483647 : Int32))), .val (.int (own_mn (p0 &&& (2147483647 : Int32)) (p1 &&& (2147483647 : Int32)))), .unset, .unset, .unset, .unset, .unset, .unset, .unset, .unset, .unset, .unset, .unset, .unset] [(.int (own_mx (p0 &&& (2147483647 : Int32)) (p1 &&& (2147483647 : Int32))))])) _
    refine XS.istore X2'.here hx rfl (hb hby at_28) rfl (l' := #[.val (.int p0), .val (.int p1), .val (.int p2), .val (.int p3), .val (.int p4), .val (.int p5), .val (.int (p0 &&& (2147483647 : Int32))), .val (.int (p1 &&& (2147483647 : Int32))), .val (.int (own_mn (p0 &&& (2147483647 : Int32)) (p1 &&& (2147483647 : Int32)))), .val (.int (own_mx (p0 &&& (2147483647 : Int32)) (p1 &&& (2147483647 : Int32)))), .unset, .unset, .unset, .unset, .unset, .unset, .unset, .unset, .unset, .unset, .unset]) rfl ?_
    refine XS.iconst X2'.here hx rfl (hb hby at_30) ?_
    refine XS.iloadN X2'.here hx rfl (hb hby at_31) rfl ?_
    show Steps p.tables e below (T2.setTop (mkF m 32 #[.val (.int p0), .val (.int p1), .val (.int p2), .val (.int p3), .val (.int p4), .val (.int p5), .val (.int (p0 &&& (2147483647 : Int32))), .val (.int (p1 &&& (2147483647 : Int32))), .val (.int (own_mn (p0 &&& (2147483647 : Int32)) (p1 &&& (2147483647 : Int32)))), .val (.int (own_mx (p0 &&& (2147483647 : Int32)) (p1 &&& (2147483647 : Int32)))), .unset, .unset, .unset, .unset, .unset, .unset, .unset, .unset, .unset, .unset, .unset] [(.int p2), (.int (1 : Int32))])) _
    refine X2'.ldcInt hx hown (mvT hZ (w0 hw)) (g := (mkF m 32 #[.val (.int p0), .val (.int p1), .val (.int p2), .val (.int p3), .val (.int p4), .val (.int p5), .val (.int (p0 &&& (2147483647 : Int32))), .val (.int (p1 &&& (2147483647 : Int32))), .val (.int (own_mn (p0 &&& (2147483647 : Int32)) (p1 &&& (2147483647 : Int32)))), .val (.int (own_mx (p0 &&& (2147483647 : Int32)) (p1 &&& (2147483647 : Int32)))), .unset, .unset, .unset, .unset, .unset, .unset, .unset, .unset, .unset, .unset, .unset] [(.int p2), (.int (1 : Int32))])) rfl (hb hby at_32) _ ?_
    show Steps p.tables e below (T2.setTop (mkF m 34 #[.val (.int p0), .val (.int p1), .val (.int p2), .val (.int p3), .val (.int p4), .val (.int p5), .val (.int (p0 &&& (2147483647 : Int32))), .val (.int (p1 &&& (2147483647 : Int32))), .val (.int (own_mn (p0 &&& (2147483647 : Int32)) (p1 &&& (2147483647 : Int32)))), .val (.int (own_mx (p0 &&& (2147483647 : Int32)) (p1 &&& (2147483647 : Int32)))), .unset, .unset, .unset, .unset, .unset, .unset, .unset, .unset, .unset, .unset, .unset] [(.int (2147483647 : Int32)), (.int p2), (.int (1 : Int32))])) _
    refine XS.iand X2'.here hx rfl (hb hby at_34) rfl ?_
    show Steps p.tables e below (T2.setTop (mkF m 35 #[.val (.int p0), .val (.int p1), .val (.int p2), .val (.int p3), .val (.int p4), .val (.int p5), .val (.int (p0 &&& (2147483647 : Int32))), .val (.int (p1 &&& (2147483647 : Int32))), .val (.int (own_mn (p0 &&& (2147483647 : Int32)) (p1 &&& (2147483647 : Int32)))), .val (.int (own_mx (p0 &&& (2147483647 : Int32)) (p1 &&& (2147483647 : Int32)))), .unset, .unset, .unset, .unset, .unset, .unset, .unset, .unset, .unset, .unset, .unset] [(.int (p2 &&& (2147483647 : Int32))), (.int (1 : Int32))])) _
    refine st3 _ ?_
    show Steps p.tables e below (T3.setTop (mkF m 38 #[.val (.int p0), .val (.int p1), .val (.int p2), .val (.int p3), .val (.int p4), .val (.int p5), .val (.int (p0 &&& (2147483647 : Int32))), .val (.int (p1 &&& (2147483647 : Int32))), .val (.int (own_mn (p0 &&& (2147483647 : Int32)) (p1 &&& (2147483647 : Int32)))), .val (.int (own_mx (p0 &&& (2147483647 : Int32)) (p1 &&& (2147483647 : Int32)))), .unset, .unset, .unset, .unset, .unset, .unset, .unset, .unset, .unset, .unset, .unset] [(.int (own_mx (1 : Int32) (p2 &&& (2147483647 : Int32))))])) _
    refine XS.istore X3'.here hx rfl (hb hby at_38) rfl (l' := #[.val (.int p0), .val (.int p1), .val (.int p2), .val (.int p3), .val (.int p4), .val (.int p5), .val (.int (p0 &&& (2147483647 : Int32))), .val (.int (p1 &&& (2147483647 : Int32))), .val (.int (own_mn (p0 &&& (2147483647 : Int32)) (p1 &&& (2147483647 : Int32)))), .val (.int (own_mx (p0 &&& (2147483647 : Int32)) (p1 &&& (2147483647 : Int32)))), .val (.int (own_mx (1 : Int32) (p2 &&& (2147483647 : Int32)))), .unset, .unset, .unset, .unset, .unset, .unset, .unset, .unset, .unset, .unset]) rfl ?_
    refine XS.iloadN X3'.here hx rfl (hb hby at_40) rfl ?_
    show Steps p.tables e below (T3.setTop (mkF m 41 #[.val (.int p0), .val (.int p1), .val (.int p2), .val (.int p3), .val (.int p4), .val (.int p5), .val (.int (p0 &&& (2147483647 : Int32))), .val (.int (p1 &&& (2147483647 : Int32))), .val (.int (own_mn (p0 &&& (2147483647 : Int32)) (p1 &&& (2147483647 : Int32)))), .val (.int (own_mx (p0 &&& (2147483647 : Int32)) (p1 &&& (2147483647 : Int32)))), .val (.int (own_mx (1 : Int32) (p2 &&& (2147483647 : Int32)))), .unset, .unset, .unset, .unset, .unset, .unset, .unset, .unset, .unset, .unset] [(.int p3)])) _
    refine X3'.ldcInt hx hown (mvT hZ (w0 hw)) (g := (mkF m 41 #[.val (.int p0), .val (.int p1), .val (.int p2), .val (.int p3), .val (.int p4), .val (.int p5), .val (.int (p0 &&& (2147483647 : Int32))), .val (.int (p1 &&& (2147483647 : Int32))), .val (.int (own_mn (p0 &&& (2147483647 : Int32)) (p1 &&& (2147483647 : Int32)))), .val (.int (own_mx (p0 &&& (2147483647 : Int32)) (p1 &&& (2147483647 : Int32)))), .val (.int (own_mx (1 : Int32) (p2 &&& (2147483647 : Int32)))), .unset, .unset, .unset, .unset, .unset, .unset, .unset, .unset, .unset, .unset] [(.int p3)])) rfl (hb hby at_41) _ ?_
    show Steps p.tables e below (T3.setTop (mkF m 43 #[.val (.int p0), .val (.int p1), .val (.int p2), .val (.int p3), .val (.int p4), .val (.int p5), .val (.int (p0 &&& (2147483647 : Int32))), .val (.int (p1 &&& (2147483647 : Int32))), .val (.int (own_mn (p0 &&& (2147483647 : Int32)) (p1 &&& (2147483647 : Int32)))), .val (.int (own_mx (p0 &&& (2147483647 : Int32)) (p1 &&& (2147483647 : Int32)))), .val (.int (own_mx (1 : Int32) (p2 &&& (2147483647 : Int32)))), .unset, .unset, .unset, .unset, .unset, .unset, .unset, .unset, .unset, .unset] [(.int (2147483647 : Int32)), (.int p3)])) _
    refine XS.iand X3'.here hx rfl (hb hby at_43) rfl ?_
    refine XS.istore X3'.here hx rfl (hb hby at_44) rfl (l' := #[.val (.int p0), .val (.int p1), .val (.int p2), .val (.int p3), .val (.int p4), .val (.int p5), .val (.int (p0 &&& (2147483647 : Int32))), .val (.int (p1 &&& (2147483647 : Int32))), .val (.int (own_mn (p0 &&& (2147483647 : Int32)) (p1 &&& (2147483647 : Int32)))), .val (.int (own_mx (p0 &&& (2147483647 : Int32)) (p1 &&& (2147483647 : Int32)))), .val (.int (own_mx (1 : Int32) (p2 &&& (2147483647 : Int32)))), .val (.int (p3 &&& (2147483647 : Int32))), .unset, .unset, .unset, .unset, .unset, .unset, .unset, .unset, .unset]) rfl ?_
    refine XS.iload X3'.here hx rfl (hb hby at_46) rfl ?_
    refine XS.sipush X3'.here hx rfl (hb hby at_48) ?_
    refine XS.iand X3'.here hx rfl (hb hby at_51) rfl ?_
    refine XS.iconst X3'.here hx rfl (hb hby at_52) ?_
    refine XS.iadd X3'.here hx rfl (hb hby at_53) rfl ?_
    refine XS.istore X3'.here hx rfl (hb hby at_54) rfl (l' := #[.val (.int p0), .val (.int p1), .val (.int p2), .val (.int p3), .val (.int p4), .val (.int p5), .val (.int (p0 &&& (2147483647 : Int32))), .val (.int (p1 &&& (2147483647 : Int32))), .val (.int (own_mn (p0 &&& (2147483647 : Int32)) (p1 &&& (2147483647 : Int32)))), .val (.int (own_mx (p0 &&& (2147483647 : Int32)) (p1 &&& (2147483647 : Int32)))), .val (.int (own_mx (1 : Int32) (p2 &&& (2147483647 : Int32)))), .val (.int (p3 &&& (2147483647 : Int32))), .val (.int ((p5 &&& (1023 : Int32)) + (1 : Int32))), .unset, .unset, .unset, .unset, .unset, .unset, .unset, .unset]) rfl ?_
    refine XS.iload X3'.here hx rfl (hb hby at_56) rfl ?_
    show Steps p.tables e below (T3.setTop (mkF m 58 #[.val (.int p0), .val (.int p1), .val (.int p2), .val (.int p3), .val (.int p4), .val (.int p5), .val (.int (p0 &&& (2147483647 : Int32))), .val (.int (p1 &&& (2147483647 : Int32))), .val (.int (own_mn (p0 &&& (2147483647 : Int32)) (p1 &&& (2147483647 : Int32)))), .val (.int (own_mx (p0 &&& (2147483647 : Int32)) (p1 &&& (2147483647 : Int32)))), .val (.int (own_mx (1 : Int32) (p2 &&& (2147483647 : Int32)))), .val (.int (p3 &&& (2147483647 : Int32))), .val (.int ((p5 &&& (1023 : Int32)) + (1 : Int32))), .unset, .unset, .unset, .unset, .unset, .unset, .unset, .unset] [(.int p4)])) _
    refine X3'.ldcInt hx hown (mvT hZ (w0 hw)) (g := (mkF m 58 #[.val (.int p0), .val (.int p1), .val (.int p2), .val (.int p3), .val (.int p4), .val (.int p5), .val (.int (p0 &&& (2147483647 : Int32))), .val (.int (p1 &&& (2147483647 : Int32))), .val (.int (own_mn (p0 &&& (2147483647 : Int32)) (p1 &&& (2147483647 : Int32)))), .val (.int (own_mx (p0 &&& (2147483647 : Int32)) (p1 &&& (2147483647 : Int32)))), .val (.int (own_mx (1 : Int32) (p2 &&& (2147483647 : Int32)))), .val (.int (p3 &&& (2147483647 : Int32))), .val (.int ((p5 &&& (1023 : Int32)) + (1 : Int32))), .unset, .unset, .unset, .unset, .unset, .unset, .unset, .unset] [(.int p4)])) rfl (hb hby at_58) _ ?_
    show Steps p.tables e below (T3.setTop (mkF m 60 #[.val (.int p0), .val (.int p1), .val (.int p2), .val (.int p3), .val (.int p4), .val (.int p5), .val (.int (p0 &&& (2147483647 : Int32))), .val (.int (p1 &&& (2147483647 : Int32))), .val (.int (own_mn (p0 &&& (2147483647 : Int32)) (p1 &&& (2147483647 : Int32)))), .val (.int (own_mx (p0 &&& (2147483647 : Int32)) (p1 &&& (2147483647 : Int32)))), .val (.int (own_mx (1 : Int32) (p2 &&& (2147483647 : Int32)))), .val (.int (p3 &&& (2147483647 : Int32))), .val (.int ((p5 &&& (1023 : Int32)) + (1 : Int32))), .unset, .unset, .unset, .unset, .unset, .unset, .unset, .unset] [(.int (2147483647 : Int32)), (.int p4)])) _
    refine XS.iand X3'.here hx rfl (hb hby at_60) rfl ?_
    refine XS.iload X3'.here hx rfl (hb hby at_61) rfl ?_
    refine XS.iconst X3'.here hx rfl (hb hby at_63) ?_
    refine XS.iadd X3'.here hx rfl (hb hby at_64) rfl ?_
    show Steps p.tables e below (T3.setTop (mkF m 65 #[.val (.int p0), .val (.int p1), .val (.int p2), .val (.int p3), .val (.int p4), .val (.int p5), .val (.int (p0 &&& (2147483647 : Int32))), .val (.int (p1 &&& (2147483647 : Int32))), .val (.int (own_mn (p0 &&& (2147483647 : Int32)) (p1 &&& (2147483647 : Int32)))), .val (.int (own_mx (p0 &&& (2147483647 : Int32)) (p1 &&& (2147483647 : Int32)))), .val (.int (own_mx (1 : Int32) (p2 &&& (2147483647 : Int32)))), .val (.int (p3 &&& (2147483647 : Int32))), .val (.int ((p5 &&& (1023 : Int32)) + (1 : Int32))), .unset, .unset, .unset, .unset, .unset, .unset, .unset, .unset] [(.int (((p5 &&& (1023 : Int32)) + (1 : Int32)) + (1 : Int32))), (.int (p4 &&& (2147483647 : Int32)))])) _
    refine iremM X3' hx rfl (hb hby at_65) rfl hc0 ?_
    show Steps p.tables e below (T3.setTop (mkF m 66 #[.val (.int p0), .val (.int p1), .val (.int p2), .val (.int p3), .val (.int p4), .val (.int p5), .val (.int (p0 &&& (2147483647 : Int32))), .val (.int (p1 &&& (2147483647 : Int32))), .val (.int (own_mn (p0 &&& (2147483647 : Int32)) (p1 &&& (2147483647 : Int32)))), .val (.int (own_mx (p0 &&& (2147483647 : Int32)) (p1 &&& (2147483647 : Int32)))), .val (.int (own_mx (1 : Int32) (p2 &&& (2147483647 : Int32)))), .val (.int (p3 &&& (2147483647 : Int32))), .val (.int ((p5 &&& (1023 : Int32)) + (1 : Int32))), .unset, .unset, .unset, .unset, .unset, .unset, .unset, .unset] [(.int ((p4 &&& (2147483647 : Int32)) % (((p5 &&& (1023 : Int32)) + (1 : Int32)) + (1 : Int32))))])) _
    refine XS.istore X3'.here hx rfl (hb hby at_66) rfl (l' := #[.val (.int p0), .val (.int p1), .val (.int p2), .val (.int p3), .val (.int p4), .val (.int p5), .val (.int (p0 &&& (2147483647 : Int32))), .val (.int (p1 &&& (2147483647 : Int32))), .val (.int (own_mn (p0 &&& (2147483647 : Int32)) (p1 &&& (2147483647 : Int32)))), .val (.int (own_mx (p0 &&& (2147483647 : Int32)) (p1 &&& (2147483647 : Int32)))), .val (.int (own_mx (1 : Int32) (p2 &&& (2147483647 : Int32)))), .val (.int (p3 &&& (2147483647 : Int32))), .val (.int ((p5 &&& (1023 : Int32)) + (1 : Int32))), .val (.int ((p4 &&& (2147483647 : Int32)) % (((p5 &&& (1023 : Int32)) + (1 : Int32)) + (1 : Int32)))), .unset, .unset, .unset, .unset, .unset, .unset, .unset]) rfl ?_
    refine XS.iload X3'.here hx rfl (hb hby at_68) rfl ?_
    show Steps p.tables e below (T3.setTop (mkF m 70 #[.val (.int p0), .val (.int p1), .val (.int p2), .val (.int p3), .val (.int p4), .val (.int p5), .val (.int (p0 &&& (2147483647 : Int32))), .val (.int (p1 &&& (2147483647 : Int32))), .val (.int (own_mn (p0 &&& (2147483647 : Int32)) (p1 &&& (2147483647 : Int32)))), .val (.int (own_mx (p0 &&& (2147483647 : Int32)) (p1 &&& (2147483647 : Int32)))), .val (.int (own_mx (1 : Int32) (p2 &&& (2147483647 : Int32)))), .val (.int (p3 &&& (2147483647 : Int32))), .val (.int ((p5 &&& (1023 : Int32)) + (1 : Int32))), .val (.int ((p4 &&& (2147483647 : Int32)) % (((p5 &&& (1023 : Int32)) + (1 : Int32)) + (1 : Int32)))), .unset, .unset, .unset, .unset, .unset, .unset, .unset] [(.int ((p4 &&& (2147483647 : Int32)) % (((p5 &&& (1023 : Int32)) + (1 : Int32)) + (1 : Int32))))])) _
    refine XS.i2dS X3'.here hx rfl (hb hby at_70) rfl rfl ?_
    refine XS.iload X3'.here hx rfl (hb hby at_71) rfl ?_
    show Steps p.tables e below (T3.setTop (mkF m 73 #[.val (.int p0), .val (.int p1), .val (.int p2), .val (.int p3), .val (.int p4), .val (.int p5), .val (.int (p0 &&& (2147483647 : Int32))), .val (.int (p1 &&& (2147483647 : Int32))), .val (.int (own_mn (p0 &&& (2147483647 : Int32)) (p1 &&& (2147483647 : Int32)))), .val (.int (own_mx (p0 &&& (2147483647 : Int32)) (p1 &&& (2147483647 : Int32)))), .val (.int (own_mx (1 : Int32) (p2 &&& (2147483647 : Int32)))), .val (.int (p3 &&& (2147483647 : Int32))), .val (.int ((p5 &&& (1023 : Int32)) + (1 : Int32))), .val (.int ((p4 &&& (2147483647 : Int32)) % (((p5 &&& (1023 : Int32)) + (1 : Int32)) + (1 : Int32)))), .unset, .unset, .unset, .unset, .unset, .unset, .unset] [(.int ((p5 &&& (1023 : Int32)) + (1 : Int32))), (.double (FP.i2d ((p4 &&& (2147483647 : Int32)) % (((p5 &&& (1023 : Int32)) + (1 : Int32)) + (1 : Int32)))))])) _
    refine XS.i2dS X3'.here hx rfl (hb hby at_73) rfl rfl ?_
    show Steps p.tables e below (T3.setTop (mkF m 74 #[.val (.int p0), .val (.int p1), .val (.int p2), .val (.int p3), .val (.int p4), .val (.int p5), .val (.int (p0 &&& (2147483647 : Int32))), .val (.int (p1 &&& (2147483647 : Int32))), .val (.int (own_mn (p0 &&& (2147483647 : Int32)) (p1 &&& (2147483647 : Int32)))), .val (.int (own_mx (p0 &&& (2147483647 : Int32)) (p1 &&& (2147483647 : Int32)))), .val (.int (own_mx (1 : Int32) (p2 &&& (2147483647 : Int32)))), .val (.int (p3 &&& (2147483647 : Int32))), .val (.int ((p5 &&& (1023 : Int32)) + (1 : Int32))), .val (.int ((p4 &&& (2147483647 : Int32)) % (((p5 &&& (1023 : Int32)) + (1 : Int32)) + (1 : Int32)))), .unset, .unset, .unset, .unset, .unset, .unset, .unset] [(.double (FP.i2d ((p5 &&& (1023 : Int32)) + (1 : Int32)))), (.double (FP.i2d ((p4 &&& (2147483647 : Int32)) % (((p5 &&& (1023 : Int32)) + (1 : Int32)) + (1 : Int32)))))])) _
    refine XS.ddivS X3'.here hx rfl (hb hby at_74) rfl hc1 rfl ?_
    show Steps p.tables e below (T3.setTop (mkF m 75 #[.val (.int p0), .val (.int p1), .val (.int p2), .val (.int p3), .val (.int p4), .val (.int p5), .val (.int (p0 &&& (2147483647 : Int32))), .val (.int (p1 &&& (2147483647 : Int32))), .val (.int (own_mn (p0 &&& (2147483647 : Int32)) (p1 &&& (2147483647 : Int32)))), .val (.int (own_mx (p0 &&& (2147483647 : Int32)) (p1 &&& (2147483647 : Int32)))), .val (.int (own_mx (1 : Int32) (p2 &&& (2147483647 : Int32)))), .val (.int (p3 &&& (2147483647 : Int32))), .val (.int ((p5 &&& (1023 : Int32)) + (1 : Int32))), .val (.int ((p4 &&& (2147483647 : Int32)) % (((p5 &&& (1023 : Int32)) + (1 : Int32)) + (1 : Int32)))), .unset, .unset, .unset, .unset, .unset, .unset, .unset] [(.double (FP.ddiv (FP.i2d ((p4 &&& (2147483647 : Int32)) % (((p5 &&& (1023 : Int32)) + (1 : Int32)) + (1 : Int32)))) (FP.i2d ((p5 &&& (1023 : Int32)) + (1 : Int32)))))])) _
    refine XS.dstore X3'.here hx rfl (hb hby at_75) rfl (l' := #[.val (.int p0), .val (.int p1), .val (.int p2), .val (.int p3), .val (.int p4), .val (.int p5), .val (.int (p0 &&& (2147483647 : Int32))), .val (.int (p1 &&& (2147483647 : Int32))), .val (.int (own_mn (p0 &&& (2147483647 : Int32)) (p1 &&& (2147483647 : Int32)))), .val (.int (own_mx (p0 &&& (2147483647 : Int32)) (p1 &&& (2147483647 : Int32)))), .val (.int (own_mx (1 : Int32) (p2 &&& (2147483647 : Int32)))), .val (.int (p3 &&& (2147483647 : Int32))), .val (.int ((p5 &&& (1023 : Int32)) + (1 : Int32))), .val (.int ((p4 &&& (2147483647 : Int32)) % (((p5 &&& (1023 : Int32)) + (1 : Int32)) + (1 : Int32)))), .val (.double (FP.ddiv (FP.i2d ((p4 &&& (2147483647 : Int32)) % (((p5 &&& (1023 : Int32)) + (1 : Int32)) + (1 : Int32)))) (FP.i2d ((p5 &&& (1023 : Int32)) + (1 : Int32))))), .second, .unset, .unset, .unset, .unset, .unset]) rfl ?_
    show Steps p.tables e below (T3.setTop (mkF m 77 #[.val (.int p0), .val (.int p1), .val (.int p2), .val (.int p3), .val (.int p4), .val (.int p5), .val (.int (p0 &&& (2147483647 : Int32))), .val (.int (p1 &&& (2147483647 : Int32))), .val (.int (own_mn (p0 &&& (2147483647 : Int32)) (p1 &&& (2147483647 : Int32)))), .val (.int (own_mx (p0 &&& (2147483647 : Int32)) (p1 &&& (2147483647 : Int32)))), .val (.int (own_mx (1 : Int32) (p2 &&& (2147483647 : Int32)))), .val (.int (p3 &&& (2147483647 : Int32))), .val (.int ((p5 &&& (1023 : Int32)) + (1 : Int32))), .val (.int ((p4 &&& (2147483647 : Int32)) % (((p5 &&& (1023 : Int32)) + (1 : Int32)) + (1 : Int32)))), .val (.double (FP.ddiv (FP.i2d ((p4 &&& (2147483647 : Int32)) % (((p5 &&& (1023 : Int32)) + (1 : Int32)) + (1 : Int32)))) (FP.i2d ((p5 &&& (1023 : Int32)) + (1 : Int32))))), .second, .unset, .unset, .unset, .unset, .unset] [])) _
    refine st4 _ ?_
    show Steps p.tables e below (T4.setTop (mkF m 80 #[.val (.int p0), .val (.int p1), .val (.int p2), .val (.int p3), .val (.int p4), .val (.int p5), .val (.int (p0 &&& (2147483647 : Int32))), .val (.int (p1 &&& (2147483647 : Int32))), .val (.int (own_mn (p0 &&& (2147483647 : Int32)) (p1 &&& (2147483647 : Int32)))), .val (.int (own_mx (p0 &&& (2147483647 : Int32)) (p1 &&& (2147483647 : Int32)))), .val (.int (own_mx (1 : Int32) (p2 &&& (2147483647 : Int32)))), .val (.int (p3 &&& (2147483647 : Int32))), .val (.int ((p5 &&& (1023 : Int32)) + (1 : Int32))), .val (.int ((p4 &&& (2147483647 : Int32)) % (((p5 &&& (1023 : Int32)) + (1 : Int32)) + (1 : Int32)))), .val (.double (FP.ddiv (FP.i2d ((p4 &&& (2147483647 : Int32)) % (((p5 &&& (1023 : Int32)) + (1 : Int32)) + (1 : Int32)))) (FP.i2d ((p5 &&& (1023 : Int32)) + (1 : Int32))))), .second, .unset, .unset, .unset, .unset, .unset] [(.ref b4)])) _
    refine XS.dup X4.here hx rfl (hb hby at_80) rfl rfl ?_
    refine XS.iload X4.here hx rfl (hb hby at_81) rfl ?_
    refine XS.iload X4.here hx rfl (hb hby at_83) rfl ?_
    show Steps p.tables e below (T4.setTop (mkF m 85 #[.val (.int p0), .val (.int p1), .val (.int p2), .val (.int p3), .val (.int p4), .val (.int p5), .val (.int (p0 &&& (2147483647 : Int32))), .val (.int (p1 &&& (2147483647 : Int32))), .val (.int (own_mn (p0 &&& (2147483647 : Int32)) (p1 &&& (2147483647 : Int32)))), .val (.int (own_mx (p0 &&& (2147483647 : Int32)) (p1 &&& (2147483647 : Int32)))), .val (.int (own_mx (1 : Int32) (p2 &&& (2147483647 : Int32)))), .val (.int (p3 &&& (2147483647 : Int32))), .val (.int ((p5 &&& (1023 : Int32)) + (1 : Int32))), .val (.int ((p4 &&& (2147483647 : Int32)) % (((p5 &&& (1023 : Int32)) + (1 : Int32)) + (1 : Int32)))), .val (.double (FP.ddiv (FP.i2d ((p4 &&& (2147483647 : Int32)) % (((p5 &&& (1023 : Int32)) + (1 : Int32)) + (1 : Int32)))) (FP.i2d ((p5 &&& (1023 : Int32)) + (1 : Int32))))), .second, .unset, .unset, .unset, .unset, .unset] [(.int (p3 &&& (2147483647 : Int32))), (.int (own_mx (1 : Int32) (p2 &&& (2147483647 : Int32)))), (.ref b4), (.ref b4)])) _
    refine XS.dload X4.here hx rfl (hb hby at_85) rfl ?_
    show Steps p.tables e below (T4.setTop (mkF m 87 #[.val (.int p0), .val (.int p1), .val (.int p2), .val (.int p3), .val (.int p4), .val (.int p5), .val (.int (p0 &&& (2147483647 : Int32))), .val (.int (p1 &&& (2147483647 : Int32))), .val (.int (own_mn (p0 &&& (2147483647 : Int32)) (p1 &&& (2147483647 : Int32)))), .val (.int (own_mx (p0 &&& (2147483647 : Int32)) (p1 &&& (2147483647 : Int32)))), .val (.int (own_mx (1 : Int32) (p2 &&& (2147483647 : Int32)))), .val (.int (p3 &&& (2147483647 : Int32))), .val (.int ((p5 &&& (1023 : Int32)) + (1 : Int32))), .val (.int ((p4 &&& (2147483647 : Int32)) % (((p5 &&& (1023 : Int32)) + (1 : Int32)) + (1 : Int32)))), .val (.double (FP.ddiv (FP.i2d ((p4 &&& (2147483647 : Int32)) % (((p5 &&& (1023 : Int32)) + (1 : Int32)) + (1 : Int32)))) (FP.i2d ((p5 &&& (1023 : Int32)) + (1 : Int32))))), .second, .unset, .unset, .unset, .unset, .unset] [(.double (FP.ddiv (FP.i2d ((p4 &&& (2147483647 : Int32)) % (((p5 &&& (1023 : Int32)) + (1 : Int32)) + (1 : Int32)))) (FP.i2d ((p5 &&& (1023 : Int32)) + (1 : Int32))))), (.int (p3 &&& (2147483647 : Int32))), (.int (own_mx (1 : Int32) (p2 &&& (2147483647 : Int32)))), (.ref b4), (.ref b4)])) _
    refine XS.dconst0 X4.here hx rfl (hb hby at_87) rfl ?_
    show Steps p.tables e below (T4.setTop (mkF m 88 #[.val (.int p0), .val (.int p1), .val (.int p2), .val (.int p3), .val (.int p4), .val (.int p5), .val (.int (p0 &&& (2147483647 : Int32))), .val (.int (p1 &&& (2147483647 : Int32))), .val (.int (own_mn (p0 &&& (2147483647 : Int32)) (p1 &&& (2147483647 : Int32)))), .val (.int (own_mx (p0 &&& (2147483647 : Int32)) (p1 &&& (2147483647 : Int32)))), .val (.int (own_mx (1 : Int32) (p2 &&& (2147483647 : Int32)))), .val (.int (p3 &&& (2147483647 : Int32))), .val (.int ((p5 &&& (1023 : Int32)) + (1 : Int32))), .val (.int ((p4 &&& (2147483647 : Int32)) % (((p5 &&& (1023 : Int32)) + (1 : Int32)) + (1 : Int32)))), .val (.double (FP.ddiv (FP.i2d ((p4 &&& (2147483647 : Int32)) % (((p5 &&& (1023 : Int32)) + (1 : Int32)) + (1 : Int32)))) (FP.i2d ((p5 &&& (1023 : Int32)) + (1 : Int32))))), .second, .unset, .unset, .unset, .unset, .unset] [(.double FP.dconst0), (.double (FP.ddiv (FP.i2d ((p4 &&& (2147483647 : Int32)) % (((p5 &&& (1023 : Int32)) + (1 : Int32)) + (1 : Int32)))) (FP.i2d ((p5 &&& (1023 : Int32)) + (1 : Int32))))), (.int (p3 &&& (2147483647 : Int32))), (.int (own_mx (1 : Int32) (p2 &&& (2147483647 : Int32)))), (.ref b4), (.ref b4)])) _
    refine st5.trans ?_
    show Steps p.tables e below (T5.setTop (mkF m 91 #[.val (.int p0), .val (.int p1), .val (.int p2), .val (.int p3), .val (.int p4), .val (.int p5), .val (.int (p0 &&& (2147483647 : Int32))), .val (.int (p1 &&& (2147483647 : Int32))), .val (.int (own_mn (p0 &&& (2147483647 : Int32)) (p1 &&& (2147483647 : Int32)))), .val (.int (own_mx (p0 &&& (2147483647 : Int32)) (p1 &&& (2147483647 : Int32)))), .val (.int (own_mx (1 : Int32) (p2 &&& (2147483647 : Int32)))), .val (.int (p3 &&& (2147483647 : Int32))), .val (.int ((p5 &&& (1023 : Int32)) + (1 : Int32))), .val (.int ((p4 &&& (2147483647 : Int32)) % (((p5 &&& (1023 : Int32)) + (1 : Int32)) + (1 : Int32)))), .val (.double (FP.ddiv (FP.i2d ((p4 &&& (2147483647 : Int32)) % (((p5 &&& (1023 : Int32)) + (1 : Int32)) + (1 : Int32)))) (FP.i2d ((p5 &&& (1023 : Int32)) + (1 : Int32))))), .second, .unset, .unset, .unset, .unset, .unset] [(.ref b4)])) _
    refine XS.astore X5'.here hx rfl (hb hby at_91) rfl rfl (l' := #[.val (.int p0), .val (.int p1), .val (.int p2), .val (.int p3), .val (.int p4), .val (.int p5), .val (.int (p0 &&& (2147483647 : Int32))), .val (.int (p1 &&& (2147483647 : Int32))), .val (.int (own_mn (p0 &&& (2147483647 : Int32)) (p1 &&& (2147483647 : Int32)))), .val (.int (own_mx (p0 &&& (2147483647 : Int32)) (p1 &&& (2147483647 : Int32)))), .val (.int (own_mx (1 : Int32) (p2 &&& (2147483647 : Int32)))), .val (.int (p3 &&& (2147483647 : Int32))), .val (.int ((p5 &&& (1023 : Int32)) + (1 : Int32))), .val (.int ((p4 &&& (2147483647 : Int32)) % (((p5 &&& (1023 : Int32)) + (1 : Int32)) + (1 : Int32)))), .val (.double (FP.ddiv (FP.i2d ((p4 &&& (2147483647 : Int32)) % (((p5 &&& (1023 : Int32)) + (1 : Int32)) + (1 : Int32)))) (FP.i2d ((p5 &&& (1023 : Int32)) + (1 : Int32))))), .second, .val (.ref b4), .unset, .unset, .unset, .unset]) rfl ?_
    refine XS.aload X5'.here hx rfl (hb hby at_93) rfl rfl ?_
    refine XS.iload X5'.here hx rfl (hb hby at_95) rfl ?_
    refine XS.iload X5'.here hx rfl (hb hby at_97) rfl ?_
    show Steps p.tables e below (T5.setTop (mkF m 99 #[.val (.int p0), .val (.int p1), .val (.int p2), .val (.int p3), .val (.int p4), .val (.int p5), .val (.int (p0 &&& (2147483647 : Int32))), .val (.int (p1 &&& (2147483647 : Int32))), .val (.int (own_mn (p0 &&& (2147483647 : Int32)) (p1 &&& (2147483647 : Int32)))), .val (.int (own_mx (p0 &&& (2147483647 : Int32)) (p1 &&& (2147483647 : Int32)))), .val (.int (own_mx (1 : Int32) (p2 &&& (2147483647 : Int32)))), .val (.int (p3 &&& (2147483647 : Int32))), .val (.int ((p5 &&& (1023 : Int32)) + (1 : Int32))), .val (.int ((p4 &&& (2147483647 : Int32)) % (((p5 &&& (1023 : Int32)) + (1 : Int32)) + (1 : Int32)))), .val (.double (FP.ddiv (FP.i2d ((p4 &&& (2147483647 : Int32)) % (((p5 &&& (1023 : Int32)) + (1 : Int32)) + (1 : Int32)))) (FP.i2d ((p5 &&& (1023 : Int32)) + (1 : Int32))))), .second, .val (.ref b4), .unset, .unset, .unset, .unset] [(.int (own_mx (p0 &&& (2147483647 : Int32)) (p1 &&& (2147483647 : Int32)))), (.int (own_mn (p0 &&& (2147483647 : Int32)) (p1 &&& (2147483647 : Int32)))), (.ref b4)])) _
    refine st6.trans ?_
    show Steps p.tables e below (T6.setTop (mkF m 102 #[.val (.int p0), .val (.int p1), .val (.int p2), .val (.int p3), .val (.int p4), .val (.int p5), .val (.int (p0 &&& (2147483647 : Int32))), .val (.int (p1 &&& (2147483647 : Int32))), .val (.int (own_mn (p0 &&& (2147483647 : Int32)) (p1 &&& (2147483647 : Int32)))), .val (.int (own_mx (p0 &&& (2147483647 : Int32)) (p1 &&& (2147483647 : Int32)))), .val (.int (own_mx (1 : Int32) (p2 &&& (2147483647 : Int32)))), .val (.int (p3 &&& (2147483647 : Int32))), .val (.int ((p5 &&& (1023 : Int32)) + (1 : Int32))), .val (.int ((p4 &&& (2147483647 : Int32)) % (((p5 &&& (1023 : Int32)) + (1 : Int32)) + (1 : Int32)))), .val (.double (FP.ddiv (FP.i2d ((p4 &&& (2147483647 : Int32)) % (((p5 &&& (1023 : Int32)) + (1 : Int32)) + (1 : Int32)))) (FP.i2d ((p5 &&& (1023 : Int32)) + (1 : Int32))))), .second, .val (.ref b4), .unset, .unset, .unset, .unset] [(.int (1 : Int32))])) _
    refine XS.istore X6'.here hx rfl (hb hby at_102) rfl (l' := #[.val (.int p0), .val (.int p1), .val (.int p2), .val (.int p3), .val (.int p4), .val (.int p5), .val (.int (p0 &&& (2147483647 : Int32))), .val (.int (p1 &&& (2147483647 : Int32))), .val (.int (own_mn (p0 &&& (2147483647 : Int32)) (p1 &&& (2147483647 : Int32)))), .val (.int (own_mx (p0 &&& (2147483647 : Int32)) (p1 &&& (2147483647 : Int32)))), .val (.int (own_mx (1 : Int32) (p2 &&& (2147483647 : Int32)))), .val (.int (p3 &&& (2147483647 : Int32))), .val (.int ((p5 &&& (1023 : Int32)) + (1 : Int32))), .val (.int ((p4 &&& (2147483647 : Int32)) % (((p5 &&& (1023 : Int32)) + (1 : Int32)) + (1 : Int32)))), .val (.double (FP.ddiv (FP.i2d ((p4 &&& (2147483647 : Int32)) % (((p5 &&& (1023 : Int32)) + (1 : Int32)) + (1 : Int32)))) (FP.i2d ((p5 &&& (1023 : Int32)) + (1 : Int32))))), .second, .val (.ref b4), .val (.int (1 : Int32)), .unset, .unset, .unset]) rfl ?_
    refine XS.iload X6'.here hx rfl (hb hby at_104) rfl ?_
    refine XS.i2l X6'.here hx rfl (hb hby at_106) rfl ?_
    refine XS.iload X6'.here hx rfl (hb hby at_107) rfl ?_
    refine XS.i2l X6'.here hx rfl (hb hby at_109) rfl ?_
    show Steps p.tables e below (T6.setTop (mkF m 110 #[.val (.int p0), .val (.int p1), .val (.int p2), .val (.int p3), .val (.int p4), .val (.int p5), .val (.int (p0 &&& (2147483647 : Int32))), .val (.int (p1 &&& (2147483647 : Int32))), .val (.int (own_mn (p0 &&& (2147483647 : Int32)) (p1 &&& (2147483647 : Int32)))), .val (.int (own_mx (p0 &&& (2147483647 : Int32)) (p1 &&& (2147483647 : Int32)))), .val (.int (own_mx (1 : Int32) (p2 &&& (2147483647 : Int32)))), .val (.int (p3 &&& (2147483647 : Int32))), .val (.int ((p5 &&& (1023 : Int32)) + (1 : Int32))), .val (.int ((p4 &&& (2147483647 : Int32)) % (((p5 &&& (1023 : Int32)) + (1 : Int32)) + (1 : Int32)))), .val (.double (FP.ddiv (FP.i2d ((p4 &&& (2147483647 : Int32)) % (((p5 &&& (1023 : Int32)) + (1 : Int32)) + (1 : Int32)))) (FP.i2d ((p5 &&& (1023 : Int32)) + (1 : Int32))))), .second, .val (.ref b4), .val (.int (1 : Int32)), .unset, .unset, .unset] [(.long ((own_mn (p0 &&& (2147483647 : Int32)) (p1 &&& (2147483647 : Int32))).toInt64)), (.long ((own_mx (p0 &&& (2147483647 : Int32)) (p1 &&& (2147483647 : Int32))).toInt64))])) _
    refine XS.lsub X6'.here hx rfl (hb hby at_110) rfl ?_
    refine XS.lstore X6'.here hx rfl (hb hby at_111) rfl (l' := #[.val (.int p0), .val (.int p1), .val (.int p2), .val (.int p3), .val (.int p4), .val (.int p5), .val (.int (p0 &&& (2147483647 : Int32))), .val (.int (p1 &&& (2147483647 : Int32))), .val (.int (own_mn (p0 &&& (2147483647 : Int32)) (p1 &&& (2147483647 : Int32)))), .val (.int (own_mx (p0 &&& (2147483647 : Int32)) (p1 &&& (2147483647 : Int32)))), .val (.int (own_mx (1 : Int32) (p2 &&& (2147483647 : Int32)))), .val (.int (p3 &&& (2147483647 : Int32))), .val (.int ((p5 &&& (1023 : Int32)) + (1 : Int32))), .val (.int ((p4 &&& (2147483647 : Int32)) % (((p5 &&& (1023 : Int32)) + (1 : Int32)) + (1 : Int32)))), .val (.double (FP.ddiv (FP.i2d ((p4 &&& (2147483647 : Int32)) % (((p5 &&& (1023 : Int32)) + (1 : Int32)) + (1 : Int32)))) (FP.i2d ((p5 &&& (1023 : Int32)) + (1 : Int32))))), .second, .val (.ref b4), .val (.int (1 : Int32)), .val (.long (((own_mx (p0 &&& (2147483647 : Int32)) (p1 &&& (2147483647 : Int32))).toInt64) - ((own_mn (p0 &&& (2147483647 : Int32)) (p1 &&& (2147483647 : Int32))).toInt64))), .second, .unset]) rfl ?_
    refine XS.iload X6'.here hx rfl (hb hby at_113) rfl ?_
    refine XS.iload X6'.here hx rfl (hb hby at_115) rfl ?_
    refine XS.icmpNo X6'.here hx rfl (hb hby at_117) rfl (flt hc8).1 ?_
    refine XS.lload X6'.here hx rfl (hb hby at_120) rfl ?_
    refine XS.iload X6'.here hx rfl (hb hby at_122) rfl ?_
    refine XS.i2l X6'.here hx rfl (hb hby at_124) rfl ?_
    refine XS.lcmp X6'.here hx rfl (hb hby at_125) rfl ?_
    refine XS.ifNo X6'.here hx rfl (hb hby at_126) rfl ((if0 _ _).trans (flt hc12).1) ?_
    refine XS.lload X6'.here hx rfl (hb hby at_129) rfl ?_
    refine XS.iload X6'.here hx rfl (hb hby at_131) rfl ?_
    refine XS.i2l X6'.here hx rfl (hb hby at_133) rfl ?_
    show Steps p.tables e below (T6.setTop (mkF m 134 #[.val (.int p0), .val (.int p1), .val (.int p2), .val (.int p3), .val (.int p4), .val (.int p5), .val (.int (p0 &&& (2147483647 : Int32))), .val (.int (p1 &&& (2147483647 : Int32))), .val (.int (own_mn (p0 &&& (2147483647 : Int32)) (p1 &&& (2147483647 : Int32)))), .val (.int (own_mx (p0 &&& (2147483647 : Int32)) (p1 &&& (2147483647 : Int32)))), .val (.int (own_mx (1 : Int32) (p2 &&& (2147483647 : Int32)))), .val (.int (p3 &&& (2147483647 : Int32))), .val (.int ((p5 &&& (1023 : Int32)) + (1 : Int32))), .val (.int ((p4 &&& (2147483647 : Int32)) % (((p5 &&& (1023 : Int32)) + (1 : Int32)) + (1 : Int32)))), .val (.double (FP.ddiv (FP.i2d ((p4 &&& (2147483647 : Int32)) % (((p5 &&& (1023 : Int32)) + (1 : Int32)) + (1 : Int32)))) (FP.i2d ((p5 &&& (1023 : Int32)) + (1 : Int32))))), .second, .val (.ref b4), .val (.int (1 : Int32)), .val (.long (((own_mx (p0 &&& (2147483647 : Int32)) (p1 &&& (2147483647 : Int32))).toInt64) - ((own_mn (p0 &&& (2147483647 : Int32)) (p1 &&& (2147483647 : Int32))).toInt64))), .second, .unset] [(.long (((p5 &&& (1023 : Int32)) + (1 : Int32)).toInt64)), (.long (((own_mx (p0 &&& (2147483647 : Int32)) (p1 &&& (2147483647 : Int32))).toInt64) - ((own_mn (p0 &&& (2147483647 : Int32)) (p1 &&& (2147483647 : Int32))).toInt64)))])) _
    refine XS.lmul X6'.here hx rfl (hb hby at_134) rfl ?_
    refine XS.iload X6'.here hx rfl (hb hby at_135) rfl ?_
    refine XS.i2l X6'.here hx rfl (hb hby at_137) rfl ?_
    refine XS.iload X6'.here hx rfl (hb hby at_138) rfl ?_
    refine XS.i2l X6'.here hx rfl (hb hby at_140) rfl ?_
    show Steps p.tables e below (T6.setTop (mkF m 141 #[.val (.int p0), .val (.int p1), .val (.int p2), .val (.int p3), .val (.int p4), .val (.int p5), .val (.int (p0 &&& (2147483647 : Int32))), .val (.int (p1 &&& (2147483647 : Int32))), .val (.int (own_mn (p0 &&& (2147483647 : Int32)) (p1 &&& (2147483647 : Int32)))), .val (.int (own_mx (p0 &&& (2147483647 : Int32)) (p1 &&& (2147483647 : Int32)))), .val (.int (own_mx (1 : Int32) (p2 &&& (2147483647 : Int32)))), .val (.int (p3 &&& (2147483647 : Int32))), .val (.int ((p5 &&& (1023 : Int32)) + (1 : Int32))), .val (.int ((p4 &&& (2147483647 : Int32)) % (((p5 &&& (1023 : Int32)) + (1 : Int32)) + (1 : Int32)))), .val (.double (FP.ddiv (FP.i2d ((p4 &&& (2147483647 : Int32)) % (((p5 &&& (1023 : Int32)) + (1 : Int32)) + (1 : Int32)))) (FP.i2d ((p5 &&& (1023 : Int32)) + (1 : Int32))))), .second, .val (.ref b4), .val (.int (1 : Int32)), .val (.long (((own_mx (p0 &&& (2147483647 : Int32)) (p1 &&& (2147483647 : Int32))).toInt64) - ((own_mn (p0 &&& (2147483647 : Int32)) (p1 &&& (2147483647 : Int32))).toInt64))), .second, .unset] [(.long ((own_mx (p0 &&& (2147483647 : Int32)) (p1 &&& (2147483647 : Int32))).toInt64)), (.long (((p4 &&& (2147483647 : Int32)) % (((p5 &&& (1023 : Int32)) + (1 : Int32)) + (1 : Int32))).toInt64)), (.long ((((own_mx (p0 &&& (2147483647 : Int32)) (p1 &&& (2147483647 : Int32))).toInt64) - ((own_mn (p0 &&& (2147483647 : Int32)) (p1 &&& (2147483647 : Int32))).toInt64)) * (((p5 &&& (1023 : Int32)) + (1 : Int32)).toInt64)))])) _
    refine XS.lmul X6'.here hx rfl (hb hby at_141) rfl ?_
    refine XS.lcmp X6'.here hx rfl (hb hby at_142) rfl ?_
    refine XS.ifNo X6'.here hx rfl (hb hby at_143) rfl ((if0 _ _).trans (flt hc13).1) ?_
    refine XS.iconst X6'.here hx rfl (hb hby at_146) ?_
    refine XS.goto X6'.here hx rfl (pc0 := 147) (pc' := 151) rfl (hb hby at_147) (by decide) (by decide) ?_
    refine XS.istore X6'.here hx rfl (hb hby at_151) rfl (l' := #[.val (.int p0), .val (.int p1), .val (.int p2), .val (.int p3), .val (.int p4), .val (.int p5), .val (.int (p0 &&& (2147483647 : Int32))), .val (.int (p1 &&& (2147483647 : Int32))), .val (.int (own_mn (p0 &&& (2147483647 : Int32)) (p1 &&& (2147483647 : Int32)))), .val (.int (own_mx (p0 &&& (2147483647 : Int32)) (p1 &&& (2147483647 : Int32)))), .val (.int (own_mx (1 : Int32) (p2 &&& (2147483647 : Int32)))), .val (.int (p3 &&& (2147483647 : Int32))), .val (.int ((p5 &&& (1023 : Int32)) + (1 : Int32))), .val (.int ((p4 &&& (2147483647 : Int32)) % (((p5 &&& (1023 : Int32)) + (1 : Int32)) + (1 : Int32)))), .val (.double (FP.ddiv (FP.i2d ((p4 &&& (2147483647 : Int32)) % (((p5 &&& (1023 : Int32)) + (1 : Int32)) + (1 : Int32)))) (FP.i2d ((p5 &&& (1023 : Int32)) + (1 : Int32))))), .second, .val (.ref b4), .val (.int (1 : Int32)), .val (.long (((own_mx (p0 &&& (2147483647 : Int32)) (p1 &&& (2147483647 : Int32))).toInt64) - ((own_mn (p0 &&& (2147483647 : Int32)) (p1 &&& (2147483647 : Int32))).toInt64))), .second, .val (.int (1 : Int32))]) rfl ?_
    refine XS.iload X6'.here hx rfl (hb hby at_153) rfl ?_
    refine XS.iload X6'.here hx rfl (hb hby at_155) rfl ?_
    refine XS.icmpNo X6'.here hx rfl (hb hby at_157) rfl (teq (by decide : (1 : Int32) = (1 : Int32))).2 ?_
    refine XS.iconst X6'.here hx rfl (hb hby at_160) ?_
    refine XS.goto X6'.here hx rfl (pc0 := 161) (pc' := 165) rfl (hb hby at_161) (by decide) (by decide) ?_
    show Steps p.tables e below (T6.setTop (mkF m 165 #[.val (.int p0), .val (.int p1), .val (.int p2), .val (.int p3), .val (.int p4), .val (.int p5), .val (.int (p0 &&& (2147483647 : Int32))), .val (.int (p1 &&& (2147483647 : Int32))), .val (.int (own_mn (p0 &&& (2147483647 : Int32)) (p1 &&& (2147483647 : Int32)))), .val (.int (own_mx (p0 &&& (2147483647 : Int32)) (p1 &&& (2147483647 : Int32)))), .val (.int (own_mx (1 : Int32) (p2 &&& (2147483647 : Int32)))), .val (.int (p3 &&& (2147483647 : Int32))), .val (.int ((p5 &&& (1023 : Int32)) + (1 : Int32))), .val (.int ((p4 &&& (2147483647 : Int32)) % (((p5 &&& (1023 : Int32)) + (1 : Int32)) + (1 : Int32)))), .val (.double (FP.ddiv (FP.i2d ((p4 &&& (2147483647 : Int32)) % (((p5 &&& (1023 : Int32)) + (1 : Int32)) + (1 : Int32)))) (FP.i2d ((p5 &&& (1023 : Int32)) + (1 : Int32))))), .second, .val (.ref b4), .val (.int (1 : Int32)), .val (.long (((own_mx (p0 &&& (2147483647 : Int32)) (p1 &&& (2147483647 : Int32))).toInt64) - ((own_mn (p0 &&& (2147483647 : Int32)) (p1 &&& (2147483647 : Int32))).toInt64))), .second, .val (.int (1 : Int32))] [(.int (1 : Int32))])) _
    exact retN X6' hx (t := .boolean) Bd.returns (by simp) (hb hby at_165) hr
  · show Q0d Z p0 p1 p2 p3 p4 p5 h0 n0 _ T6.heap _
    rw [e6]
    exact ⟨rfl, N6⟩
set_option maxRecDepth 65536 in
set_option maxHeartbeats 40000000 in
theorem comes_1 {Post : Tables → Env → Array Value → State → Outcome → State → Prop} (hpost : ∀ tb e args s v u, (limb_1_1.after args s (.returned v) u = true ∧ limb_1_2.after args s (.returned v) u = true ∧ True) → FrameEnd s (.returned v) u (Jvm.fieldLocs frame_1_writes args s ++ Jvm.arrayLocs frame_1_arrays args s ++ Jvm.staticLocs frame_1_statics s) 16 128 → Post tb e args s (.returned v) u) :
    ArmFor flags0 classFile x code maxLocals ret World_1 tables_1 room_1 Calls_1 rest_1 Pre_1 Post := by
  intro l hfl _ _ p e ha hc hk s m args below hf hA hF happ hP
  obtain ⟨hcalls, hrest, hpre⟩ := hP
  obtain ⟨-, -, -, hnamed, -, -, -, hat⟩ := (Spec.applies_iff hf).mp happ
  obtain ⟨hg, hn⟩ := and_e (Cond.before_iff.mp (show (Jvm.Cond.and given_1 narrow_1).before args s = true from hpre))
  obtain ⟨gc, hg⟩ := and_e hg
  obtain ⟨gi0, hg⟩ := and_e hg
  obtain ⟨gi1, hg⟩ := and_e hg
  obtain ⟨gi2, hg⟩ := and_e hg
  obtain ⟨gi3, hg⟩ := and_e hg
  obtain ⟨gi4, hg⟩ := and_e hg
  have gi5 := hg
  obtain ⟨w0, w1, w2, w3, w4, w5, rfl⟩ : ∃ w0 w1 w2 w3 w4 w5 : Value, args = #[w0, w1, w2, w3, w4, w5] := by
    have hs : args.size = 6 := by simpa [Cond.value, given_1] using gc
    obtain ⟨L⟩ := args
    match L, hs with
    | [w0, w1, w2, w3, w4, w5], _ => exact ⟨w0, w1, w2, w3, w4, w5, rfl⟩
  have hw := fun d (hd : d ∈ tables_1) => atoms_spec (ws := Jvm.Cond.code x code maxLocals ret :: tables_1) hat d (List.mem_cons_of_mem _ hd)
  obtain ⟨i0, ei0⟩ := is_v gi0
  obtain rfl : w0 = (.int i0) := Option.some.inj ei0
  obtain ⟨i1, ei1⟩ := is_v gi1
  obtain rfl : w1 = (.int i1) := Option.some.inj ei1
  obtain ⟨i2, ei2⟩ := is_v gi2
  obtain rfl : w2 = (.int i2) := Option.some.inj ei2
  obtain ⟨i3, ei3⟩ := is_v gi3
  obtain rfl : w3 = (.int i3) := Option.some.inj ei3
  obtain ⟨i4, ei4⟩ := is_v gi4
  obtain rfl : w4 = (.int i4) := Option.some.inj ei4
  obtain ⟨i5, ei5⟩ := is_v gi5
  obtain rfl : w5 = (.int i5) := Option.some.inj ei5
  have hK := own_mnx (own_b31 i0) (own_b31 i1)
  have hP := own_pb i4 i5
  have hQ := own_qb i5
  have hQ1 : 0 < ((i5 &&& (1023 : Int32)) + (1 : Int32)).toInt := by rw [hQ]; omega
  have hQ2 : ((i5 &&& (1023 : Int32)) + (1 : Int32)).toInt ≤ 1024 := by rw [hQ]; omega
  have hS := own_sub hK.1 hK.2
  by_cases hA : (own_mn (i0 &&& (2147483647 : Int32)) (i1 &&& (2147483647 : Int32))) < (own_mx (1 : Int32) (i2 &&& (2147483647 : Int32)))
  · obtain ⟨n, o, h1, h2, h3, _, L, rfl, ⟨rfl, N⟩, hq⟩ := rm0a l s _ hw tables_1 i0 i1 i2 i3 i4 i5 s.heap s.heap.size (Nat.le_refl _) (own_qd i5) (own_nn hP.1 hQ1) (own_mx1n _) (own_nneg _) (own_s0 hP.1 hQ1) (own_s1 hP.1 hP.2 hQ1) (by decide +kernel) (by decide +kernel) hA p e ha hc hk s m _ below hf ((Spec.applies_iff_loose hf).mp happ).1 ⟨rfl, State.Warmed39.refl s, rfl⟩ trivial
    refine ⟨n, _, h1, h2, h3, hpost _ _ _ _ _ _ ⟨Cond.after_iff.mpr rfl, Cond.after_iff.mpr (eq_i res_at (Term.int_eval (1)) rfl), trivial⟩ ⟨hq.1, hq.2.1, (hq.2.2.sift fun y hy => Or.inr (N y hy)).mono (by decide) (by decide)⟩⟩
  by_cases hB : ((own_mx (i0 &&& (2147483647 : Int32)) (i1 &&& (2147483647 : Int32))) - (own_mn (i0 &&& (2147483647 : Int32)) (i1 &&& (2147483647 : Int32)))) < (i3 &&& (2147483647 : Int32))
  · obtain ⟨n, o, h1, h2, h3, _, L, rfl, ⟨rfl, N⟩, hq⟩ := rm0b l s _ hw tables_1 i0 i1 i2 i3 i4 i5 s.heap s.heap.size (Nat.le_refl _) (own_qd i5) (own_nn hP.1 hQ1) (own_mx1n _) (own_nneg _) (own_s0 hP.1 hQ1) (own_s1 hP.1 hP.2 hQ1) (by decide +kernel) (by decide +kernel) hA hB ((own_lc1 hK.1 hK.2).mpr hB) p e ha hc hk s m _ below hf ((Spec.applies_iff_loose hf).mp happ).1 ⟨rfl, State.Warmed39.refl s, rfl⟩ trivial
    refine ⟨n, _, h1, h2, h3, hpost _ _ _ _ _ _ ⟨Cond.after_iff.mpr rfl, Cond.after_iff.mpr (eq_i res_at (Term.int_eval (1)) rfl), trivial⟩ ⟨hq.1, hq.2.1, (hq.2.2.sift fun y hy => Or.inr (N y hy)).mono (by decide) (by decide)⟩⟩
  have hM := own_mx1 (i2 &&& (2147483647 : Int32))
  have hC : 0 < (own_mx (i0 &&& (2147483647 : Int32)) (i1 &&& (2147483647 : Int32))).toInt := by
    rw [Int32.lt_iff_toInt_lt] at hA
    omega
  have hE0 : 0 ≤ ((own_mx (i0 &&& (2147483647 : Int32)) (i1 &&& (2147483647 : Int32))) - (own_mn (i0 &&& (2147483647 : Int32)) (i1 &&& (2147483647 : Int32)))).toInt := by rw [hS]; omega
  have hE1 : ((own_mx (i0 &&& (2147483647 : Int32)) (i1 &&& (2147483647 : Int32))) - (own_mn (i0 &&& (2147483647 : Int32)) (i1 &&& (2147483647 : Int32)))).toInt ≤ (own_mx (i0 &&& (2147483647 : Int32)) (i1 &&& (2147483647 : Int32))).toInt := by rw [hS]; omega
  have hF := own_flt hE0 hE1 hC hP.1 hP.2 hQ1 hQ2
  have hG := own_lc2 (p := ((i4 &&& (2147483647 : Int32)) % (((i5 &&& (1023 : Int32)) + (1 : Int32)) + (1 : Int32)))) (q := ((i5 &&& (1023 : Int32)) + (1 : Int32))) hK.1 hK.2 hP.1 hP.2 hQ2
  by_cases hC3 : cmpValue (FP.dcmp (FP.ddiv (FP.i2d ((own_mx (i0 &&& (2147483647 : Int32)) (i1 &&& (2147483647 : Int32))) - (own_mn (i0 &&& (2147483647 : Int32)) (i1 &&& (2147483647 : Int32))))) (FP.i2d (own_mx (i0 &&& (2147483647 : Int32)) (i1 &&& (2147483647 : Int32))))) (FP.ddiv (FP.i2d ((i4 &&& (2147483647 : Int32)) % (((i5 &&& (1023 : Int32)) + (1 : Int32)) + (1 : Int32)))) (FP.i2d ((i5 &&& (1023 : Int32)) + (1 : Int32))))) .l < (0 : Int32)
  · obtain ⟨n, o, h1, h2, h3, _, L, rfl, ⟨rfl, N⟩, hq⟩ := rm0c l s _ hw tables_1 i0 i1 i2 i3 i4 i5 s.heap s.heap.size (Nat.le_refl _) (own_qd i5) (own_nn hP.1 hQ1) (own_mx1n _) (own_nneg _) (own_s0 hP.1 hQ1) (own_s1 hP.1 hP.2 hQ1) (by decide +kernel) (by decide +kernel) hA hB (own_nn hE0 hC) hC3 (fun z => hB ((own_lc1 hK.1 hK.2).mp z)) (hG.mpr (hF.mp hC3)) p e ha hc hk s m _ below hf ((Spec.applies_iff_loose hf).mp happ).1 ⟨rfl, State.Warmed39.refl s, rfl⟩ trivial
    refine ⟨n, _, h1, h2, h3, hpost _ _ _ _ _ _ ⟨Cond.after_iff.mpr rfl, Cond.after_iff.mpr (eq_i res_at (Term.int_eval (1)) rfl), trivial⟩ ⟨hq.1, hq.2.1, (hq.2.2.sift fun y hy => Or.inr (N y hy)).mono (by decide) (by decide)⟩⟩
  obtain ⟨n, o, h1, h2, h3, _, L, rfl, ⟨rfl, N⟩, hq⟩ := rm0d l s _ hw tables_1 i0 i1 i2 i3 i4 i5 s.heap s.heap.size (Nat.le_refl _) (own_qd i5) (own_nn hP.1 hQ1) (own_mx1n _) (own_nneg _) (own_s0 hP.1 hQ1) (own_s1 hP.1 hP.2 hQ1) (by decide +kernel) (by decide +kernel) hA hB (own_nn hE0 hC) hC3 (fun z => hB ((own_lc1 hK.1 hK.2).mp z)) (fun z => hC3 (hF.mpr (hG.mp z))) p e ha hc hk s m _ below hf ((Spec.applies_iff_loose hf).mp happ).1 ⟨rfl, State.Warmed39.refl s, rfl⟩ trivial
  refine ⟨n, _, h1, h2, h3, hpost _ _ _ _ _ _ ⟨Cond.after_iff.mpr rfl, Cond.after_iff.mpr (eq_i res_at (Term.int_eval (1)) rfl), trivial⟩ ⟨hq.1, hq.2.1, (hq.2.2.sift fun y hy => Or.inr (N y hy)).mono (by decide) (by decide)⟩⟩
theorem main_1_1 : Claimed_1_1 := comes_1 fun _ _ _ _ _ _ h hF => ⟨h.1, hF⟩
theorem main_1_2 : Claimed_1_2 := comes_1 fun _ _ _ _ _ _ h hF => ⟨h.2.1, hF⟩
end Jvm.Pilot.@@N@@
namespace Jvm.Pilot.@@N@@
open Jvm Jvm.ClassFile Sem Op Lib Jvm.Free Jvm.Stand Jvm.Pilot.@@N@@.Jvm.D
/-! MADE BY PROGRAM (witnessworld.py) out of the Statement's table words and the real class files: 11 classes; the members and pool entries that the words name. The judged class is class 1, her method 1. -/
namespace start1
open Jvm.ClassFile
def u (s : String) : CpInfo := .utf8 (stringToUtf16 s)
/-- a pool by its gaps: so many unusable entries, then the entry; so many at the end -/
def gap : Nat → List CpInfo → List CpInfo
  | 0, r => r
  | n + 1, r => .unusable :: gap n r
def poolList (es : List (Nat × CpInfo)) (last : Nat) : List CpInfo := es.foldr (fun e r => gap e.1 (e.2 :: r)) (gap last [])
def pool (es : List (Nat × CpInfo)) (last : Nat) : Array CpInfo := ⟨poolList es last⟩
def fileOf (pool : Array CpInfo) (this : Nat) (attrs : Array Attribute := #[]) (ms : Array MethodInfo := #[]) (fl : Nat := 33) (sup : Nat := 0) (ifs : Array Nat := #[]) (fds : Array FieldInfo := #[]) : ClassFile where
  minorVersion := 0
  majorVersion := 65
  constantPool := pool
  accessFlags := fl
  thisClass := this
  superClass := sup
  interfaces := ifs
  fields := fds
  methods := ms
  attributes := attrs
def plain (name : String) (sup : Option ClassId) : Class where
  name := name
  kind := .ordinary
  loader := none
  accessFlags := 33
  super := sup
  interfaces := #[]
  cf := none
  fields := #[]
  methods := #[]
  instanceTypes := #[]
  staticTypes := #[]
  resolved := #[]
  callSites := []
  init := .initialized
  statics := none
  mirror := none

def pool0 : Array CpInfo := pool [(5, u "<init>"), (0, u "()V"), (1, .class_ 10), (1, u "java/lang/Object")] 113

def k0c0 : Code := { maxStack := 0, maxLocals := 1, code := object_method_1_code, exceptionTable := #[], attributes := #[] }
def k0m0 : Method := { name := "<init>", desc := "()V", sig := { parameters := [], returnType := none }, accessFlags := 1, code := some k0c0 }
/-- java/lang/Object -/
def k0 : Class := { plain "java/lang/Object" none with
  accessFlags := 33
  interfaces := #[]
  cf := some (fileOf pool0 8 #[] #[{ accessFlags := 1, nameIndex := 5, descriptorIndex := 6, attributes := #[] }] 33 0 #[] #[])
  fields := #[]
  methods := #[k0m0]
  instanceTypes := #[]
  staticTypes := #[]
  resolved := Array.replicate 124 none
  statics := none }

def pool1 : Array CpInfo := pool [(2, .class_ 4), (1, u "java/lang/Object"), (0, u "<init>"), (0, u "()V"), (0, .integer 2147483647), (0, .methodref 9 10), (0, .class_ 11), (0, .nameAndType 12 13), (0, u "java/lang/Math"), (0, u "min"), (0, u "(II)I"), (0, .methodref 9 15), (0, .nameAndType 16 13), (0, u "max"), (0, .class_ 18), (0, u "com/example/headlattice/headlattice/learn/RuleLearner$Limits"), (0, .methodref 17 20), (0, .nameAndType 5 21), (0, u "(IIDD)V"), (0, .methodref 17 23), (0, .nameAndType 24 25), (0, u "allowsCondition"), (0, u "(II)Z"), (0, .class_ 27), (0, u "com/example/headlattice/headlattice/learn/LimitsAllowsConditionPinLaw"), (2, u "law"), (0, u "(IIIIII)Z")] 7

def k1m0 : Method := { name := "<init>", desc := "()V", sig := { parameters := [], returnType := none }, accessFlags := 1, code := none }
def k1c1 : Code := { maxStack := 8, maxLocals := 21, code := code, exceptionTable := #[], attributes := #[] }
def k1m1 : Method := { name := "law", desc := "(IIIIII)Z", sig := { parameters := [.int, .int, .int, .int, .int, .int], returnType := some .boolean }, accessFlags := 9, code := some k1c1 }
/-- com/example/headlattice/headlattice/learn/LimitsAllowsConditionPinLaw -/
def k1 : Class := { plain "com/example/headlattice/headlattice/learn/LimitsAllowsConditionPinLaw" (some 0) with
  accessFlags := 49
  interfaces := #[]
  cf := some (fileOf pool1 26 #[] #[{ accessFlags := 1, nameIndex := 5, descriptorIndex := 6, attributes := #[] }, { accessFlags := 9, nameIndex := 30, descriptorIndex := 31, attributes := #[] }] 49 2 #[] #[])
  fields := #[]
  methods := #[k1m0, k1m1]
  instanceTypes := #[]
  staticTypes := #[]
  resolved := Array.replicate 39 none
  statics := none }

def pool2 : Array CpInfo := pool [(1, .class_ 2), (0, u "java/lang/Math"), (1, .class_ 6), (1, u "java/lang/Object"), (0, u "<init>"), (0, u "()V"), (89, .class_ 100), (1, u "java/lang/Math$RandomNumberGeneratorHolder"), (71, u "negativeZeroFloatBits"), (0, u "J"), (2, u "negativeZeroDoubleBits"), (21, u "max"), (2, u "min"), (43, u "$assertionsDisabled"), (0, u "Z"), (88, u "(II)I"), (2, u "twoToTheDoubleScaleDown"), (0, u "D"), (4, u "twoToTheDoubleScaleUp"), (9, u "E"), (3, u "PI"), (2, u "TAU"), (2, u "DEGREES_TO_RADIANS"), (0, u "RADIANS_TO_DEGREES")] 94

def k2m0 : Method := { name := "<init>", desc := "()V", sig := { parameters := [], returnType := none }, accessFlags := 2, code := none }
def k2c1 : Code := { maxStack := 2, maxLocals := 2, code := jdk_29_method_65_code, exceptionTable := #[], attributes := #[] }
def k2m1 : Method := { name := "max", desc := "(II)I", sig := { parameters := [.int, .int], returnType := some .int }, accessFlags := 9, code := some k2c1 }
def k2c2 : Code := { maxStack := 2, maxLocals := 2, code := jdk_29_method_69_code, exceptionTable := #[], attributes := #[] }
def k2m2 : Method := { name := "min", desc := "(II)I", sig := { parameters := [.int, .int], returnType := some .int }, accessFlags := 9, code := some k2c2 }
/-- java/lang/Math -/
def k2 : Class := { plain "java/lang/Math" (some 0) with
  accessFlags := 49
  interfaces := #[]
  cf := some (fileOf pool2 1 #[.nestMembers #[98]] #[{ accessFlags := 2, nameIndex := 7, descriptorIndex := 8, attributes := #[] }, { accessFlags := 9, nameIndex := 198, descriptorIndex := 335, attributes := #[] }, { accessFlags := 9, nameIndex := 201, descriptorIndex := 335, attributes := #[] }] 49 4 #[] #[{ accessFlags := 25, nameIndex := 354, descriptorIndex := 339, attributes := #[] }, { accessFlags := 25, nameIndex := 358, descriptorIndex := 339, attributes := #[] }, { accessFlags := 25, nameIndex := 361, descriptorIndex := 339, attributes := #[] }, { accessFlags := 26, nameIndex := 364, descriptorIndex := 339, attributes := #[] }, { accessFlags := 26, nameIndex := 365, descriptorIndex := 339, attributes := #[] }, { accessFlags := 26, nameIndex := 172, descriptorIndex := 173, attributes := #[] }, { accessFlags := 26, nameIndex := 176, descriptorIndex := 173, attributes := #[] }, { accessFlags := 8, nameIndex := 344, descriptorIndex := 339, attributes := #[] }, { accessFlags := 8, nameIndex := 338, descriptorIndex := 339, attributes := #[] }, { accessFlags := 4120, nameIndex := 245, descriptorIndex := 246, attributes := #[] }])
  fields := #[{ name := "E", type := .double, accessFlags := 25, slot := 0, constantValue := 0 }, { name := "PI", type := .double, accessFlags := 25, slot := 1, constantValue := 0 }, { name := "TAU", type := .double, accessFlags := 25, slot := 2, constantValue := 0 }, { name := "DEGREES_TO_RADIANS", type := .double, accessFlags := 26, slot := 3, constantValue := 0 }, { name := "RADIANS_TO_DEGREES", type := .double, accessFlags := 26, slot := 4, constantValue := 0 }, { name := "negativeZeroFloatBits", type := .long, accessFlags := 26, slot := 5, constantValue := 0 }, { name := "negativeZeroDoubleBits", type := .long, accessFlags := 26, slot := 6, constantValue := 0 }, { name := "twoToTheDoubleScaleUp", type := .double, accessFlags := 8, slot := 7, constantValue := 0 }, { name := "twoToTheDoubleScaleDown", type := .double, accessFlags := 8, slot := 8, constantValue := 0 }, { name := "$assertionsDisabled", type := .boolean, accessFlags := 4120, slot := 9, constantValue := 0 }]
  methods := #[k2m0, k2m1, k2m2]
  instanceTypes := #[]
  staticTypes := #[.double, .double, .double, .double, .double, .long, .long, .double, .double, .boolean]
  resolved := Array.replicate 460 none
  statics := none }

def pool3 : Array CpInfo := pool [(1, .methodref 2 3), (0, .class_ 4), (0, .nameAndType 5 6), (0, u "java/lang/Object"), (0, u "<init>"), (0, u "()V"), (0, .class_ 8), (0, u "java/lang/Record")] 13

def k3c0 : Code := { maxStack := 1, maxLocals := 1, code := jdk_30_method_1_code, exceptionTable := #[], attributes := #[] }
def k3m0 : Method := { name := "<init>", desc := "()V", sig := { parameters := [], returnType := none }, accessFlags := 4, code := some k3c0 }
/-- java/lang/Record -/
def k3 : Class := { plain "java/lang/Record" (some 0) with
  accessFlags := 1057
  interfaces := #[]
  cf := some (fileOf pool3 7 #[] #[{ accessFlags := 4, nameIndex := 5, descriptorIndex := 6, attributes := #[] }] 1057 2 #[] #[])
  fields := #[]
  methods := #[k3m0]
  instanceTypes := #[]
  staticTypes := #[]
  resolved := Array.replicate 22 none
  statics := none }

def pool4 : Array CpInfo := pool [(1, .methodref 2 3), (0, .class_ 4), (0, .nameAndType 5 6), (0, u "java/lang/Record"), (0, u "<init>"), (0, u "()V"), (14, .fieldref 22 23), (0, .class_ 24), (0, .nameAndType 25 26), (0, u "com/example/headlattice/headlattice/learn/RuleLearner$Limits"), (0, u "minCovered"), (0, u "I"), (0, .fieldref 22 28), (0, .nameAndType 29 26), (0, u "minExcluded"), (0, .fieldref 22 31), (0, .nameAndType 32 33), (0, u "minExcludedShare"), (0, u "D"), (0, .fieldref 22 35), (0, .nameAndType 36 33), (0, u "minPrecision"), (23, u "(IIDD)V"), (2, u "NONE"), (0, u "Lcom/example/headlattice/headlattice/learn/RuleLearner$Limits;"), (6, u "STANDARD"), (4, u "allowsCondition"), (0, u "(II)Z"), (10, .class_ 89), (0, u "com/example/headlattice/headlattice/learn/RuleLearner")] 36

def k4c0 : Code := { maxStack := 4, maxLocals := 7, code := prog_39_method_1_code, exceptionTable := #[], attributes := #[] }
def k4m0 : Method := { name := "<init>", desc := "(IIDD)V", sig := { parameters := [.int, .int, .double, .double], returnType := none }, accessFlags := 1, code := some k4c0 }
def k4c1 : Code := { maxStack := 4, maxLocals := 4, code := prog_39_method_2_code, exceptionTable := #[], attributes := #[] }
def k4m1 : Method := { name := "allowsCondition", desc := "(II)Z", sig := { parameters := [.int, .int], returnType := some .boolean }, accessFlags := 0, code := some k4c1 }
/-- com/example/headlattice/headlattice/learn/RuleLearner$Limits -/
def k4 : Class := { plain "com/example/headlattice/headlattice/learn/RuleLearner$Limits" (some 3) with
  accessFlags := 49
  interfaces := #[]
  cf := some (fileOf pool4 22 #[.nestHost 88] #[{ accessFlags := 1, nameIndex := 5, descriptorIndex := 60, attributes := #[] }, { accessFlags := 0, nameIndex := 76, descriptorIndex := 77, attributes := #[] }] 49 2 #[] #[{ accessFlags := 18, nameIndex := 25, descriptorIndex := 26, attributes := #[] }, { accessFlags := 18, nameIndex := 29, descriptorIndex := 26, attributes := #[] }, { accessFlags := 18, nameIndex := 32, descriptorIndex := 33, attributes := #[] }, { accessFlags := 18, nameIndex := 36, descriptorIndex := 33, attributes := #[] }, { accessFlags := 25, nameIndex := 63, descriptorIndex := 64, attributes := #[] }, { accessFlags := 25, nameIndex := 71, descriptorIndex := 64, attributes := #[] }])
  fields := #[{ name := "minCovered", type := .int, accessFlags := 18, slot := 0, constantValue := 0 }, { name := "minExcluded", type := .int, accessFlags := 18, slot := 1, constantValue := 0 }, { name := "minExcludedShare", type := .double, accessFlags := 18, slot := 2, constantValue := 0 }, { name := "minPrecision", type := .double, accessFlags := 18, slot := 3, constantValue := 0 }, { name := "NONE", type := (.object "com/example/headlattice/headlattice/learn/RuleLearner$Limits"), accessFlags := 25, slot := 0, constantValue := 0 }, { name := "STANDARD", type := (.object "com/example/headlattice/headlattice/learn/RuleLearner$Limits"), accessFlags := 25, slot := 1, constantValue := 0 }]
  methods := #[k4m0, k4m1]
  instanceTypes := #[.int, .int, .double, .double]
  staticTypes := #[(.object "com/example/headlattice/headlattice/learn/RuleLearner$Limits"), (.object "com/example/headlattice/headlattice/learn/RuleLearner$Limits")]
  resolved := Array.replicate 126 none
  statics := none }

def pool5 : Array CpInfo := pool [(1, u "java/lang/Cloneable"), (0, .class_ 1), (0, u "java/lang/Object"), (0, .class_ 3)] 3

/-- java/lang/Cloneable -/
def k5 : Class := { plain "java/lang/Cloneable" (some 0) with
  accessFlags := 1537
  interfaces := #[]
  cf := some (fileOf pool5 2 #[] #[] 1537 4 #[] #[])
  fields := #[]
  methods := #[]
  instanceTypes := #[]
  staticTypes := #[]
  resolved := Array.replicate 8 none
  statics := none }

def pool6 : Array CpInfo := pool [(1, u "java/io/Serializable"), (0, .class_ 1), (0, u "java/lang/Object"), (0, .class_ 3)] 3

/-- java/io/Serializable -/
def k6 : Class := { plain "java/io/Serializable" (some 0) with
  accessFlags := 1537
  interfaces := #[]
  cf := some (fileOf pool6 2 #[] #[] 1537 4 #[] #[])
  fields := #[]
  methods := #[]
  instanceTypes := #[]
  staticTypes := #[]
  resolved := Array.replicate 8 none
  statics := none }

/-- the primitive byte -/
def k7 : Class := { plain "byte" none with kind := .primitive 'B', accessFlags := 0x411 }
/-- [B -/
def k8 : Class := { plain "[B" (some 0) with kind := .array 7 .byte, interfaces := #[5, 6], accessFlags := 1041 }

/-- the primitive int -/
def k9 : Class := { plain "int" none with kind := .primitive 'I', accessFlags := 0x411 }
/-- [I -/
def k10 : Class := { plain "[I" (some 0) with kind := .array 9 .int, interfaces := #[5, 6], accessFlags := 1041 }

def heap : Heap := #[]
def classes : Array Class := #[k0, k1, k2, k3, k4, k5, k6, k7, k8, k9, k10]
def interned : List (Array UInt16 × Addr) := []
def slotsUsed : Nat := 0
def theMethod : MethodId := ⟨1, 1⟩
def args0 : Array Value := #[.int 9, .int 5, .int 3, .int 2, .int 7, .int 11]
def aboutOver (below : List Frame) : State where
  vm := { classes := classes, interned := interned.toArray }
  heap := heap
  slotsUsed := slotsUsed
  threads := #[{ frames := .invoking theMethod args0 :: below }]
def below0 : List Frame := [.native { method := ⟨0, 0⟩, args := #[] }]
def about1 : State := aboutOver below0
def p0 : Program := .bare "" "" ""
def e0 : Env := launch0.env 0 0 0
theorem w_frames : about1.frames = Frame.invoking theMethod args0 :: below0 := rfl
set_option maxRecDepth 65536 in
theorem w_args : argsFit about1.vm theMethod args0 = true := by decide +kernel
set_option maxRecDepth 65536 in
theorem w_heap : heapFits about1 = true := by decide +kernel
set_option maxRecDepth 65536 in
theorem w_runnable : about1.curStatus? = some .runnable := by decide +kernel
set_option maxRecDepth 65536 in
theorem w_alone : about1.alone = true := by decide +kernel
set_option maxRecDepth 65536 in
theorem w_named : about1.methodNamed? x = some theMethod := by decide +kernel
set_option maxRecDepth 65536 in
theorem w_hears : about1.hears theMethod below0 = true := by decide +kernel
set_option maxRecDepth 65536 in
theorem w_ripe : about1.ripe theMethod args0 below0 = true := by decide +kernel
theorem w_running : about1.status = .running := rfl
set_option maxRecDepth 65536 in
theorem w_room : about1.hasRoom e0.platform room_1 = true :=
  launch0.hasRoom_least _ room_1 (by decide +kernel) (by decide +kernel) (by decide +kernel) (by decide +kernel) (by decide +kernel) (by decide +kernel)
theorem allAtoms_all (ts : List Jvm.Cond) (a : Array Jvm.Value) (st : Jvm.State) : (allAtoms ts).before a st = ts.all (fun c => c.before a st) := by
  induction ts with
  | nil => rfl
  | cons c t ih =>
    show (Jvm.Cond.and c (allAtoms t)).before a st = _
    rw [Jvm.Cond.before_and, ih, List.all_cons]
def words1 : List Jvm.Cond := Jvm.Cond.code x code maxLocals ret :: tables_1
/-- a 'code' word, met by the world's own term for the bytes: nothing is compared byte by byte -/
theorem code_word {y : MethodName} {bytes : ByteArray} {mx : Nat} {rt : Option FieldType} {a : Array Value} {s : State} {m : MethodId} {meth : Method} {c : Code} (h1 : s.methodNamed? y = some m) (h2 : s.vm.method? m = some meth) (h3 : meth.code = some c) (h4 : c.code = bytes)
    (h5 : (c.maxLocals == mx && c.exceptionTable.isEmpty && decide (c.maxStack ≤ mostOperands) && decide (meth.sig.returnType = rt) && !meth.locks && decide (parseMethodDescriptor y.desc = some meth.sig)) = true) : (Jvm.Cond.code y bytes mx rt).before a s = true := by
  simp only [Bool.and_eq_true, beq_iff_eq, Bool.not_eq_true', decide_eq_true_eq] at h5
  obtain ⟨⟨⟨⟨⟨g1, g2⟩, g3⟩, g4⟩, g5⟩, g6⟩ := h5
  simp [Cond.before, Cond.holds, Cond.value, h1, h2, h3, h4, g1, g2, g3, g4, g5, g6]
def isCode : Jvm.Cond → Bool
  | .code _ _ _ _ => true
  | _ => false
theorem all_split {L : List Jvm.Cond} {P : Jvm.Cond → Bool} (h1 : L.all (fun c => isCode c || P c) = true) (h2 : ∀ c ∈ L.filter isCode, P c = true) : L.all P = true := by
  refine List.all_eq_true.mpr fun c hc => ?_
  have h := List.all_eq_true.mp h1 c hc
  rcases Bool.eq_false_or_eq_true (isCode c) with hi | hi
  · exact h2 c (List.mem_filter.mpr ⟨hc, hi⟩)
  · simpa [hi] using h
set_option maxRecDepth 65536 in
theorem w_c0 : (Jvm.Cond.code x code maxLocals ret).before args0 about1 = true := code_word (m := ⟨1, 1⟩) (meth := k1m1) (c := k1c1) (by decide +kernel) rfl rfl rfl (by decide +kernel)
set_option maxRecDepth 65536 in
theorem w_c1 : (Jvm.Cond.code ({ cls := "java/lang/Math", name := "min", desc := "(II)I" } : Jvm.MethodName) jdk_29_method_69_code (2 : Nat) (Option.some Jvm.ClassFile.FieldType.int)).before args0 about1 = true := code_word (m := ⟨2, 2⟩) (meth := k2m2) (c := k2c2) (by decide +kernel) rfl rfl rfl (by decide +kernel)
set_option maxRecDepth 65536 in
theorem w_c2 : (Jvm.Cond.code ({ cls := "java/lang/Math", name := "max", desc := "(II)I" } : Jvm.MethodName) jdk_29_method_65_code (2 : Nat) (Option.some Jvm.ClassFile.FieldType.int)).before args0 about1 = true := code_word (m := ⟨2, 1⟩) (meth := k2m1) (c := k2c1) (by decide +kernel) rfl rfl rfl (by decide +kernel)
set_option maxRecDepth 65536 in
theorem w_c3 : (Jvm.Cond.code ({ cls := "com/example/headlattice/headlattice/learn/RuleLearner$Limits", name := "<init>", desc := "(IIDD)V" } : Jvm.MethodName) prog_39_method_1_code (7 : Nat) (Option.none : Option Jvm.ClassFile.FieldType)).before args0 about1 = true := code_word (m := ⟨4, 0⟩) (meth := k4m0) (c := k4c0) (by decide +kernel) rfl rfl rfl (by decide +kernel)
set_option maxRecDepth 65536 in
theorem w_c4 : (Jvm.Cond.code ({ cls := "java/lang/Record", name := "<init>", desc := "()V" } : Jvm.MethodName) jdk_30_method_1_code (1 : Nat) (Option.none : Option Jvm.ClassFile.FieldType)).before args0 about1 = true := code_word (m := ⟨3, 0⟩) (meth := k3m0) (c := k3c0) (by decide +kernel) rfl rfl rfl (by decide +kernel)
set_option maxRecDepth 65536 in
theorem w_c5 : (Jvm.Cond.code ({ cls := "java/lang/Object", name := "<init>", desc := "()V" } : Jvm.MethodName) object_method_1_code (1 : Nat) (Option.none : Option Jvm.ClassFile.FieldType)).before args0 about1 = true := code_word (m := ⟨0, 0⟩) (meth := k0m0) (c := k0c0) (by decide +kernel) rfl rfl rfl (by decide +kernel)
set_option maxRecDepth 65536 in
theorem w_c6 : (Jvm.Cond.code ({ cls := "com/example/headlattice/headlattice/learn/RuleLearner$Limits", name := "allowsCondition", desc := "(II)Z" } : Jvm.MethodName) prog_39_method_2_code (4 : Nat) (Option.some Jvm.ClassFile.FieldType.boolean)).before args0 about1 = true := code_word (m := ⟨4, 1⟩) (meth := k4m1) (c := k4c1) (by decide +kernel) rfl rfl rfl (by decide +kernel)
def codes1 : List Jvm.Cond := [Jvm.Cond.code x code maxLocals ret, Jvm.Cond.code ({ cls := "java/lang/Math", name := "min", desc := "(II)I" } : Jvm.MethodName) jdk_29_method_69_code (2 : Nat) (Option.some Jvm.ClassFile.FieldType.int), Jvm.Cond.code ({ cls := "java/lang/Math", name := "max", desc := "(II)I" } : Jvm.MethodName) jdk_29_method_65_code (2 : Nat) (Option.some Jvm.ClassFile.FieldType.int), Jvm.Cond.code ({ cls := "com/example/headlattice/headlattice/learn/RuleLearner$Limits", name := "<init>", desc := "(IIDD)V" } : Jvm.MethodName) prog_39_method_1_code (7 : Nat) (Option.none : Option Jvm.ClassFile.FieldType), Jvm.Cond.code ({ cls := "java/lang/Record", name := "<init>", desc := "()V" } : Jvm.MethodName) jdk_30_method_1_code (1 : Nat) (Option.none : Option Jvm.ClassFile.FieldType), Jvm.Cond.code ({ cls := "java/lang/Object", name := "<init>", desc := "()V" } : Jvm.MethodName) object_method_1_code (1 : Nat) (Option.none : Option Jvm.ClassFile.FieldType), Jvm.Cond.code ({ cls := "com/example/headlattice/headlattice/learn/RuleLearner$Limits", name := "allowsCondition", desc := "(II)Z" } : Jvm.MethodName) prog_39_method_2_code (4 : Nat) (Option.some Jvm.ClassFile.FieldType.boolean)]
set_option maxRecDepth 65536 in
theorem codes_eq : words1.filter isCode = codes1 := rfl
theorem w_codes : ∀ c ∈ words1.filter isCode, c.before args0 about1 = true := by
  rw [codes_eq]
  intro c hc
  simp only [codes1, List.mem_cons, List.not_mem_nil, or_false] at hc
  rcases hc with rfl | rfl | rfl | rfl | rfl | rfl | rfl
  · exact w_c0
  · exact w_c1
  · exact w_c2
  · exact w_c3
  · exact w_c4
  · exact w_c5
  · exact w_c6
set_option maxRecDepth 65536 in
theorem w_t1 : (words1.take 24).all (fun c => isCode c || c.before args0 about1) = true := by decide +kernel
set_option maxRecDepth 65536 in
theorem w_t2 : (words1.drop 24).all (fun c => isCode c || c.before args0 about1) = true := by decide +kernel
theorem w_tables : (allAtoms (Jvm.Cond.code x code maxLocals ret :: tables_1)).before args0 about1 = true := by
  rw [allAtoms_all]
  show words1.all (fun c => c.before args0 about1) = true
  refine all_split ?_ w_codes
  rw [← List.take_append_drop 24 words1, List.all_append, w_t1, w_t2]
  rfl
set_option maxRecDepth 65536 in
theorem w_case : (Jvm.Cond.and given_1 narrow_1).before args0 about1 = true := by decide +kernel
theorem w_applies : (headSpec (Jvm.Cond.code x code maxLocals ret :: tables_1) room_1).applies x e0.platform about1 = true :=
  (Spec.applies_iff w_frames).mpr ⟨w_running, w_runnable, w_alone, w_named, w_hears, w_ripe, w_room, w_tables⟩
theorem atStart : AtStart classFile x code maxLocals ret World_1 tables_1 room_1 Calls_1 rest_1 Pre_1 launch0 p0 e0 about1 theMethod args0 below0 :=
  ⟨lists_1, trivial, launch0.admits_env _ _ _, launch0.least_env, fairChoices_fair.cas, fairChoices_fair.clock, w_frames, w_args, w_heap, w_applies, trivial, trivial, w_case⟩
end start1
theorem witness_1 : WitnessClaimed_1 := ⟨start1.p0, start1.e0, start1.about1, start1.theMethod, start1.args0, start1.below0, start1.atStart⟩
end Jvm.Pilot.@@N@@
