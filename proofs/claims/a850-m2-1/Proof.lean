import JvmDerived
import JvmDerived.Pilot.@@N@@Statement
import JvmDerived.Pilot.@@N@@Code
set_option linter.unusedVariables false
set_option linter.unusedSimpArgs false
namespace Jvm.RoadKit
open Sem ClassFile Op Lib Jvm.Stand Jvm.Free Jvm.LawKit
section New
variable {p : Program} {l : Launch} {e : Env} {R : Room} {s : State} {m : MethodId} {args : Array Value} {below : List Frame} {meth : Method} {c : Code} {T : State} {locs : List Loc} {cells slots : Nat}
theorem retI (X : Stand p l e R s m args below meth c T locs cells slots) (hx : p.tables.exec = Jvm.exec) {pc : Nat} {Ls : Array Slot} {z : Int32} {rest : List Value} (hret : meth.sig.returnType = some .int) (hd : decode c.code pc = .ok (.ireturn, 1)) {fs : List Frame}
    (hl : ∀ (f : JFrame) (acts : List Action), f.method = m → f.locked = none → f.entered = [] → (doReturn e (T.setTop f) acts (some (.int z))).1 = T.setFrames fs) : Steps p.tables e below (T.setTop (mkF m pc Ls (.int z :: rest))) (T.setFrames fs) := by
  have hm' : T.vm.method? m = some meth := X.method'
  have hn : narrow .int (.int z) = .int z := rfl
  show Steps p.tables e below (T.setTop { method := m, pc := pc, locals := Ls, stack := _ :: rest, locked := none }) _
  jvm_step X.here [X.here.top, hx, hd, hm', hret, hn]
  first | (intro acts; rw [hl _ acts rfl rfl rfl]) | rw [hl _ _ rfl rfl rfl]
  exact Steps.refl _
end New
end Jvm.RoadKit
namespace Jvm.Pilot.@@N@@
open Jvm Jvm.ClassFile Sem Op Lib Jvm.Free Jvm.Stand Jvm.LawKit Jvm.RoadKit Bundle Jvm.Pilot.@@N@@.Jvm.D
theorem own_ext {h h' : Heap} (K : Keep h h' []) : Ext h h' := ⟨K.1, fun a c q => K.2.1 a c q nin0⟩
theorem own_fits {t : FieldType} {x : Int32} (h : nar t x = x) (f : fits t (.int (nar t x)) = true) : fits t (.int x) = true := by rw [h] at f; exact f
theorem own_nb (x : Int32) : nar .byte (x.toInt8.toInt32) = x.toInt8.toInt32 := by simp [nar]
theorem own_nc (x : Int32) : nar .char (x.toUInt32.toUInt16.toUInt32.toInt32) = x.toUInt32.toUInt16.toUInt32.toInt32 := by
  show (x.toUInt32.toUInt16.toUInt32.toInt32).toUInt32.toUInt16.toUInt32.toInt32 = _
  rw [UInt32.toUInt32_toInt32, UInt16.toUInt16_toUInt32]
theorem own_gen {p : Program} {l : Launch} {e : Env} {R : Room} {s : State} {m : MethodId} {args : Array Value} {below : List Frame} {meth : Method} {c : Code} {T : State} {locs : List Loc} {cells slots n0 : Nat} (X : Stand p l e R s m args below meth c T locs cells slots) (N : Fr n0 locs) : ∃ L, Stand p l e R s m args below meth c T L cells slots ∧ Fr n0 L := ⟨_, X, N⟩
theorem own_ne {a b : Addr} (h : a < b) : a ≠ b := Nat.ne_of_lt h
theorem own_Sta {Z : State} {h h' : Heap} {C n d : String} {v : Value} {ws : List Addr} (F : Sta Z h C n d v) (K : Keep h h' ws) (q : ∀ x ∈ ws, ∀ cell : Cell, h[x]? = some cell → cell.vm.isStatics = false) : Sta Z h' C n d v := by
  obtain ⟨cf, i, k, f, st, cell, h1, h2, h3, h4, h5, h6, h7⟩ := F
  refine ⟨cf, i, k, f, st, cell, h1, h2, h3, h4, K.2.1 st cell h5 (fun m => ?_), h6, h7⟩
  rw [q st m cell h5] at h6
  cases h6
theorem own_priv {s : State} {args : Array Value} {y : MethodName} {n : Nat} (wi : (Cond.instantiable y.cls n).before args s = true) (hp : s.PrivateAt y) (hi : (Cond.instanceMethod y).before args s = true) (hy : y.cls ≠ "java/lang/invoke/MethodHandle" ∧ y.cls ≠ "java/lang/invoke/VarHandle") : (Cond.selects y.cls y y).before args s = true := by
  obtain ⟨c, k, h1, h2, -, h4, -⟩ := Cond.instantiable_spec wi
  exact selects_self_of_private h1 h2 (by cases hk : k.isInterface <;> simp_all) hp hi hy
theorem own_lremM {p : Program} {l : Launch} {e : Env} {R : Room} {s : State} {m : MethodId} {args : Array Value} {below : List Frame} {meth : Method} {c : Code} {T : State} {locs : List Loc} {cells slots : Nat} {g : JFrame} {target : State} (X : Stand p l e R s m args below meth c T locs cells slots) (hx : p.tables.exec = Jvm.exec) (hg : g.method = m) {x y : Int64} {rest : List Value} (hd : decode c.code g.pc = .ok (.lrem, 1)) (hs : g.stack = .long y :: .long x :: rest) (hy : y ≠ 0)
    (hr : Steps p.tables e below (T.setTop { g with pc := g.pc + 1, stack := .long (x % y) :: rest }) target) : Steps p.tables e below (T.setTop g) target := by
  have q : x - x / y * y = x % y := lrem_mod x y
  exact XS.lrem X.here hx hg hd hs hy (by rw [q]; exact hr)
theorem own_nf {args : Array Value} {s : State} {C : String} {y y' : MethodName} (h : (Cond.selects C y' y').before args s = true) (e : y.cls = y'.cls) : NotFace s y := fun r0 h0 => by
  obtain ⟨c2, r2, m2, q1, q2, q3, q4, kP, hkP, hkPi⟩ := Cond.selects_spec h
  have a := findClass_of_methodNamed h0
  have b := findClass_of_methodNamed q3
  rw [e] at a
  have w : r0.cls = m2.cls := Option.some.inj (a.symm.trans b)
  exact ⟨kP, by rw [w]; exact hkP, hkPi⟩
theorem own_same {a0 : Array Value} {Z : State} {C : String} {y y' : MethodName} (hsel : (Cond.selects C y' y').before a0 Z = true) (e : y.cls = y'.cls) (hi : (Cond.instanceMethod y).before a0 Z = true) (hy : y.cls ≠ "java/lang/invoke/MethodHandle" ∧ y.cls ≠ "java/lang/invoke/VarHandle") : (Cond.sameMethod y.cls y.cls y.name y.desc).before a0 Z = true := by
  obtain ⟨mk, methM, hnamed, hmethM, -, -⟩ := Cond.instanceMethod_spec hi
  have hf := State.methodFound?_of_named hnamed hy
  have hc := findClass_of_methodNamed hnamed
  obtain ⟨kr, hk, hn⟩ := own_nf hsel e mk hnamed
  have hnm : Z.methodNamed? ⟨y.cls, y.name, y.desc⟩ = some mk := hnamed
  simp [Cond.before, Cond.holds, Cond.value, hc, hf, hnm, hk, hn]
def own_Arf (Z : State) (h : Heap) (a : Addr) (k : ClassId) (ty : FieldType) (n : Int32) (f : Nat → Value) : Prop := ∃ c : Cell, Arr Z h a c ty ∧ c.cls = k ∧ c.slots.size = n.toNatClampNeg ∧ ¬ n < 0 ∧ (∀ i, i < c.slots.size → c.slots[i]? = some (f i)) ∧ ∀ i, i < c.slots.size → fits ty (f i) = true
def own_upd (f : Nat → Value) (j : Nat) (v : Value) : Nat → Value := fun i => if i = j then v else f i
theorem own_upd_eq {f : Nat → Value} {j : Nat} {v : Value} : own_upd f j v j = v := if_pos rfl
theorem own_upd_ne {f : Nat → Value} {i j : Nat} {v : Value} (q : i ≠ j) : own_upd f j v i = f i := if_neg q
section OwnArf
variable {Z : State} {h h' : Heap} {a b : Addr} {k : ClassId} {ty : FieldType} {n j : Int32} {f g : Nat → Value} {ws : List Addr} {sl : Nat} {v : Value} {c : Cell}
theorem own_Arf.lt (F : own_Arf Z h a k ty n f) : a < h.size := by obtain ⟨c, A, -⟩ := F; exact A.lt
theorem own_Arf.ext (F : own_Arf Z h a k ty n f) (E : Ext h h') : own_Arf Z h' a k ty n f := by obtain ⟨c, A, r⟩ := F; exact ⟨c, A.ext E, r⟩
theorem own_Arf.other (F : own_Arf Z h b k ty n f) (W : Wr h h' a sl v) (q : b ≠ a) : own_Arf Z h' b k ty n f := by obtain ⟨c, A, r⟩ := F; exact ⟨c, A.other W q, r⟩
theorem own_Arf.keep (F : own_Arf Z h a k ty n f) (K : Keep h h' ws) (q : a ∉ ws) : own_Arf Z h' a k ty n f := by obtain ⟨c, A, r⟩ := F; exact ⟨c, ⟨K.2.1 a c A.1 q, A.2⟩, r⟩
theorem own_Arf.new (A : Arr Z h a (newA k ty n) ty) (q : ¬ n < 0) : own_Arf Z h a k ty n (fun _ => defaultValue ty) := by
  obtain ⟨c, r1, r2, r3, r4, r5, r6⟩ := Arv.new A q
  exact ⟨c, r1, r2, r3, r4, fun i hi => r5 i hi, fun i hi => r6 i hi⟩
theorem own_Arf.nostat (A : own_Arf Z h a k ty n f) : ∀ cell : Cell, h[a]? = some cell → cell.vm.isStatics = false := by
  obtain ⟨c, r1, r2, r3, r4, r5, r6⟩ := A
  have q : Arv Z h a k ty n (List.ofFn fun i : Fin c.slots.size => f i) .null := by
    refine ⟨c, r1, r2, r3, r4, fun i hi => ?_, fun i hi => ?_⟩
    · rw [r5 i hi]; simp [List.getD_eq_getElem?_getD, hi]
    · have := r6 i hi; simpa [List.getD_eq_getElem?_getD, hi] using this
  exact q.nostat
theorem own_Arf.set (A : Arr Z h a c ty) (q1 : c.cls = k) (S : c.slots.size = n.toNatClampNeg) (q3 : ¬ n < 0) (H : ∀ i, i < c.slots.size → c.slots[i]? = some (f i)) (G : ∀ i, i < c.slots.size → fits ty (f i) = true) (hv : fits ty v = true) (W : Wr h h' a j.toNatClampNeg v) : own_Arf Z h' a k ty n (own_upd f j.toNatClampNeg v) := by
  have ez : (c.setSlot j.toNatClampNeg v).slots.size = c.slots.size := by simp [Cell.setSlot]
  refine ⟨_, A.same W, q1, by rw [ez]; exact S, q3, fun x hx => ?_, fun x hx => ?_⟩
  · rw [ez] at hx
    by_cases u : x = j.toNatClampNeg
    · subst u; rw [own_upd_eq]; simp [Cell.setSlot, hx]
    · rw [own_upd_ne u]; simp only [Cell.setSlot]; rw [Array.getElem?_setIfInBounds_ne (Ne.symm u)]; exact H x hx
  · rw [ez] at hx
    by_cases u : x = j.toNatClampNeg
    · subst u; rw [own_upd_eq]; exact hv
    · rw [own_upd_ne u]; exact G x hx
theorem own_at (H : ∀ i, i < c.slots.size → c.slots[i]? = some (f i)) (q : ¬ (j < 0 ∨ c.slots.size ≤ j.toNatClampNeg)) (u : f j.toNatClampNeg = v) : c.slots[j.toNatClampNeg]? = some v := u ▸ H _ (Nat.lt_of_not_le fun y => q (Or.inr y))
theorem own_Arf.congr (F : own_Arf Z h a k ty n f) (q : ∀ i, i < n.toNatClampNeg → g i = f i) : own_Arf Z h a k ty n g := by
  obtain ⟨c, r1, r2, r3, r4, r5, r6⟩ := F
  exact ⟨c, r1, r2, r3, r4, fun i hi => by rw [q i (r3 ▸ hi)]; exact r5 i hi, fun i hi => by rw [q i (r3 ▸ hi)]; exact r6 i hi⟩
theorem own_Arf.fit (F : own_Arf Z h a k ty n f) : ∀ i, i < n.toNatClampNeg → fits ty (f i) = true := by
  obtain ⟨c, r1, r2, r3, r4, r5, r6⟩ := F
  exact fun i hi => r6 i (r3.symm ▸ hi)
theorem own_any_at (H : ∀ i, i < c.slots.size → c.slots[i]? = some (f i)) (G : ∀ i, i < c.slots.size → fits ty (f i) = true) (q : ¬ (j < 0 ∨ c.slots.size ≤ j.toNatClampNeg)) (t : ty = .int ∨ ty = .boolean ∨ ty = .byte ∨ ty = .char ∨ ty = .short) : ∃ x, c.slots[j.toNatClampNeg]? = some (.int x) := by
  have b : j.toNatClampNeg < c.slots.size := Nat.lt_of_not_le fun y => q (Or.inr y)
  obtain ⟨x, hx⟩ := fit_I (G _ b) t
  exact ⟨x, hx ▸ H _ b⟩
def own_Any (Z : State) (h : Heap) (a : Addr) (k : ClassId) (ty : FieldType) (n : Int32) : Prop := ∃ f, own_Arf Z h a k ty n f
theorem own_Any.lt (F : own_Any Z h a k ty n) : a < h.size := by obtain ⟨f, F⟩ := F; exact F.lt
theorem own_Any.ext (F : own_Any Z h a k ty n) (E : Ext h h') : own_Any Z h' a k ty n := by obtain ⟨f, F⟩ := F; exact ⟨f, F.ext E⟩
theorem own_Any.other (F : own_Any Z h b k ty n) (W : Wr h h' a sl v) (q : b ≠ a) : own_Any Z h' b k ty n := by obtain ⟨f, F⟩ := F; exact ⟨f, F.other W q⟩
theorem own_Any.keep (F : own_Any Z h a k ty n) (K : Keep h h' ws) (q : a ∉ ws) : own_Any Z h' a k ty n := by obtain ⟨f, F⟩ := F; exact ⟨f, F.keep K q⟩
theorem own_Any.nostat (F : own_Any Z h a k ty n) : ∀ cell : Cell, h[a]? = some cell → cell.vm.isStatics = false := by obtain ⟨f, F⟩ := F; exact F.nostat
def own_cpf (f : Nat → Value) (sp : Nat) (g : Nat → Value) (dp n : Nat) : Nat → Value := fun i => if dp ≤ i ∧ i < dp + n then f (sp + (i - dp)) else g i
theorem own_Arf.toV (F : own_Arf Z h a k ty n f) : Arv Z h a k ty n ((List.range n.toNatClampNeg).map f) .null := by
  obtain ⟨c, r1, r2, r3, r4, r5, r6⟩ := F
  refine ⟨c, r1, r2, r3, r4, fun i hi => ?_, fun i hi => ?_⟩
  · rw [r5 i hi]; rw [r3] at hi; simp [List.getD_eq_getElem?_getD, hi]
  · have := r6 i hi; rw [r3] at hi; simpa [List.getD_eq_getElem?_getD, hi] using this
theorem own_Arf.ofV {vs : List Value} {d : Value} (F : Arv Z h a k ty n vs d) (q : ∀ i, i < n.toNatClampNeg → f i = vs.getD i d) : own_Arf Z h a k ty n f := by
  obtain ⟨c, r1, r2, r3, r4, r5, r6⟩ := F
  exact ⟨c, r1, r2, r3, r4, fun i hi => by rw [q i (r3 ▸ hi)]; exact r5 i hi, fun i hi => by rw [q i (r3 ▸ hi)]; exact r6 i hi⟩
theorem own_Arf.cl (A : Arv Z h a k ty n ((List.range n.toNatClampNeg).map f) .null) : own_Arf Z h a k ty n f := own_Arf.ofV A (fun i hi => by simp [List.getD_eq_getElem?_getD, hi])
theorem own_cpA {p : Program} {l : Launch} {e : Env} {R : Room} {s : State} {m : MethodId} {args : Array Value} {below : List Frame} {meth : Method} {c : Code} {T : State} {locs : List Loc} {cells slots : Nat} (X : Stand p l e R s m args below meth c T locs cells slots) (hx : p.tables.exec = Jvm.exec) (hZ : Z.Warmed39 s.vm) {a0 : Array Value} {own : String} {index : Nat} (hown : s.vm.findClass own = some m.cls)
    (w1 : (Cond.methodLink own index Jvm.Stand.acN).before a0 Z = true) (w2 : (Cond.native Jvm.Stand.acN).before a0 Z = true) (w3 : (Cond.static Jvm.Stand.acN).before a0 Z = true) (w4 : (Cond.initialized "java/lang/System").before a0 Z = true) (eT : T.heap = h)
    {k' : ClassId} {z' sp dp nn : Int32} {f' : Nat → Value} (A : own_Arf Z h a k ty n f) (B : own_Arf Z h b k' ty z' f') (hty : refKind ty = false)
    (h1 : ¬ sp < 0) (h2 : ¬ dp < 0) (h3 : ¬ nn < 0) (h4 : sp.toNatClampNeg + nn.toNatClampNeg ≤ n.toNatClampNeg) (h5 : dp.toNatClampNeg + nn.toNatClampNeg ≤ z'.toNatClampNeg) {n0 : Nat} (N : Fr n0 locs) (ge : n0 ≤ b)
    {g : JFrame} (hg : g.method = m) (hsize : g.locals.size = c.maxLocals) {rest : List Value} (hs : g.stack = .int nn :: .int dp :: .ref b :: .int sp :: .ref a :: rest) (hd : decode c.code g.pc = .ok (.invokestatic index, 3))
    (hf : 1 ≤ R.frames) {W : Nat} (hW : 2 * g.monitorRoom + (rest.map fun v => v.category).sum ≤ W) (hlo : W + (nativeFrameWords "java/lang/System" "arraycopy" 5 + 11) ≤ R.locals) :
    ∃ T' h' L, Stand p l e R s m args below meth c T' L cells slots ∧ T'.heap = h' ∧ Fr n0 L ∧ Keep h h' [b] ∧ own_Arf Z h' b k' ty z' (own_cpf f sp.toNatClampNeg f' dp.toNatClampNeg nn.toNatClampNeg) ∧
      ∀ target, Steps p.tables e below (T'.setTop { g with pc := g.pc + 3, stack := rest }) target → Steps p.tables e below (T.setTop g) target := by
  obtain ⟨T', h', L, q1, q2, q3, q4, q5, q6⟩ := cpA X hx hZ hown w1 w2 w3 w4 eT A.toV B.toV (us := (List.range nn.toNatClampNeg).map fun i => ((List.range n.toNatClampNeg).map f).getD (sp.toNatClampNeg + i) .null) (Or.inl ⟨rfl, hty⟩) h1 h2 h3 h4 h5 rfl (by simpa using h5) N ge hg hsize hs hd hf hW hlo
  refine ⟨T', h', L, q1, q2, q3, q4, own_Arf.ofV q5 fun i hi => ?_, q6⟩
  simp only [own_cpf, List.getD_eq_getElem?_getD]
  by_cases c1 : i < dp.toNatClampNeg
  · rw [if_neg (by omega), List.append_assoc, List.getElem?_append_left (by simp; omega), List.getElem?_take_of_lt c1]; simp [hi]
  · by_cases c2 : i < dp.toNatClampNeg + nn.toNatClampNeg
    · rw [if_pos ⟨by omega, c2⟩, List.getElem?_append_left (by simp; omega), List.getElem?_append_right (by simp; omega)]
      have e1 : (List.take dp.toNatClampNeg (List.map f' (List.range z'.toNatClampNeg))).length = dp.toNatClampNeg := by simp; omega
      rw [e1]
      have e2 : i - dp.toNatClampNeg < nn.toNatClampNeg := by omega
      have e3 : sp.toNatClampNeg + (i - dp.toNatClampNeg) < n.toNatClampNeg := by omega
      simp [e2, e3]
    · rw [if_neg (by omega), List.getElem?_append_right (by simp; omega)]
      have e1 : (List.take dp.toNatClampNeg (List.map f' (List.range z'.toNatClampNeg)) ++ (List.range nn.toNatClampNeg).map fun i => ((List.map f (List.range n.toNatClampNeg))[sp.toNatClampNeg + i]?).getD .null).length = dp.toNatClampNeg + nn.toNatClampNeg := by simp; omega
      rw [e1, List.getElem?_drop, show dp.toNatClampNeg + nn.toNatClampNeg + (i - (dp.toNatClampNeg + nn.toNatClampNeg)) = i by omega]
      simp [hi]
end OwnArf
theorem own_mono {l : Launch} {x : MethodName} {S : Spec} {P : Array Value → State → Prop} {K : Program → Env → List Frame → State → Array Value → Prop} {Q Q' : Option Value → Heap → List Loc → Prop} {E : State → Outcome → State → List Loc → Prop} (M : MetFree l x S P K (fun _ U o U' => ∃ v L, o = .returned v ∧ Q v U'.heap L ∧ E U o U' L)) (H : ∀ v h L, Q v h L → Q' v h L) : MetFree l x S P K (fun _ U o U' => ∃ v L, o = .returned v ∧ Q' v U'.heap L ∧ E U o U' L) := fun p e a1 a2 a3 s m args below a4 a5 a6 a7 => by
  obtain ⟨n, o, b1, b2, b3, v, L, c1, c2, c3⟩ := M p e a1 a2 a3 s m args below a4 a5 a6 a7
  exact ⟨n, o, b1, b2, b3, v, L, c1, H _ _ _ c2, c3⟩
def own_At (p : Program) (l : Launch) (e : Env) (R : Room) (s : State) (m : MethodId) (args : Array Value) (below : List Frame) (meth : Method) (c : Code) (n0 cells slots : Nat) (h : Heap) (T : State) : Prop := ∃ L, Stand p l e R s m args below meth c T L cells slots ∧ T.heap = h ∧ Fr n0 L
def own_Seg (p : Program) (l : Launch) (e : Env) (R : Room) (s : State) (m : MethodId) (args : Array Value) (below : List Frame) (meth : Method) (c : Code) (n0 c1 s1 c2 s2 : Nat) (h : Heap) (g : JFrame) (Q : Heap → JFrame → Prop) : Prop := ∀ T, own_At p l e R s m args below meth c n0 c1 s1 h T → ∃ T' h' g', Q h' g' ∧ own_At p l e R s m args below meth c n0 c2 s2 h' T' ∧ ∀ t, Steps p.tables e below (T'.setTop g') t → Steps p.tables e below (T.setTop g) t
section OwnSeg
variable {p : Program} {l : Launch} {e : Env} {R : Room} {s : State} {m : MethodId} {args : Array Value} {below : List Frame} {meth : Method} {c : Code} {n0 c1 s1 c2 s2 c3 s3 : Nat} {h : Heap} {g : JFrame} {Q Q' : Heap → JFrame → Prop}
theorem own_Seg.bind (A : own_Seg p l e R s m args below meth c n0 c1 s1 c2 s2 h g Q) (B : ∀ h' g', Q h' g' → own_Seg p l e R s m args below meth c n0 c2 s2 c3 s3 h' g' Q') : own_Seg p l e R s m args below meth c n0 c1 s1 c3 s3 h g Q' := fun T a => by
  obtain ⟨T1, h1, g1, q1, a1, k1⟩ := A T a
  obtain ⟨T2, h2, g2, q2, a2, k2⟩ := B h1 g1 q1 T1 a1
  exact ⟨T2, h2, g2, q2, a2, fun t k => k1 t (k2 t k)⟩
theorem own_Seg.mono (A : own_Seg p l e R s m args below meth c n0 c1 s1 c2 s2 h g Q) (B : ∀ h' g', Q h' g' → Q' h' g') : own_Seg p l e R s m args below meth c n0 c1 s1 c2 s2 h g Q' := fun T a => by
  obtain ⟨T1, h1, g1, q1, a1, k1⟩ := A T a
  exact ⟨T1, h1, g1, B _ _ q1, a1, k1⟩
theorem own_Seg.done (q : Q h g) : own_Seg p l e R s m args below meth c n0 c1 s1 c1 s1 h g Q := fun T a => ⟨T, h, g, q, a, fun _ k => k⟩
end OwnSeg
abbrev vI (x : Int32) : Slot := .val (.int x)
abbrev vR (x : Addr) : Slot := .val (.ref x)
abbrev cCV : String := "com/example/headlattice/headlattice/learn/Coverage"
abbrev cLW : String := "com/example/headlattice/headlattice/learn/CoverageRemainingRowSetPinLaw"
theorem w0 {Z : State} {az : Array Value} (hw : ∀ d ∈ tables_1, d.before az Z = true) : (Jvm.Cond.classLink "com/example/headlattice/headlattice/learn/CoverageRemainingRowSetPinLaw" (7 : Nat) "com/example/headlattice/headlattice/learn/Coverage").before az Z = true := hw _ (List.mem_of_getElem? (i := 0) rfl)
theorem w1 {Z : State} {az : Array Value} (hw : ∀ d ∈ tables_1, d.before az Z = true) : (Jvm.Cond.instantiable "com/example/headlattice/headlattice/learn/Coverage" (9 : Nat)).before az Z = true := hw _ (List.mem_of_getElem? (i := 1) rfl)
theorem w2 {Z : State} {az : Array Value} (hw : ∀ d ∈ tables_1, d.before az Z = true) : (Jvm.Cond.initialized "com/example/headlattice/headlattice/learn/Coverage").before az Z = true := hw _ (List.mem_of_getElem? (i := 2) rfl)
theorem w3 {Z : State} {az : Array Value} (hw : ∀ d ∈ tables_1, d.before az Z = true) : (Jvm.Cond.methodLink "com/example/headlattice/headlattice/learn/CoverageRemainingRowSetPinLaw" (9 : Nat) ({ cls := "com/example/headlattice/headlattice/learn/Coverage", name := "<init>", desc := "(I)V" } : Jvm.MethodName)).before az Z = true := hw _ (List.mem_of_getElem? (i := 3) rfl)
theorem w4 {Z : State} {az : Array Value} (hw : ∀ d ∈ tables_1, d.before az Z = true) : (Jvm.Cond.instanceMethod ({ cls := "com/example/headlattice/headlattice/learn/Coverage", name := "<init>", desc := "(I)V" } : Jvm.MethodName)).before az Z = true := hw _ (List.mem_of_getElem? (i := 4) rfl)
theorem w5 {Z : State} {az : Array Value} (hw : ∀ d ∈ tables_1, d.before az Z = true) : (Jvm.Cond.code ({ cls := "com/example/headlattice/headlattice/learn/Coverage", name := "<init>", desc := "(I)V" } : Jvm.MethodName) prog_21_method_1_code (2 : Nat) (Option.none : Option Jvm.ClassFile.FieldType)).before az Z = true := hw _ (List.mem_of_getElem? (i := 5) rfl)
theorem w6 {Z : State} {az : Array Value} (hw : ∀ d ∈ tables_1, d.before az Z = true) : (Jvm.Cond.methodLink "com/example/headlattice/headlattice/learn/Coverage" (1 : Nat) ({ cls := "java/lang/Object", name := "<init>", desc := "()V" } : Jvm.MethodName)).before az Z = true := hw _ (List.mem_of_getElem? (i := 6) rfl)
theorem w7 {Z : State} {az : Array Value} (hw : ∀ d ∈ tables_1, d.before az Z = true) : (Jvm.Cond.instanceMethod ({ cls := "java/lang/Object", name := "<init>", desc := "()V" } : Jvm.MethodName)).before az Z = true := hw _ (List.mem_of_getElem? (i := 7) rfl)
theorem w8 {Z : State} {az : Array Value} (hw : ∀ d ∈ tables_1, d.before az Z = true) : (Jvm.Cond.code ({ cls := "java/lang/Object", name := "<init>", desc := "()V" } : Jvm.MethodName) object_method_1_code (1 : Nat) (Option.none : Option Jvm.ClassFile.FieldType)).before az Z = true := hw _ (List.mem_of_getElem? (i := 8) rfl)
theorem w9 {Z : State} {az : Array Value} (hw : ∀ d ∈ tables_1, d.before az Z = true) : (Jvm.Cond.fieldLink "com/example/headlattice/headlattice/learn/Coverage" (16 : Nat) "com/example/headlattice/headlattice/learn/Coverage" "labelCount" "I").before az Z = true := hw _ (List.mem_of_getElem? (i := 9) rfl)
theorem w10 {Z : State} {az : Array Value} (hw : ∀ d ∈ tables_1, d.before az Z = true) : (Jvm.Cond.laysFinal "com/example/headlattice/headlattice/learn/Coverage" "com/example/headlattice/headlattice/learn/Coverage" "labelCount" "I").before az Z = true := hw _ (List.mem_of_getElem? (i := 10) rfl)
theorem w11 {Z : State} {az : Array Value} (hw : ∀ d ∈ tables_1, d.before az Z = true) : (Jvm.Cond.classLink "com/example/headlattice/headlattice/learn/Coverage" (22 : Nat) "[I").before az Z = true := hw _ (List.mem_of_getElem? (i := 11) rfl)
theorem w12 {Z : State} {az : Array Value} (hw : ∀ d ∈ tables_1, d.before az Z = true) : (Jvm.Cond.arrayOver (Jvm.ClassFile.FieldType.array Jvm.ClassFile.FieldType.int)).before az Z = true := hw _ (List.mem_of_getElem? (i := 12) rfl)
theorem w13 {Z : State} {az : Array Value} (hw : ∀ d ∈ tables_1, d.before az Z = true) : (Jvm.Cond.fieldLink "com/example/headlattice/headlattice/learn/Coverage" (24 : Nat) "com/example/headlattice/headlattice/learn/Coverage" "openPairs" "[[I").before az Z = true := hw _ (List.mem_of_getElem? (i := 13) rfl)
theorem w14 {Z : State} {az : Array Value} (hw : ∀ d ∈ tables_1, d.before az Z = true) : (Jvm.Cond.lays "com/example/headlattice/headlattice/learn/Coverage" "com/example/headlattice/headlattice/learn/Coverage" "openPairs" "[[I").before az Z = true := hw _ (List.mem_of_getElem? (i := 14) rfl)
theorem w15 {Z : State} {az : Array Value} (hw : ∀ d ∈ tables_1, d.before az Z = true) : (Jvm.Cond.arrayClass Jvm.ClassFile.FieldType.boolean).before az Z = true := hw _ (List.mem_of_getElem? (i := 15) rfl)
theorem w16 {Z : State} {az : Array Value} (hw : ∀ d ∈ tables_1, d.before az Z = true) : (Jvm.Cond.fieldLink "com/example/headlattice/headlattice/learn/Coverage" (28 : Nat) "com/example/headlattice/headlattice/learn/Coverage" "covered" "[Z").before az Z = true := hw _ (List.mem_of_getElem? (i := 16) rfl)
theorem w17 {Z : State} {az : Array Value} (hw : ∀ d ∈ tables_1, d.before az Z = true) : (Jvm.Cond.lays "com/example/headlattice/headlattice/learn/Coverage" "com/example/headlattice/headlattice/learn/Coverage" "covered" "[Z").before az Z = true := hw _ (List.mem_of_getElem? (i := 17) rfl)
theorem w18 {Z : State} {az : Array Value} (hw : ∀ d ∈ tables_1, d.before az Z = true) : (Jvm.Cond.arrayClass Jvm.ClassFile.FieldType.int).before az Z = true := hw _ (List.mem_of_getElem? (i := 18) rfl)
theorem w19 {Z : State} {az : Array Value} (hw : ∀ d ∈ tables_1, d.before az Z = true) : (Jvm.Cond.fieldLink "com/example/headlattice/headlattice/learn/Coverage" (32 : Nat) "com/example/headlattice/headlattice/learn/Coverage" "coveredCounts" "[I").before az Z = true := hw _ (List.mem_of_getElem? (i := 19) rfl)
theorem w20 {Z : State} {az : Array Value} (hw : ∀ d ∈ tables_1, d.before az Z = true) : (Jvm.Cond.laysFinal "com/example/headlattice/headlattice/learn/Coverage" "com/example/headlattice/headlattice/learn/Coverage" "coveredCounts" "[I").before az Z = true := hw _ (List.mem_of_getElem? (i := 20) rfl)
theorem w21 {Z : State} {az : Array Value} (hw : ∀ d ∈ tables_1, d.before az Z = true) : (Jvm.Cond.fieldLink "com/example/headlattice/headlattice/learn/Coverage" (35 : Nat) "com/example/headlattice/headlattice/learn/Coverage" "openCounts" "[I").before az Z = true := hw _ (List.mem_of_getElem? (i := 21) rfl)
theorem w22 {Z : State} {az : Array Value} (hw : ∀ d ∈ tables_1, d.before az Z = true) : (Jvm.Cond.laysFinal "com/example/headlattice/headlattice/learn/Coverage" "com/example/headlattice/headlattice/learn/Coverage" "openCounts" "[I").before az Z = true := hw _ (List.mem_of_getElem? (i := 22) rfl)
theorem w23 {Z : State} {az : Array Value} (hw : ∀ d ∈ tables_1, d.before az Z = true) : (Jvm.Cond.fieldLink "com/example/headlattice/headlattice/learn/Coverage" (38 : Nat) "com/example/headlattice/headlattice/learn/Coverage" "ones" "[I").before az Z = true := hw _ (List.mem_of_getElem? (i := 23) rfl)
theorem w24 {Z : State} {az : Array Value} (hw : ∀ d ∈ tables_1, d.before az Z = true) : (Jvm.Cond.laysFinal "com/example/headlattice/headlattice/learn/Coverage" "com/example/headlattice/headlattice/learn/Coverage" "ones" "[I").before az Z = true := hw _ (List.mem_of_getElem? (i := 24) rfl)
theorem w25 {Z : State} {az : Array Value} (hw : ∀ d ∈ tables_1, d.before az Z = true) : (Jvm.Cond.methodLink "com/example/headlattice/headlattice/learn/CoverageRemainingRowSetPinLaw" (12 : Nat) ({ cls := "com/example/headlattice/headlattice/learn/CoverageRemainingRowSetPinLaw", name := "addRow", desc := "(Lcom/example/headlattice/headlattice/learn/Coverage;IIIII)V" } : Jvm.MethodName)).before az Z = true := hw _ (List.mem_of_getElem? (i := 25) rfl)
theorem w26 {Z : State} {az : Array Value} (hw : ∀ d ∈ tables_1, d.before az Z = true) : (Jvm.Cond.static ({ cls := "com/example/headlattice/headlattice/learn/CoverageRemainingRowSetPinLaw", name := "addRow", desc := "(Lcom/example/headlattice/headlattice/learn/Coverage;IIIII)V" } : Jvm.MethodName)).before az Z = true := hw _ (List.mem_of_getElem? (i := 26) rfl)
theorem w27 {Z : State} {az : Array Value} (hw : ∀ d ∈ tables_1, d.before az Z = true) : (Jvm.Cond.initialized "com/example/headlattice/headlattice/learn/CoverageRemainingRowSetPinLaw").before az Z = true := hw _ (List.mem_of_getElem? (i := 27) rfl)
theorem w28 {Z : State} {az : Array Value} (hw : ∀ d ∈ tables_1, d.before az Z = true) : (Jvm.Cond.code ({ cls := "com/example/headlattice/headlattice/learn/CoverageRemainingRowSetPinLaw", name := "addRow", desc := "(Lcom/example/headlattice/headlattice/learn/Coverage;IIIII)V" } : Jvm.MethodName) method_3_code (7 : Nat) (Option.none : Option Jvm.ClassFile.FieldType)).before az Z = true := hw _ (List.mem_of_getElem? (i := 28) rfl)
theorem w29 {Z : State} {az : Array Value} (hw : ∀ d ∈ tables_1, d.before az Z = true) : (Jvm.Cond.methodLink "com/example/headlattice/headlattice/learn/CoverageRemainingRowSetPinLaw" (18 : Nat) ({ cls := "com/example/headlattice/headlattice/learn/CoverageRemainingRowSetPinLaw", name := "doSettle", desc := "(Lcom/example/headlattice/headlattice/learn/Coverage;IIII)V" } : Jvm.MethodName)).before az Z = true := hw _ (List.mem_of_getElem? (i := 29) rfl)
theorem w30 {Z : State} {az : Array Value} (hw : ∀ d ∈ tables_1, d.before az Z = true) : (Jvm.Cond.static ({ cls := "com/example/headlattice/headlattice/learn/CoverageRemainingRowSetPinLaw", name := "doSettle", desc := "(Lcom/example/headlattice/headlattice/learn/Coverage;IIII)V" } : Jvm.MethodName)).before az Z = true := hw _ (List.mem_of_getElem? (i := 30) rfl)
theorem w31 {Z : State} {az : Array Value} (hw : ∀ d ∈ tables_1, d.before az Z = true) : (Jvm.Cond.code ({ cls := "com/example/headlattice/headlattice/learn/CoverageRemainingRowSetPinLaw", name := "doSettle", desc := "(Lcom/example/headlattice/headlattice/learn/Coverage;IIII)V" } : Jvm.MethodName) method_4_code (6 : Nat) (Option.none : Option Jvm.ClassFile.FieldType)).before az Z = true := hw _ (List.mem_of_getElem? (i := 31) rfl)
theorem w32 {Z : State} {az : Array Value} (hw : ∀ d ∈ tables_1, d.before az Z = true) : (Jvm.Cond.methodLink "com/example/headlattice/headlattice/learn/CoverageRemainingRowSetPinLaw" (22 : Nat) ({ cls := "com/example/headlattice/headlattice/learn/CoverageRemainingRowSetPinLaw", name := "bit", desc := "(IIII)J" } : Jvm.MethodName)).before az Z = true := hw _ (List.mem_of_getElem? (i := 32) rfl)
theorem w33 {Z : State} {az : Array Value} (hw : ∀ d ∈ tables_1, d.before az Z = true) : (Jvm.Cond.static ({ cls := "com/example/headlattice/headlattice/learn/CoverageRemainingRowSetPinLaw", name := "bit", desc := "(IIII)J" } : Jvm.MethodName)).before az Z = true := hw _ (List.mem_of_getElem? (i := 33) rfl)
theorem w34 {Z : State} {az : Array Value} (hw : ∀ d ∈ tables_1, d.before az Z = true) : (Jvm.Cond.code ({ cls := "com/example/headlattice/headlattice/learn/CoverageRemainingRowSetPinLaw", name := "bit", desc := "(IIII)J" } : Jvm.MethodName) method_5_code (6 : Nat) (Option.some Jvm.ClassFile.FieldType.long)).before az Z = true := hw _ (List.mem_of_getElem? (i := 34) rfl)
theorem w35 {Z : State} {az : Array Value} (hw : ∀ d ∈ tables_1, d.before az Z = true) : (Jvm.Cond.methodLink "com/example/headlattice/headlattice/learn/CoverageRemainingRowSetPinLaw" (26 : Nat) ({ cls := "com/example/headlattice/headlattice/learn/Coverage", name := "remainingRowSet", desc := "()[J" } : Jvm.MethodName)).before az Z = true := hw _ (List.mem_of_getElem? (i := 35) rfl)
theorem w36 {Z : State} {az : Array Value} (hw : ∀ d ∈ tables_1, d.before az Z = true) : (Jvm.Cond.declares ({ cls := "com/example/headlattice/headlattice/learn/Coverage", name := "remainingRowSet", desc := "()[J" } : Jvm.MethodName)).before az Z = true := hw _ (List.mem_of_getElem? (i := 36) rfl)
theorem w37 {Z : State} {az : Array Value} (hw : ∀ d ∈ tables_1, d.before az Z = true) : (Jvm.Cond.instanceMethod ({ cls := "com/example/headlattice/headlattice/learn/Coverage", name := "remainingRowSet", desc := "()[J" } : Jvm.MethodName)).before az Z = true := hw _ (List.mem_of_getElem? (i := 37) rfl)
theorem w38 {Z : State} {az : Array Value} (hw : ∀ d ∈ tables_1, d.before az Z = true) : (Jvm.Cond.selects "com/example/headlattice/headlattice/learn/Coverage" ({ cls := "com/example/headlattice/headlattice/learn/Coverage", name := "remainingRowSet", desc := "()[J" } : Jvm.MethodName) ({ cls := "com/example/headlattice/headlattice/learn/Coverage", name := "remainingRowSet", desc := "()[J" } : Jvm.MethodName)).before az Z = true := hw _ (List.mem_of_getElem? (i := 38) rfl)
theorem w39 {Z : State} {az : Array Value} (hw : ∀ d ∈ tables_1, d.before az Z = true) : (Jvm.Cond.code ({ cls := "com/example/headlattice/headlattice/learn/Coverage", name := "remainingRowSet", desc := "()[J" } : Jvm.MethodName) prog_21_method_19_code (3 : Nat) (Option.some (Jvm.ClassFile.FieldType.array Jvm.ClassFile.FieldType.long))).before az Z = true := hw _ (List.mem_of_getElem? (i := 39) rfl)
theorem w40 {Z : State} {az : Array Value} (hw : ∀ d ∈ tables_1, d.before az Z = true) : (Jvm.Cond.fieldLink "com/example/headlattice/headlattice/learn/Coverage" (50 : Nat) "com/example/headlattice/headlattice/learn/Coverage" "rowCount" "I").before az Z = true := hw _ (List.mem_of_getElem? (i := 40) rfl)
theorem w41 {Z : State} {az : Array Value} (hw : ∀ d ∈ tables_1, d.before az Z = true) : (Jvm.Cond.lays "com/example/headlattice/headlattice/learn/Coverage" "com/example/headlattice/headlattice/learn/Coverage" "rowCount" "I").before az Z = true := hw _ (List.mem_of_getElem? (i := 41) rfl)
theorem w42 {Z : State} {az : Array Value} (hw : ∀ d ∈ tables_1, d.before az Z = true) : (Jvm.Cond.arrayClass Jvm.ClassFile.FieldType.long).before az Z = true := hw _ (List.mem_of_getElem? (i := 42) rfl)
theorem w43 {Z : State} {az : Array Value} (hw : ∀ d ∈ tables_1, d.before az Z = true) : (Jvm.Cond.methodLink "com/example/headlattice/headlattice/learn/CoverageRemainingRowSetPinLaw" (30 : Nat) ({ cls := "com/example/headlattice/headlattice/learn/Coverage", name := "addRow", desc := "([IZ)I" } : Jvm.MethodName)).before az Z = true := hw _ (List.mem_of_getElem? (i := 43) rfl)
theorem w44 {Z : State} {az : Array Value} (hw : ∀ d ∈ tables_1, d.before az Z = true) : (Jvm.Cond.declares ({ cls := "com/example/headlattice/headlattice/learn/Coverage", name := "addRow", desc := "([IZ)I" } : Jvm.MethodName)).before az Z = true := hw _ (List.mem_of_getElem? (i := 44) rfl)
theorem w45 {Z : State} {az : Array Value} (hw : ∀ d ∈ tables_1, d.before az Z = true) : (Jvm.Cond.instanceMethod ({ cls := "com/example/headlattice/headlattice/learn/Coverage", name := "addRow", desc := "([IZ)I" } : Jvm.MethodName)).before az Z = true := hw _ (List.mem_of_getElem? (i := 45) rfl)
theorem w46 {Z : State} {az : Array Value} (hw : ∀ d ∈ tables_1, d.before az Z = true) : (Jvm.Cond.selects "com/example/headlattice/headlattice/learn/Coverage" ({ cls := "com/example/headlattice/headlattice/learn/Coverage", name := "addRow", desc := "([IZ)I" } : Jvm.MethodName) ({ cls := "com/example/headlattice/headlattice/learn/Coverage", name := "addRow", desc := "([IZ)I" } : Jvm.MethodName)).before az Z = true := hw _ (List.mem_of_getElem? (i := 46) rfl)
theorem w47 {Z : State} {az : Array Value} (hw : ∀ d ∈ tables_1, d.before az Z = true) : (Jvm.Cond.code ({ cls := "com/example/headlattice/headlattice/learn/Coverage", name := "addRow", desc := "([IZ)I" } : Jvm.MethodName) prog_21_method_5_code (9 : Nat) (Option.some Jvm.ClassFile.FieldType.int)).before az Z = true := hw _ (List.mem_of_getElem? (i := 47) rfl)
theorem w48 {Z : State} {az : Array Value} (hw : ∀ d ∈ tables_1, d.before az Z = true) : (Jvm.Cond.methodLink "com/example/headlattice/headlattice/learn/Coverage" (74 : Nat) ({ cls := "com/example/headlattice/headlattice/learn/Coverage", name := "ownPairs", desc := "()V" } : Jvm.MethodName)).before az Z = true := hw _ (List.mem_of_getElem? (i := 48) rfl)
theorem w49 {Z : State} {az : Array Value} (hw : ∀ d ∈ tables_1, d.before az Z = true) : (Jvm.Cond.instanceMethod ({ cls := "com/example/headlattice/headlattice/learn/Coverage", name := "ownPairs", desc := "()V" } : Jvm.MethodName)).before az Z = true := hw _ (List.mem_of_getElem? (i := 49) rfl)
theorem w50 {Z : State} {az : Array Value} (hw : ∀ d ∈ tables_1, d.before az Z = true) : (Jvm.Cond.privateMethod ({ cls := "com/example/headlattice/headlattice/learn/Coverage", name := "ownPairs", desc := "()V" } : Jvm.MethodName)).before az Z = true := hw _ (List.mem_of_getElem? (i := 50) rfl)
theorem w51 {Z : State} {az : Array Value} (hw : ∀ d ∈ tables_1, d.before az Z = true) : (Jvm.Cond.code ({ cls := "com/example/headlattice/headlattice/learn/Coverage", name := "ownPairs", desc := "()V" } : Jvm.MethodName) prog_21_method_21_code (1 : Nat) (Option.none : Option Jvm.ClassFile.FieldType)).before az Z = true := hw _ (List.mem_of_getElem? (i := 51) rfl)
theorem w52 {Z : State} {az : Array Value} (hw : ∀ d ∈ tables_1, d.before az Z = true) : (Jvm.Cond.fieldLink "com/example/headlattice/headlattice/learn/Coverage" (41 : Nat) "com/example/headlattice/headlattice/learn/Coverage" "pairsShared" "Z").before az Z = true := hw _ (List.mem_of_getElem? (i := 52) rfl)
theorem w53 {Z : State} {az : Array Value} (hw : ∀ d ∈ tables_1, d.before az Z = true) : (Jvm.Cond.lays "com/example/headlattice/headlattice/learn/Coverage" "com/example/headlattice/headlattice/learn/Coverage" "pairsShared" "Z").before az Z = true := hw _ (List.mem_of_getElem? (i := 53) rfl)
theorem w54 {Z : State} {az : Array Value} (hw : ∀ d ∈ tables_1, d.before az Z = true) : (Jvm.Cond.fieldLink "com/example/headlattice/headlattice/learn/Coverage" (53 : Nat) "com/example/headlattice/headlattice/learn/Coverage" "remainingCount" "I").before az Z = true := hw _ (List.mem_of_getElem? (i := 54) rfl)
theorem w55 {Z : State} {az : Array Value} (hw : ∀ d ∈ tables_1, d.before az Z = true) : (Jvm.Cond.lays "com/example/headlattice/headlattice/learn/Coverage" "com/example/headlattice/headlattice/learn/Coverage" "remainingCount" "I").before az Z = true := hw _ (List.mem_of_getElem? (i := 55) rfl)
theorem w57 {Z : State} {az : Array Value} (hw : ∀ d ∈ tables_1, d.before az Z = true) : (Jvm.Cond.methodLink "com/example/headlattice/headlattice/learn/CoverageRemainingRowSetPinLaw" (33 : Nat) ({ cls := "com/example/headlattice/headlattice/learn/Coverage", name := "settle", desc := "(II)V" } : Jvm.MethodName)).before az Z = true := hw _ (List.mem_of_getElem? (i := 57) rfl)
theorem w58 {Z : State} {az : Array Value} (hw : ∀ d ∈ tables_1, d.before az Z = true) : (Jvm.Cond.declares ({ cls := "com/example/headlattice/headlattice/learn/Coverage", name := "settle", desc := "(II)V" } : Jvm.MethodName)).before az Z = true := hw _ (List.mem_of_getElem? (i := 58) rfl)
theorem w59 {Z : State} {az : Array Value} (hw : ∀ d ∈ tables_1, d.before az Z = true) : (Jvm.Cond.instanceMethod ({ cls := "com/example/headlattice/headlattice/learn/Coverage", name := "settle", desc := "(II)V" } : Jvm.MethodName)).before az Z = true := hw _ (List.mem_of_getElem? (i := 59) rfl)
theorem w60 {Z : State} {az : Array Value} (hw : ∀ d ∈ tables_1, d.before az Z = true) : (Jvm.Cond.selects "com/example/headlattice/headlattice/learn/Coverage" ({ cls := "com/example/headlattice/headlattice/learn/Coverage", name := "settle", desc := "(II)V" } : Jvm.MethodName) ({ cls := "com/example/headlattice/headlattice/learn/Coverage", name := "settle", desc := "(II)V" } : Jvm.MethodName)).before az Z = true := hw _ (List.mem_of_getElem? (i := 60) rfl)
theorem w61 {Z : State} {az : Array Value} (hw : ∀ d ∈ tables_1, d.before az Z = true) : (Jvm.Cond.code ({ cls := "com/example/headlattice/headlattice/learn/Coverage", name := "settle", desc := "(II)V" } : Jvm.MethodName) prog_21_method_11_code (4 : Nat) (Option.none : Option Jvm.ClassFile.FieldType)).before az Z = true := hw _ (List.mem_of_getElem? (i := 61) rfl)
theorem w62 {Z : State} {az : Array Value} (hw : ∀ d ∈ tables_1, d.before az Z = true) : (Jvm.Cond.methodLink "com/example/headlattice/headlattice/learn/Coverage" (98 : Nat) ({ cls := "com/example/headlattice/headlattice/learn/Coverage", name := "checkLabel", desc := "(I)V" } : Jvm.MethodName)).before az Z = true := hw _ (List.mem_of_getElem? (i := 62) rfl)
theorem w63 {Z : State} {az : Array Value} (hw : ∀ d ∈ tables_1, d.before az Z = true) : (Jvm.Cond.declares ({ cls := "com/example/headlattice/headlattice/learn/Coverage", name := "checkLabel", desc := "(I)V" } : Jvm.MethodName)).before az Z = true := hw _ (List.mem_of_getElem? (i := 63) rfl)
theorem w64 {Z : State} {az : Array Value} (hw : ∀ d ∈ tables_1, d.before az Z = true) : (Jvm.Cond.instanceMethod ({ cls := "com/example/headlattice/headlattice/learn/Coverage", name := "checkLabel", desc := "(I)V" } : Jvm.MethodName)).before az Z = true := hw _ (List.mem_of_getElem? (i := 64) rfl)
theorem w65 {Z : State} {az : Array Value} (hw : ∀ d ∈ tables_1, d.before az Z = true) : (Jvm.Cond.selects "com/example/headlattice/headlattice/learn/Coverage" ({ cls := "com/example/headlattice/headlattice/learn/Coverage", name := "checkLabel", desc := "(I)V" } : Jvm.MethodName) ({ cls := "com/example/headlattice/headlattice/learn/Coverage", name := "checkLabel", desc := "(I)V" } : Jvm.MethodName)).before az Z = true := hw _ (List.mem_of_getElem? (i := 65) rfl)
theorem w66 {Z : State} {az : Array Value} (hw : ∀ d ∈ tables_1, d.before az Z = true) : (Jvm.Cond.code ({ cls := "com/example/headlattice/headlattice/learn/Coverage", name := "checkLabel", desc := "(I)V" } : Jvm.MethodName) prog_21_method_24_code (2 : Nat) (Option.none : Option Jvm.ClassFile.FieldType)).before az Z = true := hw _ (List.mem_of_getElem? (i := 66) rfl)
theorem w67 {Z : State} {az : Array Value} (hw : ∀ d ∈ tables_1, d.before az Z = true) : (Jvm.Cond.methodLink "com/example/headlattice/headlattice/learn/Coverage" (77 : Nat) ({ cls := "com/example/headlattice/headlattice/learn/Coverage", name := "openPairs", desc := "(I)[I" } : Jvm.MethodName)).before az Z = true := hw _ (List.mem_of_getElem? (i := 67) rfl)
theorem w68 {Z : State} {az : Array Value} (hw : ∀ d ∈ tables_1, d.before az Z = true) : (Jvm.Cond.instanceMethod ({ cls := "com/example/headlattice/headlattice/learn/Coverage", name := "openPairs", desc := "(I)[I" } : Jvm.MethodName)).before az Z = true := hw _ (List.mem_of_getElem? (i := 68) rfl)
theorem w69 {Z : State} {az : Array Value} (hw : ∀ d ∈ tables_1, d.before az Z = true) : (Jvm.Cond.privateMethod ({ cls := "com/example/headlattice/headlattice/learn/Coverage", name := "openPairs", desc := "(I)[I" } : Jvm.MethodName)).before az Z = true := hw _ (List.mem_of_getElem? (i := 69) rfl)
theorem w70 {Z : State} {az : Array Value} (hw : ∀ d ∈ tables_1, d.before az Z = true) : (Jvm.Cond.code ({ cls := "com/example/headlattice/headlattice/learn/Coverage", name := "openPairs", desc := "(I)[I" } : Jvm.MethodName) prog_21_method_22_code (2 : Nat) (Option.some (Jvm.ClassFile.FieldType.array Jvm.ClassFile.FieldType.int))).before az Z = true := hw _ (List.mem_of_getElem? (i := 70) rfl)
theorem w71 {Z : State} {az : Array Value} (hw : ∀ d ∈ tables_1, d.before az Z = true) : (Jvm.Cond.methodLink "com/example/headlattice/headlattice/learn/Coverage" (80 : Nat) ({ cls := "com/example/headlattice/headlattice/learn/Coverage", name := "checkRow", desc := "(I)V" } : Jvm.MethodName)).before az Z = true := hw _ (List.mem_of_getElem? (i := 71) rfl)
theorem w72 {Z : State} {az : Array Value} (hw : ∀ d ∈ tables_1, d.before az Z = true) : (Jvm.Cond.instanceMethod ({ cls := "com/example/headlattice/headlattice/learn/Coverage", name := "checkRow", desc := "(I)V" } : Jvm.MethodName)).before az Z = true := hw _ (List.mem_of_getElem? (i := 72) rfl)
theorem w73 {Z : State} {az : Array Value} (hw : ∀ d ∈ tables_1, d.before az Z = true) : (Jvm.Cond.privateMethod ({ cls := "com/example/headlattice/headlattice/learn/Coverage", name := "checkRow", desc := "(I)V" } : Jvm.MethodName)).before az Z = true := hw _ (List.mem_of_getElem? (i := 73) rfl)
theorem w74 {Z : State} {az : Array Value} (hw : ∀ d ∈ tables_1, d.before az Z = true) : (Jvm.Cond.code ({ cls := "com/example/headlattice/headlattice/learn/Coverage", name := "checkRow", desc := "(I)V" } : Jvm.MethodName) prog_21_method_23_code (2 : Nat) (Option.none : Option Jvm.ClassFile.FieldType)).before az Z = true := hw _ (List.mem_of_getElem? (i := 74) rfl)
theorem w75 {Z : State} {az : Array Value} (hw : ∀ d ∈ tables_1, d.before az Z = true) : (Jvm.Cond.methodLink "com/example/headlattice/headlattice/learn/Coverage" (101 : Nat) ({ cls := "com/example/headlattice/headlattice/learn/Coverage", name := "settle", desc := "([II[Z)V" } : Jvm.MethodName)).before az Z = true := hw _ (List.mem_of_getElem? (i := 75) rfl)
theorem w76 {Z : State} {az : Array Value} (hw : ∀ d ∈ tables_1, d.before az Z = true) : (Jvm.Cond.instanceMethod ({ cls := "com/example/headlattice/headlattice/learn/Coverage", name := "settle", desc := "([II[Z)V" } : Jvm.MethodName)).before az Z = true := hw _ (List.mem_of_getElem? (i := 76) rfl)
theorem w77 {Z : State} {az : Array Value} (hw : ∀ d ∈ tables_1, d.before az Z = true) : (Jvm.Cond.privateMethod ({ cls := "com/example/headlattice/headlattice/learn/Coverage", name := "settle", desc := "([II[Z)V" } : Jvm.MethodName)).before az Z = true := hw _ (List.mem_of_getElem? (i := 77) rfl)
theorem w78 {Z : State} {az : Array Value} (hw : ∀ d ∈ tables_1, d.before az Z = true) : (Jvm.Cond.code ({ cls := "com/example/headlattice/headlattice/learn/Coverage", name := "settle", desc := "([II[Z)V" } : Jvm.MethodName) prog_21_method_13_code (10 : Nat) (Option.none : Option Jvm.ClassFile.FieldType)).before az Z = true := hw _ (List.mem_of_getElem? (i := 78) rfl)
theorem w79 {Z : State} {az : Array Value} (hw : ∀ d ∈ tables_1, d.before az Z = true) : (Jvm.Cond.methodLink "com/example/headlattice/headlattice/learn/Coverage" (126 : Nat) ({ cls := "java/util/Arrays", name := "copyOf", desc := "([II)[I" } : Jvm.MethodName)).before az Z = true := hw _ (List.mem_of_getElem? (i := 79) rfl)
theorem w80 {Z : State} {az : Array Value} (hw : ∀ d ∈ tables_1, d.before az Z = true) : (Jvm.Cond.static ({ cls := "java/util/Arrays", name := "copyOf", desc := "([II)[I" } : Jvm.MethodName)).before az Z = true := hw _ (List.mem_of_getElem? (i := 80) rfl)
theorem w81 {Z : State} {az : Array Value} (hw : ∀ d ∈ tables_1, d.before az Z = true) : (Jvm.Cond.initialized "java/util/Arrays").before az Z = true := hw _ (List.mem_of_getElem? (i := 81) rfl)
theorem w82 {Z : State} {az : Array Value} (hw : ∀ d ∈ tables_1, d.before az Z = true) : (Jvm.Cond.code ({ cls := "java/util/Arrays", name := "copyOf", desc := "([II)[I" } : Jvm.MethodName) jdk_65_method_123_code (3 : Nat) (Option.some (Jvm.ClassFile.FieldType.array Jvm.ClassFile.FieldType.int))).before az Z = true := hw _ (List.mem_of_getElem? (i := 82) rfl)
theorem w83 {Z : State} {az : Array Value} (hw : ∀ d ∈ tables_1, d.before az Z = true) : (Jvm.Cond.methodLink "java/util/Arrays" (304 : Nat) ({ cls := "java/lang/Math", name := "min", desc := "(II)I" } : Jvm.MethodName)).before az Z = true := hw _ (List.mem_of_getElem? (i := 83) rfl)
theorem w84 {Z : State} {az : Array Value} (hw : ∀ d ∈ tables_1, d.before az Z = true) : (Jvm.Cond.static ({ cls := "java/lang/Math", name := "min", desc := "(II)I" } : Jvm.MethodName)).before az Z = true := hw _ (List.mem_of_getElem? (i := 84) rfl)
theorem w85 {Z : State} {az : Array Value} (hw : ∀ d ∈ tables_1, d.before az Z = true) : (Jvm.Cond.initialized "java/lang/Math").before az Z = true := hw _ (List.mem_of_getElem? (i := 85) rfl)
theorem w86 {Z : State} {az : Array Value} (hw : ∀ d ∈ tables_1, d.before az Z = true) : (Jvm.Cond.code ({ cls := "java/lang/Math", name := "min", desc := "(II)I" } : Jvm.MethodName) jdk_29_method_69_code (2 : Nat) (Option.some Jvm.ClassFile.FieldType.int)).before az Z = true := hw _ (List.mem_of_getElem? (i := 86) rfl)
theorem w87 {Z : State} {az : Array Value} (hw : ∀ d ∈ tables_1, d.before az Z = true) : (Jvm.Cond.methodLink "java/util/Arrays" (150 : Nat) ({ cls := "java/lang/System", name := "arraycopy", desc := "(Ljava/lang/Object;ILjava/lang/Object;II)V" } : Jvm.MethodName)).before az Z = true := hw _ (List.mem_of_getElem? (i := 87) rfl)
theorem w88 {Z : State} {az : Array Value} (hw : ∀ d ∈ tables_1, d.before az Z = true) : (Jvm.Cond.static ({ cls := "java/lang/System", name := "arraycopy", desc := "(Ljava/lang/Object;ILjava/lang/Object;II)V" } : Jvm.MethodName)).before az Z = true := hw _ (List.mem_of_getElem? (i := 88) rfl)
theorem w89 {Z : State} {az : Array Value} (hw : ∀ d ∈ tables_1, d.before az Z = true) : (Jvm.Cond.initialized "java/lang/System").before az Z = true := hw _ (List.mem_of_getElem? (i := 89) rfl)
theorem w90 {Z : State} {az : Array Value} (hw : ∀ d ∈ tables_1, d.before az Z = true) : (Jvm.Cond.native ({ cls := "java/lang/System", name := "arraycopy", desc := "(Ljava/lang/Object;ILjava/lang/Object;II)V" } : Jvm.MethodName)).before az Z = true := hw _ (List.mem_of_getElem? (i := 90) rfl)
theorem d1_0 : decode prog_21_method_1_code 0 = .ok (.aload_n 0, 1) := by decide +kernel
theorem d1_1 : decode prog_21_method_1_code 1 = .ok (.invokespecial 1, 3) := by decide +kernel
theorem d1_4 : decode prog_21_method_1_code 4 = .ok (.iload_n 1, 1) := by decide +kernel
theorem d1_5 : decode prog_21_method_1_code 5 = .ok (.iconst 1, 1) := by decide +kernel
theorem d1_6 : decode prog_21_method_1_code 6 = .ok (.if_icmp .ge 17, 3) := by decide +kernel
theorem d1_23 : decode prog_21_method_1_code 23 = .ok (.aload_n 0, 1) := by decide +kernel
theorem d1_24 : decode prog_21_method_1_code 24 = .ok (.iload_n 1, 1) := by decide +kernel
theorem d1_25 : decode prog_21_method_1_code 25 = .ok (.putfield 16, 3) := by decide +kernel
theorem d1_28 : decode prog_21_method_1_code 28 = .ok (.aload_n 0, 1) := by decide +kernel
theorem d1_29 : decode prog_21_method_1_code 29 = .ok (.bipush 8, 2) := by decide +kernel
theorem d1_31 : decode prog_21_method_1_code 31 = .ok (.anewarray 22, 3) := by decide +kernel
theorem d1_34 : decode prog_21_method_1_code 34 = .ok (.putfield 24, 3) := by decide +kernel
theorem sl_0 {Z : State} {az : Array Value} (hw : ∀ d ∈ tables_1, d.before az Z = true) : Jvm.RoadKit.slotOf Z cCV "openPairs" "[[I" ≠ Jvm.RoadKit.slotOf Z cCV "labelCount" "I" := slot_ne (Z := Z) (Or.inl (w14 hw)) (Or.inr (w10 hw)) (by decide) (t := (.array (.array .int))) (t' := .int) (by decide) (by decide)
theorem d1_37 : decode prog_21_method_1_code 37 = .ok (.aload_n 0, 1) := by decide +kernel
theorem d1_38 : decode prog_21_method_1_code 38 = .ok (.bipush 8, 2) := by decide +kernel
theorem d1_40 : decode prog_21_method_1_code 40 = .ok (.newarray .boolean, 2) := by decide +kernel
theorem d1_42 : decode prog_21_method_1_code 42 = .ok (.putfield 28, 3) := by decide +kernel
theorem sl_1 {Z : State} {az : Array Value} (hw : ∀ d ∈ tables_1, d.before az Z = true) : Jvm.RoadKit.slotOf Z cCV "covered" "[Z" ≠ Jvm.RoadKit.slotOf Z cCV "labelCount" "I" := slot_ne (Z := Z) (Or.inl (w17 hw)) (Or.inr (w10 hw)) (by decide) (t := (.array .boolean)) (t' := .int) (by decide) (by decide)
theorem sl_2 {Z : State} {az : Array Value} (hw : ∀ d ∈ tables_1, d.before az Z = true) : Jvm.RoadKit.slotOf Z cCV "covered" "[Z" ≠ Jvm.RoadKit.slotOf Z cCV "openPairs" "[[I" := slot_ne (Z := Z) (Or.inl (w17 hw)) (Or.inl (w14 hw)) (by decide) (t := (.array .boolean)) (t' := (.array (.array .int))) (by decide) (by decide)
theorem d1_45 : decode prog_21_method_1_code 45 = .ok (.aload_n 0, 1) := by decide +kernel
theorem d1_46 : decode prog_21_method_1_code 46 = .ok (.iconst 2, 1) := by decide +kernel
theorem d1_47 : decode prog_21_method_1_code 47 = .ok (.iload_n 1, 1) := by decide +kernel
theorem d1_48 : decode prog_21_method_1_code 48 = .ok (.imul, 1) := by decide +kernel
theorem d1_49 : decode prog_21_method_1_code 49 = .ok (.newarray .int, 2) := by decide +kernel
theorem d1_51 : decode prog_21_method_1_code 51 = .ok (.putfield 32, 3) := by decide +kernel
theorem sl_3 {Z : State} {az : Array Value} (hw : ∀ d ∈ tables_1, d.before az Z = true) : Jvm.RoadKit.slotOf Z cCV "coveredCounts" "[I" ≠ Jvm.RoadKit.slotOf Z cCV "labelCount" "I" := slot_ne (Z := Z) (Or.inr (w20 hw)) (Or.inr (w10 hw)) (by decide) (t := (.array .int)) (t' := .int) (by decide) (by decide)
theorem sl_4 {Z : State} {az : Array Value} (hw : ∀ d ∈ tables_1, d.before az Z = true) : Jvm.RoadKit.slotOf Z cCV "coveredCounts" "[I" ≠ Jvm.RoadKit.slotOf Z cCV "openPairs" "[[I" := slot_ne (Z := Z) (Or.inr (w20 hw)) (Or.inl (w14 hw)) (by decide) (t := (.array .int)) (t' := (.array (.array .int))) (by decide) (by decide)
theorem sl_5 {Z : State} {az : Array Value} (hw : ∀ d ∈ tables_1, d.before az Z = true) : Jvm.RoadKit.slotOf Z cCV "coveredCounts" "[I" ≠ Jvm.RoadKit.slotOf Z cCV "covered" "[Z" := slot_ne (Z := Z) (Or.inr (w20 hw)) (Or.inl (w17 hw)) (by decide) (t := (.array .int)) (t' := (.array .boolean)) (by decide) (by decide)
theorem d1_54 : decode prog_21_method_1_code 54 = .ok (.aload_n 0, 1) := by decide +kernel
theorem d1_55 : decode prog_21_method_1_code 55 = .ok (.iconst 2, 1) := by decide +kernel
theorem d1_56 : decode prog_21_method_1_code 56 = .ok (.iload_n 1, 1) := by decide +kernel
theorem d1_57 : decode prog_21_method_1_code 57 = .ok (.imul, 1) := by decide +kernel
theorem d1_58 : decode prog_21_method_1_code 58 = .ok (.newarray .int, 2) := by decide +kernel
theorem d1_60 : decode prog_21_method_1_code 60 = .ok (.putfield 35, 3) := by decide +kernel
theorem sl_6 {Z : State} {az : Array Value} (hw : ∀ d ∈ tables_1, d.before az Z = true) : Jvm.RoadKit.slotOf Z cCV "openCounts" "[I" ≠ Jvm.RoadKit.slotOf Z cCV "labelCount" "I" := slot_ne (Z := Z) (Or.inr (w22 hw)) (Or.inr (w10 hw)) (by decide) (t := (.array .int)) (t' := .int) (by decide) (by decide)
theorem sl_7 {Z : State} {az : Array Value} (hw : ∀ d ∈ tables_1, d.before az Z = true) : Jvm.RoadKit.slotOf Z cCV "openCounts" "[I" ≠ Jvm.RoadKit.slotOf Z cCV "openPairs" "[[I" := slot_ne (Z := Z) (Or.inr (w22 hw)) (Or.inl (w14 hw)) (by decide) (t := (.array .int)) (t' := (.array (.array .int))) (by decide) (by decide)
theorem sl_8 {Z : State} {az : Array Value} (hw : ∀ d ∈ tables_1, d.before az Z = true) : Jvm.RoadKit.slotOf Z cCV "openCounts" "[I" ≠ Jvm.RoadKit.slotOf Z cCV "covered" "[Z" := slot_ne (Z := Z) (Or.inr (w22 hw)) (Or.inl (w17 hw)) (by decide) (t := (.array .int)) (t' := (.array .boolean)) (by decide) (by decide)
theorem sl_9 {Z : State} {az : Array Value} (hw : ∀ d ∈ tables_1, d.before az Z = true) : Jvm.RoadKit.slotOf Z cCV "openCounts" "[I" ≠ Jvm.RoadKit.slotOf Z cCV "coveredCounts" "[I" := slot_ne (Z := Z) (Or.inr (w22 hw)) (Or.inr (w20 hw)) (by decide) (t := (.array .int)) (t' := (.array .int)) (by decide) (by decide)
theorem d1_63 : decode prog_21_method_1_code 63 = .ok (.aload_n 0, 1) := by decide +kernel
theorem d1_64 : decode prog_21_method_1_code 64 = .ok (.iload_n 1, 1) := by decide +kernel
theorem d1_65 : decode prog_21_method_1_code 65 = .ok (.newarray .int, 2) := by decide +kernel
theorem d1_67 : decode prog_21_method_1_code 67 = .ok (.putfield 38, 3) := by decide +kernel
theorem sl_10 {Z : State} {az : Array Value} (hw : ∀ d ∈ tables_1, d.before az Z = true) : Jvm.RoadKit.slotOf Z cCV "ones" "[I" ≠ Jvm.RoadKit.slotOf Z cCV "labelCount" "I" := slot_ne (Z := Z) (Or.inr (w24 hw)) (Or.inr (w10 hw)) (by decide) (t := (.array .int)) (t' := .int) (by decide) (by decide)
theorem sl_11 {Z : State} {az : Array Value} (hw : ∀ d ∈ tables_1, d.before az Z = true) : Jvm.RoadKit.slotOf Z cCV "ones" "[I" ≠ Jvm.RoadKit.slotOf Z cCV "openPairs" "[[I" := slot_ne (Z := Z) (Or.inr (w24 hw)) (Or.inl (w14 hw)) (by decide) (t := (.array .int)) (t' := (.array (.array .int))) (by decide) (by decide)
theorem sl_12 {Z : State} {az : Array Value} (hw : ∀ d ∈ tables_1, d.before az Z = true) : Jvm.RoadKit.slotOf Z cCV "ones" "[I" ≠ Jvm.RoadKit.slotOf Z cCV "covered" "[Z" := slot_ne (Z := Z) (Or.inr (w24 hw)) (Or.inl (w17 hw)) (by decide) (t := (.array .int)) (t' := (.array .boolean)) (by decide) (by decide)
theorem sl_13 {Z : State} {az : Array Value} (hw : ∀ d ∈ tables_1, d.before az Z = true) : Jvm.RoadKit.slotOf Z cCV "ones" "[I" ≠ Jvm.RoadKit.slotOf Z cCV "coveredCounts" "[I" := slot_ne (Z := Z) (Or.inr (w24 hw)) (Or.inr (w20 hw)) (by decide) (t := (.array .int)) (t' := (.array .int)) (by decide) (by decide)
theorem sl_14 {Z : State} {az : Array Value} (hw : ∀ d ∈ tables_1, d.before az Z = true) : Jvm.RoadKit.slotOf Z cCV "ones" "[I" ≠ Jvm.RoadKit.slotOf Z cCV "openCounts" "[I" := slot_ne (Z := Z) (Or.inr (w24 hw)) (Or.inr (w22 hw)) (by decide) (t := (.array .int)) (t' := (.array .int)) (by decide) (by decide)
theorem d1_70 : decode prog_21_method_1_code 70 = .ok (.return_, 1) := by decide +kernel
theorem sl_15 {Z : State} {az : Array Value} (hw : ∀ d ∈ tables_1, d.before az Z = true) : Jvm.RoadKit.slotOf Z cCV "labelCount" "I" ≠ Jvm.RoadKit.slotOf Z cCV "openPairs" "[[I" := slot_ne (Z := Z) (Or.inr (w10 hw)) (Or.inl (w14 hw)) (by decide) (t := .int) (t' := (.array (.array .int))) (by decide) (by decide)
theorem sl_16 {Z : State} {az : Array Value} (hw : ∀ d ∈ tables_1, d.before az Z = true) : Jvm.RoadKit.slotOf Z cCV "labelCount" "I" ≠ Jvm.RoadKit.slotOf Z cCV "covered" "[Z" := slot_ne (Z := Z) (Or.inr (w10 hw)) (Or.inl (w17 hw)) (by decide) (t := .int) (t' := (.array .boolean)) (by decide) (by decide)
theorem sl_17 {Z : State} {az : Array Value} (hw : ∀ d ∈ tables_1, d.before az Z = true) : Jvm.RoadKit.slotOf Z cCV "labelCount" "I" ≠ Jvm.RoadKit.slotOf Z cCV "coveredCounts" "[I" := slot_ne (Z := Z) (Or.inr (w10 hw)) (Or.inr (w20 hw)) (by decide) (t := .int) (t' := (.array .int)) (by decide) (by decide)
theorem sl_18 {Z : State} {az : Array Value} (hw : ∀ d ∈ tables_1, d.before az Z = true) : Jvm.RoadKit.slotOf Z cCV "labelCount" "I" ≠ Jvm.RoadKit.slotOf Z cCV "openCounts" "[I" := slot_ne (Z := Z) (Or.inr (w10 hw)) (Or.inr (w22 hw)) (by decide) (t := .int) (t' := (.array .int)) (by decide) (by decide)
theorem sl_19 {Z : State} {az : Array Value} (hw : ∀ d ∈ tables_1, d.before az Z = true) : Jvm.RoadKit.slotOf Z cCV "labelCount" "I" ≠ Jvm.RoadKit.slotOf Z cCV "ones" "[I" := slot_ne (Z := Z) (Or.inr (w10 hw)) (Or.inr (w24 hw)) (by decide) (t := .int) (t' := (.array .int)) (by decide) (by decide)
theorem sl_20 {Z : State} {az : Array Value} (hw : ∀ d ∈ tables_1, d.before az Z = true) : Jvm.RoadKit.slotOf Z cCV "openPairs" "[[I" ≠ Jvm.RoadKit.slotOf Z cCV "covered" "[Z" := slot_ne (Z := Z) (Or.inl (w14 hw)) (Or.inl (w17 hw)) (by decide) (t := (.array (.array .int))) (t' := (.array .boolean)) (by decide) (by decide)
theorem sl_21 {Z : State} {az : Array Value} (hw : ∀ d ∈ tables_1, d.before az Z = true) : Jvm.RoadKit.slotOf Z cCV "openPairs" "[[I" ≠ Jvm.RoadKit.slotOf Z cCV "coveredCounts" "[I" := slot_ne (Z := Z) (Or.inl (w14 hw)) (Or.inr (w20 hw)) (by decide) (t := (.array (.array .int))) (t' := (.array .int)) (by decide) (by decide)
theorem sl_22 {Z : State} {az : Array Value} (hw : ∀ d ∈ tables_1, d.before az Z = true) : Jvm.RoadKit.slotOf Z cCV "openPairs" "[[I" ≠ Jvm.RoadKit.slotOf Z cCV "openCounts" "[I" := slot_ne (Z := Z) (Or.inl (w14 hw)) (Or.inr (w22 hw)) (by decide) (t := (.array (.array .int))) (t' := (.array .int)) (by decide) (by decide)
theorem sl_23 {Z : State} {az : Array Value} (hw : ∀ d ∈ tables_1, d.before az Z = true) : Jvm.RoadKit.slotOf Z cCV "openPairs" "[[I" ≠ Jvm.RoadKit.slotOf Z cCV "ones" "[I" := slot_ne (Z := Z) (Or.inl (w14 hw)) (Or.inr (w24 hw)) (by decide) (t := (.array (.array .int))) (t' := (.array .int)) (by decide) (by decide)
theorem sl_24 {Z : State} {az : Array Value} (hw : ∀ d ∈ tables_1, d.before az Z = true) : Jvm.RoadKit.slotOf Z cCV "covered" "[Z" ≠ Jvm.RoadKit.slotOf Z cCV "coveredCounts" "[I" := slot_ne (Z := Z) (Or.inl (w17 hw)) (Or.inr (w20 hw)) (by decide) (t := (.array .boolean)) (t' := (.array .int)) (by decide) (by decide)
theorem sl_25 {Z : State} {az : Array Value} (hw : ∀ d ∈ tables_1, d.before az Z = true) : Jvm.RoadKit.slotOf Z cCV "covered" "[Z" ≠ Jvm.RoadKit.slotOf Z cCV "openCounts" "[I" := slot_ne (Z := Z) (Or.inl (w17 hw)) (Or.inr (w22 hw)) (by decide) (t := (.array .boolean)) (t' := (.array .int)) (by decide) (by decide)
theorem sl_26 {Z : State} {az : Array Value} (hw : ∀ d ∈ tables_1, d.before az Z = true) : Jvm.RoadKit.slotOf Z cCV "covered" "[Z" ≠ Jvm.RoadKit.slotOf Z cCV "ones" "[I" := slot_ne (Z := Z) (Or.inl (w17 hw)) (Or.inr (w24 hw)) (by decide) (t := (.array .boolean)) (t' := (.array .int)) (by decide) (by decide)
theorem sl_27 {Z : State} {az : Array Value} (hw : ∀ d ∈ tables_1, d.before az Z = true) : Jvm.RoadKit.slotOf Z cCV "coveredCounts" "[I" ≠ Jvm.RoadKit.slotOf Z cCV "openCounts" "[I" := slot_ne (Z := Z) (Or.inr (w20 hw)) (Or.inr (w22 hw)) (by decide) (t := (.array .int)) (t' := (.array .int)) (by decide) (by decide)
theorem sl_28 {Z : State} {az : Array Value} (hw : ∀ d ∈ tables_1, d.before az Z = true) : Jvm.RoadKit.slotOf Z cCV "coveredCounts" "[I" ≠ Jvm.RoadKit.slotOf Z cCV "ones" "[I" := slot_ne (Z := Z) (Or.inr (w20 hw)) (Or.inr (w24 hw)) (by decide) (t := (.array .int)) (t' := (.array .int)) (by decide) (by decide)
theorem sl_29 {Z : State} {az : Array Value} (hw : ∀ d ∈ tables_1, d.before az Z = true) : Jvm.RoadKit.slotOf Z cCV "openCounts" "[I" ≠ Jvm.RoadKit.slotOf Z cCV "ones" "[I" := slot_ne (Z := Z) (Or.inr (w22 hw)) (Or.inr (w24 hw)) (by decide) (t := (.array .int)) (t' := (.array .int)) (by decide) (by decide)
theorem sl_30 {Z : State} {az : Array Value} (hw : ∀ d ∈ tables_1, d.before az Z = true) : Jvm.RoadKit.slotOf Z cCV "rowCount" "I" ≠ Jvm.RoadKit.slotOf Z cCV "labelCount" "I" := slot_ne (Z := Z) (Or.inl (w41 hw)) (Or.inr (w10 hw)) (by decide) (t := .int) (t' := .int) (by decide) (by decide)
theorem sl_31 {Z : State} {az : Array Value} (hw : ∀ d ∈ tables_1, d.before az Z = true) : Jvm.RoadKit.slotOf Z cCV "rowCount" "I" ≠ Jvm.RoadKit.slotOf Z cCV "openPairs" "[[I" := slot_ne (Z := Z) (Or.inl (w41 hw)) (Or.inl (w14 hw)) (by decide) (t := .int) (t' := (.array (.array .int))) (by decide) (by decide)
theorem sl_32 {Z : State} {az : Array Value} (hw : ∀ d ∈ tables_1, d.before az Z = true) : Jvm.RoadKit.slotOf Z cCV "rowCount" "I" ≠ Jvm.RoadKit.slotOf Z cCV "covered" "[Z" := slot_ne (Z := Z) (Or.inl (w41 hw)) (Or.inl (w17 hw)) (by decide) (t := .int) (t' := (.array .boolean)) (by decide) (by decide)
theorem sl_33 {Z : State} {az : Array Value} (hw : ∀ d ∈ tables_1, d.before az Z = true) : Jvm.RoadKit.slotOf Z cCV "rowCount" "I" ≠ Jvm.RoadKit.slotOf Z cCV "coveredCounts" "[I" := slot_ne (Z := Z) (Or.inl (w41 hw)) (Or.inr (w20 hw)) (by decide) (t := .int) (t' := (.array .int)) (by decide) (by decide)
theorem sl_34 {Z : State} {az : Array Value} (hw : ∀ d ∈ tables_1, d.before az Z = true) : Jvm.RoadKit.slotOf Z cCV "rowCount" "I" ≠ Jvm.RoadKit.slotOf Z cCV "openCounts" "[I" := slot_ne (Z := Z) (Or.inl (w41 hw)) (Or.inr (w22 hw)) (by decide) (t := .int) (t' := (.array .int)) (by decide) (by decide)
theorem sl_35 {Z : State} {az : Array Value} (hw : ∀ d ∈ tables_1, d.before az Z = true) : Jvm.RoadKit.slotOf Z cCV "rowCount" "I" ≠ Jvm.RoadKit.slotOf Z cCV "ones" "[I" := slot_ne (Z := Z) (Or.inl (w41 hw)) (Or.inr (w24 hw)) (by decide) (t := .int) (t' := (.array .int)) (by decide) (by decide)
theorem sl_36 {Z : State} {az : Array Value} (hw : ∀ d ∈ tables_1, d.before az Z = true) : Jvm.RoadKit.slotOf Z cCV "pairsShared" "Z" ≠ Jvm.RoadKit.slotOf Z cCV "labelCount" "I" := slot_ne (Z := Z) (Or.inl (w53 hw)) (Or.inr (w10 hw)) (by decide) (t := .boolean) (t' := .int) (by decide) (by decide)
theorem sl_37 {Z : State} {az : Array Value} (hw : ∀ d ∈ tables_1, d.before az Z = true) : Jvm.RoadKit.slotOf Z cCV "pairsShared" "Z" ≠ Jvm.RoadKit.slotOf Z cCV "openPairs" "[[I" := slot_ne (Z := Z) (Or.inl (w53 hw)) (Or.inl (w14 hw)) (by decide) (t := .boolean) (t' := (.array (.array .int))) (by decide) (by decide)
theorem sl_38 {Z : State} {az : Array Value} (hw : ∀ d ∈ tables_1, d.before az Z = true) : Jvm.RoadKit.slotOf Z cCV "pairsShared" "Z" ≠ Jvm.RoadKit.slotOf Z cCV "covered" "[Z" := slot_ne (Z := Z) (Or.inl (w53 hw)) (Or.inl (w17 hw)) (by decide) (t := .boolean) (t' := (.array .boolean)) (by decide) (by decide)
theorem sl_39 {Z : State} {az : Array Value} (hw : ∀ d ∈ tables_1, d.before az Z = true) : Jvm.RoadKit.slotOf Z cCV "pairsShared" "Z" ≠ Jvm.RoadKit.slotOf Z cCV "coveredCounts" "[I" := slot_ne (Z := Z) (Or.inl (w53 hw)) (Or.inr (w20 hw)) (by decide) (t := .boolean) (t' := (.array .int)) (by decide) (by decide)
theorem sl_40 {Z : State} {az : Array Value} (hw : ∀ d ∈ tables_1, d.before az Z = true) : Jvm.RoadKit.slotOf Z cCV "pairsShared" "Z" ≠ Jvm.RoadKit.slotOf Z cCV "openCounts" "[I" := slot_ne (Z := Z) (Or.inl (w53 hw)) (Or.inr (w22 hw)) (by decide) (t := .boolean) (t' := (.array .int)) (by decide) (by decide)
theorem sl_41 {Z : State} {az : Array Value} (hw : ∀ d ∈ tables_1, d.before az Z = true) : Jvm.RoadKit.slotOf Z cCV "pairsShared" "Z" ≠ Jvm.RoadKit.slotOf Z cCV "ones" "[I" := slot_ne (Z := Z) (Or.inl (w53 hw)) (Or.inr (w24 hw)) (by decide) (t := .boolean) (t' := (.array .int)) (by decide) (by decide)
theorem sl_42 {Z : State} {az : Array Value} (hw : ∀ d ∈ tables_1, d.before az Z = true) : Jvm.RoadKit.slotOf Z cCV "remainingCount" "I" ≠ Jvm.RoadKit.slotOf Z cCV "labelCount" "I" := slot_ne (Z := Z) (Or.inl (w55 hw)) (Or.inr (w10 hw)) (by decide) (t := .int) (t' := .int) (by decide) (by decide)
theorem sl_43 {Z : State} {az : Array Value} (hw : ∀ d ∈ tables_1, d.before az Z = true) : Jvm.RoadKit.slotOf Z cCV "remainingCount" "I" ≠ Jvm.RoadKit.slotOf Z cCV "openPairs" "[[I" := slot_ne (Z := Z) (Or.inl (w55 hw)) (Or.inl (w14 hw)) (by decide) (t := .int) (t' := (.array (.array .int))) (by decide) (by decide)
theorem sl_44 {Z : State} {az : Array Value} (hw : ∀ d ∈ tables_1, d.before az Z = true) : Jvm.RoadKit.slotOf Z cCV "remainingCount" "I" ≠ Jvm.RoadKit.slotOf Z cCV "covered" "[Z" := slot_ne (Z := Z) (Or.inl (w55 hw)) (Or.inl (w17 hw)) (by decide) (t := .int) (t' := (.array .boolean)) (by decide) (by decide)
theorem sl_45 {Z : State} {az : Array Value} (hw : ∀ d ∈ tables_1, d.before az Z = true) : Jvm.RoadKit.slotOf Z cCV "remainingCount" "I" ≠ Jvm.RoadKit.slotOf Z cCV "coveredCounts" "[I" := slot_ne (Z := Z) (Or.inl (w55 hw)) (Or.inr (w20 hw)) (by decide) (t := .int) (t' := (.array .int)) (by decide) (by decide)
theorem sl_46 {Z : State} {az : Array Value} (hw : ∀ d ∈ tables_1, d.before az Z = true) : Jvm.RoadKit.slotOf Z cCV "remainingCount" "I" ≠ Jvm.RoadKit.slotOf Z cCV "openCounts" "[I" := slot_ne (Z := Z) (Or.inl (w55 hw)) (Or.inr (w22 hw)) (by decide) (t := .int) (t' := (.array .int)) (by decide) (by decide)
theorem sl_47 {Z : State} {az : Array Value} (hw : ∀ d ∈ tables_1, d.before az Z = true) : Jvm.RoadKit.slotOf Z cCV "remainingCount" "I" ≠ Jvm.RoadKit.slotOf Z cCV "ones" "[I" := slot_ne (Z := Z) (Or.inl (w55 hw)) (Or.inr (w24 hw)) (by decide) (t := .int) (t' := (.array .int)) (by decide) (by decide)
theorem pn_com_example_headlattice_headlattice_learn_Coverage : plainName "com/example/headlattice/headlattice/learn/Coverage" = true := by first | (simp [plainName, overriddenIn]; done) | decide +kernel
theorem ef_rm1 (m : MethodId) (a0 : Addr) (p1 : Int32) : entryFrame m #[(.ref a0), (.int p1)] 2 = mkF m 0 #[vR a0, vI p1] [] := by first | (simp [entryFrame, mkF, argsToLocals, Value.category]; done) | rfl
def Q1 (Z : State) (a0 : Addr) (p1 : Int32) (h0 : Heap) (n0 : Nat) (v : Option Value) (h : Heap) (L : List Loc) : Prop := ∃ r0 : Addr, ∃ r1 : Addr, ∃ r2 : Addr, ∃ r3 : Addr, ∃ r4 : Addr, ∃ rk0 : ClassId, ∃ rk1 : ClassId, ∃ rk2 : ClassId, ∃ rk3 : ClassId, ∃ rk4 : ClassId, v = none ∧ Fr n0 L ∧ h0.size ≤ r0 ∧ r0 < r1 ∧ r1 < r2 ∧ r2 < r3 ∧ r3 < r4 ∧ Keep h0 h [a0] ∧ Exa Z h a0 cCV ∧ Fld Z h a0 cCV "labelCount" "I" (.int p1) ∧ Fld Z h a0 cCV "openPairs" "[[I" (.ref r0) ∧ Fld Z h a0 cCV "covered" "[Z" (.ref r1) ∧ Fld Z h a0 cCV "coveredCounts" "[I" (.ref r2) ∧ Fld Z h a0 cCV "openCounts" "[I" (.ref r3) ∧ Fld Z h a0 cCV "ones" "[I" (.ref r4) ∧ Fld Z h a0 cCV "rowCount" "I" (.int (0 : Int32)) ∧ Fld Z h a0 cCV "pairsShared" "Z" (.int (0 : Int32)) ∧ Fld Z h a0 cCV "remainingCount" "I" (.int (0 : Int32)) ∧ Exa Z h r0 "[[I" ∧ own_Arf Z h r0 rk0 (.array .int) (8 : Int32) (fun _ => .null) ∧ Exa Z h r1 "[Z" ∧ own_Any Z h r1 rk1 .boolean (8 : Int32) ∧ Exa Z h r2 "[I" ∧ own_Any Z h r2 rk2 .int ((2 : Int32) * p1) ∧ Exa Z h r3 "[I" ∧ own_Any Z h r3 rk3 .int ((2 : Int32) * p1) ∧ Exa Z h r4 "[I" ∧ own_Any Z h r4 rk4 .int p1 ∧ OvrA Z rk0 .int "[I"
set_option maxRecDepth 65536 in
set_option maxHeartbeats 40000000 in
theorem rm1 (l : Launch) (Z : State) (az : Array Value) (hw : ∀ d ∈ tables_1, d.before az Z = true) (ws : List Jvm.Cond) (a0 : Addr) (p1 : Int32) (h0 : Heap) (n0 : Nat) (Z0 : n0 ≤ h0.size) (E_a0 : Exa Z h0 a0 cCV) (F_labelCount_a0 : Fld Z h0 a0 cCV "labelCount" "I" (.int (0 : Int32))) (F_openPairs_a0 : Fld Z h0 a0 cCV "openPairs" "[[I" .null) (F_covered_a0 : Fld Z h0 a0 cCV "covered" "[Z" .null) (F_coveredCounts_a0 : Fld Z h0 a0 cCV "coveredCounts" "[I" .null) (F_openCounts_a0 : Fld Z h0 a0 cCV "openCounts" "[I" .null) (F_ones_a0 : Fld Z h0 a0 cCV "ones" "[I" .null) (F_rowCount_a0 : Fld Z h0 a0 cCV "rowCount" "I" (.int (0 : Int32))) (F_pairsShared_a0 : Fld Z h0 a0 cCV "pairsShared" "Z" (.int (0 : Int32))) (F_remainingCount_a0 : Fld Z h0 a0 cCV "remainingCount" "I" (.int (0 : Int32))) (hc10 : ¬ (p1 < (1 : Int32))) (g_a0 : n0 ≤ a0) (hc12 : ¬ (((2 : Int32) * p1) < (0 : Int32))) (hc13 : (((2 : Int32) * p1)).toNatClampNeg ≤ 4) (hc14 : ¬ (p1 < (0 : Int32))) (hc15 : (p1).toNatClampNeg ≤ 2) :
    MetFree l (⟨cCV, "<init>", "(I)V"⟩ : MethodName) (head1 (Jvm.Cond.code (⟨cCV, "<init>", "(I)V"⟩ : MethodName) prog_21_method_1_code 2 none :: ws) ({ frames := 1, cells := 5, slots := 26, locals := 12 } : Room)) (fun a U => a = #[(.ref a0), (.int p1)] ∧ Z.Warmed39 U.vm ∧ U.heap = h0) (fun _ _ _ _ _ => True) (fun _ U o U' => ∃ v L, o = .returned v ∧ Q1 Z a0 p1 h0 n0 v U'.heap L ∧ FrameEnd U o U' L ({ frames := 1, cells := 5, slots := 26, locals := 12 } : Room).cells ({ frames := 1, cells := 5, slots := 26, locals := 12 } : Room).slots) := by
  refine MetFree.of_bodySF (plainFor_of_name pn_com_example_headlattice_headlattice_learn_Coverage) hisR ?_
  intro p e s m args below meth c s₁ Bd hml0 hP hK
  obtain ⟨rfl, hZ, hh⟩ := hP
  have hx := Bd.exec
  have hby := Bd.bytes
  have hml : c.maxLocals = 2 := hml0
  have hown : s.vm.findClass cCV = some m.cls := findClass_of_methodNamed Bd.named
  have hnm := (name_of_methodNamed Bd.named Bd.method).1
  have X0 : Stand p l e ({ frames := 1, cells := 5, slots := 26, locals := 12 } : Room) s m #[(.ref a0), (.int p1)] below meth c s₁ [] 0 0 := Stand.of_body Bd
  have e0 : s₁.heap = h0 := by rw [← hh, Bd.state]; rfl
  have N0 := Fr.nil n0
  have pre0 : ∀ t, Steps p.tables e below (s₁.setTop (mkF m 0 #[vR a0, vI p1] [])) t → Steps p.tables e below (s₁.setTop (entryFrame m #[(.ref a0), (.int p1)] 2)) t := fun t k => castTop (ef_rm1 m a0 p1) k
  obtain ⟨T1, X1, e1, st1⟩ := initO X0 hx hZ hown (w6 hw) (w7 hw) (w8 hw) e0 (g := (mkF m 1 #[vR a0, vI p1] [(.ref a0)])) rfl (by rw [hml]; rfl) rfl (hb hby d1_1) (by decide) (W := 0) (by show 2 * 0 + _ ≤ _; exact Nat.le_of_eq rfl) (by decide)
  obtain ⟨T2, h2, X2, e2, W2, st2⟩ := putF X1 hx hZ hown (host := "") (Or.inl (w9 hw)) Via.refl e1 F_labelCount_a0 E_a0 (Or.inr ⟨(w10 hw), rfl, hnm⟩) (w1 hw) (ty := .int) (by decide) rfl rfl (g := (mkF m 25 #[vR a0, vI p1] [(.int p1), (.ref a0)])) rfl rfl (hb hby d1_25)
  have K2 : Keep h0 h2 [a0] := (Keep.refl h0 [a0]).wr W2 (Or.inl (List.mem_of_getElem? (i := 0) rfl))
  have Fw2 := F_labelCount_a0.same W2
  have Z2 : n0 ≤ h2.size := Nat.le_trans Z0 (Keep.of_wr W2).1
  obtain ⟨Lg2, X2', N2⟩ := own_gen X2 (Fr.snoc X2 N0 g_a0)
  obtain ⟨T3, h3, k3, X3, e3, E3, A3, x3, O3, st3⟩ := newRA X2' hx hZ hown (C := "[I") (ty := .int) (by decide) (w11 hw) (w12 hw) e2 (g := (mkF m 31 #[vR a0, vI p1] [(.int (8 : Int32)), (.ref a0)])) rfl (hb hby d1_31) rfl (by decide) (cap := 8) (by decide) (by decide) (by decide) (by decide) (ad := "[[I") (by decide)
  obtain ⟨b3, g3⟩ : ∃ z, z = h2.size := ⟨_, rfl⟩
  rw [← g3] at A3 x3 st3
  have g_b3 : n0 ≤ b3 := Nat.le_trans Z2 (Nat.le_of_eq g3.symm)
  have sz_b3 : h0.size ≤ b3 := Nat.le_trans K2.1 (Nat.le_of_eq g3.symm)
  have Z3 : n0 ≤ h3.size := Nat.le_trans Z2 E3.1
  have K3 : Keep h0 h3 [a0] := K2.ext E3
  have E_b3 := x3
  have V_b3 : Arv Z h3 b3 k3 (.array .int) (8 : Int32) [.null, .null, .null, .null, .null, .null, .null, .null] .null := (Arv.new A3 (by decide)).pad (pad_rep [] .null 8)
  have A_b3 : own_Arf Z h3 b3 k3 (.array .int) (8 : Int32) (fun _ => .null) := own_Arf.new A3 (by decide)
  have F_a0_openPairs_u4 : Fld Z h3 a0 cCV "openPairs" "[[I" .null := ((F_openPairs_a0.other W2 (Or.inr (sl_0 hw))).ext E3)
  have E_a0_u5 : Exa Z h3 a0 cCV := ((E_a0.wr W2).ext E3)
  obtain ⟨T6, h6, X6, e6, W6, st6⟩ := putF X3 hx hZ hown (host := "") (Or.inl (w13 hw)) Via.refl e3 F_a0_openPairs_u4 E_a0_u5 (Or.inl (w14 hw)) (w1 hw) (ty := (.array (.array .int))) (by decide) rfl rfl (g := (mkF m 34 #[vR a0, vI p1] [(.ref b3), (.ref a0)])) rfl rfl (hb hby d1_34)
  have K6 : Keep h0 h6 [a0] := K3.wr W6 (Or.inl (List.mem_of_getElem? (i := 0) rfl))
  have Fw6 := F_a0_openPairs_u4.same W6
  have Z6 : n0 ≤ h6.size := Nat.le_trans Z3 (Keep.of_wr W6).1
  obtain ⟨Lg6, X6', N6⟩ := own_gen X6 (Fr.snoc X6 N2 g_a0)
  obtain ⟨T7, h7, k7, X7, e7, E7, A7, x7, st7⟩ := newPE X6' hx hZ (aty := .boolean) (w15 hw) e6 (g := (mkF m 40 #[vR a0, vI p1] [(.int (8 : Int32)), (.ref a0)])) rfl (hb hby d1_40) rfl (by decide) (cap := 8) (by decide) (by decide) (by decide) (by decide) (ad := "[Z") (by decide)
  obtain ⟨b7, g7⟩ : ∃ z, z = h6.size := ⟨_, rfl⟩
  rw [← g7] at A7 x7 st7
  have g_b7 : n0 ≤ b7 := Nat.le_trans Z6 (Nat.le_of_eq g7.symm)
  have sz_b7 : h0.size ≤ b7 := Nat.le_trans K6.1 (Nat.le_of_eq g7.symm)
  have Z7 : n0 ≤ h7.size := Nat.le_trans Z6 E7.1
  have K7 : Keep h0 h7 [a0] := K6.ext E7
  have E_b7 := x7
  have V_b7 : Arv Z h7 b7 k7 .boolean (8 : Int32) [(.int (0 : Int32)), (.int (0 : Int32)), (.int (0 : Int32)), (.int (0 : Int32)), (.int (0 : Int32)), (.int (0 : Int32)), (.int (0 : Int32)), (.int (0 : Int32))] (.int (0 : Int32)) := (Arv.new A7 (by decide)).pad (pad_rep [] (.int (0 : Int32)) 8)
  have A_b7 : own_Any Z h7 b7 k7 .boolean (8 : Int32) := ⟨_, own_Arf.new A7 (by decide)⟩
  have c8 : Fld Z h6 a0 cCV "covered" "[Z" .null := (((F_covered_a0.other W2 (Or.inr (sl_1 hw))).ext E3).other W6 (Or.inr (sl_2 hw)))
  have F_a0_covered_u9 : Fld Z h7 a0 cCV "covered" "[Z" .null := (c8.ext E7)
  have E_a0_u10 : Exa Z h7 a0 cCV := ((E_a0_u5.wr W6).ext E7)
  obtain ⟨T11, h11, X11, e11, W11, st11⟩ := putF X7 hx hZ hown (host := "") (Or.inl (w16 hw)) Via.refl e7 F_a0_covered_u9 E_a0_u10 (Or.inl (w17 hw)) (w1 hw) (ty := (.array .boolean)) (by decide) rfl rfl (g := (mkF m 42 #[vR a0, vI p1] [(.ref b7), (.ref a0)])) rfl rfl (hb hby d1_42)
  have K11 : Keep h0 h11 [a0] := K7.wr W11 (Or.inl (List.mem_of_getElem? (i := 0) rfl))
  have Fw11 := F_a0_covered_u9.same W11
  have Z11 : n0 ≤ h11.size := Nat.le_trans Z7 (Keep.of_wr W11).1
  obtain ⟨Lg11, X11', N11⟩ := own_gen X11 (Fr.snoc X11 N6 g_a0)
  obtain ⟨T12, h12, k12, X12, e12, E12, A12, x12, st12⟩ := newPE X11' hx hZ (aty := .int) (w18 hw) e11 (g := (mkF m 49 #[vR a0, vI p1] [(.int ((2 : Int32) * p1)), (.ref a0)])) rfl (hb hby d1_49) rfl hc12 (cap := 4) hc13 (by decide) (by decide) (by decide) (ad := "[I") (by decide)
  obtain ⟨b12, g12⟩ : ∃ z, z = h11.size := ⟨_, rfl⟩
  rw [← g12] at A12 x12 st12
  have g_b12 : n0 ≤ b12 := Nat.le_trans Z11 (Nat.le_of_eq g12.symm)
  have sz_b12 : h0.size ≤ b12 := Nat.le_trans K11.1 (Nat.le_of_eq g12.symm)
  have Z12 : n0 ≤ h12.size := Nat.le_trans Z11 E12.1
  have K12 : Keep h0 h12 [a0] := K11.ext E12
  have E_b12 := x12
  have V_b12 : Arv Z h12 b12 k12 .int ((2 : Int32) * p1) [] (.int (0 : Int32)) := Arv.new A12 hc12
  have A_b12 : own_Any Z h12 b12 k12 .int ((2 : Int32) * p1) := ⟨_, own_Arf.new A12 hc12⟩
  have c13 : Fld Z h6 a0 cCV "coveredCounts" "[I" .null := (((F_coveredCounts_a0.other W2 (Or.inr (sl_3 hw))).ext E3).other W6 (Or.inr (sl_4 hw)))
  have F_a0_coveredCounts_u14 : Fld Z h12 a0 cCV "coveredCounts" "[I" .null := (((c13.ext E7).other W11 (Or.inr (sl_5 hw))).ext E12)
  have E_a0_u15 : Exa Z h12 a0 cCV := ((E_a0_u10.wr W11).ext E12)
  obtain ⟨T16, h16, X16, e16, W16, st16⟩ := putF X12 hx hZ hown (host := "") (Or.inl (w19 hw)) Via.refl e12 F_a0_coveredCounts_u14 E_a0_u15 (Or.inr ⟨(w20 hw), rfl, hnm⟩) (w1 hw) (ty := (.array .int)) (by decide) rfl rfl (g := (mkF m 51 #[vR a0, vI p1] [(.ref b12), (.ref a0)])) rfl rfl (hb hby d1_51)
  have K16 : Keep h0 h16 [a0] := K12.wr W16 (Or.inl (List.mem_of_getElem? (i := 0) rfl))
  have Fw16 := F_a0_coveredCounts_u14.same W16
  have Z16 : n0 ≤ h16.size := Nat.le_trans Z12 (Keep.of_wr W16).1
  obtain ⟨Lg16, X16', N16⟩ := own_gen X16 (Fr.snoc X16 N11 g_a0)
  obtain ⟨T17, h17, k17, X17, e17, E17, A17, x17, st17⟩ := newPE X16' hx hZ (aty := .int) (w18 hw) e16 (g := (mkF m 58 #[vR a0, vI p1] [(.int ((2 : Int32) * p1)), (.ref a0)])) rfl (hb hby d1_58) rfl hc12 (cap := 4) hc13 (by decide) (by decide) (by decide) (ad := "[I") (by decide)
  obtain ⟨b17, g17⟩ : ∃ z, z = h16.size := ⟨_, rfl⟩
  rw [← g17] at A17 x17 st17
  have g_b17 : n0 ≤ b17 := Nat.le_trans Z16 (Nat.le_of_eq g17.symm)
  have sz_b17 : h0.size ≤ b17 := Nat.le_trans K16.1 (Nat.le_of_eq g17.symm)
  have Z17 : n0 ≤ h17.size := Nat.le_trans Z16 E17.1
  have K17 : Keep h0 h17 [a0] := K16.ext E17
  have E_b17 := x17
  have V_b17 : Arv Z h17 b17 k17 .int ((2 : Int32) * p1) [] (.int (0 : Int32)) := Arv.new A17 hc12
  have A_b17 : own_Any Z h17 b17 k17 .int ((2 : Int32) * p1) := ⟨_, own_Arf.new A17 hc12⟩
  have c18 : Fld Z h6 a0 cCV "openCounts" "[I" .null := (((F_openCounts_a0.other W2 (Or.inr (sl_6 hw))).ext E3).other W6 (Or.inr (sl_7 hw)))
  have c19 : Fld Z h12 a0 cCV "openCounts" "[I" .null := (((c18.ext E7).other W11 (Or.inr (sl_8 hw))).ext E12)
  have F_a0_openCounts_u20 : Fld Z h17 a0 cCV "openCounts" "[I" .null := ((c19.other W16 (Or.inr (sl_9 hw))).ext E17)
  have E_a0_u21 : Exa Z h17 a0 cCV := ((E_a0_u15.wr W16).ext E17)
  obtain ⟨T22, h22, X22, e22, W22, st22⟩ := putF X17 hx hZ hown (host := "") (Or.inl (w21 hw)) Via.refl e17 F_a0_openCounts_u20 E_a0_u21 (Or.inr ⟨(w22 hw), rfl, hnm⟩) (w1 hw) (ty := (.array .int)) (by decide) rfl rfl (g := (mkF m 60 #[vR a0, vI p1] [(.ref b17), (.ref a0)])) rfl rfl (hb hby d1_60)
  have K22 : Keep h0 h22 [a0] := K17.wr W22 (Or.inl (List.mem_of_getElem? (i := 0) rfl))
  have Fw22 := F_a0_openCounts_u20.same W22
  have Z22 : n0 ≤ h22.size := Nat.le_trans Z17 (Keep.of_wr W22).1
  obtain ⟨Lg22, X22', N22⟩ := own_gen X22 (Fr.snoc X22 N16 g_a0)
  obtain ⟨T23, h23, k23, X23, e23, E23, A23, x23, st23⟩ := newPE X22' hx hZ (aty := .int) (w18 hw) e22 (g := (mkF m 65 #[vR a0, vI p1] [(.int p1), (.ref a0)])) rfl (hb hby d1_65) rfl hc14 (cap := 2) hc15 (by decide) (by decide) (by decide) (ad := "[I") (by decide)
  obtain ⟨b23, g23⟩ : ∃ z, z = h22.size := ⟨_, rfl⟩
  rw [← g23] at A23 x23 st23
  have g_b23 : n0 ≤ b23 := Nat.le_trans Z22 (Nat.le_of_eq g23.symm)
  have sz_b23 : h0.size ≤ b23 := Nat.le_trans K22.1 (Nat.le_of_eq g23.symm)
  have Z23 : n0 ≤ h23.size := Nat.le_trans Z22 E23.1
  have K23 : Keep h0 h23 [a0] := K22.ext E23
  have E_b23 := x23
  have V_b23 : Arv Z h23 b23 k23 .int p1 [] (.int (0 : Int32)) := Arv.new A23 hc14
  have A_b23 : own_Any Z h23 b23 k23 .int p1 := ⟨_, own_Arf.new A23 hc14⟩
  have c24 : Fld Z h6 a0 cCV "ones" "[I" .null := (((F_ones_a0.other W2 (Or.inr (sl_10 hw))).ext E3).other W6 (Or.inr (sl_11 hw)))
  have c25 : Fld Z h12 a0 cCV "ones" "[I" .null := (((c24.ext E7).other W11 (Or.inr (sl_12 hw))).ext E12)
  have c26 : Fld Z h22 a0 cCV "ones" "[I" .null := (((c25.other W16 (Or.inr (sl_13 hw))).ext E17).other W22 (Or.inr (sl_14 hw)))
  have F_a0_ones_u27 : Fld Z h23 a0 cCV "ones" "[I" .null := (c26.ext E23)
  have E_a0_u28 : Exa Z h23 a0 cCV := ((E_a0_u21.wr W22).ext E23)
  obtain ⟨T29, h29, X29, e29, W29, st29⟩ := putF X23 hx hZ hown (host := "") (Or.inl (w23 hw)) Via.refl e23 F_a0_ones_u27 E_a0_u28 (Or.inr ⟨(w24 hw), rfl, hnm⟩) (w1 hw) (ty := (.array .int)) (by decide) rfl rfl (g := (mkF m 67 #[vR a0, vI p1] [(.ref b23), (.ref a0)])) rfl rfl (hb hby d1_67)
  have K29 : Keep h0 h29 [a0] := K23.wr W29 (Or.inl (List.mem_of_getElem? (i := 0) rfl))
  have Fw29 := F_a0_ones_u27.same W29
  have Z29 : n0 ≤ h29.size := Nat.le_trans Z23 (Keep.of_wr W29).1
  obtain ⟨Lg29, X29', N29⟩ := own_gen X29 (Fr.snoc X29 N22 g_a0)
  have E_a0_u30 : Exa Z h29 a0 cCV := (E_a0_u28.wr W29)
  have c31 : Fld Z h7 a0 cCV "labelCount" "I" (.int p1) := (((Fw2.ext E3).other W6 (Or.inr (sl_15 hw))).ext E7)
  have c32 : Fld Z h16 a0 cCV "labelCount" "I" (.int p1) := (((c31.other W11 (Or.inr (sl_16 hw))).ext E12).other W16 (Or.inr (sl_17 hw)))
  have c33 : Fld Z h23 a0 cCV "labelCount" "I" (.int p1) := (((c32.ext E17).other W22 (Or.inr (sl_18 hw))).ext E23)
  have F_a0_labelCount_u34 : Fld Z h29 a0 cCV "labelCount" "I" (.int p1) := (c33.other W29 (Or.inr (sl_19 hw)))
  have c35 : Fld Z h12 a0 cCV "openPairs" "[[I" (.ref b3) := (((Fw6.ext E7).other W11 (Or.inr (sl_20 hw))).ext E12)
  have c36 : Fld Z h22 a0 cCV "openPairs" "[[I" (.ref b3) := (((c35.other W16 (Or.inr (sl_21 hw))).ext E17).other W22 (Or.inr (sl_22 hw)))
  have F_a0_openPairs_u37 : Fld Z h29 a0 cCV "openPairs" "[[I" (.ref b3) := ((c36.ext E23).other W29 (Or.inr (sl_23 hw)))
  have c38 : Fld Z h17 a0 cCV "covered" "[Z" (.ref b7) := (((Fw11.ext E12).other W16 (Or.inr (sl_24 hw))).ext E17)
  have F_a0_covered_u39 : Fld Z h29 a0 cCV "covered" "[Z" (.ref b7) := (((c38.other W22 (Or.inr (sl_25 hw))).ext E23).other W29 (Or.inr (sl_26 hw)))
  have c40 : Fld Z h23 a0 cCV "coveredCounts" "[I" (.ref b12) := (((Fw16.ext E17).other W22 (Or.inr (sl_27 hw))).ext E23)
  have F_a0_coveredCounts_u41 : Fld Z h29 a0 cCV "coveredCounts" "[I" (.ref b12) := (c40.other W29 (Or.inr (sl_28 hw)))
  have F_a0_openCounts_u42 : Fld Z h29 a0 cCV "openCounts" "[I" (.ref b17) := ((Fw22.ext E23).other W29 (Or.inr (sl_29 hw)))
  have c43 : Fld Z h6 a0 cCV "rowCount" "I" (.int (0 : Int32)) := (((F_rowCount_a0.other W2 (Or.inr (sl_30 hw))).ext E3).other W6 (Or.inr (sl_31 hw)))
  have c44 : Fld Z h12 a0 cCV "rowCount" "I" (.int (0 : Int32)) := (((c43.ext E7).other W11 (Or.inr (sl_32 hw))).ext E12)
  have c45 : Fld Z h22 a0 cCV "rowCount" "I" (.int (0 : Int32)) := (((c44.other W16 (Or.inr (sl_33 hw))).ext E17).other W22 (Or.inr (sl_34 hw)))
  have F_a0_rowCount_u46 : Fld Z h29 a0 cCV "rowCount" "I" (.int (0 : Int32)) := ((c45.ext E23).other W29 (Or.inr (sl_35 hw)))
  have c47 : Fld Z h6 a0 cCV "pairsShared" "Z" (.int (0 : Int32)) := (((F_pairsShared_a0.other W2 (Or.inr (sl_36 hw))).ext E3).other W6 (Or.inr (sl_37 hw)))
  have c48 : Fld Z h12 a0 cCV "pairsShared" "Z" (.int (0 : Int32)) := (((c47.ext E7).other W11 (Or.inr (sl_38 hw))).ext E12)
  have c49 : Fld Z h22 a0 cCV "pairsShared" "Z" (.int (0 : Int32)) := (((c48.other W16 (Or.inr (sl_39 hw))).ext E17).other W22 (Or.inr (sl_40 hw)))
  have F_a0_pairsShared_u50 : Fld Z h29 a0 cCV "pairsShared" "Z" (.int (0 : Int32)) := ((c49.ext E23).other W29 (Or.inr (sl_41 hw)))
  have c51 : Fld Z h6 a0 cCV "remainingCount" "I" (.int (0 : Int32)) := (((F_remainingCount_a0.other W2 (Or.inr (sl_42 hw))).ext E3).other W6 (Or.inr (sl_43 hw)))
  have c52 : Fld Z h12 a0 cCV "remainingCount" "I" (.int (0 : Int32)) := (((c51.ext E7).other W11 (Or.inr (sl_44 hw))).ext E12)
  have c53 : Fld Z h22 a0 cCV "remainingCount" "I" (.int (0 : Int32)) := (((c52.other W16 (Or.inr (sl_45 hw))).ext E17).other W22 (Or.inr (sl_46 hw)))
  have F_a0_remainingCount_u54 : Fld Z h29 a0 cCV "remainingCount" "I" (.int (0 : Int32)) := ((c53.ext E23).other W29 (Or.inr (sl_47 hw)))
  have c55 : Exa Z h11 b3 "[[I" := (((E_b3.wr W6).ext E7).wr W11)
  have c56 : Exa Z h17 b3 "[[I" := (((c55.ext E12).wr W16).ext E17)
  have E_b3_u57 : Exa Z h29 b3 "[[I" := (((c56.wr W22).ext E23).wr W29)
  have ne_a0_b3 : a0 ≠ b3 := own_ne (Nat.lt_of_lt_of_le (E_a0.wr W2).lt (Nat.le_of_eq g3.symm))
  have c58 : own_Arf Z h11 b3 k3 (.array .int) (8 : Int32) (fun _ => .null) := (((A_b3.other W6 (Ne.symm ne_a0_b3)).ext E7).other W11 (Ne.symm ne_a0_b3))
  have c59 : own_Arf Z h17 b3 k3 (.array .int) (8 : Int32) (fun _ => .null) := (((c58.ext E12).other W16 (Ne.symm ne_a0_b3)).ext E17)
  have V_b3_u60 : own_Arf Z h29 b3 k3 (.array .int) (8 : Int32) (fun _ => .null) := (((c59.other W22 (Ne.symm ne_a0_b3)).ext E23).other W29 (Ne.symm ne_a0_b3))
  have c61 : Exa Z h16 b7 "[Z" := (((E_b7.wr W11).ext E12).wr W16)
  have c62 : Exa Z h23 b7 "[Z" := (((c61.ext E17).wr W22).ext E23)
  have E_b7_u63 : Exa Z h29 b7 "[Z" := (c62.wr W29)
  have ne_a0_b7 : a0 ≠ b7 := own_ne (Nat.lt_of_lt_of_le (E_a0_u5.wr W6).lt (Nat.le_of_eq g7.symm))
  have c64 : own_Any Z h16 b7 k7 .boolean (8 : Int32) := (((A_b7.other W11 (Ne.symm ne_a0_b7)).ext E12).other W16 (Ne.symm ne_a0_b7))
  have c65 : own_Any Z h23 b7 k7 .boolean (8 : Int32) := (((c64.ext E17).other W22 (Ne.symm ne_a0_b7)).ext E23)
  have V_b7_u66 : own_Any Z h29 b7 k7 .boolean (8 : Int32) := (c65.other W29 (Ne.symm ne_a0_b7))
  have c67 : Exa Z h22 b12 "[I" := (((E_b12.wr W16).ext E17).wr W22)
  have E_b12_u68 : Exa Z h29 b12 "[I" := ((c67.ext E23).wr W29)
  have ne_a0_b12 : a0 ≠ b12 := own_ne (Nat.lt_of_lt_of_le (E_a0_u10.wr W11).lt (Nat.le_of_eq g12.symm))
  have c69 : own_Any Z h22 b12 k12 .int ((2 : Int32) * p1) := (((A_b12.other W16 (Ne.symm ne_a0_b12)).ext E17).other W22 (Ne.symm ne_a0_b12))
  have V_b12_u70 : own_Any Z h29 b12 k12 .int ((2 : Int32) * p1) := ((c69.ext E23).other W29 (Ne.symm ne_a0_b12))
  have E_b17_u71 : Exa Z h29 b17 "[I" := (((E_b17.wr W22).ext E23).wr W29)
  have ne_a0_b17 : a0 ≠ b17 := own_ne (Nat.lt_of_lt_of_le (E_a0_u15.wr W16).lt (Nat.le_of_eq g17.symm))
  have V_b17_u72 : own_Any Z h29 b17 k17 .int ((2 : Int32) * p1) := (((A_b17.other W22 (Ne.symm ne_a0_b17)).ext E23).other W29 (Ne.symm ne_a0_b17))
  have E_b23_u73 : Exa Z h29 b23 "[I" := (E_b23.wr W29)
  have ne_a0_b23 : a0 ≠ b23 := own_ne (Nat.lt_of_lt_of_le (E_a0_u21.wr W22).lt (Nat.le_of_eq g23.symm))
  have V_b23_u74 : own_Any Z h29 b23 k23 .int p1 := (A_b23.other W29 (Ne.symm ne_a0_b23))
  obtain ⟨fs, hr, hrun, hended, hW, hsame⟩ := X29'.leave (v := none) (fun _ => rfl)
  refine ⟨_, _, pre0 _ ?_, hrun, hended, _, _, rfl, ?_, ⟨_, rfl⟩, hW, hsame.mono (by decide) (by decide)⟩
  · show Steps p.tables e below (s₁.setTop (mkF m 0 #[vR a0, vI p1] [])) _
    refine XS.aloadN X0.here hx rfl (hb hby d1_0) rfl rfl ?_
    show Steps p.tables e below (s₁.setTop (mkF m 1 #[vR a0, vI p1] [(.ref a0)])) _
    refine st1 _ ?_
    show Steps p.tables e below (T1.setTop (mkF m 4 #[vR a0, vI p1] [])) _
    refine XS.iloadN X1.here hx rfl (hb hby d1_4) rfl ?_
    refine XS.iconst X1.here hx rfl (hb hby d1_5) ?_
    refine XS.icmpYes X1.here hx rfl (pc0 := 6) (pc' := 23) rfl (hb hby d1_6) rfl (flt hc10).2.1 (by decide) (by decide) ?_
    refine XS.aloadN X1.here hx rfl (hb hby d1_23) rfl rfl ?_
    refine XS.iloadN X1.here hx rfl (hb hby d1_24) rfl ?_
    show Steps p.tables e below (T1.setTop (mkF m 25 #[vR a0, vI p1] [(.int p1), (.ref a0)])) _
    refine st2 _ ?_
    show Steps p.tables e below (T2.setTop (mkF m 28 #[vR a0, vI p1] [])) _
    refine XS.aloadN X2'.here hx rfl (hb hby d1_28) rfl rfl ?_
    refine XS.bipush X2'.here hx rfl (hb hby d1_29) ?_
    show Steps p.tables e below (T2.setTop (mkF m 31 #[vR a0, vI p1] [(.int (8 : Int32)), (.ref a0)])) _
    refine st3 _ ?_
    show Steps p.tables e below (T3.setTop (mkF m 34 #[vR a0, vI p1] [(.ref b3), (.ref a0)])) _
    refine st6 _ ?_
    show Steps p.tables e below (T6.setTop (mkF m 37 #[vR a0, vI p1] [])) _
    refine XS.aloadN X6'.here hx rfl (hb hby d1_37) rfl rfl ?_
    refine XS.bipush X6'.here hx rfl (hb hby d1_38) ?_
    show Steps p.tables e below (T6.setTop (mkF m 40 #[vR a0, vI p1] [(.int (8 : Int32)), (.ref a0)])) _
    refine st7 _ ?_
    show Steps p.tables e below (T7.setTop (mkF m 42 #[vR a0, vI p1] [(.ref b7), (.ref a0)])) _
    refine st11 _ ?_
    show Steps p.tables e below (T11.setTop (mkF m 45 #[vR a0, vI p1] [])) _
    refine XS.aloadN X11'.here hx rfl (hb hby d1_45) rfl rfl ?_
    refine XS.iconst X11'.here hx rfl (hb hby d1_46) ?_
    refine XS.iloadN X11'.here hx rfl (hb hby d1_47) rfl ?_
    refine XS.imul X11'.here hx rfl (hb hby d1_48) rfl ?_
    show Steps p.tables e below (T11.setTop (mkF m 49 #[vR a0, vI p1] [(.int ((2 : Int32) * p1)), (.ref a0)])) _
    refine st12 _ ?_
    show Steps p.tables e below (T12.setTop (mkF m 51 #[vR a0, vI p1] [(.ref b12), (.ref a0)])) _
    refine st16 _ ?_
    show Steps p.tables e below (T16.setTop (mkF m 54 #[vR a0, vI p1] [])) _
    refine XS.aloadN X16'.here hx rfl (hb hby d1_54) rfl rfl ?_
    refine XS.iconst X16'.here hx rfl (hb hby d1_55) ?_
    refine XS.iloadN X16'.here hx rfl (hb hby d1_56) rfl ?_
    refine XS.imul X16'.here hx rfl (hb hby d1_57) rfl ?_
    show Steps p.tables e below (T16.setTop (mkF m 58 #[vR a0, vI p1] [(.int ((2 : Int32) * p1)), (.ref a0)])) _
    refine st17 _ ?_
    show Steps p.tables e below (T17.setTop (mkF m 60 #[vR a0, vI p1] [(.ref b17), (.ref a0)])) _
    refine st22 _ ?_
    show Steps p.tables e below (T22.setTop (mkF m 63 #[vR a0, vI p1] [])) _
    refine XS.aloadN X22'.here hx rfl (hb hby d1_63) rfl rfl ?_
    refine XS.iloadN X22'.here hx rfl (hb hby d1_64) rfl ?_
    show Steps p.tables e below (T22.setTop (mkF m 65 #[vR a0, vI p1] [(.int p1), (.ref a0)])) _
    refine st23 _ ?_
    show Steps p.tables e below (T23.setTop (mkF m 67 #[vR a0, vI p1] [(.ref b23), (.ref a0)])) _
    refine st29 _ ?_
    show Steps p.tables e below (T29.setTop (mkF m 70 #[vR a0, vI p1] [])) _
    exact X29'.returnOut hx Bd.returns (hb hby d1_70) hr
  · show Q1 Z a0 p1 h0 n0 _ T29.heap _
    rw [e29]
    exact ⟨b3, b7, b12, b17, b23, k3, k7, k12, k17, k23, rfl, N29, sz_b3, (Nat.lt_of_lt_of_le (E_b3.wr W6).lt (Nat.le_of_eq g7.symm)), (Nat.lt_of_lt_of_le (E_b7.wr W11).lt (Nat.le_of_eq g12.symm)), (Nat.lt_of_lt_of_le (E_b12.wr W16).lt (Nat.le_of_eq g17.symm)), (Nat.lt_of_lt_of_le (E_b17.wr W22).lt (Nat.le_of_eq g23.symm)), K29, E_a0_u30, F_a0_labelCount_u34, F_a0_openPairs_u37, F_a0_covered_u39, F_a0_coveredCounts_u41, F_a0_openCounts_u42, Fw29, F_a0_rowCount_u46, F_a0_pairsShared_u50, F_a0_remainingCount_u54, E_b3_u57, V_b3_u60, E_b7_u63, V_b7_u66, E_b12_u68, V_b12_u70, E_b17_u71, V_b17_u72, E_b23_u73, V_b23_u74, O3⟩
theorem d8_0 : decode prog_21_method_21_code 0 = .ok (.aload_n 0, 1) := by decide +kernel
theorem d8_1 : decode prog_21_method_21_code 1 = .ok (.getfield 41, 3) := by decide +kernel
theorem d8_4 : decode prog_21_method_21_code 4 = .ok (.ifCond .eq 22, 3) := by decide +kernel
theorem d8_26 : decode prog_21_method_21_code 26 = .ok (.return_, 1) := by decide +kernel
theorem ef_rm8 (m : MethodId) (a0 : Addr) : entryFrame m #[(.ref a0)] 1 = mkF m 0 #[vR a0] [] := by first | (simp [entryFrame, mkF, argsToLocals, Value.category]; done) | rfl
def Q8 (Z : State) (a0 : Addr) (h0 : Heap) (n0 : Nat) (v : Option Value) (h : Heap) (L : List Loc) : Prop := v = none ∧ Fr n0 L ∧ h = h0
set_option maxRecDepth 65536 in
set_option maxHeartbeats 40000000 in
theorem rm8 (l : Launch) (Z : State) (az : Array Value) (hw : ∀ d ∈ tables_1, d.before az Z = true) (ws : List Jvm.Cond) (a0 : Addr) (h0 : Heap) (n0 : Nat) (Z0 : n0 ≤ h0.size) (F_pairsShared_a0 : Fld Z h0 a0 cCV "pairsShared" "Z" (.int (0 : Int32))) :
    MetFree l (⟨cCV, "ownPairs", "()V"⟩ : MethodName) (head1 (Jvm.Cond.code (⟨cCV, "ownPairs", "()V"⟩ : MethodName) prog_21_method_21_code 1 none :: ws) ({ frames := 0, cells := 0, slots := 0, locals := 0 } : Room)) (fun a U => a = #[(.ref a0)] ∧ Z.Warmed39 U.vm ∧ U.heap = h0) (fun _ _ _ _ _ => True) (fun _ U o U' => ∃ v L, o = .returned v ∧ Q8 Z a0 h0 n0 v U'.heap L ∧ FrameEnd U o U' L ({ frames := 0, cells := 0, slots := 0, locals := 0 } : Room).cells ({ frames := 0, cells := 0, slots := 0, locals := 0 } : Room).slots) := by
  refine MetFree.of_bodySF (plainFor_of_name pn_com_example_headlattice_headlattice_learn_Coverage) hisR ?_
  intro p e s m args below meth c s₁ Bd hml0 hP hK
  obtain ⟨rfl, hZ, hh⟩ := hP
  have hx := Bd.exec
  have hby := Bd.bytes
  have hml : c.maxLocals = 1 := hml0
  have hown : s.vm.findClass cCV = some m.cls := findClass_of_methodNamed Bd.named
  have hnm := (name_of_methodNamed Bd.named Bd.method).1
  have X0 : Stand p l e ({ frames := 0, cells := 0, slots := 0, locals := 0 } : Room) s m #[(.ref a0)] below meth c s₁ [] 0 0 := Stand.of_body Bd
  have e0 : s₁.heap = h0 := by rw [← hh, Bd.state]; rfl
  have N0 := Fr.nil n0
  have pre0 : ∀ t, Steps p.tables e below (s₁.setTop (mkF m 0 #[vR a0] [])) t → Steps p.tables e below (s₁.setTop (entryFrame m #[(.ref a0)] 1)) t := fun t k => castTop (ef_rm8 m a0) k
  obtain ⟨T1, X1, e1, st1⟩ := getF X0 hx hZ hown (host := "") (Or.inl (w52 hw)) Via.refl e0 F_pairsShared_a0 (g := (mkF m 1 #[vR a0] [(.ref a0)])) rfl rfl (hb hby d8_1)
  obtain ⟨fs, hr, hrun, hended, hW, hsame⟩ := X1.leave (v := none) (fun _ => rfl)
  refine ⟨_, _, pre0 _ ?_, hrun, hended, _, _, rfl, ?_, ⟨_, rfl⟩, hW, hsame.mono (by decide) (by decide)⟩
  · show Steps p.tables e below (s₁.setTop (mkF m 0 #[vR a0] [])) _
    refine XS.aloadN X0.here hx rfl (hb hby d8_0) rfl rfl ?_
    show Steps p.tables e below (s₁.setTop (mkF m 1 #[vR a0] [(.ref a0)])) _
    refine st1 _ ?_
    show Steps p.tables e below (T1.setTop (mkF m 4 #[vR a0] [(.int (0 : Int32))])) _
    refine XS.ifYes X1.here hx rfl (pc0 := 4) (pc' := 26) rfl (hb hby d8_4) rfl ((if0 _ _).trans (teq (by decide : (0 : Int32) = (0 : Int32))).1) (by decide) (by decide) ?_
    show Steps p.tables e below (T1.setTop (mkF m 26 #[vR a0] [])) _
    exact X1.returnOut hx Bd.returns (hb hby d8_26) hr
  · show Q8 Z a0 h0 n0 _ T1.heap _
    rw [e1]
    exact ⟨rfl, N0, rfl⟩
theorem d15_0 : decode jdk_29_method_69_code 0 = .ok (.iload_n 0, 1) := by decide +kernel
theorem d15_1 : decode jdk_29_method_69_code 1 = .ok (.iload_n 1, 1) := by decide +kernel
theorem d15_2 : decode jdk_29_method_69_code 2 = .ok (.if_icmp .gt 7, 3) := by decide +kernel
theorem d15_9 : decode jdk_29_method_69_code 9 = .ok (.iload_n 1, 1) := by decide +kernel
theorem d15_10 : decode jdk_29_method_69_code 10 = .ok (.ireturn, 1) := by decide +kernel
theorem ef_rm15a (m : MethodId)  : entryFrame m #[(.int (1 : Int32)), (.int (0 : Int32))] 2 = mkF m 0 #[vI (1 : Int32), vI (0 : Int32)] [] := by first | (simp [entryFrame, mkF, argsToLocals, Value.category]; done) | rfl
def Q15a (Z : State)  (h0 : Heap) (n0 : Nat) (v : Option Value) (h : Heap) (L : List Loc) : Prop := v = some (.int (0 : Int32)) ∧ Fr n0 L ∧ h = h0
set_option maxRecDepth 65536 in
set_option maxHeartbeats 40000000 in
theorem rm15a (l : Launch) (Z : State) (az : Array Value) (hw : ∀ d ∈ tables_1, d.before az Z = true) (ws : List Jvm.Cond)  (h0 : Heap) (n0 : Nat) (Z0 : n0 ≤ h0.size) :
    MetFree l (⟨"java/lang/Math", "min", "(II)I"⟩ : MethodName) (head1 (Jvm.Cond.code (⟨"java/lang/Math", "min", "(II)I"⟩ : MethodName) jdk_29_method_69_code 2 (some .int) :: ws) ({ frames := 0, cells := 0, slots := 0, locals := 0 } : Room)) (fun a U => a = #[(.int (1 : Int32)), (.int (0 : Int32))] ∧ Z.Warmed39 U.vm ∧ U.heap = h0) (fun _ _ _ _ _ => True) (fun _ U o U' => ∃ v L, o = .returned v ∧ Q15a Z  h0 n0 v U'.heap L ∧ FrameEnd U o U' L ({ frames := 0, cells := 0, slots := 0, locals := 0 } : Room).cells ({ frames := 0, cells := 0, slots := 0, locals := 0 } : Room).slots) := by
  refine MetFree.of_bodySF (Jvm.Free.JP.mathPlain rfl (by decide +kernel)) hisR ?_
  intro p e s m args below meth c s₁ Bd hml0 hP hK
  obtain ⟨rfl, hZ, hh⟩ := hP
  have hx := Bd.exec
  have hby := Bd.bytes
  have hml : c.maxLocals = 2 := hml0
  have hown : s.vm.findClass "java/lang/Math" = some m.cls := findClass_of_methodNamed Bd.named
  have hnm := (name_of_methodNamed Bd.named Bd.method).1
  have X0 : Stand p l e ({ frames := 0, cells := 0, slots := 0, locals := 0 } : Room) s m #[(.int (1 : Int32)), (.int (0 : Int32))] below meth c s₁ [] 0 0 := Stand.of_body Bd
  have e0 : s₁.heap = h0 := by rw [← hh, Bd.state]; rfl
  have N0 := Fr.nil n0
  have pre0 : ∀ t, Steps p.tables e below (s₁.setTop (mkF m 0 #[vI (1 : Int32), vI (0 : Int32)] [])) t → Steps p.tables e below (s₁.setTop (entryFrame m #[(.int (1 : Int32)), (.int (0 : Int32))] 2)) t := fun t k => castTop (ef_rm15a m ) k
  obtain ⟨fs, hr, hrun, hended, hW, hsame⟩ := X0.leave (v := some (.int (0 : Int32))) (fun h => by rw [Bd.returns] at h; cases h)
  refine ⟨_, _, pre0 _ ?_, hrun, hended, _, _, rfl, ?_, ⟨_, rfl⟩, hW, hsame.mono (by decide) (by decide)⟩
  · show Steps p.tables e below (s₁.setTop (mkF m 0 #[vI (1 : Int32), vI (0 : Int32)] [])) _
    refine XS.iloadN X0.here hx rfl (hb hby d15_0) rfl ?_
    refine XS.iloadN X0.here hx rfl (hb hby d15_1) rfl ?_
    refine XS.icmpYes X0.here hx rfl (pc0 := 2) (pc' := 9) rfl (hb hby d15_2) rfl (tlt (by decide : (0 : Int32) < (1 : Int32))).2.2.1 (by decide) (by decide) ?_
    refine XS.iloadN X0.here hx rfl (hb hby d15_9) rfl ?_
    show Steps p.tables e below (s₁.setTop (mkF m 10 #[vI (1 : Int32), vI (0 : Int32)] [(.int (0 : Int32))])) _
    exact retI X0 hx Bd.returns (hb hby d15_10) hr
  · show Q15a Z  h0 n0 _ s₁.heap _
    rw [e0]
    exact ⟨rfl, N0, rfl⟩
theorem ef_rm15b (m : MethodId)  : entryFrame m #[(.int (2 : Int32)), (.int (1 : Int32))] 2 = mkF m 0 #[vI (2 : Int32), vI (1 : Int32)] [] := by first | (simp [entryFrame, mkF, argsToLocals, Value.category]; done) | rfl
def Q15b (Z : State)  (h0 : Heap) (n0 : Nat) (v : Option Value) (h : Heap) (L : List Loc) : Prop := v = some (.int (1 : Int32)) ∧ Fr n0 L ∧ h = h0
set_option maxRecDepth 65536 in
set_option maxHeartbeats 40000000 in
theorem rm15b (l : Launch) (Z : State) (az : Array Value) (hw : ∀ d ∈ tables_1, d.before az Z = true) (ws : List Jvm.Cond)  (h0 : Heap) (n0 : Nat) (Z0 : n0 ≤ h0.size) :
    MetFree l (⟨"java/lang/Math", "min", "(II)I"⟩ : MethodName) (head1 (Jvm.Cond.code (⟨"java/lang/Math", "min", "(II)I"⟩ : MethodName) jdk_29_method_69_code 2 (some .int) :: ws) ({ frames := 0, cells := 0, slots := 0, locals := 0 } : Room)) (fun a U => a = #[(.int (2 : Int32)), (.int (1 : Int32))] ∧ Z.Warmed39 U.vm ∧ U.heap = h0) (fun _ _ _ _ _ => True) (fun _ U o U' => ∃ v L, o = .returned v ∧ Q15b Z  h0 n0 v U'.heap L ∧ FrameEnd U o U' L ({ frames := 0, cells := 0, slots := 0, locals := 0 } : Room).cells ({ frames := 0, cells := 0, slots := 0, locals := 0 } : Room).slots) := by
  refine MetFree.of_bodySF (Jvm.Free.JP.mathPlain rfl (by decide +kernel)) hisR ?_
  intro p e s m args below meth c s₁ Bd hml0 hP hK
  obtain ⟨rfl, hZ, hh⟩ := hP
  have hx := Bd.exec
  have hby := Bd.bytes
  have hml : c.maxLocals = 2 := hml0
  have hown : s.vm.findClass "java/lang/Math" = some m.cls := findClass_of_methodNamed Bd.named
  have hnm := (name_of_methodNamed Bd.named Bd.method).1
  have X0 : Stand p l e ({ frames := 0, cells := 0, slots := 0, locals := 0 } : Room) s m #[(.int (2 : Int32)), (.int (1 : Int32))] below meth c s₁ [] 0 0 := Stand.of_body Bd
  have e0 : s₁.heap = h0 := by rw [← hh, Bd.state]; rfl
  have N0 := Fr.nil n0
  have pre0 : ∀ t, Steps p.tables e below (s₁.setTop (mkF m 0 #[vI (2 : Int32), vI (1 : Int32)] [])) t → Steps p.tables e below (s₁.setTop (entryFrame m #[(.int (2 : Int32)), (.int (1 : Int32))] 2)) t := fun t k => castTop (ef_rm15b m ) k
  obtain ⟨fs, hr, hrun, hended, hW, hsame⟩ := X0.leave (v := some (.int (1 : Int32))) (fun h => by rw [Bd.returns] at h; cases h)
  refine ⟨_, _, pre0 _ ?_, hrun, hended, _, _, rfl, ?_, ⟨_, rfl⟩, hW, hsame.mono (by decide) (by decide)⟩
  · show Steps p.tables e below (s₁.setTop (mkF m 0 #[vI (2 : Int32), vI (1 : Int32)] [])) _
    refine XS.iloadN X0.here hx rfl (hb hby d15_0) rfl ?_
    refine XS.iloadN X0.here hx rfl (hb hby d15_1) rfl ?_
    refine XS.icmpYes X0.here hx rfl (pc0 := 2) (pc' := 9) rfl (hb hby d15_2) rfl (tlt (by decide : (1 : Int32) < (2 : Int32))).2.2.1 (by decide) (by decide) ?_
    refine XS.iloadN X0.here hx rfl (hb hby d15_9) rfl ?_
    show Steps p.tables e below (s₁.setTop (mkF m 10 #[vI (2 : Int32), vI (1 : Int32)] [(.int (1 : Int32))])) _
    exact retI X0 hx Bd.returns (hb hby d15_10) hr
  · show Q15b Z  h0 n0 _ s₁.heap _
    rw [e0]
    exact ⟨rfl, N0, rfl⟩
theorem d7_53 : decode prog_21_method_5_code 53 = .ok (.iload 5, 2) := by decide +kernel
theorem d7_55 : decode prog_21_method_5_code 55 = .ok (.ifCond .eq 24, 3) := by decide +kernel
set_option maxRecDepth 65536 in
set_option maxHeartbeats 40000000 in
theorem sg01a (l : Launch) (Z : State) (az : Array Value) (hw : ∀ d ∈ tables_1, d.before az Z = true) {p : Program} {e : Env} {s : State} {m : MethodId} {args : Array Value} {below : List Frame} {meth : Method} {c : Code} (hx : p.tables.exec = Jvm.exec) (hby : c.code = prog_21_method_5_code) (hml : c.maxLocals = 9) (hown : s.vm.findClass cCV = some m.cls) (hZ : Z.Warmed39 s.vm) {kc ks : Nat} (a0 : Addr) (a1 : Addr) (p2 : Int32) (a3 : Addr) (p4 : Int32) (p5 : Int32) (h0 : Heap) (n0 : Nat) (Z0 : n0 ≤ h0.size) (hc0 : p5 = (0 : Int32)) :
    own_Seg p l e ({ frames := 1, cells := 1, slots := 2, locals := 20 } : Room) s m args below meth c n0 kc ks kc ks h0 (mkF m 53 #[vR a0, vR a1, vI p2, vR a3, vI p4, vI p5, .unset, .unset, .unset] []) (fun h g => g = (mkF m 79 #[vR a0, vR a1, vI p2, vR a3, vI p4, vI p5, .unset, .unset, .unset] []) ∧ h = h0) := by
  intro s₁ hT
  obtain ⟨Lz0, X0, e0, N0⟩ := hT
  refine ⟨_, _, _, ⟨rfl, rfl⟩, ⟨_, X0, e0, N0⟩, fun t hr => ?_⟩
  show Steps p.tables e below (s₁.setTop (mkF m 53 #[vR a0, vR a1, vI p2, vR a3, vI p4, vI p5, .unset, .unset, .unset] [])) _
  refine XS.iload X0.here hx rfl (hb hby d7_53) rfl ?_
  refine XS.ifYes X0.here hx rfl (pc0 := 55) (pc' := 79) rfl (hb hby d7_55) rfl ((if0 _ _).trans (teq hc0).1) (by decide) (by decide) ?_
  exact hr
theorem d7_58 : decode prog_21_method_5_code 58 = .ok (.iload 5, 2) := by decide +kernel
theorem d7_60 : decode prog_21_method_5_code 60 = .ok (.iconst 1, 1) := by decide +kernel
theorem d7_61 : decode prog_21_method_5_code 61 = .ok (.if_icmp .eq 18, 3) := by decide +kernel
set_option maxRecDepth 65536 in
set_option maxHeartbeats 40000000 in
theorem sg01b (l : Launch) (Z : State) (az : Array Value) (hw : ∀ d ∈ tables_1, d.before az Z = true) {p : Program} {e : Env} {s : State} {m : MethodId} {args : Array Value} {below : List Frame} {meth : Method} {c : Code} (hx : p.tables.exec = Jvm.exec) (hby : c.code = prog_21_method_5_code) (hml : c.maxLocals = 9) (hown : s.vm.findClass cCV = some m.cls) (hZ : Z.Warmed39 s.vm) {kc ks : Nat} (a0 : Addr) (a1 : Addr) (p2 : Int32) (a3 : Addr) (p4 : Int32) (p5 : Int32) (h0 : Heap) (n0 : Nat) (Z0 : n0 ≤ h0.size) (hc0 : ¬ (p5 = (0 : Int32))) (hc1 : p5 = (1 : Int32)) :
    own_Seg p l e ({ frames := 1, cells := 1, slots := 2, locals := 20 } : Room) s m args below meth c n0 kc ks kc ks h0 (mkF m 53 #[vR a0, vR a1, vI p2, vR a3, vI p4, vI p5, .unset, .unset, .unset] []) (fun h g => g = (mkF m 79 #[vR a0, vR a1, vI p2, vR a3, vI p4, vI p5, .unset, .unset, .unset] []) ∧ h = h0) := by
  intro s₁ hT
  obtain ⟨Lz0, X0, e0, N0⟩ := hT
  refine ⟨_, _, _, ⟨rfl, rfl⟩, ⟨_, X0, e0, N0⟩, fun t hr => ?_⟩
  show Steps p.tables e below (s₁.setTop (mkF m 53 #[vR a0, vR a1, vI p2, vR a3, vI p4, vI p5, .unset, .unset, .unset] [])) _
  refine XS.iload X0.here hx rfl (hb hby d7_53) rfl ?_
  refine XS.ifNo X0.here hx rfl (hb hby d7_55) rfl ((if0 _ _).trans (feq hc0).1) ?_
  refine XS.iload X0.here hx rfl (hb hby d7_58) rfl ?_
  refine XS.iconst X0.here hx rfl (hb hby d7_60) ?_
  refine XS.icmpYes X0.here hx rfl (pc0 := 61) (pc' := 79) rfl (hb hby d7_61) rfl (teq hc1).1 (by decide) (by decide) ?_
  exact hr
set_option maxRecDepth 65536 in
set_option maxHeartbeats 40000000 in
theorem sg01 (l : Launch) (Z : State) (az : Array Value) (hw : ∀ d ∈ tables_1, d.before az Z = true) {p : Program} {e : Env} {s : State} {m : MethodId} {args : Array Value} {below : List Frame} {meth : Method} {c : Code} (hx : p.tables.exec = Jvm.exec) (hby : c.code = prog_21_method_5_code) (hml : c.maxLocals = 9) (hown : s.vm.findClass cCV = some m.cls) (hZ : Z.Warmed39 s.vm) {kc ks : Nat} (a0 : Addr) (a1 : Addr) (p2 : Int32) (a3 : Addr) (p4 : Int32) (p5 : Int32) (h0 : Heap) (n0 : Nat) (Z0 : n0 ≤ h0.size) (hJ : p5 = (0 : Int32) ∨ p5 = (1 : Int32)) :
    own_Seg p l e ({ frames := 1, cells := 1, slots := 2, locals := 20 } : Room) s m args below meth c n0 kc ks kc ks h0 (mkF m 53 #[vR a0, vR a1, vI p2, vR a3, vI p4, vI p5, .unset, .unset, .unset] []) (fun h g => g = (mkF m 79 #[vR a0, vR a1, vI p2, vR a3, vI p4, vI p5, .unset, .unset, .unset] []) ∧ h = h0) := by
  rcases hJ with j | j
  · exact sg01a l Z az hw hx hby hml hown hZ a0 a1 p2 a3 p4 p5 h0 n0 Z0 j
  · exact sg01b l Z az hw hx hby hml hown hZ a0 a1 p2 a3 p4 p5 h0 n0 Z0 (fun q => absurd (q.symm.trans j) (by decide)) j
theorem d7_237 : decode prog_21_method_5_code 237 = .ok (.iload_n 2, 1) := by decide +kernel
theorem d7_238 : decode prog_21_method_5_code 238 = .ok (.ifCond .eq 14, 3) := by decide +kernel
set_option maxRecDepth 65536 in
set_option maxHeartbeats 40000000 in
theorem sg02a (l : Launch) (Z : State) (az : Array Value) (hw : ∀ d ∈ tables_1, d.before az Z = true) {p : Program} {e : Env} {s : State} {m : MethodId} {args : Array Value} {below : List Frame} {meth : Method} {c : Code} (hx : p.tables.exec = Jvm.exec) (hby : c.code = prog_21_method_5_code) (hml : c.maxLocals = 9) (hown : s.vm.findClass cCV = some m.cls) (hZ : Z.Warmed39 s.vm) {kc ks : Nat} (a0 : Addr) (x1 : Slot) (p2 : Int32) (x3 : Slot) (x4 : Slot) (x5 : Slot) (x6 : Slot) (x7 : Slot) (p8 : Int32) (aK : Addr) (kK : ClassId) (nK : Int32) (h0 : Heap) (n0 : Nat) (Z0 : n0 ≤ h0.size) (F_coveredCounts_a0 : Fld Z h0 a0 cCV "coveredCounts" "[I" (.ref aK)) (V_aK : own_Any Z h0 aK kK .int nK) (E_aK : Exa Z h0 aK "[I") (g_aK : n0 ≤ aK) (hc4 : p2 = (0 : Int32)) :
    own_Seg p l e ({ frames := 1, cells := 1, slots := 2, locals := 20 } : Room) s m args below meth c n0 kc ks kc ks h0 (mkF m 237 #[vR a0, x1, vI p2, x3, x4, x5, x6, x7, vI p8] []) (fun h g => g = (mkF m 252 #[vR a0, x1, vI p2, x3, x4, x5, x6, x7, vI p8] []) ∧ h = h0) := by
  intro s₁ hT
  obtain ⟨Lz0, X0, e0, N0⟩ := hT
  refine ⟨_, _, _, ⟨rfl, rfl⟩, ⟨_, X0, e0, N0⟩, fun t hr => ?_⟩
  show Steps p.tables e below (s₁.setTop (mkF m 237 #[vR a0, x1, vI p2, x3, x4, x5, x6, x7, vI p8] [])) _
  refine XS.iloadN X0.here hx rfl (hb hby d7_237) rfl ?_
  refine XS.ifYes X0.here hx rfl (pc0 := 238) (pc' := 252) rfl (hb hby d7_238) rfl ((if0 _ _).trans (teq hc4).1) (by decide) (by decide) ?_
  exact hr
theorem d7_241 : decode prog_21_method_5_code 241 = .ok (.aload_n 0, 1) := by decide +kernel
theorem d7_242 : decode prog_21_method_5_code 242 = .ok (.getfield 32, 3) := by decide +kernel
theorem d7_245 : decode prog_21_method_5_code 245 = .ok (.iload 8, 2) := by decide +kernel
theorem d7_247 : decode prog_21_method_5_code 247 = .ok (.dup2, 1) := by decide +kernel
theorem d7_248 : decode prog_21_method_5_code 248 = .ok (.iaload, 1) := by decide +kernel
theorem d7_249 : decode prog_21_method_5_code 249 = .ok (.iconst 1, 1) := by decide +kernel
theorem d7_250 : decode prog_21_method_5_code 250 = .ok (.iadd, 1) := by decide +kernel
theorem d7_251 : decode prog_21_method_5_code 251 = .ok (.iastore, 1) := by decide +kernel
set_option maxRecDepth 65536 in
set_option maxHeartbeats 40000000 in
theorem sg02b (l : Launch) (Z : State) (az : Array Value) (hw : ∀ d ∈ tables_1, d.before az Z = true) {p : Program} {e : Env} {s : State} {m : MethodId} {args : Array Value} {below : List Frame} {meth : Method} {c : Code} (hx : p.tables.exec = Jvm.exec) (hby : c.code = prog_21_method_5_code) (hml : c.maxLocals = 9) (hown : s.vm.findClass cCV = some m.cls) (hZ : Z.Warmed39 s.vm) {kc ks : Nat} (a0 : Addr) (x1 : Slot) (p2 : Int32) (x3 : Slot) (x4 : Slot) (x5 : Slot) (x6 : Slot) (x7 : Slot) (p8 : Int32) (aK : Addr) (kK : ClassId) (nK : Int32) (h0 : Heap) (n0 : Nat) (Z0 : n0 ≤ h0.size) (F_coveredCounts_a0 : Fld Z h0 a0 cCV "coveredCounts" "[I" (.ref aK)) (V_aK : own_Any Z h0 aK kK .int nK) (E_aK : Exa Z h0 aK "[I") (g_aK : n0 ≤ aK) (hc4 : ¬ (p2 = (0 : Int32))) (hc5 : ¬ (p8 < (0 : Int32))) (hc6 : p8 < nK) :
    own_Seg p l e ({ frames := 1, cells := 1, slots := 2, locals := 20 } : Room) s m args below meth c n0 kc ks kc ks h0 (mkF m 237 #[vR a0, x1, vI p2, x3, x4, x5, x6, x7, vI p8] []) (fun h g => g = (mkF m 252 #[vR a0, x1, vI p2, x3, x4, x5, x6, x7, vI p8] []) ∧ Keep h0 h [aK] ∧ own_Any Z h aK kK .int nK ∧ Exa Z h aK "[I") := by
  intro s₁ hT
  obtain ⟨Lz0, X0, e0, N0⟩ := hT
  obtain ⟨T1, X1, e1, st1⟩ := getF X0 hx hZ hown (host := "") (Or.inl (w19 hw)) Via.refl e0 F_coveredCounts_a0 (g := (mkF m 242 #[vR a0, x1, vI p2, x3, x4, x5, x6, x7, vI p8] [(.ref a0)])) rfl rfl (hb hby d7_242)
  obtain ⟨ff2, cl2, Ar2, qk2, Sz2, Ng2, Hs2, Gf2⟩ := id V_aK
  have hin3 : ¬ (p8 < 0 ∨ cl2.slots.size ≤ (p8).toNatClampNeg) := inb_of Sz2 ⟨hc5, hc6⟩
  obtain ⟨lw4, hat4⟩ := own_any_at Hs2 Gf2 hin3 (Or.inl rfl)
  have hin5 : ¬ (p8 < 0 ∨ cl2.slots.size ≤ (p8).toNatClampNeg) := inb_of Sz2 ⟨hc5, hc6⟩
  obtain ⟨T6, h6, X6, e6, W6, st6⟩ := stI X1 hx hZ e1 Ar2 (j := p8) hin5 (g := (mkF m 251 #[vR a0, x1, vI p2, x3, x4, x5, x6, x7, vI p8] [(.int (lw4 + (1 : Int32))), (.int p8), (.ref aK)])) rfl rfl (hb hby d7_251)
  have K6 : Keep h0 h6 [aK] := (Keep.refl h0 [aK]).wr W6 (Or.inl (List.mem_of_getElem? (i := 0) rfl))
  have V_aK_6 : own_Any Z h6 aK kK .int nK := ⟨_, own_Arf.set (v := (.int (lw4 + (1 : Int32)))) Ar2 qk2 Sz2 Ng2 Hs2 Gf2 rfl W6⟩
  have Z6 : n0 ≤ h6.size := Nat.le_trans Z0 (Keep.of_wr W6).1
  obtain ⟨Lg6, X6', N6⟩ := own_gen X6 (Fr.snoc X6 N0 g_aK)
  have E_aK_u7 : Exa Z h6 aK "[I" := (E_aK.wr W6)
  refine ⟨_, _, _, ⟨rfl, K6, V_aK_6, E_aK_u7⟩, ⟨_, X6', e6, N6⟩, fun t hr => ?_⟩
  show Steps p.tables e below (s₁.setTop (mkF m 237 #[vR a0, x1, vI p2, x3, x4, x5, x6, x7, vI p8] [])) _
  refine XS.iloadN X0.here hx rfl (hb hby d7_237) rfl ?_
  refine XS.ifNo X0.here hx rfl (hb hby d7_238) rfl ((if0 _ _).trans (feq hc4).1) ?_
  refine XS.aloadN X0.here hx rfl (hb hby d7_241) rfl rfl ?_
  show Steps p.tables e below (s₁.setTop (mkF m 242 #[vR a0, x1, vI p2, x3, x4, x5, x6, x7, vI p8] [(.ref a0)])) _
  refine st1 _ ?_
  show Steps p.tables e below (T1.setTop (mkF m 245 #[vR a0, x1, vI p2, x3, x4, x5, x6, x7, vI p8] [(.ref aK)])) _
  refine XS.iload X1.here hx rfl (hb hby d7_245) rfl ?_
  show Steps p.tables e below (T1.setTop (mkF m 247 #[vR a0, x1, vI p2, x3, x4, x5, x6, x7, vI p8] [(.int p8), (.ref aK)])) _
  refine Jvm.Free.XT.dup2 X1.here hx rfl (hb hby d7_247) rfl rfl rfl ?_
  show Steps p.tables e below (T1.setTop (mkF m 248 #[vR a0, x1, vI p2, x3, x4, x5, x6, x7, vI p8] [(.int p8), (.ref aK), (.int p8), (.ref aK)])) _
  refine X1.iaload hx (j := p8) (v := (.int lw4)) (by rw [e1]; exact Ar2.1) (State.isArrayOf_alike hZ.alike Ar2.2.1) Ar2.2.2 hin3 hat4 (g := (mkF m 248 #[vR a0, x1, vI p2, x3, x4, x5, x6, x7, vI p8] [(.int p8), (.ref aK), (.int p8), (.ref aK)])) rfl rfl (hb hby d7_248) _ ?_
  show Steps p.tables e below (T1.setTop (mkF m 249 #[vR a0, x1, vI p2, x3, x4, x5, x6, x7, vI p8] [(.int lw4), (.int p8), (.ref aK)])) _
  refine XS.iconst X1.here hx rfl (hb hby d7_249) ?_
  refine XS.iadd X1.here hx rfl (hb hby d7_250) rfl ?_
  show Steps p.tables e below (T1.setTop (mkF m 251 #[vR a0, x1, vI p2, x3, x4, x5, x6, x7, vI p8] [(.int (lw4 + (1 : Int32))), (.int p8), (.ref aK)])) _
  refine st6 _ ?_
  exact hr
set_option maxRecDepth 65536 in
set_option maxHeartbeats 40000000 in
theorem sg02 (l : Launch) (Z : State) (az : Array Value) (hw : ∀ d ∈ tables_1, d.before az Z = true) {p : Program} {e : Env} {s : State} {m : MethodId} {args : Array Value} {below : List Frame} {meth : Method} {c : Code} (hx : p.tables.exec = Jvm.exec) (hby : c.code = prog_21_method_5_code) (hml : c.maxLocals = 9) (hown : s.vm.findClass cCV = some m.cls) (hZ : Z.Warmed39 s.vm) {kc ks : Nat} (a0 : Addr) (x1 : Slot) (p2 : Int32) (x3 : Slot) (x4 : Slot) (x5 : Slot) (x6 : Slot) (x7 : Slot) (p8 : Int32) (aK : Addr) (kK : ClassId) (nK : Int32) (h0 : Heap) (n0 : Nat) (Z0 : n0 ≤ h0.size) (F_coveredCounts_a0 : Fld Z h0 a0 cCV "coveredCounts" "[I" (.ref aK)) (V_aK : own_Any Z h0 aK kK .int nK) (E_aK : Exa Z h0 aK "[I") (g_aK : n0 ≤ aK) (hj4 : ¬ (p8 < (0 : Int32))) (hj5 : p8 < nK) :
    own_Seg p l e ({ frames := 1, cells := 1, slots := 2, locals := 20 } : Room) s m args below meth c n0 kc ks kc ks h0 (mkF m 237 #[vR a0, x1, vI p2, x3, x4, x5, x6, x7, vI p8] []) (fun h g => g = (mkF m 252 #[vR a0, x1, vI p2, x3, x4, x5, x6, x7, vI p8] []) ∧ Keep h0 h [aK] ∧ own_Any Z h aK kK .int nK ∧ Exa Z h aK "[I") := by
  by_cases hJ : p2 = (0 : Int32)
  · refine own_Seg.mono (sg02a l Z az hw hx hby hml hown hZ a0 x1 p2 x3 x4 x5 x6 x7 p8 aK kK nK h0 n0 Z0 F_coveredCounts_a0 V_aK E_aK g_aK hJ) fun h g q => ?_
    obtain ⟨rfl, rfl⟩ := q
    exact ⟨rfl, Keep.refl _ _, V_aK, E_aK⟩
  · exact sg02b l Z az hw hx hby hml hown hZ a0 x1 p2 x3 x4 x5 x6 x7 p8 aK kK nK h0 n0 Z0 F_coveredCounts_a0 V_aK E_aK g_aK hJ hj4 hj5
theorem d7_0 : decode prog_21_method_5_code 0 = .ok (.aload_n 1, 1) := by decide +kernel
theorem d7_1 : decode prog_21_method_5_code 1 = .ok (.arraylength, 1) := by decide +kernel
theorem d7_2 : decode prog_21_method_5_code 2 = .ok (.aload_n 0, 1) := by decide +kernel
theorem d7_3 : decode prog_21_method_5_code 3 = .ok (.getfield 16, 3) := by decide +kernel
theorem d7_6 : decode prog_21_method_5_code 6 = .ok (.if_icmp .eq 22, 3) := by decide +kernel
theorem d7_28 : decode prog_21_method_5_code 28 = .ok (.aload_n 0, 1) := by decide +kernel
theorem d7_29 : decode prog_21_method_5_code 29 = .ok (.getfield 16, 3) := by decide +kernel
theorem d7_32 : decode prog_21_method_5_code 32 = .ok (.newarray .int, 2) := by decide +kernel
theorem d7_34 : decode prog_21_method_5_code 34 = .ok (.astore_n 3, 1) := by decide +kernel
theorem d7_35 : decode prog_21_method_5_code 35 = .ok (.iconst 0, 1) := by decide +kernel
theorem d7_36 : decode prog_21_method_5_code 36 = .ok (.istore 4, 2) := by decide +kernel
theorem d7_38 : decode prog_21_method_5_code 38 = .ok (.iload 4, 2) := by decide +kernel
theorem d7_40 : decode prog_21_method_5_code 40 = .ok (.aload_n 0, 1) := by decide +kernel
theorem d7_41 : decode prog_21_method_5_code 41 = .ok (.getfield 16, 3) := by decide +kernel
theorem d7_44 : decode prog_21_method_5_code 44 = .ok (.if_icmp .ge 52, 3) := by decide +kernel
theorem d7_47 : decode prog_21_method_5_code 47 = .ok (.aload_n 1, 1) := by decide +kernel
theorem d7_48 : decode prog_21_method_5_code 48 = .ok (.iload 4, 2) := by decide +kernel
theorem d7_50 : decode prog_21_method_5_code 50 = .ok (.iaload, 1) := by decide +kernel
theorem d7_51 : decode prog_21_method_5_code 51 = .ok (.istore 5, 2) := by decide +kernel
theorem d7_79 : decode prog_21_method_5_code 79 = .ok (.aload_n 3, 1) := by decide +kernel
theorem d7_80 : decode prog_21_method_5_code 80 = .ok (.iload 4, 2) := by decide +kernel
theorem d7_82 : decode prog_21_method_5_code 82 = .ok (.iconst 2, 1) := by decide +kernel
theorem d7_83 : decode prog_21_method_5_code 83 = .ok (.iload 4, 2) := by decide +kernel
theorem d7_85 : decode prog_21_method_5_code 85 = .ok (.imul, 1) := by decide +kernel
theorem d7_86 : decode prog_21_method_5_code 86 = .ok (.iload 5, 2) := by decide +kernel
theorem d7_88 : decode prog_21_method_5_code 88 = .ok (.iadd, 1) := by decide +kernel
theorem d7_89 : decode prog_21_method_5_code 89 = .ok (.iastore, 1) := by decide +kernel
theorem d7_90 : decode prog_21_method_5_code 90 = .ok (.iinc 4 1, 3) := by decide +kernel
theorem d7_93 : decode prog_21_method_5_code 93 = .ok (.goto (-55), 3) := by decide +kernel
theorem d7_96 : decode prog_21_method_5_code 96 = .ok (.aload_n 0, 1) := by decide +kernel
theorem d7_97 : decode prog_21_method_5_code 97 = .ok (.getfield 50, 3) := by decide +kernel
theorem d7_100 : decode prog_21_method_5_code 100 = .ok (.aload_n 0, 1) := by decide +kernel
theorem d7_101 : decode prog_21_method_5_code 101 = .ok (.getfield 24, 3) := by decide +kernel
theorem d7_104 : decode prog_21_method_5_code 104 = .ok (.arraylength, 1) := by decide +kernel
theorem d7_105 : decode prog_21_method_5_code 105 = .ok (.if_icmp .ne 45, 3) := by decide +kernel
theorem d7_150 : decode prog_21_method_5_code 150 = .ok (.aload_n 0, 1) := by decide +kernel
theorem d7_151 : decode prog_21_method_5_code 151 = .ok (.invokevirtual 74, 3) := by decide +kernel
theorem pd_0 : parseMethodDescriptor "()V" = some ⟨[], none⟩ := by decide +kernel
theorem d7_154 : decode prog_21_method_5_code 154 = .ok (.aload_n 0, 1) := by decide +kernel
theorem d7_155 : decode prog_21_method_5_code 155 = .ok (.dup, 1) := by decide +kernel
theorem d7_156 : decode prog_21_method_5_code 156 = .ok (.getfield 50, 3) := by decide +kernel
theorem d7_159 : decode prog_21_method_5_code 159 = .ok (.dup_x1, 1) := by decide +kernel
theorem d7_160 : decode prog_21_method_5_code 160 = .ok (.iconst 1, 1) := by decide +kernel
theorem d7_161 : decode prog_21_method_5_code 161 = .ok (.iadd, 1) := by decide +kernel
theorem d7_162 : decode prog_21_method_5_code 162 = .ok (.putfield 50, 3) := by decide +kernel
theorem d7_165 : decode prog_21_method_5_code 165 = .ok (.istore 4, 2) := by decide +kernel
theorem d7_167 : decode prog_21_method_5_code 167 = .ok (.aload_n 0, 1) := by decide +kernel
theorem d7_168 : decode prog_21_method_5_code 168 = .ok (.dup, 1) := by decide +kernel
theorem d7_169 : decode prog_21_method_5_code 169 = .ok (.getfield 53, 3) := by decide +kernel
theorem sl_48 {Z : State} {az : Array Value} (hw : ∀ d ∈ tables_1, d.before az Z = true) : Jvm.RoadKit.slotOf Z cCV "remainingCount" "I" ≠ Jvm.RoadKit.slotOf Z cCV "rowCount" "I" := slot_ne (Z := Z) (Or.inl (w55 hw)) (Or.inl (w41 hw)) (by decide) (t := .int) (t' := .int) (by decide) (by decide)
theorem d7_172 : decode prog_21_method_5_code 172 = .ok (.iconst 1, 1) := by decide +kernel
theorem d7_173 : decode prog_21_method_5_code 173 = .ok (.iadd, 1) := by decide +kernel
theorem d7_174 : decode prog_21_method_5_code 174 = .ok (.putfield 53, 3) := by decide +kernel
theorem d7_177 : decode prog_21_method_5_code 177 = .ok (.aload_n 0, 1) := by decide +kernel
theorem d7_178 : decode prog_21_method_5_code 178 = .ok (.getfield 24, 3) := by decide +kernel
theorem sl_49 {Z : State} {az : Array Value} (hw : ∀ d ∈ tables_1, d.before az Z = true) : Jvm.RoadKit.slotOf Z cCV "openPairs" "[[I" ≠ Jvm.RoadKit.slotOf Z cCV "rowCount" "I" := slot_ne (Z := Z) (Or.inl (w14 hw)) (Or.inl (w41 hw)) (by decide) (t := (.array (.array .int))) (t' := .int) (by decide) (by decide)
theorem sl_50 {Z : State} {az : Array Value} (hw : ∀ d ∈ tables_1, d.before az Z = true) : Jvm.RoadKit.slotOf Z cCV "openPairs" "[[I" ≠ Jvm.RoadKit.slotOf Z cCV "remainingCount" "I" := slot_ne (Z := Z) (Or.inl (w14 hw)) (Or.inl (w55 hw)) (by decide) (t := (.array (.array .int))) (t' := .int) (by decide) (by decide)
theorem d7_181 : decode prog_21_method_5_code 181 = .ok (.iload 4, 2) := by decide +kernel
theorem d7_183 : decode prog_21_method_5_code 183 = .ok (.aload_n 3, 1) := by decide +kernel
theorem d7_184 : decode prog_21_method_5_code 184 = .ok (.aastore, 1) := by decide +kernel
theorem d7_185 : decode prog_21_method_5_code 185 = .ok (.aload_n 3, 1) := by decide +kernel
theorem d7_186 : decode prog_21_method_5_code 186 = .ok (.astore 5, 2) := by decide +kernel
theorem d7_188 : decode prog_21_method_5_code 188 = .ok (.aload 5, 2) := by decide +kernel
theorem d7_190 : decode prog_21_method_5_code 190 = .ok (.arraylength, 1) := by decide +kernel
theorem d7_191 : decode prog_21_method_5_code 191 = .ok (.istore 6, 2) := by decide +kernel
theorem d7_193 : decode prog_21_method_5_code 193 = .ok (.iconst 0, 1) := by decide +kernel
theorem d7_194 : decode prog_21_method_5_code 194 = .ok (.istore 7, 2) := by decide +kernel
theorem d7_196 : decode prog_21_method_5_code 196 = .ok (.iload 7, 2) := by decide +kernel
theorem d7_198 : decode prog_21_method_5_code 198 = .ok (.iload 6, 2) := by decide +kernel
theorem d7_200 : decode prog_21_method_5_code 200 = .ok (.if_icmp .ge 58, 3) := by decide +kernel
theorem d7_203 : decode prog_21_method_5_code 203 = .ok (.aload 5, 2) := by decide +kernel
theorem d7_205 : decode prog_21_method_5_code 205 = .ok (.iload 7, 2) := by decide +kernel
theorem d7_207 : decode prog_21_method_5_code 207 = .ok (.iaload, 1) := by decide +kernel
theorem d7_208 : decode prog_21_method_5_code 208 = .ok (.istore 8, 2) := by decide +kernel
theorem d7_210 : decode prog_21_method_5_code 210 = .ok (.aload_n 0, 1) := by decide +kernel
theorem d7_211 : decode prog_21_method_5_code 211 = .ok (.getfield 35, 3) := by decide +kernel
theorem sl_51 {Z : State} {az : Array Value} (hw : ∀ d ∈ tables_1, d.before az Z = true) : Jvm.RoadKit.slotOf Z cCV "openCounts" "[I" ≠ Jvm.RoadKit.slotOf Z cCV "rowCount" "I" := slot_ne (Z := Z) (Or.inr (w22 hw)) (Or.inl (w41 hw)) (by decide) (t := (.array .int)) (t' := .int) (by decide) (by decide)
theorem sl_52 {Z : State} {az : Array Value} (hw : ∀ d ∈ tables_1, d.before az Z = true) : Jvm.RoadKit.slotOf Z cCV "openCounts" "[I" ≠ Jvm.RoadKit.slotOf Z cCV "remainingCount" "I" := slot_ne (Z := Z) (Or.inr (w22 hw)) (Or.inl (w55 hw)) (by decide) (t := (.array .int)) (t' := .int) (by decide) (by decide)
theorem d7_214 : decode prog_21_method_5_code 214 = .ok (.iload 8, 2) := by decide +kernel
theorem d7_216 : decode prog_21_method_5_code 216 = .ok (.dup2, 1) := by decide +kernel
theorem d7_217 : decode prog_21_method_5_code 217 = .ok (.iaload, 1) := by decide +kernel
theorem d7_218 : decode prog_21_method_5_code 218 = .ok (.iconst 1, 1) := by decide +kernel
theorem d7_219 : decode prog_21_method_5_code 219 = .ok (.iadd, 1) := by decide +kernel
theorem d7_220 : decode prog_21_method_5_code 220 = .ok (.iastore, 1) := by decide +kernel
theorem d7_221 : decode prog_21_method_5_code 221 = .ok (.aload_n 0, 1) := by decide +kernel
theorem d7_222 : decode prog_21_method_5_code 222 = .ok (.getfield 38, 3) := by decide +kernel
theorem sl_53 {Z : State} {az : Array Value} (hw : ∀ d ∈ tables_1, d.before az Z = true) : Jvm.RoadKit.slotOf Z cCV "ones" "[I" ≠ Jvm.RoadKit.slotOf Z cCV "rowCount" "I" := slot_ne (Z := Z) (Or.inr (w24 hw)) (Or.inl (w41 hw)) (by decide) (t := (.array .int)) (t' := .int) (by decide) (by decide)
theorem sl_54 {Z : State} {az : Array Value} (hw : ∀ d ∈ tables_1, d.before az Z = true) : Jvm.RoadKit.slotOf Z cCV "ones" "[I" ≠ Jvm.RoadKit.slotOf Z cCV "remainingCount" "I" := slot_ne (Z := Z) (Or.inr (w24 hw)) (Or.inl (w55 hw)) (by decide) (t := (.array .int)) (t' := .int) (by decide) (by decide)
theorem d7_225 : decode prog_21_method_5_code 225 = .ok (.iload 8, 2) := by decide +kernel
theorem d7_227 : decode prog_21_method_5_code 227 = .ok (.iconst 2, 1) := by decide +kernel
theorem d7_228 : decode prog_21_method_5_code 228 = .ok (.idiv, 1) := by decide +kernel
theorem d7_229 : decode prog_21_method_5_code 229 = .ok (.dup2, 1) := by decide +kernel
theorem d7_230 : decode prog_21_method_5_code 230 = .ok (.iaload, 1) := by decide +kernel
theorem d7_231 : decode prog_21_method_5_code 231 = .ok (.iload 8, 2) := by decide +kernel
theorem d7_233 : decode prog_21_method_5_code 233 = .ok (.iconst 2, 1) := by decide +kernel
theorem d7_234 : decode prog_21_method_5_code 234 = .ok (.irem, 1) := by decide +kernel
theorem d7_235 : decode prog_21_method_5_code 235 = .ok (.iadd, 1) := by decide +kernel
theorem d7_236 : decode prog_21_method_5_code 236 = .ok (.iastore, 1) := by decide +kernel
theorem sl_55 {Z : State} {az : Array Value} (hw : ∀ d ∈ tables_1, d.before az Z = true) : Jvm.RoadKit.slotOf Z cCV "coveredCounts" "[I" ≠ Jvm.RoadKit.slotOf Z cCV "rowCount" "I" := slot_ne (Z := Z) (Or.inr (w20 hw)) (Or.inl (w41 hw)) (by decide) (t := (.array .int)) (t' := .int) (by decide) (by decide)
theorem sl_56 {Z : State} {az : Array Value} (hw : ∀ d ∈ tables_1, d.before az Z = true) : Jvm.RoadKit.slotOf Z cCV "coveredCounts" "[I" ≠ Jvm.RoadKit.slotOf Z cCV "remainingCount" "I" := slot_ne (Z := Z) (Or.inr (w20 hw)) (Or.inl (w55 hw)) (by decide) (t := (.array .int)) (t' := .int) (by decide) (by decide)
theorem d7_252 : decode prog_21_method_5_code 252 = .ok (.iinc 7 1, 3) := by decide +kernel
theorem d7_255 : decode prog_21_method_5_code 255 = .ok (.goto (-59), 3) := by decide +kernel
theorem d7_258 : decode prog_21_method_5_code 258 = .ok (.aload_n 0, 1) := by decide +kernel
theorem d7_259 : decode prog_21_method_5_code 259 = .ok (.getfield 28, 3) := by decide +kernel
theorem sl_57 {Z : State} {az : Array Value} (hw : ∀ d ∈ tables_1, d.before az Z = true) : Jvm.RoadKit.slotOf Z cCV "covered" "[Z" ≠ Jvm.RoadKit.slotOf Z cCV "rowCount" "I" := slot_ne (Z := Z) (Or.inl (w17 hw)) (Or.inl (w41 hw)) (by decide) (t := (.array .boolean)) (t' := .int) (by decide) (by decide)
theorem sl_58 {Z : State} {az : Array Value} (hw : ∀ d ∈ tables_1, d.before az Z = true) : Jvm.RoadKit.slotOf Z cCV "covered" "[Z" ≠ Jvm.RoadKit.slotOf Z cCV "remainingCount" "I" := slot_ne (Z := Z) (Or.inl (w17 hw)) (Or.inl (w55 hw)) (by decide) (t := (.array .boolean)) (t' := .int) (by decide) (by decide)
theorem d7_262 : decode prog_21_method_5_code 262 = .ok (.iload 4, 2) := by decide +kernel
theorem d7_264 : decode prog_21_method_5_code 264 = .ok (.iload_n 2, 1) := by decide +kernel
theorem d7_265 : decode prog_21_method_5_code 265 = .ok (.bastore, 1) := by decide +kernel
theorem d7_266 : decode prog_21_method_5_code 266 = .ok (.iload 4, 2) := by decide +kernel
theorem d7_268 : decode prog_21_method_5_code 268 = .ok (.ireturn, 1) := by decide +kernel
theorem sl_59 {Z : State} {az : Array Value} (hw : ∀ d ∈ tables_1, d.before az Z = true) : Jvm.RoadKit.slotOf Z cCV "labelCount" "I" ≠ Jvm.RoadKit.slotOf Z cCV "rowCount" "I" := slot_ne (Z := Z) (Or.inr (w10 hw)) (Or.inl (w41 hw)) (by decide) (t := .int) (t' := .int) (by decide) (by decide)
theorem sl_60 {Z : State} {az : Array Value} (hw : ∀ d ∈ tables_1, d.before az Z = true) : Jvm.RoadKit.slotOf Z cCV "labelCount" "I" ≠ Jvm.RoadKit.slotOf Z cCV "remainingCount" "I" := slot_ne (Z := Z) (Or.inr (w10 hw)) (Or.inl (w55 hw)) (by decide) (t := .int) (t' := .int) (by decide) (by decide)
theorem sl_61 {Z : State} {az : Array Value} (hw : ∀ d ∈ tables_1, d.before az Z = true) : Jvm.RoadKit.slotOf Z cCV "rowCount" "I" ≠ Jvm.RoadKit.slotOf Z cCV "remainingCount" "I" := slot_ne (Z := Z) (Or.inl (w41 hw)) (Or.inl (w55 hw)) (by decide) (t := .int) (t' := .int) (by decide) (by decide)
theorem sl_62 {Z : State} {az : Array Value} (hw : ∀ d ∈ tables_1, d.before az Z = true) : Jvm.RoadKit.slotOf Z cCV "pairsShared" "Z" ≠ Jvm.RoadKit.slotOf Z cCV "rowCount" "I" := slot_ne (Z := Z) (Or.inl (w53 hw)) (Or.inl (w41 hw)) (by decide) (t := .boolean) (t' := .int) (by decide) (by decide)
theorem sl_63 {Z : State} {az : Array Value} (hw : ∀ d ∈ tables_1, d.before az Z = true) : Jvm.RoadKit.slotOf Z cCV "pairsShared" "Z" ≠ Jvm.RoadKit.slotOf Z cCV "remainingCount" "I" := slot_ne (Z := Z) (Or.inl (w53 hw)) (Or.inl (w55 hw)) (by decide) (t := .boolean) (t' := .int) (by decide) (by decide)
theorem ef_rm71 (m : MethodId) (a0 : Addr) (a1 : Addr) (p2 : Int32) : entryFrame m #[(.ref a0), (.ref a1), (.int p2)] 9 = mkF m 0 #[vR a0, vR a1, vI p2, .unset, .unset, .unset, .unset, .unset, .unset] [] := by first | (simp [entryFrame, mkF, argsToLocals, Value.category]; done) | rfl
def Q71 (Z : State) (a0 : Addr) (a1 : Addr) (p2 : Int32) (rc : Int32) (rem : Int32) (aP : Addr) (kP : ClassId) (fP : Nat → Value) (aC : Addr) (kC : ClassId) (aK : Addr) (kK : ClassId) (nK : Int32) (aO : Addr) (kO : ClassId) (aN : Addr) (kN : ClassId) (nN : Int32) (k1 : ClassId) (v0 : Int32) (h0 : Heap) (n0 : Nat) (v : Option Value) (h : Heap) (L : List Loc) : Prop := ∃ r0 : Addr, ∃ rk0 : ClassId, v = some (.int rc) ∧ Fr n0 L ∧ h0.size ≤ r0 ∧ Keep h0 h [a0, aP, aO, aN, aK, aC] ∧ Exa Z h a0 cCV ∧ Fld Z h a0 cCV "labelCount" "I" (.int (1 : Int32)) ∧ Fld Z h a0 cCV "rowCount" "I" (.int (rc + (1 : Int32))) ∧ Fld Z h a0 cCV "pairsShared" "Z" (.int (0 : Int32)) ∧ Fld Z h a0 cCV "remainingCount" "I" (.int (rem + (1 : Int32))) ∧ Fld Z h a0 cCV "openPairs" "[[I" (.ref aP) ∧ Fld Z h a0 cCV "covered" "[Z" (.ref aC) ∧ Fld Z h a0 cCV "coveredCounts" "[I" (.ref aK) ∧ Fld Z h a0 cCV "openCounts" "[I" (.ref aO) ∧ Fld Z h a0 cCV "ones" "[I" (.ref aN) ∧ own_Arf Z h aP kP (.array .int) (8 : Int32) (own_upd fP (rc).toNatClampNeg (.ref r0)) ∧ Exa Z h aP "[[I" ∧ own_Any Z h aO kO .int nK ∧ Exa Z h aO "[I" ∧ own_Any Z h aN kN .int nN ∧ Exa Z h aN "[I" ∧ Exa Z h aK "[I" ∧ own_Any Z h aK kK .int nK ∧ own_Any Z h aC kC .boolean (8 : Int32) ∧ Exa Z h aC "[Z" ∧ Exa Z h r0 "[I" ∧ Arv Z h r0 rk0 .int (1 : Int32) [(.int ((0 : Int32) + v0))] (.int (0 : Int32))
set_option maxRecDepth 65536 in
set_option maxHeartbeats 40000000 in
theorem rm71 (l : Launch) (Z : State) (az : Array Value) (hw : ∀ d ∈ tables_1, d.before az Z = true) (ws : List Jvm.Cond) (a0 : Addr) (a1 : Addr) (p2 : Int32) (rc : Int32) (rem : Int32) (aP : Addr) (kP : ClassId) (fP : Nat → Value) (aC : Addr) (kC : ClassId) (aK : Addr) (kK : ClassId) (nK : Int32) (aO : Addr) (kO : ClassId) (aN : Addr) (kN : ClassId) (nN : Int32) (k1 : ClassId) (v0 : Int32) (h0 : Heap) (n0 : Nat) (Z0 : n0 ≤ h0.size) (E_a0 : Exa Z h0 a0 cCV) (F_labelCount_a0 : Fld Z h0 a0 cCV "labelCount" "I" (.int (1 : Int32))) (F_rowCount_a0 : Fld Z h0 a0 cCV "rowCount" "I" (.int rc)) (F_pairsShared_a0 : Fld Z h0 a0 cCV "pairsShared" "Z" (.int (0 : Int32))) (F_remainingCount_a0 : Fld Z h0 a0 cCV "remainingCount" "I" (.int rem)) (F_openPairs_a0 : Fld Z h0 a0 cCV "openPairs" "[[I" (.ref aP)) (V_aP : own_Arf Z h0 aP kP (.array .int) (8 : Int32) fP) (E_aP : Exa Z h0 aP "[[I") (F_covered_a0 : Fld Z h0 a0 cCV "covered" "[Z" (.ref aC)) (V_aC : own_Any Z h0 aC kC .boolean (8 : Int32)) (E_aC : Exa Z h0 aC "[Z") (F_coveredCounts_a0 : Fld Z h0 a0 cCV "coveredCounts" "[I" (.ref aK)) (V_aK : own_Any Z h0 aK kK .int nK) (E_aK : Exa Z h0 aK "[I") (F_openCounts_a0 : Fld Z h0 a0 cCV "openCounts" "[I" (.ref aO)) (V_aO : own_Any Z h0 aO kO .int nK) (E_aO : Exa Z h0 aO "[I") (F_ones_a0 : Fld Z h0 a0 cCV "ones" "[I" (.ref aN)) (V_aN : own_Any Z h0 aN kN .int nN) (E_aN : Exa Z h0 aN "[I") (O_kP : OvrA Z kP .int "[I") (V_a1 : Arv Z h0 a1 k1 .int (1 : Int32) [(.int v0)] (.int (0 : Int32))) (hc22 : v0 = (0 : Int32) ∨ v0 = (1 : Int32)) (hc23 : ¬ (rc = (8 : Int32))) (g_a0 : n0 ≤ a0) (hc25 : ¬ (rc < (0 : Int32))) (hc26 : rc < (8 : Int32)) (g_aP : n0 ≤ aP) (hc28 : ¬ (((0 : Int32) + v0) < (0 : Int32))) (hc29 : ((0 : Int32) + v0) < nK) (g_aO : n0 ≤ aO) (hne_aN_aO : aN ≠ aO) (hc32 : ¬ ((((0 : Int32) + v0) / (2 : Int32)) < (0 : Int32))) (hc33 : (((0 : Int32) + v0) / (2 : Int32)) < nN) (g_aN : n0 ≤ aN) (hne_aK_aO : aK ≠ aO) (hne_aK_aN : aK ≠ aN) (g_aK : n0 ≤ aK) (hc38 : nar .boolean p2 = p2) (g_aC : n0 ≤ aC) :
    MetFree l (⟨cCV, "addRow", "([IZ)I"⟩ : MethodName) (head1 (Jvm.Cond.code (⟨cCV, "addRow", "([IZ)I"⟩ : MethodName) prog_21_method_5_code 9 (some .int) :: ws) ({ frames := 1, cells := 1, slots := 2, locals := 20 } : Room)) (fun a U => a = #[(.ref a0), (.ref a1), (.int p2)] ∧ Z.Warmed39 U.vm ∧ U.heap = h0) (fun _ _ _ _ _ => True) (fun _ U o U' => ∃ v L, o = .returned v ∧ Q71 Z a0 a1 p2 rc rem aP kP fP aC kC aK kK nK aO kO aN kN nN k1 v0 h0 n0 v U'.heap L ∧ FrameEnd U o U' L ({ frames := 1, cells := 1, slots := 2, locals := 20 } : Room).cells ({ frames := 1, cells := 1, slots := 2, locals := 20 } : Room).slots) := by
  refine MetFree.of_bodySF (plainFor_of_name pn_com_example_headlattice_headlattice_learn_Coverage) hisR ?_
  intro p e s m args below meth c s₁ Bd hml0 hP hK
  obtain ⟨rfl, hZ, hh⟩ := hP
  have hx := Bd.exec
  have hby := Bd.bytes
  have hml : c.maxLocals = 9 := hml0
  have hown : s.vm.findClass cCV = some m.cls := findClass_of_methodNamed Bd.named
  have hnm := (name_of_methodNamed Bd.named Bd.method).1
  have X0 : Stand p l e ({ frames := 1, cells := 1, slots := 2, locals := 20 } : Room) s m #[(.ref a0), (.ref a1), (.int p2)] below meth c s₁ [] 0 0 := Stand.of_body Bd
  have e0 : s₁.heap = h0 := by rw [← hh, Bd.state]; rfl
  have N0 := Fr.nil n0
  have pre0 : ∀ t, Steps p.tables e below (s₁.setTop (mkF m 0 #[vR a0, vR a1, vI p2, .unset, .unset, .unset, .unset, .unset, .unset] [])) t → Steps p.tables e below (s₁.setTop (entryFrame m #[(.ref a0), (.ref a1), (.int p2)] 9)) t := fun t k => castTop (ef_rm71 m a0 a1 p2) k
  obtain ⟨cl1, Ar1, qk1, Sz1, Ng1, Hs1, Gf1⟩ := id V_a1
  obtain ⟨T2, X2, e2, st2⟩ := getF X0 hx hZ hown (host := "") (Or.inl (w9 hw)) Via.refl e0 F_labelCount_a0 (g := (mkF m 3 #[vR a0, vR a1, vI p2, .unset, .unset, .unset, .unset, .unset, .unset] [(.ref a0), (.int (1 : Int32))])) rfl rfl (hb hby d7_3)
  obtain ⟨T3, X3, e3, st3⟩ := getF X2 hx hZ hown (host := "") (Or.inl (w9 hw)) Via.refl e2 F_labelCount_a0 (g := (mkF m 29 #[vR a0, vR a1, vI p2, .unset, .unset, .unset, .unset, .unset, .unset] [(.ref a0)])) rfl rfl (hb hby d7_29)
  obtain ⟨T4, h4, k4, X4, e4, E4, A4, x4, st4⟩ := newPE X3 hx hZ (aty := .int) (w18 hw) e3 (g := (mkF m 32 #[vR a0, vR a1, vI p2, .unset, .unset, .unset, .unset, .unset, .unset] [(.int (1 : Int32))])) rfl (hb hby d7_32) rfl (by decide) (cap := 1) (by decide) (by decide) (by decide) (by decide) (ad := "[I") (by decide)
  obtain ⟨b4, g4⟩ : ∃ z, z = h0.size := ⟨_, rfl⟩
  rw [← g4] at A4 x4 st4
  have g_b4 : n0 ≤ b4 := Nat.le_trans Z0 (Nat.le_of_eq g4.symm)
  have sz_b4 : h0.size ≤ b4 := Nat.le_trans (Nat.le_refl _) (Nat.le_of_eq g4.symm)
  have Z4 : n0 ≤ h4.size := Nat.le_trans Z0 E4.1
  have K4 : Keep h0 h4 [a0, aP, aO, aN, aK, aC] := (Keep.refl h0 [a0, aP, aO, aN, aK, aC]).ext E4
  have E_b4 := x4
  have V_b4 : Arv Z h4 b4 k4 .int (1 : Int32) [(.int (0 : Int32))] (.int (0 : Int32)) := (Arv.new A4 (by decide)).pad (pad_rep [] (.int (0 : Int32)) 1)
  have F_a0_labelCount_u5 : Fld Z h4 a0 cCV "labelCount" "I" (.int (1 : Int32)) := (F_labelCount_a0.ext E4)
  obtain ⟨T6, X6, e6, st6⟩ := getF X4 hx hZ hown (host := "") (Or.inl (w9 hw)) Via.refl e4 F_a0_labelCount_u5 (g := (mkF m 41 #[vR a0, vR a1, vI p2, vR b4, vI (0 : Int32), .unset, .unset, .unset, .unset] [(.ref a0), (.int (0 : Int32))])) rfl rfl (hb hby d7_41)
  have V_a1_u7 : Arv Z h4 a1 k1 .int (1 : Int32) [(.int v0)] (.int (0 : Int32)) := (V_a1.ext E4)
  obtain ⟨cl8, Ar8, qk8, Sz8, Ng8, Hs8, Gf8⟩ := id V_a1_u7
  have hin9 : ¬ ((0 : Int32) < 0 ∨ cl8.slots.size ≤ ((0 : Int32)).toNatClampNeg) := inb_of Sz8 ⟨by decide, by decide⟩
  have hat10 : cl8.slots[((0 : Int32)).toNatClampNeg]? = some (.int v0) := Hs8.at hin9 rfl
  obtain ⟨T11, hs11, g11, ⟨rfl, es11⟩, ⟨Lg11, X11, e11, N11⟩, st11⟩ := sg01 l Z az hw hx hby hml hown hZ a0 a1 p2 b4 (0 : Int32) v0 h4 n0 Z4 hc22 T6 ⟨_, X6, e6, N0⟩
  rw [es11] at e11
  obtain ⟨cl12, Ar12, qk12, Sz12, Ng12, Hs12, Gf12⟩ := id V_b4
  have hin13 : ¬ ((0 : Int32) < 0 ∨ cl12.slots.size ≤ ((0 : Int32)).toNatClampNeg) := inb_of Sz12 ⟨by decide, by decide⟩
  obtain ⟨T14, h14, X14, e14, W14, st14⟩ := stI X11 hx hZ e11 Ar12 (j := (0 : Int32)) hin13 (g := (mkF m 89 #[vR a0, vR a1, vI p2, vR b4, vI (0 : Int32), vI v0, .unset, .unset, .unset] [(.int ((0 : Int32) + v0)), (.int (0 : Int32)), (.ref b4)])) rfl rfl (hb hby d7_89)
  have K14 : Keep h0 h14 [a0, aP, aO, aN, aK, aC] := K4.wr W14 (Or.inr sz_b4)
  have V_b4_14 : Arv Z h14 b4 k4 .int (1 : Int32) [(.int ((0 : Int32) + v0))] (.int (0 : Int32)) := Arv.set (v := (.int ((0 : Int32) + v0))) Ar12 qk12 Sz12 Ng12 Hs12 Gf12 rfl W14 0 rfl (Nat.le_of_ble_eq_true rfl)
  have Z14 : n0 ≤ h14.size := Nat.le_trans Z4 (Keep.of_wr W14).1
  obtain ⟨Lg14, X14', N14⟩ := own_gen X14 (Fr.snoc X14 N11 g_b4)
  have ne_a0_b4 : a0 ≠ b4 := own_ne (Nat.lt_of_lt_of_le E_a0.lt (Nat.le_of_eq g4.symm))
  have F_a0_labelCount_u15 : Fld Z h14 a0 cCV "labelCount" "I" (.int (1 : Int32)) := (F_a0_labelCount_u5.other W14 (Or.inl ne_a0_b4))
  obtain ⟨T16, X16, e16, st16⟩ := getF X14' hx hZ hown (host := "") (Or.inl (w9 hw)) Via.refl e14 F_a0_labelCount_u15 (g := (mkF m 41 #[vR a0, vR a1, vI p2, vR b4, vI (1 : Int32), vI v0, .unset, .unset, .unset] [(.ref a0), (.int (1 : Int32))])) rfl rfl (hb hby d7_41)
  have F_a0_rowCount_u17 : Fld Z h14 a0 cCV "rowCount" "I" (.int rc) := ((F_rowCount_a0.ext E4).other W14 (Or.inl ne_a0_b4))
  obtain ⟨T18, X18, e18, st18⟩ := getF X16 hx hZ hown (host := "") (Or.inl (w40 hw)) Via.refl e16 F_a0_rowCount_u17 (g := (mkF m 97 #[vR a0, vR a1, vI p2, vR b4, vI (1 : Int32), vI v0, .unset, .unset, .unset] [(.ref a0)])) rfl rfl (hb hby d7_97)
  have F_a0_openPairs_u19 : Fld Z h14 a0 cCV "openPairs" "[[I" (.ref aP) := ((F_openPairs_a0.ext E4).other W14 (Or.inl ne_a0_b4))
  obtain ⟨T20, X20, e20, st20⟩ := getF X18 hx hZ hown (host := "") (Or.inl (w13 hw)) Via.refl e18 F_a0_openPairs_u19 (g := (mkF m 101 #[vR a0, vR a1, vI p2, vR b4, vI (1 : Int32), vI v0, .unset, .unset, .unset] [(.ref a0), (.int rc)])) rfl rfl (hb hby d7_101)
  have ne_aP_b4 : aP ≠ b4 := own_ne (Nat.lt_of_lt_of_le E_aP.lt (Nat.le_of_eq g4.symm))
  have V_aP_u21 : own_Arf Z h14 aP kP (.array .int) (8 : Int32) fP := ((V_aP.ext E4).other W14 ne_aP_b4)
  obtain ⟨cl22, Ar22, qk22, Sz22, Ng22, Hs22, Gf22⟩ := id V_aP_u21
  have F_a0_pairsShared_u24 : Fld Z h14 a0 cCV "pairsShared" "Z" (.int (0 : Int32)) := ((F_pairsShared_a0.ext E4).other W14 (Or.inl ne_a0_b4))
  have E_a0_u25 : Exa Z h14 a0 cCV := ((E_a0.ext E4).wr W14)
  obtain ⟨cq23, q23, q23'⟩ := E_a0_u25.cell
  obtain ⟨_, _, ⟨T23, L23, k23', n23'⟩, -, X23, ⟨Lc23, hQ23, l23, y23, z23⟩, st23⟩ := X20.privateBack hx (y := (⟨cCV, "ownPairs", "()V"⟩ : MethodName)) hown (mvT hZ (w48 hw)) (mvT hZ (w49 hw)) (own_priv (mvT hZ (w1 hw)) (Cond.privateMethod_at (mvP hZ (w50 hw) (args := #[]))) (mvT hZ (w49 hw)) (by decide)) (Cond.privateMethod_at (mvP hZ (w50 hw) (args := #[]))) (mvT hZ (w51 hw)) (by decide) (backOf (W := 0) (rm8 l Z az hw [] a0 h14 n0 Z14 F_a0_pairsShared_u24) hZ (w51 hw) (w2 hw) (by decide) (by decide)) (g := (mkF m 151 #[vR a0, vR a1, vI p2, vR b4, vI (1 : Int32), vI v0, .unset, .unset, .unset] [(.ref a0)])) rfl (by rw [hml]; rfl) (Steps.refl _) (a := a0) (by rw [e20]; exact q23) q23' (argsL := []) (rest := []) (lenOf pd_0 rfl) rfl (by show 2 * 0 + _ ≤ _; exact Nat.le_of_eq rfl) (hb hby d7_151) (fun _ _ => ⟨rfl, e20, (by decide : 1 + 0 ≤ _), (by decide : 1 + 0 ≤ _)⟩)
  dsimp only [Pt.U, Pt.locs, Pt.cells, Pt.slots] at X23 l23 y23 z23 st23 hQ23
  subst l23 y23 z23
  obtain ⟨rfl, N23q, e23⟩ := hQ23
  obtain ⟨Lg23, X23', N23⟩ := own_gen X23 (Fr.app N14 N23q)
  obtain ⟨T26, X26, e26, st26⟩ := getF X23' hx hZ hown (host := "") (Or.inl (w40 hw)) Via.refl e23 F_a0_rowCount_u17 (g := (mkF m 156 #[vR a0, vR a1, vI p2, vR b4, vI (1 : Int32), vI v0, .unset, .unset, .unset] [(.ref a0), (.ref a0)])) rfl rfl (hb hby d7_156)
  obtain ⟨T27, h27, X27, e27, W27, st27⟩ := putF X26 hx hZ hown (host := "") (Or.inl (w40 hw)) Via.refl e26 F_a0_rowCount_u17 E_a0_u25 (Or.inl (w41 hw)) (w1 hw) (ty := .int) (by decide) rfl rfl (g := (mkF m 162 #[vR a0, vR a1, vI p2, vR b4, vI (1 : Int32), vI v0, .unset, .unset, .unset] [(.int (rc + (1 : Int32))), (.ref a0), (.int rc)])) rfl rfl (hb hby d7_162)
  have K27 : Keep h0 h27 [a0, aP, aO, aN, aK, aC] := K14.wr W27 (Or.inl (List.mem_of_getElem? (i := 0) rfl))
  have Fw27 := F_a0_rowCount_u17.same W27
  have Z27 : n0 ≤ h27.size := Nat.le_trans Z14 (Keep.of_wr W27).1
  obtain ⟨Lg27, X27', N27⟩ := own_gen X27 (Fr.snoc X27 N23 g_a0)
  have F_a0_remainingCount_u28 : Fld Z h27 a0 cCV "remainingCount" "I" (.int rem) := (((F_remainingCount_a0.ext E4).other W14 (Or.inl ne_a0_b4)).other W27 (Or.inr (sl_48 hw)))
  obtain ⟨T29, X29, e29, st29⟩ := getF X27' hx hZ hown (host := "") (Or.inl (w54 hw)) Via.refl e27 F_a0_remainingCount_u28 (g := (mkF m 169 #[vR a0, vR a1, vI p2, vR b4, vI rc, vI v0, .unset, .unset, .unset] [(.ref a0), (.ref a0)])) rfl rfl (hb hby d7_169)
  have E_a0_u30 : Exa Z h27 a0 cCV := (E_a0_u25.wr W27)
  obtain ⟨T31, h31, X31, e31, W31, st31⟩ := putF X29 hx hZ hown (host := "") (Or.inl (w54 hw)) Via.refl e29 F_a0_remainingCount_u28 E_a0_u30 (Or.inl (w55 hw)) (w1 hw) (ty := .int) (by decide) rfl rfl (g := (mkF m 174 #[vR a0, vR a1, vI p2, vR b4, vI rc, vI v0, .unset, .unset, .unset] [(.int (rem + (1 : Int32))), (.ref a0)])) rfl rfl (hb hby d7_174)
  have K31 : Keep h0 h31 [a0, aP, aO, aN, aK, aC] := K27.wr W31 (Or.inl (List.mem_of_getElem? (i := 0) rfl))
  have Fw31 := F_a0_remainingCount_u28.same W31
  have Z31 : n0 ≤ h31.size := Nat.le_trans Z27 (Keep.of_wr W31).1
  obtain ⟨Lg31, X31', N31⟩ := own_gen X31 (Fr.snoc X31 N27 g_a0)
  have F_a0_openPairs_u32 : Fld Z h31 a0 cCV "openPairs" "[[I" (.ref aP) := ((F_a0_openPairs_u19.other W27 (Or.inr (sl_49 hw))).other W31 (Or.inr (sl_50 hw)))
  obtain ⟨T33, X33, e33, st33⟩ := getF X31' hx hZ hown (host := "") (Or.inl (w13 hw)) Via.refl e31 F_a0_openPairs_u32 (g := (mkF m 178 #[vR a0, vR a1, vI p2, vR b4, vI rc, vI v0, .unset, .unset, .unset] [(.ref a0)])) rfl rfl (hb hby d7_178)
  have ne_aP_a0 : aP ≠ a0 := ne_exa E_aP E_a0 (by decide)
  have V_aP_u34 : own_Arf Z h31 aP kP (.array .int) (8 : Int32) fP := ((V_aP_u21.other W27 ne_aP_a0).other W31 ne_aP_a0)
  obtain ⟨cl35, Ar35, qk35, Sz35, Ng35, Hs35, Gf35⟩ := id V_aP_u34
  have hin36 : ¬ (rc < 0 ∨ cl35.slots.size ≤ (rc).toNatClampNeg) := inb_of Sz35 ⟨hc25, hc26⟩
  have E_b4_u37 : Exa Z h31 b4 "[I" := (((E_b4.wr W14).wr W27).wr W31)
  obtain ⟨T38, h38, X38, e38, W38, st38⟩ := stR X33 hx hZ e33 Ar35 (j := rc) hin36 rfl (Sto.ofVA Ar35 qk35 O_kP (Ins.self E_b4_u37)) (g := (mkF m 184 #[vR a0, vR a1, vI p2, vR b4, vI rc, vI v0, .unset, .unset, .unset] [(.ref b4), (.int rc), (.ref aP)])) rfl rfl (hb hby d7_184)
  have K38 : Keep h0 h38 [a0, aP, aO, aN, aK, aC] := K31.wr W38 (Or.inl (List.mem_of_getElem? (i := 1) rfl))
  have V_aP_38 : own_Arf Z h38 aP kP (.array .int) (8 : Int32) (own_upd fP (rc).toNatClampNeg (.ref b4)) := own_Arf.set (v := (.ref b4)) Ar35 qk35 Sz35 Ng35 Hs35 Gf35 rfl W38
  have Z38 : n0 ≤ h38.size := Nat.le_trans Z31 (Keep.of_wr W38).1
  obtain ⟨Lg38, X38', N38⟩ := own_gen X38 (Fr.snoc X38 N31 g_aP)
  have V_b4_u39 : Arv Z h38 b4 k4 .int (1 : Int32) [(.int ((0 : Int32) + v0))] (.int (0 : Int32)) := (((V_b4_14.other W27 (Ne.symm ne_a0_b4)).other W31 (Ne.symm ne_a0_b4)).other W38 (Ne.symm ne_aP_b4))
  obtain ⟨cl40, Ar40, qk40, Sz40, Ng40, Hs40, Gf40⟩ := id V_b4_u39
  have hin41 : ¬ ((0 : Int32) < 0 ∨ cl40.slots.size ≤ ((0 : Int32)).toNatClampNeg) := inb_of Sz40 ⟨by decide, by decide⟩
  have hat42 : cl40.slots[((0 : Int32)).toNatClampNeg]? = some (.int ((0 : Int32) + v0)) := Hs40.at hin41 rfl
  have c43 : Fld Z h27 a0 cCV "openCounts" "[I" (.ref aO) := (((F_openCounts_a0.ext E4).other W14 (Or.inl ne_a0_b4)).other W27 (Or.inr (sl_51 hw)))
  have ne_a0_aP : a0 ≠ aP := ne_exa E_a0 E_aP (by decide)
  have F_a0_openCounts_u44 : Fld Z h38 a0 cCV "openCounts" "[I" (.ref aO) := ((c43.other W31 (Or.inr (sl_52 hw))).other W38 (Or.inl ne_a0_aP))
  obtain ⟨T45, X45, e45, st45⟩ := getF X38' hx hZ hown (host := "") (Or.inl (w21 hw)) Via.refl e38 F_a0_openCounts_u44 (g := (mkF m 211 #[vR a0, vR a1, vI p2, vR b4, vI rc, vR b4, vI (1 : Int32), vI (0 : Int32), vI ((0 : Int32) + v0)] [(.ref a0)])) rfl rfl (hb hby d7_211)
  have ne_aO_b4 : aO ≠ b4 := own_ne (Nat.lt_of_lt_of_le E_aO.lt (Nat.le_of_eq g4.symm))
  have ne_aO_a0 : aO ≠ a0 := ne_exa E_aO E_a0 (by decide)
  have c46 : own_Any Z h27 aO kO .int nK := (((V_aO.ext E4).other W14 ne_aO_b4).other W27 ne_aO_a0)
  have ne_aO_aP : aO ≠ aP := ne_exa E_aO E_aP (by decide)
  have V_aO_u47 : own_Any Z h38 aO kO .int nK := ((c46.other W31 ne_aO_a0).other W38 ne_aO_aP)
  obtain ⟨ff48, cl48, Ar48, qk48, Sz48, Ng48, Hs48, Gf48⟩ := id V_aO_u47
  have hin49 : ¬ (((0 : Int32) + v0) < 0 ∨ cl48.slots.size ≤ (((0 : Int32) + v0)).toNatClampNeg) := inb_of Sz48 ⟨hc28, hc29⟩
  obtain ⟨lw50, hat50⟩ := own_any_at Hs48 Gf48 hin49 (Or.inl rfl)
  have hin51 : ¬ (((0 : Int32) + v0) < 0 ∨ cl48.slots.size ≤ (((0 : Int32) + v0)).toNatClampNeg) := inb_of Sz48 ⟨hc28, hc29⟩
  obtain ⟨T52, h52, X52, e52, W52, st52⟩ := stI X45 hx hZ e45 Ar48 (j := ((0 : Int32) + v0)) hin51 (g := (mkF m 220 #[vR a0, vR a1, vI p2, vR b4, vI rc, vR b4, vI (1 : Int32), vI (0 : Int32), vI ((0 : Int32) + v0)] [(.int (lw50 + (1 : Int32))), (.int ((0 : Int32) + v0)), (.ref aO)])) rfl rfl (hb hby d7_220)
  have K52 : Keep h0 h52 [a0, aP, aO, aN, aK, aC] := K38.wr W52 (Or.inl (List.mem_of_getElem? (i := 2) rfl))
  have V_aO_52 : own_Any Z h52 aO kO .int nK := ⟨_, own_Arf.set (v := (.int (lw50 + (1 : Int32)))) Ar48 qk48 Sz48 Ng48 Hs48 Gf48 rfl W52⟩
  have Z52 : n0 ≤ h52.size := Nat.le_trans Z38 (Keep.of_wr W52).1
  obtain ⟨Lg52, X52', N52⟩ := own_gen X52 (Fr.snoc X52 N38 g_aO)
  have c53 : Fld Z h27 a0 cCV "ones" "[I" (.ref aN) := (((F_ones_a0.ext E4).other W14 (Or.inl ne_a0_b4)).other W27 (Or.inr (sl_53 hw)))
  have ne_a0_aO : a0 ≠ aO := ne_exa E_a0 E_aO (by decide)
  have F_a0_ones_u54 : Fld Z h52 a0 cCV "ones" "[I" (.ref aN) := (((c53.other W31 (Or.inr (sl_54 hw))).other W38 (Or.inl ne_a0_aP)).other W52 (Or.inl ne_a0_aO))
  obtain ⟨T55, X55, e55, st55⟩ := getF X52' hx hZ hown (host := "") (Or.inl (w23 hw)) Via.refl e52 F_a0_ones_u54 (g := (mkF m 222 #[vR a0, vR a1, vI p2, vR b4, vI rc, vR b4, vI (1 : Int32), vI (0 : Int32), vI ((0 : Int32) + v0)] [(.ref a0)])) rfl rfl (hb hby d7_222)
  have ne_aN_b4 : aN ≠ b4 := own_ne (Nat.lt_of_lt_of_le E_aN.lt (Nat.le_of_eq g4.symm))
  have ne_aN_a0 : aN ≠ a0 := ne_exa E_aN E_a0 (by decide)
  have c56 : own_Any Z h27 aN kN .int nN := (((V_aN.ext E4).other W14 ne_aN_b4).other W27 ne_aN_a0)
  have ne_aN_aP : aN ≠ aP := ne_exa E_aN E_aP (by decide)
  have V_aN_u57 : own_Any Z h52 aN kN .int nN := (((c56.other W31 ne_aN_a0).other W38 ne_aN_aP).other W52 hne_aN_aO)
  obtain ⟨ff58, cl58, Ar58, qk58, Sz58, Ng58, Hs58, Gf58⟩ := id V_aN_u57
  have hin59 : ¬ ((((0 : Int32) + v0) / (2 : Int32)) < 0 ∨ cl58.slots.size ≤ ((((0 : Int32) + v0) / (2 : Int32))).toNatClampNeg) := inb_of Sz58 ⟨hc32, hc33⟩
  obtain ⟨lw60, hat60⟩ := own_any_at Hs58 Gf58 hin59 (Or.inl rfl)
  have hin61 : ¬ ((((0 : Int32) + v0) / (2 : Int32)) < 0 ∨ cl58.slots.size ≤ ((((0 : Int32) + v0) / (2 : Int32))).toNatClampNeg) := inb_of Sz58 ⟨hc32, hc33⟩
  obtain ⟨T62, h62, X62, e62, W62, st62⟩ := stI X55 hx hZ e55 Ar58 (j := (((0 : Int32) + v0) / (2 : Int32))) hin61 (g := (mkF m 236 #[vR a0, vR a1, vI p2, vR b4, vI rc, vR b4, vI (1 : Int32), vI (0 : Int32), vI ((0 : Int32) + v0)] [(.int (lw60 + (((0 : Int32) + v0) % (2 : Int32)))), (.int (((0 : Int32) + v0) / (2 : Int32))), (.ref aN)])) rfl rfl (hb hby d7_236)
  have K62 : Keep h0 h62 [a0, aP, aO, aN, aK, aC] := K52.wr W62 (Or.inl (List.mem_of_getElem? (i := 3) rfl))
  have V_aN_62 : own_Any Z h62 aN kN .int nN := ⟨_, own_Arf.set (v := (.int (lw60 + (((0 : Int32) + v0) % (2 : Int32))))) Ar58 qk58 Sz58 Ng58 Hs58 Gf58 rfl W62⟩
  have Z62 : n0 ≤ h62.size := Nat.le_trans Z52 (Keep.of_wr W62).1
  obtain ⟨Lg62, X62', N62⟩ := own_gen X62 (Fr.snoc X62 N52 g_aN)
  have c63 : Fld Z h27 a0 cCV "coveredCounts" "[I" (.ref aK) := (((F_coveredCounts_a0.ext E4).other W14 (Or.inl ne_a0_b4)).other W27 (Or.inr (sl_55 hw)))
  have c64 : Fld Z h52 a0 cCV "coveredCounts" "[I" (.ref aK) := (((c63.other W31 (Or.inr (sl_56 hw))).other W38 (Or.inl ne_a0_aP)).other W52 (Or.inl ne_a0_aO))
  have ne_a0_aN : a0 ≠ aN := ne_exa E_a0 E_aN (by decide)
  have F_a0_coveredCounts_u65 : Fld Z h62 a0 cCV "coveredCounts" "[I" (.ref aK) := (c64.other W62 (Or.inl ne_a0_aN))
  have ne_aK_b4 : aK ≠ b4 := own_ne (Nat.lt_of_lt_of_le E_aK.lt (Nat.le_of_eq g4.symm))
  have ne_aK_a0 : aK ≠ a0 := ne_exa E_aK E_a0 (by decide)
  have c66 : own_Any Z h27 aK kK .int nK := (((V_aK.ext E4).other W14 ne_aK_b4).other W27 ne_aK_a0)
  have ne_aK_aP : aK ≠ aP := ne_exa E_aK E_aP (by decide)
  have c67 : own_Any Z h52 aK kK .int nK := (((c66.other W31 ne_aK_a0).other W38 ne_aK_aP).other W52 hne_aK_aO)
  have V_aK_u68 : own_Any Z h62 aK kK .int nK := (c67.other W62 hne_aK_aN)
  have c69 : Exa Z h27 aK "[I" := (((E_aK.ext E4).wr W14).wr W27)
  have c70 : Exa Z h52 aK "[I" := (((c69.wr W31).wr W38).wr W52)
  have E_aK_u71 : Exa Z h62 aK "[I" := (c70.wr W62)
  obtain ⟨T72, h72c, g72, ⟨rfl, kq72, pf72_0, pf72_1⟩, ⟨Lg72, X72, e72, N72⟩, st72⟩ := sg02 l Z az hw hx hby hml hown hZ a0 (vR a1) p2 (vR b4) (vI rc) (vR b4) (vI (1 : Int32)) (vI (0 : Int32)) ((0 : Int32) + v0) aK kK nK h62 n0 Z62 F_a0_coveredCounts_u65 V_aK_u68 E_aK_u71 g_aK hc28 hc29 T62 ⟨_, X62', e62, N62⟩
  have K72 : Keep h0 h72c [a0, aP, aO, aN, aK, aC] := K62.trans kq72 (allS (Or.inl (List.mem_of_getElem? (i := 4) rfl)) all0)
  have Z72 : n0 ≤ h72c.size := Nat.le_trans Z62 kq72.1
  have c73 : Fld Z h27 a0 cCV "covered" "[Z" (.ref aC) := (((F_covered_a0.ext E4).other W14 (Or.inl ne_a0_b4)).other W27 (Or.inr (sl_57 hw)))
  have c74 : Fld Z h52 a0 cCV "covered" "[Z" (.ref aC) := (((c73.other W31 (Or.inr (sl_58 hw))).other W38 (Or.inl ne_a0_aP)).other W52 (Or.inl ne_a0_aO))
  have ne_a0_aK : a0 ≠ aK := ne_exa E_a0 E_aK (by decide)
  have F_a0_covered_u75 : Fld Z h72c a0 cCV "covered" "[Z" (.ref aC) := ((c74.other W62 (Or.inl ne_a0_aN)).keep kq72 (ninS ne_a0_aK nin0))
  obtain ⟨T76, X76, e76, st76⟩ := getF X72 hx hZ hown (host := "") (Or.inl (w16 hw)) Via.refl e72 F_a0_covered_u75 (g := (mkF m 259 #[vR a0, vR a1, vI p2, vR b4, vI rc, vR b4, vI (1 : Int32), vI (1 : Int32), vI ((0 : Int32) + v0)] [(.ref a0)])) rfl rfl (hb hby d7_259)
  have ne_aC_b4 : aC ≠ b4 := own_ne (Nat.lt_of_lt_of_le E_aC.lt (Nat.le_of_eq g4.symm))
  have ne_aC_a0 : aC ≠ a0 := ne_exa E_aC E_a0 (by decide)
  have c77 : own_Any Z h27 aC kC .boolean (8 : Int32) := (((V_aC.ext E4).other W14 ne_aC_b4).other W27 ne_aC_a0)
  have ne_aC_aP : aC ≠ aP := ne_exa E_aC E_aP (by decide)
  have ne_aC_aO : aC ≠ aO := ne_exa E_aC E_aO (by decide)
  have c78 : own_Any Z h52 aC kC .boolean (8 : Int32) := (((c77.other W31 ne_aC_a0).other W38 ne_aC_aP).other W52 ne_aC_aO)
  have ne_aC_aN : aC ≠ aN := ne_exa E_aC E_aN (by decide)
  have ne_aC_aK : aC ≠ aK := ne_exa E_aC E_aK (by decide)
  have V_aC_u79 : own_Any Z h72c aC kC .boolean (8 : Int32) := ((c78.other W62 ne_aC_aN).keep kq72 (ninS ne_aC_aK nin0))
  obtain ⟨ff80, cl80, Ar80, qk80, Sz80, Ng80, Hs80, Gf80⟩ := id V_aC_u79
  have hin81 : ¬ (rc < 0 ∨ cl80.slots.size ≤ (rc).toNatClampNeg) := inb_of Sz80 ⟨hc25, hc26⟩
  obtain ⟨T82, h82, X82, e82, W82, st82⟩ := stZ X76 hx hZ e76 Ar80 (j := rc) hin81 (g := (mkF m 265 #[vR a0, vR a1, vI p2, vR b4, vI rc, vR b4, vI (1 : Int32), vI (1 : Int32), vI ((0 : Int32) + v0)] [(.int p2), (.int rc), (.ref aC)])) rfl rfl (hb hby d7_265)
  rw [hc38] at W82
  have K82 : Keep h0 h82 [a0, aP, aO, aN, aK, aC] := K72.wr W82 (Or.inl (List.mem_of_getElem? (i := 5) rfl))
  have V_aC_82 : own_Any Z h82 aC kC .boolean (8 : Int32) := ⟨_, own_Arf.set (v := (.int p2)) Ar80 qk80 Sz80 Ng80 Hs80 Gf80 (own_fits hc38 (fits_nar_bool _)) W82⟩
  have Z82 : n0 ≤ h82.size := Nat.le_trans Z72 (Keep.of_wr W82).1
  obtain ⟨Lg82, X82', N82⟩ := own_gen X82 (Fr.snoc X82 N72 g_aC)
  have c83 : Exa Z h52 a0 cCV := (((E_a0_u30.wr W31).wr W38).wr W52)
  have E_a0_u84 : Exa Z h82 a0 cCV := (((c83.wr W62).keep kq72).wr W82)
  have c85 : Fld Z h38 a0 cCV "labelCount" "I" (.int (1 : Int32)) := (((F_a0_labelCount_u15.other W27 (Or.inr (sl_59 hw))).other W31 (Or.inr (sl_60 hw))).other W38 (Or.inl ne_a0_aP))
  have c86 : Fld Z h72c a0 cCV "labelCount" "I" (.int (1 : Int32)) := (((c85.other W52 (Or.inl ne_a0_aO)).other W62 (Or.inl ne_a0_aN)).keep kq72 (ninS ne_a0_aK nin0))
  have ne_a0_aC : a0 ≠ aC := ne_exa E_a0 E_aC (by decide)
  have F_a0_labelCount_u87 : Fld Z h82 a0 cCV "labelCount" "I" (.int (1 : Int32)) := (c86.other W82 (Or.inl ne_a0_aC))
  have c88 : Fld Z h52 a0 cCV "rowCount" "I" (.int (rc + (1 : Int32))) := (((Fw27.other W31 (Or.inr (sl_61 hw))).other W38 (Or.inl ne_a0_aP)).other W52 (Or.inl ne_a0_aO))
  have F_a0_rowCount_u89 : Fld Z h82 a0 cCV "rowCount" "I" (.int (rc + (1 : Int32))) := (((c88.other W62 (Or.inl ne_a0_aN)).keep kq72 (ninS ne_a0_aK nin0)).other W82 (Or.inl ne_a0_aC))
  have c90 : Fld Z h38 a0 cCV "pairsShared" "Z" (.int (0 : Int32)) := (((F_a0_pairsShared_u24.other W27 (Or.inr (sl_62 hw))).other W31 (Or.inr (sl_63 hw))).other W38 (Or.inl ne_a0_aP))
  have c91 : Fld Z h72c a0 cCV "pairsShared" "Z" (.int (0 : Int32)) := (((c90.other W52 (Or.inl ne_a0_aO)).other W62 (Or.inl ne_a0_aN)).keep kq72 (ninS ne_a0_aK nin0))
  have F_a0_pairsShared_u92 : Fld Z h82 a0 cCV "pairsShared" "Z" (.int (0 : Int32)) := (c91.other W82 (Or.inl ne_a0_aC))
  have c93 : Fld Z h62 a0 cCV "remainingCount" "I" (.int (rem + (1 : Int32))) := (((Fw31.other W38 (Or.inl ne_a0_aP)).other W52 (Or.inl ne_a0_aO)).other W62 (Or.inl ne_a0_aN))
  have F_a0_remainingCount_u94 : Fld Z h82 a0 cCV "remainingCount" "I" (.int (rem + (1 : Int32))) := ((c93.keep kq72 (ninS ne_a0_aK nin0)).other W82 (Or.inl ne_a0_aC))
  have c95 : Fld Z h62 a0 cCV "openPairs" "[[I" (.ref aP) := (((F_a0_openPairs_u32.other W38 (Or.inl ne_a0_aP)).other W52 (Or.inl ne_a0_aO)).other W62 (Or.inl ne_a0_aN))
  have F_a0_openPairs_u96 : Fld Z h82 a0 cCV "openPairs" "[[I" (.ref aP) := ((c95.keep kq72 (ninS ne_a0_aK nin0)).other W82 (Or.inl ne_a0_aC))
  have F_a0_covered_u97 : Fld Z h82 a0 cCV "covered" "[Z" (.ref aC) := (F_a0_covered_u75.other W82 (Or.inl ne_a0_aC))
  have F_a0_coveredCounts_u98 : Fld Z h82 a0 cCV "coveredCounts" "[I" (.ref aK) := ((F_a0_coveredCounts_u65.keep kq72 (ninS ne_a0_aK nin0)).other W82 (Or.inl ne_a0_aC))
  have c99 : Fld Z h72c a0 cCV "openCounts" "[I" (.ref aO) := (((F_a0_openCounts_u44.other W52 (Or.inl ne_a0_aO)).other W62 (Or.inl ne_a0_aN)).keep kq72 (ninS ne_a0_aK nin0))
  have F_a0_openCounts_u100 : Fld Z h82 a0 cCV "openCounts" "[I" (.ref aO) := (c99.other W82 (Or.inl ne_a0_aC))
  have F_a0_ones_u101 : Fld Z h82 a0 cCV "ones" "[I" (.ref aN) := (((F_a0_ones_u54.other W62 (Or.inl ne_a0_aN)).keep kq72 (ninS ne_a0_aK nin0)).other W82 (Or.inl ne_a0_aC))
  have ne_aP_aO : aP ≠ aO := ne_exa E_aP E_aO (by decide)
  have ne_aP_aN : aP ≠ aN := ne_exa E_aP E_aN (by decide)
  have ne_aP_aK : aP ≠ aK := ne_exa E_aP E_aK (by decide)
  have c102 : own_Arf Z h72c aP kP (.array .int) (8 : Int32) (own_upd fP (rc).toNatClampNeg (.ref b4)) := (((V_aP_38.other W52 ne_aP_aO).other W62 ne_aP_aN).keep kq72 (ninS ne_aP_aK nin0))
  have ne_aP_aC : aP ≠ aC := ne_exa E_aP E_aC (by decide)
  have V_aP_u103 : own_Arf Z h82 aP kP (.array .int) (8 : Int32) (own_upd fP (rc).toNatClampNeg (.ref b4)) := (c102.other W82 ne_aP_aC)
  have c104 : Exa Z h27 aP "[[I" := (((E_aP.ext E4).wr W14).wr W27)
  have c105 : Exa Z h52 aP "[[I" := (((c104.wr W31).wr W38).wr W52)
  have E_aP_u106 : Exa Z h82 aP "[[I" := (((c105.wr W62).keep kq72).wr W82)
  have ne_aO_aC : aO ≠ aC := ne_exa E_aO E_aC (by decide)
  have V_aO_u107 : own_Any Z h82 aO kO .int nK := (((V_aO_52.other W62 (Ne.symm hne_aN_aO)).keep kq72 (ninS (Ne.symm hne_aK_aO) nin0)).other W82 ne_aO_aC)
  have c108 : Exa Z h27 aO "[I" := (((E_aO.ext E4).wr W14).wr W27)
  have c109 : Exa Z h52 aO "[I" := (((c108.wr W31).wr W38).wr W52)
  have E_aO_u110 : Exa Z h82 aO "[I" := (((c109.wr W62).keep kq72).wr W82)
  have ne_aN_aC : aN ≠ aC := ne_exa E_aN E_aC (by decide)
  have V_aN_u111 : own_Any Z h82 aN kN .int nN := ((V_aN_62.keep kq72 (ninS (Ne.symm hne_aK_aN) nin0)).other W82 ne_aN_aC)
  have c112 : Exa Z h27 aN "[I" := (((E_aN.ext E4).wr W14).wr W27)
  have c113 : Exa Z h52 aN "[I" := (((c112.wr W31).wr W38).wr W52)
  have E_aN_u114 : Exa Z h82 aN "[I" := (((c113.wr W62).keep kq72).wr W82)
  have E_aK_u115 : Exa Z h82 aK "[I" := (pf72_1.wr W82)
  have ne_aK_aC : aK ≠ aC := ne_exa E_aK E_aC (by decide)
  have V_aK_u116 : own_Any Z h82 aK kK .int nK := (pf72_0.other W82 ne_aK_aC)
  have c117 : Exa Z h27 aC "[Z" := (((E_aC.ext E4).wr W14).wr W27)
  have c118 : Exa Z h52 aC "[Z" := (((c117.wr W31).wr W38).wr W52)
  have E_aC_u119 : Exa Z h82 aC "[Z" := (((c118.wr W62).keep kq72).wr W82)
  have c120 : Exa Z h62 b4 "[I" := (((E_b4_u37.wr W38).wr W52).wr W62)
  have E_b4_u121 : Exa Z h82 b4 "[I" := ((c120.keep kq72).wr W82)
  have c122 : Arv Z h72c b4 k4 .int (1 : Int32) [(.int ((0 : Int32) + v0))] (.int (0 : Int32)) := (((V_b4_u39.other W52 (Ne.symm ne_aO_b4)).other W62 (Ne.symm ne_aN_b4)).keep kq72 (ninS (Ne.symm ne_aK_b4) nin0))
  have V_b4_u123 : Arv Z h82 b4 k4 .int (1 : Int32) [(.int ((0 : Int32) + v0))] (.int (0 : Int32)) := (c122.other W82 (Ne.symm ne_aC_b4))
  obtain ⟨fs, hr, hrun, hended, hW, hsame⟩ := X82'.leave (v := some (.int rc)) (fun h => by rw [Bd.returns] at h; cases h)
  refine ⟨_, _, pre0 _ ?_, hrun, hended, _, _, rfl, ?_, ⟨_, rfl⟩, hW, hsame.mono (by decide) (by decide)⟩
  · show Steps p.tables e below (s₁.setTop (mkF m 0 #[vR a0, vR a1, vI p2, .unset, .unset, .unset, .unset, .unset, .unset] [])) _
    refine XS.aloadN X0.here hx rfl (hb hby d7_0) rfl rfl ?_
    show Steps p.tables e below (s₁.setTop (mkF m 1 #[vR a0, vR a1, vI p2, .unset, .unset, .unset, .unset, .unset, .unset] [(.ref a1)])) _
    refine X0.arraylength hx (by rw [e0]; exact Ar1.1) (State.isArrayOf_alike hZ.alike Ar1.2.1) (g := (mkF m 1 #[vR a0, vR a1, vI p2, .unset, .unset, .unset, .unset, .unset, .unset] [(.ref a1)])) rfl rfl (hb hby d7_1) _ ?_
    rw [len_of Sz1 Ng1]
    show Steps p.tables e below (s₁.setTop (mkF m 2 #[vR a0, vR a1, vI p2, .unset, .unset, .unset, .unset, .unset, .unset] [(.int (1 : Int32))])) _
    refine XS.aloadN X0.here hx rfl (hb hby d7_2) rfl rfl ?_
    show Steps p.tables e below (s₁.setTop (mkF m 3 #[vR a0, vR a1, vI p2, .unset, .unset, .unset, .unset, .unset, .unset] [(.ref a0), (.int (1 : Int32))])) _
    refine st2 _ ?_
    show Steps p.tables e below (T2.setTop (mkF m 6 #[vR a0, vR a1, vI p2, .unset, .unset, .unset, .unset, .unset, .unset] [(.int (1 : Int32)), (.int (1 : Int32))])) _
    refine XS.icmpYes X2.here hx rfl (pc0 := 6) (pc' := 28) rfl (hb hby d7_6) rfl (teq (by decide : (1 : Int32) = (1 : Int32))).1 (by decide) (by decide) ?_
    refine XS.aloadN X2.here hx rfl (hb hby d7_28) rfl rfl ?_
    show Steps p.tables e below (T2.setTop (mkF m 29 #[vR a0, vR a1, vI p2, .unset, .unset, .unset, .unset, .unset, .unset] [(.ref a0)])) _
    refine st3 _ ?_
    show Steps p.tables e below (T3.setTop (mkF m 32 #[vR a0, vR a1, vI p2, .unset, .unset, .unset, .unset, .unset, .unset] [(.int (1 : Int32))])) _
    refine st4 _ ?_
    show Steps p.tables e below (T4.setTop (mkF m 34 #[vR a0, vR a1, vI p2, .unset, .unset, .unset, .unset, .unset, .unset] [(.ref b4)])) _
    refine XS.astoreN X4.here hx rfl (hb hby d7_34) rfl rfl (l' := #[vR a0, vR a1, vI p2, vR b4, .unset, .unset, .unset, .unset, .unset]) rfl ?_
    refine XS.iconst X4.here hx rfl (hb hby d7_35) ?_
    refine XS.istore X4.here hx rfl (hb hby d7_36) rfl (l' := #[vR a0, vR a1, vI p2, vR b4, vI (0 : Int32), .unset, .unset, .unset, .unset]) rfl ?_
    refine XS.iload X4.here hx rfl (hb hby d7_38) rfl ?_
    refine XS.aloadN X4.here hx rfl (hb hby d7_40) rfl rfl ?_
    show Steps p.tables e below (T4.setTop (mkF m 41 #[vR a0, vR a1, vI p2, vR b4, vI (0 : Int32), .unset, .unset, .unset, .unset] [(.ref a0), (.int (0 : Int32))])) _
    refine st6 _ ?_
    show Steps p.tables e below (T6.setTop (mkF m 44 #[vR a0, vR a1, vI p2, vR b4, vI (0 : Int32), .unset, .unset, .unset, .unset] [(.int (1 : Int32)), (.int (0 : Int32))])) _
    refine XS.icmpNo X6.here hx rfl (hb hby d7_44) rfl (tlt (by decide : (0 : Int32) < (1 : Int32))).2.1 ?_
    refine XS.aloadN X6.here hx rfl (hb hby d7_47) rfl rfl ?_
    refine XS.iload X6.here hx rfl (hb hby d7_48) rfl ?_
    show Steps p.tables e below (T6.setTop (mkF m 50 #[vR a0, vR a1, vI p2, vR b4, vI (0 : Int32), .unset, .unset, .unset, .unset] [(.int (0 : Int32)), (.ref a1)])) _
    refine X6.iaload hx (j := (0 : Int32)) (v := (.int v0)) (by rw [e6]; exact Ar8.1) (State.isArrayOf_alike hZ.alike Ar8.2.1) Ar8.2.2 hin9 hat10 (g := (mkF m 50 #[vR a0, vR a1, vI p2, vR b4, vI (0 : Int32), .unset, .unset, .unset, .unset] [(.int (0 : Int32)), (.ref a1)])) rfl rfl (hb hby d7_50) _ ?_
    show Steps p.tables e below (T6.setTop (mkF m 51 #[vR a0, vR a1, vI p2, vR b4, vI (0 : Int32), .unset, .unset, .unset, .unset] [(.int v0)])) _
    refine XS.istore X6.here hx rfl (hb hby d7_51) rfl (l' := #[vR a0, vR a1, vI p2, vR b4, vI (0 : Int32), vI v0, .unset, .unset, .unset]) rfl ?_
    show Steps p.tables e below (T6.setTop (mkF m 53 #[vR a0, vR a1, vI p2, vR b4, vI (0 : Int32), vI v0, .unset, .unset, .unset] [])) _
    refine st11 _ ?_
    show Steps p.tables e below (T11.setTop (mkF m 79 #[vR a0, vR a1, vI p2, vR b4, vI (0 : Int32), vI v0, .unset, .unset, .unset] [])) _
    refine XS.aloadN X11.here hx rfl (hb hby d7_79) rfl rfl ?_
    refine XS.iload X11.here hx rfl (hb hby d7_80) rfl ?_
    refine XS.iconst X11.here hx rfl (hb hby d7_82) ?_
    refine XS.iload X11.here hx rfl (hb hby d7_83) rfl ?_
    refine XS.imul X11.here hx rfl (hb hby d7_85) rfl ?_
    refine XS.iload X11.here hx rfl (hb hby d7_86) rfl ?_
    refine XS.iadd X11.here hx rfl (hb hby d7_88) rfl ?_
    show Steps p.tables e below (T11.setTop (mkF m 89 #[vR a0, vR a1, vI p2, vR b4, vI (0 : Int32), vI v0, .unset, .unset, .unset] [(.int ((0 : Int32) + v0)), (.int (0 : Int32)), (.ref b4)])) _
    refine st14 _ ?_
    show Steps p.tables e below (T14.setTop (mkF m 90 #[vR a0, vR a1, vI p2, vR b4, vI (0 : Int32), vI v0, .unset, .unset, .unset] [])) _
    refine XS.iinc X14'.here hx rfl (hb hby d7_90) rfl (l' := #[vR a0, vR a1, vI p2, vR b4, vI (1 : Int32), vI v0, .unset, .unset, .unset]) rfl ?_
    refine XS.goto X14'.here hx rfl (pc0 := 93) (pc' := 38) rfl (hb hby d7_93) (by decide) (by decide) ?_
    refine XS.iload X14'.here hx rfl (hb hby d7_38) rfl ?_
    refine XS.aloadN X14'.here hx rfl (hb hby d7_40) rfl rfl ?_
    show Steps p.tables e below (T14.setTop (mkF m 41 #[vR a0, vR a1, vI p2, vR b4, vI (1 : Int32), vI v0, .unset, .unset, .unset] [(.ref a0), (.int (1 : Int32))])) _
    refine st16 _ ?_
    show Steps p.tables e below (T16.setTop (mkF m 44 #[vR a0, vR a1, vI p2, vR b4, vI (1 : Int32), vI v0, .unset, .unset, .unset] [(.int (1 : Int32)), (.int (1 : Int32))])) _
    refine XS.icmpYes X16.here hx rfl (pc0 := 44) (pc' := 96) rfl (hb hby d7_44) rfl (flt (by decide : ¬ ((1 : Int32) < (1 : Int32)))).2.1 (by decide) (by decide) ?_
    refine XS.aloadN X16.here hx rfl (hb hby d7_96) rfl rfl ?_
    show Steps p.tables e below (T16.setTop (mkF m 97 #[vR a0, vR a1, vI p2, vR b4, vI (1 : Int32), vI v0, .unset, .unset, .unset] [(.ref a0)])) _
    refine st18 _ ?_
    show Steps p.tables e below (T18.setTop (mkF m 100 #[vR a0, vR a1, vI p2, vR b4, vI (1 : Int32), vI v0, .unset, .unset, .unset] [(.int rc)])) _
    refine XS.aloadN X18.here hx rfl (hb hby d7_100) rfl rfl ?_
    show Steps p.tables e below (T18.setTop (mkF m 101 #[vR a0, vR a1, vI p2, vR b4, vI (1 : Int32), vI v0, .unset, .unset, .unset] [(.ref a0), (.int rc)])) _
    refine st20 _ ?_
    show Steps p.tables e below (T20.setTop (mkF m 104 #[vR a0, vR a1, vI p2, vR b4, vI (1 : Int32), vI v0, .unset, .unset, .unset] [(.ref aP), (.int rc)])) _
    refine X20.arraylength hx (by rw [e20]; exact Ar22.1) (State.isArrayOf_alike hZ.alike Ar22.2.1) (g := (mkF m 104 #[vR a0, vR a1, vI p2, vR b4, vI (1 : Int32), vI v0, .unset, .unset, .unset] [(.ref aP), (.int rc)])) rfl rfl (hb hby d7_104) _ ?_
    rw [len_of Sz22 Ng22]
    show Steps p.tables e below (T20.setTop (mkF m 105 #[vR a0, vR a1, vI p2, vR b4, vI (1 : Int32), vI v0, .unset, .unset, .unset] [(.int (8 : Int32)), (.int rc)])) _
    refine XS.icmpYes X20.here hx rfl (pc0 := 105) (pc' := 150) rfl (hb hby d7_105) rfl (feq hc23).2 (by decide) (by decide) ?_
    refine XS.aloadN X20.here hx rfl (hb hby d7_150) rfl rfl ?_
    show Steps p.tables e below (T20.setTop (mkF m 151 #[vR a0, vR a1, vI p2, vR b4, vI (1 : Int32), vI v0, .unset, .unset, .unset] [(.ref a0)])) _
    refine st23.trans ?_
    show Steps p.tables e below (T23.setTop (mkF m 154 #[vR a0, vR a1, vI p2, vR b4, vI (1 : Int32), vI v0, .unset, .unset, .unset] [])) _
    refine XS.aloadN X23'.here hx rfl (hb hby d7_154) rfl rfl ?_
    refine XS.dup X23'.here hx rfl (hb hby d7_155) rfl rfl ?_
    show Steps p.tables e below (T23.setTop (mkF m 156 #[vR a0, vR a1, vI p2, vR b4, vI (1 : Int32), vI v0, .unset, .unset, .unset] [(.ref a0), (.ref a0)])) _
    refine st26 _ ?_
    show Steps p.tables e below (T26.setTop (mkF m 159 #[vR a0, vR a1, vI p2, vR b4, vI (1 : Int32), vI v0, .unset, .unset, .unset] [(.int rc), (.ref a0)])) _
    refine XS.dupX1 X26.here hx rfl (hb hby d7_159) rfl rfl rfl ?_
    refine XS.iconst X26.here hx rfl (hb hby d7_160) ?_
    refine XS.iadd X26.here hx rfl (hb hby d7_161) rfl ?_
    show Steps p.tables e below (T26.setTop (mkF m 162 #[vR a0, vR a1, vI p2, vR b4, vI (1 : Int32), vI v0, .unset, .unset, .unset] [(.int (rc + (1 : Int32))), (.ref a0), (.int rc)])) _
    refine st27 _ ?_
    show Steps p.tables e below (T27.setTop (mkF m 165 #[vR a0, vR a1, vI p2, vR b4, vI (1 : Int32), vI v0, .unset, .unset, .unset] [(.int rc)])) _
    refine XS.istore X27'.here hx rfl (hb hby d7_165) rfl (l' := #[vR a0, vR a1, vI p2, vR b4, vI rc, vI v0, .unset, .unset, .unset]) rfl ?_
    refine XS.aloadN X27'.here hx rfl (hb hby d7_167) rfl rfl ?_
    refine XS.dup X27'.here hx rfl (hb hby d7_168) rfl rfl ?_
    show Steps p.tables e below (T27.setTop (mkF m 169 #[vR a0, vR a1, vI p2, vR b4, vI rc, vI v0, .unset, .unset, .unset] [(.ref a0), (.ref a0)])) _
    refine st29 _ ?_
    show Steps p.tables e below (T29.setTop (mkF m 172 #[vR a0, vR a1, vI p2, vR b4, vI rc, vI v0, .unset, .unset, .unset] [(.int rem), (.ref a0)])) _
    refine XS.iconst X29.here hx rfl (hb hby d7_172) ?_
    refine XS.iadd X29.here hx rfl (hb hby d7_173) rfl ?_
    show Steps p.tables e below (T29.setTop (mkF m 174 #[vR a0, vR a1, vI p2, vR b4, vI rc, vI v0, .unset, .unset, .unset] [(.int (rem + (1 : Int32))), (.ref a0)])) _
    refine st31 _ ?_
    show Steps p.tables e below (T31.setTop (mkF m 177 #[vR a0, vR a1, vI p2, vR b4, vI rc, vI v0, .unset, .unset, .unset] [])) _
    refine XS.aloadN X31'.here hx rfl (hb hby d7_177) rfl rfl ?_
    show Steps p.tables e below (T31.setTop (mkF m 178 #[vR a0, vR a1, vI p2, vR b4, vI rc, vI v0, .unset, .unset, .unset] [(.ref a0)])) _
    refine st33 _ ?_
    show Steps p.tables e below (T33.setTop (mkF m 181 #[vR a0, vR a1, vI p2, vR b4, vI rc, vI v0, .unset, .unset, .unset] [(.ref aP)])) _
    refine XS.iload X33.here hx rfl (hb hby d7_181) rfl ?_
    refine XS.aloadN X33.here hx rfl (hb hby d7_183) rfl rfl ?_
    show Steps p.tables e below (T33.setTop (mkF m 184 #[vR a0, vR a1, vI p2, vR b4, vI rc, vI v0, .unset, .unset, .unset] [(.ref b4), (.int rc), (.ref aP)])) _
    refine st38 _ ?_
    show Steps p.tables e below (T38.setTop (mkF m 185 #[vR a0, vR a1, vI p2, vR b4, vI rc, vI v0, .unset, .unset, .unset] [])) _
    refine XS.aloadN X38'.here hx rfl (hb hby d7_185) rfl rfl ?_
    refine XS.astore X38'.here hx rfl (hb hby d7_186) rfl rfl (l' := #[vR a0, vR a1, vI p2, vR b4, vI rc, vR b4, .unset, .unset, .unset]) rfl ?_
    refine XS.aload X38'.here hx rfl (hb hby d7_188) rfl rfl ?_
    show Steps p.tables e below (T38.setTop (mkF m 190 #[vR a0, vR a1, vI p2, vR b4, vI rc, vR b4, .unset, .unset, .unset] [(.ref b4)])) _
    refine X38'.arraylength hx (by rw [e38]; exact Ar40.1) (State.isArrayOf_alike hZ.alike Ar40.2.1) (g := (mkF m 190 #[vR a0, vR a1, vI p2, vR b4, vI rc, vR b4, .unset, .unset, .unset] [(.ref b4)])) rfl rfl (hb hby d7_190) _ ?_
    rw [len_of Sz40 Ng40]
    show Steps p.tables e below (T38.setTop (mkF m 191 #[vR a0, vR a1, vI p2, vR b4, vI rc, vR b4, .unset, .unset, .unset] [(.int (1 : Int32))])) _
    refine XS.istore X38'.here hx rfl (hb hby d7_191) rfl (l' := #[vR a0, vR a1, vI p2, vR b4, vI rc, vR b4, vI (1 : Int32), .unset, .unset]) rfl ?_
    refine XS.iconst X38'.here hx rfl (hb hby d7_193) ?_
    refine XS.istore X38'.here hx rfl (hb hby d7_194) rfl (l' := #[vR a0, vR a1, vI p2, vR b4, vI rc, vR b4, vI (1 : Int32), vI (0 : Int32), .unset]) rfl ?_
    refine XS.iload X38'.here hx rfl (hb hby d7_196) rfl ?_
    refine XS.iload X38'.here hx rfl (hb hby d7_198) rfl ?_
    refine XS.icmpNo X38'.here hx rfl (hb hby d7_200) rfl (tlt (by decide : (0 : Int32) < (1 : Int32))).2.1 ?_
    refine XS.aload X38'.here hx rfl (hb hby d7_203) rfl rfl ?_
    refine XS.iload X38'.here hx rfl (hb hby d7_205) rfl ?_
    show Steps p.tables e below (T38.setTop (mkF m 207 #[vR a0, vR a1, vI p2, vR b4, vI rc, vR b4, vI (1 : Int32), vI (0 : Int32), .unset] [(.int (0 : Int32)), (.ref b4)])) _
    refine X38'.iaload hx (j := (0 : Int32)) (v := (.int ((0 : Int32) + v0))) (by rw [e38]; exact Ar40.1) (State.isArrayOf_alike hZ.alike Ar40.2.1) Ar40.2.2 hin41 hat42 (g := (mkF m 207 #[vR a0, vR a1, vI p2, vR b4, vI rc, vR b4, vI (1 : Int32), vI (0 : Int32), .unset] [(.int (0 : Int32)), (.ref b4)])) rfl rfl (hb hby d7_207) _ ?_
    show Steps p.tables e below (T38.setTop (mkF m 208 #[vR a0, vR a1, vI p2, vR b4, vI rc, vR b4, vI (1 : Int32), vI (0 : Int32), .unset] [(.int ((0 : Int32) + v0))])) _
    refine XS.istore X38'.here hx rfl (hb hby d7_208) rfl (l' := #[vR a0, vR a1, vI p2, vR b4, vI rc, vR b4, vI (1 : Int32), vI (0 : Int32), vI ((0 : Int32) + v0)]) rfl ?_
    refine XS.aloadN X38'.here hx rfl (hb hby d7_210) rfl rfl ?_
    show Steps p.tables e below (T38.setTop (mkF m 211 #[vR a0, vR a1, vI p2, vR b4, vI rc, vR b4, vI (1 : Int32), vI (0 : Int32), vI ((0 : Int32) + v0)] [(.ref a0)])) _
    refine st45 _ ?_
    show Steps p.tables e below (T45.setTop (mkF m 214 #[vR a0, vR a1, vI p2, vR b4, vI rc, vR b4, vI (1 : Int32), vI (0 : Int32), vI ((0 : Int32) + v0)] [(.ref aO)])) _
    refine XS.iload X45.here hx rfl (hb hby d7_214) rfl ?_
    show Steps p.tables e below (T45.setTop (mkF m 216 #[vR a0, vR a1, vI p2, vR b4, vI rc, vR b4, vI (1 : Int32), vI (0 : Int32), vI ((0 : Int32) + v0)] [(.int ((0 : Int32) + v0)), (.ref aO)])) _
    refine Jvm.Free.XT.dup2 X45.here hx rfl (hb hby d7_216) rfl rfl rfl ?_
    show Steps p.tables e below (T45.setTop (mkF m 217 #[vR a0, vR a1, vI p2, vR b4, vI rc, vR b4, vI (1 : Int32), vI (0 : Int32), vI ((0 : Int32) + v0)] [(.int ((0 : Int32) + v0)), (.ref aO), (.int ((0 : Int32) + v0)), (.ref aO)])) _
    refine X45.iaload hx (j := ((0 : Int32) + v0)) (v := (.int lw50)) (by rw [e45]; exact Ar48.1) (State.isArrayOf_alike hZ.alike Ar48.2.1) Ar48.2.2 hin49 hat50 (g := (mkF m 217 #[vR a0, vR a1, vI p2, vR b4, vI rc, vR b4, vI (1 : Int32), vI (0 : Int32), vI ((0 : Int32) + v0)] [(.int ((0 : Int32) + v0)), (.ref aO), (.int ((0 : Int32) + v0)), (.ref aO)])) rfl rfl (hb hby d7_217) _ ?_
    show Steps p.tables e below (T45.setTop (mkF m 218 #[vR a0, vR a1, vI p2, vR b4, vI rc, vR b4, vI (1 : Int32), vI (0 : Int32), vI ((0 : Int32) + v0)] [(.int lw50), (.int ((0 : Int32) + v0)), (.ref aO)])) _
    refine XS.iconst X45.here hx rfl (hb hby d7_218) ?_
    refine XS.iadd X45.here hx rfl (hb hby d7_219) rfl ?_
    show Steps p.tables e below (T45.setTop (mkF m 220 #[vR a0, vR a1, vI p2, vR b4, vI rc, vR b4, vI (1 : Int32), vI (0 : Int32), vI ((0 : Int32) + v0)] [(.int (lw50 + (1 : Int32))), (.int ((0 : Int32) + v0)), (.ref aO)])) _
    refine st52 _ ?_
    show Steps p.tables e below (T52.setTop (mkF m 221 #[vR a0, vR a1, vI p2, vR b4, vI rc, vR b4, vI (1 : Int32), vI (0 : Int32), vI ((0 : Int32) + v0)] [])) _
    refine XS.aloadN X52'.here hx rfl (hb hby d7_221) rfl rfl ?_
    show Steps p.tables e below (T52.setTop (mkF m 222 #[vR a0, vR a1, vI p2, vR b4, vI rc, vR b4, vI (1 : Int32), vI (0 : Int32), vI ((0 : Int32) + v0)] [(.ref a0)])) _
    refine st55 _ ?_
    show Steps p.tables e below (T55.setTop (mkF m 225 #[vR a0, vR a1, vI p2, vR b4, vI rc, vR b4, vI (1 : Int32), vI (0 : Int32), vI ((0 : Int32) + v0)] [(.ref aN)])) _
    refine XS.iload X55.here hx rfl (hb hby d7_225) rfl ?_
    refine XS.iconst X55.here hx rfl (hb hby d7_227) ?_
    show Steps p.tables e below (T55.setTop (mkF m 228 #[vR a0, vR a1, vI p2, vR b4, vI rc, vR b4, vI (1 : Int32), vI (0 : Int32), vI ((0 : Int32) + v0)] [(.int (2 : Int32)), (.int ((0 : Int32) + v0)), (.ref aN)])) _
    refine XS.idiv X55.here hx rfl (hb hby d7_228) rfl (by decide) ?_
    show Steps p.tables e below (T55.setTop (mkF m 229 #[vR a0, vR a1, vI p2, vR b4, vI rc, vR b4, vI (1 : Int32), vI (0 : Int32), vI ((0 : Int32) + v0)] [(.int (((0 : Int32) + v0) / (2 : Int32))), (.ref aN)])) _
    refine Jvm.Free.XT.dup2 X55.here hx rfl (hb hby d7_229) rfl rfl rfl ?_
    show Steps p.tables e below (T55.setTop (mkF m 230 #[vR a0, vR a1, vI p2, vR b4, vI rc, vR b4, vI (1 : Int32), vI (0 : Int32), vI ((0 : Int32) + v0)] [(.int (((0 : Int32) + v0) / (2 : Int32))), (.ref aN), (.int (((0 : Int32) + v0) / (2 : Int32))), (.ref aN)])) _
    refine X55.iaload hx (j := (((0 : Int32) + v0) / (2 : Int32))) (v := (.int lw60)) (by rw [e55]; exact Ar58.1) (State.isArrayOf_alike hZ.alike Ar58.2.1) Ar58.2.2 hin59 hat60 (g := (mkF m 230 #[vR a0, vR a1, vI p2, vR b4, vI rc, vR b4, vI (1 : Int32), vI (0 : Int32), vI ((0 : Int32) + v0)] [(.int (((0 : Int32) + v0) / (2 : Int32))), (.ref aN), (.int (((0 : Int32) + v0) / (2 : Int32))), (.ref aN)])) rfl rfl (hb hby d7_230) _ ?_
    show Steps p.tables e below (T55.setTop (mkF m 231 #[vR a0, vR a1, vI p2, vR b4, vI rc, vR b4, vI (1 : Int32), vI (0 : Int32), vI ((0 : Int32) + v0)] [(.int lw60), (.int (((0 : Int32) + v0) / (2 : Int32))), (.ref aN)])) _
    refine XS.iload X55.here hx rfl (hb hby d7_231) rfl ?_
    refine XS.iconst X55.here hx rfl (hb hby d7_233) ?_
    show Steps p.tables e below (T55.setTop (mkF m 234 #[vR a0, vR a1, vI p2, vR b4, vI rc, vR b4, vI (1 : Int32), vI (0 : Int32), vI ((0 : Int32) + v0)] [(.int (2 : Int32)), (.int ((0 : Int32) + v0)), (.int lw60), (.int (((0 : Int32) + v0) / (2 : Int32))), (.ref aN)])) _
    refine iremM X55 hx rfl (hb hby d7_234) rfl (by decide) ?_
    show Steps p.tables e below (T55.setTop (mkF m 235 #[vR a0, vR a1, vI p2, vR b4, vI rc, vR b4, vI (1 : Int32), vI (0 : Int32), vI ((0 : Int32) + v0)] [(.int (((0 : Int32) + v0) % (2 : Int32))), (.int lw60), (.int (((0 : Int32) + v0) / (2 : Int32))), (.ref aN)])) _
    refine XS.iadd X55.here hx rfl (hb hby d7_235) rfl ?_
    show Steps p.tables e below (T55.setTop (mkF m 236 #[vR a0, vR a1, vI p2, vR b4, vI rc, vR b4, vI (1 : Int32), vI (0 : Int32), vI ((0 : Int32) + v0)] [(.int (lw60 + (((0 : Int32) + v0) % (2 : Int32)))), (.int (((0 : Int32) + v0) / (2 : Int32))), (.ref aN)])) _
    refine st62 _ ?_
    show Steps p.tables e below (T62.setTop (mkF m 237 #[vR a0, vR a1, vI p2, vR b4, vI rc, vR b4, vI (1 : Int32), vI (0 : Int32), vI ((0 : Int32) + v0)] [])) _
    refine st72 _ ?_
    show Steps p.tables e below (T72.setTop (mkF m 252 #[vR a0, vR a1, vI p2, vR b4, vI rc, vR b4, vI (1 : Int32), vI (0 : Int32), vI ((0 : Int32) + v0)] [])) _
    refine XS.iinc X72.here hx rfl (hb hby d7_252) rfl (l' := #[vR a0, vR a1, vI p2, vR b4, vI rc, vR b4, vI (1 : Int32), vI (1 : Int32), vI ((0 : Int32) + v0)]) rfl ?_
    refine XS.goto X72.here hx rfl (pc0 := 255) (pc' := 196) rfl (hb hby d7_255) (by decide) (by decide) ?_
    refine XS.iload X72.here hx rfl (hb hby d7_196) rfl ?_
    refine XS.iload X72.here hx rfl (hb hby d7_198) rfl ?_
    refine XS.icmpYes X72.here hx rfl (pc0 := 200) (pc' := 258) rfl (hb hby d7_200) rfl (flt (by decide : ¬ ((1 : Int32) < (1 : Int32)))).2.1 (by decide) (by decide) ?_
    refine XS.aloadN X72.here hx rfl (hb hby d7_258) rfl rfl ?_
    show Steps p.tables e below (T72.setTop (mkF m 259 #[vR a0, vR a1, vI p2, vR b4, vI rc, vR b4, vI (1 : Int32), vI (1 : Int32), vI ((0 : Int32) + v0)] [(.ref a0)])) _
    refine st76 _ ?_
    show Steps p.tables e below (T76.setTop (mkF m 262 #[vR a0, vR a1, vI p2, vR b4, vI rc, vR b4, vI (1 : Int32), vI (1 : Int32), vI ((0 : Int32) + v0)] [(.ref aC)])) _
    refine XS.iload X76.here hx rfl (hb hby d7_262) rfl ?_
    refine XS.iloadN X76.here hx rfl (hb hby d7_264) rfl ?_
    show Steps p.tables e below (T76.setTop (mkF m 265 #[vR a0, vR a1, vI p2, vR b4, vI rc, vR b4, vI (1 : Int32), vI (1 : Int32), vI ((0 : Int32) + v0)] [(.int p2), (.int rc), (.ref aC)])) _
    refine st82 _ ?_
    show Steps p.tables e below (T82.setTop (mkF m 266 #[vR a0, vR a1, vI p2, vR b4, vI rc, vR b4, vI (1 : Int32), vI (1 : Int32), vI ((0 : Int32) + v0)] [])) _
    refine XS.iload X82'.here hx rfl (hb hby d7_266) rfl ?_
    show Steps p.tables e below (T82.setTop (mkF m 268 #[vR a0, vR a1, vI p2, vR b4, vI rc, vR b4, vI (1 : Int32), vI (1 : Int32), vI ((0 : Int32) + v0)] [(.int rc)])) _
    exact retI X82' hx Bd.returns (hb hby d7_268) hr
  · show Q71 Z a0 a1 p2 rc rem aP kP fP aC kC aK kK nK aO kO aN kN nN k1 v0 h0 n0 _ T82.heap _
    rw [e82]
    exact ⟨b4, k4, rfl, N82, sz_b4, K82, E_a0_u84, F_a0_labelCount_u87, F_a0_rowCount_u89, F_a0_pairsShared_u92, F_a0_remainingCount_u94, F_a0_openPairs_u96, F_a0_covered_u97, F_a0_coveredCounts_u98, F_a0_openCounts_u100, F_a0_ones_u101, V_aP_u103, E_aP_u106, V_aO_u107, E_aO_u110, V_aN_u111, E_aN_u114, E_aK_u115, V_aK_u116, V_aC_82, E_aC_u119, E_b4_u121, V_b4_u123⟩
theorem ef_rm72 (m : MethodId) (a0 : Addr) (a1 : Addr) (p2 : Int32) : entryFrame m #[(.ref a0), (.ref a1), (.int p2)] 9 = mkF m 0 #[vR a0, vR a1, vI p2, .unset, .unset, .unset, .unset, .unset, .unset] [] := by first | (simp [entryFrame, mkF, argsToLocals, Value.category]; done) | rfl
def Q72 (Z : State) (a0 : Addr) (a1 : Addr) (p2 : Int32) (rc : Int32) (rem : Int32) (aP : Addr) (kP : ClassId) (fP : Nat → Value) (aC : Addr) (kC : ClassId) (aK : Addr) (kK : ClassId) (nK : Int32) (aO : Addr) (kO : ClassId) (aN : Addr) (kN : ClassId) (nN : Int32) (k1 : ClassId) (v0 : Int32) (v1 : Int32) (h0 : Heap) (n0 : Nat) (v : Option Value) (h : Heap) (L : List Loc) : Prop := ∃ r0 : Addr, ∃ rk0 : ClassId, v = some (.int rc) ∧ Fr n0 L ∧ h0.size ≤ r0 ∧ Keep h0 h [a0, aP, aO, aN, aK, aC] ∧ Exa Z h a0 cCV ∧ Fld Z h a0 cCV "labelCount" "I" (.int (2 : Int32)) ∧ Fld Z h a0 cCV "rowCount" "I" (.int (rc + (1 : Int32))) ∧ Fld Z h a0 cCV "pairsShared" "Z" (.int (0 : Int32)) ∧ Fld Z h a0 cCV "remainingCount" "I" (.int (rem + (1 : Int32))) ∧ Fld Z h a0 cCV "openPairs" "[[I" (.ref aP) ∧ Fld Z h a0 cCV "covered" "[Z" (.ref aC) ∧ Fld Z h a0 cCV "coveredCounts" "[I" (.ref aK) ∧ Fld Z h a0 cCV "openCounts" "[I" (.ref aO) ∧ Fld Z h a0 cCV "ones" "[I" (.ref aN) ∧ own_Arf Z h aP kP (.array .int) (8 : Int32) (own_upd fP (rc).toNatClampNeg (.ref r0)) ∧ Exa Z h aP "[[I" ∧ own_Any Z h aO kO .int nK ∧ Exa Z h aO "[I" ∧ own_Any Z h aN kN .int nN ∧ Exa Z h aN "[I" ∧ Exa Z h aK "[I" ∧ own_Any Z h aK kK .int nK ∧ own_Any Z h aC kC .boolean (8 : Int32) ∧ Exa Z h aC "[Z" ∧ Exa Z h r0 "[I" ∧ Arv Z h r0 rk0 .int (2 : Int32) [(.int ((0 : Int32) + v0)), (.int ((2 : Int32) + v1))] (.int (0 : Int32))
set_option maxRecDepth 65536 in
set_option maxHeartbeats 40000000 in
theorem rm72 (l : Launch) (Z : State) (az : Array Value) (hw : ∀ d ∈ tables_1, d.before az Z = true) (ws : List Jvm.Cond) (a0 : Addr) (a1 : Addr) (p2 : Int32) (rc : Int32) (rem : Int32) (aP : Addr) (kP : ClassId) (fP : Nat → Value) (aC : Addr) (kC : ClassId) (aK : Addr) (kK : ClassId) (nK : Int32) (aO : Addr) (kO : ClassId) (aN : Addr) (kN : ClassId) (nN : Int32) (k1 : ClassId) (v0 : Int32) (v1 : Int32) (h0 : Heap) (n0 : Nat) (Z0 : n0 ≤ h0.size) (E_a0 : Exa Z h0 a0 cCV) (F_labelCount_a0 : Fld Z h0 a0 cCV "labelCount" "I" (.int (2 : Int32))) (F_rowCount_a0 : Fld Z h0 a0 cCV "rowCount" "I" (.int rc)) (F_pairsShared_a0 : Fld Z h0 a0 cCV "pairsShared" "Z" (.int (0 : Int32))) (F_remainingCount_a0 : Fld Z h0 a0 cCV "remainingCount" "I" (.int rem)) (F_openPairs_a0 : Fld Z h0 a0 cCV "openPairs" "[[I" (.ref aP)) (V_aP : own_Arf Z h0 aP kP (.array .int) (8 : Int32) fP) (E_aP : Exa Z h0 aP "[[I") (F_covered_a0 : Fld Z h0 a0 cCV "covered" "[Z" (.ref aC)) (V_aC : own_Any Z h0 aC kC .boolean (8 : Int32)) (E_aC : Exa Z h0 aC "[Z") (F_coveredCounts_a0 : Fld Z h0 a0 cCV "coveredCounts" "[I" (.ref aK)) (V_aK : own_Any Z h0 aK kK .int nK) (E_aK : Exa Z h0 aK "[I") (F_openCounts_a0 : Fld Z h0 a0 cCV "openCounts" "[I" (.ref aO)) (V_aO : own_Any Z h0 aO kO .int nK) (E_aO : Exa Z h0 aO "[I") (F_ones_a0 : Fld Z h0 a0 cCV "ones" "[I" (.ref aN)) (V_aN : own_Any Z h0 aN kN .int nN) (E_aN : Exa Z h0 aN "[I") (O_kP : OvrA Z kP .int "[I") (V_a1 : Arv Z h0 a1 k1 .int (2 : Int32) [(.int v0), (.int v1)] (.int (0 : Int32))) (hc22 : v0 = (0 : Int32) ∨ v0 = (1 : Int32)) (hc23 : v1 = (0 : Int32) ∨ v1 = (1 : Int32)) (hc24 : ¬ (rc = (8 : Int32))) (g_a0 : n0 ≤ a0) (hc26 : ¬ (rc < (0 : Int32))) (hc27 : rc < (8 : Int32)) (g_aP : n0 ≤ aP) (hc29 : ¬ (((0 : Int32) + v0) < (0 : Int32))) (hc30 : ((0 : Int32) + v0) < nK) (g_aO : n0 ≤ aO) (hne_aN_aO : aN ≠ aO) (hc33 : ¬ ((((0 : Int32) + v0) / (2 : Int32)) < (0 : Int32))) (hc34 : (((0 : Int32) + v0) / (2 : Int32)) < nN) (g_aN : n0 ≤ aN) (hne_aK_aO : aK ≠ aO) (hne_aK_aN : aK ≠ aN) (g_aK : n0 ≤ aK) (hc39 : ¬ (((2 : Int32) + v1) < (0 : Int32))) (hc40 : ((2 : Int32) + v1) < nK) (hc41 : ¬ ((((2 : Int32) + v1) / (2 : Int32)) < (0 : Int32))) (hc42 : (((2 : Int32) + v1) / (2 : Int32)) < nN) (hc43 : nar .boolean p2 = p2) (g_aC : n0 ≤ aC) :
    MetFree l (⟨cCV, "addRow", "([IZ)I"⟩ : MethodName) (head1 (Jvm.Cond.code (⟨cCV, "addRow", "([IZ)I"⟩ : MethodName) prog_21_method_5_code 9 (some .int) :: ws) ({ frames := 1, cells := 1, slots := 2, locals := 20 } : Room)) (fun a U => a = #[(.ref a0), (.ref a1), (.int p2)] ∧ Z.Warmed39 U.vm ∧ U.heap = h0) (fun _ _ _ _ _ => True) (fun _ U o U' => ∃ v L, o = .returned v ∧ Q72 Z a0 a1 p2 rc rem aP kP fP aC kC aK kK nK aO kO aN kN nN k1 v0 v1 h0 n0 v U'.heap L ∧ FrameEnd U o U' L ({ frames := 1, cells := 1, slots := 2, locals := 20 } : Room).cells ({ frames := 1, cells := 1, slots := 2, locals := 20 } : Room).slots) := by
  refine MetFree.of_bodySF (plainFor_of_name pn_com_example_headlattice_headlattice_learn_Coverage) hisR ?_
  intro p e s m args below meth c s₁ Bd hml0 hP hK
  obtain ⟨rfl, hZ, hh⟩ := hP
  have hx := Bd.exec
  have hby := Bd.bytes
  have hml : c.maxLocals = 9 := hml0
  have hown : s.vm.findClass cCV = some m.cls := findClass_of_methodNamed Bd.named
  have hnm := (name_of_methodNamed Bd.named Bd.method).1
  have X0 : Stand p l e ({ frames := 1, cells := 1, slots := 2, locals := 20 } : Room) s m #[(.ref a0), (.ref a1), (.int p2)] below meth c s₁ [] 0 0 := Stand.of_body Bd
  have e0 : s₁.heap = h0 := by rw [← hh, Bd.state]; rfl
  have N0 := Fr.nil n0
  have pre0 : ∀ t, Steps p.tables e below (s₁.setTop (mkF m 0 #[vR a0, vR a1, vI p2, .unset, .unset, .unset, .unset, .unset, .unset] [])) t → Steps p.tables e below (s₁.setTop (entryFrame m #[(.ref a0), (.ref a1), (.int p2)] 9)) t := fun t k => castTop (ef_rm72 m a0 a1 p2) k
  obtain ⟨cl1, Ar1, qk1, Sz1, Ng1, Hs1, Gf1⟩ := id V_a1
  obtain ⟨T2, X2, e2, st2⟩ := getF X0 hx hZ hown (host := "") (Or.inl (w9 hw)) Via.refl e0 F_labelCount_a0 (g := (mkF m 3 #[vR a0, vR a1, vI p2, .unset, .unset, .unset, .unset, .unset, .unset] [(.ref a0), (.int (2 : Int32))])) rfl rfl (hb hby d7_3)
  obtain ⟨T3, X3, e3, st3⟩ := getF X2 hx hZ hown (host := "") (Or.inl (w9 hw)) Via.refl e2 F_labelCount_a0 (g := (mkF m 29 #[vR a0, vR a1, vI p2, .unset, .unset, .unset, .unset, .unset, .unset] [(.ref a0)])) rfl rfl (hb hby d7_29)
  obtain ⟨T4, h4, k4, X4, e4, E4, A4, x4, st4⟩ := newPE X3 hx hZ (aty := .int) (w18 hw) e3 (g := (mkF m 32 #[vR a0, vR a1, vI p2, .unset, .unset, .unset, .unset, .unset, .unset] [(.int (2 : Int32))])) rfl (hb hby d7_32) rfl (by decide) (cap := 2) (by decide) (by decide) (by decide) (by decide) (ad := "[I") (by decide)
  obtain ⟨b4, g4⟩ : ∃ z, z = h0.size := ⟨_, rfl⟩
  rw [← g4] at A4 x4 st4
  have g_b4 : n0 ≤ b4 := Nat.le_trans Z0 (Nat.le_of_eq g4.symm)
  have sz_b4 : h0.size ≤ b4 := Nat.le_trans (Nat.le_refl _) (Nat.le_of_eq g4.symm)
  have Z4 : n0 ≤ h4.size := Nat.le_trans Z0 E4.1
  have K4 : Keep h0 h4 [a0, aP, aO, aN, aK, aC] := (Keep.refl h0 [a0, aP, aO, aN, aK, aC]).ext E4
  have E_b4 := x4
  have V_b4 : Arv Z h4 b4 k4 .int (2 : Int32) [(.int (0 : Int32)), (.int (0 : Int32))] (.int (0 : Int32)) := (Arv.new A4 (by decide)).pad (pad_rep [] (.int (0 : Int32)) 2)
  have F_a0_labelCount_u5 : Fld Z h4 a0 cCV "labelCount" "I" (.int (2 : Int32)) := (F_labelCount_a0.ext E4)
  obtain ⟨T6, X6, e6, st6⟩ := getF X4 hx hZ hown (host := "") (Or.inl (w9 hw)) Via.refl e4 F_a0_labelCount_u5 (g := (mkF m 41 #[vR a0, vR a1, vI p2, vR b4, vI (0 : Int32), .unset, .unset, .unset, .unset] [(.ref a0), (.int (0 : Int32))])) rfl rfl (hb hby d7_41)
  have V_a1_u7 : Arv Z h4 a1 k1 .int (2 : Int32) [(.int v0), (.int v1)] (.int (0 : Int32)) := (V_a1.ext E4)
  obtain ⟨cl8, Ar8, qk8, Sz8, Ng8, Hs8, Gf8⟩ := id V_a1_u7
  have hin9 : ¬ ((0 : Int32) < 0 ∨ cl8.slots.size ≤ ((0 : Int32)).toNatClampNeg) := inb_of Sz8 ⟨by decide, by decide⟩
  have hat10 : cl8.slots[((0 : Int32)).toNatClampNeg]? = some (.int v0) := Hs8.at hin9 rfl
  obtain ⟨T11, hs11, g11, ⟨rfl, es11⟩, ⟨Lg11, X11, e11, N11⟩, st11⟩ := sg01 l Z az hw hx hby hml hown hZ a0 a1 p2 b4 (0 : Int32) v0 h4 n0 Z4 hc22 T6 ⟨_, X6, e6, N0⟩
  rw [es11] at e11
  obtain ⟨cl12, Ar12, qk12, Sz12, Ng12, Hs12, Gf12⟩ := id V_b4
  have hin13 : ¬ ((0 : Int32) < 0 ∨ cl12.slots.size ≤ ((0 : Int32)).toNatClampNeg) := inb_of Sz12 ⟨by decide, by decide⟩
  obtain ⟨T14, h14, X14, e14, W14, st14⟩ := stI X11 hx hZ e11 Ar12 (j := (0 : Int32)) hin13 (g := (mkF m 89 #[vR a0, vR a1, vI p2, vR b4, vI (0 : Int32), vI v0, .unset, .unset, .unset] [(.int ((0 : Int32) + v0)), (.int (0 : Int32)), (.ref b4)])) rfl rfl (hb hby d7_89)
  have K14 : Keep h0 h14 [a0, aP, aO, aN, aK, aC] := K4.wr W14 (Or.inr sz_b4)
  have V_b4_14 : Arv Z h14 b4 k4 .int (2 : Int32) [(.int ((0 : Int32) + v0)), (.int (0 : Int32))] (.int (0 : Int32)) := Arv.set (v := (.int ((0 : Int32) + v0))) Ar12 qk12 Sz12 Ng12 Hs12 Gf12 rfl W14 0 rfl (Nat.le_of_ble_eq_true rfl)
  have Z14 : n0 ≤ h14.size := Nat.le_trans Z4 (Keep.of_wr W14).1
  obtain ⟨Lg14, X14', N14⟩ := own_gen X14 (Fr.snoc X14 N11 g_b4)
  have ne_a0_b4 : a0 ≠ b4 := own_ne (Nat.lt_of_lt_of_le E_a0.lt (Nat.le_of_eq g4.symm))
  have F_a0_labelCount_u15 : Fld Z h14 a0 cCV "labelCount" "I" (.int (2 : Int32)) := (F_a0_labelCount_u5.other W14 (Or.inl ne_a0_b4))
  obtain ⟨T16, X16, e16, st16⟩ := getF X14' hx hZ hown (host := "") (Or.inl (w9 hw)) Via.refl e14 F_a0_labelCount_u15 (g := (mkF m 41 #[vR a0, vR a1, vI p2, vR b4, vI (1 : Int32), vI v0, .unset, .unset, .unset] [(.ref a0), (.int (1 : Int32))])) rfl rfl (hb hby d7_41)
  have ne_a1_b4 : a1 ≠ b4 := own_ne (Nat.lt_of_lt_of_le V_a1.lt (Nat.le_of_eq g4.symm))
  have V_a1_u17 : Arv Z h14 a1 k1 .int (2 : Int32) [(.int v0), (.int v1)] (.int (0 : Int32)) := (V_a1_u7.other W14 ne_a1_b4)
  obtain ⟨cl18, Ar18, qk18, Sz18, Ng18, Hs18, Gf18⟩ := id V_a1_u17
  have hin19 : ¬ ((1 : Int32) < 0 ∨ cl18.slots.size ≤ ((1 : Int32)).toNatClampNeg) := inb_of Sz18 ⟨by decide, by decide⟩
  have hat20 : cl18.slots[((1 : Int32)).toNatClampNeg]? = some (.int v1) := Hs18.at hin19 rfl
  obtain ⟨T21, hs21, g21, ⟨rfl, es21⟩, ⟨Lg21, X21, e21, N21⟩, st21⟩ := sg01 l Z az hw hx hby hml hown hZ a0 a1 p2 b4 (1 : Int32) v1 h14 n0 Z14 hc23 T16 ⟨_, X16, e16, N14⟩
  rw [es21] at e21
  obtain ⟨cl22, Ar22, qk22, Sz22, Ng22, Hs22, Gf22⟩ := id V_b4_14
  have hin23 : ¬ ((1 : Int32) < 0 ∨ cl22.slots.size ≤ ((1 : Int32)).toNatClampNeg) := inb_of Sz22 ⟨by decide, by decide⟩
  obtain ⟨T24, h24, X24, e24, W24, st24⟩ := stI X21 hx hZ e21 Ar22 (j := (1 : Int32)) hin23 (g := (mkF m 89 #[vR a0, vR a1, vI p2, vR b4, vI (1 : Int32), vI v1, .unset, .unset, .unset] [(.int ((2 : Int32) + v1)), (.int (1 : Int32)), (.ref b4)])) rfl rfl (hb hby d7_89)
  have K24 : Keep h0 h24 [a0, aP, aO, aN, aK, aC] := K14.wr W24 (Or.inr sz_b4)
  have V_b4_24 : Arv Z h24 b4 k4 .int (2 : Int32) [(.int ((0 : Int32) + v0)), (.int ((2 : Int32) + v1))] (.int (0 : Int32)) := Arv.set (v := (.int ((2 : Int32) + v1))) Ar22 qk22 Sz22 Ng22 Hs22 Gf22 rfl W24 1 rfl (Nat.le_of_ble_eq_true rfl)
  have Z24 : n0 ≤ h24.size := Nat.le_trans Z14 (Keep.of_wr W24).1
  obtain ⟨Lg24, X24', N24⟩ := own_gen X24 (Fr.snoc X24 N21 g_b4)
  have F_a0_labelCount_u25 : Fld Z h24 a0 cCV "labelCount" "I" (.int (2 : Int32)) := (F_a0_labelCount_u15.other W24 (Or.inl ne_a0_b4))
  obtain ⟨T26, X26, e26, st26⟩ := getF X24' hx hZ hown (host := "") (Or.inl (w9 hw)) Via.refl e24 F_a0_labelCount_u25 (g := (mkF m 41 #[vR a0, vR a1, vI p2, vR b4, vI (2 : Int32), vI v1, .unset, .unset, .unset] [(.ref a0), (.int (2 : Int32))])) rfl rfl (hb hby d7_41)
  have F_a0_rowCount_u27 : Fld Z h24 a0 cCV "rowCount" "I" (.int rc) := (((F_rowCount_a0.ext E4).other W14 (Or.inl ne_a0_b4)).other W24 (Or.inl ne_a0_b4))
  obtain ⟨T28, X28, e28, st28⟩ := getF X26 hx hZ hown (host := "") (Or.inl (w40 hw)) Via.refl e26 F_a0_rowCount_u27 (g := (mkF m 97 #[vR a0, vR a1, vI p2, vR b4, vI (2 : Int32), vI v1, .unset, .unset, .unset] [(.ref a0)])) rfl rfl (hb hby d7_97)
  have F_a0_openPairs_u29 : Fld Z h24 a0 cCV "openPairs" "[[I" (.ref aP) := (((F_openPairs_a0.ext E4).other W14 (Or.inl ne_a0_b4)).other W24 (Or.inl ne_a0_b4))
  obtain ⟨T30, X30, e30, st30⟩ := getF X28 hx hZ hown (host := "") (Or.inl (w13 hw)) Via.refl e28 F_a0_openPairs_u29 (g := (mkF m 101 #[vR a0, vR a1, vI p2, vR b4, vI (2 : Int32), vI v1, .unset, .unset, .unset] [(.ref a0), (.int rc)])) rfl rfl (hb hby d7_101)
  have ne_aP_b4 : aP ≠ b4 := own_ne (Nat.lt_of_lt_of_le E_aP.lt (Nat.le_of_eq g4.symm))
  have V_aP_u31 : own_Arf Z h24 aP kP (.array .int) (8 : Int32) fP := (((V_aP.ext E4).other W14 ne_aP_b4).other W24 ne_aP_b4)
  obtain ⟨cl32, Ar32, qk32, Sz32, Ng32, Hs32, Gf32⟩ := id V_aP_u31
  have F_a0_pairsShared_u34 : Fld Z h24 a0 cCV "pairsShared" "Z" (.int (0 : Int32)) := (((F_pairsShared_a0.ext E4).other W14 (Or.inl ne_a0_b4)).other W24 (Or.inl ne_a0_b4))
  have E_a0_u35 : Exa Z h24 a0 cCV := (((E_a0.ext E4).wr W14).wr W24)
  obtain ⟨cq33, q33, q33'⟩ := E_a0_u35.cell
  obtain ⟨_, _, ⟨T33, L33, k33', n33'⟩, -, X33, ⟨Lc33, hQ33, l33, y33, z33⟩, st33⟩ := X30.privateBack hx (y := (⟨cCV, "ownPairs", "()V"⟩ : MethodName)) hown (mvT hZ (w48 hw)) (mvT hZ (w49 hw)) (own_priv (mvT hZ (w1 hw)) (Cond.privateMethod_at (mvP hZ (w50 hw) (args := #[]))) (mvT hZ (w49 hw)) (by decide)) (Cond.privateMethod_at (mvP hZ (w50 hw) (args := #[]))) (mvT hZ (w51 hw)) (by decide) (backOf (W := 0) (rm8 l Z az hw [] a0 h24 n0 Z24 F_a0_pairsShared_u34) hZ (w51 hw) (w2 hw) (by decide) (by decide)) (g := (mkF m 151 #[vR a0, vR a1, vI p2, vR b4, vI (2 : Int32), vI v1, .unset, .unset, .unset] [(.ref a0)])) rfl (by rw [hml]; rfl) (Steps.refl _) (a := a0) (by rw [e30]; exact q33) q33' (argsL := []) (rest := []) (lenOf pd_0 rfl) rfl (by show 2 * 0 + _ ≤ _; exact Nat.le_of_eq rfl) (hb hby d7_151) (fun _ _ => ⟨rfl, e30, (by decide : 1 + 0 ≤ _), (by decide : 2 + 0 ≤ _)⟩)
  dsimp only [Pt.U, Pt.locs, Pt.cells, Pt.slots] at X33 l33 y33 z33 st33 hQ33
  subst l33 y33 z33
  obtain ⟨rfl, N33q, e33⟩ := hQ33
  obtain ⟨Lg33, X33', N33⟩ := own_gen X33 (Fr.app N24 N33q)
  obtain ⟨T36, X36, e36, st36⟩ := getF X33' hx hZ hown (host := "") (Or.inl (w40 hw)) Via.refl e33 F_a0_rowCount_u27 (g := (mkF m 156 #[vR a0, vR a1, vI p2, vR b4, vI (2 : Int32), vI v1, .unset, .unset, .unset] [(.ref a0), (.ref a0)])) rfl rfl (hb hby d7_156)
  obtain ⟨T37, h37, X37, e37, W37, st37⟩ := putF X36 hx hZ hown (host := "") (Or.inl (w40 hw)) Via.refl e36 F_a0_rowCount_u27 E_a0_u35 (Or.inl (w41 hw)) (w1 hw) (ty := .int) (by decide) rfl rfl (g := (mkF m 162 #[vR a0, vR a1, vI p2, vR b4, vI (2 : Int32), vI v1, .unset, .unset, .unset] [(.int (rc + (1 : Int32))), (.ref a0), (.int rc)])) rfl rfl (hb hby d7_162)
  have K37 : Keep h0 h37 [a0, aP, aO, aN, aK, aC] := K24.wr W37 (Or.inl (List.mem_of_getElem? (i := 0) rfl))
  have Fw37 := F_a0_rowCount_u27.same W37
  have Z37 : n0 ≤ h37.size := Nat.le_trans Z24 (Keep.of_wr W37).1
  obtain ⟨Lg37, X37', N37⟩ := own_gen X37 (Fr.snoc X37 N33 g_a0)
  have c38 : Fld Z h24 a0 cCV "remainingCount" "I" (.int rem) := (((F_remainingCount_a0.ext E4).other W14 (Or.inl ne_a0_b4)).other W24 (Or.inl ne_a0_b4))
  have F_a0_remainingCount_u39 : Fld Z h37 a0 cCV "remainingCount" "I" (.int rem) := (c38.other W37 (Or.inr (sl_48 hw)))
  obtain ⟨T40, X40, e40, st40⟩ := getF X37' hx hZ hown (host := "") (Or.inl (w54 hw)) Via.refl e37 F_a0_remainingCount_u39 (g := (mkF m 169 #[vR a0, vR a1, vI p2, vR b4, vI rc, vI v1, .unset, .unset, .unset] [(.ref a0), (.ref a0)])) rfl rfl (hb hby d7_169)
  have E_a0_u41 : Exa Z h37 a0 cCV := (E_a0_u35.wr W37)
  obtain ⟨T42, h42, X42, e42, W42, st42⟩ := putF X40 hx hZ hown (host := "") (Or.inl (w54 hw)) Via.refl e40 F_a0_remainingCount_u39 E_a0_u41 (Or.inl (w55 hw)) (w1 hw) (ty := .int) (by decide) rfl rfl (g := (mkF m 174 #[vR a0, vR a1, vI p2, vR b4, vI rc, vI v1, .unset, .unset, .unset] [(.int (rem + (1 : Int32))), (.ref a0)])) rfl rfl (hb hby d7_174)
  have K42 : Keep h0 h42 [a0, aP, aO, aN, aK, aC] := K37.wr W42 (Or.inl (List.mem_of_getElem? (i := 0) rfl))
  have Fw42 := F_a0_remainingCount_u39.same W42
  have Z42 : n0 ≤ h42.size := Nat.le_trans Z37 (Keep.of_wr W42).1
  obtain ⟨Lg42, X42', N42⟩ := own_gen X42 (Fr.snoc X42 N37 g_a0)
  have F_a0_openPairs_u43 : Fld Z h42 a0 cCV "openPairs" "[[I" (.ref aP) := ((F_a0_openPairs_u29.other W37 (Or.inr (sl_49 hw))).other W42 (Or.inr (sl_50 hw)))
  obtain ⟨T44, X44, e44, st44⟩ := getF X42' hx hZ hown (host := "") (Or.inl (w13 hw)) Via.refl e42 F_a0_openPairs_u43 (g := (mkF m 178 #[vR a0, vR a1, vI p2, vR b4, vI rc, vI v1, .unset, .unset, .unset] [(.ref a0)])) rfl rfl (hb hby d7_178)
  have ne_aP_a0 : aP ≠ a0 := ne_exa E_aP E_a0 (by decide)
  have V_aP_u45 : own_Arf Z h42 aP kP (.array .int) (8 : Int32) fP := ((V_aP_u31.other W37 ne_aP_a0).other W42 ne_aP_a0)
  obtain ⟨cl46, Ar46, qk46, Sz46, Ng46, Hs46, Gf46⟩ := id V_aP_u45
  have hin47 : ¬ (rc < 0 ∨ cl46.slots.size ≤ (rc).toNatClampNeg) := inb_of Sz46 ⟨hc26, hc27⟩
  have c48 : Exa Z h37 b4 "[I" := (((E_b4.wr W14).wr W24).wr W37)
  have E_b4_u49 : Exa Z h42 b4 "[I" := (c48.wr W42)
  obtain ⟨T50, h50, X50, e50, W50, st50⟩ := stR X44 hx hZ e44 Ar46 (j := rc) hin47 rfl (Sto.ofVA Ar46 qk46 O_kP (Ins.self E_b4_u49)) (g := (mkF m 184 #[vR a0, vR a1, vI p2, vR b4, vI rc, vI v1, .unset, .unset, .unset] [(.ref b4), (.int rc), (.ref aP)])) rfl rfl (hb hby d7_184)
  have K50 : Keep h0 h50 [a0, aP, aO, aN, aK, aC] := K42.wr W50 (Or.inl (List.mem_of_getElem? (i := 1) rfl))
  have V_aP_50 : own_Arf Z h50 aP kP (.array .int) (8 : Int32) (own_upd fP (rc).toNatClampNeg (.ref b4)) := own_Arf.set (v := (.ref b4)) Ar46 qk46 Sz46 Ng46 Hs46 Gf46 rfl W50
  have Z50 : n0 ≤ h50.size := Nat.le_trans Z42 (Keep.of_wr W50).1
  obtain ⟨Lg50, X50', N50⟩ := own_gen X50 (Fr.snoc X50 N42 g_aP)
  have V_b4_u51 : Arv Z h50 b4 k4 .int (2 : Int32) [(.int ((0 : Int32) + v0)), (.int ((2 : Int32) + v1))] (.int (0 : Int32)) := (((V_b4_24.other W37 (Ne.symm ne_a0_b4)).other W42 (Ne.symm ne_a0_b4)).other W50 (Ne.symm ne_aP_b4))
  obtain ⟨cl52, Ar52, qk52, Sz52, Ng52, Hs52, Gf52⟩ := id V_b4_u51
  have hin53 : ¬ ((0 : Int32) < 0 ∨ cl52.slots.size ≤ ((0 : Int32)).toNatClampNeg) := inb_of Sz52 ⟨by decide, by decide⟩
  have hat54 : cl52.slots[((0 : Int32)).toNatClampNeg]? = some (.int ((0 : Int32) + v0)) := Hs52.at hin53 rfl
  have c55 : Fld Z h24 a0 cCV "openCounts" "[I" (.ref aO) := (((F_openCounts_a0.ext E4).other W14 (Or.inl ne_a0_b4)).other W24 (Or.inl ne_a0_b4))
  have ne_a0_aP : a0 ≠ aP := ne_exa E_a0 E_aP (by decide)
  have F_a0_openCounts_u56 : Fld Z h50 a0 cCV "openCounts" "[I" (.ref aO) := (((c55.other W37 (Or.inr (sl_51 hw))).other W42 (Or.inr (sl_52 hw))).other W50 (Or.inl ne_a0_aP))
  obtain ⟨T57, X57, e57, st57⟩ := getF X50' hx hZ hown (host := "") (Or.inl (w21 hw)) Via.refl e50 F_a0_openCounts_u56 (g := (mkF m 211 #[vR a0, vR a1, vI p2, vR b4, vI rc, vR b4, vI (2 : Int32), vI (0 : Int32), vI ((0 : Int32) + v0)] [(.ref a0)])) rfl rfl (hb hby d7_211)
  have ne_aO_b4 : aO ≠ b4 := own_ne (Nat.lt_of_lt_of_le E_aO.lt (Nat.le_of_eq g4.symm))
  have c58 : own_Any Z h24 aO kO .int nK := (((V_aO.ext E4).other W14 ne_aO_b4).other W24 ne_aO_b4)
  have ne_aO_a0 : aO ≠ a0 := ne_exa E_aO E_a0 (by decide)
  have ne_aO_aP : aO ≠ aP := ne_exa E_aO E_aP (by decide)
  have V_aO_u59 : own_Any Z h50 aO kO .int nK := (((c58.other W37 ne_aO_a0).other W42 ne_aO_a0).other W50 ne_aO_aP)
  obtain ⟨ff60, cl60, Ar60, qk60, Sz60, Ng60, Hs60, Gf60⟩ := id V_aO_u59
  have hin61 : ¬ (((0 : Int32) + v0) < 0 ∨ cl60.slots.size ≤ (((0 : Int32) + v0)).toNatClampNeg) := inb_of Sz60 ⟨hc29, hc30⟩
  obtain ⟨lw62, hat62⟩ := own_any_at Hs60 Gf60 hin61 (Or.inl rfl)
  have hin63 : ¬ (((0 : Int32) + v0) < 0 ∨ cl60.slots.size ≤ (((0 : Int32) + v0)).toNatClampNeg) := inb_of Sz60 ⟨hc29, hc30⟩
  obtain ⟨T64, h64, X64, e64, W64, st64⟩ := stI X57 hx hZ e57 Ar60 (j := ((0 : Int32) + v0)) hin63 (g := (mkF m 220 #[vR a0, vR a1, vI p2, vR b4, vI rc, vR b4, vI (2 : Int32), vI (0 : Int32), vI ((0 : Int32) + v0)] [(.int (lw62 + (1 : Int32))), (.int ((0 : Int32) + v0)), (.ref aO)])) rfl rfl (hb hby d7_220)
  have K64 : Keep h0 h64 [a0, aP, aO, aN, aK, aC] := K50.wr W64 (Or.inl (List.mem_of_getElem? (i := 2) rfl))
  have V_aO_64 : own_Any Z h64 aO kO .int nK := ⟨_, own_Arf.set (v := (.int (lw62 + (1 : Int32)))) Ar60 qk60 Sz60 Ng60 Hs60 Gf60 rfl W64⟩
  have Z64 : n0 ≤ h64.size := Nat.le_trans Z50 (Keep.of_wr W64).1
  obtain ⟨Lg64, X64', N64⟩ := own_gen X64 (Fr.snoc X64 N50 g_aO)
  have c65 : Fld Z h24 a0 cCV "ones" "[I" (.ref aN) := (((F_ones_a0.ext E4).other W14 (Or.inl ne_a0_b4)).other W24 (Or.inl ne_a0_b4))
  have c66 : Fld Z h50 a0 cCV "ones" "[I" (.ref aN) := (((c65.other W37 (Or.inr (sl_53 hw))).other W42 (Or.inr (sl_54 hw))).other W50 (Or.inl ne_a0_aP))
  have ne_a0_aO : a0 ≠ aO := ne_exa E_a0 E_aO (by decide)
  have F_a0_ones_u67 : Fld Z h64 a0 cCV "ones" "[I" (.ref aN) := (c66.other W64 (Or.inl ne_a0_aO))
  obtain ⟨T68, X68, e68, st68⟩ := getF X64' hx hZ hown (host := "") (Or.inl (w23 hw)) Via.refl e64 F_a0_ones_u67 (g := (mkF m 222 #[vR a0, vR a1, vI p2, vR b4, vI rc, vR b4, vI (2 : Int32), vI (0 : Int32), vI ((0 : Int32) + v0)] [(.ref a0)])) rfl rfl (hb hby d7_222)
  have ne_aN_b4 : aN ≠ b4 := own_ne (Nat.lt_of_lt_of_le E_aN.lt (Nat.le_of_eq g4.symm))
  have c69 : own_Any Z h24 aN kN .int nN := (((V_aN.ext E4).other W14 ne_aN_b4).other W24 ne_aN_b4)
  have ne_aN_a0 : aN ≠ a0 := ne_exa E_aN E_a0 (by decide)
  have ne_aN_aP : aN ≠ aP := ne_exa E_aN E_aP (by decide)
  have c70 : own_Any Z h50 aN kN .int nN := (((c69.other W37 ne_aN_a0).other W42 ne_aN_a0).other W50 ne_aN_aP)
  have V_aN_u71 : own_Any Z h64 aN kN .int nN := (c70.other W64 hne_aN_aO)
  obtain ⟨ff72, cl72, Ar72, qk72, Sz72, Ng72, Hs72, Gf72⟩ := id V_aN_u71
  have hin73 : ¬ ((((0 : Int32) + v0) / (2 : Int32)) < 0 ∨ cl72.slots.size ≤ ((((0 : Int32) + v0) / (2 : Int32))).toNatClampNeg) := inb_of Sz72 ⟨hc33, hc34⟩
  obtain ⟨lw74, hat74⟩ := own_any_at Hs72 Gf72 hin73 (Or.inl rfl)
  have hin75 : ¬ ((((0 : Int32) + v0) / (2 : Int32)) < 0 ∨ cl72.slots.size ≤ ((((0 : Int32) + v0) / (2 : Int32))).toNatClampNeg) := inb_of Sz72 ⟨hc33, hc34⟩
  obtain ⟨T76, h76, X76, e76, W76, st76⟩ := stI X68 hx hZ e68 Ar72 (j := (((0 : Int32) + v0) / (2 : Int32))) hin75 (g := (mkF m 236 #[vR a0, vR a1, vI p2, vR b4, vI rc, vR b4, vI (2 : Int32), vI (0 : Int32), vI ((0 : Int32) + v0)] [(.int (lw74 + (((0 : Int32) + v0) % (2 : Int32)))), (.int (((0 : Int32) + v0) / (2 : Int32))), (.ref aN)])) rfl rfl (hb hby d7_236)
  have K76 : Keep h0 h76 [a0, aP, aO, aN, aK, aC] := K64.wr W76 (Or.inl (List.mem_of_getElem? (i := 3) rfl))
  have V_aN_76 : own_Any Z h76 aN kN .int nN := ⟨_, own_Arf.set (v := (.int (lw74 + (((0 : Int32) + v0) % (2 : Int32))))) Ar72 qk72 Sz72 Ng72 Hs72 Gf72 rfl W76⟩
  have Z76 : n0 ≤ h76.size := Nat.le_trans Z64 (Keep.of_wr W76).1
  obtain ⟨Lg76, X76', N76⟩ := own_gen X76 (Fr.snoc X76 N64 g_aN)
  have c77 : Fld Z h24 a0 cCV "coveredCounts" "[I" (.ref aK) := (((F_coveredCounts_a0.ext E4).other W14 (Or.inl ne_a0_b4)).other W24 (Or.inl ne_a0_b4))
  have c78 : Fld Z h50 a0 cCV "coveredCounts" "[I" (.ref aK) := (((c77.other W37 (Or.inr (sl_55 hw))).other W42 (Or.inr (sl_56 hw))).other W50 (Or.inl ne_a0_aP))
  have ne_a0_aN : a0 ≠ aN := ne_exa E_a0 E_aN (by decide)
  have F_a0_coveredCounts_u79 : Fld Z h76 a0 cCV "coveredCounts" "[I" (.ref aK) := ((c78.other W64 (Or.inl ne_a0_aO)).other W76 (Or.inl ne_a0_aN))
  have ne_aK_b4 : aK ≠ b4 := own_ne (Nat.lt_of_lt_of_le E_aK.lt (Nat.le_of_eq g4.symm))
  have c80 : own_Any Z h24 aK kK .int nK := (((V_aK.ext E4).other W14 ne_aK_b4).other W24 ne_aK_b4)
  have ne_aK_a0 : aK ≠ a0 := ne_exa E_aK E_a0 (by decide)
  have ne_aK_aP : aK ≠ aP := ne_exa E_aK E_aP (by decide)
  have c81 : own_Any Z h50 aK kK .int nK := (((c80.other W37 ne_aK_a0).other W42 ne_aK_a0).other W50 ne_aK_aP)
  have V_aK_u82 : own_Any Z h76 aK kK .int nK := ((c81.other W64 hne_aK_aO).other W76 hne_aK_aN)
  have c83 : Exa Z h24 aK "[I" := (((E_aK.ext E4).wr W14).wr W24)
  have c84 : Exa Z h50 aK "[I" := (((c83.wr W37).wr W42).wr W50)
  have E_aK_u85 : Exa Z h76 aK "[I" := ((c84.wr W64).wr W76)
  obtain ⟨T86, h86c, g86, ⟨rfl, kq86, pf86_0, pf86_1⟩, ⟨Lg86, X86, e86, N86⟩, st86⟩ := sg02 l Z az hw hx hby hml hown hZ a0 (vR a1) p2 (vR b4) (vI rc) (vR b4) (vI (2 : Int32)) (vI (0 : Int32)) ((0 : Int32) + v0) aK kK nK h76 n0 Z76 F_a0_coveredCounts_u79 V_aK_u82 E_aK_u85 g_aK hc29 hc30 T76 ⟨_, X76', e76, N76⟩
  have K86 : Keep h0 h86c [a0, aP, aO, aN, aK, aC] := K76.trans kq86 (allS (Or.inl (List.mem_of_getElem? (i := 4) rfl)) all0)
  have Z86 : n0 ≤ h86c.size := Nat.le_trans Z76 kq86.1
  have V_b4_u87 : Arv Z h86c b4 k4 .int (2 : Int32) [(.int ((0 : Int32) + v0)), (.int ((2 : Int32) + v1))] (.int (0 : Int32)) := (((V_b4_u51.other W64 (Ne.symm ne_aO_b4)).other W76 (Ne.symm ne_aN_b4)).keep kq86 (ninS (Ne.symm ne_aK_b4) nin0))
  obtain ⟨cl88, Ar88, qk88, Sz88, Ng88, Hs88, Gf88⟩ := id V_b4_u87
  have hin89 : ¬ ((1 : Int32) < 0 ∨ cl88.slots.size ≤ ((1 : Int32)).toNatClampNeg) := inb_of Sz88 ⟨by decide, by decide⟩
  have hat90 : cl88.slots[((1 : Int32)).toNatClampNeg]? = some (.int ((2 : Int32) + v1)) := Hs88.at hin89 rfl
  have ne_a0_aK : a0 ≠ aK := ne_exa E_a0 E_aK (by decide)
  have F_a0_openCounts_u91 : Fld Z h86c a0 cCV "openCounts" "[I" (.ref aO) := (((F_a0_openCounts_u56.other W64 (Or.inl ne_a0_aO)).other W76 (Or.inl ne_a0_aN)).keep kq86 (ninS ne_a0_aK nin0))
  obtain ⟨T92, X92, e92, st92⟩ := getF X86 hx hZ hown (host := "") (Or.inl (w21 hw)) Via.refl e86 F_a0_openCounts_u91 (g := (mkF m 211 #[vR a0, vR a1, vI p2, vR b4, vI rc, vR b4, vI (2 : Int32), vI (1 : Int32), vI ((2 : Int32) + v1)] [(.ref a0)])) rfl rfl (hb hby d7_211)
  have V_aO_u93 : own_Any Z h86c aO kO .int nK := ((V_aO_64.other W76 (Ne.symm hne_aN_aO)).keep kq86 (ninS (Ne.symm hne_aK_aO) nin0))
  obtain ⟨ff94, cl94, Ar94, qk94, Sz94, Ng94, Hs94, Gf94⟩ := id V_aO_u93
  have hin95 : ¬ (((2 : Int32) + v1) < 0 ∨ cl94.slots.size ≤ (((2 : Int32) + v1)).toNatClampNeg) := inb_of Sz94 ⟨hc39, hc40⟩
  obtain ⟨lw96, hat96⟩ := own_any_at Hs94 Gf94 hin95 (Or.inl rfl)
  have hin97 : ¬ (((2 : Int32) + v1) < 0 ∨ cl94.slots.size ≤ (((2 : Int32) + v1)).toNatClampNeg) := inb_of Sz94 ⟨hc39, hc40⟩
  obtain ⟨T98, h98, X98, e98, W98, st98⟩ := stI X92 hx hZ e92 Ar94 (j := ((2 : Int32) + v1)) hin97 (g := (mkF m 220 #[vR a0, vR a1, vI p2, vR b4, vI rc, vR b4, vI (2 : Int32), vI (1 : Int32), vI ((2 : Int32) + v1)] [(.int (lw96 + (1 : Int32))), (.int ((2 : Int32) + v1)), (.ref aO)])) rfl rfl (hb hby d7_220)
  have K98 : Keep h0 h98 [a0, aP, aO, aN, aK, aC] := K86.wr W98 (Or.inl (List.mem_of_getElem? (i := 2) rfl))
  have V_aO_98 : own_Any Z h98 aO kO .int nK := ⟨_, own_Arf.set (v := (.int (lw96 + (1 : Int32)))) Ar94 qk94 Sz94 Ng94 Hs94 Gf94 rfl W98⟩
  have Z98 : n0 ≤ h98.size := Nat.le_trans Z86 (Keep.of_wr W98).1
  obtain ⟨Lg98, X98', N98⟩ := own_gen X98 (Fr.snoc X98 N86 g_aO)
  have F_a0_ones_u99 : Fld Z h98 a0 cCV "ones" "[I" (.ref aN) := (((F_a0_ones_u67.other W76 (Or.inl ne_a0_aN)).keep kq86 (ninS ne_a0_aK nin0)).other W98 (Or.inl ne_a0_aO))
  obtain ⟨T100, X100, e100, st100⟩ := getF X98' hx hZ hown (host := "") (Or.inl (w23 hw)) Via.refl e98 F_a0_ones_u99 (g := (mkF m 222 #[vR a0, vR a1, vI p2, vR b4, vI rc, vR b4, vI (2 : Int32), vI (1 : Int32), vI ((2 : Int32) + v1)] [(.ref a0)])) rfl rfl (hb hby d7_222)
  have V_aN_u101 : own_Any Z h98 aN kN .int nN := ((V_aN_76.keep kq86 (ninS (Ne.symm hne_aK_aN) nin0)).other W98 hne_aN_aO)
  obtain ⟨ff102, cl102, Ar102, qk102, Sz102, Ng102, Hs102, Gf102⟩ := id V_aN_u101
  have hin103 : ¬ ((((2 : Int32) + v1) / (2 : Int32)) < 0 ∨ cl102.slots.size ≤ ((((2 : Int32) + v1) / (2 : Int32))).toNatClampNeg) := inb_of Sz102 ⟨hc41, hc42⟩
  obtain ⟨lw104, hat104⟩ := own_any_at Hs102 Gf102 hin103 (Or.inl rfl)
  have hin105 : ¬ ((((2 : Int32) + v1) / (2 : Int32)) < 0 ∨ cl102.slots.size ≤ ((((2 : Int32) + v1) / (2 : Int32))).toNatClampNeg) := inb_of Sz102 ⟨hc41, hc42⟩
  obtain ⟨T106, h106, X106, e106, W106, st106⟩ := stI X100 hx hZ e100 Ar102 (j := (((2 : Int32) + v1) / (2 : Int32))) hin105 (g := (mkF m 236 #[vR a0, vR a1, vI p2, vR b4, vI rc, vR b4, vI (2 : Int32), vI (1 : Int32), vI ((2 : Int32) + v1)] [(.int (lw104 + (((2 : Int32) + v1) % (2 : Int32)))), (.int (((2 : Int32) + v1) / (2 : Int32))), (.ref aN)])) rfl rfl (hb hby d7_236)
  have K106 : Keep h0 h106 [a0, aP, aO, aN, aK, aC] := K98.wr W106 (Or.inl (List.mem_of_getElem? (i := 3) rfl))
  have V_aN_106 : own_Any Z h106 aN kN .int nN := ⟨_, own_Arf.set (v := (.int (lw104 + (((2 : Int32) + v1) % (2 : Int32))))) Ar102 qk102 Sz102 Ng102 Hs102 Gf102 rfl W106⟩
  have Z106 : n0 ≤ h106.size := Nat.le_trans Z98 (Keep.of_wr W106).1
  obtain ⟨Lg106, X106', N106⟩ := own_gen X106 (Fr.snoc X106 N98 g_aN)
  have F_a0_coveredCounts_u107 : Fld Z h106 a0 cCV "coveredCounts" "[I" (.ref aK) := (((F_a0_coveredCounts_u79.keep kq86 (ninS ne_a0_aK nin0)).other W98 (Or.inl ne_a0_aO)).other W106 (Or.inl ne_a0_aN))
  have V_aK_u108 : own_Any Z h106 aK kK .int nK := ((pf86_0.other W98 hne_aK_aO).other W106 hne_aK_aN)
  have E_aK_u109 : Exa Z h106 aK "[I" := ((pf86_1.wr W98).wr W106)
  obtain ⟨T110, h110c, g110, ⟨rfl, kq110, pf110_0, pf110_1⟩, ⟨Lg110, X110, e110, N110⟩, st110⟩ := sg02 l Z az hw hx hby hml hown hZ a0 (vR a1) p2 (vR b4) (vI rc) (vR b4) (vI (2 : Int32)) (vI (1 : Int32)) ((2 : Int32) + v1) aK kK nK h106 n0 Z106 F_a0_coveredCounts_u107 V_aK_u108 E_aK_u109 g_aK hc39 hc40 T106 ⟨_, X106', e106, N106⟩
  have K110 : Keep h0 h110c [a0, aP, aO, aN, aK, aC] := K106.trans kq110 (allS (Or.inl (List.mem_of_getElem? (i := 4) rfl)) all0)
  have Z110 : n0 ≤ h110c.size := Nat.le_trans Z106 kq110.1
  have c111 : Fld Z h24 a0 cCV "covered" "[Z" (.ref aC) := (((F_covered_a0.ext E4).other W14 (Or.inl ne_a0_b4)).other W24 (Or.inl ne_a0_b4))
  have c112 : Fld Z h50 a0 cCV "covered" "[Z" (.ref aC) := (((c111.other W37 (Or.inr (sl_57 hw))).other W42 (Or.inr (sl_58 hw))).other W50 (Or.inl ne_a0_aP))
  have c113 : Fld Z h86c a0 cCV "covered" "[Z" (.ref aC) := (((c112.other W64 (Or.inl ne_a0_aO)).other W76 (Or.inl ne_a0_aN)).keep kq86 (ninS ne_a0_aK nin0))
  have F_a0_covered_u114 : Fld Z h110c a0 cCV "covered" "[Z" (.ref aC) := (((c113.other W98 (Or.inl ne_a0_aO)).other W106 (Or.inl ne_a0_aN)).keep kq110 (ninS ne_a0_aK nin0))
  obtain ⟨T115, X115, e115, st115⟩ := getF X110 hx hZ hown (host := "") (Or.inl (w16 hw)) Via.refl e110 F_a0_covered_u114 (g := (mkF m 259 #[vR a0, vR a1, vI p2, vR b4, vI rc, vR b4, vI (2 : Int32), vI (2 : Int32), vI ((2 : Int32) + v1)] [(.ref a0)])) rfl rfl (hb hby d7_259)
  have ne_aC_b4 : aC ≠ b4 := own_ne (Nat.lt_of_lt_of_le E_aC.lt (Nat.le_of_eq g4.symm))
  have c116 : own_Any Z h24 aC kC .boolean (8 : Int32) := (((V_aC.ext E4).other W14 ne_aC_b4).other W24 ne_aC_b4)
  have ne_aC_a0 : aC ≠ a0 := ne_exa E_aC E_a0 (by decide)
  have ne_aC_aP : aC ≠ aP := ne_exa E_aC E_aP (by decide)
  have c117 : own_Any Z h50 aC kC .boolean (8 : Int32) := (((c116.other W37 ne_aC_a0).other W42 ne_aC_a0).other W50 ne_aC_aP)
  have ne_aC_aO : aC ≠ aO := ne_exa E_aC E_aO (by decide)
  have ne_aC_aN : aC ≠ aN := ne_exa E_aC E_aN (by decide)
  have ne_aC_aK : aC ≠ aK := ne_exa E_aC E_aK (by decide)
  have c118 : own_Any Z h86c aC kC .boolean (8 : Int32) := (((c117.other W64 ne_aC_aO).other W76 ne_aC_aN).keep kq86 (ninS ne_aC_aK nin0))
  have V_aC_u119 : own_Any Z h110c aC kC .boolean (8 : Int32) := (((c118.other W98 ne_aC_aO).other W106 ne_aC_aN).keep kq110 (ninS ne_aC_aK nin0))
  obtain ⟨ff120, cl120, Ar120, qk120, Sz120, Ng120, Hs120, Gf120⟩ := id V_aC_u119
  have hin121 : ¬ (rc < 0 ∨ cl120.slots.size ≤ (rc).toNatClampNeg) := inb_of Sz120 ⟨hc26, hc27⟩
  obtain ⟨T122, h122, X122, e122, W122, st122⟩ := stZ X115 hx hZ e115 Ar120 (j := rc) hin121 (g := (mkF m 265 #[vR a0, vR a1, vI p2, vR b4, vI rc, vR b4, vI (2 : Int32), vI (2 : Int32), vI ((2 : Int32) + v1)] [(.int p2), (.int rc), (.ref aC)])) rfl rfl (hb hby d7_265)
  rw [hc43] at W122
  have K122 : Keep h0 h122 [a0, aP, aO, aN, aK, aC] := K110.wr W122 (Or.inl (List.mem_of_getElem? (i := 5) rfl))
  have V_aC_122 : own_Any Z h122 aC kC .boolean (8 : Int32) := ⟨_, own_Arf.set (v := (.int p2)) Ar120 qk120 Sz120 Ng120 Hs120 Gf120 (own_fits hc43 (fits_nar_bool _)) W122⟩
  have Z122 : n0 ≤ h122.size := Nat.le_trans Z110 (Keep.of_wr W122).1
  obtain ⟨Lg122, X122', N122⟩ := own_gen X122 (Fr.snoc X122 N110 g_aC)
  have c123 : Exa Z h64 a0 cCV := (((E_a0_u41.wr W42).wr W50).wr W64)
  have c124 : Exa Z h98 a0 cCV := (((c123.wr W76).keep kq86).wr W98)
  have E_a0_u125 : Exa Z h122 a0 cCV := (((c124.wr W106).keep kq110).wr W122)
  have c126 : Fld Z h50 a0 cCV "labelCount" "I" (.int (2 : Int32)) := (((F_a0_labelCount_u25.other W37 (Or.inr (sl_59 hw))).other W42 (Or.inr (sl_60 hw))).other W50 (Or.inl ne_a0_aP))
  have c127 : Fld Z h86c a0 cCV "labelCount" "I" (.int (2 : Int32)) := (((c126.other W64 (Or.inl ne_a0_aO)).other W76 (Or.inl ne_a0_aN)).keep kq86 (ninS ne_a0_aK nin0))
  have c128 : Fld Z h110c a0 cCV "labelCount" "I" (.int (2 : Int32)) := (((c127.other W98 (Or.inl ne_a0_aO)).other W106 (Or.inl ne_a0_aN)).keep kq110 (ninS ne_a0_aK nin0))
  have ne_a0_aC : a0 ≠ aC := ne_exa E_a0 E_aC (by decide)
  have F_a0_labelCount_u129 : Fld Z h122 a0 cCV "labelCount" "I" (.int (2 : Int32)) := (c128.other W122 (Or.inl ne_a0_aC))
  have c130 : Fld Z h64 a0 cCV "rowCount" "I" (.int (rc + (1 : Int32))) := (((Fw37.other W42 (Or.inr (sl_61 hw))).other W50 (Or.inl ne_a0_aP)).other W64 (Or.inl ne_a0_aO))
  have c131 : Fld Z h98 a0 cCV "rowCount" "I" (.int (rc + (1 : Int32))) := (((c130.other W76 (Or.inl ne_a0_aN)).keep kq86 (ninS ne_a0_aK nin0)).other W98 (Or.inl ne_a0_aO))
  have F_a0_rowCount_u132 : Fld Z h122 a0 cCV "rowCount" "I" (.int (rc + (1 : Int32))) := (((c131.other W106 (Or.inl ne_a0_aN)).keep kq110 (ninS ne_a0_aK nin0)).other W122 (Or.inl ne_a0_aC))
  have c133 : Fld Z h50 a0 cCV "pairsShared" "Z" (.int (0 : Int32)) := (((F_a0_pairsShared_u34.other W37 (Or.inr (sl_62 hw))).other W42 (Or.inr (sl_63 hw))).other W50 (Or.inl ne_a0_aP))
  have c134 : Fld Z h86c a0 cCV "pairsShared" "Z" (.int (0 : Int32)) := (((c133.other W64 (Or.inl ne_a0_aO)).other W76 (Or.inl ne_a0_aN)).keep kq86 (ninS ne_a0_aK nin0))
  have c135 : Fld Z h110c a0 cCV "pairsShared" "Z" (.int (0 : Int32)) := (((c134.other W98 (Or.inl ne_a0_aO)).other W106 (Or.inl ne_a0_aN)).keep kq110 (ninS ne_a0_aK nin0))
  have F_a0_pairsShared_u136 : Fld Z h122 a0 cCV "pairsShared" "Z" (.int (0 : Int32)) := (c135.other W122 (Or.inl ne_a0_aC))
  have c137 : Fld Z h76 a0 cCV "remainingCount" "I" (.int (rem + (1 : Int32))) := (((Fw42.other W50 (Or.inl ne_a0_aP)).other W64 (Or.inl ne_a0_aO)).other W76 (Or.inl ne_a0_aN))
  have c138 : Fld Z h106 a0 cCV "remainingCount" "I" (.int (rem + (1 : Int32))) := (((c137.keep kq86 (ninS ne_a0_aK nin0)).other W98 (Or.inl ne_a0_aO)).other W106 (Or.inl ne_a0_aN))
  have F_a0_remainingCount_u139 : Fld Z h122 a0 cCV "remainingCount" "I" (.int (rem + (1 : Int32))) := ((c138.keep kq110 (ninS ne_a0_aK nin0)).other W122 (Or.inl ne_a0_aC))
  have c140 : Fld Z h76 a0 cCV "openPairs" "[[I" (.ref aP) := (((F_a0_openPairs_u43.other W50 (Or.inl ne_a0_aP)).other W64 (Or.inl ne_a0_aO)).other W76 (Or.inl ne_a0_aN))
  have c141 : Fld Z h106 a0 cCV "openPairs" "[[I" (.ref aP) := (((c140.keep kq86 (ninS ne_a0_aK nin0)).other W98 (Or.inl ne_a0_aO)).other W106 (Or.inl ne_a0_aN))
  have F_a0_openPairs_u142 : Fld Z h122 a0 cCV "openPairs" "[[I" (.ref aP) := ((c141.keep kq110 (ninS ne_a0_aK nin0)).other W122 (Or.inl ne_a0_aC))
  have F_a0_covered_u143 : Fld Z h122 a0 cCV "covered" "[Z" (.ref aC) := (F_a0_covered_u114.other W122 (Or.inl ne_a0_aC))
  have F_a0_coveredCounts_u144 : Fld Z h122 a0 cCV "coveredCounts" "[I" (.ref aK) := ((F_a0_coveredCounts_u107.keep kq110 (ninS ne_a0_aK nin0)).other W122 (Or.inl ne_a0_aC))
  have c145 : Fld Z h110c a0 cCV "openCounts" "[I" (.ref aO) := (((F_a0_openCounts_u91.other W98 (Or.inl ne_a0_aO)).other W106 (Or.inl ne_a0_aN)).keep kq110 (ninS ne_a0_aK nin0))
  have F_a0_openCounts_u146 : Fld Z h122 a0 cCV "openCounts" "[I" (.ref aO) := (c145.other W122 (Or.inl ne_a0_aC))
  have F_a0_ones_u147 : Fld Z h122 a0 cCV "ones" "[I" (.ref aN) := (((F_a0_ones_u99.other W106 (Or.inl ne_a0_aN)).keep kq110 (ninS ne_a0_aK nin0)).other W122 (Or.inl ne_a0_aC))
  have ne_aP_aO : aP ≠ aO := ne_exa E_aP E_aO (by decide)
  have ne_aP_aN : aP ≠ aN := ne_exa E_aP E_aN (by decide)
  have ne_aP_aK : aP ≠ aK := ne_exa E_aP E_aK (by decide)
  have c148 : own_Arf Z h86c aP kP (.array .int) (8 : Int32) (own_upd fP (rc).toNatClampNeg (.ref b4)) := (((V_aP_50.other W64 ne_aP_aO).other W76 ne_aP_aN).keep kq86 (ninS ne_aP_aK nin0))
  have c149 : own_Arf Z h110c aP kP (.array .int) (8 : Int32) (own_upd fP (rc).toNatClampNeg (.ref b4)) := (((c148.other W98 ne_aP_aO).other W106 ne_aP_aN).keep kq110 (ninS ne_aP_aK nin0))
  have ne_aP_aC : aP ≠ aC := ne_exa E_aP E_aC (by decide)
  have V_aP_u150 : own_Arf Z h122 aP kP (.array .int) (8 : Int32) (own_upd fP (rc).toNatClampNeg (.ref b4)) := (c149.other W122 ne_aP_aC)
  have c151 : Exa Z h24 aP "[[I" := (((E_aP.ext E4).wr W14).wr W24)
  have c152 : Exa Z h50 aP "[[I" := (((c151.wr W37).wr W42).wr W50)
  have c153 : Exa Z h86c aP "[[I" := (((c152.wr W64).wr W76).keep kq86)
  have c154 : Exa Z h110c aP "[[I" := (((c153.wr W98).wr W106).keep kq110)
  have E_aP_u155 : Exa Z h122 aP "[[I" := (c154.wr W122)
  have ne_aO_aC : aO ≠ aC := ne_exa E_aO E_aC (by decide)
  have V_aO_u156 : own_Any Z h122 aO kO .int nK := (((V_aO_98.other W106 (Ne.symm hne_aN_aO)).keep kq110 (ninS (Ne.symm hne_aK_aO) nin0)).other W122 ne_aO_aC)
  have c157 : Exa Z h24 aO "[I" := (((E_aO.ext E4).wr W14).wr W24)
  have c158 : Exa Z h50 aO "[I" := (((c157.wr W37).wr W42).wr W50)
  have c159 : Exa Z h86c aO "[I" := (((c158.wr W64).wr W76).keep kq86)
  have c160 : Exa Z h110c aO "[I" := (((c159.wr W98).wr W106).keep kq110)
  have E_aO_u161 : Exa Z h122 aO "[I" := (c160.wr W122)
  have ne_aN_aC : aN ≠ aC := ne_exa E_aN E_aC (by decide)
  have V_aN_u162 : own_Any Z h122 aN kN .int nN := ((V_aN_106.keep kq110 (ninS (Ne.symm hne_aK_aN) nin0)).other W122 ne_aN_aC)
  have c163 : Exa Z h24 aN "[I" := (((E_aN.ext E4).wr W14).wr W24)
  have c164 : Exa Z h50 aN "[I" := (((c163.wr W37).wr W42).wr W50)
  have c165 : Exa Z h86c aN "[I" := (((c164.wr W64).wr W76).keep kq86)
  have c166 : Exa Z h110c aN "[I" := (((c165.wr W98).wr W106).keep kq110)
  have E_aN_u167 : Exa Z h122 aN "[I" := (c166.wr W122)
  have E_aK_u168 : Exa Z h122 aK "[I" := (pf110_1.wr W122)
  have ne_aK_aC : aK ≠ aC := ne_exa E_aK E_aC (by decide)
  have V_aK_u169 : own_Any Z h122 aK kK .int nK := (pf110_0.other W122 ne_aK_aC)
  have c170 : Exa Z h24 aC "[Z" := (((E_aC.ext E4).wr W14).wr W24)
  have c171 : Exa Z h50 aC "[Z" := (((c170.wr W37).wr W42).wr W50)
  have c172 : Exa Z h86c aC "[Z" := (((c171.wr W64).wr W76).keep kq86)
  have c173 : Exa Z h110c aC "[Z" := (((c172.wr W98).wr W106).keep kq110)
  have E_aC_u174 : Exa Z h122 aC "[Z" := (c173.wr W122)
  have c175 : Exa Z h76 b4 "[I" := (((E_b4_u49.wr W50).wr W64).wr W76)
  have c176 : Exa Z h106 b4 "[I" := (((c175.keep kq86).wr W98).wr W106)
  have E_b4_u177 : Exa Z h122 b4 "[I" := ((c176.keep kq110).wr W122)
  have c178 : Arv Z h110c b4 k4 .int (2 : Int32) [(.int ((0 : Int32) + v0)), (.int ((2 : Int32) + v1))] (.int (0 : Int32)) := (((V_b4_u87.other W98 (Ne.symm ne_aO_b4)).other W106 (Ne.symm ne_aN_b4)).keep kq110 (ninS (Ne.symm ne_aK_b4) nin0))
  have V_b4_u179 : Arv Z h122 b4 k4 .int (2 : Int32) [(.int ((0 : Int32) + v0)), (.int ((2 : Int32) + v1))] (.int (0 : Int32)) := (c178.other W122 (Ne.symm ne_aC_b4))
  obtain ⟨fs, hr, hrun, hended, hW, hsame⟩ := X122'.leave (v := some (.int rc)) (fun h => by rw [Bd.returns] at h; cases h)
  refine ⟨_, _, pre0 _ ?_, hrun, hended, _, _, rfl, ?_, ⟨_, rfl⟩, hW, hsame.mono (by decide) (by decide)⟩
  · show Steps p.tables e below (s₁.setTop (mkF m 0 #[vR a0, vR a1, vI p2, .unset, .unset, .unset, .unset, .unset, .unset] [])) _
    refine XS.aloadN X0.here hx rfl (hb hby d7_0) rfl rfl ?_
    show Steps p.tables e below (s₁.setTop (mkF m 1 #[vR a0, vR a1, vI p2, .unset, .unset, .unset, .unset, .unset, .unset] [(.ref a1)])) _
    refine X0.arraylength hx (by rw [e0]; exact Ar1.1) (State.isArrayOf_alike hZ.alike Ar1.2.1) (g := (mkF m 1 #[vR a0, vR a1, vI p2, .unset, .unset, .unset, .unset, .unset, .unset] [(.ref a1)])) rfl rfl (hb hby d7_1) _ ?_
    rw [len_of Sz1 Ng1]
    show Steps p.tables e below (s₁.setTop (mkF m 2 #[vR a0, vR a1, vI p2, .unset, .unset, .unset, .unset, .unset, .unset] [(.int (2 : Int32))])) _
    refine XS.aloadN X0.here hx rfl (hb hby d7_2) rfl rfl ?_
    show Steps p.tables e below (s₁.setTop (mkF m 3 #[vR a0, vR a1, vI p2, .unset, .unset, .unset, .unset, .unset, .unset] [(.ref a0), (.int (2 : Int32))])) _
    refine st2 _ ?_
    show Steps p.tables e below (T2.setTop (mkF m 6 #[vR a0, vR a1, vI p2, .unset, .unset, .unset, .unset, .unset, .unset] [(.int (2 : Int32)), (.int (2 : Int32))])) _
    refine XS.icmpYes X2.here hx rfl (pc0 := 6) (pc' := 28) rfl (hb hby d7_6) rfl (teq (by decide : (2 : Int32) = (2 : Int32))).1 (by decide) (by decide) ?_
    refine XS.aloadN X2.here hx rfl (hb hby d7_28) rfl rfl ?_
    show Steps p.tables e below (T2.setTop (mkF m 29 #[vR a0, vR a1, vI p2, .unset, .unset, .unset, .unset, .unset, .unset] [(.ref a0)])) _
    refine st3 _ ?_
    show Steps p.tables e below (T3.setTop (mkF m 32 #[vR a0, vR a1, vI p2, .unset, .unset, .unset, .unset, .unset, .unset] [(.int (2 : Int32))])) _
    refine st4 _ ?_
    show Steps p.tables e below (T4.setTop (mkF m 34 #[vR a0, vR a1, vI p2, .unset, .unset, .unset, .unset, .unset, .unset] [(.ref b4)])) _
    refine XS.astoreN X4.here hx rfl (hb hby d7_34) rfl rfl (l' := #[vR a0, vR a1, vI p2, vR b4, .unset, .unset, .unset, .unset, .unset]) rfl ?_
    refine XS.iconst X4.here hx rfl (hb hby d7_35) ?_
    refine XS.istore X4.here hx rfl (hb hby d7_36) rfl (l' := #[vR a0, vR a1, vI p2, vR b4, vI (0 : Int32), .unset, .unset, .unset, .unset]) rfl ?_
    refine XS.iload X4.here hx rfl (hb hby d7_38) rfl ?_
    refine XS.aloadN X4.here hx rfl (hb hby d7_40) rfl rfl ?_
    show Steps p.tables e below (T4.setTop (mkF m 41 #[vR a0, vR a1, vI p2, vR b4, vI (0 : Int32), .unset, .unset, .unset, .unset] [(.ref a0), (.int (0 : Int32))])) _
    refine st6 _ ?_
    show Steps p.tables e below (T6.setTop (mkF m 44 #[vR a0, vR a1, vI p2, vR b4, vI (0 : Int32), .unset, .unset, .unset, .unset] [(.int (2 : Int32)), (.int (0 : Int32))])) _
    refine XS.icmpNo X6.here hx rfl (hb hby d7_44) rfl (tlt (by decide : (0 : Int32) < (2 : Int32))).2.1 ?_
    refine XS.aloadN X6.here hx rfl (hb hby d7_47) rfl rfl ?_
    refine XS.iload X6.here hx rfl (hb hby d7_48) rfl ?_
    show Steps p.tables e below (T6.setTop (mkF m 50 #[vR a0, vR a1, vI p2, vR b4, vI (0 : Int32), .unset, .unset, .unset, .unset] [(.int (0 : Int32)), (.ref a1)])) _
    refine X6.iaload hx (j := (0 : Int32)) (v := (.int v0)) (by rw [e6]; exact Ar8.1) (State.isArrayOf_alike hZ.alike Ar8.2.1) Ar8.2.2 hin9 hat10 (g := (mkF m 50 #[vR a0, vR a1, vI p2, vR b4, vI (0 : Int32), .unset, .unset, .unset, .unset] [(.int (0 : Int32)), (.ref a1)])) rfl rfl (hb hby d7_50) _ ?_
    show Steps p.tables e below (T6.setTop (mkF m 51 #[vR a0, vR a1, vI p2, vR b4, vI (0 : Int32), .unset, .unset, .unset, .unset] [(.int v0)])) _
    refine XS.istore X6.here hx rfl (hb hby d7_51) rfl (l' := #[vR a0, vR a1, vI p2, vR b4, vI (0 : Int32), vI v0, .unset, .unset, .unset]) rfl ?_
    show Steps p.tables e below (T6.setTop (mkF m 53 #[vR a0, vR a1, vI p2, vR b4, vI (0 : Int32), vI v0, .unset, .unset, .unset] [])) _
    refine st11 _ ?_
    show Steps p.tables e below (T11.setTop (mkF m 79 #[vR a0, vR a1, vI p2, vR b4, vI (0 : Int32), vI v0, .unset, .unset, .unset] [])) _
    refine XS.aloadN X11.here hx rfl (hb hby d7_79) rfl rfl ?_
    refine XS.iload X11.here hx rfl (hb hby d7_80) rfl ?_
    refine XS.iconst X11.here hx rfl (hb hby d7_82) ?_
    refine XS.iload X11.here hx rfl (hb hby d7_83) rfl ?_
    refine XS.imul X11.here hx rfl (hb hby d7_85) rfl ?_
    refine XS.iload X11.here hx rfl (hb hby d7_86) rfl ?_
    refine XS.iadd X11.here hx rfl (hb hby d7_88) rfl ?_
    show Steps p.tables e below (T11.setTop (mkF m 89 #[vR a0, vR a1, vI p2, vR b4, vI (0 : Int32), vI v0, .unset, .unset, .unset] [(.int ((0 : Int32) + v0)), (.int (0 : Int32)), (.ref b4)])) _
    refine st14 _ ?_
    show Steps p.tables e below (T14.setTop (mkF m 90 #[vR a0, vR a1, vI p2, vR b4, vI (0 : Int32), vI v0, .unset, .unset, .unset] [])) _
    refine XS.iinc X14'.here hx rfl (hb hby d7_90) rfl (l' := #[vR a0, vR a1, vI p2, vR b4, vI (1 : Int32), vI v0, .unset, .unset, .unset]) rfl ?_
    refine XS.goto X14'.here hx rfl (pc0 := 93) (pc' := 38) rfl (hb hby d7_93) (by decide) (by decide) ?_
    refine XS.iload X14'.here hx rfl (hb hby d7_38) rfl ?_
    refine XS.aloadN X14'.here hx rfl (hb hby d7_40) rfl rfl ?_
    show Steps p.tables e below (T14.setTop (mkF m 41 #[vR a0, vR a1, vI p2, vR b4, vI (1 : Int32), vI v0, .unset, .unset, .unset] [(.ref a0), (.int (1 : Int32))])) _
    refine st16 _ ?_
    show Steps p.tables e below (T16.setTop (mkF m 44 #[vR a0, vR a1, vI p2, vR b4, vI (1 : Int32), vI v0, .unset, .unset, .unset] [(.int (2 : Int32)), (.int (1 : Int32))])) _
    refine XS.icmpNo X16.here hx rfl (hb hby d7_44) rfl (tlt (by decide : (1 : Int32) < (2 : Int32))).2.1 ?_
    refine XS.aloadN X16.here hx rfl (hb hby d7_47) rfl rfl ?_
    refine XS.iload X16.here hx rfl (hb hby d7_48) rfl ?_
    show Steps p.tables e below (T16.setTop (mkF m 50 #[vR a0, vR a1, vI p2, vR b4, vI (1 : Int32), vI v0, .unset, .unset, .unset] [(.int (1 : Int32)), (.ref a1)])) _
    refine X16.iaload hx (j := (1 : Int32)) (v := (.int v1)) (by rw [e16]; exact Ar18.1) (State.isArrayOf_alike hZ.alike Ar18.2.1) Ar18.2.2 hin19 hat20 (g := (mkF m 50 #[vR a0, vR a1, vI p2, vR b4, vI (1 : Int32), vI v0, .unset, .unset, .unset] [(.int (1 : Int32)), (.ref a1)])) rfl rfl (hb hby d7_50) _ ?_
    show Steps p.tables e below (T16.setTop (mkF m 51 #[vR a0, vR a1, vI p2, vR b4, vI (1 : Int32), vI v0, .unset, .unset, .unset] [(.int v1)])) _
    refine XS.istore X16.here hx rfl (hb hby d7_51) rfl (l' := #[vR a0, vR a1, vI p2, vR b4, vI (1 : Int32), vI v1, .unset, .unset, .unset]) rfl ?_
    show Steps p.tables e below (T16.setTop (mkF m 53 #[vR a0, vR a1, vI p2, vR b4, vI (1 : Int32), vI v1, .unset, .unset, .unset] [])) _
    refine st21 _ ?_
    show Steps p.tables e below (T21.setTop (mkF m 79 #[vR a0, vR a1, vI p2, vR b4, vI (1 : Int32), vI v1, .unset, .unset, .unset] [])) _
    refine XS.aloadN X21.here hx rfl (hb hby d7_79) rfl rfl ?_
    refine XS.iload X21.here hx rfl (hb hby d7_80) rfl ?_
    refine XS.iconst X21.here hx rfl (hb hby d7_82) ?_
    refine XS.iload X21.here hx rfl (hb hby d7_83) rfl ?_
    refine XS.imul X21.here hx rfl (hb hby d7_85) rfl ?_
    refine XS.iload X21.here hx rfl (hb hby d7_86) rfl ?_
    refine XS.iadd X21.here hx rfl (hb hby d7_88) rfl ?_
    show Steps p.tables e below (T21.setTop (mkF m 89 #[vR a0, vR a1, vI p2, vR b4, vI (1 : Int32), vI v1, .unset, .unset, .unset] [(.int ((2 : Int32) + v1)), (.int (1 : Int32)), (.ref b4)])) _
    refine st24 _ ?_
    show Steps p.tables e below (T24.setTop (mkF m 90 #[vR a0, vR a1, vI p2, vR b4, vI (1 : Int32), vI v1, .unset, .unset, .unset] [])) _
    refine XS.iinc X24'.here hx rfl (hb hby d7_90) rfl (l' := #[vR a0, vR a1, vI p2, vR b4, vI (2 : Int32), vI v1, .unset, .unset, .unset]) rfl ?_
    refine XS.goto X24'.here hx rfl (pc0 := 93) (pc' := 38) rfl (hb hby d7_93) (by decide) (by decide) ?_
    refine XS.iload X24'.here hx rfl (hb hby d7_38) rfl ?_
    refine XS.aloadN X24'.here hx rfl (hb hby d7_40) rfl rfl ?_
    show Steps p.tables e below (T24.setTop (mkF m 41 #[vR a0, vR a1, vI p2, vR b4, vI (2 : Int32), vI v1, .unset, .unset, .unset] [(.ref a0), (.int (2 : Int32))])) _
    refine st26 _ ?_
    show Steps p.tables e below (T26.setTop (mkF m 44 #[vR a0, vR a1, vI p2, vR b4, vI (2 : Int32), vI v1, .unset, .unset, .unset] [(.int (2 : Int32)), (.int (2 : Int32))])) _
    refine XS.icmpYes X26.here hx rfl (pc0 := 44) (pc' := 96) rfl (hb hby d7_44) rfl (flt (by decide : ¬ ((2 : Int32) < (2 : Int32)))).2.1 (by decide) (by decide) ?_
    refine XS.aloadN X26.here hx rfl (hb hby d7_96) rfl rfl ?_
    show Steps p.tables e below (T26.setTop (mkF m 97 #[vR a0, vR a1, vI p2, vR b4, vI (2 : Int32), vI v1, .unset, .unset, .unset] [(.ref a0)])) _
    refine st28 _ ?_
    show Steps p.tables e below (T28.setTop (mkF m 100 #[vR a0, vR a1, vI p2, vR b4, vI (2 : Int32), vI v1, .unset, .unset, .unset] [(.int rc)])) _
    refine XS.aloadN X28.here hx rfl (hb hby d7_100) rfl rfl ?_
    show Steps p.tables e below (T28.setTop (mkF m 101 #[vR a0, vR a1, vI p2, vR b4, vI (2 : Int32), vI v1, .unset, .unset, .unset] [(.ref a0), (.int rc)])) _
    refine st30 _ ?_
    show Steps p.tables e below (T30.setTop (mkF m 104 #[vR a0, vR a1, vI p2, vR b4, vI (2 : Int32), vI v1, .unset, .unset, .unset] [(.ref aP), (.int rc)])) _
    refine X30.arraylength hx (by rw [e30]; exact Ar32.1) (State.isArrayOf_alike hZ.alike Ar32.2.1) (g := (mkF m 104 #[vR a0, vR a1, vI p2, vR b4, vI (2 : Int32), vI v1, .unset, .unset, .unset] [(.ref aP), (.int rc)])) rfl rfl (hb hby d7_104) _ ?_
    rw [len_of Sz32 Ng32]
    show Steps p.tables e below (T30.setTop (mkF m 105 #[vR a0, vR a1, vI p2, vR b4, vI (2 : Int32), vI v1, .unset, .unset, .unset] [(.int (8 : Int32)), (.int rc)])) _
    refine XS.icmpYes X30.here hx rfl (pc0 := 105) (pc' := 150) rfl (hb hby d7_105) rfl (feq hc24).2 (by decide) (by decide) ?_
    refine XS.aloadN X30.here hx rfl (hb hby d7_150) rfl rfl ?_
    show Steps p.tables e below (T30.setTop (mkF m 151 #[vR a0, vR a1, vI p2, vR b4, vI (2 : Int32), vI v1, .unset, .unset, .unset] [(.ref a0)])) _
    refine st33.trans ?_
    show Steps p.tables e below (T33.setTop (mkF m 154 #[vR a0, vR a1, vI p2, vR b4, vI (2 : Int32), vI v1, .unset, .unset, .unset] [])) _
    refine XS.aloadN X33'.here hx rfl (hb hby d7_154) rfl rfl ?_
    refine XS.dup X33'.here hx rfl (hb hby d7_155) rfl rfl ?_
    show Steps p.tables e below (T33.setTop (mkF m 156 #[vR a0, vR a1, vI p2, vR b4, vI (2 : Int32), vI v1, .unset, .unset, .unset] [(.ref a0), (.ref a0)])) _
    refine st36 _ ?_
    show Steps p.tables e below (T36.setTop (mkF m 159 #[vR a0, vR a1, vI p2, vR b4, vI (2 : Int32), vI v1, .unset, .unset, .unset] [(.int rc), (.ref a0)])) _
    refine XS.dupX1 X36.here hx rfl (hb hby d7_159) rfl rfl rfl ?_
    refine XS.iconst X36.here hx rfl (hb hby d7_160) ?_
    refine XS.iadd X36.here hx rfl (hb hby d7_161) rfl ?_
    show Steps p.tables e below (T36.setTop (mkF m 162 #[vR a0, vR a1, vI p2, vR b4, vI (2 : Int32), vI v1, .unset, .unset, .unset] [(.int (rc + (1 : Int32))), (.ref a0), (.int rc)])) _
    refine st37 _ ?_
    show Steps p.tables e below (T37.setTop (mkF m 165 #[vR a0, vR a1, vI p2, vR b4, vI (2 : Int32), vI v1, .unset, .unset, .unset] [(.int rc)])) _
    refine XS.istore X37'.here hx rfl (hb hby d7_165) rfl (l' := #[vR a0, vR a1, vI p2, vR b4, vI rc, vI v1, .unset, .unset, .unset]) rfl ?_
    refine XS.aloadN X37'.here hx rfl (hb hby d7_167) rfl rfl ?_
    refine XS.dup X37'.here hx rfl (hb hby d7_168) rfl rfl ?_
    show Steps p.tables e below (T37.setTop (mkF m 169 #[vR a0, vR a1, vI p2, vR b4, vI rc, vI v1, .unset, .unset, .unset] [(.ref a0), (.ref a0)])) _
    refine st40 _ ?_
    show Steps p.tables e below (T40.setTop (mkF m 172 #[vR a0, vR a1, vI p2, vR b4, vI rc, vI v1, .unset, .unset, .unset] [(.int rem), (.ref a0)])) _
    refine XS.iconst X40.here hx rfl (hb hby d7_172) ?_
    refine XS.iadd X40.here hx rfl (hb hby d7_173) rfl ?_
    show Steps p.tables e below (T40.setTop (mkF m 174 #[vR a0, vR a1, vI p2, vR b4, vI rc, vI v1, .unset, .unset, .unset] [(.int (rem + (1 : Int32))), (.ref a0)])) _
    refine st42 _ ?_
    show Steps p.tables e below (T42.setTop (mkF m 177 #[vR a0, vR a1, vI p2, vR b4, vI rc, vI v1, .unset, .unset, .unset] [])) _
    refine XS.aloadN X42'.here hx rfl (hb hby d7_177) rfl rfl ?_
    show Steps p.tables e below (T42.setTop (mkF m 178 #[vR a0, vR a1, vI p2, vR b4, vI rc, vI v1, .unset, .unset, .unset] [(.ref a0)])) _
    refine st44 _ ?_
    show Steps p.tables e below (T44.setTop (mkF m 181 #[vR a0, vR a1, vI p2, vR b4, vI rc, vI v1, .unset, .unset, .unset] [(.ref aP)])) _
    refine XS.iload X44.here hx rfl (hb hby d7_181) rfl ?_
    refine XS.aloadN X44.here hx rfl (hb hby d7_183) rfl rfl ?_
    show Steps p.tables e below (T44.setTop (mkF m 184 #[vR a0, vR a1, vI p2, vR b4, vI rc, vI v1, .unset, .unset, .unset] [(.ref b4), (.int rc), (.ref aP)])) _
    refine st50 _ ?_
    show Steps p.tables e below (T50.setTop (mkF m 185 #[vR a0, vR a1, vI p2, vR b4, vI rc, vI v1, .unset, .unset, .unset] [])) _
    refine XS.aloadN X50'.here hx rfl (hb hby d7_185) rfl rfl ?_
    refine XS.astore X50'.here hx rfl (hb hby d7_186) rfl rfl (l' := #[vR a0, vR a1, vI p2, vR b4, vI rc, vR b4, .unset, .unset, .unset]) rfl ?_
    refine XS.aload X50'.here hx rfl (hb hby d7_188) rfl rfl ?_
    show Steps p.tables e below (T50.setTop (mkF m 190 #[vR a0, vR a1, vI p2, vR b4, vI rc, vR b4, .unset, .unset, .unset] [(.ref b4)])) _
    refine X50'.arraylength hx (by rw [e50]; exact Ar52.1) (State.isArrayOf_alike hZ.alike Ar52.2.1) (g := (mkF m 190 #[vR a0, vR a1, vI p2, vR b4, vI rc, vR b4, .unset, .unset, .unset] [(.ref b4)])) rfl rfl (hb hby d7_190) _ ?_
    rw [len_of Sz52 Ng52]
    show Steps p.tables e below (T50.setTop (mkF m 191 #[vR a0, vR a1, vI p2, vR b4, vI rc, vR b4, .unset, .unset, .unset] [(.int (2 : Int32))])) _
    refine XS.istore X50'.here hx rfl (hb hby d7_191) rfl (l' := #[vR a0, vR a1, vI p2, vR b4, vI rc, vR b4, vI (2 : Int32), .unset, .unset]) rfl ?_
    refine XS.iconst X50'.here hx rfl (hb hby d7_193) ?_
    refine XS.istore X50'.here hx rfl (hb hby d7_194) rfl (l' := #[vR a0, vR a1, vI p2, vR b4, vI rc, vR b4, vI (2 : Int32), vI (0 : Int32), .unset]) rfl ?_
    refine XS.iload X50'.here hx rfl (hb hby d7_196) rfl ?_
    refine XS.iload X50'.here hx rfl (hb hby d7_198) rfl ?_
    refine XS.icmpNo X50'.here hx rfl (hb hby d7_200) rfl (tlt (by decide : (0 : Int32) < (2 : Int32))).2.1 ?_
    refine XS.aload X50'.here hx rfl (hb hby d7_203) rfl rfl ?_
    refine XS.iload X50'.here hx rfl (hb hby d7_205) rfl ?_
    show Steps p.tables e below (T50.setTop (mkF m 207 #[vR a0, vR a1, vI p2, vR b4, vI rc, vR b4, vI (2 : Int32), vI (0 : Int32), .unset] [(.int (0 : Int32)), (.ref b4)])) _
    refine X50'.iaload hx (j := (0 : Int32)) (v := (.int ((0 : Int32) + v0))) (by rw [e50]; exact Ar52.1) (State.isArrayOf_alike hZ.alike Ar52.2.1) Ar52.2.2 hin53 hat54 (g := (mkF m 207 #[vR a0, vR a1, vI p2, vR b4, vI rc, vR b4, vI (2 : Int32), vI (0 : Int32), .unset] [(.int (0 : Int32)), (.ref b4)])) rfl rfl (hb hby d7_207) _ ?_
    show Steps p.tables e below (T50.setTop (mkF m 208 #[vR a0, vR a1, vI p2, vR b4, vI rc, vR b4, vI (2 : Int32), vI (0 : Int32), .unset] [(.int ((0 : Int32) + v0))])) _
    refine XS.istore X50'.here hx rfl (hb hby d7_208) rfl (l' := #[vR a0, vR a1, vI p2, vR b4, vI rc, vR b4, vI (2 : Int32), vI (0 : Int32), vI ((0 : Int32) + v0)]) rfl ?_
    refine XS.aloadN X50'.here hx rfl (hb hby d7_210) rfl rfl ?_
    show Steps p.tables e below (T50.setTop (mkF m 211 #[vR a0, vR a1, vI p2, vR b4, vI rc, vR b4, vI (2 : Int32), vI (0 : Int32), vI ((0 : Int32) + v0)] [(.ref a0)])) _
    refine st57 _ ?_
    show Steps p.tables e below (T57.setTop (mkF m 214 #[vR a0, vR a1, vI p2, vR b4, vI rc, vR b4, vI (2 : Int32), vI (0 : Int32), vI ((0 : Int32) + v0)] [(.ref aO)])) _
    refine XS.iload X57.here hx rfl (hb hby d7_214) rfl ?_
    show Steps p.tables e below (T57.setTop (mkF m 216 #[vR a0, vR a1, vI p2, vR b4, vI rc, vR b4, vI (2 : Int32), vI (0 : Int32), vI ((0 : Int32) + v0)] [(.int ((0 : Int32) + v0)), (.ref aO)])) _
    refine Jvm.Free.XT.dup2 X57.here hx rfl (hb hby d7_216) rfl rfl rfl ?_
    show Steps p.tables e below (T57.setTop (mkF m 217 #[vR a0, vR a1, vI p2, vR b4, vI rc, vR b4, vI (2 : Int32), vI (0 : Int32), vI ((0 : Int32) + v0)] [(.int ((0 : Int32) + v0)), (.ref aO), (.int ((0 : Int32) + v0)), (.ref aO)])) _
    refine X57.iaload hx (j := ((0 : Int32) + v0)) (v := (.int lw62)) (by rw [e57]; exact Ar60.1) (State.isArrayOf_alike hZ.alike Ar60.2.1) Ar60.2.2 hin61 hat62 (g := (mkF m 217 #[vR a0, vR a1, vI p2, vR b4, vI rc, vR b4, vI (2 : Int32), vI (0 : Int32), vI ((0 : Int32) + v0)] [(.int ((0 : Int32) + v0)), (.ref aO), (.int ((0 : Int32) + v0)), (.ref aO)])) rfl rfl (hb hby d7_217) _ ?_
    show Steps p.tables e below (T57.setTop (mkF m 218 #[vR a0, vR a1, vI p2, vR b4, vI rc, vR b4, vI (2 : Int32), vI (0 : Int32), vI ((0 : Int32) + v0)] [(.int lw62), (.int ((0 : Int32) + v0)), (.ref aO)])) _
    refine XS.iconst X57.here hx rfl (hb hby d7_218) ?_
    refine XS.iadd X57.here hx rfl (hb hby d7_219) rfl ?_
    show Steps p.tables e below (T57.setTop (mkF m 220 #[vR a0, vR a1, vI p2, vR b4, vI rc, vR b4, vI (2 : Int32), vI (0 : Int32), vI ((0 : Int32) + v0)] [(.int (lw62 + (1 : Int32))), (.int ((0 : Int32) + v0)), (.ref aO)])) _
    refine st64 _ ?_
    show Steps p.tables e below (T64.setTop (mkF m 221 #[vR a0, vR a1, vI p2, vR b4, vI rc, vR b4, vI (2 : Int32), vI (0 : Int32), vI ((0 : Int32) + v0)] [])) _
    refine XS.aloadN X64'.here hx rfl (hb hby d7_221) rfl rfl ?_
    show Steps p.tables e below (T64.setTop (mkF m 222 #[vR a0, vR a1, vI p2, vR b4, vI rc, vR b4, vI (2 : Int32), vI (0 : Int32), vI ((0 : Int32) + v0)] [(.ref a0)])) _
    refine st68 _ ?_
    show Steps p.tables e below (T68.setTop (mkF m 225 #[vR a0, vR a1, vI p2, vR b4, vI rc, vR b4, vI (2 : Int32), vI (0 : Int32), vI ((0 : Int32) + v0)] [(.ref aN)])) _
    refine XS.iload X68.here hx rfl (hb hby d7_225) rfl ?_
    refine XS.iconst X68.here hx rfl (hb hby d7_227) ?_
    show Steps p.tables e below (T68.setTop (mkF m 228 #[vR a0, vR a1, vI p2, vR b4, vI rc, vR b4, vI (2 : Int32), vI (0 : Int32), vI ((0 : Int32) + v0)] [(.int (2 : Int32)), (.int ((0 : Int32) + v0)), (.ref aN)])) _
    refine XS.idiv X68.here hx rfl (hb hby d7_228) rfl (by decide) ?_
    show Steps p.tables e below (T68.setTop (mkF m 229 #[vR a0, vR a1, vI p2, vR b4, vI rc, vR b4, vI (2 : Int32), vI (0 : Int32), vI ((0 : Int32) + v0)] [(.int (((0 : Int32) + v0) / (2 : Int32))), (.ref aN)])) _
    refine Jvm.Free.XT.dup2 X68.here hx rfl (hb hby d7_229) rfl rfl rfl ?_
    show Steps p.tables e below (T68.setTop (mkF m 230 #[vR a0, vR a1, vI p2, vR b4, vI rc, vR b4, vI (2 : Int32), vI (0 : Int32), vI ((0 : Int32) + v0)] [(.int (((0 : Int32) + v0) / (2 : Int32))), (.ref aN), (.int (((0 : Int32) + v0) / (2 : Int32))), (.ref aN)])) _
    refine X68.iaload hx (j := (((0 : Int32) + v0) / (2 : Int32))) (v := (.int lw74)) (by rw [e68]; exact Ar72.1) (State.isArrayOf_alike hZ.alike Ar72.2.1) Ar72.2.2 hin73 hat74 (g := (mkF m 230 #[vR a0, vR a1, vI p2, vR b4, vI rc, vR b4, vI (2 : Int32), vI (0 : Int32), vI ((0 : Int32) + v0)] [(.int (((0 : Int32) + v0) / (2 : Int32))), (.ref aN), (.int (((0 : Int32) + v0) / (2 : Int32))), (.ref aN)])) rfl rfl (hb hby d7_230) _ ?_
    show Steps p.tables e below (T68.setTop (mkF m 231 #[vR a0, vR a1, vI p2, vR b4, vI rc, vR b4, vI (2 : Int32), vI (0 : Int32), vI ((0 : Int32) + v0)] [(.int lw74), (.int (((0 : Int32) + v0) / (2 : Int32))), (.ref aN)])) _
    refine XS.iload X68.here hx rfl (hb hby d7_231) rfl ?_
    refine XS.iconst X68.here hx rfl (hb hby d7_233) ?_
    show Steps p.tables e below (T68.setTop (mkF m 234 #[vR a0, vR a1, vI p2, vR b4, vI rc, vR b4, vI (2 : Int32), vI (0 : Int32), vI ((0 : Int32) + v0)] [(.int (2 : Int32)), (.int ((0 : Int32) + v0)), (.int lw74), (.int (((0 : Int32) + v0) / (2 : Int32))), (.ref aN)])) _
    refine iremM X68 hx rfl (hb hby d7_234) rfl (by decide) ?_
    show Steps p.tables e below (T68.setTop (mkF m 235 #[vR a0, vR a1, vI p2, vR b4, vI rc, vR b4, vI (2 : Int32), vI (0 : Int32), vI ((0 : Int32) + v0)] [(.int (((0 : Int32) + v0) % (2 : Int32))), (.int lw74), (.int (((0 : Int32) + v0) / (2 : Int32))), (.ref aN)])) _
    refine XS.iadd X68.here hx rfl (hb hby d7_235) rfl ?_
    show Steps p.tables e below (T68.setTop (mkF m 236 #[vR a0, vR a1, vI p2, vR b4, vI rc, vR b4, vI (2 : Int32), vI (0 : Int32), vI ((0 : Int32) + v0)] [(.int (lw74 + (((0 : Int32) + v0) % (2 : Int32)))), (.int (((0 : Int32) + v0) / (2 : Int32))), (.ref aN)])) _
    refine st76 _ ?_
    show Steps p.tables e below (T76.setTop (mkF m 237 #[vR a0, vR a1, vI p2, vR b4, vI rc, vR b4, vI (2 : Int32), vI (0 : Int32), vI ((0 : Int32) + v0)] [])) _
    refine st86 _ ?_
    show Steps p.tables e below (T86.setTop (mkF m 252 #[vR a0, vR a1, vI p2, vR b4, vI rc, vR b4, vI (2 : Int32), vI (0 : Int32), vI ((0 : Int32) + v0)] [])) _
    refine XS.iinc X86.here hx rfl (hb hby d7_252) rfl (l' := #[vR a0, vR a1, vI p2, vR b4, vI rc, vR b4, vI (2 : Int32), vI (1 : Int32), vI ((0 : Int32) + v0)]) rfl ?_
    refine XS.goto X86.here hx rfl (pc0 := 255) (pc' := 196) rfl (hb hby d7_255) (by decide) (by decide) ?_
    refine XS.iload X86.here hx rfl (hb hby d7_196) rfl ?_
    refine XS.iload X86.here hx rfl (hb hby d7_198) rfl ?_
    refine XS.icmpNo X86.here hx rfl (hb hby d7_200) rfl (tlt (by decide : (1 : Int32) < (2 : Int32))).2.1 ?_
    refine XS.aload X86.here hx rfl (hb hby d7_203) rfl rfl ?_
    refine XS.iload X86.here hx rfl (hb hby d7_205) rfl ?_
    show Steps p.tables e below (T86.setTop (mkF m 207 #[vR a0, vR a1, vI p2, vR b4, vI rc, vR b4, vI (2 : Int32), vI (1 : Int32), vI ((0 : Int32) + v0)] [(.int (1 : Int32)), (.ref b4)])) _
    refine X86.iaload hx (j := (1 : Int32)) (v := (.int ((2 : Int32) + v1))) (by rw [e86]; exact Ar88.1) (State.isArrayOf_alike hZ.alike Ar88.2.1) Ar88.2.2 hin89 hat90 (g := (mkF m 207 #[vR a0, vR a1, vI p2, vR b4, vI rc, vR b4, vI (2 : Int32), vI (1 : Int32), vI ((0 : Int32) + v0)] [(.int (1 : Int32)), (.ref b4)])) rfl rfl (hb hby d7_207) _ ?_
    show Steps p.tables e below (T86.setTop (mkF m 208 #[vR a0, vR a1, vI p2, vR b4, vI rc, vR b4, vI (2 : Int32), vI (1 : Int32), vI ((0 : Int32) + v0)] [(.int ((2 : Int32) + v1))])) _
    refine XS.istore X86.here hx rfl (hb hby d7_208) rfl (l' := #[vR a0, vR a1, vI p2, vR b4, vI rc, vR b4, vI (2 : Int32), vI (1 : Int32), vI ((2 : Int32) + v1)]) rfl ?_
    refine XS.aloadN X86.here hx rfl (hb hby d7_210) rfl rfl ?_
    show Steps p.tables e below (T86.setTop (mkF m 211 #[vR a0, vR a1, vI p2, vR b4, vI rc, vR b4, vI (2 : Int32), vI (1 : Int32), vI ((2 : Int32) + v1)] [(.ref a0)])) _
    refine st92 _ ?_
    show Steps p.tables e below (T92.setTop (mkF m 214 #[vR a0, vR a1, vI p2, vR b4, vI rc, vR b4, vI (2 : Int32), vI (1 : Int32), vI ((2 : Int32) + v1)] [(.ref aO)])) _
    refine XS.iload X92.here hx rfl (hb hby d7_214) rfl ?_
    show Steps p.tables e below (T92.setTop (mkF m 216 #[vR a0, vR a1, vI p2, vR b4, vI rc, vR b4, vI (2 : Int32), vI (1 : Int32), vI ((2 : Int32) + v1)] [(.int ((2 : Int32) + v1)), (.ref aO)])) _
    refine Jvm.Free.XT.dup2 X92.here hx rfl (hb hby d7_216) rfl rfl rfl ?_
    show Steps p.tables e below (T92.setTop (mkF m 217 #[vR a0, vR a1, vI p2, vR b4, vI rc, vR b4, vI (2 : Int32), vI (1 : Int32), vI ((2 : Int32) + v1)] [(.int ((2 : Int32) + v1)), (.ref aO), (.int ((2 : Int32) + v1)), (.ref aO)])) _
    refine X92.iaload hx (j := ((2 : Int32) + v1)) (v := (.int lw96)) (by rw [e92]; exact Ar94.1) (State.isArrayOf_alike hZ.alike Ar94.2.1) Ar94.2.2 hin95 hat96 (g := (mkF m 217 #[vR a0, vR a1, vI p2, vR b4, vI rc, vR b4, vI (2 : Int32), vI (1 : Int32), vI ((2 : Int32) + v1)] [(.int ((2 : Int32) + v1)), (.ref aO), (.int ((2 : Int32) + v1)), (.ref aO)])) rfl rfl (hb hby d7_217) _ ?_
    show Steps p.tables e below (T92.setTop (mkF m 218 #[vR a0, vR a1, vI p2, vR b4, vI rc, vR b4, vI (2 : Int32), vI (1 : Int32), vI ((2 : Int32) + v1)] [(.int lw96), (.int ((2 : Int32) + v1)), (.ref aO)])) _
    refine XS.iconst X92.here hx rfl (hb hby d7_218) ?_
    refine XS.iadd X92.here hx rfl (hb hby d7_219) rfl ?_
    show Steps p.tables e below (T92.setTop (mkF m 220 #[vR a0, vR a1, vI p2, vR b4, vI rc, vR b4, vI (2 : Int32), vI (1 : Int32), vI ((2 : Int32) + v1)] [(.int (lw96 + (1 : Int32))), (.int ((2 : Int32) + v1)), (.ref aO)])) _
    refine st98 _ ?_
    show Steps p.tables e below (T98.setTop (mkF m 221 #[vR a0, vR a1, vI p2, vR b4, vI rc, vR b4, vI (2 : Int32), vI (1 : Int32), vI ((2 : Int32) + v1)] [])) _
    refine XS.aloadN X98'.here hx rfl (hb hby d7_221) rfl rfl ?_
    show Steps p.tables e below (T98.setTop (mkF m 222 #[vR a0, vR a1, vI p2, vR b4, vI rc, vR b4, vI (2 : Int32), vI (1 : Int32), vI ((2 : Int32) + v1)] [(.ref a0)])) _
    refine st100 _ ?_
    show Steps p.tables e below (T100.setTop (mkF m 225 #[vR a0, vR a1, vI p2, vR b4, vI rc, vR b4, vI (2 : Int32), vI (1 : Int32), vI ((2 : Int32) + v1)] [(.ref aN)])) _
    refine XS.iload X100.here hx rfl (hb hby d7_225) rfl ?_
    refine XS.iconst X100.here hx rfl (hb hby d7_227) ?_
    show Steps p.tables e below (T100.setTop (mkF m 228 #[vR a0, vR a1, vI p2, vR b4, vI rc, vR b4, vI (2 : Int32), vI (1 : Int32), vI ((2 : Int32) + v1)] [(.int (2 : Int32)), (.int ((2 : Int32) + v1)), (.ref aN)])) _
    refine XS.idiv X100.here hx rfl (hb hby d7_228) rfl (by decide) ?_
    show Steps p.tables e below (T100.setTop (mkF m 229 #[vR a0, vR a1, vI p2, vR b4, vI rc, vR b4, vI (2 : Int32), vI (1 : Int32), vI ((2 : Int32) + v1)] [(.int (((2 : Int32) + v1) / (2 : Int32))), (.ref aN)])) _
    refine Jvm.Free.XT.dup2 X100.here hx rfl (hb hby d7_229) rfl rfl rfl ?_
    show Steps p.tables e below (T100.setTop (mkF m 230 #[vR a0, vR a1, vI p2, vR b4, vI rc, vR b4, vI (2 : Int32), vI (1 : Int32), vI ((2 : Int32) + v1)] [(.int (((2 : Int32) + v1) / (2 : Int32))), (.ref aN), (.int (((2 : Int32) + v1) / (2 : Int32))), (.ref aN)])) _
    refine X100.iaload hx (j := (((2 : Int32) + v1) / (2 : Int32))) (v := (.int lw104)) (by rw [e100]; exact Ar102.1) (State.isArrayOf_alike hZ.alike Ar102.2.1) Ar102.2.2 hin103 hat104 (g := (mkF m 230 #[vR a0, vR a1, vI p2, vR b4, vI rc, vR b4, vI (2 : Int32), vI (1 : Int32), vI ((2 : Int32) + v1)] [(.int (((2 : Int32) + v1) / (2 : Int32))), (.ref aN), (.int (((2 : Int32) + v1) / (2 : Int32))), (.ref aN)])) rfl rfl (hb hby d7_230) _ ?_
    show Steps p.tables e below (T100.setTop (mkF m 231 #[vR a0, vR a1, vI p2, vR b4, vI rc, vR b4, vI (2 : Int32), vI (1 : Int32), vI ((2 : Int32) + v1)] [(.int lw104), (.int (((2 : Int32) + v1) / (2 : Int32))), (.ref aN)])) _
    refine XS.iload X100.here hx rfl (hb hby d7_231) rfl ?_
    refine XS.iconst X100.here hx rfl (hb hby d7_233) ?_
    show Steps p.tables e below (T100.setTop (mkF m 234 #[vR a0, vR a1, vI p2, vR b4, vI rc, vR b4, vI (2 : Int32), vI (1 : Int32), vI ((2 : Int32) + v1)] [(.int (2 : Int32)), (.int ((2 : Int32) + v1)), (.int lw104), (.int (((2 : Int32) + v1) / (2 : Int32))), (.ref aN)])) _
    refine iremM X100 hx rfl (hb hby d7_234) rfl (by decide) ?_
    show Steps p.tables e below (T100.setTop (mkF m 235 #[vR a0, vR a1, vI p2, vR b4, vI rc, vR b4, vI (2 : Int32), vI (1 : Int32), vI ((2 : Int32) + v1)] [(.int (((2 : Int32) + v1) % (2 : Int32))), (.int lw104), (.int (((2 : Int32) + v1) / (2 : Int32))), (.ref aN)])) _
    refine XS.iadd X100.here hx rfl (hb hby d7_235) rfl ?_
    show Steps p.tables e below (T100.setTop (mkF m 236 #[vR a0, vR a1, vI p2, vR b4, vI rc, vR b4, vI (2 : Int32), vI (1 : Int32), vI ((2 : Int32) + v1)] [(.int (lw104 + (((2 : Int32) + v1) % (2 : Int32)))), (.int (((2 : Int32) + v1) / (2 : Int32))), (.ref aN)])) _
    refine st106 _ ?_
    show Steps p.tables e below (T106.setTop (mkF m 237 #[vR a0, vR a1, vI p2, vR b4, vI rc, vR b4, vI (2 : Int32), vI (1 : Int32), vI ((2 : Int32) + v1)] [])) _
    refine st110 _ ?_
    show Steps p.tables e below (T110.setTop (mkF m 252 #[vR a0, vR a1, vI p2, vR b4, vI rc, vR b4, vI (2 : Int32), vI (1 : Int32), vI ((2 : Int32) + v1)] [])) _
    refine XS.iinc X110.here hx rfl (hb hby d7_252) rfl (l' := #[vR a0, vR a1, vI p2, vR b4, vI rc, vR b4, vI (2 : Int32), vI (2 : Int32), vI ((2 : Int32) + v1)]) rfl ?_
    refine XS.goto X110.here hx rfl (pc0 := 255) (pc' := 196) rfl (hb hby d7_255) (by decide) (by decide) ?_
    refine XS.iload X110.here hx rfl (hb hby d7_196) rfl ?_
    refine XS.iload X110.here hx rfl (hb hby d7_198) rfl ?_
    refine XS.icmpYes X110.here hx rfl (pc0 := 200) (pc' := 258) rfl (hb hby d7_200) rfl (flt (by decide : ¬ ((2 : Int32) < (2 : Int32)))).2.1 (by decide) (by decide) ?_
    refine XS.aloadN X110.here hx rfl (hb hby d7_258) rfl rfl ?_
    show Steps p.tables e below (T110.setTop (mkF m 259 #[vR a0, vR a1, vI p2, vR b4, vI rc, vR b4, vI (2 : Int32), vI (2 : Int32), vI ((2 : Int32) + v1)] [(.ref a0)])) _
    refine st115 _ ?_
    show Steps p.tables e below (T115.setTop (mkF m 262 #[vR a0, vR a1, vI p2, vR b4, vI rc, vR b4, vI (2 : Int32), vI (2 : Int32), vI ((2 : Int32) + v1)] [(.ref aC)])) _
    refine XS.iload X115.here hx rfl (hb hby d7_262) rfl ?_
    refine XS.iloadN X115.here hx rfl (hb hby d7_264) rfl ?_
    show Steps p.tables e below (T115.setTop (mkF m 265 #[vR a0, vR a1, vI p2, vR b4, vI rc, vR b4, vI (2 : Int32), vI (2 : Int32), vI ((2 : Int32) + v1)] [(.int p2), (.int rc), (.ref aC)])) _
    refine st122 _ ?_
    show Steps p.tables e below (T122.setTop (mkF m 266 #[vR a0, vR a1, vI p2, vR b4, vI rc, vR b4, vI (2 : Int32), vI (2 : Int32), vI ((2 : Int32) + v1)] [])) _
    refine XS.iload X122'.here hx rfl (hb hby d7_266) rfl ?_
    show Steps p.tables e below (T122.setTop (mkF m 268 #[vR a0, vR a1, vI p2, vR b4, vI rc, vR b4, vI (2 : Int32), vI (2 : Int32), vI ((2 : Int32) + v1)] [(.int rc)])) _
    exact retI X122' hx Bd.returns (hb hby d7_268) hr
  · show Q72 Z a0 a1 p2 rc rem aP kP fP aC kC aK kK nK aO kO aN kN nN k1 v0 v1 h0 n0 _ T122.heap _
    rw [e122]
    exact ⟨b4, k4, rfl, N122, sz_b4, K122, E_a0_u125, F_a0_labelCount_u129, F_a0_rowCount_u132, F_a0_pairsShared_u136, F_a0_remainingCount_u139, F_a0_openPairs_u142, F_a0_covered_u143, F_a0_coveredCounts_u144, F_a0_openCounts_u146, F_a0_ones_u147, V_aP_u150, E_aP_u155, V_aO_u156, E_aO_u161, V_aN_u162, E_aN_u167, E_aK_u168, V_aK_u169, V_aC_122, E_aC_u174, E_b4_u177, V_b4_u179⟩
theorem d13_60 : decode prog_21_method_13_code 60 = .ok (.ifCond .eq 27, 3) := by decide +kernel
set_option maxRecDepth 65536 in
set_option maxHeartbeats 40000000 in
theorem sg03a (l : Launch) (Z : State) (az : Array Value) (hw : ∀ d ∈ tables_1, d.before az Z = true) {p : Program} {e : Env} {s : State} {m : MethodId} {args : Array Value} {below : List Frame} {meth : Method} {c : Code} (hx : p.tables.exec = Jvm.exec) (hby : c.code = prog_21_method_13_code) (hml : c.maxLocals = 10) (hown : s.vm.findClass cCV = some m.cls) (hZ : Z.Warmed39 s.vm) {kc ks : Nat} (a0 : Addr) (x1 : Slot) (x2 : Slot) (x3 : Slot) (x4 : Slot) (x5 : Slot) (x6 : Slot) (x7 : Slot) (x8 : Slot) (p9 : Int32) (wv : Int32) (aK : Addr) (kK : ClassId) (nK : Int32) (h0 : Heap) (n0 : Nat) (Z0 : n0 ≤ h0.size) (F_coveredCounts_a0 : Fld Z h0 a0 cCV "coveredCounts" "[I" (.ref aK)) (V_aK : own_Any Z h0 aK kK .int nK) (E_aK : Exa Z h0 aK "[I") (g_aK : n0 ≤ aK) (hc4 : wv = (0 : Int32)) :
    own_Seg p l e ({ frames := 2, cells := 2, slots := 3, locals := 80 } : Room) s m args below meth c n0 kc ks kc ks h0 (mkF m 60 #[vR a0, x1, x2, x3, x4, x5, x6, x7, x8, vI p9] [(.int wv)]) (fun h g => g = (mkF m 87 #[vR a0, x1, x2, x3, x4, x5, x6, x7, x8, vI p9] []) ∧ h = h0) := by
  intro s₁ hT
  obtain ⟨Lz0, X0, e0, N0⟩ := hT
  refine ⟨_, _, _, ⟨rfl, rfl⟩, ⟨_, X0, e0, N0⟩, fun t hr => ?_⟩
  show Steps p.tables e below (s₁.setTop (mkF m 60 #[vR a0, x1, x2, x3, x4, x5, x6, x7, x8, vI p9] [(.int wv)])) _
  refine XS.ifYes X0.here hx rfl (pc0 := 60) (pc' := 87) rfl (hb hby d13_60) rfl ((if0 _ _).trans (teq hc4).1) (by decide) (by decide) ?_
  exact hr
theorem d13_63 : decode prog_21_method_13_code 63 = .ok (.aload_n 0, 1) := by decide +kernel
theorem d13_64 : decode prog_21_method_13_code 64 = .ok (.getfield 32, 3) := by decide +kernel
theorem d13_67 : decode prog_21_method_13_code 67 = .ok (.iload 9, 2) := by decide +kernel
theorem d13_69 : decode prog_21_method_13_code 69 = .ok (.dup2, 1) := by decide +kernel
theorem d13_70 : decode prog_21_method_13_code 70 = .ok (.iaload, 1) := by decide +kernel
theorem d13_71 : decode prog_21_method_13_code 71 = .ok (.iconst 1, 1) := by decide +kernel
theorem d13_72 : decode prog_21_method_13_code 72 = .ok (.isub, 1) := by decide +kernel
theorem d13_73 : decode prog_21_method_13_code 73 = .ok (.iastore, 1) := by decide +kernel
theorem d13_74 : decode prog_21_method_13_code 74 = .ok (.goto 13, 3) := by decide +kernel
set_option maxRecDepth 65536 in
set_option maxHeartbeats 40000000 in
theorem sg03b (l : Launch) (Z : State) (az : Array Value) (hw : ∀ d ∈ tables_1, d.before az Z = true) {p : Program} {e : Env} {s : State} {m : MethodId} {args : Array Value} {below : List Frame} {meth : Method} {c : Code} (hx : p.tables.exec = Jvm.exec) (hby : c.code = prog_21_method_13_code) (hml : c.maxLocals = 10) (hown : s.vm.findClass cCV = some m.cls) (hZ : Z.Warmed39 s.vm) {kc ks : Nat} (a0 : Addr) (x1 : Slot) (x2 : Slot) (x3 : Slot) (x4 : Slot) (x5 : Slot) (x6 : Slot) (x7 : Slot) (x8 : Slot) (p9 : Int32) (wv : Int32) (aK : Addr) (kK : ClassId) (nK : Int32) (h0 : Heap) (n0 : Nat) (Z0 : n0 ≤ h0.size) (F_coveredCounts_a0 : Fld Z h0 a0 cCV "coveredCounts" "[I" (.ref aK)) (V_aK : own_Any Z h0 aK kK .int nK) (E_aK : Exa Z h0 aK "[I") (g_aK : n0 ≤ aK) (hc4 : ¬ (wv = (0 : Int32))) (hc5 : ¬ (p9 < (0 : Int32))) (hc6 : p9 < nK) :
    own_Seg p l e ({ frames := 2, cells := 2, slots := 3, locals := 80 } : Room) s m args below meth c n0 kc ks kc ks h0 (mkF m 60 #[vR a0, x1, x2, x3, x4, x5, x6, x7, x8, vI p9] [(.int wv)]) (fun h g => g = (mkF m 87 #[vR a0, x1, x2, x3, x4, x5, x6, x7, x8, vI p9] []) ∧ Keep h0 h [aK] ∧ own_Any Z h aK kK .int nK ∧ Exa Z h aK "[I") := by
  intro s₁ hT
  obtain ⟨Lz0, X0, e0, N0⟩ := hT
  obtain ⟨T1, X1, e1, st1⟩ := getF X0 hx hZ hown (host := "") (Or.inl (w19 hw)) Via.refl e0 F_coveredCounts_a0 (g := (mkF m 64 #[vR a0, x1, x2, x3, x4, x5, x6, x7, x8, vI p9] [(.ref a0)])) rfl rfl (hb hby d13_64)
  obtain ⟨ff2, cl2, Ar2, qk2, Sz2, Ng2, Hs2, Gf2⟩ := id V_aK
  have hin3 : ¬ (p9 < 0 ∨ cl2.slots.size ≤ (p9).toNatClampNeg) := inb_of Sz2 ⟨hc5, hc6⟩
  obtain ⟨lw4, hat4⟩ := own_any_at Hs2 Gf2 hin3 (Or.inl rfl)
  have hin5 : ¬ (p9 < 0 ∨ cl2.slots.size ≤ (p9).toNatClampNeg) := inb_of Sz2 ⟨hc5, hc6⟩
  obtain ⟨T6, h6, X6, e6, W6, st6⟩ := stI X1 hx hZ e1 Ar2 (j := p9) hin5 (g := (mkF m 73 #[vR a0, x1, x2, x3, x4, x5, x6, x7, x8, vI p9] [(.int (lw4 - (1 : Int32))), (.int p9), (.ref aK)])) rfl rfl (hb hby d13_73)
  have K6 : Keep h0 h6 [aK] := (Keep.refl h0 [aK]).wr W6 (Or.inl (List.mem_of_getElem? (i := 0) rfl))
  have V_aK_6 : own_Any Z h6 aK kK .int nK := ⟨_, own_Arf.set (v := (.int (lw4 - (1 : Int32)))) Ar2 qk2 Sz2 Ng2 Hs2 Gf2 rfl W6⟩
  have Z6 : n0 ≤ h6.size := Nat.le_trans Z0 (Keep.of_wr W6).1
  obtain ⟨Lg6, X6', N6⟩ := own_gen X6 (Fr.snoc X6 N0 g_aK)
  have E_aK_u7 : Exa Z h6 aK "[I" := (E_aK.wr W6)
  refine ⟨_, _, _, ⟨rfl, K6, V_aK_6, E_aK_u7⟩, ⟨_, X6', e6, N6⟩, fun t hr => ?_⟩
  show Steps p.tables e below (s₁.setTop (mkF m 60 #[vR a0, x1, x2, x3, x4, x5, x6, x7, x8, vI p9] [(.int wv)])) _
  refine XS.ifNo X0.here hx rfl (hb hby d13_60) rfl ((if0 _ _).trans (feq hc4).1) ?_
  refine XS.aloadN X0.here hx rfl (hb hby d13_63) rfl rfl ?_
  show Steps p.tables e below (s₁.setTop (mkF m 64 #[vR a0, x1, x2, x3, x4, x5, x6, x7, x8, vI p9] [(.ref a0)])) _
  refine st1 _ ?_
  show Steps p.tables e below (T1.setTop (mkF m 67 #[vR a0, x1, x2, x3, x4, x5, x6, x7, x8, vI p9] [(.ref aK)])) _
  refine XS.iload X1.here hx rfl (hb hby d13_67) rfl ?_
  show Steps p.tables e below (T1.setTop (mkF m 69 #[vR a0, x1, x2, x3, x4, x5, x6, x7, x8, vI p9] [(.int p9), (.ref aK)])) _
  refine Jvm.Free.XT.dup2 X1.here hx rfl (hb hby d13_69) rfl rfl rfl ?_
  show Steps p.tables e below (T1.setTop (mkF m 70 #[vR a0, x1, x2, x3, x4, x5, x6, x7, x8, vI p9] [(.int p9), (.ref aK), (.int p9), (.ref aK)])) _
  refine X1.iaload hx (j := p9) (v := (.int lw4)) (by rw [e1]; exact Ar2.1) (State.isArrayOf_alike hZ.alike Ar2.2.1) Ar2.2.2 hin3 hat4 (g := (mkF m 70 #[vR a0, x1, x2, x3, x4, x5, x6, x7, x8, vI p9] [(.int p9), (.ref aK), (.int p9), (.ref aK)])) rfl rfl (hb hby d13_70) _ ?_
  show Steps p.tables e below (T1.setTop (mkF m 71 #[vR a0, x1, x2, x3, x4, x5, x6, x7, x8, vI p9] [(.int lw4), (.int p9), (.ref aK)])) _
  refine XS.iconst X1.here hx rfl (hb hby d13_71) ?_
  refine XS.isub X1.here hx rfl (hb hby d13_72) rfl ?_
  show Steps p.tables e below (T1.setTop (mkF m 73 #[vR a0, x1, x2, x3, x4, x5, x6, x7, x8, vI p9] [(.int (lw4 - (1 : Int32))), (.int p9), (.ref aK)])) _
  refine st6 _ ?_
  show Steps p.tables e below (T6.setTop (mkF m 74 #[vR a0, x1, x2, x3, x4, x5, x6, x7, x8, vI p9] [])) _
  refine XS.goto X6'.here hx rfl (pc0 := 74) (pc' := 87) rfl (hb hby d13_74) (by decide) (by decide) ?_
  exact hr
set_option maxRecDepth 65536 in
set_option maxHeartbeats 40000000 in
theorem sg03 (l : Launch) (Z : State) (az : Array Value) (hw : ∀ d ∈ tables_1, d.before az Z = true) {p : Program} {e : Env} {s : State} {m : MethodId} {args : Array Value} {below : List Frame} {meth : Method} {c : Code} (hx : p.tables.exec = Jvm.exec) (hby : c.code = prog_21_method_13_code) (hml : c.maxLocals = 10) (hown : s.vm.findClass cCV = some m.cls) (hZ : Z.Warmed39 s.vm) {kc ks : Nat} (a0 : Addr) (x1 : Slot) (x2 : Slot) (x3 : Slot) (x4 : Slot) (x5 : Slot) (x6 : Slot) (x7 : Slot) (x8 : Slot) (p9 : Int32) (wv : Int32) (aK : Addr) (kK : ClassId) (nK : Int32) (h0 : Heap) (n0 : Nat) (Z0 : n0 ≤ h0.size) (F_coveredCounts_a0 : Fld Z h0 a0 cCV "coveredCounts" "[I" (.ref aK)) (V_aK : own_Any Z h0 aK kK .int nK) (E_aK : Exa Z h0 aK "[I") (g_aK : n0 ≤ aK) (hj4 : ¬ (p9 < (0 : Int32))) (hj5 : p9 < nK) :
    own_Seg p l e ({ frames := 2, cells := 2, slots := 3, locals := 80 } : Room) s m args below meth c n0 kc ks kc ks h0 (mkF m 60 #[vR a0, x1, x2, x3, x4, x5, x6, x7, x8, vI p9] [(.int wv)]) (fun h g => g = (mkF m 87 #[vR a0, x1, x2, x3, x4, x5, x6, x7, x8, vI p9] []) ∧ Keep h0 h [aK] ∧ own_Any Z h aK kK .int nK ∧ Exa Z h aK "[I") := by
  by_cases hJ : wv = (0 : Int32)
  · refine own_Seg.mono (sg03a l Z az hw hx hby hml hown hZ a0 x1 x2 x3 x4 x5 x6 x7 x8 p9 wv aK kK nK h0 n0 Z0 F_coveredCounts_a0 V_aK E_aK g_aK hJ) fun h g q => ?_
    obtain ⟨rfl, rfl⟩ := q
    exact ⟨rfl, Keep.refl _ _, V_aK, E_aK⟩
  · exact sg03b l Z az hw hx hby hml hown hZ a0 x1 x2 x3 x4 x5 x6 x7 x8 p9 wv aK kK nK h0 n0 Z0 F_coveredCounts_a0 V_aK E_aK g_aK hJ hj4 hj5
theorem d13_128 : decode prog_21_method_13_code 128 = .ok (.ifCond .eq 12, 3) := by decide +kernel
theorem d13_140 : decode prog_21_method_13_code 140 = .ok (.iconst 0, 1) := by decide +kernel
theorem d13_141 : decode prog_21_method_13_code 141 = .ok (.bastore, 1) := by decide +kernel
set_option maxRecDepth 65536 in
set_option maxHeartbeats 40000000 in
theorem sg40t (l : Launch) (Z : State) (az : Array Value) (hw : ∀ d ∈ tables_1, d.before az Z = true) {p : Program} {e : Env} {s : State} {m : MethodId} {args : Array Value} {below : List Frame} {meth : Method} {c : Code} (hx : p.tables.exec = Jvm.exec) (hby : c.code = prog_21_method_13_code) (hml : c.maxLocals = 10) (hown : s.vm.findClass cCV = some m.cls) (hZ : Z.Warmed39 s.vm) {kc ks : Nat} (x0 : Slot) (x1 : Slot) (x2 : Slot) (x3 : Slot) (x4 : Slot) (x6 : Slot) (x7 : Slot) (x8 : Slot) (x9 : Slot) (wv : Int32) (p2 : Int32) (aC : Addr) (kC : ClassId) (h0 : Heap) (n0 : Nat) (Z0 : n0 ≤ h0.size) (V_aC : own_Any Z h0 aC kC .boolean (8 : Int32)) (E_aC : Exa Z h0 aC "[Z") (g_aC : n0 ≤ aC) (hc3 : wv = (0 : Int32)) (hc4 : ¬ (p2 < (0 : Int32))) (hc5 : p2 < (8 : Int32)) :
    own_Seg p l e ({ frames := 2, cells := 2, slots := 3, locals := 80 } : Room) s m args below meth c n0 kc ks kc ks h0 (mkF m 128 #[x0, x1, x2, x3, x4, vI (0 : Int32), x6, x7, x8, x9] [(.int wv), (.int p2), (.ref aC)]) (fun h g => g = (mkF m 142 #[x0, x1, x2, x3, x4, vI (0 : Int32), x6, x7, x8, x9] []) ∧ Keep h0 h [aC] ∧ own_Any Z h aC kC .boolean (8 : Int32) ∧ Exa Z h aC "[Z") := by
  intro s₁ hT
  obtain ⟨Lz0, X0, e0, N0⟩ := hT
  obtain ⟨ff1, cl1, Ar1, qk1, Sz1, Ng1, Hs1, Gf1⟩ := id V_aC
  have hin2 : ¬ (p2 < 0 ∨ cl1.slots.size ≤ (p2).toNatClampNeg) := inb_of Sz1 ⟨hc4, hc5⟩
  obtain ⟨T3, h3, X3, e3, W3, st3⟩ := stZ X0 hx hZ e0 Ar1 (j := p2) hin2 (g := (mkF m 141 #[x0, x1, x2, x3, x4, vI (0 : Int32), x6, x7, x8, x9] [(.int (0 : Int32)), (.int p2), (.ref aC)])) rfl rfl (hb hby d13_141)
  have K3 : Keep h0 h3 [aC] := (Keep.refl h0 [aC]).wr W3 (Or.inl (List.mem_of_getElem? (i := 0) rfl))
  have V_aC_3 : own_Any Z h3 aC kC .boolean (8 : Int32) := ⟨_, own_Arf.set (v := (.int (0 : Int32))) Ar1 qk1 Sz1 Ng1 Hs1 Gf1 (by decide) W3⟩
  have Z3 : n0 ≤ h3.size := Nat.le_trans Z0 (Keep.of_wr W3).1
  obtain ⟨Lg3, X3', N3⟩ := own_gen X3 (Fr.snoc X3 N0 g_aC)
  have E_aC_u4 : Exa Z h3 aC "[Z" := (E_aC.wr W3)
  refine ⟨_, _, _, ⟨rfl, K3, V_aC_3, E_aC_u4⟩, ⟨_, X3', e3, N3⟩, fun t hr => ?_⟩
  show Steps p.tables e below (s₁.setTop (mkF m 128 #[x0, x1, x2, x3, x4, vI (0 : Int32), x6, x7, x8, x9] [(.int wv), (.int p2), (.ref aC)])) _
  refine XS.ifYes X0.here hx rfl (pc0 := 128) (pc' := 140) rfl (hb hby d13_128) rfl ((if0 _ _).trans (teq hc3).1) (by decide) (by decide) ?_
  refine XS.iconst X0.here hx rfl (hb hby d13_140) ?_
  show Steps p.tables e below (s₁.setTop (mkF m 141 #[x0, x1, x2, x3, x4, vI (0 : Int32), x6, x7, x8, x9] [(.int (0 : Int32)), (.int p2), (.ref aC)])) _
  refine st3 _ ?_
  exact hr
theorem d13_131 : decode prog_21_method_13_code 131 = .ok (.iload 5, 2) := by decide +kernel
theorem d13_133 : decode prog_21_method_13_code 133 = .ok (.ifCond .le 7, 3) := by decide +kernel
set_option maxRecDepth 65536 in
set_option maxHeartbeats 40000000 in
theorem sg40f (l : Launch) (Z : State) (az : Array Value) (hw : ∀ d ∈ tables_1, d.before az Z = true) {p : Program} {e : Env} {s : State} {m : MethodId} {args : Array Value} {below : List Frame} {meth : Method} {c : Code} (hx : p.tables.exec = Jvm.exec) (hby : c.code = prog_21_method_13_code) (hml : c.maxLocals = 10) (hown : s.vm.findClass cCV = some m.cls) (hZ : Z.Warmed39 s.vm) {kc ks : Nat} (x0 : Slot) (x1 : Slot) (x2 : Slot) (x3 : Slot) (x4 : Slot) (x6 : Slot) (x7 : Slot) (x8 : Slot) (x9 : Slot) (wv : Int32) (p2 : Int32) (aC : Addr) (kC : ClassId) (h0 : Heap) (n0 : Nat) (Z0 : n0 ≤ h0.size) (V_aC : own_Any Z h0 aC kC .boolean (8 : Int32)) (E_aC : Exa Z h0 aC "[Z") (g_aC : n0 ≤ aC) (hc3 : ¬ (wv = (0 : Int32))) (hc4 : ¬ (p2 < (0 : Int32))) (hc5 : p2 < (8 : Int32)) :
    own_Seg p l e ({ frames := 2, cells := 2, slots := 3, locals := 80 } : Room) s m args below meth c n0 kc ks kc ks h0 (mkF m 128 #[x0, x1, x2, x3, x4, vI (0 : Int32), x6, x7, x8, x9] [(.int wv), (.int p2), (.ref aC)]) (fun h g => g = (mkF m 142 #[x0, x1, x2, x3, x4, vI (0 : Int32), x6, x7, x8, x9] []) ∧ Keep h0 h [aC] ∧ own_Any Z h aC kC .boolean (8 : Int32) ∧ Exa Z h aC "[Z") := by
  intro s₁ hT
  obtain ⟨Lz0, X0, e0, N0⟩ := hT
  obtain ⟨ff1, cl1, Ar1, qk1, Sz1, Ng1, Hs1, Gf1⟩ := id V_aC
  have hin2 : ¬ (p2 < 0 ∨ cl1.slots.size ≤ (p2).toNatClampNeg) := inb_of Sz1 ⟨hc4, hc5⟩
  obtain ⟨T3, h3, X3, e3, W3, st3⟩ := stZ X0 hx hZ e0 Ar1 (j := p2) hin2 (g := (mkF m 141 #[x0, x1, x2, x3, x4, vI (0 : Int32), x6, x7, x8, x9] [(.int (0 : Int32)), (.int p2), (.ref aC)])) rfl rfl (hb hby d13_141)
  have K3 : Keep h0 h3 [aC] := (Keep.refl h0 [aC]).wr W3 (Or.inl (List.mem_of_getElem? (i := 0) rfl))
  have V_aC_3 : own_Any Z h3 aC kC .boolean (8 : Int32) := ⟨_, own_Arf.set (v := (.int (0 : Int32))) Ar1 qk1 Sz1 Ng1 Hs1 Gf1 (by decide) W3⟩
  have Z3 : n0 ≤ h3.size := Nat.le_trans Z0 (Keep.of_wr W3).1
  obtain ⟨Lg3, X3', N3⟩ := own_gen X3 (Fr.snoc X3 N0 g_aC)
  have E_aC_u4 : Exa Z h3 aC "[Z" := (E_aC.wr W3)
  refine ⟨_, _, _, ⟨rfl, K3, V_aC_3, E_aC_u4⟩, ⟨_, X3', e3, N3⟩, fun t hr => ?_⟩
  show Steps p.tables e below (s₁.setTop (mkF m 128 #[x0, x1, x2, x3, x4, vI (0 : Int32), x6, x7, x8, x9] [(.int wv), (.int p2), (.ref aC)])) _
  refine XS.ifNo X0.here hx rfl (hb hby d13_128) rfl ((if0 _ _).trans (feq hc3).1) ?_
  refine XS.iload X0.here hx rfl (hb hby d13_131) rfl ?_
  refine XS.ifYes X0.here hx rfl (pc0 := 133) (pc' := 140) rfl (hb hby d13_133) rfl ((if0 _ _).trans (flt (by decide : ¬ ((0 : Int32) < (0 : Int32)))).2.2.2) (by decide) (by decide) ?_
  refine XS.iconst X0.here hx rfl (hb hby d13_140) ?_
  show Steps p.tables e below (s₁.setTop (mkF m 141 #[x0, x1, x2, x3, x4, vI (0 : Int32), x6, x7, x8, x9] [(.int (0 : Int32)), (.int p2), (.ref aC)])) _
  refine st3 _ ?_
  exact hr
set_option maxRecDepth 65536 in
set_option maxHeartbeats 40000000 in
theorem sg40 (l : Launch) (Z : State) (az : Array Value) (hw : ∀ d ∈ tables_1, d.before az Z = true) {p : Program} {e : Env} {s : State} {m : MethodId} {args : Array Value} {below : List Frame} {meth : Method} {c : Code} (hx : p.tables.exec = Jvm.exec) (hby : c.code = prog_21_method_13_code) (hml : c.maxLocals = 10) (hown : s.vm.findClass cCV = some m.cls) (hZ : Z.Warmed39 s.vm) {kc ks : Nat} (x0 : Slot) (x1 : Slot) (x2 : Slot) (x3 : Slot) (x4 : Slot) (x6 : Slot) (x7 : Slot) (x8 : Slot) (x9 : Slot) (wv : Int32) (p2 : Int32) (aC : Addr) (kC : ClassId) (h0 : Heap) (n0 : Nat) (Z0 : n0 ≤ h0.size) (V_aC : own_Any Z h0 aC kC .boolean (8 : Int32)) (E_aC : Exa Z h0 aC "[Z") (g_aC : n0 ≤ aC) (hj3 : ¬ (p2 < (0 : Int32))) (hj4 : p2 < (8 : Int32)) :
    own_Seg p l e ({ frames := 2, cells := 2, slots := 3, locals := 80 } : Room) s m args below meth c n0 kc ks kc ks h0 (mkF m 128 #[x0, x1, x2, x3, x4, vI (0 : Int32), x6, x7, x8, x9] [(.int wv), (.int p2), (.ref aC)]) (fun h g => g = (mkF m 142 #[x0, x1, x2, x3, x4, vI (0 : Int32), x6, x7, x8, x9] []) ∧ Keep h0 h [aC] ∧ own_Any Z h aC kC .boolean (8 : Int32) ∧ Exa Z h aC "[Z") := by
  by_cases hJ : wv = (0 : Int32)
  · exact sg40t l Z az hw hx hby hml hown hZ x0 x1 x2 x3 x4 x6 x7 x8 x9 wv p2 aC kC h0 n0 Z0 V_aC E_aC g_aC hJ hj3 hj4
  · exact sg40f l Z az hw hx hby hml hown hZ x0 x1 x2 x3 x4 x6 x7 x8 x9 wv p2 aC kC h0 n0 Z0 V_aC E_aC g_aC hJ hj3 hj4
set_option maxRecDepth 65536 in
set_option maxHeartbeats 40000000 in
theorem sg41t (l : Launch) (Z : State) (az : Array Value) (hw : ∀ d ∈ tables_1, d.before az Z = true) {p : Program} {e : Env} {s : State} {m : MethodId} {args : Array Value} {below : List Frame} {meth : Method} {c : Code} (hx : p.tables.exec = Jvm.exec) (hby : c.code = prog_21_method_13_code) (hml : c.maxLocals = 10) (hown : s.vm.findClass cCV = some m.cls) (hZ : Z.Warmed39 s.vm) {kc ks : Nat} (x0 : Slot) (x1 : Slot) (x2 : Slot) (x3 : Slot) (x4 : Slot) (x6 : Slot) (x7 : Slot) (x8 : Slot) (x9 : Slot) (wv : Int32) (p2 : Int32) (aC : Addr) (kC : ClassId) (h0 : Heap) (n0 : Nat) (Z0 : n0 ≤ h0.size) (V_aC : own_Any Z h0 aC kC .boolean (8 : Int32)) (E_aC : Exa Z h0 aC "[Z") (g_aC : n0 ≤ aC) (hc3 : wv = (0 : Int32)) (hc4 : ¬ (p2 < (0 : Int32))) (hc5 : p2 < (8 : Int32)) :
    own_Seg p l e ({ frames := 2, cells := 2, slots := 3, locals := 80 } : Room) s m args below meth c n0 kc ks kc ks h0 (mkF m 128 #[x0, x1, x2, x3, x4, vI (1 : Int32), x6, x7, x8, x9] [(.int wv), (.int p2), (.ref aC)]) (fun h g => g = (mkF m 142 #[x0, x1, x2, x3, x4, vI (1 : Int32), x6, x7, x8, x9] []) ∧ Keep h0 h [aC] ∧ own_Any Z h aC kC .boolean (8 : Int32) ∧ Exa Z h aC "[Z") := by
  intro s₁ hT
  obtain ⟨Lz0, X0, e0, N0⟩ := hT
  obtain ⟨ff1, cl1, Ar1, qk1, Sz1, Ng1, Hs1, Gf1⟩ := id V_aC
  have hin2 : ¬ (p2 < 0 ∨ cl1.slots.size ≤ (p2).toNatClampNeg) := inb_of Sz1 ⟨hc4, hc5⟩
  obtain ⟨T3, h3, X3, e3, W3, st3⟩ := stZ X0 hx hZ e0 Ar1 (j := p2) hin2 (g := (mkF m 141 #[x0, x1, x2, x3, x4, vI (1 : Int32), x6, x7, x8, x9] [(.int (0 : Int32)), (.int p2), (.ref aC)])) rfl rfl (hb hby d13_141)
  have K3 : Keep h0 h3 [aC] := (Keep.refl h0 [aC]).wr W3 (Or.inl (List.mem_of_getElem? (i := 0) rfl))
  have V_aC_3 : own_Any Z h3 aC kC .boolean (8 : Int32) := ⟨_, own_Arf.set (v := (.int (0 : Int32))) Ar1 qk1 Sz1 Ng1 Hs1 Gf1 (by decide) W3⟩
  have Z3 : n0 ≤ h3.size := Nat.le_trans Z0 (Keep.of_wr W3).1
  obtain ⟨Lg3, X3', N3⟩ := own_gen X3 (Fr.snoc X3 N0 g_aC)
  have E_aC_u4 : Exa Z h3 aC "[Z" := (E_aC.wr W3)
  refine ⟨_, _, _, ⟨rfl, K3, V_aC_3, E_aC_u4⟩, ⟨_, X3', e3, N3⟩, fun t hr => ?_⟩
  show Steps p.tables e below (s₁.setTop (mkF m 128 #[x0, x1, x2, x3, x4, vI (1 : Int32), x6, x7, x8, x9] [(.int wv), (.int p2), (.ref aC)])) _
  refine XS.ifYes X0.here hx rfl (pc0 := 128) (pc' := 140) rfl (hb hby d13_128) rfl ((if0 _ _).trans (teq hc3).1) (by decide) (by decide) ?_
  refine XS.iconst X0.here hx rfl (hb hby d13_140) ?_
  show Steps p.tables e below (s₁.setTop (mkF m 141 #[x0, x1, x2, x3, x4, vI (1 : Int32), x6, x7, x8, x9] [(.int (0 : Int32)), (.int p2), (.ref aC)])) _
  refine st3 _ ?_
  exact hr
theorem d13_136 : decode prog_21_method_13_code 136 = .ok (.iconst 1, 1) := by decide +kernel
theorem d13_137 : decode prog_21_method_13_code 137 = .ok (.goto 4, 3) := by decide +kernel
set_option maxRecDepth 65536 in
set_option maxHeartbeats 40000000 in
theorem sg41f (l : Launch) (Z : State) (az : Array Value) (hw : ∀ d ∈ tables_1, d.before az Z = true) {p : Program} {e : Env} {s : State} {m : MethodId} {args : Array Value} {below : List Frame} {meth : Method} {c : Code} (hx : p.tables.exec = Jvm.exec) (hby : c.code = prog_21_method_13_code) (hml : c.maxLocals = 10) (hown : s.vm.findClass cCV = some m.cls) (hZ : Z.Warmed39 s.vm) {kc ks : Nat} (x0 : Slot) (x1 : Slot) (x2 : Slot) (x3 : Slot) (x4 : Slot) (x6 : Slot) (x7 : Slot) (x8 : Slot) (x9 : Slot) (wv : Int32) (p2 : Int32) (aC : Addr) (kC : ClassId) (h0 : Heap) (n0 : Nat) (Z0 : n0 ≤ h0.size) (V_aC : own_Any Z h0 aC kC .boolean (8 : Int32)) (E_aC : Exa Z h0 aC "[Z") (g_aC : n0 ≤ aC) (hc3 : ¬ (wv = (0 : Int32))) (hc4 : ¬ (p2 < (0 : Int32))) (hc5 : p2 < (8 : Int32)) :
    own_Seg p l e ({ frames := 2, cells := 2, slots := 3, locals := 80 } : Room) s m args below meth c n0 kc ks kc ks h0 (mkF m 128 #[x0, x1, x2, x3, x4, vI (1 : Int32), x6, x7, x8, x9] [(.int wv), (.int p2), (.ref aC)]) (fun h g => g = (mkF m 142 #[x0, x1, x2, x3, x4, vI (1 : Int32), x6, x7, x8, x9] []) ∧ Keep h0 h [aC] ∧ own_Any Z h aC kC .boolean (8 : Int32) ∧ Exa Z h aC "[Z") := by
  intro s₁ hT
  obtain ⟨Lz0, X0, e0, N0⟩ := hT
  obtain ⟨ff1, cl1, Ar1, qk1, Sz1, Ng1, Hs1, Gf1⟩ := id V_aC
  have hin2 : ¬ (p2 < 0 ∨ cl1.slots.size ≤ (p2).toNatClampNeg) := inb_of Sz1 ⟨hc4, hc5⟩
  obtain ⟨T3, h3, X3, e3, W3, st3⟩ := stZ X0 hx hZ e0 Ar1 (j := p2) hin2 (g := (mkF m 141 #[x0, x1, x2, x3, x4, vI (1 : Int32), x6, x7, x8, x9] [(.int (1 : Int32)), (.int p2), (.ref aC)])) rfl rfl (hb hby d13_141)
  have K3 : Keep h0 h3 [aC] := (Keep.refl h0 [aC]).wr W3 (Or.inl (List.mem_of_getElem? (i := 0) rfl))
  have V_aC_3 : own_Any Z h3 aC kC .boolean (8 : Int32) := ⟨_, own_Arf.set (v := (.int (1 : Int32))) Ar1 qk1 Sz1 Ng1 Hs1 Gf1 (by decide) W3⟩
  have Z3 : n0 ≤ h3.size := Nat.le_trans Z0 (Keep.of_wr W3).1
  obtain ⟨Lg3, X3', N3⟩ := own_gen X3 (Fr.snoc X3 N0 g_aC)
  have E_aC_u4 : Exa Z h3 aC "[Z" := (E_aC.wr W3)
  refine ⟨_, _, _, ⟨rfl, K3, V_aC_3, E_aC_u4⟩, ⟨_, X3', e3, N3⟩, fun t hr => ?_⟩
  show Steps p.tables e below (s₁.setTop (mkF m 128 #[x0, x1, x2, x3, x4, vI (1 : Int32), x6, x7, x8, x9] [(.int wv), (.int p2), (.ref aC)])) _
  refine XS.ifNo X0.here hx rfl (hb hby d13_128) rfl ((if0 _ _).trans (feq hc3).1) ?_
  refine XS.iload X0.here hx rfl (hb hby d13_131) rfl ?_
  refine XS.ifNo X0.here hx rfl (hb hby d13_133) rfl ((if0 _ _).trans (tlt (by decide : (0 : Int32) < (1 : Int32))).2.2.2) ?_
  refine XS.iconst X0.here hx rfl (hb hby d13_136) ?_
  refine XS.goto X0.here hx rfl (pc0 := 137) (pc' := 141) rfl (hb hby d13_137) (by decide) (by decide) ?_
  show Steps p.tables e below (s₁.setTop (mkF m 141 #[x0, x1, x2, x3, x4, vI (1 : Int32), x6, x7, x8, x9] [(.int (1 : Int32)), (.int p2), (.ref aC)])) _
  refine st3 _ ?_
  exact hr
set_option maxRecDepth 65536 in
set_option maxHeartbeats 40000000 in
theorem sg41 (l : Launch) (Z : State) (az : Array Value) (hw : ∀ d ∈ tables_1, d.before az Z = true) {p : Program} {e : Env} {s : State} {m : MethodId} {args : Array Value} {below : List Frame} {meth : Method} {c : Code} (hx : p.tables.exec = Jvm.exec) (hby : c.code = prog_21_method_13_code) (hml : c.maxLocals = 10) (hown : s.vm.findClass cCV = some m.cls) (hZ : Z.Warmed39 s.vm) {kc ks : Nat} (x0 : Slot) (x1 : Slot) (x2 : Slot) (x3 : Slot) (x4 : Slot) (x6 : Slot) (x7 : Slot) (x8 : Slot) (x9 : Slot) (wv : Int32) (p2 : Int32) (aC : Addr) (kC : ClassId) (h0 : Heap) (n0 : Nat) (Z0 : n0 ≤ h0.size) (V_aC : own_Any Z h0 aC kC .boolean (8 : Int32)) (E_aC : Exa Z h0 aC "[Z") (g_aC : n0 ≤ aC) (hj3 : ¬ (p2 < (0 : Int32))) (hj4 : p2 < (8 : Int32)) :
    own_Seg p l e ({ frames := 2, cells := 2, slots := 3, locals := 80 } : Room) s m args below meth c n0 kc ks kc ks h0 (mkF m 128 #[x0, x1, x2, x3, x4, vI (1 : Int32), x6, x7, x8, x9] [(.int wv), (.int p2), (.ref aC)]) (fun h g => g = (mkF m 142 #[x0, x1, x2, x3, x4, vI (1 : Int32), x6, x7, x8, x9] []) ∧ Keep h0 h [aC] ∧ own_Any Z h aC kC .boolean (8 : Int32) ∧ Exa Z h aC "[Z") := by
  by_cases hJ : wv = (0 : Int32)
  · exact sg41t l Z az hw hx hby hml hown hZ x0 x1 x2 x3 x4 x6 x7 x8 x9 wv p2 aC kC h0 n0 Z0 V_aC E_aC g_aC hJ hj3 hj4
  · exact sg41f l Z az hw hx hby hml hown hZ x0 x1 x2 x3 x4 x6 x7 x8 x9 wv p2 aC kC h0 n0 Z0 V_aC E_aC g_aC hJ hj3 hj4
theorem d14_0 : decode jdk_65_method_123_code 0 = .ok (.iload_n 1, 1) := by decide +kernel
theorem d14_1 : decode jdk_65_method_123_code 1 = .ok (.aload_n 0, 1) := by decide +kernel
theorem d14_2 : decode jdk_65_method_123_code 2 = .ok (.arraylength, 1) := by decide +kernel
theorem d14_3 : decode jdk_65_method_123_code 3 = .ok (.if_icmp .ne 11, 3) := by decide +kernel
theorem d14_14 : decode jdk_65_method_123_code 14 = .ok (.iload_n 1, 1) := by decide +kernel
theorem d14_15 : decode jdk_65_method_123_code 15 = .ok (.newarray .int, 2) := by decide +kernel
theorem d14_17 : decode jdk_65_method_123_code 17 = .ok (.astore_n 2, 1) := by decide +kernel
theorem d14_18 : decode jdk_65_method_123_code 18 = .ok (.aload_n 0, 1) := by decide +kernel
theorem d14_19 : decode jdk_65_method_123_code 19 = .ok (.iconst 0, 1) := by decide +kernel
theorem d14_20 : decode jdk_65_method_123_code 20 = .ok (.aload_n 2, 1) := by decide +kernel
theorem d14_21 : decode jdk_65_method_123_code 21 = .ok (.iconst 0, 1) := by decide +kernel
theorem d14_22 : decode jdk_65_method_123_code 22 = .ok (.aload_n 0, 1) := by decide +kernel
theorem d14_23 : decode jdk_65_method_123_code 23 = .ok (.arraylength, 1) := by decide +kernel
theorem d14_24 : decode jdk_65_method_123_code 24 = .ok (.iload_n 1, 1) := by decide +kernel
theorem d14_25 : decode jdk_65_method_123_code 25 = .ok (.invokestatic 304, 3) := by decide +kernel
theorem pd_1 : parseMethodDescriptor "(II)I" = some ⟨[.int, .int], some .int⟩ := by decide +kernel
theorem d14_28 : decode jdk_65_method_123_code 28 = .ok (.invokestatic 150, 3) := by decide +kernel
theorem d14_31 : decode jdk_65_method_123_code 31 = .ok (.aload_n 2, 1) := by decide +kernel
theorem d14_32 : decode jdk_65_method_123_code 32 = .ok (.areturn, 1) := by decide +kernel
theorem pn_java_util_Arrays : plainName "java/util/Arrays" = true := by first | (simp [plainName, overriddenIn]; done) | decide +kernel
theorem ef_rm14a (m : MethodId) (a0 : Addr) : entryFrame m #[(.ref a0), (.int (0 : Int32))] 3 = mkF m 0 #[vR a0, vI (0 : Int32), .unset] [] := by first | (simp [entryFrame, mkF, argsToLocals, Value.category]; done) | rfl
def Q14a (Z : State) (a0 : Addr) (kz : ClassId) (v0 : Int32) (h0 : Heap) (n0 : Nat) (v : Option Value) (h : Heap) (L : List Loc) : Prop := ∃ r0 : Addr, ∃ rk0 : ClassId, v = some (.ref r0) ∧ Fr n0 L ∧ h0.size ≤ r0 ∧ Keep h0 h [] ∧ Exa Z h r0 "[I" ∧ Arv Z h r0 rk0 .int (0 : Int32) [] (.int (0 : Int32))
set_option maxRecDepth 65536 in
set_option maxHeartbeats 40000000 in
theorem rm14a (l : Launch) (Z : State) (az : Array Value) (hw : ∀ d ∈ tables_1, d.before az Z = true) (ws : List Jvm.Cond) (a0 : Addr) (kz : ClassId) (v0 : Int32) (h0 : Heap) (n0 : Nat) (Z0 : n0 ≤ h0.size) (V_a0 : Arv Z h0 a0 kz .int (1 : Int32) [(.int v0)] (.int (0 : Int32))) (E_a0 : Exa Z h0 a0 "[I") :
    MetFree l (⟨"java/util/Arrays", "copyOf", "([II)[I"⟩ : MethodName) (head1 (Jvm.Cond.code (⟨"java/util/Arrays", "copyOf", "([II)[I"⟩ : MethodName) jdk_65_method_123_code 3 (some (.array .int)) :: ws) ({ frames := 1, cells := 1, slots := 0, locals := 24 } : Room)) (fun a U => a = #[(.ref a0), (.int (0 : Int32))] ∧ Z.Warmed39 U.vm ∧ U.heap = h0) (fun _ _ _ _ _ => True) (fun _ U o U' => ∃ v L, o = .returned v ∧ Q14a Z a0 kz v0 h0 n0 v U'.heap L ∧ FrameEnd U o U' L ({ frames := 1, cells := 1, slots := 0, locals := 24 } : Room).cells ({ frames := 1, cells := 1, slots := 0, locals := 24 } : Room).slots) := by
  refine MetFree.of_bodySF (plainFor_of_name pn_java_util_Arrays) hisR ?_
  intro p e s m args below meth c s₁ Bd hml0 hP hK
  obtain ⟨rfl, hZ, hh⟩ := hP
  have hx := Bd.exec
  have hby := Bd.bytes
  have hml : c.maxLocals = 3 := hml0
  have hown : s.vm.findClass "java/util/Arrays" = some m.cls := findClass_of_methodNamed Bd.named
  have hnm := (name_of_methodNamed Bd.named Bd.method).1
  have X0 : Stand p l e ({ frames := 1, cells := 1, slots := 0, locals := 24 } : Room) s m #[(.ref a0), (.int (0 : Int32))] below meth c s₁ [] 0 0 := Stand.of_body Bd
  have e0 : s₁.heap = h0 := by rw [← hh, Bd.state]; rfl
  have N0 := Fr.nil n0
  have pre0 : ∀ t, Steps p.tables e below (s₁.setTop (mkF m 0 #[vR a0, vI (0 : Int32), .unset] [])) t → Steps p.tables e below (s₁.setTop (entryFrame m #[(.ref a0), (.int (0 : Int32))] 3)) t := fun t k => castTop (ef_rm14a m a0) k
  obtain ⟨cl1, Ar1, qk1, Sz1, Ng1, Hs1, Gf1⟩ := id V_a0
  obtain ⟨T2, h2, k2, X2, e2, E2, A2, x2, st2⟩ := newPE X0 hx hZ (aty := .int) (w18 hw) e0 (g := (mkF m 15 #[vR a0, vI (0 : Int32), .unset] [(.int (0 : Int32))])) rfl (hb hby d14_15) rfl (by decide) (cap := 0) (by decide) (by decide) (by decide) (by decide) (ad := "[I") (by decide)
  obtain ⟨b2, g2⟩ : ∃ z, z = h0.size := ⟨_, rfl⟩
  rw [← g2] at A2 x2 st2
  have g_b2 : n0 ≤ b2 := Nat.le_trans Z0 (Nat.le_of_eq g2.symm)
  have sz_b2 : h0.size ≤ b2 := Nat.le_trans (Nat.le_refl _) (Nat.le_of_eq g2.symm)
  have Z2 : n0 ≤ h2.size := Nat.le_trans Z0 E2.1
  have K2 : Keep h0 h2 [] := (Keep.refl h0 []).ext E2
  have E_b2 := x2
  have V_b2 : Arv Z h2 b2 k2 .int (0 : Int32) [] (.int (0 : Int32)) := Arv.new A2 (by decide)
  have V_a0_u3 : Arv Z h2 a0 kz .int (1 : Int32) [(.int v0)] (.int (0 : Int32)) := (V_a0.ext E2)
  obtain ⟨cl4, Ar4, qk4, Sz4, Ng4, Hs4, Gf4⟩ := id V_a0_u3
  obtain ⟨_, _, ⟨T5, L5, k5', n5'⟩, -, X5, ⟨Lc5, hQ5, l5, y5, z5⟩, st5⟩ := Jvm.LawKit.callS X2 hx (y := (⟨"java/lang/Math", "min", "(II)I"⟩ : MethodName)) hown (mvT hZ (w83 hw)) (mvT hZ (w84 hw)) (mvT hZ (w85 hw)) (mvT hZ (w86 hw)) (by decide) (backOf (W := 4) (rm15a l Z az hw []  h2 n0 Z2) hZ (w86 hw) (w85 hw) (by decide) (by decide)) (g := (mkF m 25 #[vR a0, vI (0 : Int32), vR b2] [(.int (0 : Int32)), (.int (1 : Int32)), (.int (0 : Int32)), (.ref b2), (.int (0 : Int32)), (.ref a0)])) rfl (by rw [hml]; rfl) (argsL := [(.int (1 : Int32)), (.int (0 : Int32))]) (rest := [(.int (0 : Int32)), (.ref b2), (.int (0 : Int32)), (.ref a0)]) (lenOf pd_1 rfl) rfl (by show 2 * 0 + _ ≤ _; exact Nat.le_of_eq rfl) (hb hby d14_25) (fun _ _ => ⟨rfl, e2, (by decide : 1 + 0 ≤ _), (by decide : 0 + 0 ≤ _)⟩)
  dsimp only [Pt.U, Pt.locs, Pt.cells, Pt.slots] at X5 l5 y5 z5 st5 hQ5
  subst l5 y5 z5
  obtain ⟨rfl, N5q, e5⟩ := hQ5
  obtain ⟨Lg5, X5', N5⟩ := own_gen X5 (Fr.app N0 N5q)
  obtain ⟨T6, h6, L6, X6, e6, N6, kq6, A6, st6⟩ := cpA X5' hx hZ hown (w87 hw) (w90 hw) (w88 hw) (w89 hw) e5 (sp := (0 : Int32)) (dp := (0 : Int32)) (nn := (0 : Int32)) (us := []) V_a0_u3 V_b2 (Or.inl ⟨rfl, rfl⟩) (by decide) (by decide) (by decide) (by decide) (by decide) rfl (Nat.le_of_ble_eq_true rfl) N5 g_b2 (g := (mkF m 28 #[vR a0, vI (0 : Int32), vR b2] [(.int (0 : Int32)), (.int (0 : Int32)), (.ref b2), (.int (0 : Int32)), (.ref a0)])) rfl (by rw [hml]; rfl) rfl (hb hby d14_28) (by decide) (W := 0) (by show 2 * 0 + _ ≤ _; exact Nat.le_of_eq rfl) (by decide)
  have K6 : Keep h0 h6 [] := K2.trans kq6 (allS (Or.inr sz_b2) all0)
  have Z6 : n0 ≤ h6.size := Nat.le_trans Z2 kq6.1
  have V_b2_6 : Arv Z h6 b2 k2 .int (0 : Int32) [] (.int (0 : Int32)) := A6
  have E_b2_u7 : Exa Z h6 b2 "[I" := (E_b2.keep kq6)
  obtain ⟨fs, hr, hrun, hended, hW, hsame⟩ := X6.leave (v := some (.ref b2)) (fun h => by rw [Bd.returns] at h; cases h)
  refine ⟨_, _, pre0 _ ?_, hrun, hended, _, _, rfl, ?_, ⟨_, rfl⟩, hW, hsame.mono (by decide) (by decide)⟩
  · show Steps p.tables e below (s₁.setTop (mkF m 0 #[vR a0, vI (0 : Int32), .unset] [])) _
    refine XS.iloadN X0.here hx rfl (hb hby d14_0) rfl ?_
    refine XS.aloadN X0.here hx rfl (hb hby d14_1) rfl rfl ?_
    show Steps p.tables e below (s₁.setTop (mkF m 2 #[vR a0, vI (0 : Int32), .unset] [(.ref a0), (.int (0 : Int32))])) _
    refine X0.arraylength hx (by rw [e0]; exact Ar1.1) (State.isArrayOf_alike hZ.alike Ar1.2.1) (g := (mkF m 2 #[vR a0, vI (0 : Int32), .unset] [(.ref a0), (.int (0 : Int32))])) rfl rfl (hb hby d14_2) _ ?_
    rw [len_of Sz1 Ng1]
    show Steps p.tables e below (s₁.setTop (mkF m 3 #[vR a0, vI (0 : Int32), .unset] [(.int (1 : Int32)), (.int (0 : Int32))])) _
    refine XS.icmpYes X0.here hx rfl (pc0 := 3) (pc' := 14) rfl (hb hby d14_3) rfl (feq (by decide : ¬ ((0 : Int32) = (1 : Int32)))).2 (by decide) (by decide) ?_
    refine XS.iloadN X0.here hx rfl (hb hby d14_14) rfl ?_
    show Steps p.tables e below (s₁.setTop (mkF m 15 #[vR a0, vI (0 : Int32), .unset] [(.int (0 : Int32))])) _
    refine st2 _ ?_
    show Steps p.tables e below (T2.setTop (mkF m 17 #[vR a0, vI (0 : Int32), .unset] [(.ref b2)])) _
    refine XS.astoreN X2.here hx rfl (hb hby d14_17) rfl rfl (l' := #[vR a0, vI (0 : Int32), vR b2]) rfl ?_
    refine XS.aloadN X2.here hx rfl (hb hby d14_18) rfl rfl ?_
    refine XS.iconst X2.here hx rfl (hb hby d14_19) ?_
    refine XS.aloadN X2.here hx rfl (hb hby d14_20) rfl rfl ?_
    refine XS.iconst X2.here hx rfl (hb hby d14_21) ?_
    refine XS.aloadN X2.here hx rfl (hb hby d14_22) rfl rfl ?_
    show Steps p.tables e below (T2.setTop (mkF m 23 #[vR a0, vI (0 : Int32), vR b2] [(.ref a0), (.int (0 : Int32)), (.ref b2), (.int (0 : Int32)), (.ref a0)])) _
    refine X2.arraylength hx (by rw [e2]; exact Ar4.1) (State.isArrayOf_alike hZ.alike Ar4.2.1) (g := (mkF m 23 #[vR a0, vI (0 : Int32), vR b2] [(.ref a0), (.int (0 : Int32)), (.ref b2), (.int (0 : Int32)), (.ref a0)])) rfl rfl (hb hby d14_23) _ ?_
    rw [len_of Sz4 Ng4]
    show Steps p.tables e below (T2.setTop (mkF m 24 #[vR a0, vI (0 : Int32), vR b2] [(.int (1 : Int32)), (.int (0 : Int32)), (.ref b2), (.int (0 : Int32)), (.ref a0)])) _
    refine XS.iloadN X2.here hx rfl (hb hby d14_24) rfl ?_
    show Steps p.tables e below (T2.setTop (mkF m 25 #[vR a0, vI (0 : Int32), vR b2] [(.int (0 : Int32)), (.int (1 : Int32)), (.int (0 : Int32)), (.ref b2), (.int (0 : Int32)), (.ref a0)])) _
    refine st5 _ ?_
    show Steps p.tables e below (T5.setTop (mkF m 28 #[vR a0, vI (0 : Int32), vR b2] [(.int (0 : Int32)), (.int (0 : Int32)), (.ref b2), (.int (0 : Int32)), (.ref a0)])) _
    refine st6 _ ?_
    show Steps p.tables e below (T6.setTop (mkF m 31 #[vR a0, vI (0 : Int32), vR b2] [])) _
    refine XS.aloadN X6.here hx rfl (hb hby d14_31) rfl rfl ?_
    show Steps p.tables e below (T6.setTop (mkF m 32 #[vR a0, vI (0 : Int32), vR b2] [(.ref b2)])) _
    jvm_step X6.here [X6.here.top, hx, (hb hby d14_32), X6.method', Bd.returns, Value.isRef, FieldType.isReference]
    first | (intro acts; rw [hr _ acts rfl rfl rfl]) | rw [hr _ _ rfl rfl rfl]
    exact Steps.refl _
  · show Q14a Z a0 kz v0 h0 n0 _ T6.heap _
    rw [e6]
    exact ⟨b2, k2, rfl, N6, sz_b2, K6, E_b2_u7, V_b2_6⟩
theorem ef_rm14b (m : MethodId) (a0 : Addr) : entryFrame m #[(.ref a0), (.int (1 : Int32))] 3 = mkF m 0 #[vR a0, vI (1 : Int32), .unset] [] := by first | (simp [entryFrame, mkF, argsToLocals, Value.category]; done) | rfl
def Q14b (Z : State) (a0 : Addr) (kz : ClassId) (v0 : Int32) (v1 : Int32) (h0 : Heap) (n0 : Nat) (v : Option Value) (h : Heap) (L : List Loc) : Prop := ∃ r0 : Addr, ∃ rk0 : ClassId, v = some (.ref r0) ∧ Fr n0 L ∧ h0.size ≤ r0 ∧ Keep h0 h [] ∧ Exa Z h r0 "[I" ∧ Arv Z h r0 rk0 .int (1 : Int32) [(.int v0)] (.int (0 : Int32))
set_option maxRecDepth 65536 in
set_option maxHeartbeats 40000000 in
theorem rm14b (l : Launch) (Z : State) (az : Array Value) (hw : ∀ d ∈ tables_1, d.before az Z = true) (ws : List Jvm.Cond) (a0 : Addr) (kz : ClassId) (v0 : Int32) (v1 : Int32) (h0 : Heap) (n0 : Nat) (Z0 : n0 ≤ h0.size) (V_a0 : Arv Z h0 a0 kz .int (2 : Int32) [(.int v0), (.int v1)] (.int (0 : Int32))) (E_a0 : Exa Z h0 a0 "[I") :
    MetFree l (⟨"java/util/Arrays", "copyOf", "([II)[I"⟩ : MethodName) (head1 (Jvm.Cond.code (⟨"java/util/Arrays", "copyOf", "([II)[I"⟩ : MethodName) jdk_65_method_123_code 3 (some (.array .int)) :: ws) ({ frames := 1, cells := 1, slots := 1, locals := 24 } : Room)) (fun a U => a = #[(.ref a0), (.int (1 : Int32))] ∧ Z.Warmed39 U.vm ∧ U.heap = h0) (fun _ _ _ _ _ => True) (fun _ U o U' => ∃ v L, o = .returned v ∧ Q14b Z a0 kz v0 v1 h0 n0 v U'.heap L ∧ FrameEnd U o U' L ({ frames := 1, cells := 1, slots := 1, locals := 24 } : Room).cells ({ frames := 1, cells := 1, slots := 1, locals := 24 } : Room).slots) := by
  refine MetFree.of_bodySF (plainFor_of_name pn_java_util_Arrays) hisR ?_
  intro p e s m args below meth c s₁ Bd hml0 hP hK
  obtain ⟨rfl, hZ, hh⟩ := hP
  have hx := Bd.exec
  have hby := Bd.bytes
  have hml : c.maxLocals = 3 := hml0
  have hown : s.vm.findClass "java/util/Arrays" = some m.cls := findClass_of_methodNamed Bd.named
  have hnm := (name_of_methodNamed Bd.named Bd.method).1
  have X0 : Stand p l e ({ frames := 1, cells := 1, slots := 1, locals := 24 } : Room) s m #[(.ref a0), (.int (1 : Int32))] below meth c s₁ [] 0 0 := Stand.of_body Bd
  have e0 : s₁.heap = h0 := by rw [← hh, Bd.state]; rfl
  have N0 := Fr.nil n0
  have pre0 : ∀ t, Steps p.tables e below (s₁.setTop (mkF m 0 #[vR a0, vI (1 : Int32), .unset] [])) t → Steps p.tables e below (s₁.setTop (entryFrame m #[(.ref a0), (.int (1 : Int32))] 3)) t := fun t k => castTop (ef_rm14b m a0) k
  obtain ⟨cl1, Ar1, qk1, Sz1, Ng1, Hs1, Gf1⟩ := id V_a0
  obtain ⟨T2, h2, k2, X2, e2, E2, A2, x2, st2⟩ := newPE X0 hx hZ (aty := .int) (w18 hw) e0 (g := (mkF m 15 #[vR a0, vI (1 : Int32), .unset] [(.int (1 : Int32))])) rfl (hb hby d14_15) rfl (by decide) (cap := 1) (by decide) (by decide) (by decide) (by decide) (ad := "[I") (by decide)
  obtain ⟨b2, g2⟩ : ∃ z, z = h0.size := ⟨_, rfl⟩
  rw [← g2] at A2 x2 st2
  have g_b2 : n0 ≤ b2 := Nat.le_trans Z0 (Nat.le_of_eq g2.symm)
  have sz_b2 : h0.size ≤ b2 := Nat.le_trans (Nat.le_refl _) (Nat.le_of_eq g2.symm)
  have Z2 : n0 ≤ h2.size := Nat.le_trans Z0 E2.1
  have K2 : Keep h0 h2 [] := (Keep.refl h0 []).ext E2
  have E_b2 := x2
  have V_b2 : Arv Z h2 b2 k2 .int (1 : Int32) [(.int (0 : Int32))] (.int (0 : Int32)) := (Arv.new A2 (by decide)).pad (pad_rep [] (.int (0 : Int32)) 1)
  have V_a0_u3 : Arv Z h2 a0 kz .int (2 : Int32) [(.int v0), (.int v1)] (.int (0 : Int32)) := (V_a0.ext E2)
  obtain ⟨cl4, Ar4, qk4, Sz4, Ng4, Hs4, Gf4⟩ := id V_a0_u3
  obtain ⟨_, _, ⟨T5, L5, k5', n5'⟩, -, X5, ⟨Lc5, hQ5, l5, y5, z5⟩, st5⟩ := Jvm.LawKit.callS X2 hx (y := (⟨"java/lang/Math", "min", "(II)I"⟩ : MethodName)) hown (mvT hZ (w83 hw)) (mvT hZ (w84 hw)) (mvT hZ (w85 hw)) (mvT hZ (w86 hw)) (by decide) (backOf (W := 4) (rm15b l Z az hw []  h2 n0 Z2) hZ (w86 hw) (w85 hw) (by decide) (by decide)) (g := (mkF m 25 #[vR a0, vI (1 : Int32), vR b2] [(.int (1 : Int32)), (.int (2 : Int32)), (.int (0 : Int32)), (.ref b2), (.int (0 : Int32)), (.ref a0)])) rfl (by rw [hml]; rfl) (argsL := [(.int (2 : Int32)), (.int (1 : Int32))]) (rest := [(.int (0 : Int32)), (.ref b2), (.int (0 : Int32)), (.ref a0)]) (lenOf pd_1 rfl) rfl (by show 2 * 0 + _ ≤ _; exact Nat.le_of_eq rfl) (hb hby d14_25) (fun _ _ => ⟨rfl, e2, (by decide : 1 + 0 ≤ _), (by decide : 1 + 0 ≤ _)⟩)
  dsimp only [Pt.U, Pt.locs, Pt.cells, Pt.slots] at X5 l5 y5 z5 st5 hQ5
  subst l5 y5 z5
  obtain ⟨rfl, N5q, e5⟩ := hQ5
  obtain ⟨Lg5, X5', N5⟩ := own_gen X5 (Fr.app N0 N5q)
  obtain ⟨T6, h6, L6, X6, e6, N6, kq6, A6, st6⟩ := cpA X5' hx hZ hown (w87 hw) (w90 hw) (w88 hw) (w89 hw) e5 (sp := (0 : Int32)) (dp := (0 : Int32)) (nn := (1 : Int32)) (us := [(.int v0)]) V_a0_u3 V_b2 (Or.inl ⟨rfl, rfl⟩) (by decide) (by decide) (by decide) (by decide) (by decide) rfl (Nat.le_of_ble_eq_true rfl) N5 g_b2 (g := (mkF m 28 #[vR a0, vI (1 : Int32), vR b2] [(.int (1 : Int32)), (.int (0 : Int32)), (.ref b2), (.int (0 : Int32)), (.ref a0)])) rfl (by rw [hml]; rfl) rfl (hb hby d14_28) (by decide) (W := 0) (by show 2 * 0 + _ ≤ _; exact Nat.le_of_eq rfl) (by decide)
  have K6 : Keep h0 h6 [] := K2.trans kq6 (allS (Or.inr sz_b2) all0)
  have Z6 : n0 ≤ h6.size := Nat.le_trans Z2 kq6.1
  have V_b2_6 : Arv Z h6 b2 k2 .int (1 : Int32) [(.int v0)] (.int (0 : Int32)) := A6
  have E_b2_u7 : Exa Z h6 b2 "[I" := (E_b2.keep kq6)
  obtain ⟨fs, hr, hrun, hended, hW, hsame⟩ := X6.leave (v := some (.ref b2)) (fun h => by rw [Bd.returns] at h; cases h)
  refine ⟨_, _, pre0 _ ?_, hrun, hended, _, _, rfl, ?_, ⟨_, rfl⟩, hW, hsame.mono (by decide) (by decide)⟩
  · show Steps p.tables e below (s₁.setTop (mkF m 0 #[vR a0, vI (1 : Int32), .unset] [])) _
    refine XS.iloadN X0.here hx rfl (hb hby d14_0) rfl ?_
    refine XS.aloadN X0.here hx rfl (hb hby d14_1) rfl rfl ?_
    show Steps p.tables e below (s₁.setTop (mkF m 2 #[vR a0, vI (1 : Int32), .unset] [(.ref a0), (.int (1 : Int32))])) _
    refine X0.arraylength hx (by rw [e0]; exact Ar1.1) (State.isArrayOf_alike hZ.alike Ar1.2.1) (g := (mkF m 2 #[vR a0, vI (1 : Int32), .unset] [(.ref a0), (.int (1 : Int32))])) rfl rfl (hb hby d14_2) _ ?_
    rw [len_of Sz1 Ng1]
    show Steps p.tables e below (s₁.setTop (mkF m 3 #[vR a0, vI (1 : Int32), .unset] [(.int (2 : Int32)), (.int (1 : Int32))])) _
    refine XS.icmpYes X0.here hx rfl (pc0 := 3) (pc' := 14) rfl (hb hby d14_3) rfl (feq (by decide : ¬ ((1 : Int32) = (2 : Int32)))).2 (by decide) (by decide) ?_
    refine XS.iloadN X0.here hx rfl (hb hby d14_14) rfl ?_
    show Steps p.tables e below (s₁.setTop (mkF m 15 #[vR a0, vI (1 : Int32), .unset] [(.int (1 : Int32))])) _
    refine st2 _ ?_
    show Steps p.tables e below (T2.setTop (mkF m 17 #[vR a0, vI (1 : Int32), .unset] [(.ref b2)])) _
    refine XS.astoreN X2.here hx rfl (hb hby d14_17) rfl rfl (l' := #[vR a0, vI (1 : Int32), vR b2]) rfl ?_
    refine XS.aloadN X2.here hx rfl (hb hby d14_18) rfl rfl ?_
    refine XS.iconst X2.here hx rfl (hb hby d14_19) ?_
    refine XS.aloadN X2.here hx rfl (hb hby d14_20) rfl rfl ?_
    refine XS.iconst X2.here hx rfl (hb hby d14_21) ?_
    refine XS.aloadN X2.here hx rfl (hb hby d14_22) rfl rfl ?_
    show Steps p.tables e below (T2.setTop (mkF m 23 #[vR a0, vI (1 : Int32), vR b2] [(.ref a0), (.int (0 : Int32)), (.ref b2), (.int (0 : Int32)), (.ref a0)])) _
    refine X2.arraylength hx (by rw [e2]; exact Ar4.1) (State.isArrayOf_alike hZ.alike Ar4.2.1) (g := (mkF m 23 #[vR a0, vI (1 : Int32), vR b2] [(.ref a0), (.int (0 : Int32)), (.ref b2), (.int (0 : Int32)), (.ref a0)])) rfl rfl (hb hby d14_23) _ ?_
    rw [len_of Sz4 Ng4]
    show Steps p.tables e below (T2.setTop (mkF m 24 #[vR a0, vI (1 : Int32), vR b2] [(.int (2 : Int32)), (.int (0 : Int32)), (.ref b2), (.int (0 : Int32)), (.ref a0)])) _
    refine XS.iloadN X2.here hx rfl (hb hby d14_24) rfl ?_
    show Steps p.tables e below (T2.setTop (mkF m 25 #[vR a0, vI (1 : Int32), vR b2] [(.int (1 : Int32)), (.int (2 : Int32)), (.int (0 : Int32)), (.ref b2), (.int (0 : Int32)), (.ref a0)])) _
    refine st5 _ ?_
    show Steps p.tables e below (T5.setTop (mkF m 28 #[vR a0, vI (1 : Int32), vR b2] [(.int (1 : Int32)), (.int (0 : Int32)), (.ref b2), (.int (0 : Int32)), (.ref a0)])) _
    refine st6 _ ?_
    show Steps p.tables e below (T6.setTop (mkF m 31 #[vR a0, vI (1 : Int32), vR b2] [])) _
    refine XS.aloadN X6.here hx rfl (hb hby d14_31) rfl rfl ?_
    show Steps p.tables e below (T6.setTop (mkF m 32 #[vR a0, vI (1 : Int32), vR b2] [(.ref b2)])) _
    jvm_step X6.here [X6.here.top, hx, (hb hby d14_32), X6.method', Bd.returns, Value.isRef, FieldType.isReference]
    first | (intro acts; rw [hr _ acts rfl rfl rfl]) | rw [hr _ _ rfl rfl rfl]
    exact Steps.refl _
  · show Q14b Z a0 kz v0 v1 h0 n0 _ T6.heap _
    rw [e6]
    exact ⟨b2, k2, rfl, N6, sz_b2, K6, E_b2_u7, V_b2_6⟩
theorem d13_0 : decode prog_21_method_13_code 0 = .ok (.aload_n 1, 1) := by decide +kernel
theorem d13_1 : decode prog_21_method_13_code 1 = .ok (.arraylength, 1) := by decide +kernel
theorem d13_2 : decode prog_21_method_13_code 2 = .ok (.newarray .int, 2) := by decide +kernel
theorem d13_4 : decode prog_21_method_13_code 4 = .ok (.astore 4, 2) := by decide +kernel
theorem d13_6 : decode prog_21_method_13_code 6 = .ok (.iconst 0, 1) := by decide +kernel
theorem d13_7 : decode prog_21_method_13_code 7 = .ok (.istore 5, 2) := by decide +kernel
theorem d13_9 : decode prog_21_method_13_code 9 = .ok (.aload_n 1, 1) := by decide +kernel
theorem d13_10 : decode prog_21_method_13_code 10 = .ok (.astore 6, 2) := by decide +kernel
theorem d13_12 : decode prog_21_method_13_code 12 = .ok (.aload 6, 2) := by decide +kernel
theorem d13_14 : decode prog_21_method_13_code 14 = .ok (.arraylength, 1) := by decide +kernel
theorem d13_15 : decode prog_21_method_13_code 15 = .ok (.istore 7, 2) := by decide +kernel
theorem d13_17 : decode prog_21_method_13_code 17 = .ok (.iconst 0, 1) := by decide +kernel
theorem d13_18 : decode prog_21_method_13_code 18 = .ok (.istore 8, 2) := by decide +kernel
theorem d13_20 : decode prog_21_method_13_code 20 = .ok (.iload 8, 2) := by decide +kernel
theorem d13_22 : decode prog_21_method_13_code 22 = .ok (.iload 7, 2) := by decide +kernel
theorem d13_24 : decode prog_21_method_13_code 24 = .ok (.if_icmp .ge 69, 3) := by decide +kernel
theorem d13_93 : decode prog_21_method_13_code 93 = .ok (.iload 5, 2) := by decide +kernel
theorem d13_95 : decode prog_21_method_13_code 95 = .ok (.aload_n 1, 1) := by decide +kernel
theorem d13_96 : decode prog_21_method_13_code 96 = .ok (.arraylength, 1) := by decide +kernel
theorem d13_97 : decode prog_21_method_13_code 97 = .ok (.if_icmp .ge 60, 3) := by decide +kernel
theorem d13_157 : decode prog_21_method_13_code 157 = .ok (.return_, 1) := by decide +kernel
theorem ef_rm13A (m : MethodId) (a0 : Addr) (a1 : Addr) (p2 : Int32) (a3 : Addr) : entryFrame m #[(.ref a0), (.ref a1), (.int p2), (.ref a3)] 10 = mkF m 0 #[vR a0, vR a1, vI p2, vR a3, .unset, .unset, .unset, .unset, .unset, .unset] [] := by first | (simp [entryFrame, mkF, argsToLocals, Value.category]; done) | rfl
def Q13A (Z : State) (a0 : Addr) (a1 : Addr) (p2 : Int32) (a3 : Addr) (lc : Int32) (rc : Int32) (rem : Int32) (aP : Addr) (kP : ClassId) (fP : Nat → Value) (aC : Addr) (kC : ClassId) (aK : Addr) (kK : ClassId) (nK : Int32) (aO : Addr) (kO : ClassId) (aN : Addr) (k1 : ClassId) (k3 : ClassId) (nL : Int32) (fL : Nat → Value) (h0 : Heap) (n0 : Nat) (v : Option Value) (h : Heap) (L : List Loc) : Prop := v = none ∧ Fr n0 L ∧ Keep h0 h []
set_option maxRecDepth 65536 in
set_option maxHeartbeats 40000000 in
theorem rm13A (l : Launch) (Z : State) (az : Array Value) (hw : ∀ d ∈ tables_1, d.before az Z = true) (ws : List Jvm.Cond) (a0 : Addr) (a1 : Addr) (p2 : Int32) (a3 : Addr) (lc : Int32) (rc : Int32) (rem : Int32) (aP : Addr) (kP : ClassId) (fP : Nat → Value) (aC : Addr) (kC : ClassId) (aK : Addr) (kK : ClassId) (nK : Int32) (aO : Addr) (kO : ClassId) (aN : Addr) (k1 : ClassId) (k3 : ClassId) (nL : Int32) (fL : Nat → Value) (h0 : Heap) (n0 : Nat) (Z0 : n0 ≤ h0.size) (E_a0 : Exa Z h0 a0 cCV) (F_labelCount_a0 : Fld Z h0 a0 cCV "labelCount" "I" (.int lc)) (F_rowCount_a0 : Fld Z h0 a0 cCV "rowCount" "I" (.int rc)) (F_pairsShared_a0 : Fld Z h0 a0 cCV "pairsShared" "Z" (.int (0 : Int32))) (F_remainingCount_a0 : Fld Z h0 a0 cCV "remainingCount" "I" (.int rem)) (F_openPairs_a0 : Fld Z h0 a0 cCV "openPairs" "[[I" (.ref aP)) (V_aP : own_Arf Z h0 aP kP (.array .int) (8 : Int32) fP) (E_aP : Exa Z h0 aP "[[I") (F_covered_a0 : Fld Z h0 a0 cCV "covered" "[Z" (.ref aC)) (V_aC : own_Any Z h0 aC kC .boolean (8 : Int32)) (E_aC : Exa Z h0 aC "[Z") (F_coveredCounts_a0 : Fld Z h0 a0 cCV "coveredCounts" "[I" (.ref aK)) (V_aK : own_Any Z h0 aK kK .int nK) (E_aK : Exa Z h0 aK "[I") (F_openCounts_a0 : Fld Z h0 a0 cCV "openCounts" "[I" (.ref aO)) (V_aO : own_Any Z h0 aO kO .int nK) (E_aO : Exa Z h0 aO "[I") (F_ones_a0 : Fld Z h0 a0 cCV "ones" "[I" (.ref aN)) (O_kP : OvrA Z kP .int "[I") (V_a1 : Arv Z h0 a1 k1 .int (0 : Int32) [] (.int (0 : Int32))) (E_a1 : Exa Z h0 a1 "[I") (V_a3 : own_Arf Z h0 a3 k3 .boolean nL fL) (E_a3 : Exa Z h0 a3 "[Z") :
    MetFree l (⟨cCV, "settle", "([II[Z)V"⟩ : MethodName) (head1 (Jvm.Cond.code (⟨cCV, "settle", "([II[Z)V"⟩ : MethodName) prog_21_method_13_code 10 none :: ws) ({ frames := 2, cells := 2, slots := 3, locals := 80 } : Room)) (fun a U => a = #[(.ref a0), (.ref a1), (.int p2), (.ref a3)] ∧ Z.Warmed39 U.vm ∧ U.heap = h0) (fun _ _ _ _ _ => True) (fun _ U o U' => ∃ v L, o = .returned v ∧ Q13A Z a0 a1 p2 a3 lc rc rem aP kP fP aC kC aK kK nK aO kO aN k1 k3 nL fL h0 n0 v U'.heap L ∧ FrameEnd U o U' L ({ frames := 2, cells := 2, slots := 3, locals := 80 } : Room).cells ({ frames := 2, cells := 2, slots := 3, locals := 80 } : Room).slots) := by
  refine MetFree.of_bodySF (plainFor_of_name pn_com_example_headlattice_headlattice_learn_Coverage) hisR ?_
  intro p e s m args below meth c s₁ Bd hml0 hP hK
  obtain ⟨rfl, hZ, hh⟩ := hP
  have hx := Bd.exec
  have hby := Bd.bytes
  have hml : c.maxLocals = 10 := hml0
  have hown : s.vm.findClass cCV = some m.cls := findClass_of_methodNamed Bd.named
  have hnm := (name_of_methodNamed Bd.named Bd.method).1
  have X0 : Stand p l e ({ frames := 2, cells := 2, slots := 3, locals := 80 } : Room) s m #[(.ref a0), (.ref a1), (.int p2), (.ref a3)] below meth c s₁ [] 0 0 := Stand.of_body Bd
  have e0 : s₁.heap = h0 := by rw [← hh, Bd.state]; rfl
  have N0 := Fr.nil n0
  have pre0 : ∀ t, Steps p.tables e below (s₁.setTop (mkF m 0 #[vR a0, vR a1, vI p2, vR a3, .unset, .unset, .unset, .unset, .unset, .unset] [])) t → Steps p.tables e below (s₁.setTop (entryFrame m #[(.ref a0), (.ref a1), (.int p2), (.ref a3)] 10)) t := fun t k => castTop (ef_rm13A m a0 a1 p2 a3) k
  obtain ⟨cl1, Ar1, qk1, Sz1, Ng1, Hs1, Gf1⟩ := id V_a1
  obtain ⟨T2, h2, k2, X2, e2, E2, A2, x2, st2⟩ := newPE X0 hx hZ (aty := .int) (w18 hw) e0 (g := (mkF m 2 #[vR a0, vR a1, vI p2, vR a3, .unset, .unset, .unset, .unset, .unset, .unset] [(.int (0 : Int32))])) rfl (hb hby d13_2) rfl (by decide) (cap := 0) (by decide) (by decide) (by decide) (by decide) (ad := "[I") (by decide)
  obtain ⟨b2, g2⟩ : ∃ z, z = h0.size := ⟨_, rfl⟩
  rw [← g2] at A2 x2 st2
  have g_b2 : n0 ≤ b2 := Nat.le_trans Z0 (Nat.le_of_eq g2.symm)
  have sz_b2 : h0.size ≤ b2 := Nat.le_trans (Nat.le_refl _) (Nat.le_of_eq g2.symm)
  have Z2 : n0 ≤ h2.size := Nat.le_trans Z0 E2.1
  have K2 : Keep h0 h2 [] := (Keep.refl h0 []).ext E2
  have E_b2 := x2
  have V_b2 : Arv Z h2 b2 k2 .int (0 : Int32) [] (.int (0 : Int32)) := Arv.new A2 (by decide)
  have V_a1_u3 : Arv Z h2 a1 k1 .int (0 : Int32) [] (.int (0 : Int32)) := (V_a1.ext E2)
  obtain ⟨cl4, Ar4, qk4, Sz4, Ng4, Hs4, Gf4⟩ := id V_a1_u3
  obtain ⟨fs, hr, hrun, hended, hW, hsame⟩ := X2.leave (v := none) (fun _ => rfl)
  refine ⟨_, _, pre0 _ ?_, hrun, hended, _, _, rfl, ?_, ⟨_, rfl⟩, hW, hsame.mono (by decide) (by decide)⟩
  · show Steps p.tables e below (s₁.setTop (mkF m 0 #[vR a0, vR a1, vI p2, vR a3, .unset, .unset, .unset, .unset, .unset, .unset] [])) _
    refine XS.aloadN X0.here hx rfl (hb hby d13_0) rfl rfl ?_
    show Steps p.tables e below (s₁.setTop (mkF m 1 #[vR a0, vR a1, vI p2, vR a3, .unset, .unset, .unset, .unset, .unset, .unset] [(.ref a1)])) _
    refine X0.arraylength hx (by rw [e0]; exact Ar1.1) (State.isArrayOf_alike hZ.alike Ar1.2.1) (g := (mkF m 1 #[vR a0, vR a1, vI p2, vR a3, .unset, .unset, .unset, .unset, .unset, .unset] [(.ref a1)])) rfl rfl (hb hby d13_1) _ ?_
    rw [len_of Sz1 Ng1]
    show Steps p.tables e below (s₁.setTop (mkF m 2 #[vR a0, vR a1, vI p2, vR a3, .unset, .unset, .unset, .unset, .unset, .unset] [(.int (0 : Int32))])) _
    refine st2 _ ?_
    show Steps p.tables e below (T2.setTop (mkF m 4 #[vR a0, vR a1, vI p2, vR a3, .unset, .unset, .unset, .unset, .unset, .unset] [(.ref b2)])) _
    refine XS.astore X2.here hx rfl (hb hby d13_4) rfl rfl (l' := #[vR a0, vR a1, vI p2, vR a3, vR b2, .unset, .unset, .unset, .unset, .unset]) rfl ?_
    refine XS.iconst X2.here hx rfl (hb hby d13_6) ?_
    refine XS.istore X2.here hx rfl (hb hby d13_7) rfl (l' := #[vR a0, vR a1, vI p2, vR a3, vR b2, vI (0 : Int32), .unset, .unset, .unset, .unset]) rfl ?_
    refine XS.aloadN X2.here hx rfl (hb hby d13_9) rfl rfl ?_
    refine XS.astore X2.here hx rfl (hb hby d13_10) rfl rfl (l' := #[vR a0, vR a1, vI p2, vR a3, vR b2, vI (0 : Int32), vR a1, .unset, .unset, .unset]) rfl ?_
    refine XS.aload X2.here hx rfl (hb hby d13_12) rfl rfl ?_
    show Steps p.tables e below (T2.setTop (mkF m 14 #[vR a0, vR a1, vI p2, vR a3, vR b2, vI (0 : Int32), vR a1, .unset, .unset, .unset] [(.ref a1)])) _
    refine X2.arraylength hx (by rw [e2]; exact Ar4.1) (State.isArrayOf_alike hZ.alike Ar4.2.1) (g := (mkF m 14 #[vR a0, vR a1, vI p2, vR a3, vR b2, vI (0 : Int32), vR a1, .unset, .unset, .unset] [(.ref a1)])) rfl rfl (hb hby d13_14) _ ?_
    rw [len_of Sz4 Ng4]
    show Steps p.tables e below (T2.setTop (mkF m 15 #[vR a0, vR a1, vI p2, vR a3, vR b2, vI (0 : Int32), vR a1, .unset, .unset, .unset] [(.int (0 : Int32))])) _
    refine XS.istore X2.here hx rfl (hb hby d13_15) rfl (l' := #[vR a0, vR a1, vI p2, vR a3, vR b2, vI (0 : Int32), vR a1, vI (0 : Int32), .unset, .unset]) rfl ?_
    refine XS.iconst X2.here hx rfl (hb hby d13_17) ?_
    refine XS.istore X2.here hx rfl (hb hby d13_18) rfl (l' := #[vR a0, vR a1, vI p2, vR a3, vR b2, vI (0 : Int32), vR a1, vI (0 : Int32), vI (0 : Int32), .unset]) rfl ?_
    refine XS.iload X2.here hx rfl (hb hby d13_20) rfl ?_
    refine XS.iload X2.here hx rfl (hb hby d13_22) rfl ?_
    refine XS.icmpYes X2.here hx rfl (pc0 := 24) (pc' := 93) rfl (hb hby d13_24) rfl (flt (by decide : ¬ ((0 : Int32) < (0 : Int32)))).2.1 (by decide) (by decide) ?_
    refine XS.iload X2.here hx rfl (hb hby d13_93) rfl ?_
    refine XS.aloadN X2.here hx rfl (hb hby d13_95) rfl rfl ?_
    show Steps p.tables e below (T2.setTop (mkF m 96 #[vR a0, vR a1, vI p2, vR a3, vR b2, vI (0 : Int32), vR a1, vI (0 : Int32), vI (0 : Int32), .unset] [(.ref a1), (.int (0 : Int32))])) _
    refine X2.arraylength hx (by rw [e2]; exact Ar4.1) (State.isArrayOf_alike hZ.alike Ar4.2.1) (g := (mkF m 96 #[vR a0, vR a1, vI p2, vR a3, vR b2, vI (0 : Int32), vR a1, vI (0 : Int32), vI (0 : Int32), .unset] [(.ref a1), (.int (0 : Int32))])) rfl rfl (hb hby d13_96) _ ?_
    rw [len_of Sz4 Ng4]
    show Steps p.tables e below (T2.setTop (mkF m 97 #[vR a0, vR a1, vI p2, vR a3, vR b2, vI (0 : Int32), vR a1, vI (0 : Int32), vI (0 : Int32), .unset] [(.int (0 : Int32)), (.int (0 : Int32))])) _
    refine XS.icmpYes X2.here hx rfl (pc0 := 97) (pc' := 157) rfl (hb hby d13_97) rfl (flt (by decide : ¬ ((0 : Int32) < (0 : Int32)))).2.1 (by decide) (by decide) ?_
    show Steps p.tables e below (T2.setTop (mkF m 157 #[vR a0, vR a1, vI p2, vR a3, vR b2, vI (0 : Int32), vR a1, vI (0 : Int32), vI (0 : Int32), .unset] [])) _
    exact X2.returnOut hx Bd.returns (hb hby d13_157) hr
  · show Q13A Z a0 a1 p2 a3 lc rc rem aP kP fP aC kC aK kK nK aO kO aN k1 k3 nL fL h0 n0 _ T2.heap _
    rw [e2]
    exact ⟨rfl, N0, K2⟩
theorem d13_27 : decode prog_21_method_13_code 27 = .ok (.aload 6, 2) := by decide +kernel
theorem d13_29 : decode prog_21_method_13_code 29 = .ok (.iload 8, 2) := by decide +kernel
theorem d13_31 : decode prog_21_method_13_code 31 = .ok (.iaload, 1) := by decide +kernel
theorem d13_32 : decode prog_21_method_13_code 32 = .ok (.istore 9, 2) := by decide +kernel
theorem d13_34 : decode prog_21_method_13_code 34 = .ok (.aload_n 3, 1) := by decide +kernel
theorem d13_35 : decode prog_21_method_13_code 35 = .ok (.iload 9, 2) := by decide +kernel
theorem d13_37 : decode prog_21_method_13_code 37 = .ok (.iconst 2, 1) := by decide +kernel
theorem d13_38 : decode prog_21_method_13_code 38 = .ok (.idiv, 1) := by decide +kernel
theorem d13_39 : decode prog_21_method_13_code 39 = .ok (.baload, 1) := by decide +kernel
theorem d13_40 : decode prog_21_method_13_code 40 = .ok (.ifCond .eq 37, 3) := by decide +kernel
theorem d13_43 : decode prog_21_method_13_code 43 = .ok (.aload_n 0, 1) := by decide +kernel
theorem d13_44 : decode prog_21_method_13_code 44 = .ok (.getfield 35, 3) := by decide +kernel
theorem d13_47 : decode prog_21_method_13_code 47 = .ok (.iload 9, 2) := by decide +kernel
theorem d13_49 : decode prog_21_method_13_code 49 = .ok (.dup2, 1) := by decide +kernel
theorem d13_50 : decode prog_21_method_13_code 50 = .ok (.iaload, 1) := by decide +kernel
theorem d13_51 : decode prog_21_method_13_code 51 = .ok (.iconst 1, 1) := by decide +kernel
theorem d13_52 : decode prog_21_method_13_code 52 = .ok (.isub, 1) := by decide +kernel
theorem d13_53 : decode prog_21_method_13_code 53 = .ok (.iastore, 1) := by decide +kernel
theorem d13_54 : decode prog_21_method_13_code 54 = .ok (.aload_n 0, 1) := by decide +kernel
theorem d13_55 : decode prog_21_method_13_code 55 = .ok (.getfield 28, 3) := by decide +kernel
theorem d13_58 : decode prog_21_method_13_code 58 = .ok (.iload_n 2, 1) := by decide +kernel
theorem d13_59 : decode prog_21_method_13_code 59 = .ok (.baload, 1) := by decide +kernel
theorem d13_87 : decode prog_21_method_13_code 87 = .ok (.iinc 8 1, 3) := by decide +kernel
theorem d13_90 : decode prog_21_method_13_code 90 = .ok (.goto (-70), 3) := by decide +kernel
theorem d13_100 : decode prog_21_method_13_code 100 = .ok (.aload_n 0, 1) := by decide +kernel
theorem d13_101 : decode prog_21_method_13_code 101 = .ok (.invokevirtual 74, 3) := by decide +kernel
theorem d13_104 : decode prog_21_method_13_code 104 = .ok (.aload_n 0, 1) := by decide +kernel
theorem d13_105 : decode prog_21_method_13_code 105 = .ok (.getfield 24, 3) := by decide +kernel
theorem d13_108 : decode prog_21_method_13_code 108 = .ok (.iload_n 2, 1) := by decide +kernel
theorem d13_109 : decode prog_21_method_13_code 109 = .ok (.aload 4, 2) := by decide +kernel
theorem d13_111 : decode prog_21_method_13_code 111 = .ok (.iload 5, 2) := by decide +kernel
theorem d13_113 : decode prog_21_method_13_code 113 = .ok (.invokestatic 126, 3) := by decide +kernel
theorem pd_2 : parseMethodDescriptor "([II)[I" = some ⟨[(.array .int), .int], some (.array .int)⟩ := by decide +kernel
theorem d13_116 : decode prog_21_method_13_code 116 = .ok (.aastore, 1) := by decide +kernel
theorem d13_117 : decode prog_21_method_13_code 117 = .ok (.aload_n 0, 1) := by decide +kernel
theorem d13_118 : decode prog_21_method_13_code 118 = .ok (.getfield 28, 3) := by decide +kernel
theorem d13_121 : decode prog_21_method_13_code 121 = .ok (.iload_n 2, 1) := by decide +kernel
theorem d13_122 : decode prog_21_method_13_code 122 = .ok (.aload_n 0, 1) := by decide +kernel
theorem d13_123 : decode prog_21_method_13_code 123 = .ok (.getfield 28, 3) := by decide +kernel
theorem d13_126 : decode prog_21_method_13_code 126 = .ok (.iload_n 2, 1) := by decide +kernel
theorem d13_127 : decode prog_21_method_13_code 127 = .ok (.baload, 1) := by decide +kernel
theorem d13_142 : decode prog_21_method_13_code 142 = .ok (.iload 5, 2) := by decide +kernel
theorem d13_144 : decode prog_21_method_13_code 144 = .ok (.ifCond .ne 13, 3) := by decide +kernel
theorem d13_147 : decode prog_21_method_13_code 147 = .ok (.aload_n 0, 1) := by decide +kernel
theorem d13_148 : decode prog_21_method_13_code 148 = .ok (.dup, 1) := by decide +kernel
theorem d13_149 : decode prog_21_method_13_code 149 = .ok (.getfield 53, 3) := by decide +kernel
theorem d13_152 : decode prog_21_method_13_code 152 = .ok (.iconst 1, 1) := by decide +kernel
theorem d13_153 : decode prog_21_method_13_code 153 = .ok (.isub, 1) := by decide +kernel
theorem d13_154 : decode prog_21_method_13_code 154 = .ok (.putfield 53, 3) := by decide +kernel
theorem ef_rm13B (m : MethodId) (a0 : Addr) (a1 : Addr) (p2 : Int32) (a3 : Addr) : entryFrame m #[(.ref a0), (.ref a1), (.int p2), (.ref a3)] 10 = mkF m 0 #[vR a0, vR a1, vI p2, vR a3, .unset, .unset, .unset, .unset, .unset, .unset] [] := by first | (simp [entryFrame, mkF, argsToLocals, Value.category]; done) | rfl
def Q13B (Z : State) (a0 : Addr) (a1 : Addr) (p2 : Int32) (a3 : Addr) (lc : Int32) (rc : Int32) (rem : Int32) (aP : Addr) (kP : ClassId) (fP : Nat → Value) (aC : Addr) (kC : ClassId) (aK : Addr) (kK : ClassId) (nK : Int32) (aO : Addr) (kO : ClassId) (aN : Addr) (k1 : ClassId) (v0 : Int32) (k3 : ClassId) (nL : Int32) (fL : Nat → Value) (h0 : Heap) (n0 : Nat) (v : Option Value) (h : Heap) (L : List Loc) : Prop := ∃ r0 : Addr, ∃ rk0 : ClassId, v = none ∧ Fr n0 L ∧ h0.size ≤ r0 ∧ Keep h0 h [aO, aK, aP, aC, a0] ∧ own_Any Z h aO kO .int nK ∧ Exa Z h aO "[I" ∧ Exa Z h aK "[I" ∧ own_Any Z h aK kK .int nK ∧ own_Arf Z h aP kP (.array .int) (8 : Int32) (own_upd fP (p2).toNatClampNeg (.ref r0)) ∧ Exa Z h aP "[[I" ∧ Exa Z h aC "[Z" ∧ own_Any Z h aC kC .boolean (8 : Int32) ∧ Exa Z h a0 cCV ∧ Fld Z h a0 cCV "labelCount" "I" (.int lc) ∧ Fld Z h a0 cCV "rowCount" "I" (.int rc) ∧ Fld Z h a0 cCV "pairsShared" "Z" (.int (0 : Int32)) ∧ Fld Z h a0 cCV "remainingCount" "I" (.int (rem - (1 : Int32))) ∧ Fld Z h a0 cCV "openPairs" "[[I" (.ref aP) ∧ Fld Z h a0 cCV "covered" "[Z" (.ref aC) ∧ Fld Z h a0 cCV "coveredCounts" "[I" (.ref aK) ∧ Fld Z h a0 cCV "openCounts" "[I" (.ref aO) ∧ Fld Z h a0 cCV "ones" "[I" (.ref aN) ∧ Exa Z h r0 "[I" ∧ Arv Z h r0 rk0 .int (0 : Int32) [] (.int (0 : Int32))
set_option maxRecDepth 65536 in
set_option maxHeartbeats 40000000 in
theorem rm13B (l : Launch) (Z : State) (az : Array Value) (hw : ∀ d ∈ tables_1, d.before az Z = true) (ws : List Jvm.Cond) (a0 : Addr) (a1 : Addr) (p2 : Int32) (a3 : Addr) (lc : Int32) (rc : Int32) (rem : Int32) (aP : Addr) (kP : ClassId) (fP : Nat → Value) (aC : Addr) (kC : ClassId) (aK : Addr) (kK : ClassId) (nK : Int32) (aO : Addr) (kO : ClassId) (aN : Addr) (k1 : ClassId) (v0 : Int32) (k3 : ClassId) (nL : Int32) (fL : Nat → Value) (h0 : Heap) (n0 : Nat) (Z0 : n0 ≤ h0.size) (E_a0 : Exa Z h0 a0 cCV) (F_labelCount_a0 : Fld Z h0 a0 cCV "labelCount" "I" (.int lc)) (F_rowCount_a0 : Fld Z h0 a0 cCV "rowCount" "I" (.int rc)) (F_pairsShared_a0 : Fld Z h0 a0 cCV "pairsShared" "Z" (.int (0 : Int32))) (F_remainingCount_a0 : Fld Z h0 a0 cCV "remainingCount" "I" (.int rem)) (F_openPairs_a0 : Fld Z h0 a0 cCV "openPairs" "[[I" (.ref aP)) (V_aP : own_Arf Z h0 aP kP (.array .int) (8 : Int32) fP) (E_aP : Exa Z h0 aP "[[I") (F_covered_a0 : Fld Z h0 a0 cCV "covered" "[Z" (.ref aC)) (V_aC : own_Any Z h0 aC kC .boolean (8 : Int32)) (E_aC : Exa Z h0 aC "[Z") (F_coveredCounts_a0 : Fld Z h0 a0 cCV "coveredCounts" "[I" (.ref aK)) (V_aK : own_Any Z h0 aK kK .int nK) (E_aK : Exa Z h0 aK "[I") (F_openCounts_a0 : Fld Z h0 a0 cCV "openCounts" "[I" (.ref aO)) (V_aO : own_Any Z h0 aO kO .int nK) (E_aO : Exa Z h0 aO "[I") (F_ones_a0 : Fld Z h0 a0 cCV "ones" "[I" (.ref aN)) (O_kP : OvrA Z kP .int "[I") (V_a1 : Arv Z h0 a1 k1 .int (1 : Int32) [(.int v0)] (.int (0 : Int32))) (E_a1 : Exa Z h0 a1 "[I") (V_a3 : own_Arf Z h0 a3 k3 .boolean nL fL) (E_a3 : Exa Z h0 a3 "[Z") (hc23 : ¬ ((v0 / (2 : Int32)) < (0 : Int32))) (hc24 : (v0 / (2 : Int32)) < nL) (hc25 : fL ((v0 / (2 : Int32))).toNatClampNeg = (.int (1 : Int32))) (hc26 : ¬ (v0 < (0 : Int32))) (hc27 : v0 < nK) (g_aO : n0 ≤ aO) (hc29 : ¬ (p2 < (0 : Int32))) (hc30 : p2 < (8 : Int32)) (hne_aK_aO : aK ≠ aO) (g_aK : n0 ≤ aK) (hne_a1_aO : a1 ≠ aO) (hne_a1_aK : a1 ≠ aK) (g_aP : n0 ≤ aP) (g_aC : n0 ≤ aC) (g_a0 : n0 ≤ a0) :
    MetFree l (⟨cCV, "settle", "([II[Z)V"⟩ : MethodName) (head1 (Jvm.Cond.code (⟨cCV, "settle", "([II[Z)V"⟩ : MethodName) prog_21_method_13_code 10 none :: ws) ({ frames := 2, cells := 2, slots := 3, locals := 80 } : Room)) (fun a U => a = #[(.ref a0), (.ref a1), (.int p2), (.ref a3)] ∧ Z.Warmed39 U.vm ∧ U.heap = h0) (fun _ _ _ _ _ => True) (fun _ U o U' => ∃ v L, o = .returned v ∧ Q13B Z a0 a1 p2 a3 lc rc rem aP kP fP aC kC aK kK nK aO kO aN k1 v0 k3 nL fL h0 n0 v U'.heap L ∧ FrameEnd U o U' L ({ frames := 2, cells := 2, slots := 3, locals := 80 } : Room).cells ({ frames := 2, cells := 2, slots := 3, locals := 80 } : Room).slots) := by
  refine MetFree.of_bodySF (plainFor_of_name pn_com_example_headlattice_headlattice_learn_Coverage) hisR ?_
  intro p e s m args below meth c s₁ Bd hml0 hP hK
  obtain ⟨rfl, hZ, hh⟩ := hP
  have hx := Bd.exec
  have hby := Bd.bytes
  have hml : c.maxLocals = 10 := hml0
  have hown : s.vm.findClass cCV = some m.cls := findClass_of_methodNamed Bd.named
  have hnm := (name_of_methodNamed Bd.named Bd.method).1
  have X0 : Stand p l e ({ frames := 2, cells := 2, slots := 3, locals := 80 } : Room) s m #[(.ref a0), (.ref a1), (.int p2), (.ref a3)] below meth c s₁ [] 0 0 := Stand.of_body Bd
  have e0 : s₁.heap = h0 := by rw [← hh, Bd.state]; rfl
  have N0 := Fr.nil n0
  have pre0 : ∀ t, Steps p.tables e below (s₁.setTop (mkF m 0 #[vR a0, vR a1, vI p2, vR a3, .unset, .unset, .unset, .unset, .unset, .unset] [])) t → Steps p.tables e below (s₁.setTop (entryFrame m #[(.ref a0), (.ref a1), (.int p2), (.ref a3)] 10)) t := fun t k => castTop (ef_rm13B m a0 a1 p2 a3) k
  obtain ⟨cl1, Ar1, qk1, Sz1, Ng1, Hs1, Gf1⟩ := id V_a1
  obtain ⟨T2, h2, k2, X2, e2, E2, A2, x2, st2⟩ := newPE X0 hx hZ (aty := .int) (w18 hw) e0 (g := (mkF m 2 #[vR a0, vR a1, vI p2, vR a3, .unset, .unset, .unset, .unset, .unset, .unset] [(.int (1 : Int32))])) rfl (hb hby d13_2) rfl (by decide) (cap := 1) (by decide) (by decide) (by decide) (by decide) (ad := "[I") (by decide)
  obtain ⟨b2, g2⟩ : ∃ z, z = h0.size := ⟨_, rfl⟩
  rw [← g2] at A2 x2 st2
  have g_b2 : n0 ≤ b2 := Nat.le_trans Z0 (Nat.le_of_eq g2.symm)
  have sz_b2 : h0.size ≤ b2 := Nat.le_trans (Nat.le_refl _) (Nat.le_of_eq g2.symm)
  have Z2 : n0 ≤ h2.size := Nat.le_trans Z0 E2.1
  have K2 : Keep h0 h2 [aO, aK, aP, aC, a0] := (Keep.refl h0 [aO, aK, aP, aC, a0]).ext E2
  have E_b2 := x2
  have V_b2 : Arv Z h2 b2 k2 .int (1 : Int32) [(.int (0 : Int32))] (.int (0 : Int32)) := (Arv.new A2 (by decide)).pad (pad_rep [] (.int (0 : Int32)) 1)
  have V_a1_u3 : Arv Z h2 a1 k1 .int (1 : Int32) [(.int v0)] (.int (0 : Int32)) := (V_a1.ext E2)
  obtain ⟨cl4, Ar4, qk4, Sz4, Ng4, Hs4, Gf4⟩ := id V_a1_u3
  have hin5 : ¬ ((0 : Int32) < 0 ∨ cl4.slots.size ≤ ((0 : Int32)).toNatClampNeg) := inb_of Sz4 ⟨by decide, by decide⟩
  have hat6 : cl4.slots[((0 : Int32)).toNatClampNeg]? = some (.int v0) := Hs4.at hin5 rfl
  have V_a3_u7 : own_Arf Z h2 a3 k3 .boolean nL fL := (V_a3.ext E2)
  obtain ⟨cl8, Ar8, qk8, Sz8, Ng8, Hs8, Gf8⟩ := id V_a3_u7
  have hin9 : ¬ ((v0 / (2 : Int32)) < 0 ∨ cl8.slots.size ≤ ((v0 / (2 : Int32))).toNatClampNeg) := inb_of Sz8 ⟨hc23, hc24⟩
  have hat10 : cl8.slots[((v0 / (2 : Int32))).toNatClampNeg]? = some (.int (1 : Int32)) := own_at Hs8 hin9 hc25
  have F_a0_openCounts_u11 : Fld Z h2 a0 cCV "openCounts" "[I" (.ref aO) := (F_openCounts_a0.ext E2)
  obtain ⟨T12, X12, e12, st12⟩ := getF X2 hx hZ hown (host := "") (Or.inl (w21 hw)) Via.refl e2 F_a0_openCounts_u11 (g := (mkF m 44 #[vR a0, vR a1, vI p2, vR a3, vR b2, vI (0 : Int32), vR a1, vI (1 : Int32), vI (0 : Int32), vI v0] [(.ref a0)])) rfl rfl (hb hby d13_44)
  have V_aO_u13 : own_Any Z h2 aO kO .int nK := (V_aO.ext E2)
  obtain ⟨ff14, cl14, Ar14, qk14, Sz14, Ng14, Hs14, Gf14⟩ := id V_aO_u13
  have hin15 : ¬ (v0 < 0 ∨ cl14.slots.size ≤ (v0).toNatClampNeg) := inb_of Sz14 ⟨hc26, hc27⟩
  obtain ⟨lw16, hat16⟩ := own_any_at Hs14 Gf14 hin15 (Or.inl rfl)
  have hin17 : ¬ (v0 < 0 ∨ cl14.slots.size ≤ (v0).toNatClampNeg) := inb_of Sz14 ⟨hc26, hc27⟩
  obtain ⟨T18, h18, X18, e18, W18, st18⟩ := stI X12 hx hZ e12 Ar14 (j := v0) hin17 (g := (mkF m 53 #[vR a0, vR a1, vI p2, vR a3, vR b2, vI (0 : Int32), vR a1, vI (1 : Int32), vI (0 : Int32), vI v0] [(.int (lw16 - (1 : Int32))), (.int v0), (.ref aO)])) rfl rfl (hb hby d13_53)
  have K18 : Keep h0 h18 [aO, aK, aP, aC, a0] := K2.wr W18 (Or.inl (List.mem_of_getElem? (i := 0) rfl))
  have V_aO_18 : own_Any Z h18 aO kO .int nK := ⟨_, own_Arf.set (v := (.int (lw16 - (1 : Int32)))) Ar14 qk14 Sz14 Ng14 Hs14 Gf14 rfl W18⟩
  have Z18 : n0 ≤ h18.size := Nat.le_trans Z2 (Keep.of_wr W18).1
  obtain ⟨Lg18, X18', N18⟩ := own_gen X18 (Fr.snoc X18 N0 g_aO)
  have ne_a0_aO : a0 ≠ aO := ne_exa E_a0 E_aO (by decide)
  have F_a0_covered_u19 : Fld Z h18 a0 cCV "covered" "[Z" (.ref aC) := ((F_covered_a0.ext E2).other W18 (Or.inl ne_a0_aO))
  obtain ⟨T20, X20, e20, st20⟩ := getF X18' hx hZ hown (host := "") (Or.inl (w16 hw)) Via.refl e18 F_a0_covered_u19 (g := (mkF m 55 #[vR a0, vR a1, vI p2, vR a3, vR b2, vI (0 : Int32), vR a1, vI (1 : Int32), vI (0 : Int32), vI v0] [(.ref a0)])) rfl rfl (hb hby d13_55)
  have ne_aC_aO : aC ≠ aO := ne_exa E_aC E_aO (by decide)
  have V_aC_u21 : own_Any Z h18 aC kC .boolean (8 : Int32) := ((V_aC.ext E2).other W18 ne_aC_aO)
  obtain ⟨ff22, cl22, Ar22, qk22, Sz22, Ng22, Hs22, Gf22⟩ := id V_aC_u21
  have hin23 : ¬ (p2 < 0 ∨ cl22.slots.size ≤ (p2).toNatClampNeg) := inb_of Sz22 ⟨hc29, hc30⟩
  obtain ⟨lw24, hat24⟩ := own_any_at Hs22 Gf22 hin23 (Or.inr (Or.inl rfl))
  have F_a0_coveredCounts_u25 : Fld Z h18 a0 cCV "coveredCounts" "[I" (.ref aK) := ((F_coveredCounts_a0.ext E2).other W18 (Or.inl ne_a0_aO))
  have V_aK_u26 : own_Any Z h18 aK kK .int nK := ((V_aK.ext E2).other W18 hne_aK_aO)
  have E_aK_u27 : Exa Z h18 aK "[I" := ((E_aK.ext E2).wr W18)
  obtain ⟨T28, h28c, g28, ⟨rfl, kq28, pf28_0, pf28_1⟩, ⟨Lg28, X28, e28, N28⟩, st28⟩ := sg03 l Z az hw hx hby hml hown hZ a0 (vR a1) (vI p2) (vR a3) (vR b2) (vI (0 : Int32)) (vR a1) (vI (1 : Int32)) (vI (0 : Int32)) v0 lw24 aK kK nK h18 n0 Z18 F_a0_coveredCounts_u25 V_aK_u26 E_aK_u27 g_aK hc26 hc27 T20 ⟨_, X20, e20, N18⟩
  have K28 : Keep h0 h28c [aO, aK, aP, aC, a0] := K18.trans kq28 (allS (Or.inl (List.mem_of_getElem? (i := 1) rfl)) all0)
  have Z28 : n0 ≤ h28c.size := Nat.le_trans Z18 kq28.1
  have V_a1_u29 : Arv Z h28c a1 k1 .int (1 : Int32) [(.int v0)] (.int (0 : Int32)) := ((V_a1_u3.other W18 hne_a1_aO).keep kq28 (ninS hne_a1_aK nin0))
  obtain ⟨cl30, Ar30, qk30, Sz30, Ng30, Hs30, Gf30⟩ := id V_a1_u29
  have ne_a0_aK : a0 ≠ aK := ne_exa E_a0 E_aK (by decide)
  have F_a0_pairsShared_u32 : Fld Z h28c a0 cCV "pairsShared" "Z" (.int (0 : Int32)) := (((F_pairsShared_a0.ext E2).other W18 (Or.inl ne_a0_aO)).keep kq28 (ninS ne_a0_aK nin0))
  have E_a0_u33 : Exa Z h28c a0 cCV := (((E_a0.ext E2).wr W18).keep kq28)
  obtain ⟨cq31, q31, q31'⟩ := E_a0_u33.cell
  obtain ⟨_, _, ⟨T31, L31, k31', n31'⟩, -, X31, ⟨Lc31, hQ31, l31, y31, z31⟩, st31⟩ := X28.privateBack hx (y := (⟨cCV, "ownPairs", "()V"⟩ : MethodName)) hown (mvT hZ (w48 hw)) (mvT hZ (w49 hw)) (own_priv (mvT hZ (w1 hw)) (Cond.privateMethod_at (mvP hZ (w50 hw) (args := #[]))) (mvT hZ (w49 hw)) (by decide)) (Cond.privateMethod_at (mvP hZ (w50 hw) (args := #[]))) (mvT hZ (w51 hw)) (by decide) (backOf (W := 0) (rm8 l Z az hw [] a0 h28c n0 Z28 F_a0_pairsShared_u32) hZ (w51 hw) (w2 hw) (by decide) (by decide)) (g := (mkF m 101 #[vR a0, vR a1, vI p2, vR a3, vR b2, vI (0 : Int32), vR a1, vI (1 : Int32), vI (1 : Int32), vI v0] [(.ref a0)])) rfl (by rw [hml]; rfl) (Steps.refl _) (a := a0) (by rw [e28]; exact q31) q31' (argsL := []) (rest := []) (lenOf pd_0 rfl) rfl (by show 2 * 0 + _ ≤ _; exact Nat.le_of_eq rfl) (hb hby d13_101) (fun _ _ => ⟨rfl, e28, (by decide : 1 + 0 ≤ _), (by decide : 1 + 0 ≤ _)⟩)
  dsimp only [Pt.U, Pt.locs, Pt.cells, Pt.slots] at X31 l31 y31 z31 st31 hQ31
  subst l31 y31 z31
  obtain ⟨rfl, N31q, e31⟩ := hQ31
  obtain ⟨Lg31, X31', N31⟩ := own_gen X31 (Fr.app N28 N31q)
  have F_a0_openPairs_u34 : Fld Z h28c a0 cCV "openPairs" "[[I" (.ref aP) := (((F_openPairs_a0.ext E2).other W18 (Or.inl ne_a0_aO)).keep kq28 (ninS ne_a0_aK nin0))
  obtain ⟨T35, X35, e35, st35⟩ := getF X31' hx hZ hown (host := "") (Or.inl (w13 hw)) Via.refl e31 F_a0_openPairs_u34 (g := (mkF m 105 #[vR a0, vR a1, vI p2, vR a3, vR b2, vI (0 : Int32), vR a1, vI (1 : Int32), vI (1 : Int32), vI v0] [(.ref a0)])) rfl rfl (hb hby d13_105)
  have ne_aO_b2 : aO ≠ b2 := own_ne (Nat.lt_of_lt_of_le E_aO.lt (Nat.le_of_eq g2.symm))
  have ne_aK_b2 : aK ≠ b2 := own_ne (Nat.lt_of_lt_of_le E_aK.lt (Nat.le_of_eq g2.symm))
  have V_b2_u37 : Arv Z h28c b2 k2 .int (1 : Int32) [(.int (0 : Int32))] (.int (0 : Int32)) := ((V_b2.other W18 (Ne.symm ne_aO_b2)).keep kq28 (ninS (Ne.symm ne_aK_b2) nin0))
  have E_b2_u38 : Exa Z h28c b2 "[I" := ((E_b2.wr W18).keep kq28)
  obtain ⟨_, _, ⟨T36, L36, k36', n36'⟩, -, X36, ⟨Lc36, hQ36, l36, y36, z36⟩, st36⟩ := Jvm.LawKit.callS X35 hx (y := (⟨"java/util/Arrays", "copyOf", "([II)[I"⟩ : MethodName)) hown (mvT hZ (w79 hw)) (mvT hZ (w80 hw)) (mvT hZ (w81 hw)) (mvT hZ (w82 hw)) (by decide) (backOf (W := 2) (rm14a l Z az hw [] b2 k2 (0 : Int32) h28c n0 Z28 V_b2_u37 E_b2_u38) hZ (w82 hw) (w81 hw) (by decide) (by decide)) (g := (mkF m 113 #[vR a0, vR a1, vI p2, vR a3, vR b2, vI (0 : Int32), vR a1, vI (1 : Int32), vI (1 : Int32), vI v0] [(.int (0 : Int32)), (.ref b2), (.int p2), (.ref aP)])) rfl (by rw [hml]; rfl) (argsL := [(.ref b2), (.int (0 : Int32))]) (rest := [(.int p2), (.ref aP)]) (lenOf pd_2 rfl) rfl (by show 2 * 0 + _ ≤ _; exact Nat.le_of_eq rfl) (hb hby d13_113) (fun _ _ => ⟨rfl, e35, (by decide : 1 + 1 ≤ _), (by decide : 1 + 0 ≤ _)⟩)
  dsimp only [Pt.U, Pt.locs, Pt.cells, Pt.slots] at X36 l36 y36 z36 st36 hQ36
  subst l36 y36 z36
  obtain ⟨b36_0, kk36_0, rfl, N36q, s36_0, kq36, pf36_0, pf36_1⟩ := hQ36
  obtain ⟨Lg36, X36', N36⟩ := own_gen X36 (Fr.app N31 N36q)
  have g_b36_0 : n0 ≤ b36_0 := Nat.le_trans Z28 s36_0
  have sz_b36_0 : h0.size ≤ b36_0 := Nat.le_trans K28.1 s36_0
  have K36 : Keep h0 T36.heap [aO, aK, aP, aC, a0] := K28.trans kq36 all0
  have Z36 : n0 ≤ T36.heap.size := Nat.le_trans Z28 kq36.1
  have ne_aP_aO : aP ≠ aO := ne_exa E_aP E_aO (by decide)
  have ne_aP_aK : aP ≠ aK := ne_exa E_aP E_aK (by decide)
  have c39 : own_Arf Z h28c aP kP (.array .int) (8 : Int32) fP := (((V_aP.ext E2).other W18 ne_aP_aO).keep kq28 (ninS ne_aP_aK nin0))
  have V_aP_u40 : own_Arf Z T36.heap aP kP (.array .int) (8 : Int32) fP := (c39.keep kq36 nin0)
  obtain ⟨cl41, Ar41, qk41, Sz41, Ng41, Hs41, Gf41⟩ := id V_aP_u40
  have hin42 : ¬ (p2 < 0 ∨ cl41.slots.size ≤ (p2).toNatClampNeg) := inb_of Sz41 ⟨hc29, hc30⟩
  obtain ⟨T43, h43, X43, e43, W43, st43⟩ := stR X36' hx hZ rfl Ar41 (j := p2) hin42 rfl (Sto.ofVA Ar41 qk41 O_kP (Ins.self pf36_0)) (g := (mkF m 116 #[vR a0, vR a1, vI p2, vR a3, vR b2, vI (0 : Int32), vR a1, vI (1 : Int32), vI (1 : Int32), vI v0] [(.ref b36_0), (.int p2), (.ref aP)])) rfl rfl (hb hby d13_116)
  have K43 : Keep h0 h43 [aO, aK, aP, aC, a0] := K36.wr W43 (Or.inl (List.mem_of_getElem? (i := 2) rfl))
  have V_aP_43 : own_Arf Z h43 aP kP (.array .int) (8 : Int32) (own_upd fP (p2).toNatClampNeg (.ref b36_0)) := own_Arf.set (v := (.ref b36_0)) Ar41 qk41 Sz41 Ng41 Hs41 Gf41 rfl W43
  have Z43 : n0 ≤ h43.size := Nat.le_trans Z36 (Keep.of_wr W43).1
  obtain ⟨Lg43, X43', N43⟩ := own_gen X43 (Fr.snoc X43 N36 g_aP)
  have ne_a0_aP : a0 ≠ aP := ne_exa E_a0 E_aP (by decide)
  have F_a0_covered_u44 : Fld Z h43 a0 cCV "covered" "[Z" (.ref aC) := (((F_a0_covered_u19.keep kq28 (ninS ne_a0_aK nin0)).keep kq36 nin0).other W43 (Or.inl ne_a0_aP))
  obtain ⟨T45, X45, e45, st45⟩ := getF X43' hx hZ hown (host := "") (Or.inl (w16 hw)) Via.refl e43 F_a0_covered_u44 (g := (mkF m 118 #[vR a0, vR a1, vI p2, vR a3, vR b2, vI (0 : Int32), vR a1, vI (1 : Int32), vI (1 : Int32), vI v0] [(.ref a0)])) rfl rfl (hb hby d13_118)
  obtain ⟨T46, X46, e46, st46⟩ := getF X45 hx hZ hown (host := "") (Or.inl (w16 hw)) Via.refl e45 F_a0_covered_u44 (g := (mkF m 123 #[vR a0, vR a1, vI p2, vR a3, vR b2, vI (0 : Int32), vR a1, vI (1 : Int32), vI (1 : Int32), vI v0] [(.ref a0), (.int p2), (.ref aC)])) rfl rfl (hb hby d13_123)
  have ne_aC_aK : aC ≠ aK := ne_exa E_aC E_aK (by decide)
  have ne_aC_aP : aC ≠ aP := ne_exa E_aC E_aP (by decide)
  have V_aC_u47 : own_Any Z h43 aC kC .boolean (8 : Int32) := (((V_aC_u21.keep kq28 (ninS ne_aC_aK nin0)).keep kq36 nin0).other W43 ne_aC_aP)
  obtain ⟨ff48, cl48, Ar48, qk48, Sz48, Ng48, Hs48, Gf48⟩ := id V_aC_u47
  have hin49 : ¬ (p2 < 0 ∨ cl48.slots.size ≤ (p2).toNatClampNeg) := inb_of Sz48 ⟨hc29, hc30⟩
  obtain ⟨lw50, hat50⟩ := own_any_at Hs48 Gf48 hin49 (Or.inr (Or.inl rfl))
  have c51 : Exa Z h28c aC "[Z" := (((E_aC.ext E2).wr W18).keep kq28)
  have E_aC_u52 : Exa Z h43 aC "[Z" := ((c51.keep kq36).wr W43)
  obtain ⟨T53, h53c, g53, ⟨rfl, kq53, pf53_0, pf53_1⟩, ⟨Lg53, X53, e53, N53⟩, st53⟩ := sg40 l Z az hw hx hby hml hown hZ (vR a0) (vR a1) (vI p2) (vR a3) (vR b2) (vR a1) (vI (1 : Int32)) (vI (1 : Int32)) (vI v0) lw50 p2 aC kC h43 n0 Z43 V_aC_u47 E_aC_u52 g_aC hc29 hc30 T46 ⟨_, X46, e46, N43⟩
  have K53 : Keep h0 h53c [aO, aK, aP, aC, a0] := K43.trans kq53 (allS (Or.inl (List.mem_of_getElem? (i := 3) rfl)) all0)
  have Z53 : n0 ≤ h53c.size := Nat.le_trans Z43 kq53.1
  have c54 : Fld Z h28c a0 cCV "remainingCount" "I" (.int rem) := (((F_remainingCount_a0.ext E2).other W18 (Or.inl ne_a0_aO)).keep kq28 (ninS ne_a0_aK nin0))
  have ne_a0_aC : a0 ≠ aC := ne_exa E_a0 E_aC (by decide)
  have F_a0_remainingCount_u55 : Fld Z h53c a0 cCV "remainingCount" "I" (.int rem) := (((c54.keep kq36 nin0).other W43 (Or.inl ne_a0_aP)).keep kq53 (ninS ne_a0_aC nin0))
  obtain ⟨T56, X56, e56, st56⟩ := getF X53 hx hZ hown (host := "") (Or.inl (w54 hw)) Via.refl e53 F_a0_remainingCount_u55 (g := (mkF m 149 #[vR a0, vR a1, vI p2, vR a3, vR b2, vI (0 : Int32), vR a1, vI (1 : Int32), vI (1 : Int32), vI v0] [(.ref a0), (.ref a0)])) rfl rfl (hb hby d13_149)
  have E_a0_u57 : Exa Z h53c a0 cCV := (((E_a0_u33.keep kq36).wr W43).keep kq53)
  obtain ⟨T58, h58, X58, e58, W58, st58⟩ := putF X56 hx hZ hown (host := "") (Or.inl (w54 hw)) Via.refl e56 F_a0_remainingCount_u55 E_a0_u57 (Or.inl (w55 hw)) (w1 hw) (ty := .int) (by decide) rfl rfl (g := (mkF m 154 #[vR a0, vR a1, vI p2, vR a3, vR b2, vI (0 : Int32), vR a1, vI (1 : Int32), vI (1 : Int32), vI v0] [(.int (rem - (1 : Int32))), (.ref a0)])) rfl rfl (hb hby d13_154)
  have K58 : Keep h0 h58 [aO, aK, aP, aC, a0] := K53.wr W58 (Or.inl (List.mem_of_getElem? (i := 4) rfl))
  have Fw58 := F_a0_remainingCount_u55.same W58
  have Z58 : n0 ≤ h58.size := Nat.le_trans Z53 (Keep.of_wr W58).1
  obtain ⟨Lg58, X58', N58⟩ := own_gen X58 (Fr.snoc X58 N53 g_a0)
  have ne_aO_aP : aO ≠ aP := ne_exa E_aO E_aP (by decide)
  have c59 : own_Any Z h43 aO kO .int nK := (((V_aO_18.keep kq28 (ninS (Ne.symm hne_aK_aO) nin0)).keep kq36 nin0).other W43 ne_aO_aP)
  have ne_aO_aC : aO ≠ aC := ne_exa E_aO E_aC (by decide)
  have ne_aO_a0 : aO ≠ a0 := ne_exa E_aO E_a0 (by decide)
  have V_aO_u60 : own_Any Z h58 aO kO .int nK := ((c59.keep kq53 (ninS ne_aO_aC nin0)).other W58 ne_aO_a0)
  have c61 : Exa Z h28c aO "[I" := (((E_aO.ext E2).wr W18).keep kq28)
  have c62 : Exa Z h53c aO "[I" := (((c61.keep kq36).wr W43).keep kq53)
  have E_aO_u63 : Exa Z h58 aO "[I" := (c62.wr W58)
  have c64 : Exa Z h53c aK "[I" := (((pf28_1.keep kq36).wr W43).keep kq53)
  have E_aK_u65 : Exa Z h58 aK "[I" := (c64.wr W58)
  have ne_aK_aP : aK ≠ aP := ne_exa E_aK E_aP (by decide)
  have ne_aK_aC : aK ≠ aC := ne_exa E_aK E_aC (by decide)
  have c66 : own_Any Z h53c aK kK .int nK := (((pf28_0.keep kq36 nin0).other W43 ne_aK_aP).keep kq53 (ninS ne_aK_aC nin0))
  have ne_aK_a0 : aK ≠ a0 := ne_exa E_aK E_a0 (by decide)
  have V_aK_u67 : own_Any Z h58 aK kK .int nK := (c66.other W58 ne_aK_a0)
  have ne_aP_aC : aP ≠ aC := ne_exa E_aP E_aC (by decide)
  have ne_aP_a0 : aP ≠ a0 := ne_exa E_aP E_a0 (by decide)
  have V_aP_u68 : own_Arf Z h58 aP kP (.array .int) (8 : Int32) (own_upd fP (p2).toNatClampNeg (.ref b36_0)) := ((V_aP_43.keep kq53 (ninS ne_aP_aC nin0)).other W58 ne_aP_a0)
  have c69 : Exa Z h28c aP "[[I" := (((E_aP.ext E2).wr W18).keep kq28)
  have c70 : Exa Z h53c aP "[[I" := (((c69.keep kq36).wr W43).keep kq53)
  have E_aP_u71 : Exa Z h58 aP "[[I" := (c70.wr W58)
  have E_aC_u72 : Exa Z h58 aC "[Z" := (pf53_1.wr W58)
  have ne_aC_a0 : aC ≠ a0 := ne_exa E_aC E_a0 (by decide)
  have V_aC_u73 : own_Any Z h58 aC kC .boolean (8 : Int32) := (pf53_0.other W58 ne_aC_a0)
  have E_a0_u74 : Exa Z h58 a0 cCV := (E_a0_u57.wr W58)
  have c75 : Fld Z h28c a0 cCV "labelCount" "I" (.int lc) := (((F_labelCount_a0.ext E2).other W18 (Or.inl ne_a0_aO)).keep kq28 (ninS ne_a0_aK nin0))
  have c76 : Fld Z h53c a0 cCV "labelCount" "I" (.int lc) := (((c75.keep kq36 nin0).other W43 (Or.inl ne_a0_aP)).keep kq53 (ninS ne_a0_aC nin0))
  have F_a0_labelCount_u77 : Fld Z h58 a0 cCV "labelCount" "I" (.int lc) := (c76.other W58 (Or.inr (sl_60 hw)))
  have c78 : Fld Z h28c a0 cCV "rowCount" "I" (.int rc) := (((F_rowCount_a0.ext E2).other W18 (Or.inl ne_a0_aO)).keep kq28 (ninS ne_a0_aK nin0))
  have c79 : Fld Z h53c a0 cCV "rowCount" "I" (.int rc) := (((c78.keep kq36 nin0).other W43 (Or.inl ne_a0_aP)).keep kq53 (ninS ne_a0_aC nin0))
  have F_a0_rowCount_u80 : Fld Z h58 a0 cCV "rowCount" "I" (.int rc) := (c79.other W58 (Or.inr (sl_61 hw)))
  have c81 : Fld Z h53c a0 cCV "pairsShared" "Z" (.int (0 : Int32)) := (((F_a0_pairsShared_u32.keep kq36 nin0).other W43 (Or.inl ne_a0_aP)).keep kq53 (ninS ne_a0_aC nin0))
  have F_a0_pairsShared_u82 : Fld Z h58 a0 cCV "pairsShared" "Z" (.int (0 : Int32)) := (c81.other W58 (Or.inr (sl_63 hw)))
  have c83 : Fld Z h53c a0 cCV "openPairs" "[[I" (.ref aP) := (((F_a0_openPairs_u34.keep kq36 nin0).other W43 (Or.inl ne_a0_aP)).keep kq53 (ninS ne_a0_aC nin0))
  have F_a0_openPairs_u84 : Fld Z h58 a0 cCV "openPairs" "[[I" (.ref aP) := (c83.other W58 (Or.inr (sl_50 hw)))
  have F_a0_covered_u85 : Fld Z h58 a0 cCV "covered" "[Z" (.ref aC) := ((F_a0_covered_u44.keep kq53 (ninS ne_a0_aC nin0)).other W58 (Or.inr (sl_58 hw)))
  have c86 : Fld Z h43 a0 cCV "coveredCounts" "[I" (.ref aK) := (((F_a0_coveredCounts_u25.keep kq28 (ninS ne_a0_aK nin0)).keep kq36 nin0).other W43 (Or.inl ne_a0_aP))
  have F_a0_coveredCounts_u87 : Fld Z h58 a0 cCV "coveredCounts" "[I" (.ref aK) := ((c86.keep kq53 (ninS ne_a0_aC nin0)).other W58 (Or.inr (sl_56 hw)))
  have c88 : Fld Z T36.heap a0 cCV "openCounts" "[I" (.ref aO) := (((F_a0_openCounts_u11.other W18 (Or.inl ne_a0_aO)).keep kq28 (ninS ne_a0_aK nin0)).keep kq36 nin0)
  have F_a0_openCounts_u89 : Fld Z h58 a0 cCV "openCounts" "[I" (.ref aO) := (((c88.other W43 (Or.inl ne_a0_aP)).keep kq53 (ninS ne_a0_aC nin0)).other W58 (Or.inr (sl_52 hw)))
  have c90 : Fld Z h28c a0 cCV "ones" "[I" (.ref aN) := (((F_ones_a0.ext E2).other W18 (Or.inl ne_a0_aO)).keep kq28 (ninS ne_a0_aK nin0))
  have c91 : Fld Z h53c a0 cCV "ones" "[I" (.ref aN) := (((c90.keep kq36 nin0).other W43 (Or.inl ne_a0_aP)).keep kq53 (ninS ne_a0_aC nin0))
  have F_a0_ones_u92 : Fld Z h58 a0 cCV "ones" "[I" (.ref aN) := (c91.other W58 (Or.inr (sl_54 hw)))
  have E_b36_0_u93 : Exa Z h58 b36_0 "[I" := (((pf36_0.wr W43).keep kq53).wr W58)
  have ne_aP_b36_0 : aP ≠ b36_0 := own_ne (Nat.lt_of_lt_of_le c69.lt s36_0)
  have ne_aC_b36_0 : aC ≠ b36_0 := own_ne (Nat.lt_of_lt_of_le c51.lt s36_0)
  have ne_a0_b36_0 : a0 ≠ b36_0 := own_ne (Nat.lt_of_lt_of_le E_a0_u33.lt s36_0)
  have V_b36_0_u94 : Arv Z h58 b36_0 kk36_0 .int (0 : Int32) [] (.int (0 : Int32)) := (((pf36_1.other W43 (Ne.symm ne_aP_b36_0)).keep kq53 (ninS (Ne.symm ne_aC_b36_0) nin0)).other W58 (Ne.symm ne_a0_b36_0))
  obtain ⟨fs, hr, hrun, hended, hW, hsame⟩ := X58'.leave (v := none) (fun _ => rfl)
  refine ⟨_, _, pre0 _ ?_, hrun, hended, _, _, rfl, ?_, ⟨_, rfl⟩, hW, hsame.mono (by decide) (by decide)⟩
  · show Steps p.tables e below (s₁.setTop (mkF m 0 #[vR a0, vR a1, vI p2, vR a3, .unset, .unset, .unset, .unset, .unset, .unset] [])) _
    refine XS.aloadN X0.here hx rfl (hb hby d13_0) rfl rfl ?_
    show Steps p.tables e below (s₁.setTop (mkF m 1 #[vR a0, vR a1, vI p2, vR a3, .unset, .unset, .unset, .unset, .unset, .unset] [(.ref a1)])) _
    refine X0.arraylength hx (by rw [e0]; exact Ar1.1) (State.isArrayOf_alike hZ.alike Ar1.2.1) (g := (mkF m 1 #[vR a0, vR a1, vI p2, vR a3, .unset, .unset, .unset, .unset, .unset, .unset] [(.ref a1)])) rfl rfl (hb hby d13_1) _ ?_
    rw [len_of Sz1 Ng1]
    show Steps p.tables e below (s₁.setTop (mkF m 2 #[vR a0, vR a1, vI p2, vR a3, .unset, .unset, .unset, .unset, .unset, .unset] [(.int (1 : Int32))])) _
    refine st2 _ ?_
    show Steps p.tables e below (T2.setTop (mkF m 4 #[vR a0, vR a1, vI p2, vR a3, .unset, .unset, .unset, .unset, .unset, .unset] [(.ref b2)])) _
    refine XS.astore X2.here hx rfl (hb hby d13_4) rfl rfl (l' := #[vR a0, vR a1, vI p2, vR a3, vR b2, .unset, .unset, .unset, .unset, .unset]) rfl ?_
    refine XS.iconst X2.here hx rfl (hb hby d13_6) ?_
    refine XS.istore X2.here hx rfl (hb hby d13_7) rfl (l' := #[vR a0, vR a1, vI p2, vR a3, vR b2, vI (0 : Int32), .unset, .unset, .unset, .unset]) rfl ?_
    refine XS.aloadN X2.here hx rfl (hb hby d13_9) rfl rfl ?_
    refine XS.astore X2.here hx rfl (hb hby d13_10) rfl rfl (l' := #[vR a0, vR a1, vI p2, vR a3, vR b2, vI (0 : Int32), vR a1, .unset, .unset, .unset]) rfl ?_
    refine XS.aload X2.here hx rfl (hb hby d13_12) rfl rfl ?_
    show Steps p.tables e below (T2.setTop (mkF m 14 #[vR a0, vR a1, vI p2, vR a3, vR b2, vI (0 : Int32), vR a1, .unset, .unset, .unset] [(.ref a1)])) _
    refine X2.arraylength hx (by rw [e2]; exact Ar4.1) (State.isArrayOf_alike hZ.alike Ar4.2.1) (g := (mkF m 14 #[vR a0, vR a1, vI p2, vR a3, vR b2, vI (0 : Int32), vR a1, .unset, .unset, .unset] [(.ref a1)])) rfl rfl (hb hby d13_14) _ ?_
    rw [len_of Sz4 Ng4]
    show Steps p.tables e below (T2.setTop (mkF m 15 #[vR a0, vR a1, vI p2, vR a3, vR b2, vI (0 : Int32), vR a1, .unset, .unset, .unset] [(.int (1 : Int32))])) _
    refine XS.istore X2.here hx rfl (hb hby d13_15) rfl (l' := #[vR a0, vR a1, vI p2, vR a3, vR b2, vI (0 : Int32), vR a1, vI (1 : Int32), .unset, .unset]) rfl ?_
    refine XS.iconst X2.here hx rfl (hb hby d13_17) ?_
    refine XS.istore X2.here hx rfl (hb hby d13_18) rfl (l' := #[vR a0, vR a1, vI p2, vR a3, vR b2, vI (0 : Int32), vR a1, vI (1 : Int32), vI (0 : Int32), .unset]) rfl ?_
    refine XS.iload X2.here hx rfl (hb hby d13_20) rfl ?_
    refine XS.iload X2.here hx rfl (hb hby d13_22) rfl ?_
    refine XS.icmpNo X2.here hx rfl (hb hby d13_24) rfl (tlt (by decide : (0 : Int32) < (1 : Int32))).2.1 ?_
    refine XS.aload X2.here hx rfl (hb hby d13_27) rfl rfl ?_
    refine XS.iload X2.here hx rfl (hb hby d13_29) rfl ?_
    show Steps p.tables e below (T2.setTop (mkF m 31 #[vR a0, vR a1, vI p2, vR a3, vR b2, vI (0 : Int32), vR a1, vI (1 : Int32), vI (0 : Int32), .unset] [(.int (0 : Int32)), (.ref a1)])) _
    refine X2.iaload hx (j := (0 : Int32)) (v := (.int v0)) (by rw [e2]; exact Ar4.1) (State.isArrayOf_alike hZ.alike Ar4.2.1) Ar4.2.2 hin5 hat6 (g := (mkF m 31 #[vR a0, vR a1, vI p2, vR a3, vR b2, vI (0 : Int32), vR a1, vI (1 : Int32), vI (0 : Int32), .unset] [(.int (0 : Int32)), (.ref a1)])) rfl rfl (hb hby d13_31) _ ?_
    show Steps p.tables e below (T2.setTop (mkF m 32 #[vR a0, vR a1, vI p2, vR a3, vR b2, vI (0 : Int32), vR a1, vI (1 : Int32), vI (0 : Int32), .unset] [(.int v0)])) _
    refine XS.istore X2.here hx rfl (hb hby d13_32) rfl (l' := #[vR a0, vR a1, vI p2, vR a3, vR b2, vI (0 : Int32), vR a1, vI (1 : Int32), vI (0 : Int32), vI v0]) rfl ?_
    refine XS.aloadN X2.here hx rfl (hb hby d13_34) rfl rfl ?_
    refine XS.iload X2.here hx rfl (hb hby d13_35) rfl ?_
    refine XS.iconst X2.here hx rfl (hb hby d13_37) ?_
    show Steps p.tables e below (T2.setTop (mkF m 38 #[vR a0, vR a1, vI p2, vR a3, vR b2, vI (0 : Int32), vR a1, vI (1 : Int32), vI (0 : Int32), vI v0] [(.int (2 : Int32)), (.int v0), (.ref a3)])) _
    refine XS.idiv X2.here hx rfl (hb hby d13_38) rfl (by decide) ?_
    show Steps p.tables e below (T2.setTop (mkF m 39 #[vR a0, vR a1, vI p2, vR a3, vR b2, vI (0 : Int32), vR a1, vI (1 : Int32), vI (0 : Int32), vI v0] [(.int (v0 / (2 : Int32))), (.ref a3)])) _
    refine X2.baloadBooleans hx (j := (v0 / (2 : Int32))) (v := (.int (1 : Int32))) (by rw [e2]; exact Ar8.1) (State.isArrayOf_alike hZ.alike Ar8.2.1) Ar8.2.2 hin9 hat10 (g := (mkF m 39 #[vR a0, vR a1, vI p2, vR a3, vR b2, vI (0 : Int32), vR a1, vI (1 : Int32), vI (0 : Int32), vI v0] [(.int (v0 / (2 : Int32))), (.ref a3)])) rfl rfl (hb hby d13_39) _ ?_
    show Steps p.tables e below (T2.setTop (mkF m 40 #[vR a0, vR a1, vI p2, vR a3, vR b2, vI (0 : Int32), vR a1, vI (1 : Int32), vI (0 : Int32), vI v0] [(.int (1 : Int32))])) _
    refine XS.ifNo X2.here hx rfl (hb hby d13_40) rfl ((if0 _ _).trans (feq (by decide : ¬ ((1 : Int32) = (0 : Int32)))).1) ?_
    refine XS.aloadN X2.here hx rfl (hb hby d13_43) rfl rfl ?_
    show Steps p.tables e below (T2.setTop (mkF m 44 #[vR a0, vR a1, vI p2, vR a3, vR b2, vI (0 : Int32), vR a1, vI (1 : Int32), vI (0 : Int32), vI v0] [(.ref a0)])) _
    refine st12 _ ?_
    show Steps p.tables e below (T12.setTop (mkF m 47 #[vR a0, vR a1, vI p2, vR a3, vR b2, vI (0 : Int32), vR a1, vI (1 : Int32), vI (0 : Int32), vI v0] [(.ref aO)])) _
    refine XS.iload X12.here hx rfl (hb hby d13_47) rfl ?_
    show Steps p.tables e below (T12.setTop (mkF m 49 #[vR a0, vR a1, vI p2, vR a3, vR b2, vI (0 : Int32), vR a1, vI (1 : Int32), vI (0 : Int32), vI v0] [(.int v0), (.ref aO)])) _
    refine Jvm.Free.XT.dup2 X12.here hx rfl (hb hby d13_49) rfl rfl rfl ?_
    show Steps p.tables e below (T12.setTop (mkF m 50 #[vR a0, vR a1, vI p2, vR a3, vR b2, vI (0 : Int32), vR a1, vI (1 : Int32), vI (0 : Int32), vI v0] [(.int v0), (.ref aO), (.int v0), (.ref aO)])) _
    refine X12.iaload hx (j := v0) (v := (.int lw16)) (by rw [e12]; exact Ar14.1) (State.isArrayOf_alike hZ.alike Ar14.2.1) Ar14.2.2 hin15 hat16 (g := (mkF m 50 #[vR a0, vR a1, vI p2, vR a3, vR b2, vI (0 : Int32), vR a1, vI (1 : Int32), vI (0 : Int32), vI v0] [(.int v0), (.ref aO), (.int v0), (.ref aO)])) rfl rfl (hb hby d13_50) _ ?_
    show Steps p.tables e below (T12.setTop (mkF m 51 #[vR a0, vR a1, vI p2, vR a3, vR b2, vI (0 : Int32), vR a1, vI (1 : Int32), vI (0 : Int32), vI v0] [(.int lw16), (.int v0), (.ref aO)])) _
    refine XS.iconst X12.here hx rfl (hb hby d13_51) ?_
    refine XS.isub X12.here hx rfl (hb hby d13_52) rfl ?_
    show Steps p.tables e below (T12.setTop (mkF m 53 #[vR a0, vR a1, vI p2, vR a3, vR b2, vI (0 : Int32), vR a1, vI (1 : Int32), vI (0 : Int32), vI v0] [(.int (lw16 - (1 : Int32))), (.int v0), (.ref aO)])) _
    refine st18 _ ?_
    show Steps p.tables e below (T18.setTop (mkF m 54 #[vR a0, vR a1, vI p2, vR a3, vR b2, vI (0 : Int32), vR a1, vI (1 : Int32), vI (0 : Int32), vI v0] [])) _
    refine XS.aloadN X18'.here hx rfl (hb hby d13_54) rfl rfl ?_
    show Steps p.tables e below (T18.setTop (mkF m 55 #[vR a0, vR a1, vI p2, vR a3, vR b2, vI (0 : Int32), vR a1, vI (1 : Int32), vI (0 : Int32), vI v0] [(.ref a0)])) _
    refine st20 _ ?_
    show Steps p.tables e below (T20.setTop (mkF m 58 #[vR a0, vR a1, vI p2, vR a3, vR b2, vI (0 : Int32), vR a1, vI (1 : Int32), vI (0 : Int32), vI v0] [(.ref aC)])) _
    refine XS.iloadN X20.here hx rfl (hb hby d13_58) rfl ?_
    show Steps p.tables e below (T20.setTop (mkF m 59 #[vR a0, vR a1, vI p2, vR a3, vR b2, vI (0 : Int32), vR a1, vI (1 : Int32), vI (0 : Int32), vI v0] [(.int p2), (.ref aC)])) _
    refine X20.baloadBooleans hx (j := p2) (v := (.int lw24)) (by rw [e20]; exact Ar22.1) (State.isArrayOf_alike hZ.alike Ar22.2.1) Ar22.2.2 hin23 hat24 (g := (mkF m 59 #[vR a0, vR a1, vI p2, vR a3, vR b2, vI (0 : Int32), vR a1, vI (1 : Int32), vI (0 : Int32), vI v0] [(.int p2), (.ref aC)])) rfl rfl (hb hby d13_59) _ ?_
    show Steps p.tables e below (T20.setTop (mkF m 60 #[vR a0, vR a1, vI p2, vR a3, vR b2, vI (0 : Int32), vR a1, vI (1 : Int32), vI (0 : Int32), vI v0] [(.int lw24)])) _
    refine st28 _ ?_
    show Steps p.tables e below (T28.setTop (mkF m 87 #[vR a0, vR a1, vI p2, vR a3, vR b2, vI (0 : Int32), vR a1, vI (1 : Int32), vI (0 : Int32), vI v0] [])) _
    refine XS.iinc X28.here hx rfl (hb hby d13_87) rfl (l' := #[vR a0, vR a1, vI p2, vR a3, vR b2, vI (0 : Int32), vR a1, vI (1 : Int32), vI (1 : Int32), vI v0]) rfl ?_
    refine XS.goto X28.here hx rfl (pc0 := 90) (pc' := 20) rfl (hb hby d13_90) (by decide) (by decide) ?_
    refine XS.iload X28.here hx rfl (hb hby d13_20) rfl ?_
    refine XS.iload X28.here hx rfl (hb hby d13_22) rfl ?_
    refine XS.icmpYes X28.here hx rfl (pc0 := 24) (pc' := 93) rfl (hb hby d13_24) rfl (flt (by decide : ¬ ((1 : Int32) < (1 : Int32)))).2.1 (by decide) (by decide) ?_
    refine XS.iload X28.here hx rfl (hb hby d13_93) rfl ?_
    refine XS.aloadN X28.here hx rfl (hb hby d13_95) rfl rfl ?_
    show Steps p.tables e below (T28.setTop (mkF m 96 #[vR a0, vR a1, vI p2, vR a3, vR b2, vI (0 : Int32), vR a1, vI (1 : Int32), vI (1 : Int32), vI v0] [(.ref a1), (.int (0 : Int32))])) _
    refine X28.arraylength hx (by rw [e28]; exact Ar30.1) (State.isArrayOf_alike hZ.alike Ar30.2.1) (g := (mkF m 96 #[vR a0, vR a1, vI p2, vR a3, vR b2, vI (0 : Int32), vR a1, vI (1 : Int32), vI (1 : Int32), vI v0] [(.ref a1), (.int (0 : Int32))])) rfl rfl (hb hby d13_96) _ ?_
    rw [len_of Sz30 Ng30]
    show Steps p.tables e below (T28.setTop (mkF m 97 #[vR a0, vR a1, vI p2, vR a3, vR b2, vI (0 : Int32), vR a1, vI (1 : Int32), vI (1 : Int32), vI v0] [(.int (1 : Int32)), (.int (0 : Int32))])) _
    refine XS.icmpNo X28.here hx rfl (hb hby d13_97) rfl (tlt (by decide : (0 : Int32) < (1 : Int32))).2.1 ?_
    refine XS.aloadN X28.here hx rfl (hb hby d13_100) rfl rfl ?_
    show Steps p.tables e below (T28.setTop (mkF m 101 #[vR a0, vR a1, vI p2, vR a3, vR b2, vI (0 : Int32), vR a1, vI (1 : Int32), vI (1 : Int32), vI v0] [(.ref a0)])) _
    refine st31.trans ?_
    show Steps p.tables e below (T31.setTop (mkF m 104 #[vR a0, vR a1, vI p2, vR a3, vR b2, vI (0 : Int32), vR a1, vI (1 : Int32), vI (1 : Int32), vI v0] [])) _
    refine XS.aloadN X31'.here hx rfl (hb hby d13_104) rfl rfl ?_
    show Steps p.tables e below (T31.setTop (mkF m 105 #[vR a0, vR a1, vI p2, vR a3, vR b2, vI (0 : Int32), vR a1, vI (1 : Int32), vI (1 : Int32), vI v0] [(.ref a0)])) _
    refine st35 _ ?_
    show Steps p.tables e below (T35.setTop (mkF m 108 #[vR a0, vR a1, vI p2, vR a3, vR b2, vI (0 : Int32), vR a1, vI (1 : Int32), vI (1 : Int32), vI v0] [(.ref aP)])) _
    refine XS.iloadN X35.here hx rfl (hb hby d13_108) rfl ?_
    refine XS.aload X35.here hx rfl (hb hby d13_109) rfl rfl ?_
    refine XS.iload X35.here hx rfl (hb hby d13_111) rfl ?_
    show Steps p.tables e below (T35.setTop (mkF m 113 #[vR a0, vR a1, vI p2, vR a3, vR b2, vI (0 : Int32), vR a1, vI (1 : Int32), vI (1 : Int32), vI v0] [(.int (0 : Int32)), (.ref b2), (.int p2), (.ref aP)])) _
    refine st36 _ ?_
    show Steps p.tables e below (T36.setTop (mkF m 116 #[vR a0, vR a1, vI p2, vR a3, vR b2, vI (0 : Int32), vR a1, vI (1 : Int32), vI (1 : Int32), vI v0] [(.ref b36_0), (.int p2), (.ref aP)])) _
    refine st43 _ ?_
    show Steps p.tables e below (T43.setTop (mkF m 117 #[vR a0, vR a1, vI p2, vR a3, vR b2, vI (0 : Int32), vR a1, vI (1 : Int32), vI (1 : Int32), vI v0] [])) _
    refine XS.aloadN X43'.here hx rfl (hb hby d13_117) rfl rfl ?_
    show Steps p.tables e below (T43.setTop (mkF m 118 #[vR a0, vR a1, vI p2, vR a3, vR b2, vI (0 : Int32), vR a1, vI (1 : Int32), vI (1 : Int32), vI v0] [(.ref a0)])) _
    refine st45 _ ?_
    show Steps p.tables e below (T45.setTop (mkF m 121 #[vR a0, vR a1, vI p2, vR a3, vR b2, vI (0 : Int32), vR a1, vI (1 : Int32), vI (1 : Int32), vI v0] [(.ref aC)])) _
    refine XS.iloadN X45.here hx rfl (hb hby d13_121) rfl ?_
    refine XS.aloadN X45.here hx rfl (hb hby d13_122) rfl rfl ?_
    show Steps p.tables e below (T45.setTop (mkF m 123 #[vR a0, vR a1, vI p2, vR a3, vR b2, vI (0 : Int32), vR a1, vI (1 : Int32), vI (1 : Int32), vI v0] [(.ref a0), (.int p2), (.ref aC)])) _
    refine st46 _ ?_
    show Steps p.tables e below (T46.setTop (mkF m 126 #[vR a0, vR a1, vI p2, vR a3, vR b2, vI (0 : Int32), vR a1, vI (1 : Int32), vI (1 : Int32), vI v0] [(.ref aC), (.int p2), (.ref aC)])) _
    refine XS.iloadN X46.here hx rfl (hb hby d13_126) rfl ?_
    show Steps p.tables e below (T46.setTop (mkF m 127 #[vR a0, vR a1, vI p2, vR a3, vR b2, vI (0 : Int32), vR a1, vI (1 : Int32), vI (1 : Int32), vI v0] [(.int p2), (.ref aC), (.int p2), (.ref aC)])) _
    refine X46.baloadBooleans hx (j := p2) (v := (.int lw50)) (by rw [e46]; exact Ar48.1) (State.isArrayOf_alike hZ.alike Ar48.2.1) Ar48.2.2 hin49 hat50 (g := (mkF m 127 #[vR a0, vR a1, vI p2, vR a3, vR b2, vI (0 : Int32), vR a1, vI (1 : Int32), vI (1 : Int32), vI v0] [(.int p2), (.ref aC), (.int p2), (.ref aC)])) rfl rfl (hb hby d13_127) _ ?_
    show Steps p.tables e below (T46.setTop (mkF m 128 #[vR a0, vR a1, vI p2, vR a3, vR b2, vI (0 : Int32), vR a1, vI (1 : Int32), vI (1 : Int32), vI v0] [(.int lw50), (.int p2), (.ref aC)])) _
    refine st53 _ ?_
    show Steps p.tables e below (T53.setTop (mkF m 142 #[vR a0, vR a1, vI p2, vR a3, vR b2, vI (0 : Int32), vR a1, vI (1 : Int32), vI (1 : Int32), vI v0] [])) _
    refine XS.iload X53.here hx rfl (hb hby d13_142) rfl ?_
    refine XS.ifNo X53.here hx rfl (hb hby d13_144) rfl ((if0 _ _).trans (teq (by decide : (0 : Int32) = (0 : Int32))).2) ?_
    refine XS.aloadN X53.here hx rfl (hb hby d13_147) rfl rfl ?_
    refine XS.dup X53.here hx rfl (hb hby d13_148) rfl rfl ?_
    show Steps p.tables e below (T53.setTop (mkF m 149 #[vR a0, vR a1, vI p2, vR a3, vR b2, vI (0 : Int32), vR a1, vI (1 : Int32), vI (1 : Int32), vI v0] [(.ref a0), (.ref a0)])) _
    refine st56 _ ?_
    show Steps p.tables e below (T56.setTop (mkF m 152 #[vR a0, vR a1, vI p2, vR a3, vR b2, vI (0 : Int32), vR a1, vI (1 : Int32), vI (1 : Int32), vI v0] [(.int rem), (.ref a0)])) _
    refine XS.iconst X56.here hx rfl (hb hby d13_152) ?_
    refine XS.isub X56.here hx rfl (hb hby d13_153) rfl ?_
    show Steps p.tables e below (T56.setTop (mkF m 154 #[vR a0, vR a1, vI p2, vR a3, vR b2, vI (0 : Int32), vR a1, vI (1 : Int32), vI (1 : Int32), vI v0] [(.int (rem - (1 : Int32))), (.ref a0)])) _
    refine st58 _ ?_
    show Steps p.tables e below (T58.setTop (mkF m 157 #[vR a0, vR a1, vI p2, vR a3, vR b2, vI (0 : Int32), vR a1, vI (1 : Int32), vI (1 : Int32), vI v0] [])) _
    exact X58'.returnOut hx Bd.returns (hb hby d13_157) hr
  · show Q13B Z a0 a1 p2 a3 lc rc rem aP kP fP aC kC aK kK nK aO kO aN k1 v0 k3 nL fL h0 n0 _ T58.heap _
    rw [e58]
    exact ⟨b36_0, kk36_0, rfl, N58, sz_b36_0, K58, V_aO_u60, E_aO_u63, E_aK_u65, V_aK_u67, V_aP_u68, E_aP_u71, E_aC_u72, V_aC_u73, E_a0_u74, F_a0_labelCount_u77, F_a0_rowCount_u80, F_a0_pairsShared_u82, Fw58, F_a0_openPairs_u84, F_a0_covered_u85, F_a0_coveredCounts_u87, F_a0_openCounts_u89, F_a0_ones_u92, E_b36_0_u93, V_b36_0_u94⟩
theorem d13_77 : decode prog_21_method_13_code 77 = .ok (.aload 4, 2) := by decide +kernel
theorem d13_79 : decode prog_21_method_13_code 79 = .ok (.iload 5, 2) := by decide +kernel
theorem d13_81 : decode prog_21_method_13_code 81 = .ok (.iinc 5 1, 3) := by decide +kernel
theorem d13_84 : decode prog_21_method_13_code 84 = .ok (.iload 9, 2) := by decide +kernel
theorem d13_86 : decode prog_21_method_13_code 86 = .ok (.iastore, 1) := by decide +kernel
theorem ef_rm13C (m : MethodId) (a0 : Addr) (a1 : Addr) (p2 : Int32) (a3 : Addr) : entryFrame m #[(.ref a0), (.ref a1), (.int p2), (.ref a3)] 10 = mkF m 0 #[vR a0, vR a1, vI p2, vR a3, .unset, .unset, .unset, .unset, .unset, .unset] [] := by first | (simp [entryFrame, mkF, argsToLocals, Value.category]; done) | rfl
def Q13C (Z : State) (a0 : Addr) (a1 : Addr) (p2 : Int32) (a3 : Addr) (lc : Int32) (rc : Int32) (rem : Int32) (aP : Addr) (kP : ClassId) (fP : Nat → Value) (aC : Addr) (kC : ClassId) (aK : Addr) (kK : ClassId) (nK : Int32) (aO : Addr) (kO : ClassId) (aN : Addr) (k1 : ClassId) (v0 : Int32) (v1 : Int32) (k3 : ClassId) (nL : Int32) (fL : Nat → Value) (h0 : Heap) (n0 : Nat) (v : Option Value) (h : Heap) (L : List Loc) : Prop := ∃ r0 : Addr, ∃ rk0 : ClassId, v = none ∧ Fr n0 L ∧ h0.size ≤ r0 ∧ Keep h0 h [aO, aK, aP, aC] ∧ own_Any Z h aO kO .int nK ∧ Exa Z h aO "[I" ∧ Exa Z h aK "[I" ∧ own_Any Z h aK kK .int nK ∧ own_Arf Z h aP kP (.array .int) (8 : Int32) (own_upd fP (p2).toNatClampNeg (.ref r0)) ∧ Exa Z h aP "[[I" ∧ Exa Z h aC "[Z" ∧ own_Any Z h aC kC .boolean (8 : Int32) ∧ Exa Z h r0 "[I" ∧ Arv Z h r0 rk0 .int (1 : Int32) [(.int v1)] (.int (0 : Int32))
set_option maxRecDepth 65536 in
set_option maxHeartbeats 40000000 in
theorem rm13C (l : Launch) (Z : State) (az : Array Value) (hw : ∀ d ∈ tables_1, d.before az Z = true) (ws : List Jvm.Cond) (a0 : Addr) (a1 : Addr) (p2 : Int32) (a3 : Addr) (lc : Int32) (rc : Int32) (rem : Int32) (aP : Addr) (kP : ClassId) (fP : Nat → Value) (aC : Addr) (kC : ClassId) (aK : Addr) (kK : ClassId) (nK : Int32) (aO : Addr) (kO : ClassId) (aN : Addr) (k1 : ClassId) (v0 : Int32) (v1 : Int32) (k3 : ClassId) (nL : Int32) (fL : Nat → Value) (h0 : Heap) (n0 : Nat) (Z0 : n0 ≤ h0.size) (E_a0 : Exa Z h0 a0 cCV) (F_labelCount_a0 : Fld Z h0 a0 cCV "labelCount" "I" (.int lc)) (F_rowCount_a0 : Fld Z h0 a0 cCV "rowCount" "I" (.int rc)) (F_pairsShared_a0 : Fld Z h0 a0 cCV "pairsShared" "Z" (.int (0 : Int32))) (F_remainingCount_a0 : Fld Z h0 a0 cCV "remainingCount" "I" (.int rem)) (F_openPairs_a0 : Fld Z h0 a0 cCV "openPairs" "[[I" (.ref aP)) (V_aP : own_Arf Z h0 aP kP (.array .int) (8 : Int32) fP) (E_aP : Exa Z h0 aP "[[I") (F_covered_a0 : Fld Z h0 a0 cCV "covered" "[Z" (.ref aC)) (V_aC : own_Any Z h0 aC kC .boolean (8 : Int32)) (E_aC : Exa Z h0 aC "[Z") (F_coveredCounts_a0 : Fld Z h0 a0 cCV "coveredCounts" "[I" (.ref aK)) (V_aK : own_Any Z h0 aK kK .int nK) (E_aK : Exa Z h0 aK "[I") (F_openCounts_a0 : Fld Z h0 a0 cCV "openCounts" "[I" (.ref aO)) (V_aO : own_Any Z h0 aO kO .int nK) (E_aO : Exa Z h0 aO "[I") (F_ones_a0 : Fld Z h0 a0 cCV "ones" "[I" (.ref aN)) (O_kP : OvrA Z kP .int "[I") (V_a1 : Arv Z h0 a1 k1 .int (2 : Int32) [(.int v0), (.int v1)] (.int (0 : Int32))) (E_a1 : Exa Z h0 a1 "[I") (V_a3 : own_Arf Z h0 a3 k3 .boolean nL fL) (E_a3 : Exa Z h0 a3 "[Z") (hc23 : ¬ ((v0 / (2 : Int32)) < (0 : Int32))) (hc24 : (v0 / (2 : Int32)) < nL) (hc25 : fL ((v0 / (2 : Int32))).toNatClampNeg = (.int (1 : Int32))) (hc26 : ¬ (v0 < (0 : Int32))) (hc27 : v0 < nK) (g_aO : n0 ≤ aO) (hc29 : ¬ (p2 < (0 : Int32))) (hc30 : p2 < (8 : Int32)) (hne_aK_aO : aK ≠ aO) (g_aK : n0 ≤ aK) (hne_a1_aO : a1 ≠ aO) (hne_a1_aK : a1 ≠ aK) (hc35 : ¬ ((v1 / (2 : Int32)) < (0 : Int32))) (hc36 : (v1 / (2 : Int32)) < nL) (hc37 : fL ((v1 / (2 : Int32))).toNatClampNeg = (.int (0 : Int32))) (g_aP : n0 ≤ aP) (g_aC : n0 ≤ aC) :
    MetFree l (⟨cCV, "settle", "([II[Z)V"⟩ : MethodName) (head1 (Jvm.Cond.code (⟨cCV, "settle", "([II[Z)V"⟩ : MethodName) prog_21_method_13_code 10 none :: ws) ({ frames := 2, cells := 2, slots := 3, locals := 80 } : Room)) (fun a U => a = #[(.ref a0), (.ref a1), (.int p2), (.ref a3)] ∧ Z.Warmed39 U.vm ∧ U.heap = h0) (fun _ _ _ _ _ => True) (fun _ U o U' => ∃ v L, o = .returned v ∧ Q13C Z a0 a1 p2 a3 lc rc rem aP kP fP aC kC aK kK nK aO kO aN k1 v0 v1 k3 nL fL h0 n0 v U'.heap L ∧ FrameEnd U o U' L ({ frames := 2, cells := 2, slots := 3, locals := 80 } : Room).cells ({ frames := 2, cells := 2, slots := 3, locals := 80 } : Room).slots) := by
  refine MetFree.of_bodySF (plainFor_of_name pn_com_example_headlattice_headlattice_learn_Coverage) hisR ?_
  intro p e s m args below meth c s₁ Bd hml0 hP hK
  obtain ⟨rfl, hZ, hh⟩ := hP
  have hx := Bd.exec
  have hby := Bd.bytes
  have hml : c.maxLocals = 10 := hml0
  have hown : s.vm.findClass cCV = some m.cls := findClass_of_methodNamed Bd.named
  have hnm := (name_of_methodNamed Bd.named Bd.method).1
  have X0 : Stand p l e ({ frames := 2, cells := 2, slots := 3, locals := 80 } : Room) s m #[(.ref a0), (.ref a1), (.int p2), (.ref a3)] below meth c s₁ [] 0 0 := Stand.of_body Bd
  have e0 : s₁.heap = h0 := by rw [← hh, Bd.state]; rfl
  have N0 := Fr.nil n0
  have pre0 : ∀ t, Steps p.tables e below (s₁.setTop (mkF m 0 #[vR a0, vR a1, vI p2, vR a3, .unset, .unset, .unset, .unset, .unset, .unset] [])) t → Steps p.tables e below (s₁.setTop (entryFrame m #[(.ref a0), (.ref a1), (.int p2), (.ref a3)] 10)) t := fun t k => castTop (ef_rm13C m a0 a1 p2 a3) k
  obtain ⟨cl1, Ar1, qk1, Sz1, Ng1, Hs1, Gf1⟩ := id V_a1
  obtain ⟨T2, h2, k2, X2, e2, E2, A2, x2, st2⟩ := newPE X0 hx hZ (aty := .int) (w18 hw) e0 (g := (mkF m 2 #[vR a0, vR a1, vI p2, vR a3, .unset, .unset, .unset, .unset, .unset, .unset] [(.int (2 : Int32))])) rfl (hb hby d13_2) rfl (by decide) (cap := 2) (by decide) (by decide) (by decide) (by decide) (ad := "[I") (by decide)
  obtain ⟨b2, g2⟩ : ∃ z, z = h0.size := ⟨_, rfl⟩
  rw [← g2] at A2 x2 st2
  have g_b2 : n0 ≤ b2 := Nat.le_trans Z0 (Nat.le_of_eq g2.symm)
  have sz_b2 : h0.size ≤ b2 := Nat.le_trans (Nat.le_refl _) (Nat.le_of_eq g2.symm)
  have Z2 : n0 ≤ h2.size := Nat.le_trans Z0 E2.1
  have K2 : Keep h0 h2 [aO, aK, aP, aC] := (Keep.refl h0 [aO, aK, aP, aC]).ext E2
  have E_b2 := x2
  have V_b2 : Arv Z h2 b2 k2 .int (2 : Int32) [(.int (0 : Int32)), (.int (0 : Int32))] (.int (0 : Int32)) := (Arv.new A2 (by decide)).pad (pad_rep [] (.int (0 : Int32)) 2)
  have V_a1_u3 : Arv Z h2 a1 k1 .int (2 : Int32) [(.int v0), (.int v1)] (.int (0 : Int32)) := (V_a1.ext E2)
  obtain ⟨cl4, Ar4, qk4, Sz4, Ng4, Hs4, Gf4⟩ := id V_a1_u3
  have hin5 : ¬ ((0 : Int32) < 0 ∨ cl4.slots.size ≤ ((0 : Int32)).toNatClampNeg) := inb_of Sz4 ⟨by decide, by decide⟩
  have hat6 : cl4.slots[((0 : Int32)).toNatClampNeg]? = some (.int v0) := Hs4.at hin5 rfl
  have V_a3_u7 : own_Arf Z h2 a3 k3 .boolean nL fL := (V_a3.ext E2)
  obtain ⟨cl8, Ar8, qk8, Sz8, Ng8, Hs8, Gf8⟩ := id V_a3_u7
  have hin9 : ¬ ((v0 / (2 : Int32)) < 0 ∨ cl8.slots.size ≤ ((v0 / (2 : Int32))).toNatClampNeg) := inb_of Sz8 ⟨hc23, hc24⟩
  have hat10 : cl8.slots[((v0 / (2 : Int32))).toNatClampNeg]? = some (.int (1 : Int32)) := own_at Hs8 hin9 hc25
  have F_a0_openCounts_u11 : Fld Z h2 a0 cCV "openCounts" "[I" (.ref aO) := (F_openCounts_a0.ext E2)
  obtain ⟨T12, X12, e12, st12⟩ := getF X2 hx hZ hown (host := "") (Or.inl (w21 hw)) Via.refl e2 F_a0_openCounts_u11 (g := (mkF m 44 #[vR a0, vR a1, vI p2, vR a3, vR b2, vI (0 : Int32), vR a1, vI (2 : Int32), vI (0 : Int32), vI v0] [(.ref a0)])) rfl rfl (hb hby d13_44)
  have V_aO_u13 : own_Any Z h2 aO kO .int nK := (V_aO.ext E2)
  obtain ⟨ff14, cl14, Ar14, qk14, Sz14, Ng14, Hs14, Gf14⟩ := id V_aO_u13
  have hin15 : ¬ (v0 < 0 ∨ cl14.slots.size ≤ (v0).toNatClampNeg) := inb_of Sz14 ⟨hc26, hc27⟩
  obtain ⟨lw16, hat16⟩ := own_any_at Hs14 Gf14 hin15 (Or.inl rfl)
  have hin17 : ¬ (v0 < 0 ∨ cl14.slots.size ≤ (v0).toNatClampNeg) := inb_of Sz14 ⟨hc26, hc27⟩
  obtain ⟨T18, h18, X18, e18, W18, st18⟩ := stI X12 hx hZ e12 Ar14 (j := v0) hin17 (g := (mkF m 53 #[vR a0, vR a1, vI p2, vR a3, vR b2, vI (0 : Int32), vR a1, vI (2 : Int32), vI (0 : Int32), vI v0] [(.int (lw16 - (1 : Int32))), (.int v0), (.ref aO)])) rfl rfl (hb hby d13_53)
  have K18 : Keep h0 h18 [aO, aK, aP, aC] := K2.wr W18 (Or.inl (List.mem_of_getElem? (i := 0) rfl))
  have V_aO_18 : own_Any Z h18 aO kO .int nK := ⟨_, own_Arf.set (v := (.int (lw16 - (1 : Int32)))) Ar14 qk14 Sz14 Ng14 Hs14 Gf14 rfl W18⟩
  have Z18 : n0 ≤ h18.size := Nat.le_trans Z2 (Keep.of_wr W18).1
  obtain ⟨Lg18, X18', N18⟩ := own_gen X18 (Fr.snoc X18 N0 g_aO)
  have ne_a0_aO : a0 ≠ aO := ne_exa E_a0 E_aO (by decide)
  have F_a0_covered_u19 : Fld Z h18 a0 cCV "covered" "[Z" (.ref aC) := ((F_covered_a0.ext E2).other W18 (Or.inl ne_a0_aO))
  obtain ⟨T20, X20, e20, st20⟩ := getF X18' hx hZ hown (host := "") (Or.inl (w16 hw)) Via.refl e18 F_a0_covered_u19 (g := (mkF m 55 #[vR a0, vR a1, vI p2, vR a3, vR b2, vI (0 : Int32), vR a1, vI (2 : Int32), vI (0 : Int32), vI v0] [(.ref a0)])) rfl rfl (hb hby d13_55)
  have ne_aC_aO : aC ≠ aO := ne_exa E_aC E_aO (by decide)
  have V_aC_u21 : own_Any Z h18 aC kC .boolean (8 : Int32) := ((V_aC.ext E2).other W18 ne_aC_aO)
  obtain ⟨ff22, cl22, Ar22, qk22, Sz22, Ng22, Hs22, Gf22⟩ := id V_aC_u21
  have hin23 : ¬ (p2 < 0 ∨ cl22.slots.size ≤ (p2).toNatClampNeg) := inb_of Sz22 ⟨hc29, hc30⟩
  obtain ⟨lw24, hat24⟩ := own_any_at Hs22 Gf22 hin23 (Or.inr (Or.inl rfl))
  have F_a0_coveredCounts_u25 : Fld Z h18 a0 cCV "coveredCounts" "[I" (.ref aK) := ((F_coveredCounts_a0.ext E2).other W18 (Or.inl ne_a0_aO))
  have V_aK_u26 : own_Any Z h18 aK kK .int nK := ((V_aK.ext E2).other W18 hne_aK_aO)
  have E_aK_u27 : Exa Z h18 aK "[I" := ((E_aK.ext E2).wr W18)
  obtain ⟨T28, h28c, g28, ⟨rfl, kq28, pf28_0, pf28_1⟩, ⟨Lg28, X28, e28, N28⟩, st28⟩ := sg03 l Z az hw hx hby hml hown hZ a0 (vR a1) (vI p2) (vR a3) (vR b2) (vI (0 : Int32)) (vR a1) (vI (2 : Int32)) (vI (0 : Int32)) v0 lw24 aK kK nK h18 n0 Z18 F_a0_coveredCounts_u25 V_aK_u26 E_aK_u27 g_aK hc26 hc27 T20 ⟨_, X20, e20, N18⟩
  have K28 : Keep h0 h28c [aO, aK, aP, aC] := K18.trans kq28 (allS (Or.inl (List.mem_of_getElem? (i := 1) rfl)) all0)
  have Z28 : n0 ≤ h28c.size := Nat.le_trans Z18 kq28.1
  have V_a1_u29 : Arv Z h28c a1 k1 .int (2 : Int32) [(.int v0), (.int v1)] (.int (0 : Int32)) := ((V_a1_u3.other W18 hne_a1_aO).keep kq28 (ninS hne_a1_aK nin0))
  obtain ⟨cl30, Ar30, qk30, Sz30, Ng30, Hs30, Gf30⟩ := id V_a1_u29
  have hin31 : ¬ ((1 : Int32) < 0 ∨ cl30.slots.size ≤ ((1 : Int32)).toNatClampNeg) := inb_of Sz30 ⟨by decide, by decide⟩
  have hat32 : cl30.slots[((1 : Int32)).toNatClampNeg]? = some (.int v1) := Hs30.at hin31 rfl
  have ne_a3_aO : a3 ≠ aO := ne_exa E_a3 E_aO (by decide)
  have ne_a3_aK : a3 ≠ aK := ne_exa E_a3 E_aK (by decide)
  have V_a3_u33 : own_Arf Z h28c a3 k3 .boolean nL fL := ((V_a3_u7.other W18 ne_a3_aO).keep kq28 (ninS ne_a3_aK nin0))
  obtain ⟨cl34, Ar34, qk34, Sz34, Ng34, Hs34, Gf34⟩ := id V_a3_u33
  have hin35 : ¬ ((v1 / (2 : Int32)) < 0 ∨ cl34.slots.size ≤ ((v1 / (2 : Int32))).toNatClampNeg) := inb_of Sz34 ⟨hc35, hc36⟩
  have hat36 : cl34.slots[((v1 / (2 : Int32))).toNatClampNeg]? = some (.int (0 : Int32)) := own_at Hs34 hin35 hc37
  have ne_aO_b2 : aO ≠ b2 := own_ne (Nat.lt_of_lt_of_le E_aO.lt (Nat.le_of_eq g2.symm))
  have ne_aK_b2 : aK ≠ b2 := own_ne (Nat.lt_of_lt_of_le E_aK.lt (Nat.le_of_eq g2.symm))
  have V_b2_u37 : Arv Z h28c b2 k2 .int (2 : Int32) [(.int (0 : Int32)), (.int (0 : Int32))] (.int (0 : Int32)) := ((V_b2.other W18 (Ne.symm ne_aO_b2)).keep kq28 (ninS (Ne.symm ne_aK_b2) nin0))
  obtain ⟨cl38, Ar38, qk38, Sz38, Ng38, Hs38, Gf38⟩ := id V_b2_u37
  have hin39 : ¬ ((0 : Int32) < 0 ∨ cl38.slots.size ≤ ((0 : Int32)).toNatClampNeg) := inb_of Sz38 ⟨by decide, by decide⟩
  obtain ⟨T40, h40, X40, e40, W40, st40⟩ := stI X28 hx hZ e28 Ar38 (j := (0 : Int32)) hin39 (g := (mkF m 86 #[vR a0, vR a1, vI p2, vR a3, vR b2, vI (1 : Int32), vR a1, vI (2 : Int32), vI (1 : Int32), vI v1] [(.int v1), (.int (0 : Int32)), (.ref b2)])) rfl rfl (hb hby d13_86)
  have K40 : Keep h0 h40 [aO, aK, aP, aC] := K28.wr W40 (Or.inr sz_b2)
  have V_b2_40 : Arv Z h40 b2 k2 .int (2 : Int32) [(.int v1), (.int (0 : Int32))] (.int (0 : Int32)) := Arv.set (v := (.int v1)) Ar38 qk38 Sz38 Ng38 Hs38 Gf38 rfl W40 0 rfl (Nat.le_of_ble_eq_true rfl)
  have Z40 : n0 ≤ h40.size := Nat.le_trans Z28 (Keep.of_wr W40).1
  obtain ⟨Lg40, X40', N40⟩ := own_gen X40 (Fr.snoc X40 N28 g_b2)
  have ne_a1_b2 : a1 ≠ b2 := own_ne (Nat.lt_of_lt_of_le E_a1.lt (Nat.le_of_eq g2.symm))
  have V_a1_u41 : Arv Z h40 a1 k1 .int (2 : Int32) [(.int v0), (.int v1)] (.int (0 : Int32)) := (V_a1_u29.other W40 ne_a1_b2)
  obtain ⟨cl42, Ar42, qk42, Sz42, Ng42, Hs42, Gf42⟩ := id V_a1_u41
  have ne_a0_aK : a0 ≠ aK := ne_exa E_a0 E_aK (by decide)
  have c44 : Fld Z h28c a0 cCV "pairsShared" "Z" (.int (0 : Int32)) := (((F_pairsShared_a0.ext E2).other W18 (Or.inl ne_a0_aO)).keep kq28 (ninS ne_a0_aK nin0))
  have ne_a0_b2 : a0 ≠ b2 := own_ne (Nat.lt_of_lt_of_le E_a0.lt (Nat.le_of_eq g2.symm))
  have F_a0_pairsShared_u45 : Fld Z h40 a0 cCV "pairsShared" "Z" (.int (0 : Int32)) := (c44.other W40 (Or.inl ne_a0_b2))
  have c46 : Exa Z h28c a0 cCV := (((E_a0.ext E2).wr W18).keep kq28)
  have E_a0_u47 : Exa Z h40 a0 cCV := (c46.wr W40)
  obtain ⟨cq43, q43, q43'⟩ := E_a0_u47.cell
  obtain ⟨_, _, ⟨T43, L43, k43', n43'⟩, -, X43, ⟨Lc43, hQ43, l43, y43, z43⟩, st43⟩ := X40'.privateBack hx (y := (⟨cCV, "ownPairs", "()V"⟩ : MethodName)) hown (mvT hZ (w48 hw)) (mvT hZ (w49 hw)) (own_priv (mvT hZ (w1 hw)) (Cond.privateMethod_at (mvP hZ (w50 hw) (args := #[]))) (mvT hZ (w49 hw)) (by decide)) (Cond.privateMethod_at (mvP hZ (w50 hw) (args := #[]))) (mvT hZ (w51 hw)) (by decide) (backOf (W := 0) (rm8 l Z az hw [] a0 h40 n0 Z40 F_a0_pairsShared_u45) hZ (w51 hw) (w2 hw) (by decide) (by decide)) (g := (mkF m 101 #[vR a0, vR a1, vI p2, vR a3, vR b2, vI (1 : Int32), vR a1, vI (2 : Int32), vI (2 : Int32), vI v1] [(.ref a0)])) rfl (by rw [hml]; rfl) (Steps.refl _) (a := a0) (by rw [e40]; exact q43) q43' (argsL := []) (rest := []) (lenOf pd_0 rfl) rfl (by show 2 * 0 + _ ≤ _; exact Nat.le_of_eq rfl) (hb hby d13_101) (fun _ _ => ⟨rfl, e40, (by decide : 1 + 0 ≤ _), (by decide : 2 + 0 ≤ _)⟩)
  dsimp only [Pt.U, Pt.locs, Pt.cells, Pt.slots] at X43 l43 y43 z43 st43 hQ43
  subst l43 y43 z43
  obtain ⟨rfl, N43q, e43⟩ := hQ43
  obtain ⟨Lg43, X43', N43⟩ := own_gen X43 (Fr.app N40 N43q)
  have c48 : Fld Z h28c a0 cCV "openPairs" "[[I" (.ref aP) := (((F_openPairs_a0.ext E2).other W18 (Or.inl ne_a0_aO)).keep kq28 (ninS ne_a0_aK nin0))
  have F_a0_openPairs_u49 : Fld Z h40 a0 cCV "openPairs" "[[I" (.ref aP) := (c48.other W40 (Or.inl ne_a0_b2))
  obtain ⟨T50, X50, e50, st50⟩ := getF X43' hx hZ hown (host := "") (Or.inl (w13 hw)) Via.refl e43 F_a0_openPairs_u49 (g := (mkF m 105 #[vR a0, vR a1, vI p2, vR a3, vR b2, vI (1 : Int32), vR a1, vI (2 : Int32), vI (2 : Int32), vI v1] [(.ref a0)])) rfl rfl (hb hby d13_105)
  have E_b2_u52 : Exa Z h40 b2 "[I" := (((E_b2.wr W18).keep kq28).wr W40)
  obtain ⟨_, _, ⟨T51, L51, k51', n51'⟩, -, X51, ⟨Lc51, hQ51, l51, y51, z51⟩, st51⟩ := Jvm.LawKit.callS X50 hx (y := (⟨"java/util/Arrays", "copyOf", "([II)[I"⟩ : MethodName)) hown (mvT hZ (w79 hw)) (mvT hZ (w80 hw)) (mvT hZ (w81 hw)) (mvT hZ (w82 hw)) (by decide) (backOf (W := 2) (rm14b l Z az hw [] b2 k2 v1 (0 : Int32) h40 n0 Z40 V_b2_40 E_b2_u52) hZ (w82 hw) (w81 hw) (by decide) (by decide)) (g := (mkF m 113 #[vR a0, vR a1, vI p2, vR a3, vR b2, vI (1 : Int32), vR a1, vI (2 : Int32), vI (2 : Int32), vI v1] [(.int (1 : Int32)), (.ref b2), (.int p2), (.ref aP)])) rfl (by rw [hml]; rfl) (argsL := [(.ref b2), (.int (1 : Int32))]) (rest := [(.int p2), (.ref aP)]) (lenOf pd_2 rfl) rfl (by show 2 * 0 + _ ≤ _; exact Nat.le_of_eq rfl) (hb hby d13_113) (fun _ _ => ⟨rfl, e50, (by decide : 1 + 1 ≤ _), (by decide : 2 + 1 ≤ _)⟩)
  dsimp only [Pt.U, Pt.locs, Pt.cells, Pt.slots] at X51 l51 y51 z51 st51 hQ51
  subst l51 y51 z51
  obtain ⟨b51_0, kk51_0, rfl, N51q, s51_0, kq51, pf51_0, pf51_1⟩ := hQ51
  obtain ⟨Lg51, X51', N51⟩ := own_gen X51 (Fr.app N43 N51q)
  have g_b51_0 : n0 ≤ b51_0 := Nat.le_trans Z40 s51_0
  have sz_b51_0 : h0.size ≤ b51_0 := Nat.le_trans K40.1 s51_0
  have K51 : Keep h0 T51.heap [aO, aK, aP, aC] := K40.trans kq51 all0
  have Z51 : n0 ≤ T51.heap.size := Nat.le_trans Z40 kq51.1
  have ne_aP_aO : aP ≠ aO := ne_exa E_aP E_aO (by decide)
  have ne_aP_aK : aP ≠ aK := ne_exa E_aP E_aK (by decide)
  have c53 : own_Arf Z h28c aP kP (.array .int) (8 : Int32) fP := (((V_aP.ext E2).other W18 ne_aP_aO).keep kq28 (ninS ne_aP_aK nin0))
  have ne_aP_b2 : aP ≠ b2 := own_ne (Nat.lt_of_lt_of_le E_aP.lt (Nat.le_of_eq g2.symm))
  have V_aP_u54 : own_Arf Z T51.heap aP kP (.array .int) (8 : Int32) fP := ((c53.other W40 ne_aP_b2).keep kq51 nin0)
  obtain ⟨cl55, Ar55, qk55, Sz55, Ng55, Hs55, Gf55⟩ := id V_aP_u54
  have hin56 : ¬ (p2 < 0 ∨ cl55.slots.size ≤ (p2).toNatClampNeg) := inb_of Sz55 ⟨hc29, hc30⟩
  obtain ⟨T57, h57, X57, e57, W57, st57⟩ := stR X51' hx hZ rfl Ar55 (j := p2) hin56 rfl (Sto.ofVA Ar55 qk55 O_kP (Ins.self pf51_0)) (g := (mkF m 116 #[vR a0, vR a1, vI p2, vR a3, vR b2, vI (1 : Int32), vR a1, vI (2 : Int32), vI (2 : Int32), vI v1] [(.ref b51_0), (.int p2), (.ref aP)])) rfl rfl (hb hby d13_116)
  have K57 : Keep h0 h57 [aO, aK, aP, aC] := K51.wr W57 (Or.inl (List.mem_of_getElem? (i := 2) rfl))
  have V_aP_57 : own_Arf Z h57 aP kP (.array .int) (8 : Int32) (own_upd fP (p2).toNatClampNeg (.ref b51_0)) := own_Arf.set (v := (.ref b51_0)) Ar55 qk55 Sz55 Ng55 Hs55 Gf55 rfl W57
  have Z57 : n0 ≤ h57.size := Nat.le_trans Z51 (Keep.of_wr W57).1
  obtain ⟨Lg57, X57', N57⟩ := own_gen X57 (Fr.snoc X57 N51 g_aP)
  have c58 : Fld Z T51.heap a0 cCV "covered" "[Z" (.ref aC) := (((F_a0_covered_u19.keep kq28 (ninS ne_a0_aK nin0)).other W40 (Or.inl ne_a0_b2)).keep kq51 nin0)
  have ne_a0_aP : a0 ≠ aP := ne_exa E_a0 E_aP (by decide)
  have F_a0_covered_u59 : Fld Z h57 a0 cCV "covered" "[Z" (.ref aC) := (c58.other W57 (Or.inl ne_a0_aP))
  obtain ⟨T60, X60, e60, st60⟩ := getF X57' hx hZ hown (host := "") (Or.inl (w16 hw)) Via.refl e57 F_a0_covered_u59 (g := (mkF m 118 #[vR a0, vR a1, vI p2, vR a3, vR b2, vI (1 : Int32), vR a1, vI (2 : Int32), vI (2 : Int32), vI v1] [(.ref a0)])) rfl rfl (hb hby d13_118)
  obtain ⟨T61, X61, e61, st61⟩ := getF X60 hx hZ hown (host := "") (Or.inl (w16 hw)) Via.refl e60 F_a0_covered_u59 (g := (mkF m 123 #[vR a0, vR a1, vI p2, vR a3, vR b2, vI (1 : Int32), vR a1, vI (2 : Int32), vI (2 : Int32), vI v1] [(.ref a0), (.int p2), (.ref aC)])) rfl rfl (hb hby d13_123)
  have ne_aC_aK : aC ≠ aK := ne_exa E_aC E_aK (by decide)
  have ne_aC_b2 : aC ≠ b2 := own_ne (Nat.lt_of_lt_of_le E_aC.lt (Nat.le_of_eq g2.symm))
  have c62 : own_Any Z T51.heap aC kC .boolean (8 : Int32) := (((V_aC_u21.keep kq28 (ninS ne_aC_aK nin0)).other W40 ne_aC_b2).keep kq51 nin0)
  have ne_aC_aP : aC ≠ aP := ne_exa E_aC E_aP (by decide)
  have V_aC_u63 : own_Any Z h57 aC kC .boolean (8 : Int32) := (c62.other W57 ne_aC_aP)
  obtain ⟨ff64, cl64, Ar64, qk64, Sz64, Ng64, Hs64, Gf64⟩ := id V_aC_u63
  have hin65 : ¬ (p2 < 0 ∨ cl64.slots.size ≤ (p2).toNatClampNeg) := inb_of Sz64 ⟨hc29, hc30⟩
  obtain ⟨lw66, hat66⟩ := own_any_at Hs64 Gf64 hin65 (Or.inr (Or.inl rfl))
  have c67 : Exa Z h28c aC "[Z" := (((E_aC.ext E2).wr W18).keep kq28)
  have E_aC_u68 : Exa Z h57 aC "[Z" := (((c67.wr W40).keep kq51).wr W57)
  obtain ⟨T69, h69c, g69, ⟨rfl, kq69, pf69_0, pf69_1⟩, ⟨Lg69, X69, e69, N69⟩, st69⟩ := sg41 l Z az hw hx hby hml hown hZ (vR a0) (vR a1) (vI p2) (vR a3) (vR b2) (vR a1) (vI (2 : Int32)) (vI (2 : Int32)) (vI v1) lw66 p2 aC kC h57 n0 Z57 V_aC_u63 E_aC_u68 g_aC hc29 hc30 T61 ⟨_, X61, e61, N57⟩
  have K69 : Keep h0 h69c [aO, aK, aP, aC] := K57.trans kq69 (allS (Or.inl (List.mem_of_getElem? (i := 3) rfl)) all0)
  have Z69 : n0 ≤ h69c.size := Nat.le_trans Z57 kq69.1
  have c70 : own_Any Z T51.heap aO kO .int nK := (((V_aO_18.keep kq28 (ninS (Ne.symm hne_aK_aO) nin0)).other W40 ne_aO_b2).keep kq51 nin0)
  have ne_aO_aP : aO ≠ aP := ne_exa E_aO E_aP (by decide)
  have ne_aO_aC : aO ≠ aC := ne_exa E_aO E_aC (by decide)
  have V_aO_u71 : own_Any Z h69c aO kO .int nK := ((c70.other W57 ne_aO_aP).keep kq69 (ninS ne_aO_aC nin0))
  have c72 : Exa Z h28c aO "[I" := (((E_aO.ext E2).wr W18).keep kq28)
  have c73 : Exa Z h57 aO "[I" := (((c72.wr W40).keep kq51).wr W57)
  have E_aO_u74 : Exa Z h69c aO "[I" := (c73.keep kq69)
  have c75 : Exa Z h57 aK "[I" := (((pf28_1.wr W40).keep kq51).wr W57)
  have E_aK_u76 : Exa Z h69c aK "[I" := (c75.keep kq69)
  have ne_aK_aP : aK ≠ aP := ne_exa E_aK E_aP (by decide)
  have c77 : own_Any Z h57 aK kK .int nK := (((pf28_0.other W40 ne_aK_b2).keep kq51 nin0).other W57 ne_aK_aP)
  have ne_aK_aC : aK ≠ aC := ne_exa E_aK E_aC (by decide)
  have V_aK_u78 : own_Any Z h69c aK kK .int nK := (c77.keep kq69 (ninS ne_aK_aC nin0))
  have ne_aP_aC : aP ≠ aC := ne_exa E_aP E_aC (by decide)
  have V_aP_u79 : own_Arf Z h69c aP kP (.array .int) (8 : Int32) (own_upd fP (p2).toNatClampNeg (.ref b51_0)) := (V_aP_57.keep kq69 (ninS ne_aP_aC nin0))
  have c80 : Exa Z h28c aP "[[I" := (((E_aP.ext E2).wr W18).keep kq28)
  have c81 : Exa Z h57 aP "[[I" := (((c80.wr W40).keep kq51).wr W57)
  have E_aP_u82 : Exa Z h69c aP "[[I" := (c81.keep kq69)
  have E_b51_0_u83 : Exa Z h69c b51_0 "[I" := ((pf51_0.wr W57).keep kq69)
  have ne_aP_b51_0 : aP ≠ b51_0 := own_ne (Nat.lt_of_lt_of_le (c80.wr W40).lt s51_0)
  have ne_aC_b51_0 : aC ≠ b51_0 := own_ne (Nat.lt_of_lt_of_le (c67.wr W40).lt s51_0)
  have V_b51_0_u84 : Arv Z h69c b51_0 kk51_0 .int (1 : Int32) [(.int v1)] (.int (0 : Int32)) := ((pf51_1.other W57 (Ne.symm ne_aP_b51_0)).keep kq69 (ninS (Ne.symm ne_aC_b51_0) nin0))
  obtain ⟨fs, hr, hrun, hended, hW, hsame⟩ := X69.leave (v := none) (fun _ => rfl)
  refine ⟨_, _, pre0 _ ?_, hrun, hended, _, _, rfl, ?_, ⟨_, rfl⟩, hW, hsame.mono (by decide) (by decide)⟩
  · show Steps p.tables e below (s₁.setTop (mkF m 0 #[vR a0, vR a1, vI p2, vR a3, .unset, .unset, .unset, .unset, .unset, .unset] [])) _
    refine XS.aloadN X0.here hx rfl (hb hby d13_0) rfl rfl ?_
    show Steps p.tables e below (s₁.setTop (mkF m 1 #[vR a0, vR a1, vI p2, vR a3, .unset, .unset, .unset, .unset, .unset, .unset] [(.ref a1)])) _
    refine X0.arraylength hx (by rw [e0]; exact Ar1.1) (State.isArrayOf_alike hZ.alike Ar1.2.1) (g := (mkF m 1 #[vR a0, vR a1, vI p2, vR a3, .unset, .unset, .unset, .unset, .unset, .unset] [(.ref a1)])) rfl rfl (hb hby d13_1) _ ?_
    rw [len_of Sz1 Ng1]
    show Steps p.tables e below (s₁.setTop (mkF m 2 #[vR a0, vR a1, vI p2, vR a3, .unset, .unset, .unset, .unset, .unset, .unset] [(.int (2 : Int32))])) _
    refine st2 _ ?_
    show Steps p.tables e below (T2.setTop (mkF m 4 #[vR a0, vR a1, vI p2, vR a3, .unset, .unset, .unset, .unset, .unset, .unset] [(.ref b2)])) _
    refine XS.astore X2.here hx rfl (hb hby d13_4) rfl rfl (l' := #[vR a0, vR a1, vI p2, vR a3, vR b2, .unset, .unset, .unset, .unset, .unset]) rfl ?_
    refine XS.iconst X2.here hx rfl (hb hby d13_6) ?_
    refine XS.istore X2.here hx rfl (hb hby d13_7) rfl (l' := #[vR a0, vR a1, vI p2, vR a3, vR b2, vI (0 : Int32), .unset, .unset, .unset, .unset]) rfl ?_
    refine XS.aloadN X2.here hx rfl (hb hby d13_9) rfl rfl ?_
    refine XS.astore X2.here hx rfl (hb hby d13_10) rfl rfl (l' := #[vR a0, vR a1, vI p2, vR a3, vR b2, vI (0 : Int32), vR a1, .unset, .unset, .unset]) rfl ?_
    refine XS.aload X2.here hx rfl (hb hby d13_12) rfl rfl ?_
    show Steps p.tables e below (T2.setTop (mkF m 14 #[vR a0, vR a1, vI p2, vR a3, vR b2, vI (0 : Int32), vR a1, .unset, .unset, .unset] [(.ref a1)])) _
    refine X2.arraylength hx (by rw [e2]; exact Ar4.1) (State.isArrayOf_alike hZ.alike Ar4.2.1) (g := (mkF m 14 #[vR a0, vR a1, vI p2, vR a3, vR b2, vI (0 : Int32), vR a1, .unset, .unset, .unset] [(.ref a1)])) rfl rfl (hb hby d13_14) _ ?_
    rw [len_of Sz4 Ng4]
    show Steps p.tables e below (T2.setTop (mkF m 15 #[vR a0, vR a1, vI p2, vR a3, vR b2, vI (0 : Int32), vR a1, .unset, .unset, .unset] [(.int (2 : Int32))])) _
    refine XS.istore X2.here hx rfl (hb hby d13_15) rfl (l' := #[vR a0, vR a1, vI p2, vR a3, vR b2, vI (0 : Int32), vR a1, vI (2 : Int32), .unset, .unset]) rfl ?_
    refine XS.iconst X2.here hx rfl (hb hby d13_17) ?_
    refine XS.istore X2.here hx rfl (hb hby d13_18) rfl (l' := #[vR a0, vR a1, vI p2, vR a3, vR b2, vI (0 : Int32), vR a1, vI (2 : Int32), vI (0 : Int32), .unset]) rfl ?_
    refine XS.iload X2.here hx rfl (hb hby d13_20) rfl ?_
    refine XS.iload X2.here hx rfl (hb hby d13_22) rfl ?_
    refine XS.icmpNo X2.here hx rfl (hb hby d13_24) rfl (tlt (by decide : (0 : Int32) < (2 : Int32))).2.1 ?_
    refine XS.aload X2.here hx rfl (hb hby d13_27) rfl rfl ?_
    refine XS.iload X2.here hx rfl (hb hby d13_29) rfl ?_
    show Steps p.tables e below (T2.setTop (mkF m 31 #[vR a0, vR a1, vI p2, vR a3, vR b2, vI (0 : Int32), vR a1, vI (2 : Int32), vI (0 : Int32), .unset] [(.int (0 : Int32)), (.ref a1)])) _
    refine X2.iaload hx (j := (0 : Int32)) (v := (.int v0)) (by rw [e2]; exact Ar4.1) (State.isArrayOf_alike hZ.alike Ar4.2.1) Ar4.2.2 hin5 hat6 (g := (mkF m 31 #[vR a0, vR a1, vI p2, vR a3, vR b2, vI (0 : Int32), vR a1, vI (2 : Int32), vI (0 : Int32), .unset] [(.int (0 : Int32)), (.ref a1)])) rfl rfl (hb hby d13_31) _ ?_
    show Steps p.tables e below (T2.setTop (mkF m 32 #[vR a0, vR a1, vI p2, vR a3, vR b2, vI (0 : Int32), vR a1, vI (2 : Int32), vI (0 : Int32), .unset] [(.int v0)])) _
    refine XS.istore X2.here hx rfl (hb hby d13_32) rfl (l' := #[vR a0, vR a1, vI p2, vR a3, vR b2, vI (0 : Int32), vR a1, vI (2 : Int32), vI (0 : Int32), vI v0]) rfl ?_
    refine XS.aloadN X2.here hx rfl (hb hby d13_34) rfl rfl ?_
    refine XS.iload X2.here hx rfl (hb hby d13_35) rfl ?_
    refine XS.iconst X2.here hx rfl (hb hby d13_37) ?_
    show Steps p.tables e below (T2.setTop (mkF m 38 #[vR a0, vR a1, vI p2, vR a3, vR b2, vI (0 : Int32), vR a1, vI (2 : Int32), vI (0 : Int32), vI v0] [(.int (2 : Int32)), (.int v0), (.ref a3)])) _
    refine XS.idiv X2.here hx rfl (hb hby d13_38) rfl (by decide) ?_
    show Steps p.tables e below (T2.setTop (mkF m 39 #[vR a0, vR a1, vI p2, vR a3, vR b2, vI (0 : Int32), vR a1, vI (2 : Int32), vI (0 : Int32), vI v0] [(.int (v0 / (2 : Int32))), (.ref a3)])) _
    refine X2.baloadBooleans hx (j := (v0 / (2 : Int32))) (v := (.int (1 : Int32))) (by rw [e2]; exact Ar8.1) (State.isArrayOf_alike hZ.alike Ar8.2.1) Ar8.2.2 hin9 hat10 (g := (mkF m 39 #[vR a0, vR a1, vI p2, vR a3, vR b2, vI (0 : Int32), vR a1, vI (2 : Int32), vI (0 : Int32), vI v0] [(.int (v0 / (2 : Int32))), (.ref a3)])) rfl rfl (hb hby d13_39) _ ?_
    show Steps p.tables e below (T2.setTop (mkF m 40 #[vR a0, vR a1, vI p2, vR a3, vR b2, vI (0 : Int32), vR a1, vI (2 : Int32), vI (0 : Int32), vI v0] [(.int (1 : Int32))])) _
    refine XS.ifNo X2.here hx rfl (hb hby d13_40) rfl ((if0 _ _).trans (feq (by decide : ¬ ((1 : Int32) = (0 : Int32)))).1) ?_
    refine XS.aloadN X2.here hx rfl (hb hby d13_43) rfl rfl ?_
    show Steps p.tables e below (T2.setTop (mkF m 44 #[vR a0, vR a1, vI p2, vR a3, vR b2, vI (0 : Int32), vR a1, vI (2 : Int32), vI (0 : Int32), vI v0] [(.ref a0)])) _
    refine st12 _ ?_
    show Steps p.tables e below (T12.setTop (mkF m 47 #[vR a0, vR a1, vI p2, vR a3, vR b2, vI (0 : Int32), vR a1, vI (2 : Int32), vI (0 : Int32), vI v0] [(.ref aO)])) _
    refine XS.iload X12.here hx rfl (hb hby d13_47) rfl ?_
    show Steps p.tables e below (T12.setTop (mkF m 49 #[vR a0, vR a1, vI p2, vR a3, vR b2, vI (0 : Int32), vR a1, vI (2 : Int32), vI (0 : Int32), vI v0] [(.int v0), (.ref aO)])) _
    refine Jvm.Free.XT.dup2 X12.here hx rfl (hb hby d13_49) rfl rfl rfl ?_
    show Steps p.tables e below (T12.setTop (mkF m 50 #[vR a0, vR a1, vI p2, vR a3, vR b2, vI (0 : Int32), vR a1, vI (2 : Int32), vI (0 : Int32), vI v0] [(.int v0), (.ref aO), (.int v0), (.ref aO)])) _
    refine X12.iaload hx (j := v0) (v := (.int lw16)) (by rw [e12]; exact Ar14.1) (State.isArrayOf_alike hZ.alike Ar14.2.1) Ar14.2.2 hin15 hat16 (g := (mkF m 50 #[vR a0, vR a1, vI p2, vR a3, vR b2, vI (0 : Int32), vR a1, vI (2 : Int32), vI (0 : Int32), vI v0] [(.int v0), (.ref aO), (.int v0), (.ref aO)])) rfl rfl (hb hby d13_50) _ ?_
    show Steps p.tables e below (T12.setTop (mkF m 51 #[vR a0, vR a1, vI p2, vR a3, vR b2, vI (0 : Int32), vR a1, vI (2 : Int32), vI (0 : Int32), vI v0] [(.int lw16), (.int v0), (.ref aO)])) _
    refine XS.iconst X12.here hx rfl (hb hby d13_51) ?_
    refine XS.isub X12.here hx rfl (hb hby d13_52) rfl ?_
    show Steps p.tables e below (T12.setTop (mkF m 53 #[vR a0, vR a1, vI p2, vR a3, vR b2, vI (0 : Int32), vR a1, vI (2 : Int32), vI (0 : Int32), vI v0] [(.int (lw16 - (1 : Int32))), (.int v0), (.ref aO)])) _
    refine st18 _ ?_
    show Steps p.tables e below (T18.setTop (mkF m 54 #[vR a0, vR a1, vI p2, vR a3, vR b2, vI (0 : Int32), vR a1, vI (2 : Int32), vI (0 : Int32), vI v0] [])) _
    refine XS.aloadN X18'.here hx rfl (hb hby d13_54) rfl rfl ?_
    show Steps p.tables e below (T18.setTop (mkF m 55 #[vR a0, vR a1, vI p2, vR a3, vR b2, vI (0 : Int32), vR a1, vI (2 : Int32), vI (0 : Int32), vI v0] [(.ref a0)])) _
    refine st20 _ ?_
    show Steps p.tables e below (T20.setTop (mkF m 58 #[vR a0, vR a1, vI p2, vR a3, vR b2, vI (0 : Int32), vR a1, vI (2 : Int32), vI (0 : Int32), vI v0] [(.ref aC)])) _
    refine XS.iloadN X20.here hx rfl (hb hby d13_58) rfl ?_
    show Steps p.tables e below (T20.setTop (mkF m 59 #[vR a0, vR a1, vI p2, vR a3, vR b2, vI (0 : Int32), vR a1, vI (2 : Int32), vI (0 : Int32), vI v0] [(.int p2), (.ref aC)])) _
    refine X20.baloadBooleans hx (j := p2) (v := (.int lw24)) (by rw [e20]; exact Ar22.1) (State.isArrayOf_alike hZ.alike Ar22.2.1) Ar22.2.2 hin23 hat24 (g := (mkF m 59 #[vR a0, vR a1, vI p2, vR a3, vR b2, vI (0 : Int32), vR a1, vI (2 : Int32), vI (0 : Int32), vI v0] [(.int p2), (.ref aC)])) rfl rfl (hb hby d13_59) _ ?_
    show Steps p.tables e below (T20.setTop (mkF m 60 #[vR a0, vR a1, vI p2, vR a3, vR b2, vI (0 : Int32), vR a1, vI (2 : Int32), vI (0 : Int32), vI v0] [(.int lw24)])) _
    refine st28 _ ?_
    show Steps p.tables e below (T28.setTop (mkF m 87 #[vR a0, vR a1, vI p2, vR a3, vR b2, vI (0 : Int32), vR a1, vI (2 : Int32), vI (0 : Int32), vI v0] [])) _
    refine XS.iinc X28.here hx rfl (hb hby d13_87) rfl (l' := #[vR a0, vR a1, vI p2, vR a3, vR b2, vI (0 : Int32), vR a1, vI (2 : Int32), vI (1 : Int32), vI v0]) rfl ?_
    refine XS.goto X28.here hx rfl (pc0 := 90) (pc' := 20) rfl (hb hby d13_90) (by decide) (by decide) ?_
    refine XS.iload X28.here hx rfl (hb hby d13_20) rfl ?_
    refine XS.iload X28.here hx rfl (hb hby d13_22) rfl ?_
    refine XS.icmpNo X28.here hx rfl (hb hby d13_24) rfl (tlt (by decide : (1 : Int32) < (2 : Int32))).2.1 ?_
    refine XS.aload X28.here hx rfl (hb hby d13_27) rfl rfl ?_
    refine XS.iload X28.here hx rfl (hb hby d13_29) rfl ?_
    show Steps p.tables e below (T28.setTop (mkF m 31 #[vR a0, vR a1, vI p2, vR a3, vR b2, vI (0 : Int32), vR a1, vI (2 : Int32), vI (1 : Int32), vI v0] [(.int (1 : Int32)), (.ref a1)])) _
    refine X28.iaload hx (j := (1 : Int32)) (v := (.int v1)) (by rw [e28]; exact Ar30.1) (State.isArrayOf_alike hZ.alike Ar30.2.1) Ar30.2.2 hin31 hat32 (g := (mkF m 31 #[vR a0, vR a1, vI p2, vR a3, vR b2, vI (0 : Int32), vR a1, vI (2 : Int32), vI (1 : Int32), vI v0] [(.int (1 : Int32)), (.ref a1)])) rfl rfl (hb hby d13_31) _ ?_
    show Steps p.tables e below (T28.setTop (mkF m 32 #[vR a0, vR a1, vI p2, vR a3, vR b2, vI (0 : Int32), vR a1, vI (2 : Int32), vI (1 : Int32), vI v0] [(.int v1)])) _
    refine XS.istore X28.here hx rfl (hb hby d13_32) rfl (l' := #[vR a0, vR a1, vI p2, vR a3, vR b2, vI (0 : Int32), vR a1, vI (2 : Int32), vI (1 : Int32), vI v1]) rfl ?_
    refine XS.aloadN X28.here hx rfl (hb hby d13_34) rfl rfl ?_
    refine XS.iload X28.here hx rfl (hb hby d13_35) rfl ?_
    refine XS.iconst X28.here hx rfl (hb hby d13_37) ?_
    show Steps p.tables e below (T28.setTop (mkF m 38 #[vR a0, vR a1, vI p2, vR a3, vR b2, vI (0 : Int32), vR a1, vI (2 : Int32), vI (1 : Int32), vI v1] [(.int (2 : Int32)), (.int v1), (.ref a3)])) _
    refine XS.idiv X28.here hx rfl (hb hby d13_38) rfl (by decide) ?_
    show Steps p.tables e below (T28.setTop (mkF m 39 #[vR a0, vR a1, vI p2, vR a3, vR b2, vI (0 : Int32), vR a1, vI (2 : Int32), vI (1 : Int32), vI v1] [(.int (v1 / (2 : Int32))), (.ref a3)])) _
    refine X28.baloadBooleans hx (j := (v1 / (2 : Int32))) (v := (.int (0 : Int32))) (by rw [e28]; exact Ar34.1) (State.isArrayOf_alike hZ.alike Ar34.2.1) Ar34.2.2 hin35 hat36 (g := (mkF m 39 #[vR a0, vR a1, vI p2, vR a3, vR b2, vI (0 : Int32), vR a1, vI (2 : Int32), vI (1 : Int32), vI v1] [(.int (v1 / (2 : Int32))), (.ref a3)])) rfl rfl (hb hby d13_39) _ ?_
    show Steps p.tables e below (T28.setTop (mkF m 40 #[vR a0, vR a1, vI p2, vR a3, vR b2, vI (0 : Int32), vR a1, vI (2 : Int32), vI (1 : Int32), vI v1] [(.int (0 : Int32))])) _
    refine XS.ifYes X28.here hx rfl (pc0 := 40) (pc' := 77) rfl (hb hby d13_40) rfl ((if0 _ _).trans (teq (by decide : (0 : Int32) = (0 : Int32))).1) (by decide) (by decide) ?_
    refine XS.aload X28.here hx rfl (hb hby d13_77) rfl rfl ?_
    refine XS.iload X28.here hx rfl (hb hby d13_79) rfl ?_
    refine XS.iinc X28.here hx rfl (hb hby d13_81) rfl (l' := #[vR a0, vR a1, vI p2, vR a3, vR b2, vI (1 : Int32), vR a1, vI (2 : Int32), vI (1 : Int32), vI v1]) rfl ?_
    refine XS.iload X28.here hx rfl (hb hby d13_84) rfl ?_
    show Steps p.tables e below (T28.setTop (mkF m 86 #[vR a0, vR a1, vI p2, vR a3, vR b2, vI (1 : Int32), vR a1, vI (2 : Int32), vI (1 : Int32), vI v1] [(.int v1), (.int (0 : Int32)), (.ref b2)])) _
    refine st40 _ ?_
    show Steps p.tables e below (T40.setTop (mkF m 87 #[vR a0, vR a1, vI p2, vR a3, vR b2, vI (1 : Int32), vR a1, vI (2 : Int32), vI (1 : Int32), vI v1] [])) _
    refine XS.iinc X40'.here hx rfl (hb hby d13_87) rfl (l' := #[vR a0, vR a1, vI p2, vR a3, vR b2, vI (1 : Int32), vR a1, vI (2 : Int32), vI (2 : Int32), vI v1]) rfl ?_
    refine XS.goto X40'.here hx rfl (pc0 := 90) (pc' := 20) rfl (hb hby d13_90) (by decide) (by decide) ?_
    refine XS.iload X40'.here hx rfl (hb hby d13_20) rfl ?_
    refine XS.iload X40'.here hx rfl (hb hby d13_22) rfl ?_
    refine XS.icmpYes X40'.here hx rfl (pc0 := 24) (pc' := 93) rfl (hb hby d13_24) rfl (flt (by decide : ¬ ((2 : Int32) < (2 : Int32)))).2.1 (by decide) (by decide) ?_
    refine XS.iload X40'.here hx rfl (hb hby d13_93) rfl ?_
    refine XS.aloadN X40'.here hx rfl (hb hby d13_95) rfl rfl ?_
    show Steps p.tables e below (T40.setTop (mkF m 96 #[vR a0, vR a1, vI p2, vR a3, vR b2, vI (1 : Int32), vR a1, vI (2 : Int32), vI (2 : Int32), vI v1] [(.ref a1), (.int (1 : Int32))])) _
    refine X40'.arraylength hx (by rw [e40]; exact Ar42.1) (State.isArrayOf_alike hZ.alike Ar42.2.1) (g := (mkF m 96 #[vR a0, vR a1, vI p2, vR a3, vR b2, vI (1 : Int32), vR a1, vI (2 : Int32), vI (2 : Int32), vI v1] [(.ref a1), (.int (1 : Int32))])) rfl rfl (hb hby d13_96) _ ?_
    rw [len_of Sz42 Ng42]
    show Steps p.tables e below (T40.setTop (mkF m 97 #[vR a0, vR a1, vI p2, vR a3, vR b2, vI (1 : Int32), vR a1, vI (2 : Int32), vI (2 : Int32), vI v1] [(.int (2 : Int32)), (.int (1 : Int32))])) _
    refine XS.icmpNo X40'.here hx rfl (hb hby d13_97) rfl (tlt (by decide : (1 : Int32) < (2 : Int32))).2.1 ?_
    refine XS.aloadN X40'.here hx rfl (hb hby d13_100) rfl rfl ?_
    show Steps p.tables e below (T40.setTop (mkF m 101 #[vR a0, vR a1, vI p2, vR a3, vR b2, vI (1 : Int32), vR a1, vI (2 : Int32), vI (2 : Int32), vI v1] [(.ref a0)])) _
    refine st43.trans ?_
    show Steps p.tables e below (T43.setTop (mkF m 104 #[vR a0, vR a1, vI p2, vR a3, vR b2, vI (1 : Int32), vR a1, vI (2 : Int32), vI (2 : Int32), vI v1] [])) _
    refine XS.aloadN X43'.here hx rfl (hb hby d13_104) rfl rfl ?_
    show Steps p.tables e below (T43.setTop (mkF m 105 #[vR a0, vR a1, vI p2, vR a3, vR b2, vI (1 : Int32), vR a1, vI (2 : Int32), vI (2 : Int32), vI v1] [(.ref a0)])) _
    refine st50 _ ?_
    show Steps p.tables e below (T50.setTop (mkF m 108 #[vR a0, vR a1, vI p2, vR a3, vR b2, vI (1 : Int32), vR a1, vI (2 : Int32), vI (2 : Int32), vI v1] [(.ref aP)])) _
    refine XS.iloadN X50.here hx rfl (hb hby d13_108) rfl ?_
    refine XS.aload X50.here hx rfl (hb hby d13_109) rfl rfl ?_
    refine XS.iload X50.here hx rfl (hb hby d13_111) rfl ?_
    show Steps p.tables e below (T50.setTop (mkF m 113 #[vR a0, vR a1, vI p2, vR a3, vR b2, vI (1 : Int32), vR a1, vI (2 : Int32), vI (2 : Int32), vI v1] [(.int (1 : Int32)), (.ref b2), (.int p2), (.ref aP)])) _
    refine st51 _ ?_
    show Steps p.tables e below (T51.setTop (mkF m 116 #[vR a0, vR a1, vI p2, vR a3, vR b2, vI (1 : Int32), vR a1, vI (2 : Int32), vI (2 : Int32), vI v1] [(.ref b51_0), (.int p2), (.ref aP)])) _
    refine st57 _ ?_
    show Steps p.tables e below (T57.setTop (mkF m 117 #[vR a0, vR a1, vI p2, vR a3, vR b2, vI (1 : Int32), vR a1, vI (2 : Int32), vI (2 : Int32), vI v1] [])) _
    refine XS.aloadN X57'.here hx rfl (hb hby d13_117) rfl rfl ?_
    show Steps p.tables e below (T57.setTop (mkF m 118 #[vR a0, vR a1, vI p2, vR a3, vR b2, vI (1 : Int32), vR a1, vI (2 : Int32), vI (2 : Int32), vI v1] [(.ref a0)])) _
    refine st60 _ ?_
    show Steps p.tables e below (T60.setTop (mkF m 121 #[vR a0, vR a1, vI p2, vR a3, vR b2, vI (1 : Int32), vR a1, vI (2 : Int32), vI (2 : Int32), vI v1] [(.ref aC)])) _
    refine XS.iloadN X60.here hx rfl (hb hby d13_121) rfl ?_
    refine XS.aloadN X60.here hx rfl (hb hby d13_122) rfl rfl ?_
    show Steps p.tables e below (T60.setTop (mkF m 123 #[vR a0, vR a1, vI p2, vR a3, vR b2, vI (1 : Int32), vR a1, vI (2 : Int32), vI (2 : Int32), vI v1] [(.ref a0), (.int p2), (.ref aC)])) _
    refine st61 _ ?_
    show Steps p.tables e below (T61.setTop (mkF m 126 #[vR a0, vR a1, vI p2, vR a3, vR b2, vI (1 : Int32), vR a1, vI (2 : Int32), vI (2 : Int32), vI v1] [(.ref aC), (.int p2), (.ref aC)])) _
    refine XS.iloadN X61.here hx rfl (hb hby d13_126) rfl ?_
    show Steps p.tables e below (T61.setTop (mkF m 127 #[vR a0, vR a1, vI p2, vR a3, vR b2, vI (1 : Int32), vR a1, vI (2 : Int32), vI (2 : Int32), vI v1] [(.int p2), (.ref aC), (.int p2), (.ref aC)])) _
    refine X61.baloadBooleans hx (j := p2) (v := (.int lw66)) (by rw [e61]; exact Ar64.1) (State.isArrayOf_alike hZ.alike Ar64.2.1) Ar64.2.2 hin65 hat66 (g := (mkF m 127 #[vR a0, vR a1, vI p2, vR a3, vR b2, vI (1 : Int32), vR a1, vI (2 : Int32), vI (2 : Int32), vI v1] [(.int p2), (.ref aC), (.int p2), (.ref aC)])) rfl rfl (hb hby d13_127) _ ?_
    show Steps p.tables e below (T61.setTop (mkF m 128 #[vR a0, vR a1, vI p2, vR a3, vR b2, vI (1 : Int32), vR a1, vI (2 : Int32), vI (2 : Int32), vI v1] [(.int lw66), (.int p2), (.ref aC)])) _
    refine st69 _ ?_
    show Steps p.tables e below (T69.setTop (mkF m 142 #[vR a0, vR a1, vI p2, vR a3, vR b2, vI (1 : Int32), vR a1, vI (2 : Int32), vI (2 : Int32), vI v1] [])) _
    refine XS.iload X69.here hx rfl (hb hby d13_142) rfl ?_
    refine XS.ifYes X69.here hx rfl (pc0 := 144) (pc' := 157) rfl (hb hby d13_144) rfl ((if0 _ _).trans (feq (by decide : ¬ ((1 : Int32) = (0 : Int32)))).2) (by decide) (by decide) ?_
    show Steps p.tables e below (T69.setTop (mkF m 157 #[vR a0, vR a1, vI p2, vR a3, vR b2, vI (1 : Int32), vR a1, vI (2 : Int32), vI (2 : Int32), vI v1] [])) _
    exact X69.returnOut hx Bd.returns (hb hby d13_157) hr
  · show Q13C Z a0 a1 p2 a3 lc rc rem aP kP fP aC kC aK kK nK aO kO aN k1 v0 v1 k3 nL fL h0 n0 _ T69.heap _
    rw [e69]
    exact ⟨b51_0, kk51_0, rfl, N69, sz_b51_0, K69, V_aO_u71, E_aO_u74, E_aK_u76, V_aK_u78, V_aP_u79, E_aP_u82, pf69_1, pf69_0, E_b51_0_u83, V_b51_0_u84⟩
theorem ef_rm13D (m : MethodId) (a0 : Addr) (a1 : Addr) (p2 : Int32) (a3 : Addr) : entryFrame m #[(.ref a0), (.ref a1), (.int p2), (.ref a3)] 10 = mkF m 0 #[vR a0, vR a1, vI p2, vR a3, .unset, .unset, .unset, .unset, .unset, .unset] [] := by first | (simp [entryFrame, mkF, argsToLocals, Value.category]; done) | rfl
def Q13D (Z : State) (a0 : Addr) (a1 : Addr) (p2 : Int32) (a3 : Addr) (lc : Int32) (rc : Int32) (rem : Int32) (aP : Addr) (kP : ClassId) (fP : Nat → Value) (aC : Addr) (kC : ClassId) (aK : Addr) (kK : ClassId) (nK : Int32) (aO : Addr) (kO : ClassId) (aN : Addr) (k1 : ClassId) (v0 : Int32) (v1 : Int32) (k3 : ClassId) (nL : Int32) (fL : Nat → Value) (h0 : Heap) (n0 : Nat) (v : Option Value) (h : Heap) (L : List Loc) : Prop := ∃ r0 : Addr, ∃ rk0 : ClassId, v = none ∧ Fr n0 L ∧ h0.size ≤ r0 ∧ Keep h0 h [aO, aK, aP, aC] ∧ own_Any Z h aO kO .int nK ∧ Exa Z h aO "[I" ∧ Exa Z h aK "[I" ∧ own_Any Z h aK kK .int nK ∧ own_Arf Z h aP kP (.array .int) (8 : Int32) (own_upd fP (p2).toNatClampNeg (.ref r0)) ∧ Exa Z h aP "[[I" ∧ Exa Z h aC "[Z" ∧ own_Any Z h aC kC .boolean (8 : Int32) ∧ Exa Z h r0 "[I" ∧ Arv Z h r0 rk0 .int (1 : Int32) [(.int v0)] (.int (0 : Int32))
set_option maxRecDepth 65536 in
set_option maxHeartbeats 40000000 in
theorem rm13D (l : Launch) (Z : State) (az : Array Value) (hw : ∀ d ∈ tables_1, d.before az Z = true) (ws : List Jvm.Cond) (a0 : Addr) (a1 : Addr) (p2 : Int32) (a3 : Addr) (lc : Int32) (rc : Int32) (rem : Int32) (aP : Addr) (kP : ClassId) (fP : Nat → Value) (aC : Addr) (kC : ClassId) (aK : Addr) (kK : ClassId) (nK : Int32) (aO : Addr) (kO : ClassId) (aN : Addr) (k1 : ClassId) (v0 : Int32) (v1 : Int32) (k3 : ClassId) (nL : Int32) (fL : Nat → Value) (h0 : Heap) (n0 : Nat) (Z0 : n0 ≤ h0.size) (E_a0 : Exa Z h0 a0 cCV) (F_labelCount_a0 : Fld Z h0 a0 cCV "labelCount" "I" (.int lc)) (F_rowCount_a0 : Fld Z h0 a0 cCV "rowCount" "I" (.int rc)) (F_pairsShared_a0 : Fld Z h0 a0 cCV "pairsShared" "Z" (.int (0 : Int32))) (F_remainingCount_a0 : Fld Z h0 a0 cCV "remainingCount" "I" (.int rem)) (F_openPairs_a0 : Fld Z h0 a0 cCV "openPairs" "[[I" (.ref aP)) (V_aP : own_Arf Z h0 aP kP (.array .int) (8 : Int32) fP) (E_aP : Exa Z h0 aP "[[I") (F_covered_a0 : Fld Z h0 a0 cCV "covered" "[Z" (.ref aC)) (V_aC : own_Any Z h0 aC kC .boolean (8 : Int32)) (E_aC : Exa Z h0 aC "[Z") (F_coveredCounts_a0 : Fld Z h0 a0 cCV "coveredCounts" "[I" (.ref aK)) (V_aK : own_Any Z h0 aK kK .int nK) (E_aK : Exa Z h0 aK "[I") (F_openCounts_a0 : Fld Z h0 a0 cCV "openCounts" "[I" (.ref aO)) (V_aO : own_Any Z h0 aO kO .int nK) (E_aO : Exa Z h0 aO "[I") (F_ones_a0 : Fld Z h0 a0 cCV "ones" "[I" (.ref aN)) (O_kP : OvrA Z kP .int "[I") (V_a1 : Arv Z h0 a1 k1 .int (2 : Int32) [(.int v0), (.int v1)] (.int (0 : Int32))) (E_a1 : Exa Z h0 a1 "[I") (V_a3 : own_Arf Z h0 a3 k3 .boolean nL fL) (E_a3 : Exa Z h0 a3 "[Z") (hc23 : ¬ ((v0 / (2 : Int32)) < (0 : Int32))) (hc24 : (v0 / (2 : Int32)) < nL) (hc25 : fL ((v0 / (2 : Int32))).toNatClampNeg = (.int (0 : Int32))) (hc26 : ¬ ((v1 / (2 : Int32)) < (0 : Int32))) (hc27 : (v1 / (2 : Int32)) < nL) (hc28 : fL ((v1 / (2 : Int32))).toNatClampNeg = (.int (1 : Int32))) (hc29 : ¬ (v1 < (0 : Int32))) (hc30 : v1 < nK) (g_aO : n0 ≤ aO) (hc32 : ¬ (p2 < (0 : Int32))) (hc33 : p2 < (8 : Int32)) (hne_aK_aO : aK ≠ aO) (g_aK : n0 ≤ aK) (hne_a1_aO : a1 ≠ aO) (hne_a1_aK : a1 ≠ aK) (g_aP : n0 ≤ aP) (g_aC : n0 ≤ aC) :
    MetFree l (⟨cCV, "settle", "([II[Z)V"⟩ : MethodName) (head1 (Jvm.Cond.code (⟨cCV, "settle", "([II[Z)V"⟩ : MethodName) prog_21_method_13_code 10 none :: ws) ({ frames := 2, cells := 2, slots := 3, locals := 80 } : Room)) (fun a U => a = #[(.ref a0), (.ref a1), (.int p2), (.ref a3)] ∧ Z.Warmed39 U.vm ∧ U.heap = h0) (fun _ _ _ _ _ => True) (fun _ U o U' => ∃ v L, o = .returned v ∧ Q13D Z a0 a1 p2 a3 lc rc rem aP kP fP aC kC aK kK nK aO kO aN k1 v0 v1 k3 nL fL h0 n0 v U'.heap L ∧ FrameEnd U o U' L ({ frames := 2, cells := 2, slots := 3, locals := 80 } : Room).cells ({ frames := 2, cells := 2, slots := 3, locals := 80 } : Room).slots) := by
  refine MetFree.of_bodySF (plainFor_of_name pn_com_example_headlattice_headlattice_learn_Coverage) hisR ?_
  intro p e s m args below meth c s₁ Bd hml0 hP hK
  obtain ⟨rfl, hZ, hh⟩ := hP
  have hx := Bd.exec
  have hby := Bd.bytes
  have hml : c.maxLocals = 10 := hml0
  have hown : s.vm.findClass cCV = some m.cls := findClass_of_methodNamed Bd.named
  have hnm := (name_of_methodNamed Bd.named Bd.method).1
  have X0 : Stand p l e ({ frames := 2, cells := 2, slots := 3, locals := 80 } : Room) s m #[(.ref a0), (.ref a1), (.int p2), (.ref a3)] below meth c s₁ [] 0 0 := Stand.of_body Bd
  have e0 : s₁.heap = h0 := by rw [← hh, Bd.state]; rfl
  have N0 := Fr.nil n0
  have pre0 : ∀ t, Steps p.tables e below (s₁.setTop (mkF m 0 #[vR a0, vR a1, vI p2, vR a3, .unset, .unset, .unset, .unset, .unset, .unset] [])) t → Steps p.tables e below (s₁.setTop (entryFrame m #[(.ref a0), (.ref a1), (.int p2), (.ref a3)] 10)) t := fun t k => castTop (ef_rm13D m a0 a1 p2 a3) k
  obtain ⟨cl1, Ar1, qk1, Sz1, Ng1, Hs1, Gf1⟩ := id V_a1
  obtain ⟨T2, h2, k2, X2, e2, E2, A2, x2, st2⟩ := newPE X0 hx hZ (aty := .int) (w18 hw) e0 (g := (mkF m 2 #[vR a0, vR a1, vI p2, vR a3, .unset, .unset, .unset, .unset, .unset, .unset] [(.int (2 : Int32))])) rfl (hb hby d13_2) rfl (by decide) (cap := 2) (by decide) (by decide) (by decide) (by decide) (ad := "[I") (by decide)
  obtain ⟨b2, g2⟩ : ∃ z, z = h0.size := ⟨_, rfl⟩
  rw [← g2] at A2 x2 st2
  have g_b2 : n0 ≤ b2 := Nat.le_trans Z0 (Nat.le_of_eq g2.symm)
  have sz_b2 : h0.size ≤ b2 := Nat.le_trans (Nat.le_refl _) (Nat.le_of_eq g2.symm)
  have Z2 : n0 ≤ h2.size := Nat.le_trans Z0 E2.1
  have K2 : Keep h0 h2 [aO, aK, aP, aC] := (Keep.refl h0 [aO, aK, aP, aC]).ext E2
  have E_b2 := x2
  have V_b2 : Arv Z h2 b2 k2 .int (2 : Int32) [(.int (0 : Int32)), (.int (0 : Int32))] (.int (0 : Int32)) := (Arv.new A2 (by decide)).pad (pad_rep [] (.int (0 : Int32)) 2)
  have V_a1_u3 : Arv Z h2 a1 k1 .int (2 : Int32) [(.int v0), (.int v1)] (.int (0 : Int32)) := (V_a1.ext E2)
  obtain ⟨cl4, Ar4, qk4, Sz4, Ng4, Hs4, Gf4⟩ := id V_a1_u3
  have hin5 : ¬ ((0 : Int32) < 0 ∨ cl4.slots.size ≤ ((0 : Int32)).toNatClampNeg) := inb_of Sz4 ⟨by decide, by decide⟩
  have hat6 : cl4.slots[((0 : Int32)).toNatClampNeg]? = some (.int v0) := Hs4.at hin5 rfl
  have V_a3_u7 : own_Arf Z h2 a3 k3 .boolean nL fL := (V_a3.ext E2)
  obtain ⟨cl8, Ar8, qk8, Sz8, Ng8, Hs8, Gf8⟩ := id V_a3_u7
  have hin9 : ¬ ((v0 / (2 : Int32)) < 0 ∨ cl8.slots.size ≤ ((v0 / (2 : Int32))).toNatClampNeg) := inb_of Sz8 ⟨hc23, hc24⟩
  have hat10 : cl8.slots[((v0 / (2 : Int32))).toNatClampNeg]? = some (.int (0 : Int32)) := own_at Hs8 hin9 hc25
  obtain ⟨cl11, Ar11, qk11, Sz11, Ng11, Hs11, Gf11⟩ := id V_b2
  have hin12 : ¬ ((0 : Int32) < 0 ∨ cl11.slots.size ≤ ((0 : Int32)).toNatClampNeg) := inb_of Sz11 ⟨by decide, by decide⟩
  obtain ⟨T13, h13, X13, e13, W13, st13⟩ := stI X2 hx hZ e2 Ar11 (j := (0 : Int32)) hin12 (g := (mkF m 86 #[vR a0, vR a1, vI p2, vR a3, vR b2, vI (1 : Int32), vR a1, vI (2 : Int32), vI (0 : Int32), vI v0] [(.int v0), (.int (0 : Int32)), (.ref b2)])) rfl rfl (hb hby d13_86)
  have K13 : Keep h0 h13 [aO, aK, aP, aC] := K2.wr W13 (Or.inr sz_b2)
  have V_b2_13 : Arv Z h13 b2 k2 .int (2 : Int32) [(.int v0), (.int (0 : Int32))] (.int (0 : Int32)) := Arv.set (v := (.int v0)) Ar11 qk11 Sz11 Ng11 Hs11 Gf11 rfl W13 0 rfl (Nat.le_of_ble_eq_true rfl)
  have Z13 : n0 ≤ h13.size := Nat.le_trans Z2 (Keep.of_wr W13).1
  obtain ⟨Lg13, X13', N13⟩ := own_gen X13 (Fr.snoc X13 N0 g_b2)
  have ne_a1_b2 : a1 ≠ b2 := own_ne (Nat.lt_of_lt_of_le E_a1.lt (Nat.le_of_eq g2.symm))
  have V_a1_u14 : Arv Z h13 a1 k1 .int (2 : Int32) [(.int v0), (.int v1)] (.int (0 : Int32)) := (V_a1_u3.other W13 ne_a1_b2)
  obtain ⟨cl15, Ar15, qk15, Sz15, Ng15, Hs15, Gf15⟩ := id V_a1_u14
  have hin16 : ¬ ((1 : Int32) < 0 ∨ cl15.slots.size ≤ ((1 : Int32)).toNatClampNeg) := inb_of Sz15 ⟨by decide, by decide⟩
  have hat17 : cl15.slots[((1 : Int32)).toNatClampNeg]? = some (.int v1) := Hs15.at hin16 rfl
  have ne_a3_b2 : a3 ≠ b2 := own_ne (Nat.lt_of_lt_of_le E_a3.lt (Nat.le_of_eq g2.symm))
  have V_a3_u18 : own_Arf Z h13 a3 k3 .boolean nL fL := (V_a3_u7.other W13 ne_a3_b2)
  obtain ⟨cl19, Ar19, qk19, Sz19, Ng19, Hs19, Gf19⟩ := id V_a3_u18
  have hin20 : ¬ ((v1 / (2 : Int32)) < 0 ∨ cl19.slots.size ≤ ((v1 / (2 : Int32))).toNatClampNeg) := inb_of Sz19 ⟨hc26, hc27⟩
  have hat21 : cl19.slots[((v1 / (2 : Int32))).toNatClampNeg]? = some (.int (1 : Int32)) := own_at Hs19 hin20 hc28
  have ne_a0_b2 : a0 ≠ b2 := own_ne (Nat.lt_of_lt_of_le E_a0.lt (Nat.le_of_eq g2.symm))
  have F_a0_openCounts_u22 : Fld Z h13 a0 cCV "openCounts" "[I" (.ref aO) := ((F_openCounts_a0.ext E2).other W13 (Or.inl ne_a0_b2))
  obtain ⟨T23, X23, e23, st23⟩ := getF X13' hx hZ hown (host := "") (Or.inl (w21 hw)) Via.refl e13 F_a0_openCounts_u22 (g := (mkF m 44 #[vR a0, vR a1, vI p2, vR a3, vR b2, vI (1 : Int32), vR a1, vI (2 : Int32), vI (1 : Int32), vI v1] [(.ref a0)])) rfl rfl (hb hby d13_44)
  have ne_aO_b2 : aO ≠ b2 := own_ne (Nat.lt_of_lt_of_le E_aO.lt (Nat.le_of_eq g2.symm))
  have V_aO_u24 : own_Any Z h13 aO kO .int nK := ((V_aO.ext E2).other W13 ne_aO_b2)
  obtain ⟨ff25, cl25, Ar25, qk25, Sz25, Ng25, Hs25, Gf25⟩ := id V_aO_u24
  have hin26 : ¬ (v1 < 0 ∨ cl25.slots.size ≤ (v1).toNatClampNeg) := inb_of Sz25 ⟨hc29, hc30⟩
  obtain ⟨lw27, hat27⟩ := own_any_at Hs25 Gf25 hin26 (Or.inl rfl)
  have hin28 : ¬ (v1 < 0 ∨ cl25.slots.size ≤ (v1).toNatClampNeg) := inb_of Sz25 ⟨hc29, hc30⟩
  obtain ⟨T29, h29, X29, e29, W29, st29⟩ := stI X23 hx hZ e23 Ar25 (j := v1) hin28 (g := (mkF m 53 #[vR a0, vR a1, vI p2, vR a3, vR b2, vI (1 : Int32), vR a1, vI (2 : Int32), vI (1 : Int32), vI v1] [(.int (lw27 - (1 : Int32))), (.int v1), (.ref aO)])) rfl rfl (hb hby d13_53)
  have K29 : Keep h0 h29 [aO, aK, aP, aC] := K13.wr W29 (Or.inl (List.mem_of_getElem? (i := 0) rfl))
  have V_aO_29 : own_Any Z h29 aO kO .int nK := ⟨_, own_Arf.set (v := (.int (lw27 - (1 : Int32)))) Ar25 qk25 Sz25 Ng25 Hs25 Gf25 rfl W29⟩
  have Z29 : n0 ≤ h29.size := Nat.le_trans Z13 (Keep.of_wr W29).1
  obtain ⟨Lg29, X29', N29⟩ := own_gen X29 (Fr.snoc X29 N13 g_aO)
  have ne_a0_aO : a0 ≠ aO := ne_exa E_a0 E_aO (by decide)
  have F_a0_covered_u30 : Fld Z h29 a0 cCV "covered" "[Z" (.ref aC) := (((F_covered_a0.ext E2).other W13 (Or.inl ne_a0_b2)).other W29 (Or.inl ne_a0_aO))
  obtain ⟨T31, X31, e31, st31⟩ := getF X29' hx hZ hown (host := "") (Or.inl (w16 hw)) Via.refl e29 F_a0_covered_u30 (g := (mkF m 55 #[vR a0, vR a1, vI p2, vR a3, vR b2, vI (1 : Int32), vR a1, vI (2 : Int32), vI (1 : Int32), vI v1] [(.ref a0)])) rfl rfl (hb hby d13_55)
  have ne_aC_b2 : aC ≠ b2 := own_ne (Nat.lt_of_lt_of_le E_aC.lt (Nat.le_of_eq g2.symm))
  have ne_aC_aO : aC ≠ aO := ne_exa E_aC E_aO (by decide)
  have V_aC_u32 : own_Any Z h29 aC kC .boolean (8 : Int32) := (((V_aC.ext E2).other W13 ne_aC_b2).other W29 ne_aC_aO)
  obtain ⟨ff33, cl33, Ar33, qk33, Sz33, Ng33, Hs33, Gf33⟩ := id V_aC_u32
  have hin34 : ¬ (p2 < 0 ∨ cl33.slots.size ≤ (p2).toNatClampNeg) := inb_of Sz33 ⟨hc32, hc33⟩
  obtain ⟨lw35, hat35⟩ := own_any_at Hs33 Gf33 hin34 (Or.inr (Or.inl rfl))
  have F_a0_coveredCounts_u36 : Fld Z h29 a0 cCV "coveredCounts" "[I" (.ref aK) := (((F_coveredCounts_a0.ext E2).other W13 (Or.inl ne_a0_b2)).other W29 (Or.inl ne_a0_aO))
  have ne_aK_b2 : aK ≠ b2 := own_ne (Nat.lt_of_lt_of_le E_aK.lt (Nat.le_of_eq g2.symm))
  have V_aK_u37 : own_Any Z h29 aK kK .int nK := (((V_aK.ext E2).other W13 ne_aK_b2).other W29 hne_aK_aO)
  have E_aK_u38 : Exa Z h29 aK "[I" := (((E_aK.ext E2).wr W13).wr W29)
  obtain ⟨T39, h39c, g39, ⟨rfl, kq39, pf39_0, pf39_1⟩, ⟨Lg39, X39, e39, N39⟩, st39⟩ := sg03 l Z az hw hx hby hml hown hZ a0 (vR a1) (vI p2) (vR a3) (vR b2) (vI (1 : Int32)) (vR a1) (vI (2 : Int32)) (vI (1 : Int32)) v1 lw35 aK kK nK h29 n0 Z29 F_a0_coveredCounts_u36 V_aK_u37 E_aK_u38 g_aK hc29 hc30 T31 ⟨_, X31, e31, N29⟩
  have K39 : Keep h0 h39c [aO, aK, aP, aC] := K29.trans kq39 (allS (Or.inl (List.mem_of_getElem? (i := 1) rfl)) all0)
  have Z39 : n0 ≤ h39c.size := Nat.le_trans Z29 kq39.1
  have V_a1_u40 : Arv Z h39c a1 k1 .int (2 : Int32) [(.int v0), (.int v1)] (.int (0 : Int32)) := ((V_a1_u14.other W29 hne_a1_aO).keep kq39 (ninS hne_a1_aK nin0))
  obtain ⟨cl41, Ar41, qk41, Sz41, Ng41, Hs41, Gf41⟩ := id V_a1_u40
  have c43 : Fld Z h29 a0 cCV "pairsShared" "Z" (.int (0 : Int32)) := (((F_pairsShared_a0.ext E2).other W13 (Or.inl ne_a0_b2)).other W29 (Or.inl ne_a0_aO))
  have ne_a0_aK : a0 ≠ aK := ne_exa E_a0 E_aK (by decide)
  have F_a0_pairsShared_u44 : Fld Z h39c a0 cCV "pairsShared" "Z" (.int (0 : Int32)) := (c43.keep kq39 (ninS ne_a0_aK nin0))
  have c45 : Exa Z h29 a0 cCV := (((E_a0.ext E2).wr W13).wr W29)
  have E_a0_u46 : Exa Z h39c a0 cCV := (c45.keep kq39)
  obtain ⟨cq42, q42, q42'⟩ := E_a0_u46.cell
  obtain ⟨_, _, ⟨T42, L42, k42', n42'⟩, -, X42, ⟨Lc42, hQ42, l42, y42, z42⟩, st42⟩ := X39.privateBack hx (y := (⟨cCV, "ownPairs", "()V"⟩ : MethodName)) hown (mvT hZ (w48 hw)) (mvT hZ (w49 hw)) (own_priv (mvT hZ (w1 hw)) (Cond.privateMethod_at (mvP hZ (w50 hw) (args := #[]))) (mvT hZ (w49 hw)) (by decide)) (Cond.privateMethod_at (mvP hZ (w50 hw) (args := #[]))) (mvT hZ (w51 hw)) (by decide) (backOf (W := 0) (rm8 l Z az hw [] a0 h39c n0 Z39 F_a0_pairsShared_u44) hZ (w51 hw) (w2 hw) (by decide) (by decide)) (g := (mkF m 101 #[vR a0, vR a1, vI p2, vR a3, vR b2, vI (1 : Int32), vR a1, vI (2 : Int32), vI (2 : Int32), vI v1] [(.ref a0)])) rfl (by rw [hml]; rfl) (Steps.refl _) (a := a0) (by rw [e39]; exact q42) q42' (argsL := []) (rest := []) (lenOf pd_0 rfl) rfl (by show 2 * 0 + _ ≤ _; exact Nat.le_of_eq rfl) (hb hby d13_101) (fun _ _ => ⟨rfl, e39, (by decide : 1 + 0 ≤ _), (by decide : 2 + 0 ≤ _)⟩)
  dsimp only [Pt.U, Pt.locs, Pt.cells, Pt.slots] at X42 l42 y42 z42 st42 hQ42
  subst l42 y42 z42
  obtain ⟨rfl, N42q, e42⟩ := hQ42
  obtain ⟨Lg42, X42', N42⟩ := own_gen X42 (Fr.app N39 N42q)
  have c47 : Fld Z h29 a0 cCV "openPairs" "[[I" (.ref aP) := (((F_openPairs_a0.ext E2).other W13 (Or.inl ne_a0_b2)).other W29 (Or.inl ne_a0_aO))
  have F_a0_openPairs_u48 : Fld Z h39c a0 cCV "openPairs" "[[I" (.ref aP) := (c47.keep kq39 (ninS ne_a0_aK nin0))
  obtain ⟨T49, X49, e49, st49⟩ := getF X42' hx hZ hown (host := "") (Or.inl (w13 hw)) Via.refl e42 F_a0_openPairs_u48 (g := (mkF m 105 #[vR a0, vR a1, vI p2, vR a3, vR b2, vI (1 : Int32), vR a1, vI (2 : Int32), vI (2 : Int32), vI v1] [(.ref a0)])) rfl rfl (hb hby d13_105)
  have V_b2_u51 : Arv Z h39c b2 k2 .int (2 : Int32) [(.int v0), (.int (0 : Int32))] (.int (0 : Int32)) := ((V_b2_13.other W29 (Ne.symm ne_aO_b2)).keep kq39 (ninS (Ne.symm ne_aK_b2) nin0))
  have E_b2_u52 : Exa Z h39c b2 "[I" := (((E_b2.wr W13).wr W29).keep kq39)
  obtain ⟨_, _, ⟨T50, L50, k50', n50'⟩, -, X50, ⟨Lc50, hQ50, l50, y50, z50⟩, st50⟩ := Jvm.LawKit.callS X49 hx (y := (⟨"java/util/Arrays", "copyOf", "([II)[I"⟩ : MethodName)) hown (mvT hZ (w79 hw)) (mvT hZ (w80 hw)) (mvT hZ (w81 hw)) (mvT hZ (w82 hw)) (by decide) (backOf (W := 2) (rm14b l Z az hw [] b2 k2 v0 (0 : Int32) h39c n0 Z39 V_b2_u51 E_b2_u52) hZ (w82 hw) (w81 hw) (by decide) (by decide)) (g := (mkF m 113 #[vR a0, vR a1, vI p2, vR a3, vR b2, vI (1 : Int32), vR a1, vI (2 : Int32), vI (2 : Int32), vI v1] [(.int (1 : Int32)), (.ref b2), (.int p2), (.ref aP)])) rfl (by rw [hml]; rfl) (argsL := [(.ref b2), (.int (1 : Int32))]) (rest := [(.int p2), (.ref aP)]) (lenOf pd_2 rfl) rfl (by show 2 * 0 + _ ≤ _; exact Nat.le_of_eq rfl) (hb hby d13_113) (fun _ _ => ⟨rfl, e49, (by decide : 1 + 1 ≤ _), (by decide : 2 + 1 ≤ _)⟩)
  dsimp only [Pt.U, Pt.locs, Pt.cells, Pt.slots] at X50 l50 y50 z50 st50 hQ50
  subst l50 y50 z50
  obtain ⟨b50_0, kk50_0, rfl, N50q, s50_0, kq50, pf50_0, pf50_1⟩ := hQ50
  obtain ⟨Lg50, X50', N50⟩ := own_gen X50 (Fr.app N42 N50q)
  have g_b50_0 : n0 ≤ b50_0 := Nat.le_trans Z39 s50_0
  have sz_b50_0 : h0.size ≤ b50_0 := Nat.le_trans K39.1 s50_0
  have K50 : Keep h0 T50.heap [aO, aK, aP, aC] := K39.trans kq50 all0
  have Z50 : n0 ≤ T50.heap.size := Nat.le_trans Z39 kq50.1
  have ne_aP_b2 : aP ≠ b2 := own_ne (Nat.lt_of_lt_of_le E_aP.lt (Nat.le_of_eq g2.symm))
  have ne_aP_aO : aP ≠ aO := ne_exa E_aP E_aO (by decide)
  have c53 : own_Arf Z h29 aP kP (.array .int) (8 : Int32) fP := (((V_aP.ext E2).other W13 ne_aP_b2).other W29 ne_aP_aO)
  have ne_aP_aK : aP ≠ aK := ne_exa E_aP E_aK (by decide)
  have V_aP_u54 : own_Arf Z T50.heap aP kP (.array .int) (8 : Int32) fP := ((c53.keep kq39 (ninS ne_aP_aK nin0)).keep kq50 nin0)
  obtain ⟨cl55, Ar55, qk55, Sz55, Ng55, Hs55, Gf55⟩ := id V_aP_u54
  have hin56 : ¬ (p2 < 0 ∨ cl55.slots.size ≤ (p2).toNatClampNeg) := inb_of Sz55 ⟨hc32, hc33⟩
  obtain ⟨T57, h57, X57, e57, W57, st57⟩ := stR X50' hx hZ rfl Ar55 (j := p2) hin56 rfl (Sto.ofVA Ar55 qk55 O_kP (Ins.self pf50_0)) (g := (mkF m 116 #[vR a0, vR a1, vI p2, vR a3, vR b2, vI (1 : Int32), vR a1, vI (2 : Int32), vI (2 : Int32), vI v1] [(.ref b50_0), (.int p2), (.ref aP)])) rfl rfl (hb hby d13_116)
  have K57 : Keep h0 h57 [aO, aK, aP, aC] := K50.wr W57 (Or.inl (List.mem_of_getElem? (i := 2) rfl))
  have V_aP_57 : own_Arf Z h57 aP kP (.array .int) (8 : Int32) (own_upd fP (p2).toNatClampNeg (.ref b50_0)) := own_Arf.set (v := (.ref b50_0)) Ar55 qk55 Sz55 Ng55 Hs55 Gf55 rfl W57
  have Z57 : n0 ≤ h57.size := Nat.le_trans Z50 (Keep.of_wr W57).1
  obtain ⟨Lg57, X57', N57⟩ := own_gen X57 (Fr.snoc X57 N50 g_aP)
  have ne_a0_aP : a0 ≠ aP := ne_exa E_a0 E_aP (by decide)
  have F_a0_covered_u58 : Fld Z h57 a0 cCV "covered" "[Z" (.ref aC) := (((F_a0_covered_u30.keep kq39 (ninS ne_a0_aK nin0)).keep kq50 nin0).other W57 (Or.inl ne_a0_aP))
  obtain ⟨T59, X59, e59, st59⟩ := getF X57' hx hZ hown (host := "") (Or.inl (w16 hw)) Via.refl e57 F_a0_covered_u58 (g := (mkF m 118 #[vR a0, vR a1, vI p2, vR a3, vR b2, vI (1 : Int32), vR a1, vI (2 : Int32), vI (2 : Int32), vI v1] [(.ref a0)])) rfl rfl (hb hby d13_118)
  obtain ⟨T60, X60, e60, st60⟩ := getF X59 hx hZ hown (host := "") (Or.inl (w16 hw)) Via.refl e59 F_a0_covered_u58 (g := (mkF m 123 #[vR a0, vR a1, vI p2, vR a3, vR b2, vI (1 : Int32), vR a1, vI (2 : Int32), vI (2 : Int32), vI v1] [(.ref a0), (.int p2), (.ref aC)])) rfl rfl (hb hby d13_123)
  have ne_aC_aK : aC ≠ aK := ne_exa E_aC E_aK (by decide)
  have ne_aC_aP : aC ≠ aP := ne_exa E_aC E_aP (by decide)
  have V_aC_u61 : own_Any Z h57 aC kC .boolean (8 : Int32) := (((V_aC_u32.keep kq39 (ninS ne_aC_aK nin0)).keep kq50 nin0).other W57 ne_aC_aP)
  obtain ⟨ff62, cl62, Ar62, qk62, Sz62, Ng62, Hs62, Gf62⟩ := id V_aC_u61
  have hin63 : ¬ (p2 < 0 ∨ cl62.slots.size ≤ (p2).toNatClampNeg) := inb_of Sz62 ⟨hc32, hc33⟩
  obtain ⟨lw64, hat64⟩ := own_any_at Hs62 Gf62 hin63 (Or.inr (Or.inl rfl))
  have c65 : Exa Z h29 aC "[Z" := (((E_aC.ext E2).wr W13).wr W29)
  have E_aC_u66 : Exa Z h57 aC "[Z" := (((c65.keep kq39).keep kq50).wr W57)
  obtain ⟨T67, h67c, g67, ⟨rfl, kq67, pf67_0, pf67_1⟩, ⟨Lg67, X67, e67, N67⟩, st67⟩ := sg41 l Z az hw hx hby hml hown hZ (vR a0) (vR a1) (vI p2) (vR a3) (vR b2) (vR a1) (vI (2 : Int32)) (vI (2 : Int32)) (vI v1) lw64 p2 aC kC h57 n0 Z57 V_aC_u61 E_aC_u66 g_aC hc32 hc33 T60 ⟨_, X60, e60, N57⟩
  have K67 : Keep h0 h67c [aO, aK, aP, aC] := K57.trans kq67 (allS (Or.inl (List.mem_of_getElem? (i := 3) rfl)) all0)
  have Z67 : n0 ≤ h67c.size := Nat.le_trans Z57 kq67.1
  have ne_aO_aP : aO ≠ aP := ne_exa E_aO E_aP (by decide)
  have c68 : own_Any Z h57 aO kO .int nK := (((V_aO_29.keep kq39 (ninS (Ne.symm hne_aK_aO) nin0)).keep kq50 nin0).other W57 ne_aO_aP)
  have ne_aO_aC : aO ≠ aC := ne_exa E_aO E_aC (by decide)
  have V_aO_u69 : own_Any Z h67c aO kO .int nK := (c68.keep kq67 (ninS ne_aO_aC nin0))
  have c70 : Exa Z h29 aO "[I" := (((E_aO.ext E2).wr W13).wr W29)
  have c71 : Exa Z h57 aO "[I" := (((c70.keep kq39).keep kq50).wr W57)
  have E_aO_u72 : Exa Z h67c aO "[I" := (c71.keep kq67)
  have E_aK_u73 : Exa Z h67c aK "[I" := (((pf39_1.keep kq50).wr W57).keep kq67)
  have ne_aK_aP : aK ≠ aP := ne_exa E_aK E_aP (by decide)
  have ne_aK_aC : aK ≠ aC := ne_exa E_aK E_aC (by decide)
  have V_aK_u74 : own_Any Z h67c aK kK .int nK := (((pf39_0.keep kq50 nin0).other W57 ne_aK_aP).keep kq67 (ninS ne_aK_aC nin0))
  have ne_aP_aC : aP ≠ aC := ne_exa E_aP E_aC (by decide)
  have V_aP_u75 : own_Arf Z h67c aP kP (.array .int) (8 : Int32) (own_upd fP (p2).toNatClampNeg (.ref b50_0)) := (V_aP_57.keep kq67 (ninS ne_aP_aC nin0))
  have c76 : Exa Z h29 aP "[[I" := (((E_aP.ext E2).wr W13).wr W29)
  have c77 : Exa Z h57 aP "[[I" := (((c76.keep kq39).keep kq50).wr W57)
  have E_aP_u78 : Exa Z h67c aP "[[I" := (c77.keep kq67)
  have E_b50_0_u79 : Exa Z h67c b50_0 "[I" := ((pf50_0.wr W57).keep kq67)
  have ne_aP_b50_0 : aP ≠ b50_0 := own_ne (Nat.lt_of_lt_of_le (c76.keep kq39).lt s50_0)
  have ne_aC_b50_0 : aC ≠ b50_0 := own_ne (Nat.lt_of_lt_of_le (c65.keep kq39).lt s50_0)
  have V_b50_0_u80 : Arv Z h67c b50_0 kk50_0 .int (1 : Int32) [(.int v0)] (.int (0 : Int32)) := ((pf50_1.other W57 (Ne.symm ne_aP_b50_0)).keep kq67 (ninS (Ne.symm ne_aC_b50_0) nin0))
  obtain ⟨fs, hr, hrun, hended, hW, hsame⟩ := X67.leave (v := none) (fun _ => rfl)
  refine ⟨_, _, pre0 _ ?_, hrun, hended, _, _, rfl, ?_, ⟨_, rfl⟩, hW, hsame.mono (by decide) (by decide)⟩
  · show Steps p.tables e below (s₁.setTop (mkF m 0 #[vR a0, vR a1, vI p2, vR a3, .unset, .unset, .unset, .unset, .unset, .unset] [])) _
    refine XS.aloadN X0.here hx rfl (hb hby d13_0) rfl rfl ?_
    show Steps p.tables e below (s₁.setTop (mkF m 1 #[vR a0, vR a1, vI p2, vR a3, .unset, .unset, .unset, .unset, .unset, .unset] [(.ref a1)])) _
    refine X0.arraylength hx (by rw [e0]; exact Ar1.1) (State.isArrayOf_alike hZ.alike Ar1.2.1) (g := (mkF m 1 #[vR a0, vR a1, vI p2, vR a3, .unset, .unset, .unset, .unset, .unset, .unset] [(.ref a1)])) rfl rfl (hb hby d13_1) _ ?_
    rw [len_of Sz1 Ng1]
    show Steps p.tables e below (s₁.setTop (mkF m 2 #[vR a0, vR a1, vI p2, vR a3, .unset, .unset, .unset, .unset, .unset, .unset] [(.int (2 : Int32))])) _
    refine st2 _ ?_
    show Steps p.tables e below (T2.setTop (mkF m 4 #[vR a0, vR a1, vI p2, vR a3, .unset, .unset, .unset, .unset, .unset, .unset] [(.ref b2)])) _
    refine XS.astore X2.here hx rfl (hb hby d13_4) rfl rfl (l' := #[vR a0, vR a1, vI p2, vR a3, vR b2, .unset, .unset, .unset, .unset, .unset]) rfl ?_
    refine XS.iconst X2.here hx rfl (hb hby d13_6) ?_
    refine XS.istore X2.here hx rfl (hb hby d13_7) rfl (l' := #[vR a0, vR a1, vI p2, vR a3, vR b2, vI (0 : Int32), .unset, .unset, .unset, .unset]) rfl ?_
    refine XS.aloadN X2.here hx rfl (hb hby d13_9) rfl rfl ?_
    refine XS.astore X2.here hx rfl (hb hby d13_10) rfl rfl (l' := #[vR a0, vR a1, vI p2, vR a3, vR b2, vI (0 : Int32), vR a1, .unset, .unset, .unset]) rfl ?_
    refine XS.aload X2.here hx rfl (hb hby d13_12) rfl rfl ?_
    show Steps p.tables e below (T2.setTop (mkF m 14 #[vR a0, vR a1, vI p2, vR a3, vR b2, vI (0 : Int32), vR a1, .unset, .unset, .unset] [(.ref a1)])) _
    refine X2.arraylength hx (by rw [e2]; exact Ar4.1) (State.isArrayOf_alike hZ.alike Ar4.2.1) (g := (mkF m 14 #[vR a0, vR a1, vI p2, vR a3, vR b2, vI (0 : Int32), vR a1, .unset, .unset, .unset] [(.ref a1)])) rfl rfl (hb hby d13_14) _ ?_
    rw [len_of Sz4 Ng4]
    show Steps p.tables e below (T2.setTop (mkF m 15 #[vR a0, vR a1, vI p2, vR a3, vR b2, vI (0 : Int32), vR a1, .unset, .unset, .unset] [(.int (2 : Int32))])) _
    refine XS.istore X2.here hx rfl (hb hby d13_15) rfl (l' := #[vR a0, vR a1, vI p2, vR a3, vR b2, vI (0 : Int32), vR a1, vI (2 : Int32), .unset, .unset]) rfl ?_
    refine XS.iconst X2.here hx rfl (hb hby d13_17) ?_
    refine XS.istore X2.here hx rfl (hb hby d13_18) rfl (l' := #[vR a0, vR a1, vI p2, vR a3, vR b2, vI (0 : Int32), vR a1, vI (2 : Int32), vI (0 : Int32), .unset]) rfl ?_
    refine XS.iload X2.here hx rfl (hb hby d13_20) rfl ?_
    refine XS.iload X2.here hx rfl (hb hby d13_22) rfl ?_
    refine XS.icmpNo X2.here hx rfl (hb hby d13_24) rfl (tlt (by decide : (0 : Int32) < (2 : Int32))).2.1 ?_
    refine XS.aload X2.here hx rfl (hb hby d13_27) rfl rfl ?_
    refine XS.iload X2.here hx rfl (hb hby d13_29) rfl ?_
    show Steps p.tables e below (T2.setTop (mkF m 31 #[vR a0, vR a1, vI p2, vR a3, vR b2, vI (0 : Int32), vR a1, vI (2 : Int32), vI (0 : Int32), .unset] [(.int (0 : Int32)), (.ref a1)])) _
    refine X2.iaload hx (j := (0 : Int32)) (v := (.int v0)) (by rw [e2]; exact Ar4.1) (State.isArrayOf_alike hZ.alike Ar4.2.1) Ar4.2.2 hin5 hat6 (g := (mkF m 31 #[vR a0, vR a1, vI p2, vR a3, vR b2, vI (0 : Int32), vR a1, vI (2 : Int32), vI (0 : Int32), .unset] [(.int (0 : Int32)), (.ref a1)])) rfl rfl (hb hby d13_31) _ ?_
    show Steps p.tables e below (T2.setTop (mkF m 32 #[vR a0, vR a1, vI p2, vR a3, vR b2, vI (0 : Int32), vR a1, vI (2 : Int32), vI (0 : Int32), .unset] [(.int v0)])) _
    refine XS.istore X2.here hx rfl (hb hby d13_32) rfl (l' := #[vR a0, vR a1, vI p2, vR a3, vR b2, vI (0 : Int32), vR a1, vI (2 : Int32), vI (0 : Int32), vI v0]) rfl ?_
    refine XS.aloadN X2.here hx rfl (hb hby d13_34) rfl rfl ?_
    refine XS.iload X2.here hx rfl (hb hby d13_35) rfl ?_
    refine XS.iconst X2.here hx rfl (hb hby d13_37) ?_
    show Steps p.tables e below (T2.setTop (mkF m 38 #[vR a0, vR a1, vI p2, vR a3, vR b2, vI (0 : Int32), vR a1, vI (2 : Int32), vI (0 : Int32), vI v0] [(.int (2 : Int32)), (.int v0), (.ref a3)])) _
    refine XS.idiv X2.here hx rfl (hb hby d13_38) rfl (by decide) ?_
    show Steps p.tables e below (T2.setTop (mkF m 39 #[vR a0, vR a1, vI p2, vR a3, vR b2, vI (0 : Int32), vR a1, vI (2 : Int32), vI (0 : Int32), vI v0] [(.int (v0 / (2 : Int32))), (.ref a3)])) _
    refine X2.baloadBooleans hx (j := (v0 / (2 : Int32))) (v := (.int (0 : Int32))) (by rw [e2]; exact Ar8.1) (State.isArrayOf_alike hZ.alike Ar8.2.1) Ar8.2.2 hin9 hat10 (g := (mkF m 39 #[vR a0, vR a1, vI p2, vR a3, vR b2, vI (0 : Int32), vR a1, vI (2 : Int32), vI (0 : Int32), vI v0] [(.int (v0 / (2 : Int32))), (.ref a3)])) rfl rfl (hb hby d13_39) _ ?_
    show Steps p.tables e below (T2.setTop (mkF m 40 #[vR a0, vR a1, vI p2, vR a3, vR b2, vI (0 : Int32), vR a1, vI (2 : Int32), vI (0 : Int32), vI v0] [(.int (0 : Int32))])) _
    refine XS.ifYes X2.here hx rfl (pc0 := 40) (pc' := 77) rfl (hb hby d13_40) rfl ((if0 _ _).trans (teq (by decide : (0 : Int32) = (0 : Int32))).1) (by decide) (by decide) ?_
    refine XS.aload X2.here hx rfl (hb hby d13_77) rfl rfl ?_
    refine XS.iload X2.here hx rfl (hb hby d13_79) rfl ?_
    refine XS.iinc X2.here hx rfl (hb hby d13_81) rfl (l' := #[vR a0, vR a1, vI p2, vR a3, vR b2, vI (1 : Int32), vR a1, vI (2 : Int32), vI (0 : Int32), vI v0]) rfl ?_
    refine XS.iload X2.here hx rfl (hb hby d13_84) rfl ?_
    show Steps p.tables e below (T2.setTop (mkF m 86 #[vR a0, vR a1, vI p2, vR a3, vR b2, vI (1 : Int32), vR a1, vI (2 : Int32), vI (0 : Int32), vI v0] [(.int v0), (.int (0 : Int32)), (.ref b2)])) _
    refine st13 _ ?_
    show Steps p.tables e below (T13.setTop (mkF m 87 #[vR a0, vR a1, vI p2, vR a3, vR b2, vI (1 : Int32), vR a1, vI (2 : Int32), vI (0 : Int32), vI v0] [])) _
    refine XS.iinc X13'.here hx rfl (hb hby d13_87) rfl (l' := #[vR a0, vR a1, vI p2, vR a3, vR b2, vI (1 : Int32), vR a1, vI (2 : Int32), vI (1 : Int32), vI v0]) rfl ?_
    refine XS.goto X13'.here hx rfl (pc0 := 90) (pc' := 20) rfl (hb hby d13_90) (by decide) (by decide) ?_
    refine XS.iload X13'.here hx rfl (hb hby d13_20) rfl ?_
    refine XS.iload X13'.here hx rfl (hb hby d13_22) rfl ?_
    refine XS.icmpNo X13'.here hx rfl (hb hby d13_24) rfl (tlt (by decide : (1 : Int32) < (2 : Int32))).2.1 ?_
    refine XS.aload X13'.here hx rfl (hb hby d13_27) rfl rfl ?_
    refine XS.iload X13'.here hx rfl (hb hby d13_29) rfl ?_
    show Steps p.tables e below (T13.setTop (mkF m 31 #[vR a0, vR a1, vI p2, vR a3, vR b2, vI (1 : Int32), vR a1, vI (2 : Int32), vI (1 : Int32), vI v0] [(.int (1 : Int32)), (.ref a1)])) _
    refine X13'.iaload hx (j := (1 : Int32)) (v := (.int v1)) (by rw [e13]; exact Ar15.1) (State.isArrayOf_alike hZ.alike Ar15.2.1) Ar15.2.2 hin16 hat17 (g := (mkF m 31 #[vR a0, vR a1, vI p2, vR a3, vR b2, vI (1 : Int32), vR a1, vI (2 : Int32), vI (1 : Int32), vI v0] [(.int (1 : Int32)), (.ref a1)])) rfl rfl (hb hby d13_31) _ ?_
    show Steps p.tables e below (T13.setTop (mkF m 32 #[vR a0, vR a1, vI p2, vR a3, vR b2, vI (1 : Int32), vR a1, vI (2 : Int32), vI (1 : Int32), vI v0] [(.int v1)])) _
    refine XS.istore X13'.here hx rfl (hb hby d13_32) rfl (l' := #[vR a0, vR a1, vI p2, vR a3, vR b2, vI (1 : Int32), vR a1, vI (2 : Int32), vI (1 : Int32), vI v1]) rfl ?_
    refine XS.aloadN X13'.here hx rfl (hb hby d13_34) rfl rfl ?_
    refine XS.iload X13'.here hx rfl (hb hby d13_35) rfl ?_
    refine XS.iconst X13'.here hx rfl (hb hby d13_37) ?_
    show Steps p.tables e below (T13.setTop (mkF m 38 #[vR a0, vR a1, vI p2, vR a3, vR b2, vI (1 : Int32), vR a1, vI (2 : Int32), vI (1 : Int32), vI v1] [(.int (2 : Int32)), (.int v1), (.ref a3)])) _
    refine XS.idiv X13'.here hx rfl (hb hby d13_38) rfl (by decide) ?_
    show Steps p.tables e below (T13.setTop (mkF m 39 #[vR a0, vR a1, vI p2, vR a3, vR b2, vI (1 : Int32), vR a1, vI (2 : Int32), vI (1 : Int32), vI v1] [(.int (v1 / (2 : Int32))), (.ref a3)])) _
    refine X13'.baloadBooleans hx (j := (v1 / (2 : Int32))) (v := (.int (1 : Int32))) (by rw [e13]; exact Ar19.1) (State.isArrayOf_alike hZ.alike Ar19.2.1) Ar19.2.2 hin20 hat21 (g := (mkF m 39 #[vR a0, vR a1, vI p2, vR a3, vR b2, vI (1 : Int32), vR a1, vI (2 : Int32), vI (1 : Int32), vI v1] [(.int (v1 / (2 : Int32))), (.ref a3)])) rfl rfl (hb hby d13_39) _ ?_
    show Steps p.tables e below (T13.setTop (mkF m 40 #[vR a0, vR a1, vI p2, vR a3, vR b2, vI (1 : Int32), vR a1, vI (2 : Int32), vI (1 : Int32), vI v1] [(.int (1 : Int32))])) _
    refine XS.ifNo X13'.here hx rfl (hb hby d13_40) rfl ((if0 _ _).trans (feq (by decide : ¬ ((1 : Int32) = (0 : Int32)))).1) ?_
    refine XS.aloadN X13'.here hx rfl (hb hby d13_43) rfl rfl ?_
    show Steps p.tables e below (T13.setTop (mkF m 44 #[vR a0, vR a1, vI p2, vR a3, vR b2, vI (1 : Int32), vR a1, vI (2 : Int32), vI (1 : Int32), vI v1] [(.ref a0)])) _
    refine st23 _ ?_
    show Steps p.tables e below (T23.setTop (mkF m 47 #[vR a0, vR a1, vI p2, vR a3, vR b2, vI (1 : Int32), vR a1, vI (2 : Int32), vI (1 : Int32), vI v1] [(.ref aO)])) _
    refine XS.iload X23.here hx rfl (hb hby d13_47) rfl ?_
    show Steps p.tables e below (T23.setTop (mkF m 49 #[vR a0, vR a1, vI p2, vR a3, vR b2, vI (1 : Int32), vR a1, vI (2 : Int32), vI (1 : Int32), vI v1] [(.int v1), (.ref aO)])) _
    refine Jvm.Free.XT.dup2 X23.here hx rfl (hb hby d13_49) rfl rfl rfl ?_
    show Steps p.tables e below (T23.setTop (mkF m 50 #[vR a0, vR a1, vI p2, vR a3, vR b2, vI (1 : Int32), vR a1, vI (2 : Int32), vI (1 : Int32), vI v1] [(.int v1), (.ref aO), (.int v1), (.ref aO)])) _
    refine X23.iaload hx (j := v1) (v := (.int lw27)) (by rw [e23]; exact Ar25.1) (State.isArrayOf_alike hZ.alike Ar25.2.1) Ar25.2.2 hin26 hat27 (g := (mkF m 50 #[vR a0, vR a1, vI p2, vR a3, vR b2, vI (1 : Int32), vR a1, vI (2 : Int32), vI (1 : Int32), vI v1] [(.int v1), (.ref aO), (.int v1), (.ref aO)])) rfl rfl (hb hby d13_50) _ ?_
    show Steps p.tables e below (T23.setTop (mkF m 51 #[vR a0, vR a1, vI p2, vR a3, vR b2, vI (1 : Int32), vR a1, vI (2 : Int32), vI (1 : Int32), vI v1] [(.int lw27), (.int v1), (.ref aO)])) _
    refine XS.iconst X23.here hx rfl (hb hby d13_51) ?_
    refine XS.isub X23.here hx rfl (hb hby d13_52) rfl ?_
    show Steps p.tables e below (T23.setTop (mkF m 53 #[vR a0, vR a1, vI p2, vR a3, vR b2, vI (1 : Int32), vR a1, vI (2 : Int32), vI (1 : Int32), vI v1] [(.int (lw27 - (1 : Int32))), (.int v1), (.ref aO)])) _
    refine st29 _ ?_
    show Steps p.tables e below (T29.setTop (mkF m 54 #[vR a0, vR a1, vI p2, vR a3, vR b2, vI (1 : Int32), vR a1, vI (2 : Int32), vI (1 : Int32), vI v1] [])) _
    refine XS.aloadN X29'.here hx rfl (hb hby d13_54) rfl rfl ?_
    show Steps p.tables e below (T29.setTop (mkF m 55 #[vR a0, vR a1, vI p2, vR a3, vR b2, vI (1 : Int32), vR a1, vI (2 : Int32), vI (1 : Int32), vI v1] [(.ref a0)])) _
    refine st31 _ ?_
    show Steps p.tables e below (T31.setTop (mkF m 58 #[vR a0, vR a1, vI p2, vR a3, vR b2, vI (1 : Int32), vR a1, vI (2 : Int32), vI (1 : Int32), vI v1] [(.ref aC)])) _
    refine XS.iloadN X31.here hx rfl (hb hby d13_58) rfl ?_
    show Steps p.tables e below (T31.setTop (mkF m 59 #[vR a0, vR a1, vI p2, vR a3, vR b2, vI (1 : Int32), vR a1, vI (2 : Int32), vI (1 : Int32), vI v1] [(.int p2), (.ref aC)])) _
    refine X31.baloadBooleans hx (j := p2) (v := (.int lw35)) (by rw [e31]; exact Ar33.1) (State.isArrayOf_alike hZ.alike Ar33.2.1) Ar33.2.2 hin34 hat35 (g := (mkF m 59 #[vR a0, vR a1, vI p2, vR a3, vR b2, vI (1 : Int32), vR a1, vI (2 : Int32), vI (1 : Int32), vI v1] [(.int p2), (.ref aC)])) rfl rfl (hb hby d13_59) _ ?_
    show Steps p.tables e below (T31.setTop (mkF m 60 #[vR a0, vR a1, vI p2, vR a3, vR b2, vI (1 : Int32), vR a1, vI (2 : Int32), vI (1 : Int32), vI v1] [(.int lw35)])) _
    refine st39 _ ?_
    show Steps p.tables e below (T39.setTop (mkF m 87 #[vR a0, vR a1, vI p2, vR a3, vR b2, vI (1 : Int32), vR a1, vI (2 : Int32), vI (1 : Int32), vI v1] [])) _
    refine XS.iinc X39.here hx rfl (hb hby d13_87) rfl (l' := #[vR a0, vR a1, vI p2, vR a3, vR b2, vI (1 : Int32), vR a1, vI (2 : Int32), vI (2 : Int32), vI v1]) rfl ?_
    refine XS.goto X39.here hx rfl (pc0 := 90) (pc' := 20) rfl (hb hby d13_90) (by decide) (by decide) ?_
    refine XS.iload X39.here hx rfl (hb hby d13_20) rfl ?_
    refine XS.iload X39.here hx rfl (hb hby d13_22) rfl ?_
    refine XS.icmpYes X39.here hx rfl (pc0 := 24) (pc' := 93) rfl (hb hby d13_24) rfl (flt (by decide : ¬ ((2 : Int32) < (2 : Int32)))).2.1 (by decide) (by decide) ?_
    refine XS.iload X39.here hx rfl (hb hby d13_93) rfl ?_
    refine XS.aloadN X39.here hx rfl (hb hby d13_95) rfl rfl ?_
    show Steps p.tables e below (T39.setTop (mkF m 96 #[vR a0, vR a1, vI p2, vR a3, vR b2, vI (1 : Int32), vR a1, vI (2 : Int32), vI (2 : Int32), vI v1] [(.ref a1), (.int (1 : Int32))])) _
    refine X39.arraylength hx (by rw [e39]; exact Ar41.1) (State.isArrayOf_alike hZ.alike Ar41.2.1) (g := (mkF m 96 #[vR a0, vR a1, vI p2, vR a3, vR b2, vI (1 : Int32), vR a1, vI (2 : Int32), vI (2 : Int32), vI v1] [(.ref a1), (.int (1 : Int32))])) rfl rfl (hb hby d13_96) _ ?_
    rw [len_of Sz41 Ng41]
    show Steps p.tables e below (T39.setTop (mkF m 97 #[vR a0, vR a1, vI p2, vR a3, vR b2, vI (1 : Int32), vR a1, vI (2 : Int32), vI (2 : Int32), vI v1] [(.int (2 : Int32)), (.int (1 : Int32))])) _
    refine XS.icmpNo X39.here hx rfl (hb hby d13_97) rfl (tlt (by decide : (1 : Int32) < (2 : Int32))).2.1 ?_
    refine XS.aloadN X39.here hx rfl (hb hby d13_100) rfl rfl ?_
    show Steps p.tables e below (T39.setTop (mkF m 101 #[vR a0, vR a1, vI p2, vR a3, vR b2, vI (1 : Int32), vR a1, vI (2 : Int32), vI (2 : Int32), vI v1] [(.ref a0)])) _
    refine st42.trans ?_
    show Steps p.tables e below (T42.setTop (mkF m 104 #[vR a0, vR a1, vI p2, vR a3, vR b2, vI (1 : Int32), vR a1, vI (2 : Int32), vI (2 : Int32), vI v1] [])) _
    refine XS.aloadN X42'.here hx rfl (hb hby d13_104) rfl rfl ?_
    show Steps p.tables e below (T42.setTop (mkF m 105 #[vR a0, vR a1, vI p2, vR a3, vR b2, vI (1 : Int32), vR a1, vI (2 : Int32), vI (2 : Int32), vI v1] [(.ref a0)])) _
    refine st49 _ ?_
    show Steps p.tables e below (T49.setTop (mkF m 108 #[vR a0, vR a1, vI p2, vR a3, vR b2, vI (1 : Int32), vR a1, vI (2 : Int32), vI (2 : Int32), vI v1] [(.ref aP)])) _
    refine XS.iloadN X49.here hx rfl (hb hby d13_108) rfl ?_
    refine XS.aload X49.here hx rfl (hb hby d13_109) rfl rfl ?_
    refine XS.iload X49.here hx rfl (hb hby d13_111) rfl ?_
    show Steps p.tables e below (T49.setTop (mkF m 113 #[vR a0, vR a1, vI p2, vR a3, vR b2, vI (1 : Int32), vR a1, vI (2 : Int32), vI (2 : Int32), vI v1] [(.int (1 : Int32)), (.ref b2), (.int p2), (.ref aP)])) _
    refine st50 _ ?_
    show Steps p.tables e below (T50.setTop (mkF m 116 #[vR a0, vR a1, vI p2, vR a3, vR b2, vI (1 : Int32), vR a1, vI (2 : Int32), vI (2 : Int32), vI v1] [(.ref b50_0), (.int p2), (.ref aP)])) _
    refine st57 _ ?_
    show Steps p.tables e below (T57.setTop (mkF m 117 #[vR a0, vR a1, vI p2, vR a3, vR b2, vI (1 : Int32), vR a1, vI (2 : Int32), vI (2 : Int32), vI v1] [])) _
    refine XS.aloadN X57'.here hx rfl (hb hby d13_117) rfl rfl ?_
    show Steps p.tables e below (T57.setTop (mkF m 118 #[vR a0, vR a1, vI p2, vR a3, vR b2, vI (1 : Int32), vR a1, vI (2 : Int32), vI (2 : Int32), vI v1] [(.ref a0)])) _
    refine st59 _ ?_
    show Steps p.tables e below (T59.setTop (mkF m 121 #[vR a0, vR a1, vI p2, vR a3, vR b2, vI (1 : Int32), vR a1, vI (2 : Int32), vI (2 : Int32), vI v1] [(.ref aC)])) _
    refine XS.iloadN X59.here hx rfl (hb hby d13_121) rfl ?_
    refine XS.aloadN X59.here hx rfl (hb hby d13_122) rfl rfl ?_
    show Steps p.tables e below (T59.setTop (mkF m 123 #[vR a0, vR a1, vI p2, vR a3, vR b2, vI (1 : Int32), vR a1, vI (2 : Int32), vI (2 : Int32), vI v1] [(.ref a0), (.int p2), (.ref aC)])) _
    refine st60 _ ?_
    show Steps p.tables e below (T60.setTop (mkF m 126 #[vR a0, vR a1, vI p2, vR a3, vR b2, vI (1 : Int32), vR a1, vI (2 : Int32), vI (2 : Int32), vI v1] [(.ref aC), (.int p2), (.ref aC)])) _
    refine XS.iloadN X60.here hx rfl (hb hby d13_126) rfl ?_
    show Steps p.tables e below (T60.setTop (mkF m 127 #[vR a0, vR a1, vI p2, vR a3, vR b2, vI (1 : Int32), vR a1, vI (2 : Int32), vI (2 : Int32), vI v1] [(.int p2), (.ref aC), (.int p2), (.ref aC)])) _
    refine X60.baloadBooleans hx (j := p2) (v := (.int lw64)) (by rw [e60]; exact Ar62.1) (State.isArrayOf_alike hZ.alike Ar62.2.1) Ar62.2.2 hin63 hat64 (g := (mkF m 127 #[vR a0, vR a1, vI p2, vR a3, vR b2, vI (1 : Int32), vR a1, vI (2 : Int32), vI (2 : Int32), vI v1] [(.int p2), (.ref aC), (.int p2), (.ref aC)])) rfl rfl (hb hby d13_127) _ ?_
    show Steps p.tables e below (T60.setTop (mkF m 128 #[vR a0, vR a1, vI p2, vR a3, vR b2, vI (1 : Int32), vR a1, vI (2 : Int32), vI (2 : Int32), vI v1] [(.int lw64), (.int p2), (.ref aC)])) _
    refine st67 _ ?_
    show Steps p.tables e below (T67.setTop (mkF m 142 #[vR a0, vR a1, vI p2, vR a3, vR b2, vI (1 : Int32), vR a1, vI (2 : Int32), vI (2 : Int32), vI v1] [])) _
    refine XS.iload X67.here hx rfl (hb hby d13_142) rfl ?_
    refine XS.ifYes X67.here hx rfl (pc0 := 144) (pc' := 157) rfl (hb hby d13_144) rfl ((if0 _ _).trans (feq (by decide : ¬ ((1 : Int32) = (0 : Int32)))).2) (by decide) (by decide) ?_
    show Steps p.tables e below (T67.setTop (mkF m 157 #[vR a0, vR a1, vI p2, vR a3, vR b2, vI (1 : Int32), vR a1, vI (2 : Int32), vI (2 : Int32), vI v1] [])) _
    exact X67.returnOut hx Bd.returns (hb hby d13_157) hr
  · show Q13D Z a0 a1 p2 a3 lc rc rem aP kP fP aC kC aK kK nK aO kO aN k1 v0 v1 k3 nL fL h0 n0 _ T67.heap _
    rw [e67]
    exact ⟨b50_0, kk50_0, rfl, N67, sz_b50_0, K67, V_aO_u69, E_aO_u72, E_aK_u73, V_aK_u74, V_aP_u75, E_aP_u78, pf67_1, pf67_0, E_b50_0_u79, V_b50_0_u80⟩
theorem d10_0 : decode prog_21_method_24_code 0 = .ok (.iload_n 1, 1) := by decide +kernel
theorem d10_1 : decode prog_21_method_24_code 1 = .ok (.ifCond .lt 11, 3) := by decide +kernel
theorem d10_4 : decode prog_21_method_24_code 4 = .ok (.iload_n 1, 1) := by decide +kernel
theorem d10_5 : decode prog_21_method_24_code 5 = .ok (.aload_n 0, 1) := by decide +kernel
theorem d10_6 : decode prog_21_method_24_code 6 = .ok (.getfield 16, 3) := by decide +kernel
theorem d10_9 : decode prog_21_method_24_code 9 = .ok (.if_icmp .lt 21, 3) := by decide +kernel
theorem d10_30 : decode prog_21_method_24_code 30 = .ok (.return_, 1) := by decide +kernel
theorem ef_rm10 (m : MethodId) (a0 : Addr) (p1 : Int32) : entryFrame m #[(.ref a0), (.int p1)] 2 = mkF m 0 #[vR a0, vI p1] [] := by first | (simp [entryFrame, mkF, argsToLocals, Value.category]; done) | rfl
def Q10 (Z : State) (a0 : Addr) (p1 : Int32) (lc : Int32) (h0 : Heap) (n0 : Nat) (v : Option Value) (h : Heap) (L : List Loc) : Prop := v = none ∧ Fr n0 L ∧ h = h0
set_option maxRecDepth 65536 in
set_option maxHeartbeats 40000000 in
theorem rm10 (l : Launch) (Z : State) (az : Array Value) (hw : ∀ d ∈ tables_1, d.before az Z = true) (ws : List Jvm.Cond) (a0 : Addr) (p1 : Int32) (lc : Int32) (h0 : Heap) (n0 : Nat) (Z0 : n0 ≤ h0.size) (F_labelCount_a0 : Fld Z h0 a0 cCV "labelCount" "I" (.int lc)) (hc1 : ¬ (p1 < (0 : Int32))) (hc2 : p1 < lc) :
    MetFree l (⟨cCV, "checkLabel", "(I)V"⟩ : MethodName) (head1 (Jvm.Cond.code (⟨cCV, "checkLabel", "(I)V"⟩ : MethodName) prog_21_method_24_code 2 none :: ws) ({ frames := 0, cells := 0, slots := 0, locals := 0 } : Room)) (fun a U => a = #[(.ref a0), (.int p1)] ∧ Z.Warmed39 U.vm ∧ U.heap = h0) (fun _ _ _ _ _ => True) (fun _ U o U' => ∃ v L, o = .returned v ∧ Q10 Z a0 p1 lc h0 n0 v U'.heap L ∧ FrameEnd U o U' L ({ frames := 0, cells := 0, slots := 0, locals := 0 } : Room).cells ({ frames := 0, cells := 0, slots := 0, locals := 0 } : Room).slots) := by
  refine MetFree.of_bodySF (plainFor_of_name pn_com_example_headlattice_headlattice_learn_Coverage) hisR ?_
  intro p e s m args below meth c s₁ Bd hml0 hP hK
  obtain ⟨rfl, hZ, hh⟩ := hP
  have hx := Bd.exec
  have hby := Bd.bytes
  have hml : c.maxLocals = 2 := hml0
  have hown : s.vm.findClass cCV = some m.cls := findClass_of_methodNamed Bd.named
  have hnm := (name_of_methodNamed Bd.named Bd.method).1
  have X0 : Stand p l e ({ frames := 0, cells := 0, slots := 0, locals := 0 } : Room) s m #[(.ref a0), (.int p1)] below meth c s₁ [] 0 0 := Stand.of_body Bd
  have e0 : s₁.heap = h0 := by rw [← hh, Bd.state]; rfl
  have N0 := Fr.nil n0
  have pre0 : ∀ t, Steps p.tables e below (s₁.setTop (mkF m 0 #[vR a0, vI p1] [])) t → Steps p.tables e below (s₁.setTop (entryFrame m #[(.ref a0), (.int p1)] 2)) t := fun t k => castTop (ef_rm10 m a0 p1) k
  obtain ⟨T1, X1, e1, st1⟩ := getF X0 hx hZ hown (host := "") (Or.inl (w9 hw)) Via.refl e0 F_labelCount_a0 (g := (mkF m 6 #[vR a0, vI p1] [(.ref a0), (.int p1)])) rfl rfl (hb hby d10_6)
  obtain ⟨fs, hr, hrun, hended, hW, hsame⟩ := X1.leave (v := none) (fun _ => rfl)
  refine ⟨_, _, pre0 _ ?_, hrun, hended, _, _, rfl, ?_, ⟨_, rfl⟩, hW, hsame.mono (by decide) (by decide)⟩
  · show Steps p.tables e below (s₁.setTop (mkF m 0 #[vR a0, vI p1] [])) _
    refine XS.iloadN X0.here hx rfl (hb hby d10_0) rfl ?_
    refine XS.ifNo X0.here hx rfl (hb hby d10_1) rfl ((if0 _ _).trans (flt hc1).1) ?_
    refine XS.iloadN X0.here hx rfl (hb hby d10_4) rfl ?_
    refine XS.aloadN X0.here hx rfl (hb hby d10_5) rfl rfl ?_
    show Steps p.tables e below (s₁.setTop (mkF m 6 #[vR a0, vI p1] [(.ref a0), (.int p1)])) _
    refine st1 _ ?_
    show Steps p.tables e below (T1.setTop (mkF m 9 #[vR a0, vI p1] [(.int lc), (.int p1)])) _
    refine XS.icmpYes X1.here hx rfl (pc0 := 9) (pc' := 30) rfl (hb hby d10_9) rfl (tlt hc2).1 (by decide) (by decide) ?_
    show Steps p.tables e below (T1.setTop (mkF m 30 #[vR a0, vI p1] [])) _
    exact X1.returnOut hx Bd.returns (hb hby d10_30) hr
  · show Q10 Z a0 p1 lc h0 n0 _ T1.heap _
    rw [e1]
    exact ⟨rfl, N0, rfl⟩
theorem d12_0 : decode prog_21_method_23_code 0 = .ok (.iload_n 1, 1) := by decide +kernel
theorem d12_1 : decode prog_21_method_23_code 1 = .ok (.ifCond .lt 11, 3) := by decide +kernel
theorem d12_4 : decode prog_21_method_23_code 4 = .ok (.iload_n 1, 1) := by decide +kernel
theorem d12_5 : decode prog_21_method_23_code 5 = .ok (.aload_n 0, 1) := by decide +kernel
theorem d12_6 : decode prog_21_method_23_code 6 = .ok (.getfield 50, 3) := by decide +kernel
theorem d12_9 : decode prog_21_method_23_code 9 = .ok (.if_icmp .lt 21, 3) := by decide +kernel
theorem d12_30 : decode prog_21_method_23_code 30 = .ok (.return_, 1) := by decide +kernel
theorem ef_rm12 (m : MethodId) (a0 : Addr) (p1 : Int32) : entryFrame m #[(.ref a0), (.int p1)] 2 = mkF m 0 #[vR a0, vI p1] [] := by first | (simp [entryFrame, mkF, argsToLocals, Value.category]; done) | rfl
def Q12 (Z : State) (a0 : Addr) (p1 : Int32) (rc : Int32) (h0 : Heap) (n0 : Nat) (v : Option Value) (h : Heap) (L : List Loc) : Prop := v = none ∧ Fr n0 L ∧ h = h0
set_option maxRecDepth 65536 in
set_option maxHeartbeats 40000000 in
theorem rm12 (l : Launch) (Z : State) (az : Array Value) (hw : ∀ d ∈ tables_1, d.before az Z = true) (ws : List Jvm.Cond) (a0 : Addr) (p1 : Int32) (rc : Int32) (h0 : Heap) (n0 : Nat) (Z0 : n0 ≤ h0.size) (F_rowCount_a0 : Fld Z h0 a0 cCV "rowCount" "I" (.int rc)) (hc1 : ¬ (p1 < (0 : Int32))) (hc2 : p1 < rc) :
    MetFree l (⟨cCV, "checkRow", "(I)V"⟩ : MethodName) (head1 (Jvm.Cond.code (⟨cCV, "checkRow", "(I)V"⟩ : MethodName) prog_21_method_23_code 2 none :: ws) ({ frames := 0, cells := 0, slots := 0, locals := 0 } : Room)) (fun a U => a = #[(.ref a0), (.int p1)] ∧ Z.Warmed39 U.vm ∧ U.heap = h0) (fun _ _ _ _ _ => True) (fun _ U o U' => ∃ v L, o = .returned v ∧ Q12 Z a0 p1 rc h0 n0 v U'.heap L ∧ FrameEnd U o U' L ({ frames := 0, cells := 0, slots := 0, locals := 0 } : Room).cells ({ frames := 0, cells := 0, slots := 0, locals := 0 } : Room).slots) := by
  refine MetFree.of_bodySF (plainFor_of_name pn_com_example_headlattice_headlattice_learn_Coverage) hisR ?_
  intro p e s m args below meth c s₁ Bd hml0 hP hK
  obtain ⟨rfl, hZ, hh⟩ := hP
  have hx := Bd.exec
  have hby := Bd.bytes
  have hml : c.maxLocals = 2 := hml0
  have hown : s.vm.findClass cCV = some m.cls := findClass_of_methodNamed Bd.named
  have hnm := (name_of_methodNamed Bd.named Bd.method).1
  have X0 : Stand p l e ({ frames := 0, cells := 0, slots := 0, locals := 0 } : Room) s m #[(.ref a0), (.int p1)] below meth c s₁ [] 0 0 := Stand.of_body Bd
  have e0 : s₁.heap = h0 := by rw [← hh, Bd.state]; rfl
  have N0 := Fr.nil n0
  have pre0 : ∀ t, Steps p.tables e below (s₁.setTop (mkF m 0 #[vR a0, vI p1] [])) t → Steps p.tables e below (s₁.setTop (entryFrame m #[(.ref a0), (.int p1)] 2)) t := fun t k => castTop (ef_rm12 m a0 p1) k
  obtain ⟨T1, X1, e1, st1⟩ := getF X0 hx hZ hown (host := "") (Or.inl (w40 hw)) Via.refl e0 F_rowCount_a0 (g := (mkF m 6 #[vR a0, vI p1] [(.ref a0), (.int p1)])) rfl rfl (hb hby d12_6)
  obtain ⟨fs, hr, hrun, hended, hW, hsame⟩ := X1.leave (v := none) (fun _ => rfl)
  refine ⟨_, _, pre0 _ ?_, hrun, hended, _, _, rfl, ?_, ⟨_, rfl⟩, hW, hsame.mono (by decide) (by decide)⟩
  · show Steps p.tables e below (s₁.setTop (mkF m 0 #[vR a0, vI p1] [])) _
    refine XS.iloadN X0.here hx rfl (hb hby d12_0) rfl ?_
    refine XS.ifNo X0.here hx rfl (hb hby d12_1) rfl ((if0 _ _).trans (flt hc1).1) ?_
    refine XS.iloadN X0.here hx rfl (hb hby d12_4) rfl ?_
    refine XS.aloadN X0.here hx rfl (hb hby d12_5) rfl rfl ?_
    show Steps p.tables e below (s₁.setTop (mkF m 6 #[vR a0, vI p1] [(.ref a0), (.int p1)])) _
    refine st1 _ ?_
    show Steps p.tables e below (T1.setTop (mkF m 9 #[vR a0, vI p1] [(.int rc), (.int p1)])) _
    refine XS.icmpYes X1.here hx rfl (pc0 := 9) (pc' := 30) rfl (hb hby d12_9) rfl (tlt hc2).1 (by decide) (by decide) ?_
    show Steps p.tables e below (T1.setTop (mkF m 30 #[vR a0, vI p1] [])) _
    exact X1.returnOut hx Bd.returns (hb hby d12_30) hr
  · show Q12 Z a0 p1 rc h0 n0 _ T1.heap _
    rw [e1]
    exact ⟨rfl, N0, rfl⟩
theorem d11_0 : decode prog_21_method_22_code 0 = .ok (.aload_n 0, 1) := by decide +kernel
theorem d11_1 : decode prog_21_method_22_code 1 = .ok (.iload_n 1, 1) := by decide +kernel
theorem d11_2 : decode prog_21_method_22_code 2 = .ok (.invokevirtual 80, 3) := by decide +kernel
theorem pd_3 : parseMethodDescriptor "(I)V" = some ⟨[.int], none⟩ := by decide +kernel
theorem d11_5 : decode prog_21_method_22_code 5 = .ok (.aload_n 0, 1) := by decide +kernel
theorem d11_6 : decode prog_21_method_22_code 6 = .ok (.getfield 24, 3) := by decide +kernel
theorem d11_9 : decode prog_21_method_22_code 9 = .ok (.iload_n 1, 1) := by decide +kernel
theorem d11_10 : decode prog_21_method_22_code 10 = .ok (.aaload, 1) := by decide +kernel
theorem d11_11 : decode prog_21_method_22_code 11 = .ok (.areturn, 1) := by decide +kernel
theorem ef_rm11 (m : MethodId) (a0 : Addr) (p1 : Int32) : entryFrame m #[(.ref a0), (.int p1)] 2 = mkF m 0 #[vR a0, vI p1] [] := by first | (simp [entryFrame, mkF, argsToLocals, Value.category]; done) | rfl
def Q11 (Z : State) (a0 : Addr) (p1 : Int32) (rc : Int32) (aP : Addr) (kP : ClassId) (fP : Nat → Value) (a9 : Addr) (h0 : Heap) (n0 : Nat) (v : Option Value) (h : Heap) (L : List Loc) : Prop := v = some (.ref a9) ∧ Fr n0 L ∧ h = h0
set_option maxRecDepth 65536 in
set_option maxHeartbeats 40000000 in
theorem rm11 (l : Launch) (Z : State) (az : Array Value) (hw : ∀ d ∈ tables_1, d.before az Z = true) (ws : List Jvm.Cond) (a0 : Addr) (p1 : Int32) (rc : Int32) (aP : Addr) (kP : ClassId) (fP : Nat → Value) (a9 : Addr) (h0 : Heap) (n0 : Nat) (Z0 : n0 ≤ h0.size) (E_a0 : Exa Z h0 a0 cCV) (F_rowCount_a0 : Fld Z h0 a0 cCV "rowCount" "I" (.int rc)) (F_openPairs_a0 : Fld Z h0 a0 cCV "openPairs" "[[I" (.ref aP)) (V_aP : own_Arf Z h0 aP kP (.array .int) (8 : Int32) fP) (hc4 : ¬ (p1 < (0 : Int32))) (hc5 : p1 < rc) (hc6 : p1 < (8 : Int32)) (hc7 : fP (p1).toNatClampNeg = (.ref a9)) :
    MetFree l (⟨cCV, "openPairs", "(I)[I"⟩ : MethodName) (head1 (Jvm.Cond.code (⟨cCV, "openPairs", "(I)[I"⟩ : MethodName) prog_21_method_22_code 2 (some (.array .int)) :: ws) ({ frames := 1, cells := 0, slots := 0, locals := 13 } : Room)) (fun a U => a = #[(.ref a0), (.int p1)] ∧ Z.Warmed39 U.vm ∧ U.heap = h0) (fun _ _ _ _ _ => True) (fun _ U o U' => ∃ v L, o = .returned v ∧ Q11 Z a0 p1 rc aP kP fP a9 h0 n0 v U'.heap L ∧ FrameEnd U o U' L ({ frames := 1, cells := 0, slots := 0, locals := 13 } : Room).cells ({ frames := 1, cells := 0, slots := 0, locals := 13 } : Room).slots) := by
  refine MetFree.of_bodySF (plainFor_of_name pn_com_example_headlattice_headlattice_learn_Coverage) hisR ?_
  intro p e s m args below meth c s₁ Bd hml0 hP hK
  obtain ⟨rfl, hZ, hh⟩ := hP
  have hx := Bd.exec
  have hby := Bd.bytes
  have hml : c.maxLocals = 2 := hml0
  have hown : s.vm.findClass cCV = some m.cls := findClass_of_methodNamed Bd.named
  have hnm := (name_of_methodNamed Bd.named Bd.method).1
  have X0 : Stand p l e ({ frames := 1, cells := 0, slots := 0, locals := 13 } : Room) s m #[(.ref a0), (.int p1)] below meth c s₁ [] 0 0 := Stand.of_body Bd
  have e0 : s₁.heap = h0 := by rw [← hh, Bd.state]; rfl
  have N0 := Fr.nil n0
  have pre0 : ∀ t, Steps p.tables e below (s₁.setTop (mkF m 0 #[vR a0, vI p1] [])) t → Steps p.tables e below (s₁.setTop (entryFrame m #[(.ref a0), (.int p1)] 2)) t := fun t k => castTop (ef_rm11 m a0 p1) k
  obtain ⟨cq1, q1, q1'⟩ := E_a0.cell
  obtain ⟨_, _, ⟨T1, L1, k1', n1'⟩, -, X1, ⟨Lc1, hQ1, l1, y1, z1⟩, st1⟩ := X0.privateBack hx (y := (⟨cCV, "checkRow", "(I)V"⟩ : MethodName)) hown (mvT hZ (w71 hw)) (mvT hZ (w72 hw)) (own_priv (mvT hZ (w1 hw)) (Cond.privateMethod_at (mvP hZ (w73 hw) (args := #[]))) (mvT hZ (w72 hw)) (by decide)) (Cond.privateMethod_at (mvP hZ (w73 hw) (args := #[]))) (mvT hZ (w74 hw)) (by decide) (backOf (W := 0) (rm12 l Z az hw [] a0 p1 rc h0 n0 Z0 F_rowCount_a0 hc4 hc5) hZ (w74 hw) (w2 hw) (by decide) (by decide)) (g := (mkF m 2 #[vR a0, vI p1] [(.int p1), (.ref a0)])) rfl (by rw [hml]; rfl) (Steps.refl _) (a := a0) (by rw [e0]; exact q1) q1' (argsL := [(.int p1)]) (rest := []) (lenOf pd_3 rfl) rfl (by show 2 * 0 + _ ≤ _; exact Nat.le_of_eq rfl) (hb hby d11_2) (fun _ _ => ⟨rfl, e0, (by decide : 0 + 0 ≤ _), (by decide : 0 + 0 ≤ _)⟩)
  dsimp only [Pt.U, Pt.locs, Pt.cells, Pt.slots] at X1 l1 y1 z1 st1 hQ1
  subst l1 y1 z1
  obtain ⟨rfl, N1q, e1⟩ := hQ1
  obtain ⟨Lg1, X1', N1⟩ := own_gen X1 (Fr.app N0 N1q)
  obtain ⟨T2, X2, e2, st2⟩ := getF X1' hx hZ hown (host := "") (Or.inl (w13 hw)) Via.refl e1 F_openPairs_a0 (g := (mkF m 6 #[vR a0, vI p1] [(.ref a0)])) rfl rfl (hb hby d11_6)
  obtain ⟨cl3, Ar3, qk3, Sz3, Ng3, Hs3, Gf3⟩ := id V_aP
  have hin4 : ¬ (p1 < 0 ∨ cl3.slots.size ≤ (p1).toNatClampNeg) := inb_of Sz3 ⟨hc4, hc6⟩
  have hat5 : cl3.slots[(p1).toNatClampNeg]? = some (.ref a9) := own_at Hs3 hin4 hc7
  obtain ⟨fs, hr, hrun, hended, hW, hsame⟩ := X2.leave (v := some (.ref a9)) (fun h => by rw [Bd.returns] at h; cases h)
  refine ⟨_, _, pre0 _ ?_, hrun, hended, _, _, rfl, ?_, ⟨_, rfl⟩, hW, hsame.mono (by decide) (by decide)⟩
  · show Steps p.tables e below (s₁.setTop (mkF m 0 #[vR a0, vI p1] [])) _
    refine XS.aloadN X0.here hx rfl (hb hby d11_0) rfl rfl ?_
    refine XS.iloadN X0.here hx rfl (hb hby d11_1) rfl ?_
    show Steps p.tables e below (s₁.setTop (mkF m 2 #[vR a0, vI p1] [(.int p1), (.ref a0)])) _
    refine st1.trans ?_
    show Steps p.tables e below (T1.setTop (mkF m 5 #[vR a0, vI p1] [])) _
    refine XS.aloadN X1'.here hx rfl (hb hby d11_5) rfl rfl ?_
    show Steps p.tables e below (T1.setTop (mkF m 6 #[vR a0, vI p1] [(.ref a0)])) _
    refine st2 _ ?_
    show Steps p.tables e below (T2.setTop (mkF m 9 #[vR a0, vI p1] [(.ref aP)])) _
    refine XS.iloadN X2.here hx rfl (hb hby d11_9) rfl ?_
    show Steps p.tables e below (T2.setTop (mkF m 10 #[vR a0, vI p1] [(.int p1), (.ref aP)])) _
    refine X2.aaload hx (j := p1) (v := (.ref a9)) (by rw [e2]; exact Ar3.1) (State.isArrayOf_alike hZ.alike Ar3.2.1) rfl Ar3.2.2 hin4 hat5 (g := (mkF m 10 #[vR a0, vI p1] [(.int p1), (.ref aP)])) rfl rfl (hb hby d11_10) _ ?_
    show Steps p.tables e below (T2.setTop (mkF m 11 #[vR a0, vI p1] [(.ref a9)])) _
    jvm_step X2.here [X2.here.top, hx, (hb hby d11_11), X2.method', Bd.returns, Value.isRef, FieldType.isReference]
    first | (intro acts; rw [hr _ acts rfl rfl rfl]) | rw [hr _ _ rfl rfl rfl]
    exact Steps.refl _
  · show Q11 Z a0 p1 rc aP kP fP a9 h0 n0 _ T2.heap _
    rw [e2]
    exact ⟨rfl, N1, rfl⟩
theorem d9_0 : decode prog_21_method_11_code 0 = .ok (.aload_n 0, 1) := by decide +kernel
theorem d9_1 : decode prog_21_method_11_code 1 = .ok (.iload_n 2, 1) := by decide +kernel
theorem d9_2 : decode prog_21_method_11_code 2 = .ok (.invokevirtual 98, 3) := by decide +kernel
theorem d9_5 : decode prog_21_method_11_code 5 = .ok (.aload_n 0, 1) := by decide +kernel
theorem d9_6 : decode prog_21_method_11_code 6 = .ok (.getfield 16, 3) := by decide +kernel
theorem d9_9 : decode prog_21_method_11_code 9 = .ok (.newarray .boolean, 2) := by decide +kernel
theorem d9_11 : decode prog_21_method_11_code 11 = .ok (.astore_n 3, 1) := by decide +kernel
theorem d9_12 : decode prog_21_method_11_code 12 = .ok (.aload_n 3, 1) := by decide +kernel
theorem d9_13 : decode prog_21_method_11_code 13 = .ok (.iload_n 2, 1) := by decide +kernel
theorem d9_14 : decode prog_21_method_11_code 14 = .ok (.iconst 1, 1) := by decide +kernel
theorem d9_15 : decode prog_21_method_11_code 15 = .ok (.bastore, 1) := by decide +kernel
theorem d9_16 : decode prog_21_method_11_code 16 = .ok (.aload_n 0, 1) := by decide +kernel
theorem d9_17 : decode prog_21_method_11_code 17 = .ok (.aload_n 0, 1) := by decide +kernel
theorem d9_18 : decode prog_21_method_11_code 18 = .ok (.iload_n 1, 1) := by decide +kernel
theorem d9_19 : decode prog_21_method_11_code 19 = .ok (.invokevirtual 77, 3) := by decide +kernel
theorem pd_4 : parseMethodDescriptor "(I)[I" = some ⟨[.int], some (.array .int)⟩ := by decide +kernel
theorem d9_22 : decode prog_21_method_11_code 22 = .ok (.iload_n 1, 1) := by decide +kernel
theorem d9_23 : decode prog_21_method_11_code 23 = .ok (.aload_n 3, 1) := by decide +kernel
theorem d9_24 : decode prog_21_method_11_code 24 = .ok (.invokevirtual 101, 3) := by decide +kernel
theorem pd_5 : parseMethodDescriptor "([II[Z)V" = some ⟨[(.array .int), .int, (.array .boolean)], none⟩ := by decide +kernel
theorem d9_27 : decode prog_21_method_11_code 27 = .ok (.return_, 1) := by decide +kernel
theorem ef_rmT10a (m : MethodId) (a0 : Addr) (p1 : Int32) : entryFrame m #[(.ref a0), (.int p1), (.int (0 : Int32))] 4 = mkF m 0 #[vR a0, vI p1, vI (0 : Int32), .unset] [] := by first | (simp [entryFrame, mkF, argsToLocals, Value.category]; done) | rfl
def QT10a (Z : State) (a0 : Addr) (p1 : Int32) (rc : Int32) (rem : Int32) (aP : Addr) (kP : ClassId) (fP : Nat → Value) (aC : Addr) (kC : ClassId) (aK : Addr) (kK : ClassId) (nK : Int32) (aO : Addr) (kO : ClassId) (aN : Addr) (kN : ClassId) (nN : Int32) (a9 : Addr) (k9 : ClassId) (v0 : Int32) (h0 : Heap) (n0 : Nat) (v : Option Value) (h : Heap) (L : List Loc) : Prop := ∃ r0 : Addr, ∃ rk0 : ClassId, v = none ∧ Fr n0 L ∧ h0.size ≤ r0 ∧ Keep h0 h [aO, aK, aP, aC, a0] ∧ Exa Z h aO "[I" ∧ own_Any Z h aO kO .int nK ∧ Exa Z h aK "[I" ∧ own_Any Z h aK kK .int nK ∧ Exa Z h aP "[[I" ∧ own_Arf Z h aP kP (.array .int) (8 : Int32) (own_upd fP (p1).toNatClampNeg (.ref r0)) ∧ Exa Z h aC "[Z" ∧ own_Any Z h aC kC .boolean (8 : Int32) ∧ Exa Z h a0 cCV ∧ Fld Z h a0 cCV "labelCount" "I" (.int (1 : Int32)) ∧ Fld Z h a0 cCV "rowCount" "I" (.int rc) ∧ Fld Z h a0 cCV "pairsShared" "Z" (.int (0 : Int32)) ∧ Fld Z h a0 cCV "remainingCount" "I" (.int (rem - (1 : Int32))) ∧ Fld Z h a0 cCV "openPairs" "[[I" (.ref aP) ∧ Fld Z h a0 cCV "covered" "[Z" (.ref aC) ∧ Fld Z h a0 cCV "coveredCounts" "[I" (.ref aK) ∧ Fld Z h a0 cCV "openCounts" "[I" (.ref aO) ∧ Fld Z h a0 cCV "ones" "[I" (.ref aN) ∧ Exa Z h r0 "[I" ∧ Arv Z h r0 rk0 .int (0 : Int32) [] (.int (0 : Int32))
set_option maxRecDepth 65536 in
set_option maxHeartbeats 40000000 in
theorem rmT10a (l : Launch) (Z : State) (az : Array Value) (hw : ∀ d ∈ tables_1, d.before az Z = true) (ws : List Jvm.Cond) (a0 : Addr) (p1 : Int32) (rc : Int32) (rem : Int32) (aP : Addr) (kP : ClassId) (fP : Nat → Value) (aC : Addr) (kC : ClassId) (aK : Addr) (kK : ClassId) (nK : Int32) (aO : Addr) (kO : ClassId) (aN : Addr) (kN : ClassId) (nN : Int32) (a9 : Addr) (k9 : ClassId) (v0 : Int32) (h0 : Heap) (n0 : Nat) (Z0 : n0 ≤ h0.size) (E_a0 : Exa Z h0 a0 cCV) (F_labelCount_a0 : Fld Z h0 a0 cCV "labelCount" "I" (.int (1 : Int32))) (F_rowCount_a0 : Fld Z h0 a0 cCV "rowCount" "I" (.int rc)) (F_pairsShared_a0 : Fld Z h0 a0 cCV "pairsShared" "Z" (.int (0 : Int32))) (F_remainingCount_a0 : Fld Z h0 a0 cCV "remainingCount" "I" (.int rem)) (F_openPairs_a0 : Fld Z h0 a0 cCV "openPairs" "[[I" (.ref aP)) (V_aP : own_Arf Z h0 aP kP (.array .int) (8 : Int32) fP) (E_aP : Exa Z h0 aP "[[I") (F_covered_a0 : Fld Z h0 a0 cCV "covered" "[Z" (.ref aC)) (V_aC : own_Any Z h0 aC kC .boolean (8 : Int32)) (E_aC : Exa Z h0 aC "[Z") (F_coveredCounts_a0 : Fld Z h0 a0 cCV "coveredCounts" "[I" (.ref aK)) (V_aK : own_Any Z h0 aK kK .int nK) (E_aK : Exa Z h0 aK "[I") (F_openCounts_a0 : Fld Z h0 a0 cCV "openCounts" "[I" (.ref aO)) (V_aO : own_Any Z h0 aO kO .int nK) (E_aO : Exa Z h0 aO "[I") (F_ones_a0 : Fld Z h0 a0 cCV "ones" "[I" (.ref aN)) (V_aN : own_Any Z h0 aN kN .int nN) (E_aN : Exa Z h0 aN "[I") (O_kP : OvrA Z kP .int "[I") (V_a9 : Arv Z h0 a9 k9 .int (1 : Int32) [(.int v0)] (.int (0 : Int32))) (E_a9 : Exa Z h0 a9 "[I") (hc23 : ¬ (p1 < (0 : Int32))) (hc24 : p1 < rc) (hc25 : p1 < (8 : Int32)) (hc26 : fP (p1).toNatClampNeg = (.ref a9)) (hc27 : ¬ ((v0 / (2 : Int32)) < (0 : Int32))) (hc28 : (v0 / (2 : Int32)) < (1 : Int32)) (hc29 : (own_upd (fun _ => (.int (0 : Int32))) ((0 : Int32)).toNatClampNeg (.int (1 : Int32))) ((v0 / (2 : Int32))).toNatClampNeg = (.int (1 : Int32))) (hc30 : ¬ (v0 < (0 : Int32))) (hc31 : v0 < nK) (g_aO : n0 ≤ aO) (hne_aK_aO : aK ≠ aO) (g_aK : n0 ≤ aK) (hne_a9_aO : a9 ≠ aO) (hne_a9_aK : a9 ≠ aK) (g_aP : n0 ≤ aP) (g_aC : n0 ≤ aC) (g_a0 : n0 ≤ a0) :
    MetFree l (⟨cCV, "settle", "(II)V"⟩ : MethodName) (head1 (Jvm.Cond.code (⟨cCV, "settle", "(II)V"⟩ : MethodName) prog_21_method_11_code 4 none :: ws) ({ frames := 3, cells := 3, slots := 5, locals := 110 } : Room)) (fun a U => a = #[(.ref a0), (.int p1), (.int (0 : Int32))] ∧ Z.Warmed39 U.vm ∧ U.heap = h0) (fun _ _ _ _ _ => True) (fun _ U o U' => ∃ v L, o = .returned v ∧ QT10a Z a0 p1 rc rem aP kP fP aC kC aK kK nK aO kO aN kN nN a9 k9 v0 h0 n0 v U'.heap L ∧ FrameEnd U o U' L ({ frames := 3, cells := 3, slots := 5, locals := 110 } : Room).cells ({ frames := 3, cells := 3, slots := 5, locals := 110 } : Room).slots) := by
  refine MetFree.of_bodySF (plainFor_of_name pn_com_example_headlattice_headlattice_learn_Coverage) hisR ?_
  intro p e s m args below meth c s₁ Bd hml0 hP hK
  obtain ⟨rfl, hZ, hh⟩ := hP
  have hx := Bd.exec
  have hby := Bd.bytes
  have hml : c.maxLocals = 4 := hml0
  have hown : s.vm.findClass cCV = some m.cls := findClass_of_methodNamed Bd.named
  have hnm := (name_of_methodNamed Bd.named Bd.method).1
  have X0 : Stand p l e ({ frames := 3, cells := 3, slots := 5, locals := 110 } : Room) s m #[(.ref a0), (.int p1), (.int (0 : Int32))] below meth c s₁ [] 0 0 := Stand.of_body Bd
  have e0 : s₁.heap = h0 := by rw [← hh, Bd.state]; rfl
  have N0 := Fr.nil n0
  have pre0 : ∀ t, Steps p.tables e below (s₁.setTop (mkF m 0 #[vR a0, vI p1, vI (0 : Int32), .unset] [])) t → Steps p.tables e below (s₁.setTop (entryFrame m #[(.ref a0), (.int p1), (.int (0 : Int32))] 4)) t := fun t k => castTop (ef_rmT10a m a0 p1) k
  obtain ⟨cq1, kq1, q1a, q1b, q1c⟩ := isOf hZ e0 E_a0
  obtain ⟨_, _, ⟨T1, L1, k1', n1'⟩, -, X1, ⟨Lc1, hQ1, l1, y1, z1⟩, st1⟩ := X0.virtualBack hx (y := (⟨cCV, "checkLabel", "(I)V"⟩ : MethodName)) (z := (⟨cCV, "checkLabel", "(I)V"⟩ : MethodName)) hown (mvT hZ (w62 hw)) (mvT hZ (w63 hw)) (notFace_of_selects (args := #[]) (mvT hZ (w65 hw))) (mvT hZ (w65 hw)) (mvT hZ (w64 hw)) (by decide) (backOf (W := 0) (rm10 l Z az hw [] a0 (0 : Int32) (1 : Int32) h0 n0 Z0 F_labelCount_a0 (by decide) (by decide)) hZ (w66 hw) (w2 hw) (by decide) (by decide)) q1a q1c (g := (mkF m 2 #[vR a0, vI p1, vI (0 : Int32), .unset] [(.int (0 : Int32)), (.ref a0)])) rfl (by rw [hml]; rfl) (Steps.refl _) (argsL := [(.int (0 : Int32))]) (rest := []) (lenOf pd_3 rfl) rfl (by show 2 * 0 + _ ≤ _; exact Nat.le_of_eq rfl) (hb hby d9_2) (fun _ _ => ⟨rfl, e0, (by decide : 0 + 0 ≤ _), (by decide : 0 + 0 ≤ _)⟩)
  dsimp only [Pt.U, Pt.locs, Pt.cells, Pt.slots] at X1 l1 y1 z1 st1 hQ1
  subst l1 y1 z1
  obtain ⟨rfl, N1q, e1⟩ := hQ1
  obtain ⟨Lg1, X1', N1⟩ := own_gen X1 (Fr.app N0 N1q)
  obtain ⟨T2, X2, e2, st2⟩ := getF X1' hx hZ hown (host := "") (Or.inl (w9 hw)) Via.refl e1 F_labelCount_a0 (g := (mkF m 6 #[vR a0, vI p1, vI (0 : Int32), .unset] [(.ref a0)])) rfl rfl (hb hby d9_6)
  obtain ⟨T3, h3, k3, X3, e3, E3, A3, x3, st3⟩ := newPE X2 hx hZ (aty := .boolean) (w15 hw) e2 (g := (mkF m 9 #[vR a0, vI p1, vI (0 : Int32), .unset] [(.int (1 : Int32))])) rfl (hb hby d9_9) rfl (by decide) (cap := 1) (by decide) (by decide) (by decide) (by decide) (ad := "[Z") (by decide)
  obtain ⟨b3, g3⟩ : ∃ z, z = h0.size := ⟨_, rfl⟩
  rw [← g3] at A3 x3 st3
  have g_b3 : n0 ≤ b3 := Nat.le_trans Z0 (Nat.le_of_eq g3.symm)
  have sz_b3 : h0.size ≤ b3 := Nat.le_trans (Nat.le_refl _) (Nat.le_of_eq g3.symm)
  have Z3 : n0 ≤ h3.size := Nat.le_trans Z0 E3.1
  have K3 : Keep h0 h3 [aO, aK, aP, aC, a0] := (Keep.refl h0 [aO, aK, aP, aC, a0]).ext E3
  have E_b3 := x3
  have V_b3 : Arv Z h3 b3 k3 .boolean (1 : Int32) [(.int (0 : Int32))] (.int (0 : Int32)) := (Arv.new A3 (by decide)).pad (pad_rep [] (.int (0 : Int32)) 1)
  have A_b3 : own_Arf Z h3 b3 k3 .boolean (1 : Int32) (fun _ => (.int (0 : Int32))) := own_Arf.new A3 (by decide)
  obtain ⟨cl4, Ar4, qk4, Sz4, Ng4, Hs4, Gf4⟩ := id A_b3
  have hin5 : ¬ ((0 : Int32) < 0 ∨ cl4.slots.size ≤ ((0 : Int32)).toNatClampNeg) := inb_of Sz4 ⟨by decide, by decide⟩
  obtain ⟨T6, h6, X6, e6, W6, st6⟩ := stZ X3 hx hZ e3 Ar4 (j := (0 : Int32)) hin5 (g := (mkF m 15 #[vR a0, vI p1, vI (0 : Int32), vR b3] [(.int (1 : Int32)), (.int (0 : Int32)), (.ref b3)])) rfl rfl (hb hby d9_15)
  have K6 : Keep h0 h6 [aO, aK, aP, aC, a0] := K3.wr W6 (Or.inr sz_b3)
  have V_b3_6 : own_Arf Z h6 b3 k3 .boolean (1 : Int32) (own_upd (fun _ => (.int (0 : Int32))) ((0 : Int32)).toNatClampNeg (.int (1 : Int32))) := own_Arf.set (v := (.int (1 : Int32))) Ar4 qk4 Sz4 Ng4 Hs4 Gf4 (by decide) W6
  have Z6 : n0 ≤ h6.size := Nat.le_trans Z3 (Keep.of_wr W6).1
  obtain ⟨Lg6, X6', N6⟩ := own_gen X6 (Fr.snoc X6 N1 g_b3)
  have E_a0_u8 : Exa Z h6 a0 cCV := ((E_a0.ext E3).wr W6)
  have ne_a0_b3 : a0 ≠ b3 := own_ne (Nat.lt_of_lt_of_le E_a0.lt (Nat.le_of_eq g3.symm))
  have F_a0_rowCount_u9 : Fld Z h6 a0 cCV "rowCount" "I" (.int rc) := ((F_rowCount_a0.ext E3).other W6 (Or.inl ne_a0_b3))
  have F_a0_openPairs_u10 : Fld Z h6 a0 cCV "openPairs" "[[I" (.ref aP) := ((F_openPairs_a0.ext E3).other W6 (Or.inl ne_a0_b3))
  have ne_aP_b3 : aP ≠ b3 := own_ne (Nat.lt_of_lt_of_le E_aP.lt (Nat.le_of_eq g3.symm))
  have V_aP_u11 : own_Arf Z h6 aP kP (.array .int) (8 : Int32) fP := ((V_aP.ext E3).other W6 ne_aP_b3)
  obtain ⟨cq7, q7, q7'⟩ := E_a0_u8.cell
  obtain ⟨_, _, ⟨T7, L7, k7', n7'⟩, -, X7, ⟨Lc7, hQ7, l7, y7, z7⟩, st7⟩ := X6'.privateBack hx (y := (⟨cCV, "openPairs", "(I)[I"⟩ : MethodName)) hown (mvT hZ (w67 hw)) (mvT hZ (w68 hw)) (own_priv (mvT hZ (w1 hw)) (Cond.privateMethod_at (mvP hZ (w69 hw) (args := #[]))) (mvT hZ (w68 hw)) (by decide)) (Cond.privateMethod_at (mvP hZ (w69 hw) (args := #[]))) (mvT hZ (w70 hw)) (by decide) (backOf (W := 1) (rm11 l Z az hw [] a0 p1 rc aP kP fP a9 h6 n0 Z6 E_a0_u8 F_a0_rowCount_u9 F_a0_openPairs_u10 V_aP_u11 hc23 hc24 hc25 hc26) hZ (w70 hw) (w2 hw) (by decide) (by decide)) (g := (mkF m 19 #[vR a0, vI p1, vI (0 : Int32), vR b3] [(.int p1), (.ref a0), (.ref a0)])) rfl (by rw [hml]; rfl) (Steps.refl _) (a := a0) (by rw [e6]; exact q7) q7' (argsL := [(.int p1)]) (rest := [(.ref a0)]) (lenOf pd_4 rfl) rfl (by show 2 * 0 + _ ≤ _; exact Nat.le_of_eq rfl) (hb hby d9_19) (fun _ _ => ⟨rfl, e6, (by decide : 1 + 0 ≤ _), (by decide : 1 + 0 ≤ _)⟩)
  dsimp only [Pt.U, Pt.locs, Pt.cells, Pt.slots] at X7 l7 y7 z7 st7 hQ7
  subst l7 y7 z7
  obtain ⟨rfl, N7q, e7⟩ := hQ7
  obtain ⟨Lg7, X7', N7⟩ := own_gen X7 (Fr.app N6 N7q)
  have F_a0_labelCount_u13 : Fld Z h6 a0 cCV "labelCount" "I" (.int (1 : Int32)) := ((F_labelCount_a0.ext E3).other W6 (Or.inl ne_a0_b3))
  have F_a0_pairsShared_u14 : Fld Z h6 a0 cCV "pairsShared" "Z" (.int (0 : Int32)) := ((F_pairsShared_a0.ext E3).other W6 (Or.inl ne_a0_b3))
  have F_a0_remainingCount_u15 : Fld Z h6 a0 cCV "remainingCount" "I" (.int rem) := ((F_remainingCount_a0.ext E3).other W6 (Or.inl ne_a0_b3))
  have E_aP_u16 : Exa Z h6 aP "[[I" := ((E_aP.ext E3).wr W6)
  have F_a0_covered_u17 : Fld Z h6 a0 cCV "covered" "[Z" (.ref aC) := ((F_covered_a0.ext E3).other W6 (Or.inl ne_a0_b3))
  have ne_aC_b3 : aC ≠ b3 := own_ne (Nat.lt_of_lt_of_le E_aC.lt (Nat.le_of_eq g3.symm))
  have V_aC_u18 : own_Any Z h6 aC kC .boolean (8 : Int32) := ((V_aC.ext E3).other W6 ne_aC_b3)
  have E_aC_u19 : Exa Z h6 aC "[Z" := ((E_aC.ext E3).wr W6)
  have F_a0_coveredCounts_u20 : Fld Z h6 a0 cCV "coveredCounts" "[I" (.ref aK) := ((F_coveredCounts_a0.ext E3).other W6 (Or.inl ne_a0_b3))
  have ne_aK_b3 : aK ≠ b3 := own_ne (Nat.lt_of_lt_of_le E_aK.lt (Nat.le_of_eq g3.symm))
  have V_aK_u21 : own_Any Z h6 aK kK .int nK := ((V_aK.ext E3).other W6 ne_aK_b3)
  have E_aK_u22 : Exa Z h6 aK "[I" := ((E_aK.ext E3).wr W6)
  have F_a0_openCounts_u23 : Fld Z h6 a0 cCV "openCounts" "[I" (.ref aO) := ((F_openCounts_a0.ext E3).other W6 (Or.inl ne_a0_b3))
  have ne_aO_b3 : aO ≠ b3 := own_ne (Nat.lt_of_lt_of_le E_aO.lt (Nat.le_of_eq g3.symm))
  have V_aO_u24 : own_Any Z h6 aO kO .int nK := ((V_aO.ext E3).other W6 ne_aO_b3)
  have E_aO_u25 : Exa Z h6 aO "[I" := ((E_aO.ext E3).wr W6)
  have F_a0_ones_u26 : Fld Z h6 a0 cCV "ones" "[I" (.ref aN) := ((F_ones_a0.ext E3).other W6 (Or.inl ne_a0_b3))
  have ne_a9_b3 : a9 ≠ b3 := own_ne (Nat.lt_of_lt_of_le E_a9.lt (Nat.le_of_eq g3.symm))
  have V_a9_u27 : Arv Z h6 a9 k9 .int (1 : Int32) [(.int v0)] (.int (0 : Int32)) := ((V_a9.ext E3).other W6 ne_a9_b3)
  have E_a9_u28 : Exa Z h6 a9 "[I" := ((E_a9.ext E3).wr W6)
  have E_b3_u29 : Exa Z h6 b3 "[Z" := (E_b3.wr W6)
  obtain ⟨cq12, q12, q12'⟩ := E_a0_u8.cell
  obtain ⟨_, _, ⟨T12, L12, k12', n12'⟩, -, X12, ⟨Lc12, hQ12, l12, y12, z12⟩, st12⟩ := X7'.privateBack hx (y := (⟨cCV, "settle", "([II[Z)V"⟩ : MethodName)) hown (mvT hZ (w75 hw)) (mvT hZ (w76 hw)) (own_priv (mvT hZ (w1 hw)) (Cond.privateMethod_at (mvP hZ (w77 hw) (args := #[]))) (mvT hZ (w76 hw)) (by decide)) (Cond.privateMethod_at (mvP hZ (w77 hw) (args := #[]))) (mvT hZ (w78 hw)) (by decide) (backOf (W := 0) (rm13B l Z az hw [] a0 a9 p1 b3 (1 : Int32) rc rem aP kP fP aC kC aK kK nK aO kO aN k9 v0 k3 (1 : Int32) (own_upd (fun _ => (.int (0 : Int32))) ((0 : Int32)).toNatClampNeg (.int (1 : Int32))) h6 n0 Z6 E_a0_u8 F_a0_labelCount_u13 F_a0_rowCount_u9 F_a0_pairsShared_u14 F_a0_remainingCount_u15 F_a0_openPairs_u10 V_aP_u11 E_aP_u16 F_a0_covered_u17 V_aC_u18 E_aC_u19 F_a0_coveredCounts_u20 V_aK_u21 E_aK_u22 F_a0_openCounts_u23 V_aO_u24 E_aO_u25 F_a0_ones_u26 O_kP V_a9_u27 E_a9_u28 V_b3_6 E_b3_u29 hc27 hc28 hc29 hc30 hc31 g_aO hc23 hc25 hne_aK_aO g_aK hne_a9_aO hne_a9_aK g_aP g_aC g_a0) hZ (w78 hw) (w2 hw) (by decide) (by decide)) (g := (mkF m 24 #[vR a0, vI p1, vI (0 : Int32), vR b3] [(.ref b3), (.int p1), (.ref a9), (.ref a0)])) rfl (by rw [hml]; rfl) (Steps.refl _) (a := a0) (by rw [e7]; exact q12) q12' (argsL := [(.ref a9), (.int p1), (.ref b3)]) (rest := []) (lenOf pd_5 rfl) rfl (by show 2 * 0 + _ ≤ _; exact Nat.le_of_eq rfl) (hb hby d9_24) (fun _ _ => ⟨rfl, e7, (by decide : 1 + 2 ≤ _), (by decide : 1 + 3 ≤ _)⟩)
  dsimp only [Pt.U, Pt.locs, Pt.cells, Pt.slots] at X12 l12 y12 z12 st12 hQ12
  subst l12 y12 z12
  obtain ⟨b12_0, kk12_0, rfl, N12q, s12_0, kq12, pf12_0, pf12_1, pf12_2, pf12_3, pf12_4, pf12_5, pf12_6, pf12_7, pf12_8, pf12_9, pf12_10, pf12_11, pf12_12, pf12_13, pf12_14, pf12_15, pf12_16, pf12_17, pf12_18, pf12_19⟩ := hQ12
  obtain ⟨Lg12, X12', N12⟩ := own_gen X12 (Fr.app N7 N12q)
  have g_b12_0 : n0 ≤ b12_0 := Nat.le_trans Z6 s12_0
  have sz_b12_0 : h0.size ≤ b12_0 := Nat.le_trans K6.1 s12_0
  have K12 : Keep h0 T12.heap [aO, aK, aP, aC, a0] := K6.trans kq12 (allS (Or.inl (List.mem_of_getElem? (i := 0) rfl)) (allS (Or.inl (List.mem_of_getElem? (i := 1) rfl)) (allS (Or.inl (List.mem_of_getElem? (i := 2) rfl)) (allS (Or.inl (List.mem_of_getElem? (i := 3) rfl)) (allS (Or.inl (List.mem_of_getElem? (i := 4) rfl)) all0)))))
  have Z12 : n0 ≤ T12.heap.size := Nat.le_trans Z6 kq12.1
  obtain ⟨fs, hr, hrun, hended, hW, hsame⟩ := X12'.leave (v := none) (fun _ => rfl)
  refine ⟨_, _, pre0 _ ?_, hrun, hended, _, _, rfl, ?_, ⟨_, rfl⟩, hW, hsame.mono (by decide) (by decide)⟩
  · show Steps p.tables e below (s₁.setTop (mkF m 0 #[vR a0, vI p1, vI (0 : Int32), .unset] [])) _
    refine XS.aloadN X0.here hx rfl (hb hby d9_0) rfl rfl ?_
    refine XS.iloadN X0.here hx rfl (hb hby d9_1) rfl ?_
    show Steps p.tables e below (s₁.setTop (mkF m 2 #[vR a0, vI p1, vI (0 : Int32), .unset] [(.int (0 : Int32)), (.ref a0)])) _
    refine st1.trans ?_
    show Steps p.tables e below (T1.setTop (mkF m 5 #[vR a0, vI p1, vI (0 : Int32), .unset] [])) _
    refine XS.aloadN X1'.here hx rfl (hb hby d9_5) rfl rfl ?_
    show Steps p.tables e below (T1.setTop (mkF m 6 #[vR a0, vI p1, vI (0 : Int32), .unset] [(.ref a0)])) _
    refine st2 _ ?_
    show Steps p.tables e below (T2.setTop (mkF m 9 #[vR a0, vI p1, vI (0 : Int32), .unset] [(.int (1 : Int32))])) _
    refine st3 _ ?_
    show Steps p.tables e below (T3.setTop (mkF m 11 #[vR a0, vI p1, vI (0 : Int32), .unset] [(.ref b3)])) _
    refine XS.astoreN X3.here hx rfl (hb hby d9_11) rfl rfl (l' := #[vR a0, vI p1, vI (0 : Int32), vR b3]) rfl ?_
    refine XS.aloadN X3.here hx rfl (hb hby d9_12) rfl rfl ?_
    refine XS.iloadN X3.here hx rfl (hb hby d9_13) rfl ?_
    refine XS.iconst X3.here hx rfl (hb hby d9_14) ?_
    show Steps p.tables e below (T3.setTop (mkF m 15 #[vR a0, vI p1, vI (0 : Int32), vR b3] [(.int (1 : Int32)), (.int (0 : Int32)), (.ref b3)])) _
    refine st6 _ ?_
    show Steps p.tables e below (T6.setTop (mkF m 16 #[vR a0, vI p1, vI (0 : Int32), vR b3] [])) _
    refine XS.aloadN X6'.here hx rfl (hb hby d9_16) rfl rfl ?_
    refine XS.aloadN X6'.here hx rfl (hb hby d9_17) rfl rfl ?_
    refine XS.iloadN X6'.here hx rfl (hb hby d9_18) rfl ?_
    show Steps p.tables e below (T6.setTop (mkF m 19 #[vR a0, vI p1, vI (0 : Int32), vR b3] [(.int p1), (.ref a0), (.ref a0)])) _
    refine st7.trans ?_
    show Steps p.tables e below (T7.setTop (mkF m 22 #[vR a0, vI p1, vI (0 : Int32), vR b3] [(.ref a9), (.ref a0)])) _
    refine XS.iloadN X7'.here hx rfl (hb hby d9_22) rfl ?_
    refine XS.aloadN X7'.here hx rfl (hb hby d9_23) rfl rfl ?_
    show Steps p.tables e below (T7.setTop (mkF m 24 #[vR a0, vI p1, vI (0 : Int32), vR b3] [(.ref b3), (.int p1), (.ref a9), (.ref a0)])) _
    refine st12.trans ?_
    show Steps p.tables e below (T12.setTop (mkF m 27 #[vR a0, vI p1, vI (0 : Int32), vR b3] [])) _
    exact X12'.returnOut hx Bd.returns (hb hby d9_27) hr
  · show QT10a Z a0 p1 rc rem aP kP fP aC kC aK kK nK aO kO aN kN nN a9 k9 v0 h0 n0 _ T12.heap _
    exact ⟨b12_0, kk12_0, rfl, N12, sz_b12_0, K12, pf12_1, pf12_0, pf12_2, pf12_3, pf12_5, pf12_4, pf12_6, pf12_7, pf12_8, pf12_9, pf12_10, pf12_11, pf12_12, pf12_13, pf12_14, pf12_15, pf12_16, pf12_17, pf12_18, pf12_19⟩
theorem ef_rmT10b (m : MethodId) (a0 : Addr) (p1 : Int32) : entryFrame m #[(.ref a0), (.int p1), (.int (0 : Int32))] 4 = mkF m 0 #[vR a0, vI p1, vI (0 : Int32), .unset] [] := by first | (simp [entryFrame, mkF, argsToLocals, Value.category]; done) | rfl
def QT10b (Z : State) (a0 : Addr) (p1 : Int32) (rc : Int32) (rem : Int32) (aP : Addr) (kP : ClassId) (fP : Nat → Value) (aC : Addr) (kC : ClassId) (aK : Addr) (kK : ClassId) (nK : Int32) (aO : Addr) (kO : ClassId) (aN : Addr) (kN : ClassId) (nN : Int32) (a9 : Addr) (k9 : ClassId) (h0 : Heap) (n0 : Nat) (v : Option Value) (h : Heap) (L : List Loc) : Prop := v = none ∧ Fr n0 L ∧ Keep h0 h []
set_option maxRecDepth 65536 in
set_option maxHeartbeats 40000000 in
theorem rmT10b (l : Launch) (Z : State) (az : Array Value) (hw : ∀ d ∈ tables_1, d.before az Z = true) (ws : List Jvm.Cond) (a0 : Addr) (p1 : Int32) (rc : Int32) (rem : Int32) (aP : Addr) (kP : ClassId) (fP : Nat → Value) (aC : Addr) (kC : ClassId) (aK : Addr) (kK : ClassId) (nK : Int32) (aO : Addr) (kO : ClassId) (aN : Addr) (kN : ClassId) (nN : Int32) (a9 : Addr) (k9 : ClassId) (h0 : Heap) (n0 : Nat) (Z0 : n0 ≤ h0.size) (E_a0 : Exa Z h0 a0 cCV) (F_labelCount_a0 : Fld Z h0 a0 cCV "labelCount" "I" (.int (1 : Int32))) (F_rowCount_a0 : Fld Z h0 a0 cCV "rowCount" "I" (.int rc)) (F_pairsShared_a0 : Fld Z h0 a0 cCV "pairsShared" "Z" (.int (0 : Int32))) (F_remainingCount_a0 : Fld Z h0 a0 cCV "remainingCount" "I" (.int rem)) (F_openPairs_a0 : Fld Z h0 a0 cCV "openPairs" "[[I" (.ref aP)) (V_aP : own_Arf Z h0 aP kP (.array .int) (8 : Int32) fP) (E_aP : Exa Z h0 aP "[[I") (F_covered_a0 : Fld Z h0 a0 cCV "covered" "[Z" (.ref aC)) (V_aC : own_Any Z h0 aC kC .boolean (8 : Int32)) (E_aC : Exa Z h0 aC "[Z") (F_coveredCounts_a0 : Fld Z h0 a0 cCV "coveredCounts" "[I" (.ref aK)) (V_aK : own_Any Z h0 aK kK .int nK) (E_aK : Exa Z h0 aK "[I") (F_openCounts_a0 : Fld Z h0 a0 cCV "openCounts" "[I" (.ref aO)) (V_aO : own_Any Z h0 aO kO .int nK) (E_aO : Exa Z h0 aO "[I") (F_ones_a0 : Fld Z h0 a0 cCV "ones" "[I" (.ref aN)) (V_aN : own_Any Z h0 aN kN .int nN) (E_aN : Exa Z h0 aN "[I") (O_kP : OvrA Z kP .int "[I") (V_a9 : Arv Z h0 a9 k9 .int (0 : Int32) [] (.int (0 : Int32))) (E_a9 : Exa Z h0 a9 "[I") (hc23 : ¬ (p1 < (0 : Int32))) (hc24 : p1 < rc) (hc25 : p1 < (8 : Int32)) (hc26 : fP (p1).toNatClampNeg = (.ref a9)) :
    MetFree l (⟨cCV, "settle", "(II)V"⟩ : MethodName) (head1 (Jvm.Cond.code (⟨cCV, "settle", "(II)V"⟩ : MethodName) prog_21_method_11_code 4 none :: ws) ({ frames := 3, cells := 3, slots := 5, locals := 110 } : Room)) (fun a U => a = #[(.ref a0), (.int p1), (.int (0 : Int32))] ∧ Z.Warmed39 U.vm ∧ U.heap = h0) (fun _ _ _ _ _ => True) (fun _ U o U' => ∃ v L, o = .returned v ∧ QT10b Z a0 p1 rc rem aP kP fP aC kC aK kK nK aO kO aN kN nN a9 k9 h0 n0 v U'.heap L ∧ FrameEnd U o U' L ({ frames := 3, cells := 3, slots := 5, locals := 110 } : Room).cells ({ frames := 3, cells := 3, slots := 5, locals := 110 } : Room).slots) := by
  refine MetFree.of_bodySF (plainFor_of_name pn_com_example_headlattice_headlattice_learn_Coverage) hisR ?_
  intro p e s m args below meth c s₁ Bd hml0 hP hK
  obtain ⟨rfl, hZ, hh⟩ := hP
  have hx := Bd.exec
  have hby := Bd.bytes
  have hml : c.maxLocals = 4 := hml0
  have hown : s.vm.findClass cCV = some m.cls := findClass_of_methodNamed Bd.named
  have hnm := (name_of_methodNamed Bd.named Bd.method).1
  have X0 : Stand p l e ({ frames := 3, cells := 3, slots := 5, locals := 110 } : Room) s m #[(.ref a0), (.int p1), (.int (0 : Int32))] below meth c s₁ [] 0 0 := Stand.of_body Bd
  have e0 : s₁.heap = h0 := by rw [← hh, Bd.state]; rfl
  have N0 := Fr.nil n0
  have pre0 : ∀ t, Steps p.tables e below (s₁.setTop (mkF m 0 #[vR a0, vI p1, vI (0 : Int32), .unset] [])) t → Steps p.tables e below (s₁.setTop (entryFrame m #[(.ref a0), (.int p1), (.int (0 : Int32))] 4)) t := fun t k => castTop (ef_rmT10b m a0 p1) k
  obtain ⟨cq1, kq1, q1a, q1b, q1c⟩ := isOf hZ e0 E_a0
  obtain ⟨_, _, ⟨T1, L1, k1', n1'⟩, -, X1, ⟨Lc1, hQ1, l1, y1, z1⟩, st1⟩ := X0.virtualBack hx (y := (⟨cCV, "checkLabel", "(I)V"⟩ : MethodName)) (z := (⟨cCV, "checkLabel", "(I)V"⟩ : MethodName)) hown (mvT hZ (w62 hw)) (mvT hZ (w63 hw)) (notFace_of_selects (args := #[]) (mvT hZ (w65 hw))) (mvT hZ (w65 hw)) (mvT hZ (w64 hw)) (by decide) (backOf (W := 0) (rm10 l Z az hw [] a0 (0 : Int32) (1 : Int32) h0 n0 Z0 F_labelCount_a0 (by decide) (by decide)) hZ (w66 hw) (w2 hw) (by decide) (by decide)) q1a q1c (g := (mkF m 2 #[vR a0, vI p1, vI (0 : Int32), .unset] [(.int (0 : Int32)), (.ref a0)])) rfl (by rw [hml]; rfl) (Steps.refl _) (argsL := [(.int (0 : Int32))]) (rest := []) (lenOf pd_3 rfl) rfl (by show 2 * 0 + _ ≤ _; exact Nat.le_of_eq rfl) (hb hby d9_2) (fun _ _ => ⟨rfl, e0, (by decide : 0 + 0 ≤ _), (by decide : 0 + 0 ≤ _)⟩)
  dsimp only [Pt.U, Pt.locs, Pt.cells, Pt.slots] at X1 l1 y1 z1 st1 hQ1
  subst l1 y1 z1
  obtain ⟨rfl, N1q, e1⟩ := hQ1
  obtain ⟨Lg1, X1', N1⟩ := own_gen X1 (Fr.app N0 N1q)
  obtain ⟨T2, X2, e2, st2⟩ := getF X1' hx hZ hown (host := "") (Or.inl (w9 hw)) Via.refl e1 F_labelCount_a0 (g := (mkF m 6 #[vR a0, vI p1, vI (0 : Int32), .unset] [(.ref a0)])) rfl rfl (hb hby d9_6)
  obtain ⟨T3, h3, k3, X3, e3, E3, A3, x3, st3⟩ := newPE X2 hx hZ (aty := .boolean) (w15 hw) e2 (g := (mkF m 9 #[vR a0, vI p1, vI (0 : Int32), .unset] [(.int (1 : Int32))])) rfl (hb hby d9_9) rfl (by decide) (cap := 1) (by decide) (by decide) (by decide) (by decide) (ad := "[Z") (by decide)
  obtain ⟨b3, g3⟩ : ∃ z, z = h0.size := ⟨_, rfl⟩
  rw [← g3] at A3 x3 st3
  have g_b3 : n0 ≤ b3 := Nat.le_trans Z0 (Nat.le_of_eq g3.symm)
  have sz_b3 : h0.size ≤ b3 := Nat.le_trans (Nat.le_refl _) (Nat.le_of_eq g3.symm)
  have Z3 : n0 ≤ h3.size := Nat.le_trans Z0 E3.1
  have K3 : Keep h0 h3 [] := (Keep.refl h0 []).ext E3
  have E_b3 := x3
  have V_b3 : Arv Z h3 b3 k3 .boolean (1 : Int32) [(.int (0 : Int32))] (.int (0 : Int32)) := (Arv.new A3 (by decide)).pad (pad_rep [] (.int (0 : Int32)) 1)
  have A_b3 : own_Arf Z h3 b3 k3 .boolean (1 : Int32) (fun _ => (.int (0 : Int32))) := own_Arf.new A3 (by decide)
  obtain ⟨cl4, Ar4, qk4, Sz4, Ng4, Hs4, Gf4⟩ := id A_b3
  have hin5 : ¬ ((0 : Int32) < 0 ∨ cl4.slots.size ≤ ((0 : Int32)).toNatClampNeg) := inb_of Sz4 ⟨by decide, by decide⟩
  obtain ⟨T6, h6, X6, e6, W6, st6⟩ := stZ X3 hx hZ e3 Ar4 (j := (0 : Int32)) hin5 (g := (mkF m 15 #[vR a0, vI p1, vI (0 : Int32), vR b3] [(.int (1 : Int32)), (.int (0 : Int32)), (.ref b3)])) rfl rfl (hb hby d9_15)
  have K6 : Keep h0 h6 [] := K3.wr W6 (Or.inr sz_b3)
  have V_b3_6 : own_Arf Z h6 b3 k3 .boolean (1 : Int32) (own_upd (fun _ => (.int (0 : Int32))) ((0 : Int32)).toNatClampNeg (.int (1 : Int32))) := own_Arf.set (v := (.int (1 : Int32))) Ar4 qk4 Sz4 Ng4 Hs4 Gf4 (by decide) W6
  have Z6 : n0 ≤ h6.size := Nat.le_trans Z3 (Keep.of_wr W6).1
  obtain ⟨Lg6, X6', N6⟩ := own_gen X6 (Fr.snoc X6 N1 g_b3)
  have E_a0_u8 : Exa Z h6 a0 cCV := ((E_a0.ext E3).wr W6)
  have ne_a0_b3 : a0 ≠ b3 := own_ne (Nat.lt_of_lt_of_le E_a0.lt (Nat.le_of_eq g3.symm))
  have F_a0_rowCount_u9 : Fld Z h6 a0 cCV "rowCount" "I" (.int rc) := ((F_rowCount_a0.ext E3).other W6 (Or.inl ne_a0_b3))
  have F_a0_openPairs_u10 : Fld Z h6 a0 cCV "openPairs" "[[I" (.ref aP) := ((F_openPairs_a0.ext E3).other W6 (Or.inl ne_a0_b3))
  have ne_aP_b3 : aP ≠ b3 := own_ne (Nat.lt_of_lt_of_le E_aP.lt (Nat.le_of_eq g3.symm))
  have V_aP_u11 : own_Arf Z h6 aP kP (.array .int) (8 : Int32) fP := ((V_aP.ext E3).other W6 ne_aP_b3)
  obtain ⟨cq7, q7, q7'⟩ := E_a0_u8.cell
  obtain ⟨_, _, ⟨T7, L7, k7', n7'⟩, -, X7, ⟨Lc7, hQ7, l7, y7, z7⟩, st7⟩ := X6'.privateBack hx (y := (⟨cCV, "openPairs", "(I)[I"⟩ : MethodName)) hown (mvT hZ (w67 hw)) (mvT hZ (w68 hw)) (own_priv (mvT hZ (w1 hw)) (Cond.privateMethod_at (mvP hZ (w69 hw) (args := #[]))) (mvT hZ (w68 hw)) (by decide)) (Cond.privateMethod_at (mvP hZ (w69 hw) (args := #[]))) (mvT hZ (w70 hw)) (by decide) (backOf (W := 1) (rm11 l Z az hw [] a0 p1 rc aP kP fP a9 h6 n0 Z6 E_a0_u8 F_a0_rowCount_u9 F_a0_openPairs_u10 V_aP_u11 hc23 hc24 hc25 hc26) hZ (w70 hw) (w2 hw) (by decide) (by decide)) (g := (mkF m 19 #[vR a0, vI p1, vI (0 : Int32), vR b3] [(.int p1), (.ref a0), (.ref a0)])) rfl (by rw [hml]; rfl) (Steps.refl _) (a := a0) (by rw [e6]; exact q7) q7' (argsL := [(.int p1)]) (rest := [(.ref a0)]) (lenOf pd_4 rfl) rfl (by show 2 * 0 + _ ≤ _; exact Nat.le_of_eq rfl) (hb hby d9_19) (fun _ _ => ⟨rfl, e6, (by decide : 1 + 0 ≤ _), (by decide : 1 + 0 ≤ _)⟩)
  dsimp only [Pt.U, Pt.locs, Pt.cells, Pt.slots] at X7 l7 y7 z7 st7 hQ7
  subst l7 y7 z7
  obtain ⟨rfl, N7q, e7⟩ := hQ7
  obtain ⟨Lg7, X7', N7⟩ := own_gen X7 (Fr.app N6 N7q)
  have F_a0_labelCount_u13 : Fld Z h6 a0 cCV "labelCount" "I" (.int (1 : Int32)) := ((F_labelCount_a0.ext E3).other W6 (Or.inl ne_a0_b3))
  have F_a0_pairsShared_u14 : Fld Z h6 a0 cCV "pairsShared" "Z" (.int (0 : Int32)) := ((F_pairsShared_a0.ext E3).other W6 (Or.inl ne_a0_b3))
  have F_a0_remainingCount_u15 : Fld Z h6 a0 cCV "remainingCount" "I" (.int rem) := ((F_remainingCount_a0.ext E3).other W6 (Or.inl ne_a0_b3))
  have E_aP_u16 : Exa Z h6 aP "[[I" := ((E_aP.ext E3).wr W6)
  have F_a0_covered_u17 : Fld Z h6 a0 cCV "covered" "[Z" (.ref aC) := ((F_covered_a0.ext E3).other W6 (Or.inl ne_a0_b3))
  have ne_aC_b3 : aC ≠ b3 := own_ne (Nat.lt_of_lt_of_le E_aC.lt (Nat.le_of_eq g3.symm))
  have V_aC_u18 : own_Any Z h6 aC kC .boolean (8 : Int32) := ((V_aC.ext E3).other W6 ne_aC_b3)
  have E_aC_u19 : Exa Z h6 aC "[Z" := ((E_aC.ext E3).wr W6)
  have F_a0_coveredCounts_u20 : Fld Z h6 a0 cCV "coveredCounts" "[I" (.ref aK) := ((F_coveredCounts_a0.ext E3).other W6 (Or.inl ne_a0_b3))
  have ne_aK_b3 : aK ≠ b3 := own_ne (Nat.lt_of_lt_of_le E_aK.lt (Nat.le_of_eq g3.symm))
  have V_aK_u21 : own_Any Z h6 aK kK .int nK := ((V_aK.ext E3).other W6 ne_aK_b3)
  have E_aK_u22 : Exa Z h6 aK "[I" := ((E_aK.ext E3).wr W6)
  have F_a0_openCounts_u23 : Fld Z h6 a0 cCV "openCounts" "[I" (.ref aO) := ((F_openCounts_a0.ext E3).other W6 (Or.inl ne_a0_b3))
  have ne_aO_b3 : aO ≠ b3 := own_ne (Nat.lt_of_lt_of_le E_aO.lt (Nat.le_of_eq g3.symm))
  have V_aO_u24 : own_Any Z h6 aO kO .int nK := ((V_aO.ext E3).other W6 ne_aO_b3)
  have E_aO_u25 : Exa Z h6 aO "[I" := ((E_aO.ext E3).wr W6)
  have F_a0_ones_u26 : Fld Z h6 a0 cCV "ones" "[I" (.ref aN) := ((F_ones_a0.ext E3).other W6 (Or.inl ne_a0_b3))
  have ne_a9_b3 : a9 ≠ b3 := own_ne (Nat.lt_of_lt_of_le E_a9.lt (Nat.le_of_eq g3.symm))
  have V_a9_u27 : Arv Z h6 a9 k9 .int (0 : Int32) [] (.int (0 : Int32)) := ((V_a9.ext E3).other W6 ne_a9_b3)
  have E_a9_u28 : Exa Z h6 a9 "[I" := ((E_a9.ext E3).wr W6)
  have E_b3_u29 : Exa Z h6 b3 "[Z" := (E_b3.wr W6)
  obtain ⟨cq12, q12, q12'⟩ := E_a0_u8.cell
  obtain ⟨_, _, ⟨T12, L12, k12', n12'⟩, -, X12, ⟨Lc12, hQ12, l12, y12, z12⟩, st12⟩ := X7'.privateBack hx (y := (⟨cCV, "settle", "([II[Z)V"⟩ : MethodName)) hown (mvT hZ (w75 hw)) (mvT hZ (w76 hw)) (own_priv (mvT hZ (w1 hw)) (Cond.privateMethod_at (mvP hZ (w77 hw) (args := #[]))) (mvT hZ (w76 hw)) (by decide)) (Cond.privateMethod_at (mvP hZ (w77 hw) (args := #[]))) (mvT hZ (w78 hw)) (by decide) (backOf (W := 0) (rm13A l Z az hw [] a0 a9 p1 b3 (1 : Int32) rc rem aP kP fP aC kC aK kK nK aO kO aN k9 k3 (1 : Int32) (own_upd (fun _ => (.int (0 : Int32))) ((0 : Int32)).toNatClampNeg (.int (1 : Int32))) h6 n0 Z6 E_a0_u8 F_a0_labelCount_u13 F_a0_rowCount_u9 F_a0_pairsShared_u14 F_a0_remainingCount_u15 F_a0_openPairs_u10 V_aP_u11 E_aP_u16 F_a0_covered_u17 V_aC_u18 E_aC_u19 F_a0_coveredCounts_u20 V_aK_u21 E_aK_u22 F_a0_openCounts_u23 V_aO_u24 E_aO_u25 F_a0_ones_u26 O_kP V_a9_u27 E_a9_u28 V_b3_6 E_b3_u29) hZ (w78 hw) (w2 hw) (by decide) (by decide)) (g := (mkF m 24 #[vR a0, vI p1, vI (0 : Int32), vR b3] [(.ref b3), (.int p1), (.ref a9), (.ref a0)])) rfl (by rw [hml]; rfl) (Steps.refl _) (a := a0) (by rw [e7]; exact q12) q12' (argsL := [(.ref a9), (.int p1), (.ref b3)]) (rest := []) (lenOf pd_5 rfl) rfl (by show 2 * 0 + _ ≤ _; exact Nat.le_of_eq rfl) (hb hby d9_24) (fun _ _ => ⟨rfl, e7, (by decide : 1 + 2 ≤ _), (by decide : 1 + 3 ≤ _)⟩)
  dsimp only [Pt.U, Pt.locs, Pt.cells, Pt.slots] at X12 l12 y12 z12 st12 hQ12
  subst l12 y12 z12
  obtain ⟨rfl, N12q, kq12⟩ := hQ12
  obtain ⟨Lg12, X12', N12⟩ := own_gen X12 (Fr.app N7 N12q)
  have K12 : Keep h0 T12.heap [] := K6.trans kq12 all0
  have Z12 : n0 ≤ T12.heap.size := Nat.le_trans Z6 kq12.1
  obtain ⟨fs, hr, hrun, hended, hW, hsame⟩ := X12'.leave (v := none) (fun _ => rfl)
  refine ⟨_, _, pre0 _ ?_, hrun, hended, _, _, rfl, ?_, ⟨_, rfl⟩, hW, hsame.mono (by decide) (by decide)⟩
  · show Steps p.tables e below (s₁.setTop (mkF m 0 #[vR a0, vI p1, vI (0 : Int32), .unset] [])) _
    refine XS.aloadN X0.here hx rfl (hb hby d9_0) rfl rfl ?_
    refine XS.iloadN X0.here hx rfl (hb hby d9_1) rfl ?_
    show Steps p.tables e below (s₁.setTop (mkF m 2 #[vR a0, vI p1, vI (0 : Int32), .unset] [(.int (0 : Int32)), (.ref a0)])) _
    refine st1.trans ?_
    show Steps p.tables e below (T1.setTop (mkF m 5 #[vR a0, vI p1, vI (0 : Int32), .unset] [])) _
    refine XS.aloadN X1'.here hx rfl (hb hby d9_5) rfl rfl ?_
    show Steps p.tables e below (T1.setTop (mkF m 6 #[vR a0, vI p1, vI (0 : Int32), .unset] [(.ref a0)])) _
    refine st2 _ ?_
    show Steps p.tables e below (T2.setTop (mkF m 9 #[vR a0, vI p1, vI (0 : Int32), .unset] [(.int (1 : Int32))])) _
    refine st3 _ ?_
    show Steps p.tables e below (T3.setTop (mkF m 11 #[vR a0, vI p1, vI (0 : Int32), .unset] [(.ref b3)])) _
    refine XS.astoreN X3.here hx rfl (hb hby d9_11) rfl rfl (l' := #[vR a0, vI p1, vI (0 : Int32), vR b3]) rfl ?_
    refine XS.aloadN X3.here hx rfl (hb hby d9_12) rfl rfl ?_
    refine XS.iloadN X3.here hx rfl (hb hby d9_13) rfl ?_
    refine XS.iconst X3.here hx rfl (hb hby d9_14) ?_
    show Steps p.tables e below (T3.setTop (mkF m 15 #[vR a0, vI p1, vI (0 : Int32), vR b3] [(.int (1 : Int32)), (.int (0 : Int32)), (.ref b3)])) _
    refine st6 _ ?_
    show Steps p.tables e below (T6.setTop (mkF m 16 #[vR a0, vI p1, vI (0 : Int32), vR b3] [])) _
    refine XS.aloadN X6'.here hx rfl (hb hby d9_16) rfl rfl ?_
    refine XS.aloadN X6'.here hx rfl (hb hby d9_17) rfl rfl ?_
    refine XS.iloadN X6'.here hx rfl (hb hby d9_18) rfl ?_
    show Steps p.tables e below (T6.setTop (mkF m 19 #[vR a0, vI p1, vI (0 : Int32), vR b3] [(.int p1), (.ref a0), (.ref a0)])) _
    refine st7.trans ?_
    show Steps p.tables e below (T7.setTop (mkF m 22 #[vR a0, vI p1, vI (0 : Int32), vR b3] [(.ref a9), (.ref a0)])) _
    refine XS.iloadN X7'.here hx rfl (hb hby d9_22) rfl ?_
    refine XS.aloadN X7'.here hx rfl (hb hby d9_23) rfl rfl ?_
    show Steps p.tables e below (T7.setTop (mkF m 24 #[vR a0, vI p1, vI (0 : Int32), vR b3] [(.ref b3), (.int p1), (.ref a9), (.ref a0)])) _
    refine st12.trans ?_
    show Steps p.tables e below (T12.setTop (mkF m 27 #[vR a0, vI p1, vI (0 : Int32), vR b3] [])) _
    exact X12'.returnOut hx Bd.returns (hb hby d9_27) hr
  · show QT10b Z a0 p1 rc rem aP kP fP aC kC aK kK nK aO kO aN kN nN a9 k9 h0 n0 _ T12.heap _
    exact ⟨rfl, N12, K12⟩
theorem ef_rmT20 (m : MethodId) (a0 : Addr) (p1 : Int32) : entryFrame m #[(.ref a0), (.int p1), (.int (0 : Int32))] 4 = mkF m 0 #[vR a0, vI p1, vI (0 : Int32), .unset] [] := by first | (simp [entryFrame, mkF, argsToLocals, Value.category]; done) | rfl
def QT20 (Z : State) (a0 : Addr) (p1 : Int32) (rc : Int32) (rem : Int32) (aP : Addr) (kP : ClassId) (fP : Nat → Value) (aC : Addr) (kC : ClassId) (aK : Addr) (kK : ClassId) (nK : Int32) (aO : Addr) (kO : ClassId) (aN : Addr) (kN : ClassId) (nN : Int32) (a9 : Addr) (k9 : ClassId) (v0 : Int32) (v1 : Int32) (h0 : Heap) (n0 : Nat) (v : Option Value) (h : Heap) (L : List Loc) : Prop := ∃ r0 : Addr, ∃ rk0 : ClassId, v = none ∧ Fr n0 L ∧ h0.size ≤ r0 ∧ Keep h0 h [aO, aK, aP, aC] ∧ Exa Z h aO "[I" ∧ own_Any Z h aO kO .int nK ∧ Exa Z h aK "[I" ∧ own_Any Z h aK kK .int nK ∧ Exa Z h aP "[[I" ∧ own_Arf Z h aP kP (.array .int) (8 : Int32) (own_upd fP (p1).toNatClampNeg (.ref r0)) ∧ Exa Z h aC "[Z" ∧ own_Any Z h aC kC .boolean (8 : Int32) ∧ Exa Z h r0 "[I" ∧ Arv Z h r0 rk0 .int (1 : Int32) [(.int v1)] (.int (0 : Int32))
set_option maxRecDepth 65536 in
set_option maxHeartbeats 40000000 in
theorem rmT20 (l : Launch) (Z : State) (az : Array Value) (hw : ∀ d ∈ tables_1, d.before az Z = true) (ws : List Jvm.Cond) (a0 : Addr) (p1 : Int32) (rc : Int32) (rem : Int32) (aP : Addr) (kP : ClassId) (fP : Nat → Value) (aC : Addr) (kC : ClassId) (aK : Addr) (kK : ClassId) (nK : Int32) (aO : Addr) (kO : ClassId) (aN : Addr) (kN : ClassId) (nN : Int32) (a9 : Addr) (k9 : ClassId) (v0 : Int32) (v1 : Int32) (h0 : Heap) (n0 : Nat) (Z0 : n0 ≤ h0.size) (E_a0 : Exa Z h0 a0 cCV) (F_labelCount_a0 : Fld Z h0 a0 cCV "labelCount" "I" (.int (2 : Int32))) (F_rowCount_a0 : Fld Z h0 a0 cCV "rowCount" "I" (.int rc)) (F_pairsShared_a0 : Fld Z h0 a0 cCV "pairsShared" "Z" (.int (0 : Int32))) (F_remainingCount_a0 : Fld Z h0 a0 cCV "remainingCount" "I" (.int rem)) (F_openPairs_a0 : Fld Z h0 a0 cCV "openPairs" "[[I" (.ref aP)) (V_aP : own_Arf Z h0 aP kP (.array .int) (8 : Int32) fP) (E_aP : Exa Z h0 aP "[[I") (F_covered_a0 : Fld Z h0 a0 cCV "covered" "[Z" (.ref aC)) (V_aC : own_Any Z h0 aC kC .boolean (8 : Int32)) (E_aC : Exa Z h0 aC "[Z") (F_coveredCounts_a0 : Fld Z h0 a0 cCV "coveredCounts" "[I" (.ref aK)) (V_aK : own_Any Z h0 aK kK .int nK) (E_aK : Exa Z h0 aK "[I") (F_openCounts_a0 : Fld Z h0 a0 cCV "openCounts" "[I" (.ref aO)) (V_aO : own_Any Z h0 aO kO .int nK) (E_aO : Exa Z h0 aO "[I") (F_ones_a0 : Fld Z h0 a0 cCV "ones" "[I" (.ref aN)) (V_aN : own_Any Z h0 aN kN .int nN) (E_aN : Exa Z h0 aN "[I") (O_kP : OvrA Z kP .int "[I") (V_a9 : Arv Z h0 a9 k9 .int (2 : Int32) [(.int v0), (.int v1)] (.int (0 : Int32))) (E_a9 : Exa Z h0 a9 "[I") (hc23 : ¬ (p1 < (0 : Int32))) (hc24 : p1 < rc) (hc25 : p1 < (8 : Int32)) (hc26 : fP (p1).toNatClampNeg = (.ref a9)) (hc27 : ¬ ((v0 / (2 : Int32)) < (0 : Int32))) (hc28 : (v0 / (2 : Int32)) < (2 : Int32)) (hc29 : (own_upd (fun _ => (.int (0 : Int32))) ((0 : Int32)).toNatClampNeg (.int (1 : Int32))) ((v0 / (2 : Int32))).toNatClampNeg = (.int (1 : Int32))) (hc30 : ¬ (v0 < (0 : Int32))) (hc31 : v0 < nK) (g_aO : n0 ≤ aO) (hne_aK_aO : aK ≠ aO) (g_aK : n0 ≤ aK) (hne_a9_aO : a9 ≠ aO) (hne_a9_aK : a9 ≠ aK) (hc37 : ¬ ((v1 / (2 : Int32)) < (0 : Int32))) (hc38 : (v1 / (2 : Int32)) < (2 : Int32)) (hc39 : (own_upd (fun _ => (.int (0 : Int32))) ((0 : Int32)).toNatClampNeg (.int (1 : Int32))) ((v1 / (2 : Int32))).toNatClampNeg = (.int (0 : Int32))) (g_aP : n0 ≤ aP) (g_aC : n0 ≤ aC) :
    MetFree l (⟨cCV, "settle", "(II)V"⟩ : MethodName) (head1 (Jvm.Cond.code (⟨cCV, "settle", "(II)V"⟩ : MethodName) prog_21_method_11_code 4 none :: ws) ({ frames := 3, cells := 3, slots := 5, locals := 110 } : Room)) (fun a U => a = #[(.ref a0), (.int p1), (.int (0 : Int32))] ∧ Z.Warmed39 U.vm ∧ U.heap = h0) (fun _ _ _ _ _ => True) (fun _ U o U' => ∃ v L, o = .returned v ∧ QT20 Z a0 p1 rc rem aP kP fP aC kC aK kK nK aO kO aN kN nN a9 k9 v0 v1 h0 n0 v U'.heap L ∧ FrameEnd U o U' L ({ frames := 3, cells := 3, slots := 5, locals := 110 } : Room).cells ({ frames := 3, cells := 3, slots := 5, locals := 110 } : Room).slots) := by
  refine MetFree.of_bodySF (plainFor_of_name pn_com_example_headlattice_headlattice_learn_Coverage) hisR ?_
  intro p e s m args below meth c s₁ Bd hml0 hP hK
  obtain ⟨rfl, hZ, hh⟩ := hP
  have hx := Bd.exec
  have hby := Bd.bytes
  have hml : c.maxLocals = 4 := hml0
  have hown : s.vm.findClass cCV = some m.cls := findClass_of_methodNamed Bd.named
  have hnm := (name_of_methodNamed Bd.named Bd.method).1
  have X0 : Stand p l e ({ frames := 3, cells := 3, slots := 5, locals := 110 } : Room) s m #[(.ref a0), (.int p1), (.int (0 : Int32))] below meth c s₁ [] 0 0 := Stand.of_body Bd
  have e0 : s₁.heap = h0 := by rw [← hh, Bd.state]; rfl
  have N0 := Fr.nil n0
  have pre0 : ∀ t, Steps p.tables e below (s₁.setTop (mkF m 0 #[vR a0, vI p1, vI (0 : Int32), .unset] [])) t → Steps p.tables e below (s₁.setTop (entryFrame m #[(.ref a0), (.int p1), (.int (0 : Int32))] 4)) t := fun t k => castTop (ef_rmT20 m a0 p1) k
  obtain ⟨cq1, kq1, q1a, q1b, q1c⟩ := isOf hZ e0 E_a0
  obtain ⟨_, _, ⟨T1, L1, k1', n1'⟩, -, X1, ⟨Lc1, hQ1, l1, y1, z1⟩, st1⟩ := X0.virtualBack hx (y := (⟨cCV, "checkLabel", "(I)V"⟩ : MethodName)) (z := (⟨cCV, "checkLabel", "(I)V"⟩ : MethodName)) hown (mvT hZ (w62 hw)) (mvT hZ (w63 hw)) (notFace_of_selects (args := #[]) (mvT hZ (w65 hw))) (mvT hZ (w65 hw)) (mvT hZ (w64 hw)) (by decide) (backOf (W := 0) (rm10 l Z az hw [] a0 (0 : Int32) (2 : Int32) h0 n0 Z0 F_labelCount_a0 (by decide) (by decide)) hZ (w66 hw) (w2 hw) (by decide) (by decide)) q1a q1c (g := (mkF m 2 #[vR a0, vI p1, vI (0 : Int32), .unset] [(.int (0 : Int32)), (.ref a0)])) rfl (by rw [hml]; rfl) (Steps.refl _) (argsL := [(.int (0 : Int32))]) (rest := []) (lenOf pd_3 rfl) rfl (by show 2 * 0 + _ ≤ _; exact Nat.le_of_eq rfl) (hb hby d9_2) (fun _ _ => ⟨rfl, e0, (by decide : 0 + 0 ≤ _), (by decide : 0 + 0 ≤ _)⟩)
  dsimp only [Pt.U, Pt.locs, Pt.cells, Pt.slots] at X1 l1 y1 z1 st1 hQ1
  subst l1 y1 z1
  obtain ⟨rfl, N1q, e1⟩ := hQ1
  obtain ⟨Lg1, X1', N1⟩ := own_gen X1 (Fr.app N0 N1q)
  obtain ⟨T2, X2, e2, st2⟩ := getF X1' hx hZ hown (host := "") (Or.inl (w9 hw)) Via.refl e1 F_labelCount_a0 (g := (mkF m 6 #[vR a0, vI p1, vI (0 : Int32), .unset] [(.ref a0)])) rfl rfl (hb hby d9_6)
  obtain ⟨T3, h3, k3, X3, e3, E3, A3, x3, st3⟩ := newPE X2 hx hZ (aty := .boolean) (w15 hw) e2 (g := (mkF m 9 #[vR a0, vI p1, vI (0 : Int32), .unset] [(.int (2 : Int32))])) rfl (hb hby d9_9) rfl (by decide) (cap := 2) (by decide) (by decide) (by decide) (by decide) (ad := "[Z") (by decide)
  obtain ⟨b3, g3⟩ : ∃ z, z = h0.size := ⟨_, rfl⟩
  rw [← g3] at A3 x3 st3
  have g_b3 : n0 ≤ b3 := Nat.le_trans Z0 (Nat.le_of_eq g3.symm)
  have sz_b3 : h0.size ≤ b3 := Nat.le_trans (Nat.le_refl _) (Nat.le_of_eq g3.symm)
  have Z3 : n0 ≤ h3.size := Nat.le_trans Z0 E3.1
  have K3 : Keep h0 h3 [aO, aK, aP, aC] := (Keep.refl h0 [aO, aK, aP, aC]).ext E3
  have E_b3 := x3
  have V_b3 : Arv Z h3 b3 k3 .boolean (2 : Int32) [(.int (0 : Int32)), (.int (0 : Int32))] (.int (0 : Int32)) := (Arv.new A3 (by decide)).pad (pad_rep [] (.int (0 : Int32)) 2)
  have A_b3 : own_Arf Z h3 b3 k3 .boolean (2 : Int32) (fun _ => (.int (0 : Int32))) := own_Arf.new A3 (by decide)
  obtain ⟨cl4, Ar4, qk4, Sz4, Ng4, Hs4, Gf4⟩ := id A_b3
  have hin5 : ¬ ((0 : Int32) < 0 ∨ cl4.slots.size ≤ ((0 : Int32)).toNatClampNeg) := inb_of Sz4 ⟨by decide, by decide⟩
  obtain ⟨T6, h6, X6, e6, W6, st6⟩ := stZ X3 hx hZ e3 Ar4 (j := (0 : Int32)) hin5 (g := (mkF m 15 #[vR a0, vI p1, vI (0 : Int32), vR b3] [(.int (1 : Int32)), (.int (0 : Int32)), (.ref b3)])) rfl rfl (hb hby d9_15)
  have K6 : Keep h0 h6 [aO, aK, aP, aC] := K3.wr W6 (Or.inr sz_b3)
  have V_b3_6 : own_Arf Z h6 b3 k3 .boolean (2 : Int32) (own_upd (fun _ => (.int (0 : Int32))) ((0 : Int32)).toNatClampNeg (.int (1 : Int32))) := own_Arf.set (v := (.int (1 : Int32))) Ar4 qk4 Sz4 Ng4 Hs4 Gf4 (by decide) W6
  have Z6 : n0 ≤ h6.size := Nat.le_trans Z3 (Keep.of_wr W6).1
  obtain ⟨Lg6, X6', N6⟩ := own_gen X6 (Fr.snoc X6 N1 g_b3)
  have E_a0_u8 : Exa Z h6 a0 cCV := ((E_a0.ext E3).wr W6)
  have ne_a0_b3 : a0 ≠ b3 := own_ne (Nat.lt_of_lt_of_le E_a0.lt (Nat.le_of_eq g3.symm))
  have F_a0_rowCount_u9 : Fld Z h6 a0 cCV "rowCount" "I" (.int rc) := ((F_rowCount_a0.ext E3).other W6 (Or.inl ne_a0_b3))
  have F_a0_openPairs_u10 : Fld Z h6 a0 cCV "openPairs" "[[I" (.ref aP) := ((F_openPairs_a0.ext E3).other W6 (Or.inl ne_a0_b3))
  have ne_aP_b3 : aP ≠ b3 := own_ne (Nat.lt_of_lt_of_le E_aP.lt (Nat.le_of_eq g3.symm))
  have V_aP_u11 : own_Arf Z h6 aP kP (.array .int) (8 : Int32) fP := ((V_aP.ext E3).other W6 ne_aP_b3)
  obtain ⟨cq7, q7, q7'⟩ := E_a0_u8.cell
  obtain ⟨_, _, ⟨T7, L7, k7', n7'⟩, -, X7, ⟨Lc7, hQ7, l7, y7, z7⟩, st7⟩ := X6'.privateBack hx (y := (⟨cCV, "openPairs", "(I)[I"⟩ : MethodName)) hown (mvT hZ (w67 hw)) (mvT hZ (w68 hw)) (own_priv (mvT hZ (w1 hw)) (Cond.privateMethod_at (mvP hZ (w69 hw) (args := #[]))) (mvT hZ (w68 hw)) (by decide)) (Cond.privateMethod_at (mvP hZ (w69 hw) (args := #[]))) (mvT hZ (w70 hw)) (by decide) (backOf (W := 1) (rm11 l Z az hw [] a0 p1 rc aP kP fP a9 h6 n0 Z6 E_a0_u8 F_a0_rowCount_u9 F_a0_openPairs_u10 V_aP_u11 hc23 hc24 hc25 hc26) hZ (w70 hw) (w2 hw) (by decide) (by decide)) (g := (mkF m 19 #[vR a0, vI p1, vI (0 : Int32), vR b3] [(.int p1), (.ref a0), (.ref a0)])) rfl (by rw [hml]; rfl) (Steps.refl _) (a := a0) (by rw [e6]; exact q7) q7' (argsL := [(.int p1)]) (rest := [(.ref a0)]) (lenOf pd_4 rfl) rfl (by show 2 * 0 + _ ≤ _; exact Nat.le_of_eq rfl) (hb hby d9_19) (fun _ _ => ⟨rfl, e6, (by decide : 1 + 0 ≤ _), (by decide : 2 + 0 ≤ _)⟩)
  dsimp only [Pt.U, Pt.locs, Pt.cells, Pt.slots] at X7 l7 y7 z7 st7 hQ7
  subst l7 y7 z7
  obtain ⟨rfl, N7q, e7⟩ := hQ7
  obtain ⟨Lg7, X7', N7⟩ := own_gen X7 (Fr.app N6 N7q)
  have F_a0_labelCount_u13 : Fld Z h6 a0 cCV "labelCount" "I" (.int (2 : Int32)) := ((F_labelCount_a0.ext E3).other W6 (Or.inl ne_a0_b3))
  have F_a0_pairsShared_u14 : Fld Z h6 a0 cCV "pairsShared" "Z" (.int (0 : Int32)) := ((F_pairsShared_a0.ext E3).other W6 (Or.inl ne_a0_b3))
  have F_a0_remainingCount_u15 : Fld Z h6 a0 cCV "remainingCount" "I" (.int rem) := ((F_remainingCount_a0.ext E3).other W6 (Or.inl ne_a0_b3))
  have E_aP_u16 : Exa Z h6 aP "[[I" := ((E_aP.ext E3).wr W6)
  have F_a0_covered_u17 : Fld Z h6 a0 cCV "covered" "[Z" (.ref aC) := ((F_covered_a0.ext E3).other W6 (Or.inl ne_a0_b3))
  have ne_aC_b3 : aC ≠ b3 := own_ne (Nat.lt_of_lt_of_le E_aC.lt (Nat.le_of_eq g3.symm))
  have V_aC_u18 : own_Any Z h6 aC kC .boolean (8 : Int32) := ((V_aC.ext E3).other W6 ne_aC_b3)
  have E_aC_u19 : Exa Z h6 aC "[Z" := ((E_aC.ext E3).wr W6)
  have F_a0_coveredCounts_u20 : Fld Z h6 a0 cCV "coveredCounts" "[I" (.ref aK) := ((F_coveredCounts_a0.ext E3).other W6 (Or.inl ne_a0_b3))
  have ne_aK_b3 : aK ≠ b3 := own_ne (Nat.lt_of_lt_of_le E_aK.lt (Nat.le_of_eq g3.symm))
  have V_aK_u21 : own_Any Z h6 aK kK .int nK := ((V_aK.ext E3).other W6 ne_aK_b3)
  have E_aK_u22 : Exa Z h6 aK "[I" := ((E_aK.ext E3).wr W6)
  have F_a0_openCounts_u23 : Fld Z h6 a0 cCV "openCounts" "[I" (.ref aO) := ((F_openCounts_a0.ext E3).other W6 (Or.inl ne_a0_b3))
  have ne_aO_b3 : aO ≠ b3 := own_ne (Nat.lt_of_lt_of_le E_aO.lt (Nat.le_of_eq g3.symm))
  have V_aO_u24 : own_Any Z h6 aO kO .int nK := ((V_aO.ext E3).other W6 ne_aO_b3)
  have E_aO_u25 : Exa Z h6 aO "[I" := ((E_aO.ext E3).wr W6)
  have F_a0_ones_u26 : Fld Z h6 a0 cCV "ones" "[I" (.ref aN) := ((F_ones_a0.ext E3).other W6 (Or.inl ne_a0_b3))
  have ne_a9_b3 : a9 ≠ b3 := own_ne (Nat.lt_of_lt_of_le E_a9.lt (Nat.le_of_eq g3.symm))
  have V_a9_u27 : Arv Z h6 a9 k9 .int (2 : Int32) [(.int v0), (.int v1)] (.int (0 : Int32)) := ((V_a9.ext E3).other W6 ne_a9_b3)
  have E_a9_u28 : Exa Z h6 a9 "[I" := ((E_a9.ext E3).wr W6)
  have E_b3_u29 : Exa Z h6 b3 "[Z" := (E_b3.wr W6)
  obtain ⟨cq12, q12, q12'⟩ := E_a0_u8.cell
  obtain ⟨_, _, ⟨T12, L12, k12', n12'⟩, -, X12, ⟨Lc12, hQ12, l12, y12, z12⟩, st12⟩ := X7'.privateBack hx (y := (⟨cCV, "settle", "([II[Z)V"⟩ : MethodName)) hown (mvT hZ (w75 hw)) (mvT hZ (w76 hw)) (own_priv (mvT hZ (w1 hw)) (Cond.privateMethod_at (mvP hZ (w77 hw) (args := #[]))) (mvT hZ (w76 hw)) (by decide)) (Cond.privateMethod_at (mvP hZ (w77 hw) (args := #[]))) (mvT hZ (w78 hw)) (by decide) (backOf (W := 0) (rm13C l Z az hw [] a0 a9 p1 b3 (2 : Int32) rc rem aP kP fP aC kC aK kK nK aO kO aN k9 v0 v1 k3 (2 : Int32) (own_upd (fun _ => (.int (0 : Int32))) ((0 : Int32)).toNatClampNeg (.int (1 : Int32))) h6 n0 Z6 E_a0_u8 F_a0_labelCount_u13 F_a0_rowCount_u9 F_a0_pairsShared_u14 F_a0_remainingCount_u15 F_a0_openPairs_u10 V_aP_u11 E_aP_u16 F_a0_covered_u17 V_aC_u18 E_aC_u19 F_a0_coveredCounts_u20 V_aK_u21 E_aK_u22 F_a0_openCounts_u23 V_aO_u24 E_aO_u25 F_a0_ones_u26 O_kP V_a9_u27 E_a9_u28 V_b3_6 E_b3_u29 hc27 hc28 hc29 hc30 hc31 g_aO hc23 hc25 hne_aK_aO g_aK hne_a9_aO hne_a9_aK hc37 hc38 hc39 g_aP g_aC) hZ (w78 hw) (w2 hw) (by decide) (by decide)) (g := (mkF m 24 #[vR a0, vI p1, vI (0 : Int32), vR b3] [(.ref b3), (.int p1), (.ref a9), (.ref a0)])) rfl (by rw [hml]; rfl) (Steps.refl _) (a := a0) (by rw [e7]; exact q12) q12' (argsL := [(.ref a9), (.int p1), (.ref b3)]) (rest := []) (lenOf pd_5 rfl) rfl (by show 2 * 0 + _ ≤ _; exact Nat.le_of_eq rfl) (hb hby d9_24) (fun _ _ => ⟨rfl, e7, (by decide : 1 + 2 ≤ _), (by decide : 2 + 3 ≤ _)⟩)
  dsimp only [Pt.U, Pt.locs, Pt.cells, Pt.slots] at X12 l12 y12 z12 st12 hQ12
  subst l12 y12 z12
  obtain ⟨b12_0, kk12_0, rfl, N12q, s12_0, kq12, pf12_0, pf12_1, pf12_2, pf12_3, pf12_4, pf12_5, pf12_6, pf12_7, pf12_8, pf12_9⟩ := hQ12
  obtain ⟨Lg12, X12', N12⟩ := own_gen X12 (Fr.app N7 N12q)
  have g_b12_0 : n0 ≤ b12_0 := Nat.le_trans Z6 s12_0
  have sz_b12_0 : h0.size ≤ b12_0 := Nat.le_trans K6.1 s12_0
  have K12 : Keep h0 T12.heap [aO, aK, aP, aC] := K6.trans kq12 (allS (Or.inl (List.mem_of_getElem? (i := 0) rfl)) (allS (Or.inl (List.mem_of_getElem? (i := 1) rfl)) (allS (Or.inl (List.mem_of_getElem? (i := 2) rfl)) (allS (Or.inl (List.mem_of_getElem? (i := 3) rfl)) all0))))
  have Z12 : n0 ≤ T12.heap.size := Nat.le_trans Z6 kq12.1
  obtain ⟨fs, hr, hrun, hended, hW, hsame⟩ := X12'.leave (v := none) (fun _ => rfl)
  refine ⟨_, _, pre0 _ ?_, hrun, hended, _, _, rfl, ?_, ⟨_, rfl⟩, hW, hsame.mono (by decide) (by decide)⟩
  · show Steps p.tables e below (s₁.setTop (mkF m 0 #[vR a0, vI p1, vI (0 : Int32), .unset] [])) _
    refine XS.aloadN X0.here hx rfl (hb hby d9_0) rfl rfl ?_
    refine XS.iloadN X0.here hx rfl (hb hby d9_1) rfl ?_
    show Steps p.tables e below (s₁.setTop (mkF m 2 #[vR a0, vI p1, vI (0 : Int32), .unset] [(.int (0 : Int32)), (.ref a0)])) _
    refine st1.trans ?_
    show Steps p.tables e below (T1.setTop (mkF m 5 #[vR a0, vI p1, vI (0 : Int32), .unset] [])) _
    refine XS.aloadN X1'.here hx rfl (hb hby d9_5) rfl rfl ?_
    show Steps p.tables e below (T1.setTop (mkF m 6 #[vR a0, vI p1, vI (0 : Int32), .unset] [(.ref a0)])) _
    refine st2 _ ?_
    show Steps p.tables e below (T2.setTop (mkF m 9 #[vR a0, vI p1, vI (0 : Int32), .unset] [(.int (2 : Int32))])) _
    refine st3 _ ?_
    show Steps p.tables e below (T3.setTop (mkF m 11 #[vR a0, vI p1, vI (0 : Int32), .unset] [(.ref b3)])) _
    refine XS.astoreN X3.here hx rfl (hb hby d9_11) rfl rfl (l' := #[vR a0, vI p1, vI (0 : Int32), vR b3]) rfl ?_
    refine XS.aloadN X3.here hx rfl (hb hby d9_12) rfl rfl ?_
    refine XS.iloadN X3.here hx rfl (hb hby d9_13) rfl ?_
    refine XS.iconst X3.here hx rfl (hb hby d9_14) ?_
    show Steps p.tables e below (T3.setTop (mkF m 15 #[vR a0, vI p1, vI (0 : Int32), vR b3] [(.int (1 : Int32)), (.int (0 : Int32)), (.ref b3)])) _
    refine st6 _ ?_
    show Steps p.tables e below (T6.setTop (mkF m 16 #[vR a0, vI p1, vI (0 : Int32), vR b3] [])) _
    refine XS.aloadN X6'.here hx rfl (hb hby d9_16) rfl rfl ?_
    refine XS.aloadN X6'.here hx rfl (hb hby d9_17) rfl rfl ?_
    refine XS.iloadN X6'.here hx rfl (hb hby d9_18) rfl ?_
    show Steps p.tables e below (T6.setTop (mkF m 19 #[vR a0, vI p1, vI (0 : Int32), vR b3] [(.int p1), (.ref a0), (.ref a0)])) _
    refine st7.trans ?_
    show Steps p.tables e below (T7.setTop (mkF m 22 #[vR a0, vI p1, vI (0 : Int32), vR b3] [(.ref a9), (.ref a0)])) _
    refine XS.iloadN X7'.here hx rfl (hb hby d9_22) rfl ?_
    refine XS.aloadN X7'.here hx rfl (hb hby d9_23) rfl rfl ?_
    show Steps p.tables e below (T7.setTop (mkF m 24 #[vR a0, vI p1, vI (0 : Int32), vR b3] [(.ref b3), (.int p1), (.ref a9), (.ref a0)])) _
    refine st12.trans ?_
    show Steps p.tables e below (T12.setTop (mkF m 27 #[vR a0, vI p1, vI (0 : Int32), vR b3] [])) _
    exact X12'.returnOut hx Bd.returns (hb hby d9_27) hr
  · show QT20 Z a0 p1 rc rem aP kP fP aC kC aK kK nK aO kO aN kN nN a9 k9 v0 v1 h0 n0 _ T12.heap _
    exact ⟨b12_0, kk12_0, rfl, N12, sz_b12_0, K12, pf12_1, pf12_0, pf12_2, pf12_3, pf12_5, pf12_4, pf12_6, pf12_7, pf12_8, pf12_9⟩
theorem ef_rmT21a (m : MethodId) (a0 : Addr) (p1 : Int32) : entryFrame m #[(.ref a0), (.int p1), (.int (1 : Int32))] 4 = mkF m 0 #[vR a0, vI p1, vI (1 : Int32), .unset] [] := by first | (simp [entryFrame, mkF, argsToLocals, Value.category]; done) | rfl
def QT21a (Z : State) (a0 : Addr) (p1 : Int32) (rc : Int32) (rem : Int32) (aP : Addr) (kP : ClassId) (fP : Nat → Value) (aC : Addr) (kC : ClassId) (aK : Addr) (kK : ClassId) (nK : Int32) (aO : Addr) (kO : ClassId) (aN : Addr) (kN : ClassId) (nN : Int32) (a9 : Addr) (k9 : ClassId) (v0 : Int32) (v1 : Int32) (h0 : Heap) (n0 : Nat) (v : Option Value) (h : Heap) (L : List Loc) : Prop := ∃ r0 : Addr, ∃ rk0 : ClassId, v = none ∧ Fr n0 L ∧ h0.size ≤ r0 ∧ Keep h0 h [aO, aK, aP, aC] ∧ Exa Z h aO "[I" ∧ own_Any Z h aO kO .int nK ∧ Exa Z h aK "[I" ∧ own_Any Z h aK kK .int nK ∧ Exa Z h aP "[[I" ∧ own_Arf Z h aP kP (.array .int) (8 : Int32) (own_upd fP (p1).toNatClampNeg (.ref r0)) ∧ Exa Z h aC "[Z" ∧ own_Any Z h aC kC .boolean (8 : Int32) ∧ Exa Z h r0 "[I" ∧ Arv Z h r0 rk0 .int (1 : Int32) [(.int v0)] (.int (0 : Int32))
set_option maxRecDepth 65536 in
set_option maxHeartbeats 40000000 in
theorem rmT21a (l : Launch) (Z : State) (az : Array Value) (hw : ∀ d ∈ tables_1, d.before az Z = true) (ws : List Jvm.Cond) (a0 : Addr) (p1 : Int32) (rc : Int32) (rem : Int32) (aP : Addr) (kP : ClassId) (fP : Nat → Value) (aC : Addr) (kC : ClassId) (aK : Addr) (kK : ClassId) (nK : Int32) (aO : Addr) (kO : ClassId) (aN : Addr) (kN : ClassId) (nN : Int32) (a9 : Addr) (k9 : ClassId) (v0 : Int32) (v1 : Int32) (h0 : Heap) (n0 : Nat) (Z0 : n0 ≤ h0.size) (E_a0 : Exa Z h0 a0 cCV) (F_labelCount_a0 : Fld Z h0 a0 cCV "labelCount" "I" (.int (2 : Int32))) (F_rowCount_a0 : Fld Z h0 a0 cCV "rowCount" "I" (.int rc)) (F_pairsShared_a0 : Fld Z h0 a0 cCV "pairsShared" "Z" (.int (0 : Int32))) (F_remainingCount_a0 : Fld Z h0 a0 cCV "remainingCount" "I" (.int rem)) (F_openPairs_a0 : Fld Z h0 a0 cCV "openPairs" "[[I" (.ref aP)) (V_aP : own_Arf Z h0 aP kP (.array .int) (8 : Int32) fP) (E_aP : Exa Z h0 aP "[[I") (F_covered_a0 : Fld Z h0 a0 cCV "covered" "[Z" (.ref aC)) (V_aC : own_Any Z h0 aC kC .boolean (8 : Int32)) (E_aC : Exa Z h0 aC "[Z") (F_coveredCounts_a0 : Fld Z h0 a0 cCV "coveredCounts" "[I" (.ref aK)) (V_aK : own_Any Z h0 aK kK .int nK) (E_aK : Exa Z h0 aK "[I") (F_openCounts_a0 : Fld Z h0 a0 cCV "openCounts" "[I" (.ref aO)) (V_aO : own_Any Z h0 aO kO .int nK) (E_aO : Exa Z h0 aO "[I") (F_ones_a0 : Fld Z h0 a0 cCV "ones" "[I" (.ref aN)) (V_aN : own_Any Z h0 aN kN .int nN) (E_aN : Exa Z h0 aN "[I") (O_kP : OvrA Z kP .int "[I") (V_a9 : Arv Z h0 a9 k9 .int (2 : Int32) [(.int v0), (.int v1)] (.int (0 : Int32))) (E_a9 : Exa Z h0 a9 "[I") (hc23 : ¬ (p1 < (0 : Int32))) (hc24 : p1 < rc) (hc25 : p1 < (8 : Int32)) (hc26 : fP (p1).toNatClampNeg = (.ref a9)) (hc27 : ¬ ((v0 / (2 : Int32)) < (0 : Int32))) (hc28 : (v0 / (2 : Int32)) < (2 : Int32)) (hc29 : (own_upd (fun _ => (.int (0 : Int32))) ((1 : Int32)).toNatClampNeg (.int (1 : Int32))) ((v0 / (2 : Int32))).toNatClampNeg = (.int (0 : Int32))) (hc30 : ¬ ((v1 / (2 : Int32)) < (0 : Int32))) (hc31 : (v1 / (2 : Int32)) < (2 : Int32)) (hc32 : (own_upd (fun _ => (.int (0 : Int32))) ((1 : Int32)).toNatClampNeg (.int (1 : Int32))) ((v1 / (2 : Int32))).toNatClampNeg = (.int (1 : Int32))) (hc33 : ¬ (v1 < (0 : Int32))) (hc34 : v1 < nK) (g_aO : n0 ≤ aO) (hne_aK_aO : aK ≠ aO) (g_aK : n0 ≤ aK) (hne_a9_aO : a9 ≠ aO) (hne_a9_aK : a9 ≠ aK) (g_aP : n0 ≤ aP) (g_aC : n0 ≤ aC) :
    MetFree l (⟨cCV, "settle", "(II)V"⟩ : MethodName) (head1 (Jvm.Cond.code (⟨cCV, "settle", "(II)V"⟩ : MethodName) prog_21_method_11_code 4 none :: ws) ({ frames := 3, cells := 3, slots := 5, locals := 110 } : Room)) (fun a U => a = #[(.ref a0), (.int p1), (.int (1 : Int32))] ∧ Z.Warmed39 U.vm ∧ U.heap = h0) (fun _ _ _ _ _ => True) (fun _ U o U' => ∃ v L, o = .returned v ∧ QT21a Z a0 p1 rc rem aP kP fP aC kC aK kK nK aO kO aN kN nN a9 k9 v0 v1 h0 n0 v U'.heap L ∧ FrameEnd U o U' L ({ frames := 3, cells := 3, slots := 5, locals := 110 } : Room).cells ({ frames := 3, cells := 3, slots := 5, locals := 110 } : Room).slots) := by
  refine MetFree.of_bodySF (plainFor_of_name pn_com_example_headlattice_headlattice_learn_Coverage) hisR ?_
  intro p e s m args below meth c s₁ Bd hml0 hP hK
  obtain ⟨rfl, hZ, hh⟩ := hP
  have hx := Bd.exec
  have hby := Bd.bytes
  have hml : c.maxLocals = 4 := hml0
  have hown : s.vm.findClass cCV = some m.cls := findClass_of_methodNamed Bd.named
  have hnm := (name_of_methodNamed Bd.named Bd.method).1
  have X0 : Stand p l e ({ frames := 3, cells := 3, slots := 5, locals := 110 } : Room) s m #[(.ref a0), (.int p1), (.int (1 : Int32))] below meth c s₁ [] 0 0 := Stand.of_body Bd
  have e0 : s₁.heap = h0 := by rw [← hh, Bd.state]; rfl
  have N0 := Fr.nil n0
  have pre0 : ∀ t, Steps p.tables e below (s₁.setTop (mkF m 0 #[vR a0, vI p1, vI (1 : Int32), .unset] [])) t → Steps p.tables e below (s₁.setTop (entryFrame m #[(.ref a0), (.int p1), (.int (1 : Int32))] 4)) t := fun t k => castTop (ef_rmT21a m a0 p1) k
  obtain ⟨cq1, kq1, q1a, q1b, q1c⟩ := isOf hZ e0 E_a0
  obtain ⟨_, _, ⟨T1, L1, k1', n1'⟩, -, X1, ⟨Lc1, hQ1, l1, y1, z1⟩, st1⟩ := X0.virtualBack hx (y := (⟨cCV, "checkLabel", "(I)V"⟩ : MethodName)) (z := (⟨cCV, "checkLabel", "(I)V"⟩ : MethodName)) hown (mvT hZ (w62 hw)) (mvT hZ (w63 hw)) (notFace_of_selects (args := #[]) (mvT hZ (w65 hw))) (mvT hZ (w65 hw)) (mvT hZ (w64 hw)) (by decide) (backOf (W := 0) (rm10 l Z az hw [] a0 (1 : Int32) (2 : Int32) h0 n0 Z0 F_labelCount_a0 (by decide) (by decide)) hZ (w66 hw) (w2 hw) (by decide) (by decide)) q1a q1c (g := (mkF m 2 #[vR a0, vI p1, vI (1 : Int32), .unset] [(.int (1 : Int32)), (.ref a0)])) rfl (by rw [hml]; rfl) (Steps.refl _) (argsL := [(.int (1 : Int32))]) (rest := []) (lenOf pd_3 rfl) rfl (by show 2 * 0 + _ ≤ _; exact Nat.le_of_eq rfl) (hb hby d9_2) (fun _ _ => ⟨rfl, e0, (by decide : 0 + 0 ≤ _), (by decide : 0 + 0 ≤ _)⟩)
  dsimp only [Pt.U, Pt.locs, Pt.cells, Pt.slots] at X1 l1 y1 z1 st1 hQ1
  subst l1 y1 z1
  obtain ⟨rfl, N1q, e1⟩ := hQ1
  obtain ⟨Lg1, X1', N1⟩ := own_gen X1 (Fr.app N0 N1q)
  obtain ⟨T2, X2, e2, st2⟩ := getF X1' hx hZ hown (host := "") (Or.inl (w9 hw)) Via.refl e1 F_labelCount_a0 (g := (mkF m 6 #[vR a0, vI p1, vI (1 : Int32), .unset] [(.ref a0)])) rfl rfl (hb hby d9_6)
  obtain ⟨T3, h3, k3, X3, e3, E3, A3, x3, st3⟩ := newPE X2 hx hZ (aty := .boolean) (w15 hw) e2 (g := (mkF m 9 #[vR a0, vI p1, vI (1 : Int32), .unset] [(.int (2 : Int32))])) rfl (hb hby d9_9) rfl (by decide) (cap := 2) (by decide) (by decide) (by decide) (by decide) (ad := "[Z") (by decide)
  obtain ⟨b3, g3⟩ : ∃ z, z = h0.size := ⟨_, rfl⟩
  rw [← g3] at A3 x3 st3
  have g_b3 : n0 ≤ b3 := Nat.le_trans Z0 (Nat.le_of_eq g3.symm)
  have sz_b3 : h0.size ≤ b3 := Nat.le_trans (Nat.le_refl _) (Nat.le_of_eq g3.symm)
  have Z3 : n0 ≤ h3.size := Nat.le_trans Z0 E3.1
  have K3 : Keep h0 h3 [aO, aK, aP, aC] := (Keep.refl h0 [aO, aK, aP, aC]).ext E3
  have E_b3 := x3
  have V_b3 : Arv Z h3 b3 k3 .boolean (2 : Int32) [(.int (0 : Int32)), (.int (0 : Int32))] (.int (0 : Int32)) := (Arv.new A3 (by decide)).pad (pad_rep [] (.int (0 : Int32)) 2)
  have A_b3 : own_Arf Z h3 b3 k3 .boolean (2 : Int32) (fun _ => (.int (0 : Int32))) := own_Arf.new A3 (by decide)
  obtain ⟨cl4, Ar4, qk4, Sz4, Ng4, Hs4, Gf4⟩ := id A_b3
  have hin5 : ¬ ((1 : Int32) < 0 ∨ cl4.slots.size ≤ ((1 : Int32)).toNatClampNeg) := inb_of Sz4 ⟨by decide, by decide⟩
  obtain ⟨T6, h6, X6, e6, W6, st6⟩ := stZ X3 hx hZ e3 Ar4 (j := (1 : Int32)) hin5 (g := (mkF m 15 #[vR a0, vI p1, vI (1 : Int32), vR b3] [(.int (1 : Int32)), (.int (1 : Int32)), (.ref b3)])) rfl rfl (hb hby d9_15)
  have K6 : Keep h0 h6 [aO, aK, aP, aC] := K3.wr W6 (Or.inr sz_b3)
  have V_b3_6 : own_Arf Z h6 b3 k3 .boolean (2 : Int32) (own_upd (fun _ => (.int (0 : Int32))) ((1 : Int32)).toNatClampNeg (.int (1 : Int32))) := own_Arf.set (v := (.int (1 : Int32))) Ar4 qk4 Sz4 Ng4 Hs4 Gf4 (by decide) W6
  have Z6 : n0 ≤ h6.size := Nat.le_trans Z3 (Keep.of_wr W6).1
  obtain ⟨Lg6, X6', N6⟩ := own_gen X6 (Fr.snoc X6 N1 g_b3)
  have E_a0_u8 : Exa Z h6 a0 cCV := ((E_a0.ext E3).wr W6)
  have ne_a0_b3 : a0 ≠ b3 := own_ne (Nat.lt_of_lt_of_le E_a0.lt (Nat.le_of_eq g3.symm))
  have F_a0_rowCount_u9 : Fld Z h6 a0 cCV "rowCount" "I" (.int rc) := ((F_rowCount_a0.ext E3).other W6 (Or.inl ne_a0_b3))
  have F_a0_openPairs_u10 : Fld Z h6 a0 cCV "openPairs" "[[I" (.ref aP) := ((F_openPairs_a0.ext E3).other W6 (Or.inl ne_a0_b3))
  have ne_aP_b3 : aP ≠ b3 := own_ne (Nat.lt_of_lt_of_le E_aP.lt (Nat.le_of_eq g3.symm))
  have V_aP_u11 : own_Arf Z h6 aP kP (.array .int) (8 : Int32) fP := ((V_aP.ext E3).other W6 ne_aP_b3)
  obtain ⟨cq7, q7, q7'⟩ := E_a0_u8.cell
  obtain ⟨_, _, ⟨T7, L7, k7', n7'⟩, -, X7, ⟨Lc7, hQ7, l7, y7, z7⟩, st7⟩ := X6'.privateBack hx (y := (⟨cCV, "openPairs", "(I)[I"⟩ : MethodName)) hown (mvT hZ (w67 hw)) (mvT hZ (w68 hw)) (own_priv (mvT hZ (w1 hw)) (Cond.privateMethod_at (mvP hZ (w69 hw) (args := #[]))) (mvT hZ (w68 hw)) (by decide)) (Cond.privateMethod_at (mvP hZ (w69 hw) (args := #[]))) (mvT hZ (w70 hw)) (by decide) (backOf (W := 1) (rm11 l Z az hw [] a0 p1 rc aP kP fP a9 h6 n0 Z6 E_a0_u8 F_a0_rowCount_u9 F_a0_openPairs_u10 V_aP_u11 hc23 hc24 hc25 hc26) hZ (w70 hw) (w2 hw) (by decide) (by decide)) (g := (mkF m 19 #[vR a0, vI p1, vI (1 : Int32), vR b3] [(.int p1), (.ref a0), (.ref a0)])) rfl (by rw [hml]; rfl) (Steps.refl _) (a := a0) (by rw [e6]; exact q7) q7' (argsL := [(.int p1)]) (rest := [(.ref a0)]) (lenOf pd_4 rfl) rfl (by show 2 * 0 + _ ≤ _; exact Nat.le_of_eq rfl) (hb hby d9_19) (fun _ _ => ⟨rfl, e6, (by decide : 1 + 0 ≤ _), (by decide : 2 + 0 ≤ _)⟩)
  dsimp only [Pt.U, Pt.locs, Pt.cells, Pt.slots] at X7 l7 y7 z7 st7 hQ7
  subst l7 y7 z7
  obtain ⟨rfl, N7q, e7⟩ := hQ7
  obtain ⟨Lg7, X7', N7⟩ := own_gen X7 (Fr.app N6 N7q)
  have F_a0_labelCount_u13 : Fld Z h6 a0 cCV "labelCount" "I" (.int (2 : Int32)) := ((F_labelCount_a0.ext E3).other W6 (Or.inl ne_a0_b3))
  have F_a0_pairsShared_u14 : Fld Z h6 a0 cCV "pairsShared" "Z" (.int (0 : Int32)) := ((F_pairsShared_a0.ext E3).other W6 (Or.inl ne_a0_b3))
  have F_a0_remainingCount_u15 : Fld Z h6 a0 cCV "remainingCount" "I" (.int rem) := ((F_remainingCount_a0.ext E3).other W6 (Or.inl ne_a0_b3))
  have E_aP_u16 : Exa Z h6 aP "[[I" := ((E_aP.ext E3).wr W6)
  have F_a0_covered_u17 : Fld Z h6 a0 cCV "covered" "[Z" (.ref aC) := ((F_covered_a0.ext E3).other W6 (Or.inl ne_a0_b3))
  have ne_aC_b3 : aC ≠ b3 := own_ne (Nat.lt_of_lt_of_le E_aC.lt (Nat.le_of_eq g3.symm))
  have V_aC_u18 : own_Any Z h6 aC kC .boolean (8 : Int32) := ((V_aC.ext E3).other W6 ne_aC_b3)
  have E_aC_u19 : Exa Z h6 aC "[Z" := ((E_aC.ext E3).wr W6)
  have F_a0_coveredCounts_u20 : Fld Z h6 a0 cCV "coveredCounts" "[I" (.ref aK) := ((F_coveredCounts_a0.ext E3).other W6 (Or.inl ne_a0_b3))
  have ne_aK_b3 : aK ≠ b3 := own_ne (Nat.lt_of_lt_of_le E_aK.lt (Nat.le_of_eq g3.symm))
  have V_aK_u21 : own_Any Z h6 aK kK .int nK := ((V_aK.ext E3).other W6 ne_aK_b3)
  have E_aK_u22 : Exa Z h6 aK "[I" := ((E_aK.ext E3).wr W6)
  have F_a0_openCounts_u23 : Fld Z h6 a0 cCV "openCounts" "[I" (.ref aO) := ((F_openCounts_a0.ext E3).other W6 (Or.inl ne_a0_b3))
  have ne_aO_b3 : aO ≠ b3 := own_ne (Nat.lt_of_lt_of_le E_aO.lt (Nat.le_of_eq g3.symm))
  have V_aO_u24 : own_Any Z h6 aO kO .int nK := ((V_aO.ext E3).other W6 ne_aO_b3)
  have E_aO_u25 : Exa Z h6 aO "[I" := ((E_aO.ext E3).wr W6)
  have F_a0_ones_u26 : Fld Z h6 a0 cCV "ones" "[I" (.ref aN) := ((F_ones_a0.ext E3).other W6 (Or.inl ne_a0_b3))
  have ne_a9_b3 : a9 ≠ b3 := own_ne (Nat.lt_of_lt_of_le E_a9.lt (Nat.le_of_eq g3.symm))
  have V_a9_u27 : Arv Z h6 a9 k9 .int (2 : Int32) [(.int v0), (.int v1)] (.int (0 : Int32)) := ((V_a9.ext E3).other W6 ne_a9_b3)
  have E_a9_u28 : Exa Z h6 a9 "[I" := ((E_a9.ext E3).wr W6)
  have E_b3_u29 : Exa Z h6 b3 "[Z" := (E_b3.wr W6)
  obtain ⟨cq12, q12, q12'⟩ := E_a0_u8.cell
  obtain ⟨_, _, ⟨T12, L12, k12', n12'⟩, -, X12, ⟨Lc12, hQ12, l12, y12, z12⟩, st12⟩ := X7'.privateBack hx (y := (⟨cCV, "settle", "([II[Z)V"⟩ : MethodName)) hown (mvT hZ (w75 hw)) (mvT hZ (w76 hw)) (own_priv (mvT hZ (w1 hw)) (Cond.privateMethod_at (mvP hZ (w77 hw) (args := #[]))) (mvT hZ (w76 hw)) (by decide)) (Cond.privateMethod_at (mvP hZ (w77 hw) (args := #[]))) (mvT hZ (w78 hw)) (by decide) (backOf (W := 0) (rm13D l Z az hw [] a0 a9 p1 b3 (2 : Int32) rc rem aP kP fP aC kC aK kK nK aO kO aN k9 v0 v1 k3 (2 : Int32) (own_upd (fun _ => (.int (0 : Int32))) ((1 : Int32)).toNatClampNeg (.int (1 : Int32))) h6 n0 Z6 E_a0_u8 F_a0_labelCount_u13 F_a0_rowCount_u9 F_a0_pairsShared_u14 F_a0_remainingCount_u15 F_a0_openPairs_u10 V_aP_u11 E_aP_u16 F_a0_covered_u17 V_aC_u18 E_aC_u19 F_a0_coveredCounts_u20 V_aK_u21 E_aK_u22 F_a0_openCounts_u23 V_aO_u24 E_aO_u25 F_a0_ones_u26 O_kP V_a9_u27 E_a9_u28 V_b3_6 E_b3_u29 hc27 hc28 hc29 hc30 hc31 hc32 hc33 hc34 g_aO hc23 hc25 hne_aK_aO g_aK hne_a9_aO hne_a9_aK g_aP g_aC) hZ (w78 hw) (w2 hw) (by decide) (by decide)) (g := (mkF m 24 #[vR a0, vI p1, vI (1 : Int32), vR b3] [(.ref b3), (.int p1), (.ref a9), (.ref a0)])) rfl (by rw [hml]; rfl) (Steps.refl _) (a := a0) (by rw [e7]; exact q12) q12' (argsL := [(.ref a9), (.int p1), (.ref b3)]) (rest := []) (lenOf pd_5 rfl) rfl (by show 2 * 0 + _ ≤ _; exact Nat.le_of_eq rfl) (hb hby d9_24) (fun _ _ => ⟨rfl, e7, (by decide : 1 + 2 ≤ _), (by decide : 2 + 3 ≤ _)⟩)
  dsimp only [Pt.U, Pt.locs, Pt.cells, Pt.slots] at X12 l12 y12 z12 st12 hQ12
  subst l12 y12 z12
  obtain ⟨b12_0, kk12_0, rfl, N12q, s12_0, kq12, pf12_0, pf12_1, pf12_2, pf12_3, pf12_4, pf12_5, pf12_6, pf12_7, pf12_8, pf12_9⟩ := hQ12
  obtain ⟨Lg12, X12', N12⟩ := own_gen X12 (Fr.app N7 N12q)
  have g_b12_0 : n0 ≤ b12_0 := Nat.le_trans Z6 s12_0
  have sz_b12_0 : h0.size ≤ b12_0 := Nat.le_trans K6.1 s12_0
  have K12 : Keep h0 T12.heap [aO, aK, aP, aC] := K6.trans kq12 (allS (Or.inl (List.mem_of_getElem? (i := 0) rfl)) (allS (Or.inl (List.mem_of_getElem? (i := 1) rfl)) (allS (Or.inl (List.mem_of_getElem? (i := 2) rfl)) (allS (Or.inl (List.mem_of_getElem? (i := 3) rfl)) all0))))
  have Z12 : n0 ≤ T12.heap.size := Nat.le_trans Z6 kq12.1
  obtain ⟨fs, hr, hrun, hended, hW, hsame⟩ := X12'.leave (v := none) (fun _ => rfl)
  refine ⟨_, _, pre0 _ ?_, hrun, hended, _, _, rfl, ?_, ⟨_, rfl⟩, hW, hsame.mono (by decide) (by decide)⟩
  · show Steps p.tables e below (s₁.setTop (mkF m 0 #[vR a0, vI p1, vI (1 : Int32), .unset] [])) _
    refine XS.aloadN X0.here hx rfl (hb hby d9_0) rfl rfl ?_
    refine XS.iloadN X0.here hx rfl (hb hby d9_1) rfl ?_
    show Steps p.tables e below (s₁.setTop (mkF m 2 #[vR a0, vI p1, vI (1 : Int32), .unset] [(.int (1 : Int32)), (.ref a0)])) _
    refine st1.trans ?_
    show Steps p.tables e below (T1.setTop (mkF m 5 #[vR a0, vI p1, vI (1 : Int32), .unset] [])) _
    refine XS.aloadN X1'.here hx rfl (hb hby d9_5) rfl rfl ?_
    show Steps p.tables e below (T1.setTop (mkF m 6 #[vR a0, vI p1, vI (1 : Int32), .unset] [(.ref a0)])) _
    refine st2 _ ?_
    show Steps p.tables e below (T2.setTop (mkF m 9 #[vR a0, vI p1, vI (1 : Int32), .unset] [(.int (2 : Int32))])) _
    refine st3 _ ?_
    show Steps p.tables e below (T3.setTop (mkF m 11 #[vR a0, vI p1, vI (1 : Int32), .unset] [(.ref b3)])) _
    refine XS.astoreN X3.here hx rfl (hb hby d9_11) rfl rfl (l' := #[vR a0, vI p1, vI (1 : Int32), vR b3]) rfl ?_
    refine XS.aloadN X3.here hx rfl (hb hby d9_12) rfl rfl ?_
    refine XS.iloadN X3.here hx rfl (hb hby d9_13) rfl ?_
    refine XS.iconst X3.here hx rfl (hb hby d9_14) ?_
    show Steps p.tables e below (T3.setTop (mkF m 15 #[vR a0, vI p1, vI (1 : Int32), vR b3] [(.int (1 : Int32)), (.int (1 : Int32)), (.ref b3)])) _
    refine st6 _ ?_
    show Steps p.tables e below (T6.setTop (mkF m 16 #[vR a0, vI p1, vI (1 : Int32), vR b3] [])) _
    refine XS.aloadN X6'.here hx rfl (hb hby d9_16) rfl rfl ?_
    refine XS.aloadN X6'.here hx rfl (hb hby d9_17) rfl rfl ?_
    refine XS.iloadN X6'.here hx rfl (hb hby d9_18) rfl ?_
    show Steps p.tables e below (T6.setTop (mkF m 19 #[vR a0, vI p1, vI (1 : Int32), vR b3] [(.int p1), (.ref a0), (.ref a0)])) _
    refine st7.trans ?_
    show Steps p.tables e below (T7.setTop (mkF m 22 #[vR a0, vI p1, vI (1 : Int32), vR b3] [(.ref a9), (.ref a0)])) _
    refine XS.iloadN X7'.here hx rfl (hb hby d9_22) rfl ?_
    refine XS.aloadN X7'.here hx rfl (hb hby d9_23) rfl rfl ?_
    show Steps p.tables e below (T7.setTop (mkF m 24 #[vR a0, vI p1, vI (1 : Int32), vR b3] [(.ref b3), (.int p1), (.ref a9), (.ref a0)])) _
    refine st12.trans ?_
    show Steps p.tables e below (T12.setTop (mkF m 27 #[vR a0, vI p1, vI (1 : Int32), vR b3] [])) _
    exact X12'.returnOut hx Bd.returns (hb hby d9_27) hr
  · show QT21a Z a0 p1 rc rem aP kP fP aC kC aK kK nK aO kO aN kN nN a9 k9 v0 v1 h0 n0 _ T12.heap _
    exact ⟨b12_0, kk12_0, rfl, N12, sz_b12_0, K12, pf12_1, pf12_0, pf12_2, pf12_3, pf12_5, pf12_4, pf12_6, pf12_7, pf12_8, pf12_9⟩
theorem ef_rmT21b (m : MethodId) (a0 : Addr) (p1 : Int32) : entryFrame m #[(.ref a0), (.int p1), (.int (1 : Int32))] 4 = mkF m 0 #[vR a0, vI p1, vI (1 : Int32), .unset] [] := by first | (simp [entryFrame, mkF, argsToLocals, Value.category]; done) | rfl
def QT21b (Z : State) (a0 : Addr) (p1 : Int32) (rc : Int32) (rem : Int32) (aP : Addr) (kP : ClassId) (fP : Nat → Value) (aC : Addr) (kC : ClassId) (aK : Addr) (kK : ClassId) (nK : Int32) (aO : Addr) (kO : ClassId) (aN : Addr) (kN : ClassId) (nN : Int32) (a9 : Addr) (k9 : ClassId) (v0 : Int32) (h0 : Heap) (n0 : Nat) (v : Option Value) (h : Heap) (L : List Loc) : Prop := ∃ r0 : Addr, ∃ rk0 : ClassId, v = none ∧ Fr n0 L ∧ h0.size ≤ r0 ∧ Keep h0 h [aO, aK, aP, aC, a0] ∧ Exa Z h aO "[I" ∧ own_Any Z h aO kO .int nK ∧ Exa Z h aK "[I" ∧ own_Any Z h aK kK .int nK ∧ Exa Z h aP "[[I" ∧ own_Arf Z h aP kP (.array .int) (8 : Int32) (own_upd fP (p1).toNatClampNeg (.ref r0)) ∧ Exa Z h aC "[Z" ∧ own_Any Z h aC kC .boolean (8 : Int32) ∧ Exa Z h a0 cCV ∧ Fld Z h a0 cCV "labelCount" "I" (.int (2 : Int32)) ∧ Fld Z h a0 cCV "rowCount" "I" (.int rc) ∧ Fld Z h a0 cCV "pairsShared" "Z" (.int (0 : Int32)) ∧ Fld Z h a0 cCV "remainingCount" "I" (.int (rem - (1 : Int32))) ∧ Fld Z h a0 cCV "openPairs" "[[I" (.ref aP) ∧ Fld Z h a0 cCV "covered" "[Z" (.ref aC) ∧ Fld Z h a0 cCV "coveredCounts" "[I" (.ref aK) ∧ Fld Z h a0 cCV "openCounts" "[I" (.ref aO) ∧ Fld Z h a0 cCV "ones" "[I" (.ref aN) ∧ Exa Z h r0 "[I" ∧ Arv Z h r0 rk0 .int (0 : Int32) [] (.int (0 : Int32))
set_option maxRecDepth 65536 in
set_option maxHeartbeats 40000000 in
theorem rmT21b (l : Launch) (Z : State) (az : Array Value) (hw : ∀ d ∈ tables_1, d.before az Z = true) (ws : List Jvm.Cond) (a0 : Addr) (p1 : Int32) (rc : Int32) (rem : Int32) (aP : Addr) (kP : ClassId) (fP : Nat → Value) (aC : Addr) (kC : ClassId) (aK : Addr) (kK : ClassId) (nK : Int32) (aO : Addr) (kO : ClassId) (aN : Addr) (kN : ClassId) (nN : Int32) (a9 : Addr) (k9 : ClassId) (v0 : Int32) (h0 : Heap) (n0 : Nat) (Z0 : n0 ≤ h0.size) (E_a0 : Exa Z h0 a0 cCV) (F_labelCount_a0 : Fld Z h0 a0 cCV "labelCount" "I" (.int (2 : Int32))) (F_rowCount_a0 : Fld Z h0 a0 cCV "rowCount" "I" (.int rc)) (F_pairsShared_a0 : Fld Z h0 a0 cCV "pairsShared" "Z" (.int (0 : Int32))) (F_remainingCount_a0 : Fld Z h0 a0 cCV "remainingCount" "I" (.int rem)) (F_openPairs_a0 : Fld Z h0 a0 cCV "openPairs" "[[I" (.ref aP)) (V_aP : own_Arf Z h0 aP kP (.array .int) (8 : Int32) fP) (E_aP : Exa Z h0 aP "[[I") (F_covered_a0 : Fld Z h0 a0 cCV "covered" "[Z" (.ref aC)) (V_aC : own_Any Z h0 aC kC .boolean (8 : Int32)) (E_aC : Exa Z h0 aC "[Z") (F_coveredCounts_a0 : Fld Z h0 a0 cCV "coveredCounts" "[I" (.ref aK)) (V_aK : own_Any Z h0 aK kK .int nK) (E_aK : Exa Z h0 aK "[I") (F_openCounts_a0 : Fld Z h0 a0 cCV "openCounts" "[I" (.ref aO)) (V_aO : own_Any Z h0 aO kO .int nK) (E_aO : Exa Z h0 aO "[I") (F_ones_a0 : Fld Z h0 a0 cCV "ones" "[I" (.ref aN)) (V_aN : own_Any Z h0 aN kN .int nN) (E_aN : Exa Z h0 aN "[I") (O_kP : OvrA Z kP .int "[I") (V_a9 : Arv Z h0 a9 k9 .int (1 : Int32) [(.int v0)] (.int (0 : Int32))) (E_a9 : Exa Z h0 a9 "[I") (hc23 : ¬ (p1 < (0 : Int32))) (hc24 : p1 < rc) (hc25 : p1 < (8 : Int32)) (hc26 : fP (p1).toNatClampNeg = (.ref a9)) (hc27 : ¬ ((v0 / (2 : Int32)) < (0 : Int32))) (hc28 : (v0 / (2 : Int32)) < (2 : Int32)) (hc29 : (own_upd (fun _ => (.int (0 : Int32))) ((1 : Int32)).toNatClampNeg (.int (1 : Int32))) ((v0 / (2 : Int32))).toNatClampNeg = (.int (1 : Int32))) (hc30 : ¬ (v0 < (0 : Int32))) (hc31 : v0 < nK) (g_aO : n0 ≤ aO) (hne_aK_aO : aK ≠ aO) (g_aK : n0 ≤ aK) (hne_a9_aO : a9 ≠ aO) (hne_a9_aK : a9 ≠ aK) (g_aP : n0 ≤ aP) (g_aC : n0 ≤ aC) (g_a0 : n0 ≤ a0) :
    MetFree l (⟨cCV, "settle", "(II)V"⟩ : MethodName) (head1 (Jvm.Cond.code (⟨cCV, "settle", "(II)V"⟩ : MethodName) prog_21_method_11_code 4 none :: ws) ({ frames := 3, cells := 3, slots := 5, locals := 110 } : Room)) (fun a U => a = #[(.ref a0), (.int p1), (.int (1 : Int32))] ∧ Z.Warmed39 U.vm ∧ U.heap = h0) (fun _ _ _ _ _ => True) (fun _ U o U' => ∃ v L, o = .returned v ∧ QT21b Z a0 p1 rc rem aP kP fP aC kC aK kK nK aO kO aN kN nN a9 k9 v0 h0 n0 v U'.heap L ∧ FrameEnd U o U' L ({ frames := 3, cells := 3, slots := 5, locals := 110 } : Room).cells ({ frames := 3, cells := 3, slots := 5, locals := 110 } : Room).slots) := by
  refine MetFree.of_bodySF (plainFor_of_name pn_com_example_headlattice_headlattice_learn_Coverage) hisR ?_
  intro p e s m args below meth c s₁ Bd hml0 hP hK
  obtain ⟨rfl, hZ, hh⟩ := hP
  have hx := Bd.exec
  have hby := Bd.bytes
  have hml : c.maxLocals = 4 := hml0
  have hown : s.vm.findClass cCV = some m.cls := findClass_of_methodNamed Bd.named
  have hnm := (name_of_methodNamed Bd.named Bd.method).1
  have X0 : Stand p l e ({ frames := 3, cells := 3, slots := 5, locals := 110 } : Room) s m #[(.ref a0), (.int p1), (.int (1 : Int32))] below meth c s₁ [] 0 0 := Stand.of_body Bd
  have e0 : s₁.heap = h0 := by rw [← hh, Bd.state]; rfl
  have N0 := Fr.nil n0
  have pre0 : ∀ t, Steps p.tables e below (s₁.setTop (mkF m 0 #[vR a0, vI p1, vI (1 : Int32), .unset] [])) t → Steps p.tables e below (s₁.setTop (entryFrame m #[(.ref a0), (.int p1), (.int (1 : Int32))] 4)) t := fun t k => castTop (ef_rmT21b m a0 p1) k
  obtain ⟨cq1, kq1, q1a, q1b, q1c⟩ := isOf hZ e0 E_a0
  obtain ⟨_, _, ⟨T1, L1, k1', n1'⟩, -, X1, ⟨Lc1, hQ1, l1, y1, z1⟩, st1⟩ := X0.virtualBack hx (y := (⟨cCV, "checkLabel", "(I)V"⟩ : MethodName)) (z := (⟨cCV, "checkLabel", "(I)V"⟩ : MethodName)) hown (mvT hZ (w62 hw)) (mvT hZ (w63 hw)) (notFace_of_selects (args := #[]) (mvT hZ (w65 hw))) (mvT hZ (w65 hw)) (mvT hZ (w64 hw)) (by decide) (backOf (W := 0) (rm10 l Z az hw [] a0 (1 : Int32) (2 : Int32) h0 n0 Z0 F_labelCount_a0 (by decide) (by decide)) hZ (w66 hw) (w2 hw) (by decide) (by decide)) q1a q1c (g := (mkF m 2 #[vR a0, vI p1, vI (1 : Int32), .unset] [(.int (1 : Int32)), (.ref a0)])) rfl (by rw [hml]; rfl) (Steps.refl _) (argsL := [(.int (1 : Int32))]) (rest := []) (lenOf pd_3 rfl) rfl (by show 2 * 0 + _ ≤ _; exact Nat.le_of_eq rfl) (hb hby d9_2) (fun _ _ => ⟨rfl, e0, (by decide : 0 + 0 ≤ _), (by decide : 0 + 0 ≤ _)⟩)
  dsimp only [Pt.U, Pt.locs, Pt.cells, Pt.slots] at X1 l1 y1 z1 st1 hQ1
  subst l1 y1 z1
  obtain ⟨rfl, N1q, e1⟩ := hQ1
  obtain ⟨Lg1, X1', N1⟩ := own_gen X1 (Fr.app N0 N1q)
  obtain ⟨T2, X2, e2, st2⟩ := getF X1' hx hZ hown (host := "") (Or.inl (w9 hw)) Via.refl e1 F_labelCount_a0 (g := (mkF m 6 #[vR a0, vI p1, vI (1 : Int32), .unset] [(.ref a0)])) rfl rfl (hb hby d9_6)
  obtain ⟨T3, h3, k3, X3, e3, E3, A3, x3, st3⟩ := newPE X2 hx hZ (aty := .boolean) (w15 hw) e2 (g := (mkF m 9 #[vR a0, vI p1, vI (1 : Int32), .unset] [(.int (2 : Int32))])) rfl (hb hby d9_9) rfl (by decide) (cap := 2) (by decide) (by decide) (by decide) (by decide) (ad := "[Z") (by decide)
  obtain ⟨b3, g3⟩ : ∃ z, z = h0.size := ⟨_, rfl⟩
  rw [← g3] at A3 x3 st3
  have g_b3 : n0 ≤ b3 := Nat.le_trans Z0 (Nat.le_of_eq g3.symm)
  have sz_b3 : h0.size ≤ b3 := Nat.le_trans (Nat.le_refl _) (Nat.le_of_eq g3.symm)
  have Z3 : n0 ≤ h3.size := Nat.le_trans Z0 E3.1
  have K3 : Keep h0 h3 [aO, aK, aP, aC, a0] := (Keep.refl h0 [aO, aK, aP, aC, a0]).ext E3
  have E_b3 := x3
  have V_b3 : Arv Z h3 b3 k3 .boolean (2 : Int32) [(.int (0 : Int32)), (.int (0 : Int32))] (.int (0 : Int32)) := (Arv.new A3 (by decide)).pad (pad_rep [] (.int (0 : Int32)) 2)
  have A_b3 : own_Arf Z h3 b3 k3 .boolean (2 : Int32) (fun _ => (.int (0 : Int32))) := own_Arf.new A3 (by decide)
  obtain ⟨cl4, Ar4, qk4, Sz4, Ng4, Hs4, Gf4⟩ := id A_b3
  have hin5 : ¬ ((1 : Int32) < 0 ∨ cl4.slots.size ≤ ((1 : Int32)).toNatClampNeg) := inb_of Sz4 ⟨by decide, by decide⟩
  obtain ⟨T6, h6, X6, e6, W6, st6⟩ := stZ X3 hx hZ e3 Ar4 (j := (1 : Int32)) hin5 (g := (mkF m 15 #[vR a0, vI p1, vI (1 : Int32), vR b3] [(.int (1 : Int32)), (.int (1 : Int32)), (.ref b3)])) rfl rfl (hb hby d9_15)
  have K6 : Keep h0 h6 [aO, aK, aP, aC, a0] := K3.wr W6 (Or.inr sz_b3)
  have V_b3_6 : own_Arf Z h6 b3 k3 .boolean (2 : Int32) (own_upd (fun _ => (.int (0 : Int32))) ((1 : Int32)).toNatClampNeg (.int (1 : Int32))) := own_Arf.set (v := (.int (1 : Int32))) Ar4 qk4 Sz4 Ng4 Hs4 Gf4 (by decide) W6
  have Z6 : n0 ≤ h6.size := Nat.le_trans Z3 (Keep.of_wr W6).1
  obtain ⟨Lg6, X6', N6⟩ := own_gen X6 (Fr.snoc X6 N1 g_b3)
  have E_a0_u8 : Exa Z h6 a0 cCV := ((E_a0.ext E3).wr W6)
  have ne_a0_b3 : a0 ≠ b3 := own_ne (Nat.lt_of_lt_of_le E_a0.lt (Nat.le_of_eq g3.symm))
  have F_a0_rowCount_u9 : Fld Z h6 a0 cCV "rowCount" "I" (.int rc) := ((F_rowCount_a0.ext E3).other W6 (Or.inl ne_a0_b3))
  have F_a0_openPairs_u10 : Fld Z h6 a0 cCV "openPairs" "[[I" (.ref aP) := ((F_openPairs_a0.ext E3).other W6 (Or.inl ne_a0_b3))
  have ne_aP_b3 : aP ≠ b3 := own_ne (Nat.lt_of_lt_of_le E_aP.lt (Nat.le_of_eq g3.symm))
  have V_aP_u11 : own_Arf Z h6 aP kP (.array .int) (8 : Int32) fP := ((V_aP.ext E3).other W6 ne_aP_b3)
  obtain ⟨cq7, q7, q7'⟩ := E_a0_u8.cell
  obtain ⟨_, _, ⟨T7, L7, k7', n7'⟩, -, X7, ⟨Lc7, hQ7, l7, y7, z7⟩, st7⟩ := X6'.privateBack hx (y := (⟨cCV, "openPairs", "(I)[I"⟩ : MethodName)) hown (mvT hZ (w67 hw)) (mvT hZ (w68 hw)) (own_priv (mvT hZ (w1 hw)) (Cond.privateMethod_at (mvP hZ (w69 hw) (args := #[]))) (mvT hZ (w68 hw)) (by decide)) (Cond.privateMethod_at (mvP hZ (w69 hw) (args := #[]))) (mvT hZ (w70 hw)) (by decide) (backOf (W := 1) (rm11 l Z az hw [] a0 p1 rc aP kP fP a9 h6 n0 Z6 E_a0_u8 F_a0_rowCount_u9 F_a0_openPairs_u10 V_aP_u11 hc23 hc24 hc25 hc26) hZ (w70 hw) (w2 hw) (by decide) (by decide)) (g := (mkF m 19 #[vR a0, vI p1, vI (1 : Int32), vR b3] [(.int p1), (.ref a0), (.ref a0)])) rfl (by rw [hml]; rfl) (Steps.refl _) (a := a0) (by rw [e6]; exact q7) q7' (argsL := [(.int p1)]) (rest := [(.ref a0)]) (lenOf pd_4 rfl) rfl (by show 2 * 0 + _ ≤ _; exact Nat.le_of_eq rfl) (hb hby d9_19) (fun _ _ => ⟨rfl, e6, (by decide : 1 + 0 ≤ _), (by decide : 2 + 0 ≤ _)⟩)
  dsimp only [Pt.U, Pt.locs, Pt.cells, Pt.slots] at X7 l7 y7 z7 st7 hQ7
  subst l7 y7 z7
  obtain ⟨rfl, N7q, e7⟩ := hQ7
  obtain ⟨Lg7, X7', N7⟩ := own_gen X7 (Fr.app N6 N7q)
  have F_a0_labelCount_u13 : Fld Z h6 a0 cCV "labelCount" "I" (.int (2 : Int32)) := ((F_labelCount_a0.ext E3).other W6 (Or.inl ne_a0_b3))
  have F_a0_pairsShared_u14 : Fld Z h6 a0 cCV "pairsShared" "Z" (.int (0 : Int32)) := ((F_pairsShared_a0.ext E3).other W6 (Or.inl ne_a0_b3))
  have F_a0_remainingCount_u15 : Fld Z h6 a0 cCV "remainingCount" "I" (.int rem) := ((F_remainingCount_a0.ext E3).other W6 (Or.inl ne_a0_b3))
  have E_aP_u16 : Exa Z h6 aP "[[I" := ((E_aP.ext E3).wr W6)
  have F_a0_covered_u17 : Fld Z h6 a0 cCV "covered" "[Z" (.ref aC) := ((F_covered_a0.ext E3).other W6 (Or.inl ne_a0_b3))
  have ne_aC_b3 : aC ≠ b3 := own_ne (Nat.lt_of_lt_of_le E_aC.lt (Nat.le_of_eq g3.symm))
  have V_aC_u18 : own_Any Z h6 aC kC .boolean (8 : Int32) := ((V_aC.ext E3).other W6 ne_aC_b3)
  have E_aC_u19 : Exa Z h6 aC "[Z" := ((E_aC.ext E3).wr W6)
  have F_a0_coveredCounts_u20 : Fld Z h6 a0 cCV "coveredCounts" "[I" (.ref aK) := ((F_coveredCounts_a0.ext E3).other W6 (Or.inl ne_a0_b3))
  have ne_aK_b3 : aK ≠ b3 := own_ne (Nat.lt_of_lt_of_le E_aK.lt (Nat.le_of_eq g3.symm))
  have V_aK_u21 : own_Any Z h6 aK kK .int nK := ((V_aK.ext E3).other W6 ne_aK_b3)
  have E_aK_u22 : Exa Z h6 aK "[I" := ((E_aK.ext E3).wr W6)
  have F_a0_openCounts_u23 : Fld Z h6 a0 cCV "openCounts" "[I" (.ref aO) := ((F_openCounts_a0.ext E3).other W6 (Or.inl ne_a0_b3))
  have ne_aO_b3 : aO ≠ b3 := own_ne (Nat.lt_of_lt_of_le E_aO.lt (Nat.le_of_eq g3.symm))
  have V_aO_u24 : own_Any Z h6 aO kO .int nK := ((V_aO.ext E3).other W6 ne_aO_b3)
  have E_aO_u25 : Exa Z h6 aO "[I" := ((E_aO.ext E3).wr W6)
  have F_a0_ones_u26 : Fld Z h6 a0 cCV "ones" "[I" (.ref aN) := ((F_ones_a0.ext E3).other W6 (Or.inl ne_a0_b3))
  have ne_a9_b3 : a9 ≠ b3 := own_ne (Nat.lt_of_lt_of_le E_a9.lt (Nat.le_of_eq g3.symm))
  have V_a9_u27 : Arv Z h6 a9 k9 .int (1 : Int32) [(.int v0)] (.int (0 : Int32)) := ((V_a9.ext E3).other W6 ne_a9_b3)
  have E_a9_u28 : Exa Z h6 a9 "[I" := ((E_a9.ext E3).wr W6)
  have E_b3_u29 : Exa Z h6 b3 "[Z" := (E_b3.wr W6)
  obtain ⟨cq12, q12, q12'⟩ := E_a0_u8.cell
  obtain ⟨_, _, ⟨T12, L12, k12', n12'⟩, -, X12, ⟨Lc12, hQ12, l12, y12, z12⟩, st12⟩ := X7'.privateBack hx (y := (⟨cCV, "settle", "([II[Z)V"⟩ : MethodName)) hown (mvT hZ (w75 hw)) (mvT hZ (w76 hw)) (own_priv (mvT hZ (w1 hw)) (Cond.privateMethod_at (mvP hZ (w77 hw) (args := #[]))) (mvT hZ (w76 hw)) (by decide)) (Cond.privateMethod_at (mvP hZ (w77 hw) (args := #[]))) (mvT hZ (w78 hw)) (by decide) (backOf (W := 0) (rm13B l Z az hw [] a0 a9 p1 b3 (2 : Int32) rc rem aP kP fP aC kC aK kK nK aO kO aN k9 v0 k3 (2 : Int32) (own_upd (fun _ => (.int (0 : Int32))) ((1 : Int32)).toNatClampNeg (.int (1 : Int32))) h6 n0 Z6 E_a0_u8 F_a0_labelCount_u13 F_a0_rowCount_u9 F_a0_pairsShared_u14 F_a0_remainingCount_u15 F_a0_openPairs_u10 V_aP_u11 E_aP_u16 F_a0_covered_u17 V_aC_u18 E_aC_u19 F_a0_coveredCounts_u20 V_aK_u21 E_aK_u22 F_a0_openCounts_u23 V_aO_u24 E_aO_u25 F_a0_ones_u26 O_kP V_a9_u27 E_a9_u28 V_b3_6 E_b3_u29 hc27 hc28 hc29 hc30 hc31 g_aO hc23 hc25 hne_aK_aO g_aK hne_a9_aO hne_a9_aK g_aP g_aC g_a0) hZ (w78 hw) (w2 hw) (by decide) (by decide)) (g := (mkF m 24 #[vR a0, vI p1, vI (1 : Int32), vR b3] [(.ref b3), (.int p1), (.ref a9), (.ref a0)])) rfl (by rw [hml]; rfl) (Steps.refl _) (a := a0) (by rw [e7]; exact q12) q12' (argsL := [(.ref a9), (.int p1), (.ref b3)]) (rest := []) (lenOf pd_5 rfl) rfl (by show 2 * 0 + _ ≤ _; exact Nat.le_of_eq rfl) (hb hby d9_24) (fun _ _ => ⟨rfl, e7, (by decide : 1 + 2 ≤ _), (by decide : 2 + 3 ≤ _)⟩)
  dsimp only [Pt.U, Pt.locs, Pt.cells, Pt.slots] at X12 l12 y12 z12 st12 hQ12
  subst l12 y12 z12
  obtain ⟨b12_0, kk12_0, rfl, N12q, s12_0, kq12, pf12_0, pf12_1, pf12_2, pf12_3, pf12_4, pf12_5, pf12_6, pf12_7, pf12_8, pf12_9, pf12_10, pf12_11, pf12_12, pf12_13, pf12_14, pf12_15, pf12_16, pf12_17, pf12_18, pf12_19⟩ := hQ12
  obtain ⟨Lg12, X12', N12⟩ := own_gen X12 (Fr.app N7 N12q)
  have g_b12_0 : n0 ≤ b12_0 := Nat.le_trans Z6 s12_0
  have sz_b12_0 : h0.size ≤ b12_0 := Nat.le_trans K6.1 s12_0
  have K12 : Keep h0 T12.heap [aO, aK, aP, aC, a0] := K6.trans kq12 (allS (Or.inl (List.mem_of_getElem? (i := 0) rfl)) (allS (Or.inl (List.mem_of_getElem? (i := 1) rfl)) (allS (Or.inl (List.mem_of_getElem? (i := 2) rfl)) (allS (Or.inl (List.mem_of_getElem? (i := 3) rfl)) (allS (Or.inl (List.mem_of_getElem? (i := 4) rfl)) all0)))))
  have Z12 : n0 ≤ T12.heap.size := Nat.le_trans Z6 kq12.1
  obtain ⟨fs, hr, hrun, hended, hW, hsame⟩ := X12'.leave (v := none) (fun _ => rfl)
  refine ⟨_, _, pre0 _ ?_, hrun, hended, _, _, rfl, ?_, ⟨_, rfl⟩, hW, hsame.mono (by decide) (by decide)⟩
  · show Steps p.tables e below (s₁.setTop (mkF m 0 #[vR a0, vI p1, vI (1 : Int32), .unset] [])) _
    refine XS.aloadN X0.here hx rfl (hb hby d9_0) rfl rfl ?_
    refine XS.iloadN X0.here hx rfl (hb hby d9_1) rfl ?_
    show Steps p.tables e below (s₁.setTop (mkF m 2 #[vR a0, vI p1, vI (1 : Int32), .unset] [(.int (1 : Int32)), (.ref a0)])) _
    refine st1.trans ?_
    show Steps p.tables e below (T1.setTop (mkF m 5 #[vR a0, vI p1, vI (1 : Int32), .unset] [])) _
    refine XS.aloadN X1'.here hx rfl (hb hby d9_5) rfl rfl ?_
    show Steps p.tables e below (T1.setTop (mkF m 6 #[vR a0, vI p1, vI (1 : Int32), .unset] [(.ref a0)])) _
    refine st2 _ ?_
    show Steps p.tables e below (T2.setTop (mkF m 9 #[vR a0, vI p1, vI (1 : Int32), .unset] [(.int (2 : Int32))])) _
    refine st3 _ ?_
    show Steps p.tables e below (T3.setTop (mkF m 11 #[vR a0, vI p1, vI (1 : Int32), .unset] [(.ref b3)])) _
    refine XS.astoreN X3.here hx rfl (hb hby d9_11) rfl rfl (l' := #[vR a0, vI p1, vI (1 : Int32), vR b3]) rfl ?_
    refine XS.aloadN X3.here hx rfl (hb hby d9_12) rfl rfl ?_
    refine XS.iloadN X3.here hx rfl (hb hby d9_13) rfl ?_
    refine XS.iconst X3.here hx rfl (hb hby d9_14) ?_
    show Steps p.tables e below (T3.setTop (mkF m 15 #[vR a0, vI p1, vI (1 : Int32), vR b3] [(.int (1 : Int32)), (.int (1 : Int32)), (.ref b3)])) _
    refine st6 _ ?_
    show Steps p.tables e below (T6.setTop (mkF m 16 #[vR a0, vI p1, vI (1 : Int32), vR b3] [])) _
    refine XS.aloadN X6'.here hx rfl (hb hby d9_16) rfl rfl ?_
    refine XS.aloadN X6'.here hx rfl (hb hby d9_17) rfl rfl ?_
    refine XS.iloadN X6'.here hx rfl (hb hby d9_18) rfl ?_
    show Steps p.tables e below (T6.setTop (mkF m 19 #[vR a0, vI p1, vI (1 : Int32), vR b3] [(.int p1), (.ref a0), (.ref a0)])) _
    refine st7.trans ?_
    show Steps p.tables e below (T7.setTop (mkF m 22 #[vR a0, vI p1, vI (1 : Int32), vR b3] [(.ref a9), (.ref a0)])) _
    refine XS.iloadN X7'.here hx rfl (hb hby d9_22) rfl ?_
    refine XS.aloadN X7'.here hx rfl (hb hby d9_23) rfl rfl ?_
    show Steps p.tables e below (T7.setTop (mkF m 24 #[vR a0, vI p1, vI (1 : Int32), vR b3] [(.ref b3), (.int p1), (.ref a9), (.ref a0)])) _
    refine st12.trans ?_
    show Steps p.tables e below (T12.setTop (mkF m 27 #[vR a0, vI p1, vI (1 : Int32), vR b3] [])) _
    exact X12'.returnOut hx Bd.returns (hb hby d9_27) hr
  · show QT21b Z a0 p1 rc rem aP kP fP aC kC aK kK nK aO kO aN kN nN a9 k9 v0 h0 n0 _ T12.heap _
    exact ⟨b12_0, kk12_0, rfl, N12, sz_b12_0, K12, pf12_1, pf12_0, pf12_2, pf12_3, pf12_5, pf12_4, pf12_6, pf12_7, pf12_8, pf12_9, pf12_10, pf12_11, pf12_12, pf12_13, pf12_14, pf12_15, pf12_16, pf12_17, pf12_18, pf12_19⟩
def own_Vals : Bool × Bool → Int32 → List Value → Prop
  | (false, false), n, vs => n = 0 ∧ vs = []
  | (true, false), n, vs => ∃ p : Int32, (p = 0 ∨ p = 1) ∧ n = 1 ∧ vs = [.int p]
  | (false, true), n, vs => ∃ q : Int32, (q = 2 ∨ q = 3) ∧ n = 1 ∧ vs = [.int q]
  | (true, true), n, vs => ∃ p q : Int32, (p = 0 ∨ p = 1) ∧ (q = 2 ∨ q = 3) ∧ n = 2 ∧ vs = [.int p, .int q]
def own_Row (Z : State) (h : Heap) (aK aO aN a : Addr) (b : Bool × Bool) : Prop := a ≠ aK ∧ a ≠ aO ∧ a ≠ aN ∧ Exa Z h a "[I" ∧ ∃ k n vs, Arv Z h a k .int n vs (.int (0 : Int32)) ∧ own_Vals b n vs
def own_Rows (Z : State) (h : Heap) (aK aO aN : Addr) (fP : Nat → Value) (n : Nat) (st : Nat → Bool × Bool) : Prop := ∀ r, r < n → ∃ a, fP r = .ref a ∧ own_Row Z h aK aO aN a (st r)
def own_Cov (Z : State) (h : Heap) (n0 : Nat) (a0 : Addr) (lc rc : Int32) (st : Nat → Bool × Bool) : Prop :=
  ∃ (aP aC aK aO aN : Addr) (kP kC kK kO kN : ClassId) (fP : Nat → Value) (rem : Int32), Exa Z h a0 cCV ∧ Fld Z h a0 cCV "labelCount" "I" (.int lc) ∧ Fld Z h a0 cCV "rowCount" "I" (.int rc) ∧ Fld Z h a0 cCV "pairsShared" "Z" (.int (0 : Int32)) ∧ Fld Z h a0 cCV "remainingCount" "I" (.int rem) ∧ Fld Z h a0 cCV "openPairs" "[[I" (.ref aP) ∧ own_Arf Z h aP kP (.array .int) (8 : Int32) fP ∧ Exa Z h aP "[[I" ∧ Fld Z h a0 cCV "covered" "[Z" (.ref aC) ∧ own_Any Z h aC kC .boolean (8 : Int32) ∧ Exa Z h aC "[Z" ∧ Fld Z h a0 cCV "coveredCounts" "[I" (.ref aK) ∧ own_Any Z h aK kK .int ((2 : Int32) * lc) ∧ Exa Z h aK "[I" ∧ Fld Z h a0 cCV "openCounts" "[I" (.ref aO) ∧ own_Any Z h aO kO .int ((2 : Int32) * lc) ∧ Exa Z h aO "[I" ∧ Fld Z h a0 cCV "ones" "[I" (.ref aN) ∧ own_Any Z h aN kN .int lc ∧ Exa Z h aN "[I" ∧ OvrA Z kP .int "[I" ∧ n0 ≤ a0 ∧ n0 ≤ aP ∧ n0 ≤ aC ∧ n0 ≤ aK ∧ n0 ≤ aO ∧ n0 ≤ aN ∧ aK ≠ aO ∧ aK ≠ aN ∧ aN ≠ aO ∧ own_Rows Z h aK aO aN fP rc.toNatClampNeg st
theorem own_Row.keep {Z : State} {h h' : Heap} {aK aO aN a a0 aP aC : Addr} {b : Bool × Bool} {ws : List Addr} (R : own_Row Z h aK aO aN a b) (K : Keep h h' ws) (hs : ∀ x ∈ ws, x = a0 ∨ x = aP ∨ x = aC ∨ x = aK ∨ x = aO ∨ x = aN) (e0 : Exa Z h a0 cCV) (eP : Exa Z h aP "[[I") (eC : Exa Z h aC "[Z") : own_Row Z h' aK aO aN a b := by
  obtain ⟨r1, r2, r3, E, k, n, vs, V, G⟩ := R
  refine ⟨r1, r2, r3, E.keep K, k, n, vs, V.keep K fun m => ?_, G⟩
  rcases hs a m with q | q | q | q | q | q
  · exact ne_exa E e0 (by decide) q
  · exact ne_exa E eP (by decide) q
  · exact ne_exa E eC (by decide) q
  · exact r1 q
  · exact r2 q
  · exact r3 q
theorem own_Rows.keep {Z : State} {h h' : Heap} {aK aO aN a0 aP aC : Addr} {f : Nat → Value} {n : Nat} {st : Nat → Bool × Bool} {ws : List Addr} (R : own_Rows Z h aK aO aN f n st) (K : Keep h h' ws) (hs : ∀ x ∈ ws, x = a0 ∨ x = aP ∨ x = aC ∨ x = aK ∨ x = aO ∨ x = aN) (e0 : Exa Z h a0 cCV) (eP : Exa Z h aP "[[I") (eC : Exa Z h aC "[Z") : own_Rows Z h' aK aO aN f n st := fun r hr => by
  obtain ⟨a, q, w⟩ := R r hr
  exact ⟨a, q, w.keep K hs e0 eP eC⟩
def own_ups (st : Nat → Bool × Bool) (j : Nat) (b : Bool × Bool) : Nat → Bool × Bool := fun r => if r = j then b else st r
theorem own_ups_eq {st : Nat → Bool × Bool} {j : Nat} {b : Bool × Bool} : own_ups st j b j = b := if_pos rfl
theorem own_Rows.put {Z : State} {h : Heap} {aK aO aN a : Addr} {f : Nat → Value} {n m j : Nat} {st : Nat → Bool × Bool} {b : Bool × Bool} (R : own_Rows Z h aK aO aN f n st) (hm : ∀ r, r < m → r ≠ j → r < n) (W : own_Row Z h aK aO aN a b) : own_Rows Z h aK aO aN (own_upd f j (.ref a)) m (own_ups st j b) := fun r hr => by
  by_cases c : r = j
  · subst c; exact ⟨a, own_upd_eq, by rw [own_ups_eq]; exact W⟩
  · obtain ⟨x, q, w⟩ := R r (hm r hr c)
    exact ⟨x, (own_upd_ne c).trans q, by rw [show own_ups st j b r = st r from if_neg c]; exact w⟩
theorem own_Rows.congr {Z : State} {h : Heap} {aK aO aN : Addr} {f : Nat → Value} {n : Nat} {st st' : Nat → Bool × Bool} (R : own_Rows Z h aK aO aN f n st) (q : ∀ r, r < n → st' r = st r) : own_Rows Z h aK aO aN f n st' := fun r hr => by rw [q r hr]; exact R r hr
theorem own_Cov.congr {Z : State} {h : Heap} {n0 : Nat} {a0 : Addr} {lc rc : Int32} {st st' : Nat → Bool × Bool} (C : own_Cov Z h n0 a0 lc rc st) (q : ∀ r, r < rc.toNatClampNeg → st' r = st r) : own_Cov Z h n0 a0 lc rc st' := by
  obtain ⟨aP, aC, aK, aO, aN, kP, kC, kK, kO, kN, fP, rem, E_a0, F_labelCount_a0, F_rowCount_a0, F_pairsShared_a0, F_remainingCount_a0, F_openPairs_a0, V_aP, E_aP, F_covered_a0, V_aC, E_aC, F_coveredCounts_a0, V_aK, E_aK, F_openCounts_a0, V_aO, E_aO, F_ones_a0, V_aN, E_aN, O_kP, g_a0, g_aP, g_aC, g_aK, g_aO, g_aN, hne_aK_aO, hne_aK_aN, hne_aN_aO, R⟩ := C
  exact ⟨aP, aC, aK, aO, aN, kP, kC, kK, kO, kN, fP, rem, E_a0, F_labelCount_a0, F_rowCount_a0, F_pairsShared_a0, F_remainingCount_a0, F_openPairs_a0, V_aP, E_aP, F_covered_a0, V_aC, E_aC, F_coveredCounts_a0, V_aK, E_aK, F_openCounts_a0, V_aO, E_aO, F_ones_a0, V_aN, E_aN, O_kP, g_a0, g_aP, g_aC, g_aK, g_aO, g_aN, hne_aK_aO, hne_aK_aN, hne_aN_aO, R.congr q⟩
theorem own_b1 {P : Int32 → Prop} (h0 : P 0) (h1 : P 1) (x : Int32) : P (x &&& 1) := by
  have e : x &&& 1 = 0 ∨ x &&& 1 = 1 := by
    have q : (x &&& 1).toBitVec = x.toBitVec &&& 1#32 := rfl
    have w : x.toBitVec &&& 1#32 = 0#32 ∨ x.toBitVec &&& 1#32 = 1#32 := by
      have z : (x.toBitVec &&& 1#32).toNat < 2 := by rw [BitVec.toNat_and]; exact Nat.lt_of_le_of_lt Nat.and_le_right (by decide)
      have : (x.toBitVec &&& 1#32).toNat = 0 ∨ (x.toBitVec &&& 1#32).toNat = 1 := by omega
      rcases this with u | u
      · exact Or.inl (BitVec.eq_of_toNat_eq u)
      · exact Or.inr (BitVec.eq_of_toNat_eq u)
    rcases w with w | w
    · exact Or.inl (Int32.toBitVec_inj.mp (q.trans w))
    · exact Or.inr (Int32.toBitVec_inj.mp (q.trans w))
  rcases e with e | e <;> rw [e] <;> assumption
theorem own_e2 {P : Int32 → Prop} {a b v : Int32} (h : v = a ∨ v = b) (h0 : P a) (h1 : P b) : P v := by rcases h with rfl | rfl <;> assumption
def own_full (lc : Int32) : Nat → Bool × Bool := fun _ => (true, decide (lc = 2))
theorem own_ix {a b : Int32} (h1 : ¬ (a < (0 : Int32))) (h2 : a < b) : a.toNatClampNeg < b.toNatClampNeg := by
  rw [Int32.lt_iff_toInt_lt] at h1 h2
  have e : (0 : Int32).toInt = 0 := rfl
  show a.toInt.toNat < b.toInt.toNat
  omega
def QS10a (Z : State) (a0 : Addr) (p1 : Int32) (rc : Int32) (st : Nat → Bool × Bool) (h0 : Heap) (n0 : Nat) (v : Option Value) (h : Heap) (L : List Loc) : Prop := v = none ∧ Fr n0 L ∧ n0 ≤ h.size ∧ Exa Z h a0 cCV ∧ own_Cov Z h n0 a0 (1 : Int32) rc (own_ups st (p1).toNatClampNeg (false, false))
set_option maxRecDepth 65536 in
set_option maxHeartbeats 40000000 in
theorem rmS10a (l : Launch) (Z : State) (az : Array Value) (hw : ∀ d ∈ tables_1, d.before az Z = true) (ws : List Jvm.Cond) (a0 : Addr) (p1 : Int32) (rc : Int32) (st : Nat → Bool × Bool) (h0 : Heap) (n0 : Nat) (Z0 : n0 ≤ h0.size) (E_a0 : Exa Z h0 a0 cCV) (J_c : own_Cov Z h0 n0 a0 (1 : Int32) rc st) (hc_lo : ¬ (p1 < (0 : Int32))) (hc_hi : p1 < rc) (hc_8 : p1 < (8 : Int32)) (hc_st : st (p1).toNatClampNeg = (true, false)) :
    MetFree l (⟨cCV, "settle", "(II)V"⟩ : MethodName) (head1 (Jvm.Cond.code (⟨cCV, "settle", "(II)V"⟩ : MethodName) prog_21_method_11_code 4 none :: ws) ({ frames := 3, cells := 3, slots := 5, locals := 110 } : Room)) (fun a U => a = #[(.ref a0), (.int p1), (.int (0 : Int32))] ∧ Z.Warmed39 U.vm ∧ U.heap = h0) (fun _ _ _ _ _ => True) (fun _ U o U' => ∃ v L, o = .returned v ∧ QS10a Z a0 p1 rc st h0 n0 v U'.heap L ∧ FrameEnd U o U' L ({ frames := 3, cells := 3, slots := 5, locals := 110 } : Room).cells ({ frames := 3, cells := 3, slots := 5, locals := 110 } : Room).slots) := by
  have qix : (p1).toNatClampNeg < rc.toNatClampNeg := own_ix hc_lo hc_hi
  obtain ⟨aP, aC, aK, aO, aN, kP, kC, kK, kO, kN, fP, rem, E_a0, F_labelCount_a0, F_rowCount_a0, F_pairsShared_a0, F_remainingCount_a0, F_openPairs_a0, V_aP, E_aP, F_covered_a0, V_aC, E_aC, F_coveredCounts_a0, V_aK, E_aK, F_openCounts_a0, V_aO, E_aO, F_ones_a0, V_aN, E_aN, O_kP, g_a0, g_aP, g_aC, g_aK, g_aO, g_aN, hne_aK_aO, hne_aK_aN, hne_aN_aO, RW⟩ := J_c
  obtain ⟨a9, ef, w1, w2, w3, E_a9, k9, z9, vs9, V_a9, G⟩ := RW _ qix
  rw [hc_st] at G
  obtain ⟨x0, u0, rfl, rfl⟩ := G
  refine own_mono (rmT10a l Z az hw ws a0 p1 rc rem aP kP fP aC kC aK kK (2 * (1 : Int32)) aO kO aN kN (1 : Int32) a9 k9 x0 h0 n0 Z0 E_a0 F_labelCount_a0 F_rowCount_a0 F_pairsShared_a0 F_remainingCount_a0 F_openPairs_a0 V_aP E_aP F_covered_a0 V_aC E_aC F_coveredCounts_a0 V_aK E_aK F_openCounts_a0 V_aO E_aO F_ones_a0 V_aN E_aN O_kP V_a9 E_a9 hc_lo hc_hi hc_8 ef (own_e2 (P := fun v => ¬ ((v / (2 : Int32)) < (0 : Int32))) u0 (by decide) (by decide)) (own_e2 (P := fun v => (v / (2 : Int32)) < (1 : Int32)) u0 (by decide) (by decide)) (own_e2 (P := fun v => (own_upd (fun _ => (.int (0 : Int32))) ((0 : Int32)).toNatClampNeg (.int (1 : Int32))) ((v / (2 : Int32))).toNatClampNeg = (.int (1 : Int32))) u0 (by decide) (by decide)) (own_e2 (P := fun v => ¬ (v < (0 : Int32))) u0 (by decide) (by decide)) (own_e2 (P := fun v => v < (2 * (1 : Int32))) u0 (by decide) (by decide)) g_aO hne_aK_aO g_aK w2 w1 g_aP g_aC g_a0) fun v h L q => ?_
  obtain ⟨r0, rk0, rfl, qN, qs, qK, qE_aO, qV_aO, qE_aK, qV_aK, qE_aP, qV_aP, qE_aC, qV_aC, qE_a0, qF_labelCount_a0, qF_rowCount_a0, qF_pairsShared_a0, qF_remainingCount_a0, qF_openPairs_a0, qF_covered_a0, qF_coveredCounts_a0, qF_openCounts_a0, qF_ones_a0, qE_r0, qV_r0⟩ := q
  exact ⟨rfl, qN, Nat.le_trans Z0 qK.1, E_a0.keep qK, ⟨aP, aC, aK, aO, aN, kP, kC, kK, kO, kN, _, _, qE_a0, qF_labelCount_a0, qF_rowCount_a0, qF_pairsShared_a0, qF_remainingCount_a0, qF_openPairs_a0, qV_aP, qE_aP, qF_covered_a0, qV_aC, qE_aC, qF_coveredCounts_a0, qV_aK, qE_aK, qF_openCounts_a0, qV_aO, qE_aO, qF_ones_a0, (V_aN.keep qK (ninS hne_aN_aO (ninS (Ne.symm hne_aK_aN) (ninS (ne_exa E_aN E_aP (by decide)) (ninS (ne_exa E_aN E_aC (by decide)) (ninS (ne_exa E_aN E_a0 (by decide)) nin0)))))), (E_aN.keep qK), O_kP, g_a0, g_aP, g_aC, g_aK, g_aO, g_aN, hne_aK_aO, hne_aK_aN, hne_aN_aO, own_Rows.put (RW.keep qK (fun x hx => by simp only [List.mem_cons, List.not_mem_nil, or_false] at hx; rcases hx with rfl | rfl | rfl | rfl | rfl <;> simp) E_a0 E_aP E_aC) (fun r hr _ => hr) ⟨Ne.symm (own_ne (Nat.lt_of_lt_of_le E_aK.lt qs)), Ne.symm (own_ne (Nat.lt_of_lt_of_le E_aO.lt qs)), Ne.symm (own_ne (Nat.lt_of_lt_of_le E_aN.lt qs)), qE_r0, _, _, _, qV_r0, ⟨rfl, rfl⟩⟩⟩⟩
def QS10b (Z : State) (a0 : Addr) (p1 : Int32) (rc : Int32) (st : Nat → Bool × Bool) (h0 : Heap) (n0 : Nat) (v : Option Value) (h : Heap) (L : List Loc) : Prop := v = none ∧ Fr n0 L ∧ n0 ≤ h.size ∧ Exa Z h a0 cCV ∧ own_Cov Z h n0 a0 (1 : Int32) rc (own_ups st (p1).toNatClampNeg (false, false))
set_option maxRecDepth 65536 in
set_option maxHeartbeats 40000000 in
theorem rmS10b (l : Launch) (Z : State) (az : Array Value) (hw : ∀ d ∈ tables_1, d.before az Z = true) (ws : List Jvm.Cond) (a0 : Addr) (p1 : Int32) (rc : Int32) (st : Nat → Bool × Bool) (h0 : Heap) (n0 : Nat) (Z0 : n0 ≤ h0.size) (E_a0 : Exa Z h0 a0 cCV) (J_c : own_Cov Z h0 n0 a0 (1 : Int32) rc st) (hc_lo : ¬ (p1 < (0 : Int32))) (hc_hi : p1 < rc) (hc_8 : p1 < (8 : Int32)) (hc_st : st (p1).toNatClampNeg = (false, false)) :
    MetFree l (⟨cCV, "settle", "(II)V"⟩ : MethodName) (head1 (Jvm.Cond.code (⟨cCV, "settle", "(II)V"⟩ : MethodName) prog_21_method_11_code 4 none :: ws) ({ frames := 3, cells := 3, slots := 5, locals := 110 } : Room)) (fun a U => a = #[(.ref a0), (.int p1), (.int (0 : Int32))] ∧ Z.Warmed39 U.vm ∧ U.heap = h0) (fun _ _ _ _ _ => True) (fun _ U o U' => ∃ v L, o = .returned v ∧ QS10b Z a0 p1 rc st h0 n0 v U'.heap L ∧ FrameEnd U o U' L ({ frames := 3, cells := 3, slots := 5, locals := 110 } : Room).cells ({ frames := 3, cells := 3, slots := 5, locals := 110 } : Room).slots) := by
  have qix : (p1).toNatClampNeg < rc.toNatClampNeg := own_ix hc_lo hc_hi
  obtain ⟨aP, aC, aK, aO, aN, kP, kC, kK, kO, kN, fP, rem, E_a0, F_labelCount_a0, F_rowCount_a0, F_pairsShared_a0, F_remainingCount_a0, F_openPairs_a0, V_aP, E_aP, F_covered_a0, V_aC, E_aC, F_coveredCounts_a0, V_aK, E_aK, F_openCounts_a0, V_aO, E_aO, F_ones_a0, V_aN, E_aN, O_kP, g_a0, g_aP, g_aC, g_aK, g_aO, g_aN, hne_aK_aO, hne_aK_aN, hne_aN_aO, RW⟩ := J_c
  obtain ⟨a9, ef, w1, w2, w3, E_a9, k9, z9, vs9, V_a9, G⟩ := RW _ qix
  rw [hc_st] at G
  obtain ⟨rfl, rfl⟩ := G
  refine own_mono (rmT10b l Z az hw ws a0 p1 rc rem aP kP fP aC kC aK kK (2 * (1 : Int32)) aO kO aN kN (1 : Int32) a9 k9 h0 n0 Z0 E_a0 F_labelCount_a0 F_rowCount_a0 F_pairsShared_a0 F_remainingCount_a0 F_openPairs_a0 V_aP E_aP F_covered_a0 V_aC E_aC F_coveredCounts_a0 V_aK E_aK F_openCounts_a0 V_aO E_aO F_ones_a0 V_aN E_aN O_kP V_a9 E_a9 hc_lo hc_hi hc_8 ef) fun v h L q => ?_
  obtain ⟨rfl, qN, qK⟩ := q
  refine ⟨rfl, qN, Nat.le_trans Z0 qK.1, E_a0.keep qK, ⟨aP, aC, aK, aO, aN, kP, kC, kK, kO, kN, _, _, (E_a0.keep qK), (F_labelCount_a0.keep qK nin0), (F_rowCount_a0.keep qK nin0), (F_pairsShared_a0.keep qK nin0), (F_remainingCount_a0.keep qK nin0), (F_openPairs_a0.keep qK nin0), (V_aP.keep qK nin0), (E_aP.keep qK), (F_covered_a0.keep qK nin0), (V_aC.keep qK nin0), (E_aC.keep qK), (F_coveredCounts_a0.keep qK nin0), (V_aK.keep qK nin0), (E_aK.keep qK), (F_openCounts_a0.keep qK nin0), (V_aO.keep qK nin0), (E_aO.keep qK), (F_ones_a0.keep qK nin0), (V_aN.keep qK nin0), (E_aN.keep qK), O_kP, g_a0, g_aP, g_aC, g_aK, g_aO, g_aN, hne_aK_aO, hne_aK_aN, hne_aN_aO, (RW.keep qK (fun x hx => nomatch hx) E_a0 E_aP E_aC).congr fun r _ => ?_⟩⟩
  by_cases c : r = (p1).toNatClampNeg
  · subst c; rw [own_ups_eq, hc_st]
  · exact if_neg c
def QS20 (Z : State) (a0 : Addr) (p1 : Int32) (rc : Int32) (st : Nat → Bool × Bool) (h0 : Heap) (n0 : Nat) (v : Option Value) (h : Heap) (L : List Loc) : Prop := v = none ∧ Fr n0 L ∧ n0 ≤ h.size ∧ Exa Z h a0 cCV ∧ own_Cov Z h n0 a0 (2 : Int32) rc (own_ups st (p1).toNatClampNeg (false, true))
set_option maxRecDepth 65536 in
set_option maxHeartbeats 40000000 in
theorem rmS20 (l : Launch) (Z : State) (az : Array Value) (hw : ∀ d ∈ tables_1, d.before az Z = true) (ws : List Jvm.Cond) (a0 : Addr) (p1 : Int32) (rc : Int32) (st : Nat → Bool × Bool) (h0 : Heap) (n0 : Nat) (Z0 : n0 ≤ h0.size) (E_a0 : Exa Z h0 a0 cCV) (J_c : own_Cov Z h0 n0 a0 (2 : Int32) rc st) (hc_lo : ¬ (p1 < (0 : Int32))) (hc_hi : p1 < rc) (hc_8 : p1 < (8 : Int32)) (hc_st : st (p1).toNatClampNeg = (true, true)) :
    MetFree l (⟨cCV, "settle", "(II)V"⟩ : MethodName) (head1 (Jvm.Cond.code (⟨cCV, "settle", "(II)V"⟩ : MethodName) prog_21_method_11_code 4 none :: ws) ({ frames := 3, cells := 3, slots := 5, locals := 110 } : Room)) (fun a U => a = #[(.ref a0), (.int p1), (.int (0 : Int32))] ∧ Z.Warmed39 U.vm ∧ U.heap = h0) (fun _ _ _ _ _ => True) (fun _ U o U' => ∃ v L, o = .returned v ∧ QS20 Z a0 p1 rc st h0 n0 v U'.heap L ∧ FrameEnd U o U' L ({ frames := 3, cells := 3, slots := 5, locals := 110 } : Room).cells ({ frames := 3, cells := 3, slots := 5, locals := 110 } : Room).slots) := by
  have qix : (p1).toNatClampNeg < rc.toNatClampNeg := own_ix hc_lo hc_hi
  obtain ⟨aP, aC, aK, aO, aN, kP, kC, kK, kO, kN, fP, rem, E_a0, F_labelCount_a0, F_rowCount_a0, F_pairsShared_a0, F_remainingCount_a0, F_openPairs_a0, V_aP, E_aP, F_covered_a0, V_aC, E_aC, F_coveredCounts_a0, V_aK, E_aK, F_openCounts_a0, V_aO, E_aO, F_ones_a0, V_aN, E_aN, O_kP, g_a0, g_aP, g_aC, g_aK, g_aO, g_aN, hne_aK_aO, hne_aK_aN, hne_aN_aO, RW⟩ := J_c
  obtain ⟨a9, ef, w1, w2, w3, E_a9, k9, z9, vs9, V_a9, G⟩ := RW _ qix
  rw [hc_st] at G
  obtain ⟨x0, x1, u0, u1, rfl, rfl⟩ := G
  refine own_mono (rmT20 l Z az hw ws a0 p1 rc rem aP kP fP aC kC aK kK (2 * (2 : Int32)) aO kO aN kN (2 : Int32) a9 k9 x0 x1 h0 n0 Z0 E_a0 F_labelCount_a0 F_rowCount_a0 F_pairsShared_a0 F_remainingCount_a0 F_openPairs_a0 V_aP E_aP F_covered_a0 V_aC E_aC F_coveredCounts_a0 V_aK E_aK F_openCounts_a0 V_aO E_aO F_ones_a0 V_aN E_aN O_kP V_a9 E_a9 hc_lo hc_hi hc_8 ef (own_e2 (P := fun v => ¬ ((v / (2 : Int32)) < (0 : Int32))) u0 (by decide) (by decide)) (own_e2 (P := fun v => (v / (2 : Int32)) < (2 : Int32)) u0 (by decide) (by decide)) (own_e2 (P := fun v => (own_upd (fun _ => (.int (0 : Int32))) ((0 : Int32)).toNatClampNeg (.int (1 : Int32))) ((v / (2 : Int32))).toNatClampNeg = (.int (1 : Int32))) u0 (by decide) (by decide)) (own_e2 (P := fun v => ¬ (v < (0 : Int32))) u0 (by decide) (by decide)) (own_e2 (P := fun v => v < (2 * (2 : Int32))) u0 (by decide) (by decide)) g_aO hne_aK_aO g_aK w2 w1 (own_e2 (P := fun v => ¬ ((v / (2 : Int32)) < (0 : Int32))) u1 (by decide) (by decide)) (own_e2 (P := fun v => (v / (2 : Int32)) < (2 : Int32)) u1 (by decide) (by decide)) (own_e2 (P := fun v => (own_upd (fun _ => (.int (0 : Int32))) ((0 : Int32)).toNatClampNeg (.int (1 : Int32))) ((v / (2 : Int32))).toNatClampNeg = (.int (0 : Int32))) u1 (by decide) (by decide)) g_aP g_aC) fun v h L q => ?_
  obtain ⟨r0, rk0, rfl, qN, qs, qK, qE_aO, qV_aO, qE_aK, qV_aK, qE_aP, qV_aP, qE_aC, qV_aC, qE_r0, qV_r0⟩ := q
  exact ⟨rfl, qN, Nat.le_trans Z0 qK.1, E_a0.keep qK, ⟨aP, aC, aK, aO, aN, kP, kC, kK, kO, kN, _, _, (E_a0.keep qK), (F_labelCount_a0.keep qK (ninS (ne_exa E_a0 E_aO (by decide)) (ninS (ne_exa E_a0 E_aK (by decide)) (ninS (ne_exa E_a0 E_aP (by decide)) (ninS (ne_exa E_a0 E_aC (by decide)) nin0))))), (F_rowCount_a0.keep qK (ninS (ne_exa E_a0 E_aO (by decide)) (ninS (ne_exa E_a0 E_aK (by decide)) (ninS (ne_exa E_a0 E_aP (by decide)) (ninS (ne_exa E_a0 E_aC (by decide)) nin0))))), (F_pairsShared_a0.keep qK (ninS (ne_exa E_a0 E_aO (by decide)) (ninS (ne_exa E_a0 E_aK (by decide)) (ninS (ne_exa E_a0 E_aP (by decide)) (ninS (ne_exa E_a0 E_aC (by decide)) nin0))))), (F_remainingCount_a0.keep qK (ninS (ne_exa E_a0 E_aO (by decide)) (ninS (ne_exa E_a0 E_aK (by decide)) (ninS (ne_exa E_a0 E_aP (by decide)) (ninS (ne_exa E_a0 E_aC (by decide)) nin0))))), (F_openPairs_a0.keep qK (ninS (ne_exa E_a0 E_aO (by decide)) (ninS (ne_exa E_a0 E_aK (by decide)) (ninS (ne_exa E_a0 E_aP (by decide)) (ninS (ne_exa E_a0 E_aC (by decide)) nin0))))), qV_aP, qE_aP, (F_covered_a0.keep qK (ninS (ne_exa E_a0 E_aO (by decide)) (ninS (ne_exa E_a0 E_aK (by decide)) (ninS (ne_exa E_a0 E_aP (by decide)) (ninS (ne_exa E_a0 E_aC (by decide)) nin0))))), qV_aC, qE_aC, (F_coveredCounts_a0.keep qK (ninS (ne_exa E_a0 E_aO (by decide)) (ninS (ne_exa E_a0 E_aK (by decide)) (ninS (ne_exa E_a0 E_aP (by decide)) (ninS (ne_exa E_a0 E_aC (by decide)) nin0))))), qV_aK, qE_aK, (F_openCounts_a0.keep qK (ninS (ne_exa E_a0 E_aO (by decide)) (ninS (ne_exa E_a0 E_aK (by decide)) (ninS (ne_exa E_a0 E_aP (by decide)) (ninS (ne_exa E_a0 E_aC (by decide)) nin0))))), qV_aO, qE_aO, (F_ones_a0.keep qK (ninS (ne_exa E_a0 E_aO (by decide)) (ninS (ne_exa E_a0 E_aK (by decide)) (ninS (ne_exa E_a0 E_aP (by decide)) (ninS (ne_exa E_a0 E_aC (by decide)) nin0))))), (V_aN.keep qK (ninS hne_aN_aO (ninS (Ne.symm hne_aK_aN) (ninS (ne_exa E_aN E_aP (by decide)) (ninS (ne_exa E_aN E_aC (by decide)) nin0))))), (E_aN.keep qK), O_kP, g_a0, g_aP, g_aC, g_aK, g_aO, g_aN, hne_aK_aO, hne_aK_aN, hne_aN_aO, own_Rows.put (RW.keep qK (fun x hx => by simp only [List.mem_cons, List.not_mem_nil, or_false] at hx; rcases hx with rfl | rfl | rfl | rfl <;> simp) E_a0 E_aP E_aC) (fun r hr _ => hr) ⟨Ne.symm (own_ne (Nat.lt_of_lt_of_le E_aK.lt qs)), Ne.symm (own_ne (Nat.lt_of_lt_of_le E_aO.lt qs)), Ne.symm (own_ne (Nat.lt_of_lt_of_le E_aN.lt qs)), qE_r0, _, _, _, qV_r0, ⟨x1, u1, rfl, rfl⟩⟩⟩⟩
def QS21a (Z : State) (a0 : Addr) (p1 : Int32) (rc : Int32) (st : Nat → Bool × Bool) (h0 : Heap) (n0 : Nat) (v : Option Value) (h : Heap) (L : List Loc) : Prop := v = none ∧ Fr n0 L ∧ n0 ≤ h.size ∧ Exa Z h a0 cCV ∧ own_Cov Z h n0 a0 (2 : Int32) rc (own_ups st (p1).toNatClampNeg (true, false))
set_option maxRecDepth 65536 in
set_option maxHeartbeats 40000000 in
theorem rmS21a (l : Launch) (Z : State) (az : Array Value) (hw : ∀ d ∈ tables_1, d.before az Z = true) (ws : List Jvm.Cond) (a0 : Addr) (p1 : Int32) (rc : Int32) (st : Nat → Bool × Bool) (h0 : Heap) (n0 : Nat) (Z0 : n0 ≤ h0.size) (E_a0 : Exa Z h0 a0 cCV) (J_c : own_Cov Z h0 n0 a0 (2 : Int32) rc st) (hc_lo : ¬ (p1 < (0 : Int32))) (hc_hi : p1 < rc) (hc_8 : p1 < (8 : Int32)) (hc_st : st (p1).toNatClampNeg = (true, true)) :
    MetFree l (⟨cCV, "settle", "(II)V"⟩ : MethodName) (head1 (Jvm.Cond.code (⟨cCV, "settle", "(II)V"⟩ : MethodName) prog_21_method_11_code 4 none :: ws) ({ frames := 3, cells := 3, slots := 5, locals := 110 } : Room)) (fun a U => a = #[(.ref a0), (.int p1), (.int (1 : Int32))] ∧ Z.Warmed39 U.vm ∧ U.heap = h0) (fun _ _ _ _ _ => True) (fun _ U o U' => ∃ v L, o = .returned v ∧ QS21a Z a0 p1 rc st h0 n0 v U'.heap L ∧ FrameEnd U o U' L ({ frames := 3, cells := 3, slots := 5, locals := 110 } : Room).cells ({ frames := 3, cells := 3, slots := 5, locals := 110 } : Room).slots) := by
  have qix : (p1).toNatClampNeg < rc.toNatClampNeg := own_ix hc_lo hc_hi
  obtain ⟨aP, aC, aK, aO, aN, kP, kC, kK, kO, kN, fP, rem, E_a0, F_labelCount_a0, F_rowCount_a0, F_pairsShared_a0, F_remainingCount_a0, F_openPairs_a0, V_aP, E_aP, F_covered_a0, V_aC, E_aC, F_coveredCounts_a0, V_aK, E_aK, F_openCounts_a0, V_aO, E_aO, F_ones_a0, V_aN, E_aN, O_kP, g_a0, g_aP, g_aC, g_aK, g_aO, g_aN, hne_aK_aO, hne_aK_aN, hne_aN_aO, RW⟩ := J_c
  obtain ⟨a9, ef, w1, w2, w3, E_a9, k9, z9, vs9, V_a9, G⟩ := RW _ qix
  rw [hc_st] at G
  obtain ⟨x0, x1, u0, u1, rfl, rfl⟩ := G
  refine own_mono (rmT21a l Z az hw ws a0 p1 rc rem aP kP fP aC kC aK kK (2 * (2 : Int32)) aO kO aN kN (2 : Int32) a9 k9 x0 x1 h0 n0 Z0 E_a0 F_labelCount_a0 F_rowCount_a0 F_pairsShared_a0 F_remainingCount_a0 F_openPairs_a0 V_aP E_aP F_covered_a0 V_aC E_aC F_coveredCounts_a0 V_aK E_aK F_openCounts_a0 V_aO E_aO F_ones_a0 V_aN E_aN O_kP V_a9 E_a9 hc_lo hc_hi hc_8 ef (own_e2 (P := fun v => ¬ ((v / (2 : Int32)) < (0 : Int32))) u0 (by decide) (by decide)) (own_e2 (P := fun v => (v / (2 : Int32)) < (2 : Int32)) u0 (by decide) (by decide)) (own_e2 (P := fun v => (own_upd (fun _ => (.int (0 : Int32))) ((1 : Int32)).toNatClampNeg (.int (1 : Int32))) ((v / (2 : Int32))).toNatClampNeg = (.int (0 : Int32))) u0 (by decide) (by decide)) (own_e2 (P := fun v => ¬ ((v / (2 : Int32)) < (0 : Int32))) u1 (by decide) (by decide)) (own_e2 (P := fun v => (v / (2 : Int32)) < (2 : Int32)) u1 (by decide) (by decide)) (own_e2 (P := fun v => (own_upd (fun _ => (.int (0 : Int32))) ((1 : Int32)).toNatClampNeg (.int (1 : Int32))) ((v / (2 : Int32))).toNatClampNeg = (.int (1 : Int32))) u1 (by decide) (by decide)) (own_e2 (P := fun v => ¬ (v < (0 : Int32))) u1 (by decide) (by decide)) (own_e2 (P := fun v => v < (2 * (2 : Int32))) u1 (by decide) (by decide)) g_aO hne_aK_aO g_aK w2 w1 g_aP g_aC) fun v h L q => ?_
  obtain ⟨r0, rk0, rfl, qN, qs, qK, qE_aO, qV_aO, qE_aK, qV_aK, qE_aP, qV_aP, qE_aC, qV_aC, qE_r0, qV_r0⟩ := q
  exact ⟨rfl, qN, Nat.le_trans Z0 qK.1, E_a0.keep qK, ⟨aP, aC, aK, aO, aN, kP, kC, kK, kO, kN, _, _, (E_a0.keep qK), (F_labelCount_a0.keep qK (ninS (ne_exa E_a0 E_aO (by decide)) (ninS (ne_exa E_a0 E_aK (by decide)) (ninS (ne_exa E_a0 E_aP (by decide)) (ninS (ne_exa E_a0 E_aC (by decide)) nin0))))), (F_rowCount_a0.keep qK (ninS (ne_exa E_a0 E_aO (by decide)) (ninS (ne_exa E_a0 E_aK (by decide)) (ninS (ne_exa E_a0 E_aP (by decide)) (ninS (ne_exa E_a0 E_aC (by decide)) nin0))))), (F_pairsShared_a0.keep qK (ninS (ne_exa E_a0 E_aO (by decide)) (ninS (ne_exa E_a0 E_aK (by decide)) (ninS (ne_exa E_a0 E_aP (by decide)) (ninS (ne_exa E_a0 E_aC (by decide)) nin0))))), (F_remainingCount_a0.keep qK (ninS (ne_exa E_a0 E_aO (by decide)) (ninS (ne_exa E_a0 E_aK (by decide)) (ninS (ne_exa E_a0 E_aP (by decide)) (ninS (ne_exa E_a0 E_aC (by decide)) nin0))))), (F_openPairs_a0.keep qK (ninS (ne_exa E_a0 E_aO (by decide)) (ninS (ne_exa E_a0 E_aK (by decide)) (ninS (ne_exa E_a0 E_aP (by decide)) (ninS (ne_exa E_a0 E_aC (by decide)) nin0))))), qV_aP, qE_aP, (F_covered_a0.keep qK (ninS (ne_exa E_a0 E_aO (by decide)) (ninS (ne_exa E_a0 E_aK (by decide)) (ninS (ne_exa E_a0 E_aP (by decide)) (ninS (ne_exa E_a0 E_aC (by decide)) nin0))))), qV_aC, qE_aC, (F_coveredCounts_a0.keep qK (ninS (ne_exa E_a0 E_aO (by decide)) (ninS (ne_exa E_a0 E_aK (by decide)) (ninS (ne_exa E_a0 E_aP (by decide)) (ninS (ne_exa E_a0 E_aC (by decide)) nin0))))), qV_aK, qE_aK, (F_openCounts_a0.keep qK (ninS (ne_exa E_a0 E_aO (by decide)) (ninS (ne_exa E_a0 E_aK (by decide)) (ninS (ne_exa E_a0 E_aP (by decide)) (ninS (ne_exa E_a0 E_aC (by decide)) nin0))))), qV_aO, qE_aO, (F_ones_a0.keep qK (ninS (ne_exa E_a0 E_aO (by decide)) (ninS (ne_exa E_a0 E_aK (by decide)) (ninS (ne_exa E_a0 E_aP (by decide)) (ninS (ne_exa E_a0 E_aC (by decide)) nin0))))), (V_aN.keep qK (ninS hne_aN_aO (ninS (Ne.symm hne_aK_aN) (ninS (ne_exa E_aN E_aP (by decide)) (ninS (ne_exa E_aN E_aC (by decide)) nin0))))), (E_aN.keep qK), O_kP, g_a0, g_aP, g_aC, g_aK, g_aO, g_aN, hne_aK_aO, hne_aK_aN, hne_aN_aO, own_Rows.put (RW.keep qK (fun x hx => by simp only [List.mem_cons, List.not_mem_nil, or_false] at hx; rcases hx with rfl | rfl | rfl | rfl <;> simp) E_a0 E_aP E_aC) (fun r hr _ => hr) ⟨Ne.symm (own_ne (Nat.lt_of_lt_of_le E_aK.lt qs)), Ne.symm (own_ne (Nat.lt_of_lt_of_le E_aO.lt qs)), Ne.symm (own_ne (Nat.lt_of_lt_of_le E_aN.lt qs)), qE_r0, _, _, _, qV_r0, ⟨x0, u0, rfl, rfl⟩⟩⟩⟩
def QS21b (Z : State) (a0 : Addr) (p1 : Int32) (rc : Int32) (st : Nat → Bool × Bool) (h0 : Heap) (n0 : Nat) (v : Option Value) (h : Heap) (L : List Loc) : Prop := v = none ∧ Fr n0 L ∧ n0 ≤ h.size ∧ Exa Z h a0 cCV ∧ own_Cov Z h n0 a0 (2 : Int32) rc (own_ups st (p1).toNatClampNeg (false, false))
set_option maxRecDepth 65536 in
set_option maxHeartbeats 40000000 in
theorem rmS21b (l : Launch) (Z : State) (az : Array Value) (hw : ∀ d ∈ tables_1, d.before az Z = true) (ws : List Jvm.Cond) (a0 : Addr) (p1 : Int32) (rc : Int32) (st : Nat → Bool × Bool) (h0 : Heap) (n0 : Nat) (Z0 : n0 ≤ h0.size) (E_a0 : Exa Z h0 a0 cCV) (J_c : own_Cov Z h0 n0 a0 (2 : Int32) rc st) (hc_lo : ¬ (p1 < (0 : Int32))) (hc_hi : p1 < rc) (hc_8 : p1 < (8 : Int32)) (hc_st : st (p1).toNatClampNeg = (false, true)) :
    MetFree l (⟨cCV, "settle", "(II)V"⟩ : MethodName) (head1 (Jvm.Cond.code (⟨cCV, "settle", "(II)V"⟩ : MethodName) prog_21_method_11_code 4 none :: ws) ({ frames := 3, cells := 3, slots := 5, locals := 110 } : Room)) (fun a U => a = #[(.ref a0), (.int p1), (.int (1 : Int32))] ∧ Z.Warmed39 U.vm ∧ U.heap = h0) (fun _ _ _ _ _ => True) (fun _ U o U' => ∃ v L, o = .returned v ∧ QS21b Z a0 p1 rc st h0 n0 v U'.heap L ∧ FrameEnd U o U' L ({ frames := 3, cells := 3, slots := 5, locals := 110 } : Room).cells ({ frames := 3, cells := 3, slots := 5, locals := 110 } : Room).slots) := by
  have qix : (p1).toNatClampNeg < rc.toNatClampNeg := own_ix hc_lo hc_hi
  obtain ⟨aP, aC, aK, aO, aN, kP, kC, kK, kO, kN, fP, rem, E_a0, F_labelCount_a0, F_rowCount_a0, F_pairsShared_a0, F_remainingCount_a0, F_openPairs_a0, V_aP, E_aP, F_covered_a0, V_aC, E_aC, F_coveredCounts_a0, V_aK, E_aK, F_openCounts_a0, V_aO, E_aO, F_ones_a0, V_aN, E_aN, O_kP, g_a0, g_aP, g_aC, g_aK, g_aO, g_aN, hne_aK_aO, hne_aK_aN, hne_aN_aO, RW⟩ := J_c
  obtain ⟨a9, ef, w1, w2, w3, E_a9, k9, z9, vs9, V_a9, G⟩ := RW _ qix
  rw [hc_st] at G
  obtain ⟨x1, u1, rfl, rfl⟩ := G
  refine own_mono (rmT21b l Z az hw ws a0 p1 rc rem aP kP fP aC kC aK kK (2 * (2 : Int32)) aO kO aN kN (2 : Int32) a9 k9 x1 h0 n0 Z0 E_a0 F_labelCount_a0 F_rowCount_a0 F_pairsShared_a0 F_remainingCount_a0 F_openPairs_a0 V_aP E_aP F_covered_a0 V_aC E_aC F_coveredCounts_a0 V_aK E_aK F_openCounts_a0 V_aO E_aO F_ones_a0 V_aN E_aN O_kP V_a9 E_a9 hc_lo hc_hi hc_8 ef (own_e2 (P := fun v => ¬ ((v / (2 : Int32)) < (0 : Int32))) u1 (by decide) (by decide)) (own_e2 (P := fun v => (v / (2 : Int32)) < (2 : Int32)) u1 (by decide) (by decide)) (own_e2 (P := fun v => (own_upd (fun _ => (.int (0 : Int32))) ((1 : Int32)).toNatClampNeg (.int (1 : Int32))) ((v / (2 : Int32))).toNatClampNeg = (.int (1 : Int32))) u1 (by decide) (by decide)) (own_e2 (P := fun v => ¬ (v < (0 : Int32))) u1 (by decide) (by decide)) (own_e2 (P := fun v => v < (2 * (2 : Int32))) u1 (by decide) (by decide)) g_aO hne_aK_aO g_aK w2 w1 g_aP g_aC g_a0) fun v h L q => ?_
  obtain ⟨r0, rk0, rfl, qN, qs, qK, qE_aO, qV_aO, qE_aK, qV_aK, qE_aP, qV_aP, qE_aC, qV_aC, qE_a0, qF_labelCount_a0, qF_rowCount_a0, qF_pairsShared_a0, qF_remainingCount_a0, qF_openPairs_a0, qF_covered_a0, qF_coveredCounts_a0, qF_openCounts_a0, qF_ones_a0, qE_r0, qV_r0⟩ := q
  exact ⟨rfl, qN, Nat.le_trans Z0 qK.1, E_a0.keep qK, ⟨aP, aC, aK, aO, aN, kP, kC, kK, kO, kN, _, _, qE_a0, qF_labelCount_a0, qF_rowCount_a0, qF_pairsShared_a0, qF_remainingCount_a0, qF_openPairs_a0, qV_aP, qE_aP, qF_covered_a0, qV_aC, qE_aC, qF_coveredCounts_a0, qV_aK, qE_aK, qF_openCounts_a0, qV_aO, qE_aO, qF_ones_a0, (V_aN.keep qK (ninS hne_aN_aO (ninS (Ne.symm hne_aK_aN) (ninS (ne_exa E_aN E_aP (by decide)) (ninS (ne_exa E_aN E_aC (by decide)) (ninS (ne_exa E_aN E_a0 (by decide)) nin0)))))), (E_aN.keep qK), O_kP, g_a0, g_aP, g_aC, g_aK, g_aO, g_aN, hne_aK_aO, hne_aK_aN, hne_aN_aO, own_Rows.put (RW.keep qK (fun x hx => by simp only [List.mem_cons, List.not_mem_nil, or_false] at hx; rcases hx with rfl | rfl | rfl | rfl | rfl <;> simp) E_a0 E_aP E_aC) (fun r hr _ => hr) ⟨Ne.symm (own_ne (Nat.lt_of_lt_of_le E_aK.lt qs)), Ne.symm (own_ne (Nat.lt_of_lt_of_le E_aO.lt qs)), Ne.symm (own_ne (Nat.lt_of_lt_of_le E_aN.lt qs)), qE_r0, _, _, _, qV_r0, ⟨rfl, rfl⟩⟩⟩⟩
theorem own_Cov.exa {Z : State} {h : Heap} {n0 : Nat} {a0 : Addr} {lc rc : Int32} {st : Nat → Bool × Bool} (C : own_Cov Z h n0 a0 lc rc st) : Exa Z h a0 cCV := by
  obtain ⟨aP, aC, aK, aO, aN, kP, kC, kK, kO, kN, fP, rem, E, -⟩ := C
  exact E
def own_n3 (n : Int32) : Prop := n = 0 ∨ n = 1 ∨ n = 2 ∨ n = 3
theorem own_b3 (x : Int32) : own_n3 (x &&& 3) := by
  have q : (x &&& 3).toBitVec = x.toBitVec &&& 3#32 := rfl
  have z : (x.toBitVec &&& 3#32).toNat < 4 := by rw [BitVec.toNat_and]; exact Nat.lt_of_le_of_lt Nat.and_le_right (by decide)
  have : (x.toBitVec &&& 3#32).toNat = 0 ∨ (x.toBitVec &&& 3#32).toNat = 1 ∨ (x.toBitVec &&& 3#32).toNat = 2 ∨ (x.toBitVec &&& 3#32).toNat = 3 := by omega
  rcases this with u | u | u | u
  · exact Or.inl (Int32.toBitVec_inj.mp (q.trans (BitVec.eq_of_toNat_eq u)))
  · exact Or.inr (Or.inl (Int32.toBitVec_inj.mp (q.trans (BitVec.eq_of_toNat_eq u))))
  · exact Or.inr (Or.inr (Or.inl (Int32.toBitVec_inj.mp (q.trans (BitVec.eq_of_toNat_eq u)))))
  · exact Or.inr (Or.inr (Or.inr (Int32.toBitVec_inj.mp (q.trans (BitVec.eq_of_toNat_eq u)))))
def own_mn (k : Nat) (n : Int32) : Int32 := if Int32.ofNat k < n then Int32.ofNat k else n
def own_xs (s i : Int32) : Int32 := ((s.toUInt32 >>> (((2 : Int32) * i) &&& 31).toUInt32).toInt32) &&& (3 : Int32)
def own_i : Nat → Int32
  | 0 => 0
  | 1 => 1
  | _ => 2
def own_fin (lc s : Int32) (r : Nat) : Bool × Bool := if lc = 1 then (decide (own_xs s (own_i r) &&& (1 : Int32) = (0 : Int32)) && decide (own_xs s (own_i r) &&& (2 : Int32) = (0 : Int32)), false) else (decide (own_xs s (own_i r) &&& (1 : Int32) = (0 : Int32)), decide (own_xs s (own_i r) &&& (2 : Int32) = (0 : Int32)))
theorem own_fin1 {s : Int32} {i : Nat} {a b : Bool} (h1 : decide (own_xs s (own_i i) &&& (1 : Int32) = (0 : Int32)) = a) (h2 : decide (own_xs s (own_i i) &&& (2 : Int32) = (0 : Int32)) = b) : own_fin 1 s i = (a && b, false) := by
  subst h1 h2
  exact if_pos rfl
theorem own_fin2 {s : Int32} {i : Nat} {a b : Bool} (h1 : decide (own_xs s (own_i i) &&& (1 : Int32) = (0 : Int32)) = a) (h2 : decide (own_xs s (own_i i) &&& (2 : Int32) = (0 : Int32)) = b) : own_fin 2 s i = (a, b) := by
  subst h1 h2
  exact if_neg (by decide)
def own_sts (lc s : Int32) (k : Nat) : Nat → Bool × Bool := fun r => if r < k then own_fin lc s r else own_full lc r
theorem own_sts_zero {lc s : Int32} : own_sts lc s 0 = own_full lc := funext fun r => if_neg (Nat.not_lt_zero r)
theorem own_sts_succ {lc s : Int32} {i r : Nat} {b : Bool × Bool} (h : own_fin lc s i = b) : own_sts lc s (i + 1) r = own_ups (own_sts lc s i) i b r := by
  unfold own_sts own_ups
  by_cases c : r = i
  · subst c; rw [if_pos (Nat.lt_succ_self r), if_pos rfl, h]
  · rw [if_neg c]
    by_cases d : r < i
    · exact (if_pos (Nat.lt_succ_of_lt d)).trans (if_pos d).symm
    · exact (if_neg (by omega)).trans (if_neg d).symm
theorem own_ups2 {st : Nat → Bool × Bool} {i r : Nat} {b b' : Bool × Bool} : own_ups st i b r = own_ups (own_ups st i b') i b r := by
  unfold own_ups
  by_cases c : r = i
  · rw [if_pos c, if_pos c]
  · rw [if_neg c, if_neg c, if_neg c]
theorem own_sts_ge {lc s : Int32} {i r : Nat} (h : r < i) : own_sts lc s (i + 1) r = own_sts lc s i r := by
  unfold own_sts
  rw [if_pos h, if_pos (Nat.lt_succ_of_lt h)]
def QI (Z : State) (a0 : Addr) (p1 : Int32) (h0 : Heap) (n0 : Nat) (v : Option Value) (h : Heap) (L : List Loc) : Prop := v = none ∧ Fr n0 L ∧ n0 ≤ h.size ∧ Exa Z h a0 cCV ∧ own_Cov Z h n0 a0 p1 (0 : Int32) (own_full p1)
set_option maxRecDepth 65536 in
set_option maxHeartbeats 40000000 in
theorem rmI (l : Launch) (Z : State) (az : Array Value) (hw : ∀ d ∈ tables_1, d.before az Z = true) (ws : List Jvm.Cond) (a0 : Addr) (p1 : Int32) (h0 : Heap) (n0 : Nat) (Z0 : n0 ≤ h0.size) (E_a0 : Exa Z h0 a0 cCV) (F_labelCount_a0 : Fld Z h0 a0 cCV "labelCount" "I" (.int (0 : Int32))) (F_openPairs_a0 : Fld Z h0 a0 cCV "openPairs" "[[I" .null) (F_covered_a0 : Fld Z h0 a0 cCV "covered" "[Z" .null) (F_coveredCounts_a0 : Fld Z h0 a0 cCV "coveredCounts" "[I" .null) (F_openCounts_a0 : Fld Z h0 a0 cCV "openCounts" "[I" .null) (F_ones_a0 : Fld Z h0 a0 cCV "ones" "[I" .null) (F_rowCount_a0 : Fld Z h0 a0 cCV "rowCount" "I" (.int (0 : Int32))) (F_pairsShared_a0 : Fld Z h0 a0 cCV "pairsShared" "Z" (.int (0 : Int32))) (F_remainingCount_a0 : Fld Z h0 a0 cCV "remainingCount" "I" (.int (0 : Int32))) (g_a0 : n0 ≤ a0) (hc_lc : p1 = (1 : Int32) ∨ p1 = (2 : Int32)) :
    MetFree l (⟨cCV, "<init>", "(I)V"⟩ : MethodName) (head1 (Jvm.Cond.code (⟨cCV, "<init>", "(I)V"⟩ : MethodName) prog_21_method_1_code 2 none :: ws) ({ frames := 1, cells := 5, slots := 26, locals := 12 } : Room)) (fun a U => a = #[(.ref a0), (.int p1)] ∧ Z.Warmed39 U.vm ∧ U.heap = h0) (fun _ _ _ _ _ => True) (fun _ U o U' => ∃ v L, o = .returned v ∧ QI Z a0 p1 h0 n0 v U'.heap L ∧ FrameEnd U o U' L ({ frames := 1, cells := 5, slots := 26, locals := 12 } : Room).cells ({ frames := 1, cells := 5, slots := 26, locals := 12 } : Room).slots) := by
  refine own_mono (rm1 l Z az hw ws a0 p1 h0 n0 Z0 E_a0 F_labelCount_a0 F_openPairs_a0 F_covered_a0 F_coveredCounts_a0 F_openCounts_a0 F_ones_a0 F_rowCount_a0 F_pairsShared_a0 F_remainingCount_a0 (own_e2 (P := fun v => ¬ (v < (1 : Int32))) hc_lc (by decide) (by decide)) g_a0 (own_e2 (P := fun v => ¬ (((2 : Int32) * v) < (0 : Int32))) hc_lc (by decide) (by decide)) (own_e2 (P := fun v => (((2 : Int32) * v)).toNatClampNeg ≤ 4) hc_lc (by decide) (by decide)) (own_e2 (P := fun v => ¬ (v < (0 : Int32))) hc_lc (by decide) (by decide)) (own_e2 (P := fun v => (v).toNatClampNeg ≤ 2) hc_lc (by decide) (by decide))) fun v h L q => ?_
  obtain ⟨r0, r1, r2, r3, r4, rk0, rk1, rk2, rk3, rk4, rfl, qN, qs, ql0, ql1, ql2, ql3, qK, qE_a0, qF_labelCount_a0, qF_openPairs_a0, qF_covered_a0, qF_coveredCounts_a0, qF_openCounts_a0, qF_ones_a0, qF_rowCount_a0, qF_pairsShared_a0, qF_remainingCount_a0, qE_r0, qV_r0, qE_r1, qV_r1, qE_r2, qV_r2, qE_r3, qV_r3, qE_r4, qV_r4, qO_rk0⟩ := q
  exact ⟨rfl, qN, Nat.le_trans Z0 qK.1, qE_a0, r0, r1, r2, r3, r4, rk0, rk1, rk2, rk3, rk4, _, _, qE_a0, qF_labelCount_a0, qF_rowCount_a0, qF_pairsShared_a0, qF_remainingCount_a0, qF_openPairs_a0, qV_r0, qE_r0, qF_covered_a0, qV_r1, qE_r1, qF_coveredCounts_a0, qV_r2, qE_r2, qF_openCounts_a0, qV_r3, qE_r3, qF_ones_a0, qV_r4, qE_r4, qO_rk0, g_a0, (Nat.le_trans Z0 (Nat.le_trans qs (Nat.le_refl _))), (Nat.le_trans Z0 (Nat.le_trans qs (Nat.le_of_lt ql0))), (Nat.le_trans Z0 (Nat.le_trans qs (Nat.le_of_lt (Nat.lt_trans ql0 ql1)))), (Nat.le_trans Z0 (Nat.le_trans qs (Nat.le_of_lt (Nat.lt_trans (Nat.lt_trans ql0 ql1) ql2)))), (Nat.le_trans Z0 (Nat.le_trans qs (Nat.le_of_lt (Nat.lt_trans (Nat.lt_trans (Nat.lt_trans ql0 ql1) ql2) ql3)))), (own_ne ql2), (own_ne (Nat.lt_trans ql2 ql3)), (Ne.symm (own_ne ql3)), fun r hr => absurd hr (Nat.not_lt_zero r)⟩
theorem d3_0 : decode method_3_code 0 = .ok (.iload_n 1, 1) := by decide +kernel
theorem d3_1 : decode method_3_code 1 = .ok (.iload_n 2, 1) := by decide +kernel
theorem d3_2 : decode method_3_code 2 = .ok (.if_icmp .lt 4, 3) := by decide +kernel
theorem d3_5 : decode method_3_code 5 = .ok (.return_, 1) := by decide +kernel
theorem pn_com_example_headlattice_headlattice_learn_CoverageRemainingRowSetPinLaw : plainName "com/example/headlattice/headlattice/learn/CoverageRemainingRowSetPinLaw" = true := by first | (simp [plainName, overriddenIn]; done) | decide +kernel
theorem ef_rmLAf (m : MethodId) (a0 : Addr) (p1 : Int32) (p2 : Int32) (p3 : Int32) (p4 : Int32) (p5 : Int32) : entryFrame m #[(.ref a0), (.int p1), (.int p2), (.int p3), (.int p4), (.int p5)] 7 = mkF m 0 #[vR a0, vI p1, vI p2, vI p3, vI p4, vI p5, .unset] [] := by first | (simp [entryFrame, mkF, argsToLocals, Value.category]; done) | rfl
def QLAf (Z : State) (a0 : Addr) (p1 : Int32) (p2 : Int32) (p3 : Int32) (p4 : Int32) (p5 : Int32) (h0 : Heap) (n0 : Nat) (v : Option Value) (h : Heap) (L : List Loc) : Prop := v = none ∧ Fr n0 L ∧ h = h0
set_option maxRecDepth 65536 in
set_option maxHeartbeats 40000000 in
theorem rmLAf (l : Launch) (Z : State) (az : Array Value) (hw : ∀ d ∈ tables_1, d.before az Z = true) (ws : List Jvm.Cond) (a0 : Addr) (p1 : Int32) (p2 : Int32) (p3 : Int32) (p4 : Int32) (p5 : Int32) (h0 : Heap) (n0 : Nat) (Z0 : n0 ≤ h0.size) (hc0 : ¬ (p1 < p2)) :
    MetFree l (⟨cLW, "addRow", "(Lcom/example/headlattice/headlattice/learn/Coverage;IIIII)V"⟩ : MethodName) (head1 (Jvm.Cond.code (⟨cLW, "addRow", "(Lcom/example/headlattice/headlattice/learn/Coverage;IIIII)V"⟩ : MethodName) method_3_code 7 none :: ws) ({ frames := 2, cells := 2, slots := 4, locals := 60 } : Room)) (fun a U => a = #[(.ref a0), (.int p1), (.int p2), (.int p3), (.int p4), (.int p5)] ∧ Z.Warmed39 U.vm ∧ U.heap = h0) (fun _ _ _ _ _ => True) (fun _ U o U' => ∃ v L, o = .returned v ∧ QLAf Z a0 p1 p2 p3 p4 p5 h0 n0 v U'.heap L ∧ FrameEnd U o U' L ({ frames := 2, cells := 2, slots := 4, locals := 60 } : Room).cells ({ frames := 2, cells := 2, slots := 4, locals := 60 } : Room).slots) := by
  refine MetFree.of_bodySF (plainFor_of_name pn_com_example_headlattice_headlattice_learn_CoverageRemainingRowSetPinLaw) hisR ?_
  intro p e s m args below meth c s₁ Bd hml0 hP hK
  obtain ⟨rfl, hZ, hh⟩ := hP
  have hx := Bd.exec
  have hby := Bd.bytes
  have hml : c.maxLocals = 7 := hml0
  have hown : s.vm.findClass cLW = some m.cls := findClass_of_methodNamed Bd.named
  have hnm := (name_of_methodNamed Bd.named Bd.method).1
  have X0 : Stand p l e ({ frames := 2, cells := 2, slots := 4, locals := 60 } : Room) s m #[(.ref a0), (.int p1), (.int p2), (.int p3), (.int p4), (.int p5)] below meth c s₁ [] 0 0 := Stand.of_body Bd
  have e0 : s₁.heap = h0 := by rw [← hh, Bd.state]; rfl
  have N0 := Fr.nil n0
  have pre0 : ∀ t, Steps p.tables e below (s₁.setTop (mkF m 0 #[vR a0, vI p1, vI p2, vI p3, vI p4, vI p5, .unset] [])) t → Steps p.tables e below (s₁.setTop (entryFrame m #[(.ref a0), (.int p1), (.int p2), (.int p3), (.int p4), (.int p5)] 7)) t := fun t k => castTop (ef_rmLAf m a0 p1 p2 p3 p4 p5) k
  obtain ⟨fs, hr, hrun, hended, hW, hsame⟩ := X0.leave (v := none) (fun _ => rfl)
  refine ⟨_, _, pre0 _ ?_, hrun, hended, _, _, rfl, ?_, ⟨_, rfl⟩, hW, hsame.mono (by decide) (by decide)⟩
  · show Steps p.tables e below (s₁.setTop (mkF m 0 #[vR a0, vI p1, vI p2, vI p3, vI p4, vI p5, .unset] [])) _
    refine XS.iloadN X0.here hx rfl (hb hby d3_0) rfl ?_
    refine XS.iloadN X0.here hx rfl (hb hby d3_1) rfl ?_
    refine XS.icmpNo X0.here hx rfl (hb hby d3_2) rfl (flt hc0).1 ?_
    show Steps p.tables e below (s₁.setTop (mkF m 5 #[vR a0, vI p1, vI p2, vI p3, vI p4, vI p5, .unset] [])) _
    exact X0.returnOut hx Bd.returns (hb hby d3_5) hr
  · show QLAf Z a0 p1 p2 p3 p4 p5 h0 n0 _ s₁.heap _
    rw [e0]
    exact ⟨rfl, N0, rfl⟩
def own_cb (x : Int32) : Int32 := if x = (0 : Int32) then (0 : Int32) else (1 : Int32)
theorem own_cbP {P : Int32 → Prop} (h0 : P 0) (h1 : P 1) (x : Int32) : P (own_cb x) := by
  unfold own_cb
  split <;> assumption
theorem d3_51 : decode method_3_code 51 = .ok (.ifCond .eq 7, 3) := by decide +kernel
theorem d3_58 : decode method_3_code 58 = .ok (.iconst 0, 1) := by decide +kernel
set_option maxRecDepth 65536 in
set_option maxHeartbeats 40000000 in
theorem sgct (l : Launch) (Z : State) (az : Array Value) (hw : ∀ d ∈ tables_1, d.before az Z = true) {p : Program} {e : Env} {s : State} {m : MethodId} {args : Array Value} {below : List Frame} {meth : Method} {c : Code} (hx : p.tables.exec = Jvm.exec) (hby : c.code = method_3_code) (hml : c.maxLocals = 7) (hown : s.vm.findClass cLW = some m.cls) (hZ : Z.Warmed39 s.vm) {kc ks : Nat} (x0 : Slot) (x1 : Slot) (x2 : Slot) (x3 : Slot) (x4 : Slot) (x5 : Slot) (x6 : Slot) (wx : Int32) (s1 : Addr) (s0 : Addr) (h0 : Heap) (n0 : Nat) (Z0 : n0 ≤ h0.size) (hc0 : wx = (0 : Int32)) :
    own_Seg p l e ({ frames := 2, cells := 2, slots := 4, locals := 60 } : Room) s m args below meth c n0 kc ks kc ks h0 (mkF m 51 #[x0, x1, x2, x3, x4, x5, x6] [(.int wx), (.ref s1), (.ref s0)]) (fun h g => g = (mkF m 59 #[x0, x1, x2, x3, x4, x5, x6] [(.int (0 : Int32)), (.ref s1), (.ref s0)]) ∧ h = h0) := by
  intro s₁ hT
  obtain ⟨Lz0, X0, e0, N0⟩ := hT
  refine ⟨_, _, _, ⟨rfl, rfl⟩, ⟨_, X0, e0, N0⟩, fun t hr => ?_⟩
  show Steps p.tables e below (s₁.setTop (mkF m 51 #[x0, x1, x2, x3, x4, x5, x6] [(.int wx), (.ref s1), (.ref s0)])) _
  refine XS.ifYes X0.here hx rfl (pc0 := 51) (pc' := 58) rfl (hb hby d3_51) rfl ((if0 _ _).trans (teq hc0).1) (by decide) (by decide) ?_
  refine XS.iconst X0.here hx rfl (hb hby d3_58) ?_
  exact hr
theorem d3_54 : decode method_3_code 54 = .ok (.iconst 1, 1) := by decide +kernel
theorem d3_55 : decode method_3_code 55 = .ok (.goto 4, 3) := by decide +kernel
set_option maxRecDepth 65536 in
set_option maxHeartbeats 40000000 in
theorem sgcf (l : Launch) (Z : State) (az : Array Value) (hw : ∀ d ∈ tables_1, d.before az Z = true) {p : Program} {e : Env} {s : State} {m : MethodId} {args : Array Value} {below : List Frame} {meth : Method} {c : Code} (hx : p.tables.exec = Jvm.exec) (hby : c.code = method_3_code) (hml : c.maxLocals = 7) (hown : s.vm.findClass cLW = some m.cls) (hZ : Z.Warmed39 s.vm) {kc ks : Nat} (x0 : Slot) (x1 : Slot) (x2 : Slot) (x3 : Slot) (x4 : Slot) (x5 : Slot) (x6 : Slot) (wx : Int32) (s1 : Addr) (s0 : Addr) (h0 : Heap) (n0 : Nat) (Z0 : n0 ≤ h0.size) (hc0 : ¬ (wx = (0 : Int32))) :
    own_Seg p l e ({ frames := 2, cells := 2, slots := 4, locals := 60 } : Room) s m args below meth c n0 kc ks kc ks h0 (mkF m 51 #[x0, x1, x2, x3, x4, x5, x6] [(.int wx), (.ref s1), (.ref s0)]) (fun h g => g = (mkF m 59 #[x0, x1, x2, x3, x4, x5, x6] [(.int (1 : Int32)), (.ref s1), (.ref s0)]) ∧ h = h0) := by
  intro s₁ hT
  obtain ⟨Lz0, X0, e0, N0⟩ := hT
  refine ⟨_, _, _, ⟨rfl, rfl⟩, ⟨_, X0, e0, N0⟩, fun t hr => ?_⟩
  show Steps p.tables e below (s₁.setTop (mkF m 51 #[x0, x1, x2, x3, x4, x5, x6] [(.int wx), (.ref s1), (.ref s0)])) _
  refine XS.ifNo X0.here hx rfl (hb hby d3_51) rfl ((if0 _ _).trans (feq hc0).1) ?_
  refine XS.iconst X0.here hx rfl (hb hby d3_54) ?_
  refine XS.goto X0.here hx rfl (pc0 := 55) (pc' := 59) rfl (hb hby d3_55) (by decide) (by decide) ?_
  exact hr
set_option maxRecDepth 65536 in
set_option maxHeartbeats 40000000 in
theorem sgc (l : Launch) (Z : State) (az : Array Value) (hw : ∀ d ∈ tables_1, d.before az Z = true) {p : Program} {e : Env} {s : State} {m : MethodId} {args : Array Value} {below : List Frame} {meth : Method} {c : Code} (hx : p.tables.exec = Jvm.exec) (hby : c.code = method_3_code) (hml : c.maxLocals = 7) (hown : s.vm.findClass cLW = some m.cls) (hZ : Z.Warmed39 s.vm) {kc ks : Nat} (x0 : Slot) (x1 : Slot) (x2 : Slot) (x3 : Slot) (x4 : Slot) (x5 : Slot) (x6 : Slot) (wx : Int32) (s1 : Addr) (s0 : Addr) (h0 : Heap) (n0 : Nat) (Z0 : n0 ≤ h0.size) :
    own_Seg p l e ({ frames := 2, cells := 2, slots := 4, locals := 60 } : Room) s m args below meth c n0 kc ks kc ks h0 (mkF m 51 #[x0, x1, x2, x3, x4, x5, x6] [(.int wx), (.ref s1), (.ref s0)]) (fun h g => g = (mkF m 59 #[x0, x1, x2, x3, x4, x5, x6] [(.int (own_cb wx)), (.ref s1), (.ref s0)]) ∧ h = h0) := by
  by_cases hJ : wx = (0 : Int32)
  · rw [show own_cb wx = (0 : Int32) from if_pos hJ]
    exact sgct l Z az hw hx hby hml hown hZ x0 x1 x2 x3 x4 x5 x6 wx s1 s0 h0 n0 Z0 hJ
  · rw [show own_cb wx = (1 : Int32) from if_neg hJ]
    exact sgcf l Z az hw hx hby hml hown hZ x0 x1 x2 x3 x4 x5 x6 wx s1 s0 h0 n0 Z0 hJ
theorem d3_6 : decode method_3_code 6 = .ok (.iload_n 3, 1) := by decide +kernel
theorem d3_7 : decode method_3_code 7 = .ok (.newarray .int, 2) := by decide +kernel
theorem d3_9 : decode method_3_code 9 = .ok (.astore 6, 2) := by decide +kernel
theorem d3_11 : decode method_3_code 11 = .ok (.aload 6, 2) := by decide +kernel
theorem d3_13 : decode method_3_code 13 = .ok (.iconst 0, 1) := by decide +kernel
theorem d3_14 : decode method_3_code 14 = .ok (.iload 4, 2) := by decide +kernel
theorem d3_16 : decode method_3_code 16 = .ok (.iconst 2, 1) := by decide +kernel
theorem d3_17 : decode method_3_code 17 = .ok (.iload_n 1, 1) := by decide +kernel
theorem d3_18 : decode method_3_code 18 = .ok (.imul, 1) := by decide +kernel
theorem d3_19 : decode method_3_code 19 = .ok (.iushr, 1) := by decide +kernel
theorem d3_20 : decode method_3_code 20 = .ok (.iconst 1, 1) := by decide +kernel
theorem d3_21 : decode method_3_code 21 = .ok (.iand, 1) := by decide +kernel
theorem d3_22 : decode method_3_code 22 = .ok (.iastore, 1) := by decide +kernel
theorem d3_23 : decode method_3_code 23 = .ok (.iload_n 3, 1) := by decide +kernel
theorem d3_24 : decode method_3_code 24 = .ok (.iconst 2, 1) := by decide +kernel
theorem d3_25 : decode method_3_code 25 = .ok (.if_icmp .ne 17, 3) := by decide +kernel
theorem d3_42 : decode method_3_code 42 = .ok (.aload_n 0, 1) := by decide +kernel
theorem d3_43 : decode method_3_code 43 = .ok (.aload 6, 2) := by decide +kernel
theorem d3_45 : decode method_3_code 45 = .ok (.iload 5, 2) := by decide +kernel
theorem d3_47 : decode method_3_code 47 = .ok (.iload_n 1, 1) := by decide +kernel
theorem d3_48 : decode method_3_code 48 = .ok (.iushr, 1) := by decide +kernel
theorem d3_49 : decode method_3_code 49 = .ok (.iconst 1, 1) := by decide +kernel
theorem d3_50 : decode method_3_code 50 = .ok (.iand, 1) := by decide +kernel
theorem d3_59 : decode method_3_code 59 = .ok (.invokevirtual 30, 3) := by decide +kernel
theorem pd_6 : parseMethodDescriptor "([IZ)I" = some ⟨[(.array .int), .boolean], some .int⟩ := by decide +kernel
theorem d3_62 : decode method_3_code 62 = .ok (.pop, 1) := by decide +kernel
theorem d3_63 : decode method_3_code 63 = .ok (.return_, 1) := by decide +kernel
theorem ef_rmLA1 (m : MethodId) (a0 : Addr) (p1 : Int32) (p2 : Int32) (p4 : Int32) (p5 : Int32) : entryFrame m #[(.ref a0), (.int p1), (.int p2), (.int (1 : Int32)), (.int p4), (.int p5)] 7 = mkF m 0 #[vR a0, vI p1, vI p2, vI (1 : Int32), vI p4, vI p5, .unset] [] := by first | (simp [entryFrame, mkF, argsToLocals, Value.category]; done) | rfl
def QLA1 (Z : State) (a0 : Addr) (p1 : Int32) (p2 : Int32) (p4 : Int32) (p5 : Int32) (rc : Int32) (rem : Int32) (aP : Addr) (kP : ClassId) (fP : Nat → Value) (aC : Addr) (kC : ClassId) (aK : Addr) (kK : ClassId) (nK : Int32) (aO : Addr) (kO : ClassId) (aN : Addr) (kN : ClassId) (nN : Int32) (h0 : Heap) (n0 : Nat) (v : Option Value) (h : Heap) (L : List Loc) : Prop := ∃ r0 : Addr, ∃ rk0 : ClassId, v = none ∧ Fr n0 L ∧ h0.size ≤ r0 ∧ Keep h0 h [a0, aP, aO, aN, aK, aC] ∧ Exa Z h a0 cCV ∧ Fld Z h a0 cCV "labelCount" "I" (.int (1 : Int32)) ∧ Fld Z h a0 cCV "rowCount" "I" (.int (rc + (1 : Int32))) ∧ Fld Z h a0 cCV "pairsShared" "Z" (.int (0 : Int32)) ∧ Fld Z h a0 cCV "remainingCount" "I" (.int (rem + (1 : Int32))) ∧ Fld Z h a0 cCV "openPairs" "[[I" (.ref aP) ∧ Fld Z h a0 cCV "covered" "[Z" (.ref aC) ∧ Fld Z h a0 cCV "coveredCounts" "[I" (.ref aK) ∧ Fld Z h a0 cCV "openCounts" "[I" (.ref aO) ∧ Fld Z h a0 cCV "ones" "[I" (.ref aN) ∧ Exa Z h aP "[[I" ∧ own_Arf Z h aP kP (.array .int) (8 : Int32) (own_upd fP (rc).toNatClampNeg (.ref r0)) ∧ Exa Z h aO "[I" ∧ own_Any Z h aO kO .int nK ∧ Exa Z h aN "[I" ∧ own_Any Z h aN kN .int nN ∧ Exa Z h aK "[I" ∧ own_Any Z h aK kK .int nK ∧ Exa Z h aC "[Z" ∧ own_Any Z h aC kC .boolean (8 : Int32) ∧ Exa Z h r0 "[I" ∧ Arv Z h r0 rk0 .int (1 : Int32) [(.int ((0 : Int32) + (((p4.toUInt32 >>> (((2 : Int32) * p1) &&& 31).toUInt32).toInt32) &&& (1 : Int32))))] (.int (0 : Int32))
set_option maxRecDepth 65536 in
set_option maxHeartbeats 40000000 in
theorem rmLA1 (l : Launch) (Z : State) (az : Array Value) (hw : ∀ d ∈ tables_1, d.before az Z = true) (ws : List Jvm.Cond) (a0 : Addr) (p1 : Int32) (p2 : Int32) (p4 : Int32) (p5 : Int32) (rc : Int32) (rem : Int32) (aP : Addr) (kP : ClassId) (fP : Nat → Value) (aC : Addr) (kC : ClassId) (aK : Addr) (kK : ClassId) (nK : Int32) (aO : Addr) (kO : ClassId) (aN : Addr) (kN : ClassId) (nN : Int32) (h0 : Heap) (n0 : Nat) (Z0 : n0 ≤ h0.size) (E_a0 : Exa Z h0 a0 cCV) (F_labelCount_a0 : Fld Z h0 a0 cCV "labelCount" "I" (.int (1 : Int32))) (F_rowCount_a0 : Fld Z h0 a0 cCV "rowCount" "I" (.int rc)) (F_pairsShared_a0 : Fld Z h0 a0 cCV "pairsShared" "Z" (.int (0 : Int32))) (F_remainingCount_a0 : Fld Z h0 a0 cCV "remainingCount" "I" (.int rem)) (F_openPairs_a0 : Fld Z h0 a0 cCV "openPairs" "[[I" (.ref aP)) (V_aP : own_Arf Z h0 aP kP (.array .int) (8 : Int32) fP) (E_aP : Exa Z h0 aP "[[I") (F_covered_a0 : Fld Z h0 a0 cCV "covered" "[Z" (.ref aC)) (V_aC : own_Any Z h0 aC kC .boolean (8 : Int32)) (E_aC : Exa Z h0 aC "[Z") (F_coveredCounts_a0 : Fld Z h0 a0 cCV "coveredCounts" "[I" (.ref aK)) (V_aK : own_Any Z h0 aK kK .int nK) (E_aK : Exa Z h0 aK "[I") (F_openCounts_a0 : Fld Z h0 a0 cCV "openCounts" "[I" (.ref aO)) (V_aO : own_Any Z h0 aO kO .int nK) (E_aO : Exa Z h0 aO "[I") (F_ones_a0 : Fld Z h0 a0 cCV "ones" "[I" (.ref aN)) (V_aN : own_Any Z h0 aN kN .int nN) (E_aN : Exa Z h0 aN "[I") (O_kP : OvrA Z kP .int "[I") (hc21 : p1 < p2) (hc22 : (((p4.toUInt32 >>> (((2 : Int32) * p1) &&& 31).toUInt32).toInt32) &&& (1 : Int32)) = (0 : Int32) ∨ (((p4.toUInt32 >>> (((2 : Int32) * p1) &&& 31).toUInt32).toInt32) &&& (1 : Int32)) = (1 : Int32)) (hc23 : ¬ (rc = (8 : Int32))) (g_a0 : n0 ≤ a0) (hc25 : ¬ (rc < (0 : Int32))) (hc26 : rc < (8 : Int32)) (g_aP : n0 ≤ aP) (hc28 : ¬ (((0 : Int32) + (((p4.toUInt32 >>> (((2 : Int32) * p1) &&& 31).toUInt32).toInt32) &&& (1 : Int32))) < (0 : Int32))) (hc29 : ((0 : Int32) + (((p4.toUInt32 >>> (((2 : Int32) * p1) &&& 31).toUInt32).toInt32) &&& (1 : Int32))) < nK) (g_aO : n0 ≤ aO) (hne_aN_aO : aN ≠ aO) (hc32 : ¬ ((((0 : Int32) + (((p4.toUInt32 >>> (((2 : Int32) * p1) &&& 31).toUInt32).toInt32) &&& (1 : Int32))) / (2 : Int32)) < (0 : Int32))) (hc33 : (((0 : Int32) + (((p4.toUInt32 >>> (((2 : Int32) * p1) &&& 31).toUInt32).toInt32) &&& (1 : Int32))) / (2 : Int32)) < nN) (g_aN : n0 ≤ aN) (hne_aK_aO : aK ≠ aO) (hne_aK_aN : aK ≠ aN) (g_aK : n0 ≤ aK) (hc38 : nar .boolean (own_cb (((p5.toUInt32 >>> (p1 &&& 31).toUInt32).toInt32) &&& (1 : Int32))) = (own_cb (((p5.toUInt32 >>> (p1 &&& 31).toUInt32).toInt32) &&& (1 : Int32)))) (g_aC : n0 ≤ aC) :
    MetFree l (⟨cLW, "addRow", "(Lcom/example/headlattice/headlattice/learn/Coverage;IIIII)V"⟩ : MethodName) (head1 (Jvm.Cond.code (⟨cLW, "addRow", "(Lcom/example/headlattice/headlattice/learn/Coverage;IIIII)V"⟩ : MethodName) method_3_code 7 none :: ws) ({ frames := 2, cells := 2, slots := 4, locals := 60 } : Room)) (fun a U => a = #[(.ref a0), (.int p1), (.int p2), (.int (1 : Int32)), (.int p4), (.int p5)] ∧ Z.Warmed39 U.vm ∧ U.heap = h0) (fun _ _ _ _ _ => True) (fun _ U o U' => ∃ v L, o = .returned v ∧ QLA1 Z a0 p1 p2 p4 p5 rc rem aP kP fP aC kC aK kK nK aO kO aN kN nN h0 n0 v U'.heap L ∧ FrameEnd U o U' L ({ frames := 2, cells := 2, slots := 4, locals := 60 } : Room).cells ({ frames := 2, cells := 2, slots := 4, locals := 60 } : Room).slots) := by
  refine MetFree.of_bodySF (plainFor_of_name pn_com_example_headlattice_headlattice_learn_CoverageRemainingRowSetPinLaw) hisR ?_
  intro p e s m args below meth c s₁ Bd hml0 hP hK
  obtain ⟨rfl, hZ, hh⟩ := hP
  have hx := Bd.exec
  have hby := Bd.bytes
  have hml : c.maxLocals = 7 := hml0
  have hown : s.vm.findClass cLW = some m.cls := findClass_of_methodNamed Bd.named
  have hnm := (name_of_methodNamed Bd.named Bd.method).1
  have X0 : Stand p l e ({ frames := 2, cells := 2, slots := 4, locals := 60 } : Room) s m #[(.ref a0), (.int p1), (.int p2), (.int (1 : Int32)), (.int p4), (.int p5)] below meth c s₁ [] 0 0 := Stand.of_body Bd
  have e0 : s₁.heap = h0 := by rw [← hh, Bd.state]; rfl
  have N0 := Fr.nil n0
  have pre0 : ∀ t, Steps p.tables e below (s₁.setTop (mkF m 0 #[vR a0, vI p1, vI p2, vI (1 : Int32), vI p4, vI p5, .unset] [])) t → Steps p.tables e below (s₁.setTop (entryFrame m #[(.ref a0), (.int p1), (.int p2), (.int (1 : Int32)), (.int p4), (.int p5)] 7)) t := fun t k => castTop (ef_rmLA1 m a0 p1 p2 p4 p5) k
  obtain ⟨T1, h1, k1, X1, e1, E1, A1, x1, st1⟩ := newPE X0 hx hZ (aty := .int) (w18 hw) e0 (g := (mkF m 7 #[vR a0, vI p1, vI p2, vI (1 : Int32), vI p4, vI p5, .unset] [(.int (1 : Int32))])) rfl (hb hby d3_7) rfl (by decide) (cap := 1) (by decide) (by decide) (by decide) (by decide) (ad := "[I") (by decide)
  obtain ⟨b1, g1⟩ : ∃ z, z = h0.size := ⟨_, rfl⟩
  rw [← g1] at A1 x1 st1
  have g_b1 : n0 ≤ b1 := Nat.le_trans Z0 (Nat.le_of_eq g1.symm)
  have sz_b1 : h0.size ≤ b1 := Nat.le_trans (Nat.le_refl _) (Nat.le_of_eq g1.symm)
  have Z1 : n0 ≤ h1.size := Nat.le_trans Z0 E1.1
  have K1 : Keep h0 h1 [a0, aP, aO, aN, aK, aC] := (Keep.refl h0 [a0, aP, aO, aN, aK, aC]).ext E1
  have E_b1 := x1
  have V_b1 : Arv Z h1 b1 k1 .int (1 : Int32) [(.int (0 : Int32))] (.int (0 : Int32)) := (Arv.new A1 (by decide)).pad (pad_rep [] (.int (0 : Int32)) 1)
  obtain ⟨cl2, Ar2, qk2, Sz2, Ng2, Hs2, Gf2⟩ := id V_b1
  have hin3 : ¬ ((0 : Int32) < 0 ∨ cl2.slots.size ≤ ((0 : Int32)).toNatClampNeg) := inb_of Sz2 ⟨by decide, by decide⟩
  obtain ⟨T4, h4, X4, e4, W4, st4⟩ := stI X1 hx hZ e1 Ar2 (j := (0 : Int32)) hin3 (g := (mkF m 22 #[vR a0, vI p1, vI p2, vI (1 : Int32), vI p4, vI p5, vR b1] [(.int (((p4.toUInt32 >>> (((2 : Int32) * p1) &&& 31).toUInt32).toInt32) &&& (1 : Int32))), (.int (0 : Int32)), (.ref b1)])) rfl rfl (hb hby d3_22)
  have K4 : Keep h0 h4 [a0, aP, aO, aN, aK, aC] := K1.wr W4 (Or.inr sz_b1)
  have V_b1_4 : Arv Z h4 b1 k1 .int (1 : Int32) [(.int (((p4.toUInt32 >>> (((2 : Int32) * p1) &&& 31).toUInt32).toInt32) &&& (1 : Int32)))] (.int (0 : Int32)) := Arv.set (v := (.int (((p4.toUInt32 >>> (((2 : Int32) * p1) &&& 31).toUInt32).toInt32) &&& (1 : Int32)))) Ar2 qk2 Sz2 Ng2 Hs2 Gf2 rfl W4 0 rfl (Nat.le_of_ble_eq_true rfl)
  have Z4 : n0 ≤ h4.size := Nat.le_trans Z1 (Keep.of_wr W4).1
  obtain ⟨Lg4, X4', N4⟩ := own_gen X4 (Fr.snoc X4 N0 g_b1)
  obtain ⟨T5, hs5, g5, ⟨rfl, es5⟩, ⟨Lg5, X5, e5, N5⟩, st5⟩ := sgc l Z az hw hx hby hml hown hZ (vR a0) (vI p1) (vI p2) (vI (1 : Int32)) (vI p4) (vI p5) (vR b1) (((p5.toUInt32 >>> (p1 &&& 31).toUInt32).toInt32) &&& (1 : Int32)) b1 a0 h4 n0 Z4 T4 ⟨_, X4', e4, N4⟩
  rw [es5] at e5
  have E_a0_u7 : Exa Z h4 a0 cCV := ((E_a0.ext E1).wr W4)
  have ne_a0_b1 : a0 ≠ b1 := own_ne (Nat.lt_of_lt_of_le E_a0.lt (Nat.le_of_eq g1.symm))
  have F_a0_labelCount_u8 : Fld Z h4 a0 cCV "labelCount" "I" (.int (1 : Int32)) := ((F_labelCount_a0.ext E1).other W4 (Or.inl ne_a0_b1))
  have F_a0_rowCount_u9 : Fld Z h4 a0 cCV "rowCount" "I" (.int rc) := ((F_rowCount_a0.ext E1).other W4 (Or.inl ne_a0_b1))
  have F_a0_pairsShared_u10 : Fld Z h4 a0 cCV "pairsShared" "Z" (.int (0 : Int32)) := ((F_pairsShared_a0.ext E1).other W4 (Or.inl ne_a0_b1))
  have F_a0_remainingCount_u11 : Fld Z h4 a0 cCV "remainingCount" "I" (.int rem) := ((F_remainingCount_a0.ext E1).other W4 (Or.inl ne_a0_b1))
  have F_a0_openPairs_u12 : Fld Z h4 a0 cCV "openPairs" "[[I" (.ref aP) := ((F_openPairs_a0.ext E1).other W4 (Or.inl ne_a0_b1))
  have ne_aP_b1 : aP ≠ b1 := own_ne (Nat.lt_of_lt_of_le E_aP.lt (Nat.le_of_eq g1.symm))
  have V_aP_u13 : own_Arf Z h4 aP kP (.array .int) (8 : Int32) fP := ((V_aP.ext E1).other W4 ne_aP_b1)
  have E_aP_u14 : Exa Z h4 aP "[[I" := ((E_aP.ext E1).wr W4)
  have F_a0_covered_u15 : Fld Z h4 a0 cCV "covered" "[Z" (.ref aC) := ((F_covered_a0.ext E1).other W4 (Or.inl ne_a0_b1))
  have ne_aC_b1 : aC ≠ b1 := own_ne (Nat.lt_of_lt_of_le E_aC.lt (Nat.le_of_eq g1.symm))
  have V_aC_u16 : own_Any Z h4 aC kC .boolean (8 : Int32) := ((V_aC.ext E1).other W4 ne_aC_b1)
  have E_aC_u17 : Exa Z h4 aC "[Z" := ((E_aC.ext E1).wr W4)
  have F_a0_coveredCounts_u18 : Fld Z h4 a0 cCV "coveredCounts" "[I" (.ref aK) := ((F_coveredCounts_a0.ext E1).other W4 (Or.inl ne_a0_b1))
  have ne_aK_b1 : aK ≠ b1 := own_ne (Nat.lt_of_lt_of_le E_aK.lt (Nat.le_of_eq g1.symm))
  have V_aK_u19 : own_Any Z h4 aK kK .int nK := ((V_aK.ext E1).other W4 ne_aK_b1)
  have E_aK_u20 : Exa Z h4 aK "[I" := ((E_aK.ext E1).wr W4)
  have F_a0_openCounts_u21 : Fld Z h4 a0 cCV "openCounts" "[I" (.ref aO) := ((F_openCounts_a0.ext E1).other W4 (Or.inl ne_a0_b1))
  have ne_aO_b1 : aO ≠ b1 := own_ne (Nat.lt_of_lt_of_le E_aO.lt (Nat.le_of_eq g1.symm))
  have V_aO_u22 : own_Any Z h4 aO kO .int nK := ((V_aO.ext E1).other W4 ne_aO_b1)
  have E_aO_u23 : Exa Z h4 aO "[I" := ((E_aO.ext E1).wr W4)
  have F_a0_ones_u24 : Fld Z h4 a0 cCV "ones" "[I" (.ref aN) := ((F_ones_a0.ext E1).other W4 (Or.inl ne_a0_b1))
  have ne_aN_b1 : aN ≠ b1 := own_ne (Nat.lt_of_lt_of_le E_aN.lt (Nat.le_of_eq g1.symm))
  have V_aN_u25 : own_Any Z h4 aN kN .int nN := ((V_aN.ext E1).other W4 ne_aN_b1)
  have E_aN_u26 : Exa Z h4 aN "[I" := ((E_aN.ext E1).wr W4)
  obtain ⟨cq6, kq6, q6a, q6b, q6c⟩ := isOf hZ e5 E_a0_u7
  obtain ⟨_, _, ⟨T6, L6, k6', n6'⟩, -, X6, ⟨Lc6, hQ6, l6, y6, z6⟩, st6⟩ := X5.virtualBack hx (y := (⟨cCV, "addRow", "([IZ)I"⟩ : MethodName)) (z := (⟨cCV, "addRow", "([IZ)I"⟩ : MethodName)) hown (mvT hZ (w43 hw)) (mvT hZ (w44 hw)) (notFace_of_selects (args := #[]) (mvT hZ (w46 hw))) (mvT hZ (w46 hw)) (mvT hZ (w45 hw)) (by decide) (backOf (W := 0) (rm71 l Z az hw [] a0 b1 (own_cb (((p5.toUInt32 >>> (p1 &&& 31).toUInt32).toInt32) &&& (1 : Int32))) rc rem aP kP fP aC kC aK kK nK aO kO aN kN nN k1 (((p4.toUInt32 >>> (((2 : Int32) * p1) &&& 31).toUInt32).toInt32) &&& (1 : Int32)) h4 n0 Z4 E_a0_u7 F_a0_labelCount_u8 F_a0_rowCount_u9 F_a0_pairsShared_u10 F_a0_remainingCount_u11 F_a0_openPairs_u12 V_aP_u13 E_aP_u14 F_a0_covered_u15 V_aC_u16 E_aC_u17 F_a0_coveredCounts_u18 V_aK_u19 E_aK_u20 F_a0_openCounts_u21 V_aO_u22 E_aO_u23 F_a0_ones_u24 V_aN_u25 E_aN_u26 O_kP V_b1_4 hc22 hc23 g_a0 hc25 hc26 g_aP hc28 hc29 g_aO hne_aN_aO hc32 hc33 g_aN hne_aK_aO hne_aK_aN g_aK hc38 g_aC) hZ (w47 hw) (w2 hw) (by decide) (by decide)) q6a q6c (g := (mkF m 59 #[vR a0, vI p1, vI p2, vI (1 : Int32), vI p4, vI p5, vR b1] [(.int (own_cb (((p5.toUInt32 >>> (p1 &&& 31).toUInt32).toInt32) &&& (1 : Int32)))), (.ref b1), (.ref a0)])) rfl (by rw [hml]; rfl) (Steps.refl _) (argsL := [(.ref b1), (.int (own_cb (((p5.toUInt32 >>> (p1 &&& 31).toUInt32).toInt32) &&& (1 : Int32))))]) (rest := []) (lenOf pd_6 rfl) rfl (by show 2 * 0 + _ ≤ _; exact Nat.le_of_eq rfl) (hb hby d3_59) (fun _ _ => ⟨rfl, e5, (by decide : 1 + 1 ≤ _), (by decide : 1 + 2 ≤ _)⟩)
  dsimp only [Pt.U, Pt.locs, Pt.cells, Pt.slots] at X6 l6 y6 z6 st6 hQ6
  subst l6 y6 z6
  obtain ⟨b6_0, kk6_0, rfl, N6q, s6_0, kq6, pf6_0, pf6_1, pf6_2, pf6_3, pf6_4, pf6_5, pf6_6, pf6_7, pf6_8, pf6_9, pf6_10, pf6_11, pf6_12, pf6_13, pf6_14, pf6_15, pf6_16, pf6_17, pf6_18, pf6_19, pf6_20, pf6_21⟩ := hQ6
  obtain ⟨Lg6, X6', N6⟩ := own_gen X6 (Fr.app N5 N6q)
  have g_b6_0 : n0 ≤ b6_0 := Nat.le_trans Z4 s6_0
  have sz_b6_0 : h0.size ≤ b6_0 := Nat.le_trans K4.1 s6_0
  have K6 : Keep h0 T6.heap [a0, aP, aO, aN, aK, aC] := K4.trans kq6 (allS (Or.inl (List.mem_of_getElem? (i := 0) rfl)) (allS (Or.inl (List.mem_of_getElem? (i := 1) rfl)) (allS (Or.inl (List.mem_of_getElem? (i := 2) rfl)) (allS (Or.inl (List.mem_of_getElem? (i := 3) rfl)) (allS (Or.inl (List.mem_of_getElem? (i := 4) rfl)) (allS (Or.inl (List.mem_of_getElem? (i := 5) rfl)) all0))))))
  have Z6 : n0 ≤ T6.heap.size := Nat.le_trans Z4 kq6.1
  obtain ⟨fs, hr, hrun, hended, hW, hsame⟩ := X6'.leave (v := none) (fun _ => rfl)
  refine ⟨_, _, pre0 _ ?_, hrun, hended, _, _, rfl, ?_, ⟨_, rfl⟩, hW, hsame.mono (by decide) (by decide)⟩
  · show Steps p.tables e below (s₁.setTop (mkF m 0 #[vR a0, vI p1, vI p2, vI (1 : Int32), vI p4, vI p5, .unset] [])) _
    refine XS.iloadN X0.here hx rfl (hb hby d3_0) rfl ?_
    refine XS.iloadN X0.here hx rfl (hb hby d3_1) rfl ?_
    refine XS.icmpYes X0.here hx rfl (pc0 := 2) (pc' := 6) rfl (hb hby d3_2) rfl (tlt hc21).1 (by decide) (by decide) ?_
    refine XS.iloadN X0.here hx rfl (hb hby d3_6) rfl ?_
    show Steps p.tables e below (s₁.setTop (mkF m 7 #[vR a0, vI p1, vI p2, vI (1 : Int32), vI p4, vI p5, .unset] [(.int (1 : Int32))])) _
    refine st1 _ ?_
    show Steps p.tables e below (T1.setTop (mkF m 9 #[vR a0, vI p1, vI p2, vI (1 : Int32), vI p4, vI p5, .unset] [(.ref b1)])) _
    refine XS.astore X1.here hx rfl (hb hby d3_9) rfl rfl (l' := #[vR a0, vI p1, vI p2, vI (1 : Int32), vI p4, vI p5, vR b1]) rfl ?_
    refine XS.aload X1.here hx rfl (hb hby d3_11) rfl rfl ?_
    refine XS.iconst X1.here hx rfl (hb hby d3_13) ?_
    refine XS.iload X1.here hx rfl (hb hby d3_14) rfl ?_
    refine XS.iconst X1.here hx rfl (hb hby d3_16) ?_
    refine XS.iloadN X1.here hx rfl (hb hby d3_17) rfl ?_
    refine XS.imul X1.here hx rfl (hb hby d3_18) rfl ?_
    refine XS.iushr X1.here hx rfl (hb hby d3_19) rfl ?_
    refine XS.iconst X1.here hx rfl (hb hby d3_20) ?_
    refine XS.iand X1.here hx rfl (hb hby d3_21) rfl ?_
    show Steps p.tables e below (T1.setTop (mkF m 22 #[vR a0, vI p1, vI p2, vI (1 : Int32), vI p4, vI p5, vR b1] [(.int (((p4.toUInt32 >>> (((2 : Int32) * p1) &&& 31).toUInt32).toInt32) &&& (1 : Int32))), (.int (0 : Int32)), (.ref b1)])) _
    refine st4 _ ?_
    show Steps p.tables e below (T4.setTop (mkF m 23 #[vR a0, vI p1, vI p2, vI (1 : Int32), vI p4, vI p5, vR b1] [])) _
    refine XS.iloadN X4'.here hx rfl (hb hby d3_23) rfl ?_
    refine XS.iconst X4'.here hx rfl (hb hby d3_24) ?_
    refine XS.icmpYes X4'.here hx rfl (pc0 := 25) (pc' := 42) rfl (hb hby d3_25) rfl (feq (by decide : ¬ ((1 : Int32) = (2 : Int32)))).2 (by decide) (by decide) ?_
    refine XS.aloadN X4'.here hx rfl (hb hby d3_42) rfl rfl ?_
    refine XS.aload X4'.here hx rfl (hb hby d3_43) rfl rfl ?_
    refine XS.iload X4'.here hx rfl (hb hby d3_45) rfl ?_
    refine XS.iloadN X4'.here hx rfl (hb hby d3_47) rfl ?_
    refine XS.iushr X4'.here hx rfl (hb hby d3_48) rfl ?_
    refine XS.iconst X4'.here hx rfl (hb hby d3_49) ?_
    refine XS.iand X4'.here hx rfl (hb hby d3_50) rfl ?_
    show Steps p.tables e below (T4.setTop (mkF m 51 #[vR a0, vI p1, vI p2, vI (1 : Int32), vI p4, vI p5, vR b1] [(.int (((p5.toUInt32 >>> (p1 &&& 31).toUInt32).toInt32) &&& (1 : Int32))), (.ref b1), (.ref a0)])) _
    refine st5 _ ?_
    show Steps p.tables e below (T5.setTop (mkF m 59 #[vR a0, vI p1, vI p2, vI (1 : Int32), vI p4, vI p5, vR b1] [(.int (own_cb (((p5.toUInt32 >>> (p1 &&& 31).toUInt32).toInt32) &&& (1 : Int32)))), (.ref b1), (.ref a0)])) _
    refine st6.trans ?_
    show Steps p.tables e below (T6.setTop (mkF m 62 #[vR a0, vI p1, vI p2, vI (1 : Int32), vI p4, vI p5, vR b1] [(.int rc)])) _
    refine XS.pop X6'.here hx rfl (hb hby d3_62) rfl rfl ?_
    show Steps p.tables e below (T6.setTop (mkF m 63 #[vR a0, vI p1, vI p2, vI (1 : Int32), vI p4, vI p5, vR b1] [])) _
    exact X6'.returnOut hx Bd.returns (hb hby d3_63) hr
  · show QLA1 Z a0 p1 p2 p4 p5 rc rem aP kP fP aC kC aK kK nK aO kO aN kN nN h0 n0 _ T6.heap _
    exact ⟨b6_0, kk6_0, rfl, N6, sz_b6_0, K6, pf6_0, pf6_1, pf6_2, pf6_3, pf6_4, pf6_5, pf6_6, pf6_7, pf6_8, pf6_9, pf6_11, pf6_10, pf6_13, pf6_12, pf6_15, pf6_14, pf6_16, pf6_17, pf6_19, pf6_18, pf6_20, pf6_21⟩
theorem d3_28 : decode method_3_code 28 = .ok (.aload 6, 2) := by decide +kernel
theorem d3_30 : decode method_3_code 30 = .ok (.iconst 1, 1) := by decide +kernel
theorem d3_31 : decode method_3_code 31 = .ok (.iload 4, 2) := by decide +kernel
theorem d3_33 : decode method_3_code 33 = .ok (.iconst 2, 1) := by decide +kernel
theorem d3_34 : decode method_3_code 34 = .ok (.iload_n 1, 1) := by decide +kernel
theorem d3_35 : decode method_3_code 35 = .ok (.imul, 1) := by decide +kernel
theorem d3_36 : decode method_3_code 36 = .ok (.iconst 1, 1) := by decide +kernel
theorem d3_37 : decode method_3_code 37 = .ok (.iadd, 1) := by decide +kernel
theorem d3_38 : decode method_3_code 38 = .ok (.iushr, 1) := by decide +kernel
theorem d3_39 : decode method_3_code 39 = .ok (.iconst 1, 1) := by decide +kernel
theorem d3_40 : decode method_3_code 40 = .ok (.iand, 1) := by decide +kernel
theorem d3_41 : decode method_3_code 41 = .ok (.iastore, 1) := by decide +kernel
theorem ef_rmLA2 (m : MethodId) (a0 : Addr) (p1 : Int32) (p2 : Int32) (p4 : Int32) (p5 : Int32) : entryFrame m #[(.ref a0), (.int p1), (.int p2), (.int (2 : Int32)), (.int p4), (.int p5)] 7 = mkF m 0 #[vR a0, vI p1, vI p2, vI (2 : Int32), vI p4, vI p5, .unset] [] := by first | (simp [entryFrame, mkF, argsToLocals, Value.category]; done) | rfl
def QLA2 (Z : State) (a0 : Addr) (p1 : Int32) (p2 : Int32) (p4 : Int32) (p5 : Int32) (rc : Int32) (rem : Int32) (aP : Addr) (kP : ClassId) (fP : Nat → Value) (aC : Addr) (kC : ClassId) (aK : Addr) (kK : ClassId) (nK : Int32) (aO : Addr) (kO : ClassId) (aN : Addr) (kN : ClassId) (nN : Int32) (h0 : Heap) (n0 : Nat) (v : Option Value) (h : Heap) (L : List Loc) : Prop := ∃ r0 : Addr, ∃ rk0 : ClassId, v = none ∧ Fr n0 L ∧ h0.size ≤ r0 ∧ Keep h0 h [a0, aP, aO, aN, aK, aC] ∧ Exa Z h a0 cCV ∧ Fld Z h a0 cCV "labelCount" "I" (.int (2 : Int32)) ∧ Fld Z h a0 cCV "rowCount" "I" (.int (rc + (1 : Int32))) ∧ Fld Z h a0 cCV "pairsShared" "Z" (.int (0 : Int32)) ∧ Fld Z h a0 cCV "remainingCount" "I" (.int (rem + (1 : Int32))) ∧ Fld Z h a0 cCV "openPairs" "[[I" (.ref aP) ∧ Fld Z h a0 cCV "covered" "[Z" (.ref aC) ∧ Fld Z h a0 cCV "coveredCounts" "[I" (.ref aK) ∧ Fld Z h a0 cCV "openCounts" "[I" (.ref aO) ∧ Fld Z h a0 cCV "ones" "[I" (.ref aN) ∧ Exa Z h aP "[[I" ∧ own_Arf Z h aP kP (.array .int) (8 : Int32) (own_upd fP (rc).toNatClampNeg (.ref r0)) ∧ Exa Z h aO "[I" ∧ own_Any Z h aO kO .int nK ∧ Exa Z h aN "[I" ∧ own_Any Z h aN kN .int nN ∧ Exa Z h aK "[I" ∧ own_Any Z h aK kK .int nK ∧ Exa Z h aC "[Z" ∧ own_Any Z h aC kC .boolean (8 : Int32) ∧ Exa Z h r0 "[I" ∧ Arv Z h r0 rk0 .int (2 : Int32) [(.int ((0 : Int32) + (((p4.toUInt32 >>> (((2 : Int32) * p1) &&& 31).toUInt32).toInt32) &&& (1 : Int32)))), (.int ((2 : Int32) + (((p4.toUInt32 >>> ((((2 : Int32) * p1) + (1 : Int32)) &&& 31).toUInt32).toInt32) &&& (1 : Int32))))] (.int (0 : Int32))
set_option maxRecDepth 65536 in
set_option maxHeartbeats 40000000 in
theorem rmLA2 (l : Launch) (Z : State) (az : Array Value) (hw : ∀ d ∈ tables_1, d.before az Z = true) (ws : List Jvm.Cond) (a0 : Addr) (p1 : Int32) (p2 : Int32) (p4 : Int32) (p5 : Int32) (rc : Int32) (rem : Int32) (aP : Addr) (kP : ClassId) (fP : Nat → Value) (aC : Addr) (kC : ClassId) (aK : Addr) (kK : ClassId) (nK : Int32) (aO : Addr) (kO : ClassId) (aN : Addr) (kN : ClassId) (nN : Int32) (h0 : Heap) (n0 : Nat) (Z0 : n0 ≤ h0.size) (E_a0 : Exa Z h0 a0 cCV) (F_labelCount_a0 : Fld Z h0 a0 cCV "labelCount" "I" (.int (2 : Int32))) (F_rowCount_a0 : Fld Z h0 a0 cCV "rowCount" "I" (.int rc)) (F_pairsShared_a0 : Fld Z h0 a0 cCV "pairsShared" "Z" (.int (0 : Int32))) (F_remainingCount_a0 : Fld Z h0 a0 cCV "remainingCount" "I" (.int rem)) (F_openPairs_a0 : Fld Z h0 a0 cCV "openPairs" "[[I" (.ref aP)) (V_aP : own_Arf Z h0 aP kP (.array .int) (8 : Int32) fP) (E_aP : Exa Z h0 aP "[[I") (F_covered_a0 : Fld Z h0 a0 cCV "covered" "[Z" (.ref aC)) (V_aC : own_Any Z h0 aC kC .boolean (8 : Int32)) (E_aC : Exa Z h0 aC "[Z") (F_coveredCounts_a0 : Fld Z h0 a0 cCV "coveredCounts" "[I" (.ref aK)) (V_aK : own_Any Z h0 aK kK .int nK) (E_aK : Exa Z h0 aK "[I") (F_openCounts_a0 : Fld Z h0 a0 cCV "openCounts" "[I" (.ref aO)) (V_aO : own_Any Z h0 aO kO .int nK) (E_aO : Exa Z h0 aO "[I") (F_ones_a0 : Fld Z h0 a0 cCV "ones" "[I" (.ref aN)) (V_aN : own_Any Z h0 aN kN .int nN) (E_aN : Exa Z h0 aN "[I") (O_kP : OvrA Z kP .int "[I") (hc21 : p1 < p2) (hc22 : (((p4.toUInt32 >>> (((2 : Int32) * p1) &&& 31).toUInt32).toInt32) &&& (1 : Int32)) = (0 : Int32) ∨ (((p4.toUInt32 >>> (((2 : Int32) * p1) &&& 31).toUInt32).toInt32) &&& (1 : Int32)) = (1 : Int32)) (hc23 : (((p4.toUInt32 >>> ((((2 : Int32) * p1) + (1 : Int32)) &&& 31).toUInt32).toInt32) &&& (1 : Int32)) = (0 : Int32) ∨ (((p4.toUInt32 >>> ((((2 : Int32) * p1) + (1 : Int32)) &&& 31).toUInt32).toInt32) &&& (1 : Int32)) = (1 : Int32)) (hc24 : ¬ (rc = (8 : Int32))) (g_a0 : n0 ≤ a0) (hc26 : ¬ (rc < (0 : Int32))) (hc27 : rc < (8 : Int32)) (g_aP : n0 ≤ aP) (hc29 : ¬ (((0 : Int32) + (((p4.toUInt32 >>> (((2 : Int32) * p1) &&& 31).toUInt32).toInt32) &&& (1 : Int32))) < (0 : Int32))) (hc30 : ((0 : Int32) + (((p4.toUInt32 >>> (((2 : Int32) * p1) &&& 31).toUInt32).toInt32) &&& (1 : Int32))) < nK) (g_aO : n0 ≤ aO) (hne_aN_aO : aN ≠ aO) (hc33 : ¬ ((((0 : Int32) + (((p4.toUInt32 >>> (((2 : Int32) * p1) &&& 31).toUInt32).toInt32) &&& (1 : Int32))) / (2 : Int32)) < (0 : Int32))) (hc34 : (((0 : Int32) + (((p4.toUInt32 >>> (((2 : Int32) * p1) &&& 31).toUInt32).toInt32) &&& (1 : Int32))) / (2 : Int32)) < nN) (g_aN : n0 ≤ aN) (hne_aK_aO : aK ≠ aO) (hne_aK_aN : aK ≠ aN) (g_aK : n0 ≤ aK) (hc39 : ¬ (((2 : Int32) + (((p4.toUInt32 >>> ((((2 : Int32) * p1) + (1 : Int32)) &&& 31).toUInt32).toInt32) &&& (1 : Int32))) < (0 : Int32))) (hc40 : ((2 : Int32) + (((p4.toUInt32 >>> ((((2 : Int32) * p1) + (1 : Int32)) &&& 31).toUInt32).toInt32) &&& (1 : Int32))) < nK) (hc41 : ¬ ((((2 : Int32) + (((p4.toUInt32 >>> ((((2 : Int32) * p1) + (1 : Int32)) &&& 31).toUInt32).toInt32) &&& (1 : Int32))) / (2 : Int32)) < (0 : Int32))) (hc42 : (((2 : Int32) + (((p4.toUInt32 >>> ((((2 : Int32) * p1) + (1 : Int32)) &&& 31).toUInt32).toInt32) &&& (1 : Int32))) / (2 : Int32)) < nN) (hc43 : nar .boolean (own_cb (((p5.toUInt32 >>> (p1 &&& 31).toUInt32).toInt32) &&& (1 : Int32))) = (own_cb (((p5.toUInt32 >>> (p1 &&& 31).toUInt32).toInt32) &&& (1 : Int32)))) (g_aC : n0 ≤ aC) :
    MetFree l (⟨cLW, "addRow", "(Lcom/example/headlattice/headlattice/learn/Coverage;IIIII)V"⟩ : MethodName) (head1 (Jvm.Cond.code (⟨cLW, "addRow", "(Lcom/example/headlattice/headlattice/learn/Coverage;IIIII)V"⟩ : MethodName) method_3_code 7 none :: ws) ({ frames := 2, cells := 2, slots := 4, locals := 60 } : Room)) (fun a U => a = #[(.ref a0), (.int p1), (.int p2), (.int (2 : Int32)), (.int p4), (.int p5)] ∧ Z.Warmed39 U.vm ∧ U.heap = h0) (fun _ _ _ _ _ => True) (fun _ U o U' => ∃ v L, o = .returned v ∧ QLA2 Z a0 p1 p2 p4 p5 rc rem aP kP fP aC kC aK kK nK aO kO aN kN nN h0 n0 v U'.heap L ∧ FrameEnd U o U' L ({ frames := 2, cells := 2, slots := 4, locals := 60 } : Room).cells ({ frames := 2, cells := 2, slots := 4, locals := 60 } : Room).slots) := by
  refine MetFree.of_bodySF (plainFor_of_name pn_com_example_headlattice_headlattice_learn_CoverageRemainingRowSetPinLaw) hisR ?_
  intro p e s m args below meth c s₁ Bd hml0 hP hK
  obtain ⟨rfl, hZ, hh⟩ := hP
  have hx := Bd.exec
  have hby := Bd.bytes
  have hml : c.maxLocals = 7 := hml0
  have hown : s.vm.findClass cLW = some m.cls := findClass_of_methodNamed Bd.named
  have hnm := (name_of_methodNamed Bd.named Bd.method).1
  have X0 : Stand p l e ({ frames := 2, cells := 2, slots := 4, locals := 60 } : Room) s m #[(.ref a0), (.int p1), (.int p2), (.int (2 : Int32)), (.int p4), (.int p5)] below meth c s₁ [] 0 0 := Stand.of_body Bd
  have e0 : s₁.heap = h0 := by rw [← hh, Bd.state]; rfl
  have N0 := Fr.nil n0
  have pre0 : ∀ t, Steps p.tables e below (s₁.setTop (mkF m 0 #[vR a0, vI p1, vI p2, vI (2 : Int32), vI p4, vI p5, .unset] [])) t → Steps p.tables e below (s₁.setTop (entryFrame m #[(.ref a0), (.int p1), (.int p2), (.int (2 : Int32)), (.int p4), (.int p5)] 7)) t := fun t k => castTop (ef_rmLA2 m a0 p1 p2 p4 p5) k
  obtain ⟨T1, h1, k1, X1, e1, E1, A1, x1, st1⟩ := newPE X0 hx hZ (aty := .int) (w18 hw) e0 (g := (mkF m 7 #[vR a0, vI p1, vI p2, vI (2 : Int32), vI p4, vI p5, .unset] [(.int (2 : Int32))])) rfl (hb hby d3_7) rfl (by decide) (cap := 2) (by decide) (by decide) (by decide) (by decide) (ad := "[I") (by decide)
  obtain ⟨b1, g1⟩ : ∃ z, z = h0.size := ⟨_, rfl⟩
  rw [← g1] at A1 x1 st1
  have g_b1 : n0 ≤ b1 := Nat.le_trans Z0 (Nat.le_of_eq g1.symm)
  have sz_b1 : h0.size ≤ b1 := Nat.le_trans (Nat.le_refl _) (Nat.le_of_eq g1.symm)
  have Z1 : n0 ≤ h1.size := Nat.le_trans Z0 E1.1
  have K1 : Keep h0 h1 [a0, aP, aO, aN, aK, aC] := (Keep.refl h0 [a0, aP, aO, aN, aK, aC]).ext E1
  have E_b1 := x1
  have V_b1 : Arv Z h1 b1 k1 .int (2 : Int32) [(.int (0 : Int32)), (.int (0 : Int32))] (.int (0 : Int32)) := (Arv.new A1 (by decide)).pad (pad_rep [] (.int (0 : Int32)) 2)
  obtain ⟨cl2, Ar2, qk2, Sz2, Ng2, Hs2, Gf2⟩ := id V_b1
  have hin3 : ¬ ((0 : Int32) < 0 ∨ cl2.slots.size ≤ ((0 : Int32)).toNatClampNeg) := inb_of Sz2 ⟨by decide, by decide⟩
  obtain ⟨T4, h4, X4, e4, W4, st4⟩ := stI X1 hx hZ e1 Ar2 (j := (0 : Int32)) hin3 (g := (mkF m 22 #[vR a0, vI p1, vI p2, vI (2 : Int32), vI p4, vI p5, vR b1] [(.int (((p4.toUInt32 >>> (((2 : Int32) * p1) &&& 31).toUInt32).toInt32) &&& (1 : Int32))), (.int (0 : Int32)), (.ref b1)])) rfl rfl (hb hby d3_22)
  have K4 : Keep h0 h4 [a0, aP, aO, aN, aK, aC] := K1.wr W4 (Or.inr sz_b1)
  have V_b1_4 : Arv Z h4 b1 k1 .int (2 : Int32) [(.int (((p4.toUInt32 >>> (((2 : Int32) * p1) &&& 31).toUInt32).toInt32) &&& (1 : Int32))), (.int (0 : Int32))] (.int (0 : Int32)) := Arv.set (v := (.int (((p4.toUInt32 >>> (((2 : Int32) * p1) &&& 31).toUInt32).toInt32) &&& (1 : Int32)))) Ar2 qk2 Sz2 Ng2 Hs2 Gf2 rfl W4 0 rfl (Nat.le_of_ble_eq_true rfl)
  have Z4 : n0 ≤ h4.size := Nat.le_trans Z1 (Keep.of_wr W4).1
  obtain ⟨Lg4, X4', N4⟩ := own_gen X4 (Fr.snoc X4 N0 g_b1)
  obtain ⟨cl5, Ar5, qk5, Sz5, Ng5, Hs5, Gf5⟩ := id V_b1_4
  have hin6 : ¬ ((1 : Int32) < 0 ∨ cl5.slots.size ≤ ((1 : Int32)).toNatClampNeg) := inb_of Sz5 ⟨by decide, by decide⟩
  obtain ⟨T7, h7, X7, e7, W7, st7⟩ := stI X4' hx hZ e4 Ar5 (j := (1 : Int32)) hin6 (g := (mkF m 41 #[vR a0, vI p1, vI p2, vI (2 : Int32), vI p4, vI p5, vR b1] [(.int (((p4.toUInt32 >>> ((((2 : Int32) * p1) + (1 : Int32)) &&& 31).toUInt32).toInt32) &&& (1 : Int32))), (.int (1 : Int32)), (.ref b1)])) rfl rfl (hb hby d3_41)
  have K7 : Keep h0 h7 [a0, aP, aO, aN, aK, aC] := K4.wr W7 (Or.inr sz_b1)
  have V_b1_7 : Arv Z h7 b1 k1 .int (2 : Int32) [(.int (((p4.toUInt32 >>> (((2 : Int32) * p1) &&& 31).toUInt32).toInt32) &&& (1 : Int32))), (.int (((p4.toUInt32 >>> ((((2 : Int32) * p1) + (1 : Int32)) &&& 31).toUInt32).toInt32) &&& (1 : Int32)))] (.int (0 : Int32)) := Arv.set (v := (.int (((p4.toUInt32 >>> ((((2 : Int32) * p1) + (1 : Int32)) &&& 31).toUInt32).toInt32) &&& (1 : Int32)))) Ar5 qk5 Sz5 Ng5 Hs5 Gf5 rfl W7 1 rfl (Nat.le_of_ble_eq_true rfl)
  have Z7 : n0 ≤ h7.size := Nat.le_trans Z4 (Keep.of_wr W7).1
  obtain ⟨Lg7, X7', N7⟩ := own_gen X7 (Fr.snoc X7 N4 g_b1)
  obtain ⟨T8, hs8, g8, ⟨rfl, es8⟩, ⟨Lg8, X8, e8, N8⟩, st8⟩ := sgc l Z az hw hx hby hml hown hZ (vR a0) (vI p1) (vI p2) (vI (2 : Int32)) (vI p4) (vI p5) (vR b1) (((p5.toUInt32 >>> (p1 &&& 31).toUInt32).toInt32) &&& (1 : Int32)) b1 a0 h7 n0 Z7 T7 ⟨_, X7', e7, N7⟩
  rw [es8] at e8
  have E_a0_u10 : Exa Z h7 a0 cCV := (((E_a0.ext E1).wr W4).wr W7)
  have ne_a0_b1 : a0 ≠ b1 := own_ne (Nat.lt_of_lt_of_le E_a0.lt (Nat.le_of_eq g1.symm))
  have F_a0_labelCount_u11 : Fld Z h7 a0 cCV "labelCount" "I" (.int (2 : Int32)) := (((F_labelCount_a0.ext E1).other W4 (Or.inl ne_a0_b1)).other W7 (Or.inl ne_a0_b1))
  have F_a0_rowCount_u12 : Fld Z h7 a0 cCV "rowCount" "I" (.int rc) := (((F_rowCount_a0.ext E1).other W4 (Or.inl ne_a0_b1)).other W7 (Or.inl ne_a0_b1))
  have F_a0_pairsShared_u13 : Fld Z h7 a0 cCV "pairsShared" "Z" (.int (0 : Int32)) := (((F_pairsShared_a0.ext E1).other W4 (Or.inl ne_a0_b1)).other W7 (Or.inl ne_a0_b1))
  have F_a0_remainingCount_u14 : Fld Z h7 a0 cCV "remainingCount" "I" (.int rem) := (((F_remainingCount_a0.ext E1).other W4 (Or.inl ne_a0_b1)).other W7 (Or.inl ne_a0_b1))
  have F_a0_openPairs_u15 : Fld Z h7 a0 cCV "openPairs" "[[I" (.ref aP) := (((F_openPairs_a0.ext E1).other W4 (Or.inl ne_a0_b1)).other W7 (Or.inl ne_a0_b1))
  have ne_aP_b1 : aP ≠ b1 := own_ne (Nat.lt_of_lt_of_le E_aP.lt (Nat.le_of_eq g1.symm))
  have V_aP_u16 : own_Arf Z h7 aP kP (.array .int) (8 : Int32) fP := (((V_aP.ext E1).other W4 ne_aP_b1).other W7 ne_aP_b1)
  have E_aP_u17 : Exa Z h7 aP "[[I" := (((E_aP.ext E1).wr W4).wr W7)
  have F_a0_covered_u18 : Fld Z h7 a0 cCV "covered" "[Z" (.ref aC) := (((F_covered_a0.ext E1).other W4 (Or.inl ne_a0_b1)).other W7 (Or.inl ne_a0_b1))
  have ne_aC_b1 : aC ≠ b1 := own_ne (Nat.lt_of_lt_of_le E_aC.lt (Nat.le_of_eq g1.symm))
  have V_aC_u19 : own_Any Z h7 aC kC .boolean (8 : Int32) := (((V_aC.ext E1).other W4 ne_aC_b1).other W7 ne_aC_b1)
  have E_aC_u20 : Exa Z h7 aC "[Z" := (((E_aC.ext E1).wr W4).wr W7)
  have F_a0_coveredCounts_u21 : Fld Z h7 a0 cCV "coveredCounts" "[I" (.ref aK) := (((F_coveredCounts_a0.ext E1).other W4 (Or.inl ne_a0_b1)).other W7 (Or.inl ne_a0_b1))
  have ne_aK_b1 : aK ≠ b1 := own_ne (Nat.lt_of_lt_of_le E_aK.lt (Nat.le_of_eq g1.symm))
  have V_aK_u22 : own_Any Z h7 aK kK .int nK := (((V_aK.ext E1).other W4 ne_aK_b1).other W7 ne_aK_b1)
  have E_aK_u23 : Exa Z h7 aK "[I" := (((E_aK.ext E1).wr W4).wr W7)
  have F_a0_openCounts_u24 : Fld Z h7 a0 cCV "openCounts" "[I" (.ref aO) := (((F_openCounts_a0.ext E1).other W4 (Or.inl ne_a0_b1)).other W7 (Or.inl ne_a0_b1))
  have ne_aO_b1 : aO ≠ b1 := own_ne (Nat.lt_of_lt_of_le E_aO.lt (Nat.le_of_eq g1.symm))
  have V_aO_u25 : own_Any Z h7 aO kO .int nK := (((V_aO.ext E1).other W4 ne_aO_b1).other W7 ne_aO_b1)
  have E_aO_u26 : Exa Z h7 aO "[I" := (((E_aO.ext E1).wr W4).wr W7)
  have F_a0_ones_u27 : Fld Z h7 a0 cCV "ones" "[I" (.ref aN) := (((F_ones_a0.ext E1).other W4 (Or.inl ne_a0_b1)).other W7 (Or.inl ne_a0_b1))
  have ne_aN_b1 : aN ≠ b1 := own_ne (Nat.lt_of_lt_of_le E_aN.lt (Nat.le_of_eq g1.symm))
  have V_aN_u28 : own_Any Z h7 aN kN .int nN := (((V_aN.ext E1).other W4 ne_aN_b1).other W7 ne_aN_b1)
  have E_aN_u29 : Exa Z h7 aN "[I" := (((E_aN.ext E1).wr W4).wr W7)
  obtain ⟨cq9, kq9, q9a, q9b, q9c⟩ := isOf hZ e8 E_a0_u10
  obtain ⟨_, _, ⟨T9, L9, k9', n9'⟩, -, X9, ⟨Lc9, hQ9, l9, y9, z9⟩, st9⟩ := X8.virtualBack hx (y := (⟨cCV, "addRow", "([IZ)I"⟩ : MethodName)) (z := (⟨cCV, "addRow", "([IZ)I"⟩ : MethodName)) hown (mvT hZ (w43 hw)) (mvT hZ (w44 hw)) (notFace_of_selects (args := #[]) (mvT hZ (w46 hw))) (mvT hZ (w46 hw)) (mvT hZ (w45 hw)) (by decide) (backOf (W := 0) (rm72 l Z az hw [] a0 b1 (own_cb (((p5.toUInt32 >>> (p1 &&& 31).toUInt32).toInt32) &&& (1 : Int32))) rc rem aP kP fP aC kC aK kK nK aO kO aN kN nN k1 (((p4.toUInt32 >>> (((2 : Int32) * p1) &&& 31).toUInt32).toInt32) &&& (1 : Int32)) (((p4.toUInt32 >>> ((((2 : Int32) * p1) + (1 : Int32)) &&& 31).toUInt32).toInt32) &&& (1 : Int32)) h7 n0 Z7 E_a0_u10 F_a0_labelCount_u11 F_a0_rowCount_u12 F_a0_pairsShared_u13 F_a0_remainingCount_u14 F_a0_openPairs_u15 V_aP_u16 E_aP_u17 F_a0_covered_u18 V_aC_u19 E_aC_u20 F_a0_coveredCounts_u21 V_aK_u22 E_aK_u23 F_a0_openCounts_u24 V_aO_u25 E_aO_u26 F_a0_ones_u27 V_aN_u28 E_aN_u29 O_kP V_b1_7 hc22 hc23 hc24 g_a0 hc26 hc27 g_aP hc29 hc30 g_aO hne_aN_aO hc33 hc34 g_aN hne_aK_aO hne_aK_aN g_aK hc39 hc40 hc41 hc42 hc43 g_aC) hZ (w47 hw) (w2 hw) (by decide) (by decide)) q9a q9c (g := (mkF m 59 #[vR a0, vI p1, vI p2, vI (2 : Int32), vI p4, vI p5, vR b1] [(.int (own_cb (((p5.toUInt32 >>> (p1 &&& 31).toUInt32).toInt32) &&& (1 : Int32)))), (.ref b1), (.ref a0)])) rfl (by rw [hml]; rfl) (Steps.refl _) (argsL := [(.ref b1), (.int (own_cb (((p5.toUInt32 >>> (p1 &&& 31).toUInt32).toInt32) &&& (1 : Int32))))]) (rest := []) (lenOf pd_6 rfl) rfl (by show 2 * 0 + _ ≤ _; exact Nat.le_of_eq rfl) (hb hby d3_59) (fun _ _ => ⟨rfl, e8, (by decide : 1 + 1 ≤ _), (by decide : 2 + 2 ≤ _)⟩)
  dsimp only [Pt.U, Pt.locs, Pt.cells, Pt.slots] at X9 l9 y9 z9 st9 hQ9
  subst l9 y9 z9
  obtain ⟨b9_0, kk9_0, rfl, N9q, s9_0, kq9, pf9_0, pf9_1, pf9_2, pf9_3, pf9_4, pf9_5, pf9_6, pf9_7, pf9_8, pf9_9, pf9_10, pf9_11, pf9_12, pf9_13, pf9_14, pf9_15, pf9_16, pf9_17, pf9_18, pf9_19, pf9_20, pf9_21⟩ := hQ9
  obtain ⟨Lg9, X9', N9⟩ := own_gen X9 (Fr.app N8 N9q)
  have g_b9_0 : n0 ≤ b9_0 := Nat.le_trans Z7 s9_0
  have sz_b9_0 : h0.size ≤ b9_0 := Nat.le_trans K7.1 s9_0
  have K9 : Keep h0 T9.heap [a0, aP, aO, aN, aK, aC] := K7.trans kq9 (allS (Or.inl (List.mem_of_getElem? (i := 0) rfl)) (allS (Or.inl (List.mem_of_getElem? (i := 1) rfl)) (allS (Or.inl (List.mem_of_getElem? (i := 2) rfl)) (allS (Or.inl (List.mem_of_getElem? (i := 3) rfl)) (allS (Or.inl (List.mem_of_getElem? (i := 4) rfl)) (allS (Or.inl (List.mem_of_getElem? (i := 5) rfl)) all0))))))
  have Z9 : n0 ≤ T9.heap.size := Nat.le_trans Z7 kq9.1
  obtain ⟨fs, hr, hrun, hended, hW, hsame⟩ := X9'.leave (v := none) (fun _ => rfl)
  refine ⟨_, _, pre0 _ ?_, hrun, hended, _, _, rfl, ?_, ⟨_, rfl⟩, hW, hsame.mono (by decide) (by decide)⟩
  · show Steps p.tables e below (s₁.setTop (mkF m 0 #[vR a0, vI p1, vI p2, vI (2 : Int32), vI p4, vI p5, .unset] [])) _
    refine XS.iloadN X0.here hx rfl (hb hby d3_0) rfl ?_
    refine XS.iloadN X0.here hx rfl (hb hby d3_1) rfl ?_
    refine XS.icmpYes X0.here hx rfl (pc0 := 2) (pc' := 6) rfl (hb hby d3_2) rfl (tlt hc21).1 (by decide) (by decide) ?_
    refine XS.iloadN X0.here hx rfl (hb hby d3_6) rfl ?_
    show Steps p.tables e below (s₁.setTop (mkF m 7 #[vR a0, vI p1, vI p2, vI (2 : Int32), vI p4, vI p5, .unset] [(.int (2 : Int32))])) _
    refine st1 _ ?_
    show Steps p.tables e below (T1.setTop (mkF m 9 #[vR a0, vI p1, vI p2, vI (2 : Int32), vI p4, vI p5, .unset] [(.ref b1)])) _
    refine XS.astore X1.here hx rfl (hb hby d3_9) rfl rfl (l' := #[vR a0, vI p1, vI p2, vI (2 : Int32), vI p4, vI p5, vR b1]) rfl ?_
    refine XS.aload X1.here hx rfl (hb hby d3_11) rfl rfl ?_
    refine XS.iconst X1.here hx rfl (hb hby d3_13) ?_
    refine XS.iload X1.here hx rfl (hb hby d3_14) rfl ?_
    refine XS.iconst X1.here hx rfl (hb hby d3_16) ?_
    refine XS.iloadN X1.here hx rfl (hb hby d3_17) rfl ?_
    refine XS.imul X1.here hx rfl (hb hby d3_18) rfl ?_
    refine XS.iushr X1.here hx rfl (hb hby d3_19) rfl ?_
    refine XS.iconst X1.here hx rfl (hb hby d3_20) ?_
    refine XS.iand X1.here hx rfl (hb hby d3_21) rfl ?_
    show Steps p.tables e below (T1.setTop (mkF m 22 #[vR a0, vI p1, vI p2, vI (2 : Int32), vI p4, vI p5, vR b1] [(.int (((p4.toUInt32 >>> (((2 : Int32) * p1) &&& 31).toUInt32).toInt32) &&& (1 : Int32))), (.int (0 : Int32)), (.ref b1)])) _
    refine st4 _ ?_
    show Steps p.tables e below (T4.setTop (mkF m 23 #[vR a0, vI p1, vI p2, vI (2 : Int32), vI p4, vI p5, vR b1] [])) _
    refine XS.iloadN X4'.here hx rfl (hb hby d3_23) rfl ?_
    refine XS.iconst X4'.here hx rfl (hb hby d3_24) ?_
    refine XS.icmpNo X4'.here hx rfl (hb hby d3_25) rfl (teq (by decide : (2 : Int32) = (2 : Int32))).2 ?_
    refine XS.aload X4'.here hx rfl (hb hby d3_28) rfl rfl ?_
    refine XS.iconst X4'.here hx rfl (hb hby d3_30) ?_
    refine XS.iload X4'.here hx rfl (hb hby d3_31) rfl ?_
    refine XS.iconst X4'.here hx rfl (hb hby d3_33) ?_
    refine XS.iloadN X4'.here hx rfl (hb hby d3_34) rfl ?_
    refine XS.imul X4'.here hx rfl (hb hby d3_35) rfl ?_
    refine XS.iconst X4'.here hx rfl (hb hby d3_36) ?_
    refine XS.iadd X4'.here hx rfl (hb hby d3_37) rfl ?_
    refine XS.iushr X4'.here hx rfl (hb hby d3_38) rfl ?_
    refine XS.iconst X4'.here hx rfl (hb hby d3_39) ?_
    show Steps p.tables e below (T4.setTop (mkF m 40 #[vR a0, vI p1, vI p2, vI (2 : Int32), vI p4, vI p5, vR b1] [(.int (1 : Int32)), (.int ((p4.toUInt32 >>> ((((2 : Int32) * p1) + (1 : Int32)) &&& 31).toUInt32).toInt32)), (.int (1 : Int32)), (.ref b1)])) _
    refine XS.iand X4'.here hx rfl (hb hby d3_40) rfl ?_
    show Steps p.tables e below (T4.setTop (mkF m 41 #[vR a0, vI p1, vI p2, vI (2 : Int32), vI p4, vI p5, vR b1] [(.int (((p4.toUInt32 >>> ((((2 : Int32) * p1) + (1 : Int32)) &&& 31).toUInt32).toInt32) &&& (1 : Int32))), (.int (1 : Int32)), (.ref b1)])) _
    refine st7 _ ?_
    show Steps p.tables e below (T7.setTop (mkF m 42 #[vR a0, vI p1, vI p2, vI (2 : Int32), vI p4, vI p5, vR b1] [])) _
    refine XS.aloadN X7'.here hx rfl (hb hby d3_42) rfl rfl ?_
    refine XS.aload X7'.here hx rfl (hb hby d3_43) rfl rfl ?_
    refine XS.iload X7'.here hx rfl (hb hby d3_45) rfl ?_
    refine XS.iloadN X7'.here hx rfl (hb hby d3_47) rfl ?_
    refine XS.iushr X7'.here hx rfl (hb hby d3_48) rfl ?_
    refine XS.iconst X7'.here hx rfl (hb hby d3_49) ?_
    refine XS.iand X7'.here hx rfl (hb hby d3_50) rfl ?_
    show Steps p.tables e below (T7.setTop (mkF m 51 #[vR a0, vI p1, vI p2, vI (2 : Int32), vI p4, vI p5, vR b1] [(.int (((p5.toUInt32 >>> (p1 &&& 31).toUInt32).toInt32) &&& (1 : Int32))), (.ref b1), (.ref a0)])) _
    refine st8 _ ?_
    show Steps p.tables e below (T8.setTop (mkF m 59 #[vR a0, vI p1, vI p2, vI (2 : Int32), vI p4, vI p5, vR b1] [(.int (own_cb (((p5.toUInt32 >>> (p1 &&& 31).toUInt32).toInt32) &&& (1 : Int32)))), (.ref b1), (.ref a0)])) _
    refine st9.trans ?_
    show Steps p.tables e below (T9.setTop (mkF m 62 #[vR a0, vI p1, vI p2, vI (2 : Int32), vI p4, vI p5, vR b1] [(.int rc)])) _
    refine XS.pop X9'.here hx rfl (hb hby d3_62) rfl rfl ?_
    show Steps p.tables e below (T9.setTop (mkF m 63 #[vR a0, vI p1, vI p2, vI (2 : Int32), vI p4, vI p5, vR b1] [])) _
    exact X9'.returnOut hx Bd.returns (hb hby d3_63) hr
  · show QLA2 Z a0 p1 p2 p4 p5 rc rem aP kP fP aC kC aK kK nK aO kO aN kN nN h0 n0 _ T9.heap _
    exact ⟨b9_0, kk9_0, rfl, N9, sz_b9_0, K9, pf9_0, pf9_1, pf9_2, pf9_3, pf9_4, pf9_5, pf9_6, pf9_7, pf9_8, pf9_9, pf9_11, pf9_10, pf9_13, pf9_12, pf9_15, pf9_14, pf9_16, pf9_17, pf9_19, pf9_18, pf9_20, pf9_21⟩
def QAR0 (Z : State) (a0 : Addr) (p2 : Int32) (p3 : Int32) (p4 : Int32) (p5 : Int32) (h0 : Heap) (n0 : Nat) (v : Option Value) (h : Heap) (L : List Loc) : Prop := v = none ∧ Fr n0 L ∧ n0 ≤ h.size ∧ Exa Z h a0 cCV ∧ own_Cov Z h n0 a0 p3 (own_mn 1 p2) (own_full p3)
set_option maxRecDepth 65536 in
set_option maxHeartbeats 40000000 in
theorem rmAR0 (l : Launch) (Z : State) (az : Array Value) (hw : ∀ d ∈ tables_1, d.before az Z = true) (ws : List Jvm.Cond) (a0 : Addr) (p2 : Int32) (p3 : Int32) (p4 : Int32) (p5 : Int32) (h0 : Heap) (n0 : Nat) (Z0 : n0 ≤ h0.size) (E_a0 : Exa Z h0 a0 cCV) (J_c : own_Cov Z h0 n0 a0 p3 (0 : Int32) (own_full p3)) (hc_lc : p3 = (1 : Int32) ∨ p3 = (2 : Int32)) (hc_n : own_n3 p2) :
    MetFree l (⟨cLW, "addRow", "(Lcom/example/headlattice/headlattice/learn/Coverage;IIIII)V"⟩ : MethodName) (head1 (Jvm.Cond.code (⟨cLW, "addRow", "(Lcom/example/headlattice/headlattice/learn/Coverage;IIIII)V"⟩ : MethodName) method_3_code 7 none :: ws) ({ frames := 2, cells := 2, slots := 4, locals := 60 } : Room)) (fun a U => a = #[(.ref a0), (.int (0 : Int32)), (.int p2), (.int p3), (.int p4), (.int p5)] ∧ Z.Warmed39 U.vm ∧ U.heap = h0) (fun _ _ _ _ _ => True) (fun _ U o U' => ∃ v L, o = .returned v ∧ QAR0 Z a0 p2 p3 p4 p5 h0 n0 v U'.heap L ∧ FrameEnd U o U' L ({ frames := 2, cells := 2, slots := 4, locals := 60 } : Room).cells ({ frames := 2, cells := 2, slots := 4, locals := 60 } : Room).slots) := by
  by_cases c1 : (0 : Int32) < p2
  · have e1 : (0 : Int32) = (0 : Int32) := by rcases hc_n with rfl | rfl | rfl | rfl <;> first | rfl | exact absurd (by decide) c1 | exact absurd c1 (by decide)
    have e2 : ∀ st : Nat → Bool × Bool, ∀ h, own_Cov Z h n0 a0 p3 (1 : Int32) st → own_Cov Z h n0 a0 p3 (own_mn 1 p2) st := fun st h q => by rcases hc_n with rfl | rfl | rfl | rfl <;> first | exact q | exact absurd c1 (by decide)
    rw [e1] at J_c
    rcases hc_lc with rfl | rfl
    · obtain ⟨aP, aC, aK, aO, aN, kP, kC, kK, kO, kN, fP, rem, E_a0, F_labelCount_a0, F_rowCount_a0, F_pairsShared_a0, F_remainingCount_a0, F_openPairs_a0, V_aP, E_aP, F_covered_a0, V_aC, E_aC, F_coveredCounts_a0, V_aK, E_aK, F_openCounts_a0, V_aO, E_aO, F_ones_a0, V_aN, E_aN, O_kP, g_a0, g_aP, g_aC, g_aK, g_aO, g_aN, hne_aK_aO, hne_aK_aN, hne_aN_aO, RW⟩ := J_c
      refine own_mono (rmLA1 l Z az hw ws a0 (0 : Int32) p2 p4 p5 (0 : Int32) rem aP kP fP aC kC aK kK (2 * (1 : Int32)) aO kO aN kN (1 : Int32) h0 n0 Z0 E_a0 F_labelCount_a0 F_rowCount_a0 F_pairsShared_a0 F_remainingCount_a0 F_openPairs_a0 V_aP E_aP F_covered_a0 V_aC E_aC F_coveredCounts_a0 V_aK E_aK F_openCounts_a0 V_aO E_aO F_ones_a0 V_aN E_aN O_kP c1 (own_b1 (P := fun v => v = (0 : Int32) ∨ v = (1 : Int32)) (by decide) (by decide) _) (by decide) g_a0 (by decide) (by decide) g_aP (own_b1 (P := fun v => ¬ (((0 : Int32) + v) < (0 : Int32))) (by decide) (by decide) _) (own_b1 (P := fun v => ((0 : Int32) + v) < (2 * (1 : Int32))) (by decide) (by decide) _) g_aO hne_aN_aO (own_b1 (P := fun v => ¬ ((((0 : Int32) + v) / (2 : Int32)) < (0 : Int32))) (by decide) (by decide) _) (own_b1 (P := fun v => (((0 : Int32) + v) / (2 : Int32)) < (1 : Int32)) (by decide) (by decide) _) g_aN hne_aK_aO hne_aK_aN g_aK (own_cbP (P := fun v => nar .boolean v = v) (by decide) (by decide) _) g_aC) fun v h L q => ?_
      obtain ⟨r0, rk0, rfl, qN, qs, qK, qE_a0, qF_labelCount_a0, qF_rowCount_a0, qF_pairsShared_a0, qF_remainingCount_a0, qF_openPairs_a0, qF_covered_a0, qF_coveredCounts_a0, qF_openCounts_a0, qF_ones_a0, qE_aP, qV_aP, qE_aO, qV_aO, qE_aN, qV_aN, qE_aK, qV_aK, qE_aC, qV_aC, qE_r0, qV_r0⟩ := q
      rw [show ((0 : Int32) + (1 : Int32)) = (1 : Int32) from by decide] at qF_rowCount_a0
      refine ⟨rfl, qN, Nat.le_trans Z0 qK.1, E_a0.keep qK, e2 _ _ ⟨aP, aC, aK, aO, aN, kP, kC, kK, kO, kN, _, _, qE_a0, qF_labelCount_a0, qF_rowCount_a0, qF_pairsShared_a0, qF_remainingCount_a0, qF_openPairs_a0, qV_aP, qE_aP, qF_covered_a0, qV_aC, qE_aC, qF_coveredCounts_a0, qV_aK, qE_aK, qF_openCounts_a0, qV_aO, qE_aO, qF_ones_a0, qV_aN, qE_aN, O_kP, g_a0, g_aP, g_aC, g_aK, g_aO, g_aN, hne_aK_aO, hne_aK_aN, hne_aN_aO, (own_Rows.put (b := (true, false)) (RW.keep qK (fun x hx => by simp only [List.mem_cons, List.not_mem_nil, or_false] at hx; rcases hx with rfl | rfl | rfl | rfl | rfl | rfl <;> simp) E_a0 E_aP E_aC) (fun r hr hn => ?_) ⟨Ne.symm (own_ne (Nat.lt_of_lt_of_le E_aK.lt qs)), Ne.symm (own_ne (Nat.lt_of_lt_of_le E_aO.lt qs)), Ne.symm (own_ne (Nat.lt_of_lt_of_le E_aN.lt qs)), qE_r0, _, _, _, qV_r0, ⟨_, (own_b1 (P := fun v => (0 : Int32) + v = 0 ∨ (0 : Int32) + v = 1) (by decide) (by decide) _), rfl, rfl⟩⟩).congr (fun r _ => ?_)⟩⟩
      · have z1 : ((1 : Int32)).toNatClampNeg = 1 := by decide
        have z2 : ((0 : Int32)).toNatClampNeg = 0 := by decide
        omega
      · unfold own_ups own_full
        by_cases c : r = ((0 : Int32)).toNatClampNeg
        · rw [if_pos c]; rfl
        · rw [if_neg c]
    · obtain ⟨aP, aC, aK, aO, aN, kP, kC, kK, kO, kN, fP, rem, E_a0, F_labelCount_a0, F_rowCount_a0, F_pairsShared_a0, F_remainingCount_a0, F_openPairs_a0, V_aP, E_aP, F_covered_a0, V_aC, E_aC, F_coveredCounts_a0, V_aK, E_aK, F_openCounts_a0, V_aO, E_aO, F_ones_a0, V_aN, E_aN, O_kP, g_a0, g_aP, g_aC, g_aK, g_aO, g_aN, hne_aK_aO, hne_aK_aN, hne_aN_aO, RW⟩ := J_c
      refine own_mono (rmLA2 l Z az hw ws a0 (0 : Int32) p2 p4 p5 (0 : Int32) rem aP kP fP aC kC aK kK (2 * (2 : Int32)) aO kO aN kN (2 : Int32) h0 n0 Z0 E_a0 F_labelCount_a0 F_rowCount_a0 F_pairsShared_a0 F_remainingCount_a0 F_openPairs_a0 V_aP E_aP F_covered_a0 V_aC E_aC F_coveredCounts_a0 V_aK E_aK F_openCounts_a0 V_aO E_aO F_ones_a0 V_aN E_aN O_kP c1 (own_b1 (P := fun v => v = (0 : Int32) ∨ v = (1 : Int32)) (by decide) (by decide) _) (own_b1 (P := fun v => v = (0 : Int32) ∨ v = (1 : Int32)) (by decide) (by decide) _) (by decide) g_a0 (by decide) (by decide) g_aP (own_b1 (P := fun v => ¬ (((0 : Int32) + v) < (0 : Int32))) (by decide) (by decide) _) (own_b1 (P := fun v => ((0 : Int32) + v) < (2 * (2 : Int32))) (by decide) (by decide) _) g_aO hne_aN_aO (own_b1 (P := fun v => ¬ ((((0 : Int32) + v) / (2 : Int32)) < (0 : Int32))) (by decide) (by decide) _) (own_b1 (P := fun v => (((0 : Int32) + v) / (2 : Int32)) < (2 : Int32)) (by decide) (by decide) _) g_aN hne_aK_aO hne_aK_aN g_aK (own_b1 (P := fun v => ¬ (((2 : Int32) + v) < (0 : Int32))) (by decide) (by decide) _) (own_b1 (P := fun v => ((2 : Int32) + v) < (2 * (2 : Int32))) (by decide) (by decide) _) (own_b1 (P := fun v => ¬ ((((2 : Int32) + v) / (2 : Int32)) < (0 : Int32))) (by decide) (by decide) _) (own_b1 (P := fun v => (((2 : Int32) + v) / (2 : Int32)) < (2 : Int32)) (by decide) (by decide) _) (own_cbP (P := fun v => nar .boolean v = v) (by decide) (by decide) _) g_aC) fun v h L q => ?_
      obtain ⟨r0, rk0, rfl, qN, qs, qK, qE_a0, qF_labelCount_a0, qF_rowCount_a0, qF_pairsShared_a0, qF_remainingCount_a0, qF_openPairs_a0, qF_covered_a0, qF_coveredCounts_a0, qF_openCounts_a0, qF_ones_a0, qE_aP, qV_aP, qE_aO, qV_aO, qE_aN, qV_aN, qE_aK, qV_aK, qE_aC, qV_aC, qE_r0, qV_r0⟩ := q
      rw [show ((0 : Int32) + (1 : Int32)) = (1 : Int32) from by decide] at qF_rowCount_a0
      refine ⟨rfl, qN, Nat.le_trans Z0 qK.1, E_a0.keep qK, e2 _ _ ⟨aP, aC, aK, aO, aN, kP, kC, kK, kO, kN, _, _, qE_a0, qF_labelCount_a0, qF_rowCount_a0, qF_pairsShared_a0, qF_remainingCount_a0, qF_openPairs_a0, qV_aP, qE_aP, qF_covered_a0, qV_aC, qE_aC, qF_coveredCounts_a0, qV_aK, qE_aK, qF_openCounts_a0, qV_aO, qE_aO, qF_ones_a0, qV_aN, qE_aN, O_kP, g_a0, g_aP, g_aC, g_aK, g_aO, g_aN, hne_aK_aO, hne_aK_aN, hne_aN_aO, (own_Rows.put (b := (true, true)) (RW.keep qK (fun x hx => by simp only [List.mem_cons, List.not_mem_nil, or_false] at hx; rcases hx with rfl | rfl | rfl | rfl | rfl | rfl <;> simp) E_a0 E_aP E_aC) (fun r hr hn => ?_) ⟨Ne.symm (own_ne (Nat.lt_of_lt_of_le E_aK.lt qs)), Ne.symm (own_ne (Nat.lt_of_lt_of_le E_aO.lt qs)), Ne.symm (own_ne (Nat.lt_of_lt_of_le E_aN.lt qs)), qE_r0, _, _, _, qV_r0, ⟨_, _, (own_b1 (P := fun v => (0 : Int32) + v = 0 ∨ (0 : Int32) + v = 1) (by decide) (by decide) _), (own_b1 (P := fun v => (2 : Int32) + v = 2 ∨ (2 : Int32) + v = 3) (by decide) (by decide) _), rfl, rfl⟩⟩).congr (fun r _ => ?_)⟩⟩
      · have z1 : ((1 : Int32)).toNatClampNeg = 1 := by decide
        have z2 : ((0 : Int32)).toNatClampNeg = 0 := by decide
        omega
      · unfold own_ups own_full
        by_cases c : r = ((0 : Int32)).toNatClampNeg
        · rw [if_pos c]; rfl
        · rw [if_neg c]
  · have e2 : (own_mn 1 p2) = (0 : Int32) := by rcases hc_n with rfl | rfl | rfl | rfl <;> first | rfl | exact absurd (by decide) c1
    refine own_mono (rmLAf l Z az hw ws a0 (0 : Int32) p2 p3 p4 p5 h0 n0 Z0 c1) fun v h L q => ?_
    obtain ⟨rfl, qN, rfl⟩ := q
    refine ⟨rfl, qN, Z0, E_a0, ?_⟩
    rw [e2]
    exact J_c
def QAR1 (Z : State) (a0 : Addr) (p2 : Int32) (p3 : Int32) (p4 : Int32) (p5 : Int32) (h0 : Heap) (n0 : Nat) (v : Option Value) (h : Heap) (L : List Loc) : Prop := v = none ∧ Fr n0 L ∧ n0 ≤ h.size ∧ Exa Z h a0 cCV ∧ own_Cov Z h n0 a0 p3 (own_mn 2 p2) (own_full p3)
set_option maxRecDepth 65536 in
set_option maxHeartbeats 40000000 in
theorem rmAR1 (l : Launch) (Z : State) (az : Array Value) (hw : ∀ d ∈ tables_1, d.before az Z = true) (ws : List Jvm.Cond) (a0 : Addr) (p2 : Int32) (p3 : Int32) (p4 : Int32) (p5 : Int32) (h0 : Heap) (n0 : Nat) (Z0 : n0 ≤ h0.size) (E_a0 : Exa Z h0 a0 cCV) (J_c : own_Cov Z h0 n0 a0 p3 (own_mn 1 p2) (own_full p3)) (hc_lc : p3 = (1 : Int32) ∨ p3 = (2 : Int32)) (hc_n : own_n3 p2) :
    MetFree l (⟨cLW, "addRow", "(Lcom/example/headlattice/headlattice/learn/Coverage;IIIII)V"⟩ : MethodName) (head1 (Jvm.Cond.code (⟨cLW, "addRow", "(Lcom/example/headlattice/headlattice/learn/Coverage;IIIII)V"⟩ : MethodName) method_3_code 7 none :: ws) ({ frames := 2, cells := 2, slots := 4, locals := 60 } : Room)) (fun a U => a = #[(.ref a0), (.int (1 : Int32)), (.int p2), (.int p3), (.int p4), (.int p5)] ∧ Z.Warmed39 U.vm ∧ U.heap = h0) (fun _ _ _ _ _ => True) (fun _ U o U' => ∃ v L, o = .returned v ∧ QAR1 Z a0 p2 p3 p4 p5 h0 n0 v U'.heap L ∧ FrameEnd U o U' L ({ frames := 2, cells := 2, slots := 4, locals := 60 } : Room).cells ({ frames := 2, cells := 2, slots := 4, locals := 60 } : Room).slots) := by
  by_cases c1 : (1 : Int32) < p2
  · have e1 : (own_mn 1 p2) = (1 : Int32) := by rcases hc_n with rfl | rfl | rfl | rfl <;> first | rfl | exact absurd (by decide) c1 | exact absurd c1 (by decide)
    have e2 : ∀ st : Nat → Bool × Bool, ∀ h, own_Cov Z h n0 a0 p3 (2 : Int32) st → own_Cov Z h n0 a0 p3 (own_mn 2 p2) st := fun st h q => by rcases hc_n with rfl | rfl | rfl | rfl <;> first | exact q | exact absurd c1 (by decide)
    rw [e1] at J_c
    rcases hc_lc with rfl | rfl
    · obtain ⟨aP, aC, aK, aO, aN, kP, kC, kK, kO, kN, fP, rem, E_a0, F_labelCount_a0, F_rowCount_a0, F_pairsShared_a0, F_remainingCount_a0, F_openPairs_a0, V_aP, E_aP, F_covered_a0, V_aC, E_aC, F_coveredCounts_a0, V_aK, E_aK, F_openCounts_a0, V_aO, E_aO, F_ones_a0, V_aN, E_aN, O_kP, g_a0, g_aP, g_aC, g_aK, g_aO, g_aN, hne_aK_aO, hne_aK_aN, hne_aN_aO, RW⟩ := J_c
      refine own_mono (rmLA1 l Z az hw ws a0 (1 : Int32) p2 p4 p5 (1 : Int32) rem aP kP fP aC kC aK kK (2 * (1 : Int32)) aO kO aN kN (1 : Int32) h0 n0 Z0 E_a0 F_labelCount_a0 F_rowCount_a0 F_pairsShared_a0 F_remainingCount_a0 F_openPairs_a0 V_aP E_aP F_covered_a0 V_aC E_aC F_coveredCounts_a0 V_aK E_aK F_openCounts_a0 V_aO E_aO F_ones_a0 V_aN E_aN O_kP c1 (own_b1 (P := fun v => v = (0 : Int32) ∨ v = (1 : Int32)) (by decide) (by decide) _) (by decide) g_a0 (by decide) (by decide) g_aP (own_b1 (P := fun v => ¬ (((0 : Int32) + v) < (0 : Int32))) (by decide) (by decide) _) (own_b1 (P := fun v => ((0 : Int32) + v) < (2 * (1 : Int32))) (by decide) (by decide) _) g_aO hne_aN_aO (own_b1 (P := fun v => ¬ ((((0 : Int32) + v) / (2 : Int32)) < (0 : Int32))) (by decide) (by decide) _) (own_b1 (P := fun v => (((0 : Int32) + v) / (2 : Int32)) < (1 : Int32)) (by decide) (by decide) _) g_aN hne_aK_aO hne_aK_aN g_aK (own_cbP (P := fun v => nar .boolean v = v) (by decide) (by decide) _) g_aC) fun v h L q => ?_
      obtain ⟨r0, rk0, rfl, qN, qs, qK, qE_a0, qF_labelCount_a0, qF_rowCount_a0, qF_pairsShared_a0, qF_remainingCount_a0, qF_openPairs_a0, qF_covered_a0, qF_coveredCounts_a0, qF_openCounts_a0, qF_ones_a0, qE_aP, qV_aP, qE_aO, qV_aO, qE_aN, qV_aN, qE_aK, qV_aK, qE_aC, qV_aC, qE_r0, qV_r0⟩ := q
      rw [show ((1 : Int32) + (1 : Int32)) = (2 : Int32) from by decide] at qF_rowCount_a0
      refine ⟨rfl, qN, Nat.le_trans Z0 qK.1, E_a0.keep qK, e2 _ _ ⟨aP, aC, aK, aO, aN, kP, kC, kK, kO, kN, _, _, qE_a0, qF_labelCount_a0, qF_rowCount_a0, qF_pairsShared_a0, qF_remainingCount_a0, qF_openPairs_a0, qV_aP, qE_aP, qF_covered_a0, qV_aC, qE_aC, qF_coveredCounts_a0, qV_aK, qE_aK, qF_openCounts_a0, qV_aO, qE_aO, qF_ones_a0, qV_aN, qE_aN, O_kP, g_a0, g_aP, g_aC, g_aK, g_aO, g_aN, hne_aK_aO, hne_aK_aN, hne_aN_aO, (own_Rows.put (b := (true, false)) (RW.keep qK (fun x hx => by simp only [List.mem_cons, List.not_mem_nil, or_false] at hx; rcases hx with rfl | rfl | rfl | rfl | rfl | rfl <;> simp) E_a0 E_aP E_aC) (fun r hr hn => ?_) ⟨Ne.symm (own_ne (Nat.lt_of_lt_of_le E_aK.lt qs)), Ne.symm (own_ne (Nat.lt_of_lt_of_le E_aO.lt qs)), Ne.symm (own_ne (Nat.lt_of_lt_of_le E_aN.lt qs)), qE_r0, _, _, _, qV_r0, ⟨_, (own_b1 (P := fun v => (0 : Int32) + v = 0 ∨ (0 : Int32) + v = 1) (by decide) (by decide) _), rfl, rfl⟩⟩).congr (fun r _ => ?_)⟩⟩
      · have z1 : ((2 : Int32)).toNatClampNeg = 2 := by decide
        have z2 : ((1 : Int32)).toNatClampNeg = 1 := by decide
        omega
      · unfold own_ups own_full
        by_cases c : r = ((1 : Int32)).toNatClampNeg
        · rw [if_pos c]; rfl
        · rw [if_neg c]
    · obtain ⟨aP, aC, aK, aO, aN, kP, kC, kK, kO, kN, fP, rem, E_a0, F_labelCount_a0, F_rowCount_a0, F_pairsShared_a0, F_remainingCount_a0, F_openPairs_a0, V_aP, E_aP, F_covered_a0, V_aC, E_aC, F_coveredCounts_a0, V_aK, E_aK, F_openCounts_a0, V_aO, E_aO, F_ones_a0, V_aN, E_aN, O_kP, g_a0, g_aP, g_aC, g_aK, g_aO, g_aN, hne_aK_aO, hne_aK_aN, hne_aN_aO, RW⟩ := J_c
      refine own_mono (rmLA2 l Z az hw ws a0 (1 : Int32) p2 p4 p5 (1 : Int32) rem aP kP fP aC kC aK kK (2 * (2 : Int32)) aO kO aN kN (2 : Int32) h0 n0 Z0 E_a0 F_labelCount_a0 F_rowCount_a0 F_pairsShared_a0 F_remainingCount_a0 F_openPairs_a0 V_aP E_aP F_covered_a0 V_aC E_aC F_coveredCounts_a0 V_aK E_aK F_openCounts_a0 V_aO E_aO F_ones_a0 V_aN E_aN O_kP c1 (own_b1 (P := fun v => v = (0 : Int32) ∨ v = (1 : Int32)) (by decide) (by decide) _) (own_b1 (P := fun v => v = (0 : Int32) ∨ v = (1 : Int32)) (by decide) (by decide) _) (by decide) g_a0 (by decide) (by decide) g_aP (own_b1 (P := fun v => ¬ (((0 : Int32) + v) < (0 : Int32))) (by decide) (by decide) _) (own_b1 (P := fun v => ((0 : Int32) + v) < (2 * (2 : Int32))) (by decide) (by decide) _) g_aO hne_aN_aO (own_b1 (P := fun v => ¬ ((((0 : Int32) + v) / (2 : Int32)) < (0 : Int32))) (by decide) (by decide) _) (own_b1 (P := fun v => (((0 : Int32) + v) / (2 : Int32)) < (2 : Int32)) (by decide) (by decide) _) g_aN hne_aK_aO hne_aK_aN g_aK (own_b1 (P := fun v => ¬ (((2 : Int32) + v) < (0 : Int32))) (by decide) (by decide) _) (own_b1 (P := fun v => ((2 : Int32) + v) < (2 * (2 : Int32))) (by decide) (by decide) _) (own_b1 (P := fun v => ¬ ((((2 : Int32) + v) / (2 : Int32)) < (0 : Int32))) (by decide) (by decide) _) (own_b1 (P := fun v => (((2 : Int32) + v) / (2 : Int32)) < (2 : Int32)) (by decide) (by decide) _) (own_cbP (P := fun v => nar .boolean v = v) (by decide) (by decide) _) g_aC) fun v h L q => ?_
      obtain ⟨r0, rk0, rfl, qN, qs, qK, qE_a0, qF_labelCount_a0, qF_rowCount_a0, qF_pairsShared_a0, qF_remainingCount_a0, qF_openPairs_a0, qF_covered_a0, qF_coveredCounts_a0, qF_openCounts_a0, qF_ones_a0, qE_aP, qV_aP, qE_aO, qV_aO, qE_aN, qV_aN, qE_aK, qV_aK, qE_aC, qV_aC, qE_r0, qV_r0⟩ := q
      rw [show ((1 : Int32) + (1 : Int32)) = (2 : Int32) from by decide] at qF_rowCount_a0
      refine ⟨rfl, qN, Nat.le_trans Z0 qK.1, E_a0.keep qK, e2 _ _ ⟨aP, aC, aK, aO, aN, kP, kC, kK, kO, kN, _, _, qE_a0, qF_labelCount_a0, qF_rowCount_a0, qF_pairsShared_a0, qF_remainingCount_a0, qF_openPairs_a0, qV_aP, qE_aP, qF_covered_a0, qV_aC, qE_aC, qF_coveredCounts_a0, qV_aK, qE_aK, qF_openCounts_a0, qV_aO, qE_aO, qF_ones_a0, qV_aN, qE_aN, O_kP, g_a0, g_aP, g_aC, g_aK, g_aO, g_aN, hne_aK_aO, hne_aK_aN, hne_aN_aO, (own_Rows.put (b := (true, true)) (RW.keep qK (fun x hx => by simp only [List.mem_cons, List.not_mem_nil, or_false] at hx; rcases hx with rfl | rfl | rfl | rfl | rfl | rfl <;> simp) E_a0 E_aP E_aC) (fun r hr hn => ?_) ⟨Ne.symm (own_ne (Nat.lt_of_lt_of_le E_aK.lt qs)), Ne.symm (own_ne (Nat.lt_of_lt_of_le E_aO.lt qs)), Ne.symm (own_ne (Nat.lt_of_lt_of_le E_aN.lt qs)), qE_r0, _, _, _, qV_r0, ⟨_, _, (own_b1 (P := fun v => (0 : Int32) + v = 0 ∨ (0 : Int32) + v = 1) (by decide) (by decide) _), (own_b1 (P := fun v => (2 : Int32) + v = 2 ∨ (2 : Int32) + v = 3) (by decide) (by decide) _), rfl, rfl⟩⟩).congr (fun r _ => ?_)⟩⟩
      · have z1 : ((2 : Int32)).toNatClampNeg = 2 := by decide
        have z2 : ((1 : Int32)).toNatClampNeg = 1 := by decide
        omega
      · unfold own_ups own_full
        by_cases c : r = ((1 : Int32)).toNatClampNeg
        · rw [if_pos c]; rfl
        · rw [if_neg c]
  · have e2 : (own_mn 2 p2) = (own_mn 1 p2) := by rcases hc_n with rfl | rfl | rfl | rfl <;> first | rfl | exact absurd (by decide) c1
    refine own_mono (rmLAf l Z az hw ws a0 (1 : Int32) p2 p3 p4 p5 h0 n0 Z0 c1) fun v h L q => ?_
    obtain ⟨rfl, qN, rfl⟩ := q
    refine ⟨rfl, qN, Z0, E_a0, ?_⟩
    rw [e2]
    exact J_c
def QAR2 (Z : State) (a0 : Addr) (p2 : Int32) (p3 : Int32) (p4 : Int32) (p5 : Int32) (h0 : Heap) (n0 : Nat) (v : Option Value) (h : Heap) (L : List Loc) : Prop := v = none ∧ Fr n0 L ∧ n0 ≤ h.size ∧ Exa Z h a0 cCV ∧ own_Cov Z h n0 a0 p3 p2 (own_full p3)
set_option maxRecDepth 65536 in
set_option maxHeartbeats 40000000 in
theorem rmAR2 (l : Launch) (Z : State) (az : Array Value) (hw : ∀ d ∈ tables_1, d.before az Z = true) (ws : List Jvm.Cond) (a0 : Addr) (p2 : Int32) (p3 : Int32) (p4 : Int32) (p5 : Int32) (h0 : Heap) (n0 : Nat) (Z0 : n0 ≤ h0.size) (E_a0 : Exa Z h0 a0 cCV) (J_c : own_Cov Z h0 n0 a0 p3 (own_mn 2 p2) (own_full p3)) (hc_lc : p3 = (1 : Int32) ∨ p3 = (2 : Int32)) (hc_n : own_n3 p2) :
    MetFree l (⟨cLW, "addRow", "(Lcom/example/headlattice/headlattice/learn/Coverage;IIIII)V"⟩ : MethodName) (head1 (Jvm.Cond.code (⟨cLW, "addRow", "(Lcom/example/headlattice/headlattice/learn/Coverage;IIIII)V"⟩ : MethodName) method_3_code 7 none :: ws) ({ frames := 2, cells := 2, slots := 4, locals := 60 } : Room)) (fun a U => a = #[(.ref a0), (.int (2 : Int32)), (.int p2), (.int p3), (.int p4), (.int p5)] ∧ Z.Warmed39 U.vm ∧ U.heap = h0) (fun _ _ _ _ _ => True) (fun _ U o U' => ∃ v L, o = .returned v ∧ QAR2 Z a0 p2 p3 p4 p5 h0 n0 v U'.heap L ∧ FrameEnd U o U' L ({ frames := 2, cells := 2, slots := 4, locals := 60 } : Room).cells ({ frames := 2, cells := 2, slots := 4, locals := 60 } : Room).slots) := by
  by_cases c1 : (2 : Int32) < p2
  · have e1 : (own_mn 2 p2) = (2 : Int32) := by rcases hc_n with rfl | rfl | rfl | rfl <;> first | rfl | exact absurd (by decide) c1 | exact absurd c1 (by decide)
    have e2 : ∀ st : Nat → Bool × Bool, ∀ h, own_Cov Z h n0 a0 p3 (3 : Int32) st → own_Cov Z h n0 a0 p3 p2 st := fun st h q => by rcases hc_n with rfl | rfl | rfl | rfl <;> first | exact q | exact absurd c1 (by decide)
    rw [e1] at J_c
    rcases hc_lc with rfl | rfl
    · obtain ⟨aP, aC, aK, aO, aN, kP, kC, kK, kO, kN, fP, rem, E_a0, F_labelCount_a0, F_rowCount_a0, F_pairsShared_a0, F_remainingCount_a0, F_openPairs_a0, V_aP, E_aP, F_covered_a0, V_aC, E_aC, F_coveredCounts_a0, V_aK, E_aK, F_openCounts_a0, V_aO, E_aO, F_ones_a0, V_aN, E_aN, O_kP, g_a0, g_aP, g_aC, g_aK, g_aO, g_aN, hne_aK_aO, hne_aK_aN, hne_aN_aO, RW⟩ := J_c
      refine own_mono (rmLA1 l Z az hw ws a0 (2 : Int32) p2 p4 p5 (2 : Int32) rem aP kP fP aC kC aK kK (2 * (1 : Int32)) aO kO aN kN (1 : Int32) h0 n0 Z0 E_a0 F_labelCount_a0 F_rowCount_a0 F_pairsShared_a0 F_remainingCount_a0 F_openPairs_a0 V_aP E_aP F_covered_a0 V_aC E_aC F_coveredCounts_a0 V_aK E_aK F_openCounts_a0 V_aO E_aO F_ones_a0 V_aN E_aN O_kP c1 (own_b1 (P := fun v => v = (0 : Int32) ∨ v = (1 : Int32)) (by decide) (by decide) _) (by decide) g_a0 (by decide) (by decide) g_aP (own_b1 (P := fun v => ¬ (((0 : Int32) + v) < (0 : Int32))) (by decide) (by decide) _) (own_b1 (P := fun v => ((0 : Int32) + v) < (2 * (1 : Int32))) (by decide) (by decide) _) g_aO hne_aN_aO (own_b1 (P := fun v => ¬ ((((0 : Int32) + v) / (2 : Int32)) < (0 : Int32))) (by decide) (by decide) _) (own_b1 (P := fun v => (((0 : Int32) + v) / (2 : Int32)) < (1 : Int32)) (by decide) (by decide) _) g_aN hne_aK_aO hne_aK_aN g_aK (own_cbP (P := fun v => nar .boolean v = v) (by decide) (by decide) _) g_aC) fun v h L q => ?_
      obtain ⟨r0, rk0, rfl, qN, qs, qK, qE_a0, qF_labelCount_a0, qF_rowCount_a0, qF_pairsShared_a0, qF_remainingCount_a0, qF_openPairs_a0, qF_covered_a0, qF_coveredCounts_a0, qF_openCounts_a0, qF_ones_a0, qE_aP, qV_aP, qE_aO, qV_aO, qE_aN, qV_aN, qE_aK, qV_aK, qE_aC, qV_aC, qE_r0, qV_r0⟩ := q
      rw [show ((2 : Int32) + (1 : Int32)) = (3 : Int32) from by decide] at qF_rowCount_a0
      refine ⟨rfl, qN, Nat.le_trans Z0 qK.1, E_a0.keep qK, e2 _ _ ⟨aP, aC, aK, aO, aN, kP, kC, kK, kO, kN, _, _, qE_a0, qF_labelCount_a0, qF_rowCount_a0, qF_pairsShared_a0, qF_remainingCount_a0, qF_openPairs_a0, qV_aP, qE_aP, qF_covered_a0, qV_aC, qE_aC, qF_coveredCounts_a0, qV_aK, qE_aK, qF_openCounts_a0, qV_aO, qE_aO, qF_ones_a0, qV_aN, qE_aN, O_kP, g_a0, g_aP, g_aC, g_aK, g_aO, g_aN, hne_aK_aO, hne_aK_aN, hne_aN_aO, (own_Rows.put (b := (true, false)) (RW.keep qK (fun x hx => by simp only [List.mem_cons, List.not_mem_nil, or_false] at hx; rcases hx with rfl | rfl | rfl | rfl | rfl | rfl <;> simp) E_a0 E_aP E_aC) (fun r hr hn => ?_) ⟨Ne.symm (own_ne (Nat.lt_of_lt_of_le E_aK.lt qs)), Ne.symm (own_ne (Nat.lt_of_lt_of_le E_aO.lt qs)), Ne.symm (own_ne (Nat.lt_of_lt_of_le E_aN.lt qs)), qE_r0, _, _, _, qV_r0, ⟨_, (own_b1 (P := fun v => (0 : Int32) + v = 0 ∨ (0 : Int32) + v = 1) (by decide) (by decide) _), rfl, rfl⟩⟩).congr (fun r _ => ?_)⟩⟩
      · have z1 : ((3 : Int32)).toNatClampNeg = 3 := by decide
        have z2 : ((2 : Int32)).toNatClampNeg = 2 := by decide
        omega
      · unfold own_ups own_full
        by_cases c : r = ((2 : Int32)).toNatClampNeg
        · rw [if_pos c]; rfl
        · rw [if_neg c]
    · obtain ⟨aP, aC, aK, aO, aN, kP, kC, kK, kO, kN, fP, rem, E_a0, F_labelCount_a0, F_rowCount_a0, F_pairsShared_a0, F_remainingCount_a0, F_openPairs_a0, V_aP, E_aP, F_covered_a0, V_aC, E_aC, F_coveredCounts_a0, V_aK, E_aK, F_openCounts_a0, V_aO, E_aO, F_ones_a0, V_aN, E_aN, O_kP, g_a0, g_aP, g_aC, g_aK, g_aO, g_aN, hne_aK_aO, hne_aK_aN, hne_aN_aO, RW⟩ := J_c
      refine own_mono (rmLA2 l Z az hw ws a0 (2 : Int32) p2 p4 p5 (2 : Int32) rem aP kP fP aC kC aK kK (2 * (2 : Int32)) aO kO aN kN (2 : Int32) h0 n0 Z0 E_a0 F_labelCount_a0 F_rowCount_a0 F_pairsShared_a0 F_remainingCount_a0 F_openPairs_a0 V_aP E_aP F_covered_a0 V_aC E_aC F_coveredCounts_a0 V_aK E_aK F_openCounts_a0 V_aO E_aO F_ones_a0 V_aN E_aN O_kP c1 (own_b1 (P := fun v => v = (0 : Int32) ∨ v = (1 : Int32)) (by decide) (by decide) _) (own_b1 (P := fun v => v = (0 : Int32) ∨ v = (1 : Int32)) (by decide) (by decide) _) (by decide) g_a0 (by decide) (by decide) g_aP (own_b1 (P := fun v => ¬ (((0 : Int32) + v) < (0 : Int32))) (by decide) (by decide) _) (own_b1 (P := fun v => ((0 : Int32) + v) < (2 * (2 : Int32))) (by decide) (by decide) _) g_aO hne_aN_aO (own_b1 (P := fun v => ¬ ((((0 : Int32) + v) / (2 : Int32)) < (0 : Int32))) (by decide) (by decide) _) (own_b1 (P := fun v => (((0 : Int32) + v) / (2 : Int32)) < (2 : Int32)) (by decide) (by decide) _) g_aN hne_aK_aO hne_aK_aN g_aK (own_b1 (P := fun v => ¬ (((2 : Int32) + v) < (0 : Int32))) (by decide) (by decide) _) (own_b1 (P := fun v => ((2 : Int32) + v) < (2 * (2 : Int32))) (by decide) (by decide) _) (own_b1 (P := fun v => ¬ ((((2 : Int32) + v) / (2 : Int32)) < (0 : Int32))) (by decide) (by decide) _) (own_b1 (P := fun v => (((2 : Int32) + v) / (2 : Int32)) < (2 : Int32)) (by decide) (by decide) _) (own_cbP (P := fun v => nar .boolean v = v) (by decide) (by decide) _) g_aC) fun v h L q => ?_
      obtain ⟨r0, rk0, rfl, qN, qs, qK, qE_a0, qF_labelCount_a0, qF_rowCount_a0, qF_pairsShared_a0, qF_remainingCount_a0, qF_openPairs_a0, qF_covered_a0, qF_coveredCounts_a0, qF_openCounts_a0, qF_ones_a0, qE_aP, qV_aP, qE_aO, qV_aO, qE_aN, qV_aN, qE_aK, qV_aK, qE_aC, qV_aC, qE_r0, qV_r0⟩ := q
      rw [show ((2 : Int32) + (1 : Int32)) = (3 : Int32) from by decide] at qF_rowCount_a0
      refine ⟨rfl, qN, Nat.le_trans Z0 qK.1, E_a0.keep qK, e2 _ _ ⟨aP, aC, aK, aO, aN, kP, kC, kK, kO, kN, _, _, qE_a0, qF_labelCount_a0, qF_rowCount_a0, qF_pairsShared_a0, qF_remainingCount_a0, qF_openPairs_a0, qV_aP, qE_aP, qF_covered_a0, qV_aC, qE_aC, qF_coveredCounts_a0, qV_aK, qE_aK, qF_openCounts_a0, qV_aO, qE_aO, qF_ones_a0, qV_aN, qE_aN, O_kP, g_a0, g_aP, g_aC, g_aK, g_aO, g_aN, hne_aK_aO, hne_aK_aN, hne_aN_aO, (own_Rows.put (b := (true, true)) (RW.keep qK (fun x hx => by simp only [List.mem_cons, List.not_mem_nil, or_false] at hx; rcases hx with rfl | rfl | rfl | rfl | rfl | rfl <;> simp) E_a0 E_aP E_aC) (fun r hr hn => ?_) ⟨Ne.symm (own_ne (Nat.lt_of_lt_of_le E_aK.lt qs)), Ne.symm (own_ne (Nat.lt_of_lt_of_le E_aO.lt qs)), Ne.symm (own_ne (Nat.lt_of_lt_of_le E_aN.lt qs)), qE_r0, _, _, _, qV_r0, ⟨_, _, (own_b1 (P := fun v => (0 : Int32) + v = 0 ∨ (0 : Int32) + v = 1) (by decide) (by decide) _), (own_b1 (P := fun v => (2 : Int32) + v = 2 ∨ (2 : Int32) + v = 3) (by decide) (by decide) _), rfl, rfl⟩⟩).congr (fun r _ => ?_)⟩⟩
      · have z1 : ((3 : Int32)).toNatClampNeg = 3 := by decide
        have z2 : ((2 : Int32)).toNatClampNeg = 2 := by decide
        omega
      · unfold own_ups own_full
        by_cases c : r = ((2 : Int32)).toNatClampNeg
        · rw [if_pos c]; rfl
        · rw [if_neg c]
  · have e2 : p2 = (own_mn 2 p2) := by rcases hc_n with rfl | rfl | rfl | rfl <;> first | rfl | exact absurd (by decide) c1
    refine own_mono (rmLAf l Z az hw ws a0 (2 : Int32) p2 p3 p4 p5 h0 n0 Z0 c1) fun v h L q => ?_
    obtain ⟨rfl, qN, rfl⟩ := q
    refine ⟨rfl, qN, Z0, E_a0, ?_⟩
    rw [e2]
    exact J_c
theorem d4_0 : decode method_4_code 0 = .ok (.iload_n 1, 1) := by decide +kernel
theorem d4_1 : decode method_4_code 1 = .ok (.iload_n 2, 1) := by decide +kernel
theorem d4_2 : decode method_4_code 2 = .ok (.if_icmp .lt 4, 3) := by decide +kernel
theorem d4_5 : decode method_4_code 5 = .ok (.return_, 1) := by decide +kernel
theorem ef_rmDf (m : MethodId) (a0 : Addr) (p1 : Int32) (p2 : Int32) (p3 : Int32) (p4 : Int32) : entryFrame m #[(.ref a0), (.int p1), (.int p2), (.int p3), (.int p4)] 6 = mkF m 0 #[vR a0, vI p1, vI p2, vI p3, vI p4, .unset] [] := by first | (simp [entryFrame, mkF, argsToLocals, Value.category]; done) | rfl
def QDf (Z : State) (a0 : Addr) (p1 : Int32) (p2 : Int32) (p3 : Int32) (p4 : Int32) (h0 : Heap) (n0 : Nat) (v : Option Value) (h : Heap) (L : List Loc) : Prop := v = none ∧ Fr n0 L ∧ h = h0
set_option maxRecDepth 65536 in
set_option maxHeartbeats 40000000 in
theorem rmDf (l : Launch) (Z : State) (az : Array Value) (hw : ∀ d ∈ tables_1, d.before az Z = true) (ws : List Jvm.Cond) (a0 : Addr) (p1 : Int32) (p2 : Int32) (p3 : Int32) (p4 : Int32) (h0 : Heap) (n0 : Nat) (Z0 : n0 ≤ h0.size) (hc0 : ¬ (p1 < p2)) :
    MetFree l (⟨cLW, "doSettle", "(Lcom/example/headlattice/headlattice/learn/Coverage;IIII)V"⟩ : MethodName) (head1 (Jvm.Cond.code (⟨cLW, "doSettle", "(Lcom/example/headlattice/headlattice/learn/Coverage;IIII)V"⟩ : MethodName) method_4_code 6 none :: ws) ({ frames := 4, cells := 6, slots := 10, locals := 150 } : Room)) (fun a U => a = #[(.ref a0), (.int p1), (.int p2), (.int p3), (.int p4)] ∧ Z.Warmed39 U.vm ∧ U.heap = h0) (fun _ _ _ _ _ => True) (fun _ U o U' => ∃ v L, o = .returned v ∧ QDf Z a0 p1 p2 p3 p4 h0 n0 v U'.heap L ∧ FrameEnd U o U' L ({ frames := 4, cells := 6, slots := 10, locals := 150 } : Room).cells ({ frames := 4, cells := 6, slots := 10, locals := 150 } : Room).slots) := by
  refine MetFree.of_bodySF (plainFor_of_name pn_com_example_headlattice_headlattice_learn_CoverageRemainingRowSetPinLaw) hisR ?_
  intro p e s m args below meth c s₁ Bd hml0 hP hK
  obtain ⟨rfl, hZ, hh⟩ := hP
  have hx := Bd.exec
  have hby := Bd.bytes
  have hml : c.maxLocals = 6 := hml0
  have hown : s.vm.findClass cLW = some m.cls := findClass_of_methodNamed Bd.named
  have hnm := (name_of_methodNamed Bd.named Bd.method).1
  have X0 : Stand p l e ({ frames := 4, cells := 6, slots := 10, locals := 150 } : Room) s m #[(.ref a0), (.int p1), (.int p2), (.int p3), (.int p4)] below meth c s₁ [] 0 0 := Stand.of_body Bd
  have e0 : s₁.heap = h0 := by rw [← hh, Bd.state]; rfl
  have N0 := Fr.nil n0
  have pre0 : ∀ t, Steps p.tables e below (s₁.setTop (mkF m 0 #[vR a0, vI p1, vI p2, vI p3, vI p4, .unset] [])) t → Steps p.tables e below (s₁.setTop (entryFrame m #[(.ref a0), (.int p1), (.int p2), (.int p3), (.int p4)] 6)) t := fun t k => castTop (ef_rmDf m a0 p1 p2 p3 p4) k
  obtain ⟨fs, hr, hrun, hended, hW, hsame⟩ := X0.leave (v := none) (fun _ => rfl)
  refine ⟨_, _, pre0 _ ?_, hrun, hended, _, _, rfl, ?_, ⟨_, rfl⟩, hW, hsame.mono (by decide) (by decide)⟩
  · show Steps p.tables e below (s₁.setTop (mkF m 0 #[vR a0, vI p1, vI p2, vI p3, vI p4, .unset] [])) _
    refine XS.iloadN X0.here hx rfl (hb hby d4_0) rfl ?_
    refine XS.iloadN X0.here hx rfl (hb hby d4_1) rfl ?_
    refine XS.icmpNo X0.here hx rfl (hb hby d4_2) rfl (flt hc0).1 ?_
    show Steps p.tables e below (s₁.setTop (mkF m 5 #[vR a0, vI p1, vI p2, vI p3, vI p4, .unset] [])) _
    exact X0.returnOut hx Bd.returns (hb hby d4_5) hr
  · show QDf Z a0 p1 p2 p3 p4 h0 n0 _ s₁.heap _
    rw [e0]
    exact ⟨rfl, N0, rfl⟩
theorem d4_6 : decode method_4_code 6 = .ok (.iload 4, 2) := by decide +kernel
theorem d4_8 : decode method_4_code 8 = .ok (.iconst 2, 1) := by decide +kernel
theorem d4_9 : decode method_4_code 9 = .ok (.iload_n 1, 1) := by decide +kernel
theorem d4_10 : decode method_4_code 10 = .ok (.imul, 1) := by decide +kernel
theorem d4_11 : decode method_4_code 11 = .ok (.iushr, 1) := by decide +kernel
theorem d4_12 : decode method_4_code 12 = .ok (.iconst 3, 1) := by decide +kernel
theorem d4_13 : decode method_4_code 13 = .ok (.iand, 1) := by decide +kernel
theorem d4_14 : decode method_4_code 14 = .ok (.istore 5, 2) := by decide +kernel
theorem d4_16 : decode method_4_code 16 = .ok (.iload 5, 2) := by decide +kernel
theorem d4_18 : decode method_4_code 18 = .ok (.iconst 1, 1) := by decide +kernel
theorem d4_19 : decode method_4_code 19 = .ok (.iand, 1) := by decide +kernel
theorem d4_20 : decode method_4_code 20 = .ok (.ifCond .eq 9, 3) := by decide +kernel
theorem d4_29 : decode method_4_code 29 = .ok (.iload 5, 2) := by decide +kernel
theorem d4_31 : decode method_4_code 31 = .ok (.iconst 2, 1) := by decide +kernel
theorem d4_32 : decode method_4_code 32 = .ok (.iand, 1) := by decide +kernel
theorem d4_33 : decode method_4_code 33 = .ok (.ifCond .eq 11, 3) := by decide +kernel
theorem d4_44 : decode method_4_code 44 = .ok (.return_, 1) := by decide +kernel
theorem ef_rmD1tt (m : MethodId) (a0 : Addr) (p1 : Int32) (p2 : Int32) (p4 : Int32) : entryFrame m #[(.ref a0), (.int p1), (.int p2), (.int (1 : Int32)), (.int p4)] 6 = mkF m 0 #[vR a0, vI p1, vI p2, vI (1 : Int32), vI p4, .unset] [] := by first | (simp [entryFrame, mkF, argsToLocals, Value.category]; done) | rfl
def QD1tt (Z : State) (a0 : Addr) (p1 : Int32) (p2 : Int32) (p4 : Int32) (rc : Int32) (st : Nat → Bool × Bool) (h0 : Heap) (n0 : Nat) (v : Option Value) (h : Heap) (L : List Loc) : Prop := v = none ∧ Fr n0 L ∧ h = h0
set_option maxRecDepth 65536 in
set_option maxHeartbeats 40000000 in
theorem rmD1tt (l : Launch) (Z : State) (az : Array Value) (hw : ∀ d ∈ tables_1, d.before az Z = true) (ws : List Jvm.Cond) (a0 : Addr) (p1 : Int32) (p2 : Int32) (p4 : Int32) (rc : Int32) (st : Nat → Bool × Bool) (h0 : Heap) (n0 : Nat) (Z0 : n0 ≤ h0.size) (E_a0 : Exa Z h0 a0 cCV) (J_c : own_Cov Z h0 n0 a0 (1 : Int32) rc st) (hc2 : p1 < p2) (hc3 : ((((p4.toUInt32 >>> (((2 : Int32) * p1) &&& 31).toUInt32).toInt32) &&& (3 : Int32)) &&& (1 : Int32)) = (0 : Int32)) (hc4 : ((((p4.toUInt32 >>> (((2 : Int32) * p1) &&& 31).toUInt32).toInt32) &&& (3 : Int32)) &&& (2 : Int32)) = (0 : Int32)) :
    MetFree l (⟨cLW, "doSettle", "(Lcom/example/headlattice/headlattice/learn/Coverage;IIII)V"⟩ : MethodName) (head1 (Jvm.Cond.code (⟨cLW, "doSettle", "(Lcom/example/headlattice/headlattice/learn/Coverage;IIII)V"⟩ : MethodName) method_4_code 6 none :: ws) ({ frames := 4, cells := 6, slots := 10, locals := 150 } : Room)) (fun a U => a = #[(.ref a0), (.int p1), (.int p2), (.int (1 : Int32)), (.int p4)] ∧ Z.Warmed39 U.vm ∧ U.heap = h0) (fun _ _ _ _ _ => True) (fun _ U o U' => ∃ v L, o = .returned v ∧ QD1tt Z a0 p1 p2 p4 rc st h0 n0 v U'.heap L ∧ FrameEnd U o U' L ({ frames := 4, cells := 6, slots := 10, locals := 150 } : Room).cells ({ frames := 4, cells := 6, slots := 10, locals := 150 } : Room).slots) := by
  refine MetFree.of_bodySF (plainFor_of_name pn_com_example_headlattice_headlattice_learn_CoverageRemainingRowSetPinLaw) hisR ?_
  intro p e s m args below meth c s₁ Bd hml0 hP hK
  obtain ⟨rfl, hZ, hh⟩ := hP
  have hx := Bd.exec
  have hby := Bd.bytes
  have hml : c.maxLocals = 6 := hml0
  have hown : s.vm.findClass cLW = some m.cls := findClass_of_methodNamed Bd.named
  have hnm := (name_of_methodNamed Bd.named Bd.method).1
  have X0 : Stand p l e ({ frames := 4, cells := 6, slots := 10, locals := 150 } : Room) s m #[(.ref a0), (.int p1), (.int p2), (.int (1 : Int32)), (.int p4)] below meth c s₁ [] 0 0 := Stand.of_body Bd
  have e0 : s₁.heap = h0 := by rw [← hh, Bd.state]; rfl
  have N0 := Fr.nil n0
  have pre0 : ∀ t, Steps p.tables e below (s₁.setTop (mkF m 0 #[vR a0, vI p1, vI p2, vI (1 : Int32), vI p4, .unset] [])) t → Steps p.tables e below (s₁.setTop (entryFrame m #[(.ref a0), (.int p1), (.int p2), (.int (1 : Int32)), (.int p4)] 6)) t := fun t k => castTop (ef_rmD1tt m a0 p1 p2 p4) k
  obtain ⟨fs, hr, hrun, hended, hW, hsame⟩ := X0.leave (v := none) (fun _ => rfl)
  refine ⟨_, _, pre0 _ ?_, hrun, hended, _, _, rfl, ?_, ⟨_, rfl⟩, hW, hsame.mono (by decide) (by decide)⟩
  · show Steps p.tables e below (s₁.setTop (mkF m 0 #[vR a0, vI p1, vI p2, vI (1 : Int32), vI p4, .unset] [])) _
    refine XS.iloadN X0.here hx rfl (hb hby d4_0) rfl ?_
    refine XS.iloadN X0.here hx rfl (hb hby d4_1) rfl ?_
    refine XS.icmpYes X0.here hx rfl (pc0 := 2) (pc' := 6) rfl (hb hby d4_2) rfl (tlt hc2).1 (by decide) (by decide) ?_
    refine XS.iload X0.here hx rfl (hb hby d4_6) rfl ?_
    refine XS.iconst X0.here hx rfl (hb hby d4_8) ?_
    refine XS.iloadN X0.here hx rfl (hb hby d4_9) rfl ?_
    refine XS.imul X0.here hx rfl (hb hby d4_10) rfl ?_
    refine XS.iushr X0.here hx rfl (hb hby d4_11) rfl ?_
    refine XS.iconst X0.here hx rfl (hb hby d4_12) ?_
    refine XS.iand X0.here hx rfl (hb hby d4_13) rfl ?_
    refine XS.istore X0.here hx rfl (hb hby d4_14) rfl (l' := #[vR a0, vI p1, vI p2, vI (1 : Int32), vI p4, vI (((p4.toUInt32 >>> (((2 : Int32) * p1) &&& 31).toUInt32).toInt32) &&& (3 : Int32))]) rfl ?_
    refine XS.iload X0.here hx rfl (hb hby d4_16) rfl ?_
    refine XS.iconst X0.here hx rfl (hb hby d4_18) ?_
    show Steps p.tables e below (s₁.setTop (mkF m 19 #[vR a0, vI p1, vI p2, vI (1 : Int32), vI p4, vI (((p4.toUInt32 >>> (((2 : Int32) * p1) &&& 31).toUInt32).toInt32) &&& (3 : Int32))] [(.int (1 : Int32)), (.int (((p4.toUInt32 >>> (((2 : Int32) * p1) &&& 31).toUInt32).toInt32) &&& (3 : Int32)))])) _
    refine XS.iand X0.here hx rfl (hb hby d4_19) rfl ?_
    refine XS.ifYes X0.here hx rfl (pc0 := 20) (pc' := 29) rfl (hb hby d4_20) rfl ((if0 _ _).trans (teq hc3).1) (by decide) (by decide) ?_
    refine XS.iload X0.here hx rfl (hb hby d4_29) rfl ?_
    refine XS.iconst X0.here hx rfl (hb hby d4_31) ?_
    refine XS.iand X0.here hx rfl (hb hby d4_32) rfl ?_
    refine XS.ifYes X0.here hx rfl (pc0 := 33) (pc' := 44) rfl (hb hby d4_33) rfl ((if0 _ _).trans (teq hc4).1) (by decide) (by decide) ?_
    show Steps p.tables e below (s₁.setTop (mkF m 44 #[vR a0, vI p1, vI p2, vI (1 : Int32), vI p4, vI (((p4.toUInt32 >>> (((2 : Int32) * p1) &&& 31).toUInt32).toInt32) &&& (3 : Int32))] [])) _
    exact X0.returnOut hx Bd.returns (hb hby d4_44) hr
  · show QD1tt Z a0 p1 p2 p4 rc st h0 n0 _ s₁.heap _
    rw [e0]
    exact ⟨rfl, N0, rfl⟩
theorem d4_36 : decode method_4_code 36 = .ok (.aload_n 0, 1) := by decide +kernel
theorem d4_37 : decode method_4_code 37 = .ok (.iload_n 1, 1) := by decide +kernel
theorem d4_38 : decode method_4_code 38 = .ok (.iload_n 3, 1) := by decide +kernel
theorem d4_39 : decode method_4_code 39 = .ok (.iconst 1, 1) := by decide +kernel
theorem d4_40 : decode method_4_code 40 = .ok (.isub, 1) := by decide +kernel
theorem d4_41 : decode method_4_code 41 = .ok (.invokevirtual 33, 3) := by decide +kernel
theorem pd_7 : parseMethodDescriptor "(II)V" = some ⟨[.int, .int], none⟩ := by decide +kernel
theorem ef_rmD1tf (m : MethodId) (a0 : Addr) (p1 : Int32) (p2 : Int32) (p4 : Int32) : entryFrame m #[(.ref a0), (.int p1), (.int p2), (.int (1 : Int32)), (.int p4)] 6 = mkF m 0 #[vR a0, vI p1, vI p2, vI (1 : Int32), vI p4, .unset] [] := by first | (simp [entryFrame, mkF, argsToLocals, Value.category]; done) | rfl
def QD1tf (Z : State) (a0 : Addr) (p1 : Int32) (p2 : Int32) (p4 : Int32) (rc : Int32) (st : Nat → Bool × Bool) (h0 : Heap) (n0 : Nat) (v : Option Value) (h : Heap) (L : List Loc) : Prop := v = none ∧ Fr n0 L ∧ n0 ≤ h.size ∧ own_Cov Z h n0 a0 (1 : Int32) rc (own_ups st (p1).toNatClampNeg (false, false))
set_option maxRecDepth 65536 in
set_option maxHeartbeats 40000000 in
theorem rmD1tf (l : Launch) (Z : State) (az : Array Value) (hw : ∀ d ∈ tables_1, d.before az Z = true) (ws : List Jvm.Cond) (a0 : Addr) (p1 : Int32) (p2 : Int32) (p4 : Int32) (rc : Int32) (st : Nat → Bool × Bool) (h0 : Heap) (n0 : Nat) (Z0 : n0 ≤ h0.size) (E_a0 : Exa Z h0 a0 cCV) (J_c : own_Cov Z h0 n0 a0 (1 : Int32) rc st) (hc2 : p1 < p2) (hc3 : ((((p4.toUInt32 >>> (((2 : Int32) * p1) &&& 31).toUInt32).toInt32) &&& (3 : Int32)) &&& (1 : Int32)) = (0 : Int32)) (hc4 : ¬ (((((p4.toUInt32 >>> (((2 : Int32) * p1) &&& 31).toUInt32).toInt32) &&& (3 : Int32)) &&& (2 : Int32)) = (0 : Int32))) (hc5 : ¬ (p1 < (0 : Int32))) (hc6 : p1 < rc) (hc7 : p1 < (8 : Int32)) (hc8 : st (p1).toNatClampNeg = (true, false)) :
    MetFree l (⟨cLW, "doSettle", "(Lcom/example/headlattice/headlattice/learn/Coverage;IIII)V"⟩ : MethodName) (head1 (Jvm.Cond.code (⟨cLW, "doSettle", "(Lcom/example/headlattice/headlattice/learn/Coverage;IIII)V"⟩ : MethodName) method_4_code 6 none :: ws) ({ frames := 4, cells := 6, slots := 10, locals := 150 } : Room)) (fun a U => a = #[(.ref a0), (.int p1), (.int p2), (.int (1 : Int32)), (.int p4)] ∧ Z.Warmed39 U.vm ∧ U.heap = h0) (fun _ _ _ _ _ => True) (fun _ U o U' => ∃ v L, o = .returned v ∧ QD1tf Z a0 p1 p2 p4 rc st h0 n0 v U'.heap L ∧ FrameEnd U o U' L ({ frames := 4, cells := 6, slots := 10, locals := 150 } : Room).cells ({ frames := 4, cells := 6, slots := 10, locals := 150 } : Room).slots) := by
  refine MetFree.of_bodySF (plainFor_of_name pn_com_example_headlattice_headlattice_learn_CoverageRemainingRowSetPinLaw) hisR ?_
  intro p e s m args below meth c s₁ Bd hml0 hP hK
  obtain ⟨rfl, hZ, hh⟩ := hP
  have hx := Bd.exec
  have hby := Bd.bytes
  have hml : c.maxLocals = 6 := hml0
  have hown : s.vm.findClass cLW = some m.cls := findClass_of_methodNamed Bd.named
  have hnm := (name_of_methodNamed Bd.named Bd.method).1
  have X0 : Stand p l e ({ frames := 4, cells := 6, slots := 10, locals := 150 } : Room) s m #[(.ref a0), (.int p1), (.int p2), (.int (1 : Int32)), (.int p4)] below meth c s₁ [] 0 0 := Stand.of_body Bd
  have e0 : s₁.heap = h0 := by rw [← hh, Bd.state]; rfl
  have N0 := Fr.nil n0
  have pre0 : ∀ t, Steps p.tables e below (s₁.setTop (mkF m 0 #[vR a0, vI p1, vI p2, vI (1 : Int32), vI p4, .unset] [])) t → Steps p.tables e below (s₁.setTop (entryFrame m #[(.ref a0), (.int p1), (.int p2), (.int (1 : Int32)), (.int p4)] 6)) t := fun t k => castTop (ef_rmD1tf m a0 p1 p2 p4) k
  obtain ⟨cq1, kq1, q1a, q1b, q1c⟩ := isOf hZ e0 E_a0
  obtain ⟨_, _, ⟨T1, L1, k1', n1'⟩, -, X1, ⟨Lc1, hQ1, l1, y1, z1⟩, st1⟩ := X0.virtualBack hx (y := (⟨cCV, "settle", "(II)V"⟩ : MethodName)) (z := (⟨cCV, "settle", "(II)V"⟩ : MethodName)) hown (mvT hZ (w57 hw)) (mvT hZ (w58 hw)) (notFace_of_selects (args := #[]) (mvT hZ (w60 hw))) (mvT hZ (w60 hw)) (mvT hZ (w59 hw)) (by decide) (backOf (W := 0) (rmS10a l Z az hw [] a0 p1 rc st h0 n0 Z0 E_a0 J_c hc5 hc6 hc7 hc8) hZ (w61 hw) (w2 hw) (by decide) (by decide)) q1a q1c (g := (mkF m 41 #[vR a0, vI p1, vI p2, vI (1 : Int32), vI p4, vI (((p4.toUInt32 >>> (((2 : Int32) * p1) &&& 31).toUInt32).toInt32) &&& (3 : Int32))] [(.int (0 : Int32)), (.int p1), (.ref a0)])) rfl (by rw [hml]; rfl) (Steps.refl _) (argsL := [(.int p1), (.int (0 : Int32))]) (rest := []) (lenOf pd_7 rfl) rfl (by show 2 * 0 + _ ≤ _; exact Nat.le_of_eq rfl) (hb hby d4_41) (fun _ _ => ⟨rfl, e0, (by decide : 0 + 3 ≤ _), (by decide : 0 + 5 ≤ _)⟩)
  dsimp only [Pt.U, Pt.locs, Pt.cells, Pt.slots] at X1 l1 y1 z1 st1 hQ1
  subst l1 y1 z1
  obtain ⟨rfl, N1q, kq1, pf1_0, pf1_1⟩ := hQ1
  obtain ⟨Lg1, X1', N1⟩ := own_gen X1 (Fr.app N0 N1q)
  obtain ⟨fs, hr, hrun, hended, hW, hsame⟩ := X1'.leave (v := none) (fun _ => rfl)
  refine ⟨_, _, pre0 _ ?_, hrun, hended, _, _, rfl, ?_, ⟨_, rfl⟩, hW, hsame.mono (by decide) (by decide)⟩
  · show Steps p.tables e below (s₁.setTop (mkF m 0 #[vR a0, vI p1, vI p2, vI (1 : Int32), vI p4, .unset] [])) _
    refine XS.iloadN X0.here hx rfl (hb hby d4_0) rfl ?_
    refine XS.iloadN X0.here hx rfl (hb hby d4_1) rfl ?_
    refine XS.icmpYes X0.here hx rfl (pc0 := 2) (pc' := 6) rfl (hb hby d4_2) rfl (tlt hc2).1 (by decide) (by decide) ?_
    refine XS.iload X0.here hx rfl (hb hby d4_6) rfl ?_
    refine XS.iconst X0.here hx rfl (hb hby d4_8) ?_
    refine XS.iloadN X0.here hx rfl (hb hby d4_9) rfl ?_
    refine XS.imul X0.here hx rfl (hb hby d4_10) rfl ?_
    refine XS.iushr X0.here hx rfl (hb hby d4_11) rfl ?_
    refine XS.iconst X0.here hx rfl (hb hby d4_12) ?_
    refine XS.iand X0.here hx rfl (hb hby d4_13) rfl ?_
    refine XS.istore X0.here hx rfl (hb hby d4_14) rfl (l' := #[vR a0, vI p1, vI p2, vI (1 : Int32), vI p4, vI (((p4.toUInt32 >>> (((2 : Int32) * p1) &&& 31).toUInt32).toInt32) &&& (3 : Int32))]) rfl ?_
    refine XS.iload X0.here hx rfl (hb hby d4_16) rfl ?_
    refine XS.iconst X0.here hx rfl (hb hby d4_18) ?_
    show Steps p.tables e below (s₁.setTop (mkF m 19 #[vR a0, vI p1, vI p2, vI (1 : Int32), vI p4, vI (((p4.toUInt32 >>> (((2 : Int32) * p1) &&& 31).toUInt32).toInt32) &&& (3 : Int32))] [(.int (1 : Int32)), (.int (((p4.toUInt32 >>> (((2 : Int32) * p1) &&& 31).toUInt32).toInt32) &&& (3 : Int32)))])) _
    refine XS.iand X0.here hx rfl (hb hby d4_19) rfl ?_
    refine XS.ifYes X0.here hx rfl (pc0 := 20) (pc' := 29) rfl (hb hby d4_20) rfl ((if0 _ _).trans (teq hc3).1) (by decide) (by decide) ?_
    refine XS.iload X0.here hx rfl (hb hby d4_29) rfl ?_
    refine XS.iconst X0.here hx rfl (hb hby d4_31) ?_
    refine XS.iand X0.here hx rfl (hb hby d4_32) rfl ?_
    refine XS.ifNo X0.here hx rfl (hb hby d4_33) rfl ((if0 _ _).trans (feq hc4).1) ?_
    refine XS.aloadN X0.here hx rfl (hb hby d4_36) rfl rfl ?_
    refine XS.iloadN X0.here hx rfl (hb hby d4_37) rfl ?_
    refine XS.iloadN X0.here hx rfl (hb hby d4_38) rfl ?_
    refine XS.iconst X0.here hx rfl (hb hby d4_39) ?_
    refine XS.isub X0.here hx rfl (hb hby d4_40) rfl ?_
    show Steps p.tables e below (s₁.setTop (mkF m 41 #[vR a0, vI p1, vI p2, vI (1 : Int32), vI p4, vI (((p4.toUInt32 >>> (((2 : Int32) * p1) &&& 31).toUInt32).toInt32) &&& (3 : Int32))] [(.int (0 : Int32)), (.int p1), (.ref a0)])) _
    refine st1.trans ?_
    show Steps p.tables e below (T1.setTop (mkF m 44 #[vR a0, vI p1, vI p2, vI (1 : Int32), vI p4, vI (((p4.toUInt32 >>> (((2 : Int32) * p1) &&& 31).toUInt32).toInt32) &&& (3 : Int32))] [])) _
    exact X1'.returnOut hx Bd.returns (hb hby d4_44) hr
  · show QD1tf Z a0 p1 p2 p4 rc st h0 n0 _ T1.heap _
    exact ⟨rfl, N1, kq1, pf1_1⟩
theorem d4_23 : decode method_4_code 23 = .ok (.aload_n 0, 1) := by decide +kernel
theorem d4_24 : decode method_4_code 24 = .ok (.iload_n 1, 1) := by decide +kernel
theorem d4_25 : decode method_4_code 25 = .ok (.iconst 0, 1) := by decide +kernel
theorem d4_26 : decode method_4_code 26 = .ok (.invokevirtual 33, 3) := by decide +kernel
theorem ef_rmD1ft (m : MethodId) (a0 : Addr) (p1 : Int32) (p2 : Int32) (p4 : Int32) : entryFrame m #[(.ref a0), (.int p1), (.int p2), (.int (1 : Int32)), (.int p4)] 6 = mkF m 0 #[vR a0, vI p1, vI p2, vI (1 : Int32), vI p4, .unset] [] := by first | (simp [entryFrame, mkF, argsToLocals, Value.category]; done) | rfl
def QD1ft (Z : State) (a0 : Addr) (p1 : Int32) (p2 : Int32) (p4 : Int32) (rc : Int32) (st : Nat → Bool × Bool) (h0 : Heap) (n0 : Nat) (v : Option Value) (h : Heap) (L : List Loc) : Prop := v = none ∧ Fr n0 L ∧ n0 ≤ h.size ∧ own_Cov Z h n0 a0 (1 : Int32) rc (own_ups st (p1).toNatClampNeg (false, false))
set_option maxRecDepth 65536 in
set_option maxHeartbeats 40000000 in
theorem rmD1ft (l : Launch) (Z : State) (az : Array Value) (hw : ∀ d ∈ tables_1, d.before az Z = true) (ws : List Jvm.Cond) (a0 : Addr) (p1 : Int32) (p2 : Int32) (p4 : Int32) (rc : Int32) (st : Nat → Bool × Bool) (h0 : Heap) (n0 : Nat) (Z0 : n0 ≤ h0.size) (E_a0 : Exa Z h0 a0 cCV) (J_c : own_Cov Z h0 n0 a0 (1 : Int32) rc st) (hc2 : p1 < p2) (hc3 : ¬ (((((p4.toUInt32 >>> (((2 : Int32) * p1) &&& 31).toUInt32).toInt32) &&& (3 : Int32)) &&& (1 : Int32)) = (0 : Int32))) (hc4 : ¬ (p1 < (0 : Int32))) (hc5 : p1 < rc) (hc6 : p1 < (8 : Int32)) (hc7 : st (p1).toNatClampNeg = (true, false)) (hc8 : ((((p4.toUInt32 >>> (((2 : Int32) * p1) &&& 31).toUInt32).toInt32) &&& (3 : Int32)) &&& (2 : Int32)) = (0 : Int32)) :
    MetFree l (⟨cLW, "doSettle", "(Lcom/example/headlattice/headlattice/learn/Coverage;IIII)V"⟩ : MethodName) (head1 (Jvm.Cond.code (⟨cLW, "doSettle", "(Lcom/example/headlattice/headlattice/learn/Coverage;IIII)V"⟩ : MethodName) method_4_code 6 none :: ws) ({ frames := 4, cells := 6, slots := 10, locals := 150 } : Room)) (fun a U => a = #[(.ref a0), (.int p1), (.int p2), (.int (1 : Int32)), (.int p4)] ∧ Z.Warmed39 U.vm ∧ U.heap = h0) (fun _ _ _ _ _ => True) (fun _ U o U' => ∃ v L, o = .returned v ∧ QD1ft Z a0 p1 p2 p4 rc st h0 n0 v U'.heap L ∧ FrameEnd U o U' L ({ frames := 4, cells := 6, slots := 10, locals := 150 } : Room).cells ({ frames := 4, cells := 6, slots := 10, locals := 150 } : Room).slots) := by
  refine MetFree.of_bodySF (plainFor_of_name pn_com_example_headlattice_headlattice_learn_CoverageRemainingRowSetPinLaw) hisR ?_
  intro p e s m args below meth c s₁ Bd hml0 hP hK
  obtain ⟨rfl, hZ, hh⟩ := hP
  have hx := Bd.exec
  have hby := Bd.bytes
  have hml : c.maxLocals = 6 := hml0
  have hown : s.vm.findClass cLW = some m.cls := findClass_of_methodNamed Bd.named
  have hnm := (name_of_methodNamed Bd.named Bd.method).1
  have X0 : Stand p l e ({ frames := 4, cells := 6, slots := 10, locals := 150 } : Room) s m #[(.ref a0), (.int p1), (.int p2), (.int (1 : Int32)), (.int p4)] below meth c s₁ [] 0 0 := Stand.of_body Bd
  have e0 : s₁.heap = h0 := by rw [← hh, Bd.state]; rfl
  have N0 := Fr.nil n0
  have pre0 : ∀ t, Steps p.tables e below (s₁.setTop (mkF m 0 #[vR a0, vI p1, vI p2, vI (1 : Int32), vI p4, .unset] [])) t → Steps p.tables e below (s₁.setTop (entryFrame m #[(.ref a0), (.int p1), (.int p2), (.int (1 : Int32)), (.int p4)] 6)) t := fun t k => castTop (ef_rmD1ft m a0 p1 p2 p4) k
  obtain ⟨cq1, kq1, q1a, q1b, q1c⟩ := isOf hZ e0 E_a0
  obtain ⟨_, _, ⟨T1, L1, k1', n1'⟩, -, X1, ⟨Lc1, hQ1, l1, y1, z1⟩, st1⟩ := X0.virtualBack hx (y := (⟨cCV, "settle", "(II)V"⟩ : MethodName)) (z := (⟨cCV, "settle", "(II)V"⟩ : MethodName)) hown (mvT hZ (w57 hw)) (mvT hZ (w58 hw)) (notFace_of_selects (args := #[]) (mvT hZ (w60 hw))) (mvT hZ (w60 hw)) (mvT hZ (w59 hw)) (by decide) (backOf (W := 0) (rmS10a l Z az hw [] a0 p1 rc st h0 n0 Z0 E_a0 J_c hc4 hc5 hc6 hc7) hZ (w61 hw) (w2 hw) (by decide) (by decide)) q1a q1c (g := (mkF m 26 #[vR a0, vI p1, vI p2, vI (1 : Int32), vI p4, vI (((p4.toUInt32 >>> (((2 : Int32) * p1) &&& 31).toUInt32).toInt32) &&& (3 : Int32))] [(.int (0 : Int32)), (.int p1), (.ref a0)])) rfl (by rw [hml]; rfl) (Steps.refl _) (argsL := [(.int p1), (.int (0 : Int32))]) (rest := []) (lenOf pd_7 rfl) rfl (by show 2 * 0 + _ ≤ _; exact Nat.le_of_eq rfl) (hb hby d4_26) (fun _ _ => ⟨rfl, e0, (by decide : 0 + 3 ≤ _), (by decide : 0 + 5 ≤ _)⟩)
  dsimp only [Pt.U, Pt.locs, Pt.cells, Pt.slots] at X1 l1 y1 z1 st1 hQ1
  subst l1 y1 z1
  obtain ⟨rfl, N1q, kq1, pf1_0, pf1_1⟩ := hQ1
  obtain ⟨Lg1, X1', N1⟩ := own_gen X1 (Fr.app N0 N1q)
  obtain ⟨fs, hr, hrun, hended, hW, hsame⟩ := X1'.leave (v := none) (fun _ => rfl)
  refine ⟨_, _, pre0 _ ?_, hrun, hended, _, _, rfl, ?_, ⟨_, rfl⟩, hW, hsame.mono (by decide) (by decide)⟩
  · show Steps p.tables e below (s₁.setTop (mkF m 0 #[vR a0, vI p1, vI p2, vI (1 : Int32), vI p4, .unset] [])) _
    refine XS.iloadN X0.here hx rfl (hb hby d4_0) rfl ?_
    refine XS.iloadN X0.here hx rfl (hb hby d4_1) rfl ?_
    refine XS.icmpYes X0.here hx rfl (pc0 := 2) (pc' := 6) rfl (hb hby d4_2) rfl (tlt hc2).1 (by decide) (by decide) ?_
    refine XS.iload X0.here hx rfl (hb hby d4_6) rfl ?_
    refine XS.iconst X0.here hx rfl (hb hby d4_8) ?_
    refine XS.iloadN X0.here hx rfl (hb hby d4_9) rfl ?_
    refine XS.imul X0.here hx rfl (hb hby d4_10) rfl ?_
    refine XS.iushr X0.here hx rfl (hb hby d4_11) rfl ?_
    refine XS.iconst X0.here hx rfl (hb hby d4_12) ?_
    refine XS.iand X0.here hx rfl (hb hby d4_13) rfl ?_
    refine XS.istore X0.here hx rfl (hb hby d4_14) rfl (l' := #[vR a0, vI p1, vI p2, vI (1 : Int32), vI p4, vI (((p4.toUInt32 >>> (((2 : Int32) * p1) &&& 31).toUInt32).toInt32) &&& (3 : Int32))]) rfl ?_
    refine XS.iload X0.here hx rfl (hb hby d4_16) rfl ?_
    refine XS.iconst X0.here hx rfl (hb hby d4_18) ?_
    show Steps p.tables e below (s₁.setTop (mkF m 19 #[vR a0, vI p1, vI p2, vI (1 : Int32), vI p4, vI (((p4.toUInt32 >>> (((2 : Int32) * p1) &&& 31).toUInt32).toInt32) &&& (3 : Int32))] [(.int (1 : Int32)), (.int (((p4.toUInt32 >>> (((2 : Int32) * p1) &&& 31).toUInt32).toInt32) &&& (3 : Int32)))])) _
    refine XS.iand X0.here hx rfl (hb hby d4_19) rfl ?_
    refine XS.ifNo X0.here hx rfl (hb hby d4_20) rfl ((if0 _ _).trans (feq hc3).1) ?_
    refine XS.aloadN X0.here hx rfl (hb hby d4_23) rfl rfl ?_
    refine XS.iloadN X0.here hx rfl (hb hby d4_24) rfl ?_
    refine XS.iconst X0.here hx rfl (hb hby d4_25) ?_
    show Steps p.tables e below (s₁.setTop (mkF m 26 #[vR a0, vI p1, vI p2, vI (1 : Int32), vI p4, vI (((p4.toUInt32 >>> (((2 : Int32) * p1) &&& 31).toUInt32).toInt32) &&& (3 : Int32))] [(.int (0 : Int32)), (.int p1), (.ref a0)])) _
    refine st1.trans ?_
    show Steps p.tables e below (T1.setTop (mkF m 29 #[vR a0, vI p1, vI p2, vI (1 : Int32), vI p4, vI (((p4.toUInt32 >>> (((2 : Int32) * p1) &&& 31).toUInt32).toInt32) &&& (3 : Int32))] [])) _
    refine XS.iload X1'.here hx rfl (hb hby d4_29) rfl ?_
    refine XS.iconst X1'.here hx rfl (hb hby d4_31) ?_
    refine XS.iand X1'.here hx rfl (hb hby d4_32) rfl ?_
    refine XS.ifYes X1'.here hx rfl (pc0 := 33) (pc' := 44) rfl (hb hby d4_33) rfl ((if0 _ _).trans (teq hc8).1) (by decide) (by decide) ?_
    show Steps p.tables e below (T1.setTop (mkF m 44 #[vR a0, vI p1, vI p2, vI (1 : Int32), vI p4, vI (((p4.toUInt32 >>> (((2 : Int32) * p1) &&& 31).toUInt32).toInt32) &&& (3 : Int32))] [])) _
    exact X1'.returnOut hx Bd.returns (hb hby d4_44) hr
  · show QD1ft Z a0 p1 p2 p4 rc st h0 n0 _ T1.heap _
    exact ⟨rfl, N1, kq1, pf1_1⟩
theorem ef_rmD1ff (m : MethodId) (a0 : Addr) (p1 : Int32) (p2 : Int32) (p4 : Int32) : entryFrame m #[(.ref a0), (.int p1), (.int p2), (.int (1 : Int32)), (.int p4)] 6 = mkF m 0 #[vR a0, vI p1, vI p2, vI (1 : Int32), vI p4, .unset] [] := by first | (simp [entryFrame, mkF, argsToLocals, Value.category]; done) | rfl
def QD1ff (Z : State) (a0 : Addr) (p1 : Int32) (p2 : Int32) (p4 : Int32) (rc : Int32) (st : Nat → Bool × Bool) (h0 : Heap) (n0 : Nat) (v : Option Value) (h : Heap) (L : List Loc) : Prop := v = none ∧ Fr n0 L ∧ n0 ≤ h.size ∧ own_Cov Z h n0 a0 (1 : Int32) rc (own_ups (own_ups st (p1).toNatClampNeg (false, false)) (p1).toNatClampNeg (false, false))
set_option maxRecDepth 65536 in
set_option maxHeartbeats 40000000 in
theorem rmD1ff (l : Launch) (Z : State) (az : Array Value) (hw : ∀ d ∈ tables_1, d.before az Z = true) (ws : List Jvm.Cond) (a0 : Addr) (p1 : Int32) (p2 : Int32) (p4 : Int32) (rc : Int32) (st : Nat → Bool × Bool) (h0 : Heap) (n0 : Nat) (Z0 : n0 ≤ h0.size) (E_a0 : Exa Z h0 a0 cCV) (J_c : own_Cov Z h0 n0 a0 (1 : Int32) rc st) (hc2 : p1 < p2) (hc3 : ¬ (((((p4.toUInt32 >>> (((2 : Int32) * p1) &&& 31).toUInt32).toInt32) &&& (3 : Int32)) &&& (1 : Int32)) = (0 : Int32))) (hc4 : ¬ (p1 < (0 : Int32))) (hc5 : p1 < rc) (hc6 : p1 < (8 : Int32)) (hc7 : st (p1).toNatClampNeg = (true, false)) (hc8 : ¬ (((((p4.toUInt32 >>> (((2 : Int32) * p1) &&& 31).toUInt32).toInt32) &&& (3 : Int32)) &&& (2 : Int32)) = (0 : Int32))) (hc9 : (own_ups st (p1).toNatClampNeg (false, false)) (p1).toNatClampNeg = (false, false)) :
    MetFree l (⟨cLW, "doSettle", "(Lcom/example/headlattice/headlattice/learn/Coverage;IIII)V"⟩ : MethodName) (head1 (Jvm.Cond.code (⟨cLW, "doSettle", "(Lcom/example/headlattice/headlattice/learn/Coverage;IIII)V"⟩ : MethodName) method_4_code 6 none :: ws) ({ frames := 4, cells := 6, slots := 10, locals := 150 } : Room)) (fun a U => a = #[(.ref a0), (.int p1), (.int p2), (.int (1 : Int32)), (.int p4)] ∧ Z.Warmed39 U.vm ∧ U.heap = h0) (fun _ _ _ _ _ => True) (fun _ U o U' => ∃ v L, o = .returned v ∧ QD1ff Z a0 p1 p2 p4 rc st h0 n0 v U'.heap L ∧ FrameEnd U o U' L ({ frames := 4, cells := 6, slots := 10, locals := 150 } : Room).cells ({ frames := 4, cells := 6, slots := 10, locals := 150 } : Room).slots) := by
  refine MetFree.of_bodySF (plainFor_of_name pn_com_example_headlattice_headlattice_learn_CoverageRemainingRowSetPinLaw) hisR ?_
  intro p e s m args below meth c s₁ Bd hml0 hP hK
  obtain ⟨rfl, hZ, hh⟩ := hP
  have hx := Bd.exec
  have hby := Bd.bytes
  have hml : c.maxLocals = 6 := hml0
  have hown : s.vm.findClass cLW = some m.cls := findClass_of_methodNamed Bd.named
  have hnm := (name_of_methodNamed Bd.named Bd.method).1
  have X0 : Stand p l e ({ frames := 4, cells := 6, slots := 10, locals := 150 } : Room) s m #[(.ref a0), (.int p1), (.int p2), (.int (1 : Int32)), (.int p4)] below meth c s₁ [] 0 0 := Stand.of_body Bd
  have e0 : s₁.heap = h0 := by rw [← hh, Bd.state]; rfl
  have N0 := Fr.nil n0
  have pre0 : ∀ t, Steps p.tables e below (s₁.setTop (mkF m 0 #[vR a0, vI p1, vI p2, vI (1 : Int32), vI p4, .unset] [])) t → Steps p.tables e below (s₁.setTop (entryFrame m #[(.ref a0), (.int p1), (.int p2), (.int (1 : Int32)), (.int p4)] 6)) t := fun t k => castTop (ef_rmD1ff m a0 p1 p2 p4) k
  obtain ⟨cq1, kq1, q1a, q1b, q1c⟩ := isOf hZ e0 E_a0
  obtain ⟨_, _, ⟨T1, L1, k1', n1'⟩, -, X1, ⟨Lc1, hQ1, l1, y1, z1⟩, st1⟩ := X0.virtualBack hx (y := (⟨cCV, "settle", "(II)V"⟩ : MethodName)) (z := (⟨cCV, "settle", "(II)V"⟩ : MethodName)) hown (mvT hZ (w57 hw)) (mvT hZ (w58 hw)) (notFace_of_selects (args := #[]) (mvT hZ (w60 hw))) (mvT hZ (w60 hw)) (mvT hZ (w59 hw)) (by decide) (backOf (W := 0) (rmS10a l Z az hw [] a0 p1 rc st h0 n0 Z0 E_a0 J_c hc4 hc5 hc6 hc7) hZ (w61 hw) (w2 hw) (by decide) (by decide)) q1a q1c (g := (mkF m 26 #[vR a0, vI p1, vI p2, vI (1 : Int32), vI p4, vI (((p4.toUInt32 >>> (((2 : Int32) * p1) &&& 31).toUInt32).toInt32) &&& (3 : Int32))] [(.int (0 : Int32)), (.int p1), (.ref a0)])) rfl (by rw [hml]; rfl) (Steps.refl _) (argsL := [(.int p1), (.int (0 : Int32))]) (rest := []) (lenOf pd_7 rfl) rfl (by show 2 * 0 + _ ≤ _; exact Nat.le_of_eq rfl) (hb hby d4_26) (fun _ _ => ⟨rfl, e0, (by decide : 0 + 3 ≤ _), (by decide : 0 + 5 ≤ _)⟩)
  dsimp only [Pt.U, Pt.locs, Pt.cells, Pt.slots] at X1 l1 y1 z1 st1 hQ1
  subst l1 y1 z1
  obtain ⟨rfl, N1q, kq1, pf1_0, pf1_1⟩ := hQ1
  obtain ⟨Lg1, X1', N1⟩ := own_gen X1 (Fr.app N0 N1q)
  obtain ⟨cq2, kq2, q2a, q2b, q2c⟩ := isOf hZ rfl pf1_0
  obtain ⟨_, _, ⟨T2, L2, k2', n2'⟩, -, X2, ⟨Lc2, hQ2, l2, y2, z2⟩, st2⟩ := X1'.virtualBack hx (y := (⟨cCV, "settle", "(II)V"⟩ : MethodName)) (z := (⟨cCV, "settle", "(II)V"⟩ : MethodName)) hown (mvT hZ (w57 hw)) (mvT hZ (w58 hw)) (notFace_of_selects (args := #[]) (mvT hZ (w60 hw))) (mvT hZ (w60 hw)) (mvT hZ (w59 hw)) (by decide) (backOf (W := 0) (rmS10b l Z az hw [] a0 p1 rc (own_ups st (p1).toNatClampNeg (false, false)) T1.heap n0 kq1 pf1_0 pf1_1 hc4 hc5 hc6 hc9) hZ (w61 hw) (w2 hw) (by decide) (by decide)) q2a q2c (g := (mkF m 41 #[vR a0, vI p1, vI p2, vI (1 : Int32), vI p4, vI (((p4.toUInt32 >>> (((2 : Int32) * p1) &&& 31).toUInt32).toInt32) &&& (3 : Int32))] [(.int (0 : Int32)), (.int p1), (.ref a0)])) rfl (by rw [hml]; rfl) (Steps.refl _) (argsL := [(.int p1), (.int (0 : Int32))]) (rest := []) (lenOf pd_7 rfl) rfl (by show 2 * 0 + _ ≤ _; exact Nat.le_of_eq rfl) (hb hby d4_41) (fun _ _ => ⟨rfl, rfl, (by decide : 3 + 3 ≤ _), (by decide : 5 + 5 ≤ _)⟩)
  dsimp only [Pt.U, Pt.locs, Pt.cells, Pt.slots] at X2 l2 y2 z2 st2 hQ2
  subst l2 y2 z2
  obtain ⟨rfl, N2q, kq2, pf2_0, pf2_1⟩ := hQ2
  obtain ⟨Lg2, X2', N2⟩ := own_gen X2 (Fr.app N1 N2q)
  obtain ⟨fs, hr, hrun, hended, hW, hsame⟩ := X2'.leave (v := none) (fun _ => rfl)
  refine ⟨_, _, pre0 _ ?_, hrun, hended, _, _, rfl, ?_, ⟨_, rfl⟩, hW, hsame.mono (by decide) (by decide)⟩
  · show Steps p.tables e below (s₁.setTop (mkF m 0 #[vR a0, vI p1, vI p2, vI (1 : Int32), vI p4, .unset] [])) _
    refine XS.iloadN X0.here hx rfl (hb hby d4_0) rfl ?_
    refine XS.iloadN X0.here hx rfl (hb hby d4_1) rfl ?_
    refine XS.icmpYes X0.here hx rfl (pc0 := 2) (pc' := 6) rfl (hb hby d4_2) rfl (tlt hc2).1 (by decide) (by decide) ?_
    refine XS.iload X0.here hx rfl (hb hby d4_6) rfl ?_
    refine XS.iconst X0.here hx rfl (hb hby d4_8) ?_
    refine XS.iloadN X0.here hx rfl (hb hby d4_9) rfl ?_
    refine XS.imul X0.here hx rfl (hb hby d4_10) rfl ?_
    refine XS.iushr X0.here hx rfl (hb hby d4_11) rfl ?_
    refine XS.iconst X0.here hx rfl (hb hby d4_12) ?_
    refine XS.iand X0.here hx rfl (hb hby d4_13) rfl ?_
    refine XS.istore X0.here hx rfl (hb hby d4_14) rfl (l' := #[vR a0, vI p1, vI p2, vI (1 : Int32), vI p4, vI (((p4.toUInt32 >>> (((2 : Int32) * p1) &&& 31).toUInt32).toInt32) &&& (3 : Int32))]) rfl ?_
    refine XS.iload X0.here hx rfl (hb hby d4_16) rfl ?_
    refine XS.iconst X0.here hx rfl (hb hby d4_18) ?_
    show Steps p.tables e below (s₁.setTop (mkF m 19 #[vR a0, vI p1, vI p2, vI (1 : Int32), vI p4, vI (((p4.toUInt32 >>> (((2 : Int32) * p1) &&& 31).toUInt32).toInt32) &&& (3 : Int32))] [(.int (1 : Int32)), (.int (((p4.toUInt32 >>> (((2 : Int32) * p1) &&& 31).toUInt32).toInt32) &&& (3 : Int32)))])) _
    refine XS.iand X0.here hx rfl (hb hby d4_19) rfl ?_
    refine XS.ifNo X0.here hx rfl (hb hby d4_20) rfl ((if0 _ _).trans (feq hc3).1) ?_
    refine XS.aloadN X0.here hx rfl (hb hby d4_23) rfl rfl ?_
    refine XS.iloadN X0.here hx rfl (hb hby d4_24) rfl ?_
    refine XS.iconst X0.here hx rfl (hb hby d4_25) ?_
    show Steps p.tables e below (s₁.setTop (mkF m 26 #[vR a0, vI p1, vI p2, vI (1 : Int32), vI p4, vI (((p4.toUInt32 >>> (((2 : Int32) * p1) &&& 31).toUInt32).toInt32) &&& (3 : Int32))] [(.int (0 : Int32)), (.int p1), (.ref a0)])) _
    refine st1.trans ?_
    show Steps p.tables e below (T1.setTop (mkF m 29 #[vR a0, vI p1, vI p2, vI (1 : Int32), vI p4, vI (((p4.toUInt32 >>> (((2 : Int32) * p1) &&& 31).toUInt32).toInt32) &&& (3 : Int32))] [])) _
    refine XS.iload X1'.here hx rfl (hb hby d4_29) rfl ?_
    refine XS.iconst X1'.here hx rfl (hb hby d4_31) ?_
    refine XS.iand X1'.here hx rfl (hb hby d4_32) rfl ?_
    refine XS.ifNo X1'.here hx rfl (hb hby d4_33) rfl ((if0 _ _).trans (feq hc8).1) ?_
    refine XS.aloadN X1'.here hx rfl (hb hby d4_36) rfl rfl ?_
    refine XS.iloadN X1'.here hx rfl (hb hby d4_37) rfl ?_
    refine XS.iloadN X1'.here hx rfl (hb hby d4_38) rfl ?_
    refine XS.iconst X1'.here hx rfl (hb hby d4_39) ?_
    refine XS.isub X1'.here hx rfl (hb hby d4_40) rfl ?_
    show Steps p.tables e below (T1.setTop (mkF m 41 #[vR a0, vI p1, vI p2, vI (1 : Int32), vI p4, vI (((p4.toUInt32 >>> (((2 : Int32) * p1) &&& 31).toUInt32).toInt32) &&& (3 : Int32))] [(.int (0 : Int32)), (.int p1), (.ref a0)])) _
    refine st2.trans ?_
    show Steps p.tables e below (T2.setTop (mkF m 44 #[vR a0, vI p1, vI p2, vI (1 : Int32), vI p4, vI (((p4.toUInt32 >>> (((2 : Int32) * p1) &&& 31).toUInt32).toInt32) &&& (3 : Int32))] [])) _
    exact X2'.returnOut hx Bd.returns (hb hby d4_44) hr
  · show QD1ff Z a0 p1 p2 p4 rc st h0 n0 _ T2.heap _
    exact ⟨rfl, N2, kq2, pf2_1⟩
theorem ef_rmD2tt (m : MethodId) (a0 : Addr) (p1 : Int32) (p2 : Int32) (p4 : Int32) : entryFrame m #[(.ref a0), (.int p1), (.int p2), (.int (2 : Int32)), (.int p4)] 6 = mkF m 0 #[vR a0, vI p1, vI p2, vI (2 : Int32), vI p4, .unset] [] := by first | (simp [entryFrame, mkF, argsToLocals, Value.category]; done) | rfl
def QD2tt (Z : State) (a0 : Addr) (p1 : Int32) (p2 : Int32) (p4 : Int32) (rc : Int32) (st : Nat → Bool × Bool) (h0 : Heap) (n0 : Nat) (v : Option Value) (h : Heap) (L : List Loc) : Prop := v = none ∧ Fr n0 L ∧ h = h0
set_option maxRecDepth 65536 in
set_option maxHeartbeats 40000000 in
theorem rmD2tt (l : Launch) (Z : State) (az : Array Value) (hw : ∀ d ∈ tables_1, d.before az Z = true) (ws : List Jvm.Cond) (a0 : Addr) (p1 : Int32) (p2 : Int32) (p4 : Int32) (rc : Int32) (st : Nat → Bool × Bool) (h0 : Heap) (n0 : Nat) (Z0 : n0 ≤ h0.size) (E_a0 : Exa Z h0 a0 cCV) (J_c : own_Cov Z h0 n0 a0 (2 : Int32) rc st) (hc2 : p1 < p2) (hc3 : ((((p4.toUInt32 >>> (((2 : Int32) * p1) &&& 31).toUInt32).toInt32) &&& (3 : Int32)) &&& (1 : Int32)) = (0 : Int32)) (hc4 : ((((p4.toUInt32 >>> (((2 : Int32) * p1) &&& 31).toUInt32).toInt32) &&& (3 : Int32)) &&& (2 : Int32)) = (0 : Int32)) :
    MetFree l (⟨cLW, "doSettle", "(Lcom/example/headlattice/headlattice/learn/Coverage;IIII)V"⟩ : MethodName) (head1 (Jvm.Cond.code (⟨cLW, "doSettle", "(Lcom/example/headlattice/headlattice/learn/Coverage;IIII)V"⟩ : MethodName) method_4_code 6 none :: ws) ({ frames := 4, cells := 6, slots := 10, locals := 150 } : Room)) (fun a U => a = #[(.ref a0), (.int p1), (.int p2), (.int (2 : Int32)), (.int p4)] ∧ Z.Warmed39 U.vm ∧ U.heap = h0) (fun _ _ _ _ _ => True) (fun _ U o U' => ∃ v L, o = .returned v ∧ QD2tt Z a0 p1 p2 p4 rc st h0 n0 v U'.heap L ∧ FrameEnd U o U' L ({ frames := 4, cells := 6, slots := 10, locals := 150 } : Room).cells ({ frames := 4, cells := 6, slots := 10, locals := 150 } : Room).slots) := by
  refine MetFree.of_bodySF (plainFor_of_name pn_com_example_headlattice_headlattice_learn_CoverageRemainingRowSetPinLaw) hisR ?_
  intro p e s m args below meth c s₁ Bd hml0 hP hK
  obtain ⟨rfl, hZ, hh⟩ := hP
  have hx := Bd.exec
  have hby := Bd.bytes
  have hml : c.maxLocals = 6 := hml0
  have hown : s.vm.findClass cLW = some m.cls := findClass_of_methodNamed Bd.named
  have hnm := (name_of_methodNamed Bd.named Bd.method).1
  have X0 : Stand p l e ({ frames := 4, cells := 6, slots := 10, locals := 150 } : Room) s m #[(.ref a0), (.int p1), (.int p2), (.int (2 : Int32)), (.int p4)] below meth c s₁ [] 0 0 := Stand.of_body Bd
  have e0 : s₁.heap = h0 := by rw [← hh, Bd.state]; rfl
  have N0 := Fr.nil n0
  have pre0 : ∀ t, Steps p.tables e below (s₁.setTop (mkF m 0 #[vR a0, vI p1, vI p2, vI (2 : Int32), vI p4, .unset] [])) t → Steps p.tables e below (s₁.setTop (entryFrame m #[(.ref a0), (.int p1), (.int p2), (.int (2 : Int32)), (.int p4)] 6)) t := fun t k => castTop (ef_rmD2tt m a0 p1 p2 p4) k
  obtain ⟨fs, hr, hrun, hended, hW, hsame⟩ := X0.leave (v := none) (fun _ => rfl)
  refine ⟨_, _, pre0 _ ?_, hrun, hended, _, _, rfl, ?_, ⟨_, rfl⟩, hW, hsame.mono (by decide) (by decide)⟩
  · show Steps p.tables e below (s₁.setTop (mkF m 0 #[vR a0, vI p1, vI p2, vI (2 : Int32), vI p4, .unset] [])) _
    refine XS.iloadN X0.here hx rfl (hb hby d4_0) rfl ?_
    refine XS.iloadN X0.here hx rfl (hb hby d4_1) rfl ?_
    refine XS.icmpYes X0.here hx rfl (pc0 := 2) (pc' := 6) rfl (hb hby d4_2) rfl (tlt hc2).1 (by decide) (by decide) ?_
    refine XS.iload X0.here hx rfl (hb hby d4_6) rfl ?_
    refine XS.iconst X0.here hx rfl (hb hby d4_8) ?_
    refine XS.iloadN X0.here hx rfl (hb hby d4_9) rfl ?_
    refine XS.imul X0.here hx rfl (hb hby d4_10) rfl ?_
    refine XS.iushr X0.here hx rfl (hb hby d4_11) rfl ?_
    refine XS.iconst X0.here hx rfl (hb hby d4_12) ?_
    refine XS.iand X0.here hx rfl (hb hby d4_13) rfl ?_
    refine XS.istore X0.here hx rfl (hb hby d4_14) rfl (l' := #[vR a0, vI p1, vI p2, vI (2 : Int32), vI p4, vI (((p4.toUInt32 >>> (((2 : Int32) * p1) &&& 31).toUInt32).toInt32) &&& (3 : Int32))]) rfl ?_
    refine XS.iload X0.here hx rfl (hb hby d4_16) rfl ?_
    refine XS.iconst X0.here hx rfl (hb hby d4_18) ?_
    show Steps p.tables e below (s₁.setTop (mkF m 19 #[vR a0, vI p1, vI p2, vI (2 : Int32), vI p4, vI (((p4.toUInt32 >>> (((2 : Int32) * p1) &&& 31).toUInt32).toInt32) &&& (3 : Int32))] [(.int (1 : Int32)), (.int (((p4.toUInt32 >>> (((2 : Int32) * p1) &&& 31).toUInt32).toInt32) &&& (3 : Int32)))])) _
    refine XS.iand X0.here hx rfl (hb hby d4_19) rfl ?_
    refine XS.ifYes X0.here hx rfl (pc0 := 20) (pc' := 29) rfl (hb hby d4_20) rfl ((if0 _ _).trans (teq hc3).1) (by decide) (by decide) ?_
    refine XS.iload X0.here hx rfl (hb hby d4_29) rfl ?_
    refine XS.iconst X0.here hx rfl (hb hby d4_31) ?_
    refine XS.iand X0.here hx rfl (hb hby d4_32) rfl ?_
    refine XS.ifYes X0.here hx rfl (pc0 := 33) (pc' := 44) rfl (hb hby d4_33) rfl ((if0 _ _).trans (teq hc4).1) (by decide) (by decide) ?_
    show Steps p.tables e below (s₁.setTop (mkF m 44 #[vR a0, vI p1, vI p2, vI (2 : Int32), vI p4, vI (((p4.toUInt32 >>> (((2 : Int32) * p1) &&& 31).toUInt32).toInt32) &&& (3 : Int32))] [])) _
    exact X0.returnOut hx Bd.returns (hb hby d4_44) hr
  · show QD2tt Z a0 p1 p2 p4 rc st h0 n0 _ s₁.heap _
    rw [e0]
    exact ⟨rfl, N0, rfl⟩
theorem ef_rmD2tf (m : MethodId) (a0 : Addr) (p1 : Int32) (p2 : Int32) (p4 : Int32) : entryFrame m #[(.ref a0), (.int p1), (.int p2), (.int (2 : Int32)), (.int p4)] 6 = mkF m 0 #[vR a0, vI p1, vI p2, vI (2 : Int32), vI p4, .unset] [] := by first | (simp [entryFrame, mkF, argsToLocals, Value.category]; done) | rfl
def QD2tf (Z : State) (a0 : Addr) (p1 : Int32) (p2 : Int32) (p4 : Int32) (rc : Int32) (st : Nat → Bool × Bool) (h0 : Heap) (n0 : Nat) (v : Option Value) (h : Heap) (L : List Loc) : Prop := v = none ∧ Fr n0 L ∧ n0 ≤ h.size ∧ own_Cov Z h n0 a0 (2 : Int32) rc (own_ups st (p1).toNatClampNeg (true, false))
set_option maxRecDepth 65536 in
set_option maxHeartbeats 40000000 in
theorem rmD2tf (l : Launch) (Z : State) (az : Array Value) (hw : ∀ d ∈ tables_1, d.before az Z = true) (ws : List Jvm.Cond) (a0 : Addr) (p1 : Int32) (p2 : Int32) (p4 : Int32) (rc : Int32) (st : Nat → Bool × Bool) (h0 : Heap) (n0 : Nat) (Z0 : n0 ≤ h0.size) (E_a0 : Exa Z h0 a0 cCV) (J_c : own_Cov Z h0 n0 a0 (2 : Int32) rc st) (hc2 : p1 < p2) (hc3 : ((((p4.toUInt32 >>> (((2 : Int32) * p1) &&& 31).toUInt32).toInt32) &&& (3 : Int32)) &&& (1 : Int32)) = (0 : Int32)) (hc4 : ¬ (((((p4.toUInt32 >>> (((2 : Int32) * p1) &&& 31).toUInt32).toInt32) &&& (3 : Int32)) &&& (2 : Int32)) = (0 : Int32))) (hc5 : ¬ (p1 < (0 : Int32))) (hc6 : p1 < rc) (hc7 : p1 < (8 : Int32)) (hc8 : st (p1).toNatClampNeg = (true, true)) :
    MetFree l (⟨cLW, "doSettle", "(Lcom/example/headlattice/headlattice/learn/Coverage;IIII)V"⟩ : MethodName) (head1 (Jvm.Cond.code (⟨cLW, "doSettle", "(Lcom/example/headlattice/headlattice/learn/Coverage;IIII)V"⟩ : MethodName) method_4_code 6 none :: ws) ({ frames := 4, cells := 6, slots := 10, locals := 150 } : Room)) (fun a U => a = #[(.ref a0), (.int p1), (.int p2), (.int (2 : Int32)), (.int p4)] ∧ Z.Warmed39 U.vm ∧ U.heap = h0) (fun _ _ _ _ _ => True) (fun _ U o U' => ∃ v L, o = .returned v ∧ QD2tf Z a0 p1 p2 p4 rc st h0 n0 v U'.heap L ∧ FrameEnd U o U' L ({ frames := 4, cells := 6, slots := 10, locals := 150 } : Room).cells ({ frames := 4, cells := 6, slots := 10, locals := 150 } : Room).slots) := by
  refine MetFree.of_bodySF (plainFor_of_name pn_com_example_headlattice_headlattice_learn_CoverageRemainingRowSetPinLaw) hisR ?_
  intro p e s m args below meth c s₁ Bd hml0 hP hK
  obtain ⟨rfl, hZ, hh⟩ := hP
  have hx := Bd.exec
  have hby := Bd.bytes
  have hml : c.maxLocals = 6 := hml0
  have hown : s.vm.findClass cLW = some m.cls := findClass_of_methodNamed Bd.named
  have hnm := (name_of_methodNamed Bd.named Bd.method).1
  have X0 : Stand p l e ({ frames := 4, cells := 6, slots := 10, locals := 150 } : Room) s m #[(.ref a0), (.int p1), (.int p2), (.int (2 : Int32)), (.int p4)] below meth c s₁ [] 0 0 := Stand.of_body Bd
  have e0 : s₁.heap = h0 := by rw [← hh, Bd.state]; rfl
  have N0 := Fr.nil n0
  have pre0 : ∀ t, Steps p.tables e below (s₁.setTop (mkF m 0 #[vR a0, vI p1, vI p2, vI (2 : Int32), vI p4, .unset] [])) t → Steps p.tables e below (s₁.setTop (entryFrame m #[(.ref a0), (.int p1), (.int p2), (.int (2 : Int32)), (.int p4)] 6)) t := fun t k => castTop (ef_rmD2tf m a0 p1 p2 p4) k
  obtain ⟨cq1, kq1, q1a, q1b, q1c⟩ := isOf hZ e0 E_a0
  obtain ⟨_, _, ⟨T1, L1, k1', n1'⟩, -, X1, ⟨Lc1, hQ1, l1, y1, z1⟩, st1⟩ := X0.virtualBack hx (y := (⟨cCV, "settle", "(II)V"⟩ : MethodName)) (z := (⟨cCV, "settle", "(II)V"⟩ : MethodName)) hown (mvT hZ (w57 hw)) (mvT hZ (w58 hw)) (notFace_of_selects (args := #[]) (mvT hZ (w60 hw))) (mvT hZ (w60 hw)) (mvT hZ (w59 hw)) (by decide) (backOf (W := 0) (rmS21a l Z az hw [] a0 p1 rc st h0 n0 Z0 E_a0 J_c hc5 hc6 hc7 hc8) hZ (w61 hw) (w2 hw) (by decide) (by decide)) q1a q1c (g := (mkF m 41 #[vR a0, vI p1, vI p2, vI (2 : Int32), vI p4, vI (((p4.toUInt32 >>> (((2 : Int32) * p1) &&& 31).toUInt32).toInt32) &&& (3 : Int32))] [(.int (1 : Int32)), (.int p1), (.ref a0)])) rfl (by rw [hml]; rfl) (Steps.refl _) (argsL := [(.int p1), (.int (1 : Int32))]) (rest := []) (lenOf pd_7 rfl) rfl (by show 2 * 0 + _ ≤ _; exact Nat.le_of_eq rfl) (hb hby d4_41) (fun _ _ => ⟨rfl, e0, (by decide : 0 + 3 ≤ _), (by decide : 0 + 5 ≤ _)⟩)
  dsimp only [Pt.U, Pt.locs, Pt.cells, Pt.slots] at X1 l1 y1 z1 st1 hQ1
  subst l1 y1 z1
  obtain ⟨rfl, N1q, kq1, pf1_0, pf1_1⟩ := hQ1
  obtain ⟨Lg1, X1', N1⟩ := own_gen X1 (Fr.app N0 N1q)
  obtain ⟨fs, hr, hrun, hended, hW, hsame⟩ := X1'.leave (v := none) (fun _ => rfl)
  refine ⟨_, _, pre0 _ ?_, hrun, hended, _, _, rfl, ?_, ⟨_, rfl⟩, hW, hsame.mono (by decide) (by decide)⟩
  · show Steps p.tables e below (s₁.setTop (mkF m 0 #[vR a0, vI p1, vI p2, vI (2 : Int32), vI p4, .unset] [])) _
    refine XS.iloadN X0.here hx rfl (hb hby d4_0) rfl ?_
    refine XS.iloadN X0.here hx rfl (hb hby d4_1) rfl ?_
    refine XS.icmpYes X0.here hx rfl (pc0 := 2) (pc' := 6) rfl (hb hby d4_2) rfl (tlt hc2).1 (by decide) (by decide) ?_
    refine XS.iload X0.here hx rfl (hb hby d4_6) rfl ?_
    refine XS.iconst X0.here hx rfl (hb hby d4_8) ?_
    refine XS.iloadN X0.here hx rfl (hb hby d4_9) rfl ?_
    refine XS.imul X0.here hx rfl (hb hby d4_10) rfl ?_
    refine XS.iushr X0.here hx rfl (hb hby d4_11) rfl ?_
    refine XS.iconst X0.here hx rfl (hb hby d4_12) ?_
    refine XS.iand X0.here hx rfl (hb hby d4_13) rfl ?_
    refine XS.istore X0.here hx rfl (hb hby d4_14) rfl (l' := #[vR a0, vI p1, vI p2, vI (2 : Int32), vI p4, vI (((p4.toUInt32 >>> (((2 : Int32) * p1) &&& 31).toUInt32).toInt32) &&& (3 : Int32))]) rfl ?_
    refine XS.iload X0.here hx rfl (hb hby d4_16) rfl ?_
    refine XS.iconst X0.here hx rfl (hb hby d4_18) ?_
    show Steps p.tables e below (s₁.setTop (mkF m 19 #[vR a0, vI p1, vI p2, vI (2 : Int32), vI p4, vI (((p4.toUInt32 >>> (((2 : Int32) * p1) &&& 31).toUInt32).toInt32) &&& (3 : Int32))] [(.int (1 : Int32)), (.int (((p4.toUInt32 >>> (((2 : Int32) * p1) &&& 31).toUInt32).toInt32) &&& (3 : Int32)))])) _
    refine XS.iand X0.here hx rfl (hb hby d4_19) rfl ?_
    refine XS.ifYes X0.here hx rfl (pc0 := 20) (pc' := 29) rfl (hb hby d4_20) rfl ((if0 _ _).trans (teq hc3).1) (by decide) (by decide) ?_
    refine XS.iload X0.here hx rfl (hb hby d4_29) rfl ?_
    refine XS.iconst X0.here hx rfl (hb hby d4_31) ?_
    refine XS.iand X0.here hx rfl (hb hby d4_32) rfl ?_
    refine XS.ifNo X0.here hx rfl (hb hby d4_33) rfl ((if0 _ _).trans (feq hc4).1) ?_
    refine XS.aloadN X0.here hx rfl (hb hby d4_36) rfl rfl ?_
    refine XS.iloadN X0.here hx rfl (hb hby d4_37) rfl ?_
    refine XS.iloadN X0.here hx rfl (hb hby d4_38) rfl ?_
    refine XS.iconst X0.here hx rfl (hb hby d4_39) ?_
    refine XS.isub X0.here hx rfl (hb hby d4_40) rfl ?_
    show Steps p.tables e below (s₁.setTop (mkF m 41 #[vR a0, vI p1, vI p2, vI (2 : Int32), vI p4, vI (((p4.toUInt32 >>> (((2 : Int32) * p1) &&& 31).toUInt32).toInt32) &&& (3 : Int32))] [(.int (1 : Int32)), (.int p1), (.ref a0)])) _
    refine st1.trans ?_
    show Steps p.tables e below (T1.setTop (mkF m 44 #[vR a0, vI p1, vI p2, vI (2 : Int32), vI p4, vI (((p4.toUInt32 >>> (((2 : Int32) * p1) &&& 31).toUInt32).toInt32) &&& (3 : Int32))] [])) _
    exact X1'.returnOut hx Bd.returns (hb hby d4_44) hr
  · show QD2tf Z a0 p1 p2 p4 rc st h0 n0 _ T1.heap _
    exact ⟨rfl, N1, kq1, pf1_1⟩
theorem ef_rmD2ft (m : MethodId) (a0 : Addr) (p1 : Int32) (p2 : Int32) (p4 : Int32) : entryFrame m #[(.ref a0), (.int p1), (.int p2), (.int (2 : Int32)), (.int p4)] 6 = mkF m 0 #[vR a0, vI p1, vI p2, vI (2 : Int32), vI p4, .unset] [] := by first | (simp [entryFrame, mkF, argsToLocals, Value.category]; done) | rfl
def QD2ft (Z : State) (a0 : Addr) (p1 : Int32) (p2 : Int32) (p4 : Int32) (rc : Int32) (st : Nat → Bool × Bool) (h0 : Heap) (n0 : Nat) (v : Option Value) (h : Heap) (L : List Loc) : Prop := v = none ∧ Fr n0 L ∧ n0 ≤ h.size ∧ own_Cov Z h n0 a0 (2 : Int32) rc (own_ups st (p1).toNatClampNeg (false, true))
set_option maxRecDepth 65536 in
set_option maxHeartbeats 40000000 in
theorem rmD2ft (l : Launch) (Z : State) (az : Array Value) (hw : ∀ d ∈ tables_1, d.before az Z = true) (ws : List Jvm.Cond) (a0 : Addr) (p1 : Int32) (p2 : Int32) (p4 : Int32) (rc : Int32) (st : Nat → Bool × Bool) (h0 : Heap) (n0 : Nat) (Z0 : n0 ≤ h0.size) (E_a0 : Exa Z h0 a0 cCV) (J_c : own_Cov Z h0 n0 a0 (2 : Int32) rc st) (hc2 : p1 < p2) (hc3 : ¬ (((((p4.toUInt32 >>> (((2 : Int32) * p1) &&& 31).toUInt32).toInt32) &&& (3 : Int32)) &&& (1 : Int32)) = (0 : Int32))) (hc4 : ¬ (p1 < (0 : Int32))) (hc5 : p1 < rc) (hc6 : p1 < (8 : Int32)) (hc7 : st (p1).toNatClampNeg = (true, true)) (hc8 : ((((p4.toUInt32 >>> (((2 : Int32) * p1) &&& 31).toUInt32).toInt32) &&& (3 : Int32)) &&& (2 : Int32)) = (0 : Int32)) :
    MetFree l (⟨cLW, "doSettle", "(Lcom/example/headlattice/headlattice/learn/Coverage;IIII)V"⟩ : MethodName) (head1 (Jvm.Cond.code (⟨cLW, "doSettle", "(Lcom/example/headlattice/headlattice/learn/Coverage;IIII)V"⟩ : MethodName) method_4_code 6 none :: ws) ({ frames := 4, cells := 6, slots := 10, locals := 150 } : Room)) (fun a U => a = #[(.ref a0), (.int p1), (.int p2), (.int (2 : Int32)), (.int p4)] ∧ Z.Warmed39 U.vm ∧ U.heap = h0) (fun _ _ _ _ _ => True) (fun _ U o U' => ∃ v L, o = .returned v ∧ QD2ft Z a0 p1 p2 p4 rc st h0 n0 v U'.heap L ∧ FrameEnd U o U' L ({ frames := 4, cells := 6, slots := 10, locals := 150 } : Room).cells ({ frames := 4, cells := 6, slots := 10, locals := 150 } : Room).slots) := by
  refine MetFree.of_bodySF (plainFor_of_name pn_com_example_headlattice_headlattice_learn_CoverageRemainingRowSetPinLaw) hisR ?_
  intro p e s m args below meth c s₁ Bd hml0 hP hK
  obtain ⟨rfl, hZ, hh⟩ := hP
  have hx := Bd.exec
  have hby := Bd.bytes
  have hml : c.maxLocals = 6 := hml0
  have hown : s.vm.findClass cLW = some m.cls := findClass_of_methodNamed Bd.named
  have hnm := (name_of_methodNamed Bd.named Bd.method).1
  have X0 : Stand p l e ({ frames := 4, cells := 6, slots := 10, locals := 150 } : Room) s m #[(.ref a0), (.int p1), (.int p2), (.int (2 : Int32)), (.int p4)] below meth c s₁ [] 0 0 := Stand.of_body Bd
  have e0 : s₁.heap = h0 := by rw [← hh, Bd.state]; rfl
  have N0 := Fr.nil n0
  have pre0 : ∀ t, Steps p.tables e below (s₁.setTop (mkF m 0 #[vR a0, vI p1, vI p2, vI (2 : Int32), vI p4, .unset] [])) t → Steps p.tables e below (s₁.setTop (entryFrame m #[(.ref a0), (.int p1), (.int p2), (.int (2 : Int32)), (.int p4)] 6)) t := fun t k => castTop (ef_rmD2ft m a0 p1 p2 p4) k
  obtain ⟨cq1, kq1, q1a, q1b, q1c⟩ := isOf hZ e0 E_a0
  obtain ⟨_, _, ⟨T1, L1, k1', n1'⟩, -, X1, ⟨Lc1, hQ1, l1, y1, z1⟩, st1⟩ := X0.virtualBack hx (y := (⟨cCV, "settle", "(II)V"⟩ : MethodName)) (z := (⟨cCV, "settle", "(II)V"⟩ : MethodName)) hown (mvT hZ (w57 hw)) (mvT hZ (w58 hw)) (notFace_of_selects (args := #[]) (mvT hZ (w60 hw))) (mvT hZ (w60 hw)) (mvT hZ (w59 hw)) (by decide) (backOf (W := 0) (rmS20 l Z az hw [] a0 p1 rc st h0 n0 Z0 E_a0 J_c hc4 hc5 hc6 hc7) hZ (w61 hw) (w2 hw) (by decide) (by decide)) q1a q1c (g := (mkF m 26 #[vR a0, vI p1, vI p2, vI (2 : Int32), vI p4, vI (((p4.toUInt32 >>> (((2 : Int32) * p1) &&& 31).toUInt32).toInt32) &&& (3 : Int32))] [(.int (0 : Int32)), (.int p1), (.ref a0)])) rfl (by rw [hml]; rfl) (Steps.refl _) (argsL := [(.int p1), (.int (0 : Int32))]) (rest := []) (lenOf pd_7 rfl) rfl (by show 2 * 0 + _ ≤ _; exact Nat.le_of_eq rfl) (hb hby d4_26) (fun _ _ => ⟨rfl, e0, (by decide : 0 + 3 ≤ _), (by decide : 0 + 5 ≤ _)⟩)
  dsimp only [Pt.U, Pt.locs, Pt.cells, Pt.slots] at X1 l1 y1 z1 st1 hQ1
  subst l1 y1 z1
  obtain ⟨rfl, N1q, kq1, pf1_0, pf1_1⟩ := hQ1
  obtain ⟨Lg1, X1', N1⟩ := own_gen X1 (Fr.app N0 N1q)
  obtain ⟨fs, hr, hrun, hended, hW, hsame⟩ := X1'.leave (v := none) (fun _ => rfl)
  refine ⟨_, _, pre0 _ ?_, hrun, hended, _, _, rfl, ?_, ⟨_, rfl⟩, hW, hsame.mono (by decide) (by decide)⟩
  · show Steps p.tables e below (s₁.setTop (mkF m 0 #[vR a0, vI p1, vI p2, vI (2 : Int32), vI p4, .unset] [])) _
    refine XS.iloadN X0.here hx rfl (hb hby d4_0) rfl ?_
    refine XS.iloadN X0.here hx rfl (hb hby d4_1) rfl ?_
    refine XS.icmpYes X0.here hx rfl (pc0 := 2) (pc' := 6) rfl (hb hby d4_2) rfl (tlt hc2).1 (by decide) (by decide) ?_
    refine XS.iload X0.here hx rfl (hb hby d4_6) rfl ?_
    refine XS.iconst X0.here hx rfl (hb hby d4_8) ?_
    refine XS.iloadN X0.here hx rfl (hb hby d4_9) rfl ?_
    refine XS.imul X0.here hx rfl (hb hby d4_10) rfl ?_
    refine XS.iushr X0.here hx rfl (hb hby d4_11) rfl ?_
    refine XS.iconst X0.here hx rfl (hb hby d4_12) ?_
    refine XS.iand X0.here hx rfl (hb hby d4_13) rfl ?_
    refine XS.istore X0.here hx rfl (hb hby d4_14) rfl (l' := #[vR a0, vI p1, vI p2, vI (2 : Int32), vI p4, vI (((p4.toUInt32 >>> (((2 : Int32) * p1) &&& 31).toUInt32).toInt32) &&& (3 : Int32))]) rfl ?_
    refine XS.iload X0.here hx rfl (hb hby d4_16) rfl ?_
    refine XS.iconst X0.here hx rfl (hb hby d4_18) ?_
    show Steps p.tables e below (s₁.setTop (mkF m 19 #[vR a0, vI p1, vI p2, vI (2 : Int32), vI p4, vI (((p4.toUInt32 >>> (((2 : Int32) * p1) &&& 31).toUInt32).toInt32) &&& (3 : Int32))] [(.int (1 : Int32)), (.int (((p4.toUInt32 >>> (((2 : Int32) * p1) &&& 31).toUInt32).toInt32) &&& (3 : Int32)))])) _
    refine XS.iand X0.here hx rfl (hb hby d4_19) rfl ?_
    refine XS.ifNo X0.here hx rfl (hb hby d4_20) rfl ((if0 _ _).trans (feq hc3).1) ?_
    refine XS.aloadN X0.here hx rfl (hb hby d4_23) rfl rfl ?_
    refine XS.iloadN X0.here hx rfl (hb hby d4_24) rfl ?_
    refine XS.iconst X0.here hx rfl (hb hby d4_25) ?_
    show Steps p.tables e below (s₁.setTop (mkF m 26 #[vR a0, vI p1, vI p2, vI (2 : Int32), vI p4, vI (((p4.toUInt32 >>> (((2 : Int32) * p1) &&& 31).toUInt32).toInt32) &&& (3 : Int32))] [(.int (0 : Int32)), (.int p1), (.ref a0)])) _
    refine st1.trans ?_
    show Steps p.tables e below (T1.setTop (mkF m 29 #[vR a0, vI p1, vI p2, vI (2 : Int32), vI p4, vI (((p4.toUInt32 >>> (((2 : Int32) * p1) &&& 31).toUInt32).toInt32) &&& (3 : Int32))] [])) _
    refine XS.iload X1'.here hx rfl (hb hby d4_29) rfl ?_
    refine XS.iconst X1'.here hx rfl (hb hby d4_31) ?_
    refine XS.iand X1'.here hx rfl (hb hby d4_32) rfl ?_
    refine XS.ifYes X1'.here hx rfl (pc0 := 33) (pc' := 44) rfl (hb hby d4_33) rfl ((if0 _ _).trans (teq hc8).1) (by decide) (by decide) ?_
    show Steps p.tables e below (T1.setTop (mkF m 44 #[vR a0, vI p1, vI p2, vI (2 : Int32), vI p4, vI (((p4.toUInt32 >>> (((2 : Int32) * p1) &&& 31).toUInt32).toInt32) &&& (3 : Int32))] [])) _
    exact X1'.returnOut hx Bd.returns (hb hby d4_44) hr
  · show QD2ft Z a0 p1 p2 p4 rc st h0 n0 _ T1.heap _
    exact ⟨rfl, N1, kq1, pf1_1⟩
theorem ef_rmD2ff (m : MethodId) (a0 : Addr) (p1 : Int32) (p2 : Int32) (p4 : Int32) : entryFrame m #[(.ref a0), (.int p1), (.int p2), (.int (2 : Int32)), (.int p4)] 6 = mkF m 0 #[vR a0, vI p1, vI p2, vI (2 : Int32), vI p4, .unset] [] := by first | (simp [entryFrame, mkF, argsToLocals, Value.category]; done) | rfl
def QD2ff (Z : State) (a0 : Addr) (p1 : Int32) (p2 : Int32) (p4 : Int32) (rc : Int32) (st : Nat → Bool × Bool) (h0 : Heap) (n0 : Nat) (v : Option Value) (h : Heap) (L : List Loc) : Prop := v = none ∧ Fr n0 L ∧ n0 ≤ h.size ∧ own_Cov Z h n0 a0 (2 : Int32) rc (own_ups (own_ups st (p1).toNatClampNeg (false, true)) (p1).toNatClampNeg (false, false))
set_option maxRecDepth 65536 in
set_option maxHeartbeats 40000000 in
theorem rmD2ff (l : Launch) (Z : State) (az : Array Value) (hw : ∀ d ∈ tables_1, d.before az Z = true) (ws : List Jvm.Cond) (a0 : Addr) (p1 : Int32) (p2 : Int32) (p4 : Int32) (rc : Int32) (st : Nat → Bool × Bool) (h0 : Heap) (n0 : Nat) (Z0 : n0 ≤ h0.size) (E_a0 : Exa Z h0 a0 cCV) (J_c : own_Cov Z h0 n0 a0 (2 : Int32) rc st) (hc2 : p1 < p2) (hc3 : ¬ (((((p4.toUInt32 >>> (((2 : Int32) * p1) &&& 31).toUInt32).toInt32) &&& (3 : Int32)) &&& (1 : Int32)) = (0 : Int32))) (hc4 : ¬ (p1 < (0 : Int32))) (hc5 : p1 < rc) (hc6 : p1 < (8 : Int32)) (hc7 : st (p1).toNatClampNeg = (true, true)) (hc8 : ¬ (((((p4.toUInt32 >>> (((2 : Int32) * p1) &&& 31).toUInt32).toInt32) &&& (3 : Int32)) &&& (2 : Int32)) = (0 : Int32))) (hc9 : (own_ups st (p1).toNatClampNeg (false, true)) (p1).toNatClampNeg = (false, true)) :
    MetFree l (⟨cLW, "doSettle", "(Lcom/example/headlattice/headlattice/learn/Coverage;IIII)V"⟩ : MethodName) (head1 (Jvm.Cond.code (⟨cLW, "doSettle", "(Lcom/example/headlattice/headlattice/learn/Coverage;IIII)V"⟩ : MethodName) method_4_code 6 none :: ws) ({ frames := 4, cells := 6, slots := 10, locals := 150 } : Room)) (fun a U => a = #[(.ref a0), (.int p1), (.int p2), (.int (2 : Int32)), (.int p4)] ∧ Z.Warmed39 U.vm ∧ U.heap = h0) (fun _ _ _ _ _ => True) (fun _ U o U' => ∃ v L, o = .returned v ∧ QD2ff Z a0 p1 p2 p4 rc st h0 n0 v U'.heap L ∧ FrameEnd U o U' L ({ frames := 4, cells := 6, slots := 10, locals := 150 } : Room).cells ({ frames := 4, cells := 6, slots := 10, locals := 150 } : Room).slots) := by
  refine MetFree.of_bodySF (plainFor_of_name pn_com_example_headlattice_headlattice_learn_CoverageRemainingRowSetPinLaw) hisR ?_
  intro p e s m args below meth c s₁ Bd hml0 hP hK
  obtain ⟨rfl, hZ, hh⟩ := hP
  have hx := Bd.exec
  have hby := Bd.bytes
  have hml : c.maxLocals = 6 := hml0
  have hown : s.vm.findClass cLW = some m.cls := findClass_of_methodNamed Bd.named
  have hnm := (name_of_methodNamed Bd.named Bd.method).1
  have X0 : Stand p l e ({ frames := 4, cells := 6, slots := 10, locals := 150 } : Room) s m #[(.ref a0), (.int p1), (.int p2), (.int (2 : Int32)), (.int p4)] below meth c s₁ [] 0 0 := Stand.of_body Bd
  have e0 : s₁.heap = h0 := by rw [← hh, Bd.state]; rfl
  have N0 := Fr.nil n0
  have pre0 : ∀ t, Steps p.tables e below (s₁.setTop (mkF m 0 #[vR a0, vI p1, vI p2, vI (2 : Int32), vI p4, .unset] [])) t → Steps p.tables e below (s₁.setTop (entryFrame m #[(.ref a0), (.int p1), (.int p2), (.int (2 : Int32)), (.int p4)] 6)) t := fun t k => castTop (ef_rmD2ff m a0 p1 p2 p4) k
  obtain ⟨cq1, kq1, q1a, q1b, q1c⟩ := isOf hZ e0 E_a0
  obtain ⟨_, _, ⟨T1, L1, k1', n1'⟩, -, X1, ⟨Lc1, hQ1, l1, y1, z1⟩, st1⟩ := X0.virtualBack hx (y := (⟨cCV, "settle", "(II)V"⟩ : MethodName)) (z := (⟨cCV, "settle", "(II)V"⟩ : MethodName)) hown (mvT hZ (w57 hw)) (mvT hZ (w58 hw)) (notFace_of_selects (args := #[]) (mvT hZ (w60 hw))) (mvT hZ (w60 hw)) (mvT hZ (w59 hw)) (by decide) (backOf (W := 0) (rmS20 l Z az hw [] a0 p1 rc st h0 n0 Z0 E_a0 J_c hc4 hc5 hc6 hc7) hZ (w61 hw) (w2 hw) (by decide) (by decide)) q1a q1c (g := (mkF m 26 #[vR a0, vI p1, vI p2, vI (2 : Int32), vI p4, vI (((p4.toUInt32 >>> (((2 : Int32) * p1) &&& 31).toUInt32).toInt32) &&& (3 : Int32))] [(.int (0 : Int32)), (.int p1), (.ref a0)])) rfl (by rw [hml]; rfl) (Steps.refl _) (argsL := [(.int p1), (.int (0 : Int32))]) (rest := []) (lenOf pd_7 rfl) rfl (by show 2 * 0 + _ ≤ _; exact Nat.le_of_eq rfl) (hb hby d4_26) (fun _ _ => ⟨rfl, e0, (by decide : 0 + 3 ≤ _), (by decide : 0 + 5 ≤ _)⟩)
  dsimp only [Pt.U, Pt.locs, Pt.cells, Pt.slots] at X1 l1 y1 z1 st1 hQ1
  subst l1 y1 z1
  obtain ⟨rfl, N1q, kq1, pf1_0, pf1_1⟩ := hQ1
  obtain ⟨Lg1, X1', N1⟩ := own_gen X1 (Fr.app N0 N1q)
  obtain ⟨cq2, kq2, q2a, q2b, q2c⟩ := isOf hZ rfl pf1_0
  obtain ⟨_, _, ⟨T2, L2, k2', n2'⟩, -, X2, ⟨Lc2, hQ2, l2, y2, z2⟩, st2⟩ := X1'.virtualBack hx (y := (⟨cCV, "settle", "(II)V"⟩ : MethodName)) (z := (⟨cCV, "settle", "(II)V"⟩ : MethodName)) hown (mvT hZ (w57 hw)) (mvT hZ (w58 hw)) (notFace_of_selects (args := #[]) (mvT hZ (w60 hw))) (mvT hZ (w60 hw)) (mvT hZ (w59 hw)) (by decide) (backOf (W := 0) (rmS21b l Z az hw [] a0 p1 rc (own_ups st (p1).toNatClampNeg (false, true)) T1.heap n0 kq1 pf1_0 pf1_1 hc4 hc5 hc6 hc9) hZ (w61 hw) (w2 hw) (by decide) (by decide)) q2a q2c (g := (mkF m 41 #[vR a0, vI p1, vI p2, vI (2 : Int32), vI p4, vI (((p4.toUInt32 >>> (((2 : Int32) * p1) &&& 31).toUInt32).toInt32) &&& (3 : Int32))] [(.int (1 : Int32)), (.int p1), (.ref a0)])) rfl (by rw [hml]; rfl) (Steps.refl _) (argsL := [(.int p1), (.int (1 : Int32))]) (rest := []) (lenOf pd_7 rfl) rfl (by show 2 * 0 + _ ≤ _; exact Nat.le_of_eq rfl) (hb hby d4_41) (fun _ _ => ⟨rfl, rfl, (by decide : 3 + 3 ≤ _), (by decide : 5 + 5 ≤ _)⟩)
  dsimp only [Pt.U, Pt.locs, Pt.cells, Pt.slots] at X2 l2 y2 z2 st2 hQ2
  subst l2 y2 z2
  obtain ⟨rfl, N2q, kq2, pf2_0, pf2_1⟩ := hQ2
  obtain ⟨Lg2, X2', N2⟩ := own_gen X2 (Fr.app N1 N2q)
  obtain ⟨fs, hr, hrun, hended, hW, hsame⟩ := X2'.leave (v := none) (fun _ => rfl)
  refine ⟨_, _, pre0 _ ?_, hrun, hended, _, _, rfl, ?_, ⟨_, rfl⟩, hW, hsame.mono (by decide) (by decide)⟩
  · show Steps p.tables e below (s₁.setTop (mkF m 0 #[vR a0, vI p1, vI p2, vI (2 : Int32), vI p4, .unset] [])) _
    refine XS.iloadN X0.here hx rfl (hb hby d4_0) rfl ?_
    refine XS.iloadN X0.here hx rfl (hb hby d4_1) rfl ?_
    refine XS.icmpYes X0.here hx rfl (pc0 := 2) (pc' := 6) rfl (hb hby d4_2) rfl (tlt hc2).1 (by decide) (by decide) ?_
    refine XS.iload X0.here hx rfl (hb hby d4_6) rfl ?_
    refine XS.iconst X0.here hx rfl (hb hby d4_8) ?_
    refine XS.iloadN X0.here hx rfl (hb hby d4_9) rfl ?_
    refine XS.imul X0.here hx rfl (hb hby d4_10) rfl ?_
    refine XS.iushr X0.here hx rfl (hb hby d4_11) rfl ?_
    refine XS.iconst X0.here hx rfl (hb hby d4_12) ?_
    refine XS.iand X0.here hx rfl (hb hby d4_13) rfl ?_
    refine XS.istore X0.here hx rfl (hb hby d4_14) rfl (l' := #[vR a0, vI p1, vI p2, vI (2 : Int32), vI p4, vI (((p4.toUInt32 >>> (((2 : Int32) * p1) &&& 31).toUInt32).toInt32) &&& (3 : Int32))]) rfl ?_
    refine XS.iload X0.here hx rfl (hb hby d4_16) rfl ?_
    refine XS.iconst X0.here hx rfl (hb hby d4_18) ?_
    show Steps p.tables e below (s₁.setTop (mkF m 19 #[vR a0, vI p1, vI p2, vI (2 : Int32), vI p4, vI (((p4.toUInt32 >>> (((2 : Int32) * p1) &&& 31).toUInt32).toInt32) &&& (3 : Int32))] [(.int (1 : Int32)), (.int (((p4.toUInt32 >>> (((2 : Int32) * p1) &&& 31).toUInt32).toInt32) &&& (3 : Int32)))])) _
    refine XS.iand X0.here hx rfl (hb hby d4_19) rfl ?_
    refine XS.ifNo X0.here hx rfl (hb hby d4_20) rfl ((if0 _ _).trans (feq hc3).1) ?_
    refine XS.aloadN X0.here hx rfl (hb hby d4_23) rfl rfl ?_
    refine XS.iloadN X0.here hx rfl (hb hby d4_24) rfl ?_
    refine XS.iconst X0.here hx rfl (hb hby d4_25) ?_
    show Steps p.tables e below (s₁.setTop (mkF m 26 #[vR a0, vI p1, vI p2, vI (2 : Int32), vI p4, vI (((p4.toUInt32 >>> (((2 : Int32) * p1) &&& 31).toUInt32).toInt32) &&& (3 : Int32))] [(.int (0 : Int32)), (.int p1), (.ref a0)])) _
    refine st1.trans ?_
    show Steps p.tables e below (T1.setTop (mkF m 29 #[vR a0, vI p1, vI p2, vI (2 : Int32), vI p4, vI (((p4.toUInt32 >>> (((2 : Int32) * p1) &&& 31).toUInt32).toInt32) &&& (3 : Int32))] [])) _
    refine XS.iload X1'.here hx rfl (hb hby d4_29) rfl ?_
    refine XS.iconst X1'.here hx rfl (hb hby d4_31) ?_
    refine XS.iand X1'.here hx rfl (hb hby d4_32) rfl ?_
    refine XS.ifNo X1'.here hx rfl (hb hby d4_33) rfl ((if0 _ _).trans (feq hc8).1) ?_
    refine XS.aloadN X1'.here hx rfl (hb hby d4_36) rfl rfl ?_
    refine XS.iloadN X1'.here hx rfl (hb hby d4_37) rfl ?_
    refine XS.iloadN X1'.here hx rfl (hb hby d4_38) rfl ?_
    refine XS.iconst X1'.here hx rfl (hb hby d4_39) ?_
    refine XS.isub X1'.here hx rfl (hb hby d4_40) rfl ?_
    show Steps p.tables e below (T1.setTop (mkF m 41 #[vR a0, vI p1, vI p2, vI (2 : Int32), vI p4, vI (((p4.toUInt32 >>> (((2 : Int32) * p1) &&& 31).toUInt32).toInt32) &&& (3 : Int32))] [(.int (1 : Int32)), (.int p1), (.ref a0)])) _
    refine st2.trans ?_
    show Steps p.tables e below (T2.setTop (mkF m 44 #[vR a0, vI p1, vI p2, vI (2 : Int32), vI p4, vI (((p4.toUInt32 >>> (((2 : Int32) * p1) &&& 31).toUInt32).toInt32) &&& (3 : Int32))] [])) _
    exact X2'.returnOut hx Bd.returns (hb hby d4_44) hr
  · show QD2ff Z a0 p1 p2 p4 rc st h0 n0 _ T2.heap _
    exact ⟨rfl, N2, kq2, pf2_1⟩
def QDS0 (Z : State) (a0 : Addr) (p2 : Int32) (p3 : Int32) (p4 : Int32) (h0 : Heap) (n0 : Nat) (v : Option Value) (h : Heap) (L : List Loc) : Prop := v = none ∧ Fr n0 L ∧ n0 ≤ h.size ∧ Exa Z h a0 cCV ∧ own_Cov Z h n0 a0 p3 p2 (own_sts p3 p4 1)
set_option maxRecDepth 65536 in
set_option maxHeartbeats 40000000 in
theorem rmDS0 (l : Launch) (Z : State) (az : Array Value) (hw : ∀ d ∈ tables_1, d.before az Z = true) (ws : List Jvm.Cond) (a0 : Addr) (p2 : Int32) (p3 : Int32) (p4 : Int32) (h0 : Heap) (n0 : Nat) (Z0 : n0 ≤ h0.size) (E_a0 : Exa Z h0 a0 cCV) (J_c : own_Cov Z h0 n0 a0 p3 p2 (own_full p3)) (hc_lc : p3 = (1 : Int32) ∨ p3 = (2 : Int32)) (hc_n : own_n3 p2) :
    MetFree l (⟨cLW, "doSettle", "(Lcom/example/headlattice/headlattice/learn/Coverage;IIII)V"⟩ : MethodName) (head1 (Jvm.Cond.code (⟨cLW, "doSettle", "(Lcom/example/headlattice/headlattice/learn/Coverage;IIII)V"⟩ : MethodName) method_4_code 6 none :: ws) ({ frames := 4, cells := 6, slots := 10, locals := 150 } : Room)) (fun a U => a = #[(.ref a0), (.int (0 : Int32)), (.int p2), (.int p3), (.int p4)] ∧ Z.Warmed39 U.vm ∧ U.heap = h0) (fun _ _ _ _ _ => True) (fun _ U o U' => ∃ v L, o = .returned v ∧ QDS0 Z a0 p2 p3 p4 h0 n0 v U'.heap L ∧ FrameEnd U o U' L ({ frames := 4, cells := 6, slots := 10, locals := 150 } : Room).cells ({ frames := 4, cells := 6, slots := 10, locals := 150 } : Room).slots) := by
  by_cases c1 : (0 : Int32) < p2
  · rw [← own_sts_zero (s := p4)] at J_c
    have e8 : (0 : Int32) < (8 : Int32) := by decide
    have ez : ((0 : Int32)).toNatClampNeg = 0 := by decide
    rcases hc_lc with rfl | rfl
    · by_cases c2 : ((((p4.toUInt32 >>> (((2 : Int32) * (0 : Int32)) &&& 31).toUInt32).toInt32) &&& (3 : Int32)) &&& (1 : Int32)) = (0 : Int32)
      · by_cases c3 : ((((p4.toUInt32 >>> (((2 : Int32) * (0 : Int32)) &&& 31).toUInt32).toInt32) &&& (3 : Int32)) &&& (2 : Int32)) = (0 : Int32)
        · refine own_mono (rmD1tt l Z az hw ws a0 (0 : Int32) p2 p4 p2 (own_sts (1 : Int32) p4 0) h0 n0 Z0 E_a0 J_c c1 c2 c3) fun v h L q => ?_
          obtain ⟨rfl, qN, rfl⟩ := q
          refine ⟨rfl, qN, Z0, E_a0, J_c.congr fun r _ => ?_⟩
          rw [own_sts_succ (own_fin1 (i := 0) (decide_eq_true c2) (decide_eq_true c3))]
          unfold own_ups
          by_cases c : r = 0
          · rw [if_pos c]; subst c; rfl
          · rw [if_neg c]
        · refine own_mono (rmD1tf l Z az hw ws a0 (0 : Int32) p2 p4 p2 (own_sts (1 : Int32) p4 0) h0 n0 Z0 E_a0 J_c c1 c2 c3 (by decide) c1 (by decide) (by rw [ez]; rfl)) fun v h L q => ?_
          obtain ⟨rfl, qN, qz, qJ⟩ := q
          refine ⟨rfl, qN, qz, qJ.exa, qJ.congr fun r _ => ?_⟩
          rw [ez, own_sts_succ (own_fin1 (i := 0) (decide_eq_true c2) (decide_eq_false c3))]
          all_goals rfl
      · by_cases c3 : ((((p4.toUInt32 >>> (((2 : Int32) * (0 : Int32)) &&& 31).toUInt32).toInt32) &&& (3 : Int32)) &&& (2 : Int32)) = (0 : Int32)
        · refine own_mono (rmD1ft l Z az hw ws a0 (0 : Int32) p2 p4 p2 (own_sts (1 : Int32) p4 0) h0 n0 Z0 E_a0 J_c c1 c2 (by decide) c1 (by decide) (by rw [ez]; rfl) c3) fun v h L q => ?_
          obtain ⟨rfl, qN, qz, qJ⟩ := q
          refine ⟨rfl, qN, qz, qJ.exa, qJ.congr fun r _ => ?_⟩
          rw [ez, own_sts_succ (own_fin1 (i := 0) (decide_eq_false c2) (decide_eq_true c3))]
          all_goals rfl
        · refine own_mono (rmD1ff l Z az hw ws a0 (0 : Int32) p2 p4 p2 (own_sts (1 : Int32) p4 0) h0 n0 Z0 E_a0 J_c c1 c2 (by decide) c1 (by decide) (by rw [ez]; rfl) c3 own_ups_eq) fun v h L q => ?_
          obtain ⟨rfl, qN, qz, qJ⟩ := q
          refine ⟨rfl, qN, qz, qJ.exa, qJ.congr fun r _ => ?_⟩
          rw [ez, own_sts_succ (own_fin1 (i := 0) (decide_eq_false c2) (decide_eq_false c3))]
          exact own_ups2
    · by_cases c2 : ((((p4.toUInt32 >>> (((2 : Int32) * (0 : Int32)) &&& 31).toUInt32).toInt32) &&& (3 : Int32)) &&& (1 : Int32)) = (0 : Int32)
      · by_cases c3 : ((((p4.toUInt32 >>> (((2 : Int32) * (0 : Int32)) &&& 31).toUInt32).toInt32) &&& (3 : Int32)) &&& (2 : Int32)) = (0 : Int32)
        · refine own_mono (rmD2tt l Z az hw ws a0 (0 : Int32) p2 p4 p2 (own_sts (2 : Int32) p4 0) h0 n0 Z0 E_a0 J_c c1 c2 c3) fun v h L q => ?_
          obtain ⟨rfl, qN, rfl⟩ := q
          refine ⟨rfl, qN, Z0, E_a0, J_c.congr fun r _ => ?_⟩
          rw [own_sts_succ (own_fin2 (i := 0) (decide_eq_true c2) (decide_eq_true c3))]
          unfold own_ups
          by_cases c : r = 0
          · rw [if_pos c]; subst c; rfl
          · rw [if_neg c]
        · refine own_mono (rmD2tf l Z az hw ws a0 (0 : Int32) p2 p4 p2 (own_sts (2 : Int32) p4 0) h0 n0 Z0 E_a0 J_c c1 c2 c3 (by decide) c1 (by decide) (by rw [ez]; rfl)) fun v h L q => ?_
          obtain ⟨rfl, qN, qz, qJ⟩ := q
          refine ⟨rfl, qN, qz, qJ.exa, qJ.congr fun r _ => ?_⟩
          rw [ez, own_sts_succ (own_fin2 (i := 0) (decide_eq_true c2) (decide_eq_false c3))]
          all_goals rfl
      · by_cases c3 : ((((p4.toUInt32 >>> (((2 : Int32) * (0 : Int32)) &&& 31).toUInt32).toInt32) &&& (3 : Int32)) &&& (2 : Int32)) = (0 : Int32)
        · refine own_mono (rmD2ft l Z az hw ws a0 (0 : Int32) p2 p4 p2 (own_sts (2 : Int32) p4 0) h0 n0 Z0 E_a0 J_c c1 c2 (by decide) c1 (by decide) (by rw [ez]; rfl) c3) fun v h L q => ?_
          obtain ⟨rfl, qN, qz, qJ⟩ := q
          refine ⟨rfl, qN, qz, qJ.exa, qJ.congr fun r _ => ?_⟩
          rw [ez, own_sts_succ (own_fin2 (i := 0) (decide_eq_false c2) (decide_eq_true c3))]
          all_goals rfl
        · refine own_mono (rmD2ff l Z az hw ws a0 (0 : Int32) p2 p4 p2 (own_sts (2 : Int32) p4 0) h0 n0 Z0 E_a0 J_c c1 c2 (by decide) c1 (by decide) (by rw [ez]; rfl) c3 own_ups_eq) fun v h L q => ?_
          obtain ⟨rfl, qN, qz, qJ⟩ := q
          refine ⟨rfl, qN, qz, qJ.exa, qJ.congr fun r _ => ?_⟩
          rw [ez, own_sts_succ (own_fin2 (i := 0) (decide_eq_false c2) (decide_eq_false c3))]
          exact own_ups2
  · rw [← own_sts_zero (s := p4)] at J_c
    refine own_mono (rmDf l Z az hw ws a0 (0 : Int32) p2 p3 p4 h0 n0 Z0 c1) fun v h L q => ?_
    obtain ⟨rfl, qN, rfl⟩ := q
    refine ⟨rfl, qN, Z0, E_a0, J_c.congr fun r hr => own_sts_ge (Nat.lt_of_lt_of_le hr ?_)⟩
    rcases hc_n with rfl | rfl | rfl | rfl <;> first | decide | exact absurd (by decide) c1
def QDS1 (Z : State) (a0 : Addr) (p2 : Int32) (p3 : Int32) (p4 : Int32) (h0 : Heap) (n0 : Nat) (v : Option Value) (h : Heap) (L : List Loc) : Prop := v = none ∧ Fr n0 L ∧ n0 ≤ h.size ∧ Exa Z h a0 cCV ∧ own_Cov Z h n0 a0 p3 p2 (own_sts p3 p4 2)
set_option maxRecDepth 65536 in
set_option maxHeartbeats 40000000 in
theorem rmDS1 (l : Launch) (Z : State) (az : Array Value) (hw : ∀ d ∈ tables_1, d.before az Z = true) (ws : List Jvm.Cond) (a0 : Addr) (p2 : Int32) (p3 : Int32) (p4 : Int32) (h0 : Heap) (n0 : Nat) (Z0 : n0 ≤ h0.size) (E_a0 : Exa Z h0 a0 cCV) (J_c : own_Cov Z h0 n0 a0 p3 p2 (own_sts p3 p4 1)) (hc_lc : p3 = (1 : Int32) ∨ p3 = (2 : Int32)) (hc_n : own_n3 p2) :
    MetFree l (⟨cLW, "doSettle", "(Lcom/example/headlattice/headlattice/learn/Coverage;IIII)V"⟩ : MethodName) (head1 (Jvm.Cond.code (⟨cLW, "doSettle", "(Lcom/example/headlattice/headlattice/learn/Coverage;IIII)V"⟩ : MethodName) method_4_code 6 none :: ws) ({ frames := 4, cells := 6, slots := 10, locals := 150 } : Room)) (fun a U => a = #[(.ref a0), (.int (1 : Int32)), (.int p2), (.int p3), (.int p4)] ∧ Z.Warmed39 U.vm ∧ U.heap = h0) (fun _ _ _ _ _ => True) (fun _ U o U' => ∃ v L, o = .returned v ∧ QDS1 Z a0 p2 p3 p4 h0 n0 v U'.heap L ∧ FrameEnd U o U' L ({ frames := 4, cells := 6, slots := 10, locals := 150 } : Room).cells ({ frames := 4, cells := 6, slots := 10, locals := 150 } : Room).slots) := by
  by_cases c1 : (1 : Int32) < p2
  · have e8 : (1 : Int32) < (8 : Int32) := by decide
    have ez : ((1 : Int32)).toNatClampNeg = 1 := by decide
    rcases hc_lc with rfl | rfl
    · by_cases c2 : ((((p4.toUInt32 >>> (((2 : Int32) * (1 : Int32)) &&& 31).toUInt32).toInt32) &&& (3 : Int32)) &&& (1 : Int32)) = (0 : Int32)
      · by_cases c3 : ((((p4.toUInt32 >>> (((2 : Int32) * (1 : Int32)) &&& 31).toUInt32).toInt32) &&& (3 : Int32)) &&& (2 : Int32)) = (0 : Int32)
        · refine own_mono (rmD1tt l Z az hw ws a0 (1 : Int32) p2 p4 p2 (own_sts (1 : Int32) p4 1) h0 n0 Z0 E_a0 J_c c1 c2 c3) fun v h L q => ?_
          obtain ⟨rfl, qN, rfl⟩ := q
          refine ⟨rfl, qN, Z0, E_a0, J_c.congr fun r _ => ?_⟩
          rw [own_sts_succ (own_fin1 (i := 1) (decide_eq_true c2) (decide_eq_true c3))]
          unfold own_ups
          by_cases c : r = 1
          · rw [if_pos c]; subst c; rfl
          · rw [if_neg c]
        · refine own_mono (rmD1tf l Z az hw ws a0 (1 : Int32) p2 p4 p2 (own_sts (1 : Int32) p4 1) h0 n0 Z0 E_a0 J_c c1 c2 c3 (by decide) c1 (by decide) (by rw [ez]; rfl)) fun v h L q => ?_
          obtain ⟨rfl, qN, qz, qJ⟩ := q
          refine ⟨rfl, qN, qz, qJ.exa, qJ.congr fun r _ => ?_⟩
          rw [ez, own_sts_succ (own_fin1 (i := 1) (decide_eq_true c2) (decide_eq_false c3))]
          all_goals rfl
      · by_cases c3 : ((((p4.toUInt32 >>> (((2 : Int32) * (1 : Int32)) &&& 31).toUInt32).toInt32) &&& (3 : Int32)) &&& (2 : Int32)) = (0 : Int32)
        · refine own_mono (rmD1ft l Z az hw ws a0 (1 : Int32) p2 p4 p2 (own_sts (1 : Int32) p4 1) h0 n0 Z0 E_a0 J_c c1 c2 (by decide) c1 (by decide) (by rw [ez]; rfl) c3) fun v h L q => ?_
          obtain ⟨rfl, qN, qz, qJ⟩ := q
          refine ⟨rfl, qN, qz, qJ.exa, qJ.congr fun r _ => ?_⟩
          rw [ez, own_sts_succ (own_fin1 (i := 1) (decide_eq_false c2) (decide_eq_true c3))]
          all_goals rfl
        · refine own_mono (rmD1ff l Z az hw ws a0 (1 : Int32) p2 p4 p2 (own_sts (1 : Int32) p4 1) h0 n0 Z0 E_a0 J_c c1 c2 (by decide) c1 (by decide) (by rw [ez]; rfl) c3 own_ups_eq) fun v h L q => ?_
          obtain ⟨rfl, qN, qz, qJ⟩ := q
          refine ⟨rfl, qN, qz, qJ.exa, qJ.congr fun r _ => ?_⟩
          rw [ez, own_sts_succ (own_fin1 (i := 1) (decide_eq_false c2) (decide_eq_false c3))]
          exact own_ups2
    · by_cases c2 : ((((p4.toUInt32 >>> (((2 : Int32) * (1 : Int32)) &&& 31).toUInt32).toInt32) &&& (3 : Int32)) &&& (1 : Int32)) = (0 : Int32)
      · by_cases c3 : ((((p4.toUInt32 >>> (((2 : Int32) * (1 : Int32)) &&& 31).toUInt32).toInt32) &&& (3 : Int32)) &&& (2 : Int32)) = (0 : Int32)
        · refine own_mono (rmD2tt l Z az hw ws a0 (1 : Int32) p2 p4 p2 (own_sts (2 : Int32) p4 1) h0 n0 Z0 E_a0 J_c c1 c2 c3) fun v h L q => ?_
          obtain ⟨rfl, qN, rfl⟩ := q
          refine ⟨rfl, qN, Z0, E_a0, J_c.congr fun r _ => ?_⟩
          rw [own_sts_succ (own_fin2 (i := 1) (decide_eq_true c2) (decide_eq_true c3))]
          unfold own_ups
          by_cases c : r = 1
          · rw [if_pos c]; subst c; rfl
          · rw [if_neg c]
        · refine own_mono (rmD2tf l Z az hw ws a0 (1 : Int32) p2 p4 p2 (own_sts (2 : Int32) p4 1) h0 n0 Z0 E_a0 J_c c1 c2 c3 (by decide) c1 (by decide) (by rw [ez]; rfl)) fun v h L q => ?_
          obtain ⟨rfl, qN, qz, qJ⟩ := q
          refine ⟨rfl, qN, qz, qJ.exa, qJ.congr fun r _ => ?_⟩
          rw [ez, own_sts_succ (own_fin2 (i := 1) (decide_eq_true c2) (decide_eq_false c3))]
          all_goals rfl
      · by_cases c3 : ((((p4.toUInt32 >>> (((2 : Int32) * (1 : Int32)) &&& 31).toUInt32).toInt32) &&& (3 : Int32)) &&& (2 : Int32)) = (0 : Int32)
        · refine own_mono (rmD2ft l Z az hw ws a0 (1 : Int32) p2 p4 p2 (own_sts (2 : Int32) p4 1) h0 n0 Z0 E_a0 J_c c1 c2 (by decide) c1 (by decide) (by rw [ez]; rfl) c3) fun v h L q => ?_
          obtain ⟨rfl, qN, qz, qJ⟩ := q
          refine ⟨rfl, qN, qz, qJ.exa, qJ.congr fun r _ => ?_⟩
          rw [ez, own_sts_succ (own_fin2 (i := 1) (decide_eq_false c2) (decide_eq_true c3))]
          all_goals rfl
        · refine own_mono (rmD2ff l Z az hw ws a0 (1 : Int32) p2 p4 p2 (own_sts (2 : Int32) p4 1) h0 n0 Z0 E_a0 J_c c1 c2 (by decide) c1 (by decide) (by rw [ez]; rfl) c3 own_ups_eq) fun v h L q => ?_
          obtain ⟨rfl, qN, qz, qJ⟩ := q
          refine ⟨rfl, qN, qz, qJ.exa, qJ.congr fun r _ => ?_⟩
          rw [ez, own_sts_succ (own_fin2 (i := 1) (decide_eq_false c2) (decide_eq_false c3))]
          exact own_ups2
  · refine own_mono (rmDf l Z az hw ws a0 (1 : Int32) p2 p3 p4 h0 n0 Z0 c1) fun v h L q => ?_
    obtain ⟨rfl, qN, rfl⟩ := q
    refine ⟨rfl, qN, Z0, E_a0, J_c.congr fun r hr => own_sts_ge (Nat.lt_of_lt_of_le hr ?_)⟩
    rcases hc_n with rfl | rfl | rfl | rfl <;> first | decide | exact absurd (by decide) c1
def QDS2 (Z : State) (a0 : Addr) (p2 : Int32) (p3 : Int32) (p4 : Int32) (h0 : Heap) (n0 : Nat) (v : Option Value) (h : Heap) (L : List Loc) : Prop := v = none ∧ Fr n0 L ∧ n0 ≤ h.size ∧ Exa Z h a0 cCV ∧ own_Cov Z h n0 a0 p3 p2 (own_sts p3 p4 3)
set_option maxRecDepth 65536 in
set_option maxHeartbeats 40000000 in
theorem rmDS2 (l : Launch) (Z : State) (az : Array Value) (hw : ∀ d ∈ tables_1, d.before az Z = true) (ws : List Jvm.Cond) (a0 : Addr) (p2 : Int32) (p3 : Int32) (p4 : Int32) (h0 : Heap) (n0 : Nat) (Z0 : n0 ≤ h0.size) (E_a0 : Exa Z h0 a0 cCV) (J_c : own_Cov Z h0 n0 a0 p3 p2 (own_sts p3 p4 2)) (hc_lc : p3 = (1 : Int32) ∨ p3 = (2 : Int32)) (hc_n : own_n3 p2) :
    MetFree l (⟨cLW, "doSettle", "(Lcom/example/headlattice/headlattice/learn/Coverage;IIII)V"⟩ : MethodName) (head1 (Jvm.Cond.code (⟨cLW, "doSettle", "(Lcom/example/headlattice/headlattice/learn/Coverage;IIII)V"⟩ : MethodName) method_4_code 6 none :: ws) ({ frames := 4, cells := 6, slots := 10, locals := 150 } : Room)) (fun a U => a = #[(.ref a0), (.int (2 : Int32)), (.int p2), (.int p3), (.int p4)] ∧ Z.Warmed39 U.vm ∧ U.heap = h0) (fun _ _ _ _ _ => True) (fun _ U o U' => ∃ v L, o = .returned v ∧ QDS2 Z a0 p2 p3 p4 h0 n0 v U'.heap L ∧ FrameEnd U o U' L ({ frames := 4, cells := 6, slots := 10, locals := 150 } : Room).cells ({ frames := 4, cells := 6, slots := 10, locals := 150 } : Room).slots) := by
  by_cases c1 : (2 : Int32) < p2
  · have e8 : (2 : Int32) < (8 : Int32) := by decide
    have ez : ((2 : Int32)).toNatClampNeg = 2 := by decide
    rcases hc_lc with rfl | rfl
    · by_cases c2 : ((((p4.toUInt32 >>> (((2 : Int32) * (2 : Int32)) &&& 31).toUInt32).toInt32) &&& (3 : Int32)) &&& (1 : Int32)) = (0 : Int32)
      · by_cases c3 : ((((p4.toUInt32 >>> (((2 : Int32) * (2 : Int32)) &&& 31).toUInt32).toInt32) &&& (3 : Int32)) &&& (2 : Int32)) = (0 : Int32)
        · refine own_mono (rmD1tt l Z az hw ws a0 (2 : Int32) p2 p4 p2 (own_sts (1 : Int32) p4 2) h0 n0 Z0 E_a0 J_c c1 c2 c3) fun v h L q => ?_
          obtain ⟨rfl, qN, rfl⟩ := q
          refine ⟨rfl, qN, Z0, E_a0, J_c.congr fun r _ => ?_⟩
          rw [own_sts_succ (own_fin1 (i := 2) (decide_eq_true c2) (decide_eq_true c3))]
          unfold own_ups
          by_cases c : r = 2
          · rw [if_pos c]; subst c; rfl
          · rw [if_neg c]
        · refine own_mono (rmD1tf l Z az hw ws a0 (2 : Int32) p2 p4 p2 (own_sts (1 : Int32) p4 2) h0 n0 Z0 E_a0 J_c c1 c2 c3 (by decide) c1 (by decide) (by rw [ez]; rfl)) fun v h L q => ?_
          obtain ⟨rfl, qN, qz, qJ⟩ := q
          refine ⟨rfl, qN, qz, qJ.exa, qJ.congr fun r _ => ?_⟩
          rw [ez, own_sts_succ (own_fin1 (i := 2) (decide_eq_true c2) (decide_eq_false c3))]
          all_goals rfl
      · by_cases c3 : ((((p4.toUInt32 >>> (((2 : Int32) * (2 : Int32)) &&& 31).toUInt32).toInt32) &&& (3 : Int32)) &&& (2 : Int32)) = (0 : Int32)
        · refine own_mono (rmD1ft l Z az hw ws a0 (2 : Int32) p2 p4 p2 (own_sts (1 : Int32) p4 2) h0 n0 Z0 E_a0 J_c c1 c2 (by decide) c1 (by decide) (by rw [ez]; rfl) c3) fun v h L q => ?_
          obtain ⟨rfl, qN, qz, qJ⟩ := q
          refine ⟨rfl, qN, qz, qJ.exa, qJ.congr fun r _ => ?_⟩
          rw [ez, own_sts_succ (own_fin1 (i := 2) (decide_eq_false c2) (decide_eq_true c3))]
          all_goals rfl
        · refine own_mono (rmD1ff l Z az hw ws a0 (2 : Int32) p2 p4 p2 (own_sts (1 : Int32) p4 2) h0 n0 Z0 E_a0 J_c c1 c2 (by decide) c1 (by decide) (by rw [ez]; rfl) c3 own_ups_eq) fun v h L q => ?_
          obtain ⟨rfl, qN, qz, qJ⟩ := q
          refine ⟨rfl, qN, qz, qJ.exa, qJ.congr fun r _ => ?_⟩
          rw [ez, own_sts_succ (own_fin1 (i := 2) (decide_eq_false c2) (decide_eq_false c3))]
          exact own_ups2
    · by_cases c2 : ((((p4.toUInt32 >>> (((2 : Int32) * (2 : Int32)) &&& 31).toUInt32).toInt32) &&& (3 : Int32)) &&& (1 : Int32)) = (0 : Int32)
      · by_cases c3 : ((((p4.toUInt32 >>> (((2 : Int32) * (2 : Int32)) &&& 31).toUInt32).toInt32) &&& (3 : Int32)) &&& (2 : Int32)) = (0 : Int32)
        · refine own_mono (rmD2tt l Z az hw ws a0 (2 : Int32) p2 p4 p2 (own_sts (2 : Int32) p4 2) h0 n0 Z0 E_a0 J_c c1 c2 c3) fun v h L q => ?_
          obtain ⟨rfl, qN, rfl⟩ := q
          refine ⟨rfl, qN, Z0, E_a0, J_c.congr fun r _ => ?_⟩
          rw [own_sts_succ (own_fin2 (i := 2) (decide_eq_true c2) (decide_eq_true c3))]
          unfold own_ups
          by_cases c : r = 2
          · rw [if_pos c]; subst c; rfl
          · rw [if_neg c]
        · refine own_mono (rmD2tf l Z az hw ws a0 (2 : Int32) p2 p4 p2 (own_sts (2 : Int32) p4 2) h0 n0 Z0 E_a0 J_c c1 c2 c3 (by decide) c1 (by decide) (by rw [ez]; rfl)) fun v h L q => ?_
          obtain ⟨rfl, qN, qz, qJ⟩ := q
          refine ⟨rfl, qN, qz, qJ.exa, qJ.congr fun r _ => ?_⟩
          rw [ez, own_sts_succ (own_fin2 (i := 2) (decide_eq_true c2) (decide_eq_false c3))]
          all_goals rfl
      · by_cases c3 : ((((p4.toUInt32 >>> (((2 : Int32) * (2 : Int32)) &&& 31).toUInt32).toInt32) &&& (3 : Int32)) &&& (2 : Int32)) = (0 : Int32)
        · refine own_mono (rmD2ft l Z az hw ws a0 (2 : Int32) p2 p4 p2 (own_sts (2 : Int32) p4 2) h0 n0 Z0 E_a0 J_c c1 c2 (by decide) c1 (by decide) (by rw [ez]; rfl) c3) fun v h L q => ?_
          obtain ⟨rfl, qN, qz, qJ⟩ := q
          refine ⟨rfl, qN, qz, qJ.exa, qJ.congr fun r _ => ?_⟩
          rw [ez, own_sts_succ (own_fin2 (i := 2) (decide_eq_false c2) (decide_eq_true c3))]
          all_goals rfl
        · refine own_mono (rmD2ff l Z az hw ws a0 (2 : Int32) p2 p4 p2 (own_sts (2 : Int32) p4 2) h0 n0 Z0 E_a0 J_c c1 c2 (by decide) c1 (by decide) (by rw [ez]; rfl) c3 own_ups_eq) fun v h L q => ?_
          obtain ⟨rfl, qN, qz, qJ⟩ := q
          refine ⟨rfl, qN, qz, qJ.exa, qJ.congr fun r _ => ?_⟩
          rw [ez, own_sts_succ (own_fin2 (i := 2) (decide_eq_false c2) (decide_eq_false c3))]
          exact own_ups2
  · refine own_mono (rmDf l Z az hw ws a0 (2 : Int32) p2 p3 p4 h0 n0 Z0 c1) fun v h L q => ?_
    obtain ⟨rfl, qN, rfl⟩ := q
    refine ⟨rfl, qN, Z0, E_a0, J_c.congr fun r hr => own_sts_ge (Nat.lt_of_lt_of_le hr ?_)⟩
    rcases hc_n with rfl | rfl | rfl | rfl <;> first | decide | exact absurd (by decide) c1
theorem d5_0 : decode method_5_code 0 = .ok (.iload_n 0, 1) := by decide +kernel
theorem d5_1 : decode method_5_code 1 = .ok (.iload_n 1, 1) := by decide +kernel
theorem d5_2 : decode method_5_code 2 = .ok (.if_icmp .lt 5, 3) := by decide +kernel
theorem d5_5 : decode method_5_code 5 = .ok (.lconst 0, 1) := by decide +kernel
theorem d5_6 : decode method_5_code 6 = .ok (.lreturn, 1) := by decide +kernel
theorem ef_rmBf (m : MethodId) (p0 : Int32) (p1 : Int32) (p2 : Int32) (p3 : Int32) : entryFrame m #[(.int p0), (.int p1), (.int p2), (.int p3)] 6 = mkF m 0 #[vI p0, vI p1, vI p2, vI p3, .unset, .unset] [] := by first | (simp [entryFrame, mkF, argsToLocals, Value.category]; done) | rfl
def QBf (Z : State) (p0 : Int32) (p1 : Int32) (p2 : Int32) (p3 : Int32) (h0 : Heap) (n0 : Nat) (v : Option Value) (h : Heap) (L : List Loc) : Prop := v = some (.long (0 : Int64)) ∧ Fr n0 L ∧ h = h0
set_option maxRecDepth 65536 in
set_option maxHeartbeats 40000000 in
theorem rmBf (l : Launch) (Z : State) (az : Array Value) (hw : ∀ d ∈ tables_1, d.before az Z = true) (ws : List Jvm.Cond) (p0 : Int32) (p1 : Int32) (p2 : Int32) (p3 : Int32) (h0 : Heap) (n0 : Nat) (Z0 : n0 ≤ h0.size) (hc0 : ¬ (p0 < p1)) :
    MetFree l (⟨cLW, "bit", "(IIII)J"⟩ : MethodName) (head1 (Jvm.Cond.code (⟨cLW, "bit", "(IIII)J"⟩ : MethodName) method_5_code 6 (some .long) :: ws) ({ frames := 0, cells := 0, slots := 0, locals := 0 } : Room)) (fun a U => a = #[(.int p0), (.int p1), (.int p2), (.int p3)] ∧ Z.Warmed39 U.vm ∧ U.heap = h0) (fun _ _ _ _ _ => True) (fun _ U o U' => ∃ v L, o = .returned v ∧ QBf Z p0 p1 p2 p3 h0 n0 v U'.heap L ∧ FrameEnd U o U' L ({ frames := 0, cells := 0, slots := 0, locals := 0 } : Room).cells ({ frames := 0, cells := 0, slots := 0, locals := 0 } : Room).slots) := by
  refine MetFree.of_bodySF (plainFor_of_name pn_com_example_headlattice_headlattice_learn_CoverageRemainingRowSetPinLaw) hisR ?_
  intro p e s m args below meth c s₁ Bd hml0 hP hK
  obtain ⟨rfl, hZ, hh⟩ := hP
  have hx := Bd.exec
  have hby := Bd.bytes
  have hml : c.maxLocals = 6 := hml0
  have hown : s.vm.findClass cLW = some m.cls := findClass_of_methodNamed Bd.named
  have hnm := (name_of_methodNamed Bd.named Bd.method).1
  have X0 : Stand p l e ({ frames := 0, cells := 0, slots := 0, locals := 0 } : Room) s m #[(.int p0), (.int p1), (.int p2), (.int p3)] below meth c s₁ [] 0 0 := Stand.of_body Bd
  have e0 : s₁.heap = h0 := by rw [← hh, Bd.state]; rfl
  have N0 := Fr.nil n0
  have pre0 : ∀ t, Steps p.tables e below (s₁.setTop (mkF m 0 #[vI p0, vI p1, vI p2, vI p3, .unset, .unset] [])) t → Steps p.tables e below (s₁.setTop (entryFrame m #[(.int p0), (.int p1), (.int p2), (.int p3)] 6)) t := fun t k => castTop (ef_rmBf m p0 p1 p2 p3) k
  obtain ⟨fs, hr, hrun, hended, hW, hsame⟩ := X0.leave (v := some (.long (0 : Int64))) (fun h => by rw [Bd.returns] at h; cases h)
  refine ⟨_, _, pre0 _ ?_, hrun, hended, _, _, rfl, ?_, ⟨_, rfl⟩, hW, hsame.mono (by decide) (by decide)⟩
  · show Steps p.tables e below (s₁.setTop (mkF m 0 #[vI p0, vI p1, vI p2, vI p3, .unset, .unset] [])) _
    refine XS.iloadN X0.here hx rfl (hb hby d5_0) rfl ?_
    refine XS.iloadN X0.here hx rfl (hb hby d5_1) rfl ?_
    refine XS.icmpNo X0.here hx rfl (hb hby d5_2) rfl (flt hc0).1 ?_
    refine XS.lconst X0.here hx rfl (hb hby d5_5) ?_
    show Steps p.tables e below (s₁.setTop (mkF m 6 #[vI p0, vI p1, vI p2, vI p3, .unset, .unset] [(.long (0 : Int64))])) _
    jvm_step X0.here [X0.here.top, hx, (hb hby d5_6), X0.method', Bd.returns, narrow]
    first | (intro acts; rw [hr _ acts rfl rfl rfl]) | rw [hr _ _ rfl rfl rfl]
    exact Steps.refl _
  · show QBf Z p0 p1 p2 p3 h0 n0 _ s₁.heap _
    rw [e0]
    exact ⟨rfl, N0, rfl⟩
theorem d5_7 : decode method_5_code 7 = .ok (.iload_n 3, 1) := by decide +kernel
theorem d5_8 : decode method_5_code 8 = .ok (.iconst 2, 1) := by decide +kernel
theorem d5_9 : decode method_5_code 9 = .ok (.iload_n 0, 1) := by decide +kernel
theorem d5_10 : decode method_5_code 10 = .ok (.imul, 1) := by decide +kernel
theorem d5_11 : decode method_5_code 11 = .ok (.iushr, 1) := by decide +kernel
theorem d5_12 : decode method_5_code 12 = .ok (.iconst 3, 1) := by decide +kernel
theorem d5_13 : decode method_5_code 13 = .ok (.iand, 1) := by decide +kernel
theorem d5_14 : decode method_5_code 14 = .ok (.istore 4, 2) := by decide +kernel
theorem d5_16 : decode method_5_code 16 = .ok (.iload_n 2, 1) := by decide +kernel
theorem d5_17 : decode method_5_code 17 = .ok (.iconst 1, 1) := by decide +kernel
theorem d5_18 : decode method_5_code 18 = .ok (.if_icmp .ne 18, 3) := by decide +kernel
theorem d5_21 : decode method_5_code 21 = .ok (.iload 4, 2) := by decide +kernel
theorem d5_23 : decode method_5_code 23 = .ok (.ifCond .ne 7, 3) := by decide +kernel
theorem d5_30 : decode method_5_code 30 = .ok (.iconst 0, 1) := by decide +kernel
theorem d5_31 : decode method_5_code 31 = .ok (.istore 5, 2) := by decide +kernel
theorem d5_33 : decode method_5_code 33 = .ok (.goto 16, 3) := by decide +kernel
theorem d5_49 : decode method_5_code 49 = .ok (.iload 5, 2) := by decide +kernel
theorem d5_51 : decode method_5_code 51 = .ok (.ifCond .eq 9, 3) := by decide +kernel
theorem d5_60 : decode method_5_code 60 = .ok (.lconst 0, 1) := by decide +kernel
theorem d5_61 : decode method_5_code 61 = .ok (.lreturn, 1) := by decide +kernel
theorem ef_rmBtft (m : MethodId) (p0 : Int32) (p1 : Int32) (p2 : Int32) (p3 : Int32) : entryFrame m #[(.int p0), (.int p1), (.int p2), (.int p3)] 6 = mkF m 0 #[vI p0, vI p1, vI p2, vI p3, .unset, .unset] [] := by first | (simp [entryFrame, mkF, argsToLocals, Value.category]; done) | rfl
def QBtft (Z : State) (p0 : Int32) (p1 : Int32) (p2 : Int32) (p3 : Int32) (h0 : Heap) (n0 : Nat) (v : Option Value) (h : Heap) (L : List Loc) : Prop := v = some (.long (0 : Int64)) ∧ Fr n0 L ∧ h = h0
set_option maxRecDepth 65536 in
set_option maxHeartbeats 40000000 in
theorem rmBtft (l : Launch) (Z : State) (az : Array Value) (hw : ∀ d ∈ tables_1, d.before az Z = true) (ws : List Jvm.Cond) (p0 : Int32) (p1 : Int32) (p2 : Int32) (p3 : Int32) (h0 : Heap) (n0 : Nat) (Z0 : n0 ≤ h0.size) (hc0 : p0 < p1) (hc1 : p2 = (1 : Int32)) (hc2 : ¬ ((((p3.toUInt32 >>> (((2 : Int32) * p0) &&& 31).toUInt32).toInt32) &&& (3 : Int32)) = (0 : Int32))) :
    MetFree l (⟨cLW, "bit", "(IIII)J"⟩ : MethodName) (head1 (Jvm.Cond.code (⟨cLW, "bit", "(IIII)J"⟩ : MethodName) method_5_code 6 (some .long) :: ws) ({ frames := 0, cells := 0, slots := 0, locals := 0 } : Room)) (fun a U => a = #[(.int p0), (.int p1), (.int p2), (.int p3)] ∧ Z.Warmed39 U.vm ∧ U.heap = h0) (fun _ _ _ _ _ => True) (fun _ U o U' => ∃ v L, o = .returned v ∧ QBtft Z p0 p1 p2 p3 h0 n0 v U'.heap L ∧ FrameEnd U o U' L ({ frames := 0, cells := 0, slots := 0, locals := 0 } : Room).cells ({ frames := 0, cells := 0, slots := 0, locals := 0 } : Room).slots) := by
  refine MetFree.of_bodySF (plainFor_of_name pn_com_example_headlattice_headlattice_learn_CoverageRemainingRowSetPinLaw) hisR ?_
  intro p e s m args below meth c s₁ Bd hml0 hP hK
  obtain ⟨rfl, hZ, hh⟩ := hP
  have hx := Bd.exec
  have hby := Bd.bytes
  have hml : c.maxLocals = 6 := hml0
  have hown : s.vm.findClass cLW = some m.cls := findClass_of_methodNamed Bd.named
  have hnm := (name_of_methodNamed Bd.named Bd.method).1
  have X0 : Stand p l e ({ frames := 0, cells := 0, slots := 0, locals := 0 } : Room) s m #[(.int p0), (.int p1), (.int p2), (.int p3)] below meth c s₁ [] 0 0 := Stand.of_body Bd
  have e0 : s₁.heap = h0 := by rw [← hh, Bd.state]; rfl
  have N0 := Fr.nil n0
  have pre0 : ∀ t, Steps p.tables e below (s₁.setTop (mkF m 0 #[vI p0, vI p1, vI p2, vI p3, .unset, .unset] [])) t → Steps p.tables e below (s₁.setTop (entryFrame m #[(.int p0), (.int p1), (.int p2), (.int p3)] 6)) t := fun t k => castTop (ef_rmBtft m p0 p1 p2 p3) k
  obtain ⟨fs, hr, hrun, hended, hW, hsame⟩ := X0.leave (v := some (.long (0 : Int64))) (fun h => by rw [Bd.returns] at h; cases h)
  refine ⟨_, _, pre0 _ ?_, hrun, hended, _, _, rfl, ?_, ⟨_, rfl⟩, hW, hsame.mono (by decide) (by decide)⟩
  · show Steps p.tables e below (s₁.setTop (mkF m 0 #[vI p0, vI p1, vI p2, vI p3, .unset, .unset] [])) _
    refine XS.iloadN X0.here hx rfl (hb hby d5_0) rfl ?_
    refine XS.iloadN X0.here hx rfl (hb hby d5_1) rfl ?_
    refine XS.icmpYes X0.here hx rfl (pc0 := 2) (pc' := 7) rfl (hb hby d5_2) rfl (tlt hc0).1 (by decide) (by decide) ?_
    refine XS.iloadN X0.here hx rfl (hb hby d5_7) rfl ?_
    refine XS.iconst X0.here hx rfl (hb hby d5_8) ?_
    refine XS.iloadN X0.here hx rfl (hb hby d5_9) rfl ?_
    refine XS.imul X0.here hx rfl (hb hby d5_10) rfl ?_
    refine XS.iushr X0.here hx rfl (hb hby d5_11) rfl ?_
    refine XS.iconst X0.here hx rfl (hb hby d5_12) ?_
    refine XS.iand X0.here hx rfl (hb hby d5_13) rfl ?_
    refine XS.istore X0.here hx rfl (hb hby d5_14) rfl (l' := #[vI p0, vI p1, vI p2, vI p3, vI (((p3.toUInt32 >>> (((2 : Int32) * p0) &&& 31).toUInt32).toInt32) &&& (3 : Int32)), .unset]) rfl ?_
    refine XS.iloadN X0.here hx rfl (hb hby d5_16) rfl ?_
    refine XS.iconst X0.here hx rfl (hb hby d5_17) ?_
    show Steps p.tables e below (s₁.setTop (mkF m 18 #[vI p0, vI p1, vI p2, vI p3, vI (((p3.toUInt32 >>> (((2 : Int32) * p0) &&& 31).toUInt32).toInt32) &&& (3 : Int32)), .unset] [(.int (1 : Int32)), (.int p2)])) _
    refine XS.icmpNo X0.here hx rfl (hb hby d5_18) rfl (teq hc1).2 ?_
    refine XS.iload X0.here hx rfl (hb hby d5_21) rfl ?_
    refine XS.ifYes X0.here hx rfl (pc0 := 23) (pc' := 30) rfl (hb hby d5_23) rfl ((if0 _ _).trans (feq hc2).2) (by decide) (by decide) ?_
    refine XS.iconst X0.here hx rfl (hb hby d5_30) ?_
    refine XS.istore X0.here hx rfl (hb hby d5_31) rfl (l' := #[vI p0, vI p1, vI p2, vI p3, vI (((p3.toUInt32 >>> (((2 : Int32) * p0) &&& 31).toUInt32).toInt32) &&& (3 : Int32)), vI (0 : Int32)]) rfl ?_
    refine XS.goto X0.here hx rfl (pc0 := 33) (pc' := 49) rfl (hb hby d5_33) (by decide) (by decide) ?_
    refine XS.iload X0.here hx rfl (hb hby d5_49) rfl ?_
    refine XS.ifYes X0.here hx rfl (pc0 := 51) (pc' := 60) rfl (hb hby d5_51) rfl ((if0 _ _).trans (teq (by decide : (0 : Int32) = (0 : Int32))).1) (by decide) (by decide) ?_
    refine XS.lconst X0.here hx rfl (hb hby d5_60) ?_
    show Steps p.tables e below (s₁.setTop (mkF m 61 #[vI p0, vI p1, vI p2, vI p3, vI (((p3.toUInt32 >>> (((2 : Int32) * p0) &&& 31).toUInt32).toInt32) &&& (3 : Int32)), vI (0 : Int32)] [(.long (0 : Int64))])) _
    jvm_step X0.here [X0.here.top, hx, (hb hby d5_61), X0.method', Bd.returns, narrow]
    first | (intro acts; rw [hr _ acts rfl rfl rfl]) | rw [hr _ _ rfl rfl rfl]
    exact Steps.refl _
  · show QBtft Z p0 p1 p2 p3 h0 n0 _ s₁.heap _
    rw [e0]
    exact ⟨rfl, N0, rfl⟩
theorem d5_26 : decode method_5_code 26 = .ok (.iconst 1, 1) := by decide +kernel
theorem d5_27 : decode method_5_code 27 = .ok (.goto 4, 3) := by decide +kernel
theorem d5_54 : decode method_5_code 54 = .ok (.lconst 1, 1) := by decide +kernel
theorem d5_55 : decode method_5_code 55 = .ok (.iload_n 0, 1) := by decide +kernel
theorem d5_56 : decode method_5_code 56 = .ok (.lshl, 1) := by decide +kernel
theorem d5_57 : decode method_5_code 57 = .ok (.goto 4, 3) := by decide +kernel
theorem ef_rmBtff (m : MethodId) (p0 : Int32) (p1 : Int32) (p2 : Int32) (p3 : Int32) : entryFrame m #[(.int p0), (.int p1), (.int p2), (.int p3)] 6 = mkF m 0 #[vI p0, vI p1, vI p2, vI p3, .unset, .unset] [] := by first | (simp [entryFrame, mkF, argsToLocals, Value.category]; done) | rfl
def QBtff (Z : State) (p0 : Int32) (p1 : Int32) (p2 : Int32) (p3 : Int32) (h0 : Heap) (n0 : Nat) (v : Option Value) (h : Heap) (L : List Loc) : Prop := v = some (.long ((1 : Int64) <<< (p0 &&& 0x3f).toInt64)) ∧ Fr n0 L ∧ h = h0
set_option maxRecDepth 65536 in
set_option maxHeartbeats 40000000 in
theorem rmBtff (l : Launch) (Z : State) (az : Array Value) (hw : ∀ d ∈ tables_1, d.before az Z = true) (ws : List Jvm.Cond) (p0 : Int32) (p1 : Int32) (p2 : Int32) (p3 : Int32) (h0 : Heap) (n0 : Nat) (Z0 : n0 ≤ h0.size) (hc0 : p0 < p1) (hc1 : p2 = (1 : Int32)) (hc2 : (((p3.toUInt32 >>> (((2 : Int32) * p0) &&& 31).toUInt32).toInt32) &&& (3 : Int32)) = (0 : Int32)) :
    MetFree l (⟨cLW, "bit", "(IIII)J"⟩ : MethodName) (head1 (Jvm.Cond.code (⟨cLW, "bit", "(IIII)J"⟩ : MethodName) method_5_code 6 (some .long) :: ws) ({ frames := 0, cells := 0, slots := 0, locals := 0 } : Room)) (fun a U => a = #[(.int p0), (.int p1), (.int p2), (.int p3)] ∧ Z.Warmed39 U.vm ∧ U.heap = h0) (fun _ _ _ _ _ => True) (fun _ U o U' => ∃ v L, o = .returned v ∧ QBtff Z p0 p1 p2 p3 h0 n0 v U'.heap L ∧ FrameEnd U o U' L ({ frames := 0, cells := 0, slots := 0, locals := 0 } : Room).cells ({ frames := 0, cells := 0, slots := 0, locals := 0 } : Room).slots) := by
  refine MetFree.of_bodySF (plainFor_of_name pn_com_example_headlattice_headlattice_learn_CoverageRemainingRowSetPinLaw) hisR ?_
  intro p e s m args below meth c s₁ Bd hml0 hP hK
  obtain ⟨rfl, hZ, hh⟩ := hP
  have hx := Bd.exec
  have hby := Bd.bytes
  have hml : c.maxLocals = 6 := hml0
  have hown : s.vm.findClass cLW = some m.cls := findClass_of_methodNamed Bd.named
  have hnm := (name_of_methodNamed Bd.named Bd.method).1
  have X0 : Stand p l e ({ frames := 0, cells := 0, slots := 0, locals := 0 } : Room) s m #[(.int p0), (.int p1), (.int p2), (.int p3)] below meth c s₁ [] 0 0 := Stand.of_body Bd
  have e0 : s₁.heap = h0 := by rw [← hh, Bd.state]; rfl
  have N0 := Fr.nil n0
  have pre0 : ∀ t, Steps p.tables e below (s₁.setTop (mkF m 0 #[vI p0, vI p1, vI p2, vI p3, .unset, .unset] [])) t → Steps p.tables e below (s₁.setTop (entryFrame m #[(.int p0), (.int p1), (.int p2), (.int p3)] 6)) t := fun t k => castTop (ef_rmBtff m p0 p1 p2 p3) k
  obtain ⟨fs, hr, hrun, hended, hW, hsame⟩ := X0.leave (v := some (.long ((1 : Int64) <<< (p0 &&& 0x3f).toInt64))) (fun h => by rw [Bd.returns] at h; cases h)
  refine ⟨_, _, pre0 _ ?_, hrun, hended, _, _, rfl, ?_, ⟨_, rfl⟩, hW, hsame.mono (by decide) (by decide)⟩
  · show Steps p.tables e below (s₁.setTop (mkF m 0 #[vI p0, vI p1, vI p2, vI p3, .unset, .unset] [])) _
    refine XS.iloadN X0.here hx rfl (hb hby d5_0) rfl ?_
    refine XS.iloadN X0.here hx rfl (hb hby d5_1) rfl ?_
    refine XS.icmpYes X0.here hx rfl (pc0 := 2) (pc' := 7) rfl (hb hby d5_2) rfl (tlt hc0).1 (by decide) (by decide) ?_
    refine XS.iloadN X0.here hx rfl (hb hby d5_7) rfl ?_
    refine XS.iconst X0.here hx rfl (hb hby d5_8) ?_
    refine XS.iloadN X0.here hx rfl (hb hby d5_9) rfl ?_
    refine XS.imul X0.here hx rfl (hb hby d5_10) rfl ?_
    refine XS.iushr X0.here hx rfl (hb hby d5_11) rfl ?_
    refine XS.iconst X0.here hx rfl (hb hby d5_12) ?_
    refine XS.iand X0.here hx rfl (hb hby d5_13) rfl ?_
    refine XS.istore X0.here hx rfl (hb hby d5_14) rfl (l' := #[vI p0, vI p1, vI p2, vI p3, vI (((p3.toUInt32 >>> (((2 : Int32) * p0) &&& 31).toUInt32).toInt32) &&& (3 : Int32)), .unset]) rfl ?_
    refine XS.iloadN X0.here hx rfl (hb hby d5_16) rfl ?_
    refine XS.iconst X0.here hx rfl (hb hby d5_17) ?_
    show Steps p.tables e below (s₁.setTop (mkF m 18 #[vI p0, vI p1, vI p2, vI p3, vI (((p3.toUInt32 >>> (((2 : Int32) * p0) &&& 31).toUInt32).toInt32) &&& (3 : Int32)), .unset] [(.int (1 : Int32)), (.int p2)])) _
    refine XS.icmpNo X0.here hx rfl (hb hby d5_18) rfl (teq hc1).2 ?_
    refine XS.iload X0.here hx rfl (hb hby d5_21) rfl ?_
    refine XS.ifNo X0.here hx rfl (hb hby d5_23) rfl ((if0 _ _).trans (teq hc2).2) ?_
    refine XS.iconst X0.here hx rfl (hb hby d5_26) ?_
    refine XS.goto X0.here hx rfl (pc0 := 27) (pc' := 31) rfl (hb hby d5_27) (by decide) (by decide) ?_
    refine XS.istore X0.here hx rfl (hb hby d5_31) rfl (l' := #[vI p0, vI p1, vI p2, vI p3, vI (((p3.toUInt32 >>> (((2 : Int32) * p0) &&& 31).toUInt32).toInt32) &&& (3 : Int32)), vI (1 : Int32)]) rfl ?_
    refine XS.goto X0.here hx rfl (pc0 := 33) (pc' := 49) rfl (hb hby d5_33) (by decide) (by decide) ?_
    refine XS.iload X0.here hx rfl (hb hby d5_49) rfl ?_
    refine XS.ifNo X0.here hx rfl (hb hby d5_51) rfl ((if0 _ _).trans (feq (by decide : ¬ ((1 : Int32) = (0 : Int32)))).1) ?_
    refine XS.lconst X0.here hx rfl (hb hby d5_54) ?_
    refine XS.iloadN X0.here hx rfl (hb hby d5_55) rfl ?_
    refine XS.lshl X0.here hx rfl (hb hby d5_56) rfl ?_
    refine XS.goto X0.here hx rfl (pc0 := 57) (pc' := 61) rfl (hb hby d5_57) (by decide) (by decide) ?_
    show Steps p.tables e below (s₁.setTop (mkF m 61 #[vI p0, vI p1, vI p2, vI p3, vI (((p3.toUInt32 >>> (((2 : Int32) * p0) &&& 31).toUInt32).toInt32) &&& (3 : Int32)), vI (1 : Int32)] [(.long ((1 : Int64) <<< (p0 &&& 0x3f).toInt64))])) _
    generalize ((1 : Int64) <<< (p0 &&& 0x3f).toInt64) = gv at hr ⊢
    jvm_step X0.here [X0.here.top, hx, (hb hby d5_61), X0.method', Bd.returns, narrow]
    first | (intro acts; rw [hr _ acts rfl rfl rfl]) | rw [hr _ _ rfl rfl rfl]
    exact Steps.refl _
  · show QBtff Z p0 p1 p2 p3 h0 n0 _ s₁.heap _
    rw [e0]
    exact ⟨rfl, N0, rfl⟩
theorem d5_36 : decode method_5_code 36 = .ok (.iload 4, 2) := by decide +kernel
theorem d5_38 : decode method_5_code 38 = .ok (.iconst 3, 1) := by decide +kernel
theorem d5_39 : decode method_5_code 39 = .ok (.if_icmp .eq 7, 3) := by decide +kernel
theorem d5_46 : decode method_5_code 46 = .ok (.iconst 0, 1) := by decide +kernel
theorem d5_47 : decode method_5_code 47 = .ok (.istore 5, 2) := by decide +kernel
theorem ef_rmBttt (m : MethodId) (p0 : Int32) (p1 : Int32) (p2 : Int32) (p3 : Int32) : entryFrame m #[(.int p0), (.int p1), (.int p2), (.int p3)] 6 = mkF m 0 #[vI p0, vI p1, vI p2, vI p3, .unset, .unset] [] := by first | (simp [entryFrame, mkF, argsToLocals, Value.category]; done) | rfl
def QBttt (Z : State) (p0 : Int32) (p1 : Int32) (p2 : Int32) (p3 : Int32) (h0 : Heap) (n0 : Nat) (v : Option Value) (h : Heap) (L : List Loc) : Prop := v = some (.long (0 : Int64)) ∧ Fr n0 L ∧ h = h0
set_option maxRecDepth 65536 in
set_option maxHeartbeats 40000000 in
theorem rmBttt (l : Launch) (Z : State) (az : Array Value) (hw : ∀ d ∈ tables_1, d.before az Z = true) (ws : List Jvm.Cond) (p0 : Int32) (p1 : Int32) (p2 : Int32) (p3 : Int32) (h0 : Heap) (n0 : Nat) (Z0 : n0 ≤ h0.size) (hc0 : p0 < p1) (hc1 : ¬ (p2 = (1 : Int32))) (hc2 : (((p3.toUInt32 >>> (((2 : Int32) * p0) &&& 31).toUInt32).toInt32) &&& (3 : Int32)) = (3 : Int32)) :
    MetFree l (⟨cLW, "bit", "(IIII)J"⟩ : MethodName) (head1 (Jvm.Cond.code (⟨cLW, "bit", "(IIII)J"⟩ : MethodName) method_5_code 6 (some .long) :: ws) ({ frames := 0, cells := 0, slots := 0, locals := 0 } : Room)) (fun a U => a = #[(.int p0), (.int p1), (.int p2), (.int p3)] ∧ Z.Warmed39 U.vm ∧ U.heap = h0) (fun _ _ _ _ _ => True) (fun _ U o U' => ∃ v L, o = .returned v ∧ QBttt Z p0 p1 p2 p3 h0 n0 v U'.heap L ∧ FrameEnd U o U' L ({ frames := 0, cells := 0, slots := 0, locals := 0 } : Room).cells ({ frames := 0, cells := 0, slots := 0, locals := 0 } : Room).slots) := by
  refine MetFree.of_bodySF (plainFor_of_name pn_com_example_headlattice_headlattice_learn_CoverageRemainingRowSetPinLaw) hisR ?_
  intro p e s m args below meth c s₁ Bd hml0 hP hK
  obtain ⟨rfl, hZ, hh⟩ := hP
  have hx := Bd.exec
  have hby := Bd.bytes
  have hml : c.maxLocals = 6 := hml0
  have hown : s.vm.findClass cLW = some m.cls := findClass_of_methodNamed Bd.named
  have hnm := (name_of_methodNamed Bd.named Bd.method).1
  have X0 : Stand p l e ({ frames := 0, cells := 0, slots := 0, locals := 0 } : Room) s m #[(.int p0), (.int p1), (.int p2), (.int p3)] below meth c s₁ [] 0 0 := Stand.of_body Bd
  have e0 : s₁.heap = h0 := by rw [← hh, Bd.state]; rfl
  have N0 := Fr.nil n0
  have pre0 : ∀ t, Steps p.tables e below (s₁.setTop (mkF m 0 #[vI p0, vI p1, vI p2, vI p3, .unset, .unset] [])) t → Steps p.tables e below (s₁.setTop (entryFrame m #[(.int p0), (.int p1), (.int p2), (.int p3)] 6)) t := fun t k => castTop (ef_rmBttt m p0 p1 p2 p3) k
  obtain ⟨fs, hr, hrun, hended, hW, hsame⟩ := X0.leave (v := some (.long (0 : Int64))) (fun h => by rw [Bd.returns] at h; cases h)
  refine ⟨_, _, pre0 _ ?_, hrun, hended, _, _, rfl, ?_, ⟨_, rfl⟩, hW, hsame.mono (by decide) (by decide)⟩
  · show Steps p.tables e below (s₁.setTop (mkF m 0 #[vI p0, vI p1, vI p2, vI p3, .unset, .unset] [])) _
    refine XS.iloadN X0.here hx rfl (hb hby d5_0) rfl ?_
    refine XS.iloadN X0.here hx rfl (hb hby d5_1) rfl ?_
    refine XS.icmpYes X0.here hx rfl (pc0 := 2) (pc' := 7) rfl (hb hby d5_2) rfl (tlt hc0).1 (by decide) (by decide) ?_
    refine XS.iloadN X0.here hx rfl (hb hby d5_7) rfl ?_
    refine XS.iconst X0.here hx rfl (hb hby d5_8) ?_
    refine XS.iloadN X0.here hx rfl (hb hby d5_9) rfl ?_
    refine XS.imul X0.here hx rfl (hb hby d5_10) rfl ?_
    refine XS.iushr X0.here hx rfl (hb hby d5_11) rfl ?_
    refine XS.iconst X0.here hx rfl (hb hby d5_12) ?_
    refine XS.iand X0.here hx rfl (hb hby d5_13) rfl ?_
    refine XS.istore X0.here hx rfl (hb hby d5_14) rfl (l' := #[vI p0, vI p1, vI p2, vI p3, vI (((p3.toUInt32 >>> (((2 : Int32) * p0) &&& 31).toUInt32).toInt32) &&& (3 : Int32)), .unset]) rfl ?_
    refine XS.iloadN X0.here hx rfl (hb hby d5_16) rfl ?_
    refine XS.iconst X0.here hx rfl (hb hby d5_17) ?_
    show Steps p.tables e below (s₁.setTop (mkF m 18 #[vI p0, vI p1, vI p2, vI p3, vI (((p3.toUInt32 >>> (((2 : Int32) * p0) &&& 31).toUInt32).toInt32) &&& (3 : Int32)), .unset] [(.int (1 : Int32)), (.int p2)])) _
    refine XS.icmpYes X0.here hx rfl (pc0 := 18) (pc' := 36) rfl (hb hby d5_18) rfl (feq hc1).2 (by decide) (by decide) ?_
    refine XS.iload X0.here hx rfl (hb hby d5_36) rfl ?_
    refine XS.iconst X0.here hx rfl (hb hby d5_38) ?_
    refine XS.icmpYes X0.here hx rfl (pc0 := 39) (pc' := 46) rfl (hb hby d5_39) rfl (teq hc2).1 (by decide) (by decide) ?_
    refine XS.iconst X0.here hx rfl (hb hby d5_46) ?_
    refine XS.istore X0.here hx rfl (hb hby d5_47) rfl (l' := #[vI p0, vI p1, vI p2, vI p3, vI (((p3.toUInt32 >>> (((2 : Int32) * p0) &&& 31).toUInt32).toInt32) &&& (3 : Int32)), vI (0 : Int32)]) rfl ?_
    refine XS.iload X0.here hx rfl (hb hby d5_49) rfl ?_
    refine XS.ifYes X0.here hx rfl (pc0 := 51) (pc' := 60) rfl (hb hby d5_51) rfl ((if0 _ _).trans (teq (by decide : (0 : Int32) = (0 : Int32))).1) (by decide) (by decide) ?_
    refine XS.lconst X0.here hx rfl (hb hby d5_60) ?_
    show Steps p.tables e below (s₁.setTop (mkF m 61 #[vI p0, vI p1, vI p2, vI p3, vI (((p3.toUInt32 >>> (((2 : Int32) * p0) &&& 31).toUInt32).toInt32) &&& (3 : Int32)), vI (0 : Int32)] [(.long (0 : Int64))])) _
    jvm_step X0.here [X0.here.top, hx, (hb hby d5_61), X0.method', Bd.returns, narrow]
    first | (intro acts; rw [hr _ acts rfl rfl rfl]) | rw [hr _ _ rfl rfl rfl]
    exact Steps.refl _
  · show QBttt Z p0 p1 p2 p3 h0 n0 _ s₁.heap _
    rw [e0]
    exact ⟨rfl, N0, rfl⟩
theorem d5_42 : decode method_5_code 42 = .ok (.iconst 1, 1) := by decide +kernel
theorem d5_43 : decode method_5_code 43 = .ok (.goto 4, 3) := by decide +kernel
theorem ef_rmBttf (m : MethodId) (p0 : Int32) (p1 : Int32) (p2 : Int32) (p3 : Int32) : entryFrame m #[(.int p0), (.int p1), (.int p2), (.int p3)] 6 = mkF m 0 #[vI p0, vI p1, vI p2, vI p3, .unset, .unset] [] := by first | (simp [entryFrame, mkF, argsToLocals, Value.category]; done) | rfl
def QBttf (Z : State) (p0 : Int32) (p1 : Int32) (p2 : Int32) (p3 : Int32) (h0 : Heap) (n0 : Nat) (v : Option Value) (h : Heap) (L : List Loc) : Prop := v = some (.long ((1 : Int64) <<< (p0 &&& 0x3f).toInt64)) ∧ Fr n0 L ∧ h = h0
set_option maxRecDepth 65536 in
set_option maxHeartbeats 40000000 in
theorem rmBttf (l : Launch) (Z : State) (az : Array Value) (hw : ∀ d ∈ tables_1, d.before az Z = true) (ws : List Jvm.Cond) (p0 : Int32) (p1 : Int32) (p2 : Int32) (p3 : Int32) (h0 : Heap) (n0 : Nat) (Z0 : n0 ≤ h0.size) (hc0 : p0 < p1) (hc1 : ¬ (p2 = (1 : Int32))) (hc2 : ¬ ((((p3.toUInt32 >>> (((2 : Int32) * p0) &&& 31).toUInt32).toInt32) &&& (3 : Int32)) = (3 : Int32))) :
    MetFree l (⟨cLW, "bit", "(IIII)J"⟩ : MethodName) (head1 (Jvm.Cond.code (⟨cLW, "bit", "(IIII)J"⟩ : MethodName) method_5_code 6 (some .long) :: ws) ({ frames := 0, cells := 0, slots := 0, locals := 0 } : Room)) (fun a U => a = #[(.int p0), (.int p1), (.int p2), (.int p3)] ∧ Z.Warmed39 U.vm ∧ U.heap = h0) (fun _ _ _ _ _ => True) (fun _ U o U' => ∃ v L, o = .returned v ∧ QBttf Z p0 p1 p2 p3 h0 n0 v U'.heap L ∧ FrameEnd U o U' L ({ frames := 0, cells := 0, slots := 0, locals := 0 } : Room).cells ({ frames := 0, cells := 0, slots := 0, locals := 0 } : Room).slots) := by
  refine MetFree.of_bodySF (plainFor_of_name pn_com_example_headlattice_headlattice_learn_CoverageRemainingRowSetPinLaw) hisR ?_
  intro p e s m args below meth c s₁ Bd hml0 hP hK
  obtain ⟨rfl, hZ, hh⟩ := hP
  have hx := Bd.exec
  have hby := Bd.bytes
  have hml : c.maxLocals = 6 := hml0
  have hown : s.vm.findClass cLW = some m.cls := findClass_of_methodNamed Bd.named
  have hnm := (name_of_methodNamed Bd.named Bd.method).1
  have X0 : Stand p l e ({ frames := 0, cells := 0, slots := 0, locals := 0 } : Room) s m #[(.int p0), (.int p1), (.int p2), (.int p3)] below meth c s₁ [] 0 0 := Stand.of_body Bd
  have e0 : s₁.heap = h0 := by rw [← hh, Bd.state]; rfl
  have N0 := Fr.nil n0
  have pre0 : ∀ t, Steps p.tables e below (s₁.setTop (mkF m 0 #[vI p0, vI p1, vI p2, vI p3, .unset, .unset] [])) t → Steps p.tables e below (s₁.setTop (entryFrame m #[(.int p0), (.int p1), (.int p2), (.int p3)] 6)) t := fun t k => castTop (ef_rmBttf m p0 p1 p2 p3) k
  obtain ⟨fs, hr, hrun, hended, hW, hsame⟩ := X0.leave (v := some (.long ((1 : Int64) <<< (p0 &&& 0x3f).toInt64))) (fun h => by rw [Bd.returns] at h; cases h)
  refine ⟨_, _, pre0 _ ?_, hrun, hended, _, _, rfl, ?_, ⟨_, rfl⟩, hW, hsame.mono (by decide) (by decide)⟩
  · show Steps p.tables e below (s₁.setTop (mkF m 0 #[vI p0, vI p1, vI p2, vI p3, .unset, .unset] [])) _
    refine XS.iloadN X0.here hx rfl (hb hby d5_0) rfl ?_
    refine XS.iloadN X0.here hx rfl (hb hby d5_1) rfl ?_
    refine XS.icmpYes X0.here hx rfl (pc0 := 2) (pc' := 7) rfl (hb hby d5_2) rfl (tlt hc0).1 (by decide) (by decide) ?_
    refine XS.iloadN X0.here hx rfl (hb hby d5_7) rfl ?_
    refine XS.iconst X0.here hx rfl (hb hby d5_8) ?_
    refine XS.iloadN X0.here hx rfl (hb hby d5_9) rfl ?_
    refine XS.imul X0.here hx rfl (hb hby d5_10) rfl ?_
    refine XS.iushr X0.here hx rfl (hb hby d5_11) rfl ?_
    refine XS.iconst X0.here hx rfl (hb hby d5_12) ?_
    refine XS.iand X0.here hx rfl (hb hby d5_13) rfl ?_
    refine XS.istore X0.here hx rfl (hb hby d5_14) rfl (l' := #[vI p0, vI p1, vI p2, vI p3, vI (((p3.toUInt32 >>> (((2 : Int32) * p0) &&& 31).toUInt32).toInt32) &&& (3 : Int32)), .unset]) rfl ?_
    refine XS.iloadN X0.here hx rfl (hb hby d5_16) rfl ?_
    refine XS.iconst X0.here hx rfl (hb hby d5_17) ?_
    show Steps p.tables e below (s₁.setTop (mkF m 18 #[vI p0, vI p1, vI p2, vI p3, vI (((p3.toUInt32 >>> (((2 : Int32) * p0) &&& 31).toUInt32).toInt32) &&& (3 : Int32)), .unset] [(.int (1 : Int32)), (.int p2)])) _
    refine XS.icmpYes X0.here hx rfl (pc0 := 18) (pc' := 36) rfl (hb hby d5_18) rfl (feq hc1).2 (by decide) (by decide) ?_
    refine XS.iload X0.here hx rfl (hb hby d5_36) rfl ?_
    refine XS.iconst X0.here hx rfl (hb hby d5_38) ?_
    refine XS.icmpNo X0.here hx rfl (hb hby d5_39) rfl (feq hc2).1 ?_
    refine XS.iconst X0.here hx rfl (hb hby d5_42) ?_
    refine XS.goto X0.here hx rfl (pc0 := 43) (pc' := 47) rfl (hb hby d5_43) (by decide) (by decide) ?_
    refine XS.istore X0.here hx rfl (hb hby d5_47) rfl (l' := #[vI p0, vI p1, vI p2, vI p3, vI (((p3.toUInt32 >>> (((2 : Int32) * p0) &&& 31).toUInt32).toInt32) &&& (3 : Int32)), vI (1 : Int32)]) rfl ?_
    refine XS.iload X0.here hx rfl (hb hby d5_49) rfl ?_
    refine XS.ifNo X0.here hx rfl (hb hby d5_51) rfl ((if0 _ _).trans (feq (by decide : ¬ ((1 : Int32) = (0 : Int32)))).1) ?_
    refine XS.lconst X0.here hx rfl (hb hby d5_54) ?_
    refine XS.iloadN X0.here hx rfl (hb hby d5_55) rfl ?_
    refine XS.lshl X0.here hx rfl (hb hby d5_56) rfl ?_
    refine XS.goto X0.here hx rfl (pc0 := 57) (pc' := 61) rfl (hb hby d5_57) (by decide) (by decide) ?_
    show Steps p.tables e below (s₁.setTop (mkF m 61 #[vI p0, vI p1, vI p2, vI p3, vI (((p3.toUInt32 >>> (((2 : Int32) * p0) &&& 31).toUInt32).toInt32) &&& (3 : Int32)), vI (1 : Int32)] [(.long ((1 : Int64) <<< (p0 &&& 0x3f).toInt64))])) _
    generalize ((1 : Int64) <<< (p0 &&& 0x3f).toInt64) = gv at hr ⊢
    jvm_step X0.here [X0.here.top, hx, (hb hby d5_61), X0.method', Bd.returns, narrow]
    first | (intro acts; rw [hr _ acts rfl rfl rfl]) | rw [hr _ _ rfl rfl rfl]
    exact Steps.refl _
  · show QBttf Z p0 p1 p2 p3 h0 n0 _ s₁.heap _
    rw [e0]
    exact ⟨rfl, N0, rfl⟩
def own_sh (i : Int32) : Int64 := (1 : Int64) <<< (i &&& 0x3f).toInt64
def own_bit (i n lc s : Int32) : Int64 := if i < n then (if lc = (1 : Int32) then (if own_xs s i = (0 : Int32) then own_sh i else 0) else if own_xs s i = (3 : Int32) then 0 else own_sh i) else 0
def QBT (Z : State) (p0 : Int32) (p1 : Int32) (p2 : Int32) (p3 : Int32) (h0 : Heap) (n0 : Nat) (v : Option Value) (h : Heap) (L : List Loc) : Prop := v = some (.long (own_bit p0 p1 p2 p3)) ∧ Fr n0 L ∧ h = h0
set_option maxRecDepth 65536 in
set_option maxHeartbeats 40000000 in
theorem rmBT (l : Launch) (Z : State) (az : Array Value) (hw : ∀ d ∈ tables_1, d.before az Z = true) (ws : List Jvm.Cond) (p0 : Int32) (p1 : Int32) (p2 : Int32) (p3 : Int32) (h0 : Heap) (n0 : Nat) (Z0 : n0 ≤ h0.size) :
    MetFree l (⟨cLW, "bit", "(IIII)J"⟩ : MethodName) (head1 (Jvm.Cond.code (⟨cLW, "bit", "(IIII)J"⟩ : MethodName) method_5_code 6 (some .long) :: ws) ({ frames := 0, cells := 0, slots := 0, locals := 0 } : Room)) (fun a U => a = #[(.int p0), (.int p1), (.int p2), (.int p3)] ∧ Z.Warmed39 U.vm ∧ U.heap = h0) (fun _ _ _ _ _ => True) (fun _ U o U' => ∃ v L, o = .returned v ∧ QBT Z p0 p1 p2 p3 h0 n0 v U'.heap L ∧ FrameEnd U o U' L ({ frames := 0, cells := 0, slots := 0, locals := 0 } : Room).cells ({ frames := 0, cells := 0, slots := 0, locals := 0 } : Room).slots) := by
  by_cases c1 : p0 < p1
  · by_cases c2 : p2 = (1 : Int32)
    · by_cases c3 : own_xs p3 p0 = (0 : Int32)
      · have e1 : own_bit p0 p1 p2 p3 = ((1 : Int64) <<< (p0 &&& 0x3f).toInt64) := by
          unfold own_bit; rw [if_pos c1, if_pos c2, if_pos c3]; rfl
        refine own_mono (rmBtff l Z az hw ws p0 p1 p2 p3 h0 n0 Z0 c1 c2 c3) fun v h L q => ?_
        obtain ⟨rfl, qN, rfl⟩ := q
        exact ⟨by rw [e1], qN, rfl⟩
      · have e1 : own_bit p0 p1 p2 p3 = (0 : Int64) := by
          unfold own_bit; rw [if_pos c1, if_pos c2, if_neg c3]
        refine own_mono (rmBtft l Z az hw ws p0 p1 p2 p3 h0 n0 Z0 c1 c2 c3) fun v h L q => ?_
        obtain ⟨rfl, qN, rfl⟩ := q
        exact ⟨by rw [e1], qN, rfl⟩
    · by_cases c3 : own_xs p3 p0 = (3 : Int32)
      · have e1 : own_bit p0 p1 p2 p3 = (0 : Int64) := by
          unfold own_bit; rw [if_pos c1, if_neg c2, if_pos c3]
        refine own_mono (rmBttt l Z az hw ws p0 p1 p2 p3 h0 n0 Z0 c1 c2 c3) fun v h L q => ?_
        obtain ⟨rfl, qN, rfl⟩ := q
        exact ⟨by rw [e1], qN, rfl⟩
      · have e1 : own_bit p0 p1 p2 p3 = ((1 : Int64) <<< (p0 &&& 0x3f).toInt64) := by
          unfold own_bit; rw [if_pos c1, if_neg c2, if_neg c3]; rfl
        refine own_mono (rmBttf l Z az hw ws p0 p1 p2 p3 h0 n0 Z0 c1 c2 c3) fun v h L q => ?_
        obtain ⟨rfl, qN, rfl⟩ := q
        exact ⟨by rw [e1], qN, rfl⟩
  · have e1 : own_bit p0 p1 p2 p3 = (0 : Int64) := by
      unfold own_bit; rw [if_neg c1]
    refine own_mono (rmBf l Z az hw ws p0 p1 p2 p3 h0 n0 Z0 c1) fun v h L q => ?_
    obtain ⟨rfl, qN, rfl⟩ := q
    exact ⟨by rw [e1], qN, rfl⟩
def own_put (b : Bool) (q m : Int64) : Int64 := if b = true then q ||| m else q
def own_any (b : Bool × Bool) : Bool := b.1 || b.2
def own_set (st : Nat → Bool × Bool) (n : Int32) : Int64 := own_put (decide ((2 : Int32) < n) && own_any (st 2)) (own_put (decide ((1 : Int32) < n) && own_any (st 1)) (own_put (decide ((0 : Int32) < n) && own_any (st 0)) (0 : Int64) (1 : Int64)) (2 : Int64)) (4 : Int64)
theorem own_Vals.pos {b : Bool × Bool} {n : Int32} {vs : List Value} (G : own_Vals b n vs) : (own_any b = true ∧ (0 : Int32) < n) ∨ (own_any b = false ∧ ¬ ((0 : Int32) < n)) := by
  obtain ⟨_ | _, _ | _⟩ := b
  · obtain ⟨rfl, -⟩ := G; exact Or.inr ⟨rfl, by decide⟩
  · obtain ⟨q, -, rfl, -⟩ := G; exact Or.inl ⟨rfl, by decide⟩
  · obtain ⟨q, -, rfl, -⟩ := G; exact Or.inl ⟨rfl, by decide⟩
  · obtain ⟨p, q, -, -, rfl, -⟩ := G; exact Or.inl ⟨rfl, by decide⟩
theorem d6_23 : decode prog_21_method_19_code 23 = .ok (.aload_n 0, 1) := by decide +kernel
theorem d6_24 : decode prog_21_method_19_code 24 = .ok (.getfield 24, 3) := by decide +kernel
theorem d6_27 : decode prog_21_method_19_code 27 = .ok (.iload_n 2, 1) := by decide +kernel
theorem d6_28 : decode prog_21_method_19_code 28 = .ok (.aaload, 1) := by decide +kernel
theorem d6_29 : decode prog_21_method_19_code 29 = .ok (.arraylength, 1) := by decide +kernel
theorem d6_30 : decode prog_21_method_19_code 30 = .ok (.ifCond .le 15, 3) := by decide +kernel
theorem d6_45 : decode prog_21_method_19_code 45 = .ok (.iinc 2 1, 3) := by decide +kernel
theorem d6_48 : decode prog_21_method_19_code 48 = .ok (.goto (-33), 3) := by decide +kernel
set_option maxRecDepth 65536 in
set_option maxHeartbeats 40000000 in
theorem sgR0t (l : Launch) (Z : State) (az : Array Value) (hw : ∀ d ∈ tables_1, d.before az Z = true) {p : Program} {e : Env} {s : State} {m : MethodId} {args : Array Value} {below : List Frame} {meth : Method} {c : Code} (hx : p.tables.exec = Jvm.exec) (hby : c.code = prog_21_method_19_code) (hml : c.maxLocals = 3) (hown : s.vm.findClass cCV = some m.cls) (hZ : Z.Warmed39 s.vm) {kc ks : Nat} (a0 : Addr) (a1 : Addr) (aP : Addr) (kP : ClassId) (fP : Nat → Value) (aW : Addr) (kW : ClassId) (nW : Int32) (fW : Nat → Value) (k1 : ClassId) (qq : Int64) (h0 : Heap) (n0 : Nat) (Z0 : n0 ≤ h0.size) (F_openPairs_a0 : Fld Z h0 a0 cCV "openPairs" "[[I" (.ref aP)) (V_aP : own_Arf Z h0 aP kP (.array .int) (8 : Int32) fP) (V_aW : own_Arf Z h0 aW kW .int nW fW) (V_a1 : Arv Z h0 a1 k1 .long (1 : Int32) [(.long qq)] (.long (0 : Int64))) (g_a1 : n0 ≤ a1) (hc5 : fP ((0 : Int32)).toNatClampNeg = (.ref aW)) (hc6 : ¬ ((0 : Int32) < nW)) :
    own_Seg p l e ({ frames := 0, cells := 1, slots := 1, locals := 0 } : Room) s m args below meth c n0 kc ks kc ks h0 (mkF m 23 #[vR a0, vR a1, vI (0 : Int32)] []) (fun h g => g = (mkF m 15 #[vR a0, vR a1, vI (1 : Int32)] []) ∧ h = h0) := by
  intro s₁ hT
  obtain ⟨Lz0, X0, e0, N0⟩ := hT
  obtain ⟨T1, X1, e1, st1⟩ := getF X0 hx hZ hown (host := "") (Or.inl (w13 hw)) Via.refl e0 F_openPairs_a0 (g := (mkF m 24 #[vR a0, vR a1, vI (0 : Int32)] [(.ref a0)])) rfl rfl (hb hby d6_24)
  obtain ⟨cl2, Ar2, qk2, Sz2, Ng2, Hs2, Gf2⟩ := id V_aP
  have hin3 : ¬ ((0 : Int32) < 0 ∨ cl2.slots.size ≤ ((0 : Int32)).toNatClampNeg) := inb_of Sz2 ⟨by decide, by decide⟩
  have hat4 : cl2.slots[((0 : Int32)).toNatClampNeg]? = some (.ref aW) := own_at Hs2 hin3 hc5
  obtain ⟨cl5, Ar5, qk5, Sz5, Ng5, Hs5, Gf5⟩ := id V_aW
  refine ⟨_, _, _, ⟨rfl, rfl⟩, ⟨_, X1, e1, N0⟩, fun t hr => ?_⟩
  show Steps p.tables e below (s₁.setTop (mkF m 23 #[vR a0, vR a1, vI (0 : Int32)] [])) _
  refine XS.aloadN X0.here hx rfl (hb hby d6_23) rfl rfl ?_
  show Steps p.tables e below (s₁.setTop (mkF m 24 #[vR a0, vR a1, vI (0 : Int32)] [(.ref a0)])) _
  refine st1 _ ?_
  show Steps p.tables e below (T1.setTop (mkF m 27 #[vR a0, vR a1, vI (0 : Int32)] [(.ref aP)])) _
  refine XS.iloadN X1.here hx rfl (hb hby d6_27) rfl ?_
  show Steps p.tables e below (T1.setTop (mkF m 28 #[vR a0, vR a1, vI (0 : Int32)] [(.int (0 : Int32)), (.ref aP)])) _
  refine X1.aaload hx (j := (0 : Int32)) (v := (.ref aW)) (by rw [e1]; exact Ar2.1) (State.isArrayOf_alike hZ.alike Ar2.2.1) rfl Ar2.2.2 hin3 hat4 (g := (mkF m 28 #[vR a0, vR a1, vI (0 : Int32)] [(.int (0 : Int32)), (.ref aP)])) rfl rfl (hb hby d6_28) _ ?_
  show Steps p.tables e below (T1.setTop (mkF m 29 #[vR a0, vR a1, vI (0 : Int32)] [(.ref aW)])) _
  refine X1.arraylength hx (by rw [e1]; exact Ar5.1) (State.isArrayOf_alike hZ.alike Ar5.2.1) (g := (mkF m 29 #[vR a0, vR a1, vI (0 : Int32)] [(.ref aW)])) rfl rfl (hb hby d6_29) _ ?_
  rw [len_of Sz5 Ng5]
  show Steps p.tables e below (T1.setTop (mkF m 30 #[vR a0, vR a1, vI (0 : Int32)] [(.int nW)])) _
  refine XS.ifYes X1.here hx rfl (pc0 := 30) (pc' := 45) rfl (hb hby d6_30) rfl ((if0 _ _).trans (flt hc6).2.2.2) (by decide) (by decide) ?_
  refine XS.iinc X1.here hx rfl (hb hby d6_45) rfl (l' := #[vR a0, vR a1, vI (1 : Int32)]) rfl ?_
  refine XS.goto X1.here hx rfl (pc0 := 48) (pc' := 15) rfl (hb hby d6_48) (by decide) (by decide) ?_
  exact hr
theorem d6_33 : decode prog_21_method_19_code 33 = .ok (.aload_n 1, 1) := by decide +kernel
theorem d6_34 : decode prog_21_method_19_code 34 = .ok (.iload_n 2, 1) := by decide +kernel
theorem d6_35 : decode prog_21_method_19_code 35 = .ok (.bipush 64, 2) := by decide +kernel
theorem d6_37 : decode prog_21_method_19_code 37 = .ok (.idiv, 1) := by decide +kernel
theorem d6_38 : decode prog_21_method_19_code 38 = .ok (.dup2, 1) := by decide +kernel
theorem d6_39 : decode prog_21_method_19_code 39 = .ok (.laload, 1) := by decide +kernel
theorem d6_40 : decode prog_21_method_19_code 40 = .ok (.lconst 1, 1) := by decide +kernel
theorem d6_41 : decode prog_21_method_19_code 41 = .ok (.iload_n 2, 1) := by decide +kernel
theorem d6_42 : decode prog_21_method_19_code 42 = .ok (.lshl, 1) := by decide +kernel
theorem d6_43 : decode prog_21_method_19_code 43 = .ok (.lor, 1) := by decide +kernel
theorem d6_44 : decode prog_21_method_19_code 44 = .ok (.lastore, 1) := by decide +kernel
set_option maxRecDepth 65536 in
set_option maxHeartbeats 40000000 in
theorem sgR0f (l : Launch) (Z : State) (az : Array Value) (hw : ∀ d ∈ tables_1, d.before az Z = true) {p : Program} {e : Env} {s : State} {m : MethodId} {args : Array Value} {below : List Frame} {meth : Method} {c : Code} (hx : p.tables.exec = Jvm.exec) (hby : c.code = prog_21_method_19_code) (hml : c.maxLocals = 3) (hown : s.vm.findClass cCV = some m.cls) (hZ : Z.Warmed39 s.vm) {kc ks : Nat} (a0 : Addr) (a1 : Addr) (aP : Addr) (kP : ClassId) (fP : Nat → Value) (aW : Addr) (kW : ClassId) (nW : Int32) (fW : Nat → Value) (k1 : ClassId) (qq : Int64) (h0 : Heap) (n0 : Nat) (Z0 : n0 ≤ h0.size) (F_openPairs_a0 : Fld Z h0 a0 cCV "openPairs" "[[I" (.ref aP)) (V_aP : own_Arf Z h0 aP kP (.array .int) (8 : Int32) fP) (V_aW : own_Arf Z h0 aW kW .int nW fW) (V_a1 : Arv Z h0 a1 k1 .long (1 : Int32) [(.long qq)] (.long (0 : Int64))) (g_a1 : n0 ≤ a1) (hc5 : fP ((0 : Int32)).toNatClampNeg = (.ref aW)) (hc6 : (0 : Int32) < nW) :
    own_Seg p l e ({ frames := 0, cells := 1, slots := 1, locals := 0 } : Room) s m args below meth c n0 kc ks kc ks h0 (mkF m 23 #[vR a0, vR a1, vI (0 : Int32)] []) (fun h g => g = (mkF m 15 #[vR a0, vR a1, vI (1 : Int32)] []) ∧ Keep h0 h [a1] ∧ Arv Z h a1 k1 .long (1 : Int32) [(.long (qq ||| (1 : Int64)))] (.long (0 : Int64))) := by
  intro s₁ hT
  obtain ⟨Lz0, X0, e0, N0⟩ := hT
  obtain ⟨T1, X1, e1, st1⟩ := getF X0 hx hZ hown (host := "") (Or.inl (w13 hw)) Via.refl e0 F_openPairs_a0 (g := (mkF m 24 #[vR a0, vR a1, vI (0 : Int32)] [(.ref a0)])) rfl rfl (hb hby d6_24)
  obtain ⟨cl2, Ar2, qk2, Sz2, Ng2, Hs2, Gf2⟩ := id V_aP
  have hin3 : ¬ ((0 : Int32) < 0 ∨ cl2.slots.size ≤ ((0 : Int32)).toNatClampNeg) := inb_of Sz2 ⟨by decide, by decide⟩
  have hat4 : cl2.slots[((0 : Int32)).toNatClampNeg]? = some (.ref aW) := own_at Hs2 hin3 hc5
  obtain ⟨cl5, Ar5, qk5, Sz5, Ng5, Hs5, Gf5⟩ := id V_aW
  obtain ⟨cl6, Ar6, qk6, Sz6, Ng6, Hs6, Gf6⟩ := id V_a1
  have hin7 : ¬ ((0 : Int32) < 0 ∨ cl6.slots.size ≤ ((0 : Int32)).toNatClampNeg) := inb_of Sz6 ⟨by decide, by decide⟩
  have hat8 : cl6.slots[((0 : Int32)).toNatClampNeg]? = some (.long qq) := Hs6.at hin7 rfl
  have hin9 : ¬ ((0 : Int32) < 0 ∨ cl6.slots.size ≤ ((0 : Int32)).toNatClampNeg) := inb_of Sz6 ⟨by decide, by decide⟩
  obtain ⟨T10, h10, X10, e10, W10, st10⟩ := stJ X1 hx hZ e1 Ar6 (j := (0 : Int32)) hin9 (g := (mkF m 44 #[vR a0, vR a1, vI (0 : Int32)] [(.long (qq ||| (1 : Int64))), (.int (0 : Int32)), (.ref a1)])) rfl rfl (hb hby d6_44)
  have K10 : Keep h0 h10 [a1] := (Keep.refl h0 [a1]).wr W10 (Or.inl (List.mem_of_getElem? (i := 0) rfl))
  have V_a1_10 : Arv Z h10 a1 k1 .long (1 : Int32) [(.long (qq ||| (1 : Int64)))] (.long (0 : Int64)) := Arv.set (v := (.long (qq ||| (1 : Int64)))) Ar6 qk6 Sz6 Ng6 Hs6 Gf6 rfl W10 0 rfl (Nat.le_of_ble_eq_true rfl)
  have Z10 : n0 ≤ h10.size := Nat.le_trans Z0 (Keep.of_wr W10).1
  obtain ⟨Lg10, X10', N10⟩ := own_gen X10 (Fr.snoc X10 N0 g_a1)
  refine ⟨_, _, _, ⟨rfl, K10, V_a1_10⟩, ⟨_, X10', e10, N10⟩, fun t hr => ?_⟩
  show Steps p.tables e below (s₁.setTop (mkF m 23 #[vR a0, vR a1, vI (0 : Int32)] [])) _
  refine XS.aloadN X0.here hx rfl (hb hby d6_23) rfl rfl ?_
  show Steps p.tables e below (s₁.setTop (mkF m 24 #[vR a0, vR a1, vI (0 : Int32)] [(.ref a0)])) _
  refine st1 _ ?_
  show Steps p.tables e below (T1.setTop (mkF m 27 #[vR a0, vR a1, vI (0 : Int32)] [(.ref aP)])) _
  refine XS.iloadN X1.here hx rfl (hb hby d6_27) rfl ?_
  show Steps p.tables e below (T1.setTop (mkF m 28 #[vR a0, vR a1, vI (0 : Int32)] [(.int (0 : Int32)), (.ref aP)])) _
  refine X1.aaload hx (j := (0 : Int32)) (v := (.ref aW)) (by rw [e1]; exact Ar2.1) (State.isArrayOf_alike hZ.alike Ar2.2.1) rfl Ar2.2.2 hin3 hat4 (g := (mkF m 28 #[vR a0, vR a1, vI (0 : Int32)] [(.int (0 : Int32)), (.ref aP)])) rfl rfl (hb hby d6_28) _ ?_
  show Steps p.tables e below (T1.setTop (mkF m 29 #[vR a0, vR a1, vI (0 : Int32)] [(.ref aW)])) _
  refine X1.arraylength hx (by rw [e1]; exact Ar5.1) (State.isArrayOf_alike hZ.alike Ar5.2.1) (g := (mkF m 29 #[vR a0, vR a1, vI (0 : Int32)] [(.ref aW)])) rfl rfl (hb hby d6_29) _ ?_
  rw [len_of Sz5 Ng5]
  show Steps p.tables e below (T1.setTop (mkF m 30 #[vR a0, vR a1, vI (0 : Int32)] [(.int nW)])) _
  refine XS.ifNo X1.here hx rfl (hb hby d6_30) rfl ((if0 _ _).trans (tlt hc6).2.2.2) ?_
  refine XS.aloadN X1.here hx rfl (hb hby d6_33) rfl rfl ?_
  refine XS.iloadN X1.here hx rfl (hb hby d6_34) rfl ?_
  refine XS.bipush X1.here hx rfl (hb hby d6_35) ?_
  show Steps p.tables e below (T1.setTop (mkF m 37 #[vR a0, vR a1, vI (0 : Int32)] [(.int (64 : Int32)), (.int (0 : Int32)), (.ref a1)])) _
  refine XS.idiv X1.here hx rfl (hb hby d6_37) rfl (by decide) ?_
  show Steps p.tables e below (T1.setTop (mkF m 38 #[vR a0, vR a1, vI (0 : Int32)] [(.int (0 : Int32)), (.ref a1)])) _
  refine Jvm.Free.XT.dup2 X1.here hx rfl (hb hby d6_38) rfl rfl rfl ?_
  show Steps p.tables e below (T1.setTop (mkF m 39 #[vR a0, vR a1, vI (0 : Int32)] [(.int (0 : Int32)), (.ref a1), (.int (0 : Int32)), (.ref a1)])) _
  refine X1.laload hx (j := (0 : Int32)) (v := (.long qq)) (by rw [e1]; exact Ar6.1) (State.isArrayOf_alike hZ.alike Ar6.2.1) Ar6.2.2 hin7 hat8 (g := (mkF m 39 #[vR a0, vR a1, vI (0 : Int32)] [(.int (0 : Int32)), (.ref a1), (.int (0 : Int32)), (.ref a1)])) rfl rfl (hb hby d6_39) _ ?_
  show Steps p.tables e below (T1.setTop (mkF m 40 #[vR a0, vR a1, vI (0 : Int32)] [(.long qq), (.int (0 : Int32)), (.ref a1)])) _
  refine XS.lconst X1.here hx rfl (hb hby d6_40) ?_
  refine XS.iloadN X1.here hx rfl (hb hby d6_41) rfl ?_
  refine XS.lshl X1.here hx rfl (hb hby d6_42) rfl ?_
  refine XS.lor X1.here hx rfl (hb hby d6_43) rfl ?_
  show Steps p.tables e below (T1.setTop (mkF m 44 #[vR a0, vR a1, vI (0 : Int32)] [(.long (qq ||| (1 : Int64))), (.int (0 : Int32)), (.ref a1)])) _
  refine st10 _ ?_
  show Steps p.tables e below (T10.setTop (mkF m 45 #[vR a0, vR a1, vI (0 : Int32)] [])) _
  refine XS.iinc X10'.here hx rfl (hb hby d6_45) rfl (l' := #[vR a0, vR a1, vI (1 : Int32)]) rfl ?_
  refine XS.goto X10'.here hx rfl (pc0 := 48) (pc' := 15) rfl (hb hby d6_48) (by decide) (by decide) ?_
  exact hr
set_option maxRecDepth 65536 in
set_option maxHeartbeats 40000000 in
theorem sgR0 (l : Launch) (Z : State) (az : Array Value) (hw : ∀ d ∈ tables_1, d.before az Z = true) {p : Program} {e : Env} {s : State} {m : MethodId} {args : Array Value} {below : List Frame} {meth : Method} {c : Code} (hx : p.tables.exec = Jvm.exec) (hby : c.code = prog_21_method_19_code) (hml : c.maxLocals = 3) (hown : s.vm.findClass cCV = some m.cls) (hZ : Z.Warmed39 s.vm) {kc ks : Nat} (a0 : Addr) (a1 : Addr) (aP : Addr) (kP : ClassId) (fP : Nat → Value) (aW : Addr) (kW : ClassId) (nW : Int32) (fW : Nat → Value) (k1 : ClassId) (qq : Int64) (bb : Bool) (h0 : Heap) (n0 : Nat) (Z0 : n0 ≤ h0.size) (F_openPairs_a0 : Fld Z h0 a0 cCV "openPairs" "[[I" (.ref aP)) (V_aP : own_Arf Z h0 aP kP (.array .int) (8 : Int32) fP) (V_aW : own_Arf Z h0 aW kW .int nW fW) (V_a1 : Arv Z h0 a1 k1 .long (1 : Int32) [(.long qq)] (.long (0 : Int64))) (g_a1 : n0 ≤ a1) (hj5 : fP ((0 : Int32)).toNatClampNeg = (.ref aW)) (hJ : (bb = true ∧ (0 : Int32) < nW) ∨ (bb = false ∧ ¬ ((0 : Int32) < nW))) :
    own_Seg p l e ({ frames := 0, cells := 1, slots := 1, locals := 0 } : Room) s m args below meth c n0 kc ks kc ks h0 (mkF m 23 #[vR a0, vR a1, vI (0 : Int32)] []) (fun h g => g = (mkF m 15 #[vR a0, vR a1, vI (1 : Int32)] []) ∧ Keep h0 h [a1] ∧ Arv Z h a1 k1 .long (1 : Int32) [(.long (own_put bb qq (1 : Int64)))] (.long (0 : Int64))) := by
  rcases hJ with ⟨rfl, u⟩ | ⟨rfl, u⟩
  · exact sgR0f l Z az hw hx hby hml hown hZ a0 a1 aP kP fP aW kW nW fW k1 qq h0 n0 Z0 F_openPairs_a0 V_aP V_aW V_a1 g_a1 hj5 u
  · refine own_Seg.mono (sgR0t l Z az hw hx hby hml hown hZ a0 a1 aP kP fP aW kW nW fW k1 qq h0 n0 Z0 F_openPairs_a0 V_aP V_aW V_a1 g_a1 hj5 u) fun h g q => ?_
    obtain ⟨rfl, rfl⟩ := q
    exact ⟨rfl, Keep.refl _ _, V_a1⟩
set_option maxRecDepth 65536 in
set_option maxHeartbeats 40000000 in
theorem sgR1t (l : Launch) (Z : State) (az : Array Value) (hw : ∀ d ∈ tables_1, d.before az Z = true) {p : Program} {e : Env} {s : State} {m : MethodId} {args : Array Value} {below : List Frame} {meth : Method} {c : Code} (hx : p.tables.exec = Jvm.exec) (hby : c.code = prog_21_method_19_code) (hml : c.maxLocals = 3) (hown : s.vm.findClass cCV = some m.cls) (hZ : Z.Warmed39 s.vm) {kc ks : Nat} (a0 : Addr) (a1 : Addr) (aP : Addr) (kP : ClassId) (fP : Nat → Value) (aW : Addr) (kW : ClassId) (nW : Int32) (fW : Nat → Value) (k1 : ClassId) (qq : Int64) (h0 : Heap) (n0 : Nat) (Z0 : n0 ≤ h0.size) (F_openPairs_a0 : Fld Z h0 a0 cCV "openPairs" "[[I" (.ref aP)) (V_aP : own_Arf Z h0 aP kP (.array .int) (8 : Int32) fP) (V_aW : own_Arf Z h0 aW kW .int nW fW) (V_a1 : Arv Z h0 a1 k1 .long (1 : Int32) [(.long qq)] (.long (0 : Int64))) (g_a1 : n0 ≤ a1) (hc5 : fP ((1 : Int32)).toNatClampNeg = (.ref aW)) (hc6 : ¬ ((0 : Int32) < nW)) :
    own_Seg p l e ({ frames := 0, cells := 1, slots := 1, locals := 0 } : Room) s m args below meth c n0 kc ks kc ks h0 (mkF m 23 #[vR a0, vR a1, vI (1 : Int32)] []) (fun h g => g = (mkF m 15 #[vR a0, vR a1, vI (2 : Int32)] []) ∧ h = h0) := by
  intro s₁ hT
  obtain ⟨Lz0, X0, e0, N0⟩ := hT
  obtain ⟨T1, X1, e1, st1⟩ := getF X0 hx hZ hown (host := "") (Or.inl (w13 hw)) Via.refl e0 F_openPairs_a0 (g := (mkF m 24 #[vR a0, vR a1, vI (1 : Int32)] [(.ref a0)])) rfl rfl (hb hby d6_24)
  obtain ⟨cl2, Ar2, qk2, Sz2, Ng2, Hs2, Gf2⟩ := id V_aP
  have hin3 : ¬ ((1 : Int32) < 0 ∨ cl2.slots.size ≤ ((1 : Int32)).toNatClampNeg) := inb_of Sz2 ⟨by decide, by decide⟩
  have hat4 : cl2.slots[((1 : Int32)).toNatClampNeg]? = some (.ref aW) := own_at Hs2 hin3 hc5
  obtain ⟨cl5, Ar5, qk5, Sz5, Ng5, Hs5, Gf5⟩ := id V_aW
  refine ⟨_, _, _, ⟨rfl, rfl⟩, ⟨_, X1, e1, N0⟩, fun t hr => ?_⟩
  show Steps p.tables e below (s₁.setTop (mkF m 23 #[vR a0, vR a1, vI (1 : Int32)] [])) _
  refine XS.aloadN X0.here hx rfl (hb hby d6_23) rfl rfl ?_
  show Steps p.tables e below (s₁.setTop (mkF m 24 #[vR a0, vR a1, vI (1 : Int32)] [(.ref a0)])) _
  refine st1 _ ?_
  show Steps p.tables e below (T1.setTop (mkF m 27 #[vR a0, vR a1, vI (1 : Int32)] [(.ref aP)])) _
  refine XS.iloadN X1.here hx rfl (hb hby d6_27) rfl ?_
  show Steps p.tables e below (T1.setTop (mkF m 28 #[vR a0, vR a1, vI (1 : Int32)] [(.int (1 : Int32)), (.ref aP)])) _
  refine X1.aaload hx (j := (1 : Int32)) (v := (.ref aW)) (by rw [e1]; exact Ar2.1) (State.isArrayOf_alike hZ.alike Ar2.2.1) rfl Ar2.2.2 hin3 hat4 (g := (mkF m 28 #[vR a0, vR a1, vI (1 : Int32)] [(.int (1 : Int32)), (.ref aP)])) rfl rfl (hb hby d6_28) _ ?_
  show Steps p.tables e below (T1.setTop (mkF m 29 #[vR a0, vR a1, vI (1 : Int32)] [(.ref aW)])) _
  refine X1.arraylength hx (by rw [e1]; exact Ar5.1) (State.isArrayOf_alike hZ.alike Ar5.2.1) (g := (mkF m 29 #[vR a0, vR a1, vI (1 : Int32)] [(.ref aW)])) rfl rfl (hb hby d6_29) _ ?_
  rw [len_of Sz5 Ng5]
  show Steps p.tables e below (T1.setTop (mkF m 30 #[vR a0, vR a1, vI (1 : Int32)] [(.int nW)])) _
  refine XS.ifYes X1.here hx rfl (pc0 := 30) (pc' := 45) rfl (hb hby d6_30) rfl ((if0 _ _).trans (flt hc6).2.2.2) (by decide) (by decide) ?_
  refine XS.iinc X1.here hx rfl (hb hby d6_45) rfl (l' := #[vR a0, vR a1, vI (2 : Int32)]) rfl ?_
  refine XS.goto X1.here hx rfl (pc0 := 48) (pc' := 15) rfl (hb hby d6_48) (by decide) (by decide) ?_
  exact hr
set_option maxRecDepth 65536 in
set_option maxHeartbeats 40000000 in
theorem sgR1f (l : Launch) (Z : State) (az : Array Value) (hw : ∀ d ∈ tables_1, d.before az Z = true) {p : Program} {e : Env} {s : State} {m : MethodId} {args : Array Value} {below : List Frame} {meth : Method} {c : Code} (hx : p.tables.exec = Jvm.exec) (hby : c.code = prog_21_method_19_code) (hml : c.maxLocals = 3) (hown : s.vm.findClass cCV = some m.cls) (hZ : Z.Warmed39 s.vm) {kc ks : Nat} (a0 : Addr) (a1 : Addr) (aP : Addr) (kP : ClassId) (fP : Nat → Value) (aW : Addr) (kW : ClassId) (nW : Int32) (fW : Nat → Value) (k1 : ClassId) (qq : Int64) (h0 : Heap) (n0 : Nat) (Z0 : n0 ≤ h0.size) (F_openPairs_a0 : Fld Z h0 a0 cCV "openPairs" "[[I" (.ref aP)) (V_aP : own_Arf Z h0 aP kP (.array .int) (8 : Int32) fP) (V_aW : own_Arf Z h0 aW kW .int nW fW) (V_a1 : Arv Z h0 a1 k1 .long (1 : Int32) [(.long qq)] (.long (0 : Int64))) (g_a1 : n0 ≤ a1) (hc5 : fP ((1 : Int32)).toNatClampNeg = (.ref aW)) (hc6 : (0 : Int32) < nW) :
    own_Seg p l e ({ frames := 0, cells := 1, slots := 1, locals := 0 } : Room) s m args below meth c n0 kc ks kc ks h0 (mkF m 23 #[vR a0, vR a1, vI (1 : Int32)] []) (fun h g => g = (mkF m 15 #[vR a0, vR a1, vI (2 : Int32)] []) ∧ Keep h0 h [a1] ∧ Arv Z h a1 k1 .long (1 : Int32) [(.long (qq ||| (2 : Int64)))] (.long (0 : Int64))) := by
  intro s₁ hT
  obtain ⟨Lz0, X0, e0, N0⟩ := hT
  obtain ⟨T1, X1, e1, st1⟩ := getF X0 hx hZ hown (host := "") (Or.inl (w13 hw)) Via.refl e0 F_openPairs_a0 (g := (mkF m 24 #[vR a0, vR a1, vI (1 : Int32)] [(.ref a0)])) rfl rfl (hb hby d6_24)
  obtain ⟨cl2, Ar2, qk2, Sz2, Ng2, Hs2, Gf2⟩ := id V_aP
  have hin3 : ¬ ((1 : Int32) < 0 ∨ cl2.slots.size ≤ ((1 : Int32)).toNatClampNeg) := inb_of Sz2 ⟨by decide, by decide⟩
  have hat4 : cl2.slots[((1 : Int32)).toNatClampNeg]? = some (.ref aW) := own_at Hs2 hin3 hc5
  obtain ⟨cl5, Ar5, qk5, Sz5, Ng5, Hs5, Gf5⟩ := id V_aW
  obtain ⟨cl6, Ar6, qk6, Sz6, Ng6, Hs6, Gf6⟩ := id V_a1
  have hin7 : ¬ ((0 : Int32) < 0 ∨ cl6.slots.size ≤ ((0 : Int32)).toNatClampNeg) := inb_of Sz6 ⟨by decide, by decide⟩
  have hat8 : cl6.slots[((0 : Int32)).toNatClampNeg]? = some (.long qq) := Hs6.at hin7 rfl
  have hin9 : ¬ ((0 : Int32) < 0 ∨ cl6.slots.size ≤ ((0 : Int32)).toNatClampNeg) := inb_of Sz6 ⟨by decide, by decide⟩
  obtain ⟨T10, h10, X10, e10, W10, st10⟩ := stJ X1 hx hZ e1 Ar6 (j := (0 : Int32)) hin9 (g := (mkF m 44 #[vR a0, vR a1, vI (1 : Int32)] [(.long (qq ||| (2 : Int64))), (.int (0 : Int32)), (.ref a1)])) rfl rfl (hb hby d6_44)
  have K10 : Keep h0 h10 [a1] := (Keep.refl h0 [a1]).wr W10 (Or.inl (List.mem_of_getElem? (i := 0) rfl))
  have V_a1_10 : Arv Z h10 a1 k1 .long (1 : Int32) [(.long (qq ||| (2 : Int64)))] (.long (0 : Int64)) := Arv.set (v := (.long (qq ||| (2 : Int64)))) Ar6 qk6 Sz6 Ng6 Hs6 Gf6 rfl W10 0 rfl (Nat.le_of_ble_eq_true rfl)
  have Z10 : n0 ≤ h10.size := Nat.le_trans Z0 (Keep.of_wr W10).1
  obtain ⟨Lg10, X10', N10⟩ := own_gen X10 (Fr.snoc X10 N0 g_a1)
  refine ⟨_, _, _, ⟨rfl, K10, V_a1_10⟩, ⟨_, X10', e10, N10⟩, fun t hr => ?_⟩
  show Steps p.tables e below (s₁.setTop (mkF m 23 #[vR a0, vR a1, vI (1 : Int32)] [])) _
  refine XS.aloadN X0.here hx rfl (hb hby d6_23) rfl rfl ?_
  show Steps p.tables e below (s₁.setTop (mkF m 24 #[vR a0, vR a1, vI (1 : Int32)] [(.ref a0)])) _
  refine st1 _ ?_
  show Steps p.tables e below (T1.setTop (mkF m 27 #[vR a0, vR a1, vI (1 : Int32)] [(.ref aP)])) _
  refine XS.iloadN X1.here hx rfl (hb hby d6_27) rfl ?_
  show Steps p.tables e below (T1.setTop (mkF m 28 #[vR a0, vR a1, vI (1 : Int32)] [(.int (1 : Int32)), (.ref aP)])) _
  refine X1.aaload hx (j := (1 : Int32)) (v := (.ref aW)) (by rw [e1]; exact Ar2.1) (State.isArrayOf_alike hZ.alike Ar2.2.1) rfl Ar2.2.2 hin3 hat4 (g := (mkF m 28 #[vR a0, vR a1, vI (1 : Int32)] [(.int (1 : Int32)), (.ref aP)])) rfl rfl (hb hby d6_28) _ ?_
  show Steps p.tables e below (T1.setTop (mkF m 29 #[vR a0, vR a1, vI (1 : Int32)] [(.ref aW)])) _
  refine X1.arraylength hx (by rw [e1]; exact Ar5.1) (State.isArrayOf_alike hZ.alike Ar5.2.1) (g := (mkF m 29 #[vR a0, vR a1, vI (1 : Int32)] [(.ref aW)])) rfl rfl (hb hby d6_29) _ ?_
  rw [len_of Sz5 Ng5]
  show Steps p.tables e below (T1.setTop (mkF m 30 #[vR a0, vR a1, vI (1 : Int32)] [(.int nW)])) _
  refine XS.ifNo X1.here hx rfl (hb hby d6_30) rfl ((if0 _ _).trans (tlt hc6).2.2.2) ?_
  refine XS.aloadN X1.here hx rfl (hb hby d6_33) rfl rfl ?_
  refine XS.iloadN X1.here hx rfl (hb hby d6_34) rfl ?_
  refine XS.bipush X1.here hx rfl (hb hby d6_35) ?_
  show Steps p.tables e below (T1.setTop (mkF m 37 #[vR a0, vR a1, vI (1 : Int32)] [(.int (64 : Int32)), (.int (1 : Int32)), (.ref a1)])) _
  refine XS.idiv X1.here hx rfl (hb hby d6_37) rfl (by decide) ?_
  show Steps p.tables e below (T1.setTop (mkF m 38 #[vR a0, vR a1, vI (1 : Int32)] [(.int (0 : Int32)), (.ref a1)])) _
  refine Jvm.Free.XT.dup2 X1.here hx rfl (hb hby d6_38) rfl rfl rfl ?_
  show Steps p.tables e below (T1.setTop (mkF m 39 #[vR a0, vR a1, vI (1 : Int32)] [(.int (0 : Int32)), (.ref a1), (.int (0 : Int32)), (.ref a1)])) _
  refine X1.laload hx (j := (0 : Int32)) (v := (.long qq)) (by rw [e1]; exact Ar6.1) (State.isArrayOf_alike hZ.alike Ar6.2.1) Ar6.2.2 hin7 hat8 (g := (mkF m 39 #[vR a0, vR a1, vI (1 : Int32)] [(.int (0 : Int32)), (.ref a1), (.int (0 : Int32)), (.ref a1)])) rfl rfl (hb hby d6_39) _ ?_
  show Steps p.tables e below (T1.setTop (mkF m 40 #[vR a0, vR a1, vI (1 : Int32)] [(.long qq), (.int (0 : Int32)), (.ref a1)])) _
  refine XS.lconst X1.here hx rfl (hb hby d6_40) ?_
  refine XS.iloadN X1.here hx rfl (hb hby d6_41) rfl ?_
  refine XS.lshl X1.here hx rfl (hb hby d6_42) rfl ?_
  refine XS.lor X1.here hx rfl (hb hby d6_43) rfl ?_
  show Steps p.tables e below (T1.setTop (mkF m 44 #[vR a0, vR a1, vI (1 : Int32)] [(.long (qq ||| (2 : Int64))), (.int (0 : Int32)), (.ref a1)])) _
  refine st10 _ ?_
  show Steps p.tables e below (T10.setTop (mkF m 45 #[vR a0, vR a1, vI (1 : Int32)] [])) _
  refine XS.iinc X10'.here hx rfl (hb hby d6_45) rfl (l' := #[vR a0, vR a1, vI (2 : Int32)]) rfl ?_
  refine XS.goto X10'.here hx rfl (pc0 := 48) (pc' := 15) rfl (hb hby d6_48) (by decide) (by decide) ?_
  exact hr
set_option maxRecDepth 65536 in
set_option maxHeartbeats 40000000 in
theorem sgR1 (l : Launch) (Z : State) (az : Array Value) (hw : ∀ d ∈ tables_1, d.before az Z = true) {p : Program} {e : Env} {s : State} {m : MethodId} {args : Array Value} {below : List Frame} {meth : Method} {c : Code} (hx : p.tables.exec = Jvm.exec) (hby : c.code = prog_21_method_19_code) (hml : c.maxLocals = 3) (hown : s.vm.findClass cCV = some m.cls) (hZ : Z.Warmed39 s.vm) {kc ks : Nat} (a0 : Addr) (a1 : Addr) (aP : Addr) (kP : ClassId) (fP : Nat → Value) (aW : Addr) (kW : ClassId) (nW : Int32) (fW : Nat → Value) (k1 : ClassId) (qq : Int64) (bb : Bool) (h0 : Heap) (n0 : Nat) (Z0 : n0 ≤ h0.size) (F_openPairs_a0 : Fld Z h0 a0 cCV "openPairs" "[[I" (.ref aP)) (V_aP : own_Arf Z h0 aP kP (.array .int) (8 : Int32) fP) (V_aW : own_Arf Z h0 aW kW .int nW fW) (V_a1 : Arv Z h0 a1 k1 .long (1 : Int32) [(.long qq)] (.long (0 : Int64))) (g_a1 : n0 ≤ a1) (hj5 : fP ((1 : Int32)).toNatClampNeg = (.ref aW)) (hJ : (bb = true ∧ (0 : Int32) < nW) ∨ (bb = false ∧ ¬ ((0 : Int32) < nW))) :
    own_Seg p l e ({ frames := 0, cells := 1, slots := 1, locals := 0 } : Room) s m args below meth c n0 kc ks kc ks h0 (mkF m 23 #[vR a0, vR a1, vI (1 : Int32)] []) (fun h g => g = (mkF m 15 #[vR a0, vR a1, vI (2 : Int32)] []) ∧ Keep h0 h [a1] ∧ Arv Z h a1 k1 .long (1 : Int32) [(.long (own_put bb qq (2 : Int64)))] (.long (0 : Int64))) := by
  rcases hJ with ⟨rfl, u⟩ | ⟨rfl, u⟩
  · exact sgR1f l Z az hw hx hby hml hown hZ a0 a1 aP kP fP aW kW nW fW k1 qq h0 n0 Z0 F_openPairs_a0 V_aP V_aW V_a1 g_a1 hj5 u
  · refine own_Seg.mono (sgR1t l Z az hw hx hby hml hown hZ a0 a1 aP kP fP aW kW nW fW k1 qq h0 n0 Z0 F_openPairs_a0 V_aP V_aW V_a1 g_a1 hj5 u) fun h g q => ?_
    obtain ⟨rfl, rfl⟩ := q
    exact ⟨rfl, Keep.refl _ _, V_a1⟩
set_option maxRecDepth 65536 in
set_option maxHeartbeats 40000000 in
theorem sgR2t (l : Launch) (Z : State) (az : Array Value) (hw : ∀ d ∈ tables_1, d.before az Z = true) {p : Program} {e : Env} {s : State} {m : MethodId} {args : Array Value} {below : List Frame} {meth : Method} {c : Code} (hx : p.tables.exec = Jvm.exec) (hby : c.code = prog_21_method_19_code) (hml : c.maxLocals = 3) (hown : s.vm.findClass cCV = some m.cls) (hZ : Z.Warmed39 s.vm) {kc ks : Nat} (a0 : Addr) (a1 : Addr) (aP : Addr) (kP : ClassId) (fP : Nat → Value) (aW : Addr) (kW : ClassId) (nW : Int32) (fW : Nat → Value) (k1 : ClassId) (qq : Int64) (h0 : Heap) (n0 : Nat) (Z0 : n0 ≤ h0.size) (F_openPairs_a0 : Fld Z h0 a0 cCV "openPairs" "[[I" (.ref aP)) (V_aP : own_Arf Z h0 aP kP (.array .int) (8 : Int32) fP) (V_aW : own_Arf Z h0 aW kW .int nW fW) (V_a1 : Arv Z h0 a1 k1 .long (1 : Int32) [(.long qq)] (.long (0 : Int64))) (g_a1 : n0 ≤ a1) (hc5 : fP ((2 : Int32)).toNatClampNeg = (.ref aW)) (hc6 : ¬ ((0 : Int32) < nW)) :
    own_Seg p l e ({ frames := 0, cells := 1, slots := 1, locals := 0 } : Room) s m args below meth c n0 kc ks kc ks h0 (mkF m 23 #[vR a0, vR a1, vI (2 : Int32)] []) (fun h g => g = (mkF m 15 #[vR a0, vR a1, vI (3 : Int32)] []) ∧ h = h0) := by
  intro s₁ hT
  obtain ⟨Lz0, X0, e0, N0⟩ := hT
  obtain ⟨T1, X1, e1, st1⟩ := getF X0 hx hZ hown (host := "") (Or.inl (w13 hw)) Via.refl e0 F_openPairs_a0 (g := (mkF m 24 #[vR a0, vR a1, vI (2 : Int32)] [(.ref a0)])) rfl rfl (hb hby d6_24)
  obtain ⟨cl2, Ar2, qk2, Sz2, Ng2, Hs2, Gf2⟩ := id V_aP
  have hin3 : ¬ ((2 : Int32) < 0 ∨ cl2.slots.size ≤ ((2 : Int32)).toNatClampNeg) := inb_of Sz2 ⟨by decide, by decide⟩
  have hat4 : cl2.slots[((2 : Int32)).toNatClampNeg]? = some (.ref aW) := own_at Hs2 hin3 hc5
  obtain ⟨cl5, Ar5, qk5, Sz5, Ng5, Hs5, Gf5⟩ := id V_aW
  refine ⟨_, _, _, ⟨rfl, rfl⟩, ⟨_, X1, e1, N0⟩, fun t hr => ?_⟩
  show Steps p.tables e below (s₁.setTop (mkF m 23 #[vR a0, vR a1, vI (2 : Int32)] [])) _
  refine XS.aloadN X0.here hx rfl (hb hby d6_23) rfl rfl ?_
  show Steps p.tables e below (s₁.setTop (mkF m 24 #[vR a0, vR a1, vI (2 : Int32)] [(.ref a0)])) _
  refine st1 _ ?_
  show Steps p.tables e below (T1.setTop (mkF m 27 #[vR a0, vR a1, vI (2 : Int32)] [(.ref aP)])) _
  refine XS.iloadN X1.here hx rfl (hb hby d6_27) rfl ?_
  show Steps p.tables e below (T1.setTop (mkF m 28 #[vR a0, vR a1, vI (2 : Int32)] [(.int (2 : Int32)), (.ref aP)])) _
  refine X1.aaload hx (j := (2 : Int32)) (v := (.ref aW)) (by rw [e1]; exact Ar2.1) (State.isArrayOf_alike hZ.alike Ar2.2.1) rfl Ar2.2.2 hin3 hat4 (g := (mkF m 28 #[vR a0, vR a1, vI (2 : Int32)] [(.int (2 : Int32)), (.ref aP)])) rfl rfl (hb hby d6_28) _ ?_
  show Steps p.tables e below (T1.setTop (mkF m 29 #[vR a0, vR a1, vI (2 : Int32)] [(.ref aW)])) _
  refine X1.arraylength hx (by rw [e1]; exact Ar5.1) (State.isArrayOf_alike hZ.alike Ar5.2.1) (g := (mkF m 29 #[vR a0, vR a1, vI (2 : Int32)] [(.ref aW)])) rfl rfl (hb hby d6_29) _ ?_
  rw [len_of Sz5 Ng5]
  show Steps p.tables e below (T1.setTop (mkF m 30 #[vR a0, vR a1, vI (2 : Int32)] [(.int nW)])) _
  refine XS.ifYes X1.here hx rfl (pc0 := 30) (pc' := 45) rfl (hb hby d6_30) rfl ((if0 _ _).trans (flt hc6).2.2.2) (by decide) (by decide) ?_
  refine XS.iinc X1.here hx rfl (hb hby d6_45) rfl (l' := #[vR a0, vR a1, vI (3 : Int32)]) rfl ?_
  refine XS.goto X1.here hx rfl (pc0 := 48) (pc' := 15) rfl (hb hby d6_48) (by decide) (by decide) ?_
  exact hr
set_option maxRecDepth 65536 in
set_option maxHeartbeats 40000000 in
theorem sgR2f (l : Launch) (Z : State) (az : Array Value) (hw : ∀ d ∈ tables_1, d.before az Z = true) {p : Program} {e : Env} {s : State} {m : MethodId} {args : Array Value} {below : List Frame} {meth : Method} {c : Code} (hx : p.tables.exec = Jvm.exec) (hby : c.code = prog_21_method_19_code) (hml : c.maxLocals = 3) (hown : s.vm.findClass cCV = some m.cls) (hZ : Z.Warmed39 s.vm) {kc ks : Nat} (a0 : Addr) (a1 : Addr) (aP : Addr) (kP : ClassId) (fP : Nat → Value) (aW : Addr) (kW : ClassId) (nW : Int32) (fW : Nat → Value) (k1 : ClassId) (qq : Int64) (h0 : Heap) (n0 : Nat) (Z0 : n0 ≤ h0.size) (F_openPairs_a0 : Fld Z h0 a0 cCV "openPairs" "[[I" (.ref aP)) (V_aP : own_Arf Z h0 aP kP (.array .int) (8 : Int32) fP) (V_aW : own_Arf Z h0 aW kW .int nW fW) (V_a1 : Arv Z h0 a1 k1 .long (1 : Int32) [(.long qq)] (.long (0 : Int64))) (g_a1 : n0 ≤ a1) (hc5 : fP ((2 : Int32)).toNatClampNeg = (.ref aW)) (hc6 : (0 : Int32) < nW) :
    own_Seg p l e ({ frames := 0, cells := 1, slots := 1, locals := 0 } : Room) s m args below meth c n0 kc ks kc ks h0 (mkF m 23 #[vR a0, vR a1, vI (2 : Int32)] []) (fun h g => g = (mkF m 15 #[vR a0, vR a1, vI (3 : Int32)] []) ∧ Keep h0 h [a1] ∧ Arv Z h a1 k1 .long (1 : Int32) [(.long (qq ||| (4 : Int64)))] (.long (0 : Int64))) := by
  intro s₁ hT
  obtain ⟨Lz0, X0, e0, N0⟩ := hT
  obtain ⟨T1, X1, e1, st1⟩ := getF X0 hx hZ hown (host := "") (Or.inl (w13 hw)) Via.refl e0 F_openPairs_a0 (g := (mkF m 24 #[vR a0, vR a1, vI (2 : Int32)] [(.ref a0)])) rfl rfl (hb hby d6_24)
  obtain ⟨cl2, Ar2, qk2, Sz2, Ng2, Hs2, Gf2⟩ := id V_aP
  have hin3 : ¬ ((2 : Int32) < 0 ∨ cl2.slots.size ≤ ((2 : Int32)).toNatClampNeg) := inb_of Sz2 ⟨by decide, by decide⟩
  have hat4 : cl2.slots[((2 : Int32)).toNatClampNeg]? = some (.ref aW) := own_at Hs2 hin3 hc5
  obtain ⟨cl5, Ar5, qk5, Sz5, Ng5, Hs5, Gf5⟩ := id V_aW
  obtain ⟨cl6, Ar6, qk6, Sz6, Ng6, Hs6, Gf6⟩ := id V_a1
  have hin7 : ¬ ((0 : Int32) < 0 ∨ cl6.slots.size ≤ ((0 : Int32)).toNatClampNeg) := inb_of Sz6 ⟨by decide, by decide⟩
  have hat8 : cl6.slots[((0 : Int32)).toNatClampNeg]? = some (.long qq) := Hs6.at hin7 rfl
  have hin9 : ¬ ((0 : Int32) < 0 ∨ cl6.slots.size ≤ ((0 : Int32)).toNatClampNeg) := inb_of Sz6 ⟨by decide, by decide⟩
  obtain ⟨T10, h10, X10, e10, W10, st10⟩ := stJ X1 hx hZ e1 Ar6 (j := (0 : Int32)) hin9 (g := (mkF m 44 #[vR a0, vR a1, vI (2 : Int32)] [(.long (qq ||| (4 : Int64))), (.int (0 : Int32)), (.ref a1)])) rfl rfl (hb hby d6_44)
  have K10 : Keep h0 h10 [a1] := (Keep.refl h0 [a1]).wr W10 (Or.inl (List.mem_of_getElem? (i := 0) rfl))
  have V_a1_10 : Arv Z h10 a1 k1 .long (1 : Int32) [(.long (qq ||| (4 : Int64)))] (.long (0 : Int64)) := Arv.set (v := (.long (qq ||| (4 : Int64)))) Ar6 qk6 Sz6 Ng6 Hs6 Gf6 rfl W10 0 rfl (Nat.le_of_ble_eq_true rfl)
  have Z10 : n0 ≤ h10.size := Nat.le_trans Z0 (Keep.of_wr W10).1
  obtain ⟨Lg10, X10', N10⟩ := own_gen X10 (Fr.snoc X10 N0 g_a1)
  refine ⟨_, _, _, ⟨rfl, K10, V_a1_10⟩, ⟨_, X10', e10, N10⟩, fun t hr => ?_⟩
  show Steps p.tables e below (s₁.setTop (mkF m 23 #[vR a0, vR a1, vI (2 : Int32)] [])) _
  refine XS.aloadN X0.here hx rfl (hb hby d6_23) rfl rfl ?_
  show Steps p.tables e below (s₁.setTop (mkF m 24 #[vR a0, vR a1, vI (2 : Int32)] [(.ref a0)])) _
  refine st1 _ ?_
  show Steps p.tables e below (T1.setTop (mkF m 27 #[vR a0, vR a1, vI (2 : Int32)] [(.ref aP)])) _
  refine XS.iloadN X1.here hx rfl (hb hby d6_27) rfl ?_
  show Steps p.tables e below (T1.setTop (mkF m 28 #[vR a0, vR a1, vI (2 : Int32)] [(.int (2 : Int32)), (.ref aP)])) _
  refine X1.aaload hx (j := (2 : Int32)) (v := (.ref aW)) (by rw [e1]; exact Ar2.1) (State.isArrayOf_alike hZ.alike Ar2.2.1) rfl Ar2.2.2 hin3 hat4 (g := (mkF m 28 #[vR a0, vR a1, vI (2 : Int32)] [(.int (2 : Int32)), (.ref aP)])) rfl rfl (hb hby d6_28) _ ?_
  show Steps p.tables e below (T1.setTop (mkF m 29 #[vR a0, vR a1, vI (2 : Int32)] [(.ref aW)])) _
  refine X1.arraylength hx (by rw [e1]; exact Ar5.1) (State.isArrayOf_alike hZ.alike Ar5.2.1) (g := (mkF m 29 #[vR a0, vR a1, vI (2 : Int32)] [(.ref aW)])) rfl rfl (hb hby d6_29) _ ?_
  rw [len_of Sz5 Ng5]
  show Steps p.tables e below (T1.setTop (mkF m 30 #[vR a0, vR a1, vI (2 : Int32)] [(.int nW)])) _
  refine XS.ifNo X1.here hx rfl (hb hby d6_30) rfl ((if0 _ _).trans (tlt hc6).2.2.2) ?_
  refine XS.aloadN X1.here hx rfl (hb hby d6_33) rfl rfl ?_
  refine XS.iloadN X1.here hx rfl (hb hby d6_34) rfl ?_
  refine XS.bipush X1.here hx rfl (hb hby d6_35) ?_
  show Steps p.tables e below (T1.setTop (mkF m 37 #[vR a0, vR a1, vI (2 : Int32)] [(.int (64 : Int32)), (.int (2 : Int32)), (.ref a1)])) _
  refine XS.idiv X1.here hx rfl (hb hby d6_37) rfl (by decide) ?_
  show Steps p.tables e below (T1.setTop (mkF m 38 #[vR a0, vR a1, vI (2 : Int32)] [(.int (0 : Int32)), (.ref a1)])) _
  refine Jvm.Free.XT.dup2 X1.here hx rfl (hb hby d6_38) rfl rfl rfl ?_
  show Steps p.tables e below (T1.setTop (mkF m 39 #[vR a0, vR a1, vI (2 : Int32)] [(.int (0 : Int32)), (.ref a1), (.int (0 : Int32)), (.ref a1)])) _
  refine X1.laload hx (j := (0 : Int32)) (v := (.long qq)) (by rw [e1]; exact Ar6.1) (State.isArrayOf_alike hZ.alike Ar6.2.1) Ar6.2.2 hin7 hat8 (g := (mkF m 39 #[vR a0, vR a1, vI (2 : Int32)] [(.int (0 : Int32)), (.ref a1), (.int (0 : Int32)), (.ref a1)])) rfl rfl (hb hby d6_39) _ ?_
  show Steps p.tables e below (T1.setTop (mkF m 40 #[vR a0, vR a1, vI (2 : Int32)] [(.long qq), (.int (0 : Int32)), (.ref a1)])) _
  refine XS.lconst X1.here hx rfl (hb hby d6_40) ?_
  refine XS.iloadN X1.here hx rfl (hb hby d6_41) rfl ?_
  refine XS.lshl X1.here hx rfl (hb hby d6_42) rfl ?_
  refine XS.lor X1.here hx rfl (hb hby d6_43) rfl ?_
  show Steps p.tables e below (T1.setTop (mkF m 44 #[vR a0, vR a1, vI (2 : Int32)] [(.long (qq ||| (4 : Int64))), (.int (0 : Int32)), (.ref a1)])) _
  refine st10 _ ?_
  show Steps p.tables e below (T10.setTop (mkF m 45 #[vR a0, vR a1, vI (2 : Int32)] [])) _
  refine XS.iinc X10'.here hx rfl (hb hby d6_45) rfl (l' := #[vR a0, vR a1, vI (3 : Int32)]) rfl ?_
  refine XS.goto X10'.here hx rfl (pc0 := 48) (pc' := 15) rfl (hb hby d6_48) (by decide) (by decide) ?_
  exact hr
set_option maxRecDepth 65536 in
set_option maxHeartbeats 40000000 in
theorem sgR2 (l : Launch) (Z : State) (az : Array Value) (hw : ∀ d ∈ tables_1, d.before az Z = true) {p : Program} {e : Env} {s : State} {m : MethodId} {args : Array Value} {below : List Frame} {meth : Method} {c : Code} (hx : p.tables.exec = Jvm.exec) (hby : c.code = prog_21_method_19_code) (hml : c.maxLocals = 3) (hown : s.vm.findClass cCV = some m.cls) (hZ : Z.Warmed39 s.vm) {kc ks : Nat} (a0 : Addr) (a1 : Addr) (aP : Addr) (kP : ClassId) (fP : Nat → Value) (aW : Addr) (kW : ClassId) (nW : Int32) (fW : Nat → Value) (k1 : ClassId) (qq : Int64) (bb : Bool) (h0 : Heap) (n0 : Nat) (Z0 : n0 ≤ h0.size) (F_openPairs_a0 : Fld Z h0 a0 cCV "openPairs" "[[I" (.ref aP)) (V_aP : own_Arf Z h0 aP kP (.array .int) (8 : Int32) fP) (V_aW : own_Arf Z h0 aW kW .int nW fW) (V_a1 : Arv Z h0 a1 k1 .long (1 : Int32) [(.long qq)] (.long (0 : Int64))) (g_a1 : n0 ≤ a1) (hj5 : fP ((2 : Int32)).toNatClampNeg = (.ref aW)) (hJ : (bb = true ∧ (0 : Int32) < nW) ∨ (bb = false ∧ ¬ ((0 : Int32) < nW))) :
    own_Seg p l e ({ frames := 0, cells := 1, slots := 1, locals := 0 } : Room) s m args below meth c n0 kc ks kc ks h0 (mkF m 23 #[vR a0, vR a1, vI (2 : Int32)] []) (fun h g => g = (mkF m 15 #[vR a0, vR a1, vI (3 : Int32)] []) ∧ Keep h0 h [a1] ∧ Arv Z h a1 k1 .long (1 : Int32) [(.long (own_put bb qq (4 : Int64)))] (.long (0 : Int64))) := by
  rcases hJ with ⟨rfl, u⟩ | ⟨rfl, u⟩
  · exact sgR2f l Z az hw hx hby hml hown hZ a0 a1 aP kP fP aW kW nW fW k1 qq h0 n0 Z0 F_openPairs_a0 V_aP V_aW V_a1 g_a1 hj5 u
  · refine own_Seg.mono (sgR2t l Z az hw hx hby hml hown hZ a0 a1 aP kP fP aW kW nW fW k1 qq h0 n0 Z0 F_openPairs_a0 V_aP V_aW V_a1 g_a1 hj5 u) fun h g q => ?_
    obtain ⟨rfl, rfl⟩ := q
    exact ⟨rfl, Keep.refl _ _, V_a1⟩
theorem d6_0 : decode prog_21_method_19_code 0 = .ok (.aload_n 0, 1) := by decide +kernel
theorem d6_1 : decode prog_21_method_19_code 1 = .ok (.getfield 50, 3) := by decide +kernel
theorem d6_4 : decode prog_21_method_19_code 4 = .ok (.bipush 63, 2) := by decide +kernel
theorem d6_6 : decode prog_21_method_19_code 6 = .ok (.iadd, 1) := by decide +kernel
theorem d6_7 : decode prog_21_method_19_code 7 = .ok (.bipush 64, 2) := by decide +kernel
theorem d6_9 : decode prog_21_method_19_code 9 = .ok (.idiv, 1) := by decide +kernel
theorem d6_10 : decode prog_21_method_19_code 10 = .ok (.newarray .long, 2) := by decide +kernel
theorem d6_12 : decode prog_21_method_19_code 12 = .ok (.astore_n 1, 1) := by decide +kernel
theorem d6_13 : decode prog_21_method_19_code 13 = .ok (.iconst 0, 1) := by decide +kernel
theorem d6_14 : decode prog_21_method_19_code 14 = .ok (.istore_n 2, 1) := by decide +kernel
theorem d6_15 : decode prog_21_method_19_code 15 = .ok (.iload_n 2, 1) := by decide +kernel
theorem d6_16 : decode prog_21_method_19_code 16 = .ok (.aload_n 0, 1) := by decide +kernel
theorem d6_17 : decode prog_21_method_19_code 17 = .ok (.getfield 50, 3) := by decide +kernel
theorem d6_20 : decode prog_21_method_19_code 20 = .ok (.if_icmp .ge 31, 3) := by decide +kernel
theorem d6_51 : decode prog_21_method_19_code 51 = .ok (.aload_n 1, 1) := by decide +kernel
theorem d6_52 : decode prog_21_method_19_code 52 = .ok (.areturn, 1) := by decide +kernel
theorem ef_rmR0 (m : MethodId) (a0 : Addr) : entryFrame m #[(.ref a0)] 3 = mkF m 0 #[vR a0, .unset, .unset] [] := by first | (simp [entryFrame, mkF, argsToLocals, Value.category]; done) | rfl
def QR0 (Z : State) (a0 : Addr) (aP : Addr) (kP : ClassId) (fP : Nat → Value) (h0 : Heap) (n0 : Nat) (v : Option Value) (h : Heap) (L : List Loc) : Prop := ∃ r0 : Addr, ∃ rk0 : ClassId, v = some (.ref r0) ∧ Fr n0 L ∧ h0.size ≤ r0 ∧ Keep h0 h [] ∧ Exa Z h r0 "[J" ∧ Arv Z h r0 rk0 .long (0 : Int32) [] (.long (0 : Int64))
set_option maxRecDepth 65536 in
set_option maxHeartbeats 40000000 in
theorem rmR0 (l : Launch) (Z : State) (az : Array Value) (hw : ∀ d ∈ tables_1, d.before az Z = true) (ws : List Jvm.Cond) (a0 : Addr) (aP : Addr) (kP : ClassId) (fP : Nat → Value) (h0 : Heap) (n0 : Nat) (Z0 : n0 ≤ h0.size) (E_a0 : Exa Z h0 a0 cCV) (F_rowCount_a0 : Fld Z h0 a0 cCV "rowCount" "I" (.int (0 : Int32))) (F_openPairs_a0 : Fld Z h0 a0 cCV "openPairs" "[[I" (.ref aP)) (V_aP : own_Arf Z h0 aP kP (.array .int) (8 : Int32) fP) :
    MetFree l (⟨cCV, "remainingRowSet", "()[J"⟩ : MethodName) (head1 (Jvm.Cond.code (⟨cCV, "remainingRowSet", "()[J"⟩ : MethodName) prog_21_method_19_code 3 (some (.array .long)) :: ws) ({ frames := 0, cells := 1, slots := 1, locals := 0 } : Room)) (fun a U => a = #[(.ref a0)] ∧ Z.Warmed39 U.vm ∧ U.heap = h0) (fun _ _ _ _ _ => True) (fun _ U o U' => ∃ v L, o = .returned v ∧ QR0 Z a0 aP kP fP h0 n0 v U'.heap L ∧ FrameEnd U o U' L ({ frames := 0, cells := 1, slots := 1, locals := 0 } : Room).cells ({ frames := 0, cells := 1, slots := 1, locals := 0 } : Room).slots) := by
  refine MetFree.of_bodySF (plainFor_of_name pn_com_example_headlattice_headlattice_learn_Coverage) hisR ?_
  intro p e s m args below meth c s₁ Bd hml0 hP hK
  obtain ⟨rfl, hZ, hh⟩ := hP
  have hx := Bd.exec
  have hby := Bd.bytes
  have hml : c.maxLocals = 3 := hml0
  have hown : s.vm.findClass cCV = some m.cls := findClass_of_methodNamed Bd.named
  have hnm := (name_of_methodNamed Bd.named Bd.method).1
  have X0 : Stand p l e ({ frames := 0, cells := 1, slots := 1, locals := 0 } : Room) s m #[(.ref a0)] below meth c s₁ [] 0 0 := Stand.of_body Bd
  have e0 : s₁.heap = h0 := by rw [← hh, Bd.state]; rfl
  have N0 := Fr.nil n0
  have pre0 : ∀ t, Steps p.tables e below (s₁.setTop (mkF m 0 #[vR a0, .unset, .unset] [])) t → Steps p.tables e below (s₁.setTop (entryFrame m #[(.ref a0)] 3)) t := fun t k => castTop (ef_rmR0 m a0) k
  obtain ⟨T1, X1, e1, st1⟩ := getF X0 hx hZ hown (host := "") (Or.inl (w40 hw)) Via.refl e0 F_rowCount_a0 (g := (mkF m 1 #[vR a0, .unset, .unset] [(.ref a0)])) rfl rfl (hb hby d6_1)
  obtain ⟨T2, h2, k2, X2, e2, E2, A2, x2, st2⟩ := newPE X1 hx hZ (aty := .long) (w42 hw) e1 (g := (mkF m 10 #[vR a0, .unset, .unset] [(.int (0 : Int32))])) rfl (hb hby d6_10) rfl (by decide) (cap := 0) (by decide) (by decide) (by decide) (by decide) (ad := "[J") (by decide)
  obtain ⟨b2, g2⟩ : ∃ z, z = h0.size := ⟨_, rfl⟩
  rw [← g2] at A2 x2 st2
  have g_b2 : n0 ≤ b2 := Nat.le_trans Z0 (Nat.le_of_eq g2.symm)
  have sz_b2 : h0.size ≤ b2 := Nat.le_trans (Nat.le_refl _) (Nat.le_of_eq g2.symm)
  have Z2 : n0 ≤ h2.size := Nat.le_trans Z0 E2.1
  have K2 : Keep h0 h2 [] := (Keep.refl h0 []).ext E2
  have E_b2 := x2
  have V_b2 : Arv Z h2 b2 k2 .long (0 : Int32) [] (.long (0 : Int64)) := Arv.new A2 (by decide)
  have F_a0_rowCount_u3 : Fld Z h2 a0 cCV "rowCount" "I" (.int (0 : Int32)) := (F_rowCount_a0.ext E2)
  obtain ⟨T4, X4, e4, st4⟩ := getF X2 hx hZ hown (host := "") (Or.inl (w40 hw)) Via.refl e2 F_a0_rowCount_u3 (g := (mkF m 17 #[vR a0, vR b2, vI (0 : Int32)] [(.ref a0), (.int (0 : Int32))])) rfl rfl (hb hby d6_17)
  obtain ⟨fs, hr, hrun, hended, hW, hsame⟩ := X4.leave (v := some (.ref b2)) (fun h => by rw [Bd.returns] at h; cases h)
  refine ⟨_, _, pre0 _ ?_, hrun, hended, _, _, rfl, ?_, ⟨_, rfl⟩, hW, hsame.mono (by decide) (by decide)⟩
  · show Steps p.tables e below (s₁.setTop (mkF m 0 #[vR a0, .unset, .unset] [])) _
    refine XS.aloadN X0.here hx rfl (hb hby d6_0) rfl rfl ?_
    show Steps p.tables e below (s₁.setTop (mkF m 1 #[vR a0, .unset, .unset] [(.ref a0)])) _
    refine st1 _ ?_
    show Steps p.tables e below (T1.setTop (mkF m 4 #[vR a0, .unset, .unset] [(.int (0 : Int32))])) _
    refine XS.bipush X1.here hx rfl (hb hby d6_4) ?_
    refine XS.iadd X1.here hx rfl (hb hby d6_6) rfl ?_
    refine XS.bipush X1.here hx rfl (hb hby d6_7) ?_
    show Steps p.tables e below (T1.setTop (mkF m 9 #[vR a0, .unset, .unset] [(.int (64 : Int32)), (.int (63 : Int32))])) _
    refine XS.idiv X1.here hx rfl (hb hby d6_9) rfl (by decide) ?_
    show Steps p.tables e below (T1.setTop (mkF m 10 #[vR a0, .unset, .unset] [(.int (0 : Int32))])) _
    refine st2 _ ?_
    show Steps p.tables e below (T2.setTop (mkF m 12 #[vR a0, .unset, .unset] [(.ref b2)])) _
    refine XS.astoreN X2.here hx rfl (hb hby d6_12) rfl rfl (l' := #[vR a0, vR b2, .unset]) rfl ?_
    refine XS.iconst X2.here hx rfl (hb hby d6_13) ?_
    refine XS.istoreN X2.here hx rfl (hb hby d6_14) rfl (l' := #[vR a0, vR b2, vI (0 : Int32)]) rfl ?_
    refine XS.iloadN X2.here hx rfl (hb hby d6_15) rfl ?_
    refine XS.aloadN X2.here hx rfl (hb hby d6_16) rfl rfl ?_
    show Steps p.tables e below (T2.setTop (mkF m 17 #[vR a0, vR b2, vI (0 : Int32)] [(.ref a0), (.int (0 : Int32))])) _
    refine st4 _ ?_
    show Steps p.tables e below (T4.setTop (mkF m 20 #[vR a0, vR b2, vI (0 : Int32)] [(.int (0 : Int32)), (.int (0 : Int32))])) _
    refine XS.icmpYes X4.here hx rfl (pc0 := 20) (pc' := 51) rfl (hb hby d6_20) rfl (flt (by decide : ¬ ((0 : Int32) < (0 : Int32)))).2.1 (by decide) (by decide) ?_
    refine XS.aloadN X4.here hx rfl (hb hby d6_51) rfl rfl ?_
    show Steps p.tables e below (T4.setTop (mkF m 52 #[vR a0, vR b2, vI (0 : Int32)] [(.ref b2)])) _
    jvm_step X4.here [X4.here.top, hx, (hb hby d6_52), X4.method', Bd.returns, Value.isRef, FieldType.isReference]
    first | (intro acts; rw [hr _ acts rfl rfl rfl]) | rw [hr _ _ rfl rfl rfl]
    exact Steps.refl _
  · show QR0 Z a0 aP kP fP h0 n0 _ T4.heap _
    rw [e4]
    exact ⟨b2, k2, rfl, N0, sz_b2, K2, E_b2, V_b2⟩
theorem ef_rmR1 (m : MethodId) (a0 : Addr) : entryFrame m #[(.ref a0)] 3 = mkF m 0 #[vR a0, .unset, .unset] [] := by first | (simp [entryFrame, mkF, argsToLocals, Value.category]; done) | rfl
def QR1 (Z : State) (a0 : Addr) (aP : Addr) (kP : ClassId) (fP : Nat → Value) (c0 : Addr) (m0 : ClassId) (z0 : Int32) (fn0 : Nat → Value) (bb0 : Bool) (h0 : Heap) (n0 : Nat) (v : Option Value) (h : Heap) (L : List Loc) : Prop := ∃ r0 : Addr, ∃ rk0 : ClassId, v = some (.ref r0) ∧ Fr n0 L ∧ h0.size ≤ r0 ∧ Keep h0 h [] ∧ Exa Z h r0 "[J" ∧ Arv Z h r0 rk0 .long (1 : Int32) [(.long (own_put bb0 (0 : Int64) (1 : Int64)))] (.long (0 : Int64))
set_option maxRecDepth 65536 in
set_option maxHeartbeats 40000000 in
theorem rmR1 (l : Launch) (Z : State) (az : Array Value) (hw : ∀ d ∈ tables_1, d.before az Z = true) (ws : List Jvm.Cond) (a0 : Addr) (aP : Addr) (kP : ClassId) (fP : Nat → Value) (c0 : Addr) (m0 : ClassId) (z0 : Int32) (fn0 : Nat → Value) (bb0 : Bool) (h0 : Heap) (n0 : Nat) (Z0 : n0 ≤ h0.size) (E_a0 : Exa Z h0 a0 cCV) (F_rowCount_a0 : Fld Z h0 a0 cCV "rowCount" "I" (.int (1 : Int32))) (F_openPairs_a0 : Fld Z h0 a0 cCV "openPairs" "[[I" (.ref aP)) (V_aP : own_Arf Z h0 aP kP (.array .int) (8 : Int32) fP) (V_c0 : own_Arf Z h0 c0 m0 .int z0 fn0) (hc5 : fP ((0 : Int32)).toNatClampNeg = (.ref c0)) (hc6 : (bb0 = true ∧ (0 : Int32) < z0) ∨ (bb0 = false ∧ ¬ ((0 : Int32) < z0))) :
    MetFree l (⟨cCV, "remainingRowSet", "()[J"⟩ : MethodName) (head1 (Jvm.Cond.code (⟨cCV, "remainingRowSet", "()[J"⟩ : MethodName) prog_21_method_19_code 3 (some (.array .long)) :: ws) ({ frames := 0, cells := 1, slots := 1, locals := 0 } : Room)) (fun a U => a = #[(.ref a0)] ∧ Z.Warmed39 U.vm ∧ U.heap = h0) (fun _ _ _ _ _ => True) (fun _ U o U' => ∃ v L, o = .returned v ∧ QR1 Z a0 aP kP fP c0 m0 z0 fn0 bb0 h0 n0 v U'.heap L ∧ FrameEnd U o U' L ({ frames := 0, cells := 1, slots := 1, locals := 0 } : Room).cells ({ frames := 0, cells := 1, slots := 1, locals := 0 } : Room).slots) := by
  refine MetFree.of_bodySF (plainFor_of_name pn_com_example_headlattice_headlattice_learn_Coverage) hisR ?_
  intro p e s m args below meth c s₁ Bd hml0 hP hK
  obtain ⟨rfl, hZ, hh⟩ := hP
  have hx := Bd.exec
  have hby := Bd.bytes
  have hml : c.maxLocals = 3 := hml0
  have hown : s.vm.findClass cCV = some m.cls := findClass_of_methodNamed Bd.named
  have hnm := (name_of_methodNamed Bd.named Bd.method).1
  have X0 : Stand p l e ({ frames := 0, cells := 1, slots := 1, locals := 0 } : Room) s m #[(.ref a0)] below meth c s₁ [] 0 0 := Stand.of_body Bd
  have e0 : s₁.heap = h0 := by rw [← hh, Bd.state]; rfl
  have N0 := Fr.nil n0
  have pre0 : ∀ t, Steps p.tables e below (s₁.setTop (mkF m 0 #[vR a0, .unset, .unset] [])) t → Steps p.tables e below (s₁.setTop (entryFrame m #[(.ref a0)] 3)) t := fun t k => castTop (ef_rmR1 m a0) k
  obtain ⟨T1, X1, e1, st1⟩ := getF X0 hx hZ hown (host := "") (Or.inl (w40 hw)) Via.refl e0 F_rowCount_a0 (g := (mkF m 1 #[vR a0, .unset, .unset] [(.ref a0)])) rfl rfl (hb hby d6_1)
  obtain ⟨T2, h2, k2, X2, e2, E2, A2, x2, st2⟩ := newPE X1 hx hZ (aty := .long) (w42 hw) e1 (g := (mkF m 10 #[vR a0, .unset, .unset] [(.int (1 : Int32))])) rfl (hb hby d6_10) rfl (by decide) (cap := 1) (by decide) (by decide) (by decide) (by decide) (ad := "[J") (by decide)
  obtain ⟨b2, g2⟩ : ∃ z, z = h0.size := ⟨_, rfl⟩
  rw [← g2] at A2 x2 st2
  have g_b2 : n0 ≤ b2 := Nat.le_trans Z0 (Nat.le_of_eq g2.symm)
  have sz_b2 : h0.size ≤ b2 := Nat.le_trans (Nat.le_refl _) (Nat.le_of_eq g2.symm)
  have Z2 : n0 ≤ h2.size := Nat.le_trans Z0 E2.1
  have K2 : Keep h0 h2 [] := (Keep.refl h0 []).ext E2
  have E_b2 := x2
  have V_b2 : Arv Z h2 b2 k2 .long (1 : Int32) [(.long (0 : Int64))] (.long (0 : Int64)) := (Arv.new A2 (by decide)).pad (pad_rep [] (.long (0 : Int64)) 1)
  have F_a0_rowCount_u3 : Fld Z h2 a0 cCV "rowCount" "I" (.int (1 : Int32)) := (F_rowCount_a0.ext E2)
  obtain ⟨T4, X4, e4, st4⟩ := getF X2 hx hZ hown (host := "") (Or.inl (w40 hw)) Via.refl e2 F_a0_rowCount_u3 (g := (mkF m 17 #[vR a0, vR b2, vI (0 : Int32)] [(.ref a0), (.int (0 : Int32))])) rfl rfl (hb hby d6_17)
  have F_a0_openPairs_u5 : Fld Z h2 a0 cCV "openPairs" "[[I" (.ref aP) := (F_openPairs_a0.ext E2)
  have V_aP_u6 : own_Arf Z h2 aP kP (.array .int) (8 : Int32) fP := (V_aP.ext E2)
  have V_c0_u7 : own_Arf Z h2 c0 m0 .int z0 fn0 := (V_c0.ext E2)
  obtain ⟨T8, h8c, g8, ⟨rfl, kq8, pf8_0⟩, ⟨Lg8, X8, e8, N8⟩, st8⟩ := sgR0 l Z az hw hx hby hml hown hZ a0 b2 aP kP fP c0 m0 z0 fn0 k2 (0 : Int64) bb0 h2 n0 Z2 F_a0_openPairs_u5 V_aP_u6 V_c0_u7 V_b2 g_b2 hc5 hc6 T4 ⟨_, X4, e4, N0⟩
  have K8 : Keep h0 h8c [] := K2.trans kq8 (allS (Or.inr sz_b2) all0)
  have Z8 : n0 ≤ h8c.size := Nat.le_trans Z2 kq8.1
  have ne_a0_b2 : a0 ≠ b2 := own_ne (Nat.lt_of_lt_of_le E_a0.lt (Nat.le_of_eq g2.symm))
  have F_a0_rowCount_u9 : Fld Z h8c a0 cCV "rowCount" "I" (.int (1 : Int32)) := (F_a0_rowCount_u3.keep kq8 (ninS ne_a0_b2 nin0))
  obtain ⟨T10, X10, e10, st10⟩ := getF X8 hx hZ hown (host := "") (Or.inl (w40 hw)) Via.refl e8 F_a0_rowCount_u9 (g := (mkF m 17 #[vR a0, vR b2, vI (1 : Int32)] [(.ref a0), (.int (1 : Int32))])) rfl rfl (hb hby d6_17)
  have E_b2_u11 : Exa Z h8c b2 "[J" := (E_b2.keep kq8)
  obtain ⟨fs, hr, hrun, hended, hW, hsame⟩ := X10.leave (v := some (.ref b2)) (fun h => by rw [Bd.returns] at h; cases h)
  refine ⟨_, _, pre0 _ ?_, hrun, hended, _, _, rfl, ?_, ⟨_, rfl⟩, hW, hsame.mono (by decide) (by decide)⟩
  · show Steps p.tables e below (s₁.setTop (mkF m 0 #[vR a0, .unset, .unset] [])) _
    refine XS.aloadN X0.here hx rfl (hb hby d6_0) rfl rfl ?_
    show Steps p.tables e below (s₁.setTop (mkF m 1 #[vR a0, .unset, .unset] [(.ref a0)])) _
    refine st1 _ ?_
    show Steps p.tables e below (T1.setTop (mkF m 4 #[vR a0, .unset, .unset] [(.int (1 : Int32))])) _
    refine XS.bipush X1.here hx rfl (hb hby d6_4) ?_
    refine XS.iadd X1.here hx rfl (hb hby d6_6) rfl ?_
    refine XS.bipush X1.here hx rfl (hb hby d6_7) ?_
    show Steps p.tables e below (T1.setTop (mkF m 9 #[vR a0, .unset, .unset] [(.int (64 : Int32)), (.int (64 : Int32))])) _
    refine XS.idiv X1.here hx rfl (hb hby d6_9) rfl (by decide) ?_
    show Steps p.tables e below (T1.setTop (mkF m 10 #[vR a0, .unset, .unset] [(.int (1 : Int32))])) _
    refine st2 _ ?_
    show Steps p.tables e below (T2.setTop (mkF m 12 #[vR a0, .unset, .unset] [(.ref b2)])) _
    refine XS.astoreN X2.here hx rfl (hb hby d6_12) rfl rfl (l' := #[vR a0, vR b2, .unset]) rfl ?_
    refine XS.iconst X2.here hx rfl (hb hby d6_13) ?_
    refine XS.istoreN X2.here hx rfl (hb hby d6_14) rfl (l' := #[vR a0, vR b2, vI (0 : Int32)]) rfl ?_
    refine XS.iloadN X2.here hx rfl (hb hby d6_15) rfl ?_
    refine XS.aloadN X2.here hx rfl (hb hby d6_16) rfl rfl ?_
    show Steps p.tables e below (T2.setTop (mkF m 17 #[vR a0, vR b2, vI (0 : Int32)] [(.ref a0), (.int (0 : Int32))])) _
    refine st4 _ ?_
    show Steps p.tables e below (T4.setTop (mkF m 20 #[vR a0, vR b2, vI (0 : Int32)] [(.int (1 : Int32)), (.int (0 : Int32))])) _
    refine XS.icmpNo X4.here hx rfl (hb hby d6_20) rfl (tlt (by decide : (0 : Int32) < (1 : Int32))).2.1 ?_
    show Steps p.tables e below (T4.setTop (mkF m 23 #[vR a0, vR b2, vI (0 : Int32)] [])) _
    refine st8 _ ?_
    show Steps p.tables e below (T8.setTop (mkF m 15 #[vR a0, vR b2, vI (1 : Int32)] [])) _
    refine XS.iloadN X8.here hx rfl (hb hby d6_15) rfl ?_
    refine XS.aloadN X8.here hx rfl (hb hby d6_16) rfl rfl ?_
    show Steps p.tables e below (T8.setTop (mkF m 17 #[vR a0, vR b2, vI (1 : Int32)] [(.ref a0), (.int (1 : Int32))])) _
    refine st10 _ ?_
    show Steps p.tables e below (T10.setTop (mkF m 20 #[vR a0, vR b2, vI (1 : Int32)] [(.int (1 : Int32)), (.int (1 : Int32))])) _
    refine XS.icmpYes X10.here hx rfl (pc0 := 20) (pc' := 51) rfl (hb hby d6_20) rfl (flt (by decide : ¬ ((1 : Int32) < (1 : Int32)))).2.1 (by decide) (by decide) ?_
    refine XS.aloadN X10.here hx rfl (hb hby d6_51) rfl rfl ?_
    show Steps p.tables e below (T10.setTop (mkF m 52 #[vR a0, vR b2, vI (1 : Int32)] [(.ref b2)])) _
    jvm_step X10.here [X10.here.top, hx, (hb hby d6_52), X10.method', Bd.returns, Value.isRef, FieldType.isReference]
    first | (intro acts; rw [hr _ acts rfl rfl rfl]) | rw [hr _ _ rfl rfl rfl]
    exact Steps.refl _
  · show QR1 Z a0 aP kP fP c0 m0 z0 fn0 bb0 h0 n0 _ T10.heap _
    rw [e10]
    exact ⟨b2, k2, rfl, N8, sz_b2, K8, E_b2_u11, pf8_0⟩
theorem ef_rmR2 (m : MethodId) (a0 : Addr) : entryFrame m #[(.ref a0)] 3 = mkF m 0 #[vR a0, .unset, .unset] [] := by first | (simp [entryFrame, mkF, argsToLocals, Value.category]; done) | rfl
def QR2 (Z : State) (a0 : Addr) (aP : Addr) (kP : ClassId) (fP : Nat → Value) (c0 : Addr) (m0 : ClassId) (z0 : Int32) (fn0 : Nat → Value) (bb0 : Bool) (c1 : Addr) (m1 : ClassId) (z1 : Int32) (fn1 : Nat → Value) (bb1 : Bool) (h0 : Heap) (n0 : Nat) (v : Option Value) (h : Heap) (L : List Loc) : Prop := ∃ r0 : Addr, ∃ rk0 : ClassId, v = some (.ref r0) ∧ Fr n0 L ∧ h0.size ≤ r0 ∧ Keep h0 h [] ∧ Exa Z h r0 "[J" ∧ Arv Z h r0 rk0 .long (1 : Int32) [(.long (own_put bb1 (own_put bb0 (0 : Int64) (1 : Int64)) (2 : Int64)))] (.long (0 : Int64))
set_option maxRecDepth 65536 in
set_option maxHeartbeats 40000000 in
theorem rmR2 (l : Launch) (Z : State) (az : Array Value) (hw : ∀ d ∈ tables_1, d.before az Z = true) (ws : List Jvm.Cond) (a0 : Addr) (aP : Addr) (kP : ClassId) (fP : Nat → Value) (c0 : Addr) (m0 : ClassId) (z0 : Int32) (fn0 : Nat → Value) (bb0 : Bool) (c1 : Addr) (m1 : ClassId) (z1 : Int32) (fn1 : Nat → Value) (bb1 : Bool) (h0 : Heap) (n0 : Nat) (Z0 : n0 ≤ h0.size) (E_a0 : Exa Z h0 a0 cCV) (F_rowCount_a0 : Fld Z h0 a0 cCV "rowCount" "I" (.int (2 : Int32))) (F_openPairs_a0 : Fld Z h0 a0 cCV "openPairs" "[[I" (.ref aP)) (V_aP : own_Arf Z h0 aP kP (.array .int) (8 : Int32) fP) (V_c0 : own_Arf Z h0 c0 m0 .int z0 fn0) (V_c1 : own_Arf Z h0 c1 m1 .int z1 fn1) (hc6 : fP ((0 : Int32)).toNatClampNeg = (.ref c0)) (hc7 : (bb0 = true ∧ (0 : Int32) < z0) ∨ (bb0 = false ∧ ¬ ((0 : Int32) < z0))) (hc8 : fP ((1 : Int32)).toNatClampNeg = (.ref c1)) (hc9 : (bb1 = true ∧ (0 : Int32) < z1) ∨ (bb1 = false ∧ ¬ ((0 : Int32) < z1))) :
    MetFree l (⟨cCV, "remainingRowSet", "()[J"⟩ : MethodName) (head1 (Jvm.Cond.code (⟨cCV, "remainingRowSet", "()[J"⟩ : MethodName) prog_21_method_19_code 3 (some (.array .long)) :: ws) ({ frames := 0, cells := 1, slots := 1, locals := 0 } : Room)) (fun a U => a = #[(.ref a0)] ∧ Z.Warmed39 U.vm ∧ U.heap = h0) (fun _ _ _ _ _ => True) (fun _ U o U' => ∃ v L, o = .returned v ∧ QR2 Z a0 aP kP fP c0 m0 z0 fn0 bb0 c1 m1 z1 fn1 bb1 h0 n0 v U'.heap L ∧ FrameEnd U o U' L ({ frames := 0, cells := 1, slots := 1, locals := 0 } : Room).cells ({ frames := 0, cells := 1, slots := 1, locals := 0 } : Room).slots) := by
  refine MetFree.of_bodySF (plainFor_of_name pn_com_example_headlattice_headlattice_learn_Coverage) hisR ?_
  intro p e s m args below meth c s₁ Bd hml0 hP hK
  obtain ⟨rfl, hZ, hh⟩ := hP
  have hx := Bd.exec
  have hby := Bd.bytes
  have hml : c.maxLocals = 3 := hml0
  have hown : s.vm.findClass cCV = some m.cls := findClass_of_methodNamed Bd.named
  have hnm := (name_of_methodNamed Bd.named Bd.method).1
  have X0 : Stand p l e ({ frames := 0, cells := 1, slots := 1, locals := 0 } : Room) s m #[(.ref a0)] below meth c s₁ [] 0 0 := Stand.of_body Bd
  have e0 : s₁.heap = h0 := by rw [← hh, Bd.state]; rfl
  have N0 := Fr.nil n0
  have pre0 : ∀ t, Steps p.tables e below (s₁.setTop (mkF m 0 #[vR a0, .unset, .unset] [])) t → Steps p.tables e below (s₁.setTop (entryFrame m #[(.ref a0)] 3)) t := fun t k => castTop (ef_rmR2 m a0) k
  obtain ⟨T1, X1, e1, st1⟩ := getF X0 hx hZ hown (host := "") (Or.inl (w40 hw)) Via.refl e0 F_rowCount_a0 (g := (mkF m 1 #[vR a0, .unset, .unset] [(.ref a0)])) rfl rfl (hb hby d6_1)
  obtain ⟨T2, h2, k2, X2, e2, E2, A2, x2, st2⟩ := newPE X1 hx hZ (aty := .long) (w42 hw) e1 (g := (mkF m 10 #[vR a0, .unset, .unset] [(.int (1 : Int32))])) rfl (hb hby d6_10) rfl (by decide) (cap := 1) (by decide) (by decide) (by decide) (by decide) (ad := "[J") (by decide)
  obtain ⟨b2, g2⟩ : ∃ z, z = h0.size := ⟨_, rfl⟩
  rw [← g2] at A2 x2 st2
  have g_b2 : n0 ≤ b2 := Nat.le_trans Z0 (Nat.le_of_eq g2.symm)
  have sz_b2 : h0.size ≤ b2 := Nat.le_trans (Nat.le_refl _) (Nat.le_of_eq g2.symm)
  have Z2 : n0 ≤ h2.size := Nat.le_trans Z0 E2.1
  have K2 : Keep h0 h2 [] := (Keep.refl h0 []).ext E2
  have E_b2 := x2
  have V_b2 : Arv Z h2 b2 k2 .long (1 : Int32) [(.long (0 : Int64))] (.long (0 : Int64)) := (Arv.new A2 (by decide)).pad (pad_rep [] (.long (0 : Int64)) 1)
  have F_a0_rowCount_u3 : Fld Z h2 a0 cCV "rowCount" "I" (.int (2 : Int32)) := (F_rowCount_a0.ext E2)
  obtain ⟨T4, X4, e4, st4⟩ := getF X2 hx hZ hown (host := "") (Or.inl (w40 hw)) Via.refl e2 F_a0_rowCount_u3 (g := (mkF m 17 #[vR a0, vR b2, vI (0 : Int32)] [(.ref a0), (.int (0 : Int32))])) rfl rfl (hb hby d6_17)
  have F_a0_openPairs_u5 : Fld Z h2 a0 cCV "openPairs" "[[I" (.ref aP) := (F_openPairs_a0.ext E2)
  have V_aP_u6 : own_Arf Z h2 aP kP (.array .int) (8 : Int32) fP := (V_aP.ext E2)
  have V_c0_u7 : own_Arf Z h2 c0 m0 .int z0 fn0 := (V_c0.ext E2)
  obtain ⟨T8, h8c, g8, ⟨rfl, kq8, pf8_0⟩, ⟨Lg8, X8, e8, N8⟩, st8⟩ := sgR0 l Z az hw hx hby hml hown hZ a0 b2 aP kP fP c0 m0 z0 fn0 k2 (0 : Int64) bb0 h2 n0 Z2 F_a0_openPairs_u5 V_aP_u6 V_c0_u7 V_b2 g_b2 hc6 hc7 T4 ⟨_, X4, e4, N0⟩
  have K8 : Keep h0 h8c [] := K2.trans kq8 (allS (Or.inr sz_b2) all0)
  have Z8 : n0 ≤ h8c.size := Nat.le_trans Z2 kq8.1
  have ne_a0_b2 : a0 ≠ b2 := own_ne (Nat.lt_of_lt_of_le E_a0.lt (Nat.le_of_eq g2.symm))
  have F_a0_rowCount_u9 : Fld Z h8c a0 cCV "rowCount" "I" (.int (2 : Int32)) := (F_a0_rowCount_u3.keep kq8 (ninS ne_a0_b2 nin0))
  obtain ⟨T10, X10, e10, st10⟩ := getF X8 hx hZ hown (host := "") (Or.inl (w40 hw)) Via.refl e8 F_a0_rowCount_u9 (g := (mkF m 17 #[vR a0, vR b2, vI (1 : Int32)] [(.ref a0), (.int (1 : Int32))])) rfl rfl (hb hby d6_17)
  have F_a0_openPairs_u11 : Fld Z h8c a0 cCV "openPairs" "[[I" (.ref aP) := (F_a0_openPairs_u5.keep kq8 (ninS ne_a0_b2 nin0))
  have ne_aP_b2 : aP ≠ b2 := own_ne (Nat.lt_of_lt_of_le V_aP.lt (Nat.le_of_eq g2.symm))
  have V_aP_u12 : own_Arf Z h8c aP kP (.array .int) (8 : Int32) fP := (V_aP_u6.keep kq8 (ninS ne_aP_b2 nin0))
  have ne_c1_b2 : c1 ≠ b2 := own_ne (Nat.lt_of_lt_of_le V_c1.lt (Nat.le_of_eq g2.symm))
  have V_c1_u13 : own_Arf Z h8c c1 m1 .int z1 fn1 := ((V_c1.ext E2).keep kq8 (ninS ne_c1_b2 nin0))
  obtain ⟨T14, h14c, g14, ⟨rfl, kq14, pf14_0⟩, ⟨Lg14, X14, e14, N14⟩, st14⟩ := sgR1 l Z az hw hx hby hml hown hZ a0 b2 aP kP fP c1 m1 z1 fn1 k2 (own_put bb0 (0 : Int64) (1 : Int64)) bb1 h8c n0 Z8 F_a0_openPairs_u11 V_aP_u12 V_c1_u13 pf8_0 g_b2 hc8 hc9 T10 ⟨_, X10, e10, N8⟩
  have K14 : Keep h0 h14c [] := K8.trans kq14 (allS (Or.inr sz_b2) all0)
  have Z14 : n0 ≤ h14c.size := Nat.le_trans Z8 kq14.1
  have F_a0_rowCount_u15 : Fld Z h14c a0 cCV "rowCount" "I" (.int (2 : Int32)) := (F_a0_rowCount_u9.keep kq14 (ninS ne_a0_b2 nin0))
  obtain ⟨T16, X16, e16, st16⟩ := getF X14 hx hZ hown (host := "") (Or.inl (w40 hw)) Via.refl e14 F_a0_rowCount_u15 (g := (mkF m 17 #[vR a0, vR b2, vI (2 : Int32)] [(.ref a0), (.int (2 : Int32))])) rfl rfl (hb hby d6_17)
  have E_b2_u17 : Exa Z h14c b2 "[J" := ((E_b2.keep kq8).keep kq14)
  obtain ⟨fs, hr, hrun, hended, hW, hsame⟩ := X16.leave (v := some (.ref b2)) (fun h => by rw [Bd.returns] at h; cases h)
  refine ⟨_, _, pre0 _ ?_, hrun, hended, _, _, rfl, ?_, ⟨_, rfl⟩, hW, hsame.mono (by decide) (by decide)⟩
  · show Steps p.tables e below (s₁.setTop (mkF m 0 #[vR a0, .unset, .unset] [])) _
    refine XS.aloadN X0.here hx rfl (hb hby d6_0) rfl rfl ?_
    show Steps p.tables e below (s₁.setTop (mkF m 1 #[vR a0, .unset, .unset] [(.ref a0)])) _
    refine st1 _ ?_
    show Steps p.tables e below (T1.setTop (mkF m 4 #[vR a0, .unset, .unset] [(.int (2 : Int32))])) _
    refine XS.bipush X1.here hx rfl (hb hby d6_4) ?_
    refine XS.iadd X1.here hx rfl (hb hby d6_6) rfl ?_
    refine XS.bipush X1.here hx rfl (hb hby d6_7) ?_
    show Steps p.tables e below (T1.setTop (mkF m 9 #[vR a0, .unset, .unset] [(.int (64 : Int32)), (.int (65 : Int32))])) _
    refine XS.idiv X1.here hx rfl (hb hby d6_9) rfl (by decide) ?_
    show Steps p.tables e below (T1.setTop (mkF m 10 #[vR a0, .unset, .unset] [(.int (1 : Int32))])) _
    refine st2 _ ?_
    show Steps p.tables e below (T2.setTop (mkF m 12 #[vR a0, .unset, .unset] [(.ref b2)])) _
    refine XS.astoreN X2.here hx rfl (hb hby d6_12) rfl rfl (l' := #[vR a0, vR b2, .unset]) rfl ?_
    refine XS.iconst X2.here hx rfl (hb hby d6_13) ?_
    refine XS.istoreN X2.here hx rfl (hb hby d6_14) rfl (l' := #[vR a0, vR b2, vI (0 : Int32)]) rfl ?_
    refine XS.iloadN X2.here hx rfl (hb hby d6_15) rfl ?_
    refine XS.aloadN X2.here hx rfl (hb hby d6_16) rfl rfl ?_
    show Steps p.tables e below (T2.setTop (mkF m 17 #[vR a0, vR b2, vI (0 : Int32)] [(.ref a0), (.int (0 : Int32))])) _
    refine st4 _ ?_
    show Steps p.tables e below (T4.setTop (mkF m 20 #[vR a0, vR b2, vI (0 : Int32)] [(.int (2 : Int32)), (.int (0 : Int32))])) _
    refine XS.icmpNo X4.here hx rfl (hb hby d6_20) rfl (tlt (by decide : (0 : Int32) < (2 : Int32))).2.1 ?_
    show Steps p.tables e below (T4.setTop (mkF m 23 #[vR a0, vR b2, vI (0 : Int32)] [])) _
    refine st8 _ ?_
    show Steps p.tables e below (T8.setTop (mkF m 15 #[vR a0, vR b2, vI (1 : Int32)] [])) _
    refine XS.iloadN X8.here hx rfl (hb hby d6_15) rfl ?_
    refine XS.aloadN X8.here hx rfl (hb hby d6_16) rfl rfl ?_
    show Steps p.tables e below (T8.setTop (mkF m 17 #[vR a0, vR b2, vI (1 : Int32)] [(.ref a0), (.int (1 : Int32))])) _
    refine st10 _ ?_
    show Steps p.tables e below (T10.setTop (mkF m 20 #[vR a0, vR b2, vI (1 : Int32)] [(.int (2 : Int32)), (.int (1 : Int32))])) _
    refine XS.icmpNo X10.here hx rfl (hb hby d6_20) rfl (tlt (by decide : (1 : Int32) < (2 : Int32))).2.1 ?_
    show Steps p.tables e below (T10.setTop (mkF m 23 #[vR a0, vR b2, vI (1 : Int32)] [])) _
    refine st14 _ ?_
    show Steps p.tables e below (T14.setTop (mkF m 15 #[vR a0, vR b2, vI (2 : Int32)] [])) _
    refine XS.iloadN X14.here hx rfl (hb hby d6_15) rfl ?_
    refine XS.aloadN X14.here hx rfl (hb hby d6_16) rfl rfl ?_
    show Steps p.tables e below (T14.setTop (mkF m 17 #[vR a0, vR b2, vI (2 : Int32)] [(.ref a0), (.int (2 : Int32))])) _
    refine st16 _ ?_
    show Steps p.tables e below (T16.setTop (mkF m 20 #[vR a0, vR b2, vI (2 : Int32)] [(.int (2 : Int32)), (.int (2 : Int32))])) _
    refine XS.icmpYes X16.here hx rfl (pc0 := 20) (pc' := 51) rfl (hb hby d6_20) rfl (flt (by decide : ¬ ((2 : Int32) < (2 : Int32)))).2.1 (by decide) (by decide) ?_
    refine XS.aloadN X16.here hx rfl (hb hby d6_51) rfl rfl ?_
    show Steps p.tables e below (T16.setTop (mkF m 52 #[vR a0, vR b2, vI (2 : Int32)] [(.ref b2)])) _
    jvm_step X16.here [X16.here.top, hx, (hb hby d6_52), X16.method', Bd.returns, Value.isRef, FieldType.isReference]
    first | (intro acts; rw [hr _ acts rfl rfl rfl]) | rw [hr _ _ rfl rfl rfl]
    exact Steps.refl _
  · show QR2 Z a0 aP kP fP c0 m0 z0 fn0 bb0 c1 m1 z1 fn1 bb1 h0 n0 _ T16.heap _
    rw [e16]
    exact ⟨b2, k2, rfl, N14, sz_b2, K14, E_b2_u17, pf14_0⟩
theorem ef_rmR3 (m : MethodId) (a0 : Addr) : entryFrame m #[(.ref a0)] 3 = mkF m 0 #[vR a0, .unset, .unset] [] := by first | (simp [entryFrame, mkF, argsToLocals, Value.category]; done) | rfl
def QR3 (Z : State) (a0 : Addr) (aP : Addr) (kP : ClassId) (fP : Nat → Value) (c0 : Addr) (m0 : ClassId) (z0 : Int32) (fn0 : Nat → Value) (bb0 : Bool) (c1 : Addr) (m1 : ClassId) (z1 : Int32) (fn1 : Nat → Value) (bb1 : Bool) (c2 : Addr) (m2 : ClassId) (z2 : Int32) (fn2 : Nat → Value) (bb2 : Bool) (h0 : Heap) (n0 : Nat) (v : Option Value) (h : Heap) (L : List Loc) : Prop := ∃ r0 : Addr, ∃ rk0 : ClassId, v = some (.ref r0) ∧ Fr n0 L ∧ h0.size ≤ r0 ∧ Keep h0 h [] ∧ Exa Z h r0 "[J" ∧ Arv Z h r0 rk0 .long (1 : Int32) [(.long (own_put bb2 (own_put bb1 (own_put bb0 (0 : Int64) (1 : Int64)) (2 : Int64)) (4 : Int64)))] (.long (0 : Int64))
set_option maxRecDepth 65536 in
set_option maxHeartbeats 40000000 in
theorem rmR3 (l : Launch) (Z : State) (az : Array Value) (hw : ∀ d ∈ tables_1, d.before az Z = true) (ws : List Jvm.Cond) (a0 : Addr) (aP : Addr) (kP : ClassId) (fP : Nat → Value) (c0 : Addr) (m0 : ClassId) (z0 : Int32) (fn0 : Nat → Value) (bb0 : Bool) (c1 : Addr) (m1 : ClassId) (z1 : Int32) (fn1 : Nat → Value) (bb1 : Bool) (c2 : Addr) (m2 : ClassId) (z2 : Int32) (fn2 : Nat → Value) (bb2 : Bool) (h0 : Heap) (n0 : Nat) (Z0 : n0 ≤ h0.size) (E_a0 : Exa Z h0 a0 cCV) (F_rowCount_a0 : Fld Z h0 a0 cCV "rowCount" "I" (.int (3 : Int32))) (F_openPairs_a0 : Fld Z h0 a0 cCV "openPairs" "[[I" (.ref aP)) (V_aP : own_Arf Z h0 aP kP (.array .int) (8 : Int32) fP) (V_c0 : own_Arf Z h0 c0 m0 .int z0 fn0) (V_c1 : own_Arf Z h0 c1 m1 .int z1 fn1) (V_c2 : own_Arf Z h0 c2 m2 .int z2 fn2) (hc7 : fP ((0 : Int32)).toNatClampNeg = (.ref c0)) (hc8 : (bb0 = true ∧ (0 : Int32) < z0) ∨ (bb0 = false ∧ ¬ ((0 : Int32) < z0))) (hc9 : fP ((1 : Int32)).toNatClampNeg = (.ref c1)) (hc10 : (bb1 = true ∧ (0 : Int32) < z1) ∨ (bb1 = false ∧ ¬ ((0 : Int32) < z1))) (hc11 : fP ((2 : Int32)).toNatClampNeg = (.ref c2)) (hc12 : (bb2 = true ∧ (0 : Int32) < z2) ∨ (bb2 = false ∧ ¬ ((0 : Int32) < z2))) :
    MetFree l (⟨cCV, "remainingRowSet", "()[J"⟩ : MethodName) (head1 (Jvm.Cond.code (⟨cCV, "remainingRowSet", "()[J"⟩ : MethodName) prog_21_method_19_code 3 (some (.array .long)) :: ws) ({ frames := 0, cells := 1, slots := 1, locals := 0 } : Room)) (fun a U => a = #[(.ref a0)] ∧ Z.Warmed39 U.vm ∧ U.heap = h0) (fun _ _ _ _ _ => True) (fun _ U o U' => ∃ v L, o = .returned v ∧ QR3 Z a0 aP kP fP c0 m0 z0 fn0 bb0 c1 m1 z1 fn1 bb1 c2 m2 z2 fn2 bb2 h0 n0 v U'.heap L ∧ FrameEnd U o U' L ({ frames := 0, cells := 1, slots := 1, locals := 0 } : Room).cells ({ frames := 0, cells := 1, slots := 1, locals := 0 } : Room).slots) := by
  refine MetFree.of_bodySF (plainFor_of_name pn_com_example_headlattice_headlattice_learn_Coverage) hisR ?_
  intro p e s m args below meth c s₁ Bd hml0 hP hK
  obtain ⟨rfl, hZ, hh⟩ := hP
  have hx := Bd.exec
  have hby := Bd.bytes
  have hml : c.maxLocals = 3 := hml0
  have hown : s.vm.findClass cCV = some m.cls := findClass_of_methodNamed Bd.named
  have hnm := (name_of_methodNamed Bd.named Bd.method).1
  have X0 : Stand p l e ({ frames := 0, cells := 1, slots := 1, locals := 0 } : Room) s m #[(.ref a0)] below meth c s₁ [] 0 0 := Stand.of_body Bd
  have e0 : s₁.heap = h0 := by rw [← hh, Bd.state]; rfl
  have N0 := Fr.nil n0
  have pre0 : ∀ t, Steps p.tables e below (s₁.setTop (mkF m 0 #[vR a0, .unset, .unset] [])) t → Steps p.tables e below (s₁.setTop (entryFrame m #[(.ref a0)] 3)) t := fun t k => castTop (ef_rmR3 m a0) k
  obtain ⟨T1, X1, e1, st1⟩ := getF X0 hx hZ hown (host := "") (Or.inl (w40 hw)) Via.refl e0 F_rowCount_a0 (g := (mkF m 1 #[vR a0, .unset, .unset] [(.ref a0)])) rfl rfl (hb hby d6_1)
  obtain ⟨T2, h2, k2, X2, e2, E2, A2, x2, st2⟩ := newPE X1 hx hZ (aty := .long) (w42 hw) e1 (g := (mkF m 10 #[vR a0, .unset, .unset] [(.int (1 : Int32))])) rfl (hb hby d6_10) rfl (by decide) (cap := 1) (by decide) (by decide) (by decide) (by decide) (ad := "[J") (by decide)
  obtain ⟨b2, g2⟩ : ∃ z, z = h0.size := ⟨_, rfl⟩
  rw [← g2] at A2 x2 st2
  have g_b2 : n0 ≤ b2 := Nat.le_trans Z0 (Nat.le_of_eq g2.symm)
  have sz_b2 : h0.size ≤ b2 := Nat.le_trans (Nat.le_refl _) (Nat.le_of_eq g2.symm)
  have Z2 : n0 ≤ h2.size := Nat.le_trans Z0 E2.1
  have K2 : Keep h0 h2 [] := (Keep.refl h0 []).ext E2
  have E_b2 := x2
  have V_b2 : Arv Z h2 b2 k2 .long (1 : Int32) [(.long (0 : Int64))] (.long (0 : Int64)) := (Arv.new A2 (by decide)).pad (pad_rep [] (.long (0 : Int64)) 1)
  have F_a0_rowCount_u3 : Fld Z h2 a0 cCV "rowCount" "I" (.int (3 : Int32)) := (F_rowCount_a0.ext E2)
  obtain ⟨T4, X4, e4, st4⟩ := getF X2 hx hZ hown (host := "") (Or.inl (w40 hw)) Via.refl e2 F_a0_rowCount_u3 (g := (mkF m 17 #[vR a0, vR b2, vI (0 : Int32)] [(.ref a0), (.int (0 : Int32))])) rfl rfl (hb hby d6_17)
  have F_a0_openPairs_u5 : Fld Z h2 a0 cCV "openPairs" "[[I" (.ref aP) := (F_openPairs_a0.ext E2)
  have V_aP_u6 : own_Arf Z h2 aP kP (.array .int) (8 : Int32) fP := (V_aP.ext E2)
  have V_c0_u7 : own_Arf Z h2 c0 m0 .int z0 fn0 := (V_c0.ext E2)
  obtain ⟨T8, h8c, g8, ⟨rfl, kq8, pf8_0⟩, ⟨Lg8, X8, e8, N8⟩, st8⟩ := sgR0 l Z az hw hx hby hml hown hZ a0 b2 aP kP fP c0 m0 z0 fn0 k2 (0 : Int64) bb0 h2 n0 Z2 F_a0_openPairs_u5 V_aP_u6 V_c0_u7 V_b2 g_b2 hc7 hc8 T4 ⟨_, X4, e4, N0⟩
  have K8 : Keep h0 h8c [] := K2.trans kq8 (allS (Or.inr sz_b2) all0)
  have Z8 : n0 ≤ h8c.size := Nat.le_trans Z2 kq8.1
  have ne_a0_b2 : a0 ≠ b2 := own_ne (Nat.lt_of_lt_of_le E_a0.lt (Nat.le_of_eq g2.symm))
  have F_a0_rowCount_u9 : Fld Z h8c a0 cCV "rowCount" "I" (.int (3 : Int32)) := (F_a0_rowCount_u3.keep kq8 (ninS ne_a0_b2 nin0))
  obtain ⟨T10, X10, e10, st10⟩ := getF X8 hx hZ hown (host := "") (Or.inl (w40 hw)) Via.refl e8 F_a0_rowCount_u9 (g := (mkF m 17 #[vR a0, vR b2, vI (1 : Int32)] [(.ref a0), (.int (1 : Int32))])) rfl rfl (hb hby d6_17)
  have F_a0_openPairs_u11 : Fld Z h8c a0 cCV "openPairs" "[[I" (.ref aP) := (F_a0_openPairs_u5.keep kq8 (ninS ne_a0_b2 nin0))
  have ne_aP_b2 : aP ≠ b2 := own_ne (Nat.lt_of_lt_of_le V_aP.lt (Nat.le_of_eq g2.symm))
  have V_aP_u12 : own_Arf Z h8c aP kP (.array .int) (8 : Int32) fP := (V_aP_u6.keep kq8 (ninS ne_aP_b2 nin0))
  have ne_c1_b2 : c1 ≠ b2 := own_ne (Nat.lt_of_lt_of_le V_c1.lt (Nat.le_of_eq g2.symm))
  have V_c1_u13 : own_Arf Z h8c c1 m1 .int z1 fn1 := ((V_c1.ext E2).keep kq8 (ninS ne_c1_b2 nin0))
  obtain ⟨T14, h14c, g14, ⟨rfl, kq14, pf14_0⟩, ⟨Lg14, X14, e14, N14⟩, st14⟩ := sgR1 l Z az hw hx hby hml hown hZ a0 b2 aP kP fP c1 m1 z1 fn1 k2 (own_put bb0 (0 : Int64) (1 : Int64)) bb1 h8c n0 Z8 F_a0_openPairs_u11 V_aP_u12 V_c1_u13 pf8_0 g_b2 hc9 hc10 T10 ⟨_, X10, e10, N8⟩
  have K14 : Keep h0 h14c [] := K8.trans kq14 (allS (Or.inr sz_b2) all0)
  have Z14 : n0 ≤ h14c.size := Nat.le_trans Z8 kq14.1
  have F_a0_rowCount_u15 : Fld Z h14c a0 cCV "rowCount" "I" (.int (3 : Int32)) := (F_a0_rowCount_u9.keep kq14 (ninS ne_a0_b2 nin0))
  obtain ⟨T16, X16, e16, st16⟩ := getF X14 hx hZ hown (host := "") (Or.inl (w40 hw)) Via.refl e14 F_a0_rowCount_u15 (g := (mkF m 17 #[vR a0, vR b2, vI (2 : Int32)] [(.ref a0), (.int (2 : Int32))])) rfl rfl (hb hby d6_17)
  have F_a0_openPairs_u17 : Fld Z h14c a0 cCV "openPairs" "[[I" (.ref aP) := (F_a0_openPairs_u11.keep kq14 (ninS ne_a0_b2 nin0))
  have V_aP_u18 : own_Arf Z h14c aP kP (.array .int) (8 : Int32) fP := (V_aP_u12.keep kq14 (ninS ne_aP_b2 nin0))
  have ne_c2_b2 : c2 ≠ b2 := own_ne (Nat.lt_of_lt_of_le V_c2.lt (Nat.le_of_eq g2.symm))
  have V_c2_u19 : own_Arf Z h14c c2 m2 .int z2 fn2 := (((V_c2.ext E2).keep kq8 (ninS ne_c2_b2 nin0)).keep kq14 (ninS ne_c2_b2 nin0))
  obtain ⟨T20, h20c, g20, ⟨rfl, kq20, pf20_0⟩, ⟨Lg20, X20, e20, N20⟩, st20⟩ := sgR2 l Z az hw hx hby hml hown hZ a0 b2 aP kP fP c2 m2 z2 fn2 k2 (own_put bb1 (own_put bb0 (0 : Int64) (1 : Int64)) (2 : Int64)) bb2 h14c n0 Z14 F_a0_openPairs_u17 V_aP_u18 V_c2_u19 pf14_0 g_b2 hc11 hc12 T16 ⟨_, X16, e16, N14⟩
  have K20 : Keep h0 h20c [] := K14.trans kq20 (allS (Or.inr sz_b2) all0)
  have Z20 : n0 ≤ h20c.size := Nat.le_trans Z14 kq20.1
  have F_a0_rowCount_u21 : Fld Z h20c a0 cCV "rowCount" "I" (.int (3 : Int32)) := (F_a0_rowCount_u15.keep kq20 (ninS ne_a0_b2 nin0))
  obtain ⟨T22, X22, e22, st22⟩ := getF X20 hx hZ hown (host := "") (Or.inl (w40 hw)) Via.refl e20 F_a0_rowCount_u21 (g := (mkF m 17 #[vR a0, vR b2, vI (3 : Int32)] [(.ref a0), (.int (3 : Int32))])) rfl rfl (hb hby d6_17)
  have E_b2_u23 : Exa Z h20c b2 "[J" := (((E_b2.keep kq8).keep kq14).keep kq20)
  obtain ⟨fs, hr, hrun, hended, hW, hsame⟩ := X22.leave (v := some (.ref b2)) (fun h => by rw [Bd.returns] at h; cases h)
  refine ⟨_, _, pre0 _ ?_, hrun, hended, _, _, rfl, ?_, ⟨_, rfl⟩, hW, hsame.mono (by decide) (by decide)⟩
  · show Steps p.tables e below (s₁.setTop (mkF m 0 #[vR a0, .unset, .unset] [])) _
    refine XS.aloadN X0.here hx rfl (hb hby d6_0) rfl rfl ?_
    show Steps p.tables e below (s₁.setTop (mkF m 1 #[vR a0, .unset, .unset] [(.ref a0)])) _
    refine st1 _ ?_
    show Steps p.tables e below (T1.setTop (mkF m 4 #[vR a0, .unset, .unset] [(.int (3 : Int32))])) _
    refine XS.bipush X1.here hx rfl (hb hby d6_4) ?_
    refine XS.iadd X1.here hx rfl (hb hby d6_6) rfl ?_
    refine XS.bipush X1.here hx rfl (hb hby d6_7) ?_
    show Steps p.tables e below (T1.setTop (mkF m 9 #[vR a0, .unset, .unset] [(.int (64 : Int32)), (.int (66 : Int32))])) _
    refine XS.idiv X1.here hx rfl (hb hby d6_9) rfl (by decide) ?_
    show Steps p.tables e below (T1.setTop (mkF m 10 #[vR a0, .unset, .unset] [(.int (1 : Int32))])) _
    refine st2 _ ?_
    show Steps p.tables e below (T2.setTop (mkF m 12 #[vR a0, .unset, .unset] [(.ref b2)])) _
    refine XS.astoreN X2.here hx rfl (hb hby d6_12) rfl rfl (l' := #[vR a0, vR b2, .unset]) rfl ?_
    refine XS.iconst X2.here hx rfl (hb hby d6_13) ?_
    refine XS.istoreN X2.here hx rfl (hb hby d6_14) rfl (l' := #[vR a0, vR b2, vI (0 : Int32)]) rfl ?_
    refine XS.iloadN X2.here hx rfl (hb hby d6_15) rfl ?_
    refine XS.aloadN X2.here hx rfl (hb hby d6_16) rfl rfl ?_
    show Steps p.tables e below (T2.setTop (mkF m 17 #[vR a0, vR b2, vI (0 : Int32)] [(.ref a0), (.int (0 : Int32))])) _
    refine st4 _ ?_
    show Steps p.tables e below (T4.setTop (mkF m 20 #[vR a0, vR b2, vI (0 : Int32)] [(.int (3 : Int32)), (.int (0 : Int32))])) _
    refine XS.icmpNo X4.here hx rfl (hb hby d6_20) rfl (tlt (by decide : (0 : Int32) < (3 : Int32))).2.1 ?_
    show Steps p.tables e below (T4.setTop (mkF m 23 #[vR a0, vR b2, vI (0 : Int32)] [])) _
    refine st8 _ ?_
    show Steps p.tables e below (T8.setTop (mkF m 15 #[vR a0, vR b2, vI (1 : Int32)] [])) _
    refine XS.iloadN X8.here hx rfl (hb hby d6_15) rfl ?_
    refine XS.aloadN X8.here hx rfl (hb hby d6_16) rfl rfl ?_
    show Steps p.tables e below (T8.setTop (mkF m 17 #[vR a0, vR b2, vI (1 : Int32)] [(.ref a0), (.int (1 : Int32))])) _
    refine st10 _ ?_
    show Steps p.tables e below (T10.setTop (mkF m 20 #[vR a0, vR b2, vI (1 : Int32)] [(.int (3 : Int32)), (.int (1 : Int32))])) _
    refine XS.icmpNo X10.here hx rfl (hb hby d6_20) rfl (tlt (by decide : (1 : Int32) < (3 : Int32))).2.1 ?_
    show Steps p.tables e below (T10.setTop (mkF m 23 #[vR a0, vR b2, vI (1 : Int32)] [])) _
    refine st14 _ ?_
    show Steps p.tables e below (T14.setTop (mkF m 15 #[vR a0, vR b2, vI (2 : Int32)] [])) _
    refine XS.iloadN X14.here hx rfl (hb hby d6_15) rfl ?_
    refine XS.aloadN X14.here hx rfl (hb hby d6_16) rfl rfl ?_
    show Steps p.tables e below (T14.setTop (mkF m 17 #[vR a0, vR b2, vI (2 : Int32)] [(.ref a0), (.int (2 : Int32))])) _
    refine st16 _ ?_
    show Steps p.tables e below (T16.setTop (mkF m 20 #[vR a0, vR b2, vI (2 : Int32)] [(.int (3 : Int32)), (.int (2 : Int32))])) _
    refine XS.icmpNo X16.here hx rfl (hb hby d6_20) rfl (tlt (by decide : (2 : Int32) < (3 : Int32))).2.1 ?_
    show Steps p.tables e below (T16.setTop (mkF m 23 #[vR a0, vR b2, vI (2 : Int32)] [])) _
    refine st20 _ ?_
    show Steps p.tables e below (T20.setTop (mkF m 15 #[vR a0, vR b2, vI (3 : Int32)] [])) _
    refine XS.iloadN X20.here hx rfl (hb hby d6_15) rfl ?_
    refine XS.aloadN X20.here hx rfl (hb hby d6_16) rfl rfl ?_
    show Steps p.tables e below (T20.setTop (mkF m 17 #[vR a0, vR b2, vI (3 : Int32)] [(.ref a0), (.int (3 : Int32))])) _
    refine st22 _ ?_
    show Steps p.tables e below (T22.setTop (mkF m 20 #[vR a0, vR b2, vI (3 : Int32)] [(.int (3 : Int32)), (.int (3 : Int32))])) _
    refine XS.icmpYes X22.here hx rfl (pc0 := 20) (pc' := 51) rfl (hb hby d6_20) rfl (flt (by decide : ¬ ((3 : Int32) < (3 : Int32)))).2.1 (by decide) (by decide) ?_
    refine XS.aloadN X22.here hx rfl (hb hby d6_51) rfl rfl ?_
    show Steps p.tables e below (T22.setTop (mkF m 52 #[vR a0, vR b2, vI (3 : Int32)] [(.ref b2)])) _
    jvm_step X22.here [X22.here.top, hx, (hb hby d6_52), X22.method', Bd.returns, Value.isRef, FieldType.isReference]
    first | (intro acts; rw [hr _ acts rfl rfl rfl]) | rw [hr _ _ rfl rfl rfl]
    exact Steps.refl _
  · show QR3 Z a0 aP kP fP c0 m0 z0 fn0 bb0 c1 m1 z1 fn1 bb1 c2 m2 z2 fn2 bb2 h0 n0 _ T22.heap _
    rw [e22]
    exact ⟨b2, k2, rfl, N20, sz_b2, K20, E_b2_u23, pf20_0⟩
def QRS0 (Z : State) (a0 : Addr) (lc : Int32) (rc : Int32) (st : Nat → Bool × Bool) (h0 : Heap) (n0 : Nat) (v : Option Value) (h : Heap) (L : List Loc) : Prop := ∃ r0 : Addr, ∃ rk0 : ClassId, v = some (.ref r0) ∧ Fr n0 L ∧ h0.size ≤ r0 ∧ Keep h0 h [] ∧ Arv Z h r0 rk0 .long (0 : Int32) [] (.long (0 : Int64))
set_option maxRecDepth 65536 in
set_option maxHeartbeats 40000000 in
theorem rmRS0 (l : Launch) (Z : State) (az : Array Value) (hw : ∀ d ∈ tables_1, d.before az Z = true) (ws : List Jvm.Cond) (a0 : Addr) (lc : Int32) (rc : Int32) (st : Nat → Bool × Bool) (h0 : Heap) (n0 : Nat) (Z0 : n0 ≤ h0.size) (E_a0 : Exa Z h0 a0 cCV) (J_c : own_Cov Z h0 n0 a0 lc rc st) (hc_n : own_n3 rc) (hc_r : rc = (0 : Int32)) :
    MetFree l (⟨cCV, "remainingRowSet", "()[J"⟩ : MethodName) (head1 (Jvm.Cond.code (⟨cCV, "remainingRowSet", "()[J"⟩ : MethodName) prog_21_method_19_code 3 (some (.array .long)) :: ws) ({ frames := 0, cells := 1, slots := 1, locals := 0 } : Room)) (fun a U => a = #[(.ref a0)] ∧ Z.Warmed39 U.vm ∧ U.heap = h0) (fun _ _ _ _ _ => True) (fun _ U o U' => ∃ v L, o = .returned v ∧ QRS0 Z a0 lc rc st h0 n0 v U'.heap L ∧ FrameEnd U o U' L ({ frames := 0, cells := 1, slots := 1, locals := 0 } : Room).cells ({ frames := 0, cells := 1, slots := 1, locals := 0 } : Room).slots) := by
  subst hc_r
  obtain ⟨aP, aC, aK, aO, aN, kP, kC, kK, kO, kN, fP, rem, E_a0, F_labelCount_a0, F_rowCount_a0, F_pairsShared_a0, F_remainingCount_a0, F_openPairs_a0, V_aP, E_aP, F_covered_a0, V_aC, E_aC, F_coveredCounts_a0, V_aK, E_aK, F_openCounts_a0, V_aO, E_aO, F_ones_a0, V_aN, E_aN, O_kP, g_a0, g_aP, g_aC, g_aK, g_aO, g_aN, hne_aK_aO, hne_aK_aN, hne_aN_aO, RW⟩ := J_c
  refine own_mono (rmR0 l Z az hw ws a0 aP kP fP h0 n0 Z0 E_a0 F_rowCount_a0 F_openPairs_a0 V_aP) fun v h L q => ?_
  obtain ⟨r0, rk0, rfl, qN, qs, qK, qE_r0, qV_r0⟩ := q
  exact ⟨r0, rk0, rfl, qN, qs, qK, qV_r0⟩
def QRS1 (Z : State) (a0 : Addr) (lc : Int32) (rc : Int32) (st : Nat → Bool × Bool) (h0 : Heap) (n0 : Nat) (v : Option Value) (h : Heap) (L : List Loc) : Prop := ∃ r0 : Addr, ∃ rk0 : ClassId, v = some (.ref r0) ∧ Fr n0 L ∧ h0.size ≤ r0 ∧ Keep h0 h [] ∧ Arv Z h r0 rk0 .long (1 : Int32) [(.long (own_set st rc))] (.long (0 : Int64))
set_option maxRecDepth 65536 in
set_option maxHeartbeats 40000000 in
theorem rmRS1 (l : Launch) (Z : State) (az : Array Value) (hw : ∀ d ∈ tables_1, d.before az Z = true) (ws : List Jvm.Cond) (a0 : Addr) (lc : Int32) (rc : Int32) (st : Nat → Bool × Bool) (h0 : Heap) (n0 : Nat) (Z0 : n0 ≤ h0.size) (E_a0 : Exa Z h0 a0 cCV) (J_c : own_Cov Z h0 n0 a0 lc rc st) (hc_n : own_n3 rc) (hc_r : ¬ (rc = (0 : Int32))) :
    MetFree l (⟨cCV, "remainingRowSet", "()[J"⟩ : MethodName) (head1 (Jvm.Cond.code (⟨cCV, "remainingRowSet", "()[J"⟩ : MethodName) prog_21_method_19_code 3 (some (.array .long)) :: ws) ({ frames := 0, cells := 1, slots := 1, locals := 0 } : Room)) (fun a U => a = #[(.ref a0)] ∧ Z.Warmed39 U.vm ∧ U.heap = h0) (fun _ _ _ _ _ => True) (fun _ U o U' => ∃ v L, o = .returned v ∧ QRS1 Z a0 lc rc st h0 n0 v U'.heap L ∧ FrameEnd U o U' L ({ frames := 0, cells := 1, slots := 1, locals := 0 } : Room).cells ({ frames := 0, cells := 1, slots := 1, locals := 0 } : Room).slots) := by
  rcases hc_n with rfl | rfl | rfl | rfl
  · exact absurd rfl hc_r
  · obtain ⟨aP, aC, aK, aO, aN, kP, kC, kK, kO, kN, fP, rem, E_a0, F_labelCount_a0, F_rowCount_a0, F_pairsShared_a0, F_remainingCount_a0, F_openPairs_a0, V_aP, E_aP, F_covered_a0, V_aC, E_aC, F_coveredCounts_a0, V_aK, E_aK, F_openCounts_a0, V_aO, E_aO, F_ones_a0, V_aN, E_aN, O_kP, g_a0, g_aP, g_aC, g_aK, g_aO, g_aN, hne_aK_aO, hne_aK_aN, hne_aN_aO, RW⟩ := J_c
    obtain ⟨c0, ef0, -, -, -, -, m0, z0, vs0, V0, G0⟩ := RW 0 (by decide)
    refine own_mono (rmR1 l Z az hw ws a0 aP kP fP c0 m0 z0 (fun i => vs0.getD i (.int (0 : Int32))) (own_any (st 0)) h0 n0 Z0 E_a0 F_rowCount_a0 F_openPairs_a0 V_aP (own_Arf.ofV V0 fun _ _ => rfl) ef0 G0.pos) fun v h L q => ?_
    obtain ⟨r0, rk0, rfl, qN, qs, qK, qE_r0, qV_r0⟩ := q
    exact ⟨r0, rk0, rfl, qN, qs, qK, qV_r0⟩
  · obtain ⟨aP, aC, aK, aO, aN, kP, kC, kK, kO, kN, fP, rem, E_a0, F_labelCount_a0, F_rowCount_a0, F_pairsShared_a0, F_remainingCount_a0, F_openPairs_a0, V_aP, E_aP, F_covered_a0, V_aC, E_aC, F_coveredCounts_a0, V_aK, E_aK, F_openCounts_a0, V_aO, E_aO, F_ones_a0, V_aN, E_aN, O_kP, g_a0, g_aP, g_aC, g_aK, g_aO, g_aN, hne_aK_aO, hne_aK_aN, hne_aN_aO, RW⟩ := J_c
    obtain ⟨c0, ef0, -, -, -, -, m0, z0, vs0, V0, G0⟩ := RW 0 (by decide)
    obtain ⟨c1, ef1, -, -, -, -, m1, z1, vs1, V1, G1⟩ := RW 1 (by decide)
    refine own_mono (rmR2 l Z az hw ws a0 aP kP fP c0 m0 z0 (fun i => vs0.getD i (.int (0 : Int32))) (own_any (st 0)) c1 m1 z1 (fun i => vs1.getD i (.int (0 : Int32))) (own_any (st 1)) h0 n0 Z0 E_a0 F_rowCount_a0 F_openPairs_a0 V_aP (own_Arf.ofV V0 fun _ _ => rfl) (own_Arf.ofV V1 fun _ _ => rfl) ef0 G0.pos ef1 G1.pos) fun v h L q => ?_
    obtain ⟨r0, rk0, rfl, qN, qs, qK, qE_r0, qV_r0⟩ := q
    exact ⟨r0, rk0, rfl, qN, qs, qK, qV_r0⟩
  · obtain ⟨aP, aC, aK, aO, aN, kP, kC, kK, kO, kN, fP, rem, E_a0, F_labelCount_a0, F_rowCount_a0, F_pairsShared_a0, F_remainingCount_a0, F_openPairs_a0, V_aP, E_aP, F_covered_a0, V_aC, E_aC, F_coveredCounts_a0, V_aK, E_aK, F_openCounts_a0, V_aO, E_aO, F_ones_a0, V_aN, E_aN, O_kP, g_a0, g_aP, g_aC, g_aK, g_aO, g_aN, hne_aK_aO, hne_aK_aN, hne_aN_aO, RW⟩ := J_c
    obtain ⟨c0, ef0, -, -, -, -, m0, z0, vs0, V0, G0⟩ := RW 0 (by decide)
    obtain ⟨c1, ef1, -, -, -, -, m1, z1, vs1, V1, G1⟩ := RW 1 (by decide)
    obtain ⟨c2, ef2, -, -, -, -, m2, z2, vs2, V2, G2⟩ := RW 2 (by decide)
    refine own_mono (rmR3 l Z az hw ws a0 aP kP fP c0 m0 z0 (fun i => vs0.getD i (.int (0 : Int32))) (own_any (st 0)) c1 m1 z1 (fun i => vs1.getD i (.int (0 : Int32))) (own_any (st 1)) c2 m2 z2 (fun i => vs2.getD i (.int (0 : Int32))) (own_any (st 2)) h0 n0 Z0 E_a0 F_rowCount_a0 F_openPairs_a0 V_aP (own_Arf.ofV V0 fun _ _ => rfl) (own_Arf.ofV V1 fun _ _ => rfl) (own_Arf.ofV V2 fun _ _ => rfl) ef0 G0.pos ef1 G1.pos ef2 G2.pos) fun v h L q => ?_
    obtain ⟨r0, rk0, rfl, qN, qs, qK, qE_r0, qV_r0⟩ := q
    exact ⟨r0, rk0, rfl, qN, qs, qK, qV_r0⟩
theorem own_row (s lc n i : Int32) (r : Nat) (m q : Int64) (hi : own_i r = i) (hm : own_sh i = m) (hlc : lc = (1 : Int32) ∨ lc = (2 : Int32)) : own_put (decide (i < n) && own_any (own_fin lc s r)) q m = q ||| own_bit i n lc s := by
  have hx : own_n3 (own_xs s i) := own_b3 _
  unfold own_fin own_bit own_any own_put
  rw [hi, hm]
  generalize own_xs s i = x at hx
  by_cases c : i < n
  · rcases hlc with rfl | rfl <;> rcases hx with rfl | rfl | rfl | rfl <;> simp +decide [c]
  · simp [c]
theorem own_pure (s lc n : Int32) (hlc : lc = (1 : Int32) ∨ lc = (2 : Int32)) : own_set (own_sts lc s 3) n = ((own_bit (0 : Int32) n lc s ||| own_bit (1 : Int32) n lc s) ||| own_bit (2 : Int32) n lc s) := by
  unfold own_set
  rw [show own_sts lc s 3 0 = own_fin lc s 0 from rfl, show own_sts lc s 3 1 = own_fin lc s 1 from rfl, show own_sts lc s 3 2 = own_fin lc s 2 from rfl]
  rw [own_row s lc n 0 0 1 0 rfl (by decide) hlc, own_row s lc n 1 1 2 _ rfl (by decide) hlc, own_row s lc n 2 2 4 _ rfl (by decide) hlc, Int64.zero_or]
theorem own_lc (x : Int32) : (1 : Int32) + (x &&& 1) = (1 : Int32) ∨ (1 : Int32) + (x &&& 1) = (2 : Int32) := own_b1 (P := fun v => (1 : Int32) + v = (1 : Int32) ∨ (1 : Int32) + v = (2 : Int32)) (by decide) (by decide) x
theorem pd_8 : parseMethodDescriptor "(Lcom/example/headlattice/headlattice/learn/Coverage;IIIII)V" = some ⟨[(.object "com/example/headlattice/headlattice/learn/Coverage"), .int, .int, .int, .int, .int], none⟩ := by decide +kernel
theorem pd_9 : parseMethodDescriptor "(Lcom/example/headlattice/headlattice/learn/Coverage;IIII)V" = some ⟨[(.object "com/example/headlattice/headlattice/learn/Coverage"), .int, .int, .int, .int], none⟩ := by decide +kernel
theorem pd_10 : parseMethodDescriptor "(IIII)J" = some ⟨[.int, .int, .int, .int], some .long⟩ := by decide +kernel
theorem pd_11 : parseMethodDescriptor "()[J" = some ⟨[], some (.array .long)⟩ := by decide +kernel
theorem ef_rm0a (m : MethodId) (p0 : Int32) (p1 : Int32) (p2 : Int32) (p3 : Int32) (p4 : Int32) : entryFrame m #[(.int p0), (.int p1), (.int p2), (.int p3), (.int p4)] maxLocals = mkF m 0 #[vI p0, vI p1, vI p2, vI p3, vI p4, .unset, .unset, .unset, .unset, .unset, .unset] [] := by first | (simp [entryFrame, mkF, argsToLocals, Value.category, maxLocals]; done) | rfl
def Q0a (Z : State) (p0 : Int32) (p1 : Int32) (p2 : Int32) (p3 : Int32) (p4 : Int32) (h0 : Heap) (n0 : Nat) (v : Option Value) (h : Heap) (L : List Loc) : Prop := v = some (.int (1 : Int32)) ∧ Fr n0 L
set_option maxRecDepth 65536 in
set_option maxHeartbeats 40000000 in
theorem rm0a (l : Launch) (Z : State) (az : Array Value) (hw : ∀ d ∈ tables_1, d.before az Z = true) (ws : List Jvm.Cond) (p0 : Int32) (p1 : Int32) (p2 : Int32) (p3 : Int32) (p4 : Int32) (h0 : Heap) (n0 : Nat) (Z0 : n0 ≤ h0.size) (hc0 : ((1 : Int32) + (p1 &&& (1 : Int32))) = (1 : Int32) ∨ ((1 : Int32) + (p1 &&& (1 : Int32))) = (2 : Int32)) (hc1 : own_n3 (p0 &&& (3 : Int32))) (hc2 : (p0 &&& (3 : Int32)) = (0 : Int32)) :
    MetFree l x (head1 (Jvm.Cond.code x code maxLocals ret :: ws) room_1) (fun a U => a = #[(.int p0), (.int p1), (.int p2), (.int p3), (.int p4)] ∧ Z.Warmed39 U.vm ∧ U.heap = h0) (fun _ _ _ _ _ => True) (fun _ U o U' => ∃ v L, o = .returned v ∧ Q0a Z p0 p1 p2 p3 p4 h0 n0 v U'.heap L ∧ FrameEnd U o U' L room_1.cells room_1.slots) := by
  refine MetFree.of_bodySF (plainFor_of_name pn_com_example_headlattice_headlattice_learn_CoverageRemainingRowSetPinLaw) hisR ?_
  intro p e s m args below meth c s₁ Bd hml0 hP hK
  obtain ⟨rfl, hZ, hh⟩ := hP
  have hx := Bd.exec
  have hby := Bd.bytes
  have hml : c.maxLocals = 11 := hml0
  have hown : s.vm.findClass cLW = some m.cls := findClass_of_methodNamed Bd.named
  have hnm := (name_of_methodNamed Bd.named Bd.method).1
  have X0 : Stand p l e room_1 s m #[(.int p0), (.int p1), (.int p2), (.int p3), (.int p4)] below meth c s₁ [] 0 0 := Stand.of_body Bd
  have e0 : s₁.heap = h0 := by rw [← hh, Bd.state]; rfl
  have N0 := Fr.nil n0
  have pre0 : ∀ t, Steps p.tables e below (s₁.setTop (mkF m 0 #[vI p0, vI p1, vI p2, vI p3, vI p4, .unset, .unset, .unset, .unset, .unset, .unset] [])) t → Steps p.tables e below (s₁.setTop (entryFrame m #[(.int p0), (.int p1), (.int p2), (.int p3), (.int p4)] maxLocals)) t := fun t k => castTop (ef_rm0a m p0 p1 p2 p3 p4) k
  obtain ⟨T1, h1, X1, e1, E1, A1, D1, -, st1⟩ := newO X0 hx hZ hown (w0 hw) (w1 hw) (w2 hw) e0 (g := (mkF m 12 #[vI p0, vI p1, vI p2, vI p3, vI p4, vI (p0 &&& (3 : Int32)), vI ((1 : Int32) + (p1 &&& (1 : Int32))), .unset, .unset, .unset, .unset] [])) rfl (hb hby at_12) (by decide) (by decide)
  obtain ⟨b1, g1⟩ : ∃ z, z = h0.size := ⟨_, rfl⟩
  rw [← g1] at A1 D1 st1
  have g_b1 : n0 ≤ b1 := Nat.le_trans Z0 (Nat.le_of_eq g1.symm)
  have sz_b1 : h0.size ≤ b1 := Nat.le_trans (Nat.le_refl _) (Nat.le_of_eq g1.symm)
  have Z1 : n0 ≤ h1.size := Nat.le_trans Z0 E1.1
  have K1 : Keep h0 h1 [] := (Keep.refl h0 []).ext E1
  have E_b1 := A1
  have F_labelCount_b1 : Fld Z h1 b1 cCV "labelCount" "I" (.int (0 : Int32)) := D1 (Or.inr (w10 hw)) (ty := .int) (by decide)
  have F_openPairs_b1 : Fld Z h1 b1 cCV "openPairs" "[[I" .null := D1 (Or.inl (w14 hw)) (ty := (.array (.array .int))) (by decide)
  have F_covered_b1 : Fld Z h1 b1 cCV "covered" "[Z" .null := D1 (Or.inl (w17 hw)) (ty := (.array .boolean)) (by decide)
  have F_coveredCounts_b1 : Fld Z h1 b1 cCV "coveredCounts" "[I" .null := D1 (Or.inr (w20 hw)) (ty := (.array .int)) (by decide)
  have F_openCounts_b1 : Fld Z h1 b1 cCV "openCounts" "[I" .null := D1 (Or.inr (w22 hw)) (ty := (.array .int)) (by decide)
  have F_ones_b1 : Fld Z h1 b1 cCV "ones" "[I" .null := D1 (Or.inr (w24 hw)) (ty := (.array .int)) (by decide)
  have F_rowCount_b1 : Fld Z h1 b1 cCV "rowCount" "I" (.int (0 : Int32)) := D1 (Or.inl (w41 hw)) (ty := .int) (by decide)
  have F_pairsShared_b1 : Fld Z h1 b1 cCV "pairsShared" "Z" (.int (0 : Int32)) := D1 (Or.inl (w53 hw)) (ty := .boolean) (by decide)
  have F_remainingCount_b1 : Fld Z h1 b1 cCV "remainingCount" "I" (.int (0 : Int32)) := D1 (Or.inl (w55 hw)) (ty := .int) (by decide)
  obtain ⟨_, _, ⟨T2, L2, k2', n2'⟩, -, X2, ⟨Lc2, hQ2, l2, y2, z2⟩, st2⟩ := X1.specialBack hx (y := (⟨cCV, "<init>", "(I)V"⟩ : MethodName)) rfl hown (mvT hZ (w3 hw)) (mvT hZ (w4 hw)) (mvT hZ (w5 hw)) (by decide) (backOf (W := 1) (rmI l Z az hw [] b1 ((1 : Int32) + (p1 &&& (1 : Int32))) h1 n0 Z1 E_b1 F_labelCount_b1 F_openPairs_b1 F_covered_b1 F_coveredCounts_b1 F_openCounts_b1 F_ones_b1 F_rowCount_b1 F_pairsShared_b1 F_remainingCount_b1 g_b1 hc0) hZ (w5 hw) (w2 hw) (by decide) (by decide)) (g := (mkF m 18 #[vI p0, vI p1, vI p2, vI p3, vI p4, vI (p0 &&& (3 : Int32)), vI ((1 : Int32) + (p1 &&& (1 : Int32))), .unset, .unset, .unset, .unset] [(.int ((1 : Int32) + (p1 &&& (1 : Int32)))), (.ref b1), (.ref b1)])) rfl (by rw [hml]; rfl) (Steps.refl _) (a := b1) (argsL := [(.int ((1 : Int32) + (p1 &&& (1 : Int32))))]) (rest := [(.ref b1)]) (lenOf pd_3 rfl) rfl (by show 2 * 0 + _ ≤ _; exact Nat.le_of_eq rfl) (hb hby at_18) (fun _ _ => ⟨rfl, e1, (by decide : 1 + 5 ≤ _), (by decide : 9 + 26 ≤ _)⟩)
  dsimp only [Pt.U, Pt.locs, Pt.cells, Pt.slots] at X2 l2 y2 z2 st2 hQ2
  subst l2 y2 z2
  obtain ⟨rfl, N2q, kq2, pf2_0, pf2_1⟩ := hQ2
  obtain ⟨Lg2, X2', N2⟩ := own_gen X2 (Fr.app N0 N2q)
  obtain ⟨_, _, ⟨T3, L3, k3', n3'⟩, -, X3, ⟨Lc3, hQ3, l3, y3, z3⟩, st3⟩ := Jvm.LawKit.callS X2' hx (y := (⟨cLW, "addRow", "(Lcom/example/headlattice/headlattice/learn/Coverage;IIIII)V"⟩ : MethodName)) hown (mvT hZ (w25 hw)) (mvT hZ (w26 hw)) (mvT hZ (w27 hw)) (mvT hZ (w28 hw)) (by decide) (backOf (W := 0) (rmAR0 l Z az hw [] b1 (p0 &&& (3 : Int32)) ((1 : Int32) + (p1 &&& (1 : Int32))) p3 p4 T2.heap n0 kq2 pf2_0 pf2_1 hc0 hc1) hZ (w28 hw) (w27 hw) (by decide) (by decide)) (g := (mkF m 33 #[vI p0, vI p1, vI p2, vI p3, vI p4, vI (p0 &&& (3 : Int32)), vI ((1 : Int32) + (p1 &&& (1 : Int32))), vR b1, .unset, .unset, .unset] [(.int p4), (.int p3), (.int ((1 : Int32) + (p1 &&& (1 : Int32)))), (.int (p0 &&& (3 : Int32))), (.int (0 : Int32)), (.ref b1)])) rfl (by rw [hml]; rfl) (argsL := [(.ref b1), (.int (0 : Int32)), (.int (p0 &&& (3 : Int32))), (.int ((1 : Int32) + (p1 &&& (1 : Int32)))), (.int p3), (.int p4)]) (rest := []) (lenOf pd_8 rfl) rfl (by show 2 * 0 + _ ≤ _; exact Nat.le_of_eq rfl) (hb hby at_33) (fun _ _ => ⟨rfl, rfl, (by decide : 6 + 2 ≤ _), (by decide : 35 + 4 ≤ _)⟩)
  dsimp only [Pt.U, Pt.locs, Pt.cells, Pt.slots] at X3 l3 y3 z3 st3 hQ3
  subst l3 y3 z3
  obtain ⟨rfl, N3q, kq3, pf3_0, pf3_1⟩ := hQ3
  obtain ⟨Lg3, X3', N3⟩ := own_gen X3 (Fr.app N2 N3q)
  obtain ⟨_, _, ⟨T4, L4, k4', n4'⟩, -, X4, ⟨Lc4, hQ4, l4, y4, z4⟩, st4⟩ := Jvm.LawKit.callS X3' hx (y := (⟨cLW, "addRow", "(Lcom/example/headlattice/headlattice/learn/Coverage;IIIII)V"⟩ : MethodName)) hown (mvT hZ (w25 hw)) (mvT hZ (w26 hw)) (mvT hZ (w27 hw)) (mvT hZ (w28 hw)) (by decide) (backOf (W := 0) (rmAR1 l Z az hw [] b1 (p0 &&& (3 : Int32)) ((1 : Int32) + (p1 &&& (1 : Int32))) p3 p4 T3.heap n0 kq3 pf3_0 pf3_1 hc0 hc1) hZ (w28 hw) (w27 hw) (by decide) (by decide)) (g := (mkF m 46 #[vI p0, vI p1, vI p2, vI p3, vI p4, vI (p0 &&& (3 : Int32)), vI ((1 : Int32) + (p1 &&& (1 : Int32))), vR b1, .unset, .unset, .unset] [(.int p4), (.int p3), (.int ((1 : Int32) + (p1 &&& (1 : Int32)))), (.int (p0 &&& (3 : Int32))), (.int (1 : Int32)), (.ref b1)])) rfl (by rw [hml]; rfl) (argsL := [(.ref b1), (.int (1 : Int32)), (.int (p0 &&& (3 : Int32))), (.int ((1 : Int32) + (p1 &&& (1 : Int32)))), (.int p3), (.int p4)]) (rest := []) (lenOf pd_8 rfl) rfl (by show 2 * 0 + _ ≤ _; exact Nat.le_of_eq rfl) (hb hby at_46) (fun _ _ => ⟨rfl, rfl, (by decide : 8 + 2 ≤ _), (by decide : 39 + 4 ≤ _)⟩)
  dsimp only [Pt.U, Pt.locs, Pt.cells, Pt.slots] at X4 l4 y4 z4 st4 hQ4
  subst l4 y4 z4
  obtain ⟨rfl, N4q, kq4, pf4_0, pf4_1⟩ := hQ4
  obtain ⟨Lg4, X4', N4⟩ := own_gen X4 (Fr.app N3 N4q)
  obtain ⟨_, _, ⟨T5, L5, k5', n5'⟩, -, X5, ⟨Lc5, hQ5, l5, y5, z5⟩, st5⟩ := Jvm.LawKit.callS X4' hx (y := (⟨cLW, "addRow", "(Lcom/example/headlattice/headlattice/learn/Coverage;IIIII)V"⟩ : MethodName)) hown (mvT hZ (w25 hw)) (mvT hZ (w26 hw)) (mvT hZ (w27 hw)) (mvT hZ (w28 hw)) (by decide) (backOf (W := 0) (rmAR2 l Z az hw [] b1 (p0 &&& (3 : Int32)) ((1 : Int32) + (p1 &&& (1 : Int32))) p3 p4 T4.heap n0 kq4 pf4_0 pf4_1 hc0 hc1) hZ (w28 hw) (w27 hw) (by decide) (by decide)) (g := (mkF m 59 #[vI p0, vI p1, vI p2, vI p3, vI p4, vI (p0 &&& (3 : Int32)), vI ((1 : Int32) + (p1 &&& (1 : Int32))), vR b1, .unset, .unset, .unset] [(.int p4), (.int p3), (.int ((1 : Int32) + (p1 &&& (1 : Int32)))), (.int (p0 &&& (3 : Int32))), (.int (2 : Int32)), (.ref b1)])) rfl (by rw [hml]; rfl) (argsL := [(.ref b1), (.int (2 : Int32)), (.int (p0 &&& (3 : Int32))), (.int ((1 : Int32) + (p1 &&& (1 : Int32)))), (.int p3), (.int p4)]) (rest := []) (lenOf pd_8 rfl) rfl (by show 2 * 0 + _ ≤ _; exact Nat.le_of_eq rfl) (hb hby at_59) (fun _ _ => ⟨rfl, rfl, (by decide : 10 + 2 ≤ _), (by decide : 43 + 4 ≤ _)⟩)
  dsimp only [Pt.U, Pt.locs, Pt.cells, Pt.slots] at X5 l5 y5 z5 st5 hQ5
  subst l5 y5 z5
  obtain ⟨rfl, N5q, kq5, pf5_0, pf5_1⟩ := hQ5
  obtain ⟨Lg5, X5', N5⟩ := own_gen X5 (Fr.app N4 N5q)
  obtain ⟨_, _, ⟨T6, L6, k6', n6'⟩, -, X6, ⟨Lc6, hQ6, l6, y6, z6⟩, st6⟩ := Jvm.LawKit.callS X5' hx (y := (⟨cLW, "doSettle", "(Lcom/example/headlattice/headlattice/learn/Coverage;IIII)V"⟩ : MethodName)) hown (mvT hZ (w29 hw)) (mvT hZ (w30 hw)) (mvT hZ (w27 hw)) (mvT hZ (w31 hw)) (by decide) (backOf (W := 0) (rmDS0 l Z az hw [] b1 (p0 &&& (3 : Int32)) ((1 : Int32) + (p1 &&& (1 : Int32))) p2 T5.heap n0 kq5 pf5_0 pf5_1 hc0 hc1) hZ (w31 hw) (w27 hw) (by decide) (by decide)) (g := (mkF m 70 #[vI p0, vI p1, vI p2, vI p3, vI p4, vI (p0 &&& (3 : Int32)), vI ((1 : Int32) + (p1 &&& (1 : Int32))), vR b1, .unset, .unset, .unset] [(.int p2), (.int ((1 : Int32) + (p1 &&& (1 : Int32)))), (.int (p0 &&& (3 : Int32))), (.int (0 : Int32)), (.ref b1)])) rfl (by rw [hml]; rfl) (argsL := [(.ref b1), (.int (0 : Int32)), (.int (p0 &&& (3 : Int32))), (.int ((1 : Int32) + (p1 &&& (1 : Int32)))), (.int p2)]) (rest := []) (lenOf pd_9 rfl) rfl (by show 2 * 0 + _ ≤ _; exact Nat.le_of_eq rfl) (hb hby at_70) (fun _ _ => ⟨rfl, rfl, (by decide : 12 + 6 ≤ _), (by decide : 47 + 10 ≤ _)⟩)
  dsimp only [Pt.U, Pt.locs, Pt.cells, Pt.slots] at X6 l6 y6 z6 st6 hQ6
  subst l6 y6 z6
  obtain ⟨rfl, N6q, kq6, pf6_0, pf6_1⟩ := hQ6
  obtain ⟨Lg6, X6', N6⟩ := own_gen X6 (Fr.app N5 N6q)
  obtain ⟨_, _, ⟨T7, L7, k7', n7'⟩, -, X7, ⟨Lc7, hQ7, l7, y7, z7⟩, st7⟩ := Jvm.LawKit.callS X6' hx (y := (⟨cLW, "doSettle", "(Lcom/example/headlattice/headlattice/learn/Coverage;IIII)V"⟩ : MethodName)) hown (mvT hZ (w29 hw)) (mvT hZ (w30 hw)) (mvT hZ (w27 hw)) (mvT hZ (w31 hw)) (by decide) (backOf (W := 0) (rmDS1 l Z az hw [] b1 (p0 &&& (3 : Int32)) ((1 : Int32) + (p1 &&& (1 : Int32))) p2 T6.heap n0 kq6 pf6_0 pf6_1 hc0 hc1) hZ (w31 hw) (w27 hw) (by decide) (by decide)) (g := (mkF m 81 #[vI p0, vI p1, vI p2, vI p3, vI p4, vI (p0 &&& (3 : Int32)), vI ((1 : Int32) + (p1 &&& (1 : Int32))), vR b1, .unset, .unset, .unset] [(.int p2), (.int ((1 : Int32) + (p1 &&& (1 : Int32)))), (.int (p0 &&& (3 : Int32))), (.int (1 : Int32)), (.ref b1)])) rfl (by rw [hml]; rfl) (argsL := [(.ref b1), (.int (1 : Int32)), (.int (p0 &&& (3 : Int32))), (.int ((1 : Int32) + (p1 &&& (1 : Int32)))), (.int p2)]) (rest := []) (lenOf pd_9 rfl) rfl (by show 2 * 0 + _ ≤ _; exact Nat.le_of_eq rfl) (hb hby at_81) (fun _ _ => ⟨rfl, rfl, (by decide : 18 + 6 ≤ _), (by decide : 57 + 10 ≤ _)⟩)
  dsimp only [Pt.U, Pt.locs, Pt.cells, Pt.slots] at X7 l7 y7 z7 st7 hQ7
  subst l7 y7 z7
  obtain ⟨rfl, N7q, kq7, pf7_0, pf7_1⟩ := hQ7
  obtain ⟨Lg7, X7', N7⟩ := own_gen X7 (Fr.app N6 N7q)
  obtain ⟨_, _, ⟨T8, L8, k8', n8'⟩, -, X8, ⟨Lc8, hQ8, l8, y8, z8⟩, st8⟩ := Jvm.LawKit.callS X7' hx (y := (⟨cLW, "doSettle", "(Lcom/example/headlattice/headlattice/learn/Coverage;IIII)V"⟩ : MethodName)) hown (mvT hZ (w29 hw)) (mvT hZ (w30 hw)) (mvT hZ (w27 hw)) (mvT hZ (w31 hw)) (by decide) (backOf (W := 0) (rmDS2 l Z az hw [] b1 (p0 &&& (3 : Int32)) ((1 : Int32) + (p1 &&& (1 : Int32))) p2 T7.heap n0 kq7 pf7_0 pf7_1 hc0 hc1) hZ (w31 hw) (w27 hw) (by decide) (by decide)) (g := (mkF m 92 #[vI p0, vI p1, vI p2, vI p3, vI p4, vI (p0 &&& (3 : Int32)), vI ((1 : Int32) + (p1 &&& (1 : Int32))), vR b1, .unset, .unset, .unset] [(.int p2), (.int ((1 : Int32) + (p1 &&& (1 : Int32)))), (.int (p0 &&& (3 : Int32))), (.int (2 : Int32)), (.ref b1)])) rfl (by rw [hml]; rfl) (argsL := [(.ref b1), (.int (2 : Int32)), (.int (p0 &&& (3 : Int32))), (.int ((1 : Int32) + (p1 &&& (1 : Int32)))), (.int p2)]) (rest := []) (lenOf pd_9 rfl) rfl (by show 2 * 0 + _ ≤ _; exact Nat.le_of_eq rfl) (hb hby at_92) (fun _ _ => ⟨rfl, rfl, (by decide : 24 + 6 ≤ _), (by decide : 67 + 10 ≤ _)⟩)
  dsimp only [Pt.U, Pt.locs, Pt.cells, Pt.slots] at X8 l8 y8 z8 st8 hQ8
  subst l8 y8 z8
  obtain ⟨rfl, N8q, kq8, pf8_0, pf8_1⟩ := hQ8
  obtain ⟨Lg8, X8', N8⟩ := own_gen X8 (Fr.app N7 N8q)
  obtain ⟨_, _, ⟨T9, L9, k9', n9'⟩, -, X9, ⟨Lc9, hQ9, l9, y9, z9⟩, st9⟩ := Jvm.LawKit.callS X8' hx (y := (⟨cLW, "bit", "(IIII)J"⟩ : MethodName)) hown (mvT hZ (w32 hw)) (mvT hZ (w33 hw)) (mvT hZ (w27 hw)) (mvT hZ (w34 hw)) (by decide) (backOf (W := 0) (rmBT l Z az hw [] (0 : Int32) (p0 &&& (3 : Int32)) ((1 : Int32) + (p1 &&& (1 : Int32))) p2 T8.heap n0 kq8) hZ (w34 hw) (w27 hw) (by decide) (by decide)) (g := (mkF m 101 #[vI p0, vI p1, vI p2, vI p3, vI p4, vI (p0 &&& (3 : Int32)), vI ((1 : Int32) + (p1 &&& (1 : Int32))), vR b1, .unset, .unset, .unset] [(.int p2), (.int ((1 : Int32) + (p1 &&& (1 : Int32)))), (.int (p0 &&& (3 : Int32))), (.int (0 : Int32))])) rfl (by rw [hml]; rfl) (argsL := [(.int (0 : Int32)), (.int (p0 &&& (3 : Int32))), (.int ((1 : Int32) + (p1 &&& (1 : Int32)))), (.int p2)]) (rest := []) (lenOf pd_10 rfl) rfl (by show 2 * 0 + _ ≤ _; exact Nat.le_of_eq rfl) (hb hby at_101) (fun _ _ => ⟨rfl, rfl, (by decide : 30 + 0 ≤ _), (by decide : 77 + 0 ≤ _)⟩)
  dsimp only [Pt.U, Pt.locs, Pt.cells, Pt.slots] at X9 l9 y9 z9 st9 hQ9
  subst l9 y9 z9
  obtain ⟨rfl, N9q, e9⟩ := hQ9
  obtain ⟨Lg9, X9', N9⟩ := own_gen X9 (Fr.app N8 N9q)
  obtain ⟨_, _, ⟨T10, L10, k10', n10'⟩, -, X10, ⟨Lc10, hQ10, l10, y10, z10⟩, st10⟩ := Jvm.LawKit.callS X9' hx (y := (⟨cLW, "bit", "(IIII)J"⟩ : MethodName)) hown (mvT hZ (w32 hw)) (mvT hZ (w33 hw)) (mvT hZ (w27 hw)) (mvT hZ (w34 hw)) (by decide) (backOf (W := 2) (rmBT l Z az hw [] (1 : Int32) (p0 &&& (3 : Int32)) ((1 : Int32) + (p1 &&& (1 : Int32))) p2 T8.heap n0 kq8) hZ (w34 hw) (w27 hw) (by decide) (by decide)) (g := (mkF m 110 #[vI p0, vI p1, vI p2, vI p3, vI p4, vI (p0 &&& (3 : Int32)), vI ((1 : Int32) + (p1 &&& (1 : Int32))), vR b1, .unset, .unset, .unset] [(.int p2), (.int ((1 : Int32) + (p1 &&& (1 : Int32)))), (.int (p0 &&& (3 : Int32))), (.int (1 : Int32)), (.long (own_bit (0 : Int32) (p0 &&& (3 : Int32)) ((1 : Int32) + (p1 &&& (1 : Int32))) p2))])) rfl (by rw [hml]; rfl) (argsL := [(.int (1 : Int32)), (.int (p0 &&& (3 : Int32))), (.int ((1 : Int32) + (p1 &&& (1 : Int32)))), (.int p2)]) (rest := [(.long (own_bit (0 : Int32) (p0 &&& (3 : Int32)) ((1 : Int32) + (p1 &&& (1 : Int32))) p2))]) (lenOf pd_10 rfl) rfl (by show 2 * 0 + _ ≤ _; exact Nat.le_of_eq rfl) (hb hby at_110) (fun _ _ => ⟨rfl, e9, (by decide : 30 + 0 ≤ _), (by decide : 77 + 0 ≤ _)⟩)
  dsimp only [Pt.U, Pt.locs, Pt.cells, Pt.slots] at X10 l10 y10 z10 st10 hQ10
  subst l10 y10 z10
  obtain ⟨rfl, N10q, e10⟩ := hQ10
  obtain ⟨Lg10, X10', N10⟩ := own_gen X10 (Fr.app N9 N10q)
  obtain ⟨_, _, ⟨T11, L11, k11', n11'⟩, -, X11, ⟨Lc11, hQ11, l11, y11, z11⟩, st11⟩ := Jvm.LawKit.callS X10' hx (y := (⟨cLW, "bit", "(IIII)J"⟩ : MethodName)) hown (mvT hZ (w32 hw)) (mvT hZ (w33 hw)) (mvT hZ (w27 hw)) (mvT hZ (w34 hw)) (by decide) (backOf (W := 2) (rmBT l Z az hw [] (2 : Int32) (p0 &&& (3 : Int32)) ((1 : Int32) + (p1 &&& (1 : Int32))) p2 T8.heap n0 kq8) hZ (w34 hw) (w27 hw) (by decide) (by decide)) (g := (mkF m 120 #[vI p0, vI p1, vI p2, vI p3, vI p4, vI (p0 &&& (3 : Int32)), vI ((1 : Int32) + (p1 &&& (1 : Int32))), vR b1, .unset, .unset, .unset] [(.int p2), (.int ((1 : Int32) + (p1 &&& (1 : Int32)))), (.int (p0 &&& (3 : Int32))), (.int (2 : Int32)), (.long ((own_bit (0 : Int32) (p0 &&& (3 : Int32)) ((1 : Int32) + (p1 &&& (1 : Int32))) p2) ||| (own_bit (1 : Int32) (p0 &&& (3 : Int32)) ((1 : Int32) + (p1 &&& (1 : Int32))) p2)))])) rfl (by rw [hml]; rfl) (argsL := [(.int (2 : Int32)), (.int (p0 &&& (3 : Int32))), (.int ((1 : Int32) + (p1 &&& (1 : Int32)))), (.int p2)]) (rest := [(.long ((own_bit (0 : Int32) (p0 &&& (3 : Int32)) ((1 : Int32) + (p1 &&& (1 : Int32))) p2) ||| (own_bit (1 : Int32) (p0 &&& (3 : Int32)) ((1 : Int32) + (p1 &&& (1 : Int32))) p2)))]) (lenOf pd_10 rfl) rfl (by show 2 * 0 + _ ≤ _; exact Nat.le_of_eq rfl) (hb hby at_120) (fun _ _ => ⟨rfl, e10, (by decide : 30 + 0 ≤ _), (by decide : 77 + 0 ≤ _)⟩)
  dsimp only [Pt.U, Pt.locs, Pt.cells, Pt.slots] at X11 l11 y11 z11 st11 hQ11
  subst l11 y11 z11
  obtain ⟨rfl, N11q, e11⟩ := hQ11
  obtain ⟨Lg11, X11', N11⟩ := own_gen X11 (Fr.app N10 N11q)
  obtain ⟨cq12, kq12, q12a, q12b, q12c⟩ := isOf hZ e11 pf8_0
  obtain ⟨_, _, ⟨T12, L12, k12', n12'⟩, -, X12, ⟨Lc12, hQ12, l12, y12, z12⟩, st12⟩ := X11'.virtualBack hx (y := (⟨cCV, "remainingRowSet", "()[J"⟩ : MethodName)) (z := (⟨cCV, "remainingRowSet", "()[J"⟩ : MethodName)) hown (mvT hZ (w35 hw)) (mvT hZ (w36 hw)) (notFace_of_selects (args := #[]) (mvT hZ (w38 hw))) (mvT hZ (w38 hw)) (mvT hZ (w37 hw)) (by decide) (backOf (W := 0) (rmRS0 l Z az hw [] b1 ((1 : Int32) + (p1 &&& (1 : Int32))) (p0 &&& (3 : Int32)) (own_sts ((1 : Int32) + (p1 &&& (1 : Int32))) p2 3) T8.heap n0 kq8 pf8_0 pf8_1 hc1 hc2) hZ (w39 hw) (w2 hw) (by decide) (by decide)) q12a q12c (g := (mkF m 128 #[vI p0, vI p1, vI p2, vI p3, vI p4, vI (p0 &&& (3 : Int32)), vI ((1 : Int32) + (p1 &&& (1 : Int32))), vR b1, .val (.long (((own_bit (0 : Int32) (p0 &&& (3 : Int32)) ((1 : Int32) + (p1 &&& (1 : Int32))) p2) ||| (own_bit (1 : Int32) (p0 &&& (3 : Int32)) ((1 : Int32) + (p1 &&& (1 : Int32))) p2)) ||| (own_bit (2 : Int32) (p0 &&& (3 : Int32)) ((1 : Int32) + (p1 &&& (1 : Int32))) p2))), .second, .unset] [(.ref b1)])) rfl (by rw [hml]; rfl) (Steps.refl _) (argsL := []) (rest := []) (lenOf pd_11 rfl) rfl (by show 2 * 0 + _ ≤ _; exact Nat.le_of_eq rfl) (hb hby at_128) (fun _ _ => ⟨rfl, e11, (by decide : 30 + 1 ≤ _), (by decide : 77 + 1 ≤ _)⟩)
  dsimp only [Pt.U, Pt.locs, Pt.cells, Pt.slots] at X12 l12 y12 z12 st12 hQ12
  subst l12 y12 z12
  obtain ⟨b12_0, kk12_0, rfl, N12q, s12_0, kq12, pf12_0⟩ := hQ12
  obtain ⟨Lg12, X12', N12⟩ := own_gen X12 (Fr.app N11 N12q)
  have g_b12_0 : n0 ≤ b12_0 := Nat.le_trans kq8 s12_0
  have Z12 : n0 ≤ T12.heap.size := Nat.le_trans kq8 kq12.1
  obtain ⟨cl13, Ar13, qk13, Sz13, Ng13, Hs13, Gf13⟩ := id pf12_0
  obtain ⟨fs, hr, hrun, hended, hW, hsame⟩ := X12'.leave (v := some (.int (1 : Int32))) (fun h => by rw [Bd.returns] at h; cases h)
  refine ⟨_, _, pre0 _ ?_, hrun, hended, _, _, rfl, ?_, ⟨_, rfl⟩, hW, hsame.mono (by decide) (by decide)⟩
  · show Steps p.tables e below (s₁.setTop (mkF m 0 #[vI p0, vI p1, vI p2, vI p3, vI p4, .unset, .unset, .unset, .unset, .unset, .unset] [])) _
    refine XS.iloadN X0.here hx rfl (hb hby at_0) rfl ?_
    refine XS.iconst X0.here hx rfl (hb hby at_1) ?_
    refine XS.iand X0.here hx rfl (hb hby at_2) rfl ?_
    refine XS.istore X0.here hx rfl (hb hby at_3) rfl (l' := #[vI p0, vI p1, vI p2, vI p3, vI p4, vI (p0 &&& (3 : Int32)), .unset, .unset, .unset, .unset, .unset]) rfl ?_
    refine XS.iconst X0.here hx rfl (hb hby at_5) ?_
    refine XS.iloadN X0.here hx rfl (hb hby at_6) rfl ?_
    refine XS.iconst X0.here hx rfl (hb hby at_7) ?_
    refine XS.iand X0.here hx rfl (hb hby at_8) rfl ?_
    refine XS.iadd X0.here hx rfl (hb hby at_9) rfl ?_
    refine XS.istore X0.here hx rfl (hb hby at_10) rfl (l' := #[vI p0, vI p1, vI p2, vI p3, vI p4, vI (p0 &&& (3 : Int32)), vI ((1 : Int32) + (p1 &&& (1 : Int32))), .unset, .unset, .unset, .unset]) rfl ?_
    show Steps p.tables e below (s₁.setTop (mkF m 12 #[vI p0, vI p1, vI p2, vI p3, vI p4, vI (p0 &&& (3 : Int32)), vI ((1 : Int32) + (p1 &&& (1 : Int32))), .unset, .unset, .unset, .unset] [])) _
    refine st1 _ ?_
    show Steps p.tables e below (T1.setTop (mkF m 15 #[vI p0, vI p1, vI p2, vI p3, vI p4, vI (p0 &&& (3 : Int32)), vI ((1 : Int32) + (p1 &&& (1 : Int32))), .unset, .unset, .unset, .unset] [(.ref b1)])) _
    refine XS.dup X1.here hx rfl (hb hby at_15) rfl rfl ?_
    refine XS.iload X1.here hx rfl (hb hby at_16) rfl ?_
    show Steps p.tables e below (T1.setTop (mkF m 18 #[vI p0, vI p1, vI p2, vI p3, vI p4, vI (p0 &&& (3 : Int32)), vI ((1 : Int32) + (p1 &&& (1 : Int32))), .unset, .unset, .unset, .unset] [(.int ((1 : Int32) + (p1 &&& (1 : Int32)))), (.ref b1), (.ref b1)])) _
    refine st2.trans ?_
    show Steps p.tables e below (T2.setTop (mkF m 21 #[vI p0, vI p1, vI p2, vI p3, vI p4, vI (p0 &&& (3 : Int32)), vI ((1 : Int32) + (p1 &&& (1 : Int32))), .unset, .unset, .unset, .unset] [(.ref b1)])) _
    refine XS.astore X2'.here hx rfl (hb hby at_21) rfl rfl (l' := #[vI p0, vI p1, vI p2, vI p3, vI p4, vI (p0 &&& (3 : Int32)), vI ((1 : Int32) + (p1 &&& (1 : Int32))), vR b1, .unset, .unset, .unset]) rfl ?_
    refine XS.aload X2'.here hx rfl (hb hby at_23) rfl rfl ?_
    refine XS.iconst X2'.here hx rfl (hb hby at_25) ?_
    refine XS.iload X2'.here hx rfl (hb hby at_26) rfl ?_
    refine XS.iload X2'.here hx rfl (hb hby at_28) rfl ?_
    refine XS.iloadN X2'.here hx rfl (hb hby at_30) rfl ?_
    refine XS.iload X2'.here hx rfl (hb hby at_31) rfl ?_
    show Steps p.tables e below (T2.setTop (mkF m 33 #[vI p0, vI p1, vI p2, vI p3, vI p4, vI (p0 &&& (3 : Int32)), vI ((1 : Int32) + (p1 &&& (1 : Int32))), vR b1, .unset, .unset, .unset] [(.int p4), (.int p3), (.int ((1 : Int32) + (p1 &&& (1 : Int32)))), (.int (p0 &&& (3 : Int32))), (.int (0 : Int32)), (.ref b1)])) _
    refine st3 _ ?_
    show Steps p.tables e below (T3.setTop (mkF m 36 #[vI p0, vI p1, vI p2, vI p3, vI p4, vI (p0 &&& (3 : Int32)), vI ((1 : Int32) + (p1 &&& (1 : Int32))), vR b1, .unset, .unset, .unset] [])) _
    refine XS.aload X3'.here hx rfl (hb hby at_36) rfl rfl ?_
    refine XS.iconst X3'.here hx rfl (hb hby at_38) ?_
    refine XS.iload X3'.here hx rfl (hb hby at_39) rfl ?_
    refine XS.iload X3'.here hx rfl (hb hby at_41) rfl ?_
    refine XS.iloadN X3'.here hx rfl (hb hby at_43) rfl ?_
    refine XS.iload X3'.here hx rfl (hb hby at_44) rfl ?_
    show Steps p.tables e below (T3.setTop (mkF m 46 #[vI p0, vI p1, vI p2, vI p3, vI p4, vI (p0 &&& (3 : Int32)), vI ((1 : Int32) + (p1 &&& (1 : Int32))), vR b1, .unset, .unset, .unset] [(.int p4), (.int p3), (.int ((1 : Int32) + (p1 &&& (1 : Int32)))), (.int (p0 &&& (3 : Int32))), (.int (1 : Int32)), (.ref b1)])) _
    refine st4 _ ?_
    show Steps p.tables e below (T4.setTop (mkF m 49 #[vI p0, vI p1, vI p2, vI p3, vI p4, vI (p0 &&& (3 : Int32)), vI ((1 : Int32) + (p1 &&& (1 : Int32))), vR b1, .unset, .unset, .unset] [])) _
    refine XS.aload X4'.here hx rfl (hb hby at_49) rfl rfl ?_
    refine XS.iconst X4'.here hx rfl (hb hby at_51) ?_
    refine XS.iload X4'.here hx rfl (hb hby at_52) rfl ?_
    refine XS.iload X4'.here hx rfl (hb hby at_54) rfl ?_
    refine XS.iloadN X4'.here hx rfl (hb hby at_56) rfl ?_
    refine XS.iload X4'.here hx rfl (hb hby at_57) rfl ?_
    show Steps p.tables e below (T4.setTop (mkF m 59 #[vI p0, vI p1, vI p2, vI p3, vI p4, vI (p0 &&& (3 : Int32)), vI ((1 : Int32) + (p1 &&& (1 : Int32))), vR b1, .unset, .unset, .unset] [(.int p4), (.int p3), (.int ((1 : Int32) + (p1 &&& (1 : Int32)))), (.int (p0 &&& (3 : Int32))), (.int (2 : Int32)), (.ref b1)])) _
    refine st5 _ ?_
    show Steps p.tables e below (T5.setTop (mkF m 62 #[vI p0, vI p1, vI p2, vI p3, vI p4, vI (p0 &&& (3 : Int32)), vI ((1 : Int32) + (p1 &&& (1 : Int32))), vR b1, .unset, .unset, .unset] [])) _
    refine XS.aload X5'.here hx rfl (hb hby at_62) rfl rfl ?_
    refine XS.iconst X5'.here hx rfl (hb hby at_64) ?_
    refine XS.iload X5'.here hx rfl (hb hby at_65) rfl ?_
    refine XS.iload X5'.here hx rfl (hb hby at_67) rfl ?_
    refine XS.iloadN X5'.here hx rfl (hb hby at_69) rfl ?_
    show Steps p.tables e below (T5.setTop (mkF m 70 #[vI p0, vI p1, vI p2, vI p3, vI p4, vI (p0 &&& (3 : Int32)), vI ((1 : Int32) + (p1 &&& (1 : Int32))), vR b1, .unset, .unset, .unset] [(.int p2), (.int ((1 : Int32) + (p1 &&& (1 : Int32)))), (.int (p0 &&& (3 : Int32))), (.int (0 : Int32)), (.ref b1)])) _
    refine st6 _ ?_
    show Steps p.tables e below (T6.setTop (mkF m 73 #[vI p0, vI p1, vI p2, vI p3, vI p4, vI (p0 &&& (3 : Int32)), vI ((1 : Int32) + (p1 &&& (1 : Int32))), vR b1, .unset, .unset, .unset] [])) _
    refine XS.aload X6'.here hx rfl (hb hby at_73) rfl rfl ?_
    refine XS.iconst X6'.here hx rfl (hb hby at_75) ?_
    refine XS.iload X6'.here hx rfl (hb hby at_76) rfl ?_
    refine XS.iload X6'.here hx rfl (hb hby at_78) rfl ?_
    refine XS.iloadN X6'.here hx rfl (hb hby at_80) rfl ?_
    show Steps p.tables e below (T6.setTop (mkF m 81 #[vI p0, vI p1, vI p2, vI p3, vI p4, vI (p0 &&& (3 : Int32)), vI ((1 : Int32) + (p1 &&& (1 : Int32))), vR b1, .unset, .unset, .unset] [(.int p2), (.int ((1 : Int32) + (p1 &&& (1 : Int32)))), (.int (p0 &&& (3 : Int32))), (.int (1 : Int32)), (.ref b1)])) _
    refine st7 _ ?_
    show Steps p.tables e below (T7.setTop (mkF m 84 #[vI p0, vI p1, vI p2, vI p3, vI p4, vI (p0 &&& (3 : Int32)), vI ((1 : Int32) + (p1 &&& (1 : Int32))), vR b1, .unset, .unset, .unset] [])) _
    refine XS.aload X7'.here hx rfl (hb hby at_84) rfl rfl ?_
    refine XS.iconst X7'.here hx rfl (hb hby at_86) ?_
    refine XS.iload X7'.here hx rfl (hb hby at_87) rfl ?_
    refine XS.iload X7'.here hx rfl (hb hby at_89) rfl ?_
    refine XS.iloadN X7'.here hx rfl (hb hby at_91) rfl ?_
    show Steps p.tables e below (T7.setTop (mkF m 92 #[vI p0, vI p1, vI p2, vI p3, vI p4, vI (p0 &&& (3 : Int32)), vI ((1 : Int32) + (p1 &&& (1 : Int32))), vR b1, .unset, .unset, .unset] [(.int p2), (.int ((1 : Int32) + (p1 &&& (1 : Int32)))), (.int (p0 &&& (3 : Int32))), (.int (2 : Int32)), (.ref b1)])) _
    refine st8 _ ?_
    show Steps p.tables e below (T8.setTop (mkF m 95 #[vI p0, vI p1, vI p2, vI p3, vI p4, vI (p0 &&& (3 : Int32)), vI ((1 : Int32) + (p1 &&& (1 : Int32))), vR b1, .unset, .unset, .unset] [])) _
    refine XS.iconst X8'.here hx rfl (hb hby at_95) ?_
    refine XS.iload X8'.here hx rfl (hb hby at_96) rfl ?_
    refine XS.iload X8'.here hx rfl (hb hby at_98) rfl ?_
    refine XS.iloadN X8'.here hx rfl (hb hby at_100) rfl ?_
    show Steps p.tables e below (T8.setTop (mkF m 101 #[vI p0, vI p1, vI p2, vI p3, vI p4, vI (p0 &&& (3 : Int32)), vI ((1 : Int32) + (p1 &&& (1 : Int32))), vR b1, .unset, .unset, .unset] [(.int p2), (.int ((1 : Int32) + (p1 &&& (1 : Int32)))), (.int (p0 &&& (3 : Int32))), (.int (0 : Int32))])) _
    refine st9 _ ?_
    show Steps p.tables e below (T9.setTop (mkF m 104 #[vI p0, vI p1, vI p2, vI p3, vI p4, vI (p0 &&& (3 : Int32)), vI ((1 : Int32) + (p1 &&& (1 : Int32))), vR b1, .unset, .unset, .unset] [(.long (own_bit (0 : Int32) (p0 &&& (3 : Int32)) ((1 : Int32) + (p1 &&& (1 : Int32))) p2))])) _
    refine XS.iconst X9'.here hx rfl (hb hby at_104) ?_
    refine XS.iload X9'.here hx rfl (hb hby at_105) rfl ?_
    refine XS.iload X9'.here hx rfl (hb hby at_107) rfl ?_
    refine XS.iloadN X9'.here hx rfl (hb hby at_109) rfl ?_
    show Steps p.tables e below (T9.setTop (mkF m 110 #[vI p0, vI p1, vI p2, vI p3, vI p4, vI (p0 &&& (3 : Int32)), vI ((1 : Int32) + (p1 &&& (1 : Int32))), vR b1, .unset, .unset, .unset] [(.int p2), (.int ((1 : Int32) + (p1 &&& (1 : Int32)))), (.int (p0 &&& (3 : Int32))), (.int (1 : Int32)), (.long (own_bit (0 : Int32) (p0 &&& (3 : Int32)) ((1 : Int32) + (p1 &&& (1 : Int32))) p2))])) _
    refine st10 _ ?_
    show Steps p.tables e below (T10.setTop (mkF m 113 #[vI p0, vI p1, vI p2, vI p3, vI p4, vI (p0 &&& (3 : Int32)), vI ((1 : Int32) + (p1 &&& (1 : Int32))), vR b1, .unset, .unset, .unset] [(.long (own_bit (1 : Int32) (p0 &&& (3 : Int32)) ((1 : Int32) + (p1 &&& (1 : Int32))) p2)), (.long (own_bit (0 : Int32) (p0 &&& (3 : Int32)) ((1 : Int32) + (p1 &&& (1 : Int32))) p2))])) _
    refine XS.lor X10'.here hx rfl (hb hby at_113) rfl ?_
    refine XS.iconst X10'.here hx rfl (hb hby at_114) ?_
    refine XS.iload X10'.here hx rfl (hb hby at_115) rfl ?_
    refine XS.iload X10'.here hx rfl (hb hby at_117) rfl ?_
    refine XS.iloadN X10'.here hx rfl (hb hby at_119) rfl ?_
    show Steps p.tables e below (T10.setTop (mkF m 120 #[vI p0, vI p1, vI p2, vI p3, vI p4, vI (p0 &&& (3 : Int32)), vI ((1 : Int32) + (p1 &&& (1 : Int32))), vR b1, .unset, .unset, .unset] [(.int p2), (.int ((1 : Int32) + (p1 &&& (1 : Int32)))), (.int (p0 &&& (3 : Int32))), (.int (2 : Int32)), (.long ((own_bit (0 : Int32) (p0 &&& (3 : Int32)) ((1 : Int32) + (p1 &&& (1 : Int32))) p2) ||| (own_bit (1 : Int32) (p0 &&& (3 : Int32)) ((1 : Int32) + (p1 &&& (1 : Int32))) p2)))])) _
    refine st11 _ ?_
    show Steps p.tables e below (T11.setTop (mkF m 123 #[vI p0, vI p1, vI p2, vI p3, vI p4, vI (p0 &&& (3 : Int32)), vI ((1 : Int32) + (p1 &&& (1 : Int32))), vR b1, .unset, .unset, .unset] [(.long (own_bit (2 : Int32) (p0 &&& (3 : Int32)) ((1 : Int32) + (p1 &&& (1 : Int32))) p2)), (.long ((own_bit (0 : Int32) (p0 &&& (3 : Int32)) ((1 : Int32) + (p1 &&& (1 : Int32))) p2) ||| (own_bit (1 : Int32) (p0 &&& (3 : Int32)) ((1 : Int32) + (p1 &&& (1 : Int32))) p2)))])) _
    refine XS.lor X11'.here hx rfl (hb hby at_123) rfl ?_
    refine XS.lstore X11'.here hx rfl (hb hby at_124) rfl (l' := #[vI p0, vI p1, vI p2, vI p3, vI p4, vI (p0 &&& (3 : Int32)), vI ((1 : Int32) + (p1 &&& (1 : Int32))), vR b1, .val (.long (((own_bit (0 : Int32) (p0 &&& (3 : Int32)) ((1 : Int32) + (p1 &&& (1 : Int32))) p2) ||| (own_bit (1 : Int32) (p0 &&& (3 : Int32)) ((1 : Int32) + (p1 &&& (1 : Int32))) p2)) ||| (own_bit (2 : Int32) (p0 &&& (3 : Int32)) ((1 : Int32) + (p1 &&& (1 : Int32))) p2))), .second, .unset]) rfl ?_
    refine XS.aload X11'.here hx rfl (hb hby at_126) rfl rfl ?_
    show Steps p.tables e below (T11.setTop (mkF m 128 #[vI p0, vI p1, vI p2, vI p3, vI p4, vI (p0 &&& (3 : Int32)), vI ((1 : Int32) + (p1 &&& (1 : Int32))), vR b1, .val (.long (((own_bit (0 : Int32) (p0 &&& (3 : Int32)) ((1 : Int32) + (p1 &&& (1 : Int32))) p2) ||| (own_bit (1 : Int32) (p0 &&& (3 : Int32)) ((1 : Int32) + (p1 &&& (1 : Int32))) p2)) ||| (own_bit (2 : Int32) (p0 &&& (3 : Int32)) ((1 : Int32) + (p1 &&& (1 : Int32))) p2))), .second, .unset] [(.ref b1)])) _
    refine st12.trans ?_
    show Steps p.tables e below (T12.setTop (mkF m 131 #[vI p0, vI p1, vI p2, vI p3, vI p4, vI (p0 &&& (3 : Int32)), vI ((1 : Int32) + (p1 &&& (1 : Int32))), vR b1, .val (.long (((own_bit (0 : Int32) (p0 &&& (3 : Int32)) ((1 : Int32) + (p1 &&& (1 : Int32))) p2) ||| (own_bit (1 : Int32) (p0 &&& (3 : Int32)) ((1 : Int32) + (p1 &&& (1 : Int32))) p2)) ||| (own_bit (2 : Int32) (p0 &&& (3 : Int32)) ((1 : Int32) + (p1 &&& (1 : Int32))) p2))), .second, .unset] [(.ref b12_0)])) _
    refine XS.astore X12'.here hx rfl (hb hby at_131) rfl rfl (l' := #[vI p0, vI p1, vI p2, vI p3, vI p4, vI (p0 &&& (3 : Int32)), vI ((1 : Int32) + (p1 &&& (1 : Int32))), vR b1, .val (.long (((own_bit (0 : Int32) (p0 &&& (3 : Int32)) ((1 : Int32) + (p1 &&& (1 : Int32))) p2) ||| (own_bit (1 : Int32) (p0 &&& (3 : Int32)) ((1 : Int32) + (p1 &&& (1 : Int32))) p2)) ||| (own_bit (2 : Int32) (p0 &&& (3 : Int32)) ((1 : Int32) + (p1 &&& (1 : Int32))) p2))), .second, vR b12_0]) rfl ?_
    refine XS.iload X12'.here hx rfl (hb hby at_133) rfl ?_
    refine XS.ifNo X12'.here hx rfl (hb hby at_135) rfl ((if0 _ _).trans (teq hc2).2) ?_
    refine XS.aload X12'.here hx rfl (hb hby at_138) rfl rfl ?_
    show Steps p.tables e below (T12.setTop (mkF m 140 #[vI p0, vI p1, vI p2, vI p3, vI p4, vI (p0 &&& (3 : Int32)), vI ((1 : Int32) + (p1 &&& (1 : Int32))), vR b1, .val (.long (((own_bit (0 : Int32) (p0 &&& (3 : Int32)) ((1 : Int32) + (p1 &&& (1 : Int32))) p2) ||| (own_bit (1 : Int32) (p0 &&& (3 : Int32)) ((1 : Int32) + (p1 &&& (1 : Int32))) p2)) ||| (own_bit (2 : Int32) (p0 &&& (3 : Int32)) ((1 : Int32) + (p1 &&& (1 : Int32))) p2))), .second, vR b12_0] [(.ref b12_0)])) _
    refine X12'.arraylength hx Ar13.1 (State.isArrayOf_alike hZ.alike Ar13.2.1) (g := (mkF m 140 #[vI p0, vI p1, vI p2, vI p3, vI p4, vI (p0 &&& (3 : Int32)), vI ((1 : Int32) + (p1 &&& (1 : Int32))), vR b1, .val (.long (((own_bit (0 : Int32) (p0 &&& (3 : Int32)) ((1 : Int32) + (p1 &&& (1 : Int32))) p2) ||| (own_bit (1 : Int32) (p0 &&& (3 : Int32)) ((1 : Int32) + (p1 &&& (1 : Int32))) p2)) ||| (own_bit (2 : Int32) (p0 &&& (3 : Int32)) ((1 : Int32) + (p1 &&& (1 : Int32))) p2))), .second, vR b12_0] [(.ref b12_0)])) rfl rfl (hb hby at_140) _ ?_
    rw [len_of Sz13 Ng13]
    show Steps p.tables e below (T12.setTop (mkF m 141 #[vI p0, vI p1, vI p2, vI p3, vI p4, vI (p0 &&& (3 : Int32)), vI ((1 : Int32) + (p1 &&& (1 : Int32))), vR b1, .val (.long (((own_bit (0 : Int32) (p0 &&& (3 : Int32)) ((1 : Int32) + (p1 &&& (1 : Int32))) p2) ||| (own_bit (1 : Int32) (p0 &&& (3 : Int32)) ((1 : Int32) + (p1 &&& (1 : Int32))) p2)) ||| (own_bit (2 : Int32) (p0 &&& (3 : Int32)) ((1 : Int32) + (p1 &&& (1 : Int32))) p2))), .second, vR b12_0] [(.int (0 : Int32))])) _
    refine XS.ifNo X12'.here hx rfl (hb hby at_141) rfl ((if0 _ _).trans (teq (by decide : (0 : Int32) = (0 : Int32))).2) ?_
    refine XS.iconst X12'.here hx rfl (hb hby at_144) ?_
    refine XS.goto X12'.here hx rfl (pc0 := 145) (pc' := 149) rfl (hb hby at_145) (by decide) (by decide) ?_
    show Steps p.tables e below (T12.setTop (mkF m 149 #[vI p0, vI p1, vI p2, vI p3, vI p4, vI (p0 &&& (3 : Int32)), vI ((1 : Int32) + (p1 &&& (1 : Int32))), vR b1, .val (.long (((own_bit (0 : Int32) (p0 &&& (3 : Int32)) ((1 : Int32) + (p1 &&& (1 : Int32))) p2) ||| (own_bit (1 : Int32) (p0 &&& (3 : Int32)) ((1 : Int32) + (p1 &&& (1 : Int32))) p2)) ||| (own_bit (2 : Int32) (p0 &&& (3 : Int32)) ((1 : Int32) + (p1 &&& (1 : Int32))) p2))), .second, vR b12_0] [(.int (1 : Int32))])) _
    exact retN X12' hx (t := .boolean) Bd.returns (by simp) (hb hby at_149) hr
  · show Q0a Z p0 p1 p2 p3 p4 h0 n0 _ T12.heap _
    exact ⟨rfl, N12⟩
theorem ef_rm0b (m : MethodId) (p0 : Int32) (p1 : Int32) (p2 : Int32) (p3 : Int32) (p4 : Int32) : entryFrame m #[(.int p0), (.int p1), (.int p2), (.int p3), (.int p4)] maxLocals = mkF m 0 #[vI p0, vI p1, vI p2, vI p3, vI p4, .unset, .unset, .unset, .unset, .unset, .unset] [] := by first | (simp [entryFrame, mkF, argsToLocals, Value.category, maxLocals]; done) | rfl
def Q0b (Z : State) (p0 : Int32) (p1 : Int32) (p2 : Int32) (p3 : Int32) (p4 : Int32) (h0 : Heap) (n0 : Nat) (v : Option Value) (h : Heap) (L : List Loc) : Prop := v = some (.int (1 : Int32)) ∧ Fr n0 L
set_option maxRecDepth 65536 in
set_option maxHeartbeats 40000000 in
theorem rm0b (l : Launch) (Z : State) (az : Array Value) (hw : ∀ d ∈ tables_1, d.before az Z = true) (ws : List Jvm.Cond) (p0 : Int32) (p1 : Int32) (p2 : Int32) (p3 : Int32) (p4 : Int32) (h0 : Heap) (n0 : Nat) (Z0 : n0 ≤ h0.size) (hc0 : ((1 : Int32) + (p1 &&& (1 : Int32))) = (1 : Int32) ∨ ((1 : Int32) + (p1 &&& (1 : Int32))) = (2 : Int32)) (hc1 : own_n3 (p0 &&& (3 : Int32))) (hc2 : ¬ ((p0 &&& (3 : Int32)) = (0 : Int32))) :
    MetFree l x (head1 (Jvm.Cond.code x code maxLocals ret :: ws) room_1) (fun a U => a = #[(.int p0), (.int p1), (.int p2), (.int p3), (.int p4)] ∧ Z.Warmed39 U.vm ∧ U.heap = h0) (fun _ _ _ _ _ => True) (fun _ U o U' => ∃ v L, o = .returned v ∧ Q0b Z p0 p1 p2 p3 p4 h0 n0 v U'.heap L ∧ FrameEnd U o U' L room_1.cells room_1.slots) := by
  refine MetFree.of_bodySF (plainFor_of_name pn_com_example_headlattice_headlattice_learn_CoverageRemainingRowSetPinLaw) hisR ?_
  intro p e s m args below meth c s₁ Bd hml0 hP hK
  obtain ⟨rfl, hZ, hh⟩ := hP
  have hx := Bd.exec
  have hby := Bd.bytes
  have hml : c.maxLocals = 11 := hml0
  have hown : s.vm.findClass cLW = some m.cls := findClass_of_methodNamed Bd.named
  have hnm := (name_of_methodNamed Bd.named Bd.method).1
  have X0 : Stand p l e room_1 s m #[(.int p0), (.int p1), (.int p2), (.int p3), (.int p4)] below meth c s₁ [] 0 0 := Stand.of_body Bd
  have e0 : s₁.heap = h0 := by rw [← hh, Bd.state]; rfl
  have N0 := Fr.nil n0
  have pre0 : ∀ t, Steps p.tables e below (s₁.setTop (mkF m 0 #[vI p0, vI p1, vI p2, vI p3, vI p4, .unset, .unset, .unset, .unset, .unset, .unset] [])) t → Steps p.tables e below (s₁.setTop (entryFrame m #[(.int p0), (.int p1), (.int p2), (.int p3), (.int p4)] maxLocals)) t := fun t k => castTop (ef_rm0b m p0 p1 p2 p3 p4) k
  obtain ⟨T1, h1, X1, e1, E1, A1, D1, -, st1⟩ := newO X0 hx hZ hown (w0 hw) (w1 hw) (w2 hw) e0 (g := (mkF m 12 #[vI p0, vI p1, vI p2, vI p3, vI p4, vI (p0 &&& (3 : Int32)), vI ((1 : Int32) + (p1 &&& (1 : Int32))), .unset, .unset, .unset, .unset] [])) rfl (hb hby at_12) (by decide) (by decide)
  obtain ⟨b1, g1⟩ : ∃ z, z = h0.size := ⟨_, rfl⟩
  rw [← g1] at A1 D1 st1
  have g_b1 : n0 ≤ b1 := Nat.le_trans Z0 (Nat.le_of_eq g1.symm)
  have sz_b1 : h0.size ≤ b1 := Nat.le_trans (Nat.le_refl _) (Nat.le_of_eq g1.symm)
  have Z1 : n0 ≤ h1.size := Nat.le_trans Z0 E1.1
  have K1 : Keep h0 h1 [] := (Keep.refl h0 []).ext E1
  have E_b1 := A1
  have F_labelCount_b1 : Fld Z h1 b1 cCV "labelCount" "I" (.int (0 : Int32)) := D1 (Or.inr (w10 hw)) (ty := .int) (by decide)
  have F_openPairs_b1 : Fld Z h1 b1 cCV "openPairs" "[[I" .null := D1 (Or.inl (w14 hw)) (ty := (.array (.array .int))) (by decide)
  have F_covered_b1 : Fld Z h1 b1 cCV "covered" "[Z" .null := D1 (Or.inl (w17 hw)) (ty := (.array .boolean)) (by decide)
  have F_coveredCounts_b1 : Fld Z h1 b1 cCV "coveredCounts" "[I" .null := D1 (Or.inr (w20 hw)) (ty := (.array .int)) (by decide)
  have F_openCounts_b1 : Fld Z h1 b1 cCV "openCounts" "[I" .null := D1 (Or.inr (w22 hw)) (ty := (.array .int)) (by decide)
  have F_ones_b1 : Fld Z h1 b1 cCV "ones" "[I" .null := D1 (Or.inr (w24 hw)) (ty := (.array .int)) (by decide)
  have F_rowCount_b1 : Fld Z h1 b1 cCV "rowCount" "I" (.int (0 : Int32)) := D1 (Or.inl (w41 hw)) (ty := .int) (by decide)
  have F_pairsShared_b1 : Fld Z h1 b1 cCV "pairsShared" "Z" (.int (0 : Int32)) := D1 (Or.inl (w53 hw)) (ty := .boolean) (by decide)
  have F_remainingCount_b1 : Fld Z h1 b1 cCV "remainingCount" "I" (.int (0 : Int32)) := D1 (Or.inl (w55 hw)) (ty := .int) (by decide)
  obtain ⟨_, _, ⟨T2, L2, k2', n2'⟩, -, X2, ⟨Lc2, hQ2, l2, y2, z2⟩, st2⟩ := X1.specialBack hx (y := (⟨cCV, "<init>", "(I)V"⟩ : MethodName)) rfl hown (mvT hZ (w3 hw)) (mvT hZ (w4 hw)) (mvT hZ (w5 hw)) (by decide) (backOf (W := 1) (rmI l Z az hw [] b1 ((1 : Int32) + (p1 &&& (1 : Int32))) h1 n0 Z1 E_b1 F_labelCount_b1 F_openPairs_b1 F_covered_b1 F_coveredCounts_b1 F_openCounts_b1 F_ones_b1 F_rowCount_b1 F_pairsShared_b1 F_remainingCount_b1 g_b1 hc0) hZ (w5 hw) (w2 hw) (by decide) (by decide)) (g := (mkF m 18 #[vI p0, vI p1, vI p2, vI p3, vI p4, vI (p0 &&& (3 : Int32)), vI ((1 : Int32) + (p1 &&& (1 : Int32))), .unset, .unset, .unset, .unset] [(.int ((1 : Int32) + (p1 &&& (1 : Int32)))), (.ref b1), (.ref b1)])) rfl (by rw [hml]; rfl) (Steps.refl _) (a := b1) (argsL := [(.int ((1 : Int32) + (p1 &&& (1 : Int32))))]) (rest := [(.ref b1)]) (lenOf pd_3 rfl) rfl (by show 2 * 0 + _ ≤ _; exact Nat.le_of_eq rfl) (hb hby at_18) (fun _ _ => ⟨rfl, e1, (by decide : 1 + 5 ≤ _), (by decide : 9 + 26 ≤ _)⟩)
  dsimp only [Pt.U, Pt.locs, Pt.cells, Pt.slots] at X2 l2 y2 z2 st2 hQ2
  subst l2 y2 z2
  obtain ⟨rfl, N2q, kq2, pf2_0, pf2_1⟩ := hQ2
  obtain ⟨Lg2, X2', N2⟩ := own_gen X2 (Fr.app N0 N2q)
  obtain ⟨_, _, ⟨T3, L3, k3', n3'⟩, -, X3, ⟨Lc3, hQ3, l3, y3, z3⟩, st3⟩ := Jvm.LawKit.callS X2' hx (y := (⟨cLW, "addRow", "(Lcom/example/headlattice/headlattice/learn/Coverage;IIIII)V"⟩ : MethodName)) hown (mvT hZ (w25 hw)) (mvT hZ (w26 hw)) (mvT hZ (w27 hw)) (mvT hZ (w28 hw)) (by decide) (backOf (W := 0) (rmAR0 l Z az hw [] b1 (p0 &&& (3 : Int32)) ((1 : Int32) + (p1 &&& (1 : Int32))) p3 p4 T2.heap n0 kq2 pf2_0 pf2_1 hc0 hc1) hZ (w28 hw) (w27 hw) (by decide) (by decide)) (g := (mkF m 33 #[vI p0, vI p1, vI p2, vI p3, vI p4, vI (p0 &&& (3 : Int32)), vI ((1 : Int32) + (p1 &&& (1 : Int32))), vR b1, .unset, .unset, .unset] [(.int p4), (.int p3), (.int ((1 : Int32) + (p1 &&& (1 : Int32)))), (.int (p0 &&& (3 : Int32))), (.int (0 : Int32)), (.ref b1)])) rfl (by rw [hml]; rfl) (argsL := [(.ref b1), (.int (0 : Int32)), (.int (p0 &&& (3 : Int32))), (.int ((1 : Int32) + (p1 &&& (1 : Int32)))), (.int p3), (.int p4)]) (rest := []) (lenOf pd_8 rfl) rfl (by show 2 * 0 + _ ≤ _; exact Nat.le_of_eq rfl) (hb hby at_33) (fun _ _ => ⟨rfl, rfl, (by decide : 6 + 2 ≤ _), (by decide : 35 + 4 ≤ _)⟩)
  dsimp only [Pt.U, Pt.locs, Pt.cells, Pt.slots] at X3 l3 y3 z3 st3 hQ3
  subst l3 y3 z3
  obtain ⟨rfl, N3q, kq3, pf3_0, pf3_1⟩ := hQ3
  obtain ⟨Lg3, X3', N3⟩ := own_gen X3 (Fr.app N2 N3q)
  obtain ⟨_, _, ⟨T4, L4, k4', n4'⟩, -, X4, ⟨Lc4, hQ4, l4, y4, z4⟩, st4⟩ := Jvm.LawKit.callS X3' hx (y := (⟨cLW, "addRow", "(Lcom/example/headlattice/headlattice/learn/Coverage;IIIII)V"⟩ : MethodName)) hown (mvT hZ (w25 hw)) (mvT hZ (w26 hw)) (mvT hZ (w27 hw)) (mvT hZ (w28 hw)) (by decide) (backOf (W := 0) (rmAR1 l Z az hw [] b1 (p0 &&& (3 : Int32)) ((1 : Int32) + (p1 &&& (1 : Int32))) p3 p4 T3.heap n0 kq3 pf3_0 pf3_1 hc0 hc1) hZ (w28 hw) (w27 hw) (by decide) (by decide)) (g := (mkF m 46 #[vI p0, vI p1, vI p2, vI p3, vI p4, vI (p0 &&& (3 : Int32)), vI ((1 : Int32) + (p1 &&& (1 : Int32))), vR b1, .unset, .unset, .unset] [(.int p4), (.int p3), (.int ((1 : Int32) + (p1 &&& (1 : Int32)))), (.int (p0 &&& (3 : Int32))), (.int (1 : Int32)), (.ref b1)])) rfl (by rw [hml]; rfl) (argsL := [(.ref b1), (.int (1 : Int32)), (.int (p0 &&& (3 : Int32))), (.int ((1 : Int32) + (p1 &&& (1 : Int32)))), (.int p3), (.int p4)]) (rest := []) (lenOf pd_8 rfl) rfl (by show 2 * 0 + _ ≤ _; exact Nat.le_of_eq rfl) (hb hby at_46) (fun _ _ => ⟨rfl, rfl, (by decide : 8 + 2 ≤ _), (by decide : 39 + 4 ≤ _)⟩)
  dsimp only [Pt.U, Pt.locs, Pt.cells, Pt.slots] at X4 l4 y4 z4 st4 hQ4
  subst l4 y4 z4
  obtain ⟨rfl, N4q, kq4, pf4_0, pf4_1⟩ := hQ4
  obtain ⟨Lg4, X4', N4⟩ := own_gen X4 (Fr.app N3 N4q)
  obtain ⟨_, _, ⟨T5, L5, k5', n5'⟩, -, X5, ⟨Lc5, hQ5, l5, y5, z5⟩, st5⟩ := Jvm.LawKit.callS X4' hx (y := (⟨cLW, "addRow", "(Lcom/example/headlattice/headlattice/learn/Coverage;IIIII)V"⟩ : MethodName)) hown (mvT hZ (w25 hw)) (mvT hZ (w26 hw)) (mvT hZ (w27 hw)) (mvT hZ (w28 hw)) (by decide) (backOf (W := 0) (rmAR2 l Z az hw [] b1 (p0 &&& (3 : Int32)) ((1 : Int32) + (p1 &&& (1 : Int32))) p3 p4 T4.heap n0 kq4 pf4_0 pf4_1 hc0 hc1) hZ (w28 hw) (w27 hw) (by decide) (by decide)) (g := (mkF m 59 #[vI p0, vI p1, vI p2, vI p3, vI p4, vI (p0 &&& (3 : Int32)), vI ((1 : Int32) + (p1 &&& (1 : Int32))), vR b1, .unset, .unset, .unset] [(.int p4), (.int p3), (.int ((1 : Int32) + (p1 &&& (1 : Int32)))), (.int (p0 &&& (3 : Int32))), (.int (2 : Int32)), (.ref b1)])) rfl (by rw [hml]; rfl) (argsL := [(.ref b1), (.int (2 : Int32)), (.int (p0 &&& (3 : Int32))), (.int ((1 : Int32) + (p1 &&& (1 : Int32)))), (.int p3), (.int p4)]) (rest := []) (lenOf pd_8 rfl) rfl (by show 2 * 0 + _ ≤ _; exact Nat.le_of_eq rfl) (hb hby at_59) (fun _ _ => ⟨rfl, rfl, (by decide : 10 + 2 ≤ _), (by decide : 43 + 4 ≤ _)⟩)
  dsimp only [Pt.U, Pt.locs, Pt.cells, Pt.slots] at X5 l5 y5 z5 st5 hQ5
  subst l5 y5 z5
  obtain ⟨rfl, N5q, kq5, pf5_0, pf5_1⟩ := hQ5
  obtain ⟨Lg5, X5', N5⟩ := own_gen X5 (Fr.app N4 N5q)
  obtain ⟨_, _, ⟨T6, L6, k6', n6'⟩, -, X6, ⟨Lc6, hQ6, l6, y6, z6⟩, st6⟩ := Jvm.LawKit.callS X5' hx (y := (⟨cLW, "doSettle", "(Lcom/example/headlattice/headlattice/learn/Coverage;IIII)V"⟩ : MethodName)) hown (mvT hZ (w29 hw)) (mvT hZ (w30 hw)) (mvT hZ (w27 hw)) (mvT hZ (w31 hw)) (by decide) (backOf (W := 0) (rmDS0 l Z az hw [] b1 (p0 &&& (3 : Int32)) ((1 : Int32) + (p1 &&& (1 : Int32))) p2 T5.heap n0 kq5 pf5_0 pf5_1 hc0 hc1) hZ (w31 hw) (w27 hw) (by decide) (by decide)) (g := (mkF m 70 #[vI p0, vI p1, vI p2, vI p3, vI p4, vI (p0 &&& (3 : Int32)), vI ((1 : Int32) + (p1 &&& (1 : Int32))), vR b1, .unset, .unset, .unset] [(.int p2), (.int ((1 : Int32) + (p1 &&& (1 : Int32)))), (.int (p0 &&& (3 : Int32))), (.int (0 : Int32)), (.ref b1)])) rfl (by rw [hml]; rfl) (argsL := [(.ref b1), (.int (0 : Int32)), (.int (p0 &&& (3 : Int32))), (.int ((1 : Int32) + (p1 &&& (1 : Int32)))), (.int p2)]) (rest := []) (lenOf pd_9 rfl) rfl (by show 2 * 0 + _ ≤ _; exact Nat.le_of_eq rfl) (hb hby at_70) (fun _ _ => ⟨rfl, rfl, (by decide : 12 + 6 ≤ _), (by decide : 47 + 10 ≤ _)⟩)
  dsimp only [Pt.U, Pt.locs, Pt.cells, Pt.slots] at X6 l6 y6 z6 st6 hQ6
  subst l6 y6 z6
  obtain ⟨rfl, N6q, kq6, pf6_0, pf6_1⟩ := hQ6
  obtain ⟨Lg6, X6', N6⟩ := own_gen X6 (Fr.app N5 N6q)
  obtain ⟨_, _, ⟨T7, L7, k7', n7'⟩, -, X7, ⟨Lc7, hQ7, l7, y7, z7⟩, st7⟩ := Jvm.LawKit.callS X6' hx (y := (⟨cLW, "doSettle", "(Lcom/example/headlattice/headlattice/learn/Coverage;IIII)V"⟩ : MethodName)) hown (mvT hZ (w29 hw)) (mvT hZ (w30 hw)) (mvT hZ (w27 hw)) (mvT hZ (w31 hw)) (by decide) (backOf (W := 0) (rmDS1 l Z az hw [] b1 (p0 &&& (3 : Int32)) ((1 : Int32) + (p1 &&& (1 : Int32))) p2 T6.heap n0 kq6 pf6_0 pf6_1 hc0 hc1) hZ (w31 hw) (w27 hw) (by decide) (by decide)) (g := (mkF m 81 #[vI p0, vI p1, vI p2, vI p3, vI p4, vI (p0 &&& (3 : Int32)), vI ((1 : Int32) + (p1 &&& (1 : Int32))), vR b1, .unset, .unset, .unset] [(.int p2), (.int ((1 : Int32) + (p1 &&& (1 : Int32)))), (.int (p0 &&& (3 : Int32))), (.int (1 : Int32)), (.ref b1)])) rfl (by rw [hml]; rfl) (argsL := [(.ref b1), (.int (1 : Int32)), (.int (p0 &&& (3 : Int32))), (.int ((1 : Int32) + (p1 &&& (1 : Int32)))), (.int p2)]) (rest := []) (lenOf pd_9 rfl) rfl (by show 2 * 0 + _ ≤ _; exact Nat.le_of_eq rfl) (hb hby at_81) (fun _ _ => ⟨rfl, rfl, (by decide : 18 + 6 ≤ _), (by decide : 57 + 10 ≤ _)⟩)
  dsimp only [Pt.U, Pt.locs, Pt.cells, Pt.slots] at X7 l7 y7 z7 st7 hQ7
  subst l7 y7 z7
  obtain ⟨rfl, N7q, kq7, pf7_0, pf7_1⟩ := hQ7
  obtain ⟨Lg7, X7', N7⟩ := own_gen X7 (Fr.app N6 N7q)
  obtain ⟨_, _, ⟨T8, L8, k8', n8'⟩, -, X8, ⟨Lc8, hQ8, l8, y8, z8⟩, st8⟩ := Jvm.LawKit.callS X7' hx (y := (⟨cLW, "doSettle", "(Lcom/example/headlattice/headlattice/learn/Coverage;IIII)V"⟩ : MethodName)) hown (mvT hZ (w29 hw)) (mvT hZ (w30 hw)) (mvT hZ (w27 hw)) (mvT hZ (w31 hw)) (by decide) (backOf (W := 0) (rmDS2 l Z az hw [] b1 (p0 &&& (3 : Int32)) ((1 : Int32) + (p1 &&& (1 : Int32))) p2 T7.heap n0 kq7 pf7_0 pf7_1 hc0 hc1) hZ (w31 hw) (w27 hw) (by decide) (by decide)) (g := (mkF m 92 #[vI p0, vI p1, vI p2, vI p3, vI p4, vI (p0 &&& (3 : Int32)), vI ((1 : Int32) + (p1 &&& (1 : Int32))), vR b1, .unset, .unset, .unset] [(.int p2), (.int ((1 : Int32) + (p1 &&& (1 : Int32)))), (.int (p0 &&& (3 : Int32))), (.int (2 : Int32)), (.ref b1)])) rfl (by rw [hml]; rfl) (argsL := [(.ref b1), (.int (2 : Int32)), (.int (p0 &&& (3 : Int32))), (.int ((1 : Int32) + (p1 &&& (1 : Int32)))), (.int p2)]) (rest := []) (lenOf pd_9 rfl) rfl (by show 2 * 0 + _ ≤ _; exact Nat.le_of_eq rfl) (hb hby at_92) (fun _ _ => ⟨rfl, rfl, (by decide : 24 + 6 ≤ _), (by decide : 67 + 10 ≤ _)⟩)
  dsimp only [Pt.U, Pt.locs, Pt.cells, Pt.slots] at X8 l8 y8 z8 st8 hQ8
  subst l8 y8 z8
  obtain ⟨rfl, N8q, kq8, pf8_0, pf8_1⟩ := hQ8
  obtain ⟨Lg8, X8', N8⟩ := own_gen X8 (Fr.app N7 N8q)
  obtain ⟨_, _, ⟨T9, L9, k9', n9'⟩, -, X9, ⟨Lc9, hQ9, l9, y9, z9⟩, st9⟩ := Jvm.LawKit.callS X8' hx (y := (⟨cLW, "bit", "(IIII)J"⟩ : MethodName)) hown (mvT hZ (w32 hw)) (mvT hZ (w33 hw)) (mvT hZ (w27 hw)) (mvT hZ (w34 hw)) (by decide) (backOf (W := 0) (rmBT l Z az hw [] (0 : Int32) (p0 &&& (3 : Int32)) ((1 : Int32) + (p1 &&& (1 : Int32))) p2 T8.heap n0 kq8) hZ (w34 hw) (w27 hw) (by decide) (by decide)) (g := (mkF m 101 #[vI p0, vI p1, vI p2, vI p3, vI p4, vI (p0 &&& (3 : Int32)), vI ((1 : Int32) + (p1 &&& (1 : Int32))), vR b1, .unset, .unset, .unset] [(.int p2), (.int ((1 : Int32) + (p1 &&& (1 : Int32)))), (.int (p0 &&& (3 : Int32))), (.int (0 : Int32))])) rfl (by rw [hml]; rfl) (argsL := [(.int (0 : Int32)), (.int (p0 &&& (3 : Int32))), (.int ((1 : Int32) + (p1 &&& (1 : Int32)))), (.int p2)]) (rest := []) (lenOf pd_10 rfl) rfl (by show 2 * 0 + _ ≤ _; exact Nat.le_of_eq rfl) (hb hby at_101) (fun _ _ => ⟨rfl, rfl, (by decide : 30 + 0 ≤ _), (by decide : 77 + 0 ≤ _)⟩)
  dsimp only [Pt.U, Pt.locs, Pt.cells, Pt.slots] at X9 l9 y9 z9 st9 hQ9
  subst l9 y9 z9
  obtain ⟨rfl, N9q, e9⟩ := hQ9
  obtain ⟨Lg9, X9', N9⟩ := own_gen X9 (Fr.app N8 N9q)
  obtain ⟨_, _, ⟨T10, L10, k10', n10'⟩, -, X10, ⟨Lc10, hQ10, l10, y10, z10⟩, st10⟩ := Jvm.LawKit.callS X9' hx (y := (⟨cLW, "bit", "(IIII)J"⟩ : MethodName)) hown (mvT hZ (w32 hw)) (mvT hZ (w33 hw)) (mvT hZ (w27 hw)) (mvT hZ (w34 hw)) (by decide) (backOf (W := 2) (rmBT l Z az hw [] (1 : Int32) (p0 &&& (3 : Int32)) ((1 : Int32) + (p1 &&& (1 : Int32))) p2 T8.heap n0 kq8) hZ (w34 hw) (w27 hw) (by decide) (by decide)) (g := (mkF m 110 #[vI p0, vI p1, vI p2, vI p3, vI p4, vI (p0 &&& (3 : Int32)), vI ((1 : Int32) + (p1 &&& (1 : Int32))), vR b1, .unset, .unset, .unset] [(.int p2), (.int ((1 : Int32) + (p1 &&& (1 : Int32)))), (.int (p0 &&& (3 : Int32))), (.int (1 : Int32)), (.long (own_bit (0 : Int32) (p0 &&& (3 : Int32)) ((1 : Int32) + (p1 &&& (1 : Int32))) p2))])) rfl (by rw [hml]; rfl) (argsL := [(.int (1 : Int32)), (.int (p0 &&& (3 : Int32))), (.int ((1 : Int32) + (p1 &&& (1 : Int32)))), (.int p2)]) (rest := [(.long (own_bit (0 : Int32) (p0 &&& (3 : Int32)) ((1 : Int32) + (p1 &&& (1 : Int32))) p2))]) (lenOf pd_10 rfl) rfl (by show 2 * 0 + _ ≤ _; exact Nat.le_of_eq rfl) (hb hby at_110) (fun _ _ => ⟨rfl, e9, (by decide : 30 + 0 ≤ _), (by decide : 77 + 0 ≤ _)⟩)
  dsimp only [Pt.U, Pt.locs, Pt.cells, Pt.slots] at X10 l10 y10 z10 st10 hQ10
  subst l10 y10 z10
  obtain ⟨rfl, N10q, e10⟩ := hQ10
  obtain ⟨Lg10, X10', N10⟩ := own_gen X10 (Fr.app N9 N10q)
  obtain ⟨_, _, ⟨T11, L11, k11', n11'⟩, -, X11, ⟨Lc11, hQ11, l11, y11, z11⟩, st11⟩ := Jvm.LawKit.callS X10' hx (y := (⟨cLW, "bit", "(IIII)J"⟩ : MethodName)) hown (mvT hZ (w32 hw)) (mvT hZ (w33 hw)) (mvT hZ (w27 hw)) (mvT hZ (w34 hw)) (by decide) (backOf (W := 2) (rmBT l Z az hw [] (2 : Int32) (p0 &&& (3 : Int32)) ((1 : Int32) + (p1 &&& (1 : Int32))) p2 T8.heap n0 kq8) hZ (w34 hw) (w27 hw) (by decide) (by decide)) (g := (mkF m 120 #[vI p0, vI p1, vI p2, vI p3, vI p4, vI (p0 &&& (3 : Int32)), vI ((1 : Int32) + (p1 &&& (1 : Int32))), vR b1, .unset, .unset, .unset] [(.int p2), (.int ((1 : Int32) + (p1 &&& (1 : Int32)))), (.int (p0 &&& (3 : Int32))), (.int (2 : Int32)), (.long ((own_bit (0 : Int32) (p0 &&& (3 : Int32)) ((1 : Int32) + (p1 &&& (1 : Int32))) p2) ||| (own_bit (1 : Int32) (p0 &&& (3 : Int32)) ((1 : Int32) + (p1 &&& (1 : Int32))) p2)))])) rfl (by rw [hml]; rfl) (argsL := [(.int (2 : Int32)), (.int (p0 &&& (3 : Int32))), (.int ((1 : Int32) + (p1 &&& (1 : Int32)))), (.int p2)]) (rest := [(.long ((own_bit (0 : Int32) (p0 &&& (3 : Int32)) ((1 : Int32) + (p1 &&& (1 : Int32))) p2) ||| (own_bit (1 : Int32) (p0 &&& (3 : Int32)) ((1 : Int32) + (p1 &&& (1 : Int32))) p2)))]) (lenOf pd_10 rfl) rfl (by show 2 * 0 + _ ≤ _; exact Nat.le_of_eq rfl) (hb hby at_120) (fun _ _ => ⟨rfl, e10, (by decide : 30 + 0 ≤ _), (by decide : 77 + 0 ≤ _)⟩)
  dsimp only [Pt.U, Pt.locs, Pt.cells, Pt.slots] at X11 l11 y11 z11 st11 hQ11
  subst l11 y11 z11
  obtain ⟨rfl, N11q, e11⟩ := hQ11
  obtain ⟨Lg11, X11', N11⟩ := own_gen X11 (Fr.app N10 N11q)
  obtain ⟨cq12, kq12, q12a, q12b, q12c⟩ := isOf hZ e11 pf8_0
  obtain ⟨_, _, ⟨T12, L12, k12', n12'⟩, -, X12, ⟨Lc12, hQ12, l12, y12, z12⟩, st12⟩ := X11'.virtualBack hx (y := (⟨cCV, "remainingRowSet", "()[J"⟩ : MethodName)) (z := (⟨cCV, "remainingRowSet", "()[J"⟩ : MethodName)) hown (mvT hZ (w35 hw)) (mvT hZ (w36 hw)) (notFace_of_selects (args := #[]) (mvT hZ (w38 hw))) (mvT hZ (w38 hw)) (mvT hZ (w37 hw)) (by decide) (backOf (W := 0) (rmRS1 l Z az hw [] b1 ((1 : Int32) + (p1 &&& (1 : Int32))) (p0 &&& (3 : Int32)) (own_sts ((1 : Int32) + (p1 &&& (1 : Int32))) p2 3) T8.heap n0 kq8 pf8_0 pf8_1 hc1 hc2) hZ (w39 hw) (w2 hw) (by decide) (by decide)) q12a q12c (g := (mkF m 128 #[vI p0, vI p1, vI p2, vI p3, vI p4, vI (p0 &&& (3 : Int32)), vI ((1 : Int32) + (p1 &&& (1 : Int32))), vR b1, .val (.long (((own_bit (0 : Int32) (p0 &&& (3 : Int32)) ((1 : Int32) + (p1 &&& (1 : Int32))) p2) ||| (own_bit (1 : Int32) (p0 &&& (3 : Int32)) ((1 : Int32) + (p1 &&& (1 : Int32))) p2)) ||| (own_bit (2 : Int32) (p0 &&& (3 : Int32)) ((1 : Int32) + (p1 &&& (1 : Int32))) p2))), .second, .unset] [(.ref b1)])) rfl (by rw [hml]; rfl) (Steps.refl _) (argsL := []) (rest := []) (lenOf pd_11 rfl) rfl (by show 2 * 0 + _ ≤ _; exact Nat.le_of_eq rfl) (hb hby at_128) (fun _ _ => ⟨rfl, e11, (by decide : 30 + 1 ≤ _), (by decide : 77 + 1 ≤ _)⟩)
  dsimp only [Pt.U, Pt.locs, Pt.cells, Pt.slots] at X12 l12 y12 z12 st12 hQ12
  subst l12 y12 z12
  obtain ⟨b12_0, kk12_0, rfl, N12q, s12_0, kq12, pf12_0⟩ := hQ12
  obtain ⟨Lg12, X12', N12⟩ := own_gen X12 (Fr.app N11 N12q)
  have g_b12_0 : n0 ≤ b12_0 := Nat.le_trans kq8 s12_0
  have Z12 : n0 ≤ T12.heap.size := Nat.le_trans kq8 kq12.1
  obtain ⟨cl13, Ar13, qk13, Sz13, Ng13, Hs13, Gf13⟩ := id pf12_0
  have hin14 : ¬ ((0 : Int32) < 0 ∨ cl13.slots.size ≤ ((0 : Int32)).toNatClampNeg) := inb_of Sz13 ⟨by decide, by decide⟩
  have hat15 : cl13.slots[((0 : Int32)).toNatClampNeg]? = some (.long (own_set (own_sts ((1 : Int32) + (p1 &&& (1 : Int32))) p2 3) (p0 &&& (3 : Int32)))) := Hs13.at hin14 rfl
  have hpv16 : (lcmpW (own_set (own_sts ((1 : Int32) + (p1 &&& (1 : Int32))) p2 3) (p0 &&& (3 : Int32))) (((own_bit (0 : Int32) (p0 &&& (3 : Int32)) ((1 : Int32) + (p1 &&& (1 : Int32))) p2) ||| (own_bit (1 : Int32) (p0 &&& (3 : Int32)) ((1 : Int32) + (p1 &&& (1 : Int32))) p2)) ||| (own_bit (2 : Int32) (p0 &&& (3 : Int32)) ((1 : Int32) + (p1 &&& (1 : Int32))) p2))) = (0 : Int32) := (lw_eq _ _).mpr (own_pure p2 ((1 : Int32) + (p1 &&& (1 : Int32))) (p0 &&& (3 : Int32)) (own_lc p1))
  obtain ⟨fs, hr, hrun, hended, hW, hsame⟩ := X12'.leave (v := some (.int (1 : Int32))) (fun h => by rw [Bd.returns] at h; cases h)
  refine ⟨_, _, pre0 _ ?_, hrun, hended, _, _, rfl, ?_, ⟨_, rfl⟩, hW, hsame.mono (by decide) (by decide)⟩
  · show Steps p.tables e below (s₁.setTop (mkF m 0 #[vI p0, vI p1, vI p2, vI p3, vI p4, .unset, .unset, .unset, .unset, .unset, .unset] [])) _
    refine XS.iloadN X0.here hx rfl (hb hby at_0) rfl ?_
    refine XS.iconst X0.here hx rfl (hb hby at_1) ?_
    refine XS.iand X0.here hx rfl (hb hby at_2) rfl ?_
    refine XS.istore X0.here hx rfl (hb hby at_3) rfl (l' := #[vI p0, vI p1, vI p2, vI p3, vI p4, vI (p0 &&& (3 : Int32)), .unset, .unset, .unset, .unset, .unset]) rfl ?_
    refine XS.iconst X0.here hx rfl (hb hby at_5) ?_
    refine XS.iloadN X0.here hx rfl (hb hby at_6) rfl ?_
    refine XS.iconst X0.here hx rfl (hb hby at_7) ?_
    refine XS.iand X0.here hx rfl (hb hby at_8) rfl ?_
    refine XS.iadd X0.here hx rfl (hb hby at_9) rfl ?_
    refine XS.istore X0.here hx rfl (hb hby at_10) rfl (l' := #[vI p0, vI p1, vI p2, vI p3, vI p4, vI (p0 &&& (3 : Int32)), vI ((1 : Int32) + (p1 &&& (1 : Int32))), .unset, .unset, .unset, .unset]) rfl ?_
    show Steps p.tables e below (s₁.setTop (mkF m 12 #[vI p0, vI p1, vI p2, vI p3, vI p4, vI (p0 &&& (3 : Int32)), vI ((1 : Int32) + (p1 &&& (1 : Int32))), .unset, .unset, .unset, .unset] [])) _
    refine st1 _ ?_
    show Steps p.tables e below (T1.setTop (mkF m 15 #[vI p0, vI p1, vI p2, vI p3, vI p4, vI (p0 &&& (3 : Int32)), vI ((1 : Int32) + (p1 &&& (1 : Int32))), .unset, .unset, .unset, .unset] [(.ref b1)])) _
    refine XS.dup X1.here hx rfl (hb hby at_15) rfl rfl ?_
    refine XS.iload X1.here hx rfl (hb hby at_16) rfl ?_
    show Steps p.tables e below (T1.setTop (mkF m 18 #[vI p0, vI p1, vI p2, vI p3, vI p4, vI (p0 &&& (3 : Int32)), vI ((1 : Int32) + (p1 &&& (1 : Int32))), .unset, .unset, .unset, .unset] [(.int ((1 : Int32) + (p1 &&& (1 : Int32)))), (.ref b1), (.ref b1)])) _
    refine st2.trans ?_
    show Steps p.tables e below (T2.setTop (mkF m 21 #[vI p0, vI p1, vI p2, vI p3, vI p4, vI (p0 &&& (3 : Int32)), vI ((1 : Int32) + (p1 &&& (1 : Int32))), .unset, .unset, .unset, .unset] [(.ref b1)])) _
    refine XS.astore X2'.here hx rfl (hb hby at_21) rfl rfl (l' := #[vI p0, vI p1, vI p2, vI p3, vI p4, vI (p0 &&& (3 : Int32)), vI ((1 : Int32) + (p1 &&& (1 : Int32))), vR b1, .unset, .unset, .unset]) rfl ?_
    refine XS.aload X2'.here hx rfl (hb hby at_23) rfl rfl ?_
    refine XS.iconst X2'.here hx rfl (hb hby at_25) ?_
    refine XS.iload X2'.here hx rfl (hb hby at_26) rfl ?_
    refine XS.iload X2'.here hx rfl (hb hby at_28) rfl ?_
    refine XS.iloadN X2'.here hx rfl (hb hby at_30) rfl ?_
    refine XS.iload X2'.here hx rfl (hb hby at_31) rfl ?_
    show Steps p.tables e below (T2.setTop (mkF m 33 #[vI p0, vI p1, vI p2, vI p3, vI p4, vI (p0 &&& (3 : Int32)), vI ((1 : Int32) + (p1 &&& (1 : Int32))), vR b1, .unset, .unset, .unset] [(.int p4), (.int p3), (.int ((1 : Int32) + (p1 &&& (1 : Int32)))), (.int (p0 &&& (3 : Int32))), (.int (0 : Int32)), (.ref b1)])) _
    refine st3 _ ?_
    show Steps p.tables e below (T3.setTop (mkF m 36 #[vI p0, vI p1, vI p2, vI p3, vI p4, vI (p0 &&& (3 : Int32)), vI ((1 : Int32) + (p1 &&& (1 : Int32))), vR b1, .unset, .unset, .unset] [])) _
    refine XS.aload X3'.here hx rfl (hb hby at_36) rfl rfl ?_
    refine XS.iconst X3'.here hx rfl (hb hby at_38) ?_
    refine XS.iload X3'.here hx rfl (hb hby at_39) rfl ?_
    refine XS.iload X3'.here hx rfl (hb hby at_41) rfl ?_
    refine XS.iloadN X3'.here hx rfl (hb hby at_43) rfl ?_
    refine XS.iload X3'.here hx rfl (hb hby at_44) rfl ?_
    show Steps p.tables e below (T3.setTop (mkF m 46 #[vI p0, vI p1, vI p2, vI p3, vI p4, vI (p0 &&& (3 : Int32)), vI ((1 : Int32) + (p1 &&& (1 : Int32))), vR b1, .unset, .unset, .unset] [(.int p4), (.int p3), (.int ((1 : Int32) + (p1 &&& (1 : Int32)))), (.int (p0 &&& (3 : Int32))), (.int (1 : Int32)), (.ref b1)])) _
    refine st4 _ ?_
    show Steps p.tables e below (T4.setTop (mkF m 49 #[vI p0, vI p1, vI p2, vI p3, vI p4, vI (p0 &&& (3 : Int32)), vI ((1 : Int32) + (p1 &&& (1 : Int32))), vR b1, .unset, .unset, .unset] [])) _
    refine XS.aload X4'.here hx rfl (hb hby at_49) rfl rfl ?_
    refine XS.iconst X4'.here hx rfl (hb hby at_51) ?_
    refine XS.iload X4'.here hx rfl (hb hby at_52) rfl ?_
    refine XS.iload X4'.here hx rfl (hb hby at_54) rfl ?_
    refine XS.iloadN X4'.here hx rfl (hb hby at_56) rfl ?_
    refine XS.iload X4'.here hx rfl (hb hby at_57) rfl ?_
    show Steps p.tables e below (T4.setTop (mkF m 59 #[vI p0, vI p1, vI p2, vI p3, vI p4, vI (p0 &&& (3 : Int32)), vI ((1 : Int32) + (p1 &&& (1 : Int32))), vR b1, .unset, .unset, .unset] [(.int p4), (.int p3), (.int ((1 : Int32) + (p1 &&& (1 : Int32)))), (.int (p0 &&& (3 : Int32))), (.int (2 : Int32)), (.ref b1)])) _
    refine st5 _ ?_
    show Steps p.tables e below (T5.setTop (mkF m 62 #[vI p0, vI p1, vI p2, vI p3, vI p4, vI (p0 &&& (3 : Int32)), vI ((1 : Int32) + (p1 &&& (1 : Int32))), vR b1, .unset, .unset, .unset] [])) _
    refine XS.aload X5'.here hx rfl (hb hby at_62) rfl rfl ?_
    refine XS.iconst X5'.here hx rfl (hb hby at_64) ?_
    refine XS.iload X5'.here hx rfl (hb hby at_65) rfl ?_
    refine XS.iload X5'.here hx rfl (hb hby at_67) rfl ?_
    refine XS.iloadN X5'.here hx rfl (hb hby at_69) rfl ?_
    show Steps p.tables e below (T5.setTop (mkF m 70 #[vI p0, vI p1, vI p2, vI p3, vI p4, vI (p0 &&& (3 : Int32)), vI ((1 : Int32) + (p1 &&& (1 : Int32))), vR b1, .unset, .unset, .unset] [(.int p2), (.int ((1 : Int32) + (p1 &&& (1 : Int32)))), (.int (p0 &&& (3 : Int32))), (.int (0 : Int32)), (.ref b1)])) _
    refine st6 _ ?_
    show Steps p.tables e below (T6.setTop (mkF m 73 #[vI p0, vI p1, vI p2, vI p3, vI p4, vI (p0 &&& (3 : Int32)), vI ((1 : Int32) + (p1 &&& (1 : Int32))), vR b1, .unset, .unset, .unset] [])) _
    refine XS.aload X6'.here hx rfl (hb hby at_73) rfl rfl ?_
    refine XS.iconst X6'.here hx rfl (hb hby at_75) ?_
    refine XS.iload X6'.here hx rfl (hb hby at_76) rfl ?_
    refine XS.iload X6'.here hx rfl (hb hby at_78) rfl ?_
    refine XS.iloadN X6'.here hx rfl (hb hby at_80) rfl ?_
    show Steps p.tables e below (T6.setTop (mkF m 81 #[vI p0, vI p1, vI p2, vI p3, vI p4, vI (p0 &&& (3 : Int32)), vI ((1 : Int32) + (p1 &&& (1 : Int32))), vR b1, .unset, .unset, .unset] [(.int p2), (.int ((1 : Int32) + (p1 &&& (1 : Int32)))), (.int (p0 &&& (3 : Int32))), (.int (1 : Int32)), (.ref b1)])) _
    refine st7 _ ?_
    show Steps p.tables e below (T7.setTop (mkF m 84 #[vI p0, vI p1, vI p2, vI p3, vI p4, vI (p0 &&& (3 : Int32)), vI ((1 : Int32) + (p1 &&& (1 : Int32))), vR b1, .unset, .unset, .unset] [])) _
    refine XS.aload X7'.here hx rfl (hb hby at_84) rfl rfl ?_
    refine XS.iconst X7'.here hx rfl (hb hby at_86) ?_
    refine XS.iload X7'.here hx rfl (hb hby at_87) rfl ?_
    refine XS.iload X7'.here hx rfl (hb hby at_89) rfl ?_
    refine XS.iloadN X7'.here hx rfl (hb hby at_91) rfl ?_
    show Steps p.tables e below (T7.setTop (mkF m 92 #[vI p0, vI p1, vI p2, vI p3, vI p4, vI (p0 &&& (3 : Int32)), vI ((1 : Int32) + (p1 &&& (1 : Int32))), vR b1, .unset, .unset, .unset] [(.int p2), (.int ((1 : Int32) + (p1 &&& (1 : Int32)))), (.int (p0 &&& (3 : Int32))), (.int (2 : Int32)), (.ref b1)])) _
    refine st8 _ ?_
    show Steps p.tables e below (T8.setTop (mkF m 95 #[vI p0, vI p1, vI p2, vI p3, vI p4, vI (p0 &&& (3 : Int32)), vI ((1 : Int32) + (p1 &&& (1 : Int32))), vR b1, .unset, .unset, .unset] [])) _
    refine XS.iconst X8'.here hx rfl (hb hby at_95) ?_
    refine XS.iload X8'.here hx rfl (hb hby at_96) rfl ?_
    refine XS.iload X8'.here hx rfl (hb hby at_98) rfl ?_
    refine XS.iloadN X8'.here hx rfl (hb hby at_100) rfl ?_
    show Steps p.tables e below (T8.setTop (mkF m 101 #[vI p0, vI p1, vI p2, vI p3, vI p4, vI (p0 &&& (3 : Int32)), vI ((1 : Int32) + (p1 &&& (1 : Int32))), vR b1, .unset, .unset, .unset] [(.int p2), (.int ((1 : Int32) + (p1 &&& (1 : Int32)))), (.int (p0 &&& (3 : Int32))), (.int (0 : Int32))])) _
    refine st9 _ ?_
    show Steps p.tables e below (T9.setTop (mkF m 104 #[vI p0, vI p1, vI p2, vI p3, vI p4, vI (p0 &&& (3 : Int32)), vI ((1 : Int32) + (p1 &&& (1 : Int32))), vR b1, .unset, .unset, .unset] [(.long (own_bit (0 : Int32) (p0 &&& (3 : Int32)) ((1 : Int32) + (p1 &&& (1 : Int32))) p2))])) _
    refine XS.iconst X9'.here hx rfl (hb hby at_104) ?_
    refine XS.iload X9'.here hx rfl (hb hby at_105) rfl ?_
    refine XS.iload X9'.here hx rfl (hb hby at_107) rfl ?_
    refine XS.iloadN X9'.here hx rfl (hb hby at_109) rfl ?_
    show Steps p.tables e below (T9.setTop (mkF m 110 #[vI p0, vI p1, vI p2, vI p3, vI p4, vI (p0 &&& (3 : Int32)), vI ((1 : Int32) + (p1 &&& (1 : Int32))), vR b1, .unset, .unset, .unset] [(.int p2), (.int ((1 : Int32) + (p1 &&& (1 : Int32)))), (.int (p0 &&& (3 : Int32))), (.int (1 : Int32)), (.long (own_bit (0 : Int32) (p0 &&& (3 : Int32)) ((1 : Int32) + (p1 &&& (1 : Int32))) p2))])) _
    refine st10 _ ?_
    show Steps p.tables e below (T10.setTop (mkF m 113 #[vI p0, vI p1, vI p2, vI p3, vI p4, vI (p0 &&& (3 : Int32)), vI ((1 : Int32) + (p1 &&& (1 : Int32))), vR b1, .unset, .unset, .unset] [(.long (own_bit (1 : Int32) (p0 &&& (3 : Int32)) ((1 : Int32) + (p1 &&& (1 : Int32))) p2)), (.long (own_bit (0 : Int32) (p0 &&& (3 : Int32)) ((1 : Int32) + (p1 &&& (1 : Int32))) p2))])) _
    refine XS.lor X10'.here hx rfl (hb hby at_113) rfl ?_
    refine XS.iconst X10'.here hx rfl (hb hby at_114) ?_
    refine XS.iload X10'.here hx rfl (hb hby at_115) rfl ?_
    refine XS.iload X10'.here hx rfl (hb hby at_117) rfl ?_
    refine XS.iloadN X10'.here hx rfl (hb hby at_119) rfl ?_
    show Steps p.tables e below (T10.setTop (mkF m 120 #[vI p0, vI p1, vI p2, vI p3, vI p4, vI (p0 &&& (3 : Int32)), vI ((1 : Int32) + (p1 &&& (1 : Int32))), vR b1, .unset, .unset, .unset] [(.int p2), (.int ((1 : Int32) + (p1 &&& (1 : Int32)))), (.int (p0 &&& (3 : Int32))), (.int (2 : Int32)), (.long ((own_bit (0 : Int32) (p0 &&& (3 : Int32)) ((1 : Int32) + (p1 &&& (1 : Int32))) p2) ||| (own_bit (1 : Int32) (p0 &&& (3 : Int32)) ((1 : Int32) + (p1 &&& (1 : Int32))) p2)))])) _
    refine st11 _ ?_
    show Steps p.tables e below (T11.setTop (mkF m 123 #[vI p0, vI p1, vI p2, vI p3, vI p4, vI (p0 &&& (3 : Int32)), vI ((1 : Int32) + (p1 &&& (1 : Int32))), vR b1, .unset, .unset, .unset] [(.long (own_bit (2 : Int32) (p0 &&& (3 : Int32)) ((1 : Int32) + (p1 &&& (1 : Int32))) p2)), (.long ((own_bit (0 : Int32) (p0 &&& (3 : Int32)) ((1 : Int32) + (p1 &&& (1 : Int32))) p2) ||| (own_bit (1 : Int32) (p0 &&& (3 : Int32)) ((1 : Int32) + (p1 &&& (1 : Int32))) p2)))])) _
    refine XS.lor X11'.here hx rfl (hb hby at_123) rfl ?_
    refine XS.lstore X11'.here hx rfl (hb hby at_124) rfl (l' := #[vI p0, vI p1, vI p2, vI p3, vI p4, vI (p0 &&& (3 : Int32)), vI ((1 : Int32) + (p1 &&& (1 : Int32))), vR b1, .val (.long (((own_bit (0 : Int32) (p0 &&& (3 : Int32)) ((1 : Int32) + (p1 &&& (1 : Int32))) p2) ||| (own_bit (1 : Int32) (p0 &&& (3 : Int32)) ((1 : Int32) + (p1 &&& (1 : Int32))) p2)) ||| (own_bit (2 : Int32) (p0 &&& (3 : Int32)) ((1 : Int32) + (p1 &&& (1 : Int32))) p2))), .second, .unset]) rfl ?_
    refine XS.aload X11'.here hx rfl (hb hby at_126) rfl rfl ?_
    show Steps p.tables e below (T11.setTop (mkF m 128 #[vI p0, vI p1, vI p2, vI p3, vI p4, vI (p0 &&& (3 : Int32)), vI ((1 : Int32) + (p1 &&& (1 : Int32))), vR b1, .val (.long (((own_bit (0 : Int32) (p0 &&& (3 : Int32)) ((1 : Int32) + (p1 &&& (1 : Int32))) p2) ||| (own_bit (1 : Int32) (p0 &&& (3 : Int32)) ((1 : Int32) + (p1 &&& (1 : Int32))) p2)) ||| (own_bit (2 : Int32) (p0 &&& (3 : Int32)) ((1 : Int32) + (p1 &&& (1 : Int32))) p2))), .second, .unset] [(.ref b1)])) _
    refine st12.trans ?_
    show Steps p.tables e below (T12.setTop (mkF m 131 #[vI p0, vI p1, vI p2, vI p3, vI p4, vI (p0 &&& (3 : Int32)), vI ((1 : Int32) + (p1 &&& (1 : Int32))), vR b1, .val (.long (((own_bit (0 : Int32) (p0 &&& (3 : Int32)) ((1 : Int32) + (p1 &&& (1 : Int32))) p2) ||| (own_bit (1 : Int32) (p0 &&& (3 : Int32)) ((1 : Int32) + (p1 &&& (1 : Int32))) p2)) ||| (own_bit (2 : Int32) (p0 &&& (3 : Int32)) ((1 : Int32) + (p1 &&& (1 : Int32))) p2))), .second, .unset] [(.ref b12_0)])) _
    refine XS.astore X12'.here hx rfl (hb hby at_131) rfl rfl (l' := #[vI p0, vI p1, vI p2, vI p3, vI p4, vI (p0 &&& (3 : Int32)), vI ((1 : Int32) + (p1 &&& (1 : Int32))), vR b1, .val (.long (((own_bit (0 : Int32) (p0 &&& (3 : Int32)) ((1 : Int32) + (p1 &&& (1 : Int32))) p2) ||| (own_bit (1 : Int32) (p0 &&& (3 : Int32)) ((1 : Int32) + (p1 &&& (1 : Int32))) p2)) ||| (own_bit (2 : Int32) (p0 &&& (3 : Int32)) ((1 : Int32) + (p1 &&& (1 : Int32))) p2))), .second, vR b12_0]) rfl ?_
    refine XS.iload X12'.here hx rfl (hb hby at_133) rfl ?_
    refine XS.ifYes X12'.here hx rfl (pc0 := 135) (pc' := 150) rfl (hb hby at_135) rfl ((if0 _ _).trans (feq hc2).2) (by decide) (by decide) ?_
    refine XS.aload X12'.here hx rfl (hb hby at_150) rfl rfl ?_
    show Steps p.tables e below (T12.setTop (mkF m 152 #[vI p0, vI p1, vI p2, vI p3, vI p4, vI (p0 &&& (3 : Int32)), vI ((1 : Int32) + (p1 &&& (1 : Int32))), vR b1, .val (.long (((own_bit (0 : Int32) (p0 &&& (3 : Int32)) ((1 : Int32) + (p1 &&& (1 : Int32))) p2) ||| (own_bit (1 : Int32) (p0 &&& (3 : Int32)) ((1 : Int32) + (p1 &&& (1 : Int32))) p2)) ||| (own_bit (2 : Int32) (p0 &&& (3 : Int32)) ((1 : Int32) + (p1 &&& (1 : Int32))) p2))), .second, vR b12_0] [(.ref b12_0)])) _
    refine X12'.arraylength hx Ar13.1 (State.isArrayOf_alike hZ.alike Ar13.2.1) (g := (mkF m 152 #[vI p0, vI p1, vI p2, vI p3, vI p4, vI (p0 &&& (3 : Int32)), vI ((1 : Int32) + (p1 &&& (1 : Int32))), vR b1, .val (.long (((own_bit (0 : Int32) (p0 &&& (3 : Int32)) ((1 : Int32) + (p1 &&& (1 : Int32))) p2) ||| (own_bit (1 : Int32) (p0 &&& (3 : Int32)) ((1 : Int32) + (p1 &&& (1 : Int32))) p2)) ||| (own_bit (2 : Int32) (p0 &&& (3 : Int32)) ((1 : Int32) + (p1 &&& (1 : Int32))) p2))), .second, vR b12_0] [(.ref b12_0)])) rfl rfl (hb hby at_152) _ ?_
    rw [len_of Sz13 Ng13]
    show Steps p.tables e below (T12.setTop (mkF m 153 #[vI p0, vI p1, vI p2, vI p3, vI p4, vI (p0 &&& (3 : Int32)), vI ((1 : Int32) + (p1 &&& (1 : Int32))), vR b1, .val (.long (((own_bit (0 : Int32) (p0 &&& (3 : Int32)) ((1 : Int32) + (p1 &&& (1 : Int32))) p2) ||| (own_bit (1 : Int32) (p0 &&& (3 : Int32)) ((1 : Int32) + (p1 &&& (1 : Int32))) p2)) ||| (own_bit (2 : Int32) (p0 &&& (3 : Int32)) ((1 : Int32) + (p1 &&& (1 : Int32))) p2))), .second, vR b12_0] [(.int (1 : Int32))])) _
    refine XS.iconst X12'.here hx rfl (hb hby at_153) ?_
    refine XS.icmpNo X12'.here hx rfl (hb hby at_154) rfl (teq (by decide : (1 : Int32) = (1 : Int32))).2 ?_
    refine XS.aload X12'.here hx rfl (hb hby at_157) rfl rfl ?_
    refine XS.iconst X12'.here hx rfl (hb hby at_159) ?_
    show Steps p.tables e below (T12.setTop (mkF m 160 #[vI p0, vI p1, vI p2, vI p3, vI p4, vI (p0 &&& (3 : Int32)), vI ((1 : Int32) + (p1 &&& (1 : Int32))), vR b1, .val (.long (((own_bit (0 : Int32) (p0 &&& (3 : Int32)) ((1 : Int32) + (p1 &&& (1 : Int32))) p2) ||| (own_bit (1 : Int32) (p0 &&& (3 : Int32)) ((1 : Int32) + (p1 &&& (1 : Int32))) p2)) ||| (own_bit (2 : Int32) (p0 &&& (3 : Int32)) ((1 : Int32) + (p1 &&& (1 : Int32))) p2))), .second, vR b12_0] [(.int (0 : Int32)), (.ref b12_0)])) _
    refine X12'.laload hx (j := (0 : Int32)) (v := (.long (own_set (own_sts ((1 : Int32) + (p1 &&& (1 : Int32))) p2 3) (p0 &&& (3 : Int32))))) Ar13.1 (State.isArrayOf_alike hZ.alike Ar13.2.1) Ar13.2.2 hin14 hat15 (g := (mkF m 160 #[vI p0, vI p1, vI p2, vI p3, vI p4, vI (p0 &&& (3 : Int32)), vI ((1 : Int32) + (p1 &&& (1 : Int32))), vR b1, .val (.long (((own_bit (0 : Int32) (p0 &&& (3 : Int32)) ((1 : Int32) + (p1 &&& (1 : Int32))) p2) ||| (own_bit (1 : Int32) (p0 &&& (3 : Int32)) ((1 : Int32) + (p1 &&& (1 : Int32))) p2)) ||| (own_bit (2 : Int32) (p0 &&& (3 : Int32)) ((1 : Int32) + (p1 &&& (1 : Int32))) p2))), .second, vR b12_0] [(.int (0 : Int32)), (.ref b12_0)])) rfl rfl (hb hby at_160) _ ?_
    show Steps p.tables e below (T12.setTop (mkF m 161 #[vI p0, vI p1, vI p2, vI p3, vI p4, vI (p0 &&& (3 : Int32)), vI ((1 : Int32) + (p1 &&& (1 : Int32))), vR b1, .val (.long (((own_bit (0 : Int32) (p0 &&& (3 : Int32)) ((1 : Int32) + (p1 &&& (1 : Int32))) p2) ||| (own_bit (1 : Int32) (p0 &&& (3 : Int32)) ((1 : Int32) + (p1 &&& (1 : Int32))) p2)) ||| (own_bit (2 : Int32) (p0 &&& (3 : Int32)) ((1 : Int32) + (p1 &&& (1 : Int32))) p2))), .second, vR b12_0] [(.long (own_set (own_sts ((1 : Int32) + (p1 &&& (1 : Int32))) p2 3) (p0 &&& (3 : Int32))))])) _
    refine XS.lload X12'.here hx rfl (hb hby at_161) rfl ?_
    refine XS.lcmp X12'.here hx rfl (hb hby at_163) rfl ?_
    refine XS.ifNo X12'.here hx rfl (hb hby at_164) rfl ((if0 _ _).trans (teq hpv16).2) ?_
    refine XS.iconst X12'.here hx rfl (hb hby at_167) ?_
    refine XS.goto X12'.here hx rfl (pc0 := 168) (pc' := 172) rfl (hb hby at_168) (by decide) (by decide) ?_
    show Steps p.tables e below (T12.setTop (mkF m 172 #[vI p0, vI p1, vI p2, vI p3, vI p4, vI (p0 &&& (3 : Int32)), vI ((1 : Int32) + (p1 &&& (1 : Int32))), vR b1, .val (.long (((own_bit (0 : Int32) (p0 &&& (3 : Int32)) ((1 : Int32) + (p1 &&& (1 : Int32))) p2) ||| (own_bit (1 : Int32) (p0 &&& (3 : Int32)) ((1 : Int32) + (p1 &&& (1 : Int32))) p2)) ||| (own_bit (2 : Int32) (p0 &&& (3 : Int32)) ((1 : Int32) + (p1 &&& (1 : Int32))) p2))), .second, vR b12_0] [(.int (1 : Int32))])) _
    exact retN X12' hx (t := .boolean) Bd.returns (by simp) (hb hby at_172) hr
  · show Q0b Z p0 p1 p2 p3 p4 h0 n0 _ T12.heap _
    exact ⟨rfl, N12⟩
set_option maxRecDepth 65536 in
set_option maxHeartbeats 40000000 in
theorem comes_1 {Post : Tables → Env → Array Value → State → Outcome → State → Prop} (hpost : ∀ tb e args s v u, (limb_1_1.after args s (.returned v) u = true ∧ limb_1_2.after args s (.returned v) u = true ∧ True) → FrameEnd s (.returned v) u (Jvm.fieldLocs frame_1_writes args s ++ Jvm.arrayLocs frame_1_arrays args s ++ Jvm.staticLocs frame_1_statics s) 72 256 → Post tb e args s (.returned v) u) :
    ArmFor flags0 classFile x code maxLocals ret World_1 tables_1 room_1 Calls_1 rest_1 Pre_1 Post := by
  intro l hfl _ _ p e ha hc hk s m args below hf hA hF happ hP
  obtain ⟨hcalls, hrest, hpre⟩ := hP
  obtain ⟨-, -, -, hnamed, -, -, -, hat⟩ := (Spec.applies_iff hf).mp happ
  obtain ⟨hg, hn⟩ := and_e (Cond.before_iff.mp (show (Jvm.Cond.and given_1 narrow_1).before args s = true from hpre))
  obtain ⟨gc, hg⟩ := and_e hg
  obtain ⟨gi0, hg⟩ := and_e hg
  obtain ⟨gi1, hg⟩ := and_e hg
  obtain ⟨gi2, hg⟩ := and_e hg
  obtain ⟨gi3, hg⟩ := and_e hg
  have gi4 := hg
  obtain ⟨w0, w1, w2, w3, w4, rfl⟩ : ∃ w0 w1 w2 w3 w4 : Value, args = #[w0, w1, w2, w3, w4] := by
    have hs : args.size = 5 := by simpa [Cond.value, given_1] using gc
    obtain ⟨L⟩ := args
    match L, hs with
    | [w0, w1, w2, w3, w4], _ => exact ⟨w0, w1, w2, w3, w4, rfl⟩
  have hw := fun d (hd : d ∈ tables_1) => atoms_spec (ws := Jvm.Cond.code x code maxLocals ret :: tables_1) hat d (List.mem_cons_of_mem _ hd)
  obtain ⟨i0, ei0⟩ := is_v gi0
  obtain rfl : w0 = (.int i0) := Option.some.inj ei0
  obtain ⟨i1, ei1⟩ := is_v gi1
  obtain rfl : w1 = (.int i1) := Option.some.inj ei1
  obtain ⟨i2, ei2⟩ := is_v gi2
  obtain rfl : w2 = (.int i2) := Option.some.inj ei2
  obtain ⟨i3, ei3⟩ := is_v gi3
  obtain rfl : w3 = (.int i3) := Option.some.inj ei3
  obtain ⟨i4, ei4⟩ := is_v gi4
  obtain rfl : w4 = (.int i4) := Option.some.inj ei4
  by_cases cn : (i0 &&& (3 : Int32)) = (0 : Int32)
  · obtain ⟨n, o, h1, h2, h3, _, L, rfl, ⟨rfl, N⟩, hq⟩ := rm0a l s _ hw tables_1 i0 i1 i2 i3 i4 s.heap s.heap.size (Nat.le_refl _) (own_lc i1) (own_b3 i0) cn p e ha hc hk s m _ below hf ((Spec.applies_iff_loose hf).mp happ).1 ⟨rfl, State.Warmed39.refl s, rfl⟩ trivial
    refine ⟨n, _, h1, h2, h3, hpost _ _ _ _ _ _ ⟨Cond.after_iff.mpr rfl, Cond.after_iff.mpr (eq_i res_at (Term.int_eval (1)) rfl), trivial⟩ ⟨hq.1, hq.2.1, (hq.2.2.sift fun y hy => Or.inr (N y hy)).mono (by decide) (by decide)⟩⟩
  obtain ⟨n, o, h1, h2, h3, _, L, rfl, ⟨rfl, N⟩, hq⟩ := rm0b l s _ hw tables_1 i0 i1 i2 i3 i4 s.heap s.heap.size (Nat.le_refl _) (own_lc i1) (own_b3 i0) cn p e ha hc hk s m _ below hf ((Spec.applies_iff_loose hf).mp happ).1 ⟨rfl, State.Warmed39.refl s, rfl⟩ trivial
  refine ⟨n, _, h1, h2, h3, hpost _ _ _ _ _ _ ⟨Cond.after_iff.mpr rfl, Cond.after_iff.mpr (eq_i res_at (Term.int_eval (1)) rfl), trivial⟩ ⟨hq.1, hq.2.1, (hq.2.2.sift fun y hy => Or.inr (N y hy)).mono (by decide) (by decide)⟩⟩
theorem main_1_1 : Claimed_1_1 := comes_1 fun _ _ _ _ _ _ h hF => ⟨h.1, hF⟩
theorem main_1_2 : Claimed_1_2 := comes_1 fun _ _ _ _ _ _ h hF => ⟨h.2.1, hF⟩
end Jvm.Pilot.@@N@@
namespace Jvm.Pilot.@@N@@
open Jvm Jvm.ClassFile Sem Op Lib Jvm.Free Jvm.Stand Jvm.Pilot.@@N@@.Jvm.D
/-! MADE BY PROGRAM (witnessworld.py) out of the Statement's table words and the real class files: 17 classes; the members and pool entries that the words name. The judged class is class 1, her method 1. -/
namespace start1
open Jvm.ClassFile
def u (s : String) : CpInfo := .utf8 (stringToUtf16 s)
/-- a pool by its gaps: so many unusable entries, then the entry; so many at the end -/
def gap : Nat → List CpInfo → List CpInfo
  | 0, r => r
  | n + 1, r => .unusable :: gap n r
def poolList (es : List (Nat × CpInfo)) (last : Nat) : List CpInfo := es.foldr (fun e r => gap e.1 (e.2 :: r)) (gap last [])
def pool (es : List (Nat × CpInfo)) (last : Nat) : Array CpInfo := ⟨poolList es last⟩
def fileOf (pool : Array CpInfo) (this : Nat) (attrs : Array Attribute := #[]) (ms : Array MethodInfo := #[]) (fl : Nat := 33) (sup : Nat := 0) (ifs : Array Nat := #[]) (fds : Array FieldInfo := #[]) : ClassFile where
  minorVersion := 0
  majorVersion := 65
  constantPool := pool
  accessFlags := fl
  thisClass := this
  superClass := sup
  interfaces := ifs
  fields := fds
  methods := ms
  attributes := attrs
def plain (name : String) (sup : Option ClassId) : Class where
  name := name
  kind := .ordinary
  loader := none
  accessFlags := 33
  super := sup
  interfaces := #[]
  cf := none
  fields := #[]
  methods := #[]
  instanceTypes := #[]
  staticTypes := #[]
  resolved := #[]
  callSites := []
  init := .initialized
  statics := none
  mirror := none

def pool0 : Array CpInfo := pool [(5, u "<init>"), (0, u "()V"), (1, .class_ 10), (1, u "java/lang/Object")] 113

def k0c0 : Code := { maxStack := 0, maxLocals := 1, code := object_method_1_code, exceptionTable := #[], attributes := #[] }
def k0m0 : Method := { name := "<init>", desc := "()V", sig := { parameters := [], returnType := none }, accessFlags := 1, code := some k0c0 }
/-- java/lang/Object -/
def k0 : Class := { plain "java/lang/Object" none with
  accessFlags := 33
  interfaces := #[]
  cf := some (fileOf pool0 8 #[] #[{ accessFlags := 1, nameIndex := 5, descriptorIndex := 6, attributes := #[] }] 33 0 #[] #[])
  fields := #[]
  methods := #[k0m0]
  instanceTypes := #[]
  staticTypes := #[]
  resolved := Array.replicate 124 none
  statics := none }

def pool1 : Array CpInfo := pool [(2, .class_ 4), (1, u "java/lang/Object"), (0, u "<init>"), (0, u "()V"), (0, .class_ 8), (0, u "com/example/headlattice/headlattice/learn/Coverage"), (0, .methodref 7 10), (0, .nameAndType 5 11), (0, u "(I)V"), (0, .methodref 13 14), (0, .class_ 15), (0, .nameAndType 16 17), (0, u "com/example/headlattice/headlattice/learn/CoverageRemainingRowSetPinLaw"), (0, u "addRow"), (0, u "(Lcom/example/headlattice/headlattice/learn/Coverage;IIIII)V"), (0, .methodref 13 19), (0, .nameAndType 20 21), (0, u "doSettle"), (0, u "(Lcom/example/headlattice/headlattice/learn/Coverage;IIII)V"), (0, .methodref 13 23), (0, .nameAndType 24 25), (0, u "bit"), (0, u "(IIII)J"), (0, .methodref 7 27), (0, .nameAndType 28 29), (0, u "remainingRowSet"), (0, u "()[J"), (0, .methodref 7 31), (0, .nameAndType 16 32), (0, u "([IZ)I"), (0, .methodref 7 34), (0, .nameAndType 35 36), (0, u "settle"), (0, u "(II)V"), (2, u "law"), (0, u "(IIIII)Z")] 7

def k1m0 : Method := { name := "<init>", desc := "()V", sig := { parameters := [], returnType := none }, accessFlags := 2, code := none }
def k1c1 : Code := { maxStack := 6, maxLocals := 11, code := code, exceptionTable := #[], attributes := #[] }
def k1m1 : Method := { name := "law", desc := "(IIIII)Z", sig := { parameters := [.int, .int, .int, .int, .int], returnType := some .boolean }, accessFlags := 9, code := some k1c1 }
def k1c2 : Code := { maxStack := 5, maxLocals := 7, code := method_3_code, exceptionTable := #[], attributes := #[] }
def k1m2 : Method := { name := "addRow", desc := "(Lcom/example/headlattice/headlattice/learn/Coverage;IIIII)V", sig := { parameters := [(.object "com/example/headlattice/headlattice/learn/Coverage"), .int, .int, .int, .int, .int], returnType := none }, accessFlags := 10, code := some k1c2 }
def k1c3 : Code := { maxStack := 4, maxLocals := 6, code := method_4_code, exceptionTable := #[], attributes := #[] }
def k1m3 : Method := { name := "doSettle", desc := "(Lcom/example/headlattice/headlattice/learn/Coverage;IIII)V", sig := { parameters := [(.object "com/example/headlattice/headlattice/learn/Coverage"), .int, .int, .int, .int], returnType := none }, accessFlags := 10, code := some k1c3 }
def k1c4 : Code := { maxStack := 3, maxLocals := 6, code := method_5_code, exceptionTable := #[], attributes := #[] }
def k1m4 : Method := { name := "bit", desc := "(IIII)J", sig := { parameters := [.int, .int, .int, .int], returnType := some .long }, accessFlags := 10, code := some k1c4 }
/-- com/example/headlattice/headlattice/learn/CoverageRemainingRowSetPinLaw -/
def k1 : Class := { plain "com/example/headlattice/headlattice/learn/CoverageRemainingRowSetPinLaw" (some 0) with
  accessFlags := 49
  interfaces := #[]
  cf := some (fileOf pool1 13 #[] #[{ accessFlags := 2, nameIndex := 5, descriptorIndex := 6, attributes := #[] }, { accessFlags := 9, nameIndex := 39, descriptorIndex := 40, attributes := #[] }, { accessFlags := 10, nameIndex := 16, descriptorIndex := 17, attributes := #[] }, { accessFlags := 10, nameIndex := 20, descriptorIndex := 21, attributes := #[] }, { accessFlags := 10, nameIndex := 24, descriptorIndex := 25, attributes := #[] }] 49 2 #[] #[])
  fields := #[]
  methods := #[k1m0, k1m1, k1m2, k1m3, k1m4]
  instanceTypes := #[]
  staticTypes := #[]
  resolved := Array.replicate 48 none
  statics := none }

def pool2 : Array CpInfo := pool [(1, .methodref 2 3), (0, .class_ 4), (0, .nameAndType 5 6), (0, u "java/lang/Object"), (0, u "<init>"), (0, u "()V"), (9, .fieldref 17 18), (0, .class_ 19), (0, .nameAndType 20 21), (0, u "com/example/headlattice/headlattice/learn/Coverage"), (0, u "labelCount"), (0, u "I"), (0, .class_ 23), (0, u "[I"), (0, .fieldref 17 25), (0, .nameAndType 26 27), (0, u "openPairs"), (0, u "[[I"), (0, .fieldref 17 29), (0, .nameAndType 30 31), (0, u "covered"), (0, u "[Z"), (0, .fieldref 17 33), (0, .nameAndType 34 23), (0, u "coveredCounts"), (0, .fieldref 17 36), (0, .nameAndType 37 23), (0, u "openCounts"), (0, .fieldref 17 39), (0, .nameAndType 40 23), (0, u "ones"), (0, .fieldref 17 42), (0, .nameAndType 43 44), (0, u "pairsShared"), (0, u "Z"), (5, .fieldref 17 51), (0, .nameAndType 52 21), (0, u "rowCount"), (0, .fieldref 17 54), (0, .nameAndType 55 21), (0, u "remainingCount"), (9, .class_ 67), (1, u "java/util/Arrays"), (0, u "copyOf"), (5, .methodref 17 75), (0, .nameAndType 76 6), (0, u "ownPairs"), (0, .methodref 17 78), (0, .nameAndType 26 79), (0, u "(I)[I"), (0, .methodref 17 81), (0, .nameAndType 82 83), (0, u "checkRow"), (0, u "(I)V"), (14, .methodref 17 99), (0, .nameAndType 100 83), (0, u "checkLabel"), (0, .methodref 17 102), (0, .nameAndType 103 104), (0, u "settle"), (0, u "([II[Z)V"), (21, .methodref 65 127), (0, .nameAndType 68 128), (0, u "([II)[I"), (2, u "remainingRowSet"), (0, u "()[J"), (16, u "addRow"), (0, u "([IZ)I"), (7, u "(II)V")] 41

def k2c0 : Code := { maxStack := 3, maxLocals := 2, code := prog_21_method_1_code, exceptionTable := #[], attributes := #[] }
def k2m0 : Method := { name := "<init>", desc := "(I)V", sig := { parameters := [.int], returnType := none }, accessFlags := 1, code := some k2c0 }
def k2c1 : Code := { maxStack := 5, maxLocals := 9, code := prog_21_method_5_code, exceptionTable := #[], attributes := #[] }
def k2m1 : Method := { name := "addRow", desc := "([IZ)I", sig := { parameters := [(.array .int), .boolean], returnType := some .int }, accessFlags := 1, code := some k2c1 }
def k2c2 : Code := { maxStack := 4, maxLocals := 4, code := prog_21_method_11_code, exceptionTable := #[], attributes := #[] }
def k2m2 : Method := { name := "settle", desc := "(II)V", sig := { parameters := [.int, .int], returnType := none }, accessFlags := 1, code := some k2c2 }
def k2c3 : Code := { maxStack := 4, maxLocals := 10, code := prog_21_method_13_code, exceptionTable := #[], attributes := #[] }
def k2m3 : Method := { name := "settle", desc := "([II[Z)V", sig := { parameters := [(.array .int), .int, (.array .boolean)], returnType := none }, accessFlags := 2, code := some k2c3 }
def k2c4 : Code := { maxStack := 7, maxLocals := 3, code := prog_21_method_19_code, exceptionTable := #[], attributes := #[] }
def k2m4 : Method := { name := "remainingRowSet", desc := "()[J", sig := { parameters := [], returnType := some (.array .long) }, accessFlags := 0, code := some k2c4 }
def k2c5 : Code := { maxStack := 2, maxLocals := 1, code := prog_21_method_21_code, exceptionTable := #[], attributes := #[] }
def k2m5 : Method := { name := "ownPairs", desc := "()V", sig := { parameters := [], returnType := none }, accessFlags := 2, code := some k2c5 }
def k2c6 : Code := { maxStack := 2, maxLocals := 2, code := prog_21_method_22_code, exceptionTable := #[], attributes := #[] }
def k2m6 : Method := { name := "openPairs", desc := "(I)[I", sig := { parameters := [.int], returnType := some (.array .int) }, accessFlags := 2, code := some k2c6 }
def k2c7 : Code := { maxStack := 4, maxLocals := 2, code := prog_21_method_23_code, exceptionTable := #[], attributes := #[] }
def k2m7 : Method := { name := "checkRow", desc := "(I)V", sig := { parameters := [.int], returnType := none }, accessFlags := 2, code := some k2c7 }
def k2c8 : Code := { maxStack := 4, maxLocals := 2, code := prog_21_method_24_code, exceptionTable := #[], attributes := #[] }
def k2m8 : Method := { name := "checkLabel", desc := "(I)V", sig := { parameters := [.int], returnType := none }, accessFlags := 0, code := some k2c8 }
/-- com/example/headlattice/headlattice/learn/Coverage -/
def k2 : Class := { plain "com/example/headlattice/headlattice/learn/Coverage" (some 0) with
  accessFlags := 49
  interfaces := #[]
  cf := some (fileOf pool2 17 #[] #[{ accessFlags := 1, nameIndex := 5, descriptorIndex := 83, attributes := #[] }, { accessFlags := 1, nameIndex := 149, descriptorIndex := 150, attributes := #[] }, { accessFlags := 1, nameIndex := 103, descriptorIndex := 158, attributes := #[] }, { accessFlags := 2, nameIndex := 103, descriptorIndex := 104, attributes := #[] }, { accessFlags := 0, nameIndex := 131, descriptorIndex := 132, attributes := #[] }, { accessFlags := 2, nameIndex := 76, descriptorIndex := 6, attributes := #[] }, { accessFlags := 2, nameIndex := 26, descriptorIndex := 79, attributes := #[] }, { accessFlags := 2, nameIndex := 82, descriptorIndex := 83, attributes := #[] }, { accessFlags := 0, nameIndex := 100, descriptorIndex := 83, attributes := #[] }] 49 2 #[] #[{ accessFlags := 18, nameIndex := 20, descriptorIndex := 21, attributes := #[] }, { accessFlags := 2, nameIndex := 26, descriptorIndex := 27, attributes := #[] }, { accessFlags := 2, nameIndex := 43, descriptorIndex := 44, attributes := #[] }, { accessFlags := 2, nameIndex := 30, descriptorIndex := 31, attributes := #[] }, { accessFlags := 2, nameIndex := 52, descriptorIndex := 21, attributes := #[] }, { accessFlags := 2, nameIndex := 55, descriptorIndex := 21, attributes := #[] }, { accessFlags := 18, nameIndex := 34, descriptorIndex := 23, attributes := #[] }, { accessFlags := 18, nameIndex := 37, descriptorIndex := 23, attributes := #[] }, { accessFlags := 18, nameIndex := 40, descriptorIndex := 23, attributes := #[] }])
  fields := #[{ name := "labelCount", type := .int, accessFlags := 18, slot := 0, constantValue := 0 }, { name := "openPairs", type := (.array (.array .int)), accessFlags := 2, slot := 1, constantValue := 0 }, { name := "pairsShared", type := .boolean, accessFlags := 2, slot := 2, constantValue := 0 }, { name := "covered", type := (.array .boolean), accessFlags := 2, slot := 3, constantValue := 0 }, { name := "rowCount", type := .int, accessFlags := 2, slot := 4, constantValue := 0 }, { name := "remainingCount", type := .int, accessFlags := 2, slot := 5, constantValue := 0 }, { name := "coveredCounts", type := (.array .int), accessFlags := 18, slot := 6, constantValue := 0 }, { name := "openCounts", type := (.array .int), accessFlags := 18, slot := 7, constantValue := 0 }, { name := "ones", type := (.array .int), accessFlags := 18, slot := 8, constantValue := 0 }]
  methods := #[k2m0, k2m1, k2m2, k2m3, k2m4, k2m5, k2m6, k2m7, k2m8]
  instanceTypes := #[.int, (.array (.array .int)), .boolean, (.array .boolean), .int, .int, (.array .int), (.array .int), (.array .int)]
  staticTypes := #[]
  resolved := Array.replicate 200 none
  statics := none }

def pool3 : Array CpInfo := pool [(2, .class_ 4), (1, u "java/lang/Object"), (0, u "<init>"), (0, u "()V"), (7, .class_ 16), (1, u "java/util/Arrays"), (57, .class_ 76), (1, u "java/util/Arrays$NaturalOrder"), (36, .class_ 115), (1, u "java/util/Arrays$LegacyMergeSort"), (1, u "Z"), (32, .methodref 151 152), (0, .class_ 153), (0, .nameAndType 154 155), (0, u "java/lang/System"), (0, u "arraycopy"), (0, u "(Ljava/lang/Object;ILjava/lang/Object;II)V"), (146, u "copyOf"), (1, .methodref 305 306), (0, .class_ 307), (0, .nameAndType 308 309), (0, u "java/lang/Math"), (0, u "min"), (0, u "(II)I"), (65, .class_ 376), (0, u "java/util/Arrays$ArrayList"), (68, u "$assertionsDisabled"), (269, u "MIN_ARRAY_SORT_GRAN"), (0, u "I"), (2, u "INSERTIONSORT_THRESHOLD"), (151, u "([II)[I"), (103, .class_ 976), (0, u "java/util/Arrays$ArrayItr")] 52

def k3m0 : Method := { name := "<init>", desc := "()V", sig := { parameters := [], returnType := none }, accessFlags := 2, code := none }
def k3c1 : Code := { maxStack := 6, maxLocals := 3, code := jdk_65_method_123_code, exceptionTable := #[], attributes := #[] }
def k3m1 : Method := { name := "copyOf", desc := "([II)[I", sig := { parameters := [(.array .int), .int], returnType := some (.array .int) }, accessFlags := 9, code := some k3c1 }
/-- java/util/Arrays -/
def k3 : Class := { plain "java/util/Arrays" (some 0) with
  accessFlags := 49
  interfaces := #[]
  cf := some (fileOf pool3 14 #[.nestMembers #[975, 375, 113, 74]] #[{ accessFlags := 2, nameIndex := 5, descriptorIndex := 6, attributes := #[] }, { accessFlags := 9, nameIndex := 302, descriptorIndex := 871, attributes := #[] }] 49 2 #[] #[{ accessFlags := 26, nameIndex := 715, descriptorIndex := 716, attributes := #[] }, { accessFlags := 26, nameIndex := 719, descriptorIndex := 716, attributes := #[] }, { accessFlags := 4120, nameIndex := 445, descriptorIndex := 117, attributes := #[] }])
  fields := #[{ name := "MIN_ARRAY_SORT_GRAN", type := .int, accessFlags := 26, slot := 0, constantValue := 0 }, { name := "INSERTIONSORT_THRESHOLD", type := .int, accessFlags := 26, slot := 1, constantValue := 0 }, { name := "$assertionsDisabled", type := .boolean, accessFlags := 4120, slot := 2, constantValue := 0 }]
  methods := #[k3m0, k3m1]
  instanceTypes := #[]
  staticTypes := #[.int, .int, .boolean]
  resolved := Array.replicate 1029 none
  statics := none }

def pool4 : Array CpInfo := pool [(1, .class_ 2), (0, u "java/lang/Math"), (1, .class_ 6), (1, u "java/lang/Object"), (0, u "<init>"), (0, u "()V"), (89, .class_ 100), (1, u "java/lang/Math$RandomNumberGeneratorHolder"), (71, u "negativeZeroFloatBits"), (0, u "J"), (2, u "negativeZeroDoubleBits"), (24, u "min"), (43, u "$assertionsDisabled"), (0, u "Z"), (88, u "(II)I"), (2, u "twoToTheDoubleScaleDown"), (0, u "D"), (4, u "twoToTheDoubleScaleUp"), (9, u "E"), (3, u "PI"), (2, u "TAU"), (2, u "DEGREES_TO_RADIANS"), (0, u "RADIANS_TO_DEGREES")] 94

def k4m0 : Method := { name := "<init>", desc := "()V", sig := { parameters := [], returnType := none }, accessFlags := 2, code := none }
def k4c1 : Code := { maxStack := 2, maxLocals := 2, code := jdk_29_method_69_code, exceptionTable := #[], attributes := #[] }
def k4m1 : Method := { name := "min", desc := "(II)I", sig := { parameters := [.int, .int], returnType := some .int }, accessFlags := 9, code := some k4c1 }
/-- java/lang/Math -/
def k4 : Class := { plain "java/lang/Math" (some 0) with
  accessFlags := 49
  interfaces := #[]
  cf := some (fileOf pool4 1 #[.nestMembers #[98]] #[{ accessFlags := 2, nameIndex := 7, descriptorIndex := 8, attributes := #[] }, { accessFlags := 9, nameIndex := 201, descriptorIndex := 335, attributes := #[] }] 49 4 #[] #[{ accessFlags := 25, nameIndex := 354, descriptorIndex := 339, attributes := #[] }, { accessFlags := 25, nameIndex := 358, descriptorIndex := 339, attributes := #[] }, { accessFlags := 25, nameIndex := 361, descriptorIndex := 339, attributes := #[] }, { accessFlags := 26, nameIndex := 364, descriptorIndex := 339, attributes := #[] }, { accessFlags := 26, nameIndex := 365, descriptorIndex := 339, attributes := #[] }, { accessFlags := 26, nameIndex := 172, descriptorIndex := 173, attributes := #[] }, { accessFlags := 26, nameIndex := 176, descriptorIndex := 173, attributes := #[] }, { accessFlags := 8, nameIndex := 344, descriptorIndex := 339, attributes := #[] }, { accessFlags := 8, nameIndex := 338, descriptorIndex := 339, attributes := #[] }, { accessFlags := 4120, nameIndex := 245, descriptorIndex := 246, attributes := #[] }])
  fields := #[{ name := "E", type := .double, accessFlags := 25, slot := 0, constantValue := 0 }, { name := "PI", type := .double, accessFlags := 25, slot := 1, constantValue := 0 }, { name := "TAU", type := .double, accessFlags := 25, slot := 2, constantValue := 0 }, { name := "DEGREES_TO_RADIANS", type := .double, accessFlags := 26, slot := 3, constantValue := 0 }, { name := "RADIANS_TO_DEGREES", type := .double, accessFlags := 26, slot := 4, constantValue := 0 }, { name := "negativeZeroFloatBits", type := .long, accessFlags := 26, slot := 5, constantValue := 0 }, { name := "negativeZeroDoubleBits", type := .long, accessFlags := 26, slot := 6, constantValue := 0 }, { name := "twoToTheDoubleScaleUp", type := .double, accessFlags := 8, slot := 7, constantValue := 0 }, { name := "twoToTheDoubleScaleDown", type := .double, accessFlags := 8, slot := 8, constantValue := 0 }, { name := "$assertionsDisabled", type := .boolean, accessFlags := 4120, slot := 9, constantValue := 0 }]
  methods := #[k4m0, k4m1]
  instanceTypes := #[]
  staticTypes := #[.double, .double, .double, .double, .double, .long, .long, .double, .double, .boolean]
  resolved := Array.replicate 460 none
  statics := none }

def pool5 : Array CpInfo := pool [(2, .class_ 4), (1, u "java/lang/Object"), (0, u "<init>"), (0, u "()V"), (1, .class_ 10), (1, u "java/lang/System"), (0, u "allowSecurityManager"), (0, u "I"), (16, u "cons"), (0, u "Ljava/io/Console;"), (77, .class_ 110), (1, u "java/lang/System$CallersHolder"), (43, u "initialErrStream"), (0, u "Ljava/io/PrintStream;"), (19, u "security"), (0, u "Ljava/lang/SecurityManager;"), (31, .class_ 209), (0, u "java/lang/System$1"), (7, u "props"), (0, u "Ljava/util/Properties;"), (2, u "lineSeparator"), (0, u "Ljava/lang/String;"), (96, .class_ 321), (1, u "java/lang/System$LoggerFinder"), (5, .class_ 328), (0, u "java/lang/System$Logger"), (67, u "err"), (2, u "out"), (91, u "notSupportedJnuEncoding"), (15, u "in"), (17, u "initialIn"), (0, u "Ljava/io/InputStream;"), (35, u "bootLayer"), (0, u "Ljava/lang/ModuleLayer;"), (99, .class_ 664), (0, u "java/lang/System$2"), (9, u "NEVER"), (2, u "MAYBE"), (49, u "arraycopy"), (0, u "(Ljava/lang/Object;ILjava/lang/Object;II)V"), (72, .class_ 802), (0, u "java/lang/System$Logger$Level")] 31

def k5m0 : Method := { name := "<init>", desc := "()V", sig := { parameters := [], returnType := none }, accessFlags := 2, code := none }
def k5m1 : Method := { name := "arraycopy", desc := "(Ljava/lang/Object;ILjava/lang/Object;II)V", sig := { parameters := [(.object "java/lang/Object"), .int, (.object "java/lang/Object"), .int, .int], returnType := none }, accessFlags := 265, code := none }
/-- java/lang/System -/
def k5 : Class := { plain "java/lang/System" (some 0) with
  accessFlags := 49
  interfaces := #[]
  cf := some (fileOf pool5 8 #[.nestMembers #[319, 327, 801, 108, 663, 208]] #[{ accessFlags := 2, nameIndex := 5, descriptorIndex := 6, attributes := #[] }, { accessFlags := 265, nameIndex := 727, descriptorIndex := 728, attributes := #[] }] 49 2 #[] #[{ accessFlags := 25, nameIndex := 507, descriptorIndex := 526, attributes := #[] }, { accessFlags := 25, nameIndex := 399, descriptorIndex := 155, attributes := #[] }, { accessFlags := 25, nameIndex := 396, descriptorIndex := 155, attributes := #[] }, { accessFlags := 10, nameIndex := 525, descriptorIndex := 526, attributes := #[] }, { accessFlags := 26, nameIndex := 674, descriptorIndex := 12, attributes := #[] }, { accessFlags := 26, nameIndex := 677, descriptorIndex := 12, attributes := #[] }, { accessFlags := 10, nameIndex := 11, descriptorIndex := 12, attributes := #[] }, { accessFlags := 74, nameIndex := 175, descriptorIndex := 176, attributes := #[] }, { accessFlags := 10, nameIndex := 491, descriptorIndex := 222, attributes := #[] }, { accessFlags := 74, nameIndex := 29, descriptorIndex := 30, attributes := #[] }, { accessFlags := 74, nameIndex := 154, descriptorIndex := 155, attributes := #[] }, { accessFlags := 10, nameIndex := 217, descriptorIndex := 218, attributes := #[] }, { accessFlags := 10, nameIndex := 221, descriptorIndex := 222, attributes := #[] }, { accessFlags := 8, nameIndex := 562, descriptorIndex := 563, attributes := #[] }])
  fields := #[{ name := "in", type := (.object "java/io/InputStream"), accessFlags := 25, slot := 0, constantValue := 0 }, { name := "out", type := (.object "java/io/PrintStream"), accessFlags := 25, slot := 1, constantValue := 0 }, { name := "err", type := (.object "java/io/PrintStream"), accessFlags := 25, slot := 2, constantValue := 0 }, { name := "initialIn", type := (.object "java/io/InputStream"), accessFlags := 10, slot := 3, constantValue := 0 }, { name := "NEVER", type := .int, accessFlags := 26, slot := 4, constantValue := 0 }, { name := "MAYBE", type := .int, accessFlags := 26, slot := 5, constantValue := 0 }, { name := "allowSecurityManager", type := .int, accessFlags := 10, slot := 6, constantValue := 0 }, { name := "security", type := (.object "java/lang/SecurityManager"), accessFlags := 74, slot := 7, constantValue := 0 }, { name := "notSupportedJnuEncoding", type := (.object "java/lang/String"), accessFlags := 10, slot := 8, constantValue := 0 }, { name := "cons", type := (.object "java/io/Console"), accessFlags := 74, slot := 9, constantValue := 0 }, { name := "initialErrStream", type := (.object "java/io/PrintStream"), accessFlags := 74, slot := 10, constantValue := 0 }, { name := "props", type := (.object "java/util/Properties"), accessFlags := 10, slot := 11, constantValue := 0 }, { name := "lineSeparator", type := (.object "java/lang/String"), accessFlags := 10, slot := 12, constantValue := 0 }, { name := "bootLayer", type := (.object "java/lang/ModuleLayer"), accessFlags := 8, slot := 13, constantValue := 0 }]
  methods := #[k5m0, k5m1]
  instanceTypes := #[]
  staticTypes := #[(.object "java/io/InputStream"), (.object "java/io/PrintStream"), (.object "java/io/PrintStream"), (.object "java/io/InputStream"), .int, .int, .int, (.object "java/lang/SecurityManager"), (.object "java/lang/String"), (.object "java/io/Console"), (.object "java/io/PrintStream"), (.object "java/util/Properties"), (.object "java/lang/String"), (.object "java/lang/ModuleLayer")]
  resolved := Array.replicate 834 none
  statics := none }

def pool6 : Array CpInfo := pool [(1, u "java/lang/Cloneable"), (0, .class_ 1), (0, u "java/lang/Object"), (0, .class_ 3)] 3

/-- java/lang/Cloneable -/
def k6 : Class := { plain "java/lang/Cloneable" (some 0) with
  accessFlags := 1537
  interfaces := #[]
  cf := some (fileOf pool6 2 #[] #[] 1537 4 #[] #[])
  fields := #[]
  methods := #[]
  instanceTypes := #[]
  staticTypes := #[]
  resolved := Array.replicate 8 none
  statics := none }

def pool7 : Array CpInfo := pool [(1, u "java/io/Serializable"), (0, .class_ 1), (0, u "java/lang/Object"), (0, .class_ 3)] 3

/-- java/io/Serializable -/
def k7 : Class := { plain "java/io/Serializable" (some 0) with
  accessFlags := 1537
  interfaces := #[]
  cf := some (fileOf pool7 2 #[] #[] 1537 4 #[] #[])
  fields := #[]
  methods := #[]
  instanceTypes := #[]
  staticTypes := #[]
  resolved := Array.replicate 8 none
  statics := none }

/-- the primitive boolean -/
def k8 : Class := { plain "boolean" none with kind := .primitive 'Z', accessFlags := 0x411 }
/-- [Z -/
def k9 : Class := { plain "[Z" (some 0) with kind := .array 8 .boolean, interfaces := #[6, 7], accessFlags := 1041 }

/-- the primitive byte -/
def k10 : Class := { plain "byte" none with kind := .primitive 'B', accessFlags := 0x411 }
/-- [B -/
def k11 : Class := { plain "[B" (some 0) with kind := .array 10 .byte, interfaces := #[6, 7], accessFlags := 1041 }

/-- the primitive int -/
def k12 : Class := { plain "int" none with kind := .primitive 'I', accessFlags := 0x411 }
/-- [I -/
def k13 : Class := { plain "[I" (some 0) with kind := .array 12 .int, interfaces := #[6, 7], accessFlags := 1041 }

/-- the primitive long -/
def k14 : Class := { plain "long" none with kind := .primitive 'J', accessFlags := 0x411 }
/-- [J -/
def k15 : Class := { plain "[J" (some 0) with kind := .array 14 .long, interfaces := #[6, 7], accessFlags := 1041 }

/-- [L[I; -/
def k16 : Class := { plain "[[I" (some 0) with kind := .array 13 (.array .int), interfaces := #[6, 7], accessFlags := 1041 }

def heap : Heap := #[{ cls := 16, slots := #[.null], vm := .none }]
def classes : Array Class := #[k0, k1, k2, k3, k4, k5, k6, k7, k8, k9, k10, k11, k12, k13, k14, k15, k16]
def interned : List (Array UInt16 × Addr) := []
def slotsUsed : Nat := 1
def theMethod : MethodId := ⟨1, 1⟩
def args0 : Array Value := #[.int 3, .int 5, .int 7, .int 11, .int 13]
def aboutOver (below : List Frame) : State where
  vm := { classes := classes, interned := interned.toArray }
  heap := heap
  slotsUsed := slotsUsed
  threads := #[{ frames := .invoking theMethod args0 :: below }]
def below0 : List Frame := [.native { method := ⟨0, 0⟩, args := #[] }]
def about1 : State := aboutOver below0
def p0 : Program := .bare "" "" ""
def e0 : Env := launch0.env 0 0 0
theorem w_frames : about1.frames = Frame.invoking theMethod args0 :: below0 := rfl
set_option maxRecDepth 65536 in
theorem w_args : argsFit about1.vm theMethod args0 = true := by decide +kernel
set_option maxRecDepth 65536 in
theorem w_heap : heapFits about1 = true := by decide +kernel
set_option maxRecDepth 65536 in
theorem w_runnable : about1.curStatus? = some .runnable := by decide +kernel
set_option maxRecDepth 65536 in
theorem w_alone : about1.alone = true := by decide +kernel
set_option maxRecDepth 65536 in
theorem w_named : about1.methodNamed? x = some theMethod := by decide +kernel
set_option maxRecDepth 65536 in
theorem w_hears : about1.hears theMethod below0 = true := by decide +kernel
set_option maxRecDepth 65536 in
theorem w_ripe : about1.ripe theMethod args0 below0 = true := by decide +kernel
theorem w_running : about1.status = .running := rfl
set_option maxRecDepth 65536 in
theorem w_room : about1.hasRoom e0.platform room_1 = true :=
  launch0.hasRoom_least _ room_1 (by decide +kernel) (by decide +kernel) (by decide +kernel) (by decide +kernel) (by decide +kernel) (by decide +kernel)
theorem allAtoms_all (ts : List Jvm.Cond) (a : Array Jvm.Value) (st : Jvm.State) : (allAtoms ts).before a st = ts.all (fun c => c.before a st) := by
  induction ts with
  | nil => rfl
  | cons c t ih =>
    show (Jvm.Cond.and c (allAtoms t)).before a st = _
    rw [Jvm.Cond.before_and, ih, List.all_cons]
def words1 : List Jvm.Cond := Jvm.Cond.code x code maxLocals ret :: tables_1
/-- a 'code' word, met by the world's own term for the bytes: nothing is compared byte by byte -/
theorem code_word {y : MethodName} {bytes : ByteArray} {mx : Nat} {rt : Option FieldType} {a : Array Value} {s : State} {m : MethodId} {meth : Method} {c : Code} (h1 : s.methodNamed? y = some m) (h2 : s.vm.method? m = some meth) (h3 : meth.code = some c) (h4 : c.code = bytes)
    (h5 : (c.maxLocals == mx && c.exceptionTable.isEmpty && decide (c.maxStack ≤ mostOperands) && decide (meth.sig.returnType = rt) && !meth.locks && decide (parseMethodDescriptor y.desc = some meth.sig)) = true) : (Jvm.Cond.code y bytes mx rt).before a s = true := by
  simp only [Bool.and_eq_true, beq_iff_eq, Bool.not_eq_true', decide_eq_true_eq] at h5
  obtain ⟨⟨⟨⟨⟨g1, g2⟩, g3⟩, g4⟩, g5⟩, g6⟩ := h5
  simp [Cond.before, Cond.holds, Cond.value, h1, h2, h3, h4, g1, g2, g3, g4, g5, g6]
def isCode : Jvm.Cond → Bool
  | .code _ _ _ _ => true
  | _ => false
theorem all_split {L : List Jvm.Cond} {P : Jvm.Cond → Bool} (h1 : L.all (fun c => isCode c || P c) = true) (h2 : ∀ c ∈ L.filter isCode, P c = true) : L.all P = true := by
  refine List.all_eq_true.mpr fun c hc => ?_
  have h := List.all_eq_true.mp h1 c hc
  rcases Bool.eq_false_or_eq_true (isCode c) with hi | hi
  · exact h2 c (List.mem_filter.mpr ⟨hc, hi⟩)
  · simpa [hi] using h
set_option maxRecDepth 65536 in
theorem w_c0 : (Jvm.Cond.code x code maxLocals ret).before args0 about1 = true := code_word (m := ⟨1, 1⟩) (meth := k1m1) (c := k1c1) (by decide +kernel) rfl rfl rfl (by decide +kernel)
set_option maxRecDepth 65536 in
theorem w_c1 : (Jvm.Cond.code ({ cls := "com/example/headlattice/headlattice/learn/Coverage", name := "<init>", desc := "(I)V" } : Jvm.MethodName) prog_21_method_1_code (2 : Nat) (Option.none : Option Jvm.ClassFile.FieldType)).before args0 about1 = true := code_word (m := ⟨2, 0⟩) (meth := k2m0) (c := k2c0) (by decide +kernel) rfl rfl rfl (by decide +kernel)
set_option maxRecDepth 65536 in
theorem w_c2 : (Jvm.Cond.code ({ cls := "java/lang/Object", name := "<init>", desc := "()V" } : Jvm.MethodName) object_method_1_code (1 : Nat) (Option.none : Option Jvm.ClassFile.FieldType)).before args0 about1 = true := code_word (m := ⟨0, 0⟩) (meth := k0m0) (c := k0c0) (by decide +kernel) rfl rfl rfl (by decide +kernel)
set_option maxRecDepth 65536 in
theorem w_c3 : (Jvm.Cond.code ({ cls := "com/example/headlattice/headlattice/learn/CoverageRemainingRowSetPinLaw", name := "addRow", desc := "(Lcom/example/headlattice/headlattice/learn/Coverage;IIIII)V" } : Jvm.MethodName) method_3_code (7 : Nat) (Option.none : Option Jvm.ClassFile.FieldType)).before args0 about1 = true := code_word (m := ⟨1, 2⟩) (meth := k1m2) (c := k1c2) (by decide +kernel) rfl rfl rfl (by decide +kernel)
set_option maxRecDepth 65536 in
theorem w_c4 : (Jvm.Cond.code ({ cls := "com/example/headlattice/headlattice/learn/CoverageRemainingRowSetPinLaw", name := "doSettle", desc := "(Lcom/example/headlattice/headlattice/learn/Coverage;IIII)V" } : Jvm.MethodName) method_4_code (6 : Nat) (Option.none : Option Jvm.ClassFile.FieldType)).before args0 about1 = true := code_word (m := ⟨1, 3⟩) (meth := k1m3) (c := k1c3) (by decide +kernel) rfl rfl rfl (by decide +kernel)
set_option maxRecDepth 65536 in
theorem w_c5 : (Jvm.Cond.code ({ cls := "com/example/headlattice/headlattice/learn/CoverageRemainingRowSetPinLaw", name := "bit", desc := "(IIII)J" } : Jvm.MethodName) method_5_code (6 : Nat) (Option.some Jvm.ClassFile.FieldType.long)).before args0 about1 = true := code_word (m := ⟨1, 4⟩) (meth := k1m4) (c := k1c4) (by decide +kernel) rfl rfl rfl (by decide +kernel)
set_option maxRecDepth 65536 in
theorem w_c6 : (Jvm.Cond.code ({ cls := "com/example/headlattice/headlattice/learn/Coverage", name := "remainingRowSet", desc := "()[J" } : Jvm.MethodName) prog_21_method_19_code (3 : Nat) (Option.some (Jvm.ClassFile.FieldType.array Jvm.ClassFile.FieldType.long))).before args0 about1 = true := code_word (m := ⟨2, 4⟩) (meth := k2m4) (c := k2c4) (by decide +kernel) rfl rfl rfl (by decide +kernel)
set_option maxRecDepth 65536 in
theorem w_c7 : (Jvm.Cond.code ({ cls := "com/example/headlattice/headlattice/learn/Coverage", name := "addRow", desc := "([IZ)I" } : Jvm.MethodName) prog_21_method_5_code (9 : Nat) (Option.some Jvm.ClassFile.FieldType.int)).before args0 about1 = true := code_word (m := ⟨2, 1⟩) (meth := k2m1) (c := k2c1) (by decide +kernel) rfl rfl rfl (by decide +kernel)
set_option maxRecDepth 65536 in
theorem w_c8 : (Jvm.Cond.code ({ cls := "com/example/headlattice/headlattice/learn/Coverage", name := "ownPairs", desc := "()V" } : Jvm.MethodName) prog_21_method_21_code (1 : Nat) (Option.none : Option Jvm.ClassFile.FieldType)).before args0 about1 = true := code_word (m := ⟨2, 5⟩) (meth := k2m5) (c := k2c5) (by decide +kernel) rfl rfl rfl (by decide +kernel)
set_option maxRecDepth 65536 in
theorem w_c9 : (Jvm.Cond.code ({ cls := "com/example/headlattice/headlattice/learn/Coverage", name := "settle", desc := "(II)V" } : Jvm.MethodName) prog_21_method_11_code (4 : Nat) (Option.none : Option Jvm.ClassFile.FieldType)).before args0 about1 = true := code_word (m := ⟨2, 2⟩) (meth := k2m2) (c := k2c2) (by decide +kernel) rfl rfl rfl (by decide +kernel)
set_option maxRecDepth 65536 in
theorem w_c10 : (Jvm.Cond.code ({ cls := "com/example/headlattice/headlattice/learn/Coverage", name := "checkLabel", desc := "(I)V" } : Jvm.MethodName) prog_21_method_24_code (2 : Nat) (Option.none : Option Jvm.ClassFile.FieldType)).before args0 about1 = true := code_word (m := ⟨2, 8⟩) (meth := k2m8) (c := k2c8) (by decide +kernel) rfl rfl rfl (by decide +kernel)
set_option maxRecDepth 65536 in
theorem w_c11 : (Jvm.Cond.code ({ cls := "com/example/headlattice/headlattice/learn/Coverage", name := "openPairs", desc := "(I)[I" } : Jvm.MethodName) prog_21_method_22_code (2 : Nat) (Option.some (Jvm.ClassFile.FieldType.array Jvm.ClassFile.FieldType.int))).before args0 about1 = true := code_word (m := ⟨2, 6⟩) (meth := k2m6) (c := k2c6) (by decide +kernel) rfl rfl rfl (by decide +kernel)
set_option maxRecDepth 65536 in
theorem w_c12 : (Jvm.Cond.code ({ cls := "com/example/headlattice/headlattice/learn/Coverage", name := "checkRow", desc := "(I)V" } : Jvm.MethodName) prog_21_method_23_code (2 : Nat) (Option.none : Option Jvm.ClassFile.FieldType)).before args0 about1 = true := code_word (m := ⟨2, 7⟩) (meth := k2m7) (c := k2c7) (by decide +kernel) rfl rfl rfl (by decide +kernel)
set_option maxRecDepth 65536 in
theorem w_c13 : (Jvm.Cond.code ({ cls := "com/example/headlattice/headlattice/learn/Coverage", name := "settle", desc := "([II[Z)V" } : Jvm.MethodName) prog_21_method_13_code (10 : Nat) (Option.none : Option Jvm.ClassFile.FieldType)).before args0 about1 = true := code_word (m := ⟨2, 3⟩) (meth := k2m3) (c := k2c3) (by decide +kernel) rfl rfl rfl (by decide +kernel)
set_option maxRecDepth 65536 in
theorem w_c14 : (Jvm.Cond.code ({ cls := "java/util/Arrays", name := "copyOf", desc := "([II)[I" } : Jvm.MethodName) jdk_65_method_123_code (3 : Nat) (Option.some (Jvm.ClassFile.FieldType.array Jvm.ClassFile.FieldType.int))).before args0 about1 = true := code_word (m := ⟨3, 1⟩) (meth := k3m1) (c := k3c1) (by decide +kernel) rfl rfl rfl (by decide +kernel)
set_option maxRecDepth 65536 in
theorem w_c15 : (Jvm.Cond.code ({ cls := "java/lang/Math", name := "min", desc := "(II)I" } : Jvm.MethodName) jdk_29_method_69_code (2 : Nat) (Option.some Jvm.ClassFile.FieldType.int)).before args0 about1 = true := code_word (m := ⟨4, 1⟩) (meth := k4m1) (c := k4c1) (by decide +kernel) rfl rfl rfl (by decide +kernel)
def codes1 : List Jvm.Cond := [Jvm.Cond.code x code maxLocals ret, Jvm.Cond.code ({ cls := "com/example/headlattice/headlattice/learn/Coverage", name := "<init>", desc := "(I)V" } : Jvm.MethodName) prog_21_method_1_code (2 : Nat) (Option.none : Option Jvm.ClassFile.FieldType), Jvm.Cond.code ({ cls := "java/lang/Object", name := "<init>", desc := "()V" } : Jvm.MethodName) object_method_1_code (1 : Nat) (Option.none : Option Jvm.ClassFile.FieldType), Jvm.Cond.code ({ cls := "com/example/headlattice/headlattice/learn/CoverageRemainingRowSetPinLaw", name := "addRow", desc := "(Lcom/example/headlattice/headlattice/learn/Coverage;IIIII)V" } : Jvm.MethodName) method_3_code (7 : Nat) (Option.none : Option Jvm.ClassFile.FieldType), Jvm.Cond.code ({ cls := "com/example/headlattice/headlattice/learn/CoverageRemainingRowSetPinLaw", name := "doSettle", desc := "(Lcom/example/headlattice/headlattice/learn/Coverage;IIII)V" } : Jvm.MethodName) method_4_code (6 : Nat) (Option.none : Option Jvm.ClassFile.FieldType), Jvm.Cond.code ({ cls := "com/example/headlattice/headlattice/learn/CoverageRemainingRowSetPinLaw", name := "bit", desc := "(IIII)J" } : Jvm.MethodName) method_5_code (6 : Nat) (Option.some Jvm.ClassFile.FieldType.long), Jvm.Cond.code ({ cls := "com/example/headlattice/headlattice/learn/Coverage", name := "remainingRowSet", desc := "()[J" } : Jvm.MethodName) prog_21_method_19_code (3 : Nat) (Option.some (Jvm.ClassFile.FieldType.array Jvm.ClassFile.FieldType.long)), Jvm.Cond.code ({ cls := "com/example/headlattice/headlattice/learn/Coverage", name := "addRow", desc := "([IZ)I" } : Jvm.MethodName) prog_21_method_5_code (9 : Nat) (Option.some Jvm.ClassFile.FieldType.int), Jvm.Cond.code ({ cls := "com/example/headlattice/headlattice/learn/Coverage", name := "ownPairs", desc := "()V" } : Jvm.MethodName) prog_21_method_21_code (1 : Nat) (Option.none : Option Jvm.ClassFile.FieldType), Jvm.Cond.code ({ cls := "com/example/headlattice/headlattice/learn/Coverage", name := "settle", desc := "(II)V" } : Jvm.MethodName) prog_21_method_11_code (4 : Nat) (Option.none : Option Jvm.ClassFile.FieldType), Jvm.Cond.code ({ cls := "com/example/headlattice/headlattice/learn/Coverage", name := "checkLabel", desc := "(I)V" } : Jvm.MethodName) prog_21_method_24_code (2 : Nat) (Option.none : Option Jvm.ClassFile.FieldType), Jvm.Cond.code ({ cls := "com/example/headlattice/headlattice/learn/Coverage", name := "openPairs", desc := "(I)[I" } : Jvm.MethodName) prog_21_method_22_code (2 : Nat) (Option.some (Jvm.ClassFile.FieldType.array Jvm.ClassFile.FieldType.int)), Jvm.Cond.code ({ cls := "com/example/headlattice/headlattice/learn/Coverage", name := "checkRow", desc := "(I)V" } : Jvm.MethodName) prog_21_method_23_code (2 : Nat) (Option.none : Option Jvm.ClassFile.FieldType), Jvm.Cond.code ({ cls := "com/example/headlattice/headlattice/learn/Coverage", name := "settle", desc := "([II[Z)V" } : Jvm.MethodName) prog_21_method_13_code (10 : Nat) (Option.none : Option Jvm.ClassFile.FieldType), Jvm.Cond.code ({ cls := "java/util/Arrays", name := "copyOf", desc := "([II)[I" } : Jvm.MethodName) jdk_65_method_123_code (3 : Nat) (Option.some (Jvm.ClassFile.FieldType.array Jvm.ClassFile.FieldType.int)), Jvm.Cond.code ({ cls := "java/lang/Math", name := "min", desc := "(II)I" } : Jvm.MethodName) jdk_29_method_69_code (2 : Nat) (Option.some Jvm.ClassFile.FieldType.int)]
set_option maxRecDepth 65536 in
theorem codes_eq : words1.filter isCode = codes1 := rfl
theorem w_codes : ∀ c ∈ words1.filter isCode, c.before args0 about1 = true := by
  rw [codes_eq]
  intro c hc
  simp only [codes1, List.mem_cons, List.not_mem_nil, or_false] at hc
  rcases hc with rfl | rfl | rfl | rfl | rfl | rfl | rfl | rfl | rfl | rfl | rfl | rfl | rfl | rfl | rfl | rfl
  · exact w_c0
  · exact w_c1
  · exact w_c2
  · exact w_c3
  · exact w_c4
  · exact w_c5
  · exact w_c6
  · exact w_c7
  · exact w_c8
  · exact w_c9
  · exact w_c10
  · exact w_c11
  · exact w_c12
  · exact w_c13
  · exact w_c14
  · exact w_c15
set_option maxRecDepth 65536 in
theorem w_t1 : (words1.take 24).all (fun c => isCode c || c.before args0 about1) = true := by decide +kernel
set_option maxRecDepth 65536 in
theorem w_t2 : ((words1.drop 24).take 24).all (fun c => isCode c || c.before args0 about1) = true := by decide +kernel
set_option maxRecDepth 65536 in
theorem w_t3 : (((words1.drop 24).drop 24).take 24).all (fun c => isCode c || c.before args0 about1) = true := by decide +kernel
set_option maxRecDepth 65536 in
theorem w_t4 : (((words1.drop 24).drop 24).drop 24).all (fun c => isCode c || c.before args0 about1) = true := by decide +kernel
theorem w_tables : (allAtoms (Jvm.Cond.code x code maxLocals ret :: tables_1)).before args0 about1 = true := by
  rw [allAtoms_all]
  show words1.all (fun c => c.before args0 about1) = true
  refine all_split ?_ w_codes
  rw [← List.take_append_drop 24 words1, List.all_append, w_t1, ← List.take_append_drop 24 (words1.drop 24), List.all_append, w_t2, ← List.take_append_drop 24 ((words1.drop 24).drop 24), List.all_append, w_t3, w_t4]
  rfl
set_option maxRecDepth 65536 in
theorem w_case : (Jvm.Cond.and given_1 narrow_1).before args0 about1 = true := by decide +kernel
theorem w_applies : (headSpec (Jvm.Cond.code x code maxLocals ret :: tables_1) room_1).applies x e0.platform about1 = true :=
  (Spec.applies_iff w_frames).mpr ⟨w_running, w_runnable, w_alone, w_named, w_hears, w_ripe, w_room, w_tables⟩
theorem atStart : AtStart classFile x code maxLocals ret World_1 tables_1 room_1 Calls_1 rest_1 Pre_1 launch0 p0 e0 about1 theMethod args0 below0 :=
  ⟨lists_1, trivial, launch0.admits_env _ _ _, launch0.least_env, fairChoices_fair.cas, fairChoices_fair.clock, w_frames, w_args, w_heap, w_applies, trivial, trivial, w_case⟩
end start1
theorem witness_1 : WitnessClaimed_1 := ⟨start1.p0, start1.e0, start1.about1, start1.theMethod, start1.args0, start1.below0, start1.atStart⟩
end Jvm.Pilot.@@N@@
