import JvmDerived
import JvmDerived.Pilot.@@N@@Statement
import JvmDerived.Pilot.@@N@@Code
set_option linter.unusedVariables false
set_option linter.unusedSimpArgs false
namespace Jvm.RoadKit
open Sem ClassFile Op Lib Jvm.Stand Jvm.Free Jvm.LawKit
section New
variable {p : Program} {l : Launch} {e : Env} {R : Room} {s : State} {m : MethodId} {args : Array Value} {below : List Frame} {meth : Method} {c : Code} {T : State} {locs : List Loc} {cells slots : Nat}
theorem retI (X : Stand p l e R s m args below meth c T locs cells slots) (hx : p.tables.exec = Jvm.exec) {pc : Nat} {Ls : Array Slot} {z : Int32} {rest : List Value} (hret : meth.sig.returnType = some .int) (hd : decode c.code pc = .ok (.ireturn, 1)) {fs : List Frame}
    (hl : ∀ (f : JFrame) (acts : List Action), f.method = m → f.locked = none → f.entered = [] → (doReturn e (T.setTop f) acts (some (.int z))).1 = T.setFrames fs) : Steps p.tables e below (T.setTop (mkF m pc Ls (.int z :: rest))) (T.setFrames fs) := by
  have hm' : T.vm.method? m = some meth := X.method'
  have hn : narrow .int (.int z) = .int z := rfl
  show Steps p.tables e below (T.setTop { method := m, pc := pc, locals := Ls, stack := _ :: rest, locked := none }) _
  jvm_step X.here [X.here.top, hx, hd, hm', hret, hn]
  first | (intro acts; rw [hl _ acts rfl rfl rfl]) | rw [hl _ _ rfl rfl rfl]
  exact Steps.refl _
end New
end Jvm.RoadKit
namespace Jvm.Pilot.@@N@@
open Jvm Jvm.ClassFile Sem Op Lib Jvm.Free Jvm.Stand Jvm.LawKit Jvm.RoadKit Bundle Jvm.Pilot.@@N@@.Jvm.D
theorem mg {α : Type} {L : List α} {d : α} (i : Nat) (h : L[i]? = some d) : d ∈ L := List.mem_of_getElem? h
theorem own_ext {h h' : Heap} (K : Keep h h' []) : Ext h h' := ⟨K.1, fun a c q => K.2.1 a c q nin0⟩
theorem own_fits {t : FieldType} {x : Int32} (h : nar t x = x) (f : fits t (.int (nar t x)) = true) : fits t (.int x) = true := by rw [h] at f; exact f
theorem own_nb (x : Int32) : nar .byte (x.toInt8.toInt32) = x.toInt8.toInt32 := by simp [nar]
theorem own_nc (x : Int32) : nar .char (x.toUInt32.toUInt16.toUInt32.toInt32) = x.toUInt32.toUInt16.toUInt32.toInt32 := by
  show (x.toUInt32.toUInt16.toUInt32.toInt32).toUInt32.toUInt16.toUInt32.toInt32 = _
  rw [UInt32.toUInt32_toInt32, UInt16.toUInt16_toUInt32]
theorem own_gen {p : Program} {l : Launch} {e : Env} {R : Room} {s : State} {m : MethodId} {args : Array Value} {below : List Frame} {meth : Method} {c : Code} {T : State} {locs : List Loc} {cells slots n0 : Nat} (X : Stand p l e R s m args below meth c T locs cells slots) (N : Fr n0 locs) : ∃ L, Stand p l e R s m args below meth c T L cells slots ∧ Fr n0 L := ⟨_, X, N⟩
theorem own_ne {a b : Addr} (h : a < b) : a ≠ b := Nat.ne_of_lt h
theorem own_Sta {Z : State} {h h' : Heap} {C n d : String} {v : Value} {ws : List Addr} (F : Sta Z h C n d v) (K : Keep h h' ws) (q : ∀ x ∈ ws, ∀ cell : Cell, h[x]? = some cell → cell.vm.isStatics = false) : Sta Z h' C n d v := by
  obtain ⟨cf, i, k, f, st, cell, h1, h2, h3, h4, h5, h6, h7⟩ := F
  refine ⟨cf, i, k, f, st, cell, h1, h2, h3, h4, K.2.1 st cell h5 (fun m => ?_), h6, h7⟩
  rw [q st m cell h5] at h6
  cases h6
theorem own_priv {s : State} {args : Array Value} {y : MethodName} {n : Nat} (wi : (Cond.instantiable y.cls n).before args s = true) (hp : s.PrivateAt y) (hi : (Cond.instanceMethod y).before args s = true) (hy : y.cls ≠ "java/lang/invoke/MethodHandle" ∧ y.cls ≠ "java/lang/invoke/VarHandle") : (Cond.selects y.cls y y).before args s = true := by
  obtain ⟨c, k, h1, h2, -, h4, -⟩ := Cond.instantiable_spec wi
  exact selects_self_of_private h1 h2 (by cases hk : k.isInterface <;> simp_all) hp hi hy
theorem own_exaB {Z : State} {az : Array Value} {EL : List (String × Nat)} {vm : Vm} {h : Heap} {own text : String} {index : Nat} {a b : Addr} {mc : ClassId} {s : State} (H : CHv Z EL vm h) (hmem : (own, index) ∈ EL) (hW : Z.Warmed39 vm) (w : (Cond.stringLink own index text).before az Z = true) (hown : vm.findClass own = some mc)
    (L : Lit (s.setVm vm) own index a) (F : Fld Z h a "java/lang/String" "value" "[B" (.ref b)) : Exa Z h b "[B" := by
  have hal : Z.vm.Alike vm := hW.alike
  have w2 : (Cond.stringLink own index text).before az (Wst Z vm h) = true := mvS (s := Wst Z vm h) hW w
  obtain ⟨kc, cf, i, units, hk, hcf, hp, hu, -, -, -⟩ := Cond.stringLink_spec (s := Wst Z vm h) hown w2
  have hk' : vm.classes[mc]? = some kc := hk
  have hres : kc.resolved[index]? = some (some (.string a)) := by
    have q : (s.setVm vm).resolvedAt? own index = some (.string a) := L
    have e1 : (s.setVm vm).vm = vm := rfl
    simp only [State.resolvedAt?, e1, hown, Option.bind_eq_bind, Option.bind_some] at q
    rw [hk'] at q
    simp only [Option.bind_some] at q
    cases hr : kc.resolved[index]? with
    | none => rw [hr] at q; cases q
    | some o => rw [hr] at q; cases o with
      | none => cases q
      | some r => simpa using q
  obtain ⟨q, rfl, G⟩ := SlB.of (H _ hmem units a ⟨mc, kc, cf, i, hown, hk', hcf, hp, hu, Or.inl hres⟩)
  have ga := G.ha
  have gd := G.hd
  obtain ⟨cS, ⟨⟨-, -, -, ⟨cv, kv, iv, s4, -⟩, -, -, -, s8, -, -, s11, -⟩, -, -⟩, -, hB, -⟩ := G
  obtain ⟨kv', z4⟩ := ff_back (U := Wst Z vm h) hal s4
  obtain ⟨cell, c1, k1, i1, f1, g1, g2, -, -, -, -, g7⟩ := F
  cases (show h[q.sa]? = some q.sC from ga).symm.trans g1
  cases z4.symm.trans g2
  cases s8.symm.trans g7
  have hBZ : Z.vm.findClass "[B" = some q.SA.cls := (hal.findClass _ _).symm.trans hB
  obtain ⟨kb, hkb, -⟩ := Vm.findClass_spec hBZ
  obtain ⟨kb', hkb', ekb⟩ := hal.2.2 _ _ hkb
  obtain ⟨hst, k9, hk9, comp, hkind⟩ := s11
  have e9 : k9 = kb' := Option.some.inj ((show vm.classes[q.SA.cls]? = some k9 from hk9).symm.trans hkb')
  refine ⟨q.SA, kb, gd, hBZ, hkb, ?_, fun ho => ?_⟩
  · cases hv : q.SA.vm <;> first | rfl | exact absurd hv (hst _)
  · rw [e9, ekb] at hkind
    exact absurd (ho.symm.trans hkind) (by simp)
theorem own_safeNull {Z : State} {EL : List (String × Nat)} {vm : Vm} {h : Heap} {a : Addr} (hal : Z.vm.Alike vm) (H : CHv Z EL vm h) (E : Exa Z h a "java/lang/String") (F : Fld Z h a "java/lang/String" "value" "[B" .null) : Safe Z EL vm h a := fun B => by
  obtain ⟨p, -, u, a', -, q, -, G, rfl | rfl⟩ := B
  · have ga := G.ha
    obtain ⟨cS, ⟨⟨-, -, -, ⟨cv, kv, iv, s4, -⟩, -, -, -, s8, -, -, s11, -⟩, -, -⟩, -, hB, -⟩ := G
    obtain ⟨kv', z4⟩ := ff_back (U := Wst Z vm h) hal s4
    obtain ⟨cell, c1, k1, i1, f1, g1, g2, -, -, -, -, g7⟩ := F
    cases (show h[q.sa]? = some q.sC from ga).symm.trans g1
    cases z4.symm.trans g2
    cases s8.symm.trans g7
  · obtain ⟨cell, k, e1, e2, e3, -, -⟩ := E
    have gd := G.hd
    obtain ⟨cS, -, -, f, -⟩ := G
    cases (show h[q.sd]? = some q.SA from gd).symm.trans e1
    have f' : vm.findClass "[B" = some q.SA.cls := f
    rw [hal.findClass] at f'
    obtain ⟨k1, q1, q2⟩ := Vm.findClass_spec f'
    obtain ⟨k2, q3, q4⟩ := Vm.findClass_spec e2
    cases q1.symm.trans q3
    exact absurd (q2.symm.trans q4) (by decide)
theorem own_lremM {p : Program} {l : Launch} {e : Env} {R : Room} {s : State} {m : MethodId} {args : Array Value} {below : List Frame} {meth : Method} {c : Code} {T : State} {locs : List Loc} {cells slots : Nat} {g : JFrame} {target : State} (X : Stand p l e R s m args below meth c T locs cells slots) (hx : p.tables.exec = Jvm.exec) (hg : g.method = m) {x y : Int64} {rest : List Value} (hd : decode c.code g.pc = .ok (.lrem, 1)) (hs : g.stack = .long y :: .long x :: rest) (hy : y ≠ 0)
    (hr : Steps p.tables e below (T.setTop { g with pc := g.pc + 1, stack := .long (x % y) :: rest }) target) : Steps p.tables e below (T.setTop g) target := by
  have q : x - x / y * y = x % y := lrem_mod x y
  exact XS.lrem X.here hx hg hd hs hy (by rw [q]; exact hr)
theorem own_nf {args : Array Value} {s : State} {C : String} {y y' : MethodName} (h : (Cond.selects C y' y').before args s = true) (e : y.cls = y'.cls) : NotFace s y := fun r0 h0 => by
  obtain ⟨c2, r2, m2, q1, q2, q3, q4, kP, hkP, hkPi⟩ := Cond.selects_spec h
  have a := findClass_of_methodNamed h0
  have b := findClass_of_methodNamed q3
  rw [e] at a
  have w : r0.cls = m2.cls := Option.some.inj (a.symm.trans b)
  exact ⟨kP, by rw [w]; exact hkP, hkPi⟩
theorem own_privS {s : State} {args : Array Value} {C : String} {y : MethodName} (ws : (Cond.selects C y y).before args s = true) (hp : s.PrivateAt y) (hi : (Cond.instanceMethod y).before args s = true) (hy : y.cls ≠ "java/lang/invoke/MethodHandle" ∧ y.cls ≠ "java/lang/invoke/VarHandle") : (Cond.selects y.cls y y).before args s = true := by
  obtain ⟨mk, methM, hnamed, -, -, -⟩ := Cond.instanceMethod_spec hi
  obtain ⟨kr, hk, hn⟩ := own_nf ws rfl mk hnamed
  exact selects_self_of_private (findClass_of_methodNamed hnamed) hk hn hp hi hy
theorem own_same {a0 : Array Value} {Z : State} {C : String} {y y' : MethodName} (hsel : (Cond.selects C y' y').before a0 Z = true) (e : y.cls = y'.cls) (hi : (Cond.instanceMethod y).before a0 Z = true) (hy : y.cls ≠ "java/lang/invoke/MethodHandle" ∧ y.cls ≠ "java/lang/invoke/VarHandle") : (Cond.sameMethod y.cls y.cls y.name y.desc).before a0 Z = true := by
  obtain ⟨mk, methM, hnamed, hmethM, -, -⟩ := Cond.instanceMethod_spec hi
  have hf := State.methodFound?_of_named hnamed hy
  have hc := findClass_of_methodNamed hnamed
  obtain ⟨kr, hk, hn⟩ := own_nf hsel e mk hnamed
  have hnm : Z.methodNamed? ⟨y.cls, y.name, y.desc⟩ = some mk := hnamed
  simp [Cond.before, Cond.holds, Cond.value, hc, hf, hnm, hk, hn]
def own_Arf (Z : State) (h : Heap) (a : Addr) (k : ClassId) (ty : FieldType) (n : Int32) (f : Nat → Value) : Prop := ∃ c : Cell, Arr Z h a c ty ∧ c.cls = k ∧ c.slots.size = n.toNatClampNeg ∧ ¬ n < 0 ∧ (∀ i, i < c.slots.size → c.slots[i]? = some (f i)) ∧ ∀ i, i < c.slots.size → fits ty (f i) = true
def own_upd (f : Nat → Value) (j : Nat) (v : Value) : Nat → Value := fun i => if i = j then v else f i
theorem own_upd_eq {f : Nat → Value} {j : Nat} {v : Value} : own_upd f j v j = v := if_pos rfl
theorem own_upd_ne {f : Nat → Value} {i j : Nat} {v : Value} (q : i ≠ j) : own_upd f j v i = f i := if_neg q
section OwnArf
variable {Z : State} {h h' : Heap} {a b : Addr} {k : ClassId} {ty : FieldType} {n j : Int32} {f g : Nat → Value} {ws : List Addr} {sl : Nat} {v : Value} {c : Cell}
theorem own_Arf.lt (F : own_Arf Z h a k ty n f) : a < h.size := by obtain ⟨c, A, -⟩ := F; exact A.lt
theorem own_Arf.ext (F : own_Arf Z h a k ty n f) (E : Ext h h') : own_Arf Z h' a k ty n f := by obtain ⟨c, A, r⟩ := F; exact ⟨c, A.ext E, r⟩
theorem own_Arf.other (F : own_Arf Z h b k ty n f) (W : Wr h h' a sl v) (q : b ≠ a) : own_Arf Z h' b k ty n f := by obtain ⟨c, A, r⟩ := F; exact ⟨c, A.other W q, r⟩
theorem own_Arf.keep (F : own_Arf Z h a k ty n f) (K : Keep h h' ws) (q : a ∉ ws) : own_Arf Z h' a k ty n f := by obtain ⟨c, A, r⟩ := F; exact ⟨c, ⟨K.2.1 a c A.1 q, A.2⟩, r⟩
theorem own_Arf.new (A : Arr Z h a (newA k ty n) ty) (q : ¬ n < 0) : own_Arf Z h a k ty n (fun _ => defaultValue ty) := by
  obtain ⟨c, r1, r2, r3, r4, r5, r6⟩ := Arv.new A q
  exact ⟨c, r1, r2, r3, r4, fun i hi => r5 i hi, fun i hi => r6 i hi⟩
theorem own_Arf.nostat (A : own_Arf Z h a k ty n f) : ∀ cell : Cell, h[a]? = some cell → cell.vm.isStatics = false := by
  obtain ⟨c, r1, r2, r3, r4, r5, r6⟩ := A
  have q : Arv Z h a k ty n (List.ofFn fun i : Fin c.slots.size => f i) .null := by
    refine ⟨c, r1, r2, r3, r4, fun i hi => ?_, fun i hi => ?_⟩
    · rw [r5 i hi]; simp [List.getD_eq_getElem?_getD, hi]
    · have := r6 i hi; simpa [List.getD_eq_getElem?_getD, hi] using this
  exact q.nostat
theorem own_Arf.set (A : Arr Z h a c ty) (q1 : c.cls = k) (S : c.slots.size = n.toNatClampNeg) (q3 : ¬ n < 0) (H : ∀ i, i < c.slots.size → c.slots[i]? = some (f i)) (G : ∀ i, i < c.slots.size → fits ty (f i) = true) (hv : fits ty v = true) (W : Wr h h' a j.toNatClampNeg v) : own_Arf Z h' a k ty n (own_upd f j.toNatClampNeg v) := by
  have ez : (c.setSlot j.toNatClampNeg v).slots.size = c.slots.size := by simp [Cell.setSlot]
  refine ⟨_, A.same W, q1, by rw [ez]; exact S, q3, fun x hx => ?_, fun x hx => ?_⟩
  · rw [ez] at hx
    by_cases u : x = j.toNatClampNeg
    · subst u; rw [own_upd_eq]; simp [Cell.setSlot, hx]
    · rw [own_upd_ne u]; simp only [Cell.setSlot]; rw [Array.getElem?_setIfInBounds_ne (Ne.symm u)]; exact H x hx
  · rw [ez] at hx
    by_cases u : x = j.toNatClampNeg
    · subst u; rw [own_upd_eq]; exact hv
    · rw [own_upd_ne u]; exact G x hx
theorem own_at (H : ∀ i, i < c.slots.size → c.slots[i]? = some (f i)) (q : ¬ (j < 0 ∨ c.slots.size ≤ j.toNatClampNeg)) (u : f j.toNatClampNeg = v) : c.slots[j.toNatClampNeg]? = some v := u ▸ H _ (Nat.lt_of_not_le fun y => q (Or.inr y))
theorem own_Arf.congr (F : own_Arf Z h a k ty n f) (q : ∀ i, i < n.toNatClampNeg → g i = f i) : own_Arf Z h a k ty n g := by
  obtain ⟨c, r1, r2, r3, r4, r5, r6⟩ := F
  exact ⟨c, r1, r2, r3, r4, fun i hi => by rw [q i (r3 ▸ hi)]; exact r5 i hi, fun i hi => by rw [q i (r3 ▸ hi)]; exact r6 i hi⟩
theorem own_Arf.fit (F : own_Arf Z h a k ty n f) : ∀ i, i < n.toNatClampNeg → fits ty (f i) = true := by
  obtain ⟨c, r1, r2, r3, r4, r5, r6⟩ := F
  exact fun i hi => r6 i (r3.symm ▸ hi)
theorem own_any_at (H : ∀ i, i < c.slots.size → c.slots[i]? = some (f i)) (G : ∀ i, i < c.slots.size → fits ty (f i) = true) (q : ¬ (j < 0 ∨ c.slots.size ≤ j.toNatClampNeg)) (t : ty = .int ∨ ty = .boolean ∨ ty = .byte ∨ ty = .char ∨ ty = .short) : ∃ x, c.slots[j.toNatClampNeg]? = some (.int x) := by
  have b : j.toNatClampNeg < c.slots.size := Nat.lt_of_not_le fun y => q (Or.inr y)
  obtain ⟨x, hx⟩ := fit_I (G _ b) t
  exact ⟨x, hx ▸ H _ b⟩
def own_Any (Z : State) (h : Heap) (a : Addr) (k : ClassId) (ty : FieldType) (n : Int32) : Prop := ∃ f, own_Arf Z h a k ty n f
theorem own_Any.lt (F : own_Any Z h a k ty n) : a < h.size := by obtain ⟨f, F⟩ := F; exact F.lt
theorem own_Any.ext (F : own_Any Z h a k ty n) (E : Ext h h') : own_Any Z h' a k ty n := by obtain ⟨f, F⟩ := F; exact ⟨f, F.ext E⟩
theorem own_Any.other (F : own_Any Z h b k ty n) (W : Wr h h' a sl v) (q : b ≠ a) : own_Any Z h' b k ty n := by obtain ⟨f, F⟩ := F; exact ⟨f, F.other W q⟩
theorem own_Any.keep (F : own_Any Z h a k ty n) (K : Keep h h' ws) (q : a ∉ ws) : own_Any Z h' a k ty n := by obtain ⟨f, F⟩ := F; exact ⟨f, F.keep K q⟩
theorem own_Any.nostat (F : own_Any Z h a k ty n) : ∀ cell : Cell, h[a]? = some cell → cell.vm.isStatics = false := by obtain ⟨f, F⟩ := F; exact F.nostat
def own_cpf (f : Nat → Value) (sp : Nat) (g : Nat → Value) (dp n : Nat) : Nat → Value := fun i => if dp ≤ i ∧ i < dp + n then f (sp + (i - dp)) else g i
theorem own_Arf.toV (F : own_Arf Z h a k ty n f) : Arv Z h a k ty n ((List.range n.toNatClampNeg).map f) .null := by
  obtain ⟨c, r1, r2, r3, r4, r5, r6⟩ := F
  refine ⟨c, r1, r2, r3, r4, fun i hi => ?_, fun i hi => ?_⟩
  · rw [r5 i hi]; rw [r3] at hi; simp [List.getD_eq_getElem?_getD, hi]
  · have := r6 i hi; rw [r3] at hi; simpa [List.getD_eq_getElem?_getD, hi] using this
theorem own_Arf.ofV {vs : List Value} {d : Value} (F : Arv Z h a k ty n vs d) (q : ∀ i, i < n.toNatClampNeg → f i = vs.getD i d) : own_Arf Z h a k ty n f := by
  obtain ⟨c, r1, r2, r3, r4, r5, r6⟩ := F
  exact ⟨c, r1, r2, r3, r4, fun i hi => by rw [q i (r3 ▸ hi)]; exact r5 i hi, fun i hi => by rw [q i (r3 ▸ hi)]; exact r6 i hi⟩
theorem own_Arf.cl (A : Arv Z h a k ty n ((List.range n.toNatClampNeg).map f) .null) : own_Arf Z h a k ty n f := own_Arf.ofV A (fun i hi => by simp [List.getD_eq_getElem?_getD, hi])
theorem own_cpA {p : Program} {l : Launch} {e : Env} {R : Room} {s : State} {m : MethodId} {args : Array Value} {below : List Frame} {meth : Method} {c : Code} {T : State} {locs : List Loc} {cells slots : Nat} (X : Stand p l e R s m args below meth c T locs cells slots) (hx : p.tables.exec = Jvm.exec) (hZ : Z.Warmed39 s.vm) {a0 : Array Value} {own : String} {index : Nat} (hown : s.vm.findClass own = some m.cls)
    (w1 : (Cond.methodLink own index Jvm.Stand.acN).before a0 Z = true) (w2 : (Cond.native Jvm.Stand.acN).before a0 Z = true) (w3 : (Cond.static Jvm.Stand.acN).before a0 Z = true) (w4 : (Cond.initialized "java/lang/System").before a0 Z = true) (eT : T.heap = h)
    {k' : ClassId} {z' sp dp nn : Int32} {f' : Nat → Value} (A : own_Arf Z h a k ty n f) (B : own_Arf Z h b k' ty z' f') (hty : refKind ty = false)
    (h1 : ¬ sp < 0) (h2 : ¬ dp < 0) (h3 : ¬ nn < 0) (h4 : sp.toNatClampNeg + nn.toNatClampNeg ≤ n.toNatClampNeg) (h5 : dp.toNatClampNeg + nn.toNatClampNeg ≤ z'.toNatClampNeg) {n0 : Nat} (N : Fr n0 locs) (ge : n0 ≤ b)
    {g : JFrame} (hg : g.method = m) (hsize : g.locals.size = c.maxLocals) {rest : List Value} (hs : g.stack = .int nn :: .int dp :: .ref b :: .int sp :: .ref a :: rest) (hd : decode c.code g.pc = .ok (.invokestatic index, 3))
    (hf : 1 ≤ R.frames) {W : Nat} (hW : 2 * g.monitorRoom + (rest.map fun v => v.category).sum ≤ W) (hlo : W + (nativeFrameWords "java/lang/System" "arraycopy" 5 + 11) ≤ R.locals) :
    ∃ T' h' L, Stand p l e R s m args below meth c T' L cells slots ∧ T'.heap = h' ∧ Fr n0 L ∧ Keep h h' [b] ∧ own_Arf Z h' b k' ty z' (own_cpf f sp.toNatClampNeg f' dp.toNatClampNeg nn.toNatClampNeg) ∧
      ∀ target, Steps p.tables e below (T'.setTop { g with pc := g.pc + 3, stack := rest }) target → Steps p.tables e below (T.setTop g) target := by
  obtain ⟨T', h', L, q1, q2, q3, q4, q5, q6⟩ := cpA X hx hZ hown w1 w2 w3 w4 eT A.toV B.toV (us := (List.range nn.toNatClampNeg).map fun i => ((List.range n.toNatClampNeg).map f).getD (sp.toNatClampNeg + i) .null) (Or.inl ⟨rfl, hty⟩) h1 h2 h3 h4 h5 rfl (by simpa using h5) N ge hg hsize hs hd hf hW hlo
  refine ⟨T', h', L, q1, q2, q3, q4, own_Arf.ofV q5 fun i hi => ?_, q6⟩
  simp only [own_cpf, List.getD_eq_getElem?_getD]
  by_cases c1 : i < dp.toNatClampNeg
  · rw [if_neg (by omega), List.append_assoc, List.getElem?_append_left (by simp; omega), List.getElem?_take_of_lt c1]; simp [hi]
  · by_cases c2 : i < dp.toNatClampNeg + nn.toNatClampNeg
    · rw [if_pos ⟨by omega, c2⟩, List.getElem?_append_left (by simp; omega), List.getElem?_append_right (by simp; omega)]
      have e1 : (List.take dp.toNatClampNeg (List.map f' (List.range z'.toNatClampNeg))).length = dp.toNatClampNeg := by simp; omega
      rw [e1]
      have e2 : i - dp.toNatClampNeg < nn.toNatClampNeg := by omega
      have e3 : sp.toNatClampNeg + (i - dp.toNatClampNeg) < n.toNatClampNeg := by omega
      simp [e2, e3]
    · rw [if_neg (by omega), List.getElem?_append_right (by simp; omega)]
      have e1 : (List.take dp.toNatClampNeg (List.map f' (List.range z'.toNatClampNeg)) ++ (List.range nn.toNatClampNeg).map fun i => ((List.map f (List.range n.toNatClampNeg))[sp.toNatClampNeg + i]?).getD .null).length = dp.toNatClampNeg + nn.toNatClampNeg := by simp; omega
      rw [e1, List.getElem?_drop, show dp.toNatClampNeg + nn.toNatClampNeg + (i - (dp.toNatClampNeg + nn.toNatClampNeg)) = i by omega]
      simp [hi]
end OwnArf
theorem own_mono {l : Launch} {x : MethodName} {S : Spec} {P : Array Value → State → Prop} {K : Program → Env → List Frame → State → Array Value → Prop} {Q Q' : Option Value → Heap → List Loc → Prop} {E : State → Outcome → State → List Loc → Prop} (M : MetFree l x S P K (fun _ U o U' => ∃ v L, o = .returned v ∧ Q v U'.heap L ∧ E U o U' L)) (H : ∀ v h L, Q v h L → Q' v h L) : MetFree l x S P K (fun _ U o U' => ∃ v L, o = .returned v ∧ Q' v U'.heap L ∧ E U o U' L) := fun p e a1 a2 a3 s m args below a4 a5 a6 a7 => by
  obtain ⟨n, o, b1, b2, b3, v, L, c1, c2, c3⟩ := M p e a1 a2 a3 s m args below a4 a5 a6 a7
  exact ⟨n, o, b1, b2, b3, v, L, c1, H _ _ _ c2, c3⟩
def own_At (p : Program) (l : Launch) (e : Env) (R : Room) (s : State) (m : MethodId) (args : Array Value) (below : List Frame) (meth : Method) (c : Code) (n0 cells slots : Nat) (h : Heap) (T : State) : Prop := ∃ L, Stand p l e R s m args below meth c T L cells slots ∧ T.heap = h ∧ Fr n0 L
def own_Seg (p : Program) (l : Launch) (e : Env) (R : Room) (s : State) (m : MethodId) (args : Array Value) (below : List Frame) (meth : Method) (c : Code) (n0 c1 s1 c2 s2 : Nat) (h : Heap) (g : JFrame) (Q : Heap → JFrame → Prop) : Prop := ∀ T, own_At p l e R s m args below meth c n0 c1 s1 h T → ∃ T' h' g', Q h' g' ∧ own_At p l e R s m args below meth c n0 c2 s2 h' T' ∧ ∀ t, Steps p.tables e below (T'.setTop g') t → Steps p.tables e below (T.setTop g) t
section OwnSeg
variable {p : Program} {l : Launch} {e : Env} {R : Room} {s : State} {m : MethodId} {args : Array Value} {below : List Frame} {meth : Method} {c : Code} {n0 c1 s1 c2 s2 c3 s3 : Nat} {h : Heap} {g : JFrame} {Q Q' : Heap → JFrame → Prop}
theorem own_Seg.bind (A : own_Seg p l e R s m args below meth c n0 c1 s1 c2 s2 h g Q) (B : ∀ h' g', Q h' g' → own_Seg p l e R s m args below meth c n0 c2 s2 c3 s3 h' g' Q') : own_Seg p l e R s m args below meth c n0 c1 s1 c3 s3 h g Q' := fun T a => by
  obtain ⟨T1, h1, g1, q1, a1, k1⟩ := A T a
  obtain ⟨T2, h2, g2, q2, a2, k2⟩ := B h1 g1 q1 T1 a1
  exact ⟨T2, h2, g2, q2, a2, fun t k => k1 t (k2 t k)⟩
theorem own_Seg.mono (A : own_Seg p l e R s m args below meth c n0 c1 s1 c2 s2 h g Q) (B : ∀ h' g', Q h' g' → Q' h' g') : own_Seg p l e R s m args below meth c n0 c1 s1 c2 s2 h g Q' := fun T a => by
  obtain ⟨T1, h1, g1, q1, a1, k1⟩ := A T a
  exact ⟨T1, h1, g1, B _ _ q1, a1, k1⟩
theorem own_Seg.done (q : Q h g) : own_Seg p l e R s m args below meth c n0 c1 s1 c1 s1 h g Q := fun T a => ⟨T, h, g, q, a, fun _ k => k⟩
end OwnSeg
abbrev vI (x : Int32) : Slot := .val (.int x)
abbrev vR (x : Addr) : Slot := .val (.ref x)
abbrev cLW : String := "com/example/key_lease/keylease/store/WatchedNameClosedStorePinLaw"
abbrev cSX : String := "com/example/key_lease/keylease/store/StoreException"
abbrev cST : String := "java/lang/String"
abbrev cAB : String := "java/lang/AbstractStringBuilder"
abbrev cSB : String := "java/lang/StringBuilder"
abbrev cTN : String := "java/lang/Throwable"
abbrev cWN : String := "com/example/key_lease/keylease/store/WatchedName"
abbrev SP (p : Program) (e : Env) (b : List Frame) (T : State) (g : JFrame) (t : State) : Prop := Steps p.tables e b (T.setTop g) t
abbrev MF (l : Launch) (Z : State) (h0 : Heap) (ws : List Jvm.Cond) (y : MethodName) (b : ByteArray) (k : Nat) (r : Option FieldType) (R : Room) (a : Array Value) (Q : Option Value → Heap → List Loc → Prop) : Prop := MetFree l y (head1 (Jvm.Cond.code y b k r :: ws) R) (fun a' U => a' = a ∧ Z.Warmed39 U.vm ∧ U.heap = h0) (fun _ _ _ _ _ => True) (fun _ U o U' => ∃ v L, o = .returned v ∧ Q v U'.heap L ∧ FrameEnd U o U' L R.cells R.slots)
abbrev HW (Z : State) (az : Array Value) : Prop := ∀ d ∈ tables_1, d.before az Z = true
section OwnW
variable {Z : State} {az : Array Value}
theorem w0 (hw : HW Z az) : (Cond.methodLink "com/example/key_lease/keylease/store/WatchedNameClosedStorePinLaw" 7 ⟨"com/example/key_lease/keylease/store/WatchedNameClosedStorePinLaw", "str", "(ICCC)Ljava/lang/String;"⟩).before az Z = true := hw _ (mg 0 rfl)
theorem w1 (hw : HW Z az) : (Cond.static ⟨"com/example/key_lease/keylease/store/WatchedNameClosedStorePinLaw", "str", "(ICCC)Ljava/lang/String;"⟩).before az Z = true := hw _ (mg 1 rfl)
theorem w2 (hw : HW Z az) : (Cond.initialized "com/example/key_lease/keylease/store/WatchedNameClosedStorePinLaw").before az Z = true := hw _ (mg 2 rfl)
theorem w3 (hw : HW Z az) : (Cond.code ⟨"com/example/key_lease/keylease/store/WatchedNameClosedStorePinLaw", "str", "(ICCC)Ljava/lang/String;"⟩ method_3_code 5 (some (FieldType.object "java/lang/String"))).before az Z = true := hw _ (mg 3 rfl)
theorem w4 (hw : HW Z az) : (Cond.classLink "com/example/key_lease/keylease/store/WatchedNameClosedStorePinLaw" 30 "java/lang/String").before az Z = true := hw _ (mg 4 rfl)
theorem w5 (hw : HW Z az) : (Cond.instantiable "java/lang/String" 4).before az Z = true := hw _ (mg 5 rfl)
theorem w6 (hw : HW Z az) : (Cond.initialized "java/lang/String").before az Z = true := hw _ (mg 6 rfl)
theorem w7 (hw : HW Z az) : (Cond.arrayClass FieldType.char).before az Z = true := hw _ (mg 7 rfl)
theorem w8 (hw : HW Z az) : (Cond.methodLink "com/example/key_lease/keylease/store/WatchedNameClosedStorePinLaw" 43 ⟨"java/lang/String", "<init>", "([C)V"⟩).before az Z = true := hw _ (mg 8 rfl)
theorem w9 (hw : HW Z az) : (Cond.instanceMethod ⟨"java/lang/String", "<init>", "([C)V"⟩).before az Z = true := hw _ (mg 9 rfl)
theorem w10 (hw : HW Z az) : (Cond.code ⟨"java/lang/String", "<init>", "([C)V"⟩ jdk_42_method_3_code 2 none).before az Z = true := hw _ (mg 10 rfl)
theorem w11 (hw : HW Z az) : (Cond.methodLink "java/lang/String" 27 ⟨"java/lang/String", "<init>", "([CIILjava/lang/Void;)V"⟩).before az Z = true := hw _ (mg 11 rfl)
theorem w12 (hw : HW Z az) : (Cond.instanceMethod ⟨"java/lang/String", "<init>", "([CIILjava/lang/Void;)V"⟩).before az Z = true := hw _ (mg 12 rfl)
theorem w14 (hw : HW Z az) : (Cond.code ⟨"java/lang/String", "<init>", "([CIILjava/lang/Void;)V"⟩ jdk_42_method_149_code 6 none).before az Z = true := hw _ (mg 14 rfl)
theorem w15 (hw : HW Z az) : (Cond.methodLink "java/lang/String" 1 ⟨"java/lang/Object", "<init>", "()V"⟩).before az Z = true := hw _ (mg 15 rfl)
theorem w16 (hw : HW Z az) : (Cond.instanceMethod ⟨"java/lang/Object", "<init>", "()V"⟩).before az Z = true := hw _ (mg 16 rfl)
theorem w17 (hw : HW Z az) : (Cond.code ⟨"java/lang/Object", "<init>", "()V"⟩ object_method_1_code 1 none).before az Z = true := hw _ (mg 17 rfl)
theorem w18 (hw : HW Z az) : (Cond.stringLink "java/lang/String" 7 "").before az Z = true := hw _ (mg 18 rfl)
theorem w19 (hw : HW Z az) : (Cond.arrayClass FieldType.byte).before az Z = true := hw _ (mg 19 rfl)
theorem w20 (hw : HW Z az) : (Cond.laysFinal "java/lang/String" "java/lang/String" "value" "[B").before az Z = true := hw _ (mg 20 rfl)
theorem w21 (hw : HW Z az) : (Cond.laysFinal "java/lang/String" "java/lang/String" "coder" "B").before az Z = true := hw _ (mg 21 rfl)
theorem w24 (hw : HW Z az) : (Cond.fieldLink "java/lang/String" 9 "java/lang/String" "value" "[B").before az Z = true := hw _ (mg 24 rfl)
theorem w25 (hw : HW Z az) : (Cond.fieldLink "java/lang/String" 15 "java/lang/String" "coder" "B").before az Z = true := hw _ (mg 25 rfl)
theorem w26 (hw : HW Z az) : (Cond.methodLink "com/example/key_lease/keylease/store/WatchedNameClosedStorePinLaw" 13 ⟨"com/example/key_lease/keylease/store/WatchedName", "closedStore", "(Ljava/lang/String;Ljava/lang/String;)Lcom/example/key_lease/keylease/store/StoreException;"⟩).before az Z = true := hw _ (mg 26 rfl)
theorem w27 (hw : HW Z az) : (Cond.static ⟨"com/example/key_lease/keylease/store/WatchedName", "closedStore", "(Ljava/lang/String;Ljava/lang/String;)Lcom/example/key_lease/keylease/store/StoreException;"⟩).before az Z = true := hw _ (mg 27 rfl)
theorem w28 (hw : HW Z az) : (Cond.initialized "com/example/key_lease/keylease/store/WatchedName").before az Z = true := hw _ (mg 28 rfl)
theorem w29 (hw : HW Z az) : (Cond.code ⟨"com/example/key_lease/keylease/store/WatchedName", "closedStore", "(Ljava/lang/String;Ljava/lang/String;)Lcom/example/key_lease/keylease/store/StoreException;"⟩ prog_20_method_2_code 2 (some (FieldType.object "com/example/key_lease/keylease/store/StoreException"))).before az Z = true := hw _ (mg 29 rfl)
theorem w30 (hw : HW Z az) : (Cond.classLink "com/example/key_lease/keylease/store/WatchedName" 27 "com/example/key_lease/keylease/store/StoreException").before az Z = true := hw _ (mg 30 rfl)
theorem w31 (hw : HW Z az) : (Cond.instantiable "com/example/key_lease/keylease/store/StoreException" 6).before az Z = true := hw _ (mg 31 rfl)
theorem w32 (hw : HW Z az) : (Cond.initialized "com/example/key_lease/keylease/store/StoreException").before az Z = true := hw _ (mg 32 rfl)
theorem w33 (hw : HW Z az) : (Cond.classLink "com/example/key_lease/keylease/store/WatchedName" 29 "java/lang/StringBuilder").before az Z = true := hw _ (mg 33 rfl)
theorem w34 (hw : HW Z az) : (Cond.instantiable "java/lang/StringBuilder" 4).before az Z = true := hw _ (mg 34 rfl)
theorem w35 (hw : HW Z az) : (Cond.initialized "java/lang/StringBuilder").before az Z = true := hw _ (mg 35 rfl)
theorem w36 (hw : HW Z az) : (Cond.methodLink "com/example/key_lease/keylease/store/WatchedName" 31 ⟨"java/lang/StringBuilder", "<init>", "()V"⟩).before az Z = true := hw _ (mg 36 rfl)
theorem w37 (hw : HW Z az) : (Cond.instanceMethod ⟨"java/lang/StringBuilder", "<init>", "()V"⟩).before az Z = true := hw _ (mg 37 rfl)
theorem w38 (hw : HW Z az) : (Cond.code ⟨"java/lang/StringBuilder", "<init>", "()V"⟩ jdk_67_method_1_code 1 none).before az Z = true := hw _ (mg 38 rfl)
theorem w39 (hw : HW Z az) : (Cond.methodLink "java/lang/StringBuilder" 1 ⟨"java/lang/AbstractStringBuilder", "<init>", "(I)V"⟩).before az Z = true := hw _ (mg 39 rfl)
theorem w40 (hw : HW Z az) : (Cond.instanceMethod ⟨"java/lang/AbstractStringBuilder", "<init>", "(I)V"⟩).before az Z = true := hw _ (mg 40 rfl)
theorem w43 (hw : HW Z az) : (Cond.initialized "java/lang/AbstractStringBuilder").before az Z = true := hw _ (mg 43 rfl)
theorem w44 (hw : HW Z az) : (Cond.code ⟨"java/lang/AbstractStringBuilder", "<init>", "(I)V"⟩ jdk_68_method_2_code 2 none).before az Z = true := hw _ (mg 44 rfl)
theorem w45 (hw : HW Z az) : (Cond.methodLink "java/lang/AbstractStringBuilder" 3 ⟨"java/lang/Object", "<init>", "()V"⟩).before az Z = true := hw _ (mg 45 rfl)
theorem w46 (hw : HW Z az) : (Cond.fieldLink "java/lang/AbstractStringBuilder" 18 "java/lang/String" "COMPACT_STRINGS" "Z").before az Z = true := hw _ (mg 46 rfl)
theorem w47 (hw : HW Z az) : (Cond.fieldLink "java/lang/AbstractStringBuilder" 15 "java/lang/AbstractStringBuilder" "value" "[B").before az Z = true := hw _ (mg 47 rfl)
theorem w48 (hw : HW Z az) : (Cond.lays "java/lang/StringBuilder" "java/lang/AbstractStringBuilder" "value" "[B").before az Z = true := hw _ (mg 48 rfl)
theorem w49 (hw : HW Z az) : (Cond.fieldLink "java/lang/AbstractStringBuilder" 22 "java/lang/AbstractStringBuilder" "coder" "B").before az Z = true := hw _ (mg 49 rfl)
theorem w50 (hw : HW Z az) : (Cond.lays "java/lang/StringBuilder" "java/lang/AbstractStringBuilder" "coder" "B").before az Z = true := hw _ (mg 50 rfl)
theorem w51 (hw : HW Z az) : (Cond.methodLink "com/example/key_lease/keylease/store/WatchedName" 32 ⟨"java/lang/StringBuilder", "append", "(Ljava/lang/String;)Ljava/lang/StringBuilder;"⟩).before az Z = true := hw _ (mg 51 rfl)
theorem w52 (hw : HW Z az) : (Cond.declares ⟨"java/lang/StringBuilder", "append", "(Ljava/lang/String;)Ljava/lang/StringBuilder;"⟩).before az Z = true := hw _ (mg 52 rfl)
theorem w53 (hw : HW Z az) : (Cond.instanceMethod ⟨"java/lang/StringBuilder", "append", "(Ljava/lang/String;)Ljava/lang/StringBuilder;"⟩).before az Z = true := hw _ (mg 53 rfl)
theorem w54 (hw : HW Z az) : (Cond.selects "java/lang/StringBuilder" ⟨"java/lang/StringBuilder", "append", "(Ljava/lang/String;)Ljava/lang/StringBuilder;"⟩ ⟨"java/lang/StringBuilder", "append", "(Ljava/lang/String;)Ljava/lang/StringBuilder;"⟩).before az Z = true := hw _ (mg 54 rfl)
theorem w55 (hw : HW Z az) : (Cond.code ⟨"java/lang/StringBuilder", "append", "(Ljava/lang/String;)Ljava/lang/StringBuilder;"⟩ jdk_67_method_7_code 2 (some (FieldType.object "java/lang/StringBuilder"))).before az Z = true := hw _ (mg 55 rfl)
theorem w56 (hw : HW Z az) : (Cond.methodLink "java/lang/StringBuilder" 29 ⟨"java/lang/AbstractStringBuilder", "append", "(Ljava/lang/String;)Ljava/lang/AbstractStringBuilder;"⟩).before az Z = true := hw _ (mg 56 rfl)
theorem w57 (hw : HW Z az) : (Cond.instanceMethod ⟨"java/lang/AbstractStringBuilder", "append", "(Ljava/lang/String;)Ljava/lang/AbstractStringBuilder;"⟩).before az Z = true := hw _ (mg 57 rfl)
theorem w58 (hw : HW Z az) : (Cond.superclass "java/lang/StringBuilder" "java/lang/AbstractStringBuilder").before az Z = true := hw _ (mg 58 rfl)
theorem w60 (hw : HW Z az) : (Cond.code ⟨"java/lang/AbstractStringBuilder", "append", "(Ljava/lang/String;)Ljava/lang/AbstractStringBuilder;"⟩ jdk_68_method_22_code 3 (some (FieldType.object "java/lang/AbstractStringBuilder"))).before az Z = true := hw _ (mg 60 rfl)
theorem w61 (hw : HW Z az) : (Cond.methodLink "java/lang/AbstractStringBuilder" 32 ⟨"java/lang/String", "length", "()I"⟩).before az Z = true := hw _ (mg 61 rfl)
theorem w62 (hw : HW Z az) : (Cond.declares ⟨"java/lang/String", "length", "()I"⟩).before az Z = true := hw _ (mg 62 rfl)
theorem w63 (hw : HW Z az) : (Cond.instanceMethod ⟨"java/lang/String", "length", "()I"⟩).before az Z = true := hw _ (mg 63 rfl)
theorem w64 (hw : HW Z az) : (Cond.selects "java/lang/String" ⟨"java/lang/String", "length", "()I"⟩ ⟨"java/lang/String", "length", "()I"⟩).before az Z = true := hw _ (mg 64 rfl)
theorem w65 (hw : HW Z az) : (Cond.code ⟨"java/lang/String", "length", "()I"⟩ jdk_42_method_54_code 1 (some FieldType.int)).before az Z = true := hw _ (mg 65 rfl)
theorem w66 (hw : HW Z az) : (Cond.methodLink "java/lang/String" 335 ⟨"java/lang/String", "coder", "()B"⟩).before az Z = true := hw _ (mg 66 rfl)
theorem w67 (hw : HW Z az) : (Cond.declares ⟨"java/lang/String", "coder", "()B"⟩).before az Z = true := hw _ (mg 67 rfl)
theorem w68 (hw : HW Z az) : (Cond.instanceMethod ⟨"java/lang/String", "coder", "()B"⟩).before az Z = true := hw _ (mg 68 rfl)
theorem w69 (hw : HW Z az) : (Cond.selects "java/lang/String" ⟨"java/lang/String", "coder", "()B"⟩ ⟨"java/lang/String", "coder", "()B"⟩).before az Z = true := hw _ (mg 69 rfl)
theorem w70 (hw : HW Z az) : (Cond.code ⟨"java/lang/String", "coder", "()B"⟩ jdk_42_method_152_code 1 (some FieldType.byte)).before az Z = true := hw _ (mg 70 rfl)
theorem w71 (hw : HW Z az) : (Cond.fieldLink "java/lang/String" 38 "java/lang/String" "COMPACT_STRINGS" "Z").before az Z = true := hw _ (mg 71 rfl)
theorem w72 (hw : HW Z az) : (Cond.fieldLink "java/lang/AbstractStringBuilder" 79 "java/lang/AbstractStringBuilder" "count" "I").before az Z = true := hw _ (mg 72 rfl)
theorem w73 (hw : HW Z az) : (Cond.lays "java/lang/StringBuilder" "java/lang/AbstractStringBuilder" "count" "I").before az Z = true := hw _ (mg 73 rfl)
theorem w74 (hw : HW Z az) : (Cond.methodLink "java/lang/AbstractStringBuilder" 100 ⟨"java/lang/AbstractStringBuilder", "ensureCapacityInternal", "(I)V"⟩).before az Z = true := hw _ (mg 74 rfl)
theorem w75 (hw : HW Z az) : (Cond.instanceMethod ⟨"java/lang/AbstractStringBuilder", "ensureCapacityInternal", "(I)V"⟩).before az Z = true := hw _ (mg 75 rfl)
theorem w76 (hw : HW Z az) : (Cond.privateMethod ⟨"java/lang/AbstractStringBuilder", "ensureCapacityInternal", "(I)V"⟩).before az Z = true := hw _ (mg 76 rfl)
theorem w77 (hw : HW Z az) : (Cond.selects "java/lang/StringBuilder" ⟨"java/lang/AbstractStringBuilder", "ensureCapacityInternal", "(I)V"⟩ ⟨"java/lang/AbstractStringBuilder", "ensureCapacityInternal", "(I)V"⟩).before az Z = true := hw _ (mg 77 rfl)
theorem w78 (hw : HW Z az) : (Cond.code ⟨"java/lang/AbstractStringBuilder", "ensureCapacityInternal", "(I)V"⟩ jdk_68_method_9_code 3 none).before az Z = true := hw _ (mg 78 rfl)
theorem w79 (hw : HW Z az) : (Cond.methodLink "java/lang/AbstractStringBuilder" 208 ⟨"java/lang/AbstractStringBuilder", "putStringAt", "(ILjava/lang/String;)V"⟩).before az Z = true := hw _ (mg 79 rfl)
theorem w80 (hw : HW Z az) : (Cond.instanceMethod ⟨"java/lang/AbstractStringBuilder", "putStringAt", "(ILjava/lang/String;)V"⟩).before az Z = true := hw _ (mg 80 rfl)
theorem w81 (hw : HW Z az) : (Cond.privateMethod ⟨"java/lang/AbstractStringBuilder", "putStringAt", "(ILjava/lang/String;)V"⟩).before az Z = true := hw _ (mg 81 rfl)
theorem w82 (hw : HW Z az) : (Cond.selects "java/lang/StringBuilder" ⟨"java/lang/AbstractStringBuilder", "putStringAt", "(ILjava/lang/String;)V"⟩ ⟨"java/lang/AbstractStringBuilder", "putStringAt", "(ILjava/lang/String;)V"⟩).before az Z = true := hw _ (mg 82 rfl)
theorem w83 (hw : HW Z az) : (Cond.code ⟨"java/lang/AbstractStringBuilder", "putStringAt", "(ILjava/lang/String;)V"⟩ jdk_68_method_73_code 3 none).before az Z = true := hw _ (mg 83 rfl)
theorem w84 (hw : HW Z az) : (Cond.methodLink "java/lang/AbstractStringBuilder" 397 ⟨"java/lang/AbstractStringBuilder", "inflateIfNeededFor", "(Ljava/lang/String;)V"⟩).before az Z = true := hw _ (mg 84 rfl)
theorem w85 (hw : HW Z az) : (Cond.instanceMethod ⟨"java/lang/AbstractStringBuilder", "inflateIfNeededFor", "(Ljava/lang/String;)V"⟩).before az Z = true := hw _ (mg 85 rfl)
theorem w86 (hw : HW Z az) : (Cond.privateMethod ⟨"java/lang/AbstractStringBuilder", "inflateIfNeededFor", "(Ljava/lang/String;)V"⟩).before az Z = true := hw _ (mg 86 rfl)
theorem w87 (hw : HW Z az) : (Cond.selects "java/lang/StringBuilder" ⟨"java/lang/AbstractStringBuilder", "inflateIfNeededFor", "(Ljava/lang/String;)V"⟩ ⟨"java/lang/AbstractStringBuilder", "inflateIfNeededFor", "(Ljava/lang/String;)V"⟩).before az Z = true := hw _ (mg 87 rfl)
theorem w88 (hw : HW Z az) : (Cond.code ⟨"java/lang/AbstractStringBuilder", "inflateIfNeededFor", "(Ljava/lang/String;)V"⟩ jdk_68_method_71_code 2 none).before az Z = true := hw _ (mg 88 rfl)
theorem w89 (hw : HW Z az) : (Cond.methodLink "java/lang/AbstractStringBuilder" 40 ⟨"java/lang/String", "coder", "()B"⟩).before az Z = true := hw _ (mg 89 rfl)
theorem w90 (hw : HW Z az) : (Cond.methodLink "java/lang/AbstractStringBuilder" 399 ⟨"java/lang/String", "getBytes", "([BIB)V"⟩).before az Z = true := hw _ (mg 90 rfl)
theorem w91 (hw : HW Z az) : (Cond.declares ⟨"java/lang/String", "getBytes", "([BIB)V"⟩).before az Z = true := hw _ (mg 91 rfl)
theorem w92 (hw : HW Z az) : (Cond.instanceMethod ⟨"java/lang/String", "getBytes", "([BIB)V"⟩).before az Z = true := hw _ (mg 92 rfl)
theorem w93 (hw : HW Z az) : (Cond.selects "java/lang/String" ⟨"java/lang/String", "getBytes", "([BIB)V"⟩ ⟨"java/lang/String", "getBytes", "([BIB)V"⟩).before az Z = true := hw _ (mg 93 rfl)
theorem w94 (hw : HW Z az) : (Cond.code ⟨"java/lang/String", "getBytes", "([BIB)V"⟩ jdk_42_method_147_code 4 none).before az Z = true := hw _ (mg 94 rfl)
theorem w95 (hw : HW Z az) : (Cond.methodLink "java/lang/String" 212 ⟨"java/lang/System", "arraycopy", "(Ljava/lang/Object;ILjava/lang/Object;II)V"⟩).before az Z = true := hw _ (mg 95 rfl)
theorem w96 (hw : HW Z az) : (Cond.static ⟨"java/lang/System", "arraycopy", "(Ljava/lang/Object;ILjava/lang/Object;II)V"⟩).before az Z = true := hw _ (mg 96 rfl)
theorem w97 (hw : HW Z az) : (Cond.initialized "java/lang/System").before az Z = true := hw _ (mg 97 rfl)
theorem w98 (hw : HW Z az) : (Cond.native ⟨"java/lang/System", "arraycopy", "(Ljava/lang/Object;ILjava/lang/Object;II)V"⟩).before az Z = true := hw _ (mg 98 rfl)
theorem w99 (hw : HW Z az) : (Cond.stringLink "com/example/key_lease/keylease/store/WatchedName" 36 " is closed: it hears no release of ").before az Z = true := hw _ (mg 99 rfl)
theorem w100 (hw : HW Z az) : (Cond.methodLink "java/lang/AbstractStringBuilder" 104 ⟨"java/lang/AbstractStringBuilder", "newCapacity", "(I)I"⟩).before az Z = true := hw _ (mg 100 rfl)
theorem w101 (hw : HW Z az) : (Cond.instanceMethod ⟨"java/lang/AbstractStringBuilder", "newCapacity", "(I)I"⟩).before az Z = true := hw _ (mg 101 rfl)
theorem w102 (hw : HW Z az) : (Cond.privateMethod ⟨"java/lang/AbstractStringBuilder", "newCapacity", "(I)I"⟩).before az Z = true := hw _ (mg 102 rfl)
theorem w103 (hw : HW Z az) : (Cond.selects "java/lang/StringBuilder" ⟨"java/lang/AbstractStringBuilder", "newCapacity", "(I)I"⟩ ⟨"java/lang/AbstractStringBuilder", "newCapacity", "(I)I"⟩).before az Z = true := hw _ (mg 103 rfl)
theorem w104 (hw : HW Z az) : (Cond.code ⟨"java/lang/AbstractStringBuilder", "newCapacity", "(I)I"⟩ jdk_68_method_10_code 6 (some FieldType.int)).before az Z = true := hw _ (mg 104 rfl)
theorem w105 (hw : HW Z az) : (Cond.methodLink "java/lang/AbstractStringBuilder" 114 ⟨"jdk/internal/util/ArraysSupport", "newLength", "(III)I"⟩).before az Z = true := hw _ (mg 105 rfl)
theorem w106 (hw : HW Z az) : (Cond.static ⟨"jdk/internal/util/ArraysSupport", "newLength", "(III)I"⟩).before az Z = true := hw _ (mg 106 rfl)
theorem w107 (hw : HW Z az) : (Cond.initialized "jdk/internal/util/ArraysSupport").before az Z = true := hw _ (mg 107 rfl)
theorem w108 (hw : HW Z az) : (Cond.code ⟨"jdk/internal/util/ArraysSupport", "newLength", "(III)I"⟩ jdk_48_method_27_code 4 (some FieldType.int)).before az Z = true := hw _ (mg 108 rfl)
theorem w109 (hw : HW Z az) : (Cond.methodLink "jdk/internal/util/ArraysSupport" 194 ⟨"java/lang/Math", "max", "(II)I"⟩).before az Z = true := hw _ (mg 109 rfl)
theorem w110 (hw : HW Z az) : (Cond.static ⟨"java/lang/Math", "max", "(II)I"⟩).before az Z = true := hw _ (mg 110 rfl)
theorem w111 (hw : HW Z az) : (Cond.initialized "java/lang/Math").before az Z = true := hw _ (mg 111 rfl)
theorem w112 (hw : HW Z az) : (Cond.code ⟨"java/lang/Math", "max", "(II)I"⟩ jdk_29_method_65_code 2 (some FieldType.int)).before az Z = true := hw _ (mg 112 rfl)
theorem w113 (hw : HW Z az) : (Cond.constant "jdk/internal/util/ArraysSupport" 200 (2147483639 : Int32)).before az Z = true := hw _ (mg 113 rfl)
theorem w114 (hw : HW Z az) : (Cond.constant "java/lang/AbstractStringBuilder" 39 (2147483647 : Int32)).before az Z = true := hw _ (mg 114 rfl)
theorem w115 (hw : HW Z az) : (Cond.methodLink "java/lang/AbstractStringBuilder" 108 ⟨"java/util/Arrays", "copyOf", "([BI)[B"⟩).before az Z = true := hw _ (mg 115 rfl)
theorem w116 (hw : HW Z az) : (Cond.static ⟨"java/util/Arrays", "copyOf", "([BI)[B"⟩).before az Z = true := hw _ (mg 116 rfl)
theorem w117 (hw : HW Z az) : (Cond.initialized "java/util/Arrays").before az Z = true := hw _ (mg 117 rfl)
theorem w118 (hw : HW Z az) : (Cond.code ⟨"java/util/Arrays", "copyOf", "([BI)[B"⟩ jdk_65_method_121_code 3 (some (FieldType.array FieldType.byte))).before az Z = true := hw _ (mg 118 rfl)
theorem w119 (hw : HW Z az) : (Cond.methodLink "java/util/Arrays" 304 ⟨"java/lang/Math", "min", "(II)I"⟩).before az Z = true := hw _ (mg 119 rfl)
theorem w120 (hw : HW Z az) : (Cond.static ⟨"java/lang/Math", "min", "(II)I"⟩).before az Z = true := hw _ (mg 120 rfl)
theorem w121 (hw : HW Z az) : (Cond.code ⟨"java/lang/Math", "min", "(II)I"⟩ jdk_29_method_69_code 2 (some FieldType.int)).before az Z = true := hw _ (mg 121 rfl)
theorem w122 (hw : HW Z az) : (Cond.methodLink "java/util/Arrays" 150 ⟨"java/lang/System", "arraycopy", "(Ljava/lang/Object;ILjava/lang/Object;II)V"⟩).before az Z = true := hw _ (mg 122 rfl)
theorem w123 (hw : HW Z az) : (Cond.methodLink "com/example/key_lease/keylease/store/WatchedName" 38 ⟨"java/lang/StringBuilder", "toString", "()Ljava/lang/String;"⟩).before az Z = true := hw _ (mg 123 rfl)
theorem w124 (hw : HW Z az) : (Cond.declares ⟨"java/lang/StringBuilder", "toString", "()Ljava/lang/String;"⟩).before az Z = true := hw _ (mg 124 rfl)
theorem w125 (hw : HW Z az) : (Cond.instanceMethod ⟨"java/lang/StringBuilder", "toString", "()Ljava/lang/String;"⟩).before az Z = true := hw _ (mg 125 rfl)
theorem w126 (hw : HW Z az) : (Cond.selects "java/lang/StringBuilder" ⟨"java/lang/StringBuilder", "toString", "()Ljava/lang/String;"⟩ ⟨"java/lang/StringBuilder", "toString", "()Ljava/lang/String;"⟩).before az Z = true := hw _ (mg 126 rfl)
theorem w127 (hw : HW Z az) : (Cond.code ⟨"java/lang/StringBuilder", "toString", "()Ljava/lang/String;"⟩ jdk_67_method_42_code 1 (some (FieldType.object "java/lang/String"))).before az Z = true := hw _ (mg 127 rfl)
theorem w128 (hw : HW Z az) : (Cond.classLink "java/lang/StringBuilder" 18 "java/lang/String").before az Z = true := hw _ (mg 128 rfl)
theorem w129 (hw : HW Z az) : (Cond.methodLink "java/lang/StringBuilder" 137 ⟨"java/lang/String", "<init>", "(Ljava/lang/StringBuilder;)V"⟩).before az Z = true := hw _ (mg 129 rfl)
theorem w130 (hw : HW Z az) : (Cond.instanceMethod ⟨"java/lang/String", "<init>", "(Ljava/lang/StringBuilder;)V"⟩).before az Z = true := hw _ (mg 130 rfl)
theorem w131 (hw : HW Z az) : (Cond.code ⟨"java/lang/String", "<init>", "(Ljava/lang/StringBuilder;)V"⟩ jdk_42_method_53_code 2 none).before az Z = true := hw _ (mg 131 rfl)
theorem w132 (hw : HW Z az) : (Cond.methodLink "java/lang/String" 489 ⟨"java/lang/String", "<init>", "(Ljava/lang/AbstractStringBuilder;Ljava/lang/Void;)V"⟩).before az Z = true := hw _ (mg 132 rfl)
theorem w133 (hw : HW Z az) : (Cond.instanceMethod ⟨"java/lang/String", "<init>", "(Ljava/lang/AbstractStringBuilder;Ljava/lang/Void;)V"⟩).before az Z = true := hw _ (mg 133 rfl)
theorem w134 (hw : HW Z az) : (Cond.code ⟨"java/lang/String", "<init>", "(Ljava/lang/AbstractStringBuilder;Ljava/lang/Void;)V"⟩ jdk_42_method_150_code 5 none).before az Z = true := hw _ (mg 134 rfl)
theorem w135 (hw : HW Z az) : (Cond.methodLink "java/lang/String" 552 ⟨"java/lang/AbstractStringBuilder", "getValue", "()[B"⟩).before az Z = true := hw _ (mg 135 rfl)
theorem w136 (hw : HW Z az) : (Cond.declares ⟨"java/lang/AbstractStringBuilder", "getValue", "()[B"⟩).before az Z = true := hw _ (mg 136 rfl)
theorem w137 (hw : HW Z az) : (Cond.instanceMethod ⟨"java/lang/AbstractStringBuilder", "getValue", "()[B"⟩).before az Z = true := hw _ (mg 137 rfl)
theorem w138 (hw : HW Z az) : (Cond.selects "java/lang/StringBuilder" ⟨"java/lang/AbstractStringBuilder", "getValue", "()[B"⟩ ⟨"java/lang/AbstractStringBuilder", "getValue", "()[B"⟩).before az Z = true := hw _ (mg 138 rfl)
theorem w139 (hw : HW Z az) : (Cond.code ⟨"java/lang/AbstractStringBuilder", "getValue", "()[B"⟩ jdk_68_method_64_code 1 (some (FieldType.array FieldType.byte))).before az Z = true := hw _ (mg 139 rfl)
theorem w140 (hw : HW Z az) : (Cond.methodLink "java/lang/String" 549 ⟨"java/lang/AbstractStringBuilder", "length", "()I"⟩).before az Z = true := hw _ (mg 140 rfl)
theorem w141 (hw : HW Z az) : (Cond.declares ⟨"java/lang/AbstractStringBuilder", "length", "()I"⟩).before az Z = true := hw _ (mg 141 rfl)
theorem w142 (hw : HW Z az) : (Cond.instanceMethod ⟨"java/lang/AbstractStringBuilder", "length", "()I"⟩).before az Z = true := hw _ (mg 142 rfl)
theorem w143 (hw : HW Z az) : (Cond.selects "java/lang/StringBuilder" ⟨"java/lang/AbstractStringBuilder", "length", "()I"⟩ ⟨"java/lang/StringBuilder", "length", "()I"⟩).before az Z = true := hw _ (mg 143 rfl)
theorem w144 (hw : HW Z az) : (Cond.instanceMethod ⟨"java/lang/StringBuilder", "length", "()I"⟩).before az Z = true := hw _ (mg 144 rfl)
theorem w145 (hw : HW Z az) : (Cond.code ⟨"java/lang/StringBuilder", "length", "()I"⟩ jdk_67_method_93_code 1 (some FieldType.int)).before az Z = true := hw _ (mg 145 rfl)
theorem w146 (hw : HW Z az) : (Cond.methodLink "java/lang/StringBuilder" 343 ⟨"java/lang/AbstractStringBuilder", "length", "()I"⟩).before az Z = true := hw _ (mg 146 rfl)
theorem w147 (hw : HW Z az) : (Cond.code ⟨"java/lang/AbstractStringBuilder", "length", "()I"⟩ jdk_68_method_6_code 1 (some FieldType.int)).before az Z = true := hw _ (mg 147 rfl)
theorem w148 (hw : HW Z az) : (Cond.methodLink "java/lang/String" 1047 ⟨"java/lang/AbstractStringBuilder", "isLatin1", "()Z"⟩).before az Z = true := hw _ (mg 148 rfl)
theorem w149 (hw : HW Z az) : (Cond.declares ⟨"java/lang/AbstractStringBuilder", "isLatin1", "()Z"⟩).before az Z = true := hw _ (mg 149 rfl)
theorem w150 (hw : HW Z az) : (Cond.instanceMethod ⟨"java/lang/AbstractStringBuilder", "isLatin1", "()Z"⟩).before az Z = true := hw _ (mg 150 rfl)
theorem w151 (hw : HW Z az) : (Cond.selects "java/lang/StringBuilder" ⟨"java/lang/AbstractStringBuilder", "isLatin1", "()Z"⟩ ⟨"java/lang/AbstractStringBuilder", "isLatin1", "()Z"⟩).before az Z = true := hw _ (mg 151 rfl)
theorem w152 (hw : HW Z az) : (Cond.code ⟨"java/lang/AbstractStringBuilder", "isLatin1", "()Z"⟩ jdk_68_method_68_code 1 (some FieldType.boolean)).before az Z = true := hw _ (mg 152 rfl)
theorem w153 (hw : HW Z az) : (Cond.methodLink "java/lang/String" 54 ⟨"java/util/Arrays", "copyOfRange", "([BII)[B"⟩).before az Z = true := hw _ (mg 153 rfl)
theorem w154 (hw : HW Z az) : (Cond.static ⟨"java/util/Arrays", "copyOfRange", "([BII)[B"⟩).before az Z = true := hw _ (mg 154 rfl)
theorem w155 (hw : HW Z az) : (Cond.code ⟨"java/util/Arrays", "copyOfRange", "([BII)[B"⟩ jdk_65_method_132_code 3 (some (FieldType.array FieldType.byte))).before az Z = true := hw _ (mg 155 rfl)
theorem w156 (hw : HW Z az) : (Cond.methodLink "java/util/Arrays" 310 ⟨"[B", "clone", "()Ljava/lang/Object;"⟩).before az Z = true := hw _ (mg 156 rfl)
theorem w157 (hw : HW Z az) : (Cond.sameMethod "[B" "java/lang/Object" "clone" "()Ljava/lang/Object;").before az Z = true := hw _ (mg 157 rfl)
theorem w159 (hw : HW Z az) : (Cond.instanceMethod ⟨"java/lang/Object", "clone", "()Ljava/lang/Object;"⟩).before az Z = true := hw _ (mg 159 rfl)
theorem w160 (hw : HW Z az) : (Cond.selects "[B" ⟨"[B", "clone", "()Ljava/lang/Object;"⟩ ⟨"java/lang/Object", "clone", "()Ljava/lang/Object;"⟩).before az Z = true := hw _ (mg 160 rfl)
theorem w161 (hw : HW Z az) : (Cond.native ⟨"java/lang/Object", "clone", "()Ljava/lang/Object;"⟩).before az Z = true := hw _ (mg 161 rfl)
theorem w162 (hw : HW Z az) : (Cond.castable "[B" "java/lang/Cloneable").before az Z = true := hw _ (mg 162 rfl)
theorem w163 (hw : HW Z az) : (Cond.classLink "java/util/Arrays" 311 "[B").before az Z = true := hw _ (mg 163 rfl)
theorem w165 (hw : HW Z az) : (Cond.methodLink "com/example/key_lease/keylease/store/WatchedName" 42 ⟨"com/example/key_lease/keylease/store/StoreException", "<init>", "(Ljava/lang/String;Ljava/lang/Throwable;)V"⟩).before az Z = true := hw _ (mg 165 rfl)
theorem w166 (hw : HW Z az) : (Cond.instanceMethod ⟨"com/example/key_lease/keylease/store/StoreException", "<init>", "(Ljava/lang/String;Ljava/lang/Throwable;)V"⟩).before az Z = true := hw _ (mg 166 rfl)
theorem w167 (hw : HW Z az) : (Cond.code ⟨"com/example/key_lease/keylease/store/StoreException", "<init>", "(Ljava/lang/String;Ljava/lang/Throwable;)V"⟩ prog_19_method_1_code 3 none).before az Z = true := hw _ (mg 167 rfl)
theorem w168 (hw : HW Z az) : (Cond.methodLink "com/example/key_lease/keylease/store/StoreException" 1 ⟨"java/lang/RuntimeException", "<init>", "(Ljava/lang/String;Ljava/lang/Throwable;)V"⟩).before az Z = true := hw _ (mg 168 rfl)
theorem w169 (hw : HW Z az) : (Cond.instanceMethod ⟨"java/lang/RuntimeException", "<init>", "(Ljava/lang/String;Ljava/lang/Throwable;)V"⟩).before az Z = true := hw _ (mg 169 rfl)
theorem w171 (hw : HW Z az) : (Cond.initialized "java/lang/RuntimeException").before az Z = true := hw _ (mg 171 rfl)
theorem w172 (hw : HW Z az) : (Cond.code ⟨"java/lang/RuntimeException", "<init>", "(Ljava/lang/String;Ljava/lang/Throwable;)V"⟩ jdk_58_method_3_code 3 none).before az Z = true := hw _ (mg 172 rfl)
theorem w173 (hw : HW Z az) : (Cond.methodLink "java/lang/RuntimeException" 10 ⟨"java/lang/Exception", "<init>", "(Ljava/lang/String;Ljava/lang/Throwable;)V"⟩).before az Z = true := hw _ (mg 173 rfl)
theorem w174 (hw : HW Z az) : (Cond.instanceMethod ⟨"java/lang/Exception", "<init>", "(Ljava/lang/String;Ljava/lang/Throwable;)V"⟩).before az Z = true := hw _ (mg 174 rfl)
theorem w177 (hw : HW Z az) : (Cond.initialized "java/lang/Exception").before az Z = true := hw _ (mg 177 rfl)
theorem w178 (hw : HW Z az) : (Cond.code ⟨"java/lang/Exception", "<init>", "(Ljava/lang/String;Ljava/lang/Throwable;)V"⟩ jdk_59_method_3_code 3 none).before az Z = true := hw _ (mg 178 rfl)
theorem w179 (hw : HW Z az) : (Cond.methodLink "java/lang/Exception" 10 ⟨"java/lang/Throwable", "<init>", "(Ljava/lang/String;Ljava/lang/Throwable;)V"⟩).before az Z = true := hw _ (mg 179 rfl)
theorem w180 (hw : HW Z az) : (Cond.instanceMethod ⟨"java/lang/Throwable", "<init>", "(Ljava/lang/String;Ljava/lang/Throwable;)V"⟩).before az Z = true := hw _ (mg 180 rfl)
theorem w183 (hw : HW Z az) : (Cond.initialized "java/lang/Throwable").before az Z = true := hw _ (mg 183 rfl)
theorem w184 (hw : HW Z az) : (Cond.code ⟨"java/lang/Throwable", "<init>", "(Ljava/lang/String;Ljava/lang/Throwable;)V"⟩ jdk_78_method_3_code 3 none).before az Z = true := hw _ (mg 184 rfl)
theorem w185 (hw : HW Z az) : (Cond.methodLink "java/lang/Throwable" 1 ⟨"java/lang/Object", "<init>", "()V"⟩).before az Z = true := hw _ (mg 185 rfl)
theorem w186 (hw : HW Z az) : (Cond.fieldLink "java/lang/Throwable" 7 "java/lang/Throwable" "cause" "Ljava/lang/Throwable;").before az Z = true := hw _ (mg 186 rfl)
theorem w187 (hw : HW Z az) : (Cond.lays "com/example/key_lease/keylease/store/StoreException" "java/lang/Throwable" "cause" "Ljava/lang/Throwable;").before az Z = true := hw _ (mg 187 rfl)
theorem w188 (hw : HW Z az) : (Cond.fieldLink "java/lang/Throwable" 13 "java/lang/Throwable" "UNASSIGNED_STACK" "[Ljava/lang/StackTraceElement;").before az Z = true := hw _ (mg 188 rfl)
theorem w189 (hw : HW Z az) : (Cond.fieldLink "java/lang/Throwable" 17 "java/lang/Throwable" "stackTrace" "[Ljava/lang/StackTraceElement;").before az Z = true := hw _ (mg 189 rfl)
theorem w190 (hw : HW Z az) : (Cond.lays "com/example/key_lease/keylease/store/StoreException" "java/lang/Throwable" "stackTrace" "[Ljava/lang/StackTraceElement;").before az Z = true := hw _ (mg 190 rfl)
theorem w191 (hw : HW Z az) : (Cond.fieldLink "java/lang/Throwable" 20 "java/lang/Throwable" "SUPPRESSED_SENTINEL" "Ljava/util/List;").before az Z = true := hw _ (mg 191 rfl)
theorem w192 (hw : HW Z az) : (Cond.fieldLink "java/lang/Throwable" 24 "java/lang/Throwable" "suppressedExceptions" "Ljava/util/List;").before az Z = true := hw _ (mg 192 rfl)
theorem w193 (hw : HW Z az) : (Cond.lays "com/example/key_lease/keylease/store/StoreException" "java/lang/Throwable" "suppressedExceptions" "Ljava/util/List;").before az Z = true := hw _ (mg 193 rfl)
theorem w217 (hw : HW Z az) : (Cond.lays "com/example/key_lease/keylease/store/StoreException" "java/lang/Throwable" "detailMessage" "Ljava/lang/String;").before az Z = true := hw _ (mg 217 rfl)
theorem w218 (hw : HW Z az) : (Cond.lays "com/example/key_lease/keylease/store/StoreException" "java/lang/Throwable" "backtrace" "Ljava/lang/Object;").before az Z = true := hw _ (mg 218 rfl)
theorem w219 (hw : HW Z az) : (Cond.lays "com/example/key_lease/keylease/store/StoreException" "java/lang/Throwable" "depth" "I").before az Z = true := hw _ (mg 219 rfl)
theorem w221 (hw : HW Z az) : (Cond.fieldLink "java/lang/Throwable" 31 "java/lang/Throwable" "detailMessage" "Ljava/lang/String;").before az Z = true := hw _ (mg 221 rfl)
theorem w222 (hw : HW Z az) : (Cond.methodLink "com/example/key_lease/keylease/store/WatchedNameClosedStorePinLaw" 19 ⟨"com/example/key_lease/keylease/store/StoreException", "getCause", "()Ljava/lang/Throwable;"⟩).before az Z = true := hw _ (mg 222 rfl)
theorem w223 (hw : HW Z az) : (Cond.sameMethod "com/example/key_lease/keylease/store/StoreException" "java/lang/Throwable" "getCause" "()Ljava/lang/Throwable;").before az Z = true := hw _ (mg 223 rfl)
theorem w224 (hw : HW Z az) : (Cond.declares ⟨"java/lang/Throwable", "getCause", "()Ljava/lang/Throwable;"⟩).before az Z = true := hw _ (mg 224 rfl)
theorem w225 (hw : HW Z az) : (Cond.instanceMethod ⟨"java/lang/Throwable", "getCause", "()Ljava/lang/Throwable;"⟩).before az Z = true := hw _ (mg 225 rfl)
theorem w226 (hw : HW Z az) : (Cond.selects "com/example/key_lease/keylease/store/StoreException" ⟨"com/example/key_lease/keylease/store/StoreException", "getCause", "()Ljava/lang/Throwable;"⟩ ⟨"java/lang/Throwable", "getCause", "()Ljava/lang/Throwable;"⟩).before az Z = true := hw _ (mg 226 rfl)
theorem w227 (hw : HW Z az) : (Cond.codeSync ⟨"java/lang/Throwable", "getCause", "()Ljava/lang/Throwable;"⟩ jdk_78_method_8_code 1 (some (FieldType.object "java/lang/Throwable"))).before az Z = true := hw _ (mg 227 rfl)
theorem w228 (hw : HW Z az) : (Cond.methodLink "com/example/key_lease/keylease/store/WatchedNameClosedStorePinLaw" 25 ⟨"com/example/key_lease/keylease/store/StoreException", "getMessage", "()Ljava/lang/String;"⟩).before az Z = true := hw _ (mg 228 rfl)
theorem w229 (hw : HW Z az) : (Cond.sameMethod "com/example/key_lease/keylease/store/StoreException" "java/lang/Throwable" "getMessage" "()Ljava/lang/String;").before az Z = true := hw _ (mg 229 rfl)
theorem w230 (hw : HW Z az) : (Cond.declares ⟨"java/lang/Throwable", "getMessage", "()Ljava/lang/String;"⟩).before az Z = true := hw _ (mg 230 rfl)
theorem w231 (hw : HW Z az) : (Cond.instanceMethod ⟨"java/lang/Throwable", "getMessage", "()Ljava/lang/String;"⟩).before az Z = true := hw _ (mg 231 rfl)
theorem w232 (hw : HW Z az) : (Cond.selects "com/example/key_lease/keylease/store/StoreException" ⟨"com/example/key_lease/keylease/store/StoreException", "getMessage", "()Ljava/lang/String;"⟩ ⟨"java/lang/Throwable", "getMessage", "()Ljava/lang/String;"⟩).before az Z = true := hw _ (mg 232 rfl)
theorem w233 (hw : HW Z az) : (Cond.code ⟨"java/lang/Throwable", "getMessage", "()Ljava/lang/String;"⟩ jdk_78_method_6_code 1 (some (FieldType.object "java/lang/String"))).before az Z = true := hw _ (mg 233 rfl)
theorem w234 (hw : HW Z az) : (Cond.methodLink "com/example/key_lease/keylease/store/WatchedNameClosedStorePinLaw" 29 ⟨"java/lang/String", "length", "()I"⟩).before az Z = true := hw _ (mg 234 rfl)
theorem w235 (hw : HW Z az) : (Cond.methodLink "com/example/key_lease/keylease/store/WatchedNameClosedStorePinLaw" 39 ⟨"com/example/key_lease/keylease/store/WatchedNameClosedStorePinLaw", "mid", "(Ljava/lang/String;I)Z"⟩).before az Z = true := hw _ (mg 235 rfl)
theorem w236 (hw : HW Z az) : (Cond.static ⟨"com/example/key_lease/keylease/store/WatchedNameClosedStorePinLaw", "mid", "(Ljava/lang/String;I)Z"⟩).before az Z = true := hw _ (mg 236 rfl)
theorem w237 (hw : HW Z az) : (Cond.code ⟨"com/example/key_lease/keylease/store/WatchedNameClosedStorePinLaw", "mid", "(Ljava/lang/String;I)Z"⟩ method_5_code 3 (some FieldType.boolean)).before az Z = true := hw _ (mg 237 rfl)
theorem w238 (hw : HW Z az) : (Cond.stringLink "com/example/key_lease/keylease/store/WatchedNameClosedStorePinLaw" 46 " is closed: it hears no release of ").before az Z = true := hw _ (mg 238 rfl)
theorem w239 (hw : HW Z az) : (Cond.methodLink "com/example/key_lease/keylease/store/WatchedNameClosedStorePinLaw" 48 ⟨"com/example/key_lease/keylease/store/WatchedNameClosedStorePinLaw", "eq", "(Ljava/lang/String;ILjava/lang/String;I)Z"⟩).before az Z = true := hw _ (mg 239 rfl)
theorem w240 (hw : HW Z az) : (Cond.static ⟨"com/example/key_lease/keylease/store/WatchedNameClosedStorePinLaw", "eq", "(Ljava/lang/String;ILjava/lang/String;I)Z"⟩).before az Z = true := hw _ (mg 240 rfl)
theorem w241 (hw : HW Z az) : (Cond.code ⟨"com/example/key_lease/keylease/store/WatchedNameClosedStorePinLaw", "eq", "(Ljava/lang/String;ILjava/lang/String;I)Z"⟩ method_4_code 4 (some FieldType.boolean)).before az Z = true := hw _ (mg 241 rfl)
theorem w242 (hw : HW Z az) : (Cond.methodLink "com/example/key_lease/keylease/store/WatchedNameClosedStorePinLaw" 35 ⟨"java/lang/String", "charAt", "(I)C"⟩).before az Z = true := hw _ (mg 242 rfl)
theorem w243 (hw : HW Z az) : (Cond.declares ⟨"java/lang/String", "charAt", "(I)C"⟩).before az Z = true := hw _ (mg 243 rfl)
theorem w244 (hw : HW Z az) : (Cond.instanceMethod ⟨"java/lang/String", "charAt", "(I)C"⟩).before az Z = true := hw _ (mg 244 rfl)
theorem w245 (hw : HW Z az) : (Cond.selects "java/lang/String" ⟨"java/lang/String", "charAt", "(I)C"⟩ ⟨"java/lang/String", "charAt", "(I)C"⟩).before az Z = true := hw _ (mg 245 rfl)
theorem w246 (hw : HW Z az) : (Cond.code ⟨"java/lang/String", "charAt", "(I)C"⟩ jdk_42_method_56_code 2 (some FieldType.char)).before az Z = true := hw _ (mg 246 rfl)
theorem w247 (hw : HW Z az) : (Cond.methodLink "java/lang/String" 492 ⟨"java/lang/String", "isLatin1", "()Z"⟩).before az Z = true := hw _ (mg 247 rfl)
theorem w248 (hw : HW Z az) : (Cond.declares ⟨"java/lang/String", "isLatin1", "()Z"⟩).before az Z = true := hw _ (mg 248 rfl)
theorem w249 (hw : HW Z az) : (Cond.instanceMethod ⟨"java/lang/String", "isLatin1", "()Z"⟩).before az Z = true := hw _ (mg 249 rfl)
theorem w250 (hw : HW Z az) : (Cond.selects "java/lang/String" ⟨"java/lang/String", "isLatin1", "()Z"⟩ ⟨"java/lang/String", "isLatin1", "()Z"⟩).before az Z = true := hw _ (mg 250 rfl)
theorem w251 (hw : HW Z az) : (Cond.code ⟨"java/lang/String", "isLatin1", "()Z"⟩ jdk_42_method_154_code 1 (some FieldType.boolean)).before az Z = true := hw _ (mg 251 rfl)
theorem w252 (hw : HW Z az) : (Cond.methodLink "java/lang/String" 495 ⟨"java/lang/StringLatin1", "charAt", "([BI)C"⟩).before az Z = true := hw _ (mg 252 rfl)
theorem w253 (hw : HW Z az) : (Cond.static ⟨"java/lang/StringLatin1", "charAt", "([BI)C"⟩).before az Z = true := hw _ (mg 253 rfl)
theorem w254 (hw : HW Z az) : (Cond.initialized "java/lang/StringLatin1").before az Z = true := hw _ (mg 254 rfl)
theorem w255 (hw : HW Z az) : (Cond.code ⟨"java/lang/StringLatin1", "charAt", "([BI)C"⟩ jdk_43_method_2_code 2 (some FieldType.char)).before az Z = true := hw _ (mg 255 rfl)
theorem w256 (hw : HW Z az) : (Cond.methodLink "java/lang/StringLatin1" 9 ⟨"java/lang/String", "checkIndex", "(II)V"⟩).before az Z = true := hw _ (mg 256 rfl)
theorem w257 (hw : HW Z az) : (Cond.static ⟨"java/lang/String", "checkIndex", "(II)V"⟩).before az Z = true := hw _ (mg 257 rfl)
theorem w258 (hw : HW Z az) : (Cond.code ⟨"java/lang/String", "checkIndex", "(II)V"⟩ jdk_42_method_155_code 2 none).before az Z = true := hw _ (mg 258 rfl)
theorem w259 (hw : HW Z az) : (Cond.fieldLink "java/lang/String" 1053 "jdk/internal/util/Preconditions" "SIOOBE_FORMATTER" "Ljava/util/function/BiFunction;").before az Z = true := hw _ (mg 259 rfl)
theorem w260 (hw : HW Z az) : (Cond.initialized "jdk/internal/util/Preconditions").before az Z = true := hw _ (mg 260 rfl)
theorem w261 (hw : HW Z az) : (Cond.methodLink "java/lang/String" 1059 ⟨"jdk/internal/util/Preconditions", "checkIndex", "(IILjava/util/function/BiFunction;)I"⟩).before az Z = true := hw _ (mg 261 rfl)
theorem w262 (hw : HW Z az) : (Cond.static ⟨"jdk/internal/util/Preconditions", "checkIndex", "(IILjava/util/function/BiFunction;)I"⟩).before az Z = true := hw _ (mg 262 rfl)
theorem w263 (hw : HW Z az) : (Cond.code ⟨"jdk/internal/util/Preconditions", "checkIndex", "(IILjava/util/function/BiFunction;)I"⟩ jdk_41_method_11_code 3 (some FieldType.int)).before az Z = true := hw _ (mg 263 rfl)
theorem w264 (hw : HW Z az) : (Cond.methodLink "java/lang/String" 177 ⟨"java/lang/StringUTF16", "compress", "([CII)[B"⟩).before az Z = true := hw _ (mg 264 rfl)
theorem w265 (hw : HW Z az) : (Cond.static ⟨"java/lang/StringUTF16", "compress", "([CII)[B"⟩).before az Z = true := hw _ (mg 265 rfl)
theorem w266 (hw : HW Z az) : (Cond.initialized "java/lang/StringUTF16").before az Z = true := hw _ (mg 266 rfl)
theorem w267 (hw : HW Z az) : (Cond.code ⟨"java/lang/StringUTF16", "compress", "([CII)[B"⟩ jdk_52_method_16_code 6 (some (FieldType.array FieldType.byte))).before az Z = true := hw _ (mg 267 rfl)
theorem w268 (hw : HW Z az) : (Cond.methodLink "java/lang/StringUTF16" 115 ⟨"java/lang/StringUTF16", "compress", "([CI[BII)I"⟩).before az Z = true := hw _ (mg 268 rfl)
theorem w269 (hw : HW Z az) : (Cond.static ⟨"java/lang/StringUTF16", "compress", "([CI[BII)I"⟩).before az Z = true := hw _ (mg 269 rfl)
theorem w270 (hw : HW Z az) : (Cond.code ⟨"java/lang/StringUTF16", "compress", "([CI[BII)I"⟩ jdk_52_method_21_code 7 (some FieldType.int)).before az Z = true := hw _ (mg 270 rfl)
theorem w271 (hw : HW Z az) : (Cond.methodLink "java/lang/String" 47 ⟨"java/lang/StringUTF16", "coderFromArrayLen", "([BI)B"⟩).before az Z = true := hw _ (mg 271 rfl)
theorem w272 (hw : HW Z az) : (Cond.static ⟨"java/lang/StringUTF16", "coderFromArrayLen", "([BI)B"⟩).before az Z = true := hw _ (mg 272 rfl)
theorem w273 (hw : HW Z az) : (Cond.code ⟨"java/lang/StringUTF16", "coderFromArrayLen", "([BI)B"⟩ jdk_52_method_15_code 2 (some FieldType.byte)).before az Z = true := hw _ (mg 273 rfl)
theorem w274 (hw : HW Z az) : (Cond.methodLink "java/util/Arrays" 339 ⟨"java/util/Arrays", "copyOfRangeByte", "([BII)[B"⟩).before az Z = true := hw _ (mg 274 rfl)
theorem w275 (hw : HW Z az) : (Cond.static ⟨"java/util/Arrays", "copyOfRangeByte", "([BII)[B"⟩).before az Z = true := hw _ (mg 275 rfl)
theorem w276 (hw : HW Z az) : (Cond.code ⟨"java/util/Arrays", "copyOfRangeByte", "([BII)[B"⟩ jdk_65_method_133_code 5 (some (FieldType.array FieldType.byte))).before az Z = true := hw _ (mg 276 rfl)
theorem w277 (hw : HW Z az) : (Cond.methodLink "java/util/Arrays" 343 ⟨"java/util/Arrays", "checkLength", "(II)V"⟩).before az Z = true := hw _ (mg 277 rfl)
theorem w278 (hw : HW Z az) : (Cond.static ⟨"java/util/Arrays", "checkLength", "(II)V"⟩).before az Z = true := hw _ (mg 278 rfl)
theorem w279 (hw : HW Z az) : (Cond.code ⟨"java/util/Arrays", "checkLength", "(II)V"⟩ jdk_65_method_131_code 2 none).before az Z = true := hw _ (mg 279 rfl)
end OwnW
theorem own_shr0 (x : Int32) : x >>> ((0 : Int32) &&& 31) = x := by
  apply Int32.toBitVec_inj.mp
  show x.toBitVec.sshiftRight _ = x.toBitVec
  rw [show (BitVec.smod ((0 : Int32) &&& 31).toBitVec 32).toNat = 0 from by decide]
  simp
theorem own_shl0 (x : Int32) : x <<< ((0 : Int32) &&& 31) = x := by
  apply Int32.toBitVec_inj.mp
  show x.toBitVec <<< _ = x.toBitVec
  rw [show BitVec.smod ((0 : Int32) &&& 31).toBitVec 32 = 0#32 from by decide]
  simp
theorem d11_0 : decode jdk_42_method_152_code 0 = .ok (.getstatic 38, 3) := by decide +kernel
theorem d11_3 : decode jdk_42_method_152_code 3 = .ok (.ifCond .eq 10, 3) := by decide +kernel
theorem d11_6 : decode jdk_42_method_152_code 6 = .ok (.aload_n 0, 1) := by decide +kernel
theorem d11_7 : decode jdk_42_method_152_code 7 = .ok (.getfield 15, 3) := by decide +kernel
theorem d11_10 : decode jdk_42_method_152_code 10 = .ok (.goto 4, 3) := by decide +kernel
theorem d11_14 : decode jdk_42_method_152_code 14 = .ok (.ireturn, 1) := by decide +kernel
theorem pn_java_lang_String : plainName "java/lang/String" = true := by first | (simp [plainName, overriddenIn]; done) | decide +kernel
theorem ef_rm11 (m : MethodId) (a0 : Addr) : entryFrame m #[(.ref a0)] 1 = mkF m 0 #[vR a0] [] := by first | (simp [entryFrame, mkF, argsToLocals, Value.category]; done) | rfl
def Q11 (Z : State) (a0 : Addr) (sC : Int32) (h0 : Heap) (n0 : Nat) (v : Option Value) (h : Heap) (L : List Loc) : Prop := v = some (.int (0 : Int32)) ∧ Fr n0 L ∧ h = h0
set_option maxRecDepth 65536 in
set_option maxHeartbeats 40000000 in
theorem rm11 (l : Launch) (Z : State) (az : Array Value) (hw : HW Z az) (ws : List Jvm.Cond) (a0 : Addr) (sC : Int32) (h0 : Heap) (n0 : Nat) (Z0 : n0 ≤ h0.size) (S_COMPACT_STRINGS : Sta Z h0 cST "COMPACT_STRINGS" "Z" (.int sC)) (hc1 : ¬ (sC = (0 : Int32))) (F_coder_a0 : Fld Z h0 a0 cST "coder" "B" (.int (0 : Int32))) :
    MF l Z h0 ws ⟨cST, "coder", "()B"⟩ jdk_42_method_152_code 1 (some .byte) ⟨0, 0, 0, 0⟩ #[(.ref a0)] (Q11 Z a0 sC h0 n0) := by
  refine MetFree.of_bodySF (plainFor_of_name pn_java_lang_String) hisR ?_
  intro p e s m args below meth c s₁ Bd hml0 hP hK
  obtain ⟨rfl, hZ, hh⟩ := hP
  have hx := Bd.exec
  have hby := Bd.bytes
  have hml : c.maxLocals = 1 := hml0
  have hown : s.vm.findClass cST = some m.cls := findClass_of_methodNamed Bd.named
  have hnm := (name_of_methodNamed Bd.named Bd.method).1
  have X0 : Stand p l e (⟨0, 0, 0, 0⟩ : Room) s m #[(.ref a0)] below meth c s₁ [] 0 0 := Stand.of_body Bd
  have e0 : s₁.heap = h0 := by rw [← hh, Bd.state]; rfl
  have N0 := Fr.nil n0
  have pre0 : ∀ t, Steps p.tables e below (s₁.setTop (mkF m 0 #[vR a0] [])) t → Steps p.tables e below (s₁.setTop (entryFrame m #[(.ref a0)] 1)) t := fun t k => castTop (ef_rm11 m a0) k
  obtain ⟨T1, X1, e1, st1⟩ := getS2 X0 hx hZ hown (host := "") (Or.inl (w71 hw)) Via.refl e0 S_COMPACT_STRINGS (g := (mkF m 0 #[vR a0] [])) rfl (hb hby d11_0)
  obtain ⟨T2, X2, e2, st2⟩ := getF X1 hx hZ hown (host := "") (Or.inl (w25 hw)) Via.refl e1 F_coder_a0 (g := (mkF m 7 #[vR a0] [(.ref a0)])) rfl rfl (hb hby d11_7)
  obtain ⟨fs, hr, hrun, hended, hW, hsame⟩ := X2.leave (v := some (.int (0 : Int32))) (fun h => by rw [Bd.returns] at h; cases h)
  refine ⟨_, _, pre0 _ ?_, hrun, hended, _, _, rfl, ?_, ⟨_, rfl⟩, hW, hsame.mono (by decide) (by decide)⟩
  · show SP p e below s₁ (mkF m 0 #[vR a0] []) _
    refine st1 _ ?_
    show SP p e below T1 (mkF m 3 #[vR a0] [(.int sC)]) _
    refine XS.ifNo X1.here hx rfl (hb hby d11_3) rfl ((if0 _ _).trans (feq hc1).1) ?_
    refine XS.aloadN X1.here hx rfl (hb hby d11_6) rfl rfl ?_
    show SP p e below T1 (mkF m 7 #[vR a0] [(.ref a0)]) _
    refine st2 _ ?_
    show SP p e below T2 (mkF m 10 #[vR a0] [(.int (0 : Int32))]) _
    refine XS.goto X2.here hx rfl (pc0 := 10) (pc' := 14) rfl (hb hby d11_10) (by decide) (by decide) ?_
    show SP p e below T2 (mkF m 14 #[vR a0] [(.int (0 : Int32))]) _
    exact retN X2 hx (t := .byte) Bd.returns (by simp) (hb hby d11_14) hr
  · show Q11 Z a0 sC h0 n0 _ T2.heap _
    rw [e2]
    exact ⟨rfl, N0, rfl⟩
theorem d40_0 : decode jdk_42_method_154_code 0 = .ok (.getstatic 38, 3) := by decide +kernel
theorem d40_3 : decode jdk_42_method_154_code 3 = .ok (.ifCond .eq 14, 3) := by decide +kernel
theorem d40_6 : decode jdk_42_method_154_code 6 = .ok (.aload_n 0, 1) := by decide +kernel
theorem d40_7 : decode jdk_42_method_154_code 7 = .ok (.getfield 15, 3) := by decide +kernel
theorem d40_10 : decode jdk_42_method_154_code 10 = .ok (.ifCond .ne 7, 3) := by decide +kernel
theorem d40_13 : decode jdk_42_method_154_code 13 = .ok (.iconst 1, 1) := by decide +kernel
theorem d40_14 : decode jdk_42_method_154_code 14 = .ok (.goto 4, 3) := by decide +kernel
theorem d40_18 : decode jdk_42_method_154_code 18 = .ok (.ireturn, 1) := by decide +kernel
theorem ef_rm40 (m : MethodId) (a0 : Addr) : entryFrame m #[(.ref a0)] 1 = mkF m 0 #[vR a0] [] := by first | (simp [entryFrame, mkF, argsToLocals, Value.category]; done) | rfl
def Q40 (Z : State) (a0 : Addr) (sC : Int32) (h0 : Heap) (n0 : Nat) (v : Option Value) (h : Heap) (L : List Loc) : Prop := v = some (.int (1 : Int32)) ∧ Fr n0 L ∧ h = h0
set_option maxRecDepth 65536 in
set_option maxHeartbeats 40000000 in
theorem rm40 (l : Launch) (Z : State) (az : Array Value) (hw : HW Z az) (ws : List Jvm.Cond) (a0 : Addr) (sC : Int32) (h0 : Heap) (n0 : Nat) (Z0 : n0 ≤ h0.size) (S_COMPACT_STRINGS : Sta Z h0 cST "COMPACT_STRINGS" "Z" (.int sC)) (hc1 : ¬ (sC = (0 : Int32))) (F_coder_a0 : Fld Z h0 a0 cST "coder" "B" (.int (0 : Int32))) :
    MF l Z h0 ws ⟨cST, "isLatin1", "()Z"⟩ jdk_42_method_154_code 1 (some .boolean) ⟨0, 0, 0, 0⟩ #[(.ref a0)] (Q40 Z a0 sC h0 n0) := by
  refine MetFree.of_bodySF (plainFor_of_name pn_java_lang_String) hisR ?_
  intro p e s m args below meth c s₁ Bd hml0 hP hK
  obtain ⟨rfl, hZ, hh⟩ := hP
  have hx := Bd.exec
  have hby := Bd.bytes
  have hml : c.maxLocals = 1 := hml0
  have hown : s.vm.findClass cST = some m.cls := findClass_of_methodNamed Bd.named
  have hnm := (name_of_methodNamed Bd.named Bd.method).1
  have X0 : Stand p l e (⟨0, 0, 0, 0⟩ : Room) s m #[(.ref a0)] below meth c s₁ [] 0 0 := Stand.of_body Bd
  have e0 : s₁.heap = h0 := by rw [← hh, Bd.state]; rfl
  have N0 := Fr.nil n0
  have pre0 : ∀ t, Steps p.tables e below (s₁.setTop (mkF m 0 #[vR a0] [])) t → Steps p.tables e below (s₁.setTop (entryFrame m #[(.ref a0)] 1)) t := fun t k => castTop (ef_rm40 m a0) k
  obtain ⟨T1, X1, e1, st1⟩ := getS2 X0 hx hZ hown (host := "") (Or.inl (w71 hw)) Via.refl e0 S_COMPACT_STRINGS (g := (mkF m 0 #[vR a0] [])) rfl (hb hby d40_0)
  obtain ⟨T2, X2, e2, st2⟩ := getF X1 hx hZ hown (host := "") (Or.inl (w25 hw)) Via.refl e1 F_coder_a0 (g := (mkF m 7 #[vR a0] [(.ref a0)])) rfl rfl (hb hby d40_7)
  obtain ⟨fs, hr, hrun, hended, hW, hsame⟩ := X2.leave (v := some (.int (1 : Int32))) (fun h => by rw [Bd.returns] at h; cases h)
  refine ⟨_, _, pre0 _ ?_, hrun, hended, _, _, rfl, ?_, ⟨_, rfl⟩, hW, hsame.mono (by decide) (by decide)⟩
  · show SP p e below s₁ (mkF m 0 #[vR a0] []) _
    refine st1 _ ?_
    show SP p e below T1 (mkF m 3 #[vR a0] [(.int sC)]) _
    refine XS.ifNo X1.here hx rfl (hb hby d40_3) rfl ((if0 _ _).trans (feq hc1).1) ?_
    refine XS.aloadN X1.here hx rfl (hb hby d40_6) rfl rfl ?_
    show SP p e below T1 (mkF m 7 #[vR a0] [(.ref a0)]) _
    refine st2 _ ?_
    show SP p e below T2 (mkF m 10 #[vR a0] [(.int (0 : Int32))]) _
    refine XS.ifNo X2.here hx rfl (hb hby d40_10) rfl ((if0 _ _).trans (teq (by decide : (0 : Int32) = (0 : Int32))).2) ?_
    refine XS.iconst X2.here hx rfl (hb hby d40_13) ?_
    refine XS.goto X2.here hx rfl (pc0 := 14) (pc' := 18) rfl (hb hby d40_14) (by decide) (by decide) ?_
    show SP p e below T2 (mkF m 18 #[vR a0] [(.int (1 : Int32))]) _
    exact retN X2 hx (t := .boolean) Bd.returns (by simp) (hb hby d40_18) hr
  · show Q40 Z a0 sC h0 n0 _ T2.heap _
    rw [e2]
    exact ⟨rfl, N0, rfl⟩
theorem d10_0 : decode jdk_42_method_54_code 0 = .ok (.aload_n 0, 1) := by decide +kernel
theorem d10_1 : decode jdk_42_method_54_code 1 = .ok (.getfield 9, 3) := by decide +kernel
theorem d10_4 : decode jdk_42_method_54_code 4 = .ok (.arraylength, 1) := by decide +kernel
theorem d10_5 : decode jdk_42_method_54_code 5 = .ok (.aload_n 0, 1) := by decide +kernel
theorem d10_6 : decode jdk_42_method_54_code 6 = .ok (.invokevirtual 335, 3) := by decide +kernel
theorem pd_0 : parseMethodDescriptor "()B" = some ⟨[], some .byte⟩ := by decide +kernel
theorem d10_9 : decode jdk_42_method_54_code 9 = .ok (.ishr, 1) := by decide +kernel
theorem d10_10 : decode jdk_42_method_54_code 10 = .ok (.ireturn, 1) := by decide +kernel
theorem ef_rm10 (m : MethodId) (a0 : Addr) : entryFrame m #[(.ref a0)] 1 = mkF m 0 #[vR a0] [] := by first | (simp [entryFrame, mkF, argsToLocals, Value.category]; done) | rfl
def Q10 (Z : State) (a0 : Addr) (sC : Int32) (aB : Addr) (kaB : ClassId) (ln : Int32) (fB : Nat → Value) (h0 : Heap) (n0 : Nat) (v : Option Value) (h : Heap) (L : List Loc) : Prop := v = some (.int ln) ∧ Fr n0 L ∧ h = h0
set_option maxRecDepth 65536 in
set_option maxHeartbeats 40000000 in
theorem rm10 (l : Launch) (Z : State) (az : Array Value) (hw : HW Z az) (ws : List Jvm.Cond) (a0 : Addr) (sC : Int32) (aB : Addr) (kaB : ClassId) (ln : Int32) (fB : Nat → Value) (h0 : Heap) (n0 : Nat) (Z0 : n0 ≤ h0.size) (S_COMPACT_STRINGS : Sta Z h0 cST "COMPACT_STRINGS" "Z" (.int sC)) (hc1 : ¬ (sC = (0 : Int32))) (E_a0 : Exa Z h0 a0 cST) (F_coder_a0 : Fld Z h0 a0 cST "coder" "B" (.int (0 : Int32))) (F_value_a0 : Fld Z h0 a0 cST "value" "[B" (.ref aB)) (V_aB : own_Arf Z h0 aB kaB .byte ln fB) (E_aB : Exa Z h0 aB "[B") :
    MF l Z h0 ws ⟨cST, "length", "()I"⟩ jdk_42_method_54_code 1 (some .int) ⟨1, 0, 0, 13⟩ #[(.ref a0)] (Q10 Z a0 sC aB kaB ln fB h0 n0) := by
  refine MetFree.of_bodySF (plainFor_of_name pn_java_lang_String) hisR ?_
  intro p e s m args below meth c s₁ Bd hml0 hP hK
  obtain ⟨rfl, hZ, hh⟩ := hP
  have hx := Bd.exec
  have hby := Bd.bytes
  have hml : c.maxLocals = 1 := hml0
  have hown : s.vm.findClass cST = some m.cls := findClass_of_methodNamed Bd.named
  have hnm := (name_of_methodNamed Bd.named Bd.method).1
  have X0 : Stand p l e (⟨1, 0, 0, 13⟩ : Room) s m #[(.ref a0)] below meth c s₁ [] 0 0 := Stand.of_body Bd
  have e0 : s₁.heap = h0 := by rw [← hh, Bd.state]; rfl
  have N0 := Fr.nil n0
  have pre0 : ∀ t, Steps p.tables e below (s₁.setTop (mkF m 0 #[vR a0] [])) t → Steps p.tables e below (s₁.setTop (entryFrame m #[(.ref a0)] 1)) t := fun t k => castTop (ef_rm10 m a0) k
  obtain ⟨T1, X1, e1, st1⟩ := getF X0 hx hZ hown (host := "") (Or.inl (w24 hw)) Via.refl e0 F_value_a0 (g := (mkF m 1 #[vR a0] [(.ref a0)])) rfl rfl (hb hby d10_1)
  obtain ⟨cl2, Ar2, qk2, Sz2, Ng2, Hs2, Gf2⟩ := id V_aB
  obtain ⟨cq3, kq3, q3a, q3b, q3c⟩ := isOf hZ e1 E_a0
  obtain ⟨_, _, ⟨T3, L3, k3', n3'⟩, -, X3, ⟨Lc3, hQ3, l3, y3, z3⟩, st3⟩ := X1.virtualBack hx (y := (⟨cST, "coder", "()B"⟩ : MethodName)) (z := (⟨cST, "coder", "()B"⟩ : MethodName)) hown (mvT hZ (w66 hw)) (mvT hZ (w67 hw)) (notFace_of_selects (args := #[]) (mvT hZ (w69 hw))) (mvT hZ (w69 hw)) (mvT hZ (w68 hw)) (by decide) (backOf (W := 1) (rm11 l Z az hw [] a0 sC h0 n0 Z0 S_COMPACT_STRINGS hc1 F_coder_a0) hZ (w70 hw) (w6 hw) (by decide) (by decide)) q3a q3c (g := (mkF m 6 #[vR a0] [(.ref a0), (.int ln)])) rfl (by rw [hml]; rfl) (Steps.refl _) (argsL := []) (rest := [(.int ln)]) (lenOf pd_0 rfl) rfl (Nat.le_of_eq rfl) (hb hby d10_6) (fun _ _ => ⟨rfl, e1, (by decide : 0 + 0 ≤ _), (by decide : 0 + 0 ≤ _)⟩)
  dsimp only [Pt.U, Pt.locs, Pt.cells, Pt.slots] at X3 l3 y3 z3 st3 hQ3
  subst l3 y3 z3
  obtain ⟨rfl, N3q, e3⟩ := hQ3
  obtain ⟨Lg3, X3', N3⟩ := own_gen X3 (Fr.app N0 N3q)
  obtain ⟨fs, hr, hrun, hended, hW, hsame⟩ := X3'.leave (v := some (.int ln)) (fun h => by rw [Bd.returns] at h; cases h)
  refine ⟨_, _, pre0 _ ?_, hrun, hended, _, _, rfl, ?_, ⟨_, rfl⟩, hW, hsame.mono (by decide) (by decide)⟩
  · show SP p e below s₁ (mkF m 0 #[vR a0] []) _
    refine XS.aloadN X0.here hx rfl (hb hby d10_0) rfl rfl ?_
    show SP p e below s₁ (mkF m 1 #[vR a0] [(.ref a0)]) _
    refine st1 _ ?_
    show SP p e below T1 (mkF m 4 #[vR a0] [(.ref aB)]) _
    refine X1.arraylength hx (by rw [e1]; exact Ar2.1) (State.isArrayOf_alike hZ.alike Ar2.2.1) (g := (mkF m 4 #[vR a0] [(.ref aB)])) rfl rfl (hb hby d10_4) _ ?_
    rw [len_of Sz2 Ng2]
    show SP p e below T1 (mkF m 5 #[vR a0] [(.int ln)]) _
    refine XS.aloadN X1.here hx rfl (hb hby d10_5) rfl rfl ?_
    show SP p e below T1 (mkF m 6 #[vR a0] [(.ref a0), (.int ln)]) _
    refine st3.trans ?_
    show SP p e below T3 (mkF m 9 #[vR a0] [(.int (0 : Int32)), (.int ln)]) _
    refine XS.ishr X3'.here hx rfl (hb hby d10_9) rfl ?_
    rw [own_shr0]
    show SP p e below T3 (mkF m 10 #[vR a0] [(.int ln)]) _
    exact retI X3' hx Bd.returns (hb hby d10_10) hr
  · show Q10 Z a0 sC aB kaB ln fB h0 n0 _ T3.heap _
    rw [e3]
    exact ⟨rfl, N3, rfl⟩
theorem d7_0 : decode jdk_68_method_2_code 0 = .ok (.aload_n 0, 1) := by decide +kernel
theorem d7_1 : decode jdk_68_method_2_code 1 = .ok (.invokespecial 3, 3) := by decide +kernel
theorem d7_4 : decode jdk_68_method_2_code 4 = .ok (.getstatic 18, 3) := by decide +kernel
theorem d7_7 : decode jdk_68_method_2_code 7 = .ok (.ifCond .eq 18, 3) := by decide +kernel
theorem d7_10 : decode jdk_68_method_2_code 10 = .ok (.aload_n 0, 1) := by decide +kernel
theorem d7_11 : decode jdk_68_method_2_code 11 = .ok (.iload_n 1, 1) := by decide +kernel
theorem d7_12 : decode jdk_68_method_2_code 12 = .ok (.newarray .byte, 2) := by decide +kernel
theorem d7_14 : decode jdk_68_method_2_code 14 = .ok (.putfield 15, 3) := by decide +kernel
theorem d7_17 : decode jdk_68_method_2_code 17 = .ok (.aload_n 0, 1) := by decide +kernel
theorem d7_18 : decode jdk_68_method_2_code 18 = .ok (.iconst 0, 1) := by decide +kernel
theorem d7_19 : decode jdk_68_method_2_code 19 = .ok (.putfield 22, 3) := by decide +kernel
theorem sl_0 {Z : State} {az : Array Value} (hw : HW Z az) : Jvm.RoadKit.slotOf Z cAB "coder" "B" ≠ Jvm.RoadKit.slotOf Z cAB "value" "[B" := slot_ne (Z := Z) (Or.inl (w50 hw)) (Or.inl (w48 hw)) (by decide) (t := .byte) (t' := (.array .byte)) (by decide) (by decide)
theorem d7_22 : decode jdk_68_method_2_code 22 = .ok (.goto 16, 3) := by decide +kernel
theorem d7_38 : decode jdk_68_method_2_code 38 = .ok (.return_, 1) := by decide +kernel
theorem sl_1 {Z : State} {az : Array Value} (hw : HW Z az) : Jvm.RoadKit.slotOf Z cAB "value" "[B" ≠ Jvm.RoadKit.slotOf Z cAB "coder" "B" := slot_ne (Z := Z) (Or.inl (w48 hw)) (Or.inl (w50 hw)) (by decide) (t := (.array .byte)) (t' := .byte) (by decide) (by decide)
theorem sl_2 {Z : State} {az : Array Value} (hw : HW Z az) : Jvm.RoadKit.slotOf Z cAB "count" "I" ≠ Jvm.RoadKit.slotOf Z cAB "value" "[B" := slot_ne (Z := Z) (Or.inl (w73 hw)) (Or.inl (w48 hw)) (by decide) (t := .int) (t' := (.array .byte)) (by decide) (by decide)
theorem sl_3 {Z : State} {az : Array Value} (hw : HW Z az) : Jvm.RoadKit.slotOf Z cAB "count" "I" ≠ Jvm.RoadKit.slotOf Z cAB "coder" "B" := slot_ne (Z := Z) (Or.inl (w73 hw)) (Or.inl (w50 hw)) (by decide) (t := .int) (t' := .byte) (by decide) (by decide)
theorem pn_java_lang_AbstractStringBuilder : plainName "java/lang/AbstractStringBuilder" = true := by first | (simp [plainName, overriddenIn]; done) | decide +kernel
theorem ef_rm7 (m : MethodId) (a0 : Addr) : entryFrame m #[(.ref a0), (.int (16 : Int32))] 2 = mkF m 0 #[vR a0, vI (16 : Int32)] [] := by first | (simp [entryFrame, mkF, argsToLocals, Value.category]; done) | rfl
def Q7 (Z : State) (a0 : Addr) (sC : Int32) (h0 : Heap) (n0 : Nat) (v : Option Value) (h : Heap) (L : List Loc) : Prop := ∃ r0 : Addr, ∃ rk0 : ClassId, v = none ∧ Fr n0 L ∧ h0.size ≤ r0 ∧ Keep h0 h [a0] ∧ Exa Z h a0 cSB ∧ Fld Z h a0 cAB "value" "[B" (.ref r0) ∧ Fld Z h a0 cAB "coder" "B" (.int (0 : Int32)) ∧ Fld Z h a0 cAB "count" "I" (.int (0 : Int32)) ∧ Exa Z h r0 "[B" ∧ own_Arf Z h r0 rk0 .byte (16 : Int32) (fun _ => (.int (0 : Int32)))
set_option maxRecDepth 65536 in
set_option maxHeartbeats 40000000 in
theorem rm7 (l : Launch) (Z : State) (az : Array Value) (hw : HW Z az) (ws : List Jvm.Cond) (a0 : Addr) (sC : Int32) (h0 : Heap) (n0 : Nat) (Z0 : n0 ≤ h0.size) (S_COMPACT_STRINGS : Sta Z h0 cST "COMPACT_STRINGS" "Z" (.int sC)) (hc1 : ¬ (sC = (0 : Int32))) (E_a0 : Exa Z h0 a0 cSB) (F_value_a0 : Fld Z h0 a0 cAB "value" "[B" .null) (F_coder_a0 : Fld Z h0 a0 cAB "coder" "B" (.int (0 : Int32))) (F_count_a0 : Fld Z h0 a0 cAB "count" "I" (.int (0 : Int32))) (g_a0 : n0 ≤ a0) :
    MF l Z h0 ws ⟨cAB, "<init>", "(I)V"⟩ jdk_68_method_2_code 2 none ⟨1, 1, 16, 12⟩ #[(.ref a0), (.int (16 : Int32))] (Q7 Z a0 sC h0 n0) := by
  refine MetFree.of_bodySF (plainFor_of_name pn_java_lang_AbstractStringBuilder) hisR ?_
  intro p e s m args below meth c s₁ Bd hml0 hP hK
  obtain ⟨rfl, hZ, hh⟩ := hP
  have hx := Bd.exec
  have hby := Bd.bytes
  have hml : c.maxLocals = 2 := hml0
  have hown : s.vm.findClass cAB = some m.cls := findClass_of_methodNamed Bd.named
  have hnm := (name_of_methodNamed Bd.named Bd.method).1
  have X0 : Stand p l e (⟨1, 1, 16, 12⟩ : Room) s m #[(.ref a0), (.int (16 : Int32))] below meth c s₁ [] 0 0 := Stand.of_body Bd
  have e0 : s₁.heap = h0 := by rw [← hh, Bd.state]; rfl
  have N0 := Fr.nil n0
  have pre0 : ∀ t, Steps p.tables e below (s₁.setTop (mkF m 0 #[vR a0, vI (16 : Int32)] [])) t → Steps p.tables e below (s₁.setTop (entryFrame m #[(.ref a0), (.int (16 : Int32))] 2)) t := fun t k => castTop (ef_rm7 m a0) k
  obtain ⟨T1, X1, e1, st1⟩ := initO X0 hx hZ hown (w45 hw) (w16 hw) (w17 hw) e0 (g := (mkF m 1 #[vR a0, vI (16 : Int32)] [(.ref a0)])) rfl (by rw [hml]; rfl) rfl (hb hby d7_1) (by decide) (W := 0) (Nat.le_of_eq rfl) (by decide)
  obtain ⟨T2, X2, e2, st2⟩ := getS2 X1 hx hZ hown (host := "") (Or.inl (w46 hw)) Via.refl e1 S_COMPACT_STRINGS (g := (mkF m 4 #[vR a0, vI (16 : Int32)] [])) rfl (hb hby d7_4)
  obtain ⟨T3, h3, k3, X3, e3, E3, A3, x3, st3⟩ := newPE X2 hx hZ (aty := .byte) (w19 hw) e2 (g := (mkF m 12 #[vR a0, vI (16 : Int32)] [(.int (16 : Int32)), (.ref a0)])) rfl (hb hby d7_12) rfl (by decide) (cap := 16) (by decide) (by decide) (by decide) (by decide) (ad := "[B") (by decide)
  obtain ⟨b3, g3⟩ : ∃ z, z = h0.size := ⟨_, rfl⟩
  rw [← g3] at A3 x3 st3
  have g_b3 : n0 ≤ b3 := Nat.le_trans Z0 (Nat.le_of_eq g3.symm)
  have sz_b3 : h0.size ≤ b3 := Nat.le_trans (Nat.le_refl _) (Nat.le_of_eq g3.symm)
  have Z3 : n0 ≤ h3.size := Nat.le_trans Z0 E3.1
  have K3 : Keep h0 h3 [a0] := (Keep.refl h0 [a0]).ext E3
  have E_b3 := x3
  have V_b3 : Arv Z h3 b3 k3 .byte (16 : Int32) [(.int (0 : Int32)), (.int (0 : Int32)), (.int (0 : Int32)), (.int (0 : Int32)), (.int (0 : Int32)), (.int (0 : Int32)), (.int (0 : Int32)), (.int (0 : Int32)), (.int (0 : Int32)), (.int (0 : Int32)), (.int (0 : Int32)), (.int (0 : Int32)), (.int (0 : Int32)), (.int (0 : Int32)), (.int (0 : Int32)), (.int (0 : Int32))] (.int (0 : Int32)) := (Arv.new A3 (by decide)).pad (pad_rep [] (.int (0 : Int32)) 16)
  have A_b3 : own_Arf Z h3 b3 k3 .byte (16 : Int32) (fun _ => (.int (0 : Int32))) := own_Arf.new A3 (by decide)
  have F_a0_value_u4 : Fld Z h3 a0 cAB "value" "[B" .null := (F_value_a0.ext E3)
  have E_a0_u5 : Exa Z h3 a0 cSB := (E_a0.ext E3)
  obtain ⟨T6, h6, X6, e6, W6, st6⟩ := putF X3 hx hZ hown (host := "") (Or.inl (w47 hw)) Via.refl e3 F_a0_value_u4 E_a0_u5 (Or.inl (w48 hw)) (w34 hw) (ty := (.array .byte)) (by decide) rfl rfl (g := (mkF m 14 #[vR a0, vI (16 : Int32)] [(.ref b3), (.ref a0)])) rfl rfl (hb hby d7_14)
  have K6 : Keep h0 h6 [a0] := K3.wr W6 (Or.inl (mg 0 rfl))
  have Fw6 := F_a0_value_u4.same W6
  have Z6 : n0 ≤ h6.size := Nat.le_trans Z3 (Keep.of_wr W6).1
  obtain ⟨Lg6, X6', N6⟩ := own_gen X6 (Fr.snoc X6 N0 g_a0)
  have F_a0_coder_u7 : Fld Z h6 a0 cAB "coder" "B" (.int (0 : Int32)) := ((F_coder_a0.ext E3).other W6 (Or.inr (sl_0 hw)))
  have E_a0_u8 : Exa Z h6 a0 cSB := (E_a0_u5.wr W6)
  obtain ⟨T9, h9, X9, e9, W9, st9⟩ := putFN X6' hx hZ hown (w49 hw) Via.refl e6 F_a0_coder_u7 E_a0_u8 (Or.inl (w50 hw)) (w34 hw) (ty := .byte) (v := (.int (0 : Int32))) (v' := (.int (0 : Int32))) (by decide) (by decide) (by decide) (g := (mkF m 19 #[vR a0, vI (16 : Int32)] [(.int (0 : Int32)), (.ref a0)])) rfl rfl (hb hby d7_19)
  have K9 : Keep h0 h9 [a0] := K6.wr W9 (Or.inl (mg 0 rfl))
  have Fw9 := F_a0_coder_u7.same W9
  have Z9 : n0 ≤ h9.size := Nat.le_trans Z6 (Keep.of_wr W9).1
  obtain ⟨Lg9, X9', N9⟩ := own_gen X9 (Fr.snoc X9 N6 g_a0)
  have E_a0_u10 : Exa Z h9 a0 cSB := (E_a0_u8.wr W9)
  have F_a0_value_u11 : Fld Z h9 a0 cAB "value" "[B" (.ref b3) := (Fw6.other W9 (Or.inr (sl_1 hw)))
  have F_a0_count_u12 : Fld Z h9 a0 cAB "count" "I" (.int (0 : Int32)) := (((F_count_a0.ext E3).other W6 (Or.inr (sl_2 hw))).other W9 (Or.inr (sl_3 hw)))
  have E_b3_u13 : Exa Z h9 b3 "[B" := ((E_b3.wr W6).wr W9)
  have ne_a0_b3 : a0 ≠ b3 := own_ne (Nat.lt_of_lt_of_le E_a0.lt (Nat.le_of_eq g3.symm))
  have V_b3_u14 : own_Arf Z h9 b3 k3 .byte (16 : Int32) (fun _ => (.int (0 : Int32))) := ((A_b3.other W6 (Ne.symm ne_a0_b3)).other W9 (Ne.symm ne_a0_b3))
  obtain ⟨fs, hr, hrun, hended, hW, hsame⟩ := X9'.leave (v := none) (fun _ => rfl)
  refine ⟨_, _, pre0 _ ?_, hrun, hended, _, _, rfl, ?_, ⟨_, rfl⟩, hW, hsame.mono (by decide) (by decide)⟩
  · show SP p e below s₁ (mkF m 0 #[vR a0, vI (16 : Int32)] []) _
    refine XS.aloadN X0.here hx rfl (hb hby d7_0) rfl rfl ?_
    show SP p e below s₁ (mkF m 1 #[vR a0, vI (16 : Int32)] [(.ref a0)]) _
    refine st1 _ ?_
    show SP p e below T1 (mkF m 4 #[vR a0, vI (16 : Int32)] []) _
    refine st2 _ ?_
    show SP p e below T2 (mkF m 7 #[vR a0, vI (16 : Int32)] [(.int sC)]) _
    refine XS.ifNo X2.here hx rfl (hb hby d7_7) rfl ((if0 _ _).trans (feq hc1).1) ?_
    refine XS.aloadN X2.here hx rfl (hb hby d7_10) rfl rfl ?_
    refine XS.iloadN X2.here hx rfl (hb hby d7_11) rfl ?_
    show SP p e below T2 (mkF m 12 #[vR a0, vI (16 : Int32)] [(.int (16 : Int32)), (.ref a0)]) _
    refine st3 _ ?_
    show SP p e below T3 (mkF m 14 #[vR a0, vI (16 : Int32)] [(.ref b3), (.ref a0)]) _
    refine st6 _ ?_
    show SP p e below T6 (mkF m 17 #[vR a0, vI (16 : Int32)] []) _
    refine XS.aloadN X6'.here hx rfl (hb hby d7_17) rfl rfl ?_
    refine XS.iconst X6'.here hx rfl (hb hby d7_18) ?_
    show SP p e below T6 (mkF m 19 #[vR a0, vI (16 : Int32)] [(.int (0 : Int32)), (.ref a0)]) _
    refine st9 _ ?_
    show SP p e below T9 (mkF m 22 #[vR a0, vI (16 : Int32)] []) _
    refine XS.goto X9'.here hx rfl (pc0 := 22) (pc' := 38) rfl (hb hby d7_22) (by decide) (by decide) ?_
    show SP p e below T9 (mkF m 38 #[vR a0, vI (16 : Int32)] []) _
    exact X9'.returnOut hx Bd.returns (hb hby d7_38) hr
  · show Q7 Z a0 sC h0 n0 _ T9.heap _
    rw [e9]
    exact ⟨b3, k3, rfl, N9, sz_b3, K9, E_a0_u10, F_a0_value_u11, Fw9, F_a0_count_u12, E_b3_u13, V_b3_u14⟩
theorem d6_0 : decode jdk_67_method_1_code 0 = .ok (.aload_n 0, 1) := by decide +kernel
theorem d6_1 : decode jdk_67_method_1_code 1 = .ok (.bipush 16, 2) := by decide +kernel
theorem d6_3 : decode jdk_67_method_1_code 3 = .ok (.invokespecial 1, 3) := by decide +kernel
theorem pd_1 : parseMethodDescriptor "(I)V" = some ⟨[.int], none⟩ := by decide +kernel
theorem d6_6 : decode jdk_67_method_1_code 6 = .ok (.return_, 1) := by decide +kernel
theorem pn_java_lang_StringBuilder : plainName "java/lang/StringBuilder" = true := by first | (simp [plainName, overriddenIn]; done) | decide +kernel
theorem ef_rm6 (m : MethodId) (a0 : Addr) : entryFrame m #[(.ref a0)] 1 = mkF m 0 #[vR a0] [] := by first | (simp [entryFrame, mkF, argsToLocals, Value.category]; done) | rfl
def Q6 (Z : State) (a0 : Addr) (sC : Int32) (h0 : Heap) (n0 : Nat) (v : Option Value) (h : Heap) (L : List Loc) : Prop := ∃ r0 : Addr, ∃ rk0 : ClassId, v = none ∧ Fr n0 L ∧ h0.size ≤ r0 ∧ Keep h0 h [a0] ∧ Exa Z h a0 cSB ∧ Fld Z h a0 cAB "value" "[B" (.ref r0) ∧ Fld Z h a0 cAB "coder" "B" (.int (0 : Int32)) ∧ Fld Z h a0 cAB "count" "I" (.int (0 : Int32)) ∧ Exa Z h r0 "[B" ∧ own_Arf Z h r0 rk0 .byte (16 : Int32) (fun _ => (.int (0 : Int32)))
set_option maxRecDepth 65536 in
set_option maxHeartbeats 40000000 in
theorem rm6 (l : Launch) (Z : State) (az : Array Value) (hw : HW Z az) (ws : List Jvm.Cond) (a0 : Addr) (sC : Int32) (h0 : Heap) (n0 : Nat) (Z0 : n0 ≤ h0.size) (S_COMPACT_STRINGS : Sta Z h0 cST "COMPACT_STRINGS" "Z" (.int sC)) (hc1 : ¬ (sC = (0 : Int32))) (E_a0 : Exa Z h0 a0 cSB) (F_value_a0 : Fld Z h0 a0 cAB "value" "[B" .null) (F_coder_a0 : Fld Z h0 a0 cAB "coder" "B" (.int (0 : Int32))) (F_count_a0 : Fld Z h0 a0 cAB "count" "I" (.int (0 : Int32))) (g_a0 : n0 ≤ a0) :
    MF l Z h0 ws ⟨cSB, "<init>", "()V"⟩ jdk_67_method_1_code 1 none ⟨2, 1, 16, 25⟩ #[(.ref a0)] (Q6 Z a0 sC h0 n0) := by
  refine MetFree.of_bodySF (plainFor_of_name pn_java_lang_StringBuilder) hisR ?_
  intro p e s m args below meth c s₁ Bd hml0 hP hK
  obtain ⟨rfl, hZ, hh⟩ := hP
  have hx := Bd.exec
  have hby := Bd.bytes
  have hml : c.maxLocals = 1 := hml0
  have hown : s.vm.findClass cSB = some m.cls := findClass_of_methodNamed Bd.named
  have hnm := (name_of_methodNamed Bd.named Bd.method).1
  have X0 : Stand p l e (⟨2, 1, 16, 25⟩ : Room) s m #[(.ref a0)] below meth c s₁ [] 0 0 := Stand.of_body Bd
  have e0 : s₁.heap = h0 := by rw [← hh, Bd.state]; rfl
  have N0 := Fr.nil n0
  have pre0 : ∀ t, Steps p.tables e below (s₁.setTop (mkF m 0 #[vR a0] [])) t → Steps p.tables e below (s₁.setTop (entryFrame m #[(.ref a0)] 1)) t := fun t k => castTop (ef_rm6 m a0) k
  obtain ⟨_, _, ⟨T1, L1, k1', n1'⟩, -, X1, ⟨Lc1, hQ1, l1, y1, z1⟩, st1⟩ := X0.specialBack hx (y := (⟨cAB, "<init>", "(I)V"⟩ : MethodName)) rfl hown (mvT hZ (w39 hw)) (mvT hZ (w40 hw)) (mvT hZ (w44 hw)) (by decide) (backOf (W := 0) (rm7 l Z az hw [] a0 sC h0 n0 Z0 S_COMPACT_STRINGS hc1 E_a0 F_value_a0 F_coder_a0 F_count_a0 g_a0) hZ (w44 hw) (w43 hw) (by decide) (by decide)) (g := (mkF m 3 #[vR a0] [(.int (16 : Int32)), (.ref a0)])) rfl (by rw [hml]; rfl) (Steps.refl _) (a := a0) (argsL := [(.int (16 : Int32))]) (rest := []) (lenOf pd_1 rfl) rfl (Nat.le_of_eq rfl) (hb hby d6_3) (fun _ _ => ⟨rfl, e0, (by decide : 0 + 1 ≤ _), (by decide : 0 + 16 ≤ _)⟩)
  dsimp only [Pt.U, Pt.locs, Pt.cells, Pt.slots] at X1 l1 y1 z1 st1 hQ1
  subst l1 y1 z1
  obtain ⟨b1_0, kk1_0, rfl, N1q, s1_0, kq1, pf1_0, pf1_1, pf1_2, pf1_3, pf1_4, pf1_5⟩ := hQ1
  obtain ⟨Lg1, X1', N1⟩ := own_gen X1 (Fr.app N0 N1q)
  have g_b1_0 : n0 ≤ b1_0 := Nat.le_trans Z0 s1_0
  have sz_b1_0 : h0.size ≤ b1_0 := Nat.le_trans (Nat.le_refl _) s1_0
  have K1 : Keep h0 T1.heap [a0] := (Keep.refl h0 [a0]).trans kq1 (allS (Or.inl (mg 0 rfl)) all0)
  have Z1 : n0 ≤ T1.heap.size := Nat.le_trans Z0 kq1.1
  obtain ⟨fs, hr, hrun, hended, hW, hsame⟩ := X1'.leave (v := none) (fun _ => rfl)
  refine ⟨_, _, pre0 _ ?_, hrun, hended, _, _, rfl, ?_, ⟨_, rfl⟩, hW, hsame.mono (by decide) (by decide)⟩
  · show SP p e below s₁ (mkF m 0 #[vR a0] []) _
    refine XS.aloadN X0.here hx rfl (hb hby d6_0) rfl rfl ?_
    refine XS.bipush X0.here hx rfl (hb hby d6_1) ?_
    show SP p e below s₁ (mkF m 3 #[vR a0] [(.int (16 : Int32)), (.ref a0)]) _
    refine st1.trans ?_
    show SP p e below T1 (mkF m 6 #[vR a0] []) _
    exact X1'.returnOut hx Bd.returns (hb hby d6_6) hr
  · show Q6 Z a0 sC h0 n0 _ T1.heap _
    exact ⟨b1_0, kk1_0, rfl, N1, sz_b1_0, K1, pf1_0, pf1_1, pf1_2, pf1_3, pf1_4, pf1_5⟩
theorem d14_0 : decode jdk_68_method_71_code 0 = .ok (.getstatic 18, 3) := by decide +kernel
theorem d14_3 : decode jdk_68_method_71_code 3 = .ok (.ifCond .eq 18, 3) := by decide +kernel
theorem d14_6 : decode jdk_68_method_71_code 6 = .ok (.aload_n 0, 1) := by decide +kernel
theorem d14_7 : decode jdk_68_method_71_code 7 = .ok (.getfield 22, 3) := by decide +kernel
theorem d14_10 : decode jdk_68_method_71_code 10 = .ok (.aload_n 1, 1) := by decide +kernel
theorem d14_11 : decode jdk_68_method_71_code 11 = .ok (.invokevirtual 40, 3) := by decide +kernel
theorem d14_14 : decode jdk_68_method_71_code 14 = .ok (.if_icmp .eq 7, 3) := by decide +kernel
theorem d14_21 : decode jdk_68_method_71_code 21 = .ok (.return_, 1) := by decide +kernel
theorem ef_rm14 (m : MethodId) (a0 : Addr) (a1 : Addr) : entryFrame m #[(.ref a0), (.ref a1)] 2 = mkF m 0 #[vR a0, vR a1] [] := by first | (simp [entryFrame, mkF, argsToLocals, Value.category]; done) | rfl
def Q14 (Z : State) (a0 : Addr) (a1 : Addr) (sC : Int32) (aV : Addr) (aB : Addr) (h0 : Heap) (n0 : Nat) (v : Option Value) (h : Heap) (L : List Loc) : Prop := v = none ∧ Fr n0 L ∧ h = h0
set_option maxRecDepth 65536 in
set_option maxHeartbeats 40000000 in
theorem rm14 (l : Launch) (Z : State) (az : Array Value) (hw : HW Z az) (ws : List Jvm.Cond) (a0 : Addr) (a1 : Addr) (sC : Int32) (aV : Addr) (aB : Addr) (h0 : Heap) (n0 : Nat) (Z0 : n0 ≤ h0.size) (S_COMPACT_STRINGS : Sta Z h0 cST "COMPACT_STRINGS" "Z" (.int sC)) (hc1 : ¬ (sC = (0 : Int32))) (E_a0 : Exa Z h0 a0 cSB) (F_value_a0 : Fld Z h0 a0 cAB "value" "[B" (.ref aV)) (F_coder_a0 : Fld Z h0 a0 cAB "coder" "B" (.int (0 : Int32))) (E_a1 : Exa Z h0 a1 cST) (F_coder_a1 : Fld Z h0 a1 cST "coder" "B" (.int (0 : Int32))) (F_value_a1 : Fld Z h0 a1 cST "value" "[B" (.ref aB)) :
    MF l Z h0 ws ⟨cAB, "inflateIfNeededFor", "(Ljava/lang/String;)V"⟩ jdk_68_method_71_code 2 none ⟨1, 0, 0, 13⟩ #[(.ref a0), (.ref a1)] (Q14 Z a0 a1 sC aV aB h0 n0) := by
  refine MetFree.of_bodySF (plainFor_of_name pn_java_lang_AbstractStringBuilder) hisR ?_
  intro p e s m args below meth c s₁ Bd hml0 hP hK
  obtain ⟨rfl, hZ, hh⟩ := hP
  have hx := Bd.exec
  have hby := Bd.bytes
  have hml : c.maxLocals = 2 := hml0
  have hown : s.vm.findClass cAB = some m.cls := findClass_of_methodNamed Bd.named
  have hnm := (name_of_methodNamed Bd.named Bd.method).1
  have X0 : Stand p l e (⟨1, 0, 0, 13⟩ : Room) s m #[(.ref a0), (.ref a1)] below meth c s₁ [] 0 0 := Stand.of_body Bd
  have e0 : s₁.heap = h0 := by rw [← hh, Bd.state]; rfl
  have N0 := Fr.nil n0
  have pre0 : ∀ t, Steps p.tables e below (s₁.setTop (mkF m 0 #[vR a0, vR a1] [])) t → Steps p.tables e below (s₁.setTop (entryFrame m #[(.ref a0), (.ref a1)] 2)) t := fun t k => castTop (ef_rm14 m a0 a1) k
  obtain ⟨T1, X1, e1, st1⟩ := getS2 X0 hx hZ hown (host := "") (Or.inl (w46 hw)) Via.refl e0 S_COMPACT_STRINGS (g := (mkF m 0 #[vR a0, vR a1] [])) rfl (hb hby d14_0)
  obtain ⟨T2, X2, e2, st2⟩ := getF X1 hx hZ hown (host := "") (Or.inl (w49 hw)) Via.refl e1 F_coder_a0 (g := (mkF m 7 #[vR a0, vR a1] [(.ref a0)])) rfl rfl (hb hby d14_7)
  obtain ⟨cq3, kq3, q3a, q3b, q3c⟩ := isOf hZ e2 E_a1
  obtain ⟨_, _, ⟨T3, L3, k3', n3'⟩, -, X3, ⟨Lc3, hQ3, l3, y3, z3⟩, st3⟩ := X2.virtualBack hx (y := (⟨cST, "coder", "()B"⟩ : MethodName)) (z := (⟨cST, "coder", "()B"⟩ : MethodName)) hown (mvT hZ (w89 hw)) (mvT hZ (w67 hw)) (notFace_of_selects (args := #[]) (mvT hZ (w69 hw))) (mvT hZ (w69 hw)) (mvT hZ (w68 hw)) (by decide) (backOf (W := 1) (rm11 l Z az hw [] a1 sC h0 n0 Z0 S_COMPACT_STRINGS hc1 F_coder_a1) hZ (w70 hw) (w6 hw) (by decide) (by decide)) q3a q3c (g := (mkF m 11 #[vR a0, vR a1] [(.ref a1), (.int (0 : Int32))])) rfl (by rw [hml]; rfl) (Steps.refl _) (argsL := []) (rest := [(.int (0 : Int32))]) (lenOf pd_0 rfl) rfl (Nat.le_of_eq rfl) (hb hby d14_11) (fun _ _ => ⟨rfl, e2, (by decide : 0 + 0 ≤ _), (by decide : 0 + 0 ≤ _)⟩)
  dsimp only [Pt.U, Pt.locs, Pt.cells, Pt.slots] at X3 l3 y3 z3 st3 hQ3
  subst l3 y3 z3
  obtain ⟨rfl, N3q, e3⟩ := hQ3
  obtain ⟨Lg3, X3', N3⟩ := own_gen X3 (Fr.app N0 N3q)
  obtain ⟨fs, hr, hrun, hended, hW, hsame⟩ := X3'.leave (v := none) (fun _ => rfl)
  refine ⟨_, _, pre0 _ ?_, hrun, hended, _, _, rfl, ?_, ⟨_, rfl⟩, hW, hsame.mono (by decide) (by decide)⟩
  · show SP p e below s₁ (mkF m 0 #[vR a0, vR a1] []) _
    refine st1 _ ?_
    show SP p e below T1 (mkF m 3 #[vR a0, vR a1] [(.int sC)]) _
    refine XS.ifNo X1.here hx rfl (hb hby d14_3) rfl ((if0 _ _).trans (feq hc1).1) ?_
    refine XS.aloadN X1.here hx rfl (hb hby d14_6) rfl rfl ?_
    show SP p e below T1 (mkF m 7 #[vR a0, vR a1] [(.ref a0)]) _
    refine st2 _ ?_
    show SP p e below T2 (mkF m 10 #[vR a0, vR a1] [(.int (0 : Int32))]) _
    refine XS.aloadN X2.here hx rfl (hb hby d14_10) rfl rfl ?_
    show SP p e below T2 (mkF m 11 #[vR a0, vR a1] [(.ref a1), (.int (0 : Int32))]) _
    refine st3.trans ?_
    show SP p e below T3 (mkF m 14 #[vR a0, vR a1] [(.int (0 : Int32)), (.int (0 : Int32))]) _
    refine XS.icmpYes X3'.here hx rfl (pc0 := 14) (pc' := 21) rfl (hb hby d14_14) rfl (teq (by decide : (0 : Int32) = (0 : Int32))).1 (by decide) (by decide) ?_
    show SP p e below T3 (mkF m 21 #[vR a0, vR a1] []) _
    exact X3'.returnOut hx Bd.returns (hb hby d14_21) hr
  · show Q14 Z a0 a1 sC aV aB h0 n0 _ T3.heap _
    rw [e3]
    exact ⟨rfl, N3, rfl⟩
theorem d15_0 : decode jdk_42_method_147_code 0 = .ok (.aload_n 0, 1) := by decide +kernel
theorem d15_1 : decode jdk_42_method_147_code 1 = .ok (.invokevirtual 335, 3) := by decide +kernel
theorem d15_4 : decode jdk_42_method_147_code 4 = .ok (.iload_n 3, 1) := by decide +kernel
theorem d15_5 : decode jdk_42_method_147_code 5 = .ok (.if_icmp .ne 23, 3) := by decide +kernel
theorem d15_8 : decode jdk_42_method_147_code 8 = .ok (.aload_n 0, 1) := by decide +kernel
theorem d15_9 : decode jdk_42_method_147_code 9 = .ok (.getfield 9, 3) := by decide +kernel
theorem d15_12 : decode jdk_42_method_147_code 12 = .ok (.iconst 0, 1) := by decide +kernel
theorem d15_13 : decode jdk_42_method_147_code 13 = .ok (.aload_n 1, 1) := by decide +kernel
theorem d15_14 : decode jdk_42_method_147_code 14 = .ok (.iload_n 2, 1) := by decide +kernel
theorem d15_15 : decode jdk_42_method_147_code 15 = .ok (.iload_n 3, 1) := by decide +kernel
theorem d15_16 : decode jdk_42_method_147_code 16 = .ok (.ishl, 1) := by decide +kernel
theorem d15_17 : decode jdk_42_method_147_code 17 = .ok (.aload_n 0, 1) := by decide +kernel
theorem d15_18 : decode jdk_42_method_147_code 18 = .ok (.getfield 9, 3) := by decide +kernel
theorem d15_21 : decode jdk_42_method_147_code 21 = .ok (.arraylength, 1) := by decide +kernel
theorem d15_22 : decode jdk_42_method_147_code 22 = .ok (.invokestatic 212, 3) := by decide +kernel
theorem d15_25 : decode jdk_42_method_147_code 25 = .ok (.goto 18, 3) := by decide +kernel
theorem d15_43 : decode jdk_42_method_147_code 43 = .ok (.return_, 1) := by decide +kernel
theorem ef_rm15 (m : MethodId) (a0 : Addr) (a1 : Addr) (p2 : Int32) : entryFrame m #[(.ref a0), (.ref a1), (.int p2), (.int (0 : Int32))] 4 = mkF m 0 #[vR a0, vR a1, vI p2, vI (0 : Int32)] [] := by first | (simp [entryFrame, mkF, argsToLocals, Value.category]; done) | rfl
def Q15 (Z : State) (a0 : Addr) (a1 : Addr) (p2 : Int32) (sC : Int32) (aB : Addr) (kaB : ClassId) (ln : Int32) (fB : Nat → Value) (k1 : ClassId) (cap : Int32) (fV : Nat → Value) (h0 : Heap) (n0 : Nat) (v : Option Value) (h : Heap) (L : List Loc) : Prop := v = none ∧ Fr n0 L ∧ Keep h0 h [a1] ∧ Exa Z h a1 "[B" ∧ own_Arf Z h a1 k1 .byte cap (own_cpf fB ((0 : Int32)).toNatClampNeg fV (p2).toNatClampNeg (ln).toNatClampNeg)
set_option maxRecDepth 65536 in
set_option maxHeartbeats 40000000 in
theorem rm15 (l : Launch) (Z : State) (az : Array Value) (hw : HW Z az) (ws : List Jvm.Cond) (a0 : Addr) (a1 : Addr) (p2 : Int32) (sC : Int32) (aB : Addr) (kaB : ClassId) (ln : Int32) (fB : Nat → Value) (k1 : ClassId) (cap : Int32) (fV : Nat → Value) (h0 : Heap) (n0 : Nat) (Z0 : n0 ≤ h0.size) (S_COMPACT_STRINGS : Sta Z h0 cST "COMPACT_STRINGS" "Z" (.int sC)) (hc1 : ¬ (sC = (0 : Int32))) (E_a0 : Exa Z h0 a0 cST) (F_coder_a0 : Fld Z h0 a0 cST "coder" "B" (.int (0 : Int32))) (F_value_a0 : Fld Z h0 a0 cST "value" "[B" (.ref aB)) (V_aB : own_Arf Z h0 aB kaB .byte ln fB) (E_aB : Exa Z h0 aB "[B") (V_a1 : own_Arf Z h0 a1 k1 .byte cap fV) (E_a1 : Exa Z h0 a1 "[B") (hc9 : ¬ (p2 < (0 : Int32))) (hc10 : ¬ (ln < (0 : Int32))) (hc11 : ((0 : Int32)).toNatClampNeg + (ln).toNatClampNeg ≤ (ln).toNatClampNeg) (hc12 : (p2).toNatClampNeg + (ln).toNatClampNeg ≤ (cap).toNatClampNeg) (g_a1 : n0 ≤ a1) :
    MF l Z h0 ws ⟨cST, "getBytes", "([BIB)V"⟩ jdk_42_method_147_code 4 none ⟨1, 0, 0, 24⟩ #[(.ref a0), (.ref a1), (.int p2), (.int (0 : Int32))] (Q15 Z a0 a1 p2 sC aB kaB ln fB k1 cap fV h0 n0) := by
  refine MetFree.of_bodySF (plainFor_of_name pn_java_lang_String) hisR ?_
  intro p e s m args below meth c s₁ Bd hml0 hP hK
  obtain ⟨rfl, hZ, hh⟩ := hP
  have hx := Bd.exec
  have hby := Bd.bytes
  have hml : c.maxLocals = 4 := hml0
  have hown : s.vm.findClass cST = some m.cls := findClass_of_methodNamed Bd.named
  have hnm := (name_of_methodNamed Bd.named Bd.method).1
  have X0 : Stand p l e (⟨1, 0, 0, 24⟩ : Room) s m #[(.ref a0), (.ref a1), (.int p2), (.int (0 : Int32))] below meth c s₁ [] 0 0 := Stand.of_body Bd
  have e0 : s₁.heap = h0 := by rw [← hh, Bd.state]; rfl
  have N0 := Fr.nil n0
  have pre0 : ∀ t, Steps p.tables e below (s₁.setTop (mkF m 0 #[vR a0, vR a1, vI p2, vI (0 : Int32)] [])) t → Steps p.tables e below (s₁.setTop (entryFrame m #[(.ref a0), (.ref a1), (.int p2), (.int (0 : Int32))] 4)) t := fun t k => castTop (ef_rm15 m a0 a1 p2) k
  obtain ⟨cq1, kq1, q1a, q1b, q1c⟩ := isOf hZ e0 E_a0
  obtain ⟨_, _, ⟨T1, L1, k1', n1'⟩, -, X1, ⟨Lc1, hQ1, l1, y1, z1⟩, st1⟩ := X0.virtualBack hx (y := (⟨cST, "coder", "()B"⟩ : MethodName)) (z := (⟨cST, "coder", "()B"⟩ : MethodName)) hown (mvT hZ (w66 hw)) (mvT hZ (w67 hw)) (notFace_of_selects (args := #[]) (mvT hZ (w69 hw))) (mvT hZ (w69 hw)) (mvT hZ (w68 hw)) (by decide) (backOf (W := 0) (rm11 l Z az hw [] a0 sC h0 n0 Z0 S_COMPACT_STRINGS hc1 F_coder_a0) hZ (w70 hw) (w6 hw) (by decide) (by decide)) q1a q1c (g := (mkF m 1 #[vR a0, vR a1, vI p2, vI (0 : Int32)] [(.ref a0)])) rfl (by rw [hml]; rfl) (Steps.refl _) (argsL := []) (rest := []) (lenOf pd_0 rfl) rfl (Nat.le_of_eq rfl) (hb hby d15_1) (fun _ _ => ⟨rfl, e0, (by decide : 0 + 0 ≤ _), (by decide : 0 + 0 ≤ _)⟩)
  dsimp only [Pt.U, Pt.locs, Pt.cells, Pt.slots] at X1 l1 y1 z1 st1 hQ1
  subst l1 y1 z1
  obtain ⟨rfl, N1q, e1⟩ := hQ1
  obtain ⟨Lg1, X1', N1⟩ := own_gen X1 (Fr.app N0 N1q)
  obtain ⟨T2, X2, e2, st2⟩ := getF X1' hx hZ hown (host := "") (Or.inl (w24 hw)) Via.refl e1 F_value_a0 (g := (mkF m 9 #[vR a0, vR a1, vI p2, vI (0 : Int32)] [(.ref a0)])) rfl rfl (hb hby d15_9)
  obtain ⟨T3, X3, e3, st3⟩ := getF X2 hx hZ hown (host := "") (Or.inl (w24 hw)) Via.refl e2 F_value_a0 (g := (mkF m 18 #[vR a0, vR a1, vI p2, vI (0 : Int32)] [(.ref a0), (.int p2), (.ref a1), (.int (0 : Int32)), (.ref aB)])) rfl rfl (hb hby d15_18)
  obtain ⟨cl4, Ar4, qk4, Sz4, Ng4, Hs4, Gf4⟩ := id V_aB
  obtain ⟨T5, h5, L5, X5, e5, N5, kq5, A5, st5⟩ := own_cpA X3 hx hZ hown (w95 hw) (w98 hw) (w96 hw) (w97 hw) e3 (sp := (0 : Int32)) (dp := p2) (nn := ln) (f := fB) (f' := fV) V_aB V_a1 rfl (by decide) hc9 hc10 hc11 hc12 N1 g_a1 (g := (mkF m 22 #[vR a0, vR a1, vI p2, vI (0 : Int32)] [(.int ln), (.int p2), (.ref a1), (.int (0 : Int32)), (.ref aB)])) rfl (by rw [hml]; rfl) rfl (hb hby d15_22) (by decide) (W := 0) (Nat.le_of_eq rfl) (by decide)
  have K5 : Keep h0 h5 [a1] := (Keep.refl h0 [a1]).trans kq5 (allS (Or.inl (mg 0 rfl)) all0)
  have Z5 : n0 ≤ h5.size := Nat.le_trans Z0 kq5.1
  have V_a1_5 : own_Arf Z h5 a1 k1 .byte cap (own_cpf fB ((0 : Int32)).toNatClampNeg fV (p2).toNatClampNeg (ln).toNatClampNeg) := A5
  have E_a1_u6 : Exa Z h5 a1 "[B" := (E_a1.keep kq5)
  obtain ⟨fs, hr, hrun, hended, hW, hsame⟩ := X5.leave (v := none) (fun _ => rfl)
  refine ⟨_, _, pre0 _ ?_, hrun, hended, _, _, rfl, ?_, ⟨_, rfl⟩, hW, hsame.mono (by decide) (by decide)⟩
  · show SP p e below s₁ (mkF m 0 #[vR a0, vR a1, vI p2, vI (0 : Int32)] []) _
    refine XS.aloadN X0.here hx rfl (hb hby d15_0) rfl rfl ?_
    show SP p e below s₁ (mkF m 1 #[vR a0, vR a1, vI p2, vI (0 : Int32)] [(.ref a0)]) _
    refine st1.trans ?_
    show SP p e below T1 (mkF m 4 #[vR a0, vR a1, vI p2, vI (0 : Int32)] [(.int (0 : Int32))]) _
    refine XS.iloadN X1'.here hx rfl (hb hby d15_4) rfl ?_
    refine XS.icmpNo X1'.here hx rfl (hb hby d15_5) rfl (teq (by decide : (0 : Int32) = (0 : Int32))).2 ?_
    refine XS.aloadN X1'.here hx rfl (hb hby d15_8) rfl rfl ?_
    show SP p e below T1 (mkF m 9 #[vR a0, vR a1, vI p2, vI (0 : Int32)] [(.ref a0)]) _
    refine st2 _ ?_
    show SP p e below T2 (mkF m 12 #[vR a0, vR a1, vI p2, vI (0 : Int32)] [(.ref aB)]) _
    refine XS.iconst X2.here hx rfl (hb hby d15_12) ?_
    refine XS.aloadN X2.here hx rfl (hb hby d15_13) rfl rfl ?_
    refine XS.iloadN X2.here hx rfl (hb hby d15_14) rfl ?_
    refine XS.iloadN X2.here hx rfl (hb hby d15_15) rfl ?_
    refine XS.ishl X2.here hx rfl (hb hby d15_16) rfl ?_
    rw [own_shl0]
    show SP p e below T2 (mkF m 17 #[vR a0, vR a1, vI p2, vI (0 : Int32)] [(.int p2), (.ref a1), (.int (0 : Int32)), (.ref aB)]) _
    refine XS.aloadN X2.here hx rfl (hb hby d15_17) rfl rfl ?_
    show SP p e below T2 (mkF m 18 #[vR a0, vR a1, vI p2, vI (0 : Int32)] [(.ref a0), (.int p2), (.ref a1), (.int (0 : Int32)), (.ref aB)]) _
    refine st3 _ ?_
    show SP p e below T3 (mkF m 21 #[vR a0, vR a1, vI p2, vI (0 : Int32)] [(.ref aB), (.int p2), (.ref a1), (.int (0 : Int32)), (.ref aB)]) _
    refine X3.arraylength hx (by rw [e3]; exact Ar4.1) (State.isArrayOf_alike hZ.alike Ar4.2.1) (g := (mkF m 21 #[vR a0, vR a1, vI p2, vI (0 : Int32)] [(.ref aB), (.int p2), (.ref a1), (.int (0 : Int32)), (.ref aB)])) rfl rfl (hb hby d15_21) _ ?_
    rw [len_of Sz4 Ng4]
    show SP p e below T3 (mkF m 22 #[vR a0, vR a1, vI p2, vI (0 : Int32)] [(.int ln), (.int p2), (.ref a1), (.int (0 : Int32)), (.ref aB)]) _
    refine st5 _ ?_
    show SP p e below T5 (mkF m 25 #[vR a0, vR a1, vI p2, vI (0 : Int32)] []) _
    refine XS.goto X5.here hx rfl (pc0 := 25) (pc' := 43) rfl (hb hby d15_25) (by decide) (by decide) ?_
    show SP p e below T5 (mkF m 43 #[vR a0, vR a1, vI p2, vI (0 : Int32)] []) _
    exact X5.returnOut hx Bd.returns (hb hby d15_43) hr
  · show Q15 Z a0 a1 p2 sC aB kaB ln fB k1 cap fV h0 n0 _ T5.heap _
    rw [e5]
    exact ⟨rfl, N5, K5, E_a1_u6, V_a1_5⟩
theorem d13_0 : decode jdk_68_method_73_code 0 = .ok (.aload_n 0, 1) := by decide +kernel
theorem d13_1 : decode jdk_68_method_73_code 1 = .ok (.aload_n 2, 1) := by decide +kernel
theorem d13_2 : decode jdk_68_method_73_code 2 = .ok (.invokevirtual 397, 3) := by decide +kernel
theorem pd_2 : parseMethodDescriptor "(Ljava/lang/String;)V" = some ⟨[(.object "java/lang/String")], none⟩ := by decide +kernel
theorem d13_5 : decode jdk_68_method_73_code 5 = .ok (.aload_n 2, 1) := by decide +kernel
theorem d13_6 : decode jdk_68_method_73_code 6 = .ok (.aload_n 0, 1) := by decide +kernel
theorem d13_7 : decode jdk_68_method_73_code 7 = .ok (.getfield 15, 3) := by decide +kernel
theorem d13_10 : decode jdk_68_method_73_code 10 = .ok (.iload_n 1, 1) := by decide +kernel
theorem d13_11 : decode jdk_68_method_73_code 11 = .ok (.aload_n 0, 1) := by decide +kernel
theorem d13_12 : decode jdk_68_method_73_code 12 = .ok (.getfield 22, 3) := by decide +kernel
theorem d13_15 : decode jdk_68_method_73_code 15 = .ok (.invokevirtual 399, 3) := by decide +kernel
theorem pd_3 : parseMethodDescriptor "([BIB)V" = some ⟨[(.array .byte), .int, .byte], none⟩ := by decide +kernel
theorem d13_18 : decode jdk_68_method_73_code 18 = .ok (.return_, 1) := by decide +kernel
theorem ef_rm13 (m : MethodId) (a0 : Addr) (p1 : Int32) (a2 : Addr) : entryFrame m #[(.ref a0), (.int p1), (.ref a2)] 3 = mkF m 0 #[vR a0, vI p1, vR a2] [] := by first | (simp [entryFrame, mkF, argsToLocals, Value.category]; done) | rfl
def Q13 (Z : State) (a0 : Addr) (p1 : Int32) (a2 : Addr) (sC : Int32) (aV : Addr) (kaV : ClassId) (cap : Int32) (fV : Nat → Value) (aB : Addr) (kaB : ClassId) (ln : Int32) (fB : Nat → Value) (h0 : Heap) (n0 : Nat) (v : Option Value) (h : Heap) (L : List Loc) : Prop := v = none ∧ Fr n0 L ∧ Keep h0 h [aV] ∧ Exa Z h aV "[B" ∧ own_Arf Z h aV kaV .byte cap (own_cpf fB ((0 : Int32)).toNatClampNeg fV (p1).toNatClampNeg (ln).toNatClampNeg)
set_option maxRecDepth 65536 in
set_option maxHeartbeats 40000000 in
theorem rm13 (l : Launch) (Z : State) (az : Array Value) (hw : HW Z az) (ws : List Jvm.Cond) (a0 : Addr) (p1 : Int32) (a2 : Addr) (sC : Int32) (aV : Addr) (kaV : ClassId) (cap : Int32) (fV : Nat → Value) (aB : Addr) (kaB : ClassId) (ln : Int32) (fB : Nat → Value) (h0 : Heap) (n0 : Nat) (Z0 : n0 ≤ h0.size) (S_COMPACT_STRINGS : Sta Z h0 cST "COMPACT_STRINGS" "Z" (.int sC)) (hc1 : ¬ (sC = (0 : Int32))) (E_a0 : Exa Z h0 a0 cSB) (F_value_a0 : Fld Z h0 a0 cAB "value" "[B" (.ref aV)) (F_coder_a0 : Fld Z h0 a0 cAB "coder" "B" (.int (0 : Int32))) (V_aV : own_Arf Z h0 aV kaV .byte cap fV) (E_aV : Exa Z h0 aV "[B") (E_a2 : Exa Z h0 a2 cST) (F_coder_a2 : Fld Z h0 a2 cST "coder" "B" (.int (0 : Int32))) (F_value_a2 : Fld Z h0 a2 cST "value" "[B" (.ref aB)) (V_aB : own_Arf Z h0 aB kaB .byte ln fB) (E_aB : Exa Z h0 aB "[B") (hc12 : ¬ (p1 < (0 : Int32))) (hc13 : ¬ (ln < (0 : Int32))) (hc14 : ((0 : Int32)).toNatClampNeg + (ln).toNatClampNeg ≤ (ln).toNatClampNeg) (hc15 : (p1).toNatClampNeg + (ln).toNatClampNeg ≤ (cap).toNatClampNeg) (g_aV : n0 ≤ aV) :
    MF l Z h0 ws ⟨cAB, "putStringAt", "(ILjava/lang/String;)V"⟩ jdk_68_method_73_code 3 none ⟨2, 0, 0, 39⟩ #[(.ref a0), (.int p1), (.ref a2)] (Q13 Z a0 p1 a2 sC aV kaV cap fV aB kaB ln fB h0 n0) := by
  refine MetFree.of_bodySF (plainFor_of_name pn_java_lang_AbstractStringBuilder) hisR ?_
  intro p e s m args below meth c s₁ Bd hml0 hP hK
  obtain ⟨rfl, hZ, hh⟩ := hP
  have hx := Bd.exec
  have hby := Bd.bytes
  have hml : c.maxLocals = 3 := hml0
  have hown : s.vm.findClass cAB = some m.cls := findClass_of_methodNamed Bd.named
  have hnm := (name_of_methodNamed Bd.named Bd.method).1
  have X0 : Stand p l e (⟨2, 0, 0, 39⟩ : Room) s m #[(.ref a0), (.int p1), (.ref a2)] below meth c s₁ [] 0 0 := Stand.of_body Bd
  have e0 : s₁.heap = h0 := by rw [← hh, Bd.state]; rfl
  have N0 := Fr.nil n0
  have pre0 : ∀ t, Steps p.tables e below (s₁.setTop (mkF m 0 #[vR a0, vI p1, vR a2] [])) t → Steps p.tables e below (s₁.setTop (entryFrame m #[(.ref a0), (.int p1), (.ref a2)] 3)) t := fun t k => castTop (ef_rm13 m a0 p1 a2) k
  obtain ⟨cq1, q1, q1'⟩ := E_a0.cell
  obtain ⟨_, _, ⟨T1, L1, k1', n1'⟩, -, X1, ⟨Lc1, hQ1, l1, y1, z1⟩, st1⟩ := X0.privateBack hx (y := (⟨cAB, "inflateIfNeededFor", "(Ljava/lang/String;)V"⟩ : MethodName)) hown (mvT hZ (w84 hw)) (mvT hZ (w85 hw)) (own_privS (mvT hZ (w87 hw)) (Cond.privateMethod_at (mvP hZ (w86 hw) (args := #[]))) (mvT hZ (w85 hw)) (by decide)) (Cond.privateMethod_at (mvP hZ (w86 hw) (args := #[]))) (mvT hZ (w88 hw)) (by decide) (backOf (W := 0) (rm14 l Z az hw [] a0 a2 sC aV aB h0 n0 Z0 S_COMPACT_STRINGS hc1 E_a0 F_value_a0 F_coder_a0 E_a2 F_coder_a2 F_value_a2) hZ (w88 hw) (w43 hw) (by decide) (by decide)) (g := (mkF m 2 #[vR a0, vI p1, vR a2] [(.ref a2), (.ref a0)])) rfl (by rw [hml]; rfl) (Steps.refl _) (a := a0) (by rw [e0]; exact q1) q1' (argsL := [(.ref a2)]) (rest := []) (lenOf pd_2 rfl) rfl (Nat.le_of_eq rfl) (hb hby d13_2) (fun _ _ => ⟨rfl, e0, (by decide : 0 + 0 ≤ _), (by decide : 0 + 0 ≤ _)⟩)
  dsimp only [Pt.U, Pt.locs, Pt.cells, Pt.slots] at X1 l1 y1 z1 st1 hQ1
  subst l1 y1 z1
  obtain ⟨rfl, N1q, e1⟩ := hQ1
  obtain ⟨Lg1, X1', N1⟩ := own_gen X1 (Fr.app N0 N1q)
  obtain ⟨T2, X2, e2, st2⟩ := getF X1' hx hZ hown (host := "") (Or.inl (w47 hw)) Via.refl e1 F_value_a0 (g := (mkF m 7 #[vR a0, vI p1, vR a2] [(.ref a0), (.ref a2)])) rfl rfl (hb hby d13_7)
  obtain ⟨T3, X3, e3, st3⟩ := getF X2 hx hZ hown (host := "") (Or.inl (w49 hw)) Via.refl e2 F_coder_a0 (g := (mkF m 12 #[vR a0, vI p1, vR a2] [(.ref a0), (.int p1), (.ref aV), (.ref a2)])) rfl rfl (hb hby d13_12)
  obtain ⟨cq4, kq4, q4a, q4b, q4c⟩ := isOf hZ e3 E_a2
  obtain ⟨_, _, ⟨T4, L4, k4', n4'⟩, -, X4, ⟨Lc4, hQ4, l4, y4, z4⟩, st4⟩ := X3.virtualBack hx (y := (⟨cST, "getBytes", "([BIB)V"⟩ : MethodName)) (z := (⟨cST, "getBytes", "([BIB)V"⟩ : MethodName)) hown (mvT hZ (w90 hw)) (mvT hZ (w91 hw)) (notFace_of_selects (args := #[]) (mvT hZ (w93 hw))) (mvT hZ (w93 hw)) (mvT hZ (w92 hw)) (by decide) (backOf (W := 0) (rm15 l Z az hw [] a2 aV p1 sC aB kaB ln fB kaV cap fV h0 n0 Z0 S_COMPACT_STRINGS hc1 E_a2 F_coder_a2 F_value_a2 V_aB E_aB V_aV E_aV hc12 hc13 hc14 hc15 g_aV) hZ (w94 hw) (w6 hw) (by decide) (by decide)) q4a q4c (g := (mkF m 15 #[vR a0, vI p1, vR a2] [(.int (0 : Int32)), (.int p1), (.ref aV), (.ref a2)])) rfl (by rw [hml]; rfl) (Steps.refl _) (argsL := [(.ref aV), (.int p1), (.int (0 : Int32))]) (rest := []) (lenOf pd_3 rfl) rfl (Nat.le_of_eq rfl) (hb hby d13_15) (fun _ _ => ⟨rfl, e3, (by decide : 0 + 0 ≤ _), (by decide : 0 + 0 ≤ _)⟩)
  dsimp only [Pt.U, Pt.locs, Pt.cells, Pt.slots] at X4 l4 y4 z4 st4 hQ4
  subst l4 y4 z4
  obtain ⟨rfl, N4q, kq4, pf4_0, pf4_1⟩ := hQ4
  obtain ⟨Lg4, X4', N4⟩ := own_gen X4 (Fr.app N1 N4q)
  have K4 : Keep h0 T4.heap [aV] := (Keep.refl h0 [aV]).trans kq4 (allS (Or.inl (mg 0 rfl)) all0)
  have Z4 : n0 ≤ T4.heap.size := Nat.le_trans Z0 kq4.1
  obtain ⟨fs, hr, hrun, hended, hW, hsame⟩ := X4'.leave (v := none) (fun _ => rfl)
  refine ⟨_, _, pre0 _ ?_, hrun, hended, _, _, rfl, ?_, ⟨_, rfl⟩, hW, hsame.mono (by decide) (by decide)⟩
  · show SP p e below s₁ (mkF m 0 #[vR a0, vI p1, vR a2] []) _
    refine XS.aloadN X0.here hx rfl (hb hby d13_0) rfl rfl ?_
    refine XS.aloadN X0.here hx rfl (hb hby d13_1) rfl rfl ?_
    show SP p e below s₁ (mkF m 2 #[vR a0, vI p1, vR a2] [(.ref a2), (.ref a0)]) _
    refine st1.trans ?_
    show SP p e below T1 (mkF m 5 #[vR a0, vI p1, vR a2] []) _
    refine XS.aloadN X1'.here hx rfl (hb hby d13_5) rfl rfl ?_
    refine XS.aloadN X1'.here hx rfl (hb hby d13_6) rfl rfl ?_
    show SP p e below T1 (mkF m 7 #[vR a0, vI p1, vR a2] [(.ref a0), (.ref a2)]) _
    refine st2 _ ?_
    show SP p e below T2 (mkF m 10 #[vR a0, vI p1, vR a2] [(.ref aV), (.ref a2)]) _
    refine XS.iloadN X2.here hx rfl (hb hby d13_10) rfl ?_
    refine XS.aloadN X2.here hx rfl (hb hby d13_11) rfl rfl ?_
    show SP p e below T2 (mkF m 12 #[vR a0, vI p1, vR a2] [(.ref a0), (.int p1), (.ref aV), (.ref a2)]) _
    refine st3 _ ?_
    show SP p e below T3 (mkF m 15 #[vR a0, vI p1, vR a2] [(.int (0 : Int32)), (.int p1), (.ref aV), (.ref a2)]) _
    refine st4.trans ?_
    show SP p e below T4 (mkF m 18 #[vR a0, vI p1, vR a2] []) _
    exact X4'.returnOut hx Bd.returns (hb hby d13_18) hr
  · show Q13 Z a0 p1 a2 sC aV kaV cap fV aB kaB ln fB h0 n0 _ T4.heap _
    exact ⟨rfl, N4, K4, pf4_0, pf4_1⟩
theorem d18_0 : decode jdk_29_method_65_code 0 = .ok (.iload_n 0, 1) := by decide +kernel
theorem d18_1 : decode jdk_29_method_65_code 1 = .ok (.iload_n 1, 1) := by decide +kernel
theorem d18_2 : decode jdk_29_method_65_code 2 = .ok (.if_icmp .lt 7, 3) := by decide +kernel
theorem d18_5 : decode jdk_29_method_65_code 5 = .ok (.iload_n 0, 1) := by decide +kernel
theorem d18_6 : decode jdk_29_method_65_code 6 = .ok (.goto 4, 3) := by decide +kernel
theorem d18_10 : decode jdk_29_method_65_code 10 = .ok (.ireturn, 1) := by decide +kernel
theorem ef_rm18a (m : MethodId) (p0 : Int32) (p1 : Int32) : entryFrame m #[(.int p0), (.int p1)] 2 = mkF m 0 #[vI p0, vI p1] [] := by first | (simp [entryFrame, mkF, argsToLocals, Value.category]; done) | rfl
def Q18a (Z : State) (p0 : Int32) (p1 : Int32) (h0 : Heap) (n0 : Nat) (v : Option Value) (h : Heap) (L : List Loc) : Prop := v = some (.int p0) ∧ Fr n0 L ∧ h = h0
set_option maxRecDepth 65536 in
set_option maxHeartbeats 40000000 in
theorem rm18a (l : Launch) (Z : State) (az : Array Value) (hw : HW Z az) (ws : List Jvm.Cond) (p0 : Int32) (p1 : Int32) (h0 : Heap) (n0 : Nat) (Z0 : n0 ≤ h0.size) (hc0 : ¬ (p0 < p1)) :
    MF l Z h0 ws ⟨"java/lang/Math", "max", "(II)I"⟩ jdk_29_method_65_code 2 (some .int) ⟨0, 0, 0, 0⟩ #[(.int p0), (.int p1)] (Q18a Z p0 p1 h0 n0) := by
  refine MetFree.of_bodySF (Jvm.Free.JP.mathPlain rfl (by decide +kernel)) hisR ?_
  intro p e s m args below meth c s₁ Bd hml0 hP hK
  obtain ⟨rfl, hZ, hh⟩ := hP
  have hx := Bd.exec
  have hby := Bd.bytes
  have hml : c.maxLocals = 2 := hml0
  have hown : s.vm.findClass "java/lang/Math" = some m.cls := findClass_of_methodNamed Bd.named
  have hnm := (name_of_methodNamed Bd.named Bd.method).1
  have X0 : Stand p l e (⟨0, 0, 0, 0⟩ : Room) s m #[(.int p0), (.int p1)] below meth c s₁ [] 0 0 := Stand.of_body Bd
  have e0 : s₁.heap = h0 := by rw [← hh, Bd.state]; rfl
  have N0 := Fr.nil n0
  have pre0 : ∀ t, Steps p.tables e below (s₁.setTop (mkF m 0 #[vI p0, vI p1] [])) t → Steps p.tables e below (s₁.setTop (entryFrame m #[(.int p0), (.int p1)] 2)) t := fun t k => castTop (ef_rm18a m p0 p1) k
  obtain ⟨fs, hr, hrun, hended, hW, hsame⟩ := X0.leave (v := some (.int p0)) (fun h => by rw [Bd.returns] at h; cases h)
  refine ⟨_, _, pre0 _ ?_, hrun, hended, _, _, rfl, ?_, ⟨_, rfl⟩, hW, hsame.mono (by decide) (by decide)⟩
  · show SP p e below s₁ (mkF m 0 #[vI p0, vI p1] []) _
    refine XS.iloadN X0.here hx rfl (hb hby d18_0) rfl ?_
    refine XS.iloadN X0.here hx rfl (hb hby d18_1) rfl ?_
    refine XS.icmpNo X0.here hx rfl (hb hby d18_2) rfl (flt hc0).1 ?_
    refine XS.iloadN X0.here hx rfl (hb hby d18_5) rfl ?_
    refine XS.goto X0.here hx rfl (pc0 := 6) (pc' := 10) rfl (hb hby d18_6) (by decide) (by decide) ?_
    show SP p e below s₁ (mkF m 10 #[vI p0, vI p1] [(.int p0)]) _
    exact retI X0 hx Bd.returns (hb hby d18_10) hr
  · show Q18a Z p0 p1 h0 n0 _ s₁.heap _
    rw [e0]
    exact ⟨rfl, N0, rfl⟩
theorem d18_9 : decode jdk_29_method_65_code 9 = .ok (.iload_n 1, 1) := by decide +kernel
theorem ef_rm18b (m : MethodId) (p0 : Int32) (p1 : Int32) : entryFrame m #[(.int p0), (.int p1)] 2 = mkF m 0 #[vI p0, vI p1] [] := by first | (simp [entryFrame, mkF, argsToLocals, Value.category]; done) | rfl
def Q18b (Z : State) (p0 : Int32) (p1 : Int32) (h0 : Heap) (n0 : Nat) (v : Option Value) (h : Heap) (L : List Loc) : Prop := v = some (.int p1) ∧ Fr n0 L ∧ h = h0
set_option maxRecDepth 65536 in
set_option maxHeartbeats 40000000 in
theorem rm18b (l : Launch) (Z : State) (az : Array Value) (hw : HW Z az) (ws : List Jvm.Cond) (p0 : Int32) (p1 : Int32) (h0 : Heap) (n0 : Nat) (Z0 : n0 ≤ h0.size) (hc0 : p0 < p1) :
    MF l Z h0 ws ⟨"java/lang/Math", "max", "(II)I"⟩ jdk_29_method_65_code 2 (some .int) ⟨0, 0, 0, 0⟩ #[(.int p0), (.int p1)] (Q18b Z p0 p1 h0 n0) := by
  refine MetFree.of_bodySF (Jvm.Free.JP.mathPlain rfl (by decide +kernel)) hisR ?_
  intro p e s m args below meth c s₁ Bd hml0 hP hK
  obtain ⟨rfl, hZ, hh⟩ := hP
  have hx := Bd.exec
  have hby := Bd.bytes
  have hml : c.maxLocals = 2 := hml0
  have hown : s.vm.findClass "java/lang/Math" = some m.cls := findClass_of_methodNamed Bd.named
  have hnm := (name_of_methodNamed Bd.named Bd.method).1
  have X0 : Stand p l e (⟨0, 0, 0, 0⟩ : Room) s m #[(.int p0), (.int p1)] below meth c s₁ [] 0 0 := Stand.of_body Bd
  have e0 : s₁.heap = h0 := by rw [← hh, Bd.state]; rfl
  have N0 := Fr.nil n0
  have pre0 : ∀ t, Steps p.tables e below (s₁.setTop (mkF m 0 #[vI p0, vI p1] [])) t → Steps p.tables e below (s₁.setTop (entryFrame m #[(.int p0), (.int p1)] 2)) t := fun t k => castTop (ef_rm18b m p0 p1) k
  obtain ⟨fs, hr, hrun, hended, hW, hsame⟩ := X0.leave (v := some (.int p1)) (fun h => by rw [Bd.returns] at h; cases h)
  refine ⟨_, _, pre0 _ ?_, hrun, hended, _, _, rfl, ?_, ⟨_, rfl⟩, hW, hsame.mono (by decide) (by decide)⟩
  · show SP p e below s₁ (mkF m 0 #[vI p0, vI p1] []) _
    refine XS.iloadN X0.here hx rfl (hb hby d18_0) rfl ?_
    refine XS.iloadN X0.here hx rfl (hb hby d18_1) rfl ?_
    refine XS.icmpYes X0.here hx rfl (pc0 := 2) (pc' := 9) rfl (hb hby d18_2) rfl (tlt hc0).1 (by decide) (by decide) ?_
    refine XS.iloadN X0.here hx rfl (hb hby d18_9) rfl ?_
    show SP p e below s₁ (mkF m 10 #[vI p0, vI p1] [(.int p1)]) _
    exact retI X0 hx Bd.returns (hb hby d18_10) hr
  · show Q18b Z p0 p1 h0 n0 _ s₁.heap _
    rw [e0]
    exact ⟨rfl, N0, rfl⟩
theorem d17_0 : decode jdk_48_method_27_code 0 = .ok (.iload_n 0, 1) := by decide +kernel
theorem d17_1 : decode jdk_48_method_27_code 1 = .ok (.iload_n 1, 1) := by decide +kernel
theorem d17_2 : decode jdk_48_method_27_code 2 = .ok (.iload_n 2, 1) := by decide +kernel
theorem d17_3 : decode jdk_48_method_27_code 3 = .ok (.invokestatic 194, 3) := by decide +kernel
theorem pd_4 : parseMethodDescriptor "(II)I" = some ⟨[.int, .int], some .int⟩ := by decide +kernel
theorem d17_6 : decode jdk_48_method_27_code 6 = .ok (.iadd, 1) := by decide +kernel
theorem d17_7 : decode jdk_48_method_27_code 7 = .ok (.istore_n 3, 1) := by decide +kernel
theorem d17_8 : decode jdk_48_method_27_code 8 = .ok (.iconst 0, 1) := by decide +kernel
theorem d17_9 : decode jdk_48_method_27_code 9 = .ok (.iload_n 3, 1) := by decide +kernel
theorem d17_10 : decode jdk_48_method_27_code 10 = .ok (.if_icmp .ge 11, 3) := by decide +kernel
theorem d17_13 : decode jdk_48_method_27_code 13 = .ok (.iload_n 3, 1) := by decide +kernel
theorem d17_14 : decode jdk_48_method_27_code 14 = .ok (.ldc 200, 2) := by decide +kernel
theorem d17_16 : decode jdk_48_method_27_code 16 = .ok (.if_icmp .gt 5, 3) := by decide +kernel
theorem d17_19 : decode jdk_48_method_27_code 19 = .ok (.iload_n 3, 1) := by decide +kernel
theorem d17_20 : decode jdk_48_method_27_code 20 = .ok (.ireturn, 1) := by decide +kernel
theorem pn_jdk_internal_util_ArraysSupport : plainName "jdk/internal/util/ArraysSupport" = true := by first | (simp [plainName, overriddenIn]; done) | decide +kernel
theorem ef_rm17a (m : MethodId) (p0 : Int32) (p1 : Int32) (p2 : Int32) : entryFrame m #[(.int p0), (.int p1), (.int p2)] 4 = mkF m 0 #[vI p0, vI p1, vI p2, .unset] [] := by first | (simp [entryFrame, mkF, argsToLocals, Value.category]; done) | rfl
def Q17a (Z : State) (p0 : Int32) (p1 : Int32) (p2 : Int32) (h0 : Heap) (n0 : Nat) (v : Option Value) (h : Heap) (L : List Loc) : Prop := v = some (.int (p0 + p1)) ∧ Fr n0 L ∧ h = h0
set_option maxRecDepth 65536 in
set_option maxHeartbeats 40000000 in
theorem rm17a (l : Launch) (Z : State) (az : Array Value) (hw : HW Z az) (ws : List Jvm.Cond) (p0 : Int32) (p1 : Int32) (p2 : Int32) (h0 : Heap) (n0 : Nat) (Z0 : n0 ≤ h0.size) (hc0 : ¬ (p1 < p2)) (hc1 : (0 : Int32) < (p0 + p1)) (hc2 : ¬ ((2147483639 : Int32) < (p0 + p1))) :
    MF l Z h0 ws ⟨"jdk/internal/util/ArraysSupport", "newLength", "(III)I"⟩ jdk_48_method_27_code 4 (some .int) ⟨1, 0, 0, 14⟩ #[(.int p0), (.int p1), (.int p2)] (Q17a Z p0 p1 p2 h0 n0) := by
  refine MetFree.of_bodySF (plainFor_of_name pn_jdk_internal_util_ArraysSupport) hisR ?_
  intro p e s m args below meth c s₁ Bd hml0 hP hK
  obtain ⟨rfl, hZ, hh⟩ := hP
  have hx := Bd.exec
  have hby := Bd.bytes
  have hml : c.maxLocals = 4 := hml0
  have hown : s.vm.findClass "jdk/internal/util/ArraysSupport" = some m.cls := findClass_of_methodNamed Bd.named
  have hnm := (name_of_methodNamed Bd.named Bd.method).1
  have X0 : Stand p l e (⟨1, 0, 0, 14⟩ : Room) s m #[(.int p0), (.int p1), (.int p2)] below meth c s₁ [] 0 0 := Stand.of_body Bd
  have e0 : s₁.heap = h0 := by rw [← hh, Bd.state]; rfl
  have N0 := Fr.nil n0
  have pre0 : ∀ t, Steps p.tables e below (s₁.setTop (mkF m 0 #[vI p0, vI p1, vI p2, .unset] [])) t → Steps p.tables e below (s₁.setTop (entryFrame m #[(.int p0), (.int p1), (.int p2)] 4)) t := fun t k => castTop (ef_rm17a m p0 p1 p2) k
  obtain ⟨_, _, ⟨T1, L1, k1', n1'⟩, -, X1, ⟨Lc1, hQ1, l1, y1, z1⟩, st1⟩ := Jvm.LawKit.callS X0 hx (y := (⟨"java/lang/Math", "max", "(II)I"⟩ : MethodName)) hown (mvT hZ (w109 hw)) (mvT hZ (w110 hw)) (mvT hZ (w111 hw)) (mvT hZ (w112 hw)) (by decide) (backOf (W := 1) (rm18a l Z az hw [] p1 p2 h0 n0 Z0 hc0) hZ (w112 hw) (w111 hw) (by decide) (by decide)) (g := (mkF m 3 #[vI p0, vI p1, vI p2, .unset] [(.int p2), (.int p1), (.int p0)])) rfl (by rw [hml]; rfl) (argsL := [(.int p1), (.int p2)]) (rest := [(.int p0)]) (lenOf pd_4 rfl) rfl (Nat.le_of_eq rfl) (hb hby d17_3) (fun _ _ => ⟨rfl, e0, (by decide : 0 + 0 ≤ _), (by decide : 0 + 0 ≤ _)⟩)
  dsimp only [Pt.U, Pt.locs, Pt.cells, Pt.slots] at X1 l1 y1 z1 st1 hQ1
  subst l1 y1 z1
  obtain ⟨rfl, N1q, e1⟩ := hQ1
  obtain ⟨Lg1, X1', N1⟩ := own_gen X1 (Fr.app N0 N1q)
  obtain ⟨fs, hr, hrun, hended, hW, hsame⟩ := X1'.leave (v := some (.int (p0 + p1))) (fun h => by rw [Bd.returns] at h; cases h)
  refine ⟨_, _, pre0 _ ?_, hrun, hended, _, _, rfl, ?_, ⟨_, rfl⟩, hW, hsame.mono (by decide) (by decide)⟩
  · show SP p e below s₁ (mkF m 0 #[vI p0, vI p1, vI p2, .unset] []) _
    refine XS.iloadN X0.here hx rfl (hb hby d17_0) rfl ?_
    refine XS.iloadN X0.here hx rfl (hb hby d17_1) rfl ?_
    refine XS.iloadN X0.here hx rfl (hb hby d17_2) rfl ?_
    show SP p e below s₁ (mkF m 3 #[vI p0, vI p1, vI p2, .unset] [(.int p2), (.int p1), (.int p0)]) _
    refine st1 _ ?_
    show SP p e below T1 (mkF m 6 #[vI p0, vI p1, vI p2, .unset] [(.int p1), (.int p0)]) _
    refine XS.iadd X1'.here hx rfl (hb hby d17_6) rfl ?_
    refine XS.istoreN X1'.here hx rfl (hb hby d17_7) rfl (l' := #[vI p0, vI p1, vI p2, vI (p0 + p1)]) rfl ?_
    refine XS.iconst X1'.here hx rfl (hb hby d17_8) ?_
    refine XS.iloadN X1'.here hx rfl (hb hby d17_9) rfl ?_
    refine XS.icmpNo X1'.here hx rfl (hb hby d17_10) rfl (tlt hc1).2.1 ?_
    refine XS.iloadN X1'.here hx rfl (hb hby d17_13) rfl ?_
    show SP p e below T1 (mkF m 14 #[vI p0, vI p1, vI p2, vI (p0 + p1)] [(.int (p0 + p1))]) _
    refine X1'.ldcInt hx hown (mvT hZ (w113 hw)) (g := (mkF m 14 #[vI p0, vI p1, vI p2, vI (p0 + p1)] [(.int (p0 + p1))])) rfl (hb hby d17_14) _ ?_
    show SP p e below T1 (mkF m 16 #[vI p0, vI p1, vI p2, vI (p0 + p1)] [(.int (2147483639 : Int32)), (.int (p0 + p1))]) _
    refine XS.icmpNo X1'.here hx rfl (hb hby d17_16) rfl (flt hc2).2.2.1 ?_
    refine XS.iloadN X1'.here hx rfl (hb hby d17_19) rfl ?_
    show SP p e below T1 (mkF m 20 #[vI p0, vI p1, vI p2, vI (p0 + p1)] [(.int (p0 + p1))]) _
    exact retI X1' hx Bd.returns (hb hby d17_20) hr
  · show Q17a Z p0 p1 p2 h0 n0 _ T1.heap _
    rw [e1]
    exact ⟨rfl, N1, rfl⟩
theorem ef_rm17b (m : MethodId) (p0 : Int32) (p1 : Int32) (p2 : Int32) : entryFrame m #[(.int p0), (.int p1), (.int p2)] 4 = mkF m 0 #[vI p0, vI p1, vI p2, .unset] [] := by first | (simp [entryFrame, mkF, argsToLocals, Value.category]; done) | rfl
def Q17b (Z : State) (p0 : Int32) (p1 : Int32) (p2 : Int32) (h0 : Heap) (n0 : Nat) (v : Option Value) (h : Heap) (L : List Loc) : Prop := v = some (.int (p0 + p2)) ∧ Fr n0 L ∧ h = h0
set_option maxRecDepth 65536 in
set_option maxHeartbeats 40000000 in
theorem rm17b (l : Launch) (Z : State) (az : Array Value) (hw : HW Z az) (ws : List Jvm.Cond) (p0 : Int32) (p1 : Int32) (p2 : Int32) (h0 : Heap) (n0 : Nat) (Z0 : n0 ≤ h0.size) (hc0 : p1 < p2) (hc1 : (0 : Int32) < (p0 + p2)) (hc2 : ¬ ((2147483639 : Int32) < (p0 + p2))) :
    MF l Z h0 ws ⟨"jdk/internal/util/ArraysSupport", "newLength", "(III)I"⟩ jdk_48_method_27_code 4 (some .int) ⟨1, 0, 0, 14⟩ #[(.int p0), (.int p1), (.int p2)] (Q17b Z p0 p1 p2 h0 n0) := by
  refine MetFree.of_bodySF (plainFor_of_name pn_jdk_internal_util_ArraysSupport) hisR ?_
  intro p e s m args below meth c s₁ Bd hml0 hP hK
  obtain ⟨rfl, hZ, hh⟩ := hP
  have hx := Bd.exec
  have hby := Bd.bytes
  have hml : c.maxLocals = 4 := hml0
  have hown : s.vm.findClass "jdk/internal/util/ArraysSupport" = some m.cls := findClass_of_methodNamed Bd.named
  have hnm := (name_of_methodNamed Bd.named Bd.method).1
  have X0 : Stand p l e (⟨1, 0, 0, 14⟩ : Room) s m #[(.int p0), (.int p1), (.int p2)] below meth c s₁ [] 0 0 := Stand.of_body Bd
  have e0 : s₁.heap = h0 := by rw [← hh, Bd.state]; rfl
  have N0 := Fr.nil n0
  have pre0 : ∀ t, Steps p.tables e below (s₁.setTop (mkF m 0 #[vI p0, vI p1, vI p2, .unset] [])) t → Steps p.tables e below (s₁.setTop (entryFrame m #[(.int p0), (.int p1), (.int p2)] 4)) t := fun t k => castTop (ef_rm17b m p0 p1 p2) k
  obtain ⟨_, _, ⟨T1, L1, k1', n1'⟩, -, X1, ⟨Lc1, hQ1, l1, y1, z1⟩, st1⟩ := Jvm.LawKit.callS X0 hx (y := (⟨"java/lang/Math", "max", "(II)I"⟩ : MethodName)) hown (mvT hZ (w109 hw)) (mvT hZ (w110 hw)) (mvT hZ (w111 hw)) (mvT hZ (w112 hw)) (by decide) (backOf (W := 1) (rm18b l Z az hw [] p1 p2 h0 n0 Z0 hc0) hZ (w112 hw) (w111 hw) (by decide) (by decide)) (g := (mkF m 3 #[vI p0, vI p1, vI p2, .unset] [(.int p2), (.int p1), (.int p0)])) rfl (by rw [hml]; rfl) (argsL := [(.int p1), (.int p2)]) (rest := [(.int p0)]) (lenOf pd_4 rfl) rfl (Nat.le_of_eq rfl) (hb hby d17_3) (fun _ _ => ⟨rfl, e0, (by decide : 0 + 0 ≤ _), (by decide : 0 + 0 ≤ _)⟩)
  dsimp only [Pt.U, Pt.locs, Pt.cells, Pt.slots] at X1 l1 y1 z1 st1 hQ1
  subst l1 y1 z1
  obtain ⟨rfl, N1q, e1⟩ := hQ1
  obtain ⟨Lg1, X1', N1⟩ := own_gen X1 (Fr.app N0 N1q)
  obtain ⟨fs, hr, hrun, hended, hW, hsame⟩ := X1'.leave (v := some (.int (p0 + p2))) (fun h => by rw [Bd.returns] at h; cases h)
  refine ⟨_, _, pre0 _ ?_, hrun, hended, _, _, rfl, ?_, ⟨_, rfl⟩, hW, hsame.mono (by decide) (by decide)⟩
  · show SP p e below s₁ (mkF m 0 #[vI p0, vI p1, vI p2, .unset] []) _
    refine XS.iloadN X0.here hx rfl (hb hby d17_0) rfl ?_
    refine XS.iloadN X0.here hx rfl (hb hby d17_1) rfl ?_
    refine XS.iloadN X0.here hx rfl (hb hby d17_2) rfl ?_
    show SP p e below s₁ (mkF m 3 #[vI p0, vI p1, vI p2, .unset] [(.int p2), (.int p1), (.int p0)]) _
    refine st1 _ ?_
    show SP p e below T1 (mkF m 6 #[vI p0, vI p1, vI p2, .unset] [(.int p2), (.int p0)]) _
    refine XS.iadd X1'.here hx rfl (hb hby d17_6) rfl ?_
    refine XS.istoreN X1'.here hx rfl (hb hby d17_7) rfl (l' := #[vI p0, vI p1, vI p2, vI (p0 + p2)]) rfl ?_
    refine XS.iconst X1'.here hx rfl (hb hby d17_8) ?_
    refine XS.iloadN X1'.here hx rfl (hb hby d17_9) rfl ?_
    refine XS.icmpNo X1'.here hx rfl (hb hby d17_10) rfl (tlt hc1).2.1 ?_
    refine XS.iloadN X1'.here hx rfl (hb hby d17_13) rfl ?_
    show SP p e below T1 (mkF m 14 #[vI p0, vI p1, vI p2, vI (p0 + p2)] [(.int (p0 + p2))]) _
    refine X1'.ldcInt hx hown (mvT hZ (w113 hw)) (g := (mkF m 14 #[vI p0, vI p1, vI p2, vI (p0 + p2)] [(.int (p0 + p2))])) rfl (hb hby d17_14) _ ?_
    show SP p e below T1 (mkF m 16 #[vI p0, vI p1, vI p2, vI (p0 + p2)] [(.int (2147483639 : Int32)), (.int (p0 + p2))]) _
    refine XS.icmpNo X1'.here hx rfl (hb hby d17_16) rfl (flt hc2).2.2.1 ?_
    refine XS.iloadN X1'.here hx rfl (hb hby d17_19) rfl ?_
    show SP p e below T1 (mkF m 20 #[vI p0, vI p1, vI p2, vI (p0 + p2)] [(.int (p0 + p2))]) _
    exact retI X1' hx Bd.returns (hb hby d17_20) hr
  · show Q17b Z p0 p1 p2 h0 n0 _ T1.heap _
    rw [e1]
    exact ⟨rfl, N1, rfl⟩
theorem d16_0 : decode jdk_68_method_10_code 0 = .ok (.aload_n 0, 1) := by decide +kernel
theorem d16_1 : decode jdk_68_method_10_code 1 = .ok (.getfield 15, 3) := by decide +kernel
theorem d16_4 : decode jdk_68_method_10_code 4 = .ok (.arraylength, 1) := by decide +kernel
theorem d16_5 : decode jdk_68_method_10_code 5 = .ok (.istore_n 2, 1) := by decide +kernel
theorem d16_6 : decode jdk_68_method_10_code 6 = .ok (.iload_n 1, 1) := by decide +kernel
theorem d16_7 : decode jdk_68_method_10_code 7 = .ok (.aload_n 0, 1) := by decide +kernel
theorem d16_8 : decode jdk_68_method_10_code 8 = .ok (.getfield 22, 3) := by decide +kernel
theorem d16_11 : decode jdk_68_method_10_code 11 = .ok (.ishl, 1) := by decide +kernel
theorem d16_12 : decode jdk_68_method_10_code 12 = .ok (.istore_n 3, 1) := by decide +kernel
theorem d16_13 : decode jdk_68_method_10_code 13 = .ok (.iload_n 3, 1) := by decide +kernel
theorem d16_14 : decode jdk_68_method_10_code 14 = .ok (.iload_n 2, 1) := by decide +kernel
theorem d16_15 : decode jdk_68_method_10_code 15 = .ok (.isub, 1) := by decide +kernel
theorem d16_16 : decode jdk_68_method_10_code 16 = .ok (.istore 4, 2) := by decide +kernel
theorem d16_18 : decode jdk_68_method_10_code 18 = .ok (.iload_n 2, 1) := by decide +kernel
theorem d16_19 : decode jdk_68_method_10_code 19 = .ok (.iload 4, 2) := by decide +kernel
theorem d16_21 : decode jdk_68_method_10_code 21 = .ok (.iload_n 2, 1) := by decide +kernel
theorem d16_22 : decode jdk_68_method_10_code 22 = .ok (.iconst 2, 1) := by decide +kernel
theorem d16_23 : decode jdk_68_method_10_code 23 = .ok (.aload_n 0, 1) := by decide +kernel
theorem d16_24 : decode jdk_68_method_10_code 24 = .ok (.getfield 22, 3) := by decide +kernel
theorem d16_27 : decode jdk_68_method_10_code 27 = .ok (.ishl, 1) := by decide +kernel
theorem d16_28 : decode jdk_68_method_10_code 28 = .ok (.iadd, 1) := by decide +kernel
theorem d16_29 : decode jdk_68_method_10_code 29 = .ok (.invokestatic 114, 3) := by decide +kernel
theorem pd_5 : parseMethodDescriptor "(III)I" = some ⟨[.int, .int, .int], some .int⟩ := by decide +kernel
theorem d16_32 : decode jdk_68_method_10_code 32 = .ok (.istore 5, 2) := by decide +kernel
theorem d16_34 : decode jdk_68_method_10_code 34 = .ok (.iload 5, 2) := by decide +kernel
theorem d16_36 : decode jdk_68_method_10_code 36 = .ok (.ldc 39, 2) := by decide +kernel
theorem d16_38 : decode jdk_68_method_10_code 38 = .ok (.if_icmp .ne 13, 3) := by decide +kernel
theorem d16_51 : decode jdk_68_method_10_code 51 = .ok (.iload 5, 2) := by decide +kernel
theorem d16_53 : decode jdk_68_method_10_code 53 = .ok (.aload_n 0, 1) := by decide +kernel
theorem d16_54 : decode jdk_68_method_10_code 54 = .ok (.getfield 22, 3) := by decide +kernel
theorem d16_57 : decode jdk_68_method_10_code 57 = .ok (.ishr, 1) := by decide +kernel
theorem d16_58 : decode jdk_68_method_10_code 58 = .ok (.ireturn, 1) := by decide +kernel
def own_nca (p1 : Int32) (cap : Int32) : Int32 := (cap + (p1 - cap))
theorem ef_rm16a (m : MethodId) (a0 : Addr) (p1 : Int32) : entryFrame m #[(.ref a0), (.int p1)] 6 = mkF m 0 #[vR a0, vI p1, .unset, .unset, .unset, .unset] [] := by first | (simp [entryFrame, mkF, argsToLocals, Value.category]; done) | rfl
def Q16a (Z : State) (a0 : Addr) (p1 : Int32) (aV : Addr) (kaV : ClassId) (cap : Int32) (fV : Nat → Value) (h0 : Heap) (n0 : Nat) (v : Option Value) (h : Heap) (L : List Loc) : Prop := v = some (.int (own_nca p1 cap)) ∧ Fr n0 L ∧ h = h0
set_option maxRecDepth 65536 in
set_option maxHeartbeats 40000000 in
theorem rm16a (l : Launch) (Z : State) (az : Array Value) (hw : HW Z az) (ws : List Jvm.Cond) (a0 : Addr) (p1 : Int32) (aV : Addr) (kaV : ClassId) (cap : Int32) (fV : Nat → Value) (h0 : Heap) (n0 : Nat) (Z0 : n0 ≤ h0.size) (E_a0 : Exa Z h0 a0 cSB) (F_value_a0 : Fld Z h0 a0 cAB "value" "[B" (.ref aV)) (F_coder_a0 : Fld Z h0 a0 cAB "coder" "B" (.int (0 : Int32))) (V_aV : own_Arf Z h0 aV kaV .byte cap fV) (E_aV : Exa Z h0 aV "[B") (hc5 : ¬ ((p1 - cap) < (cap + (2 : Int32)))) (hc6 : (0 : Int32) < (cap + (p1 - cap))) (hc7 : ¬ ((2147483639 : Int32) < (cap + (p1 - cap)))) (hc8 : ¬ ((cap + (p1 - cap)) = (2147483647 : Int32))) :
    MF l Z h0 ws ⟨cAB, "newCapacity", "(I)I"⟩ jdk_68_method_10_code 6 (some .int) ⟨2, 0, 0, 29⟩ #[(.ref a0), (.int p1)] (Q16a Z a0 p1 aV kaV cap fV h0 n0) := by
  refine MetFree.of_bodySF (plainFor_of_name pn_java_lang_AbstractStringBuilder) hisR ?_
  intro p e s m args below meth c s₁ Bd hml0 hP hK
  obtain ⟨rfl, hZ, hh⟩ := hP
  have hx := Bd.exec
  have hby := Bd.bytes
  have hml : c.maxLocals = 6 := hml0
  have hown : s.vm.findClass cAB = some m.cls := findClass_of_methodNamed Bd.named
  have hnm := (name_of_methodNamed Bd.named Bd.method).1
  have X0 : Stand p l e (⟨2, 0, 0, 29⟩ : Room) s m #[(.ref a0), (.int p1)] below meth c s₁ [] 0 0 := Stand.of_body Bd
  have e0 : s₁.heap = h0 := by rw [← hh, Bd.state]; rfl
  have N0 := Fr.nil n0
  have pre0 : ∀ t, Steps p.tables e below (s₁.setTop (mkF m 0 #[vR a0, vI p1, .unset, .unset, .unset, .unset] [])) t → Steps p.tables e below (s₁.setTop (entryFrame m #[(.ref a0), (.int p1)] 6)) t := fun t k => castTop (ef_rm16a m a0 p1) k
  obtain ⟨T1, X1, e1, st1⟩ := getF X0 hx hZ hown (host := "") (Or.inl (w47 hw)) Via.refl e0 F_value_a0 (g := (mkF m 1 #[vR a0, vI p1, .unset, .unset, .unset, .unset] [(.ref a0)])) rfl rfl (hb hby d16_1)
  obtain ⟨cl2, Ar2, qk2, Sz2, Ng2, Hs2, Gf2⟩ := id V_aV
  obtain ⟨T3, X3, e3, st3⟩ := getF X1 hx hZ hown (host := "") (Or.inl (w49 hw)) Via.refl e1 F_coder_a0 (g := (mkF m 8 #[vR a0, vI p1, vI cap, .unset, .unset, .unset] [(.ref a0), (.int p1)])) rfl rfl (hb hby d16_8)
  obtain ⟨T4, X4, e4, st4⟩ := getF X3 hx hZ hown (host := "") (Or.inl (w49 hw)) Via.refl e3 F_coder_a0 (g := (mkF m 24 #[vR a0, vI p1, vI cap, vI p1, vI (p1 - cap), .unset] [(.ref a0), (.int (2 : Int32)), (.int cap), (.int (p1 - cap)), (.int cap)])) rfl rfl (hb hby d16_24)
  obtain ⟨_, _, ⟨T5, L5, k5', n5'⟩, -, X5, ⟨Lc5, hQ5, l5, y5, z5⟩, st5⟩ := Jvm.LawKit.callS X4 hx (y := (⟨"jdk/internal/util/ArraysSupport", "newLength", "(III)I"⟩ : MethodName)) hown (mvT hZ (w105 hw)) (mvT hZ (w106 hw)) (mvT hZ (w107 hw)) (mvT hZ (w108 hw)) (by decide) (backOf (W := 0) (rm17a l Z az hw [] cap (p1 - cap) (cap + (2 : Int32)) h0 n0 Z0 hc5 hc6 hc7) hZ (w108 hw) (w107 hw) (by decide) (by decide)) (g := (mkF m 29 #[vR a0, vI p1, vI cap, vI p1, vI (p1 - cap), .unset] [(.int (cap + (2 : Int32))), (.int (p1 - cap)), (.int cap)])) rfl (by rw [hml]; rfl) (argsL := [(.int cap), (.int (p1 - cap)), (.int (cap + (2 : Int32)))]) (rest := []) (lenOf pd_5 rfl) rfl (Nat.le_of_eq rfl) (hb hby d16_29) (fun _ _ => ⟨rfl, e4, (by decide : 0 + 0 ≤ _), (by decide : 0 + 0 ≤ _)⟩)
  dsimp only [Pt.U, Pt.locs, Pt.cells, Pt.slots] at X5 l5 y5 z5 st5 hQ5
  subst l5 y5 z5
  obtain ⟨rfl, N5q, e5⟩ := hQ5
  obtain ⟨Lg5, X5', N5⟩ := own_gen X5 (Fr.app N0 N5q)
  obtain ⟨T6, X6, e6, st6⟩ := getF X5' hx hZ hown (host := "") (Or.inl (w49 hw)) Via.refl e5 F_coder_a0 (g := (mkF m 54 #[vR a0, vI p1, vI cap, vI p1, vI (p1 - cap), vI (cap + (p1 - cap))] [(.ref a0), (.int (cap + (p1 - cap)))])) rfl rfl (hb hby d16_54)
  obtain ⟨fs, hr, hrun, hended, hW, hsame⟩ := X6.leave (v := some (.int (own_nca p1 cap))) (fun h => by rw [Bd.returns] at h; cases h)
  refine ⟨_, _, pre0 _ ?_, hrun, hended, _, _, rfl, ?_, ⟨_, rfl⟩, hW, hsame.mono (by decide) (by decide)⟩
  · show SP p e below s₁ (mkF m 0 #[vR a0, vI p1, .unset, .unset, .unset, .unset] []) _
    refine XS.aloadN X0.here hx rfl (hb hby d16_0) rfl rfl ?_
    show SP p e below s₁ (mkF m 1 #[vR a0, vI p1, .unset, .unset, .unset, .unset] [(.ref a0)]) _
    refine st1 _ ?_
    show SP p e below T1 (mkF m 4 #[vR a0, vI p1, .unset, .unset, .unset, .unset] [(.ref aV)]) _
    refine X1.arraylength hx (by rw [e1]; exact Ar2.1) (State.isArrayOf_alike hZ.alike Ar2.2.1) (g := (mkF m 4 #[vR a0, vI p1, .unset, .unset, .unset, .unset] [(.ref aV)])) rfl rfl (hb hby d16_4) _ ?_
    rw [len_of Sz2 Ng2]
    show SP p e below T1 (mkF m 5 #[vR a0, vI p1, .unset, .unset, .unset, .unset] [(.int cap)]) _
    refine XS.istoreN X1.here hx rfl (hb hby d16_5) rfl (l' := #[vR a0, vI p1, vI cap, .unset, .unset, .unset]) rfl ?_
    refine XS.iloadN X1.here hx rfl (hb hby d16_6) rfl ?_
    refine XS.aloadN X1.here hx rfl (hb hby d16_7) rfl rfl ?_
    show SP p e below T1 (mkF m 8 #[vR a0, vI p1, vI cap, .unset, .unset, .unset] [(.ref a0), (.int p1)]) _
    refine st3 _ ?_
    show SP p e below T3 (mkF m 11 #[vR a0, vI p1, vI cap, .unset, .unset, .unset] [(.int (0 : Int32)), (.int p1)]) _
    refine XS.ishl X3.here hx rfl (hb hby d16_11) rfl ?_
    rw [own_shl0]
    show SP p e below T3 (mkF m 12 #[vR a0, vI p1, vI cap, .unset, .unset, .unset] [(.int p1)]) _
    refine XS.istoreN X3.here hx rfl (hb hby d16_12) rfl (l' := #[vR a0, vI p1, vI cap, vI p1, .unset, .unset]) rfl ?_
    refine XS.iloadN X3.here hx rfl (hb hby d16_13) rfl ?_
    refine XS.iloadN X3.here hx rfl (hb hby d16_14) rfl ?_
    refine XS.isub X3.here hx rfl (hb hby d16_15) rfl ?_
    refine XS.istore X3.here hx rfl (hb hby d16_16) rfl (l' := #[vR a0, vI p1, vI cap, vI p1, vI (p1 - cap), .unset]) rfl ?_
    refine XS.iloadN X3.here hx rfl (hb hby d16_18) rfl ?_
    refine XS.iload X3.here hx rfl (hb hby d16_19) rfl ?_
    refine XS.iloadN X3.here hx rfl (hb hby d16_21) rfl ?_
    refine XS.iconst X3.here hx rfl (hb hby d16_22) ?_
    refine XS.aloadN X3.here hx rfl (hb hby d16_23) rfl rfl ?_
    show SP p e below T3 (mkF m 24 #[vR a0, vI p1, vI cap, vI p1, vI (p1 - cap), .unset] [(.ref a0), (.int (2 : Int32)), (.int cap), (.int (p1 - cap)), (.int cap)]) _
    refine st4 _ ?_
    show SP p e below T4 (mkF m 27 #[vR a0, vI p1, vI cap, vI p1, vI (p1 - cap), .unset] [(.int (0 : Int32)), (.int (2 : Int32)), (.int cap), (.int (p1 - cap)), (.int cap)]) _
    refine XS.ishl X4.here hx rfl (hb hby d16_27) rfl ?_
    refine XS.iadd X4.here hx rfl (hb hby d16_28) rfl ?_
    show SP p e below T4 (mkF m 29 #[vR a0, vI p1, vI cap, vI p1, vI (p1 - cap), .unset] [(.int (cap + (2 : Int32))), (.int (p1 - cap)), (.int cap)]) _
    refine st5 _ ?_
    show SP p e below T5 (mkF m 32 #[vR a0, vI p1, vI cap, vI p1, vI (p1 - cap), .unset] [(.int (cap + (p1 - cap)))]) _
    refine XS.istore X5'.here hx rfl (hb hby d16_32) rfl (l' := #[vR a0, vI p1, vI cap, vI p1, vI (p1 - cap), vI (cap + (p1 - cap))]) rfl ?_
    refine XS.iload X5'.here hx rfl (hb hby d16_34) rfl ?_
    show SP p e below T5 (mkF m 36 #[vR a0, vI p1, vI cap, vI p1, vI (p1 - cap), vI (cap + (p1 - cap))] [(.int (cap + (p1 - cap)))]) _
    refine X5'.ldcInt hx hown (mvT hZ (w114 hw)) (g := (mkF m 36 #[vR a0, vI p1, vI cap, vI p1, vI (p1 - cap), vI (cap + (p1 - cap))] [(.int (cap + (p1 - cap)))])) rfl (hb hby d16_36) _ ?_
    show SP p e below T5 (mkF m 38 #[vR a0, vI p1, vI cap, vI p1, vI (p1 - cap), vI (cap + (p1 - cap))] [(.int (2147483647 : Int32)), (.int (cap + (p1 - cap)))]) _
    refine XS.icmpYes X5'.here hx rfl (pc0 := 38) (pc' := 51) rfl (hb hby d16_38) rfl (feq hc8).2 (by decide) (by decide) ?_
    refine XS.iload X5'.here hx rfl (hb hby d16_51) rfl ?_
    refine XS.aloadN X5'.here hx rfl (hb hby d16_53) rfl rfl ?_
    show SP p e below T5 (mkF m 54 #[vR a0, vI p1, vI cap, vI p1, vI (p1 - cap), vI (cap + (p1 - cap))] [(.ref a0), (.int (cap + (p1 - cap)))]) _
    refine st6 _ ?_
    show SP p e below T6 (mkF m 57 #[vR a0, vI p1, vI cap, vI p1, vI (p1 - cap), vI (cap + (p1 - cap))] [(.int (0 : Int32)), (.int (cap + (p1 - cap)))]) _
    refine XS.ishr X6.here hx rfl (hb hby d16_57) rfl ?_
    rw [own_shr0]
    show SP p e below T6 (mkF m 58 #[vR a0, vI p1, vI cap, vI p1, vI (p1 - cap), vI (cap + (p1 - cap))] [(.int (cap + (p1 - cap)))]) _
    exact retI X6 hx Bd.returns (hb hby d16_58) hr
  · show Q16a Z a0 p1 aV kaV cap fV h0 n0 _ T6.heap _
    rw [e6]
    exact ⟨rfl, N5, rfl⟩
def own_ncb (cap : Int32) : Int32 := (cap + (cap + (2 : Int32)))
theorem ef_rm16b (m : MethodId) (a0 : Addr) (p1 : Int32) : entryFrame m #[(.ref a0), (.int p1)] 6 = mkF m 0 #[vR a0, vI p1, .unset, .unset, .unset, .unset] [] := by first | (simp [entryFrame, mkF, argsToLocals, Value.category]; done) | rfl
def Q16b (Z : State) (a0 : Addr) (p1 : Int32) (aV : Addr) (kaV : ClassId) (cap : Int32) (fV : Nat → Value) (h0 : Heap) (n0 : Nat) (v : Option Value) (h : Heap) (L : List Loc) : Prop := v = some (.int (own_ncb cap)) ∧ Fr n0 L ∧ h = h0
set_option maxRecDepth 65536 in
set_option maxHeartbeats 40000000 in
theorem rm16b (l : Launch) (Z : State) (az : Array Value) (hw : HW Z az) (ws : List Jvm.Cond) (a0 : Addr) (p1 : Int32) (aV : Addr) (kaV : ClassId) (cap : Int32) (fV : Nat → Value) (h0 : Heap) (n0 : Nat) (Z0 : n0 ≤ h0.size) (E_a0 : Exa Z h0 a0 cSB) (F_value_a0 : Fld Z h0 a0 cAB "value" "[B" (.ref aV)) (F_coder_a0 : Fld Z h0 a0 cAB "coder" "B" (.int (0 : Int32))) (V_aV : own_Arf Z h0 aV kaV .byte cap fV) (E_aV : Exa Z h0 aV "[B") (hc5 : (p1 - cap) < (cap + (2 : Int32))) (hc6 : (0 : Int32) < (cap + (cap + (2 : Int32)))) (hc7 : ¬ ((2147483639 : Int32) < (cap + (cap + (2 : Int32))))) (hc8 : ¬ ((cap + (cap + (2 : Int32))) = (2147483647 : Int32))) :
    MF l Z h0 ws ⟨cAB, "newCapacity", "(I)I"⟩ jdk_68_method_10_code 6 (some .int) ⟨2, 0, 0, 29⟩ #[(.ref a0), (.int p1)] (Q16b Z a0 p1 aV kaV cap fV h0 n0) := by
  refine MetFree.of_bodySF (plainFor_of_name pn_java_lang_AbstractStringBuilder) hisR ?_
  intro p e s m args below meth c s₁ Bd hml0 hP hK
  obtain ⟨rfl, hZ, hh⟩ := hP
  have hx := Bd.exec
  have hby := Bd.bytes
  have hml : c.maxLocals = 6 := hml0
  have hown : s.vm.findClass cAB = some m.cls := findClass_of_methodNamed Bd.named
  have hnm := (name_of_methodNamed Bd.named Bd.method).1
  have X0 : Stand p l e (⟨2, 0, 0, 29⟩ : Room) s m #[(.ref a0), (.int p1)] below meth c s₁ [] 0 0 := Stand.of_body Bd
  have e0 : s₁.heap = h0 := by rw [← hh, Bd.state]; rfl
  have N0 := Fr.nil n0
  have pre0 : ∀ t, Steps p.tables e below (s₁.setTop (mkF m 0 #[vR a0, vI p1, .unset, .unset, .unset, .unset] [])) t → Steps p.tables e below (s₁.setTop (entryFrame m #[(.ref a0), (.int p1)] 6)) t := fun t k => castTop (ef_rm16b m a0 p1) k
  obtain ⟨T1, X1, e1, st1⟩ := getF X0 hx hZ hown (host := "") (Or.inl (w47 hw)) Via.refl e0 F_value_a0 (g := (mkF m 1 #[vR a0, vI p1, .unset, .unset, .unset, .unset] [(.ref a0)])) rfl rfl (hb hby d16_1)
  obtain ⟨cl2, Ar2, qk2, Sz2, Ng2, Hs2, Gf2⟩ := id V_aV
  obtain ⟨T3, X3, e3, st3⟩ := getF X1 hx hZ hown (host := "") (Or.inl (w49 hw)) Via.refl e1 F_coder_a0 (g := (mkF m 8 #[vR a0, vI p1, vI cap, .unset, .unset, .unset] [(.ref a0), (.int p1)])) rfl rfl (hb hby d16_8)
  obtain ⟨T4, X4, e4, st4⟩ := getF X3 hx hZ hown (host := "") (Or.inl (w49 hw)) Via.refl e3 F_coder_a0 (g := (mkF m 24 #[vR a0, vI p1, vI cap, vI p1, vI (p1 - cap), .unset] [(.ref a0), (.int (2 : Int32)), (.int cap), (.int (p1 - cap)), (.int cap)])) rfl rfl (hb hby d16_24)
  obtain ⟨_, _, ⟨T5, L5, k5', n5'⟩, -, X5, ⟨Lc5, hQ5, l5, y5, z5⟩, st5⟩ := Jvm.LawKit.callS X4 hx (y := (⟨"jdk/internal/util/ArraysSupport", "newLength", "(III)I"⟩ : MethodName)) hown (mvT hZ (w105 hw)) (mvT hZ (w106 hw)) (mvT hZ (w107 hw)) (mvT hZ (w108 hw)) (by decide) (backOf (W := 0) (rm17b l Z az hw [] cap (p1 - cap) (cap + (2 : Int32)) h0 n0 Z0 hc5 hc6 hc7) hZ (w108 hw) (w107 hw) (by decide) (by decide)) (g := (mkF m 29 #[vR a0, vI p1, vI cap, vI p1, vI (p1 - cap), .unset] [(.int (cap + (2 : Int32))), (.int (p1 - cap)), (.int cap)])) rfl (by rw [hml]; rfl) (argsL := [(.int cap), (.int (p1 - cap)), (.int (cap + (2 : Int32)))]) (rest := []) (lenOf pd_5 rfl) rfl (Nat.le_of_eq rfl) (hb hby d16_29) (fun _ _ => ⟨rfl, e4, (by decide : 0 + 0 ≤ _), (by decide : 0 + 0 ≤ _)⟩)
  dsimp only [Pt.U, Pt.locs, Pt.cells, Pt.slots] at X5 l5 y5 z5 st5 hQ5
  subst l5 y5 z5
  obtain ⟨rfl, N5q, e5⟩ := hQ5
  obtain ⟨Lg5, X5', N5⟩ := own_gen X5 (Fr.app N0 N5q)
  obtain ⟨T6, X6, e6, st6⟩ := getF X5' hx hZ hown (host := "") (Or.inl (w49 hw)) Via.refl e5 F_coder_a0 (g := (mkF m 54 #[vR a0, vI p1, vI cap, vI p1, vI (p1 - cap), vI (cap + (cap + (2 : Int32)))] [(.ref a0), (.int (cap + (cap + (2 : Int32))))])) rfl rfl (hb hby d16_54)
  obtain ⟨fs, hr, hrun, hended, hW, hsame⟩ := X6.leave (v := some (.int (own_ncb cap))) (fun h => by rw [Bd.returns] at h; cases h)
  refine ⟨_, _, pre0 _ ?_, hrun, hended, _, _, rfl, ?_, ⟨_, rfl⟩, hW, hsame.mono (by decide) (by decide)⟩
  · show SP p e below s₁ (mkF m 0 #[vR a0, vI p1, .unset, .unset, .unset, .unset] []) _
    refine XS.aloadN X0.here hx rfl (hb hby d16_0) rfl rfl ?_
    show SP p e below s₁ (mkF m 1 #[vR a0, vI p1, .unset, .unset, .unset, .unset] [(.ref a0)]) _
    refine st1 _ ?_
    show SP p e below T1 (mkF m 4 #[vR a0, vI p1, .unset, .unset, .unset, .unset] [(.ref aV)]) _
    refine X1.arraylength hx (by rw [e1]; exact Ar2.1) (State.isArrayOf_alike hZ.alike Ar2.2.1) (g := (mkF m 4 #[vR a0, vI p1, .unset, .unset, .unset, .unset] [(.ref aV)])) rfl rfl (hb hby d16_4) _ ?_
    rw [len_of Sz2 Ng2]
    show SP p e below T1 (mkF m 5 #[vR a0, vI p1, .unset, .unset, .unset, .unset] [(.int cap)]) _
    refine XS.istoreN X1.here hx rfl (hb hby d16_5) rfl (l' := #[vR a0, vI p1, vI cap, .unset, .unset, .unset]) rfl ?_
    refine XS.iloadN X1.here hx rfl (hb hby d16_6) rfl ?_
    refine XS.aloadN X1.here hx rfl (hb hby d16_7) rfl rfl ?_
    show SP p e below T1 (mkF m 8 #[vR a0, vI p1, vI cap, .unset, .unset, .unset] [(.ref a0), (.int p1)]) _
    refine st3 _ ?_
    show SP p e below T3 (mkF m 11 #[vR a0, vI p1, vI cap, .unset, .unset, .unset] [(.int (0 : Int32)), (.int p1)]) _
    refine XS.ishl X3.here hx rfl (hb hby d16_11) rfl ?_
    rw [own_shl0]
    show SP p e below T3 (mkF m 12 #[vR a0, vI p1, vI cap, .unset, .unset, .unset] [(.int p1)]) _
    refine XS.istoreN X3.here hx rfl (hb hby d16_12) rfl (l' := #[vR a0, vI p1, vI cap, vI p1, .unset, .unset]) rfl ?_
    refine XS.iloadN X3.here hx rfl (hb hby d16_13) rfl ?_
    refine XS.iloadN X3.here hx rfl (hb hby d16_14) rfl ?_
    refine XS.isub X3.here hx rfl (hb hby d16_15) rfl ?_
    refine XS.istore X3.here hx rfl (hb hby d16_16) rfl (l' := #[vR a0, vI p1, vI cap, vI p1, vI (p1 - cap), .unset]) rfl ?_
    refine XS.iloadN X3.here hx rfl (hb hby d16_18) rfl ?_
    refine XS.iload X3.here hx rfl (hb hby d16_19) rfl ?_
    refine XS.iloadN X3.here hx rfl (hb hby d16_21) rfl ?_
    refine XS.iconst X3.here hx rfl (hb hby d16_22) ?_
    refine XS.aloadN X3.here hx rfl (hb hby d16_23) rfl rfl ?_
    show SP p e below T3 (mkF m 24 #[vR a0, vI p1, vI cap, vI p1, vI (p1 - cap), .unset] [(.ref a0), (.int (2 : Int32)), (.int cap), (.int (p1 - cap)), (.int cap)]) _
    refine st4 _ ?_
    show SP p e below T4 (mkF m 27 #[vR a0, vI p1, vI cap, vI p1, vI (p1 - cap), .unset] [(.int (0 : Int32)), (.int (2 : Int32)), (.int cap), (.int (p1 - cap)), (.int cap)]) _
    refine XS.ishl X4.here hx rfl (hb hby d16_27) rfl ?_
    refine XS.iadd X4.here hx rfl (hb hby d16_28) rfl ?_
    show SP p e below T4 (mkF m 29 #[vR a0, vI p1, vI cap, vI p1, vI (p1 - cap), .unset] [(.int (cap + (2 : Int32))), (.int (p1 - cap)), (.int cap)]) _
    refine st5 _ ?_
    show SP p e below T5 (mkF m 32 #[vR a0, vI p1, vI cap, vI p1, vI (p1 - cap), .unset] [(.int (cap + (cap + (2 : Int32))))]) _
    refine XS.istore X5'.here hx rfl (hb hby d16_32) rfl (l' := #[vR a0, vI p1, vI cap, vI p1, vI (p1 - cap), vI (cap + (cap + (2 : Int32)))]) rfl ?_
    refine XS.iload X5'.here hx rfl (hb hby d16_34) rfl ?_
    show SP p e below T5 (mkF m 36 #[vR a0, vI p1, vI cap, vI p1, vI (p1 - cap), vI (cap + (cap + (2 : Int32)))] [(.int (cap + (cap + (2 : Int32))))]) _
    refine X5'.ldcInt hx hown (mvT hZ (w114 hw)) (g := (mkF m 36 #[vR a0, vI p1, vI cap, vI p1, vI (p1 - cap), vI (cap + (cap + (2 : Int32)))] [(.int (cap + (cap + (2 : Int32))))])) rfl (hb hby d16_36) _ ?_
    show SP p e below T5 (mkF m 38 #[vR a0, vI p1, vI cap, vI p1, vI (p1 - cap), vI (cap + (cap + (2 : Int32)))] [(.int (2147483647 : Int32)), (.int (cap + (cap + (2 : Int32))))]) _
    refine XS.icmpYes X5'.here hx rfl (pc0 := 38) (pc' := 51) rfl (hb hby d16_38) rfl (feq hc8).2 (by decide) (by decide) ?_
    refine XS.iload X5'.here hx rfl (hb hby d16_51) rfl ?_
    refine XS.aloadN X5'.here hx rfl (hb hby d16_53) rfl rfl ?_
    show SP p e below T5 (mkF m 54 #[vR a0, vI p1, vI cap, vI p1, vI (p1 - cap), vI (cap + (cap + (2 : Int32)))] [(.ref a0), (.int (cap + (cap + (2 : Int32))))]) _
    refine st6 _ ?_
    show SP p e below T6 (mkF m 57 #[vR a0, vI p1, vI cap, vI p1, vI (p1 - cap), vI (cap + (cap + (2 : Int32)))] [(.int (0 : Int32)), (.int (cap + (cap + (2 : Int32))))]) _
    refine XS.ishr X6.here hx rfl (hb hby d16_57) rfl ?_
    rw [own_shr0]
    show SP p e below T6 (mkF m 58 #[vR a0, vI p1, vI cap, vI p1, vI (p1 - cap), vI (cap + (cap + (2 : Int32)))] [(.int (cap + (cap + (2 : Int32))))]) _
    exact retI X6 hx Bd.returns (hb hby d16_58) hr
  · show Q16b Z a0 p1 aV kaV cap fV h0 n0 _ T6.heap _
    rw [e6]
    exact ⟨rfl, N5, rfl⟩
theorem d20_0 : decode jdk_29_method_69_code 0 = .ok (.iload_n 0, 1) := by decide +kernel
theorem d20_1 : decode jdk_29_method_69_code 1 = .ok (.iload_n 1, 1) := by decide +kernel
theorem d20_2 : decode jdk_29_method_69_code 2 = .ok (.if_icmp .gt 7, 3) := by decide +kernel
theorem d20_5 : decode jdk_29_method_69_code 5 = .ok (.iload_n 0, 1) := by decide +kernel
theorem d20_6 : decode jdk_29_method_69_code 6 = .ok (.goto 4, 3) := by decide +kernel
theorem d20_10 : decode jdk_29_method_69_code 10 = .ok (.ireturn, 1) := by decide +kernel
theorem ef_rm20a (m : MethodId) (p0 : Int32) (p1 : Int32) : entryFrame m #[(.int p0), (.int p1)] 2 = mkF m 0 #[vI p0, vI p1] [] := by first | (simp [entryFrame, mkF, argsToLocals, Value.category]; done) | rfl
def Q20a (Z : State) (p0 : Int32) (p1 : Int32) (h0 : Heap) (n0 : Nat) (v : Option Value) (h : Heap) (L : List Loc) : Prop := v = some (.int p0) ∧ Fr n0 L ∧ h = h0
set_option maxRecDepth 65536 in
set_option maxHeartbeats 40000000 in
theorem rm20a (l : Launch) (Z : State) (az : Array Value) (hw : HW Z az) (ws : List Jvm.Cond) (p0 : Int32) (p1 : Int32) (h0 : Heap) (n0 : Nat) (Z0 : n0 ≤ h0.size) (hc0 : ¬ (p1 < p0)) :
    MF l Z h0 ws ⟨"java/lang/Math", "min", "(II)I"⟩ jdk_29_method_69_code 2 (some .int) ⟨0, 0, 0, 0⟩ #[(.int p0), (.int p1)] (Q20a Z p0 p1 h0 n0) := by
  refine MetFree.of_bodySF (Jvm.Free.JP.mathPlain rfl (by decide +kernel)) hisR ?_
  intro p e s m args below meth c s₁ Bd hml0 hP hK
  obtain ⟨rfl, hZ, hh⟩ := hP
  have hx := Bd.exec
  have hby := Bd.bytes
  have hml : c.maxLocals = 2 := hml0
  have hown : s.vm.findClass "java/lang/Math" = some m.cls := findClass_of_methodNamed Bd.named
  have hnm := (name_of_methodNamed Bd.named Bd.method).1
  have X0 : Stand p l e (⟨0, 0, 0, 0⟩ : Room) s m #[(.int p0), (.int p1)] below meth c s₁ [] 0 0 := Stand.of_body Bd
  have e0 : s₁.heap = h0 := by rw [← hh, Bd.state]; rfl
  have N0 := Fr.nil n0
  have pre0 : ∀ t, Steps p.tables e below (s₁.setTop (mkF m 0 #[vI p0, vI p1] [])) t → Steps p.tables e below (s₁.setTop (entryFrame m #[(.int p0), (.int p1)] 2)) t := fun t k => castTop (ef_rm20a m p0 p1) k
  obtain ⟨fs, hr, hrun, hended, hW, hsame⟩ := X0.leave (v := some (.int p0)) (fun h => by rw [Bd.returns] at h; cases h)
  refine ⟨_, _, pre0 _ ?_, hrun, hended, _, _, rfl, ?_, ⟨_, rfl⟩, hW, hsame.mono (by decide) (by decide)⟩
  · show SP p e below s₁ (mkF m 0 #[vI p0, vI p1] []) _
    refine XS.iloadN X0.here hx rfl (hb hby d20_0) rfl ?_
    refine XS.iloadN X0.here hx rfl (hb hby d20_1) rfl ?_
    refine XS.icmpNo X0.here hx rfl (hb hby d20_2) rfl (flt hc0).2.2.1 ?_
    refine XS.iloadN X0.here hx rfl (hb hby d20_5) rfl ?_
    refine XS.goto X0.here hx rfl (pc0 := 6) (pc' := 10) rfl (hb hby d20_6) (by decide) (by decide) ?_
    show SP p e below s₁ (mkF m 10 #[vI p0, vI p1] [(.int p0)]) _
    exact retI X0 hx Bd.returns (hb hby d20_10) hr
  · show Q20a Z p0 p1 h0 n0 _ s₁.heap _
    rw [e0]
    exact ⟨rfl, N0, rfl⟩
theorem d20_9 : decode jdk_29_method_69_code 9 = .ok (.iload_n 1, 1) := by decide +kernel
theorem ef_rm20b (m : MethodId) (p0 : Int32) (p1 : Int32) : entryFrame m #[(.int p0), (.int p1)] 2 = mkF m 0 #[vI p0, vI p1] [] := by first | (simp [entryFrame, mkF, argsToLocals, Value.category]; done) | rfl
def Q20b (Z : State) (p0 : Int32) (p1 : Int32) (h0 : Heap) (n0 : Nat) (v : Option Value) (h : Heap) (L : List Loc) : Prop := v = some (.int p1) ∧ Fr n0 L ∧ h = h0
set_option maxRecDepth 65536 in
set_option maxHeartbeats 40000000 in
theorem rm20b (l : Launch) (Z : State) (az : Array Value) (hw : HW Z az) (ws : List Jvm.Cond) (p0 : Int32) (p1 : Int32) (h0 : Heap) (n0 : Nat) (Z0 : n0 ≤ h0.size) (hc0 : p1 < p0) :
    MF l Z h0 ws ⟨"java/lang/Math", "min", "(II)I"⟩ jdk_29_method_69_code 2 (some .int) ⟨0, 0, 0, 0⟩ #[(.int p0), (.int p1)] (Q20b Z p0 p1 h0 n0) := by
  refine MetFree.of_bodySF (Jvm.Free.JP.mathPlain rfl (by decide +kernel)) hisR ?_
  intro p e s m args below meth c s₁ Bd hml0 hP hK
  obtain ⟨rfl, hZ, hh⟩ := hP
  have hx := Bd.exec
  have hby := Bd.bytes
  have hml : c.maxLocals = 2 := hml0
  have hown : s.vm.findClass "java/lang/Math" = some m.cls := findClass_of_methodNamed Bd.named
  have hnm := (name_of_methodNamed Bd.named Bd.method).1
  have X0 : Stand p l e (⟨0, 0, 0, 0⟩ : Room) s m #[(.int p0), (.int p1)] below meth c s₁ [] 0 0 := Stand.of_body Bd
  have e0 : s₁.heap = h0 := by rw [← hh, Bd.state]; rfl
  have N0 := Fr.nil n0
  have pre0 : ∀ t, Steps p.tables e below (s₁.setTop (mkF m 0 #[vI p0, vI p1] [])) t → Steps p.tables e below (s₁.setTop (entryFrame m #[(.int p0), (.int p1)] 2)) t := fun t k => castTop (ef_rm20b m p0 p1) k
  obtain ⟨fs, hr, hrun, hended, hW, hsame⟩ := X0.leave (v := some (.int p1)) (fun h => by rw [Bd.returns] at h; cases h)
  refine ⟨_, _, pre0 _ ?_, hrun, hended, _, _, rfl, ?_, ⟨_, rfl⟩, hW, hsame.mono (by decide) (by decide)⟩
  · show SP p e below s₁ (mkF m 0 #[vI p0, vI p1] []) _
    refine XS.iloadN X0.here hx rfl (hb hby d20_0) rfl ?_
    refine XS.iloadN X0.here hx rfl (hb hby d20_1) rfl ?_
    refine XS.icmpYes X0.here hx rfl (pc0 := 2) (pc' := 9) rfl (hb hby d20_2) rfl (tlt hc0).2.2.1 (by decide) (by decide) ?_
    refine XS.iloadN X0.here hx rfl (hb hby d20_9) rfl ?_
    show SP p e below s₁ (mkF m 10 #[vI p0, vI p1] [(.int p1)]) _
    exact retI X0 hx Bd.returns (hb hby d20_10) hr
  · show Q20b Z p0 p1 h0 n0 _ s₁.heap _
    rw [e0]
    exact ⟨rfl, N0, rfl⟩
theorem d19_0 : decode jdk_65_method_121_code 0 = .ok (.iload_n 1, 1) := by decide +kernel
theorem d19_1 : decode jdk_65_method_121_code 1 = .ok (.aload_n 0, 1) := by decide +kernel
theorem d19_2 : decode jdk_65_method_121_code 2 = .ok (.arraylength, 1) := by decide +kernel
theorem d19_3 : decode jdk_65_method_121_code 3 = .ok (.if_icmp .ne 11, 3) := by decide +kernel
theorem d19_14 : decode jdk_65_method_121_code 14 = .ok (.iload_n 1, 1) := by decide +kernel
theorem d19_15 : decode jdk_65_method_121_code 15 = .ok (.newarray .byte, 2) := by decide +kernel
theorem d19_17 : decode jdk_65_method_121_code 17 = .ok (.astore_n 2, 1) := by decide +kernel
theorem d19_18 : decode jdk_65_method_121_code 18 = .ok (.aload_n 0, 1) := by decide +kernel
theorem d19_19 : decode jdk_65_method_121_code 19 = .ok (.iconst 0, 1) := by decide +kernel
theorem d19_20 : decode jdk_65_method_121_code 20 = .ok (.aload_n 2, 1) := by decide +kernel
theorem d19_21 : decode jdk_65_method_121_code 21 = .ok (.iconst 0, 1) := by decide +kernel
theorem d19_22 : decode jdk_65_method_121_code 22 = .ok (.aload_n 0, 1) := by decide +kernel
theorem d19_23 : decode jdk_65_method_121_code 23 = .ok (.arraylength, 1) := by decide +kernel
theorem d19_24 : decode jdk_65_method_121_code 24 = .ok (.iload_n 1, 1) := by decide +kernel
theorem d19_25 : decode jdk_65_method_121_code 25 = .ok (.invokestatic 304, 3) := by decide +kernel
theorem d19_28 : decode jdk_65_method_121_code 28 = .ok (.invokestatic 150, 3) := by decide +kernel
theorem d19_31 : decode jdk_65_method_121_code 31 = .ok (.aload_n 2, 1) := by decide +kernel
theorem d19_32 : decode jdk_65_method_121_code 32 = .ok (.areturn, 1) := by decide +kernel
theorem pn_java_util_Arrays : plainName "java/util/Arrays" = true := by first | (simp [plainName, overriddenIn]; done) | decide +kernel
theorem ef_rm19 (m : MethodId) (a0 : Addr) (p1 : Int32) : entryFrame m #[(.ref a0), (.int p1)] 3 = mkF m 0 #[vR a0, vI p1, .unset] [] := by first | (simp [entryFrame, mkF, argsToLocals, Value.category]; done) | rfl
def Q19 (Z : State) (a0 : Addr) (p1 : Int32) (k0 : ClassId) (cap : Int32) (fV : Nat → Value) (h0 : Heap) (n0 : Nat) (v : Option Value) (h : Heap) (L : List Loc) : Prop := ∃ r0 : Addr, ∃ rk0 : ClassId, v = some (.ref r0) ∧ Fr n0 L ∧ h0.size ≤ r0 ∧ Keep h0 h [] ∧ Exa Z h r0 "[B" ∧ own_Arf Z h r0 rk0 .byte p1 (own_cpf fV ((0 : Int32)).toNatClampNeg (fun _ => (.int (0 : Int32))) ((0 : Int32)).toNatClampNeg (cap).toNatClampNeg)
set_option maxRecDepth 65536 in
set_option maxHeartbeats 40000000 in
theorem rm19 (l : Launch) (Z : State) (az : Array Value) (hw : HW Z az) (ws : List Jvm.Cond) (a0 : Addr) (p1 : Int32) (k0 : ClassId) (cap : Int32) (fV : Nat → Value) (h0 : Heap) (n0 : Nat) (Z0 : n0 ≤ h0.size) (V_a0 : own_Arf Z h0 a0 k0 .byte cap fV) (E_a0 : Exa Z h0 a0 "[B") (hc2 : ¬ (p1 = cap)) (hc3 : ¬ (p1 < (0 : Int32))) (hc4 : (p1).toNatClampNeg ≤ 80) (hc5 : ¬ (p1 < cap)) (hc6 : ¬ (cap < (0 : Int32))) (hc7 : ((0 : Int32)).toNatClampNeg + (cap).toNatClampNeg ≤ (cap).toNatClampNeg) (hc8 : ((0 : Int32)).toNatClampNeg + (cap).toNatClampNeg ≤ (p1).toNatClampNeg) :
    MF l Z h0 ws ⟨"java/util/Arrays", "copyOf", "([BI)[B"⟩ jdk_65_method_121_code 3 (some (.array .byte)) ⟨1, 1, 80, 24⟩ #[(.ref a0), (.int p1)] (Q19 Z a0 p1 k0 cap fV h0 n0) := by
  refine MetFree.of_bodySF (plainFor_of_name pn_java_util_Arrays) hisR ?_
  intro p e s m args below meth c s₁ Bd hml0 hP hK
  obtain ⟨rfl, hZ, hh⟩ := hP
  have hx := Bd.exec
  have hby := Bd.bytes
  have hml : c.maxLocals = 3 := hml0
  have hown : s.vm.findClass "java/util/Arrays" = some m.cls := findClass_of_methodNamed Bd.named
  have hnm := (name_of_methodNamed Bd.named Bd.method).1
  have X0 : Stand p l e (⟨1, 1, 80, 24⟩ : Room) s m #[(.ref a0), (.int p1)] below meth c s₁ [] 0 0 := Stand.of_body Bd
  have e0 : s₁.heap = h0 := by rw [← hh, Bd.state]; rfl
  have N0 := Fr.nil n0
  have pre0 : ∀ t, Steps p.tables e below (s₁.setTop (mkF m 0 #[vR a0, vI p1, .unset] [])) t → Steps p.tables e below (s₁.setTop (entryFrame m #[(.ref a0), (.int p1)] 3)) t := fun t k => castTop (ef_rm19 m a0 p1) k
  obtain ⟨cl1, Ar1, qk1, Sz1, Ng1, Hs1, Gf1⟩ := id V_a0
  obtain ⟨T2, h2, k2, X2, e2, E2, A2, x2, st2⟩ := newPE X0 hx hZ (aty := .byte) (w19 hw) e0 (g := (mkF m 15 #[vR a0, vI p1, .unset] [(.int p1)])) rfl (hb hby d19_15) rfl hc3 (cap := 80) hc4 (by decide) (by decide) (by decide) (ad := "[B") (by decide)
  obtain ⟨b2, g2⟩ : ∃ z, z = h0.size := ⟨_, rfl⟩
  rw [← g2] at A2 x2 st2
  have g_b2 : n0 ≤ b2 := Nat.le_trans Z0 (Nat.le_of_eq g2.symm)
  have sz_b2 : h0.size ≤ b2 := Nat.le_trans (Nat.le_refl _) (Nat.le_of_eq g2.symm)
  have Z2 : n0 ≤ h2.size := Nat.le_trans Z0 E2.1
  have K2 : Keep h0 h2 [] := (Keep.refl h0 []).ext E2
  have E_b2 := x2
  have V_b2 : Arv Z h2 b2 k2 .byte p1 [] (.int (0 : Int32)) := Arv.new A2 hc3
  have A_b2 : own_Arf Z h2 b2 k2 .byte p1 (fun _ => (.int (0 : Int32))) := own_Arf.new A2 hc3
  have V_a0_u3 : own_Arf Z h2 a0 k0 .byte cap fV := (V_a0.ext E2)
  obtain ⟨cl4, Ar4, qk4, Sz4, Ng4, Hs4, Gf4⟩ := id V_a0_u3
  obtain ⟨_, _, ⟨T5, L5, k5', n5'⟩, -, X5, ⟨Lc5, hQ5, l5, y5, z5⟩, st5⟩ := Jvm.LawKit.callS X2 hx (y := (⟨"java/lang/Math", "min", "(II)I"⟩ : MethodName)) hown (mvT hZ (w119 hw)) (mvT hZ (w120 hw)) (mvT hZ (w111 hw)) (mvT hZ (w121 hw)) (by decide) (backOf (W := 4) (rm20a l Z az hw [] cap p1 h2 n0 Z2 hc5) hZ (w121 hw) (w111 hw) (by decide) (by decide)) (g := (mkF m 25 #[vR a0, vI p1, vR b2] [(.int p1), (.int cap), (.int (0 : Int32)), (.ref b2), (.int (0 : Int32)), (.ref a0)])) rfl (by rw [hml]; rfl) (argsL := [(.int cap), (.int p1)]) (rest := [(.int (0 : Int32)), (.ref b2), (.int (0 : Int32)), (.ref a0)]) (lenOf pd_4 rfl) rfl (Nat.le_of_eq rfl) (hb hby d19_25) (fun _ _ => ⟨rfl, e2, (by decide : 1 + 0 ≤ _), (by decide : 80 + 0 ≤ _)⟩)
  dsimp only [Pt.U, Pt.locs, Pt.cells, Pt.slots] at X5 l5 y5 z5 st5 hQ5
  subst l5 y5 z5
  obtain ⟨rfl, N5q, e5⟩ := hQ5
  obtain ⟨Lg5, X5', N5⟩ := own_gen X5 (Fr.app N0 N5q)
  obtain ⟨T6, h6, L6, X6, e6, N6, kq6, A6, st6⟩ := own_cpA X5' hx hZ hown (w122 hw) (w98 hw) (w96 hw) (w97 hw) e5 (sp := (0 : Int32)) (dp := (0 : Int32)) (nn := cap) (f := fV) (f' := (fun _ => (.int (0 : Int32)))) V_a0_u3 A_b2 rfl (by decide) (by decide) hc6 hc7 hc8 N5 g_b2 (g := (mkF m 28 #[vR a0, vI p1, vR b2] [(.int cap), (.int (0 : Int32)), (.ref b2), (.int (0 : Int32)), (.ref a0)])) rfl (by rw [hml]; rfl) rfl (hb hby d19_28) (by decide) (W := 0) (Nat.le_of_eq rfl) (by decide)
  have K6 : Keep h0 h6 [] := K2.trans kq6 (allS (Or.inr sz_b2) all0)
  have Z6 : n0 ≤ h6.size := Nat.le_trans Z2 kq6.1
  have V_b2_6 : own_Arf Z h6 b2 k2 .byte p1 (own_cpf fV ((0 : Int32)).toNatClampNeg (fun _ => (.int (0 : Int32))) ((0 : Int32)).toNatClampNeg (cap).toNatClampNeg) := A6
  have E_b2_u7 : Exa Z h6 b2 "[B" := (E_b2.keep kq6)
  obtain ⟨fs, hr, hrun, hended, hW, hsame⟩ := X6.leave (v := some (.ref b2)) (fun h => by rw [Bd.returns] at h; cases h)
  refine ⟨_, _, pre0 _ ?_, hrun, hended, _, _, rfl, ?_, ⟨_, rfl⟩, hW, hsame.mono (by decide) (by decide)⟩
  · show SP p e below s₁ (mkF m 0 #[vR a0, vI p1, .unset] []) _
    refine XS.iloadN X0.here hx rfl (hb hby d19_0) rfl ?_
    refine XS.aloadN X0.here hx rfl (hb hby d19_1) rfl rfl ?_
    show SP p e below s₁ (mkF m 2 #[vR a0, vI p1, .unset] [(.ref a0), (.int p1)]) _
    refine X0.arraylength hx (by rw [e0]; exact Ar1.1) (State.isArrayOf_alike hZ.alike Ar1.2.1) (g := (mkF m 2 #[vR a0, vI p1, .unset] [(.ref a0), (.int p1)])) rfl rfl (hb hby d19_2) _ ?_
    rw [len_of Sz1 Ng1]
    show SP p e below s₁ (mkF m 3 #[vR a0, vI p1, .unset] [(.int cap), (.int p1)]) _
    refine XS.icmpYes X0.here hx rfl (pc0 := 3) (pc' := 14) rfl (hb hby d19_3) rfl (feq hc2).2 (by decide) (by decide) ?_
    refine XS.iloadN X0.here hx rfl (hb hby d19_14) rfl ?_
    show SP p e below s₁ (mkF m 15 #[vR a0, vI p1, .unset] [(.int p1)]) _
    refine st2 _ ?_
    show SP p e below T2 (mkF m 17 #[vR a0, vI p1, .unset] [(.ref b2)]) _
    refine XS.astoreN X2.here hx rfl (hb hby d19_17) rfl rfl (l' := #[vR a0, vI p1, vR b2]) rfl ?_
    refine XS.aloadN X2.here hx rfl (hb hby d19_18) rfl rfl ?_
    refine XS.iconst X2.here hx rfl (hb hby d19_19) ?_
    refine XS.aloadN X2.here hx rfl (hb hby d19_20) rfl rfl ?_
    refine XS.iconst X2.here hx rfl (hb hby d19_21) ?_
    refine XS.aloadN X2.here hx rfl (hb hby d19_22) rfl rfl ?_
    show SP p e below T2 (mkF m 23 #[vR a0, vI p1, vR b2] [(.ref a0), (.int (0 : Int32)), (.ref b2), (.int (0 : Int32)), (.ref a0)]) _
    refine X2.arraylength hx (by rw [e2]; exact Ar4.1) (State.isArrayOf_alike hZ.alike Ar4.2.1) (g := (mkF m 23 #[vR a0, vI p1, vR b2] [(.ref a0), (.int (0 : Int32)), (.ref b2), (.int (0 : Int32)), (.ref a0)])) rfl rfl (hb hby d19_23) _ ?_
    rw [len_of Sz4 Ng4]
    show SP p e below T2 (mkF m 24 #[vR a0, vI p1, vR b2] [(.int cap), (.int (0 : Int32)), (.ref b2), (.int (0 : Int32)), (.ref a0)]) _
    refine XS.iloadN X2.here hx rfl (hb hby d19_24) rfl ?_
    show SP p e below T2 (mkF m 25 #[vR a0, vI p1, vR b2] [(.int p1), (.int cap), (.int (0 : Int32)), (.ref b2), (.int (0 : Int32)), (.ref a0)]) _
    refine st5 _ ?_
    show SP p e below T5 (mkF m 28 #[vR a0, vI p1, vR b2] [(.int cap), (.int (0 : Int32)), (.ref b2), (.int (0 : Int32)), (.ref a0)]) _
    refine st6 _ ?_
    show SP p e below T6 (mkF m 31 #[vR a0, vI p1, vR b2] []) _
    refine XS.aloadN X6.here hx rfl (hb hby d19_31) rfl rfl ?_
    show SP p e below T6 (mkF m 32 #[vR a0, vI p1, vR b2] [(.ref b2)]) _
    jvm_step X6.here [X6.here.top, hx, (hb hby d19_32), X6.method', Bd.returns, Value.isRef, FieldType.isReference]
    first | (intro acts; rw [hr _ acts rfl rfl rfl]) | rw [hr _ _ rfl rfl rfl]
    exact Steps.refl _
  · show Q19 Z a0 p1 k0 cap fV h0 n0 _ T6.heap _
    rw [e6]
    exact ⟨b2, k2, rfl, N6, sz_b2, K6, E_b2_u7, V_b2_6⟩
theorem d12_0 : decode jdk_68_method_9_code 0 = .ok (.aload_n 0, 1) := by decide +kernel
theorem d12_1 : decode jdk_68_method_9_code 1 = .ok (.getfield 15, 3) := by decide +kernel
theorem d12_4 : decode jdk_68_method_9_code 4 = .ok (.arraylength, 1) := by decide +kernel
theorem d12_5 : decode jdk_68_method_9_code 5 = .ok (.aload_n 0, 1) := by decide +kernel
theorem d12_6 : decode jdk_68_method_9_code 6 = .ok (.getfield 22, 3) := by decide +kernel
theorem d12_9 : decode jdk_68_method_9_code 9 = .ok (.ishr, 1) := by decide +kernel
theorem d12_10 : decode jdk_68_method_9_code 10 = .ok (.istore_n 2, 1) := by decide +kernel
theorem d12_11 : decode jdk_68_method_9_code 11 = .ok (.iload_n 1, 1) := by decide +kernel
theorem d12_12 : decode jdk_68_method_9_code 12 = .ok (.iload_n 2, 1) := by decide +kernel
theorem d12_13 : decode jdk_68_method_9_code 13 = .ok (.isub, 1) := by decide +kernel
theorem d12_14 : decode jdk_68_method_9_code 14 = .ok (.ifCond .le 24, 3) := by decide +kernel
theorem d12_38 : decode jdk_68_method_9_code 38 = .ok (.return_, 1) := by decide +kernel
theorem ef_rm12F (m : MethodId) (a0 : Addr) (p1 : Int32) : entryFrame m #[(.ref a0), (.int p1)] 3 = mkF m 0 #[vR a0, vI p1, .unset] [] := by first | (simp [entryFrame, mkF, argsToLocals, Value.category]; done) | rfl
def Q12F (Z : State) (a0 : Addr) (p1 : Int32) (aV : Addr) (kaV : ClassId) (cap : Int32) (fV : Nat → Value) (h0 : Heap) (n0 : Nat) (v : Option Value) (h : Heap) (L : List Loc) : Prop := v = none ∧ Fr n0 L ∧ h = h0
set_option maxRecDepth 65536 in
set_option maxHeartbeats 40000000 in
theorem rm12F (l : Launch) (Z : State) (az : Array Value) (hw : HW Z az) (ws : List Jvm.Cond) (a0 : Addr) (p1 : Int32) (aV : Addr) (kaV : ClassId) (cap : Int32) (fV : Nat → Value) (h0 : Heap) (n0 : Nat) (Z0 : n0 ≤ h0.size) (E_a0 : Exa Z h0 a0 cSB) (F_value_a0 : Fld Z h0 a0 cAB "value" "[B" (.ref aV)) (F_coder_a0 : Fld Z h0 a0 cAB "coder" "B" (.int (0 : Int32))) (V_aV : own_Arf Z h0 aV kaV .byte cap fV) (E_aV : Exa Z h0 aV "[B") (hc5 : ¬ ((0 : Int32) < (p1 - cap))) :
    MF l Z h0 ws ⟨cAB, "ensureCapacityInternal", "(I)V"⟩ jdk_68_method_9_code 3 none ⟨0, 0, 0, 0⟩ #[(.ref a0), (.int p1)] (Q12F Z a0 p1 aV kaV cap fV h0 n0) := by
  refine MetFree.of_bodySF (plainFor_of_name pn_java_lang_AbstractStringBuilder) hisR ?_
  intro p e s m args below meth c s₁ Bd hml0 hP hK
  obtain ⟨rfl, hZ, hh⟩ := hP
  have hx := Bd.exec
  have hby := Bd.bytes
  have hml : c.maxLocals = 3 := hml0
  have hown : s.vm.findClass cAB = some m.cls := findClass_of_methodNamed Bd.named
  have hnm := (name_of_methodNamed Bd.named Bd.method).1
  have X0 : Stand p l e (⟨0, 0, 0, 0⟩ : Room) s m #[(.ref a0), (.int p1)] below meth c s₁ [] 0 0 := Stand.of_body Bd
  have e0 : s₁.heap = h0 := by rw [← hh, Bd.state]; rfl
  have N0 := Fr.nil n0
  have pre0 : ∀ t, Steps p.tables e below (s₁.setTop (mkF m 0 #[vR a0, vI p1, .unset] [])) t → Steps p.tables e below (s₁.setTop (entryFrame m #[(.ref a0), (.int p1)] 3)) t := fun t k => castTop (ef_rm12F m a0 p1) k
  obtain ⟨T1, X1, e1, st1⟩ := getF X0 hx hZ hown (host := "") (Or.inl (w47 hw)) Via.refl e0 F_value_a0 (g := (mkF m 1 #[vR a0, vI p1, .unset] [(.ref a0)])) rfl rfl (hb hby d12_1)
  obtain ⟨cl2, Ar2, qk2, Sz2, Ng2, Hs2, Gf2⟩ := id V_aV
  obtain ⟨T3, X3, e3, st3⟩ := getF X1 hx hZ hown (host := "") (Or.inl (w49 hw)) Via.refl e1 F_coder_a0 (g := (mkF m 6 #[vR a0, vI p1, .unset] [(.ref a0), (.int cap)])) rfl rfl (hb hby d12_6)
  obtain ⟨fs, hr, hrun, hended, hW, hsame⟩ := X3.leave (v := none) (fun _ => rfl)
  refine ⟨_, _, pre0 _ ?_, hrun, hended, _, _, rfl, ?_, ⟨_, rfl⟩, hW, hsame.mono (by decide) (by decide)⟩
  · show SP p e below s₁ (mkF m 0 #[vR a0, vI p1, .unset] []) _
    refine XS.aloadN X0.here hx rfl (hb hby d12_0) rfl rfl ?_
    show SP p e below s₁ (mkF m 1 #[vR a0, vI p1, .unset] [(.ref a0)]) _
    refine st1 _ ?_
    show SP p e below T1 (mkF m 4 #[vR a0, vI p1, .unset] [(.ref aV)]) _
    refine X1.arraylength hx (by rw [e1]; exact Ar2.1) (State.isArrayOf_alike hZ.alike Ar2.2.1) (g := (mkF m 4 #[vR a0, vI p1, .unset] [(.ref aV)])) rfl rfl (hb hby d12_4) _ ?_
    rw [len_of Sz2 Ng2]
    show SP p e below T1 (mkF m 5 #[vR a0, vI p1, .unset] [(.int cap)]) _
    refine XS.aloadN X1.here hx rfl (hb hby d12_5) rfl rfl ?_
    show SP p e below T1 (mkF m 6 #[vR a0, vI p1, .unset] [(.ref a0), (.int cap)]) _
    refine st3 _ ?_
    show SP p e below T3 (mkF m 9 #[vR a0, vI p1, .unset] [(.int (0 : Int32)), (.int cap)]) _
    refine XS.ishr X3.here hx rfl (hb hby d12_9) rfl ?_
    rw [own_shr0]
    show SP p e below T3 (mkF m 10 #[vR a0, vI p1, .unset] [(.int cap)]) _
    refine XS.istoreN X3.here hx rfl (hb hby d12_10) rfl (l' := #[vR a0, vI p1, vI cap]) rfl ?_
    refine XS.iloadN X3.here hx rfl (hb hby d12_11) rfl ?_
    refine XS.iloadN X3.here hx rfl (hb hby d12_12) rfl ?_
    refine XS.isub X3.here hx rfl (hb hby d12_13) rfl ?_
    refine XS.ifYes X3.here hx rfl (pc0 := 14) (pc' := 38) rfl (hb hby d12_14) rfl ((if0 _ _).trans (flt hc5).2.2.2) (by decide) (by decide) ?_
    show SP p e below T3 (mkF m 38 #[vR a0, vI p1, vI cap] []) _
    exact X3.returnOut hx Bd.returns (hb hby d12_38) hr
  · show Q12F Z a0 p1 aV kaV cap fV h0 n0 _ T3.heap _
    rw [e3]
    exact ⟨rfl, N0, rfl⟩
theorem d12_17 : decode jdk_68_method_9_code 17 = .ok (.aload_n 0, 1) := by decide +kernel
theorem d12_18 : decode jdk_68_method_9_code 18 = .ok (.aload_n 0, 1) := by decide +kernel
theorem d12_19 : decode jdk_68_method_9_code 19 = .ok (.getfield 15, 3) := by decide +kernel
theorem d12_22 : decode jdk_68_method_9_code 22 = .ok (.aload_n 0, 1) := by decide +kernel
theorem d12_23 : decode jdk_68_method_9_code 23 = .ok (.iload_n 1, 1) := by decide +kernel
theorem d12_24 : decode jdk_68_method_9_code 24 = .ok (.invokevirtual 104, 3) := by decide +kernel
theorem pd_6 : parseMethodDescriptor "(I)I" = some ⟨[.int], some .int⟩ := by decide +kernel
theorem d12_27 : decode jdk_68_method_9_code 27 = .ok (.aload_n 0, 1) := by decide +kernel
theorem d12_28 : decode jdk_68_method_9_code 28 = .ok (.getfield 22, 3) := by decide +kernel
theorem d12_31 : decode jdk_68_method_9_code 31 = .ok (.ishl, 1) := by decide +kernel
theorem d12_32 : decode jdk_68_method_9_code 32 = .ok (.invokestatic 108, 3) := by decide +kernel
theorem pd_7 : parseMethodDescriptor "([BI)[B" = some ⟨[(.array .byte), .int], some (.array .byte)⟩ := by decide +kernel
theorem d12_35 : decode jdk_68_method_9_code 35 = .ok (.putfield 15, 3) := by decide +kernel
theorem ef_rm12Ga (m : MethodId) (a0 : Addr) (p1 : Int32) : entryFrame m #[(.ref a0), (.int p1)] 3 = mkF m 0 #[vR a0, vI p1, .unset] [] := by first | (simp [entryFrame, mkF, argsToLocals, Value.category]; done) | rfl
def Q12Ga (Z : State) (a0 : Addr) (p1 : Int32) (aV : Addr) (kaV : ClassId) (cap : Int32) (fV : Nat → Value) (ct : Int32) (h0 : Heap) (n0 : Nat) (v : Option Value) (h : Heap) (L : List Loc) : Prop := ∃ r0 : Addr, ∃ rk0 : ClassId, v = none ∧ Fr n0 L ∧ h0.size ≤ r0 ∧ Keep h0 h [a0] ∧ Exa Z h a0 cSB ∧ Fld Z h a0 cAB "value" "[B" (.ref r0) ∧ Fld Z h a0 cAB "coder" "B" (.int (0 : Int32)) ∧ Fld Z h a0 cAB "count" "I" (.int ct) ∧ Exa Z h r0 "[B" ∧ own_Arf Z h r0 rk0 .byte (own_nca p1 cap) (own_cpf fV ((0 : Int32)).toNatClampNeg (fun _ => (.int (0 : Int32))) ((0 : Int32)).toNatClampNeg (cap).toNatClampNeg)
set_option maxRecDepth 65536 in
set_option maxHeartbeats 40000000 in
theorem rm12Ga (l : Launch) (Z : State) (az : Array Value) (hw : HW Z az) (ws : List Jvm.Cond) (a0 : Addr) (p1 : Int32) (aV : Addr) (kaV : ClassId) (cap : Int32) (fV : Nat → Value) (ct : Int32) (h0 : Heap) (n0 : Nat) (Z0 : n0 ≤ h0.size) (E_a0 : Exa Z h0 a0 cSB) (F_value_a0 : Fld Z h0 a0 cAB "value" "[B" (.ref aV)) (F_coder_a0 : Fld Z h0 a0 cAB "coder" "B" (.int (0 : Int32))) (V_aV : own_Arf Z h0 aV kaV .byte cap fV) (E_aV : Exa Z h0 aV "[B") (F_count_a0 : Fld Z h0 a0 cAB "count" "I" (.int ct)) (hc6 : (0 : Int32) < (p1 - cap)) (hc7 : ¬ ((p1 - cap) < (cap + (2 : Int32)))) (hc8 : (0 : Int32) < (cap + (p1 - cap))) (hc9 : ¬ ((2147483639 : Int32) < (cap + (p1 - cap)))) (hc10 : ¬ ((cap + (p1 - cap)) = (2147483647 : Int32))) (hc11 : ¬ ((own_nca p1 cap) = cap)) (hc12 : ¬ ((own_nca p1 cap) < (0 : Int32))) (hc13 : ((own_nca p1 cap)).toNatClampNeg ≤ 80) (hc14 : ¬ ((own_nca p1 cap) < cap)) (hc15 : ¬ (cap < (0 : Int32))) (hc16 : ((0 : Int32)).toNatClampNeg + (cap).toNatClampNeg ≤ (cap).toNatClampNeg) (hc17 : ((0 : Int32)).toNatClampNeg + (cap).toNatClampNeg ≤ ((own_nca p1 cap)).toNatClampNeg) (g_a0 : n0 ≤ a0) :
    MF l Z h0 ws ⟨cAB, "ensureCapacityInternal", "(I)V"⟩ jdk_68_method_9_code 3 none ⟨3, 1, 80, 48⟩ #[(.ref a0), (.int p1)] (Q12Ga Z a0 p1 aV kaV cap fV ct h0 n0) := by
  refine MetFree.of_bodySF (plainFor_of_name pn_java_lang_AbstractStringBuilder) hisR ?_
  intro p e s m args below meth c s₁ Bd hml0 hP hK
  obtain ⟨rfl, hZ, hh⟩ := hP
  have hx := Bd.exec
  have hby := Bd.bytes
  have hml : c.maxLocals = 3 := hml0
  have hown : s.vm.findClass cAB = some m.cls := findClass_of_methodNamed Bd.named
  have hnm := (name_of_methodNamed Bd.named Bd.method).1
  have X0 : Stand p l e (⟨3, 1, 80, 48⟩ : Room) s m #[(.ref a0), (.int p1)] below meth c s₁ [] 0 0 := Stand.of_body Bd
  have e0 : s₁.heap = h0 := by rw [← hh, Bd.state]; rfl
  have N0 := Fr.nil n0
  have pre0 : ∀ t, Steps p.tables e below (s₁.setTop (mkF m 0 #[vR a0, vI p1, .unset] [])) t → Steps p.tables e below (s₁.setTop (entryFrame m #[(.ref a0), (.int p1)] 3)) t := fun t k => castTop (ef_rm12Ga m a0 p1) k
  obtain ⟨T1, X1, e1, st1⟩ := getF X0 hx hZ hown (host := "") (Or.inl (w47 hw)) Via.refl e0 F_value_a0 (g := (mkF m 1 #[vR a0, vI p1, .unset] [(.ref a0)])) rfl rfl (hb hby d12_1)
  obtain ⟨cl2, Ar2, qk2, Sz2, Ng2, Hs2, Gf2⟩ := id V_aV
  obtain ⟨T3, X3, e3, st3⟩ := getF X1 hx hZ hown (host := "") (Or.inl (w49 hw)) Via.refl e1 F_coder_a0 (g := (mkF m 6 #[vR a0, vI p1, .unset] [(.ref a0), (.int cap)])) rfl rfl (hb hby d12_6)
  obtain ⟨T4, X4, e4, st4⟩ := getF X3 hx hZ hown (host := "") (Or.inl (w47 hw)) Via.refl e3 F_value_a0 (g := (mkF m 19 #[vR a0, vI p1, vI cap] [(.ref a0), (.ref a0)])) rfl rfl (hb hby d12_19)
  obtain ⟨cq5, q5, q5'⟩ := E_a0.cell
  obtain ⟨_, _, ⟨T5, L5, k5', n5'⟩, -, X5, ⟨Lc5, hQ5, l5, y5, z5⟩, st5⟩ := X4.privateBack hx (y := (⟨cAB, "newCapacity", "(I)I"⟩ : MethodName)) hown (mvT hZ (w100 hw)) (mvT hZ (w101 hw)) (own_privS (mvT hZ (w103 hw)) (Cond.privateMethod_at (mvP hZ (w102 hw) (args := #[]))) (mvT hZ (w101 hw)) (by decide)) (Cond.privateMethod_at (mvP hZ (w102 hw) (args := #[]))) (mvT hZ (w104 hw)) (by decide) (backOf (W := 2) (rm16a l Z az hw [] a0 p1 aV kaV cap fV h0 n0 Z0 E_a0 F_value_a0 F_coder_a0 V_aV E_aV hc7 hc8 hc9 hc10) hZ (w104 hw) (w43 hw) (by decide) (by decide)) (g := (mkF m 24 #[vR a0, vI p1, vI cap] [(.int p1), (.ref a0), (.ref aV), (.ref a0)])) rfl (by rw [hml]; rfl) (Steps.refl _) (a := a0) (by rw [e4]; exact q5) q5' (argsL := [(.int p1)]) (rest := [(.ref aV), (.ref a0)]) (lenOf pd_6 rfl) rfl (Nat.le_of_eq rfl) (hb hby d12_24) (fun _ _ => ⟨rfl, e4, (by decide : 0 + 0 ≤ _), (by decide : 0 + 0 ≤ _)⟩)
  dsimp only [Pt.U, Pt.locs, Pt.cells, Pt.slots] at X5 l5 y5 z5 st5 hQ5
  subst l5 y5 z5
  obtain ⟨rfl, N5q, e5⟩ := hQ5
  obtain ⟨Lg5, X5', N5⟩ := own_gen X5 (Fr.app N0 N5q)
  obtain ⟨T6, X6, e6, st6⟩ := getF X5' hx hZ hown (host := "") (Or.inl (w49 hw)) Via.refl e5 F_coder_a0 (g := (mkF m 28 #[vR a0, vI p1, vI cap] [(.ref a0), (.int (own_nca p1 cap)), (.ref aV), (.ref a0)])) rfl rfl (hb hby d12_28)
  obtain ⟨_, _, ⟨T7, L7, k7', n7'⟩, -, X7, ⟨Lc7, hQ7, l7, y7, z7⟩, st7⟩ := Jvm.LawKit.callS X6 hx (y := (⟨"java/util/Arrays", "copyOf", "([BI)[B"⟩ : MethodName)) hown (mvT hZ (w115 hw)) (mvT hZ (w116 hw)) (mvT hZ (w117 hw)) (mvT hZ (w118 hw)) (by decide) (backOf (W := 1) (rm19 l Z az hw [] aV (own_nca p1 cap) kaV cap fV h0 n0 Z0 V_aV E_aV hc11 hc12 hc13 hc14 hc15 hc16 hc17) hZ (w118 hw) (w117 hw) (by decide) (by decide)) (g := (mkF m 32 #[vR a0, vI p1, vI cap] [(.int (own_nca p1 cap)), (.ref aV), (.ref a0)])) rfl (by rw [hml]; rfl) (argsL := [(.ref aV), (.int (own_nca p1 cap))]) (rest := [(.ref a0)]) (lenOf pd_7 rfl) rfl (Nat.le_of_eq rfl) (hb hby d12_32) (fun _ _ => ⟨rfl, e6, (by decide : 0 + 1 ≤ _), (by decide : 0 + 80 ≤ _)⟩)
  dsimp only [Pt.U, Pt.locs, Pt.cells, Pt.slots] at X7 l7 y7 z7 st7 hQ7
  subst l7 y7 z7
  obtain ⟨b7_0, kk7_0, rfl, N7q, s7_0, kq7, pf7_0, pf7_1⟩ := hQ7
  obtain ⟨Lg7, X7', N7⟩ := own_gen X7 (Fr.app N5 N7q)
  have g_b7_0 : n0 ≤ b7_0 := Nat.le_trans Z0 s7_0
  have sz_b7_0 : h0.size ≤ b7_0 := Nat.le_trans (Nat.le_refl _) s7_0
  have K7 : Keep h0 T7.heap [a0] := (Keep.refl h0 [a0]).trans kq7 all0
  have Z7 : n0 ≤ T7.heap.size := Nat.le_trans Z0 kq7.1
  have F_a0_value_u8 : Fld Z T7.heap a0 cAB "value" "[B" (.ref aV) := (F_value_a0.keep kq7 nin0)
  have E_a0_u9 : Exa Z T7.heap a0 cSB := (E_a0.keep kq7)
  obtain ⟨T10, h10, X10, e10, W10, st10⟩ := putF X7' hx hZ hown (host := "") (Or.inl (w47 hw)) Via.refl rfl F_a0_value_u8 E_a0_u9 (Or.inl (w48 hw)) (w34 hw) (ty := (.array .byte)) (by decide) rfl rfl (g := (mkF m 35 #[vR a0, vI p1, vI cap] [(.ref b7_0), (.ref a0)])) rfl rfl (hb hby d12_35)
  have K10 : Keep h0 h10 [a0] := K7.wr W10 (Or.inl (mg 0 rfl))
  have Fw10 := F_a0_value_u8.same W10
  have Z10 : n0 ≤ h10.size := Nat.le_trans Z7 (Keep.of_wr W10).1
  obtain ⟨Lg10, X10', N10⟩ := own_gen X10 (Fr.snoc X10 N7 g_a0)
  have E_a0_u11 : Exa Z h10 a0 cSB := (E_a0_u9.wr W10)
  have F_a0_coder_u12 : Fld Z h10 a0 cAB "coder" "B" (.int (0 : Int32)) := ((F_coder_a0.keep kq7 nin0).other W10 (Or.inr (sl_0 hw)))
  have F_a0_count_u13 : Fld Z h10 a0 cAB "count" "I" (.int ct) := ((F_count_a0.keep kq7 nin0).other W10 (Or.inr (sl_2 hw)))
  have E_b7_0_u14 : Exa Z h10 b7_0 "[B" := (pf7_0.wr W10)
  have ne_a0_b7_0 : a0 ≠ b7_0 := own_ne (Nat.lt_of_lt_of_le E_a0.lt s7_0)
  have V_b7_0_u15 : own_Arf Z h10 b7_0 kk7_0 .byte (own_nca p1 cap) (own_cpf fV ((0 : Int32)).toNatClampNeg (fun _ => (.int (0 : Int32))) ((0 : Int32)).toNatClampNeg (cap).toNatClampNeg) := (pf7_1.other W10 (Ne.symm ne_a0_b7_0))
  obtain ⟨fs, hr, hrun, hended, hW, hsame⟩ := X10'.leave (v := none) (fun _ => rfl)
  refine ⟨_, _, pre0 _ ?_, hrun, hended, _, _, rfl, ?_, ⟨_, rfl⟩, hW, hsame.mono (by decide) (by decide)⟩
  · show SP p e below s₁ (mkF m 0 #[vR a0, vI p1, .unset] []) _
    refine XS.aloadN X0.here hx rfl (hb hby d12_0) rfl rfl ?_
    show SP p e below s₁ (mkF m 1 #[vR a0, vI p1, .unset] [(.ref a0)]) _
    refine st1 _ ?_
    show SP p e below T1 (mkF m 4 #[vR a0, vI p1, .unset] [(.ref aV)]) _
    refine X1.arraylength hx (by rw [e1]; exact Ar2.1) (State.isArrayOf_alike hZ.alike Ar2.2.1) (g := (mkF m 4 #[vR a0, vI p1, .unset] [(.ref aV)])) rfl rfl (hb hby d12_4) _ ?_
    rw [len_of Sz2 Ng2]
    show SP p e below T1 (mkF m 5 #[vR a0, vI p1, .unset] [(.int cap)]) _
    refine XS.aloadN X1.here hx rfl (hb hby d12_5) rfl rfl ?_
    show SP p e below T1 (mkF m 6 #[vR a0, vI p1, .unset] [(.ref a0), (.int cap)]) _
    refine st3 _ ?_
    show SP p e below T3 (mkF m 9 #[vR a0, vI p1, .unset] [(.int (0 : Int32)), (.int cap)]) _
    refine XS.ishr X3.here hx rfl (hb hby d12_9) rfl ?_
    rw [own_shr0]
    show SP p e below T3 (mkF m 10 #[vR a0, vI p1, .unset] [(.int cap)]) _
    refine XS.istoreN X3.here hx rfl (hb hby d12_10) rfl (l' := #[vR a0, vI p1, vI cap]) rfl ?_
    refine XS.iloadN X3.here hx rfl (hb hby d12_11) rfl ?_
    refine XS.iloadN X3.here hx rfl (hb hby d12_12) rfl ?_
    refine XS.isub X3.here hx rfl (hb hby d12_13) rfl ?_
    refine XS.ifNo X3.here hx rfl (hb hby d12_14) rfl ((if0 _ _).trans (tlt hc6).2.2.2) ?_
    refine XS.aloadN X3.here hx rfl (hb hby d12_17) rfl rfl ?_
    refine XS.aloadN X3.here hx rfl (hb hby d12_18) rfl rfl ?_
    show SP p e below T3 (mkF m 19 #[vR a0, vI p1, vI cap] [(.ref a0), (.ref a0)]) _
    refine st4 _ ?_
    show SP p e below T4 (mkF m 22 #[vR a0, vI p1, vI cap] [(.ref aV), (.ref a0)]) _
    refine XS.aloadN X4.here hx rfl (hb hby d12_22) rfl rfl ?_
    refine XS.iloadN X4.here hx rfl (hb hby d12_23) rfl ?_
    show SP p e below T4 (mkF m 24 #[vR a0, vI p1, vI cap] [(.int p1), (.ref a0), (.ref aV), (.ref a0)]) _
    refine st5.trans ?_
    show SP p e below T5 (mkF m 27 #[vR a0, vI p1, vI cap] [(.int (own_nca p1 cap)), (.ref aV), (.ref a0)]) _
    refine XS.aloadN X5'.here hx rfl (hb hby d12_27) rfl rfl ?_
    show SP p e below T5 (mkF m 28 #[vR a0, vI p1, vI cap] [(.ref a0), (.int (own_nca p1 cap)), (.ref aV), (.ref a0)]) _
    refine st6 _ ?_
    show SP p e below T6 (mkF m 31 #[vR a0, vI p1, vI cap] [(.int (0 : Int32)), (.int (own_nca p1 cap)), (.ref aV), (.ref a0)]) _
    refine XS.ishl X6.here hx rfl (hb hby d12_31) rfl ?_
    rw [own_shl0]
    show SP p e below T6 (mkF m 32 #[vR a0, vI p1, vI cap] [(.int (own_nca p1 cap)), (.ref aV), (.ref a0)]) _
    refine st7 _ ?_
    show SP p e below T7 (mkF m 35 #[vR a0, vI p1, vI cap] [(.ref b7_0), (.ref a0)]) _
    refine st10 _ ?_
    show SP p e below T10 (mkF m 38 #[vR a0, vI p1, vI cap] []) _
    exact X10'.returnOut hx Bd.returns (hb hby d12_38) hr
  · show Q12Ga Z a0 p1 aV kaV cap fV ct h0 n0 _ T10.heap _
    rw [e10]
    exact ⟨b7_0, kk7_0, rfl, N10, sz_b7_0, K10, E_a0_u11, Fw10, F_a0_coder_u12, F_a0_count_u13, E_b7_0_u14, V_b7_0_u15⟩
theorem ef_rm12Gb (m : MethodId) (a0 : Addr) (p1 : Int32) : entryFrame m #[(.ref a0), (.int p1)] 3 = mkF m 0 #[vR a0, vI p1, .unset] [] := by first | (simp [entryFrame, mkF, argsToLocals, Value.category]; done) | rfl
def Q12Gb (Z : State) (a0 : Addr) (p1 : Int32) (aV : Addr) (kaV : ClassId) (cap : Int32) (fV : Nat → Value) (ct : Int32) (h0 : Heap) (n0 : Nat) (v : Option Value) (h : Heap) (L : List Loc) : Prop := ∃ r0 : Addr, ∃ rk0 : ClassId, v = none ∧ Fr n0 L ∧ h0.size ≤ r0 ∧ Keep h0 h [a0] ∧ Exa Z h a0 cSB ∧ Fld Z h a0 cAB "value" "[B" (.ref r0) ∧ Fld Z h a0 cAB "coder" "B" (.int (0 : Int32)) ∧ Fld Z h a0 cAB "count" "I" (.int ct) ∧ Exa Z h r0 "[B" ∧ own_Arf Z h r0 rk0 .byte (own_ncb cap) (own_cpf fV ((0 : Int32)).toNatClampNeg (fun _ => (.int (0 : Int32))) ((0 : Int32)).toNatClampNeg (cap).toNatClampNeg)
set_option maxRecDepth 65536 in
set_option maxHeartbeats 40000000 in
theorem rm12Gb (l : Launch) (Z : State) (az : Array Value) (hw : HW Z az) (ws : List Jvm.Cond) (a0 : Addr) (p1 : Int32) (aV : Addr) (kaV : ClassId) (cap : Int32) (fV : Nat → Value) (ct : Int32) (h0 : Heap) (n0 : Nat) (Z0 : n0 ≤ h0.size) (E_a0 : Exa Z h0 a0 cSB) (F_value_a0 : Fld Z h0 a0 cAB "value" "[B" (.ref aV)) (F_coder_a0 : Fld Z h0 a0 cAB "coder" "B" (.int (0 : Int32))) (V_aV : own_Arf Z h0 aV kaV .byte cap fV) (E_aV : Exa Z h0 aV "[B") (F_count_a0 : Fld Z h0 a0 cAB "count" "I" (.int ct)) (hc6 : (0 : Int32) < (p1 - cap)) (hc7 : (p1 - cap) < (cap + (2 : Int32))) (hc8 : (0 : Int32) < (cap + (cap + (2 : Int32)))) (hc9 : ¬ ((2147483639 : Int32) < (cap + (cap + (2 : Int32))))) (hc10 : ¬ ((cap + (cap + (2 : Int32))) = (2147483647 : Int32))) (hc11 : ¬ ((own_ncb cap) = cap)) (hc12 : ¬ ((own_ncb cap) < (0 : Int32))) (hc13 : ((own_ncb cap)).toNatClampNeg ≤ 80) (hc14 : ¬ ((own_ncb cap) < cap)) (hc15 : ¬ (cap < (0 : Int32))) (hc16 : ((0 : Int32)).toNatClampNeg + (cap).toNatClampNeg ≤ (cap).toNatClampNeg) (hc17 : ((0 : Int32)).toNatClampNeg + (cap).toNatClampNeg ≤ ((own_ncb cap)).toNatClampNeg) (g_a0 : n0 ≤ a0) :
    MF l Z h0 ws ⟨cAB, "ensureCapacityInternal", "(I)V"⟩ jdk_68_method_9_code 3 none ⟨3, 1, 80, 48⟩ #[(.ref a0), (.int p1)] (Q12Gb Z a0 p1 aV kaV cap fV ct h0 n0) := by
  refine MetFree.of_bodySF (plainFor_of_name pn_java_lang_AbstractStringBuilder) hisR ?_
  intro p e s m args below meth c s₁ Bd hml0 hP hK
  obtain ⟨rfl, hZ, hh⟩ := hP
  have hx := Bd.exec
  have hby := Bd.bytes
  have hml : c.maxLocals = 3 := hml0
  have hown : s.vm.findClass cAB = some m.cls := findClass_of_methodNamed Bd.named
  have hnm := (name_of_methodNamed Bd.named Bd.method).1
  have X0 : Stand p l e (⟨3, 1, 80, 48⟩ : Room) s m #[(.ref a0), (.int p1)] below meth c s₁ [] 0 0 := Stand.of_body Bd
  have e0 : s₁.heap = h0 := by rw [← hh, Bd.state]; rfl
  have N0 := Fr.nil n0
  have pre0 : ∀ t, Steps p.tables e below (s₁.setTop (mkF m 0 #[vR a0, vI p1, .unset] [])) t → Steps p.tables e below (s₁.setTop (entryFrame m #[(.ref a0), (.int p1)] 3)) t := fun t k => castTop (ef_rm12Gb m a0 p1) k
  obtain ⟨T1, X1, e1, st1⟩ := getF X0 hx hZ hown (host := "") (Or.inl (w47 hw)) Via.refl e0 F_value_a0 (g := (mkF m 1 #[vR a0, vI p1, .unset] [(.ref a0)])) rfl rfl (hb hby d12_1)
  obtain ⟨cl2, Ar2, qk2, Sz2, Ng2, Hs2, Gf2⟩ := id V_aV
  obtain ⟨T3, X3, e3, st3⟩ := getF X1 hx hZ hown (host := "") (Or.inl (w49 hw)) Via.refl e1 F_coder_a0 (g := (mkF m 6 #[vR a0, vI p1, .unset] [(.ref a0), (.int cap)])) rfl rfl (hb hby d12_6)
  obtain ⟨T4, X4, e4, st4⟩ := getF X3 hx hZ hown (host := "") (Or.inl (w47 hw)) Via.refl e3 F_value_a0 (g := (mkF m 19 #[vR a0, vI p1, vI cap] [(.ref a0), (.ref a0)])) rfl rfl (hb hby d12_19)
  obtain ⟨cq5, q5, q5'⟩ := E_a0.cell
  obtain ⟨_, _, ⟨T5, L5, k5', n5'⟩, -, X5, ⟨Lc5, hQ5, l5, y5, z5⟩, st5⟩ := X4.privateBack hx (y := (⟨cAB, "newCapacity", "(I)I"⟩ : MethodName)) hown (mvT hZ (w100 hw)) (mvT hZ (w101 hw)) (own_privS (mvT hZ (w103 hw)) (Cond.privateMethod_at (mvP hZ (w102 hw) (args := #[]))) (mvT hZ (w101 hw)) (by decide)) (Cond.privateMethod_at (mvP hZ (w102 hw) (args := #[]))) (mvT hZ (w104 hw)) (by decide) (backOf (W := 2) (rm16b l Z az hw [] a0 p1 aV kaV cap fV h0 n0 Z0 E_a0 F_value_a0 F_coder_a0 V_aV E_aV hc7 hc8 hc9 hc10) hZ (w104 hw) (w43 hw) (by decide) (by decide)) (g := (mkF m 24 #[vR a0, vI p1, vI cap] [(.int p1), (.ref a0), (.ref aV), (.ref a0)])) rfl (by rw [hml]; rfl) (Steps.refl _) (a := a0) (by rw [e4]; exact q5) q5' (argsL := [(.int p1)]) (rest := [(.ref aV), (.ref a0)]) (lenOf pd_6 rfl) rfl (Nat.le_of_eq rfl) (hb hby d12_24) (fun _ _ => ⟨rfl, e4, (by decide : 0 + 0 ≤ _), (by decide : 0 + 0 ≤ _)⟩)
  dsimp only [Pt.U, Pt.locs, Pt.cells, Pt.slots] at X5 l5 y5 z5 st5 hQ5
  subst l5 y5 z5
  obtain ⟨rfl, N5q, e5⟩ := hQ5
  obtain ⟨Lg5, X5', N5⟩ := own_gen X5 (Fr.app N0 N5q)
  obtain ⟨T6, X6, e6, st6⟩ := getF X5' hx hZ hown (host := "") (Or.inl (w49 hw)) Via.refl e5 F_coder_a0 (g := (mkF m 28 #[vR a0, vI p1, vI cap] [(.ref a0), (.int (own_ncb cap)), (.ref aV), (.ref a0)])) rfl rfl (hb hby d12_28)
  obtain ⟨_, _, ⟨T7, L7, k7', n7'⟩, -, X7, ⟨Lc7, hQ7, l7, y7, z7⟩, st7⟩ := Jvm.LawKit.callS X6 hx (y := (⟨"java/util/Arrays", "copyOf", "([BI)[B"⟩ : MethodName)) hown (mvT hZ (w115 hw)) (mvT hZ (w116 hw)) (mvT hZ (w117 hw)) (mvT hZ (w118 hw)) (by decide) (backOf (W := 1) (rm19 l Z az hw [] aV (own_ncb cap) kaV cap fV h0 n0 Z0 V_aV E_aV hc11 hc12 hc13 hc14 hc15 hc16 hc17) hZ (w118 hw) (w117 hw) (by decide) (by decide)) (g := (mkF m 32 #[vR a0, vI p1, vI cap] [(.int (own_ncb cap)), (.ref aV), (.ref a0)])) rfl (by rw [hml]; rfl) (argsL := [(.ref aV), (.int (own_ncb cap))]) (rest := [(.ref a0)]) (lenOf pd_7 rfl) rfl (Nat.le_of_eq rfl) (hb hby d12_32) (fun _ _ => ⟨rfl, e6, (by decide : 0 + 1 ≤ _), (by decide : 0 + 80 ≤ _)⟩)
  dsimp only [Pt.U, Pt.locs, Pt.cells, Pt.slots] at X7 l7 y7 z7 st7 hQ7
  subst l7 y7 z7
  obtain ⟨b7_0, kk7_0, rfl, N7q, s7_0, kq7, pf7_0, pf7_1⟩ := hQ7
  obtain ⟨Lg7, X7', N7⟩ := own_gen X7 (Fr.app N5 N7q)
  have g_b7_0 : n0 ≤ b7_0 := Nat.le_trans Z0 s7_0
  have sz_b7_0 : h0.size ≤ b7_0 := Nat.le_trans (Nat.le_refl _) s7_0
  have K7 : Keep h0 T7.heap [a0] := (Keep.refl h0 [a0]).trans kq7 all0
  have Z7 : n0 ≤ T7.heap.size := Nat.le_trans Z0 kq7.1
  have F_a0_value_u8 : Fld Z T7.heap a0 cAB "value" "[B" (.ref aV) := (F_value_a0.keep kq7 nin0)
  have E_a0_u9 : Exa Z T7.heap a0 cSB := (E_a0.keep kq7)
  obtain ⟨T10, h10, X10, e10, W10, st10⟩ := putF X7' hx hZ hown (host := "") (Or.inl (w47 hw)) Via.refl rfl F_a0_value_u8 E_a0_u9 (Or.inl (w48 hw)) (w34 hw) (ty := (.array .byte)) (by decide) rfl rfl (g := (mkF m 35 #[vR a0, vI p1, vI cap] [(.ref b7_0), (.ref a0)])) rfl rfl (hb hby d12_35)
  have K10 : Keep h0 h10 [a0] := K7.wr W10 (Or.inl (mg 0 rfl))
  have Fw10 := F_a0_value_u8.same W10
  have Z10 : n0 ≤ h10.size := Nat.le_trans Z7 (Keep.of_wr W10).1
  obtain ⟨Lg10, X10', N10⟩ := own_gen X10 (Fr.snoc X10 N7 g_a0)
  have E_a0_u11 : Exa Z h10 a0 cSB := (E_a0_u9.wr W10)
  have F_a0_coder_u12 : Fld Z h10 a0 cAB "coder" "B" (.int (0 : Int32)) := ((F_coder_a0.keep kq7 nin0).other W10 (Or.inr (sl_0 hw)))
  have F_a0_count_u13 : Fld Z h10 a0 cAB "count" "I" (.int ct) := ((F_count_a0.keep kq7 nin0).other W10 (Or.inr (sl_2 hw)))
  have E_b7_0_u14 : Exa Z h10 b7_0 "[B" := (pf7_0.wr W10)
  have ne_a0_b7_0 : a0 ≠ b7_0 := own_ne (Nat.lt_of_lt_of_le E_a0.lt s7_0)
  have V_b7_0_u15 : own_Arf Z h10 b7_0 kk7_0 .byte (own_ncb cap) (own_cpf fV ((0 : Int32)).toNatClampNeg (fun _ => (.int (0 : Int32))) ((0 : Int32)).toNatClampNeg (cap).toNatClampNeg) := (pf7_1.other W10 (Ne.symm ne_a0_b7_0))
  obtain ⟨fs, hr, hrun, hended, hW, hsame⟩ := X10'.leave (v := none) (fun _ => rfl)
  refine ⟨_, _, pre0 _ ?_, hrun, hended, _, _, rfl, ?_, ⟨_, rfl⟩, hW, hsame.mono (by decide) (by decide)⟩
  · show SP p e below s₁ (mkF m 0 #[vR a0, vI p1, .unset] []) _
    refine XS.aloadN X0.here hx rfl (hb hby d12_0) rfl rfl ?_
    show SP p e below s₁ (mkF m 1 #[vR a0, vI p1, .unset] [(.ref a0)]) _
    refine st1 _ ?_
    show SP p e below T1 (mkF m 4 #[vR a0, vI p1, .unset] [(.ref aV)]) _
    refine X1.arraylength hx (by rw [e1]; exact Ar2.1) (State.isArrayOf_alike hZ.alike Ar2.2.1) (g := (mkF m 4 #[vR a0, vI p1, .unset] [(.ref aV)])) rfl rfl (hb hby d12_4) _ ?_
    rw [len_of Sz2 Ng2]
    show SP p e below T1 (mkF m 5 #[vR a0, vI p1, .unset] [(.int cap)]) _
    refine XS.aloadN X1.here hx rfl (hb hby d12_5) rfl rfl ?_
    show SP p e below T1 (mkF m 6 #[vR a0, vI p1, .unset] [(.ref a0), (.int cap)]) _
    refine st3 _ ?_
    show SP p e below T3 (mkF m 9 #[vR a0, vI p1, .unset] [(.int (0 : Int32)), (.int cap)]) _
    refine XS.ishr X3.here hx rfl (hb hby d12_9) rfl ?_
    rw [own_shr0]
    show SP p e below T3 (mkF m 10 #[vR a0, vI p1, .unset] [(.int cap)]) _
    refine XS.istoreN X3.here hx rfl (hb hby d12_10) rfl (l' := #[vR a0, vI p1, vI cap]) rfl ?_
    refine XS.iloadN X3.here hx rfl (hb hby d12_11) rfl ?_
    refine XS.iloadN X3.here hx rfl (hb hby d12_12) rfl ?_
    refine XS.isub X3.here hx rfl (hb hby d12_13) rfl ?_
    refine XS.ifNo X3.here hx rfl (hb hby d12_14) rfl ((if0 _ _).trans (tlt hc6).2.2.2) ?_
    refine XS.aloadN X3.here hx rfl (hb hby d12_17) rfl rfl ?_
    refine XS.aloadN X3.here hx rfl (hb hby d12_18) rfl rfl ?_
    show SP p e below T3 (mkF m 19 #[vR a0, vI p1, vI cap] [(.ref a0), (.ref a0)]) _
    refine st4 _ ?_
    show SP p e below T4 (mkF m 22 #[vR a0, vI p1, vI cap] [(.ref aV), (.ref a0)]) _
    refine XS.aloadN X4.here hx rfl (hb hby d12_22) rfl rfl ?_
    refine XS.iloadN X4.here hx rfl (hb hby d12_23) rfl ?_
    show SP p e below T4 (mkF m 24 #[vR a0, vI p1, vI cap] [(.int p1), (.ref a0), (.ref aV), (.ref a0)]) _
    refine st5.trans ?_
    show SP p e below T5 (mkF m 27 #[vR a0, vI p1, vI cap] [(.int (own_ncb cap)), (.ref aV), (.ref a0)]) _
    refine XS.aloadN X5'.here hx rfl (hb hby d12_27) rfl rfl ?_
    show SP p e below T5 (mkF m 28 #[vR a0, vI p1, vI cap] [(.ref a0), (.int (own_ncb cap)), (.ref aV), (.ref a0)]) _
    refine st6 _ ?_
    show SP p e below T6 (mkF m 31 #[vR a0, vI p1, vI cap] [(.int (0 : Int32)), (.int (own_ncb cap)), (.ref aV), (.ref a0)]) _
    refine XS.ishl X6.here hx rfl (hb hby d12_31) rfl ?_
    rw [own_shl0]
    show SP p e below T6 (mkF m 32 #[vR a0, vI p1, vI cap] [(.int (own_ncb cap)), (.ref aV), (.ref a0)]) _
    refine st7 _ ?_
    show SP p e below T7 (mkF m 35 #[vR a0, vI p1, vI cap] [(.ref b7_0), (.ref a0)]) _
    refine st10 _ ?_
    show SP p e below T10 (mkF m 38 #[vR a0, vI p1, vI cap] []) _
    exact X10'.returnOut hx Bd.returns (hb hby d12_38) hr
  · show Q12Gb Z a0 p1 aV kaV cap fV ct h0 n0 _ T10.heap _
    rw [e10]
    exact ⟨b7_0, kk7_0, rfl, N10, sz_b7_0, K10, E_a0_u11, Fw10, F_a0_coder_u12, F_a0_count_u13, E_b7_0_u14, V_b7_0_u15⟩
theorem d9_0 : decode jdk_68_method_22_code 0 = .ok (.aload_n 1, 1) := by decide +kernel
theorem d9_1 : decode jdk_68_method_22_code 1 = .ok (.ifnonnull 8, 3) := by decide +kernel
theorem d9_9 : decode jdk_68_method_22_code 9 = .ok (.aload_n 1, 1) := by decide +kernel
theorem d9_10 : decode jdk_68_method_22_code 10 = .ok (.invokevirtual 32, 3) := by decide +kernel
theorem pd_8 : parseMethodDescriptor "()I" = some ⟨[], some .int⟩ := by decide +kernel
theorem d9_13 : decode jdk_68_method_22_code 13 = .ok (.istore_n 2, 1) := by decide +kernel
theorem d9_14 : decode jdk_68_method_22_code 14 = .ok (.aload_n 0, 1) := by decide +kernel
theorem d9_15 : decode jdk_68_method_22_code 15 = .ok (.aload_n 0, 1) := by decide +kernel
theorem d9_16 : decode jdk_68_method_22_code 16 = .ok (.getfield 79, 3) := by decide +kernel
theorem d9_19 : decode jdk_68_method_22_code 19 = .ok (.iload_n 2, 1) := by decide +kernel
theorem d9_20 : decode jdk_68_method_22_code 20 = .ok (.iadd, 1) := by decide +kernel
theorem d9_21 : decode jdk_68_method_22_code 21 = .ok (.invokevirtual 100, 3) := by decide +kernel
theorem d9_24 : decode jdk_68_method_22_code 24 = .ok (.aload_n 0, 1) := by decide +kernel
theorem d9_25 : decode jdk_68_method_22_code 25 = .ok (.aload_n 0, 1) := by decide +kernel
theorem d9_26 : decode jdk_68_method_22_code 26 = .ok (.getfield 79, 3) := by decide +kernel
theorem d9_29 : decode jdk_68_method_22_code 29 = .ok (.aload_n 1, 1) := by decide +kernel
theorem d9_30 : decode jdk_68_method_22_code 30 = .ok (.invokevirtual 208, 3) := by decide +kernel
theorem pd_9 : parseMethodDescriptor "(ILjava/lang/String;)V" = some ⟨[.int, (.object "java/lang/String")], none⟩ := by decide +kernel
theorem d9_33 : decode jdk_68_method_22_code 33 = .ok (.aload_n 0, 1) := by decide +kernel
theorem d9_34 : decode jdk_68_method_22_code 34 = .ok (.dup, 1) := by decide +kernel
theorem d9_35 : decode jdk_68_method_22_code 35 = .ok (.getfield 79, 3) := by decide +kernel
theorem d9_38 : decode jdk_68_method_22_code 38 = .ok (.iload_n 2, 1) := by decide +kernel
theorem d9_39 : decode jdk_68_method_22_code 39 = .ok (.iadd, 1) := by decide +kernel
theorem d9_40 : decode jdk_68_method_22_code 40 = .ok (.putfield 79, 3) := by decide +kernel
theorem d9_43 : decode jdk_68_method_22_code 43 = .ok (.aload_n 0, 1) := by decide +kernel
theorem d9_44 : decode jdk_68_method_22_code 44 = .ok (.areturn, 1) := by decide +kernel
theorem sl_4 {Z : State} {az : Array Value} (hw : HW Z az) : Jvm.RoadKit.slotOf Z cAB "value" "[B" ≠ Jvm.RoadKit.slotOf Z cAB "count" "I" := slot_ne (Z := Z) (Or.inl (w48 hw)) (Or.inl (w73 hw)) (by decide) (t := (.array .byte)) (t' := .int) (by decide) (by decide)
theorem sl_5 {Z : State} {az : Array Value} (hw : HW Z az) : Jvm.RoadKit.slotOf Z cAB "coder" "B" ≠ Jvm.RoadKit.slotOf Z cAB "count" "I" := slot_ne (Z := Z) (Or.inl (w50 hw)) (Or.inl (w73 hw)) (by decide) (t := .byte) (t' := .int) (by decide) (by decide)
theorem ef_rm9F (m : MethodId) (a0 : Addr) (a1 : Addr) : entryFrame m #[(.ref a0), (.ref a1)] 3 = mkF m 0 #[vR a0, vR a1, .unset] [] := by first | (simp [entryFrame, mkF, argsToLocals, Value.category]; done) | rfl
def Q9F (Z : State) (a0 : Addr) (a1 : Addr) (sC : Int32) (aV : Addr) (kaV : ClassId) (cap : Int32) (fV : Nat → Value) (ct : Int32) (aB : Addr) (kaB : ClassId) (ln : Int32) (fB : Nat → Value) (h0 : Heap) (n0 : Nat) (v : Option Value) (h : Heap) (L : List Loc) : Prop := v = some (.ref a0) ∧ Fr n0 L ∧ Keep h0 h [aV, a0] ∧ Exa Z h aV "[B" ∧ own_Arf Z h aV kaV .byte cap (own_cpf fB ((0 : Int32)).toNatClampNeg fV (ct).toNatClampNeg (ln).toNatClampNeg) ∧ Exa Z h a0 cSB ∧ Fld Z h a0 cAB "value" "[B" (.ref aV) ∧ Fld Z h a0 cAB "coder" "B" (.int (0 : Int32)) ∧ Fld Z h a0 cAB "count" "I" (.int (ct + ln))
set_option maxRecDepth 65536 in
set_option maxHeartbeats 40000000 in
theorem rm9F (l : Launch) (Z : State) (az : Array Value) (hw : HW Z az) (ws : List Jvm.Cond) (a0 : Addr) (a1 : Addr) (sC : Int32) (aV : Addr) (kaV : ClassId) (cap : Int32) (fV : Nat → Value) (ct : Int32) (aB : Addr) (kaB : ClassId) (ln : Int32) (fB : Nat → Value) (h0 : Heap) (n0 : Nat) (Z0 : n0 ≤ h0.size) (S_COMPACT_STRINGS : Sta Z h0 cST "COMPACT_STRINGS" "Z" (.int sC)) (hc1 : ¬ (sC = (0 : Int32))) (E_a0 : Exa Z h0 a0 cSB) (F_value_a0 : Fld Z h0 a0 cAB "value" "[B" (.ref aV)) (F_coder_a0 : Fld Z h0 a0 cAB "coder" "B" (.int (0 : Int32))) (V_aV : own_Arf Z h0 aV kaV .byte cap fV) (E_aV : Exa Z h0 aV "[B") (F_count_a0 : Fld Z h0 a0 cAB "count" "I" (.int ct)) (E_a1 : Exa Z h0 a1 cST) (F_coder_a1 : Fld Z h0 a1 cST "coder" "B" (.int (0 : Int32))) (F_value_a1 : Fld Z h0 a1 cST "value" "[B" (.ref aB)) (V_aB : own_Arf Z h0 aB kaB .byte ln fB) (E_aB : Exa Z h0 aB "[B") (hc13 : ¬ ((0 : Int32) < ((ct + ln) - cap))) (hc14 : ¬ (ct < (0 : Int32))) (hc15 : ¬ (ln < (0 : Int32))) (hc16 : ((0 : Int32)).toNatClampNeg + (ln).toNatClampNeg ≤ (ln).toNatClampNeg) (hc17 : (ct).toNatClampNeg + (ln).toNatClampNeg ≤ (cap).toNatClampNeg) (g_aV : n0 ≤ aV) (g_a0 : n0 ≤ a0) :
    MF l Z h0 ws ⟨cAB, "append", "(Ljava/lang/String;)Ljava/lang/AbstractStringBuilder;"⟩ jdk_68_method_22_code 3 (some (.object cAB)) ⟨3, 0, 0, 53⟩ #[(.ref a0), (.ref a1)] (Q9F Z a0 a1 sC aV kaV cap fV ct aB kaB ln fB h0 n0) := by
  refine MetFree.of_bodySF (plainFor_of_name pn_java_lang_AbstractStringBuilder) hisR ?_
  intro p e s m args below meth c s₁ Bd hml0 hP hK
  obtain ⟨rfl, hZ, hh⟩ := hP
  have hx := Bd.exec
  have hby := Bd.bytes
  have hml : c.maxLocals = 3 := hml0
  have hown : s.vm.findClass cAB = some m.cls := findClass_of_methodNamed Bd.named
  have hnm := (name_of_methodNamed Bd.named Bd.method).1
  have X0 : Stand p l e (⟨3, 0, 0, 53⟩ : Room) s m #[(.ref a0), (.ref a1)] below meth c s₁ [] 0 0 := Stand.of_body Bd
  have e0 : s₁.heap = h0 := by rw [← hh, Bd.state]; rfl
  have N0 := Fr.nil n0
  have pre0 : ∀ t, Steps p.tables e below (s₁.setTop (mkF m 0 #[vR a0, vR a1, .unset] [])) t → Steps p.tables e below (s₁.setTop (entryFrame m #[(.ref a0), (.ref a1)] 3)) t := fun t k => castTop (ef_rm9F m a0 a1) k
  obtain ⟨cq1, kq1, q1a, q1b, q1c⟩ := isOf hZ e0 E_a1
  obtain ⟨_, _, ⟨T1, L1, k1', n1'⟩, -, X1, ⟨Lc1, hQ1, l1, y1, z1⟩, st1⟩ := X0.virtualBack hx (y := (⟨cST, "length", "()I"⟩ : MethodName)) (z := (⟨cST, "length", "()I"⟩ : MethodName)) hown (mvT hZ (w61 hw)) (mvT hZ (w62 hw)) (notFace_of_selects (args := #[]) (mvT hZ (w64 hw))) (mvT hZ (w64 hw)) (mvT hZ (w63 hw)) (by decide) (backOf (W := 0) (rm10 l Z az hw [] a1 sC aB kaB ln fB h0 n0 Z0 S_COMPACT_STRINGS hc1 E_a1 F_coder_a1 F_value_a1 V_aB E_aB) hZ (w65 hw) (w6 hw) (by decide) (by decide)) q1a q1c (g := (mkF m 10 #[vR a0, vR a1, .unset] [(.ref a1)])) rfl (by rw [hml]; rfl) (Steps.refl _) (argsL := []) (rest := []) (lenOf pd_8 rfl) rfl (Nat.le_of_eq rfl) (hb hby d9_10) (fun _ _ => ⟨rfl, e0, (by decide : 0 + 0 ≤ _), (by decide : 0 + 0 ≤ _)⟩)
  dsimp only [Pt.U, Pt.locs, Pt.cells, Pt.slots] at X1 l1 y1 z1 st1 hQ1
  subst l1 y1 z1
  obtain ⟨rfl, N1q, e1⟩ := hQ1
  obtain ⟨Lg1, X1', N1⟩ := own_gen X1 (Fr.app N0 N1q)
  obtain ⟨T2, X2, e2, st2⟩ := getF X1' hx hZ hown (host := "") (Or.inl (w72 hw)) Via.refl e1 F_count_a0 (g := (mkF m 16 #[vR a0, vR a1, vI ln] [(.ref a0), (.ref a0)])) rfl rfl (hb hby d9_16)
  obtain ⟨cq3, q3, q3'⟩ := E_a0.cell
  obtain ⟨_, _, ⟨T3, L3, k3', n3'⟩, -, X3, ⟨Lc3, hQ3, l3, y3, z3⟩, st3⟩ := X2.privateBack hx (y := (⟨cAB, "ensureCapacityInternal", "(I)V"⟩ : MethodName)) hown (mvT hZ (w74 hw)) (mvT hZ (w75 hw)) (own_privS (mvT hZ (w77 hw)) (Cond.privateMethod_at (mvP hZ (w76 hw) (args := #[]))) (mvT hZ (w75 hw)) (by decide)) (Cond.privateMethod_at (mvP hZ (w76 hw) (args := #[]))) (mvT hZ (w78 hw)) (by decide) (backOf (W := 0) (rm12F l Z az hw [] a0 (ct + ln) aV kaV cap fV h0 n0 Z0 E_a0 F_value_a0 F_coder_a0 V_aV E_aV hc13) hZ (w78 hw) (w43 hw) (by decide) (by decide)) (g := (mkF m 21 #[vR a0, vR a1, vI ln] [(.int (ct + ln)), (.ref a0)])) rfl (by rw [hml]; rfl) (Steps.refl _) (a := a0) (by rw [e2]; exact q3) q3' (argsL := [(.int (ct + ln))]) (rest := []) (lenOf pd_1 rfl) rfl (Nat.le_of_eq rfl) (hb hby d9_21) (fun _ _ => ⟨rfl, e2, (by decide : 0 + 0 ≤ _), (by decide : 0 + 0 ≤ _)⟩)
  dsimp only [Pt.U, Pt.locs, Pt.cells, Pt.slots] at X3 l3 y3 z3 st3 hQ3
  subst l3 y3 z3
  obtain ⟨rfl, N3q, e3⟩ := hQ3
  obtain ⟨Lg3, X3', N3⟩ := own_gen X3 (Fr.app N1 N3q)
  obtain ⟨T4, X4, e4, st4⟩ := getF X3' hx hZ hown (host := "") (Or.inl (w72 hw)) Via.refl e3 F_count_a0 (g := (mkF m 26 #[vR a0, vR a1, vI ln] [(.ref a0), (.ref a0)])) rfl rfl (hb hby d9_26)
  obtain ⟨cq5, q5, q5'⟩ := E_a0.cell
  obtain ⟨_, _, ⟨T5, L5, k5', n5'⟩, -, X5, ⟨Lc5, hQ5, l5, y5, z5⟩, st5⟩ := X4.privateBack hx (y := (⟨cAB, "putStringAt", "(ILjava/lang/String;)V"⟩ : MethodName)) hown (mvT hZ (w79 hw)) (mvT hZ (w80 hw)) (own_privS (mvT hZ (w82 hw)) (Cond.privateMethod_at (mvP hZ (w81 hw) (args := #[]))) (mvT hZ (w80 hw)) (by decide)) (Cond.privateMethod_at (mvP hZ (w81 hw) (args := #[]))) (mvT hZ (w83 hw)) (by decide) (backOf (W := 0) (rm13 l Z az hw [] a0 ct a1 sC aV kaV cap fV aB kaB ln fB h0 n0 Z0 S_COMPACT_STRINGS hc1 E_a0 F_value_a0 F_coder_a0 V_aV E_aV E_a1 F_coder_a1 F_value_a1 V_aB E_aB hc14 hc15 hc16 hc17 g_aV) hZ (w83 hw) (w43 hw) (by decide) (by decide)) (g := (mkF m 30 #[vR a0, vR a1, vI ln] [(.ref a1), (.int ct), (.ref a0)])) rfl (by rw [hml]; rfl) (Steps.refl _) (a := a0) (by rw [e4]; exact q5) q5' (argsL := [(.int ct), (.ref a1)]) (rest := []) (lenOf pd_9 rfl) rfl (Nat.le_of_eq rfl) (hb hby d9_30) (fun _ _ => ⟨rfl, e4, (by decide : 0 + 0 ≤ _), (by decide : 0 + 0 ≤ _)⟩)
  dsimp only [Pt.U, Pt.locs, Pt.cells, Pt.slots] at X5 l5 y5 z5 st5 hQ5
  subst l5 y5 z5
  obtain ⟨rfl, N5q, kq5, pf5_0, pf5_1⟩ := hQ5
  obtain ⟨Lg5, X5', N5⟩ := own_gen X5 (Fr.app N3 N5q)
  have K5 : Keep h0 T5.heap [aV, a0] := (Keep.refl h0 [aV, a0]).trans kq5 (allS (Or.inl (mg 0 rfl)) all0)
  have Z5 : n0 ≤ T5.heap.size := Nat.le_trans Z0 kq5.1
  have ne_a0_aV : a0 ≠ aV := ne_exa E_a0 E_aV (by decide)
  have F_a0_count_u6 : Fld Z T5.heap a0 cAB "count" "I" (.int ct) := (F_count_a0.keep kq5 (ninS ne_a0_aV nin0))
  obtain ⟨T7, X7, e7, st7⟩ := getF X5' hx hZ hown (host := "") (Or.inl (w72 hw)) Via.refl rfl F_a0_count_u6 (g := (mkF m 35 #[vR a0, vR a1, vI ln] [(.ref a0), (.ref a0)])) rfl rfl (hb hby d9_35)
  have E_a0_u8 : Exa Z T5.heap a0 cSB := (E_a0.keep kq5)
  obtain ⟨T9, h9, X9, e9, W9, st9⟩ := putF X7 hx hZ hown (host := "") (Or.inl (w72 hw)) Via.refl e7 F_a0_count_u6 E_a0_u8 (Or.inl (w73 hw)) (w34 hw) (ty := .int) (by decide) rfl rfl (g := (mkF m 40 #[vR a0, vR a1, vI ln] [(.int (ct + ln)), (.ref a0)])) rfl rfl (hb hby d9_40)
  have K9 : Keep h0 h9 [aV, a0] := K5.wr W9 (Or.inl (mg 1 rfl))
  have Fw9 := F_a0_count_u6.same W9
  have Z9 : n0 ≤ h9.size := Nat.le_trans Z5 (Keep.of_wr W9).1
  obtain ⟨Lg9, X9', N9⟩ := own_gen X9 (Fr.snoc X9 N5 g_a0)
  have E_aV_u10 : Exa Z h9 aV "[B" := (pf5_0.wr W9)
  have ne_aV_a0 : aV ≠ a0 := ne_exa E_aV E_a0 (by decide)
  have V_aV_u11 : own_Arf Z h9 aV kaV .byte cap (own_cpf fB ((0 : Int32)).toNatClampNeg fV (ct).toNatClampNeg (ln).toNatClampNeg) := (pf5_1.other W9 ne_aV_a0)
  have E_a0_u12 : Exa Z h9 a0 cSB := (E_a0_u8.wr W9)
  have F_a0_value_u13 : Fld Z h9 a0 cAB "value" "[B" (.ref aV) := ((F_value_a0.keep kq5 (ninS ne_a0_aV nin0)).other W9 (Or.inr (sl_4 hw)))
  have F_a0_coder_u14 : Fld Z h9 a0 cAB "coder" "B" (.int (0 : Int32)) := ((F_coder_a0.keep kq5 (ninS ne_a0_aV nin0)).other W9 (Or.inr (sl_5 hw)))
  obtain ⟨fs, hr, hrun, hended, hW, hsame⟩ := X9'.leave (v := some (.ref a0)) (fun h => by rw [Bd.returns] at h; cases h)
  refine ⟨_, _, pre0 _ ?_, hrun, hended, _, _, rfl, ?_, ⟨_, rfl⟩, hW, hsame.mono (by decide) (by decide)⟩
  · show SP p e below s₁ (mkF m 0 #[vR a0, vR a1, .unset] []) _
    refine XS.aloadN X0.here hx rfl (hb hby d9_0) rfl rfl ?_
    show SP p e below s₁ (mkF m 1 #[vR a0, vR a1, .unset] [(.ref a1)]) _
    refine XS.ifnonnullYes X0.here hx rfl (pc0 := 1) (pc' := 9) rfl (hb hby d9_1) rfl (by decide) (by decide) ?_
    refine XS.aloadN X0.here hx rfl (hb hby d9_9) rfl rfl ?_
    show SP p e below s₁ (mkF m 10 #[vR a0, vR a1, .unset] [(.ref a1)]) _
    refine st1.trans ?_
    show SP p e below T1 (mkF m 13 #[vR a0, vR a1, .unset] [(.int ln)]) _
    refine XS.istoreN X1'.here hx rfl (hb hby d9_13) rfl (l' := #[vR a0, vR a1, vI ln]) rfl ?_
    refine XS.aloadN X1'.here hx rfl (hb hby d9_14) rfl rfl ?_
    refine XS.aloadN X1'.here hx rfl (hb hby d9_15) rfl rfl ?_
    show SP p e below T1 (mkF m 16 #[vR a0, vR a1, vI ln] [(.ref a0), (.ref a0)]) _
    refine st2 _ ?_
    show SP p e below T2 (mkF m 19 #[vR a0, vR a1, vI ln] [(.int ct), (.ref a0)]) _
    refine XS.iloadN X2.here hx rfl (hb hby d9_19) rfl ?_
    refine XS.iadd X2.here hx rfl (hb hby d9_20) rfl ?_
    show SP p e below T2 (mkF m 21 #[vR a0, vR a1, vI ln] [(.int (ct + ln)), (.ref a0)]) _
    refine st3.trans ?_
    show SP p e below T3 (mkF m 24 #[vR a0, vR a1, vI ln] []) _
    refine XS.aloadN X3'.here hx rfl (hb hby d9_24) rfl rfl ?_
    refine XS.aloadN X3'.here hx rfl (hb hby d9_25) rfl rfl ?_
    show SP p e below T3 (mkF m 26 #[vR a0, vR a1, vI ln] [(.ref a0), (.ref a0)]) _
    refine st4 _ ?_
    show SP p e below T4 (mkF m 29 #[vR a0, vR a1, vI ln] [(.int ct), (.ref a0)]) _
    refine XS.aloadN X4.here hx rfl (hb hby d9_29) rfl rfl ?_
    show SP p e below T4 (mkF m 30 #[vR a0, vR a1, vI ln] [(.ref a1), (.int ct), (.ref a0)]) _
    refine st5.trans ?_
    show SP p e below T5 (mkF m 33 #[vR a0, vR a1, vI ln] []) _
    refine XS.aloadN X5'.here hx rfl (hb hby d9_33) rfl rfl ?_
    refine XS.dup X5'.here hx rfl (hb hby d9_34) rfl rfl ?_
    show SP p e below T5 (mkF m 35 #[vR a0, vR a1, vI ln] [(.ref a0), (.ref a0)]) _
    refine st7 _ ?_
    show SP p e below T7 (mkF m 38 #[vR a0, vR a1, vI ln] [(.int ct), (.ref a0)]) _
    refine XS.iloadN X7.here hx rfl (hb hby d9_38) rfl ?_
    refine XS.iadd X7.here hx rfl (hb hby d9_39) rfl ?_
    show SP p e below T7 (mkF m 40 #[vR a0, vR a1, vI ln] [(.int (ct + ln)), (.ref a0)]) _
    refine st9 _ ?_
    show SP p e below T9 (mkF m 43 #[vR a0, vR a1, vI ln] []) _
    refine XS.aloadN X9'.here hx rfl (hb hby d9_43) rfl rfl ?_
    show SP p e below T9 (mkF m 44 #[vR a0, vR a1, vI ln] [(.ref a0)]) _
    jvm_step X9'.here [X9'.here.top, hx, (hb hby d9_44), X9'.method', Bd.returns, Value.isRef, FieldType.isReference]
    first | (intro acts; rw [hr _ acts rfl rfl rfl]) | rw [hr _ _ rfl rfl rfl]
    exact Steps.refl _
  · show Q9F Z a0 a1 sC aV kaV cap fV ct aB kaB ln fB h0 n0 _ T9.heap _
    rw [e9]
    exact ⟨rfl, N9, K9, E_aV_u10, V_aV_u11, E_a0_u12, F_a0_value_u13, F_a0_coder_u14, Fw9⟩
theorem d8_0 : decode jdk_67_method_7_code 0 = .ok (.aload_n 0, 1) := by decide +kernel
theorem d8_1 : decode jdk_67_method_7_code 1 = .ok (.aload_n 1, 1) := by decide +kernel
theorem d8_2 : decode jdk_67_method_7_code 2 = .ok (.invokespecial 29, 3) := by decide +kernel
theorem pd_10 : parseMethodDescriptor "(Ljava/lang/String;)Ljava/lang/AbstractStringBuilder;" = some ⟨[(.object "java/lang/String")], some (.object "java/lang/AbstractStringBuilder")⟩ := by decide +kernel
theorem d8_5 : decode jdk_67_method_7_code 5 = .ok (.pop, 1) := by decide +kernel
theorem d8_6 : decode jdk_67_method_7_code 6 = .ok (.aload_n 0, 1) := by decide +kernel
theorem d8_7 : decode jdk_67_method_7_code 7 = .ok (.areturn, 1) := by decide +kernel
theorem ef_rm8F (m : MethodId) (a0 : Addr) (a1 : Addr) : entryFrame m #[(.ref a0), (.ref a1)] 2 = mkF m 0 #[vR a0, vR a1] [] := by first | (simp [entryFrame, mkF, argsToLocals, Value.category]; done) | rfl
def Q8F (Z : State) (a0 : Addr) (a1 : Addr) (sC : Int32) (aV : Addr) (kaV : ClassId) (cap : Int32) (fV : Nat → Value) (ct : Int32) (aB : Addr) (kaB : ClassId) (ln : Int32) (fB : Nat → Value) (h0 : Heap) (n0 : Nat) (v : Option Value) (h : Heap) (L : List Loc) : Prop := v = some (.ref a0) ∧ Fr n0 L ∧ Keep h0 h [aV, a0] ∧ Exa Z h aV "[B" ∧ own_Arf Z h aV kaV .byte cap (own_cpf fB ((0 : Int32)).toNatClampNeg fV (ct).toNatClampNeg (ln).toNatClampNeg) ∧ Exa Z h a0 cSB ∧ Fld Z h a0 cAB "value" "[B" (.ref aV) ∧ Fld Z h a0 cAB "coder" "B" (.int (0 : Int32)) ∧ Fld Z h a0 cAB "count" "I" (.int (ct + ln))
set_option maxRecDepth 65536 in
set_option maxHeartbeats 40000000 in
theorem rm8F (l : Launch) (Z : State) (az : Array Value) (hw : HW Z az) (ws : List Jvm.Cond) (a0 : Addr) (a1 : Addr) (sC : Int32) (aV : Addr) (kaV : ClassId) (cap : Int32) (fV : Nat → Value) (ct : Int32) (aB : Addr) (kaB : ClassId) (ln : Int32) (fB : Nat → Value) (h0 : Heap) (n0 : Nat) (Z0 : n0 ≤ h0.size) (S_COMPACT_STRINGS : Sta Z h0 cST "COMPACT_STRINGS" "Z" (.int sC)) (hc1 : ¬ (sC = (0 : Int32))) (E_a0 : Exa Z h0 a0 cSB) (F_value_a0 : Fld Z h0 a0 cAB "value" "[B" (.ref aV)) (F_coder_a0 : Fld Z h0 a0 cAB "coder" "B" (.int (0 : Int32))) (V_aV : own_Arf Z h0 aV kaV .byte cap fV) (E_aV : Exa Z h0 aV "[B") (F_count_a0 : Fld Z h0 a0 cAB "count" "I" (.int ct)) (E_a1 : Exa Z h0 a1 cST) (F_coder_a1 : Fld Z h0 a1 cST "coder" "B" (.int (0 : Int32))) (F_value_a1 : Fld Z h0 a1 cST "value" "[B" (.ref aB)) (V_aB : own_Arf Z h0 aB kaB .byte ln fB) (E_aB : Exa Z h0 aB "[B") (hc13 : ¬ ((0 : Int32) < ((ct + ln) - cap))) (hc14 : ¬ (ct < (0 : Int32))) (hc15 : ¬ (ln < (0 : Int32))) (hc16 : ((0 : Int32)).toNatClampNeg + (ln).toNatClampNeg ≤ (ln).toNatClampNeg) (hc17 : (ct).toNatClampNeg + (ln).toNatClampNeg ≤ (cap).toNatClampNeg) (g_aV : n0 ≤ aV) (g_a0 : n0 ≤ a0) :
    MF l Z h0 ws ⟨cSB, "append", "(Ljava/lang/String;)Ljava/lang/StringBuilder;"⟩ jdk_67_method_7_code 2 (some (.object cSB)) ⟨4, 0, 0, 67⟩ #[(.ref a0), (.ref a1)] (Q8F Z a0 a1 sC aV kaV cap fV ct aB kaB ln fB h0 n0) := by
  refine MetFree.of_bodySF (plainFor_of_name pn_java_lang_StringBuilder) hisR ?_
  intro p e s m args below meth c s₁ Bd hml0 hP hK
  obtain ⟨rfl, hZ, hh⟩ := hP
  have hx := Bd.exec
  have hby := Bd.bytes
  have hml : c.maxLocals = 2 := hml0
  have hown : s.vm.findClass cSB = some m.cls := findClass_of_methodNamed Bd.named
  have hnm := (name_of_methodNamed Bd.named Bd.method).1
  have X0 : Stand p l e (⟨4, 0, 0, 67⟩ : Room) s m #[(.ref a0), (.ref a1)] below meth c s₁ [] 0 0 := Stand.of_body Bd
  have e0 : s₁.heap = h0 := by rw [← hh, Bd.state]; rfl
  have N0 := Fr.nil n0
  have pre0 : ∀ t, Steps p.tables e below (s₁.setTop (mkF m 0 #[vR a0, vR a1] [])) t → Steps p.tables e below (s₁.setTop (entryFrame m #[(.ref a0), (.ref a1)] 2)) t := fun t k => castTop (ef_rm8F m a0 a1) k
  obtain ⟨_, _, ⟨T1, L1, k1', n1'⟩, -, X1, ⟨Lc1, hQ1, l1, y1, z1⟩, st1⟩ := superBack X0 hx hZ (y := (⟨cAB, "append", "(Ljava/lang/String;)Ljava/lang/AbstractStringBuilder;"⟩ : MethodName)) hown (w56 hw) (own_same (y := (⟨cAB, "append", "(Ljava/lang/String;)Ljava/lang/AbstractStringBuilder;"⟩ : MethodName)) (w77 hw) rfl (w57 hw) (by decide)) (w57 hw) (w58 hw) (by decide) (backOf (W := 0) (rm9F l Z az hw [] a0 a1 sC aV kaV cap fV ct aB kaB ln fB h0 n0 Z0 S_COMPACT_STRINGS hc1 E_a0 F_value_a0 F_coder_a0 V_aV E_aV F_count_a0 E_a1 F_coder_a1 F_value_a1 V_aB E_aB hc13 hc14 hc15 hc16 hc17 g_aV g_a0) hZ (w60 hw) (w43 hw) (by decide) (by decide)) e0 (Ins.self E_a0) (g := (mkF m 2 #[vR a0, vR a1] [(.ref a1), (.ref a0)])) rfl (by rw [hml]; rfl) (w60 hw) (argsL := [(.ref a1)]) (rest := []) (lenOf pd_10 rfl) rfl (Nat.le_of_eq rfl) (hb hby d8_2) (fun _ _ => ⟨rfl, e0, (by decide : 0 + 0 ≤ _), (by decide : 0 + 0 ≤ _)⟩)
  dsimp only [Pt.U, Pt.locs, Pt.cells, Pt.slots] at X1 l1 y1 z1 st1 hQ1
  subst l1 y1 z1
  obtain ⟨rfl, N1q, kq1, pf1_0, pf1_1, pf1_2, pf1_3, pf1_4, pf1_5⟩ := hQ1
  obtain ⟨Lg1, X1', N1⟩ := own_gen X1 (Fr.app N0 N1q)
  have K1 : Keep h0 T1.heap [aV, a0] := (Keep.refl h0 [aV, a0]).trans kq1 (allS (Or.inl (mg 0 rfl)) (allS (Or.inl (mg 1 rfl)) all0))
  have Z1 : n0 ≤ T1.heap.size := Nat.le_trans Z0 kq1.1
  obtain ⟨fs, hr, hrun, hended, hW, hsame⟩ := X1'.leave (v := some (.ref a0)) (fun h => by rw [Bd.returns] at h; cases h)
  refine ⟨_, _, pre0 _ ?_, hrun, hended, _, _, rfl, ?_, ⟨_, rfl⟩, hW, hsame.mono (by decide) (by decide)⟩
  · show SP p e below s₁ (mkF m 0 #[vR a0, vR a1] []) _
    refine XS.aloadN X0.here hx rfl (hb hby d8_0) rfl rfl ?_
    refine XS.aloadN X0.here hx rfl (hb hby d8_1) rfl rfl ?_
    show SP p e below s₁ (mkF m 2 #[vR a0, vR a1] [(.ref a1), (.ref a0)]) _
    refine st1.trans ?_
    show SP p e below T1 (mkF m 5 #[vR a0, vR a1] [(.ref a0)]) _
    refine XS.pop X1'.here hx rfl (hb hby d8_5) rfl rfl ?_
    refine XS.aloadN X1'.here hx rfl (hb hby d8_6) rfl rfl ?_
    show SP p e below T1 (mkF m 7 #[vR a0, vR a1] [(.ref a0)]) _
    jvm_step X1'.here [X1'.here.top, hx, (hb hby d8_7), X1'.method', Bd.returns, Value.isRef, FieldType.isReference]
    first | (intro acts; rw [hr _ acts rfl rfl rfl]) | rw [hr _ _ rfl rfl rfl]
    exact Steps.refl _
  · show Q8F Z a0 a1 sC aV kaV cap fV ct aB kaB ln fB h0 n0 _ T1.heap _
    exact ⟨rfl, N1, K1, pf1_0, pf1_1, pf1_2, pf1_3, pf1_4, pf1_5⟩
theorem ef_rm9Ga (m : MethodId) (a0 : Addr) (a1 : Addr) : entryFrame m #[(.ref a0), (.ref a1)] 3 = mkF m 0 #[vR a0, vR a1, .unset] [] := by first | (simp [entryFrame, mkF, argsToLocals, Value.category]; done) | rfl
def Q9Ga (Z : State) (a0 : Addr) (a1 : Addr) (sC : Int32) (aV : Addr) (kaV : ClassId) (cap : Int32) (fV : Nat → Value) (ct : Int32) (aB : Addr) (kaB : ClassId) (ln : Int32) (fB : Nat → Value) (h0 : Heap) (n0 : Nat) (v : Option Value) (h : Heap) (L : List Loc) : Prop := ∃ r0 : Addr, ∃ rk0 : ClassId, v = some (.ref a0) ∧ Fr n0 L ∧ h0.size ≤ r0 ∧ Keep h0 h [a0] ∧ Exa Z h a0 cSB ∧ Fld Z h a0 cAB "value" "[B" (.ref r0) ∧ Fld Z h a0 cAB "coder" "B" (.int (0 : Int32)) ∧ Fld Z h a0 cAB "count" "I" (.int (ct + ln)) ∧ Exa Z h r0 "[B" ∧ own_Arf Z h r0 rk0 .byte (own_nca (ct + ln) cap) (own_cpf fB ((0 : Int32)).toNatClampNeg (own_cpf fV ((0 : Int32)).toNatClampNeg (fun _ => (.int (0 : Int32))) ((0 : Int32)).toNatClampNeg (cap).toNatClampNeg) (ct).toNatClampNeg (ln).toNatClampNeg)
set_option maxRecDepth 65536 in
set_option maxHeartbeats 40000000 in
theorem rm9Ga (l : Launch) (Z : State) (az : Array Value) (hw : HW Z az) (ws : List Jvm.Cond) (a0 : Addr) (a1 : Addr) (sC : Int32) (aV : Addr) (kaV : ClassId) (cap : Int32) (fV : Nat → Value) (ct : Int32) (aB : Addr) (kaB : ClassId) (ln : Int32) (fB : Nat → Value) (h0 : Heap) (n0 : Nat) (Z0 : n0 ≤ h0.size) (S_COMPACT_STRINGS : Sta Z h0 cST "COMPACT_STRINGS" "Z" (.int sC)) (hc1 : ¬ (sC = (0 : Int32))) (E_a0 : Exa Z h0 a0 cSB) (F_value_a0 : Fld Z h0 a0 cAB "value" "[B" (.ref aV)) (F_coder_a0 : Fld Z h0 a0 cAB "coder" "B" (.int (0 : Int32))) (V_aV : own_Arf Z h0 aV kaV .byte cap fV) (E_aV : Exa Z h0 aV "[B") (F_count_a0 : Fld Z h0 a0 cAB "count" "I" (.int ct)) (E_a1 : Exa Z h0 a1 cST) (F_coder_a1 : Fld Z h0 a1 cST "coder" "B" (.int (0 : Int32))) (F_value_a1 : Fld Z h0 a1 cST "value" "[B" (.ref aB)) (V_aB : own_Arf Z h0 aB kaB .byte ln fB) (E_aB : Exa Z h0 aB "[B") (hc13 : (0 : Int32) < ((ct + ln) - cap)) (hc14 : ¬ (((ct + ln) - cap) < (cap + (2 : Int32)))) (hc15 : (0 : Int32) < (cap + ((ct + ln) - cap))) (hc16 : ¬ ((2147483639 : Int32) < (cap + ((ct + ln) - cap)))) (hc17 : ¬ ((cap + ((ct + ln) - cap)) = (2147483647 : Int32))) (hc18 : ¬ ((own_nca (ct + ln) cap) = cap)) (hc19 : ¬ ((own_nca (ct + ln) cap) < (0 : Int32))) (hc20 : ((own_nca (ct + ln) cap)).toNatClampNeg ≤ 80) (hc21 : ¬ ((own_nca (ct + ln) cap) < cap)) (hc22 : ¬ (cap < (0 : Int32))) (hc23 : ((0 : Int32)).toNatClampNeg + (cap).toNatClampNeg ≤ (cap).toNatClampNeg) (hc24 : ((0 : Int32)).toNatClampNeg + (cap).toNatClampNeg ≤ ((own_nca (ct + ln) cap)).toNatClampNeg) (g_a0 : n0 ≤ a0) (hc26 : ¬ (ct < (0 : Int32))) (hc27 : ¬ (ln < (0 : Int32))) (hc28 : ((0 : Int32)).toNatClampNeg + (ln).toNatClampNeg ≤ (ln).toNatClampNeg) (hc29 : (ct).toNatClampNeg + (ln).toNatClampNeg ≤ ((own_nca (ct + ln) cap)).toNatClampNeg) :
    MF l Z h0 ws ⟨cAB, "append", "(Ljava/lang/String;)Ljava/lang/AbstractStringBuilder;"⟩ jdk_68_method_22_code 3 (some (.object cAB)) ⟨4, 1, 80, 62⟩ #[(.ref a0), (.ref a1)] (Q9Ga Z a0 a1 sC aV kaV cap fV ct aB kaB ln fB h0 n0) := by
  refine MetFree.of_bodySF (plainFor_of_name pn_java_lang_AbstractStringBuilder) hisR ?_
  intro p e s m args below meth c s₁ Bd hml0 hP hK
  obtain ⟨rfl, hZ, hh⟩ := hP
  have hx := Bd.exec
  have hby := Bd.bytes
  have hml : c.maxLocals = 3 := hml0
  have hown : s.vm.findClass cAB = some m.cls := findClass_of_methodNamed Bd.named
  have hnm := (name_of_methodNamed Bd.named Bd.method).1
  have X0 : Stand p l e (⟨4, 1, 80, 62⟩ : Room) s m #[(.ref a0), (.ref a1)] below meth c s₁ [] 0 0 := Stand.of_body Bd
  have e0 : s₁.heap = h0 := by rw [← hh, Bd.state]; rfl
  have N0 := Fr.nil n0
  have pre0 : ∀ t, Steps p.tables e below (s₁.setTop (mkF m 0 #[vR a0, vR a1, .unset] [])) t → Steps p.tables e below (s₁.setTop (entryFrame m #[(.ref a0), (.ref a1)] 3)) t := fun t k => castTop (ef_rm9Ga m a0 a1) k
  obtain ⟨cq1, kq1, q1a, q1b, q1c⟩ := isOf hZ e0 E_a1
  obtain ⟨_, _, ⟨T1, L1, k1', n1'⟩, -, X1, ⟨Lc1, hQ1, l1, y1, z1⟩, st1⟩ := X0.virtualBack hx (y := (⟨cST, "length", "()I"⟩ : MethodName)) (z := (⟨cST, "length", "()I"⟩ : MethodName)) hown (mvT hZ (w61 hw)) (mvT hZ (w62 hw)) (notFace_of_selects (args := #[]) (mvT hZ (w64 hw))) (mvT hZ (w64 hw)) (mvT hZ (w63 hw)) (by decide) (backOf (W := 0) (rm10 l Z az hw [] a1 sC aB kaB ln fB h0 n0 Z0 S_COMPACT_STRINGS hc1 E_a1 F_coder_a1 F_value_a1 V_aB E_aB) hZ (w65 hw) (w6 hw) (by decide) (by decide)) q1a q1c (g := (mkF m 10 #[vR a0, vR a1, .unset] [(.ref a1)])) rfl (by rw [hml]; rfl) (Steps.refl _) (argsL := []) (rest := []) (lenOf pd_8 rfl) rfl (Nat.le_of_eq rfl) (hb hby d9_10) (fun _ _ => ⟨rfl, e0, (by decide : 0 + 0 ≤ _), (by decide : 0 + 0 ≤ _)⟩)
  dsimp only [Pt.U, Pt.locs, Pt.cells, Pt.slots] at X1 l1 y1 z1 st1 hQ1
  subst l1 y1 z1
  obtain ⟨rfl, N1q, e1⟩ := hQ1
  obtain ⟨Lg1, X1', N1⟩ := own_gen X1 (Fr.app N0 N1q)
  obtain ⟨T2, X2, e2, st2⟩ := getF X1' hx hZ hown (host := "") (Or.inl (w72 hw)) Via.refl e1 F_count_a0 (g := (mkF m 16 #[vR a0, vR a1, vI ln] [(.ref a0), (.ref a0)])) rfl rfl (hb hby d9_16)
  obtain ⟨cq3, q3, q3'⟩ := E_a0.cell
  obtain ⟨_, _, ⟨T3, L3, k3', n3'⟩, -, X3, ⟨Lc3, hQ3, l3, y3, z3⟩, st3⟩ := X2.privateBack hx (y := (⟨cAB, "ensureCapacityInternal", "(I)V"⟩ : MethodName)) hown (mvT hZ (w74 hw)) (mvT hZ (w75 hw)) (own_privS (mvT hZ (w77 hw)) (Cond.privateMethod_at (mvP hZ (w76 hw) (args := #[]))) (mvT hZ (w75 hw)) (by decide)) (Cond.privateMethod_at (mvP hZ (w76 hw) (args := #[]))) (mvT hZ (w78 hw)) (by decide) (backOf (W := 0) (rm12Ga l Z az hw [] a0 (ct + ln) aV kaV cap fV ct h0 n0 Z0 E_a0 F_value_a0 F_coder_a0 V_aV E_aV F_count_a0 hc13 hc14 hc15 hc16 hc17 hc18 hc19 hc20 hc21 hc22 hc23 hc24 g_a0) hZ (w78 hw) (w43 hw) (by decide) (by decide)) (g := (mkF m 21 #[vR a0, vR a1, vI ln] [(.int (ct + ln)), (.ref a0)])) rfl (by rw [hml]; rfl) (Steps.refl _) (a := a0) (by rw [e2]; exact q3) q3' (argsL := [(.int (ct + ln))]) (rest := []) (lenOf pd_1 rfl) rfl (Nat.le_of_eq rfl) (hb hby d9_21) (fun _ _ => ⟨rfl, e2, (by decide : 0 + 1 ≤ _), (by decide : 0 + 80 ≤ _)⟩)
  dsimp only [Pt.U, Pt.locs, Pt.cells, Pt.slots] at X3 l3 y3 z3 st3 hQ3
  subst l3 y3 z3
  obtain ⟨b3_0, kk3_0, rfl, N3q, s3_0, kq3, pf3_0, pf3_1, pf3_2, pf3_3, pf3_4, pf3_5⟩ := hQ3
  obtain ⟨Lg3, X3', N3⟩ := own_gen X3 (Fr.app N1 N3q)
  have g_b3_0 : n0 ≤ b3_0 := Nat.le_trans Z0 s3_0
  have sz_b3_0 : h0.size ≤ b3_0 := Nat.le_trans (Nat.le_refl _) s3_0
  have K3 : Keep h0 T3.heap [a0] := (Keep.refl h0 [a0]).trans kq3 (allS (Or.inl (mg 0 rfl)) all0)
  have Z3 : n0 ≤ T3.heap.size := Nat.le_trans Z0 kq3.1
  obtain ⟨T4, X4, e4, st4⟩ := getF X3' hx hZ hown (host := "") (Or.inl (w72 hw)) Via.refl rfl pf3_3 (g := (mkF m 26 #[vR a0, vR a1, vI ln] [(.ref a0), (.ref a0)])) rfl rfl (hb hby d9_26)
  have S_String_COMPACT_STRINGS_u6 : Sta Z T3.heap cST "COMPACT_STRINGS" "Z" (.int sC) := (own_Sta S_COMPACT_STRINGS kq3 (allS (P := fun x => ∀ cell : Cell, _ → cell.vm.isStatics = false) E_a0.nostat (fun _ m => nomatch m)))
  have E_a1_u7 : Exa Z T3.heap a1 cST := (E_a1.keep kq3)
  have ne_a1_a0 : a1 ≠ a0 := ne_exa E_a1 E_a0 (by decide)
  have F_a1_coder_u8 : Fld Z T3.heap a1 cST "coder" "B" (.int (0 : Int32)) := (F_coder_a1.keep kq3 (ninS ne_a1_a0 nin0))
  have F_a1_value_u9 : Fld Z T3.heap a1 cST "value" "[B" (.ref aB) := (F_value_a1.keep kq3 (ninS ne_a1_a0 nin0))
  have ne_aB_a0 : aB ≠ a0 := ne_exa E_aB E_a0 (by decide)
  have V_aB_u10 : own_Arf Z T3.heap aB kaB .byte ln fB := (V_aB.keep kq3 (ninS ne_aB_a0 nin0))
  have E_aB_u11 : Exa Z T3.heap aB "[B" := (E_aB.keep kq3)
  obtain ⟨cq5, q5, q5'⟩ := pf3_0.cell
  obtain ⟨_, _, ⟨T5, L5, k5', n5'⟩, -, X5, ⟨Lc5, hQ5, l5, y5, z5⟩, st5⟩ := X4.privateBack hx (y := (⟨cAB, "putStringAt", "(ILjava/lang/String;)V"⟩ : MethodName)) hown (mvT hZ (w79 hw)) (mvT hZ (w80 hw)) (own_privS (mvT hZ (w82 hw)) (Cond.privateMethod_at (mvP hZ (w81 hw) (args := #[]))) (mvT hZ (w80 hw)) (by decide)) (Cond.privateMethod_at (mvP hZ (w81 hw) (args := #[]))) (mvT hZ (w83 hw)) (by decide) (backOf (W := 0) (rm13 l Z az hw [] a0 ct a1 sC b3_0 kk3_0 (own_nca (ct + ln) cap) (own_cpf fV ((0 : Int32)).toNatClampNeg (fun _ => (.int (0 : Int32))) ((0 : Int32)).toNatClampNeg (cap).toNatClampNeg) aB kaB ln fB T3.heap n0 Z3 S_String_COMPACT_STRINGS_u6 hc1 pf3_0 pf3_1 pf3_2 pf3_5 pf3_4 E_a1_u7 F_a1_coder_u8 F_a1_value_u9 V_aB_u10 E_aB_u11 hc26 hc27 hc28 hc29 g_b3_0) hZ (w83 hw) (w43 hw) (by decide) (by decide)) (g := (mkF m 30 #[vR a0, vR a1, vI ln] [(.ref a1), (.int ct), (.ref a0)])) rfl (by rw [hml]; rfl) (Steps.refl _) (a := a0) (by rw [e4]; exact q5) q5' (argsL := [(.int ct), (.ref a1)]) (rest := []) (lenOf pd_9 rfl) rfl (Nat.le_of_eq rfl) (hb hby d9_30) (fun _ _ => ⟨rfl, e4, (by decide : 1 + 0 ≤ _), (by decide : 80 + 0 ≤ _)⟩)
  dsimp only [Pt.U, Pt.locs, Pt.cells, Pt.slots] at X5 l5 y5 z5 st5 hQ5
  subst l5 y5 z5
  obtain ⟨rfl, N5q, kq5, pf5_0, pf5_1⟩ := hQ5
  obtain ⟨Lg5, X5', N5⟩ := own_gen X5 (Fr.app N3 N5q)
  have K5 : Keep h0 T5.heap [a0] := K3.trans kq5 (allS (Or.inr sz_b3_0) all0)
  have Z5 : n0 ≤ T5.heap.size := Nat.le_trans Z3 kq5.1
  have ne_a0_b3_0 : a0 ≠ b3_0 := own_ne (Nat.lt_of_lt_of_le E_a0.lt s3_0)
  have F_a0_count_u12 : Fld Z T5.heap a0 cAB "count" "I" (.int ct) := (pf3_3.keep kq5 (ninS ne_a0_b3_0 nin0))
  obtain ⟨T13, X13, e13, st13⟩ := getF X5' hx hZ hown (host := "") (Or.inl (w72 hw)) Via.refl rfl F_a0_count_u12 (g := (mkF m 35 #[vR a0, vR a1, vI ln] [(.ref a0), (.ref a0)])) rfl rfl (hb hby d9_35)
  have E_a0_u14 : Exa Z T5.heap a0 cSB := (pf3_0.keep kq5)
  obtain ⟨T15, h15, X15, e15, W15, st15⟩ := putF X13 hx hZ hown (host := "") (Or.inl (w72 hw)) Via.refl e13 F_a0_count_u12 E_a0_u14 (Or.inl (w73 hw)) (w34 hw) (ty := .int) (by decide) rfl rfl (g := (mkF m 40 #[vR a0, vR a1, vI ln] [(.int (ct + ln)), (.ref a0)])) rfl rfl (hb hby d9_40)
  have K15 : Keep h0 h15 [a0] := K5.wr W15 (Or.inl (mg 0 rfl))
  have Fw15 := F_a0_count_u12.same W15
  have Z15 : n0 ≤ h15.size := Nat.le_trans Z5 (Keep.of_wr W15).1
  obtain ⟨Lg15, X15', N15⟩ := own_gen X15 (Fr.snoc X15 N5 g_a0)
  have E_a0_u16 : Exa Z h15 a0 cSB := (E_a0_u14.wr W15)
  have F_a0_value_u17 : Fld Z h15 a0 cAB "value" "[B" (.ref b3_0) := ((pf3_1.keep kq5 (ninS ne_a0_b3_0 nin0)).other W15 (Or.inr (sl_4 hw)))
  have F_a0_coder_u18 : Fld Z h15 a0 cAB "coder" "B" (.int (0 : Int32)) := ((pf3_2.keep kq5 (ninS ne_a0_b3_0 nin0)).other W15 (Or.inr (sl_5 hw)))
  have E_b3_0_u19 : Exa Z h15 b3_0 "[B" := (pf5_0.wr W15)
  have V_b3_0_u20 : own_Arf Z h15 b3_0 kk3_0 .byte (own_nca (ct + ln) cap) (own_cpf fB ((0 : Int32)).toNatClampNeg (own_cpf fV ((0 : Int32)).toNatClampNeg (fun _ => (.int (0 : Int32))) ((0 : Int32)).toNatClampNeg (cap).toNatClampNeg) (ct).toNatClampNeg (ln).toNatClampNeg) := (pf5_1.other W15 (Ne.symm ne_a0_b3_0))
  obtain ⟨fs, hr, hrun, hended, hW, hsame⟩ := X15'.leave (v := some (.ref a0)) (fun h => by rw [Bd.returns] at h; cases h)
  refine ⟨_, _, pre0 _ ?_, hrun, hended, _, _, rfl, ?_, ⟨_, rfl⟩, hW, hsame.mono (by decide) (by decide)⟩
  · show SP p e below s₁ (mkF m 0 #[vR a0, vR a1, .unset] []) _
    refine XS.aloadN X0.here hx rfl (hb hby d9_0) rfl rfl ?_
    show SP p e below s₁ (mkF m 1 #[vR a0, vR a1, .unset] [(.ref a1)]) _
    refine XS.ifnonnullYes X0.here hx rfl (pc0 := 1) (pc' := 9) rfl (hb hby d9_1) rfl (by decide) (by decide) ?_
    refine XS.aloadN X0.here hx rfl (hb hby d9_9) rfl rfl ?_
    show SP p e below s₁ (mkF m 10 #[vR a0, vR a1, .unset] [(.ref a1)]) _
    refine st1.trans ?_
    show SP p e below T1 (mkF m 13 #[vR a0, vR a1, .unset] [(.int ln)]) _
    refine XS.istoreN X1'.here hx rfl (hb hby d9_13) rfl (l' := #[vR a0, vR a1, vI ln]) rfl ?_
    refine XS.aloadN X1'.here hx rfl (hb hby d9_14) rfl rfl ?_
    refine XS.aloadN X1'.here hx rfl (hb hby d9_15) rfl rfl ?_
    show SP p e below T1 (mkF m 16 #[vR a0, vR a1, vI ln] [(.ref a0), (.ref a0)]) _
    refine st2 _ ?_
    show SP p e below T2 (mkF m 19 #[vR a0, vR a1, vI ln] [(.int ct), (.ref a0)]) _
    refine XS.iloadN X2.here hx rfl (hb hby d9_19) rfl ?_
    refine XS.iadd X2.here hx rfl (hb hby d9_20) rfl ?_
    show SP p e below T2 (mkF m 21 #[vR a0, vR a1, vI ln] [(.int (ct + ln)), (.ref a0)]) _
    refine st3.trans ?_
    show SP p e below T3 (mkF m 24 #[vR a0, vR a1, vI ln] []) _
    refine XS.aloadN X3'.here hx rfl (hb hby d9_24) rfl rfl ?_
    refine XS.aloadN X3'.here hx rfl (hb hby d9_25) rfl rfl ?_
    show SP p e below T3 (mkF m 26 #[vR a0, vR a1, vI ln] [(.ref a0), (.ref a0)]) _
    refine st4 _ ?_
    show SP p e below T4 (mkF m 29 #[vR a0, vR a1, vI ln] [(.int ct), (.ref a0)]) _
    refine XS.aloadN X4.here hx rfl (hb hby d9_29) rfl rfl ?_
    show SP p e below T4 (mkF m 30 #[vR a0, vR a1, vI ln] [(.ref a1), (.int ct), (.ref a0)]) _
    refine st5.trans ?_
    show SP p e below T5 (mkF m 33 #[vR a0, vR a1, vI ln] []) _
    refine XS.aloadN X5'.here hx rfl (hb hby d9_33) rfl rfl ?_
    refine XS.dup X5'.here hx rfl (hb hby d9_34) rfl rfl ?_
    show SP p e below T5 (mkF m 35 #[vR a0, vR a1, vI ln] [(.ref a0), (.ref a0)]) _
    refine st13 _ ?_
    show SP p e below T13 (mkF m 38 #[vR a0, vR a1, vI ln] [(.int ct), (.ref a0)]) _
    refine XS.iloadN X13.here hx rfl (hb hby d9_38) rfl ?_
    refine XS.iadd X13.here hx rfl (hb hby d9_39) rfl ?_
    show SP p e below T13 (mkF m 40 #[vR a0, vR a1, vI ln] [(.int (ct + ln)), (.ref a0)]) _
    refine st15 _ ?_
    show SP p e below T15 (mkF m 43 #[vR a0, vR a1, vI ln] []) _
    refine XS.aloadN X15'.here hx rfl (hb hby d9_43) rfl rfl ?_
    show SP p e below T15 (mkF m 44 #[vR a0, vR a1, vI ln] [(.ref a0)]) _
    jvm_step X15'.here [X15'.here.top, hx, (hb hby d9_44), X15'.method', Bd.returns, Value.isRef, FieldType.isReference]
    first | (intro acts; rw [hr _ acts rfl rfl rfl]) | rw [hr _ _ rfl rfl rfl]
    exact Steps.refl _
  · show Q9Ga Z a0 a1 sC aV kaV cap fV ct aB kaB ln fB h0 n0 _ T15.heap _
    rw [e15]
    exact ⟨b3_0, kk3_0, rfl, N15, sz_b3_0, K15, E_a0_u16, F_a0_value_u17, F_a0_coder_u18, Fw15, E_b3_0_u19, V_b3_0_u20⟩
theorem ef_rm8Ga (m : MethodId) (a0 : Addr) (a1 : Addr) : entryFrame m #[(.ref a0), (.ref a1)] 2 = mkF m 0 #[vR a0, vR a1] [] := by first | (simp [entryFrame, mkF, argsToLocals, Value.category]; done) | rfl
def Q8Ga (Z : State) (a0 : Addr) (a1 : Addr) (sC : Int32) (aV : Addr) (kaV : ClassId) (cap : Int32) (fV : Nat → Value) (ct : Int32) (aB : Addr) (kaB : ClassId) (ln : Int32) (fB : Nat → Value) (h0 : Heap) (n0 : Nat) (v : Option Value) (h : Heap) (L : List Loc) : Prop := ∃ r0 : Addr, ∃ rk0 : ClassId, v = some (.ref a0) ∧ Fr n0 L ∧ h0.size ≤ r0 ∧ Keep h0 h [a0] ∧ Exa Z h a0 cSB ∧ Fld Z h a0 cAB "value" "[B" (.ref r0) ∧ Fld Z h a0 cAB "coder" "B" (.int (0 : Int32)) ∧ Fld Z h a0 cAB "count" "I" (.int (ct + ln)) ∧ Exa Z h r0 "[B" ∧ own_Arf Z h r0 rk0 .byte (own_nca (ct + ln) cap) (own_cpf fB ((0 : Int32)).toNatClampNeg (own_cpf fV ((0 : Int32)).toNatClampNeg (fun _ => (.int (0 : Int32))) ((0 : Int32)).toNatClampNeg (cap).toNatClampNeg) (ct).toNatClampNeg (ln).toNatClampNeg)
set_option maxRecDepth 65536 in
set_option maxHeartbeats 40000000 in
theorem rm8Ga (l : Launch) (Z : State) (az : Array Value) (hw : HW Z az) (ws : List Jvm.Cond) (a0 : Addr) (a1 : Addr) (sC : Int32) (aV : Addr) (kaV : ClassId) (cap : Int32) (fV : Nat → Value) (ct : Int32) (aB : Addr) (kaB : ClassId) (ln : Int32) (fB : Nat → Value) (h0 : Heap) (n0 : Nat) (Z0 : n0 ≤ h0.size) (S_COMPACT_STRINGS : Sta Z h0 cST "COMPACT_STRINGS" "Z" (.int sC)) (hc1 : ¬ (sC = (0 : Int32))) (E_a0 : Exa Z h0 a0 cSB) (F_value_a0 : Fld Z h0 a0 cAB "value" "[B" (.ref aV)) (F_coder_a0 : Fld Z h0 a0 cAB "coder" "B" (.int (0 : Int32))) (V_aV : own_Arf Z h0 aV kaV .byte cap fV) (E_aV : Exa Z h0 aV "[B") (F_count_a0 : Fld Z h0 a0 cAB "count" "I" (.int ct)) (E_a1 : Exa Z h0 a1 cST) (F_coder_a1 : Fld Z h0 a1 cST "coder" "B" (.int (0 : Int32))) (F_value_a1 : Fld Z h0 a1 cST "value" "[B" (.ref aB)) (V_aB : own_Arf Z h0 aB kaB .byte ln fB) (E_aB : Exa Z h0 aB "[B") (hc13 : (0 : Int32) < ((ct + ln) - cap)) (hc14 : ¬ (((ct + ln) - cap) < (cap + (2 : Int32)))) (hc15 : (0 : Int32) < (cap + ((ct + ln) - cap))) (hc16 : ¬ ((2147483639 : Int32) < (cap + ((ct + ln) - cap)))) (hc17 : ¬ ((cap + ((ct + ln) - cap)) = (2147483647 : Int32))) (hc18 : ¬ ((own_nca (ct + ln) cap) = cap)) (hc19 : ¬ ((own_nca (ct + ln) cap) < (0 : Int32))) (hc20 : ((own_nca (ct + ln) cap)).toNatClampNeg ≤ 80) (hc21 : ¬ ((own_nca (ct + ln) cap) < cap)) (hc22 : ¬ (cap < (0 : Int32))) (hc23 : ((0 : Int32)).toNatClampNeg + (cap).toNatClampNeg ≤ (cap).toNatClampNeg) (hc24 : ((0 : Int32)).toNatClampNeg + (cap).toNatClampNeg ≤ ((own_nca (ct + ln) cap)).toNatClampNeg) (g_a0 : n0 ≤ a0) (hc26 : ¬ (ct < (0 : Int32))) (hc27 : ¬ (ln < (0 : Int32))) (hc28 : ((0 : Int32)).toNatClampNeg + (ln).toNatClampNeg ≤ (ln).toNatClampNeg) (hc29 : (ct).toNatClampNeg + (ln).toNatClampNeg ≤ ((own_nca (ct + ln) cap)).toNatClampNeg) :
    MF l Z h0 ws ⟨cSB, "append", "(Ljava/lang/String;)Ljava/lang/StringBuilder;"⟩ jdk_67_method_7_code 2 (some (.object cSB)) ⟨5, 1, 80, 76⟩ #[(.ref a0), (.ref a1)] (Q8Ga Z a0 a1 sC aV kaV cap fV ct aB kaB ln fB h0 n0) := by
  refine MetFree.of_bodySF (plainFor_of_name pn_java_lang_StringBuilder) hisR ?_
  intro p e s m args below meth c s₁ Bd hml0 hP hK
  obtain ⟨rfl, hZ, hh⟩ := hP
  have hx := Bd.exec
  have hby := Bd.bytes
  have hml : c.maxLocals = 2 := hml0
  have hown : s.vm.findClass cSB = some m.cls := findClass_of_methodNamed Bd.named
  have hnm := (name_of_methodNamed Bd.named Bd.method).1
  have X0 : Stand p l e (⟨5, 1, 80, 76⟩ : Room) s m #[(.ref a0), (.ref a1)] below meth c s₁ [] 0 0 := Stand.of_body Bd
  have e0 : s₁.heap = h0 := by rw [← hh, Bd.state]; rfl
  have N0 := Fr.nil n0
  have pre0 : ∀ t, Steps p.tables e below (s₁.setTop (mkF m 0 #[vR a0, vR a1] [])) t → Steps p.tables e below (s₁.setTop (entryFrame m #[(.ref a0), (.ref a1)] 2)) t := fun t k => castTop (ef_rm8Ga m a0 a1) k
  obtain ⟨_, _, ⟨T1, L1, k1', n1'⟩, -, X1, ⟨Lc1, hQ1, l1, y1, z1⟩, st1⟩ := superBack X0 hx hZ (y := (⟨cAB, "append", "(Ljava/lang/String;)Ljava/lang/AbstractStringBuilder;"⟩ : MethodName)) hown (w56 hw) (own_same (y := (⟨cAB, "append", "(Ljava/lang/String;)Ljava/lang/AbstractStringBuilder;"⟩ : MethodName)) (w77 hw) rfl (w57 hw) (by decide)) (w57 hw) (w58 hw) (by decide) (backOf (W := 0) (rm9Ga l Z az hw [] a0 a1 sC aV kaV cap fV ct aB kaB ln fB h0 n0 Z0 S_COMPACT_STRINGS hc1 E_a0 F_value_a0 F_coder_a0 V_aV E_aV F_count_a0 E_a1 F_coder_a1 F_value_a1 V_aB E_aB hc13 hc14 hc15 hc16 hc17 hc18 hc19 hc20 hc21 hc22 hc23 hc24 g_a0 hc26 hc27 hc28 hc29) hZ (w60 hw) (w43 hw) (by decide) (by decide)) e0 (Ins.self E_a0) (g := (mkF m 2 #[vR a0, vR a1] [(.ref a1), (.ref a0)])) rfl (by rw [hml]; rfl) (w60 hw) (argsL := [(.ref a1)]) (rest := []) (lenOf pd_10 rfl) rfl (Nat.le_of_eq rfl) (hb hby d8_2) (fun _ _ => ⟨rfl, e0, (by decide : 0 + 1 ≤ _), (by decide : 0 + 80 ≤ _)⟩)
  dsimp only [Pt.U, Pt.locs, Pt.cells, Pt.slots] at X1 l1 y1 z1 st1 hQ1
  subst l1 y1 z1
  obtain ⟨b1_0, kk1_0, rfl, N1q, s1_0, kq1, pf1_0, pf1_1, pf1_2, pf1_3, pf1_4, pf1_5⟩ := hQ1
  obtain ⟨Lg1, X1', N1⟩ := own_gen X1 (Fr.app N0 N1q)
  have g_b1_0 : n0 ≤ b1_0 := Nat.le_trans Z0 s1_0
  have sz_b1_0 : h0.size ≤ b1_0 := Nat.le_trans (Nat.le_refl _) s1_0
  have K1 : Keep h0 T1.heap [a0] := (Keep.refl h0 [a0]).trans kq1 (allS (Or.inl (mg 0 rfl)) all0)
  have Z1 : n0 ≤ T1.heap.size := Nat.le_trans Z0 kq1.1
  obtain ⟨fs, hr, hrun, hended, hW, hsame⟩ := X1'.leave (v := some (.ref a0)) (fun h => by rw [Bd.returns] at h; cases h)
  refine ⟨_, _, pre0 _ ?_, hrun, hended, _, _, rfl, ?_, ⟨_, rfl⟩, hW, hsame.mono (by decide) (by decide)⟩
  · show SP p e below s₁ (mkF m 0 #[vR a0, vR a1] []) _
    refine XS.aloadN X0.here hx rfl (hb hby d8_0) rfl rfl ?_
    refine XS.aloadN X0.here hx rfl (hb hby d8_1) rfl rfl ?_
    show SP p e below s₁ (mkF m 2 #[vR a0, vR a1] [(.ref a1), (.ref a0)]) _
    refine st1.trans ?_
    show SP p e below T1 (mkF m 5 #[vR a0, vR a1] [(.ref a0)]) _
    refine XS.pop X1'.here hx rfl (hb hby d8_5) rfl rfl ?_
    refine XS.aloadN X1'.here hx rfl (hb hby d8_6) rfl rfl ?_
    show SP p e below T1 (mkF m 7 #[vR a0, vR a1] [(.ref a0)]) _
    jvm_step X1'.here [X1'.here.top, hx, (hb hby d8_7), X1'.method', Bd.returns, Value.isRef, FieldType.isReference]
    first | (intro acts; rw [hr _ acts rfl rfl rfl]) | rw [hr _ _ rfl rfl rfl]
    exact Steps.refl _
  · show Q8Ga Z a0 a1 sC aV kaV cap fV ct aB kaB ln fB h0 n0 _ T1.heap _
    exact ⟨b1_0, kk1_0, rfl, N1, sz_b1_0, K1, pf1_0, pf1_1, pf1_2, pf1_3, pf1_4, pf1_5⟩
theorem ef_rm9Gb (m : MethodId) (a0 : Addr) (a1 : Addr) : entryFrame m #[(.ref a0), (.ref a1)] 3 = mkF m 0 #[vR a0, vR a1, .unset] [] := by first | (simp [entryFrame, mkF, argsToLocals, Value.category]; done) | rfl
def Q9Gb (Z : State) (a0 : Addr) (a1 : Addr) (sC : Int32) (aV : Addr) (kaV : ClassId) (cap : Int32) (fV : Nat → Value) (ct : Int32) (aB : Addr) (kaB : ClassId) (ln : Int32) (fB : Nat → Value) (h0 : Heap) (n0 : Nat) (v : Option Value) (h : Heap) (L : List Loc) : Prop := ∃ r0 : Addr, ∃ rk0 : ClassId, v = some (.ref a0) ∧ Fr n0 L ∧ h0.size ≤ r0 ∧ Keep h0 h [a0] ∧ Exa Z h a0 cSB ∧ Fld Z h a0 cAB "value" "[B" (.ref r0) ∧ Fld Z h a0 cAB "coder" "B" (.int (0 : Int32)) ∧ Fld Z h a0 cAB "count" "I" (.int (ct + ln)) ∧ Exa Z h r0 "[B" ∧ own_Arf Z h r0 rk0 .byte (own_ncb cap) (own_cpf fB ((0 : Int32)).toNatClampNeg (own_cpf fV ((0 : Int32)).toNatClampNeg (fun _ => (.int (0 : Int32))) ((0 : Int32)).toNatClampNeg (cap).toNatClampNeg) (ct).toNatClampNeg (ln).toNatClampNeg)
set_option maxRecDepth 65536 in
set_option maxHeartbeats 40000000 in
theorem rm9Gb (l : Launch) (Z : State) (az : Array Value) (hw : HW Z az) (ws : List Jvm.Cond) (a0 : Addr) (a1 : Addr) (sC : Int32) (aV : Addr) (kaV : ClassId) (cap : Int32) (fV : Nat → Value) (ct : Int32) (aB : Addr) (kaB : ClassId) (ln : Int32) (fB : Nat → Value) (h0 : Heap) (n0 : Nat) (Z0 : n0 ≤ h0.size) (S_COMPACT_STRINGS : Sta Z h0 cST "COMPACT_STRINGS" "Z" (.int sC)) (hc1 : ¬ (sC = (0 : Int32))) (E_a0 : Exa Z h0 a0 cSB) (F_value_a0 : Fld Z h0 a0 cAB "value" "[B" (.ref aV)) (F_coder_a0 : Fld Z h0 a0 cAB "coder" "B" (.int (0 : Int32))) (V_aV : own_Arf Z h0 aV kaV .byte cap fV) (E_aV : Exa Z h0 aV "[B") (F_count_a0 : Fld Z h0 a0 cAB "count" "I" (.int ct)) (E_a1 : Exa Z h0 a1 cST) (F_coder_a1 : Fld Z h0 a1 cST "coder" "B" (.int (0 : Int32))) (F_value_a1 : Fld Z h0 a1 cST "value" "[B" (.ref aB)) (V_aB : own_Arf Z h0 aB kaB .byte ln fB) (E_aB : Exa Z h0 aB "[B") (hc13 : (0 : Int32) < ((ct + ln) - cap)) (hc14 : ((ct + ln) - cap) < (cap + (2 : Int32))) (hc15 : (0 : Int32) < (cap + (cap + (2 : Int32)))) (hc16 : ¬ ((2147483639 : Int32) < (cap + (cap + (2 : Int32))))) (hc17 : ¬ ((cap + (cap + (2 : Int32))) = (2147483647 : Int32))) (hc18 : ¬ ((own_ncb cap) = cap)) (hc19 : ¬ ((own_ncb cap) < (0 : Int32))) (hc20 : ((own_ncb cap)).toNatClampNeg ≤ 80) (hc21 : ¬ ((own_ncb cap) < cap)) (hc22 : ¬ (cap < (0 : Int32))) (hc23 : ((0 : Int32)).toNatClampNeg + (cap).toNatClampNeg ≤ (cap).toNatClampNeg) (hc24 : ((0 : Int32)).toNatClampNeg + (cap).toNatClampNeg ≤ ((own_ncb cap)).toNatClampNeg) (g_a0 : n0 ≤ a0) (hc26 : ¬ (ct < (0 : Int32))) (hc27 : ¬ (ln < (0 : Int32))) (hc28 : ((0 : Int32)).toNatClampNeg + (ln).toNatClampNeg ≤ (ln).toNatClampNeg) (hc29 : (ct).toNatClampNeg + (ln).toNatClampNeg ≤ ((own_ncb cap)).toNatClampNeg) :
    MF l Z h0 ws ⟨cAB, "append", "(Ljava/lang/String;)Ljava/lang/AbstractStringBuilder;"⟩ jdk_68_method_22_code 3 (some (.object cAB)) ⟨4, 1, 80, 62⟩ #[(.ref a0), (.ref a1)] (Q9Gb Z a0 a1 sC aV kaV cap fV ct aB kaB ln fB h0 n0) := by
  refine MetFree.of_bodySF (plainFor_of_name pn_java_lang_AbstractStringBuilder) hisR ?_
  intro p e s m args below meth c s₁ Bd hml0 hP hK
  obtain ⟨rfl, hZ, hh⟩ := hP
  have hx := Bd.exec
  have hby := Bd.bytes
  have hml : c.maxLocals = 3 := hml0
  have hown : s.vm.findClass cAB = some m.cls := findClass_of_methodNamed Bd.named
  have hnm := (name_of_methodNamed Bd.named Bd.method).1
  have X0 : Stand p l e (⟨4, 1, 80, 62⟩ : Room) s m #[(.ref a0), (.ref a1)] below meth c s₁ [] 0 0 := Stand.of_body Bd
  have e0 : s₁.heap = h0 := by rw [← hh, Bd.state]; rfl
  have N0 := Fr.nil n0
  have pre0 : ∀ t, Steps p.tables e below (s₁.setTop (mkF m 0 #[vR a0, vR a1, .unset] [])) t → Steps p.tables e below (s₁.setTop (entryFrame m #[(.ref a0), (.ref a1)] 3)) t := fun t k => castTop (ef_rm9Gb m a0 a1) k
  obtain ⟨cq1, kq1, q1a, q1b, q1c⟩ := isOf hZ e0 E_a1
  obtain ⟨_, _, ⟨T1, L1, k1', n1'⟩, -, X1, ⟨Lc1, hQ1, l1, y1, z1⟩, st1⟩ := X0.virtualBack hx (y := (⟨cST, "length", "()I"⟩ : MethodName)) (z := (⟨cST, "length", "()I"⟩ : MethodName)) hown (mvT hZ (w61 hw)) (mvT hZ (w62 hw)) (notFace_of_selects (args := #[]) (mvT hZ (w64 hw))) (mvT hZ (w64 hw)) (mvT hZ (w63 hw)) (by decide) (backOf (W := 0) (rm10 l Z az hw [] a1 sC aB kaB ln fB h0 n0 Z0 S_COMPACT_STRINGS hc1 E_a1 F_coder_a1 F_value_a1 V_aB E_aB) hZ (w65 hw) (w6 hw) (by decide) (by decide)) q1a q1c (g := (mkF m 10 #[vR a0, vR a1, .unset] [(.ref a1)])) rfl (by rw [hml]; rfl) (Steps.refl _) (argsL := []) (rest := []) (lenOf pd_8 rfl) rfl (Nat.le_of_eq rfl) (hb hby d9_10) (fun _ _ => ⟨rfl, e0, (by decide : 0 + 0 ≤ _), (by decide : 0 + 0 ≤ _)⟩)
  dsimp only [Pt.U, Pt.locs, Pt.cells, Pt.slots] at X1 l1 y1 z1 st1 hQ1
  subst l1 y1 z1
  obtain ⟨rfl, N1q, e1⟩ := hQ1
  obtain ⟨Lg1, X1', N1⟩ := own_gen X1 (Fr.app N0 N1q)
  obtain ⟨T2, X2, e2, st2⟩ := getF X1' hx hZ hown (host := "") (Or.inl (w72 hw)) Via.refl e1 F_count_a0 (g := (mkF m 16 #[vR a0, vR a1, vI ln] [(.ref a0), (.ref a0)])) rfl rfl (hb hby d9_16)
  obtain ⟨cq3, q3, q3'⟩ := E_a0.cell
  obtain ⟨_, _, ⟨T3, L3, k3', n3'⟩, -, X3, ⟨Lc3, hQ3, l3, y3, z3⟩, st3⟩ := X2.privateBack hx (y := (⟨cAB, "ensureCapacityInternal", "(I)V"⟩ : MethodName)) hown (mvT hZ (w74 hw)) (mvT hZ (w75 hw)) (own_privS (mvT hZ (w77 hw)) (Cond.privateMethod_at (mvP hZ (w76 hw) (args := #[]))) (mvT hZ (w75 hw)) (by decide)) (Cond.privateMethod_at (mvP hZ (w76 hw) (args := #[]))) (mvT hZ (w78 hw)) (by decide) (backOf (W := 0) (rm12Gb l Z az hw [] a0 (ct + ln) aV kaV cap fV ct h0 n0 Z0 E_a0 F_value_a0 F_coder_a0 V_aV E_aV F_count_a0 hc13 hc14 hc15 hc16 hc17 hc18 hc19 hc20 hc21 hc22 hc23 hc24 g_a0) hZ (w78 hw) (w43 hw) (by decide) (by decide)) (g := (mkF m 21 #[vR a0, vR a1, vI ln] [(.int (ct + ln)), (.ref a0)])) rfl (by rw [hml]; rfl) (Steps.refl _) (a := a0) (by rw [e2]; exact q3) q3' (argsL := [(.int (ct + ln))]) (rest := []) (lenOf pd_1 rfl) rfl (Nat.le_of_eq rfl) (hb hby d9_21) (fun _ _ => ⟨rfl, e2, (by decide : 0 + 1 ≤ _), (by decide : 0 + 80 ≤ _)⟩)
  dsimp only [Pt.U, Pt.locs, Pt.cells, Pt.slots] at X3 l3 y3 z3 st3 hQ3
  subst l3 y3 z3
  obtain ⟨b3_0, kk3_0, rfl, N3q, s3_0, kq3, pf3_0, pf3_1, pf3_2, pf3_3, pf3_4, pf3_5⟩ := hQ3
  obtain ⟨Lg3, X3', N3⟩ := own_gen X3 (Fr.app N1 N3q)
  have g_b3_0 : n0 ≤ b3_0 := Nat.le_trans Z0 s3_0
  have sz_b3_0 : h0.size ≤ b3_0 := Nat.le_trans (Nat.le_refl _) s3_0
  have K3 : Keep h0 T3.heap [a0] := (Keep.refl h0 [a0]).trans kq3 (allS (Or.inl (mg 0 rfl)) all0)
  have Z3 : n0 ≤ T3.heap.size := Nat.le_trans Z0 kq3.1
  obtain ⟨T4, X4, e4, st4⟩ := getF X3' hx hZ hown (host := "") (Or.inl (w72 hw)) Via.refl rfl pf3_3 (g := (mkF m 26 #[vR a0, vR a1, vI ln] [(.ref a0), (.ref a0)])) rfl rfl (hb hby d9_26)
  have S_String_COMPACT_STRINGS_u6 : Sta Z T3.heap cST "COMPACT_STRINGS" "Z" (.int sC) := (own_Sta S_COMPACT_STRINGS kq3 (allS (P := fun x => ∀ cell : Cell, _ → cell.vm.isStatics = false) E_a0.nostat (fun _ m => nomatch m)))
  have E_a1_u7 : Exa Z T3.heap a1 cST := (E_a1.keep kq3)
  have ne_a1_a0 : a1 ≠ a0 := ne_exa E_a1 E_a0 (by decide)
  have F_a1_coder_u8 : Fld Z T3.heap a1 cST "coder" "B" (.int (0 : Int32)) := (F_coder_a1.keep kq3 (ninS ne_a1_a0 nin0))
  have F_a1_value_u9 : Fld Z T3.heap a1 cST "value" "[B" (.ref aB) := (F_value_a1.keep kq3 (ninS ne_a1_a0 nin0))
  have ne_aB_a0 : aB ≠ a0 := ne_exa E_aB E_a0 (by decide)
  have V_aB_u10 : own_Arf Z T3.heap aB kaB .byte ln fB := (V_aB.keep kq3 (ninS ne_aB_a0 nin0))
  have E_aB_u11 : Exa Z T3.heap aB "[B" := (E_aB.keep kq3)
  obtain ⟨cq5, q5, q5'⟩ := pf3_0.cell
  obtain ⟨_, _, ⟨T5, L5, k5', n5'⟩, -, X5, ⟨Lc5, hQ5, l5, y5, z5⟩, st5⟩ := X4.privateBack hx (y := (⟨cAB, "putStringAt", "(ILjava/lang/String;)V"⟩ : MethodName)) hown (mvT hZ (w79 hw)) (mvT hZ (w80 hw)) (own_privS (mvT hZ (w82 hw)) (Cond.privateMethod_at (mvP hZ (w81 hw) (args := #[]))) (mvT hZ (w80 hw)) (by decide)) (Cond.privateMethod_at (mvP hZ (w81 hw) (args := #[]))) (mvT hZ (w83 hw)) (by decide) (backOf (W := 0) (rm13 l Z az hw [] a0 ct a1 sC b3_0 kk3_0 (own_ncb cap) (own_cpf fV ((0 : Int32)).toNatClampNeg (fun _ => (.int (0 : Int32))) ((0 : Int32)).toNatClampNeg (cap).toNatClampNeg) aB kaB ln fB T3.heap n0 Z3 S_String_COMPACT_STRINGS_u6 hc1 pf3_0 pf3_1 pf3_2 pf3_5 pf3_4 E_a1_u7 F_a1_coder_u8 F_a1_value_u9 V_aB_u10 E_aB_u11 hc26 hc27 hc28 hc29 g_b3_0) hZ (w83 hw) (w43 hw) (by decide) (by decide)) (g := (mkF m 30 #[vR a0, vR a1, vI ln] [(.ref a1), (.int ct), (.ref a0)])) rfl (by rw [hml]; rfl) (Steps.refl _) (a := a0) (by rw [e4]; exact q5) q5' (argsL := [(.int ct), (.ref a1)]) (rest := []) (lenOf pd_9 rfl) rfl (Nat.le_of_eq rfl) (hb hby d9_30) (fun _ _ => ⟨rfl, e4, (by decide : 1 + 0 ≤ _), (by decide : 80 + 0 ≤ _)⟩)
  dsimp only [Pt.U, Pt.locs, Pt.cells, Pt.slots] at X5 l5 y5 z5 st5 hQ5
  subst l5 y5 z5
  obtain ⟨rfl, N5q, kq5, pf5_0, pf5_1⟩ := hQ5
  obtain ⟨Lg5, X5', N5⟩ := own_gen X5 (Fr.app N3 N5q)
  have K5 : Keep h0 T5.heap [a0] := K3.trans kq5 (allS (Or.inr sz_b3_0) all0)
  have Z5 : n0 ≤ T5.heap.size := Nat.le_trans Z3 kq5.1
  have ne_a0_b3_0 : a0 ≠ b3_0 := own_ne (Nat.lt_of_lt_of_le E_a0.lt s3_0)
  have F_a0_count_u12 : Fld Z T5.heap a0 cAB "count" "I" (.int ct) := (pf3_3.keep kq5 (ninS ne_a0_b3_0 nin0))
  obtain ⟨T13, X13, e13, st13⟩ := getF X5' hx hZ hown (host := "") (Or.inl (w72 hw)) Via.refl rfl F_a0_count_u12 (g := (mkF m 35 #[vR a0, vR a1, vI ln] [(.ref a0), (.ref a0)])) rfl rfl (hb hby d9_35)
  have E_a0_u14 : Exa Z T5.heap a0 cSB := (pf3_0.keep kq5)
  obtain ⟨T15, h15, X15, e15, W15, st15⟩ := putF X13 hx hZ hown (host := "") (Or.inl (w72 hw)) Via.refl e13 F_a0_count_u12 E_a0_u14 (Or.inl (w73 hw)) (w34 hw) (ty := .int) (by decide) rfl rfl (g := (mkF m 40 #[vR a0, vR a1, vI ln] [(.int (ct + ln)), (.ref a0)])) rfl rfl (hb hby d9_40)
  have K15 : Keep h0 h15 [a0] := K5.wr W15 (Or.inl (mg 0 rfl))
  have Fw15 := F_a0_count_u12.same W15
  have Z15 : n0 ≤ h15.size := Nat.le_trans Z5 (Keep.of_wr W15).1
  obtain ⟨Lg15, X15', N15⟩ := own_gen X15 (Fr.snoc X15 N5 g_a0)
  have E_a0_u16 : Exa Z h15 a0 cSB := (E_a0_u14.wr W15)
  have F_a0_value_u17 : Fld Z h15 a0 cAB "value" "[B" (.ref b3_0) := ((pf3_1.keep kq5 (ninS ne_a0_b3_0 nin0)).other W15 (Or.inr (sl_4 hw)))
  have F_a0_coder_u18 : Fld Z h15 a0 cAB "coder" "B" (.int (0 : Int32)) := ((pf3_2.keep kq5 (ninS ne_a0_b3_0 nin0)).other W15 (Or.inr (sl_5 hw)))
  have E_b3_0_u19 : Exa Z h15 b3_0 "[B" := (pf5_0.wr W15)
  have V_b3_0_u20 : own_Arf Z h15 b3_0 kk3_0 .byte (own_ncb cap) (own_cpf fB ((0 : Int32)).toNatClampNeg (own_cpf fV ((0 : Int32)).toNatClampNeg (fun _ => (.int (0 : Int32))) ((0 : Int32)).toNatClampNeg (cap).toNatClampNeg) (ct).toNatClampNeg (ln).toNatClampNeg) := (pf5_1.other W15 (Ne.symm ne_a0_b3_0))
  obtain ⟨fs, hr, hrun, hended, hW, hsame⟩ := X15'.leave (v := some (.ref a0)) (fun h => by rw [Bd.returns] at h; cases h)
  refine ⟨_, _, pre0 _ ?_, hrun, hended, _, _, rfl, ?_, ⟨_, rfl⟩, hW, hsame.mono (by decide) (by decide)⟩
  · show SP p e below s₁ (mkF m 0 #[vR a0, vR a1, .unset] []) _
    refine XS.aloadN X0.here hx rfl (hb hby d9_0) rfl rfl ?_
    show SP p e below s₁ (mkF m 1 #[vR a0, vR a1, .unset] [(.ref a1)]) _
    refine XS.ifnonnullYes X0.here hx rfl (pc0 := 1) (pc' := 9) rfl (hb hby d9_1) rfl (by decide) (by decide) ?_
    refine XS.aloadN X0.here hx rfl (hb hby d9_9) rfl rfl ?_
    show SP p e below s₁ (mkF m 10 #[vR a0, vR a1, .unset] [(.ref a1)]) _
    refine st1.trans ?_
    show SP p e below T1 (mkF m 13 #[vR a0, vR a1, .unset] [(.int ln)]) _
    refine XS.istoreN X1'.here hx rfl (hb hby d9_13) rfl (l' := #[vR a0, vR a1, vI ln]) rfl ?_
    refine XS.aloadN X1'.here hx rfl (hb hby d9_14) rfl rfl ?_
    refine XS.aloadN X1'.here hx rfl (hb hby d9_15) rfl rfl ?_
    show SP p e below T1 (mkF m 16 #[vR a0, vR a1, vI ln] [(.ref a0), (.ref a0)]) _
    refine st2 _ ?_
    show SP p e below T2 (mkF m 19 #[vR a0, vR a1, vI ln] [(.int ct), (.ref a0)]) _
    refine XS.iloadN X2.here hx rfl (hb hby d9_19) rfl ?_
    refine XS.iadd X2.here hx rfl (hb hby d9_20) rfl ?_
    show SP p e below T2 (mkF m 21 #[vR a0, vR a1, vI ln] [(.int (ct + ln)), (.ref a0)]) _
    refine st3.trans ?_
    show SP p e below T3 (mkF m 24 #[vR a0, vR a1, vI ln] []) _
    refine XS.aloadN X3'.here hx rfl (hb hby d9_24) rfl rfl ?_
    refine XS.aloadN X3'.here hx rfl (hb hby d9_25) rfl rfl ?_
    show SP p e below T3 (mkF m 26 #[vR a0, vR a1, vI ln] [(.ref a0), (.ref a0)]) _
    refine st4 _ ?_
    show SP p e below T4 (mkF m 29 #[vR a0, vR a1, vI ln] [(.int ct), (.ref a0)]) _
    refine XS.aloadN X4.here hx rfl (hb hby d9_29) rfl rfl ?_
    show SP p e below T4 (mkF m 30 #[vR a0, vR a1, vI ln] [(.ref a1), (.int ct), (.ref a0)]) _
    refine st5.trans ?_
    show SP p e below T5 (mkF m 33 #[vR a0, vR a1, vI ln] []) _
    refine XS.aloadN X5'.here hx rfl (hb hby d9_33) rfl rfl ?_
    refine XS.dup X5'.here hx rfl (hb hby d9_34) rfl rfl ?_
    show SP p e below T5 (mkF m 35 #[vR a0, vR a1, vI ln] [(.ref a0), (.ref a0)]) _
    refine st13 _ ?_
    show SP p e below T13 (mkF m 38 #[vR a0, vR a1, vI ln] [(.int ct), (.ref a0)]) _
    refine XS.iloadN X13.here hx rfl (hb hby d9_38) rfl ?_
    refine XS.iadd X13.here hx rfl (hb hby d9_39) rfl ?_
    show SP p e below T13 (mkF m 40 #[vR a0, vR a1, vI ln] [(.int (ct + ln)), (.ref a0)]) _
    refine st15 _ ?_
    show SP p e below T15 (mkF m 43 #[vR a0, vR a1, vI ln] []) _
    refine XS.aloadN X15'.here hx rfl (hb hby d9_43) rfl rfl ?_
    show SP p e below T15 (mkF m 44 #[vR a0, vR a1, vI ln] [(.ref a0)]) _
    jvm_step X15'.here [X15'.here.top, hx, (hb hby d9_44), X15'.method', Bd.returns, Value.isRef, FieldType.isReference]
    first | (intro acts; rw [hr _ acts rfl rfl rfl]) | rw [hr _ _ rfl rfl rfl]
    exact Steps.refl _
  · show Q9Gb Z a0 a1 sC aV kaV cap fV ct aB kaB ln fB h0 n0 _ T15.heap _
    rw [e15]
    exact ⟨b3_0, kk3_0, rfl, N15, sz_b3_0, K15, E_a0_u16, F_a0_value_u17, F_a0_coder_u18, Fw15, E_b3_0_u19, V_b3_0_u20⟩
theorem ef_rm8Gb (m : MethodId) (a0 : Addr) (a1 : Addr) : entryFrame m #[(.ref a0), (.ref a1)] 2 = mkF m 0 #[vR a0, vR a1] [] := by first | (simp [entryFrame, mkF, argsToLocals, Value.category]; done) | rfl
def Q8Gb (Z : State) (a0 : Addr) (a1 : Addr) (sC : Int32) (aV : Addr) (kaV : ClassId) (cap : Int32) (fV : Nat → Value) (ct : Int32) (aB : Addr) (kaB : ClassId) (ln : Int32) (fB : Nat → Value) (h0 : Heap) (n0 : Nat) (v : Option Value) (h : Heap) (L : List Loc) : Prop := ∃ r0 : Addr, ∃ rk0 : ClassId, v = some (.ref a0) ∧ Fr n0 L ∧ h0.size ≤ r0 ∧ Keep h0 h [a0] ∧ Exa Z h a0 cSB ∧ Fld Z h a0 cAB "value" "[B" (.ref r0) ∧ Fld Z h a0 cAB "coder" "B" (.int (0 : Int32)) ∧ Fld Z h a0 cAB "count" "I" (.int (ct + ln)) ∧ Exa Z h r0 "[B" ∧ own_Arf Z h r0 rk0 .byte (own_ncb cap) (own_cpf fB ((0 : Int32)).toNatClampNeg (own_cpf fV ((0 : Int32)).toNatClampNeg (fun _ => (.int (0 : Int32))) ((0 : Int32)).toNatClampNeg (cap).toNatClampNeg) (ct).toNatClampNeg (ln).toNatClampNeg)
set_option maxRecDepth 65536 in
set_option maxHeartbeats 40000000 in
theorem rm8Gb (l : Launch) (Z : State) (az : Array Value) (hw : HW Z az) (ws : List Jvm.Cond) (a0 : Addr) (a1 : Addr) (sC : Int32) (aV : Addr) (kaV : ClassId) (cap : Int32) (fV : Nat → Value) (ct : Int32) (aB : Addr) (kaB : ClassId) (ln : Int32) (fB : Nat → Value) (h0 : Heap) (n0 : Nat) (Z0 : n0 ≤ h0.size) (S_COMPACT_STRINGS : Sta Z h0 cST "COMPACT_STRINGS" "Z" (.int sC)) (hc1 : ¬ (sC = (0 : Int32))) (E_a0 : Exa Z h0 a0 cSB) (F_value_a0 : Fld Z h0 a0 cAB "value" "[B" (.ref aV)) (F_coder_a0 : Fld Z h0 a0 cAB "coder" "B" (.int (0 : Int32))) (V_aV : own_Arf Z h0 aV kaV .byte cap fV) (E_aV : Exa Z h0 aV "[B") (F_count_a0 : Fld Z h0 a0 cAB "count" "I" (.int ct)) (E_a1 : Exa Z h0 a1 cST) (F_coder_a1 : Fld Z h0 a1 cST "coder" "B" (.int (0 : Int32))) (F_value_a1 : Fld Z h0 a1 cST "value" "[B" (.ref aB)) (V_aB : own_Arf Z h0 aB kaB .byte ln fB) (E_aB : Exa Z h0 aB "[B") (hc13 : (0 : Int32) < ((ct + ln) - cap)) (hc14 : ((ct + ln) - cap) < (cap + (2 : Int32))) (hc15 : (0 : Int32) < (cap + (cap + (2 : Int32)))) (hc16 : ¬ ((2147483639 : Int32) < (cap + (cap + (2 : Int32))))) (hc17 : ¬ ((cap + (cap + (2 : Int32))) = (2147483647 : Int32))) (hc18 : ¬ ((own_ncb cap) = cap)) (hc19 : ¬ ((own_ncb cap) < (0 : Int32))) (hc20 : ((own_ncb cap)).toNatClampNeg ≤ 80) (hc21 : ¬ ((own_ncb cap) < cap)) (hc22 : ¬ (cap < (0 : Int32))) (hc23 : ((0 : Int32)).toNatClampNeg + (cap).toNatClampNeg ≤ (cap).toNatClampNeg) (hc24 : ((0 : Int32)).toNatClampNeg + (cap).toNatClampNeg ≤ ((own_ncb cap)).toNatClampNeg) (g_a0 : n0 ≤ a0) (hc26 : ¬ (ct < (0 : Int32))) (hc27 : ¬ (ln < (0 : Int32))) (hc28 : ((0 : Int32)).toNatClampNeg + (ln).toNatClampNeg ≤ (ln).toNatClampNeg) (hc29 : (ct).toNatClampNeg + (ln).toNatClampNeg ≤ ((own_ncb cap)).toNatClampNeg) :
    MF l Z h0 ws ⟨cSB, "append", "(Ljava/lang/String;)Ljava/lang/StringBuilder;"⟩ jdk_67_method_7_code 2 (some (.object cSB)) ⟨5, 1, 80, 76⟩ #[(.ref a0), (.ref a1)] (Q8Gb Z a0 a1 sC aV kaV cap fV ct aB kaB ln fB h0 n0) := by
  refine MetFree.of_bodySF (plainFor_of_name pn_java_lang_StringBuilder) hisR ?_
  intro p e s m args below meth c s₁ Bd hml0 hP hK
  obtain ⟨rfl, hZ, hh⟩ := hP
  have hx := Bd.exec
  have hby := Bd.bytes
  have hml : c.maxLocals = 2 := hml0
  have hown : s.vm.findClass cSB = some m.cls := findClass_of_methodNamed Bd.named
  have hnm := (name_of_methodNamed Bd.named Bd.method).1
  have X0 : Stand p l e (⟨5, 1, 80, 76⟩ : Room) s m #[(.ref a0), (.ref a1)] below meth c s₁ [] 0 0 := Stand.of_body Bd
  have e0 : s₁.heap = h0 := by rw [← hh, Bd.state]; rfl
  have N0 := Fr.nil n0
  have pre0 : ∀ t, Steps p.tables e below (s₁.setTop (mkF m 0 #[vR a0, vR a1] [])) t → Steps p.tables e below (s₁.setTop (entryFrame m #[(.ref a0), (.ref a1)] 2)) t := fun t k => castTop (ef_rm8Gb m a0 a1) k
  obtain ⟨_, _, ⟨T1, L1, k1', n1'⟩, -, X1, ⟨Lc1, hQ1, l1, y1, z1⟩, st1⟩ := superBack X0 hx hZ (y := (⟨cAB, "append", "(Ljava/lang/String;)Ljava/lang/AbstractStringBuilder;"⟩ : MethodName)) hown (w56 hw) (own_same (y := (⟨cAB, "append", "(Ljava/lang/String;)Ljava/lang/AbstractStringBuilder;"⟩ : MethodName)) (w77 hw) rfl (w57 hw) (by decide)) (w57 hw) (w58 hw) (by decide) (backOf (W := 0) (rm9Gb l Z az hw [] a0 a1 sC aV kaV cap fV ct aB kaB ln fB h0 n0 Z0 S_COMPACT_STRINGS hc1 E_a0 F_value_a0 F_coder_a0 V_aV E_aV F_count_a0 E_a1 F_coder_a1 F_value_a1 V_aB E_aB hc13 hc14 hc15 hc16 hc17 hc18 hc19 hc20 hc21 hc22 hc23 hc24 g_a0 hc26 hc27 hc28 hc29) hZ (w60 hw) (w43 hw) (by decide) (by decide)) e0 (Ins.self E_a0) (g := (mkF m 2 #[vR a0, vR a1] [(.ref a1), (.ref a0)])) rfl (by rw [hml]; rfl) (w60 hw) (argsL := [(.ref a1)]) (rest := []) (lenOf pd_10 rfl) rfl (Nat.le_of_eq rfl) (hb hby d8_2) (fun _ _ => ⟨rfl, e0, (by decide : 0 + 1 ≤ _), (by decide : 0 + 80 ≤ _)⟩)
  dsimp only [Pt.U, Pt.locs, Pt.cells, Pt.slots] at X1 l1 y1 z1 st1 hQ1
  subst l1 y1 z1
  obtain ⟨b1_0, kk1_0, rfl, N1q, s1_0, kq1, pf1_0, pf1_1, pf1_2, pf1_3, pf1_4, pf1_5⟩ := hQ1
  obtain ⟨Lg1, X1', N1⟩ := own_gen X1 (Fr.app N0 N1q)
  have g_b1_0 : n0 ≤ b1_0 := Nat.le_trans Z0 s1_0
  have sz_b1_0 : h0.size ≤ b1_0 := Nat.le_trans (Nat.le_refl _) s1_0
  have K1 : Keep h0 T1.heap [a0] := (Keep.refl h0 [a0]).trans kq1 (allS (Or.inl (mg 0 rfl)) all0)
  have Z1 : n0 ≤ T1.heap.size := Nat.le_trans Z0 kq1.1
  obtain ⟨fs, hr, hrun, hended, hW, hsame⟩ := X1'.leave (v := some (.ref a0)) (fun h => by rw [Bd.returns] at h; cases h)
  refine ⟨_, _, pre0 _ ?_, hrun, hended, _, _, rfl, ?_, ⟨_, rfl⟩, hW, hsame.mono (by decide) (by decide)⟩
  · show SP p e below s₁ (mkF m 0 #[vR a0, vR a1] []) _
    refine XS.aloadN X0.here hx rfl (hb hby d8_0) rfl rfl ?_
    refine XS.aloadN X0.here hx rfl (hb hby d8_1) rfl rfl ?_
    show SP p e below s₁ (mkF m 2 #[vR a0, vR a1] [(.ref a1), (.ref a0)]) _
    refine st1.trans ?_
    show SP p e below T1 (mkF m 5 #[vR a0, vR a1] [(.ref a0)]) _
    refine XS.pop X1'.here hx rfl (hb hby d8_5) rfl rfl ?_
    refine XS.aloadN X1'.here hx rfl (hb hby d8_6) rfl rfl ?_
    show SP p e below T1 (mkF m 7 #[vR a0, vR a1] [(.ref a0)]) _
    jvm_step X1'.here [X1'.here.top, hx, (hb hby d8_7), X1'.method', Bd.returns, Value.isRef, FieldType.isReference]
    first | (intro acts; rw [hr _ acts rfl rfl rfl]) | rw [hr _ _ rfl rfl rfl]
    exact Steps.refl _
  · show Q8Gb Z a0 a1 sC aV kaV cap fV ct aB kaB ln fB h0 n0 _ T1.heap _
    exact ⟨b1_0, kk1_0, rfl, N1, sz_b1_0, K1, pf1_0, pf1_1, pf1_2, pf1_3, pf1_4, pf1_5⟩
theorem d24_0 : decode jdk_68_method_64_code 0 = .ok (.aload_n 0, 1) := by decide +kernel
theorem d24_1 : decode jdk_68_method_64_code 1 = .ok (.getfield 15, 3) := by decide +kernel
theorem d24_4 : decode jdk_68_method_64_code 4 = .ok (.areturn, 1) := by decide +kernel
theorem ef_rm24 (m : MethodId) (a0 : Addr) : entryFrame m #[(.ref a0)] 1 = mkF m 0 #[vR a0] [] := by first | (simp [entryFrame, mkF, argsToLocals, Value.category]; done) | rfl
def Q24 (Z : State) (a0 : Addr) (aV : Addr) (kaV : ClassId) (cap : Int32) (fV : Nat → Value) (h0 : Heap) (n0 : Nat) (v : Option Value) (h : Heap) (L : List Loc) : Prop := v = some (.ref aV) ∧ Fr n0 L ∧ h = h0
set_option maxRecDepth 65536 in
set_option maxHeartbeats 40000000 in
theorem rm24 (l : Launch) (Z : State) (az : Array Value) (hw : HW Z az) (ws : List Jvm.Cond) (a0 : Addr) (aV : Addr) (kaV : ClassId) (cap : Int32) (fV : Nat → Value) (h0 : Heap) (n0 : Nat) (Z0 : n0 ≤ h0.size) (E_a0 : Exa Z h0 a0 cSB) (F_value_a0 : Fld Z h0 a0 cAB "value" "[B" (.ref aV)) (F_coder_a0 : Fld Z h0 a0 cAB "coder" "B" (.int (0 : Int32))) (V_aV : own_Arf Z h0 aV kaV .byte cap fV) (E_aV : Exa Z h0 aV "[B") :
    MF l Z h0 ws ⟨cAB, "getValue", "()[B"⟩ jdk_68_method_64_code 1 (some (.array .byte)) ⟨0, 0, 0, 0⟩ #[(.ref a0)] (Q24 Z a0 aV kaV cap fV h0 n0) := by
  refine MetFree.of_bodySF (plainFor_of_name pn_java_lang_AbstractStringBuilder) hisR ?_
  intro p e s m args below meth c s₁ Bd hml0 hP hK
  obtain ⟨rfl, hZ, hh⟩ := hP
  have hx := Bd.exec
  have hby := Bd.bytes
  have hml : c.maxLocals = 1 := hml0
  have hown : s.vm.findClass cAB = some m.cls := findClass_of_methodNamed Bd.named
  have hnm := (name_of_methodNamed Bd.named Bd.method).1
  have X0 : Stand p l e (⟨0, 0, 0, 0⟩ : Room) s m #[(.ref a0)] below meth c s₁ [] 0 0 := Stand.of_body Bd
  have e0 : s₁.heap = h0 := by rw [← hh, Bd.state]; rfl
  have N0 := Fr.nil n0
  have pre0 : ∀ t, Steps p.tables e below (s₁.setTop (mkF m 0 #[vR a0] [])) t → Steps p.tables e below (s₁.setTop (entryFrame m #[(.ref a0)] 1)) t := fun t k => castTop (ef_rm24 m a0) k
  obtain ⟨T1, X1, e1, st1⟩ := getF X0 hx hZ hown (host := "") (Or.inl (w47 hw)) Via.refl e0 F_value_a0 (g := (mkF m 1 #[vR a0] [(.ref a0)])) rfl rfl (hb hby d24_1)
  obtain ⟨fs, hr, hrun, hended, hW, hsame⟩ := X1.leave (v := some (.ref aV)) (fun h => by rw [Bd.returns] at h; cases h)
  refine ⟨_, _, pre0 _ ?_, hrun, hended, _, _, rfl, ?_, ⟨_, rfl⟩, hW, hsame.mono (by decide) (by decide)⟩
  · show SP p e below s₁ (mkF m 0 #[vR a0] []) _
    refine XS.aloadN X0.here hx rfl (hb hby d24_0) rfl rfl ?_
    show SP p e below s₁ (mkF m 1 #[vR a0] [(.ref a0)]) _
    refine st1 _ ?_
    show SP p e below T1 (mkF m 4 #[vR a0] [(.ref aV)]) _
    jvm_step X1.here [X1.here.top, hx, (hb hby d24_4), X1.method', Bd.returns, Value.isRef, FieldType.isReference]
    first | (intro acts; rw [hr _ acts rfl rfl rfl]) | rw [hr _ _ rfl rfl rfl]
    exact Steps.refl _
  · show Q24 Z a0 aV kaV cap fV h0 n0 _ T1.heap _
    rw [e1]
    exact ⟨rfl, N0, rfl⟩
theorem d27_0 : decode jdk_68_method_68_code 0 = .ok (.getstatic 18, 3) := by decide +kernel
theorem d27_3 : decode jdk_68_method_68_code 3 = .ok (.ifCond .eq 14, 3) := by decide +kernel
theorem d27_6 : decode jdk_68_method_68_code 6 = .ok (.aload_n 0, 1) := by decide +kernel
theorem d27_7 : decode jdk_68_method_68_code 7 = .ok (.getfield 22, 3) := by decide +kernel
theorem d27_10 : decode jdk_68_method_68_code 10 = .ok (.ifCond .ne 7, 3) := by decide +kernel
theorem d27_13 : decode jdk_68_method_68_code 13 = .ok (.iconst 1, 1) := by decide +kernel
theorem d27_14 : decode jdk_68_method_68_code 14 = .ok (.goto 4, 3) := by decide +kernel
theorem d27_18 : decode jdk_68_method_68_code 18 = .ok (.ireturn, 1) := by decide +kernel
theorem ef_rm27 (m : MethodId) (a0 : Addr) : entryFrame m #[(.ref a0)] 1 = mkF m 0 #[vR a0] [] := by first | (simp [entryFrame, mkF, argsToLocals, Value.category]; done) | rfl
def Q27 (Z : State) (a0 : Addr) (sC : Int32) (aV : Addr) (h0 : Heap) (n0 : Nat) (v : Option Value) (h : Heap) (L : List Loc) : Prop := v = some (.int (1 : Int32)) ∧ Fr n0 L ∧ h = h0
set_option maxRecDepth 65536 in
set_option maxHeartbeats 40000000 in
theorem rm27 (l : Launch) (Z : State) (az : Array Value) (hw : HW Z az) (ws : List Jvm.Cond) (a0 : Addr) (sC : Int32) (aV : Addr) (h0 : Heap) (n0 : Nat) (Z0 : n0 ≤ h0.size) (S_COMPACT_STRINGS : Sta Z h0 cST "COMPACT_STRINGS" "Z" (.int sC)) (hc1 : ¬ (sC = (0 : Int32))) (E_a0 : Exa Z h0 a0 cSB) (F_value_a0 : Fld Z h0 a0 cAB "value" "[B" (.ref aV)) (F_coder_a0 : Fld Z h0 a0 cAB "coder" "B" (.int (0 : Int32))) :
    MF l Z h0 ws ⟨cAB, "isLatin1", "()Z"⟩ jdk_68_method_68_code 1 (some .boolean) ⟨0, 0, 0, 0⟩ #[(.ref a0)] (Q27 Z a0 sC aV h0 n0) := by
  refine MetFree.of_bodySF (plainFor_of_name pn_java_lang_AbstractStringBuilder) hisR ?_
  intro p e s m args below meth c s₁ Bd hml0 hP hK
  obtain ⟨rfl, hZ, hh⟩ := hP
  have hx := Bd.exec
  have hby := Bd.bytes
  have hml : c.maxLocals = 1 := hml0
  have hown : s.vm.findClass cAB = some m.cls := findClass_of_methodNamed Bd.named
  have hnm := (name_of_methodNamed Bd.named Bd.method).1
  have X0 : Stand p l e (⟨0, 0, 0, 0⟩ : Room) s m #[(.ref a0)] below meth c s₁ [] 0 0 := Stand.of_body Bd
  have e0 : s₁.heap = h0 := by rw [← hh, Bd.state]; rfl
  have N0 := Fr.nil n0
  have pre0 : ∀ t, Steps p.tables e below (s₁.setTop (mkF m 0 #[vR a0] [])) t → Steps p.tables e below (s₁.setTop (entryFrame m #[(.ref a0)] 1)) t := fun t k => castTop (ef_rm27 m a0) k
  obtain ⟨T1, X1, e1, st1⟩ := getS2 X0 hx hZ hown (host := "") (Or.inl (w46 hw)) Via.refl e0 S_COMPACT_STRINGS (g := (mkF m 0 #[vR a0] [])) rfl (hb hby d27_0)
  obtain ⟨T2, X2, e2, st2⟩ := getF X1 hx hZ hown (host := "") (Or.inl (w49 hw)) Via.refl e1 F_coder_a0 (g := (mkF m 7 #[vR a0] [(.ref a0)])) rfl rfl (hb hby d27_7)
  obtain ⟨fs, hr, hrun, hended, hW, hsame⟩ := X2.leave (v := some (.int (1 : Int32))) (fun h => by rw [Bd.returns] at h; cases h)
  refine ⟨_, _, pre0 _ ?_, hrun, hended, _, _, rfl, ?_, ⟨_, rfl⟩, hW, hsame.mono (by decide) (by decide)⟩
  · show SP p e below s₁ (mkF m 0 #[vR a0] []) _
    refine st1 _ ?_
    show SP p e below T1 (mkF m 3 #[vR a0] [(.int sC)]) _
    refine XS.ifNo X1.here hx rfl (hb hby d27_3) rfl ((if0 _ _).trans (feq hc1).1) ?_
    refine XS.aloadN X1.here hx rfl (hb hby d27_6) rfl rfl ?_
    show SP p e below T1 (mkF m 7 #[vR a0] [(.ref a0)]) _
    refine st2 _ ?_
    show SP p e below T2 (mkF m 10 #[vR a0] [(.int (0 : Int32))]) _
    refine XS.ifNo X2.here hx rfl (hb hby d27_10) rfl ((if0 _ _).trans (teq (by decide : (0 : Int32) = (0 : Int32))).2) ?_
    refine XS.iconst X2.here hx rfl (hb hby d27_13) ?_
    refine XS.goto X2.here hx rfl (pc0 := 14) (pc' := 18) rfl (hb hby d27_14) (by decide) (by decide) ?_
    show SP p e below T2 (mkF m 18 #[vR a0] [(.int (1 : Int32))]) _
    exact retN X2 hx (t := .boolean) Bd.returns (by simp) (hb hby d27_18) hr
  · show Q27 Z a0 sC aV h0 n0 _ T2.heap _
    rw [e2]
    exact ⟨rfl, N0, rfl⟩
theorem d26_0 : decode jdk_68_method_6_code 0 = .ok (.aload_n 0, 1) := by decide +kernel
theorem d26_1 : decode jdk_68_method_6_code 1 = .ok (.getfield 79, 3) := by decide +kernel
theorem d26_4 : decode jdk_68_method_6_code 4 = .ok (.ireturn, 1) := by decide +kernel
theorem ef_rm26 (m : MethodId) (a0 : Addr) : entryFrame m #[(.ref a0)] 1 = mkF m 0 #[vR a0] [] := by first | (simp [entryFrame, mkF, argsToLocals, Value.category]; done) | rfl
def Q26 (Z : State) (a0 : Addr) (ct : Int32) (h0 : Heap) (n0 : Nat) (v : Option Value) (h : Heap) (L : List Loc) : Prop := v = some (.int ct) ∧ Fr n0 L ∧ h = h0
set_option maxRecDepth 65536 in
set_option maxHeartbeats 40000000 in
theorem rm26 (l : Launch) (Z : State) (az : Array Value) (hw : HW Z az) (ws : List Jvm.Cond) (a0 : Addr) (ct : Int32) (h0 : Heap) (n0 : Nat) (Z0 : n0 ≤ h0.size) (F_count_a0 : Fld Z h0 a0 cAB "count" "I" (.int ct)) :
    MF l Z h0 ws ⟨cAB, "length", "()I"⟩ jdk_68_method_6_code 1 (some .int) ⟨0, 0, 0, 0⟩ #[(.ref a0)] (Q26 Z a0 ct h0 n0) := by
  refine MetFree.of_bodySF (plainFor_of_name pn_java_lang_AbstractStringBuilder) hisR ?_
  intro p e s m args below meth c s₁ Bd hml0 hP hK
  obtain ⟨rfl, hZ, hh⟩ := hP
  have hx := Bd.exec
  have hby := Bd.bytes
  have hml : c.maxLocals = 1 := hml0
  have hown : s.vm.findClass cAB = some m.cls := findClass_of_methodNamed Bd.named
  have hnm := (name_of_methodNamed Bd.named Bd.method).1
  have X0 : Stand p l e (⟨0, 0, 0, 0⟩ : Room) s m #[(.ref a0)] below meth c s₁ [] 0 0 := Stand.of_body Bd
  have e0 : s₁.heap = h0 := by rw [← hh, Bd.state]; rfl
  have N0 := Fr.nil n0
  have pre0 : ∀ t, Steps p.tables e below (s₁.setTop (mkF m 0 #[vR a0] [])) t → Steps p.tables e below (s₁.setTop (entryFrame m #[(.ref a0)] 1)) t := fun t k => castTop (ef_rm26 m a0) k
  obtain ⟨T1, X1, e1, st1⟩ := getF X0 hx hZ hown (host := "") (Or.inl (w72 hw)) Via.refl e0 F_count_a0 (g := (mkF m 1 #[vR a0] [(.ref a0)])) rfl rfl (hb hby d26_1)
  obtain ⟨fs, hr, hrun, hended, hW, hsame⟩ := X1.leave (v := some (.int ct)) (fun h => by rw [Bd.returns] at h; cases h)
  refine ⟨_, _, pre0 _ ?_, hrun, hended, _, _, rfl, ?_, ⟨_, rfl⟩, hW, hsame.mono (by decide) (by decide)⟩
  · show SP p e below s₁ (mkF m 0 #[vR a0] []) _
    refine XS.aloadN X0.here hx rfl (hb hby d26_0) rfl rfl ?_
    show SP p e below s₁ (mkF m 1 #[vR a0] [(.ref a0)]) _
    refine st1 _ ?_
    show SP p e below T1 (mkF m 4 #[vR a0] [(.int ct)]) _
    exact retI X1 hx Bd.returns (hb hby d26_4) hr
  · show Q26 Z a0 ct h0 n0 _ T1.heap _
    rw [e1]
    exact ⟨rfl, N0, rfl⟩
theorem d25_0 : decode jdk_67_method_93_code 0 = .ok (.aload_n 0, 1) := by decide +kernel
theorem d25_1 : decode jdk_67_method_93_code 1 = .ok (.invokespecial 343, 3) := by decide +kernel
theorem d25_4 : decode jdk_67_method_93_code 4 = .ok (.ireturn, 1) := by decide +kernel
theorem ef_rm25 (m : MethodId) (a0 : Addr) : entryFrame m #[(.ref a0)] 1 = mkF m 0 #[vR a0] [] := by first | (simp [entryFrame, mkF, argsToLocals, Value.category]; done) | rfl
def Q25 (Z : State) (a0 : Addr) (ct : Int32) (h0 : Heap) (n0 : Nat) (v : Option Value) (h : Heap) (L : List Loc) : Prop := v = some (.int ct) ∧ Fr n0 L ∧ h = h0
set_option maxRecDepth 65536 in
set_option maxHeartbeats 40000000 in
theorem rm25 (l : Launch) (Z : State) (az : Array Value) (hw : HW Z az) (ws : List Jvm.Cond) (a0 : Addr) (ct : Int32) (h0 : Heap) (n0 : Nat) (Z0 : n0 ≤ h0.size) (F_count_a0 : Fld Z h0 a0 cAB "count" "I" (.int ct)) (E_a0 : Exa Z h0 a0 cSB) :
    MF l Z h0 ws ⟨cSB, "length", "()I"⟩ jdk_67_method_93_code 1 (some .int) ⟨1, 0, 0, 12⟩ #[(.ref a0)] (Q25 Z a0 ct h0 n0) := by
  refine MetFree.of_bodySF (plainFor_of_name pn_java_lang_StringBuilder) hisR ?_
  intro p e s m args below meth c s₁ Bd hml0 hP hK
  obtain ⟨rfl, hZ, hh⟩ := hP
  have hx := Bd.exec
  have hby := Bd.bytes
  have hml : c.maxLocals = 1 := hml0
  have hown : s.vm.findClass cSB = some m.cls := findClass_of_methodNamed Bd.named
  have hnm := (name_of_methodNamed Bd.named Bd.method).1
  have X0 : Stand p l e (⟨1, 0, 0, 12⟩ : Room) s m #[(.ref a0)] below meth c s₁ [] 0 0 := Stand.of_body Bd
  have e0 : s₁.heap = h0 := by rw [← hh, Bd.state]; rfl
  have N0 := Fr.nil n0
  have pre0 : ∀ t, Steps p.tables e below (s₁.setTop (mkF m 0 #[vR a0] [])) t → Steps p.tables e below (s₁.setTop (entryFrame m #[(.ref a0)] 1)) t := fun t k => castTop (ef_rm25 m a0) k
  obtain ⟨_, _, ⟨T1, L1, k1', n1'⟩, -, X1, ⟨Lc1, hQ1, l1, y1, z1⟩, st1⟩ := superBack X0 hx hZ (y := (⟨cAB, "length", "()I"⟩ : MethodName)) hown (w146 hw) (own_same (y := (⟨cAB, "length", "()I"⟩ : MethodName)) (w77 hw) rfl (w142 hw) (by decide)) (w142 hw) (w58 hw) (by decide) (backOf (W := 0) (rm26 l Z az hw [] a0 ct h0 n0 Z0 F_count_a0) hZ (w147 hw) (w43 hw) (by decide) (by decide)) e0 (Ins.self E_a0) (g := (mkF m 1 #[vR a0] [(.ref a0)])) rfl (by rw [hml]; rfl) (w147 hw) (argsL := []) (rest := []) (lenOf pd_8 rfl) rfl (Nat.le_of_eq rfl) (hb hby d25_1) (fun _ _ => ⟨rfl, e0, (by decide : 0 + 0 ≤ _), (by decide : 0 + 0 ≤ _)⟩)
  dsimp only [Pt.U, Pt.locs, Pt.cells, Pt.slots] at X1 l1 y1 z1 st1 hQ1
  subst l1 y1 z1
  obtain ⟨rfl, N1q, e1⟩ := hQ1
  obtain ⟨Lg1, X1', N1⟩ := own_gen X1 (Fr.app N0 N1q)
  obtain ⟨fs, hr, hrun, hended, hW, hsame⟩ := X1'.leave (v := some (.int ct)) (fun h => by rw [Bd.returns] at h; cases h)
  refine ⟨_, _, pre0 _ ?_, hrun, hended, _, _, rfl, ?_, ⟨_, rfl⟩, hW, hsame.mono (by decide) (by decide)⟩
  · show SP p e below s₁ (mkF m 0 #[vR a0] []) _
    refine XS.aloadN X0.here hx rfl (hb hby d25_0) rfl rfl ?_
    show SP p e below s₁ (mkF m 1 #[vR a0] [(.ref a0)]) _
    refine st1.trans ?_
    show SP p e below T1 (mkF m 4 #[vR a0] [(.int ct)]) _
    exact retI X1' hx Bd.returns (hb hby d25_4) hr
  · show Q25 Z a0 ct h0 n0 _ T1.heap _
    rw [e1]
    exact ⟨rfl, N1, rfl⟩
theorem d48_0 : decode jdk_65_method_131_code 0 = .ok (.iload_n 1, 1) := by decide +kernel
theorem d48_1 : decode jdk_65_method_131_code 1 = .ok (.iload_n 0, 1) := by decide +kernel
theorem d48_2 : decode jdk_65_method_131_code 2 = .ok (.if_icmp .ge 35, 3) := by decide +kernel
theorem d48_37 : decode jdk_65_method_131_code 37 = .ok (.return_, 1) := by decide +kernel
theorem ef_rm48 (m : MethodId) (p0 : Int32) (p1 : Int32) : entryFrame m #[(.int p0), (.int p1)] 2 = mkF m 0 #[vI p0, vI p1] [] := by first | (simp [entryFrame, mkF, argsToLocals, Value.category]; done) | rfl
def Q48 (Z : State) (p0 : Int32) (p1 : Int32) (h0 : Heap) (n0 : Nat) (v : Option Value) (h : Heap) (L : List Loc) : Prop := v = none ∧ Fr n0 L ∧ h = h0
set_option maxRecDepth 65536 in
set_option maxHeartbeats 40000000 in
theorem rm48 (l : Launch) (Z : State) (az : Array Value) (hw : HW Z az) (ws : List Jvm.Cond) (p0 : Int32) (p1 : Int32) (h0 : Heap) (n0 : Nat) (Z0 : n0 ≤ h0.size) (hc0 : ¬ (p1 < p0)) :
    MF l Z h0 ws ⟨"java/util/Arrays", "checkLength", "(II)V"⟩ jdk_65_method_131_code 2 none ⟨0, 0, 0, 0⟩ #[(.int p0), (.int p1)] (Q48 Z p0 p1 h0 n0) := by
  refine MetFree.of_bodySF (plainFor_of_name pn_java_util_Arrays) hisR ?_
  intro p e s m args below meth c s₁ Bd hml0 hP hK
  obtain ⟨rfl, hZ, hh⟩ := hP
  have hx := Bd.exec
  have hby := Bd.bytes
  have hml : c.maxLocals = 2 := hml0
  have hown : s.vm.findClass "java/util/Arrays" = some m.cls := findClass_of_methodNamed Bd.named
  have hnm := (name_of_methodNamed Bd.named Bd.method).1
  have X0 : Stand p l e (⟨0, 0, 0, 0⟩ : Room) s m #[(.int p0), (.int p1)] below meth c s₁ [] 0 0 := Stand.of_body Bd
  have e0 : s₁.heap = h0 := by rw [← hh, Bd.state]; rfl
  have N0 := Fr.nil n0
  have pre0 : ∀ t, Steps p.tables e below (s₁.setTop (mkF m 0 #[vI p0, vI p1] [])) t → Steps p.tables e below (s₁.setTop (entryFrame m #[(.int p0), (.int p1)] 2)) t := fun t k => castTop (ef_rm48 m p0 p1) k
  obtain ⟨fs, hr, hrun, hended, hW, hsame⟩ := X0.leave (v := none) (fun _ => rfl)
  refine ⟨_, _, pre0 _ ?_, hrun, hended, _, _, rfl, ?_, ⟨_, rfl⟩, hW, hsame.mono (by decide) (by decide)⟩
  · show SP p e below s₁ (mkF m 0 #[vI p0, vI p1] []) _
    refine XS.iloadN X0.here hx rfl (hb hby d48_0) rfl ?_
    refine XS.iloadN X0.here hx rfl (hb hby d48_1) rfl ?_
    refine XS.icmpYes X0.here hx rfl (pc0 := 2) (pc' := 37) rfl (hb hby d48_2) rfl (flt hc0).2.1 (by decide) (by decide) ?_
    show SP p e below s₁ (mkF m 37 #[vI p0, vI p1] []) _
    exact X0.returnOut hx Bd.returns (hb hby d48_37) hr
  · show Q48 Z p0 p1 h0 n0 _ s₁.heap _
    rw [e0]
    exact ⟨rfl, N0, rfl⟩
theorem d47_0 : decode jdk_65_method_133_code 0 = .ok (.iload_n 1, 1) := by decide +kernel
theorem d47_1 : decode jdk_65_method_133_code 1 = .ok (.iload_n 2, 1) := by decide +kernel
theorem d47_2 : decode jdk_65_method_133_code 2 = .ok (.invokestatic 343, 3) := by decide +kernel
theorem pd_11 : parseMethodDescriptor "(II)V" = some ⟨[.int, .int], none⟩ := by decide +kernel
theorem d47_5 : decode jdk_65_method_133_code 5 = .ok (.iload_n 2, 1) := by decide +kernel
theorem d47_6 : decode jdk_65_method_133_code 6 = .ok (.iload_n 1, 1) := by decide +kernel
theorem d47_7 : decode jdk_65_method_133_code 7 = .ok (.isub, 1) := by decide +kernel
theorem d47_8 : decode jdk_65_method_133_code 8 = .ok (.istore_n 3, 1) := by decide +kernel
theorem d47_9 : decode jdk_65_method_133_code 9 = .ok (.iload_n 3, 1) := by decide +kernel
theorem d47_10 : decode jdk_65_method_133_code 10 = .ok (.newarray .byte, 2) := by decide +kernel
theorem d47_12 : decode jdk_65_method_133_code 12 = .ok (.astore 4, 2) := by decide +kernel
theorem d47_14 : decode jdk_65_method_133_code 14 = .ok (.aload_n 0, 1) := by decide +kernel
theorem d47_15 : decode jdk_65_method_133_code 15 = .ok (.iload_n 1, 1) := by decide +kernel
theorem d47_16 : decode jdk_65_method_133_code 16 = .ok (.aload 4, 2) := by decide +kernel
theorem d47_18 : decode jdk_65_method_133_code 18 = .ok (.iconst 0, 1) := by decide +kernel
theorem d47_19 : decode jdk_65_method_133_code 19 = .ok (.aload_n 0, 1) := by decide +kernel
theorem d47_20 : decode jdk_65_method_133_code 20 = .ok (.arraylength, 1) := by decide +kernel
theorem d47_21 : decode jdk_65_method_133_code 21 = .ok (.iload_n 1, 1) := by decide +kernel
theorem d47_22 : decode jdk_65_method_133_code 22 = .ok (.isub, 1) := by decide +kernel
theorem d47_23 : decode jdk_65_method_133_code 23 = .ok (.iload_n 3, 1) := by decide +kernel
theorem d47_24 : decode jdk_65_method_133_code 24 = .ok (.invokestatic 304, 3) := by decide +kernel
theorem d47_27 : decode jdk_65_method_133_code 27 = .ok (.invokestatic 150, 3) := by decide +kernel
theorem d47_30 : decode jdk_65_method_133_code 30 = .ok (.aload 4, 2) := by decide +kernel
theorem d47_32 : decode jdk_65_method_133_code 32 = .ok (.areturn, 1) := by decide +kernel
theorem ef_rm47 (m : MethodId) (a0 : Addr) (p2 : Int32) : entryFrame m #[(.ref a0), (.int (0 : Int32)), (.int p2)] 5 = mkF m 0 #[vR a0, vI (0 : Int32), vI p2, .unset, .unset] [] := by first | (simp [entryFrame, mkF, argsToLocals, Value.category]; done) | rfl
def Q47 (Z : State) (a0 : Addr) (p2 : Int32) (k0 : ClassId) (cap : Int32) (fV : Nat → Value) (h0 : Heap) (n0 : Nat) (v : Option Value) (h : Heap) (L : List Loc) : Prop := ∃ r0 : Addr, ∃ rk0 : ClassId, v = some (.ref r0) ∧ Fr n0 L ∧ h0.size ≤ r0 ∧ Keep h0 h [] ∧ Exa Z h r0 "[B" ∧ own_Arf Z h r0 rk0 .byte (p2 - (0 : Int32)) (own_cpf fV ((0 : Int32)).toNatClampNeg (fun _ => (.int (0 : Int32))) ((0 : Int32)).toNatClampNeg ((p2 - (0 : Int32))).toNatClampNeg)
set_option maxRecDepth 65536 in
set_option maxHeartbeats 40000000 in
theorem rm47 (l : Launch) (Z : State) (az : Array Value) (hw : HW Z az) (ws : List Jvm.Cond) (a0 : Addr) (p2 : Int32) (k0 : ClassId) (cap : Int32) (fV : Nat → Value) (h0 : Heap) (n0 : Nat) (Z0 : n0 ≤ h0.size) (V_a0 : own_Arf Z h0 a0 k0 .byte cap fV) (E_a0 : Exa Z h0 a0 "[B") (hc2 : ¬ (p2 < (0 : Int32))) (hc3 : ¬ ((p2 - (0 : Int32)) < (0 : Int32))) (hc4 : ((p2 - (0 : Int32))).toNatClampNeg ≤ 80) (hc5 : (p2 - (0 : Int32)) < (cap - (0 : Int32))) (hc6 : ((0 : Int32)).toNatClampNeg + ((p2 - (0 : Int32))).toNatClampNeg ≤ (cap).toNatClampNeg) (hc7 : ((0 : Int32)).toNatClampNeg + ((p2 - (0 : Int32))).toNatClampNeg ≤ ((p2 - (0 : Int32))).toNatClampNeg) :
    MF l Z h0 ws ⟨"java/util/Arrays", "copyOfRangeByte", "([BII)[B"⟩ jdk_65_method_133_code 5 (some (.array .byte)) ⟨1, 1, 80, 24⟩ #[(.ref a0), (.int (0 : Int32)), (.int p2)] (Q47 Z a0 p2 k0 cap fV h0 n0) := by
  refine MetFree.of_bodySF (plainFor_of_name pn_java_util_Arrays) hisR ?_
  intro p e s m args below meth c s₁ Bd hml0 hP hK
  obtain ⟨rfl, hZ, hh⟩ := hP
  have hx := Bd.exec
  have hby := Bd.bytes
  have hml : c.maxLocals = 5 := hml0
  have hown : s.vm.findClass "java/util/Arrays" = some m.cls := findClass_of_methodNamed Bd.named
  have hnm := (name_of_methodNamed Bd.named Bd.method).1
  have X0 : Stand p l e (⟨1, 1, 80, 24⟩ : Room) s m #[(.ref a0), (.int (0 : Int32)), (.int p2)] below meth c s₁ [] 0 0 := Stand.of_body Bd
  have e0 : s₁.heap = h0 := by rw [← hh, Bd.state]; rfl
  have N0 := Fr.nil n0
  have pre0 : ∀ t, Steps p.tables e below (s₁.setTop (mkF m 0 #[vR a0, vI (0 : Int32), vI p2, .unset, .unset] [])) t → Steps p.tables e below (s₁.setTop (entryFrame m #[(.ref a0), (.int (0 : Int32)), (.int p2)] 5)) t := fun t k => castTop (ef_rm47 m a0 p2) k
  obtain ⟨_, _, ⟨T1, L1, k1', n1'⟩, -, X1, ⟨Lc1, hQ1, l1, y1, z1⟩, st1⟩ := Jvm.LawKit.callS X0 hx (y := (⟨"java/util/Arrays", "checkLength", "(II)V"⟩ : MethodName)) hown (mvT hZ (w277 hw)) (mvT hZ (w278 hw)) (mvT hZ (w117 hw)) (mvT hZ (w279 hw)) (by decide) (backOf (W := 0) (rm48 l Z az hw [] (0 : Int32) p2 h0 n0 Z0 hc2) hZ (w279 hw) (w117 hw) (by decide) (by decide)) (g := (mkF m 2 #[vR a0, vI (0 : Int32), vI p2, .unset, .unset] [(.int p2), (.int (0 : Int32))])) rfl (by rw [hml]; rfl) (argsL := [(.int (0 : Int32)), (.int p2)]) (rest := []) (lenOf pd_11 rfl) rfl (Nat.le_of_eq rfl) (hb hby d47_2) (fun _ _ => ⟨rfl, e0, (by decide : 0 + 0 ≤ _), (by decide : 0 + 0 ≤ _)⟩)
  dsimp only [Pt.U, Pt.locs, Pt.cells, Pt.slots] at X1 l1 y1 z1 st1 hQ1
  subst l1 y1 z1
  obtain ⟨rfl, N1q, e1⟩ := hQ1
  obtain ⟨Lg1, X1', N1⟩ := own_gen X1 (Fr.app N0 N1q)
  obtain ⟨T2, h2, k2, X2, e2, E2, A2, x2, st2⟩ := newPE X1' hx hZ (aty := .byte) (w19 hw) e1 (g := (mkF m 10 #[vR a0, vI (0 : Int32), vI p2, vI (p2 - (0 : Int32)), .unset] [(.int (p2 - (0 : Int32)))])) rfl (hb hby d47_10) rfl hc3 (cap := 80) hc4 (by decide) (by decide) (by decide) (ad := "[B") (by decide)
  obtain ⟨b2, g2⟩ : ∃ z, z = h0.size := ⟨_, rfl⟩
  rw [← g2] at A2 x2 st2
  have g_b2 : n0 ≤ b2 := Nat.le_trans Z0 (Nat.le_of_eq g2.symm)
  have sz_b2 : h0.size ≤ b2 := Nat.le_trans (Nat.le_refl _) (Nat.le_of_eq g2.symm)
  have Z2 : n0 ≤ h2.size := Nat.le_trans Z0 E2.1
  have K2 : Keep h0 h2 [] := (Keep.refl h0 []).ext E2
  have E_b2 := x2
  have V_b2 : Arv Z h2 b2 k2 .byte (p2 - (0 : Int32)) [] (.int (0 : Int32)) := Arv.new A2 hc3
  have A_b2 : own_Arf Z h2 b2 k2 .byte (p2 - (0 : Int32)) (fun _ => (.int (0 : Int32))) := own_Arf.new A2 hc3
  have V_a0_u3 : own_Arf Z h2 a0 k0 .byte cap fV := (V_a0.ext E2)
  obtain ⟨cl4, Ar4, qk4, Sz4, Ng4, Hs4, Gf4⟩ := id V_a0_u3
  obtain ⟨_, _, ⟨T5, L5, k5', n5'⟩, -, X5, ⟨Lc5, hQ5, l5, y5, z5⟩, st5⟩ := Jvm.LawKit.callS X2 hx (y := (⟨"java/lang/Math", "min", "(II)I"⟩ : MethodName)) hown (mvT hZ (w119 hw)) (mvT hZ (w120 hw)) (mvT hZ (w111 hw)) (mvT hZ (w121 hw)) (by decide) (backOf (W := 4) (rm20b l Z az hw [] (cap - (0 : Int32)) (p2 - (0 : Int32)) h2 n0 Z2 hc5) hZ (w121 hw) (w111 hw) (by decide) (by decide)) (g := (mkF m 24 #[vR a0, vI (0 : Int32), vI p2, vI (p2 - (0 : Int32)), vR b2] [(.int (p2 - (0 : Int32))), (.int (cap - (0 : Int32))), (.int (0 : Int32)), (.ref b2), (.int (0 : Int32)), (.ref a0)])) rfl (by rw [hml]; rfl) (argsL := [(.int (cap - (0 : Int32))), (.int (p2 - (0 : Int32)))]) (rest := [(.int (0 : Int32)), (.ref b2), (.int (0 : Int32)), (.ref a0)]) (lenOf pd_4 rfl) rfl (Nat.le_of_eq rfl) (hb hby d47_24) (fun _ _ => ⟨rfl, e2, (by decide : 1 + 0 ≤ _), (by decide : 80 + 0 ≤ _)⟩)
  dsimp only [Pt.U, Pt.locs, Pt.cells, Pt.slots] at X5 l5 y5 z5 st5 hQ5
  subst l5 y5 z5
  obtain ⟨rfl, N5q, e5⟩ := hQ5
  obtain ⟨Lg5, X5', N5⟩ := own_gen X5 (Fr.app N1 N5q)
  obtain ⟨T6, h6, L6, X6, e6, N6, kq6, A6, st6⟩ := own_cpA X5' hx hZ hown (w122 hw) (w98 hw) (w96 hw) (w97 hw) e5 (sp := (0 : Int32)) (dp := (0 : Int32)) (nn := (p2 - (0 : Int32))) (f := fV) (f' := (fun _ => (.int (0 : Int32)))) V_a0_u3 A_b2 rfl (by decide) (by decide) hc3 hc6 hc7 N5 g_b2 (g := (mkF m 27 #[vR a0, vI (0 : Int32), vI p2, vI (p2 - (0 : Int32)), vR b2] [(.int (p2 - (0 : Int32))), (.int (0 : Int32)), (.ref b2), (.int (0 : Int32)), (.ref a0)])) rfl (by rw [hml]; rfl) rfl (hb hby d47_27) (by decide) (W := 0) (Nat.le_of_eq rfl) (by decide)
  have K6 : Keep h0 h6 [] := K2.trans kq6 (allS (Or.inr sz_b2) all0)
  have Z6 : n0 ≤ h6.size := Nat.le_trans Z2 kq6.1
  have V_b2_6 : own_Arf Z h6 b2 k2 .byte (p2 - (0 : Int32)) (own_cpf fV ((0 : Int32)).toNatClampNeg (fun _ => (.int (0 : Int32))) ((0 : Int32)).toNatClampNeg ((p2 - (0 : Int32))).toNatClampNeg) := A6
  have E_b2_u7 : Exa Z h6 b2 "[B" := (E_b2.keep kq6)
  obtain ⟨fs, hr, hrun, hended, hW, hsame⟩ := X6.leave (v := some (.ref b2)) (fun h => by rw [Bd.returns] at h; cases h)
  refine ⟨_, _, pre0 _ ?_, hrun, hended, _, _, rfl, ?_, ⟨_, rfl⟩, hW, hsame.mono (by decide) (by decide)⟩
  · show SP p e below s₁ (mkF m 0 #[vR a0, vI (0 : Int32), vI p2, .unset, .unset] []) _
    refine XS.iloadN X0.here hx rfl (hb hby d47_0) rfl ?_
    refine XS.iloadN X0.here hx rfl (hb hby d47_1) rfl ?_
    show SP p e below s₁ (mkF m 2 #[vR a0, vI (0 : Int32), vI p2, .unset, .unset] [(.int p2), (.int (0 : Int32))]) _
    refine st1 _ ?_
    show SP p e below T1 (mkF m 5 #[vR a0, vI (0 : Int32), vI p2, .unset, .unset] []) _
    refine XS.iloadN X1'.here hx rfl (hb hby d47_5) rfl ?_
    refine XS.iloadN X1'.here hx rfl (hb hby d47_6) rfl ?_
    refine XS.isub X1'.here hx rfl (hb hby d47_7) rfl ?_
    refine XS.istoreN X1'.here hx rfl (hb hby d47_8) rfl (l' := #[vR a0, vI (0 : Int32), vI p2, vI (p2 - (0 : Int32)), .unset]) rfl ?_
    refine XS.iloadN X1'.here hx rfl (hb hby d47_9) rfl ?_
    show SP p e below T1 (mkF m 10 #[vR a0, vI (0 : Int32), vI p2, vI (p2 - (0 : Int32)), .unset] [(.int (p2 - (0 : Int32)))]) _
    refine st2 _ ?_
    show SP p e below T2 (mkF m 12 #[vR a0, vI (0 : Int32), vI p2, vI (p2 - (0 : Int32)), .unset] [(.ref b2)]) _
    refine XS.astore X2.here hx rfl (hb hby d47_12) rfl rfl (l' := #[vR a0, vI (0 : Int32), vI p2, vI (p2 - (0 : Int32)), vR b2]) rfl ?_
    refine XS.aloadN X2.here hx rfl (hb hby d47_14) rfl rfl ?_
    refine XS.iloadN X2.here hx rfl (hb hby d47_15) rfl ?_
    refine XS.aload X2.here hx rfl (hb hby d47_16) rfl rfl ?_
    refine XS.iconst X2.here hx rfl (hb hby d47_18) ?_
    refine XS.aloadN X2.here hx rfl (hb hby d47_19) rfl rfl ?_
    show SP p e below T2 (mkF m 20 #[vR a0, vI (0 : Int32), vI p2, vI (p2 - (0 : Int32)), vR b2] [(.ref a0), (.int (0 : Int32)), (.ref b2), (.int (0 : Int32)), (.ref a0)]) _
    refine X2.arraylength hx (by rw [e2]; exact Ar4.1) (State.isArrayOf_alike hZ.alike Ar4.2.1) (g := (mkF m 20 #[vR a0, vI (0 : Int32), vI p2, vI (p2 - (0 : Int32)), vR b2] [(.ref a0), (.int (0 : Int32)), (.ref b2), (.int (0 : Int32)), (.ref a0)])) rfl rfl (hb hby d47_20) _ ?_
    rw [len_of Sz4 Ng4]
    show SP p e below T2 (mkF m 21 #[vR a0, vI (0 : Int32), vI p2, vI (p2 - (0 : Int32)), vR b2] [(.int cap), (.int (0 : Int32)), (.ref b2), (.int (0 : Int32)), (.ref a0)]) _
    refine XS.iloadN X2.here hx rfl (hb hby d47_21) rfl ?_
    refine XS.isub X2.here hx rfl (hb hby d47_22) rfl ?_
    refine XS.iloadN X2.here hx rfl (hb hby d47_23) rfl ?_
    show SP p e below T2 (mkF m 24 #[vR a0, vI (0 : Int32), vI p2, vI (p2 - (0 : Int32)), vR b2] [(.int (p2 - (0 : Int32))), (.int (cap - (0 : Int32))), (.int (0 : Int32)), (.ref b2), (.int (0 : Int32)), (.ref a0)]) _
    refine st5 _ ?_
    show SP p e below T5 (mkF m 27 #[vR a0, vI (0 : Int32), vI p2, vI (p2 - (0 : Int32)), vR b2] [(.int (p2 - (0 : Int32))), (.int (0 : Int32)), (.ref b2), (.int (0 : Int32)), (.ref a0)]) _
    refine st6 _ ?_
    show SP p e below T6 (mkF m 30 #[vR a0, vI (0 : Int32), vI p2, vI (p2 - (0 : Int32)), vR b2] []) _
    refine XS.aload X6.here hx rfl (hb hby d47_30) rfl rfl ?_
    show SP p e below T6 (mkF m 32 #[vR a0, vI (0 : Int32), vI p2, vI (p2 - (0 : Int32)), vR b2] [(.ref b2)]) _
    jvm_step X6.here [X6.here.top, hx, (hb hby d47_32), X6.method', Bd.returns, Value.isRef, FieldType.isReference]
    first | (intro acts; rw [hr _ acts rfl rfl rfl]) | rw [hr _ _ rfl rfl rfl]
    exact Steps.refl _
  · show Q47 Z a0 p2 k0 cap fV h0 n0 _ T6.heap _
    rw [e6]
    exact ⟨b2, k2, rfl, N6, sz_b2, K6, E_b2_u7, V_b2_6⟩
theorem d28_0 : decode jdk_65_method_132_code 0 = .ok (.iload_n 1, 1) := by decide +kernel
theorem d28_1 : decode jdk_65_method_132_code 1 = .ok (.ifCond .ne 9, 3) := by decide +kernel
theorem d28_4 : decode jdk_65_method_132_code 4 = .ok (.iload_n 2, 1) := by decide +kernel
theorem d28_5 : decode jdk_65_method_132_code 5 = .ok (.aload_n 0, 1) := by decide +kernel
theorem d28_6 : decode jdk_65_method_132_code 6 = .ok (.arraylength, 1) := by decide +kernel
theorem d28_7 : decode jdk_65_method_132_code 7 = .ok (.if_icmp .eq 10, 3) := by decide +kernel
theorem d28_10 : decode jdk_65_method_132_code 10 = .ok (.aload_n 0, 1) := by decide +kernel
theorem d28_11 : decode jdk_65_method_132_code 11 = .ok (.iload_n 1, 1) := by decide +kernel
theorem d28_12 : decode jdk_65_method_132_code 12 = .ok (.iload_n 2, 1) := by decide +kernel
theorem d28_13 : decode jdk_65_method_132_code 13 = .ok (.invokestatic 339, 3) := by decide +kernel
theorem pd_12 : parseMethodDescriptor "([BII)[B" = some ⟨[(.array .byte), .int, .int], some (.array .byte)⟩ := by decide +kernel
theorem d28_16 : decode jdk_65_method_132_code 16 = .ok (.areturn, 1) := by decide +kernel
theorem ef_rm28r (m : MethodId) (a0 : Addr) (p2 : Int32) : entryFrame m #[(.ref a0), (.int (0 : Int32)), (.int p2)] 3 = mkF m 0 #[vR a0, vI (0 : Int32), vI p2] [] := by first | (simp [entryFrame, mkF, argsToLocals, Value.category]; done) | rfl
def Q28r (Z : State) (a0 : Addr) (p2 : Int32) (k0 : ClassId) (cap : Int32) (fV : Nat → Value) (h0 : Heap) (n0 : Nat) (v : Option Value) (h : Heap) (L : List Loc) : Prop := ∃ r0 : Addr, ∃ rk0 : ClassId, v = some (.ref r0) ∧ Fr n0 L ∧ h0.size ≤ r0 ∧ Keep h0 h [] ∧ Exa Z h r0 "[B" ∧ own_Arf Z h r0 rk0 .byte (p2 - (0 : Int32)) (own_cpf fV ((0 : Int32)).toNatClampNeg (fun _ => (.int (0 : Int32))) ((0 : Int32)).toNatClampNeg ((p2 - (0 : Int32))).toNatClampNeg)
set_option maxRecDepth 65536 in
set_option maxHeartbeats 40000000 in
theorem rm28r (l : Launch) (Z : State) (az : Array Value) (hw : HW Z az) (ws : List Jvm.Cond) (a0 : Addr) (p2 : Int32) (k0 : ClassId) (cap : Int32) (fV : Nat → Value) (h0 : Heap) (n0 : Nat) (Z0 : n0 ≤ h0.size) (V_a0 : own_Arf Z h0 a0 k0 .byte cap fV) (E_a0 : Exa Z h0 a0 "[B") (hc2 : ¬ (p2 = cap)) (hc3 : ¬ (p2 < (0 : Int32))) (hc4 : ¬ ((p2 - (0 : Int32)) < (0 : Int32))) (hc5 : ((p2 - (0 : Int32))).toNatClampNeg ≤ 80) (hc6 : (p2 - (0 : Int32)) < (cap - (0 : Int32))) (hc7 : ((0 : Int32)).toNatClampNeg + ((p2 - (0 : Int32))).toNatClampNeg ≤ (cap).toNatClampNeg) (hc8 : ((0 : Int32)).toNatClampNeg + ((p2 - (0 : Int32))).toNatClampNeg ≤ ((p2 - (0 : Int32))).toNatClampNeg) :
    MF l Z h0 ws ⟨"java/util/Arrays", "copyOfRange", "([BII)[B"⟩ jdk_65_method_132_code 3 (some (.array .byte)) ⟨2, 1, 80, 40⟩ #[(.ref a0), (.int (0 : Int32)), (.int p2)] (Q28r Z a0 p2 k0 cap fV h0 n0) := by
  refine MetFree.of_bodySF (plainFor_of_name pn_java_util_Arrays) hisR ?_
  intro p e s m args below meth c s₁ Bd hml0 hP hK
  obtain ⟨rfl, hZ, hh⟩ := hP
  have hx := Bd.exec
  have hby := Bd.bytes
  have hml : c.maxLocals = 3 := hml0
  have hown : s.vm.findClass "java/util/Arrays" = some m.cls := findClass_of_methodNamed Bd.named
  have hnm := (name_of_methodNamed Bd.named Bd.method).1
  have X0 : Stand p l e (⟨2, 1, 80, 40⟩ : Room) s m #[(.ref a0), (.int (0 : Int32)), (.int p2)] below meth c s₁ [] 0 0 := Stand.of_body Bd
  have e0 : s₁.heap = h0 := by rw [← hh, Bd.state]; rfl
  have N0 := Fr.nil n0
  have pre0 : ∀ t, Steps p.tables e below (s₁.setTop (mkF m 0 #[vR a0, vI (0 : Int32), vI p2] [])) t → Steps p.tables e below (s₁.setTop (entryFrame m #[(.ref a0), (.int (0 : Int32)), (.int p2)] 3)) t := fun t k => castTop (ef_rm28r m a0 p2) k
  obtain ⟨cl1, Ar1, qk1, Sz1, Ng1, Hs1, Gf1⟩ := id V_a0
  obtain ⟨_, _, ⟨T2, L2, k2', n2'⟩, -, X2, ⟨Lc2, hQ2, l2, y2, z2⟩, st2⟩ := Jvm.LawKit.callS X0 hx (y := (⟨"java/util/Arrays", "copyOfRangeByte", "([BII)[B"⟩ : MethodName)) hown (mvT hZ (w274 hw)) (mvT hZ (w275 hw)) (mvT hZ (w117 hw)) (mvT hZ (w276 hw)) (by decide) (backOf (W := 0) (rm47 l Z az hw [] a0 p2 k0 cap fV h0 n0 Z0 V_a0 E_a0 hc3 hc4 hc5 hc6 hc7 hc8) hZ (w276 hw) (w117 hw) (by decide) (by decide)) (g := (mkF m 13 #[vR a0, vI (0 : Int32), vI p2] [(.int p2), (.int (0 : Int32)), (.ref a0)])) rfl (by rw [hml]; rfl) (argsL := [(.ref a0), (.int (0 : Int32)), (.int p2)]) (rest := []) (lenOf pd_12 rfl) rfl (Nat.le_of_eq rfl) (hb hby d28_13) (fun _ _ => ⟨rfl, e0, (by decide : 0 + 1 ≤ _), (by decide : 0 + 80 ≤ _)⟩)
  dsimp only [Pt.U, Pt.locs, Pt.cells, Pt.slots] at X2 l2 y2 z2 st2 hQ2
  subst l2 y2 z2
  obtain ⟨b2_0, kk2_0, rfl, N2q, s2_0, kq2, pf2_0, pf2_1⟩ := hQ2
  obtain ⟨Lg2, X2', N2⟩ := own_gen X2 (Fr.app N0 N2q)
  have g_b2_0 : n0 ≤ b2_0 := Nat.le_trans Z0 s2_0
  have sz_b2_0 : h0.size ≤ b2_0 := Nat.le_trans (Nat.le_refl _) s2_0
  have K2 : Keep h0 T2.heap [] := (Keep.refl h0 []).trans kq2 all0
  have Z2 : n0 ≤ T2.heap.size := Nat.le_trans Z0 kq2.1
  obtain ⟨fs, hr, hrun, hended, hW, hsame⟩ := X2'.leave (v := some (.ref b2_0)) (fun h => by rw [Bd.returns] at h; cases h)
  refine ⟨_, _, pre0 _ ?_, hrun, hended, _, _, rfl, ?_, ⟨_, rfl⟩, hW, hsame.mono (by decide) (by decide)⟩
  · show SP p e below s₁ (mkF m 0 #[vR a0, vI (0 : Int32), vI p2] []) _
    refine XS.iloadN X0.here hx rfl (hb hby d28_0) rfl ?_
    refine XS.ifNo X0.here hx rfl (hb hby d28_1) rfl ((if0 _ _).trans (teq (by decide : (0 : Int32) = (0 : Int32))).2) ?_
    refine XS.iloadN X0.here hx rfl (hb hby d28_4) rfl ?_
    refine XS.aloadN X0.here hx rfl (hb hby d28_5) rfl rfl ?_
    show SP p e below s₁ (mkF m 6 #[vR a0, vI (0 : Int32), vI p2] [(.ref a0), (.int p2)]) _
    refine X0.arraylength hx (by rw [e0]; exact Ar1.1) (State.isArrayOf_alike hZ.alike Ar1.2.1) (g := (mkF m 6 #[vR a0, vI (0 : Int32), vI p2] [(.ref a0), (.int p2)])) rfl rfl (hb hby d28_6) _ ?_
    rw [len_of Sz1 Ng1]
    show SP p e below s₁ (mkF m 7 #[vR a0, vI (0 : Int32), vI p2] [(.int cap), (.int p2)]) _
    refine XS.icmpNo X0.here hx rfl (hb hby d28_7) rfl (feq hc2).1 ?_
    refine XS.aloadN X0.here hx rfl (hb hby d28_10) rfl rfl ?_
    refine XS.iloadN X0.here hx rfl (hb hby d28_11) rfl ?_
    refine XS.iloadN X0.here hx rfl (hb hby d28_12) rfl ?_
    show SP p e below s₁ (mkF m 13 #[vR a0, vI (0 : Int32), vI p2] [(.int p2), (.int (0 : Int32)), (.ref a0)]) _
    refine st2 _ ?_
    show SP p e below T2 (mkF m 16 #[vR a0, vI (0 : Int32), vI p2] [(.ref b2_0)]) _
    jvm_step X2'.here [X2'.here.top, hx, (hb hby d28_16), X2'.method', Bd.returns, Value.isRef, FieldType.isReference]
    first | (intro acts; rw [hr _ acts rfl rfl rfl]) | rw [hr _ _ rfl rfl rfl]
    exact Steps.refl _
  · show Q28r Z a0 p2 k0 cap fV h0 n0 _ T2.heap _
    exact ⟨b2_0, kk2_0, rfl, N2, sz_b2_0, K2, pf2_0, pf2_1⟩
theorem d28_17 : decode jdk_65_method_132_code 17 = .ok (.aload_n 0, 1) := by decide +kernel
theorem d28_18 : decode jdk_65_method_132_code 18 = .ok (.invokevirtual 310, 3) := by decide +kernel
theorem d28_21 : decode jdk_65_method_132_code 21 = .ok (.checkcast 311, 3) := by decide +kernel
theorem d28_24 : decode jdk_65_method_132_code 24 = .ok (.areturn, 1) := by decide +kernel
theorem ef_rm28c (m : MethodId) (a0 : Addr) (p2 : Int32) : entryFrame m #[(.ref a0), (.int (0 : Int32)), (.int p2)] 3 = mkF m 0 #[vR a0, vI (0 : Int32), vI p2] [] := by first | (simp [entryFrame, mkF, argsToLocals, Value.category]; done) | rfl
def Q28c (Z : State) (a0 : Addr) (p2 : Int32) (k0 : ClassId) (cap : Int32) (fV : Nat → Value) (h0 : Heap) (n0 : Nat) (v : Option Value) (h : Heap) (L : List Loc) : Prop := ∃ r0 : Addr, v = some (.ref r0) ∧ Fr n0 L ∧ h0.size ≤ r0 ∧ Keep h0 h [] ∧ Exa Z h r0 "[B" ∧ own_Arf Z h r0 k0 .byte cap fV
set_option maxRecDepth 65536 in
set_option maxHeartbeats 40000000 in
theorem rm28c (l : Launch) (Z : State) (az : Array Value) (hw : HW Z az) (ws : List Jvm.Cond) (a0 : Addr) (p2 : Int32) (k0 : ClassId) (cap : Int32) (fV : Nat → Value) (h0 : Heap) (n0 : Nat) (Z0 : n0 ≤ h0.size) (V_a0 : own_Arf Z h0 a0 k0 .byte cap fV) (E_a0 : Exa Z h0 a0 "[B") (hc2 : p2 = cap) (hc3 : (cap).toNatClampNeg ≤ 80) :
    MF l Z h0 ws ⟨"java/util/Arrays", "copyOfRange", "([BII)[B"⟩ jdk_65_method_132_code 3 (some (.array .byte)) ⟨1, 1, 80, 14⟩ #[(.ref a0), (.int (0 : Int32)), (.int p2)] (Q28c Z a0 p2 k0 cap fV h0 n0) := by
  refine MetFree.of_bodySF (plainFor_of_name pn_java_util_Arrays) hisR ?_
  intro p e s m args below meth c s₁ Bd hml0 hP hK
  obtain ⟨rfl, hZ, hh⟩ := hP
  have hx := Bd.exec
  have hby := Bd.bytes
  have hml : c.maxLocals = 3 := hml0
  have hown : s.vm.findClass "java/util/Arrays" = some m.cls := findClass_of_methodNamed Bd.named
  have hnm := (name_of_methodNamed Bd.named Bd.method).1
  have X0 : Stand p l e (⟨1, 1, 80, 14⟩ : Room) s m #[(.ref a0), (.int (0 : Int32)), (.int p2)] below meth c s₁ [] 0 0 := Stand.of_body Bd
  have e0 : s₁.heap = h0 := by rw [← hh, Bd.state]; rfl
  have N0 := Fr.nil n0
  have pre0 : ∀ t, Steps p.tables e below (s₁.setTop (mkF m 0 #[vR a0, vI (0 : Int32), vI p2] [])) t → Steps p.tables e below (s₁.setTop (entryFrame m #[(.ref a0), (.int (0 : Int32)), (.int p2)] 3)) t := fun t k => castTop (ef_rm28c m a0 p2) k
  obtain ⟨cl1, Ar1, qk1, Sz1, Ng1, Hs1, Gf1⟩ := id V_a0
  obtain ⟨T2, h2, X2, e2, E2, A2, x2, st2⟩ := cloneH X0 hx hZ hown (w156 hw) (w157 hw) (w161 hw) (w159 hw) (w160 hw) (w162 hw) e0 (Arv.arh (own_Arf.toV V_a0)) E_a0 (g := (mkF m 18 #[vR a0, vI (0 : Int32), vI p2] [(.ref a0)])) rfl (by rw [hml]; rfl) rfl (hb hby d28_18) (by decide) (W := 0) (cap := 80) (Nat.le_of_eq rfl) (by decide) hc3 (by decide) (by decide)
  obtain ⟨b2, g2⟩ : ∃ z, z = h0.size := ⟨_, rfl⟩
  rw [← g2] at A2 x2 st2
  have g_b2 : n0 ≤ b2 := Nat.le_trans Z0 (Nat.le_of_eq g2.symm)
  have sz_b2 : h0.size ≤ b2 := Nat.le_trans (Nat.le_refl _) (Nat.le_of_eq g2.symm)
  have Z2 : n0 ≤ h2.size := Nat.le_trans Z0 E2.1
  have K2 : Keep h0 h2 [] := (Keep.refl h0 []).ext E2
  have E_b2 := x2
  have V_b2 : own_Arf Z h2 b2 k0 .byte cap fV := own_Arf.cl A2
  obtain ⟨T3, X3, e3, st3⟩ := castY X2 hx hZ hown (w163 hw) e2 (Ins.self E_b2) (g := (mkF m 21 #[vR a0, vI (0 : Int32), vI p2] [(.ref b2)])) rfl rfl (hb hby d28_21)
  obtain ⟨fs, hr, hrun, hended, hW, hsame⟩ := X3.leave (v := some (.ref b2)) (fun h => by rw [Bd.returns] at h; cases h)
  refine ⟨_, _, pre0 _ ?_, hrun, hended, _, _, rfl, ?_, ⟨_, rfl⟩, hW, hsame.mono (by decide) (by decide)⟩
  · show SP p e below s₁ (mkF m 0 #[vR a0, vI (0 : Int32), vI p2] []) _
    refine XS.iloadN X0.here hx rfl (hb hby d28_0) rfl ?_
    refine XS.ifNo X0.here hx rfl (hb hby d28_1) rfl ((if0 _ _).trans (teq (by decide : (0 : Int32) = (0 : Int32))).2) ?_
    refine XS.iloadN X0.here hx rfl (hb hby d28_4) rfl ?_
    refine XS.aloadN X0.here hx rfl (hb hby d28_5) rfl rfl ?_
    show SP p e below s₁ (mkF m 6 #[vR a0, vI (0 : Int32), vI p2] [(.ref a0), (.int p2)]) _
    refine X0.arraylength hx (by rw [e0]; exact Ar1.1) (State.isArrayOf_alike hZ.alike Ar1.2.1) (g := (mkF m 6 #[vR a0, vI (0 : Int32), vI p2] [(.ref a0), (.int p2)])) rfl rfl (hb hby d28_6) _ ?_
    rw [len_of Sz1 Ng1]
    show SP p e below s₁ (mkF m 7 #[vR a0, vI (0 : Int32), vI p2] [(.int cap), (.int p2)]) _
    refine XS.icmpYes X0.here hx rfl (pc0 := 7) (pc' := 17) rfl (hb hby d28_7) rfl (teq hc2).1 (by decide) (by decide) ?_
    refine XS.aloadN X0.here hx rfl (hb hby d28_17) rfl rfl ?_
    show SP p e below s₁ (mkF m 18 #[vR a0, vI (0 : Int32), vI p2] [(.ref a0)]) _
    refine st2 _ ?_
    show SP p e below T2 (mkF m 21 #[vR a0, vI (0 : Int32), vI p2] [(.ref b2)]) _
    refine st3 _ ?_
    show SP p e below T3 (mkF m 24 #[vR a0, vI (0 : Int32), vI p2] [(.ref b2)]) _
    jvm_step X3.here [X3.here.top, hx, (hb hby d28_24), X3.method', Bd.returns, Value.isRef, FieldType.isReference]
    first | (intro acts; rw [hr _ acts rfl rfl rfl]) | rw [hr _ _ rfl rfl rfl]
    exact Steps.refl _
  · show Q28c Z a0 p2 k0 cap fV h0 n0 _ T3.heap _
    rw [e3]
    exact ⟨b2, rfl, N0, sz_b2, K2, E_b2, V_b2⟩
theorem d23_0 : decode jdk_42_method_150_code 0 = .ok (.aload_n 0, 1) := by decide +kernel
theorem d23_1 : decode jdk_42_method_150_code 1 = .ok (.invokespecial 1, 3) := by decide +kernel
theorem d23_4 : decode jdk_42_method_150_code 4 = .ok (.aload_n 1, 1) := by decide +kernel
theorem d23_5 : decode jdk_42_method_150_code 5 = .ok (.invokevirtual 552, 3) := by decide +kernel
theorem pd_13 : parseMethodDescriptor "()[B" = some ⟨[], some (.array .byte)⟩ := by decide +kernel
theorem d23_8 : decode jdk_42_method_150_code 8 = .ok (.astore_n 3, 1) := by decide +kernel
theorem d23_9 : decode jdk_42_method_150_code 9 = .ok (.aload_n 1, 1) := by decide +kernel
theorem d23_10 : decode jdk_42_method_150_code 10 = .ok (.invokevirtual 549, 3) := by decide +kernel
theorem d23_13 : decode jdk_42_method_150_code 13 = .ok (.istore 4, 2) := by decide +kernel
theorem d23_15 : decode jdk_42_method_150_code 15 = .ok (.aload_n 1, 1) := by decide +kernel
theorem d23_16 : decode jdk_42_method_150_code 16 = .ok (.invokevirtual 1047, 3) := by decide +kernel
theorem pd_14 : parseMethodDescriptor "()Z" = some ⟨[], some .boolean⟩ := by decide +kernel
theorem d23_19 : decode jdk_42_method_150_code 19 = .ok (.ifCond .eq 22, 3) := by decide +kernel
theorem d23_22 : decode jdk_42_method_150_code 22 = .ok (.aload_n 0, 1) := by decide +kernel
theorem d23_23 : decode jdk_42_method_150_code 23 = .ok (.iconst 0, 1) := by decide +kernel
theorem d23_24 : decode jdk_42_method_150_code 24 = .ok (.putfield 15, 3) := by decide +kernel
theorem d23_27 : decode jdk_42_method_150_code 27 = .ok (.aload_n 0, 1) := by decide +kernel
theorem d23_28 : decode jdk_42_method_150_code 28 = .ok (.aload_n 3, 1) := by decide +kernel
theorem d23_29 : decode jdk_42_method_150_code 29 = .ok (.iconst 0, 1) := by decide +kernel
theorem d23_30 : decode jdk_42_method_150_code 30 = .ok (.iload 4, 2) := by decide +kernel
theorem d23_32 : decode jdk_42_method_150_code 32 = .ok (.invokestatic 54, 3) := by decide +kernel
theorem d23_35 : decode jdk_42_method_150_code 35 = .ok (.putfield 9, 3) := by decide +kernel
theorem sl_6 {Z : State} {az : Array Value} (hw : HW Z az) : Jvm.RoadKit.slotOf Z cST "value" "[B" ≠ Jvm.RoadKit.slotOf Z cST "coder" "B" := slot_ne (Z := Z) (Or.inr (w20 hw)) (Or.inr (w21 hw)) (by decide) (t := (.array .byte)) (t' := .byte) (by decide) (by decide)
theorem d23_38 : decode jdk_42_method_150_code 38 = .ok (.goto 59, 3) := by decide +kernel
theorem d23_97 : decode jdk_42_method_150_code 97 = .ok (.return_, 1) := by decide +kernel
theorem sl_7 {Z : State} {az : Array Value} (hw : HW Z az) : Jvm.RoadKit.slotOf Z cST "coder" "B" ≠ Jvm.RoadKit.slotOf Z cST "value" "[B" := slot_ne (Z := Z) (Or.inr (w21 hw)) (Or.inr (w20 hw)) (by decide) (t := .byte) (t' := (.array .byte)) (by decide) (by decide)
theorem ef_rm23r (m : MethodId) (a0 : Addr) (a1 : Addr) : entryFrame m #[(.ref a0), (.ref a1), .null] 5 = mkF m 0 #[vR a0, vR a1, .val .null, .unset, .unset] [] := by first | (simp [entryFrame, mkF, argsToLocals, Value.category]; done) | rfl
def Q23r (Z : State) (a0 : Addr) (a1 : Addr) (sC : Int32) (aV : Addr) (kaV : ClassId) (cap : Int32) (fV : Nat → Value) (ct : Int32) (h0 : Heap) (n0 : Nat) (v : Option Value) (h : Heap) (L : List Loc) : Prop := ∃ r0 : Addr, ∃ rk0 : ClassId, v = none ∧ Fr n0 L ∧ h0.size ≤ r0 ∧ Keep h0 h [a0] ∧ Exa Z h a0 cST ∧ Fld Z h a0 cST "value" "[B" (.ref r0) ∧ Fld Z h a0 cST "coder" "B" (.int (0 : Int32)) ∧ Exa Z h r0 "[B" ∧ own_Arf Z h r0 rk0 .byte (ct - (0 : Int32)) (own_cpf fV ((0 : Int32)).toNatClampNeg (fun _ => (.int (0 : Int32))) ((0 : Int32)).toNatClampNeg ((ct - (0 : Int32))).toNatClampNeg)
set_option maxRecDepth 65536 in
set_option maxHeartbeats 40000000 in
theorem rm23r (l : Launch) (Z : State) (az : Array Value) (hw : HW Z az) (ws : List Jvm.Cond) (a0 : Addr) (a1 : Addr) (sC : Int32) (aV : Addr) (kaV : ClassId) (cap : Int32) (fV : Nat → Value) (ct : Int32) (h0 : Heap) (n0 : Nat) (Z0 : n0 ≤ h0.size) (E_a0 : Exa Z h0 a0 cST) (F_value_a0 : Fld Z h0 a0 cST "value" "[B" .null) (F_coder_a0 : Fld Z h0 a0 cST "coder" "B" (.int (0 : Int32))) (S_COMPACT_STRINGS : Sta Z h0 cST "COMPACT_STRINGS" "Z" (.int sC)) (hc4 : ¬ (sC = (0 : Int32))) (E_a1 : Exa Z h0 a1 cSB) (F_value_a1 : Fld Z h0 a1 cAB "value" "[B" (.ref aV)) (F_coder_a1 : Fld Z h0 a1 cAB "coder" "B" (.int (0 : Int32))) (V_aV : own_Arf Z h0 aV kaV .byte cap fV) (E_aV : Exa Z h0 aV "[B") (F_count_a1 : Fld Z h0 a1 cAB "count" "I" (.int ct)) (g_a0 : n0 ≤ a0) (hc12 : ¬ (ct = cap)) (hc13 : ¬ (ct < (0 : Int32))) (hc14 : ¬ ((ct - (0 : Int32)) < (0 : Int32))) (hc15 : ((ct - (0 : Int32))).toNatClampNeg ≤ 80) (hc16 : (ct - (0 : Int32)) < (cap - (0 : Int32))) (hc17 : ((0 : Int32)).toNatClampNeg + ((ct - (0 : Int32))).toNatClampNeg ≤ (cap).toNatClampNeg) (hc18 : ((0 : Int32)).toNatClampNeg + ((ct - (0 : Int32))).toNatClampNeg ≤ ((ct - (0 : Int32))).toNatClampNeg) :
    MF l Z h0 ws ⟨cST, "<init>", "(Ljava/lang/AbstractStringBuilder;Ljava/lang/Void;)V"⟩ jdk_42_method_150_code 5 none ⟨3, 1, 80, 55⟩ #[(.ref a0), (.ref a1), .null] (Q23r Z a0 a1 sC aV kaV cap fV ct h0 n0) := by
  refine MetFree.of_bodySF (plainFor_of_name pn_java_lang_String) hisR ?_
  intro p e s m args below meth c s₁ Bd hml0 hP hK
  obtain ⟨rfl, hZ, hh⟩ := hP
  have hx := Bd.exec
  have hby := Bd.bytes
  have hml : c.maxLocals = 5 := hml0
  have hown : s.vm.findClass cST = some m.cls := findClass_of_methodNamed Bd.named
  have hnm := (name_of_methodNamed Bd.named Bd.method).1
  have X0 : Stand p l e (⟨3, 1, 80, 55⟩ : Room) s m #[(.ref a0), (.ref a1), .null] below meth c s₁ [] 0 0 := Stand.of_body Bd
  have e0 : s₁.heap = h0 := by rw [← hh, Bd.state]; rfl
  have N0 := Fr.nil n0
  have pre0 : ∀ t, Steps p.tables e below (s₁.setTop (mkF m 0 #[vR a0, vR a1, .val .null, .unset, .unset] [])) t → Steps p.tables e below (s₁.setTop (entryFrame m #[(.ref a0), (.ref a1), .null] 5)) t := fun t k => castTop (ef_rm23r m a0 a1) k
  obtain ⟨T1, X1, e1, st1⟩ := initO X0 hx hZ hown (w15 hw) (w16 hw) (w17 hw) e0 (g := (mkF m 1 #[vR a0, vR a1, .val .null, .unset, .unset] [(.ref a0)])) rfl (by rw [hml]; rfl) rfl (hb hby d23_1) (by decide) (W := 0) (Nat.le_of_eq rfl) (by decide)
  obtain ⟨cq2, kq2, q2a, q2b, q2c⟩ := isOf hZ e1 E_a1
  obtain ⟨_, _, ⟨T2, L2, k2', n2'⟩, -, X2, ⟨Lc2, hQ2, l2, y2, z2⟩, st2⟩ := X1.virtualBack hx (y := (⟨cAB, "getValue", "()[B"⟩ : MethodName)) (z := (⟨cAB, "getValue", "()[B"⟩ : MethodName)) hown (mvT hZ (w135 hw)) (mvT hZ (w136 hw)) (notFace_of_selects (args := #[]) (mvT hZ (w138 hw))) (mvT hZ (w138 hw)) (mvT hZ (w137 hw)) (by decide) (backOf (W := 0) (rm24 l Z az hw [] a1 aV kaV cap fV h0 n0 Z0 E_a1 F_value_a1 F_coder_a1 V_aV E_aV) hZ (w139 hw) (w43 hw) (by decide) (by decide)) q2a q2c (g := (mkF m 5 #[vR a0, vR a1, .val .null, .unset, .unset] [(.ref a1)])) rfl (by rw [hml]; rfl) (Steps.refl _) (argsL := []) (rest := []) (lenOf pd_13 rfl) rfl (Nat.le_of_eq rfl) (hb hby d23_5) (fun _ _ => ⟨rfl, e1, (by decide : 0 + 0 ≤ _), (by decide : 0 + 0 ≤ _)⟩)
  dsimp only [Pt.U, Pt.locs, Pt.cells, Pt.slots] at X2 l2 y2 z2 st2 hQ2
  subst l2 y2 z2
  obtain ⟨rfl, N2q, e2⟩ := hQ2
  obtain ⟨Lg2, X2', N2⟩ := own_gen X2 (Fr.app N0 N2q)
  obtain ⟨cq3, kq3, q3a, q3b, q3c⟩ := isOf hZ e2 E_a1
  obtain ⟨_, _, ⟨T3, L3, k3', n3'⟩, -, X3, ⟨Lc3, hQ3, l3, y3, z3⟩, st3⟩ := X2'.virtualBack hx (y := (⟨cAB, "length", "()I"⟩ : MethodName)) (z := (⟨cSB, "length", "()I"⟩ : MethodName)) hown (mvT hZ (w140 hw)) (mvT hZ (w141 hw)) (own_nf (args := #[]) (mvT hZ (w77 hw)) rfl) (mvT hZ (w143 hw)) (mvT hZ (w144 hw)) (by decide) (backOf (W := 0) (rm25 l Z az hw [] a1 ct h0 n0 Z0 F_count_a1 E_a1) hZ (w145 hw) (w35 hw) (by decide) (by decide)) q3a q3c (g := (mkF m 10 #[vR a0, vR a1, .val .null, vR aV, .unset] [(.ref a1)])) rfl (by rw [hml]; rfl) (Steps.refl _) (argsL := []) (rest := []) (lenOf pd_8 rfl) rfl (Nat.le_of_eq rfl) (hb hby d23_10) (fun _ _ => ⟨rfl, e2, (by decide : 0 + 0 ≤ _), (by decide : 0 + 0 ≤ _)⟩)
  dsimp only [Pt.U, Pt.locs, Pt.cells, Pt.slots] at X3 l3 y3 z3 st3 hQ3
  subst l3 y3 z3
  obtain ⟨rfl, N3q, e3⟩ := hQ3
  obtain ⟨Lg3, X3', N3⟩ := own_gen X3 (Fr.app N2 N3q)
  obtain ⟨cq4, kq4, q4a, q4b, q4c⟩ := isOf hZ e3 E_a1
  obtain ⟨_, _, ⟨T4, L4, k4', n4'⟩, -, X4, ⟨Lc4, hQ4, l4, y4, z4⟩, st4⟩ := X3'.virtualBack hx (y := (⟨cAB, "isLatin1", "()Z"⟩ : MethodName)) (z := (⟨cAB, "isLatin1", "()Z"⟩ : MethodName)) hown (mvT hZ (w148 hw)) (mvT hZ (w149 hw)) (notFace_of_selects (args := #[]) (mvT hZ (w151 hw))) (mvT hZ (w151 hw)) (mvT hZ (w150 hw)) (by decide) (backOf (W := 0) (rm27 l Z az hw [] a1 sC aV h0 n0 Z0 S_COMPACT_STRINGS hc4 E_a1 F_value_a1 F_coder_a1) hZ (w152 hw) (w43 hw) (by decide) (by decide)) q4a q4c (g := (mkF m 16 #[vR a0, vR a1, .val .null, vR aV, vI ct] [(.ref a1)])) rfl (by rw [hml]; rfl) (Steps.refl _) (argsL := []) (rest := []) (lenOf pd_14 rfl) rfl (Nat.le_of_eq rfl) (hb hby d23_16) (fun _ _ => ⟨rfl, e3, (by decide : 0 + 0 ≤ _), (by decide : 0 + 0 ≤ _)⟩)
  dsimp only [Pt.U, Pt.locs, Pt.cells, Pt.slots] at X4 l4 y4 z4 st4 hQ4
  subst l4 y4 z4
  obtain ⟨rfl, N4q, e4⟩ := hQ4
  obtain ⟨Lg4, X4', N4⟩ := own_gen X4 (Fr.app N3 N4q)
  obtain ⟨T5, h5, X5, e5, W5, st5⟩ := putFN X4' hx hZ hown (w25 hw) Via.refl e4 F_coder_a0 E_a0 (Or.inr ⟨(w21 hw), rfl, hnm⟩) (w5 hw) (ty := .byte) (v := (.int (0 : Int32))) (v' := (.int (0 : Int32))) (by decide) (by decide) (by decide) (g := (mkF m 24 #[vR a0, vR a1, .val .null, vR aV, vI ct] [(.int (0 : Int32)), (.ref a0)])) rfl rfl (hb hby d23_24)
  have K5 : Keep h0 h5 [a0] := (Keep.refl h0 [a0]).wr W5 (Or.inl (mg 0 rfl))
  have Fw5 := F_coder_a0.same W5
  have Z5 : n0 ≤ h5.size := Nat.le_trans Z0 (Keep.of_wr W5).1
  obtain ⟨Lg5, X5', N5⟩ := own_gen X5 (Fr.snoc X5 N4 g_a0)
  have ne_aV_a0 : aV ≠ a0 := ne_exa E_aV E_a0 (by decide)
  have V_aV_u7 : own_Arf Z h5 aV kaV .byte cap fV := (V_aV.other W5 ne_aV_a0)
  have E_aV_u8 : Exa Z h5 aV "[B" := (E_aV.wr W5)
  obtain ⟨_, _, ⟨T6, L6, k6', n6'⟩, -, X6, ⟨Lc6, hQ6, l6, y6, z6⟩, st6⟩ := Jvm.LawKit.callS X5' hx (y := (⟨"java/util/Arrays", "copyOfRange", "([BII)[B"⟩ : MethodName)) hown (mvT hZ (w153 hw)) (mvT hZ (w154 hw)) (mvT hZ (w117 hw)) (mvT hZ (w155 hw)) (by decide) (backOf (W := 1) (rm28r l Z az hw [] aV ct kaV cap fV h5 n0 Z5 V_aV_u7 E_aV_u8 hc12 hc13 hc14 hc15 hc16 hc17 hc18) hZ (w155 hw) (w117 hw) (by decide) (by decide)) (g := (mkF m 32 #[vR a0, vR a1, .val .null, vR aV, vI ct] [(.int ct), (.int (0 : Int32)), (.ref aV), (.ref a0)])) rfl (by rw [hml]; rfl) (argsL := [(.ref aV), (.int (0 : Int32)), (.int ct)]) (rest := [(.ref a0)]) (lenOf pd_12 rfl) rfl (Nat.le_of_eq rfl) (hb hby d23_32) (fun _ _ => ⟨rfl, e5, (by decide : 0 + 1 ≤ _), (by decide : 0 + 80 ≤ _)⟩)
  dsimp only [Pt.U, Pt.locs, Pt.cells, Pt.slots] at X6 l6 y6 z6 st6 hQ6
  subst l6 y6 z6
  obtain ⟨b6_0, kk6_0, rfl, N6q, s6_0, kq6, pf6_0, pf6_1⟩ := hQ6
  obtain ⟨Lg6, X6', N6⟩ := own_gen X6 (Fr.app N5 N6q)
  have g_b6_0 : n0 ≤ b6_0 := Nat.le_trans Z5 s6_0
  have sz_b6_0 : h0.size ≤ b6_0 := Nat.le_trans K5.1 s6_0
  have K6 : Keep h0 T6.heap [a0] := K5.trans kq6 all0
  have Z6 : n0 ≤ T6.heap.size := Nat.le_trans Z5 kq6.1
  have F_a0_value_u9 : Fld Z T6.heap a0 cST "value" "[B" .null := ((F_value_a0.other W5 (Or.inr (sl_6 hw))).keep kq6 nin0)
  have E_a0_u10 : Exa Z T6.heap a0 cST := ((E_a0.wr W5).keep kq6)
  obtain ⟨T11, h11, X11, e11, W11, st11⟩ := putF X6' hx hZ hown (host := "") (Or.inl (w24 hw)) Via.refl rfl F_a0_value_u9 E_a0_u10 (Or.inr ⟨(w20 hw), rfl, hnm⟩) (w5 hw) (ty := (.array .byte)) (by decide) rfl rfl (g := (mkF m 35 #[vR a0, vR a1, .val .null, vR aV, vI ct] [(.ref b6_0), (.ref a0)])) rfl rfl (hb hby d23_35)
  have K11 : Keep h0 h11 [a0] := K6.wr W11 (Or.inl (mg 0 rfl))
  have Fw11 := F_a0_value_u9.same W11
  have Z11 : n0 ≤ h11.size := Nat.le_trans Z6 (Keep.of_wr W11).1
  obtain ⟨Lg11, X11', N11⟩ := own_gen X11 (Fr.snoc X11 N6 g_a0)
  have E_a0_u12 : Exa Z h11 a0 cST := (E_a0_u10.wr W11)
  have F_a0_coder_u13 : Fld Z h11 a0 cST "coder" "B" (.int (0 : Int32)) := ((Fw5.keep kq6 nin0).other W11 (Or.inr (sl_7 hw)))
  have E_b6_0_u14 : Exa Z h11 b6_0 "[B" := (pf6_0.wr W11)
  have ne_a0_b6_0 : a0 ≠ b6_0 := own_ne (Nat.lt_of_lt_of_le (E_a0.wr W5).lt s6_0)
  have V_b6_0_u15 : own_Arf Z h11 b6_0 kk6_0 .byte (ct - (0 : Int32)) (own_cpf fV ((0 : Int32)).toNatClampNeg (fun _ => (.int (0 : Int32))) ((0 : Int32)).toNatClampNeg ((ct - (0 : Int32))).toNatClampNeg) := (pf6_1.other W11 (Ne.symm ne_a0_b6_0))
  obtain ⟨fs, hr, hrun, hended, hW, hsame⟩ := X11'.leave (v := none) (fun _ => rfl)
  refine ⟨_, _, pre0 _ ?_, hrun, hended, _, _, rfl, ?_, ⟨_, rfl⟩, hW, hsame.mono (by decide) (by decide)⟩
  · show SP p e below s₁ (mkF m 0 #[vR a0, vR a1, .val .null, .unset, .unset] []) _
    refine XS.aloadN X0.here hx rfl (hb hby d23_0) rfl rfl ?_
    show SP p e below s₁ (mkF m 1 #[vR a0, vR a1, .val .null, .unset, .unset] [(.ref a0)]) _
    refine st1 _ ?_
    show SP p e below T1 (mkF m 4 #[vR a0, vR a1, .val .null, .unset, .unset] []) _
    refine XS.aloadN X1.here hx rfl (hb hby d23_4) rfl rfl ?_
    show SP p e below T1 (mkF m 5 #[vR a0, vR a1, .val .null, .unset, .unset] [(.ref a1)]) _
    refine st2.trans ?_
    show SP p e below T2 (mkF m 8 #[vR a0, vR a1, .val .null, .unset, .unset] [(.ref aV)]) _
    refine XS.astoreN X2'.here hx rfl (hb hby d23_8) rfl rfl (l' := #[vR a0, vR a1, .val .null, vR aV, .unset]) rfl ?_
    refine XS.aloadN X2'.here hx rfl (hb hby d23_9) rfl rfl ?_
    show SP p e below T2 (mkF m 10 #[vR a0, vR a1, .val .null, vR aV, .unset] [(.ref a1)]) _
    refine st3.trans ?_
    show SP p e below T3 (mkF m 13 #[vR a0, vR a1, .val .null, vR aV, .unset] [(.int ct)]) _
    refine XS.istore X3'.here hx rfl (hb hby d23_13) rfl (l' := #[vR a0, vR a1, .val .null, vR aV, vI ct]) rfl ?_
    refine XS.aloadN X3'.here hx rfl (hb hby d23_15) rfl rfl ?_
    show SP p e below T3 (mkF m 16 #[vR a0, vR a1, .val .null, vR aV, vI ct] [(.ref a1)]) _
    refine st4.trans ?_
    show SP p e below T4 (mkF m 19 #[vR a0, vR a1, .val .null, vR aV, vI ct] [(.int (1 : Int32))]) _
    refine XS.ifNo X4'.here hx rfl (hb hby d23_19) rfl ((if0 _ _).trans (feq (by decide : ¬ ((1 : Int32) = (0 : Int32)))).1) ?_
    refine XS.aloadN X4'.here hx rfl (hb hby d23_22) rfl rfl ?_
    refine XS.iconst X4'.here hx rfl (hb hby d23_23) ?_
    show SP p e below T4 (mkF m 24 #[vR a0, vR a1, .val .null, vR aV, vI ct] [(.int (0 : Int32)), (.ref a0)]) _
    refine st5 _ ?_
    show SP p e below T5 (mkF m 27 #[vR a0, vR a1, .val .null, vR aV, vI ct] []) _
    refine XS.aloadN X5'.here hx rfl (hb hby d23_27) rfl rfl ?_
    refine XS.aloadN X5'.here hx rfl (hb hby d23_28) rfl rfl ?_
    refine XS.iconst X5'.here hx rfl (hb hby d23_29) ?_
    refine XS.iload X5'.here hx rfl (hb hby d23_30) rfl ?_
    show SP p e below T5 (mkF m 32 #[vR a0, vR a1, .val .null, vR aV, vI ct] [(.int ct), (.int (0 : Int32)), (.ref aV), (.ref a0)]) _
    refine st6 _ ?_
    show SP p e below T6 (mkF m 35 #[vR a0, vR a1, .val .null, vR aV, vI ct] [(.ref b6_0), (.ref a0)]) _
    refine st11 _ ?_
    show SP p e below T11 (mkF m 38 #[vR a0, vR a1, .val .null, vR aV, vI ct] []) _
    refine XS.goto X11'.here hx rfl (pc0 := 38) (pc' := 97) rfl (hb hby d23_38) (by decide) (by decide) ?_
    show SP p e below T11 (mkF m 97 #[vR a0, vR a1, .val .null, vR aV, vI ct] []) _
    exact X11'.returnOut hx Bd.returns (hb hby d23_97) hr
  · show Q23r Z a0 a1 sC aV kaV cap fV ct h0 n0 _ T11.heap _
    rw [e11]
    exact ⟨b6_0, kk6_0, rfl, N11, sz_b6_0, K11, E_a0_u12, Fw11, F_a0_coder_u13, E_b6_0_u14, V_b6_0_u15⟩
theorem d22_0 : decode jdk_42_method_53_code 0 = .ok (.aload_n 0, 1) := by decide +kernel
theorem d22_1 : decode jdk_42_method_53_code 1 = .ok (.aload_n 1, 1) := by decide +kernel
theorem d22_2 : decode jdk_42_method_53_code 2 = .ok (.aconst_null, 1) := by decide +kernel
theorem d22_3 : decode jdk_42_method_53_code 3 = .ok (.invokespecial 489, 3) := by decide +kernel
theorem pd_15 : parseMethodDescriptor "(Ljava/lang/AbstractStringBuilder;Ljava/lang/Void;)V" = some ⟨[(.object "java/lang/AbstractStringBuilder"), (.object "java/lang/Void")], none⟩ := by decide +kernel
theorem d22_6 : decode jdk_42_method_53_code 6 = .ok (.return_, 1) := by decide +kernel
theorem ef_rm22r (m : MethodId) (a0 : Addr) (a1 : Addr) : entryFrame m #[(.ref a0), (.ref a1)] 2 = mkF m 0 #[vR a0, vR a1] [] := by first | (simp [entryFrame, mkF, argsToLocals, Value.category]; done) | rfl
def Q22r (Z : State) (a0 : Addr) (a1 : Addr) (sC : Int32) (aV : Addr) (kaV : ClassId) (cap : Int32) (fV : Nat → Value) (ct : Int32) (h0 : Heap) (n0 : Nat) (v : Option Value) (h : Heap) (L : List Loc) : Prop := ∃ r0 : Addr, ∃ rk0 : ClassId, v = none ∧ Fr n0 L ∧ h0.size ≤ r0 ∧ Keep h0 h [a0] ∧ Exa Z h a0 cST ∧ Fld Z h a0 cST "value" "[B" (.ref r0) ∧ Fld Z h a0 cST "coder" "B" (.int (0 : Int32)) ∧ Exa Z h r0 "[B" ∧ own_Arf Z h r0 rk0 .byte (ct - (0 : Int32)) (own_cpf fV ((0 : Int32)).toNatClampNeg (fun _ => (.int (0 : Int32))) ((0 : Int32)).toNatClampNeg ((ct - (0 : Int32))).toNatClampNeg)
set_option maxRecDepth 65536 in
set_option maxHeartbeats 40000000 in
theorem rm22r (l : Launch) (Z : State) (az : Array Value) (hw : HW Z az) (ws : List Jvm.Cond) (a0 : Addr) (a1 : Addr) (sC : Int32) (aV : Addr) (kaV : ClassId) (cap : Int32) (fV : Nat → Value) (ct : Int32) (h0 : Heap) (n0 : Nat) (Z0 : n0 ≤ h0.size) (E_a0 : Exa Z h0 a0 cST) (F_value_a0 : Fld Z h0 a0 cST "value" "[B" .null) (F_coder_a0 : Fld Z h0 a0 cST "coder" "B" (.int (0 : Int32))) (S_COMPACT_STRINGS : Sta Z h0 cST "COMPACT_STRINGS" "Z" (.int sC)) (hc4 : ¬ (sC = (0 : Int32))) (E_a1 : Exa Z h0 a1 cSB) (F_value_a1 : Fld Z h0 a1 cAB "value" "[B" (.ref aV)) (F_coder_a1 : Fld Z h0 a1 cAB "coder" "B" (.int (0 : Int32))) (V_aV : own_Arf Z h0 aV kaV .byte cap fV) (E_aV : Exa Z h0 aV "[B") (F_count_a1 : Fld Z h0 a1 cAB "count" "I" (.int ct)) (g_a0 : n0 ≤ a0) (hc12 : ¬ (ct = cap)) (hc13 : ¬ (ct < (0 : Int32))) (hc14 : ¬ ((ct - (0 : Int32)) < (0 : Int32))) (hc15 : ((ct - (0 : Int32))).toNatClampNeg ≤ 80) (hc16 : (ct - (0 : Int32)) < (cap - (0 : Int32))) (hc17 : ((0 : Int32)).toNatClampNeg + ((ct - (0 : Int32))).toNatClampNeg ≤ (cap).toNatClampNeg) (hc18 : ((0 : Int32)).toNatClampNeg + ((ct - (0 : Int32))).toNatClampNeg ≤ ((ct - (0 : Int32))).toNatClampNeg) :
    MF l Z h0 ws ⟨cST, "<init>", "(Ljava/lang/StringBuilder;)V"⟩ jdk_42_method_53_code 2 none ⟨4, 1, 80, 71⟩ #[(.ref a0), (.ref a1)] (Q22r Z a0 a1 sC aV kaV cap fV ct h0 n0) := by
  refine MetFree.of_bodySF (plainFor_of_name pn_java_lang_String) hisR ?_
  intro p e s m args below meth c s₁ Bd hml0 hP hK
  obtain ⟨rfl, hZ, hh⟩ := hP
  have hx := Bd.exec
  have hby := Bd.bytes
  have hml : c.maxLocals = 2 := hml0
  have hown : s.vm.findClass cST = some m.cls := findClass_of_methodNamed Bd.named
  have hnm := (name_of_methodNamed Bd.named Bd.method).1
  have X0 : Stand p l e (⟨4, 1, 80, 71⟩ : Room) s m #[(.ref a0), (.ref a1)] below meth c s₁ [] 0 0 := Stand.of_body Bd
  have e0 : s₁.heap = h0 := by rw [← hh, Bd.state]; rfl
  have N0 := Fr.nil n0
  have pre0 : ∀ t, Steps p.tables e below (s₁.setTop (mkF m 0 #[vR a0, vR a1] [])) t → Steps p.tables e below (s₁.setTop (entryFrame m #[(.ref a0), (.ref a1)] 2)) t := fun t k => castTop (ef_rm22r m a0 a1) k
  obtain ⟨_, _, ⟨T1, L1, k1', n1'⟩, -, X1, ⟨Lc1, hQ1, l1, y1, z1⟩, st1⟩ := X0.specialBack hx (y := (⟨cST, "<init>", "(Ljava/lang/AbstractStringBuilder;Ljava/lang/Void;)V"⟩ : MethodName)) rfl hown (mvT hZ (w132 hw)) (mvT hZ (w133 hw)) (mvT hZ (w134 hw)) (by decide) (backOf (W := 0) (rm23r l Z az hw [] a0 a1 sC aV kaV cap fV ct h0 n0 Z0 E_a0 F_value_a0 F_coder_a0 S_COMPACT_STRINGS hc4 E_a1 F_value_a1 F_coder_a1 V_aV E_aV F_count_a1 g_a0 hc12 hc13 hc14 hc15 hc16 hc17 hc18) hZ (w134 hw) (w6 hw) (by decide) (by decide)) (g := (mkF m 3 #[vR a0, vR a1] [.null, (.ref a1), (.ref a0)])) rfl (by rw [hml]; rfl) (Steps.refl _) (a := a0) (argsL := [(.ref a1), .null]) (rest := []) (lenOf pd_15 rfl) rfl (Nat.le_of_eq rfl) (hb hby d22_3) (fun _ _ => ⟨rfl, e0, (by decide : 0 + 1 ≤ _), (by decide : 0 + 80 ≤ _)⟩)
  dsimp only [Pt.U, Pt.locs, Pt.cells, Pt.slots] at X1 l1 y1 z1 st1 hQ1
  subst l1 y1 z1
  obtain ⟨b1_0, kk1_0, rfl, N1q, s1_0, kq1, pf1_0, pf1_1, pf1_2, pf1_3, pf1_4⟩ := hQ1
  obtain ⟨Lg1, X1', N1⟩ := own_gen X1 (Fr.app N0 N1q)
  have g_b1_0 : n0 ≤ b1_0 := Nat.le_trans Z0 s1_0
  have sz_b1_0 : h0.size ≤ b1_0 := Nat.le_trans (Nat.le_refl _) s1_0
  have K1 : Keep h0 T1.heap [a0] := (Keep.refl h0 [a0]).trans kq1 (allS (Or.inl (mg 0 rfl)) all0)
  have Z1 : n0 ≤ T1.heap.size := Nat.le_trans Z0 kq1.1
  obtain ⟨fs, hr, hrun, hended, hW, hsame⟩ := X1'.leave (v := none) (fun _ => rfl)
  refine ⟨_, _, pre0 _ ?_, hrun, hended, _, _, rfl, ?_, ⟨_, rfl⟩, hW, hsame.mono (by decide) (by decide)⟩
  · show SP p e below s₁ (mkF m 0 #[vR a0, vR a1] []) _
    refine XS.aloadN X0.here hx rfl (hb hby d22_0) rfl rfl ?_
    refine XS.aloadN X0.here hx rfl (hb hby d22_1) rfl rfl ?_
    refine XS.aconstNull X0.here hx rfl (hb hby d22_2) ?_
    show SP p e below s₁ (mkF m 3 #[vR a0, vR a1] [.null, (.ref a1), (.ref a0)]) _
    refine st1.trans ?_
    show SP p e below T1 (mkF m 6 #[vR a0, vR a1] []) _
    exact X1'.returnOut hx Bd.returns (hb hby d22_6) hr
  · show Q22r Z a0 a1 sC aV kaV cap fV ct h0 n0 _ T1.heap _
    exact ⟨b1_0, kk1_0, rfl, N1, sz_b1_0, K1, pf1_0, pf1_1, pf1_2, pf1_3, pf1_4⟩
theorem d21_0 : decode jdk_67_method_42_code 0 = .ok (.new 18, 3) := by decide +kernel
theorem d21_3 : decode jdk_67_method_42_code 3 = .ok (.dup, 1) := by decide +kernel
theorem d21_4 : decode jdk_67_method_42_code 4 = .ok (.aload_n 0, 1) := by decide +kernel
theorem d21_5 : decode jdk_67_method_42_code 5 = .ok (.invokespecial 137, 3) := by decide +kernel
theorem pd_16 : parseMethodDescriptor "(Ljava/lang/StringBuilder;)V" = some ⟨[(.object "java/lang/StringBuilder")], none⟩ := by decide +kernel
theorem d21_8 : decode jdk_67_method_42_code 8 = .ok (.areturn, 1) := by decide +kernel
theorem ef_rm21r (m : MethodId) (a0 : Addr) : entryFrame m #[(.ref a0)] 1 = mkF m 0 #[vR a0] [] := by first | (simp [entryFrame, mkF, argsToLocals, Value.category]; done) | rfl
def Q21r (Z : State) (a0 : Addr) (sC : Int32) (aV : Addr) (kaV : ClassId) (cap : Int32) (fV : Nat → Value) (ct : Int32) (h0 : Heap) (n0 : Nat) (v : Option Value) (h : Heap) (L : List Loc) : Prop := ∃ r0 : Addr, ∃ r1 : Addr, ∃ rk0 : ClassId, v = some (.ref r0) ∧ Fr n0 L ∧ h0.size ≤ r0 ∧ r0 < r1 ∧ Keep h0 h [] ∧ Exa Z h r0 cST ∧ Fld Z h r0 cST "value" "[B" (.ref r1) ∧ Fld Z h r0 cST "coder" "B" (.int (0 : Int32)) ∧ Exa Z h r1 "[B" ∧ own_Arf Z h r1 rk0 .byte (ct - (0 : Int32)) (own_cpf fV ((0 : Int32)).toNatClampNeg (fun _ => (.int (0 : Int32))) ((0 : Int32)).toNatClampNeg ((ct - (0 : Int32))).toNatClampNeg)
set_option maxRecDepth 65536 in
set_option maxHeartbeats 40000000 in
theorem rm21r (l : Launch) (Z : State) (az : Array Value) (hw : HW Z az) (ws : List Jvm.Cond) (a0 : Addr) (sC : Int32) (aV : Addr) (kaV : ClassId) (cap : Int32) (fV : Nat → Value) (ct : Int32) (h0 : Heap) (n0 : Nat) (Z0 : n0 ≤ h0.size) (S_COMPACT_STRINGS : Sta Z h0 cST "COMPACT_STRINGS" "Z" (.int sC)) (hc1 : ¬ (sC = (0 : Int32))) (E_a0 : Exa Z h0 a0 cSB) (F_value_a0 : Fld Z h0 a0 cAB "value" "[B" (.ref aV)) (F_coder_a0 : Fld Z h0 a0 cAB "coder" "B" (.int (0 : Int32))) (V_aV : own_Arf Z h0 aV kaV .byte cap fV) (E_aV : Exa Z h0 aV "[B") (F_count_a0 : Fld Z h0 a0 cAB "count" "I" (.int ct)) (hc8 : ¬ (ct = cap)) (hc9 : ¬ (ct < (0 : Int32))) (hc10 : ¬ ((ct - (0 : Int32)) < (0 : Int32))) (hc11 : ((ct - (0 : Int32))).toNatClampNeg ≤ 80) (hc12 : (ct - (0 : Int32)) < (cap - (0 : Int32))) (hc13 : ((0 : Int32)).toNatClampNeg + ((ct - (0 : Int32))).toNatClampNeg ≤ (cap).toNatClampNeg) (hc14 : ((0 : Int32)).toNatClampNeg + ((ct - (0 : Int32))).toNatClampNeg ≤ ((ct - (0 : Int32))).toNatClampNeg) :
    MF l Z h0 ws ⟨cSB, "toString", "()Ljava/lang/String;"⟩ jdk_67_method_42_code 1 (some (.object cST)) ⟨5, 2, 84, 85⟩ #[(.ref a0)] (Q21r Z a0 sC aV kaV cap fV ct h0 n0) := by
  refine MetFree.of_bodySF (plainFor_of_name pn_java_lang_StringBuilder) hisR ?_
  intro p e s m args below meth c s₁ Bd hml0 hP hK
  obtain ⟨rfl, hZ, hh⟩ := hP
  have hx := Bd.exec
  have hby := Bd.bytes
  have hml : c.maxLocals = 1 := hml0
  have hown : s.vm.findClass cSB = some m.cls := findClass_of_methodNamed Bd.named
  have hnm := (name_of_methodNamed Bd.named Bd.method).1
  have X0 : Stand p l e (⟨5, 2, 84, 85⟩ : Room) s m #[(.ref a0)] below meth c s₁ [] 0 0 := Stand.of_body Bd
  have e0 : s₁.heap = h0 := by rw [← hh, Bd.state]; rfl
  have N0 := Fr.nil n0
  have pre0 : ∀ t, Steps p.tables e below (s₁.setTop (mkF m 0 #[vR a0] [])) t → Steps p.tables e below (s₁.setTop (entryFrame m #[(.ref a0)] 1)) t := fun t k => castTop (ef_rm21r m a0) k
  obtain ⟨T1, h1, X1, e1, E1, A1, D1, -, st1⟩ := newO X0 hx hZ hown (w128 hw) (w5 hw) (w6 hw) e0 (g := (mkF m 0 #[vR a0] [])) rfl (hb hby d21_0) (by decide) (by decide)
  obtain ⟨b1, g1⟩ : ∃ z, z = h0.size := ⟨_, rfl⟩
  rw [← g1] at A1 D1 st1
  have g_b1 : n0 ≤ b1 := Nat.le_trans Z0 (Nat.le_of_eq g1.symm)
  have sz_b1 : h0.size ≤ b1 := Nat.le_trans (Nat.le_refl _) (Nat.le_of_eq g1.symm)
  have Z1 : n0 ≤ h1.size := Nat.le_trans Z0 E1.1
  have K1 : Keep h0 h1 [] := (Keep.refl h0 []).ext E1
  have E_b1 := A1
  have F_value_b1 : Fld Z h1 b1 cST "value" "[B" .null := D1 (Or.inr (w20 hw)) (ty := (.array .byte)) (by decide)
  have F_coder_b1 : Fld Z h1 b1 cST "coder" "B" (.int (0 : Int32)) := D1 (Or.inr (w21 hw)) (ty := .byte) (by decide)
  have S_String_COMPACT_STRINGS_u3 : Sta Z h1 cST "COMPACT_STRINGS" "Z" (.int sC) := (S_COMPACT_STRINGS.ext E1)
  have E_a0_u4 : Exa Z h1 a0 cSB := (E_a0.ext E1)
  have F_a0_value_u5 : Fld Z h1 a0 cAB "value" "[B" (.ref aV) := (F_value_a0.ext E1)
  have F_a0_coder_u6 : Fld Z h1 a0 cAB "coder" "B" (.int (0 : Int32)) := (F_coder_a0.ext E1)
  have V_aV_u7 : own_Arf Z h1 aV kaV .byte cap fV := (V_aV.ext E1)
  have E_aV_u8 : Exa Z h1 aV "[B" := (E_aV.ext E1)
  have F_a0_count_u9 : Fld Z h1 a0 cAB "count" "I" (.int ct) := (F_count_a0.ext E1)
  obtain ⟨_, _, ⟨T2, L2, k2', n2'⟩, -, X2, ⟨Lc2, hQ2, l2, y2, z2⟩, st2⟩ := X1.specialBack hx (y := (⟨cST, "<init>", "(Ljava/lang/StringBuilder;)V"⟩ : MethodName)) rfl hown (mvT hZ (w129 hw)) (mvT hZ (w130 hw)) (mvT hZ (w131 hw)) (by decide) (backOf (W := 1) (rm22r l Z az hw [] b1 a0 sC aV kaV cap fV ct h1 n0 Z1 E_b1 F_value_b1 F_coder_b1 S_String_COMPACT_STRINGS_u3 hc1 E_a0_u4 F_a0_value_u5 F_a0_coder_u6 V_aV_u7 E_aV_u8 F_a0_count_u9 g_b1 hc8 hc9 hc10 hc11 hc12 hc13 hc14) hZ (w131 hw) (w6 hw) (by decide) (by decide)) (g := (mkF m 5 #[vR a0] [(.ref a0), (.ref b1), (.ref b1)])) rfl (by rw [hml]; rfl) (Steps.refl _) (a := b1) (argsL := [(.ref a0)]) (rest := [(.ref b1)]) (lenOf pd_16 rfl) rfl (Nat.le_of_eq rfl) (hb hby d21_5) (fun _ _ => ⟨rfl, e1, (by decide : 1 + 1 ≤ _), (by decide : 4 + 80 ≤ _)⟩)
  dsimp only [Pt.U, Pt.locs, Pt.cells, Pt.slots] at X2 l2 y2 z2 st2 hQ2
  subst l2 y2 z2
  obtain ⟨b2_0, kk2_0, rfl, N2q, s2_0, kq2, pf2_0, pf2_1, pf2_2, pf2_3, pf2_4⟩ := hQ2
  obtain ⟨Lg2, X2', N2⟩ := own_gen X2 (Fr.app N0 N2q)
  have g_b2_0 : n0 ≤ b2_0 := Nat.le_trans Z1 s2_0
  have sz_b2_0 : h0.size ≤ b2_0 := Nat.le_trans K1.1 s2_0
  have K2 : Keep h0 T2.heap [] := K1.trans kq2 (allS (Or.inr sz_b1) all0)
  have Z2 : n0 ≤ T2.heap.size := Nat.le_trans Z1 kq2.1
  obtain ⟨fs, hr, hrun, hended, hW, hsame⟩ := X2'.leave (v := some (.ref b1)) (fun h => by rw [Bd.returns] at h; cases h)
  refine ⟨_, _, pre0 _ ?_, hrun, hended, _, _, rfl, ?_, ⟨_, rfl⟩, hW, hsame.mono (by decide) (by decide)⟩
  · show SP p e below s₁ (mkF m 0 #[vR a0] []) _
    refine st1 _ ?_
    show SP p e below T1 (mkF m 3 #[vR a0] [(.ref b1)]) _
    refine XS.dup X1.here hx rfl (hb hby d21_3) rfl rfl ?_
    refine XS.aloadN X1.here hx rfl (hb hby d21_4) rfl rfl ?_
    show SP p e below T1 (mkF m 5 #[vR a0] [(.ref a0), (.ref b1), (.ref b1)]) _
    refine st2.trans ?_
    show SP p e below T2 (mkF m 8 #[vR a0] [(.ref b1)]) _
    jvm_step X2'.here [X2'.here.top, hx, (hb hby d21_8), X2'.method', Bd.returns, Value.isRef, FieldType.isReference]
    first | (intro acts; rw [hr _ acts rfl rfl rfl]) | rw [hr _ _ rfl rfl rfl]
    exact Steps.refl _
  · show Q21r Z a0 sC aV kaV cap fV ct h0 n0 _ T2.heap _
    exact ⟨b1, b2_0, kk2_0, rfl, N2, sz_b1, (Nat.lt_of_lt_of_le E_b1.lt s2_0), K2, pf2_0, pf2_1, pf2_2, pf2_3, pf2_4⟩
theorem ef_rm23c (m : MethodId) (a0 : Addr) (a1 : Addr) : entryFrame m #[(.ref a0), (.ref a1), .null] 5 = mkF m 0 #[vR a0, vR a1, .val .null, .unset, .unset] [] := by first | (simp [entryFrame, mkF, argsToLocals, Value.category]; done) | rfl
def Q23c (Z : State) (a0 : Addr) (a1 : Addr) (sC : Int32) (aV : Addr) (kaV : ClassId) (cap : Int32) (fV : Nat → Value) (ct : Int32) (h0 : Heap) (n0 : Nat) (v : Option Value) (h : Heap) (L : List Loc) : Prop := ∃ r0 : Addr, v = none ∧ Fr n0 L ∧ h0.size ≤ r0 ∧ Keep h0 h [a0] ∧ Exa Z h a0 cST ∧ Fld Z h a0 cST "value" "[B" (.ref r0) ∧ Fld Z h a0 cST "coder" "B" (.int (0 : Int32)) ∧ Exa Z h r0 "[B" ∧ own_Arf Z h r0 kaV .byte cap fV
set_option maxRecDepth 65536 in
set_option maxHeartbeats 40000000 in
theorem rm23c (l : Launch) (Z : State) (az : Array Value) (hw : HW Z az) (ws : List Jvm.Cond) (a0 : Addr) (a1 : Addr) (sC : Int32) (aV : Addr) (kaV : ClassId) (cap : Int32) (fV : Nat → Value) (ct : Int32) (h0 : Heap) (n0 : Nat) (Z0 : n0 ≤ h0.size) (E_a0 : Exa Z h0 a0 cST) (F_value_a0 : Fld Z h0 a0 cST "value" "[B" .null) (F_coder_a0 : Fld Z h0 a0 cST "coder" "B" (.int (0 : Int32))) (S_COMPACT_STRINGS : Sta Z h0 cST "COMPACT_STRINGS" "Z" (.int sC)) (hc4 : ¬ (sC = (0 : Int32))) (E_a1 : Exa Z h0 a1 cSB) (F_value_a1 : Fld Z h0 a1 cAB "value" "[B" (.ref aV)) (F_coder_a1 : Fld Z h0 a1 cAB "coder" "B" (.int (0 : Int32))) (V_aV : own_Arf Z h0 aV kaV .byte cap fV) (E_aV : Exa Z h0 aV "[B") (F_count_a1 : Fld Z h0 a1 cAB "count" "I" (.int ct)) (g_a0 : n0 ≤ a0) (hc12 : ct = cap) (hc13 : (cap).toNatClampNeg ≤ 80) :
    MF l Z h0 ws ⟨cST, "<init>", "(Ljava/lang/AbstractStringBuilder;Ljava/lang/Void;)V"⟩ jdk_42_method_150_code 5 none ⟨2, 1, 80, 29⟩ #[(.ref a0), (.ref a1), .null] (Q23c Z a0 a1 sC aV kaV cap fV ct h0 n0) := by
  refine MetFree.of_bodySF (plainFor_of_name pn_java_lang_String) hisR ?_
  intro p e s m args below meth c s₁ Bd hml0 hP hK
  obtain ⟨rfl, hZ, hh⟩ := hP
  have hx := Bd.exec
  have hby := Bd.bytes
  have hml : c.maxLocals = 5 := hml0
  have hown : s.vm.findClass cST = some m.cls := findClass_of_methodNamed Bd.named
  have hnm := (name_of_methodNamed Bd.named Bd.method).1
  have X0 : Stand p l e (⟨2, 1, 80, 29⟩ : Room) s m #[(.ref a0), (.ref a1), .null] below meth c s₁ [] 0 0 := Stand.of_body Bd
  have e0 : s₁.heap = h0 := by rw [← hh, Bd.state]; rfl
  have N0 := Fr.nil n0
  have pre0 : ∀ t, Steps p.tables e below (s₁.setTop (mkF m 0 #[vR a0, vR a1, .val .null, .unset, .unset] [])) t → Steps p.tables e below (s₁.setTop (entryFrame m #[(.ref a0), (.ref a1), .null] 5)) t := fun t k => castTop (ef_rm23c m a0 a1) k
  obtain ⟨T1, X1, e1, st1⟩ := initO X0 hx hZ hown (w15 hw) (w16 hw) (w17 hw) e0 (g := (mkF m 1 #[vR a0, vR a1, .val .null, .unset, .unset] [(.ref a0)])) rfl (by rw [hml]; rfl) rfl (hb hby d23_1) (by decide) (W := 0) (Nat.le_of_eq rfl) (by decide)
  obtain ⟨cq2, kq2, q2a, q2b, q2c⟩ := isOf hZ e1 E_a1
  obtain ⟨_, _, ⟨T2, L2, k2', n2'⟩, -, X2, ⟨Lc2, hQ2, l2, y2, z2⟩, st2⟩ := X1.virtualBack hx (y := (⟨cAB, "getValue", "()[B"⟩ : MethodName)) (z := (⟨cAB, "getValue", "()[B"⟩ : MethodName)) hown (mvT hZ (w135 hw)) (mvT hZ (w136 hw)) (notFace_of_selects (args := #[]) (mvT hZ (w138 hw))) (mvT hZ (w138 hw)) (mvT hZ (w137 hw)) (by decide) (backOf (W := 0) (rm24 l Z az hw [] a1 aV kaV cap fV h0 n0 Z0 E_a1 F_value_a1 F_coder_a1 V_aV E_aV) hZ (w139 hw) (w43 hw) (by decide) (by decide)) q2a q2c (g := (mkF m 5 #[vR a0, vR a1, .val .null, .unset, .unset] [(.ref a1)])) rfl (by rw [hml]; rfl) (Steps.refl _) (argsL := []) (rest := []) (lenOf pd_13 rfl) rfl (Nat.le_of_eq rfl) (hb hby d23_5) (fun _ _ => ⟨rfl, e1, (by decide : 0 + 0 ≤ _), (by decide : 0 + 0 ≤ _)⟩)
  dsimp only [Pt.U, Pt.locs, Pt.cells, Pt.slots] at X2 l2 y2 z2 st2 hQ2
  subst l2 y2 z2
  obtain ⟨rfl, N2q, e2⟩ := hQ2
  obtain ⟨Lg2, X2', N2⟩ := own_gen X2 (Fr.app N0 N2q)
  obtain ⟨cq3, kq3, q3a, q3b, q3c⟩ := isOf hZ e2 E_a1
  obtain ⟨_, _, ⟨T3, L3, k3', n3'⟩, -, X3, ⟨Lc3, hQ3, l3, y3, z3⟩, st3⟩ := X2'.virtualBack hx (y := (⟨cAB, "length", "()I"⟩ : MethodName)) (z := (⟨cSB, "length", "()I"⟩ : MethodName)) hown (mvT hZ (w140 hw)) (mvT hZ (w141 hw)) (own_nf (args := #[]) (mvT hZ (w77 hw)) rfl) (mvT hZ (w143 hw)) (mvT hZ (w144 hw)) (by decide) (backOf (W := 0) (rm25 l Z az hw [] a1 ct h0 n0 Z0 F_count_a1 E_a1) hZ (w145 hw) (w35 hw) (by decide) (by decide)) q3a q3c (g := (mkF m 10 #[vR a0, vR a1, .val .null, vR aV, .unset] [(.ref a1)])) rfl (by rw [hml]; rfl) (Steps.refl _) (argsL := []) (rest := []) (lenOf pd_8 rfl) rfl (Nat.le_of_eq rfl) (hb hby d23_10) (fun _ _ => ⟨rfl, e2, (by decide : 0 + 0 ≤ _), (by decide : 0 + 0 ≤ _)⟩)
  dsimp only [Pt.U, Pt.locs, Pt.cells, Pt.slots] at X3 l3 y3 z3 st3 hQ3
  subst l3 y3 z3
  obtain ⟨rfl, N3q, e3⟩ := hQ3
  obtain ⟨Lg3, X3', N3⟩ := own_gen X3 (Fr.app N2 N3q)
  obtain ⟨cq4, kq4, q4a, q4b, q4c⟩ := isOf hZ e3 E_a1
  obtain ⟨_, _, ⟨T4, L4, k4', n4'⟩, -, X4, ⟨Lc4, hQ4, l4, y4, z4⟩, st4⟩ := X3'.virtualBack hx (y := (⟨cAB, "isLatin1", "()Z"⟩ : MethodName)) (z := (⟨cAB, "isLatin1", "()Z"⟩ : MethodName)) hown (mvT hZ (w148 hw)) (mvT hZ (w149 hw)) (notFace_of_selects (args := #[]) (mvT hZ (w151 hw))) (mvT hZ (w151 hw)) (mvT hZ (w150 hw)) (by decide) (backOf (W := 0) (rm27 l Z az hw [] a1 sC aV h0 n0 Z0 S_COMPACT_STRINGS hc4 E_a1 F_value_a1 F_coder_a1) hZ (w152 hw) (w43 hw) (by decide) (by decide)) q4a q4c (g := (mkF m 16 #[vR a0, vR a1, .val .null, vR aV, vI ct] [(.ref a1)])) rfl (by rw [hml]; rfl) (Steps.refl _) (argsL := []) (rest := []) (lenOf pd_14 rfl) rfl (Nat.le_of_eq rfl) (hb hby d23_16) (fun _ _ => ⟨rfl, e3, (by decide : 0 + 0 ≤ _), (by decide : 0 + 0 ≤ _)⟩)
  dsimp only [Pt.U, Pt.locs, Pt.cells, Pt.slots] at X4 l4 y4 z4 st4 hQ4
  subst l4 y4 z4
  obtain ⟨rfl, N4q, e4⟩ := hQ4
  obtain ⟨Lg4, X4', N4⟩ := own_gen X4 (Fr.app N3 N4q)
  obtain ⟨T5, h5, X5, e5, W5, st5⟩ := putFN X4' hx hZ hown (w25 hw) Via.refl e4 F_coder_a0 E_a0 (Or.inr ⟨(w21 hw), rfl, hnm⟩) (w5 hw) (ty := .byte) (v := (.int (0 : Int32))) (v' := (.int (0 : Int32))) (by decide) (by decide) (by decide) (g := (mkF m 24 #[vR a0, vR a1, .val .null, vR aV, vI ct] [(.int (0 : Int32)), (.ref a0)])) rfl rfl (hb hby d23_24)
  have K5 : Keep h0 h5 [a0] := (Keep.refl h0 [a0]).wr W5 (Or.inl (mg 0 rfl))
  have Fw5 := F_coder_a0.same W5
  have Z5 : n0 ≤ h5.size := Nat.le_trans Z0 (Keep.of_wr W5).1
  obtain ⟨Lg5, X5', N5⟩ := own_gen X5 (Fr.snoc X5 N4 g_a0)
  have ne_aV_a0 : aV ≠ a0 := ne_exa E_aV E_a0 (by decide)
  have V_aV_u7 : own_Arf Z h5 aV kaV .byte cap fV := (V_aV.other W5 ne_aV_a0)
  have E_aV_u8 : Exa Z h5 aV "[B" := (E_aV.wr W5)
  obtain ⟨_, _, ⟨T6, L6, k6', n6'⟩, -, X6, ⟨Lc6, hQ6, l6, y6, z6⟩, st6⟩ := Jvm.LawKit.callS X5' hx (y := (⟨"java/util/Arrays", "copyOfRange", "([BII)[B"⟩ : MethodName)) hown (mvT hZ (w153 hw)) (mvT hZ (w154 hw)) (mvT hZ (w117 hw)) (mvT hZ (w155 hw)) (by decide) (backOf (W := 1) (rm28c l Z az hw [] aV ct kaV cap fV h5 n0 Z5 V_aV_u7 E_aV_u8 hc12 hc13) hZ (w155 hw) (w117 hw) (by decide) (by decide)) (g := (mkF m 32 #[vR a0, vR a1, .val .null, vR aV, vI ct] [(.int ct), (.int (0 : Int32)), (.ref aV), (.ref a0)])) rfl (by rw [hml]; rfl) (argsL := [(.ref aV), (.int (0 : Int32)), (.int ct)]) (rest := [(.ref a0)]) (lenOf pd_12 rfl) rfl (Nat.le_of_eq rfl) (hb hby d23_32) (fun _ _ => ⟨rfl, e5, (by decide : 0 + 1 ≤ _), (by decide : 0 + 80 ≤ _)⟩)
  dsimp only [Pt.U, Pt.locs, Pt.cells, Pt.slots] at X6 l6 y6 z6 st6 hQ6
  subst l6 y6 z6
  obtain ⟨b6_0, rfl, N6q, s6_0, kq6, pf6_0, pf6_1⟩ := hQ6
  obtain ⟨Lg6, X6', N6⟩ := own_gen X6 (Fr.app N5 N6q)
  have g_b6_0 : n0 ≤ b6_0 := Nat.le_trans Z5 s6_0
  have sz_b6_0 : h0.size ≤ b6_0 := Nat.le_trans K5.1 s6_0
  have K6 : Keep h0 T6.heap [a0] := K5.trans kq6 all0
  have Z6 : n0 ≤ T6.heap.size := Nat.le_trans Z5 kq6.1
  have F_a0_value_u9 : Fld Z T6.heap a0 cST "value" "[B" .null := ((F_value_a0.other W5 (Or.inr (sl_6 hw))).keep kq6 nin0)
  have E_a0_u10 : Exa Z T6.heap a0 cST := ((E_a0.wr W5).keep kq6)
  obtain ⟨T11, h11, X11, e11, W11, st11⟩ := putF X6' hx hZ hown (host := "") (Or.inl (w24 hw)) Via.refl rfl F_a0_value_u9 E_a0_u10 (Or.inr ⟨(w20 hw), rfl, hnm⟩) (w5 hw) (ty := (.array .byte)) (by decide) rfl rfl (g := (mkF m 35 #[vR a0, vR a1, .val .null, vR aV, vI ct] [(.ref b6_0), (.ref a0)])) rfl rfl (hb hby d23_35)
  have K11 : Keep h0 h11 [a0] := K6.wr W11 (Or.inl (mg 0 rfl))
  have Fw11 := F_a0_value_u9.same W11
  have Z11 : n0 ≤ h11.size := Nat.le_trans Z6 (Keep.of_wr W11).1
  obtain ⟨Lg11, X11', N11⟩ := own_gen X11 (Fr.snoc X11 N6 g_a0)
  have E_a0_u12 : Exa Z h11 a0 cST := (E_a0_u10.wr W11)
  have F_a0_coder_u13 : Fld Z h11 a0 cST "coder" "B" (.int (0 : Int32)) := ((Fw5.keep kq6 nin0).other W11 (Or.inr (sl_7 hw)))
  have E_b6_0_u14 : Exa Z h11 b6_0 "[B" := (pf6_0.wr W11)
  have ne_a0_b6_0 : a0 ≠ b6_0 := own_ne (Nat.lt_of_lt_of_le (E_a0.wr W5).lt s6_0)
  have V_b6_0_u15 : own_Arf Z h11 b6_0 kaV .byte cap fV := (pf6_1.other W11 (Ne.symm ne_a0_b6_0))
  obtain ⟨fs, hr, hrun, hended, hW, hsame⟩ := X11'.leave (v := none) (fun _ => rfl)
  refine ⟨_, _, pre0 _ ?_, hrun, hended, _, _, rfl, ?_, ⟨_, rfl⟩, hW, hsame.mono (by decide) (by decide)⟩
  · show SP p e below s₁ (mkF m 0 #[vR a0, vR a1, .val .null, .unset, .unset] []) _
    refine XS.aloadN X0.here hx rfl (hb hby d23_0) rfl rfl ?_
    show SP p e below s₁ (mkF m 1 #[vR a0, vR a1, .val .null, .unset, .unset] [(.ref a0)]) _
    refine st1 _ ?_
    show SP p e below T1 (mkF m 4 #[vR a0, vR a1, .val .null, .unset, .unset] []) _
    refine XS.aloadN X1.here hx rfl (hb hby d23_4) rfl rfl ?_
    show SP p e below T1 (mkF m 5 #[vR a0, vR a1, .val .null, .unset, .unset] [(.ref a1)]) _
    refine st2.trans ?_
    show SP p e below T2 (mkF m 8 #[vR a0, vR a1, .val .null, .unset, .unset] [(.ref aV)]) _
    refine XS.astoreN X2'.here hx rfl (hb hby d23_8) rfl rfl (l' := #[vR a0, vR a1, .val .null, vR aV, .unset]) rfl ?_
    refine XS.aloadN X2'.here hx rfl (hb hby d23_9) rfl rfl ?_
    show SP p e below T2 (mkF m 10 #[vR a0, vR a1, .val .null, vR aV, .unset] [(.ref a1)]) _
    refine st3.trans ?_
    show SP p e below T3 (mkF m 13 #[vR a0, vR a1, .val .null, vR aV, .unset] [(.int ct)]) _
    refine XS.istore X3'.here hx rfl (hb hby d23_13) rfl (l' := #[vR a0, vR a1, .val .null, vR aV, vI ct]) rfl ?_
    refine XS.aloadN X3'.here hx rfl (hb hby d23_15) rfl rfl ?_
    show SP p e below T3 (mkF m 16 #[vR a0, vR a1, .val .null, vR aV, vI ct] [(.ref a1)]) _
    refine st4.trans ?_
    show SP p e below T4 (mkF m 19 #[vR a0, vR a1, .val .null, vR aV, vI ct] [(.int (1 : Int32))]) _
    refine XS.ifNo X4'.here hx rfl (hb hby d23_19) rfl ((if0 _ _).trans (feq (by decide : ¬ ((1 : Int32) = (0 : Int32)))).1) ?_
    refine XS.aloadN X4'.here hx rfl (hb hby d23_22) rfl rfl ?_
    refine XS.iconst X4'.here hx rfl (hb hby d23_23) ?_
    show SP p e below T4 (mkF m 24 #[vR a0, vR a1, .val .null, vR aV, vI ct] [(.int (0 : Int32)), (.ref a0)]) _
    refine st5 _ ?_
    show SP p e below T5 (mkF m 27 #[vR a0, vR a1, .val .null, vR aV, vI ct] []) _
    refine XS.aloadN X5'.here hx rfl (hb hby d23_27) rfl rfl ?_
    refine XS.aloadN X5'.here hx rfl (hb hby d23_28) rfl rfl ?_
    refine XS.iconst X5'.here hx rfl (hb hby d23_29) ?_
    refine XS.iload X5'.here hx rfl (hb hby d23_30) rfl ?_
    show SP p e below T5 (mkF m 32 #[vR a0, vR a1, .val .null, vR aV, vI ct] [(.int ct), (.int (0 : Int32)), (.ref aV), (.ref a0)]) _
    refine st6 _ ?_
    show SP p e below T6 (mkF m 35 #[vR a0, vR a1, .val .null, vR aV, vI ct] [(.ref b6_0), (.ref a0)]) _
    refine st11 _ ?_
    show SP p e below T11 (mkF m 38 #[vR a0, vR a1, .val .null, vR aV, vI ct] []) _
    refine XS.goto X11'.here hx rfl (pc0 := 38) (pc' := 97) rfl (hb hby d23_38) (by decide) (by decide) ?_
    show SP p e below T11 (mkF m 97 #[vR a0, vR a1, .val .null, vR aV, vI ct] []) _
    exact X11'.returnOut hx Bd.returns (hb hby d23_97) hr
  · show Q23c Z a0 a1 sC aV kaV cap fV ct h0 n0 _ T11.heap _
    rw [e11]
    exact ⟨b6_0, rfl, N11, sz_b6_0, K11, E_a0_u12, Fw11, F_a0_coder_u13, E_b6_0_u14, V_b6_0_u15⟩
theorem ef_rm22c (m : MethodId) (a0 : Addr) (a1 : Addr) : entryFrame m #[(.ref a0), (.ref a1)] 2 = mkF m 0 #[vR a0, vR a1] [] := by first | (simp [entryFrame, mkF, argsToLocals, Value.category]; done) | rfl
def Q22c (Z : State) (a0 : Addr) (a1 : Addr) (sC : Int32) (aV : Addr) (kaV : ClassId) (cap : Int32) (fV : Nat → Value) (ct : Int32) (h0 : Heap) (n0 : Nat) (v : Option Value) (h : Heap) (L : List Loc) : Prop := ∃ r0 : Addr, v = none ∧ Fr n0 L ∧ h0.size ≤ r0 ∧ Keep h0 h [a0] ∧ Exa Z h a0 cST ∧ Fld Z h a0 cST "value" "[B" (.ref r0) ∧ Fld Z h a0 cST "coder" "B" (.int (0 : Int32)) ∧ Exa Z h r0 "[B" ∧ own_Arf Z h r0 kaV .byte cap fV
set_option maxRecDepth 65536 in
set_option maxHeartbeats 40000000 in
theorem rm22c (l : Launch) (Z : State) (az : Array Value) (hw : HW Z az) (ws : List Jvm.Cond) (a0 : Addr) (a1 : Addr) (sC : Int32) (aV : Addr) (kaV : ClassId) (cap : Int32) (fV : Nat → Value) (ct : Int32) (h0 : Heap) (n0 : Nat) (Z0 : n0 ≤ h0.size) (E_a0 : Exa Z h0 a0 cST) (F_value_a0 : Fld Z h0 a0 cST "value" "[B" .null) (F_coder_a0 : Fld Z h0 a0 cST "coder" "B" (.int (0 : Int32))) (S_COMPACT_STRINGS : Sta Z h0 cST "COMPACT_STRINGS" "Z" (.int sC)) (hc4 : ¬ (sC = (0 : Int32))) (E_a1 : Exa Z h0 a1 cSB) (F_value_a1 : Fld Z h0 a1 cAB "value" "[B" (.ref aV)) (F_coder_a1 : Fld Z h0 a1 cAB "coder" "B" (.int (0 : Int32))) (V_aV : own_Arf Z h0 aV kaV .byte cap fV) (E_aV : Exa Z h0 aV "[B") (F_count_a1 : Fld Z h0 a1 cAB "count" "I" (.int ct)) (g_a0 : n0 ≤ a0) (hc12 : ct = cap) (hc13 : (cap).toNatClampNeg ≤ 80) :
    MF l Z h0 ws ⟨cST, "<init>", "(Ljava/lang/StringBuilder;)V"⟩ jdk_42_method_53_code 2 none ⟨3, 1, 80, 45⟩ #[(.ref a0), (.ref a1)] (Q22c Z a0 a1 sC aV kaV cap fV ct h0 n0) := by
  refine MetFree.of_bodySF (plainFor_of_name pn_java_lang_String) hisR ?_
  intro p e s m args below meth c s₁ Bd hml0 hP hK
  obtain ⟨rfl, hZ, hh⟩ := hP
  have hx := Bd.exec
  have hby := Bd.bytes
  have hml : c.maxLocals = 2 := hml0
  have hown : s.vm.findClass cST = some m.cls := findClass_of_methodNamed Bd.named
  have hnm := (name_of_methodNamed Bd.named Bd.method).1
  have X0 : Stand p l e (⟨3, 1, 80, 45⟩ : Room) s m #[(.ref a0), (.ref a1)] below meth c s₁ [] 0 0 := Stand.of_body Bd
  have e0 : s₁.heap = h0 := by rw [← hh, Bd.state]; rfl
  have N0 := Fr.nil n0
  have pre0 : ∀ t, Steps p.tables e below (s₁.setTop (mkF m 0 #[vR a0, vR a1] [])) t → Steps p.tables e below (s₁.setTop (entryFrame m #[(.ref a0), (.ref a1)] 2)) t := fun t k => castTop (ef_rm22c m a0 a1) k
  obtain ⟨_, _, ⟨T1, L1, k1', n1'⟩, -, X1, ⟨Lc1, hQ1, l1, y1, z1⟩, st1⟩ := X0.specialBack hx (y := (⟨cST, "<init>", "(Ljava/lang/AbstractStringBuilder;Ljava/lang/Void;)V"⟩ : MethodName)) rfl hown (mvT hZ (w132 hw)) (mvT hZ (w133 hw)) (mvT hZ (w134 hw)) (by decide) (backOf (W := 0) (rm23c l Z az hw [] a0 a1 sC aV kaV cap fV ct h0 n0 Z0 E_a0 F_value_a0 F_coder_a0 S_COMPACT_STRINGS hc4 E_a1 F_value_a1 F_coder_a1 V_aV E_aV F_count_a1 g_a0 hc12 hc13) hZ (w134 hw) (w6 hw) (by decide) (by decide)) (g := (mkF m 3 #[vR a0, vR a1] [.null, (.ref a1), (.ref a0)])) rfl (by rw [hml]; rfl) (Steps.refl _) (a := a0) (argsL := [(.ref a1), .null]) (rest := []) (lenOf pd_15 rfl) rfl (Nat.le_of_eq rfl) (hb hby d22_3) (fun _ _ => ⟨rfl, e0, (by decide : 0 + 1 ≤ _), (by decide : 0 + 80 ≤ _)⟩)
  dsimp only [Pt.U, Pt.locs, Pt.cells, Pt.slots] at X1 l1 y1 z1 st1 hQ1
  subst l1 y1 z1
  obtain ⟨b1_0, rfl, N1q, s1_0, kq1, pf1_0, pf1_1, pf1_2, pf1_3, pf1_4⟩ := hQ1
  obtain ⟨Lg1, X1', N1⟩ := own_gen X1 (Fr.app N0 N1q)
  have g_b1_0 : n0 ≤ b1_0 := Nat.le_trans Z0 s1_0
  have sz_b1_0 : h0.size ≤ b1_0 := Nat.le_trans (Nat.le_refl _) s1_0
  have K1 : Keep h0 T1.heap [a0] := (Keep.refl h0 [a0]).trans kq1 (allS (Or.inl (mg 0 rfl)) all0)
  have Z1 : n0 ≤ T1.heap.size := Nat.le_trans Z0 kq1.1
  obtain ⟨fs, hr, hrun, hended, hW, hsame⟩ := X1'.leave (v := none) (fun _ => rfl)
  refine ⟨_, _, pre0 _ ?_, hrun, hended, _, _, rfl, ?_, ⟨_, rfl⟩, hW, hsame.mono (by decide) (by decide)⟩
  · show SP p e below s₁ (mkF m 0 #[vR a0, vR a1] []) _
    refine XS.aloadN X0.here hx rfl (hb hby d22_0) rfl rfl ?_
    refine XS.aloadN X0.here hx rfl (hb hby d22_1) rfl rfl ?_
    refine XS.aconstNull X0.here hx rfl (hb hby d22_2) ?_
    show SP p e below s₁ (mkF m 3 #[vR a0, vR a1] [.null, (.ref a1), (.ref a0)]) _
    refine st1.trans ?_
    show SP p e below T1 (mkF m 6 #[vR a0, vR a1] []) _
    exact X1'.returnOut hx Bd.returns (hb hby d22_6) hr
  · show Q22c Z a0 a1 sC aV kaV cap fV ct h0 n0 _ T1.heap _
    exact ⟨b1_0, rfl, N1, sz_b1_0, K1, pf1_0, pf1_1, pf1_2, pf1_3, pf1_4⟩
theorem ef_rm21c (m : MethodId) (a0 : Addr) : entryFrame m #[(.ref a0)] 1 = mkF m 0 #[vR a0] [] := by first | (simp [entryFrame, mkF, argsToLocals, Value.category]; done) | rfl
def Q21c (Z : State) (a0 : Addr) (sC : Int32) (aV : Addr) (kaV : ClassId) (cap : Int32) (fV : Nat → Value) (ct : Int32) (h0 : Heap) (n0 : Nat) (v : Option Value) (h : Heap) (L : List Loc) : Prop := ∃ r0 : Addr, ∃ r1 : Addr, v = some (.ref r0) ∧ Fr n0 L ∧ h0.size ≤ r0 ∧ r0 < r1 ∧ Keep h0 h [] ∧ Exa Z h r0 cST ∧ Fld Z h r0 cST "value" "[B" (.ref r1) ∧ Fld Z h r0 cST "coder" "B" (.int (0 : Int32)) ∧ Exa Z h r1 "[B" ∧ own_Arf Z h r1 kaV .byte cap fV
set_option maxRecDepth 65536 in
set_option maxHeartbeats 40000000 in
theorem rm21c (l : Launch) (Z : State) (az : Array Value) (hw : HW Z az) (ws : List Jvm.Cond) (a0 : Addr) (sC : Int32) (aV : Addr) (kaV : ClassId) (cap : Int32) (fV : Nat → Value) (ct : Int32) (h0 : Heap) (n0 : Nat) (Z0 : n0 ≤ h0.size) (S_COMPACT_STRINGS : Sta Z h0 cST "COMPACT_STRINGS" "Z" (.int sC)) (hc1 : ¬ (sC = (0 : Int32))) (E_a0 : Exa Z h0 a0 cSB) (F_value_a0 : Fld Z h0 a0 cAB "value" "[B" (.ref aV)) (F_coder_a0 : Fld Z h0 a0 cAB "coder" "B" (.int (0 : Int32))) (V_aV : own_Arf Z h0 aV kaV .byte cap fV) (E_aV : Exa Z h0 aV "[B") (F_count_a0 : Fld Z h0 a0 cAB "count" "I" (.int ct)) (hc8 : ct = cap) (hc9 : (cap).toNatClampNeg ≤ 80) :
    MF l Z h0 ws ⟨cSB, "toString", "()Ljava/lang/String;"⟩ jdk_67_method_42_code 1 (some (.object cST)) ⟨4, 2, 84, 59⟩ #[(.ref a0)] (Q21c Z a0 sC aV kaV cap fV ct h0 n0) := by
  refine MetFree.of_bodySF (plainFor_of_name pn_java_lang_StringBuilder) hisR ?_
  intro p e s m args below meth c s₁ Bd hml0 hP hK
  obtain ⟨rfl, hZ, hh⟩ := hP
  have hx := Bd.exec
  have hby := Bd.bytes
  have hml : c.maxLocals = 1 := hml0
  have hown : s.vm.findClass cSB = some m.cls := findClass_of_methodNamed Bd.named
  have hnm := (name_of_methodNamed Bd.named Bd.method).1
  have X0 : Stand p l e (⟨4, 2, 84, 59⟩ : Room) s m #[(.ref a0)] below meth c s₁ [] 0 0 := Stand.of_body Bd
  have e0 : s₁.heap = h0 := by rw [← hh, Bd.state]; rfl
  have N0 := Fr.nil n0
  have pre0 : ∀ t, Steps p.tables e below (s₁.setTop (mkF m 0 #[vR a0] [])) t → Steps p.tables e below (s₁.setTop (entryFrame m #[(.ref a0)] 1)) t := fun t k => castTop (ef_rm21c m a0) k
  obtain ⟨T1, h1, X1, e1, E1, A1, D1, -, st1⟩ := newO X0 hx hZ hown (w128 hw) (w5 hw) (w6 hw) e0 (g := (mkF m 0 #[vR a0] [])) rfl (hb hby d21_0) (by decide) (by decide)
  obtain ⟨b1, g1⟩ : ∃ z, z = h0.size := ⟨_, rfl⟩
  rw [← g1] at A1 D1 st1
  have g_b1 : n0 ≤ b1 := Nat.le_trans Z0 (Nat.le_of_eq g1.symm)
  have sz_b1 : h0.size ≤ b1 := Nat.le_trans (Nat.le_refl _) (Nat.le_of_eq g1.symm)
  have Z1 : n0 ≤ h1.size := Nat.le_trans Z0 E1.1
  have K1 : Keep h0 h1 [] := (Keep.refl h0 []).ext E1
  have E_b1 := A1
  have F_value_b1 : Fld Z h1 b1 cST "value" "[B" .null := D1 (Or.inr (w20 hw)) (ty := (.array .byte)) (by decide)
  have F_coder_b1 : Fld Z h1 b1 cST "coder" "B" (.int (0 : Int32)) := D1 (Or.inr (w21 hw)) (ty := .byte) (by decide)
  have S_String_COMPACT_STRINGS_u3 : Sta Z h1 cST "COMPACT_STRINGS" "Z" (.int sC) := (S_COMPACT_STRINGS.ext E1)
  have E_a0_u4 : Exa Z h1 a0 cSB := (E_a0.ext E1)
  have F_a0_value_u5 : Fld Z h1 a0 cAB "value" "[B" (.ref aV) := (F_value_a0.ext E1)
  have F_a0_coder_u6 : Fld Z h1 a0 cAB "coder" "B" (.int (0 : Int32)) := (F_coder_a0.ext E1)
  have V_aV_u7 : own_Arf Z h1 aV kaV .byte cap fV := (V_aV.ext E1)
  have E_aV_u8 : Exa Z h1 aV "[B" := (E_aV.ext E1)
  have F_a0_count_u9 : Fld Z h1 a0 cAB "count" "I" (.int ct) := (F_count_a0.ext E1)
  obtain ⟨_, _, ⟨T2, L2, k2', n2'⟩, -, X2, ⟨Lc2, hQ2, l2, y2, z2⟩, st2⟩ := X1.specialBack hx (y := (⟨cST, "<init>", "(Ljava/lang/StringBuilder;)V"⟩ : MethodName)) rfl hown (mvT hZ (w129 hw)) (mvT hZ (w130 hw)) (mvT hZ (w131 hw)) (by decide) (backOf (W := 1) (rm22c l Z az hw [] b1 a0 sC aV kaV cap fV ct h1 n0 Z1 E_b1 F_value_b1 F_coder_b1 S_String_COMPACT_STRINGS_u3 hc1 E_a0_u4 F_a0_value_u5 F_a0_coder_u6 V_aV_u7 E_aV_u8 F_a0_count_u9 g_b1 hc8 hc9) hZ (w131 hw) (w6 hw) (by decide) (by decide)) (g := (mkF m 5 #[vR a0] [(.ref a0), (.ref b1), (.ref b1)])) rfl (by rw [hml]; rfl) (Steps.refl _) (a := b1) (argsL := [(.ref a0)]) (rest := [(.ref b1)]) (lenOf pd_16 rfl) rfl (Nat.le_of_eq rfl) (hb hby d21_5) (fun _ _ => ⟨rfl, e1, (by decide : 1 + 1 ≤ _), (by decide : 4 + 80 ≤ _)⟩)
  dsimp only [Pt.U, Pt.locs, Pt.cells, Pt.slots] at X2 l2 y2 z2 st2 hQ2
  subst l2 y2 z2
  obtain ⟨b2_0, rfl, N2q, s2_0, kq2, pf2_0, pf2_1, pf2_2, pf2_3, pf2_4⟩ := hQ2
  obtain ⟨Lg2, X2', N2⟩ := own_gen X2 (Fr.app N0 N2q)
  have g_b2_0 : n0 ≤ b2_0 := Nat.le_trans Z1 s2_0
  have sz_b2_0 : h0.size ≤ b2_0 := Nat.le_trans K1.1 s2_0
  have K2 : Keep h0 T2.heap [] := K1.trans kq2 (allS (Or.inr sz_b1) all0)
  have Z2 : n0 ≤ T2.heap.size := Nat.le_trans Z1 kq2.1
  obtain ⟨fs, hr, hrun, hended, hW, hsame⟩ := X2'.leave (v := some (.ref b1)) (fun h => by rw [Bd.returns] at h; cases h)
  refine ⟨_, _, pre0 _ ?_, hrun, hended, _, _, rfl, ?_, ⟨_, rfl⟩, hW, hsame.mono (by decide) (by decide)⟩
  · show SP p e below s₁ (mkF m 0 #[vR a0] []) _
    refine st1 _ ?_
    show SP p e below T1 (mkF m 3 #[vR a0] [(.ref b1)]) _
    refine XS.dup X1.here hx rfl (hb hby d21_3) rfl rfl ?_
    refine XS.aloadN X1.here hx rfl (hb hby d21_4) rfl rfl ?_
    show SP p e below T1 (mkF m 5 #[vR a0] [(.ref a0), (.ref b1), (.ref b1)]) _
    refine st2.trans ?_
    show SP p e below T2 (mkF m 8 #[vR a0] [(.ref b1)]) _
    jvm_step X2'.here [X2'.here.top, hx, (hb hby d21_8), X2'.method', Bd.returns, Value.isRef, FieldType.isReference]
    first | (intro acts; rw [hr _ acts rfl rfl rfl]) | rw [hr _ _ rfl rfl rfl]
    exact Steps.refl _
  · show Q21c Z a0 sC aV kaV cap fV ct h0 n0 _ T2.heap _
    exact ⟨b1, b2_0, rfl, N2, sz_b1, (Nat.lt_of_lt_of_le E_b1.lt s2_0), K2, pf2_0, pf2_1, pf2_2, pf2_3, pf2_4⟩
def own_n3 (n : Int32) : Prop := n = 0 ∨ n = 1 ∨ n = 2 ∨ n = 3
def own_by (c : Int32) : Value := .int (c.toInt8.toInt32)
def own_sf (c0 c1 c2 : Int32) : Nat → Value
  | 0 => own_by c0
  | 1 => own_by c1
  | _ => own_by c2
def own_lit : Nat → Value := fun i => List.getD [(.int (32 : Int32)), (.int (105 : Int32)), (.int (115 : Int32)), (.int (32 : Int32)), (.int (99 : Int32)), (.int (108 : Int32)), (.int (111 : Int32)), (.int (115 : Int32)), (.int (101 : Int32)), (.int (100 : Int32)), (.int (58 : Int32)), (.int (32 : Int32)), (.int (105 : Int32)), (.int (116 : Int32)), (.int (32 : Int32)), (.int (104 : Int32)), (.int (101 : Int32)), (.int (97 : Int32)), (.int (114 : Int32)), (.int (115 : Int32)), (.int (32 : Int32)), (.int (110 : Int32)), (.int (111 : Int32)), (.int (32 : Int32)), (.int (114 : Int32)), (.int (101 : Int32)), (.int (108 : Int32)), (.int (101 : Int32)), (.int (97 : Int32)), (.int (115 : Int32)), (.int (101 : Int32)), (.int (32 : Int32)), (.int (111 : Int32)), (.int (102 : Int32)), (.int (32 : Int32))] i (.int (0 : Int32))
def own_msgN (fS : Nat → Value) (a : Nat) (fT : Nat → Value) : Nat → Value := fun i => if i < a then fS i else if i < a + 35 then own_lit (i - a) else fT (i - (a + 35))
def own_msg (fS : Nat → Value) (ls : Int32) (fT : Nat → Value) : Nat → Value := own_msgN fS ls.toNatClampNeg fT
theorem own_msgA (fS fT g0 g1 : Nat → Value) (a b i : Nat) (ha : a ≤ 3) (hi : i < a + 35 + b) : own_cpf fT 0 (own_cpf own_lit 0 (own_cpf (own_cpf fS 0 g0 0 a) 0 g1 0 16) a 35) (a + 35) b i = own_msgN fS a fT i := by
  unfold own_cpf own_msgN
  by_cases c1 : i < a
  · rw [if_neg (by omega), if_neg (by omega), if_pos (by omega), if_pos (by omega), if_pos c1]
    congr 1; omega
  · by_cases c2 : i < a + 35
    · rw [if_neg (by omega), if_pos (by omega), if_neg c1, if_pos c2]
      congr 1; omega
    · rw [if_pos (by omega), if_neg c1, if_neg c2]
      congr 1; omega
theorem own_msgB (fS fT g0 g1 g2 g3 : Nat → Value) (a b i : Nat) (ha : a ≤ 3) (hi : i < a + 35 + b) : own_cpf (own_cpf fT 0 (own_cpf (own_cpf own_lit 0 (own_cpf (own_cpf fS 0 g0 0 a) 0 g1 0 16) a 35) 0 g2 0 (a + 35)) (a + 35) b) 0 g3 0 (a + 35 + b) i = own_msgN fS a fT i := by
  unfold own_cpf own_msgN
  rw [if_pos (by omega)]
  by_cases c1 : i < a
  · rw [if_neg (by omega), if_pos (by omega), if_neg (by omega), if_pos (by omega), if_pos (by omega), if_pos c1]
    congr 1; omega
  · by_cases c2 : i < a + 35
    · rw [if_neg (by omega), if_pos (by omega), if_pos (by omega), if_neg c1, if_pos c2]
      congr 1; omega
    · rw [if_pos (by omega), if_neg c1, if_neg c2]
      congr 1; omega
theorem d3_0 : decode jdk_42_method_149_code 0 = .ok (.aload_n 0, 1) := by decide +kernel
theorem d3_1 : decode jdk_42_method_149_code 1 = .ok (.invokespecial 1, 3) := by decide +kernel
theorem d3_4 : decode jdk_42_method_149_code 4 = .ok (.iload_n 3, 1) := by decide +kernel
theorem d3_5 : decode jdk_42_method_149_code 5 = .ok (.ifCond .ne 22, 3) := by decide +kernel
theorem d3_8 : decode jdk_42_method_149_code 8 = .ok (.aload_n 0, 1) := by decide +kernel
theorem d3_9 : decode jdk_42_method_149_code 9 = .ok (.ldc 7, 2) := by decide +kernel
theorem d3_11 : decode jdk_42_method_149_code 11 = .ok (.getfield 9, 3) := by decide +kernel
theorem d3_14 : decode jdk_42_method_149_code 14 = .ok (.putfield 9, 3) := by decide +kernel
theorem d3_17 : decode jdk_42_method_149_code 17 = .ok (.aload_n 0, 1) := by decide +kernel
theorem d3_18 : decode jdk_42_method_149_code 18 = .ok (.ldc 7, 2) := by decide +kernel
theorem d3_20 : decode jdk_42_method_149_code 20 = .ok (.getfield 15, 3) := by decide +kernel
theorem d3_23 : decode jdk_42_method_149_code 23 = .ok (.putfield 15, 3) := by decide +kernel
theorem d3_26 : decode jdk_42_method_149_code 26 = .ok (.return_, 1) := by decide +kernel
theorem ef_rm3k0 (m : MethodId) (a0 : Addr) (a1 : Addr) : entryFrame m #[(.ref a0), (.ref a1), (.int (0 : Int32)), (.int (0 : Int32)), .null] 6 = mkF m 0 #[vR a0, vR a1, vI (0 : Int32), vI (0 : Int32), .val .null, .unset] [] := by first | (simp [entryFrame, mkF, argsToLocals, Value.category]; done) | rfl
def Q3k0 (Z : State) (a0 : Addr) (a1 : Addr) (h0 : Heap) (n0 : Nat) (v : Option Value) (h : Heap) (L : List Loc) : Prop := ∃ rk0 : ClassId, ∃ rt0 : Addr, v = none ∧ Fr n0 L ∧ Keep h0 h [a0] ∧ Exa Z h a0 cST ∧ Fld Z h a0 cST "value" "[B" (.ref rt0) ∧ Fld Z h a0 cST "coder" "B" (.int (0 : Int32)) ∧ Arv Z h rt0 rk0 .byte (0 : Int32) [] (.int (0 : Int32)) ∧ Exa Z h rt0 "[B"
set_option maxRecDepth 65536 in
set_option maxHeartbeats 40000000 in
theorem rm3k0 (l : Launch) (Z : State) (az : Array Value) (hw : HW Z az) (ws : List Jvm.Cond) (a0 : Addr) (a1 : Addr) (h0 : Heap) (n0 : Nat) (Z0 : n0 ≤ h0.size) (E_a0 : Exa Z h0 a0 cST) (F_value_a0 : Fld Z h0 a0 cST "value" "[B" .null) (F_coder_a0 : Fld Z h0 a0 cST "coder" "B" (.int (0 : Int32))) (g_a0 : n0 ≤ a0) :
    MetFree l (⟨cST, "<init>", "([CIILjava/lang/Void;)V"⟩ : MethodName) (head1 (Jvm.Cond.code (⟨cST, "<init>", "([CIILjava/lang/Void;)V"⟩ : MethodName) jdk_42_method_149_code 6 none :: ws) (⟨1, 4, 8, 12⟩ : Room)) (fun a U => a = #[(.ref a0), (.ref a1), (.int (0 : Int32)), (.int (0 : Int32)), .null] ∧ Z.Warmed39 U.vm ∧ U.heap = h0 ∧ CHv Z [(cWN, 36), (cLW, 46), (cST, 7)] U.vm h0) (fun _ _ _ _ _ => True) (fun _ U o U' => ∃ v L, o = .returned v ∧ Q3k0 Z a0 a1 h0 n0 v U'.heap L ∧ CHr Z [(cWN, 36), (cLW, 46), (cST, 7)] U.vm U.heap U'.vm U'.heap ∧ ReturnedEndW U o U' L (⟨1, 4, 8, 12⟩ : Room).cells (⟨1, 4, 8, 12⟩ : Room).slots) := by
  refine MetFree.of_bodySF (plainFor_of_name pn_java_lang_String) hisR ?_
  intro p e s m args below meth c s₁ Bd hml0 hP hK
  obtain ⟨rfl, hZ, hh, hCH⟩ := hP
  have hx := Bd.exec
  have hby := Bd.bytes
  have hml : c.maxLocals = 6 := hml0
  have hown : s.vm.findClass cST = some m.cls := findClass_of_methodNamed Bd.named
  have hnm := (name_of_methodNamed Bd.named Bd.method).1
  have X0 : Stand p l e (⟨1, 4, 8, 12⟩ : Room) s m #[(.ref a0), (.ref a1), (.int (0 : Int32)), (.int (0 : Int32)), .null] below meth c s₁ [] 0 0 := Stand.of_body Bd
  have e0 : s₁.heap = h0 := by rw [← hh, Bd.state]; rfl
  have N0 := Fr.nil n0
  have pre0 : ∀ t, Steps p.tables e below (s₁.setTop (mkF m 0 #[vR a0, vR a1, vI (0 : Int32), vI (0 : Int32), .val .null, .unset] [])) t → Steps p.tables e below (s₁.setTop (entryFrame m #[(.ref a0), (.ref a1), (.int (0 : Int32)), (.int (0 : Int32)), .null] 6)) t := fun t k => castTop (ef_rm3k0 m a0 a1) k
  have hZo := hZ
  have hEW : EW Z az [(cWN, 36), (cLW, 46), (cST, 7)] := (EW.cons (hw _ (mg 99 rfl)) (by decide) (EW.cons (hw _ (mg 238 rfl)) (by decide) (EW.cons (hw _ (mg 18 rfl)) (by decide) EW.nil)))
  have hS0 : s.Since s.vm 0 := (State.WarmedH.refl s).since 0
  have wS : ∀ a ∈ Bundle.stringAtoms, a.before az Z = true := fun d hd => by
    simp only [Bundle.stringAtoms, List.mem_cons, List.not_mem_nil, or_false] at hd
    rcases hd with rfl | rfl | rfl | rfl | rfl | rfl | rfl
    · exact (hw _ (mg 6 rfl))
    · exact (hw _ (mg 5 rfl))
    · exact (hw _ (mg 19 rfl))
    · exact (hw _ (mg 20 rfl))
    · exact (hw _ (mg 21 rfl))
    · exact (hw _ (mg 22 rfl))
    · exact (hw _ (mg 23 rfl))
  obtain ⟨T1, X1, e1, st1⟩ := initO X0 hx hZ hown (w15 hw) (w16 hw) (w17 hw) e0 (g := (mkF m 1 #[vR a0, vR a1, vI (0 : Int32), vI (0 : Int32), .val .null, .unset] [(.ref a0)])) rfl (by rw [hml]; rfl) rfl (hb hby d3_1) (by decide) (W := 0) (Nat.le_of_eq rfl) (by decide)
  have rh0 := CHr.refl hCH
  obtain ⟨l2, T2, h2, kk2, lb2, lk2, X2, e2, E2, hS2, hk2, hZ2, hown2, xl2, fc2, fv2, vl2, -, -, ch2, lt2, -, st2⟩ := ldcCH (s := s) (vm0 := s.vm) X1 hx hZ hown (w18 hw) wS e1 hS0 (Nat.zero_le _) hEW (mg 2 rfl) rh0.1 (vs := []) (z := (0 : Int32)) ⟨by decide, rfl⟩ (by decide) (by decide) (g := (mkF m 9 #[vR a0, vR a1, vI (0 : Int32), vI (0 : Int32), .val .null, .unset] [(.ref a0)])) rfl (hb hby d3_9) (n := 0) (by decide) (by decide) (by decide) (by decide)
  have xb2 : Exa Z h2 lb2 "[B" := own_exaB (EL := [(cWN, 36), (cLW, 46), (cST, 7)]) ch2.1 (mg 2 rfl) hZ2 (w18 hw) hown2 lt2 fv2
  have Z2 : n0 ≤ h2.size := Nat.le_trans Z0 E2.1
  have K2 : Keep h0 h2 [a0] := (Keep.refl h0 [a0]).ext E2
  have rh3 := rh0.trans ch2
  obtain ⟨T4, X4, e4, st4⟩ := getF X2 hx hZ2 hown2 (host := "") (Or.inl (w24 hw)) Via.refl e2 fv2 (g := (mkF m 11 #[vR a0, vR a1, vI (0 : Int32), vI (0 : Int32), .val .null, .unset] [(.ref l2), (.ref a0)])) rfl rfl (hb hby d3_11)
  have F_a0_value_u5 : Fld Z h2 a0 cST "value" "[B" .null := (F_value_a0.ext E2)
  have E_a0_u6 : Exa Z h2 a0 cST := (E_a0.ext E2)
  obtain ⟨T7, h7, X7, e7, W7, st7⟩ := putF X4 hx hZ2 hown2 (host := "") (Or.inl (w24 hw)) Via.refl e4 F_a0_value_u5 E_a0_u6 (Or.inr ⟨(w20 hw), rfl, hnm⟩) (w5 hw) (ty := (.array .byte)) (by decide) rfl rfl (g := (mkF m 14 #[vR a0, vR a1, vI (0 : Int32), vI (0 : Int32), .val .null, .unset] [(.ref lb2), (.ref a0)])) rfl rfl (hb hby d3_14)
  have K7 : Keep h0 h7 [a0] := K2.wr W7 (Or.inl (mg 0 rfl))
  have Fw7 := F_a0_value_u5.same W7
  have Z7 : n0 ≤ h7.size := Nat.le_trans Z2 (Keep.of_wr W7).1
  obtain ⟨Lg7, X7', N7⟩ := own_gen X7 (Fr.snoc X7 N0 g_a0)
  have sf9 : Safe Z [(cWN, 36), (cLW, 46), (cST, 7)] s.vm h0 a0 := own_safeNull hZo.alike hCH E_a0 F_value_a0
  have sf10 : Safe Z [(cWN, 36), (cLW, 46), (cST, 7)] T2.vm h2 a0 := CHr.safe ch2 E_a0.lt sf9
  have rh8 := rh3.trans (CHr.wr W7 sf10 rh3.1)
  obtain ⟨l11, T11, h11, kk11, lb11, lk11, X11, e11, E11, hS11, hk11, hZ11, hown11, xl11, fc11, fv11, vl11, -, -, ch11, lt11, -, st11⟩ := ldcCH (s := s) (vm0 := T2.vm) X7' hx hZ2 hown2 (w18 hw) wS e7 hS2 (Nat.le_trans hk2 (Keep.of_wr W7).1) hEW (mg 2 rfl) rh8.1 (vs := []) (z := (0 : Int32)) ⟨by decide, rfl⟩ (by decide) (by decide) (g := (mkF m 18 #[vR a0, vR a1, vI (0 : Int32), vI (0 : Int32), .val .null, .unset] [(.ref a0)])) rfl (hb hby d3_18) (n := 0) (by decide) (by decide) (by decide) (by decide)
  have xb11 : Exa Z h11 lb11 "[B" := own_exaB (EL := [(cWN, 36), (cLW, 46), (cST, 7)]) ch11.1 (mg 2 rfl) hZ11 (w18 hw) hown11 lt11 fv11
  have Z11 : n0 ≤ h11.size := Nat.le_trans Z7 E11.1
  have K11 : Keep h0 h11 [a0] := K7.ext E11
  have rh12 := rh8.trans ch11
  obtain ⟨T13, X13, e13, st13⟩ := getF X11 hx hZ11 hown11 (host := "") (Or.inl (w25 hw)) Via.refl e11 fc11 (g := (mkF m 20 #[vR a0, vR a1, vI (0 : Int32), vI (0 : Int32), .val .null, .unset] [(.ref l11), (.ref a0)])) rfl rfl (hb hby d3_20)
  have F_a0_coder_u14 : Fld Z h11 a0 cST "coder" "B" (.int (0 : Int32)) := (((F_coder_a0.ext E2).other W7 (Or.inr (sl_7 hw))).ext E11)
  have E_a0_u15 : Exa Z h11 a0 cST := ((E_a0_u6.wr W7).ext E11)
  obtain ⟨T16, h16, X16, e16, W16, st16⟩ := putFN X13 hx hZ11 hown11 (w25 hw) Via.refl e13 F_a0_coder_u14 E_a0_u15 (Or.inr ⟨(w21 hw), rfl, hnm⟩) (w5 hw) (ty := .byte) (v := (.int (0 : Int32))) (v' := (.int (0 : Int32))) (by decide) (by decide) (by decide) (g := (mkF m 23 #[vR a0, vR a1, vI (0 : Int32), vI (0 : Int32), .val .null, .unset] [(.int (0 : Int32)), (.ref a0)])) rfl rfl (hb hby d3_23)
  have K16 : Keep h0 h16 [a0] := K11.wr W16 (Or.inl (mg 0 rfl))
  have Fw16 := F_a0_coder_u14.same W16
  have Z16 : n0 ≤ h16.size := Nat.le_trans Z11 (Keep.of_wr W16).1
  obtain ⟨Lg16, X16', N16⟩ := own_gen X16 (Fr.snoc X16 N7 g_a0)
  have E_a0_u17 : Exa Z h16 a0 cST := (E_a0_u15.wr W16)
  have F_a0_value_u18 : Fld Z h16 a0 cST "value" "[B" (.ref lb2) := ((Fw7.ext E11).other W16 (Or.inr (sl_6 hw)))
  have E_lb2_u19 : Exa Z h16 lb2 "[B" := (((xb2.wr W7).ext E11).wr W16)
  have ne_lb2_a0 : lb2 ≠ a0 := ne_exa E_lb2_u19 E_a0_u17 (by decide)
  have V_lb2_u20 : Arv Z h16 lb2 lk2 .byte (0 : Int32) [] (.int (0 : Int32)) := (((vl2.other W7 ne_lb2_a0).ext E11).other W16 ne_lb2_a0)
  have sf22 : Safe Z [(cWN, 36), (cLW, 46), (cST, 7)] T2.vm h7 a0 := Safe.wr W7 sf10 rh3.1 sf10
  have sf23 : Safe Z [(cWN, 36), (cLW, 46), (cST, 7)] T11.vm h11 a0 := CHr.safe ch11 (E_a0_u6.wr W7).lt sf22
  have rh21 := rh12.trans (CHr.wr W16 sf23 rh12.1)
  have hCHR := rh21.trans (CHv.at (s := s) (vm0 := T11.vm) X16' hZ11 hEW rh21.1)
  obtain ⟨fs, hr, hrun, hended, hWE⟩ := X16'.leaveW (s := s) hS11 (by rw [e16]; exact (Nat.le_trans hk11 (Keep.of_wr W16).1)) (v := none) (fun _ => rfl)
  refine ⟨_, _, pre0 _ ?_, hrun, hended, _, _, rfl, ?_, (by rw [hh]; show CHr _ _ _ _ T16.vm T16.heap; rw [e16]; exact hCHR), hWE.1, hWE.2.1, hWE.2.2.1, hWE.2.2.2.mono (by decide) (by decide)⟩
  · show SP p e below s₁ (mkF m 0 #[vR a0, vR a1, vI (0 : Int32), vI (0 : Int32), .val .null, .unset] []) _
    refine XS.aloadN X0.here hx rfl (hb hby d3_0) rfl rfl ?_
    show SP p e below s₁ (mkF m 1 #[vR a0, vR a1, vI (0 : Int32), vI (0 : Int32), .val .null, .unset] [(.ref a0)]) _
    refine st1 _ ?_
    show SP p e below T1 (mkF m 4 #[vR a0, vR a1, vI (0 : Int32), vI (0 : Int32), .val .null, .unset] []) _
    refine XS.iloadN X1.here hx rfl (hb hby d3_4) rfl ?_
    refine XS.ifNo X1.here hx rfl (hb hby d3_5) rfl ((if0 _ _).trans (teq (by decide : (0 : Int32) = (0 : Int32))).2) ?_
    refine XS.aloadN X1.here hx rfl (hb hby d3_8) rfl rfl ?_
    show SP p e below T1 (mkF m 9 #[vR a0, vR a1, vI (0 : Int32), vI (0 : Int32), .val .null, .unset] [(.ref a0)]) _
    refine st2 _ ?_
    show SP p e below T2 (mkF m 11 #[vR a0, vR a1, vI (0 : Int32), vI (0 : Int32), .val .null, .unset] [(.ref l2), (.ref a0)]) _
    refine st4 _ ?_
    show SP p e below T4 (mkF m 14 #[vR a0, vR a1, vI (0 : Int32), vI (0 : Int32), .val .null, .unset] [(.ref lb2), (.ref a0)]) _
    refine st7 _ ?_
    show SP p e below T7 (mkF m 17 #[vR a0, vR a1, vI (0 : Int32), vI (0 : Int32), .val .null, .unset] []) _
    refine XS.aloadN X7'.here hx rfl (hb hby d3_17) rfl rfl ?_
    show SP p e below T7 (mkF m 18 #[vR a0, vR a1, vI (0 : Int32), vI (0 : Int32), .val .null, .unset] [(.ref a0)]) _
    refine st11 _ ?_
    show SP p e below T11 (mkF m 20 #[vR a0, vR a1, vI (0 : Int32), vI (0 : Int32), .val .null, .unset] [(.ref l11), (.ref a0)]) _
    refine st13 _ ?_
    show SP p e below T13 (mkF m 23 #[vR a0, vR a1, vI (0 : Int32), vI (0 : Int32), .val .null, .unset] [(.int (0 : Int32)), (.ref a0)]) _
    refine st16 _ ?_
    show SP p e below T16 (mkF m 26 #[vR a0, vR a1, vI (0 : Int32), vI (0 : Int32), .val .null, .unset] []) _
    exact X16'.returnOut hx Bd.returns (hb hby d3_26) hr
  · show Q3k0 Z a0 a1 h0 n0 _ T16.heap _
    rw [e16]
    exact ⟨lk2, lb2, rfl, N16, K16, E_a0_u17, F_a0_value_u18, Fw16, V_lb2_u20, E_lb2_u19⟩
theorem d2_0 : decode jdk_42_method_3_code 0 = .ok (.aload_n 0, 1) := by decide +kernel
theorem d2_1 : decode jdk_42_method_3_code 1 = .ok (.aload_n 1, 1) := by decide +kernel
theorem d2_2 : decode jdk_42_method_3_code 2 = .ok (.iconst 0, 1) := by decide +kernel
theorem d2_3 : decode jdk_42_method_3_code 3 = .ok (.aload_n 1, 1) := by decide +kernel
theorem d2_4 : decode jdk_42_method_3_code 4 = .ok (.arraylength, 1) := by decide +kernel
theorem d2_5 : decode jdk_42_method_3_code 5 = .ok (.aconst_null, 1) := by decide +kernel
theorem d2_6 : decode jdk_42_method_3_code 6 = .ok (.invokespecial 27, 3) := by decide +kernel
theorem pd_17 : parseMethodDescriptor "([CIILjava/lang/Void;)V" = some ⟨[(.array .char), .int, .int, (.object "java/lang/Void")], none⟩ := by decide +kernel
theorem d2_9 : decode jdk_42_method_3_code 9 = .ok (.return_, 1) := by decide +kernel
theorem ef_rm2k0 (m : MethodId) (a0 : Addr) (a1 : Addr) : entryFrame m #[(.ref a0), (.ref a1)] 2 = mkF m 0 #[vR a0, vR a1] [] := by first | (simp [entryFrame, mkF, argsToLocals, Value.category]; done) | rfl
def Q2k0 (Z : State) (a0 : Addr) (a1 : Addr) (k1 : ClassId) (h0 : Heap) (n0 : Nat) (v : Option Value) (h : Heap) (L : List Loc) : Prop := ∃ rk0 : ClassId, ∃ rt0 : Addr, v = none ∧ Fr n0 L ∧ Keep h0 h [a0] ∧ Exa Z h a0 cST ∧ Fld Z h a0 cST "value" "[B" (.ref rt0) ∧ Fld Z h a0 cST "coder" "B" (.int (0 : Int32)) ∧ Arv Z h rt0 rk0 .byte (0 : Int32) [] (.int (0 : Int32)) ∧ Exa Z h rt0 "[B"
set_option maxRecDepth 65536 in
set_option maxHeartbeats 40000000 in
theorem rm2k0 (l : Launch) (Z : State) (az : Array Value) (hw : HW Z az) (ws : List Jvm.Cond) (a0 : Addr) (a1 : Addr) (k1 : ClassId) (h0 : Heap) (n0 : Nat) (Z0 : n0 ≤ h0.size) (E_a0 : Exa Z h0 a0 cST) (F_value_a0 : Fld Z h0 a0 cST "value" "[B" .null) (F_coder_a0 : Fld Z h0 a0 cST "coder" "B" (.int (0 : Int32))) (V_a1 : Arv Z h0 a1 k1 .char (0 : Int32) [] (.int (0 : Int32))) (g_a0 : n0 ≤ a0) :
    MetFree l (⟨cST, "<init>", "([C)V"⟩ : MethodName) (head1 (Jvm.Cond.code (⟨cST, "<init>", "([C)V"⟩ : MethodName) jdk_42_method_3_code 2 none :: ws) (⟨2, 4, 8, 29⟩ : Room)) (fun a U => a = #[(.ref a0), (.ref a1)] ∧ Z.Warmed39 U.vm ∧ U.heap = h0 ∧ CHv Z [(cWN, 36), (cLW, 46), (cST, 7)] U.vm h0) (fun _ _ _ _ _ => True) (fun _ U o U' => ∃ v L, o = .returned v ∧ Q2k0 Z a0 a1 k1 h0 n0 v U'.heap L ∧ CHr Z [(cWN, 36), (cLW, 46), (cST, 7)] U.vm U.heap U'.vm U'.heap ∧ ReturnedEndW U o U' L (⟨2, 4, 8, 29⟩ : Room).cells (⟨2, 4, 8, 29⟩ : Room).slots) := by
  refine MetFree.of_bodySF (plainFor_of_name pn_java_lang_String) hisR ?_
  intro p e s m args below meth c s₁ Bd hml0 hP hK
  obtain ⟨rfl, hZ, hh, hCH⟩ := hP
  have hx := Bd.exec
  have hby := Bd.bytes
  have hml : c.maxLocals = 2 := hml0
  have hown : s.vm.findClass cST = some m.cls := findClass_of_methodNamed Bd.named
  have hnm := (name_of_methodNamed Bd.named Bd.method).1
  have X0 : Stand p l e (⟨2, 4, 8, 29⟩ : Room) s m #[(.ref a0), (.ref a1)] below meth c s₁ [] 0 0 := Stand.of_body Bd
  have e0 : s₁.heap = h0 := by rw [← hh, Bd.state]; rfl
  have N0 := Fr.nil n0
  have pre0 : ∀ t, Steps p.tables e below (s₁.setTop (mkF m 0 #[vR a0, vR a1] [])) t → Steps p.tables e below (s₁.setTop (entryFrame m #[(.ref a0), (.ref a1)] 2)) t := fun t k => castTop (ef_rm2k0 m a0 a1) k
  have hZo := hZ
  have hEW : EW Z az [(cWN, 36), (cLW, 46), (cST, 7)] := (EW.cons (hw _ (mg 99 rfl)) (by decide) (EW.cons (hw _ (mg 238 rfl)) (by decide) (EW.cons (hw _ (mg 18 rfl)) (by decide) EW.nil)))
  have hS0 : s.Since s.vm 0 := (State.WarmedH.refl s).since 0
  have wS : ∀ a ∈ Bundle.stringAtoms, a.before az Z = true := fun d hd => by
    simp only [Bundle.stringAtoms, List.mem_cons, List.not_mem_nil, or_false] at hd
    rcases hd with rfl | rfl | rfl | rfl | rfl | rfl | rfl
    · exact (hw _ (mg 6 rfl))
    · exact (hw _ (mg 5 rfl))
    · exact (hw _ (mg 19 rfl))
    · exact (hw _ (mg 20 rfl))
    · exact (hw _ (mg 21 rfl))
    · exact (hw _ (mg 22 rfl))
    · exact (hw _ (mg 23 rfl))
  obtain ⟨cl1, Ar1, qk1, Sz1, Ng1, Hs1, Gf1⟩ := id V_a1
  have rh0 := CHr.refl hCH
  obtain ⟨_, _, ⟨T2, L2, k2', n2'⟩, -, Y2, yS2, yg2, ⟨Lc2, hQ2, l2, y2, z2, ch2⟩, st2⟩ := X0.specialBackS hx (y := (⟨cST, "<init>", "([CIILjava/lang/Void;)V"⟩ : MethodName)) rfl hown (mvT hZ (w11 hw)) (mvT hZ (w12 hw)) (mvT hZ (w14 hw)) (by decide) (backOfSH (W := 0) (rm3k0 l Z az hw [] a0 a1 h0 n0 Z0 E_a0 F_value_a0 F_coder_a0 g_a0) hZ (w14 hw) (w6 hw) (by decide) (by decide) hEW rh0.1) (g := (mkF m 6 #[vR a0, vR a1] [.null, (.int (0 : Int32)), (.int (0 : Int32)), (.ref a1), (.ref a0)])) rfl (by rw [hml]; rfl) (Steps.refl _) (a := a0) (argsL := [(.ref a1), (.int (0 : Int32)), (.int (0 : Int32)), .null]) (rest := []) (lenOf pd_17 rfl) rfl (Nat.le_of_eq rfl) (hb hby d2_6) (fun _ _ => ⟨rfl, e0, (by decide : 0 + 4 ≤ _), (by decide : 0 + 8 ≤ _)⟩)
  dsimp only [Pt.U, Pt.locs, Pt.cells, Pt.slots] at Y2 yS2 yg2 l2 y2 z2 st2 hQ2 ch2
  subst l2 y2 z2
  obtain ⟨X2, hS2, hZ2, hown2⟩ := rebS (s := s) (vm0 := s.vm) hS0 (by rw [e0]; exact (Nat.zero_le _)) Y2 yS2 yg2 hZ hown
  obtain ⟨kk2_0, x2_0, rfl, N2q, kq2, pf2_0, pf2_1, pf2_2, pf2_3, pf2_4⟩ := hQ2
  obtain ⟨Lg2, X2', N2⟩ := own_gen X2 (Fr.app N0 N2q)
  have K2 : Keep h0 T2.heap [a0] := (Keep.refl h0 [a0]).trans kq2 (allS (Or.inl (mg 0 rfl)) all0)
  have Z2 : n0 ≤ T2.heap.size := Nat.le_trans Z0 kq2.1
  have rh3 := rh0.trans ch2
  have hCHR := rh3.trans (CHv.at (s := s) (vm0 := T2.vm) X2' hZ2 hEW rh3.1)
  obtain ⟨fs, hr, hrun, hended, hWE⟩ := X2'.leaveW (s := s) hS2 (Nat.le_refl _) (v := none) (fun _ => rfl)
  refine ⟨_, _, pre0 _ ?_, hrun, hended, _, _, rfl, ?_, (by rw [hh]; show CHr _ _ _ _ T2.vm T2.heap; exact hCHR), hWE.1, hWE.2.1, hWE.2.2.1, hWE.2.2.2.mono (by decide) (by decide)⟩
  · show SP p e below s₁ (mkF m 0 #[vR a0, vR a1] []) _
    refine XS.aloadN X0.here hx rfl (hb hby d2_0) rfl rfl ?_
    refine XS.aloadN X0.here hx rfl (hb hby d2_1) rfl rfl ?_
    refine XS.iconst X0.here hx rfl (hb hby d2_2) ?_
    refine XS.aloadN X0.here hx rfl (hb hby d2_3) rfl rfl ?_
    show SP p e below s₁ (mkF m 4 #[vR a0, vR a1] [(.ref a1), (.int (0 : Int32)), (.ref a1), (.ref a0)]) _
    refine X0.arraylength hx (by rw [e0]; exact Ar1.1) (State.isArrayOf_alike hZ.alike Ar1.2.1) (g := (mkF m 4 #[vR a0, vR a1] [(.ref a1), (.int (0 : Int32)), (.ref a1), (.ref a0)])) rfl rfl (hb hby d2_4) _ ?_
    rw [len_of Sz1 Ng1]
    show SP p e below s₁ (mkF m 5 #[vR a0, vR a1] [(.int (0 : Int32)), (.int (0 : Int32)), (.ref a1), (.ref a0)]) _
    refine XS.aconstNull X0.here hx rfl (hb hby d2_5) ?_
    show SP p e below s₁ (mkF m 6 #[vR a0, vR a1] [.null, (.int (0 : Int32)), (.int (0 : Int32)), (.ref a1), (.ref a0)]) _
    refine st2.trans ?_
    show SP p e below T2 (mkF m 9 #[vR a0, vR a1] []) _
    exact X2'.returnOut hx Bd.returns (hb hby d2_9) hr
  · show Q2k0 Z a0 a1 k1 h0 n0 _ T2.heap _
    exact ⟨kk2_0, x2_0, rfl, N2, K2, pf2_0, pf2_1, pf2_2, pf2_3, pf2_4⟩
theorem d45_0 : decode jdk_52_method_21_code 0 = .ok (.iconst 0, 1) := by decide +kernel
theorem d45_1 : decode jdk_52_method_21_code 1 = .ok (.istore 5, 2) := by decide +kernel
theorem d45_3 : decode jdk_52_method_21_code 3 = .ok (.iload 5, 2) := by decide +kernel
theorem d45_5 : decode jdk_52_method_21_code 5 = .ok (.iload 4, 2) := by decide +kernel
theorem d45_7 : decode jdk_52_method_21_code 7 = .ok (.if_icmp .ge 37, 3) := by decide +kernel
theorem d45_10 : decode jdk_52_method_21_code 10 = .ok (.aload_n 0, 1) := by decide +kernel
theorem d45_11 : decode jdk_52_method_21_code 11 = .ok (.iload_n 1, 1) := by decide +kernel
theorem d45_12 : decode jdk_52_method_21_code 12 = .ok (.caload, 1) := by decide +kernel
theorem d45_13 : decode jdk_52_method_21_code 13 = .ok (.istore 6, 2) := by decide +kernel
theorem d45_15 : decode jdk_52_method_21_code 15 = .ok (.iload 6, 2) := by decide +kernel
theorem d45_17 : decode jdk_52_method_21_code 17 = .ok (.sipush 255, 3) := by decide +kernel
theorem d45_20 : decode jdk_52_method_21_code 20 = .ok (.if_icmp .le 6, 3) := by decide +kernel
theorem d45_26 : decode jdk_52_method_21_code 26 = .ok (.aload_n 2, 1) := by decide +kernel
theorem d45_27 : decode jdk_52_method_21_code 27 = .ok (.iload_n 3, 1) := by decide +kernel
theorem d45_28 : decode jdk_52_method_21_code 28 = .ok (.iload 6, 2) := by decide +kernel
theorem d45_30 : decode jdk_52_method_21_code 30 = .ok (.i2b, 1) := by decide +kernel
theorem d45_31 : decode jdk_52_method_21_code 31 = .ok (.bastore, 1) := by decide +kernel
theorem d45_32 : decode jdk_52_method_21_code 32 = .ok (.iinc 1 1, 3) := by decide +kernel
theorem d45_35 : decode jdk_52_method_21_code 35 = .ok (.iinc 3 1, 3) := by decide +kernel
theorem d45_38 : decode jdk_52_method_21_code 38 = .ok (.iinc 5 1, 3) := by decide +kernel
theorem d45_41 : decode jdk_52_method_21_code 41 = .ok (.goto (-38), 3) := by decide +kernel
theorem d45_44 : decode jdk_52_method_21_code 44 = .ok (.iload 4, 2) := by decide +kernel
theorem d45_46 : decode jdk_52_method_21_code 46 = .ok (.ireturn, 1) := by decide +kernel
theorem pn_java_lang_StringUTF16 : plainName "java/lang/StringUTF16" = true := by first | (simp [plainName, overriddenIn]; done) | decide +kernel
theorem ef_rm45k1 (m : MethodId) (a0 : Addr) (a2 : Addr) : entryFrame m #[(.ref a0), (.int (0 : Int32)), (.ref a2), (.int (0 : Int32)), (.int (1 : Int32))] 7 = mkF m 0 #[vR a0, vI (0 : Int32), vR a2, vI (0 : Int32), vI (1 : Int32), .unset, .unset] [] := by first | (simp [entryFrame, mkF, argsToLocals, Value.category]; done) | rfl
def Q45k1 (Z : State) (a0 : Addr) (a2 : Addr) (ka0 : ClassId) (c0 : Int32) (k2 : ClassId) (h0 : Heap) (n0 : Nat) (v : Option Value) (h : Heap) (L : List Loc) : Prop := v = some (.int (1 : Int32)) ∧ Fr n0 L ∧ Keep h0 h [a2] ∧ Arv Z h a2 k2 .byte (1 : Int32) [(.int (c0.toInt8.toInt32))] (.int (0 : Int32)) ∧ Exa Z h a2 "[B"
set_option maxRecDepth 65536 in
set_option maxHeartbeats 40000000 in
theorem rm45k1 (l : Launch) (Z : State) (az : Array Value) (hw : HW Z az) (ws : List Jvm.Cond) (a0 : Addr) (a2 : Addr) (ka0 : ClassId) (c0 : Int32) (k2 : ClassId) (h0 : Heap) (n0 : Nat) (Z0 : n0 ≤ h0.size) (V_a0 : Arv Z h0 a0 ka0 .char (1 : Int32) [(.int c0)] (.int (0 : Int32))) (E_a0 : Exa Z h0 a0 "[C") (V_a2 : Arv Z h0 a2 k2 .byte (1 : Int32) [(.int (0 : Int32))] (.int (0 : Int32))) (E_a2 : Exa Z h0 a2 "[B") (hc4 : ¬ ((255 : Int32) < c0)) (g_a2 : n0 ≤ a2) :
    MF l Z h0 ws ⟨"java/lang/StringUTF16", "compress", "([CI[BII)I"⟩ jdk_52_method_21_code 7 (some .int) ⟨0, 0, 0, 0⟩ #[(.ref a0), (.int (0 : Int32)), (.ref a2), (.int (0 : Int32)), (.int (1 : Int32))] (Q45k1 Z a0 a2 ka0 c0 k2 h0 n0) := by
  refine MetFree.of_bodySF (plainFor_of_name pn_java_lang_StringUTF16) hisR ?_
  intro p e s m args below meth c s₁ Bd hml0 hP hK
  obtain ⟨rfl, hZ, hh⟩ := hP
  have hx := Bd.exec
  have hby := Bd.bytes
  have hml : c.maxLocals = 7 := hml0
  have hown : s.vm.findClass "java/lang/StringUTF16" = some m.cls := findClass_of_methodNamed Bd.named
  have hnm := (name_of_methodNamed Bd.named Bd.method).1
  have X0 : Stand p l e (⟨0, 0, 0, 0⟩ : Room) s m #[(.ref a0), (.int (0 : Int32)), (.ref a2), (.int (0 : Int32)), (.int (1 : Int32))] below meth c s₁ [] 0 0 := Stand.of_body Bd
  have e0 : s₁.heap = h0 := by rw [← hh, Bd.state]; rfl
  have N0 := Fr.nil n0
  have pre0 : ∀ t, Steps p.tables e below (s₁.setTop (mkF m 0 #[vR a0, vI (0 : Int32), vR a2, vI (0 : Int32), vI (1 : Int32), .unset, .unset] [])) t → Steps p.tables e below (s₁.setTop (entryFrame m #[(.ref a0), (.int (0 : Int32)), (.ref a2), (.int (0 : Int32)), (.int (1 : Int32))] 7)) t := fun t k => castTop (ef_rm45k1 m a0 a2) k
  obtain ⟨cl1, Ar1, qk1, Sz1, Ng1, Hs1, Gf1⟩ := id V_a0
  have hin2 : ¬ ((0 : Int32) < 0 ∨ cl1.slots.size ≤ ((0 : Int32)).toNatClampNeg) := inb_of Sz1 ⟨by decide, by decide⟩
  have hat3 : cl1.slots[((0 : Int32)).toNatClampNeg]? = some (.int c0) := Hs1.at hin2 rfl
  obtain ⟨cl4, Ar4, qk4, Sz4, Ng4, Hs4, Gf4⟩ := id V_a2
  have hin5 : ¬ ((0 : Int32) < 0 ∨ cl4.slots.size ≤ ((0 : Int32)).toNatClampNeg) := inb_of Sz4 ⟨by decide, by decide⟩
  obtain ⟨T6, h6, X6, e6, W6, st6⟩ := stB X0 hx hZ e0 Ar4 (j := (0 : Int32)) hin5 (g := (mkF m 31 #[vR a0, vI (0 : Int32), vR a2, vI (0 : Int32), vI (1 : Int32), vI (0 : Int32), vI c0] [(.int (c0.toInt8.toInt32)), (.int (0 : Int32)), (.ref a2)])) rfl rfl (hb hby d45_31)
  rw [(own_nb _)] at W6
  have K6 : Keep h0 h6 [a2] := (Keep.refl h0 [a2]).wr W6 (Or.inl (mg 0 rfl))
  have V_a2_6 : Arv Z h6 a2 k2 .byte (1 : Int32) [(.int (c0.toInt8.toInt32))] (.int (0 : Int32)) := Arv.set (v := (.int (c0.toInt8.toInt32))) Ar4 qk4 Sz4 Ng4 Hs4 Gf4 (own_fits (own_nb _) (fits_nar_byte _)) W6 0 rfl (Nat.le_of_ble_eq_true rfl)
  have Z6 : n0 ≤ h6.size := Nat.le_trans Z0 (Keep.of_wr W6).1
  obtain ⟨Lg6, X6', N6⟩ := own_gen X6 (Fr.snoc X6 N0 g_a2)
  have E_a2_u7 : Exa Z h6 a2 "[B" := (E_a2.wr W6)
  obtain ⟨fs, hr, hrun, hended, hW, hsame⟩ := X6'.leave (v := some (.int (1 : Int32))) (fun h => by rw [Bd.returns] at h; cases h)
  refine ⟨_, _, pre0 _ ?_, hrun, hended, _, _, rfl, ?_, ⟨_, rfl⟩, hW, hsame.mono (by decide) (by decide)⟩
  · show SP p e below s₁ (mkF m 0 #[vR a0, vI (0 : Int32), vR a2, vI (0 : Int32), vI (1 : Int32), .unset, .unset] []) _
    refine XS.iconst X0.here hx rfl (hb hby d45_0) ?_
    refine XS.istore X0.here hx rfl (hb hby d45_1) rfl (l' := #[vR a0, vI (0 : Int32), vR a2, vI (0 : Int32), vI (1 : Int32), vI (0 : Int32), .unset]) rfl ?_
    refine XS.iload X0.here hx rfl (hb hby d45_3) rfl ?_
    refine XS.iload X0.here hx rfl (hb hby d45_5) rfl ?_
    refine XS.icmpNo X0.here hx rfl (hb hby d45_7) rfl (tlt (by decide : (0 : Int32) < (1 : Int32))).2.1 ?_
    refine XS.aloadN X0.here hx rfl (hb hby d45_10) rfl rfl ?_
    refine XS.iloadN X0.here hx rfl (hb hby d45_11) rfl ?_
    show SP p e below s₁ (mkF m 12 #[vR a0, vI (0 : Int32), vR a2, vI (0 : Int32), vI (1 : Int32), vI (0 : Int32), .unset] [(.int (0 : Int32)), (.ref a0)]) _
    refine X0.caload hx (j := (0 : Int32)) (v := (.int c0)) (by rw [e0]; exact Ar1.1) (State.isArrayOf_alike hZ.alike Ar1.2.1) Ar1.2.2 hin2 hat3 (g := (mkF m 12 #[vR a0, vI (0 : Int32), vR a2, vI (0 : Int32), vI (1 : Int32), vI (0 : Int32), .unset] [(.int (0 : Int32)), (.ref a0)])) rfl rfl (hb hby d45_12) _ ?_
    show SP p e below s₁ (mkF m 13 #[vR a0, vI (0 : Int32), vR a2, vI (0 : Int32), vI (1 : Int32), vI (0 : Int32), .unset] [(.int c0)]) _
    refine XS.istore X0.here hx rfl (hb hby d45_13) rfl (l' := #[vR a0, vI (0 : Int32), vR a2, vI (0 : Int32), vI (1 : Int32), vI (0 : Int32), vI c0]) rfl ?_
    refine XS.iload X0.here hx rfl (hb hby d45_15) rfl ?_
    refine XS.sipush X0.here hx rfl (hb hby d45_17) ?_
    refine XS.icmpYes X0.here hx rfl (pc0 := 20) (pc' := 26) rfl (hb hby d45_20) rfl (flt hc4).2.2.2 (by decide) (by decide) ?_
    refine XS.aloadN X0.here hx rfl (hb hby d45_26) rfl rfl ?_
    refine XS.iloadN X0.here hx rfl (hb hby d45_27) rfl ?_
    refine XS.iload X0.here hx rfl (hb hby d45_28) rfl ?_
    show SP p e below s₁ (mkF m 30 #[vR a0, vI (0 : Int32), vR a2, vI (0 : Int32), vI (1 : Int32), vI (0 : Int32), vI c0] [(.int c0), (.int (0 : Int32)), (.ref a2)]) _
    refine XS.i2b X0.here hx rfl (hb hby d45_30) rfl ?_
    show SP p e below s₁ (mkF m 31 #[vR a0, vI (0 : Int32), vR a2, vI (0 : Int32), vI (1 : Int32), vI (0 : Int32), vI c0] [(.int (c0.toInt8.toInt32)), (.int (0 : Int32)), (.ref a2)]) _
    refine st6 _ ?_
    show SP p e below T6 (mkF m 32 #[vR a0, vI (0 : Int32), vR a2, vI (0 : Int32), vI (1 : Int32), vI (0 : Int32), vI c0] []) _
    refine XS.iinc X6'.here hx rfl (hb hby d45_32) rfl (l' := #[vR a0, vI (1 : Int32), vR a2, vI (0 : Int32), vI (1 : Int32), vI (0 : Int32), vI c0]) rfl ?_
    refine XS.iinc X6'.here hx rfl (hb hby d45_35) rfl (l' := #[vR a0, vI (1 : Int32), vR a2, vI (1 : Int32), vI (1 : Int32), vI (0 : Int32), vI c0]) rfl ?_
    refine XS.iinc X6'.here hx rfl (hb hby d45_38) rfl (l' := #[vR a0, vI (1 : Int32), vR a2, vI (1 : Int32), vI (1 : Int32), vI (1 : Int32), vI c0]) rfl ?_
    refine XS.goto X6'.here hx rfl (pc0 := 41) (pc' := 3) rfl (hb hby d45_41) (by decide) (by decide) ?_
    refine XS.iload X6'.here hx rfl (hb hby d45_3) rfl ?_
    refine XS.iload X6'.here hx rfl (hb hby d45_5) rfl ?_
    refine XS.icmpYes X6'.here hx rfl (pc0 := 7) (pc' := 44) rfl (hb hby d45_7) rfl (flt (by decide : ¬ ((1 : Int32) < (1 : Int32)))).2.1 (by decide) (by decide) ?_
    refine XS.iload X6'.here hx rfl (hb hby d45_44) rfl ?_
    show SP p e below T6 (mkF m 46 #[vR a0, vI (1 : Int32), vR a2, vI (1 : Int32), vI (1 : Int32), vI (1 : Int32), vI c0] [(.int (1 : Int32))]) _
    exact retI X6' hx Bd.returns (hb hby d45_46) hr
  · show Q45k1 Z a0 a2 ka0 c0 k2 h0 n0 _ T6.heap _
    rw [e6]
    exact ⟨rfl, N6, K6, V_a2_6, E_a2_u7⟩
theorem d44_0 : decode jdk_52_method_16_code 0 = .ok (.iload_n 2, 1) := by decide +kernel
theorem d44_1 : decode jdk_52_method_16_code 1 = .ok (.newarray .byte, 2) := by decide +kernel
theorem d44_3 : decode jdk_52_method_16_code 3 = .ok (.astore_n 3, 1) := by decide +kernel
theorem d44_4 : decode jdk_52_method_16_code 4 = .ok (.aload_n 0, 1) := by decide +kernel
theorem d44_5 : decode jdk_52_method_16_code 5 = .ok (.iload_n 1, 1) := by decide +kernel
theorem d44_6 : decode jdk_52_method_16_code 6 = .ok (.aload_n 3, 1) := by decide +kernel
theorem d44_7 : decode jdk_52_method_16_code 7 = .ok (.iconst 0, 1) := by decide +kernel
theorem d44_8 : decode jdk_52_method_16_code 8 = .ok (.iload_n 2, 1) := by decide +kernel
theorem d44_9 : decode jdk_52_method_16_code 9 = .ok (.invokestatic 115, 3) := by decide +kernel
theorem pd_18 : parseMethodDescriptor "([CI[BII)I" = some ⟨[(.array .char), .int, (.array .byte), .int, .int], some .int⟩ := by decide +kernel
theorem d44_12 : decode jdk_52_method_16_code 12 = .ok (.istore 4, 2) := by decide +kernel
theorem d44_14 : decode jdk_52_method_16_code 14 = .ok (.iload 4, 2) := by decide +kernel
theorem d44_16 : decode jdk_52_method_16_code 16 = .ok (.iload_n 2, 1) := by decide +kernel
theorem d44_17 : decode jdk_52_method_16_code 17 = .ok (.if_icmp .eq 40, 3) := by decide +kernel
theorem d44_57 : decode jdk_52_method_16_code 57 = .ok (.aload_n 3, 1) := by decide +kernel
theorem d44_58 : decode jdk_52_method_16_code 58 = .ok (.areturn, 1) := by decide +kernel
theorem ef_rm44k1 (m : MethodId) (a0 : Addr) : entryFrame m #[(.ref a0), (.int (0 : Int32)), (.int (1 : Int32))] 6 = mkF m 0 #[vR a0, vI (0 : Int32), vI (1 : Int32), .unset, .unset, .unset] [] := by first | (simp [entryFrame, mkF, argsToLocals, Value.category]; done) | rfl
def Q44k1 (Z : State) (a0 : Addr) (ka0 : ClassId) (c0 : Int32) (h0 : Heap) (n0 : Nat) (v : Option Value) (h : Heap) (L : List Loc) : Prop := ∃ r0 : Addr, ∃ rk0 : ClassId, v = some (.ref r0) ∧ Fr n0 L ∧ h0.size ≤ r0 ∧ Keep h0 h [] ∧ Exa Z h r0 "[B" ∧ Arv Z h r0 rk0 .byte (1 : Int32) [(.int (c0.toInt8.toInt32))] (.int (0 : Int32))
set_option maxRecDepth 65536 in
set_option maxHeartbeats 40000000 in
theorem rm44k1 (l : Launch) (Z : State) (az : Array Value) (hw : HW Z az) (ws : List Jvm.Cond) (a0 : Addr) (ka0 : ClassId) (c0 : Int32) (h0 : Heap) (n0 : Nat) (Z0 : n0 ≤ h0.size) (V_a0 : Arv Z h0 a0 ka0 .char (1 : Int32) [(.int c0)] (.int (0 : Int32))) (E_a0 : Exa Z h0 a0 "[C") (hc2 : ¬ ((255 : Int32) < c0)) :
    MF l Z h0 ws ⟨"java/lang/StringUTF16", "compress", "([CII)[B"⟩ jdk_52_method_16_code 6 (some (.array .byte)) ⟨1, 1, 1, 18⟩ #[(.ref a0), (.int (0 : Int32)), (.int (1 : Int32))] (Q44k1 Z a0 ka0 c0 h0 n0) := by
  refine MetFree.of_bodySF (plainFor_of_name pn_java_lang_StringUTF16) hisR ?_
  intro p e s m args below meth c s₁ Bd hml0 hP hK
  obtain ⟨rfl, hZ, hh⟩ := hP
  have hx := Bd.exec
  have hby := Bd.bytes
  have hml : c.maxLocals = 6 := hml0
  have hown : s.vm.findClass "java/lang/StringUTF16" = some m.cls := findClass_of_methodNamed Bd.named
  have hnm := (name_of_methodNamed Bd.named Bd.method).1
  have X0 : Stand p l e (⟨1, 1, 1, 18⟩ : Room) s m #[(.ref a0), (.int (0 : Int32)), (.int (1 : Int32))] below meth c s₁ [] 0 0 := Stand.of_body Bd
  have e0 : s₁.heap = h0 := by rw [← hh, Bd.state]; rfl
  have N0 := Fr.nil n0
  have pre0 : ∀ t, Steps p.tables e below (s₁.setTop (mkF m 0 #[vR a0, vI (0 : Int32), vI (1 : Int32), .unset, .unset, .unset] [])) t → Steps p.tables e below (s₁.setTop (entryFrame m #[(.ref a0), (.int (0 : Int32)), (.int (1 : Int32))] 6)) t := fun t k => castTop (ef_rm44k1 m a0) k
  obtain ⟨T1, h1, k1, X1, e1, E1, A1, x1, st1⟩ := newPE X0 hx hZ (aty := .byte) (w19 hw) e0 (g := (mkF m 1 #[vR a0, vI (0 : Int32), vI (1 : Int32), .unset, .unset, .unset] [(.int (1 : Int32))])) rfl (hb hby d44_1) rfl (by decide) (cap := 1) (by decide) (by decide) (by decide) (by decide) (ad := "[B") (by decide)
  obtain ⟨b1, g1⟩ : ∃ z, z = h0.size := ⟨_, rfl⟩
  rw [← g1] at A1 x1 st1
  have g_b1 : n0 ≤ b1 := Nat.le_trans Z0 (Nat.le_of_eq g1.symm)
  have sz_b1 : h0.size ≤ b1 := Nat.le_trans (Nat.le_refl _) (Nat.le_of_eq g1.symm)
  have Z1 : n0 ≤ h1.size := Nat.le_trans Z0 E1.1
  have K1 : Keep h0 h1 [] := (Keep.refl h0 []).ext E1
  have E_b1 := x1
  have V_b1 : Arv Z h1 b1 k1 .byte (1 : Int32) [(.int (0 : Int32))] (.int (0 : Int32)) := (Arv.new A1 (by decide)).pad (pad_rep [] (.int (0 : Int32)) 1)
  have V_a0_u3 : Arv Z h1 a0 ka0 .char (1 : Int32) [(.int c0)] (.int (0 : Int32)) := (V_a0.ext E1)
  have E_a0_u4 : Exa Z h1 a0 "[C" := (E_a0.ext E1)
  obtain ⟨_, _, ⟨T2, L2, k2', n2'⟩, -, X2, ⟨Lc2, hQ2, l2, y2, z2⟩, st2⟩ := Jvm.LawKit.callS X1 hx (y := (⟨"java/lang/StringUTF16", "compress", "([CI[BII)I"⟩ : MethodName)) hown (mvT hZ (w268 hw)) (mvT hZ (w269 hw)) (mvT hZ (w266 hw)) (mvT hZ (w270 hw)) (by decide) (backOf (W := 0) (rm45k1 l Z az hw [] a0 b1 ka0 c0 k1 h1 n0 Z1 V_a0_u3 E_a0_u4 V_b1 E_b1 hc2 g_b1) hZ (w270 hw) (w266 hw) (by decide) (by decide)) (g := (mkF m 9 #[vR a0, vI (0 : Int32), vI (1 : Int32), vR b1, .unset, .unset] [(.int (1 : Int32)), (.int (0 : Int32)), (.ref b1), (.int (0 : Int32)), (.ref a0)])) rfl (by rw [hml]; rfl) (argsL := [(.ref a0), (.int (0 : Int32)), (.ref b1), (.int (0 : Int32)), (.int (1 : Int32))]) (rest := []) (lenOf pd_18 rfl) rfl (Nat.le_of_eq rfl) (hb hby d44_9) (fun _ _ => ⟨rfl, e1, (by decide : 1 + 0 ≤ _), (by decide : 1 + 0 ≤ _)⟩)
  dsimp only [Pt.U, Pt.locs, Pt.cells, Pt.slots] at X2 l2 y2 z2 st2 hQ2
  subst l2 y2 z2
  obtain ⟨rfl, N2q, kq2, pf2_0, pf2_1⟩ := hQ2
  obtain ⟨Lg2, X2', N2⟩ := own_gen X2 (Fr.app N0 N2q)
  have K2 : Keep h0 T2.heap [] := K1.trans kq2 (allS (Or.inr sz_b1) all0)
  have Z2 : n0 ≤ T2.heap.size := Nat.le_trans Z1 kq2.1
  obtain ⟨fs, hr, hrun, hended, hW, hsame⟩ := X2'.leave (v := some (.ref b1)) (fun h => by rw [Bd.returns] at h; cases h)
  refine ⟨_, _, pre0 _ ?_, hrun, hended, _, _, rfl, ?_, ⟨_, rfl⟩, hW, hsame.mono (by decide) (by decide)⟩
  · show SP p e below s₁ (mkF m 0 #[vR a0, vI (0 : Int32), vI (1 : Int32), .unset, .unset, .unset] []) _
    refine XS.iloadN X0.here hx rfl (hb hby d44_0) rfl ?_
    show SP p e below s₁ (mkF m 1 #[vR a0, vI (0 : Int32), vI (1 : Int32), .unset, .unset, .unset] [(.int (1 : Int32))]) _
    refine st1 _ ?_
    show SP p e below T1 (mkF m 3 #[vR a0, vI (0 : Int32), vI (1 : Int32), .unset, .unset, .unset] [(.ref b1)]) _
    refine XS.astoreN X1.here hx rfl (hb hby d44_3) rfl rfl (l' := #[vR a0, vI (0 : Int32), vI (1 : Int32), vR b1, .unset, .unset]) rfl ?_
    refine XS.aloadN X1.here hx rfl (hb hby d44_4) rfl rfl ?_
    refine XS.iloadN X1.here hx rfl (hb hby d44_5) rfl ?_
    refine XS.aloadN X1.here hx rfl (hb hby d44_6) rfl rfl ?_
    refine XS.iconst X1.here hx rfl (hb hby d44_7) ?_
    refine XS.iloadN X1.here hx rfl (hb hby d44_8) rfl ?_
    show SP p e below T1 (mkF m 9 #[vR a0, vI (0 : Int32), vI (1 : Int32), vR b1, .unset, .unset] [(.int (1 : Int32)), (.int (0 : Int32)), (.ref b1), (.int (0 : Int32)), (.ref a0)]) _
    refine st2 _ ?_
    show SP p e below T2 (mkF m 12 #[vR a0, vI (0 : Int32), vI (1 : Int32), vR b1, .unset, .unset] [(.int (1 : Int32))]) _
    refine XS.istore X2'.here hx rfl (hb hby d44_12) rfl (l' := #[vR a0, vI (0 : Int32), vI (1 : Int32), vR b1, vI (1 : Int32), .unset]) rfl ?_
    refine XS.iload X2'.here hx rfl (hb hby d44_14) rfl ?_
    refine XS.iloadN X2'.here hx rfl (hb hby d44_16) rfl ?_
    refine XS.icmpYes X2'.here hx rfl (pc0 := 17) (pc' := 57) rfl (hb hby d44_17) rfl (teq (by decide : (1 : Int32) = (1 : Int32))).1 (by decide) (by decide) ?_
    refine XS.aloadN X2'.here hx rfl (hb hby d44_57) rfl rfl ?_
    show SP p e below T2 (mkF m 58 #[vR a0, vI (0 : Int32), vI (1 : Int32), vR b1, vI (1 : Int32), .unset] [(.ref b1)]) _
    jvm_step X2'.here [X2'.here.top, hx, (hb hby d44_58), X2'.method', Bd.returns, Value.isRef, FieldType.isReference]
    first | (intro acts; rw [hr _ acts rfl rfl rfl]) | rw [hr _ _ rfl rfl rfl]
    exact Steps.refl _
  · show Q44k1 Z a0 ka0 c0 h0 n0 _ T2.heap _
    exact ⟨b1, k1, rfl, N2, sz_b1, K2, pf2_1, pf2_0⟩
theorem d46_0 : decode jdk_52_method_15_code 0 = .ok (.iload_n 1, 1) := by decide +kernel
theorem d46_1 : decode jdk_52_method_15_code 1 = .ok (.aload_n 0, 1) := by decide +kernel
theorem d46_2 : decode jdk_52_method_15_code 2 = .ok (.arraylength, 1) := by decide +kernel
theorem d46_3 : decode jdk_52_method_15_code 3 = .ok (.isub, 1) := by decide +kernel
theorem d46_4 : decode jdk_52_method_15_code 4 = .ok (.bipush 31, 2) := by decide +kernel
theorem d46_6 : decode jdk_52_method_15_code 6 = .ok (.iushr, 1) := by decide +kernel
theorem d46_7 : decode jdk_52_method_15_code 7 = .ok (.i2b, 1) := by decide +kernel
theorem d46_8 : decode jdk_52_method_15_code 8 = .ok (.ireturn, 1) := by decide +kernel
theorem ef_rm46k1 (m : MethodId) (a0 : Addr) : entryFrame m #[(.ref a0), (.int (1 : Int32))] 2 = mkF m 0 #[vR a0, vI (1 : Int32)] [] := by first | (simp [entryFrame, mkF, argsToLocals, Value.category]; done) | rfl
def Q46k1 (Z : State) (a0 : Addr) (k0 : ClassId) (b0 : Int32) (h0 : Heap) (n0 : Nat) (v : Option Value) (h : Heap) (L : List Loc) : Prop := v = some (.int (0 : Int32)) ∧ Fr n0 L ∧ h = h0
set_option maxRecDepth 65536 in
set_option maxHeartbeats 40000000 in
theorem rm46k1 (l : Launch) (Z : State) (az : Array Value) (hw : HW Z az) (ws : List Jvm.Cond) (a0 : Addr) (k0 : ClassId) (b0 : Int32) (h0 : Heap) (n0 : Nat) (Z0 : n0 ≤ h0.size) (V_a0 : Arv Z h0 a0 k0 .byte (1 : Int32) [(.int b0)] (.int (0 : Int32))) :
    MF l Z h0 ws ⟨"java/lang/StringUTF16", "coderFromArrayLen", "([BI)B"⟩ jdk_52_method_15_code 2 (some .byte) ⟨0, 0, 0, 0⟩ #[(.ref a0), (.int (1 : Int32))] (Q46k1 Z a0 k0 b0 h0 n0) := by
  refine MetFree.of_bodySF (plainFor_of_name pn_java_lang_StringUTF16) hisR ?_
  intro p e s m args below meth c s₁ Bd hml0 hP hK
  obtain ⟨rfl, hZ, hh⟩ := hP
  have hx := Bd.exec
  have hby := Bd.bytes
  have hml : c.maxLocals = 2 := hml0
  have hown : s.vm.findClass "java/lang/StringUTF16" = some m.cls := findClass_of_methodNamed Bd.named
  have hnm := (name_of_methodNamed Bd.named Bd.method).1
  have X0 : Stand p l e (⟨0, 0, 0, 0⟩ : Room) s m #[(.ref a0), (.int (1 : Int32))] below meth c s₁ [] 0 0 := Stand.of_body Bd
  have e0 : s₁.heap = h0 := by rw [← hh, Bd.state]; rfl
  have N0 := Fr.nil n0
  have pre0 : ∀ t, Steps p.tables e below (s₁.setTop (mkF m 0 #[vR a0, vI (1 : Int32)] [])) t → Steps p.tables e below (s₁.setTop (entryFrame m #[(.ref a0), (.int (1 : Int32))] 2)) t := fun t k => castTop (ef_rm46k1 m a0) k
  obtain ⟨cl1, Ar1, qk1, Sz1, Ng1, Hs1, Gf1⟩ := id V_a0
  obtain ⟨fs, hr, hrun, hended, hW, hsame⟩ := X0.leave (v := some (.int (0 : Int32))) (fun h => by rw [Bd.returns] at h; cases h)
  refine ⟨_, _, pre0 _ ?_, hrun, hended, _, _, rfl, ?_, ⟨_, rfl⟩, hW, hsame.mono (by decide) (by decide)⟩
  · show SP p e below s₁ (mkF m 0 #[vR a0, vI (1 : Int32)] []) _
    refine XS.iloadN X0.here hx rfl (hb hby d46_0) rfl ?_
    refine XS.aloadN X0.here hx rfl (hb hby d46_1) rfl rfl ?_
    show SP p e below s₁ (mkF m 2 #[vR a0, vI (1 : Int32)] [(.ref a0), (.int (1 : Int32))]) _
    refine X0.arraylength hx (by rw [e0]; exact Ar1.1) (State.isArrayOf_alike hZ.alike Ar1.2.1) (g := (mkF m 2 #[vR a0, vI (1 : Int32)] [(.ref a0), (.int (1 : Int32))])) rfl rfl (hb hby d46_2) _ ?_
    rw [len_of Sz1 Ng1]
    show SP p e below s₁ (mkF m 3 #[vR a0, vI (1 : Int32)] [(.int (1 : Int32)), (.int (1 : Int32))]) _
    refine XS.isub X0.here hx rfl (hb hby d46_3) rfl ?_
    refine XS.bipush X0.here hx rfl (hb hby d46_4) ?_
    refine XS.iushr X0.here hx rfl (hb hby d46_6) rfl ?_
    show SP p e below s₁ (mkF m 7 #[vR a0, vI (1 : Int32)] [(.int (0 : Int32))]) _
    refine XS.i2b X0.here hx rfl (hb hby d46_7) rfl ?_
    show SP p e below s₁ (mkF m 8 #[vR a0, vI (1 : Int32)] [(.int (0 : Int32))]) _
    exact retN X0 hx (t := .byte) Bd.returns (by simp) (hb hby d46_8) hr
  · show Q46k1 Z a0 k0 b0 h0 n0 _ s₁.heap _
    rw [e0]
    exact ⟨rfl, N0, rfl⟩
theorem d3_27 : decode jdk_42_method_149_code 27 = .ok (.getstatic 38, 3) := by decide +kernel
theorem d3_30 : decode jdk_42_method_149_code 30 = .ok (.ifCond .eq 28, 3) := by decide +kernel
theorem d3_33 : decode jdk_42_method_149_code 33 = .ok (.aload_n 1, 1) := by decide +kernel
theorem d3_34 : decode jdk_42_method_149_code 34 = .ok (.iload_n 2, 1) := by decide +kernel
theorem d3_35 : decode jdk_42_method_149_code 35 = .ok (.iload_n 3, 1) := by decide +kernel
theorem d3_36 : decode jdk_42_method_149_code 36 = .ok (.invokestatic 177, 3) := by decide +kernel
theorem pd_19 : parseMethodDescriptor "([CII)[B" = some ⟨[(.array .char), .int, .int], some (.array .byte)⟩ := by decide +kernel
theorem d3_39 : decode jdk_42_method_149_code 39 = .ok (.astore 5, 2) := by decide +kernel
theorem d3_41 : decode jdk_42_method_149_code 41 = .ok (.aload_n 0, 1) := by decide +kernel
theorem d3_42 : decode jdk_42_method_149_code 42 = .ok (.aload 5, 2) := by decide +kernel
theorem d3_44 : decode jdk_42_method_149_code 44 = .ok (.iload_n 3, 1) := by decide +kernel
theorem d3_45 : decode jdk_42_method_149_code 45 = .ok (.invokestatic 47, 3) := by decide +kernel
theorem pd_20 : parseMethodDescriptor "([BI)B" = some ⟨[(.array .byte), .int], some .byte⟩ := by decide +kernel
theorem d3_48 : decode jdk_42_method_149_code 48 = .ok (.putfield 15, 3) := by decide +kernel
theorem d3_51 : decode jdk_42_method_149_code 51 = .ok (.aload_n 0, 1) := by decide +kernel
theorem d3_52 : decode jdk_42_method_149_code 52 = .ok (.aload 5, 2) := by decide +kernel
theorem d3_54 : decode jdk_42_method_149_code 54 = .ok (.putfield 9, 3) := by decide +kernel
theorem d3_57 : decode jdk_42_method_149_code 57 = .ok (.return_, 1) := by decide +kernel
theorem ef_rm3k1 (m : MethodId) (a0 : Addr) (a1 : Addr) : entryFrame m #[(.ref a0), (.ref a1), (.int (0 : Int32)), (.int (1 : Int32)), .null] 6 = mkF m 0 #[vR a0, vR a1, vI (0 : Int32), vI (1 : Int32), .val .null, .unset] [] := by first | (simp [entryFrame, mkF, argsToLocals, Value.category]; done) | rfl
def Q3k1 (Z : State) (a0 : Addr) (a1 : Addr) (sC : Int32) (ka1 : ClassId) (c0 : Int32) (h0 : Heap) (n0 : Nat) (v : Option Value) (h : Heap) (L : List Loc) : Prop := ∃ r0 : Addr, ∃ rk0 : ClassId, v = none ∧ Fr n0 L ∧ h0.size ≤ r0 ∧ Keep h0 h [a0] ∧ Exa Z h a0 cST ∧ Fld Z h a0 cST "value" "[B" (.ref r0) ∧ Fld Z h a0 cST "coder" "B" (.int (0 : Int32)) ∧ Exa Z h r0 "[B" ∧ Arv Z h r0 rk0 .byte (1 : Int32) [(.int (c0.toInt8.toInt32))] (.int (0 : Int32))
set_option maxRecDepth 65536 in
set_option maxHeartbeats 40000000 in
theorem rm3k1 (l : Launch) (Z : State) (az : Array Value) (hw : HW Z az) (ws : List Jvm.Cond) (a0 : Addr) (a1 : Addr) (sC : Int32) (ka1 : ClassId) (c0 : Int32) (h0 : Heap) (n0 : Nat) (Z0 : n0 ≤ h0.size) (S_COMPACT_STRINGS : Sta Z h0 cST "COMPACT_STRINGS" "Z" (.int sC)) (hc1 : ¬ (sC = (0 : Int32))) (E_a0 : Exa Z h0 a0 cST) (F_value_a0 : Fld Z h0 a0 cST "value" "[B" .null) (F_coder_a0 : Fld Z h0 a0 cST "coder" "B" (.int (0 : Int32))) (V_a1 : Arv Z h0 a1 ka1 .char (1 : Int32) [(.int c0)] (.int (0 : Int32))) (E_a1 : Exa Z h0 a1 "[C") (hc7 : ¬ ((255 : Int32) < c0)) (g_a0 : n0 ≤ a0) :
    MF l Z h0 ws ⟨cST, "<init>", "([CIILjava/lang/Void;)V"⟩ jdk_42_method_149_code 6 none ⟨2, 1, 1, 35⟩ #[(.ref a0), (.ref a1), (.int (0 : Int32)), (.int (1 : Int32)), .null] (Q3k1 Z a0 a1 sC ka1 c0 h0 n0) := by
  refine MetFree.of_bodySF (plainFor_of_name pn_java_lang_String) hisR ?_
  intro p e s m args below meth c s₁ Bd hml0 hP hK
  obtain ⟨rfl, hZ, hh⟩ := hP
  have hx := Bd.exec
  have hby := Bd.bytes
  have hml : c.maxLocals = 6 := hml0
  have hown : s.vm.findClass cST = some m.cls := findClass_of_methodNamed Bd.named
  have hnm := (name_of_methodNamed Bd.named Bd.method).1
  have X0 : Stand p l e (⟨2, 1, 1, 35⟩ : Room) s m #[(.ref a0), (.ref a1), (.int (0 : Int32)), (.int (1 : Int32)), .null] below meth c s₁ [] 0 0 := Stand.of_body Bd
  have e0 : s₁.heap = h0 := by rw [← hh, Bd.state]; rfl
  have N0 := Fr.nil n0
  have pre0 : ∀ t, Steps p.tables e below (s₁.setTop (mkF m 0 #[vR a0, vR a1, vI (0 : Int32), vI (1 : Int32), .val .null, .unset] [])) t → Steps p.tables e below (s₁.setTop (entryFrame m #[(.ref a0), (.ref a1), (.int (0 : Int32)), (.int (1 : Int32)), .null] 6)) t := fun t k => castTop (ef_rm3k1 m a0 a1) k
  obtain ⟨T1, X1, e1, st1⟩ := initO X0 hx hZ hown (w15 hw) (w16 hw) (w17 hw) e0 (g := (mkF m 1 #[vR a0, vR a1, vI (0 : Int32), vI (1 : Int32), .val .null, .unset] [(.ref a0)])) rfl (by rw [hml]; rfl) rfl (hb hby d3_1) (by decide) (W := 0) (Nat.le_of_eq rfl) (by decide)
  obtain ⟨T2, X2, e2, st2⟩ := getS2 X1 hx hZ hown (host := "") (Or.inl (w71 hw)) Via.refl e1 S_COMPACT_STRINGS (g := (mkF m 27 #[vR a0, vR a1, vI (0 : Int32), vI (1 : Int32), .val .null, .unset] [])) rfl (hb hby d3_27)
  obtain ⟨_, _, ⟨T3, L3, k3', n3'⟩, -, X3, ⟨Lc3, hQ3, l3, y3, z3⟩, st3⟩ := Jvm.LawKit.callS X2 hx (y := (⟨"java/lang/StringUTF16", "compress", "([CII)[B"⟩ : MethodName)) hown (mvT hZ (w264 hw)) (mvT hZ (w265 hw)) (mvT hZ (w266 hw)) (mvT hZ (w267 hw)) (by decide) (backOf (W := 0) (rm44k1 l Z az hw [] a1 ka1 c0 h0 n0 Z0 V_a1 E_a1 hc7) hZ (w267 hw) (w266 hw) (by decide) (by decide)) (g := (mkF m 36 #[vR a0, vR a1, vI (0 : Int32), vI (1 : Int32), .val .null, .unset] [(.int (1 : Int32)), (.int (0 : Int32)), (.ref a1)])) rfl (by rw [hml]; rfl) (argsL := [(.ref a1), (.int (0 : Int32)), (.int (1 : Int32))]) (rest := []) (lenOf pd_19 rfl) rfl (Nat.le_of_eq rfl) (hb hby d3_36) (fun _ _ => ⟨rfl, e2, (by decide : 0 + 1 ≤ _), (by decide : 0 + 1 ≤ _)⟩)
  dsimp only [Pt.U, Pt.locs, Pt.cells, Pt.slots] at X3 l3 y3 z3 st3 hQ3
  subst l3 y3 z3
  obtain ⟨b3_0, kk3_0, rfl, N3q, s3_0, kq3, pf3_0, pf3_1⟩ := hQ3
  obtain ⟨Lg3, X3', N3⟩ := own_gen X3 (Fr.app N0 N3q)
  have g_b3_0 : n0 ≤ b3_0 := Nat.le_trans Z0 s3_0
  have sz_b3_0 : h0.size ≤ b3_0 := Nat.le_trans (Nat.le_refl _) s3_0
  have K3 : Keep h0 T3.heap [a0] := (Keep.refl h0 [a0]).trans kq3 all0
  have Z3 : n0 ≤ T3.heap.size := Nat.le_trans Z0 kq3.1
  obtain ⟨_, _, ⟨T4, L4, k4', n4'⟩, -, X4, ⟨Lc4, hQ4, l4, y4, z4⟩, st4⟩ := Jvm.LawKit.callS X3' hx (y := (⟨"java/lang/StringUTF16", "coderFromArrayLen", "([BI)B"⟩ : MethodName)) hown (mvT hZ (w271 hw)) (mvT hZ (w272 hw)) (mvT hZ (w266 hw)) (mvT hZ (w273 hw)) (by decide) (backOf (W := 1) (rm46k1 l Z az hw [] b3_0 kk3_0 (c0.toInt8.toInt32) T3.heap n0 Z3 pf3_1) hZ (w273 hw) (w266 hw) (by decide) (by decide)) (g := (mkF m 45 #[vR a0, vR a1, vI (0 : Int32), vI (1 : Int32), .val .null, vR b3_0] [(.int (1 : Int32)), (.ref b3_0), (.ref a0)])) rfl (by rw [hml]; rfl) (argsL := [(.ref b3_0), (.int (1 : Int32))]) (rest := [(.ref a0)]) (lenOf pd_20 rfl) rfl (Nat.le_of_eq rfl) (hb hby d3_45) (fun _ _ => ⟨rfl, rfl, (by decide : 1 + 0 ≤ _), (by decide : 1 + 0 ≤ _)⟩)
  dsimp only [Pt.U, Pt.locs, Pt.cells, Pt.slots] at X4 l4 y4 z4 st4 hQ4
  subst l4 y4 z4
  obtain ⟨rfl, N4q, e4⟩ := hQ4
  obtain ⟨Lg4, X4', N4⟩ := own_gen X4 (Fr.app N3 N4q)
  have F_a0_coder_u5 : Fld Z T3.heap a0 cST "coder" "B" (.int (0 : Int32)) := (F_coder_a0.keep kq3 nin0)
  have E_a0_u6 : Exa Z T3.heap a0 cST := (E_a0.keep kq3)
  obtain ⟨T7, h7, X7, e7, W7, st7⟩ := putFN X4' hx hZ hown (w25 hw) Via.refl e4 F_a0_coder_u5 E_a0_u6 (Or.inr ⟨(w21 hw), rfl, hnm⟩) (w5 hw) (ty := .byte) (v := (.int (0 : Int32))) (v' := (.int (0 : Int32))) (by decide) (by decide) (by decide) (g := (mkF m 48 #[vR a0, vR a1, vI (0 : Int32), vI (1 : Int32), .val .null, vR b3_0] [(.int (0 : Int32)), (.ref a0)])) rfl rfl (hb hby d3_48)
  have K7 : Keep h0 h7 [a0] := K3.wr W7 (Or.inl (mg 0 rfl))
  have Fw7 := F_a0_coder_u5.same W7
  have Z7 : n0 ≤ h7.size := Nat.le_trans Z3 (Keep.of_wr W7).1
  obtain ⟨Lg7, X7', N7⟩ := own_gen X7 (Fr.snoc X7 N4 g_a0)
  have F_a0_value_u8 : Fld Z h7 a0 cST "value" "[B" .null := ((F_value_a0.keep kq3 nin0).other W7 (Or.inr (sl_6 hw)))
  have E_a0_u9 : Exa Z h7 a0 cST := (E_a0_u6.wr W7)
  obtain ⟨T10, h10, X10, e10, W10, st10⟩ := putF X7' hx hZ hown (host := "") (Or.inl (w24 hw)) Via.refl e7 F_a0_value_u8 E_a0_u9 (Or.inr ⟨(w20 hw), rfl, hnm⟩) (w5 hw) (ty := (.array .byte)) (by decide) rfl rfl (g := (mkF m 54 #[vR a0, vR a1, vI (0 : Int32), vI (1 : Int32), .val .null, vR b3_0] [(.ref b3_0), (.ref a0)])) rfl rfl (hb hby d3_54)
  have K10 : Keep h0 h10 [a0] := K7.wr W10 (Or.inl (mg 0 rfl))
  have Fw10 := F_a0_value_u8.same W10
  have Z10 : n0 ≤ h10.size := Nat.le_trans Z7 (Keep.of_wr W10).1
  obtain ⟨Lg10, X10', N10⟩ := own_gen X10 (Fr.snoc X10 N7 g_a0)
  have E_a0_u11 : Exa Z h10 a0 cST := (E_a0_u9.wr W10)
  have F_a0_coder_u12 : Fld Z h10 a0 cST "coder" "B" (.int (0 : Int32)) := (Fw7.other W10 (Or.inr (sl_7 hw)))
  have E_b3_0_u13 : Exa Z h10 b3_0 "[B" := ((pf3_0.wr W7).wr W10)
  have ne_a0_b3_0 : a0 ≠ b3_0 := own_ne (Nat.lt_of_lt_of_le E_a0.lt s3_0)
  have V_b3_0_u14 : Arv Z h10 b3_0 kk3_0 .byte (1 : Int32) [(.int (c0.toInt8.toInt32))] (.int (0 : Int32)) := ((pf3_1.other W7 (Ne.symm ne_a0_b3_0)).other W10 (Ne.symm ne_a0_b3_0))
  obtain ⟨fs, hr, hrun, hended, hW, hsame⟩ := X10'.leave (v := none) (fun _ => rfl)
  refine ⟨_, _, pre0 _ ?_, hrun, hended, _, _, rfl, ?_, ⟨_, rfl⟩, hW, hsame.mono (by decide) (by decide)⟩
  · show SP p e below s₁ (mkF m 0 #[vR a0, vR a1, vI (0 : Int32), vI (1 : Int32), .val .null, .unset] []) _
    refine XS.aloadN X0.here hx rfl (hb hby d3_0) rfl rfl ?_
    show SP p e below s₁ (mkF m 1 #[vR a0, vR a1, vI (0 : Int32), vI (1 : Int32), .val .null, .unset] [(.ref a0)]) _
    refine st1 _ ?_
    show SP p e below T1 (mkF m 4 #[vR a0, vR a1, vI (0 : Int32), vI (1 : Int32), .val .null, .unset] []) _
    refine XS.iloadN X1.here hx rfl (hb hby d3_4) rfl ?_
    refine XS.ifYes X1.here hx rfl (pc0 := 5) (pc' := 27) rfl (hb hby d3_5) rfl ((if0 _ _).trans (feq (by decide : ¬ ((1 : Int32) = (0 : Int32)))).2) (by decide) (by decide) ?_
    show SP p e below T1 (mkF m 27 #[vR a0, vR a1, vI (0 : Int32), vI (1 : Int32), .val .null, .unset] []) _
    refine st2 _ ?_
    show SP p e below T2 (mkF m 30 #[vR a0, vR a1, vI (0 : Int32), vI (1 : Int32), .val .null, .unset] [(.int sC)]) _
    refine XS.ifNo X2.here hx rfl (hb hby d3_30) rfl ((if0 _ _).trans (feq hc1).1) ?_
    refine XS.aloadN X2.here hx rfl (hb hby d3_33) rfl rfl ?_
    refine XS.iloadN X2.here hx rfl (hb hby d3_34) rfl ?_
    refine XS.iloadN X2.here hx rfl (hb hby d3_35) rfl ?_
    show SP p e below T2 (mkF m 36 #[vR a0, vR a1, vI (0 : Int32), vI (1 : Int32), .val .null, .unset] [(.int (1 : Int32)), (.int (0 : Int32)), (.ref a1)]) _
    refine st3 _ ?_
    show SP p e below T3 (mkF m 39 #[vR a0, vR a1, vI (0 : Int32), vI (1 : Int32), .val .null, .unset] [(.ref b3_0)]) _
    refine XS.astore X3'.here hx rfl (hb hby d3_39) rfl rfl (l' := #[vR a0, vR a1, vI (0 : Int32), vI (1 : Int32), .val .null, vR b3_0]) rfl ?_
    refine XS.aloadN X3'.here hx rfl (hb hby d3_41) rfl rfl ?_
    refine XS.aload X3'.here hx rfl (hb hby d3_42) rfl rfl ?_
    refine XS.iloadN X3'.here hx rfl (hb hby d3_44) rfl ?_
    show SP p e below T3 (mkF m 45 #[vR a0, vR a1, vI (0 : Int32), vI (1 : Int32), .val .null, vR b3_0] [(.int (1 : Int32)), (.ref b3_0), (.ref a0)]) _
    refine st4 _ ?_
    show SP p e below T4 (mkF m 48 #[vR a0, vR a1, vI (0 : Int32), vI (1 : Int32), .val .null, vR b3_0] [(.int (0 : Int32)), (.ref a0)]) _
    refine st7 _ ?_
    show SP p e below T7 (mkF m 51 #[vR a0, vR a1, vI (0 : Int32), vI (1 : Int32), .val .null, vR b3_0] []) _
    refine XS.aloadN X7'.here hx rfl (hb hby d3_51) rfl rfl ?_
    refine XS.aload X7'.here hx rfl (hb hby d3_52) rfl rfl ?_
    show SP p e below T7 (mkF m 54 #[vR a0, vR a1, vI (0 : Int32), vI (1 : Int32), .val .null, vR b3_0] [(.ref b3_0), (.ref a0)]) _
    refine st10 _ ?_
    show SP p e below T10 (mkF m 57 #[vR a0, vR a1, vI (0 : Int32), vI (1 : Int32), .val .null, vR b3_0] []) _
    exact X10'.returnOut hx Bd.returns (hb hby d3_57) hr
  · show Q3k1 Z a0 a1 sC ka1 c0 h0 n0 _ T10.heap _
    rw [e10]
    exact ⟨b3_0, kk3_0, rfl, N10, sz_b3_0, K10, E_a0_u11, Fw10, F_a0_coder_u12, E_b3_0_u13, V_b3_0_u14⟩
theorem ef_rm2k1 (m : MethodId) (a0 : Addr) (a1 : Addr) : entryFrame m #[(.ref a0), (.ref a1)] 2 = mkF m 0 #[vR a0, vR a1] [] := by first | (simp [entryFrame, mkF, argsToLocals, Value.category]; done) | rfl
def Q2k1 (Z : State) (a0 : Addr) (a1 : Addr) (sC : Int32) (ka1 : ClassId) (c0 : Int32) (h0 : Heap) (n0 : Nat) (v : Option Value) (h : Heap) (L : List Loc) : Prop := ∃ r0 : Addr, ∃ rk0 : ClassId, v = none ∧ Fr n0 L ∧ h0.size ≤ r0 ∧ Keep h0 h [a0] ∧ Exa Z h a0 cST ∧ Fld Z h a0 cST "value" "[B" (.ref r0) ∧ Fld Z h a0 cST "coder" "B" (.int (0 : Int32)) ∧ Exa Z h r0 "[B" ∧ Arv Z h r0 rk0 .byte (1 : Int32) [(.int (c0.toInt8.toInt32))] (.int (0 : Int32))
set_option maxRecDepth 65536 in
set_option maxHeartbeats 40000000 in
theorem rm2k1 (l : Launch) (Z : State) (az : Array Value) (hw : HW Z az) (ws : List Jvm.Cond) (a0 : Addr) (a1 : Addr) (sC : Int32) (ka1 : ClassId) (c0 : Int32) (h0 : Heap) (n0 : Nat) (Z0 : n0 ≤ h0.size) (S_COMPACT_STRINGS : Sta Z h0 cST "COMPACT_STRINGS" "Z" (.int sC)) (hc1 : ¬ (sC = (0 : Int32))) (E_a0 : Exa Z h0 a0 cST) (F_value_a0 : Fld Z h0 a0 cST "value" "[B" .null) (F_coder_a0 : Fld Z h0 a0 cST "coder" "B" (.int (0 : Int32))) (V_a1 : Arv Z h0 a1 ka1 .char (1 : Int32) [(.int c0)] (.int (0 : Int32))) (E_a1 : Exa Z h0 a1 "[C") (hc7 : ¬ ((255 : Int32) < c0)) (g_a0 : n0 ≤ a0) :
    MF l Z h0 ws ⟨cST, "<init>", "([C)V"⟩ jdk_42_method_3_code 2 none ⟨3, 1, 1, 52⟩ #[(.ref a0), (.ref a1)] (Q2k1 Z a0 a1 sC ka1 c0 h0 n0) := by
  refine MetFree.of_bodySF (plainFor_of_name pn_java_lang_String) hisR ?_
  intro p e s m args below meth c s₁ Bd hml0 hP hK
  obtain ⟨rfl, hZ, hh⟩ := hP
  have hx := Bd.exec
  have hby := Bd.bytes
  have hml : c.maxLocals = 2 := hml0
  have hown : s.vm.findClass cST = some m.cls := findClass_of_methodNamed Bd.named
  have hnm := (name_of_methodNamed Bd.named Bd.method).1
  have X0 : Stand p l e (⟨3, 1, 1, 52⟩ : Room) s m #[(.ref a0), (.ref a1)] below meth c s₁ [] 0 0 := Stand.of_body Bd
  have e0 : s₁.heap = h0 := by rw [← hh, Bd.state]; rfl
  have N0 := Fr.nil n0
  have pre0 : ∀ t, Steps p.tables e below (s₁.setTop (mkF m 0 #[vR a0, vR a1] [])) t → Steps p.tables e below (s₁.setTop (entryFrame m #[(.ref a0), (.ref a1)] 2)) t := fun t k => castTop (ef_rm2k1 m a0 a1) k
  obtain ⟨cl1, Ar1, qk1, Sz1, Ng1, Hs1, Gf1⟩ := id V_a1
  obtain ⟨_, _, ⟨T2, L2, k2', n2'⟩, -, X2, ⟨Lc2, hQ2, l2, y2, z2⟩, st2⟩ := X0.specialBack hx (y := (⟨cST, "<init>", "([CIILjava/lang/Void;)V"⟩ : MethodName)) rfl hown (mvT hZ (w11 hw)) (mvT hZ (w12 hw)) (mvT hZ (w14 hw)) (by decide) (backOf (W := 0) (rm3k1 l Z az hw [] a0 a1 sC ka1 c0 h0 n0 Z0 S_COMPACT_STRINGS hc1 E_a0 F_value_a0 F_coder_a0 V_a1 E_a1 hc7 g_a0) hZ (w14 hw) (w6 hw) (by decide) (by decide)) (g := (mkF m 6 #[vR a0, vR a1] [.null, (.int (1 : Int32)), (.int (0 : Int32)), (.ref a1), (.ref a0)])) rfl (by rw [hml]; rfl) (Steps.refl _) (a := a0) (argsL := [(.ref a1), (.int (0 : Int32)), (.int (1 : Int32)), .null]) (rest := []) (lenOf pd_17 rfl) rfl (Nat.le_of_eq rfl) (hb hby d2_6) (fun _ _ => ⟨rfl, e0, (by decide : 0 + 1 ≤ _), (by decide : 0 + 1 ≤ _)⟩)
  dsimp only [Pt.U, Pt.locs, Pt.cells, Pt.slots] at X2 l2 y2 z2 st2 hQ2
  subst l2 y2 z2
  obtain ⟨b2_0, kk2_0, rfl, N2q, s2_0, kq2, pf2_0, pf2_1, pf2_2, pf2_3, pf2_4⟩ := hQ2
  obtain ⟨Lg2, X2', N2⟩ := own_gen X2 (Fr.app N0 N2q)
  have g_b2_0 : n0 ≤ b2_0 := Nat.le_trans Z0 s2_0
  have sz_b2_0 : h0.size ≤ b2_0 := Nat.le_trans (Nat.le_refl _) s2_0
  have K2 : Keep h0 T2.heap [a0] := (Keep.refl h0 [a0]).trans kq2 (allS (Or.inl (mg 0 rfl)) all0)
  have Z2 : n0 ≤ T2.heap.size := Nat.le_trans Z0 kq2.1
  obtain ⟨fs, hr, hrun, hended, hW, hsame⟩ := X2'.leave (v := none) (fun _ => rfl)
  refine ⟨_, _, pre0 _ ?_, hrun, hended, _, _, rfl, ?_, ⟨_, rfl⟩, hW, hsame.mono (by decide) (by decide)⟩
  · show SP p e below s₁ (mkF m 0 #[vR a0, vR a1] []) _
    refine XS.aloadN X0.here hx rfl (hb hby d2_0) rfl rfl ?_
    refine XS.aloadN X0.here hx rfl (hb hby d2_1) rfl rfl ?_
    refine XS.iconst X0.here hx rfl (hb hby d2_2) ?_
    refine XS.aloadN X0.here hx rfl (hb hby d2_3) rfl rfl ?_
    show SP p e below s₁ (mkF m 4 #[vR a0, vR a1] [(.ref a1), (.int (0 : Int32)), (.ref a1), (.ref a0)]) _
    refine X0.arraylength hx (by rw [e0]; exact Ar1.1) (State.isArrayOf_alike hZ.alike Ar1.2.1) (g := (mkF m 4 #[vR a0, vR a1] [(.ref a1), (.int (0 : Int32)), (.ref a1), (.ref a0)])) rfl rfl (hb hby d2_4) _ ?_
    rw [len_of Sz1 Ng1]
    show SP p e below s₁ (mkF m 5 #[vR a0, vR a1] [(.int (1 : Int32)), (.int (0 : Int32)), (.ref a1), (.ref a0)]) _
    refine XS.aconstNull X0.here hx rfl (hb hby d2_5) ?_
    show SP p e below s₁ (mkF m 6 #[vR a0, vR a1] [.null, (.int (1 : Int32)), (.int (0 : Int32)), (.ref a1), (.ref a0)]) _
    refine st2.trans ?_
    show SP p e below T2 (mkF m 9 #[vR a0, vR a1] []) _
    exact X2'.returnOut hx Bd.returns (hb hby d2_9) hr
  · show Q2k1 Z a0 a1 sC ka1 c0 h0 n0 _ T2.heap _
    exact ⟨b2_0, kk2_0, rfl, N2, sz_b2_0, K2, pf2_0, pf2_1, pf2_2, pf2_3, pf2_4⟩
theorem ef_rm45k2 (m : MethodId) (a0 : Addr) (a2 : Addr) : entryFrame m #[(.ref a0), (.int (0 : Int32)), (.ref a2), (.int (0 : Int32)), (.int (2 : Int32))] 7 = mkF m 0 #[vR a0, vI (0 : Int32), vR a2, vI (0 : Int32), vI (2 : Int32), .unset, .unset] [] := by first | (simp [entryFrame, mkF, argsToLocals, Value.category]; done) | rfl
def Q45k2 (Z : State) (a0 : Addr) (a2 : Addr) (ka0 : ClassId) (c0 : Int32) (c1 : Int32) (k2 : ClassId) (h0 : Heap) (n0 : Nat) (v : Option Value) (h : Heap) (L : List Loc) : Prop := v = some (.int (2 : Int32)) ∧ Fr n0 L ∧ Keep h0 h [a2] ∧ Arv Z h a2 k2 .byte (2 : Int32) [(.int (c0.toInt8.toInt32)), (.int (c1.toInt8.toInt32))] (.int (0 : Int32)) ∧ Exa Z h a2 "[B"
set_option maxRecDepth 65536 in
set_option maxHeartbeats 40000000 in
theorem rm45k2 (l : Launch) (Z : State) (az : Array Value) (hw : HW Z az) (ws : List Jvm.Cond) (a0 : Addr) (a2 : Addr) (ka0 : ClassId) (c0 : Int32) (c1 : Int32) (k2 : ClassId) (h0 : Heap) (n0 : Nat) (Z0 : n0 ≤ h0.size) (V_a0 : Arv Z h0 a0 ka0 .char (2 : Int32) [(.int c0), (.int c1)] (.int (0 : Int32))) (E_a0 : Exa Z h0 a0 "[C") (V_a2 : Arv Z h0 a2 k2 .byte (2 : Int32) [(.int (0 : Int32)), (.int (0 : Int32))] (.int (0 : Int32))) (E_a2 : Exa Z h0 a2 "[B") (hc4 : ¬ ((255 : Int32) < c0)) (g_a2 : n0 ≤ a2) (hc6 : ¬ ((255 : Int32) < c1)) :
    MF l Z h0 ws ⟨"java/lang/StringUTF16", "compress", "([CI[BII)I"⟩ jdk_52_method_21_code 7 (some .int) ⟨0, 0, 0, 0⟩ #[(.ref a0), (.int (0 : Int32)), (.ref a2), (.int (0 : Int32)), (.int (2 : Int32))] (Q45k2 Z a0 a2 ka0 c0 c1 k2 h0 n0) := by
  refine MetFree.of_bodySF (plainFor_of_name pn_java_lang_StringUTF16) hisR ?_
  intro p e s m args below meth c s₁ Bd hml0 hP hK
  obtain ⟨rfl, hZ, hh⟩ := hP
  have hx := Bd.exec
  have hby := Bd.bytes
  have hml : c.maxLocals = 7 := hml0
  have hown : s.vm.findClass "java/lang/StringUTF16" = some m.cls := findClass_of_methodNamed Bd.named
  have hnm := (name_of_methodNamed Bd.named Bd.method).1
  have X0 : Stand p l e (⟨0, 0, 0, 0⟩ : Room) s m #[(.ref a0), (.int (0 : Int32)), (.ref a2), (.int (0 : Int32)), (.int (2 : Int32))] below meth c s₁ [] 0 0 := Stand.of_body Bd
  have e0 : s₁.heap = h0 := by rw [← hh, Bd.state]; rfl
  have N0 := Fr.nil n0
  have pre0 : ∀ t, Steps p.tables e below (s₁.setTop (mkF m 0 #[vR a0, vI (0 : Int32), vR a2, vI (0 : Int32), vI (2 : Int32), .unset, .unset] [])) t → Steps p.tables e below (s₁.setTop (entryFrame m #[(.ref a0), (.int (0 : Int32)), (.ref a2), (.int (0 : Int32)), (.int (2 : Int32))] 7)) t := fun t k => castTop (ef_rm45k2 m a0 a2) k
  obtain ⟨cl1, Ar1, qk1, Sz1, Ng1, Hs1, Gf1⟩ := id V_a0
  have hin2 : ¬ ((0 : Int32) < 0 ∨ cl1.slots.size ≤ ((0 : Int32)).toNatClampNeg) := inb_of Sz1 ⟨by decide, by decide⟩
  have hat3 : cl1.slots[((0 : Int32)).toNatClampNeg]? = some (.int c0) := Hs1.at hin2 rfl
  obtain ⟨cl4, Ar4, qk4, Sz4, Ng4, Hs4, Gf4⟩ := id V_a2
  have hin5 : ¬ ((0 : Int32) < 0 ∨ cl4.slots.size ≤ ((0 : Int32)).toNatClampNeg) := inb_of Sz4 ⟨by decide, by decide⟩
  obtain ⟨T6, h6, X6, e6, W6, st6⟩ := stB X0 hx hZ e0 Ar4 (j := (0 : Int32)) hin5 (g := (mkF m 31 #[vR a0, vI (0 : Int32), vR a2, vI (0 : Int32), vI (2 : Int32), vI (0 : Int32), vI c0] [(.int (c0.toInt8.toInt32)), (.int (0 : Int32)), (.ref a2)])) rfl rfl (hb hby d45_31)
  rw [(own_nb _)] at W6
  have K6 : Keep h0 h6 [a2] := (Keep.refl h0 [a2]).wr W6 (Or.inl (mg 0 rfl))
  have V_a2_6 : Arv Z h6 a2 k2 .byte (2 : Int32) [(.int (c0.toInt8.toInt32)), (.int (0 : Int32))] (.int (0 : Int32)) := Arv.set (v := (.int (c0.toInt8.toInt32))) Ar4 qk4 Sz4 Ng4 Hs4 Gf4 (own_fits (own_nb _) (fits_nar_byte _)) W6 0 rfl (Nat.le_of_ble_eq_true rfl)
  have Z6 : n0 ≤ h6.size := Nat.le_trans Z0 (Keep.of_wr W6).1
  obtain ⟨Lg6, X6', N6⟩ := own_gen X6 (Fr.snoc X6 N0 g_a2)
  have ne_a0_a2 : a0 ≠ a2 := ne_exa E_a0 E_a2 (by decide)
  have V_a0_u7 : Arv Z h6 a0 ka0 .char (2 : Int32) [(.int c0), (.int c1)] (.int (0 : Int32)) := (V_a0.other W6 ne_a0_a2)
  obtain ⟨cl8, Ar8, qk8, Sz8, Ng8, Hs8, Gf8⟩ := id V_a0_u7
  have hin9 : ¬ ((1 : Int32) < 0 ∨ cl8.slots.size ≤ ((1 : Int32)).toNatClampNeg) := inb_of Sz8 ⟨by decide, by decide⟩
  have hat10 : cl8.slots[((1 : Int32)).toNatClampNeg]? = some (.int c1) := Hs8.at hin9 rfl
  obtain ⟨cl11, Ar11, qk11, Sz11, Ng11, Hs11, Gf11⟩ := id V_a2_6
  have hin12 : ¬ ((1 : Int32) < 0 ∨ cl11.slots.size ≤ ((1 : Int32)).toNatClampNeg) := inb_of Sz11 ⟨by decide, by decide⟩
  obtain ⟨T13, h13, X13, e13, W13, st13⟩ := stB X6' hx hZ e6 Ar11 (j := (1 : Int32)) hin12 (g := (mkF m 31 #[vR a0, vI (1 : Int32), vR a2, vI (1 : Int32), vI (2 : Int32), vI (1 : Int32), vI c1] [(.int (c1.toInt8.toInt32)), (.int (1 : Int32)), (.ref a2)])) rfl rfl (hb hby d45_31)
  rw [(own_nb _)] at W13
  have K13 : Keep h0 h13 [a2] := K6.wr W13 (Or.inl (mg 0 rfl))
  have V_a2_13 : Arv Z h13 a2 k2 .byte (2 : Int32) [(.int (c0.toInt8.toInt32)), (.int (c1.toInt8.toInt32))] (.int (0 : Int32)) := Arv.set (v := (.int (c1.toInt8.toInt32))) Ar11 qk11 Sz11 Ng11 Hs11 Gf11 (own_fits (own_nb _) (fits_nar_byte _)) W13 1 rfl (Nat.le_of_ble_eq_true rfl)
  have Z13 : n0 ≤ h13.size := Nat.le_trans Z6 (Keep.of_wr W13).1
  obtain ⟨Lg13, X13', N13⟩ := own_gen X13 (Fr.snoc X13 N6 g_a2)
  have E_a2_u14 : Exa Z h13 a2 "[B" := ((E_a2.wr W6).wr W13)
  obtain ⟨fs, hr, hrun, hended, hW, hsame⟩ := X13'.leave (v := some (.int (2 : Int32))) (fun h => by rw [Bd.returns] at h; cases h)
  refine ⟨_, _, pre0 _ ?_, hrun, hended, _, _, rfl, ?_, ⟨_, rfl⟩, hW, hsame.mono (by decide) (by decide)⟩
  · show SP p e below s₁ (mkF m 0 #[vR a0, vI (0 : Int32), vR a2, vI (0 : Int32), vI (2 : Int32), .unset, .unset] []) _
    refine XS.iconst X0.here hx rfl (hb hby d45_0) ?_
    refine XS.istore X0.here hx rfl (hb hby d45_1) rfl (l' := #[vR a0, vI (0 : Int32), vR a2, vI (0 : Int32), vI (2 : Int32), vI (0 : Int32), .unset]) rfl ?_
    refine XS.iload X0.here hx rfl (hb hby d45_3) rfl ?_
    refine XS.iload X0.here hx rfl (hb hby d45_5) rfl ?_
    refine XS.icmpNo X0.here hx rfl (hb hby d45_7) rfl (tlt (by decide : (0 : Int32) < (2 : Int32))).2.1 ?_
    refine XS.aloadN X0.here hx rfl (hb hby d45_10) rfl rfl ?_
    refine XS.iloadN X0.here hx rfl (hb hby d45_11) rfl ?_
    show SP p e below s₁ (mkF m 12 #[vR a0, vI (0 : Int32), vR a2, vI (0 : Int32), vI (2 : Int32), vI (0 : Int32), .unset] [(.int (0 : Int32)), (.ref a0)]) _
    refine X0.caload hx (j := (0 : Int32)) (v := (.int c0)) (by rw [e0]; exact Ar1.1) (State.isArrayOf_alike hZ.alike Ar1.2.1) Ar1.2.2 hin2 hat3 (g := (mkF m 12 #[vR a0, vI (0 : Int32), vR a2, vI (0 : Int32), vI (2 : Int32), vI (0 : Int32), .unset] [(.int (0 : Int32)), (.ref a0)])) rfl rfl (hb hby d45_12) _ ?_
    show SP p e below s₁ (mkF m 13 #[vR a0, vI (0 : Int32), vR a2, vI (0 : Int32), vI (2 : Int32), vI (0 : Int32), .unset] [(.int c0)]) _
    refine XS.istore X0.here hx rfl (hb hby d45_13) rfl (l' := #[vR a0, vI (0 : Int32), vR a2, vI (0 : Int32), vI (2 : Int32), vI (0 : Int32), vI c0]) rfl ?_
    refine XS.iload X0.here hx rfl (hb hby d45_15) rfl ?_
    refine XS.sipush X0.here hx rfl (hb hby d45_17) ?_
    refine XS.icmpYes X0.here hx rfl (pc0 := 20) (pc' := 26) rfl (hb hby d45_20) rfl (flt hc4).2.2.2 (by decide) (by decide) ?_
    refine XS.aloadN X0.here hx rfl (hb hby d45_26) rfl rfl ?_
    refine XS.iloadN X0.here hx rfl (hb hby d45_27) rfl ?_
    refine XS.iload X0.here hx rfl (hb hby d45_28) rfl ?_
    show SP p e below s₁ (mkF m 30 #[vR a0, vI (0 : Int32), vR a2, vI (0 : Int32), vI (2 : Int32), vI (0 : Int32), vI c0] [(.int c0), (.int (0 : Int32)), (.ref a2)]) _
    refine XS.i2b X0.here hx rfl (hb hby d45_30) rfl ?_
    show SP p e below s₁ (mkF m 31 #[vR a0, vI (0 : Int32), vR a2, vI (0 : Int32), vI (2 : Int32), vI (0 : Int32), vI c0] [(.int (c0.toInt8.toInt32)), (.int (0 : Int32)), (.ref a2)]) _
    refine st6 _ ?_
    show SP p e below T6 (mkF m 32 #[vR a0, vI (0 : Int32), vR a2, vI (0 : Int32), vI (2 : Int32), vI (0 : Int32), vI c0] []) _
    refine XS.iinc X6'.here hx rfl (hb hby d45_32) rfl (l' := #[vR a0, vI (1 : Int32), vR a2, vI (0 : Int32), vI (2 : Int32), vI (0 : Int32), vI c0]) rfl ?_
    refine XS.iinc X6'.here hx rfl (hb hby d45_35) rfl (l' := #[vR a0, vI (1 : Int32), vR a2, vI (1 : Int32), vI (2 : Int32), vI (0 : Int32), vI c0]) rfl ?_
    refine XS.iinc X6'.here hx rfl (hb hby d45_38) rfl (l' := #[vR a0, vI (1 : Int32), vR a2, vI (1 : Int32), vI (2 : Int32), vI (1 : Int32), vI c0]) rfl ?_
    refine XS.goto X6'.here hx rfl (pc0 := 41) (pc' := 3) rfl (hb hby d45_41) (by decide) (by decide) ?_
    refine XS.iload X6'.here hx rfl (hb hby d45_3) rfl ?_
    refine XS.iload X6'.here hx rfl (hb hby d45_5) rfl ?_
    refine XS.icmpNo X6'.here hx rfl (hb hby d45_7) rfl (tlt (by decide : (1 : Int32) < (2 : Int32))).2.1 ?_
    refine XS.aloadN X6'.here hx rfl (hb hby d45_10) rfl rfl ?_
    refine XS.iloadN X6'.here hx rfl (hb hby d45_11) rfl ?_
    show SP p e below T6 (mkF m 12 #[vR a0, vI (1 : Int32), vR a2, vI (1 : Int32), vI (2 : Int32), vI (1 : Int32), vI c0] [(.int (1 : Int32)), (.ref a0)]) _
    refine X6'.caload hx (j := (1 : Int32)) (v := (.int c1)) (by rw [e6]; exact Ar8.1) (State.isArrayOf_alike hZ.alike Ar8.2.1) Ar8.2.2 hin9 hat10 (g := (mkF m 12 #[vR a0, vI (1 : Int32), vR a2, vI (1 : Int32), vI (2 : Int32), vI (1 : Int32), vI c0] [(.int (1 : Int32)), (.ref a0)])) rfl rfl (hb hby d45_12) _ ?_
    show SP p e below T6 (mkF m 13 #[vR a0, vI (1 : Int32), vR a2, vI (1 : Int32), vI (2 : Int32), vI (1 : Int32), vI c0] [(.int c1)]) _
    refine XS.istore X6'.here hx rfl (hb hby d45_13) rfl (l' := #[vR a0, vI (1 : Int32), vR a2, vI (1 : Int32), vI (2 : Int32), vI (1 : Int32), vI c1]) rfl ?_
    refine XS.iload X6'.here hx rfl (hb hby d45_15) rfl ?_
    refine XS.sipush X6'.here hx rfl (hb hby d45_17) ?_
    refine XS.icmpYes X6'.here hx rfl (pc0 := 20) (pc' := 26) rfl (hb hby d45_20) rfl (flt hc6).2.2.2 (by decide) (by decide) ?_
    refine XS.aloadN X6'.here hx rfl (hb hby d45_26) rfl rfl ?_
    refine XS.iloadN X6'.here hx rfl (hb hby d45_27) rfl ?_
    refine XS.iload X6'.here hx rfl (hb hby d45_28) rfl ?_
    show SP p e below T6 (mkF m 30 #[vR a0, vI (1 : Int32), vR a2, vI (1 : Int32), vI (2 : Int32), vI (1 : Int32), vI c1] [(.int c1), (.int (1 : Int32)), (.ref a2)]) _
    refine XS.i2b X6'.here hx rfl (hb hby d45_30) rfl ?_
    show SP p e below T6 (mkF m 31 #[vR a0, vI (1 : Int32), vR a2, vI (1 : Int32), vI (2 : Int32), vI (1 : Int32), vI c1] [(.int (c1.toInt8.toInt32)), (.int (1 : Int32)), (.ref a2)]) _
    refine st13 _ ?_
    show SP p e below T13 (mkF m 32 #[vR a0, vI (1 : Int32), vR a2, vI (1 : Int32), vI (2 : Int32), vI (1 : Int32), vI c1] []) _
    refine XS.iinc X13'.here hx rfl (hb hby d45_32) rfl (l' := #[vR a0, vI (2 : Int32), vR a2, vI (1 : Int32), vI (2 : Int32), vI (1 : Int32), vI c1]) rfl ?_
    refine XS.iinc X13'.here hx rfl (hb hby d45_35) rfl (l' := #[vR a0, vI (2 : Int32), vR a2, vI (2 : Int32), vI (2 : Int32), vI (1 : Int32), vI c1]) rfl ?_
    refine XS.iinc X13'.here hx rfl (hb hby d45_38) rfl (l' := #[vR a0, vI (2 : Int32), vR a2, vI (2 : Int32), vI (2 : Int32), vI (2 : Int32), vI c1]) rfl ?_
    refine XS.goto X13'.here hx rfl (pc0 := 41) (pc' := 3) rfl (hb hby d45_41) (by decide) (by decide) ?_
    refine XS.iload X13'.here hx rfl (hb hby d45_3) rfl ?_
    refine XS.iload X13'.here hx rfl (hb hby d45_5) rfl ?_
    refine XS.icmpYes X13'.here hx rfl (pc0 := 7) (pc' := 44) rfl (hb hby d45_7) rfl (flt (by decide : ¬ ((2 : Int32) < (2 : Int32)))).2.1 (by decide) (by decide) ?_
    refine XS.iload X13'.here hx rfl (hb hby d45_44) rfl ?_
    show SP p e below T13 (mkF m 46 #[vR a0, vI (2 : Int32), vR a2, vI (2 : Int32), vI (2 : Int32), vI (2 : Int32), vI c1] [(.int (2 : Int32))]) _
    exact retI X13' hx Bd.returns (hb hby d45_46) hr
  · show Q45k2 Z a0 a2 ka0 c0 c1 k2 h0 n0 _ T13.heap _
    rw [e13]
    exact ⟨rfl, N13, K13, V_a2_13, E_a2_u14⟩
theorem ef_rm44k2 (m : MethodId) (a0 : Addr) : entryFrame m #[(.ref a0), (.int (0 : Int32)), (.int (2 : Int32))] 6 = mkF m 0 #[vR a0, vI (0 : Int32), vI (2 : Int32), .unset, .unset, .unset] [] := by first | (simp [entryFrame, mkF, argsToLocals, Value.category]; done) | rfl
def Q44k2 (Z : State) (a0 : Addr) (ka0 : ClassId) (c0 : Int32) (c1 : Int32) (h0 : Heap) (n0 : Nat) (v : Option Value) (h : Heap) (L : List Loc) : Prop := ∃ r0 : Addr, ∃ rk0 : ClassId, v = some (.ref r0) ∧ Fr n0 L ∧ h0.size ≤ r0 ∧ Keep h0 h [] ∧ Exa Z h r0 "[B" ∧ Arv Z h r0 rk0 .byte (2 : Int32) [(.int (c0.toInt8.toInt32)), (.int (c1.toInt8.toInt32))] (.int (0 : Int32))
set_option maxRecDepth 65536 in
set_option maxHeartbeats 40000000 in
theorem rm44k2 (l : Launch) (Z : State) (az : Array Value) (hw : HW Z az) (ws : List Jvm.Cond) (a0 : Addr) (ka0 : ClassId) (c0 : Int32) (c1 : Int32) (h0 : Heap) (n0 : Nat) (Z0 : n0 ≤ h0.size) (V_a0 : Arv Z h0 a0 ka0 .char (2 : Int32) [(.int c0), (.int c1)] (.int (0 : Int32))) (E_a0 : Exa Z h0 a0 "[C") (hc2 : ¬ ((255 : Int32) < c0)) (hc3 : ¬ ((255 : Int32) < c1)) :
    MF l Z h0 ws ⟨"java/lang/StringUTF16", "compress", "([CII)[B"⟩ jdk_52_method_16_code 6 (some (.array .byte)) ⟨1, 1, 2, 18⟩ #[(.ref a0), (.int (0 : Int32)), (.int (2 : Int32))] (Q44k2 Z a0 ka0 c0 c1 h0 n0) := by
  refine MetFree.of_bodySF (plainFor_of_name pn_java_lang_StringUTF16) hisR ?_
  intro p e s m args below meth c s₁ Bd hml0 hP hK
  obtain ⟨rfl, hZ, hh⟩ := hP
  have hx := Bd.exec
  have hby := Bd.bytes
  have hml : c.maxLocals = 6 := hml0
  have hown : s.vm.findClass "java/lang/StringUTF16" = some m.cls := findClass_of_methodNamed Bd.named
  have hnm := (name_of_methodNamed Bd.named Bd.method).1
  have X0 : Stand p l e (⟨1, 1, 2, 18⟩ : Room) s m #[(.ref a0), (.int (0 : Int32)), (.int (2 : Int32))] below meth c s₁ [] 0 0 := Stand.of_body Bd
  have e0 : s₁.heap = h0 := by rw [← hh, Bd.state]; rfl
  have N0 := Fr.nil n0
  have pre0 : ∀ t, Steps p.tables e below (s₁.setTop (mkF m 0 #[vR a0, vI (0 : Int32), vI (2 : Int32), .unset, .unset, .unset] [])) t → Steps p.tables e below (s₁.setTop (entryFrame m #[(.ref a0), (.int (0 : Int32)), (.int (2 : Int32))] 6)) t := fun t k => castTop (ef_rm44k2 m a0) k
  obtain ⟨T1, h1, k1, X1, e1, E1, A1, x1, st1⟩ := newPE X0 hx hZ (aty := .byte) (w19 hw) e0 (g := (mkF m 1 #[vR a0, vI (0 : Int32), vI (2 : Int32), .unset, .unset, .unset] [(.int (2 : Int32))])) rfl (hb hby d44_1) rfl (by decide) (cap := 2) (by decide) (by decide) (by decide) (by decide) (ad := "[B") (by decide)
  obtain ⟨b1, g1⟩ : ∃ z, z = h0.size := ⟨_, rfl⟩
  rw [← g1] at A1 x1 st1
  have g_b1 : n0 ≤ b1 := Nat.le_trans Z0 (Nat.le_of_eq g1.symm)
  have sz_b1 : h0.size ≤ b1 := Nat.le_trans (Nat.le_refl _) (Nat.le_of_eq g1.symm)
  have Z1 : n0 ≤ h1.size := Nat.le_trans Z0 E1.1
  have K1 : Keep h0 h1 [] := (Keep.refl h0 []).ext E1
  have E_b1 := x1
  have V_b1 : Arv Z h1 b1 k1 .byte (2 : Int32) [(.int (0 : Int32)), (.int (0 : Int32))] (.int (0 : Int32)) := (Arv.new A1 (by decide)).pad (pad_rep [] (.int (0 : Int32)) 2)
  have V_a0_u3 : Arv Z h1 a0 ka0 .char (2 : Int32) [(.int c0), (.int c1)] (.int (0 : Int32)) := (V_a0.ext E1)
  have E_a0_u4 : Exa Z h1 a0 "[C" := (E_a0.ext E1)
  obtain ⟨_, _, ⟨T2, L2, k2', n2'⟩, -, X2, ⟨Lc2, hQ2, l2, y2, z2⟩, st2⟩ := Jvm.LawKit.callS X1 hx (y := (⟨"java/lang/StringUTF16", "compress", "([CI[BII)I"⟩ : MethodName)) hown (mvT hZ (w268 hw)) (mvT hZ (w269 hw)) (mvT hZ (w266 hw)) (mvT hZ (w270 hw)) (by decide) (backOf (W := 0) (rm45k2 l Z az hw [] a0 b1 ka0 c0 c1 k1 h1 n0 Z1 V_a0_u3 E_a0_u4 V_b1 E_b1 hc2 g_b1 hc3) hZ (w270 hw) (w266 hw) (by decide) (by decide)) (g := (mkF m 9 #[vR a0, vI (0 : Int32), vI (2 : Int32), vR b1, .unset, .unset] [(.int (2 : Int32)), (.int (0 : Int32)), (.ref b1), (.int (0 : Int32)), (.ref a0)])) rfl (by rw [hml]; rfl) (argsL := [(.ref a0), (.int (0 : Int32)), (.ref b1), (.int (0 : Int32)), (.int (2 : Int32))]) (rest := []) (lenOf pd_18 rfl) rfl (Nat.le_of_eq rfl) (hb hby d44_9) (fun _ _ => ⟨rfl, e1, (by decide : 1 + 0 ≤ _), (by decide : 2 + 0 ≤ _)⟩)
  dsimp only [Pt.U, Pt.locs, Pt.cells, Pt.slots] at X2 l2 y2 z2 st2 hQ2
  subst l2 y2 z2
  obtain ⟨rfl, N2q, kq2, pf2_0, pf2_1⟩ := hQ2
  obtain ⟨Lg2, X2', N2⟩ := own_gen X2 (Fr.app N0 N2q)
  have K2 : Keep h0 T2.heap [] := K1.trans kq2 (allS (Or.inr sz_b1) all0)
  have Z2 : n0 ≤ T2.heap.size := Nat.le_trans Z1 kq2.1
  obtain ⟨fs, hr, hrun, hended, hW, hsame⟩ := X2'.leave (v := some (.ref b1)) (fun h => by rw [Bd.returns] at h; cases h)
  refine ⟨_, _, pre0 _ ?_, hrun, hended, _, _, rfl, ?_, ⟨_, rfl⟩, hW, hsame.mono (by decide) (by decide)⟩
  · show SP p e below s₁ (mkF m 0 #[vR a0, vI (0 : Int32), vI (2 : Int32), .unset, .unset, .unset] []) _
    refine XS.iloadN X0.here hx rfl (hb hby d44_0) rfl ?_
    show SP p e below s₁ (mkF m 1 #[vR a0, vI (0 : Int32), vI (2 : Int32), .unset, .unset, .unset] [(.int (2 : Int32))]) _
    refine st1 _ ?_
    show SP p e below T1 (mkF m 3 #[vR a0, vI (0 : Int32), vI (2 : Int32), .unset, .unset, .unset] [(.ref b1)]) _
    refine XS.astoreN X1.here hx rfl (hb hby d44_3) rfl rfl (l' := #[vR a0, vI (0 : Int32), vI (2 : Int32), vR b1, .unset, .unset]) rfl ?_
    refine XS.aloadN X1.here hx rfl (hb hby d44_4) rfl rfl ?_
    refine XS.iloadN X1.here hx rfl (hb hby d44_5) rfl ?_
    refine XS.aloadN X1.here hx rfl (hb hby d44_6) rfl rfl ?_
    refine XS.iconst X1.here hx rfl (hb hby d44_7) ?_
    refine XS.iloadN X1.here hx rfl (hb hby d44_8) rfl ?_
    show SP p e below T1 (mkF m 9 #[vR a0, vI (0 : Int32), vI (2 : Int32), vR b1, .unset, .unset] [(.int (2 : Int32)), (.int (0 : Int32)), (.ref b1), (.int (0 : Int32)), (.ref a0)]) _
    refine st2 _ ?_
    show SP p e below T2 (mkF m 12 #[vR a0, vI (0 : Int32), vI (2 : Int32), vR b1, .unset, .unset] [(.int (2 : Int32))]) _
    refine XS.istore X2'.here hx rfl (hb hby d44_12) rfl (l' := #[vR a0, vI (0 : Int32), vI (2 : Int32), vR b1, vI (2 : Int32), .unset]) rfl ?_
    refine XS.iload X2'.here hx rfl (hb hby d44_14) rfl ?_
    refine XS.iloadN X2'.here hx rfl (hb hby d44_16) rfl ?_
    refine XS.icmpYes X2'.here hx rfl (pc0 := 17) (pc' := 57) rfl (hb hby d44_17) rfl (teq (by decide : (2 : Int32) = (2 : Int32))).1 (by decide) (by decide) ?_
    refine XS.aloadN X2'.here hx rfl (hb hby d44_57) rfl rfl ?_
    show SP p e below T2 (mkF m 58 #[vR a0, vI (0 : Int32), vI (2 : Int32), vR b1, vI (2 : Int32), .unset] [(.ref b1)]) _
    jvm_step X2'.here [X2'.here.top, hx, (hb hby d44_58), X2'.method', Bd.returns, Value.isRef, FieldType.isReference]
    first | (intro acts; rw [hr _ acts rfl rfl rfl]) | rw [hr _ _ rfl rfl rfl]
    exact Steps.refl _
  · show Q44k2 Z a0 ka0 c0 c1 h0 n0 _ T2.heap _
    exact ⟨b1, k1, rfl, N2, sz_b1, K2, pf2_1, pf2_0⟩
theorem ef_rm46k2 (m : MethodId) (a0 : Addr) : entryFrame m #[(.ref a0), (.int (2 : Int32))] 2 = mkF m 0 #[vR a0, vI (2 : Int32)] [] := by first | (simp [entryFrame, mkF, argsToLocals, Value.category]; done) | rfl
def Q46k2 (Z : State) (a0 : Addr) (k0 : ClassId) (b0 : Int32) (b1 : Int32) (h0 : Heap) (n0 : Nat) (v : Option Value) (h : Heap) (L : List Loc) : Prop := v = some (.int (0 : Int32)) ∧ Fr n0 L ∧ h = h0
set_option maxRecDepth 65536 in
set_option maxHeartbeats 40000000 in
theorem rm46k2 (l : Launch) (Z : State) (az : Array Value) (hw : HW Z az) (ws : List Jvm.Cond) (a0 : Addr) (k0 : ClassId) (b0 : Int32) (b1 : Int32) (h0 : Heap) (n0 : Nat) (Z0 : n0 ≤ h0.size) (V_a0 : Arv Z h0 a0 k0 .byte (2 : Int32) [(.int b0), (.int b1)] (.int (0 : Int32))) :
    MF l Z h0 ws ⟨"java/lang/StringUTF16", "coderFromArrayLen", "([BI)B"⟩ jdk_52_method_15_code 2 (some .byte) ⟨0, 0, 0, 0⟩ #[(.ref a0), (.int (2 : Int32))] (Q46k2 Z a0 k0 b0 b1 h0 n0) := by
  refine MetFree.of_bodySF (plainFor_of_name pn_java_lang_StringUTF16) hisR ?_
  intro p e s m args below meth c s₁ Bd hml0 hP hK
  obtain ⟨rfl, hZ, hh⟩ := hP
  have hx := Bd.exec
  have hby := Bd.bytes
  have hml : c.maxLocals = 2 := hml0
  have hown : s.vm.findClass "java/lang/StringUTF16" = some m.cls := findClass_of_methodNamed Bd.named
  have hnm := (name_of_methodNamed Bd.named Bd.method).1
  have X0 : Stand p l e (⟨0, 0, 0, 0⟩ : Room) s m #[(.ref a0), (.int (2 : Int32))] below meth c s₁ [] 0 0 := Stand.of_body Bd
  have e0 : s₁.heap = h0 := by rw [← hh, Bd.state]; rfl
  have N0 := Fr.nil n0
  have pre0 : ∀ t, Steps p.tables e below (s₁.setTop (mkF m 0 #[vR a0, vI (2 : Int32)] [])) t → Steps p.tables e below (s₁.setTop (entryFrame m #[(.ref a0), (.int (2 : Int32))] 2)) t := fun t k => castTop (ef_rm46k2 m a0) k
  obtain ⟨cl1, Ar1, qk1, Sz1, Ng1, Hs1, Gf1⟩ := id V_a0
  obtain ⟨fs, hr, hrun, hended, hW, hsame⟩ := X0.leave (v := some (.int (0 : Int32))) (fun h => by rw [Bd.returns] at h; cases h)
  refine ⟨_, _, pre0 _ ?_, hrun, hended, _, _, rfl, ?_, ⟨_, rfl⟩, hW, hsame.mono (by decide) (by decide)⟩
  · show SP p e below s₁ (mkF m 0 #[vR a0, vI (2 : Int32)] []) _
    refine XS.iloadN X0.here hx rfl (hb hby d46_0) rfl ?_
    refine XS.aloadN X0.here hx rfl (hb hby d46_1) rfl rfl ?_
    show SP p e below s₁ (mkF m 2 #[vR a0, vI (2 : Int32)] [(.ref a0), (.int (2 : Int32))]) _
    refine X0.arraylength hx (by rw [e0]; exact Ar1.1) (State.isArrayOf_alike hZ.alike Ar1.2.1) (g := (mkF m 2 #[vR a0, vI (2 : Int32)] [(.ref a0), (.int (2 : Int32))])) rfl rfl (hb hby d46_2) _ ?_
    rw [len_of Sz1 Ng1]
    show SP p e below s₁ (mkF m 3 #[vR a0, vI (2 : Int32)] [(.int (2 : Int32)), (.int (2 : Int32))]) _
    refine XS.isub X0.here hx rfl (hb hby d46_3) rfl ?_
    refine XS.bipush X0.here hx rfl (hb hby d46_4) ?_
    refine XS.iushr X0.here hx rfl (hb hby d46_6) rfl ?_
    show SP p e below s₁ (mkF m 7 #[vR a0, vI (2 : Int32)] [(.int (0 : Int32))]) _
    refine XS.i2b X0.here hx rfl (hb hby d46_7) rfl ?_
    show SP p e below s₁ (mkF m 8 #[vR a0, vI (2 : Int32)] [(.int (0 : Int32))]) _
    exact retN X0 hx (t := .byte) Bd.returns (by simp) (hb hby d46_8) hr
  · show Q46k2 Z a0 k0 b0 b1 h0 n0 _ s₁.heap _
    rw [e0]
    exact ⟨rfl, N0, rfl⟩
theorem ef_rm3k2 (m : MethodId) (a0 : Addr) (a1 : Addr) : entryFrame m #[(.ref a0), (.ref a1), (.int (0 : Int32)), (.int (2 : Int32)), .null] 6 = mkF m 0 #[vR a0, vR a1, vI (0 : Int32), vI (2 : Int32), .val .null, .unset] [] := by first | (simp [entryFrame, mkF, argsToLocals, Value.category]; done) | rfl
def Q3k2 (Z : State) (a0 : Addr) (a1 : Addr) (sC : Int32) (ka1 : ClassId) (c0 : Int32) (c1 : Int32) (h0 : Heap) (n0 : Nat) (v : Option Value) (h : Heap) (L : List Loc) : Prop := ∃ r0 : Addr, ∃ rk0 : ClassId, v = none ∧ Fr n0 L ∧ h0.size ≤ r0 ∧ Keep h0 h [a0] ∧ Exa Z h a0 cST ∧ Fld Z h a0 cST "value" "[B" (.ref r0) ∧ Fld Z h a0 cST "coder" "B" (.int (0 : Int32)) ∧ Exa Z h r0 "[B" ∧ Arv Z h r0 rk0 .byte (2 : Int32) [(.int (c0.toInt8.toInt32)), (.int (c1.toInt8.toInt32))] (.int (0 : Int32))
set_option maxRecDepth 65536 in
set_option maxHeartbeats 40000000 in
theorem rm3k2 (l : Launch) (Z : State) (az : Array Value) (hw : HW Z az) (ws : List Jvm.Cond) (a0 : Addr) (a1 : Addr) (sC : Int32) (ka1 : ClassId) (c0 : Int32) (c1 : Int32) (h0 : Heap) (n0 : Nat) (Z0 : n0 ≤ h0.size) (S_COMPACT_STRINGS : Sta Z h0 cST "COMPACT_STRINGS" "Z" (.int sC)) (hc1 : ¬ (sC = (0 : Int32))) (E_a0 : Exa Z h0 a0 cST) (F_value_a0 : Fld Z h0 a0 cST "value" "[B" .null) (F_coder_a0 : Fld Z h0 a0 cST "coder" "B" (.int (0 : Int32))) (V_a1 : Arv Z h0 a1 ka1 .char (2 : Int32) [(.int c0), (.int c1)] (.int (0 : Int32))) (E_a1 : Exa Z h0 a1 "[C") (hc7 : ¬ ((255 : Int32) < c0)) (hc8 : ¬ ((255 : Int32) < c1)) (g_a0 : n0 ≤ a0) :
    MF l Z h0 ws ⟨cST, "<init>", "([CIILjava/lang/Void;)V"⟩ jdk_42_method_149_code 6 none ⟨2, 1, 2, 35⟩ #[(.ref a0), (.ref a1), (.int (0 : Int32)), (.int (2 : Int32)), .null] (Q3k2 Z a0 a1 sC ka1 c0 c1 h0 n0) := by
  refine MetFree.of_bodySF (plainFor_of_name pn_java_lang_String) hisR ?_
  intro p e s m args below meth c s₁ Bd hml0 hP hK
  obtain ⟨rfl, hZ, hh⟩ := hP
  have hx := Bd.exec
  have hby := Bd.bytes
  have hml : c.maxLocals = 6 := hml0
  have hown : s.vm.findClass cST = some m.cls := findClass_of_methodNamed Bd.named
  have hnm := (name_of_methodNamed Bd.named Bd.method).1
  have X0 : Stand p l e (⟨2, 1, 2, 35⟩ : Room) s m #[(.ref a0), (.ref a1), (.int (0 : Int32)), (.int (2 : Int32)), .null] below meth c s₁ [] 0 0 := Stand.of_body Bd
  have e0 : s₁.heap = h0 := by rw [← hh, Bd.state]; rfl
  have N0 := Fr.nil n0
  have pre0 : ∀ t, Steps p.tables e below (s₁.setTop (mkF m 0 #[vR a0, vR a1, vI (0 : Int32), vI (2 : Int32), .val .null, .unset] [])) t → Steps p.tables e below (s₁.setTop (entryFrame m #[(.ref a0), (.ref a1), (.int (0 : Int32)), (.int (2 : Int32)), .null] 6)) t := fun t k => castTop (ef_rm3k2 m a0 a1) k
  obtain ⟨T1, X1, e1, st1⟩ := initO X0 hx hZ hown (w15 hw) (w16 hw) (w17 hw) e0 (g := (mkF m 1 #[vR a0, vR a1, vI (0 : Int32), vI (2 : Int32), .val .null, .unset] [(.ref a0)])) rfl (by rw [hml]; rfl) rfl (hb hby d3_1) (by decide) (W := 0) (Nat.le_of_eq rfl) (by decide)
  obtain ⟨T2, X2, e2, st2⟩ := getS2 X1 hx hZ hown (host := "") (Or.inl (w71 hw)) Via.refl e1 S_COMPACT_STRINGS (g := (mkF m 27 #[vR a0, vR a1, vI (0 : Int32), vI (2 : Int32), .val .null, .unset] [])) rfl (hb hby d3_27)
  obtain ⟨_, _, ⟨T3, L3, k3', n3'⟩, -, X3, ⟨Lc3, hQ3, l3, y3, z3⟩, st3⟩ := Jvm.LawKit.callS X2 hx (y := (⟨"java/lang/StringUTF16", "compress", "([CII)[B"⟩ : MethodName)) hown (mvT hZ (w264 hw)) (mvT hZ (w265 hw)) (mvT hZ (w266 hw)) (mvT hZ (w267 hw)) (by decide) (backOf (W := 0) (rm44k2 l Z az hw [] a1 ka1 c0 c1 h0 n0 Z0 V_a1 E_a1 hc7 hc8) hZ (w267 hw) (w266 hw) (by decide) (by decide)) (g := (mkF m 36 #[vR a0, vR a1, vI (0 : Int32), vI (2 : Int32), .val .null, .unset] [(.int (2 : Int32)), (.int (0 : Int32)), (.ref a1)])) rfl (by rw [hml]; rfl) (argsL := [(.ref a1), (.int (0 : Int32)), (.int (2 : Int32))]) (rest := []) (lenOf pd_19 rfl) rfl (Nat.le_of_eq rfl) (hb hby d3_36) (fun _ _ => ⟨rfl, e2, (by decide : 0 + 1 ≤ _), (by decide : 0 + 2 ≤ _)⟩)
  dsimp only [Pt.U, Pt.locs, Pt.cells, Pt.slots] at X3 l3 y3 z3 st3 hQ3
  subst l3 y3 z3
  obtain ⟨b3_0, kk3_0, rfl, N3q, s3_0, kq3, pf3_0, pf3_1⟩ := hQ3
  obtain ⟨Lg3, X3', N3⟩ := own_gen X3 (Fr.app N0 N3q)
  have g_b3_0 : n0 ≤ b3_0 := Nat.le_trans Z0 s3_0
  have sz_b3_0 : h0.size ≤ b3_0 := Nat.le_trans (Nat.le_refl _) s3_0
  have K3 : Keep h0 T3.heap [a0] := (Keep.refl h0 [a0]).trans kq3 all0
  have Z3 : n0 ≤ T3.heap.size := Nat.le_trans Z0 kq3.1
  obtain ⟨_, _, ⟨T4, L4, k4', n4'⟩, -, X4, ⟨Lc4, hQ4, l4, y4, z4⟩, st4⟩ := Jvm.LawKit.callS X3' hx (y := (⟨"java/lang/StringUTF16", "coderFromArrayLen", "([BI)B"⟩ : MethodName)) hown (mvT hZ (w271 hw)) (mvT hZ (w272 hw)) (mvT hZ (w266 hw)) (mvT hZ (w273 hw)) (by decide) (backOf (W := 1) (rm46k2 l Z az hw [] b3_0 kk3_0 (c0.toInt8.toInt32) (c1.toInt8.toInt32) T3.heap n0 Z3 pf3_1) hZ (w273 hw) (w266 hw) (by decide) (by decide)) (g := (mkF m 45 #[vR a0, vR a1, vI (0 : Int32), vI (2 : Int32), .val .null, vR b3_0] [(.int (2 : Int32)), (.ref b3_0), (.ref a0)])) rfl (by rw [hml]; rfl) (argsL := [(.ref b3_0), (.int (2 : Int32))]) (rest := [(.ref a0)]) (lenOf pd_20 rfl) rfl (Nat.le_of_eq rfl) (hb hby d3_45) (fun _ _ => ⟨rfl, rfl, (by decide : 1 + 0 ≤ _), (by decide : 2 + 0 ≤ _)⟩)
  dsimp only [Pt.U, Pt.locs, Pt.cells, Pt.slots] at X4 l4 y4 z4 st4 hQ4
  subst l4 y4 z4
  obtain ⟨rfl, N4q, e4⟩ := hQ4
  obtain ⟨Lg4, X4', N4⟩ := own_gen X4 (Fr.app N3 N4q)
  have F_a0_coder_u5 : Fld Z T3.heap a0 cST "coder" "B" (.int (0 : Int32)) := (F_coder_a0.keep kq3 nin0)
  have E_a0_u6 : Exa Z T3.heap a0 cST := (E_a0.keep kq3)
  obtain ⟨T7, h7, X7, e7, W7, st7⟩ := putFN X4' hx hZ hown (w25 hw) Via.refl e4 F_a0_coder_u5 E_a0_u6 (Or.inr ⟨(w21 hw), rfl, hnm⟩) (w5 hw) (ty := .byte) (v := (.int (0 : Int32))) (v' := (.int (0 : Int32))) (by decide) (by decide) (by decide) (g := (mkF m 48 #[vR a0, vR a1, vI (0 : Int32), vI (2 : Int32), .val .null, vR b3_0] [(.int (0 : Int32)), (.ref a0)])) rfl rfl (hb hby d3_48)
  have K7 : Keep h0 h7 [a0] := K3.wr W7 (Or.inl (mg 0 rfl))
  have Fw7 := F_a0_coder_u5.same W7
  have Z7 : n0 ≤ h7.size := Nat.le_trans Z3 (Keep.of_wr W7).1
  obtain ⟨Lg7, X7', N7⟩ := own_gen X7 (Fr.snoc X7 N4 g_a0)
  have F_a0_value_u8 : Fld Z h7 a0 cST "value" "[B" .null := ((F_value_a0.keep kq3 nin0).other W7 (Or.inr (sl_6 hw)))
  have E_a0_u9 : Exa Z h7 a0 cST := (E_a0_u6.wr W7)
  obtain ⟨T10, h10, X10, e10, W10, st10⟩ := putF X7' hx hZ hown (host := "") (Or.inl (w24 hw)) Via.refl e7 F_a0_value_u8 E_a0_u9 (Or.inr ⟨(w20 hw), rfl, hnm⟩) (w5 hw) (ty := (.array .byte)) (by decide) rfl rfl (g := (mkF m 54 #[vR a0, vR a1, vI (0 : Int32), vI (2 : Int32), .val .null, vR b3_0] [(.ref b3_0), (.ref a0)])) rfl rfl (hb hby d3_54)
  have K10 : Keep h0 h10 [a0] := K7.wr W10 (Or.inl (mg 0 rfl))
  have Fw10 := F_a0_value_u8.same W10
  have Z10 : n0 ≤ h10.size := Nat.le_trans Z7 (Keep.of_wr W10).1
  obtain ⟨Lg10, X10', N10⟩ := own_gen X10 (Fr.snoc X10 N7 g_a0)
  have E_a0_u11 : Exa Z h10 a0 cST := (E_a0_u9.wr W10)
  have F_a0_coder_u12 : Fld Z h10 a0 cST "coder" "B" (.int (0 : Int32)) := (Fw7.other W10 (Or.inr (sl_7 hw)))
  have E_b3_0_u13 : Exa Z h10 b3_0 "[B" := ((pf3_0.wr W7).wr W10)
  have ne_a0_b3_0 : a0 ≠ b3_0 := own_ne (Nat.lt_of_lt_of_le E_a0.lt s3_0)
  have V_b3_0_u14 : Arv Z h10 b3_0 kk3_0 .byte (2 : Int32) [(.int (c0.toInt8.toInt32)), (.int (c1.toInt8.toInt32))] (.int (0 : Int32)) := ((pf3_1.other W7 (Ne.symm ne_a0_b3_0)).other W10 (Ne.symm ne_a0_b3_0))
  obtain ⟨fs, hr, hrun, hended, hW, hsame⟩ := X10'.leave (v := none) (fun _ => rfl)
  refine ⟨_, _, pre0 _ ?_, hrun, hended, _, _, rfl, ?_, ⟨_, rfl⟩, hW, hsame.mono (by decide) (by decide)⟩
  · show SP p e below s₁ (mkF m 0 #[vR a0, vR a1, vI (0 : Int32), vI (2 : Int32), .val .null, .unset] []) _
    refine XS.aloadN X0.here hx rfl (hb hby d3_0) rfl rfl ?_
    show SP p e below s₁ (mkF m 1 #[vR a0, vR a1, vI (0 : Int32), vI (2 : Int32), .val .null, .unset] [(.ref a0)]) _
    refine st1 _ ?_
    show SP p e below T1 (mkF m 4 #[vR a0, vR a1, vI (0 : Int32), vI (2 : Int32), .val .null, .unset] []) _
    refine XS.iloadN X1.here hx rfl (hb hby d3_4) rfl ?_
    refine XS.ifYes X1.here hx rfl (pc0 := 5) (pc' := 27) rfl (hb hby d3_5) rfl ((if0 _ _).trans (feq (by decide : ¬ ((2 : Int32) = (0 : Int32)))).2) (by decide) (by decide) ?_
    show SP p e below T1 (mkF m 27 #[vR a0, vR a1, vI (0 : Int32), vI (2 : Int32), .val .null, .unset] []) _
    refine st2 _ ?_
    show SP p e below T2 (mkF m 30 #[vR a0, vR a1, vI (0 : Int32), vI (2 : Int32), .val .null, .unset] [(.int sC)]) _
    refine XS.ifNo X2.here hx rfl (hb hby d3_30) rfl ((if0 _ _).trans (feq hc1).1) ?_
    refine XS.aloadN X2.here hx rfl (hb hby d3_33) rfl rfl ?_
    refine XS.iloadN X2.here hx rfl (hb hby d3_34) rfl ?_
    refine XS.iloadN X2.here hx rfl (hb hby d3_35) rfl ?_
    show SP p e below T2 (mkF m 36 #[vR a0, vR a1, vI (0 : Int32), vI (2 : Int32), .val .null, .unset] [(.int (2 : Int32)), (.int (0 : Int32)), (.ref a1)]) _
    refine st3 _ ?_
    show SP p e below T3 (mkF m 39 #[vR a0, vR a1, vI (0 : Int32), vI (2 : Int32), .val .null, .unset] [(.ref b3_0)]) _
    refine XS.astore X3'.here hx rfl (hb hby d3_39) rfl rfl (l' := #[vR a0, vR a1, vI (0 : Int32), vI (2 : Int32), .val .null, vR b3_0]) rfl ?_
    refine XS.aloadN X3'.here hx rfl (hb hby d3_41) rfl rfl ?_
    refine XS.aload X3'.here hx rfl (hb hby d3_42) rfl rfl ?_
    refine XS.iloadN X3'.here hx rfl (hb hby d3_44) rfl ?_
    show SP p e below T3 (mkF m 45 #[vR a0, vR a1, vI (0 : Int32), vI (2 : Int32), .val .null, vR b3_0] [(.int (2 : Int32)), (.ref b3_0), (.ref a0)]) _
    refine st4 _ ?_
    show SP p e below T4 (mkF m 48 #[vR a0, vR a1, vI (0 : Int32), vI (2 : Int32), .val .null, vR b3_0] [(.int (0 : Int32)), (.ref a0)]) _
    refine st7 _ ?_
    show SP p e below T7 (mkF m 51 #[vR a0, vR a1, vI (0 : Int32), vI (2 : Int32), .val .null, vR b3_0] []) _
    refine XS.aloadN X7'.here hx rfl (hb hby d3_51) rfl rfl ?_
    refine XS.aload X7'.here hx rfl (hb hby d3_52) rfl rfl ?_
    show SP p e below T7 (mkF m 54 #[vR a0, vR a1, vI (0 : Int32), vI (2 : Int32), .val .null, vR b3_0] [(.ref b3_0), (.ref a0)]) _
    refine st10 _ ?_
    show SP p e below T10 (mkF m 57 #[vR a0, vR a1, vI (0 : Int32), vI (2 : Int32), .val .null, vR b3_0] []) _
    exact X10'.returnOut hx Bd.returns (hb hby d3_57) hr
  · show Q3k2 Z a0 a1 sC ka1 c0 c1 h0 n0 _ T10.heap _
    rw [e10]
    exact ⟨b3_0, kk3_0, rfl, N10, sz_b3_0, K10, E_a0_u11, Fw10, F_a0_coder_u12, E_b3_0_u13, V_b3_0_u14⟩
theorem ef_rm2k2 (m : MethodId) (a0 : Addr) (a1 : Addr) : entryFrame m #[(.ref a0), (.ref a1)] 2 = mkF m 0 #[vR a0, vR a1] [] := by first | (simp [entryFrame, mkF, argsToLocals, Value.category]; done) | rfl
def Q2k2 (Z : State) (a0 : Addr) (a1 : Addr) (sC : Int32) (ka1 : ClassId) (c0 : Int32) (c1 : Int32) (h0 : Heap) (n0 : Nat) (v : Option Value) (h : Heap) (L : List Loc) : Prop := ∃ r0 : Addr, ∃ rk0 : ClassId, v = none ∧ Fr n0 L ∧ h0.size ≤ r0 ∧ Keep h0 h [a0] ∧ Exa Z h a0 cST ∧ Fld Z h a0 cST "value" "[B" (.ref r0) ∧ Fld Z h a0 cST "coder" "B" (.int (0 : Int32)) ∧ Exa Z h r0 "[B" ∧ Arv Z h r0 rk0 .byte (2 : Int32) [(.int (c0.toInt8.toInt32)), (.int (c1.toInt8.toInt32))] (.int (0 : Int32))
set_option maxRecDepth 65536 in
set_option maxHeartbeats 40000000 in
theorem rm2k2 (l : Launch) (Z : State) (az : Array Value) (hw : HW Z az) (ws : List Jvm.Cond) (a0 : Addr) (a1 : Addr) (sC : Int32) (ka1 : ClassId) (c0 : Int32) (c1 : Int32) (h0 : Heap) (n0 : Nat) (Z0 : n0 ≤ h0.size) (S_COMPACT_STRINGS : Sta Z h0 cST "COMPACT_STRINGS" "Z" (.int sC)) (hc1 : ¬ (sC = (0 : Int32))) (E_a0 : Exa Z h0 a0 cST) (F_value_a0 : Fld Z h0 a0 cST "value" "[B" .null) (F_coder_a0 : Fld Z h0 a0 cST "coder" "B" (.int (0 : Int32))) (V_a1 : Arv Z h0 a1 ka1 .char (2 : Int32) [(.int c0), (.int c1)] (.int (0 : Int32))) (E_a1 : Exa Z h0 a1 "[C") (hc7 : ¬ ((255 : Int32) < c0)) (hc8 : ¬ ((255 : Int32) < c1)) (g_a0 : n0 ≤ a0) :
    MF l Z h0 ws ⟨cST, "<init>", "([C)V"⟩ jdk_42_method_3_code 2 none ⟨3, 1, 2, 52⟩ #[(.ref a0), (.ref a1)] (Q2k2 Z a0 a1 sC ka1 c0 c1 h0 n0) := by
  refine MetFree.of_bodySF (plainFor_of_name pn_java_lang_String) hisR ?_
  intro p e s m args below meth c s₁ Bd hml0 hP hK
  obtain ⟨rfl, hZ, hh⟩ := hP
  have hx := Bd.exec
  have hby := Bd.bytes
  have hml : c.maxLocals = 2 := hml0
  have hown : s.vm.findClass cST = some m.cls := findClass_of_methodNamed Bd.named
  have hnm := (name_of_methodNamed Bd.named Bd.method).1
  have X0 : Stand p l e (⟨3, 1, 2, 52⟩ : Room) s m #[(.ref a0), (.ref a1)] below meth c s₁ [] 0 0 := Stand.of_body Bd
  have e0 : s₁.heap = h0 := by rw [← hh, Bd.state]; rfl
  have N0 := Fr.nil n0
  have pre0 : ∀ t, Steps p.tables e below (s₁.setTop (mkF m 0 #[vR a0, vR a1] [])) t → Steps p.tables e below (s₁.setTop (entryFrame m #[(.ref a0), (.ref a1)] 2)) t := fun t k => castTop (ef_rm2k2 m a0 a1) k
  obtain ⟨cl1, Ar1, qk1, Sz1, Ng1, Hs1, Gf1⟩ := id V_a1
  obtain ⟨_, _, ⟨T2, L2, k2', n2'⟩, -, X2, ⟨Lc2, hQ2, l2, y2, z2⟩, st2⟩ := X0.specialBack hx (y := (⟨cST, "<init>", "([CIILjava/lang/Void;)V"⟩ : MethodName)) rfl hown (mvT hZ (w11 hw)) (mvT hZ (w12 hw)) (mvT hZ (w14 hw)) (by decide) (backOf (W := 0) (rm3k2 l Z az hw [] a0 a1 sC ka1 c0 c1 h0 n0 Z0 S_COMPACT_STRINGS hc1 E_a0 F_value_a0 F_coder_a0 V_a1 E_a1 hc7 hc8 g_a0) hZ (w14 hw) (w6 hw) (by decide) (by decide)) (g := (mkF m 6 #[vR a0, vR a1] [.null, (.int (2 : Int32)), (.int (0 : Int32)), (.ref a1), (.ref a0)])) rfl (by rw [hml]; rfl) (Steps.refl _) (a := a0) (argsL := [(.ref a1), (.int (0 : Int32)), (.int (2 : Int32)), .null]) (rest := []) (lenOf pd_17 rfl) rfl (Nat.le_of_eq rfl) (hb hby d2_6) (fun _ _ => ⟨rfl, e0, (by decide : 0 + 1 ≤ _), (by decide : 0 + 2 ≤ _)⟩)
  dsimp only [Pt.U, Pt.locs, Pt.cells, Pt.slots] at X2 l2 y2 z2 st2 hQ2
  subst l2 y2 z2
  obtain ⟨b2_0, kk2_0, rfl, N2q, s2_0, kq2, pf2_0, pf2_1, pf2_2, pf2_3, pf2_4⟩ := hQ2
  obtain ⟨Lg2, X2', N2⟩ := own_gen X2 (Fr.app N0 N2q)
  have g_b2_0 : n0 ≤ b2_0 := Nat.le_trans Z0 s2_0
  have sz_b2_0 : h0.size ≤ b2_0 := Nat.le_trans (Nat.le_refl _) s2_0
  have K2 : Keep h0 T2.heap [a0] := (Keep.refl h0 [a0]).trans kq2 (allS (Or.inl (mg 0 rfl)) all0)
  have Z2 : n0 ≤ T2.heap.size := Nat.le_trans Z0 kq2.1
  obtain ⟨fs, hr, hrun, hended, hW, hsame⟩ := X2'.leave (v := none) (fun _ => rfl)
  refine ⟨_, _, pre0 _ ?_, hrun, hended, _, _, rfl, ?_, ⟨_, rfl⟩, hW, hsame.mono (by decide) (by decide)⟩
  · show SP p e below s₁ (mkF m 0 #[vR a0, vR a1] []) _
    refine XS.aloadN X0.here hx rfl (hb hby d2_0) rfl rfl ?_
    refine XS.aloadN X0.here hx rfl (hb hby d2_1) rfl rfl ?_
    refine XS.iconst X0.here hx rfl (hb hby d2_2) ?_
    refine XS.aloadN X0.here hx rfl (hb hby d2_3) rfl rfl ?_
    show SP p e below s₁ (mkF m 4 #[vR a0, vR a1] [(.ref a1), (.int (0 : Int32)), (.ref a1), (.ref a0)]) _
    refine X0.arraylength hx (by rw [e0]; exact Ar1.1) (State.isArrayOf_alike hZ.alike Ar1.2.1) (g := (mkF m 4 #[vR a0, vR a1] [(.ref a1), (.int (0 : Int32)), (.ref a1), (.ref a0)])) rfl rfl (hb hby d2_4) _ ?_
    rw [len_of Sz1 Ng1]
    show SP p e below s₁ (mkF m 5 #[vR a0, vR a1] [(.int (2 : Int32)), (.int (0 : Int32)), (.ref a1), (.ref a0)]) _
    refine XS.aconstNull X0.here hx rfl (hb hby d2_5) ?_
    show SP p e below s₁ (mkF m 6 #[vR a0, vR a1] [.null, (.int (2 : Int32)), (.int (0 : Int32)), (.ref a1), (.ref a0)]) _
    refine st2.trans ?_
    show SP p e below T2 (mkF m 9 #[vR a0, vR a1] []) _
    exact X2'.returnOut hx Bd.returns (hb hby d2_9) hr
  · show Q2k2 Z a0 a1 sC ka1 c0 c1 h0 n0 _ T2.heap _
    exact ⟨b2_0, kk2_0, rfl, N2, sz_b2_0, K2, pf2_0, pf2_1, pf2_2, pf2_3, pf2_4⟩
theorem ef_rm45k3 (m : MethodId) (a0 : Addr) (a2 : Addr) : entryFrame m #[(.ref a0), (.int (0 : Int32)), (.ref a2), (.int (0 : Int32)), (.int (3 : Int32))] 7 = mkF m 0 #[vR a0, vI (0 : Int32), vR a2, vI (0 : Int32), vI (3 : Int32), .unset, .unset] [] := by first | (simp [entryFrame, mkF, argsToLocals, Value.category]; done) | rfl
def Q45k3 (Z : State) (a0 : Addr) (a2 : Addr) (ka0 : ClassId) (c0 : Int32) (c1 : Int32) (c2 : Int32) (k2 : ClassId) (h0 : Heap) (n0 : Nat) (v : Option Value) (h : Heap) (L : List Loc) : Prop := v = some (.int (3 : Int32)) ∧ Fr n0 L ∧ Keep h0 h [a2] ∧ Arv Z h a2 k2 .byte (3 : Int32) [(.int (c0.toInt8.toInt32)), (.int (c1.toInt8.toInt32)), (.int (c2.toInt8.toInt32))] (.int (0 : Int32)) ∧ Exa Z h a2 "[B"
set_option maxRecDepth 65536 in
set_option maxHeartbeats 40000000 in
theorem rm45k3 (l : Launch) (Z : State) (az : Array Value) (hw : HW Z az) (ws : List Jvm.Cond) (a0 : Addr) (a2 : Addr) (ka0 : ClassId) (c0 : Int32) (c1 : Int32) (c2 : Int32) (k2 : ClassId) (h0 : Heap) (n0 : Nat) (Z0 : n0 ≤ h0.size) (V_a0 : Arv Z h0 a0 ka0 .char (3 : Int32) [(.int c0), (.int c1), (.int c2)] (.int (0 : Int32))) (E_a0 : Exa Z h0 a0 "[C") (V_a2 : Arv Z h0 a2 k2 .byte (3 : Int32) [(.int (0 : Int32)), (.int (0 : Int32)), (.int (0 : Int32))] (.int (0 : Int32))) (E_a2 : Exa Z h0 a2 "[B") (hc4 : ¬ ((255 : Int32) < c0)) (g_a2 : n0 ≤ a2) (hc6 : ¬ ((255 : Int32) < c1)) (hc7 : ¬ ((255 : Int32) < c2)) :
    MF l Z h0 ws ⟨"java/lang/StringUTF16", "compress", "([CI[BII)I"⟩ jdk_52_method_21_code 7 (some .int) ⟨0, 0, 0, 0⟩ #[(.ref a0), (.int (0 : Int32)), (.ref a2), (.int (0 : Int32)), (.int (3 : Int32))] (Q45k3 Z a0 a2 ka0 c0 c1 c2 k2 h0 n0) := by
  refine MetFree.of_bodySF (plainFor_of_name pn_java_lang_StringUTF16) hisR ?_
  intro p e s m args below meth c s₁ Bd hml0 hP hK
  obtain ⟨rfl, hZ, hh⟩ := hP
  have hx := Bd.exec
  have hby := Bd.bytes
  have hml : c.maxLocals = 7 := hml0
  have hown : s.vm.findClass "java/lang/StringUTF16" = some m.cls := findClass_of_methodNamed Bd.named
  have hnm := (name_of_methodNamed Bd.named Bd.method).1
  have X0 : Stand p l e (⟨0, 0, 0, 0⟩ : Room) s m #[(.ref a0), (.int (0 : Int32)), (.ref a2), (.int (0 : Int32)), (.int (3 : Int32))] below meth c s₁ [] 0 0 := Stand.of_body Bd
  have e0 : s₁.heap = h0 := by rw [← hh, Bd.state]; rfl
  have N0 := Fr.nil n0
  have pre0 : ∀ t, Steps p.tables e below (s₁.setTop (mkF m 0 #[vR a0, vI (0 : Int32), vR a2, vI (0 : Int32), vI (3 : Int32), .unset, .unset] [])) t → Steps p.tables e below (s₁.setTop (entryFrame m #[(.ref a0), (.int (0 : Int32)), (.ref a2), (.int (0 : Int32)), (.int (3 : Int32))] 7)) t := fun t k => castTop (ef_rm45k3 m a0 a2) k
  obtain ⟨cl1, Ar1, qk1, Sz1, Ng1, Hs1, Gf1⟩ := id V_a0
  have hin2 : ¬ ((0 : Int32) < 0 ∨ cl1.slots.size ≤ ((0 : Int32)).toNatClampNeg) := inb_of Sz1 ⟨by decide, by decide⟩
  have hat3 : cl1.slots[((0 : Int32)).toNatClampNeg]? = some (.int c0) := Hs1.at hin2 rfl
  obtain ⟨cl4, Ar4, qk4, Sz4, Ng4, Hs4, Gf4⟩ := id V_a2
  have hin5 : ¬ ((0 : Int32) < 0 ∨ cl4.slots.size ≤ ((0 : Int32)).toNatClampNeg) := inb_of Sz4 ⟨by decide, by decide⟩
  obtain ⟨T6, h6, X6, e6, W6, st6⟩ := stB X0 hx hZ e0 Ar4 (j := (0 : Int32)) hin5 (g := (mkF m 31 #[vR a0, vI (0 : Int32), vR a2, vI (0 : Int32), vI (3 : Int32), vI (0 : Int32), vI c0] [(.int (c0.toInt8.toInt32)), (.int (0 : Int32)), (.ref a2)])) rfl rfl (hb hby d45_31)
  rw [(own_nb _)] at W6
  have K6 : Keep h0 h6 [a2] := (Keep.refl h0 [a2]).wr W6 (Or.inl (mg 0 rfl))
  have V_a2_6 : Arv Z h6 a2 k2 .byte (3 : Int32) [(.int (c0.toInt8.toInt32)), (.int (0 : Int32)), (.int (0 : Int32))] (.int (0 : Int32)) := Arv.set (v := (.int (c0.toInt8.toInt32))) Ar4 qk4 Sz4 Ng4 Hs4 Gf4 (own_fits (own_nb _) (fits_nar_byte _)) W6 0 rfl (Nat.le_of_ble_eq_true rfl)
  have Z6 : n0 ≤ h6.size := Nat.le_trans Z0 (Keep.of_wr W6).1
  obtain ⟨Lg6, X6', N6⟩ := own_gen X6 (Fr.snoc X6 N0 g_a2)
  have ne_a0_a2 : a0 ≠ a2 := ne_exa E_a0 E_a2 (by decide)
  have V_a0_u7 : Arv Z h6 a0 ka0 .char (3 : Int32) [(.int c0), (.int c1), (.int c2)] (.int (0 : Int32)) := (V_a0.other W6 ne_a0_a2)
  obtain ⟨cl8, Ar8, qk8, Sz8, Ng8, Hs8, Gf8⟩ := id V_a0_u7
  have hin9 : ¬ ((1 : Int32) < 0 ∨ cl8.slots.size ≤ ((1 : Int32)).toNatClampNeg) := inb_of Sz8 ⟨by decide, by decide⟩
  have hat10 : cl8.slots[((1 : Int32)).toNatClampNeg]? = some (.int c1) := Hs8.at hin9 rfl
  obtain ⟨cl11, Ar11, qk11, Sz11, Ng11, Hs11, Gf11⟩ := id V_a2_6
  have hin12 : ¬ ((1 : Int32) < 0 ∨ cl11.slots.size ≤ ((1 : Int32)).toNatClampNeg) := inb_of Sz11 ⟨by decide, by decide⟩
  obtain ⟨T13, h13, X13, e13, W13, st13⟩ := stB X6' hx hZ e6 Ar11 (j := (1 : Int32)) hin12 (g := (mkF m 31 #[vR a0, vI (1 : Int32), vR a2, vI (1 : Int32), vI (3 : Int32), vI (1 : Int32), vI c1] [(.int (c1.toInt8.toInt32)), (.int (1 : Int32)), (.ref a2)])) rfl rfl (hb hby d45_31)
  rw [(own_nb _)] at W13
  have K13 : Keep h0 h13 [a2] := K6.wr W13 (Or.inl (mg 0 rfl))
  have V_a2_13 : Arv Z h13 a2 k2 .byte (3 : Int32) [(.int (c0.toInt8.toInt32)), (.int (c1.toInt8.toInt32)), (.int (0 : Int32))] (.int (0 : Int32)) := Arv.set (v := (.int (c1.toInt8.toInt32))) Ar11 qk11 Sz11 Ng11 Hs11 Gf11 (own_fits (own_nb _) (fits_nar_byte _)) W13 1 rfl (Nat.le_of_ble_eq_true rfl)
  have Z13 : n0 ≤ h13.size := Nat.le_trans Z6 (Keep.of_wr W13).1
  obtain ⟨Lg13, X13', N13⟩ := own_gen X13 (Fr.snoc X13 N6 g_a2)
  have V_a0_u14 : Arv Z h13 a0 ka0 .char (3 : Int32) [(.int c0), (.int c1), (.int c2)] (.int (0 : Int32)) := (V_a0_u7.other W13 ne_a0_a2)
  obtain ⟨cl15, Ar15, qk15, Sz15, Ng15, Hs15, Gf15⟩ := id V_a0_u14
  have hin16 : ¬ ((2 : Int32) < 0 ∨ cl15.slots.size ≤ ((2 : Int32)).toNatClampNeg) := inb_of Sz15 ⟨by decide, by decide⟩
  have hat17 : cl15.slots[((2 : Int32)).toNatClampNeg]? = some (.int c2) := Hs15.at hin16 rfl
  obtain ⟨cl18, Ar18, qk18, Sz18, Ng18, Hs18, Gf18⟩ := id V_a2_13
  have hin19 : ¬ ((2 : Int32) < 0 ∨ cl18.slots.size ≤ ((2 : Int32)).toNatClampNeg) := inb_of Sz18 ⟨by decide, by decide⟩
  obtain ⟨T20, h20, X20, e20, W20, st20⟩ := stB X13' hx hZ e13 Ar18 (j := (2 : Int32)) hin19 (g := (mkF m 31 #[vR a0, vI (2 : Int32), vR a2, vI (2 : Int32), vI (3 : Int32), vI (2 : Int32), vI c2] [(.int (c2.toInt8.toInt32)), (.int (2 : Int32)), (.ref a2)])) rfl rfl (hb hby d45_31)
  rw [(own_nb _)] at W20
  have K20 : Keep h0 h20 [a2] := K13.wr W20 (Or.inl (mg 0 rfl))
  have V_a2_20 : Arv Z h20 a2 k2 .byte (3 : Int32) [(.int (c0.toInt8.toInt32)), (.int (c1.toInt8.toInt32)), (.int (c2.toInt8.toInt32))] (.int (0 : Int32)) := Arv.set (v := (.int (c2.toInt8.toInt32))) Ar18 qk18 Sz18 Ng18 Hs18 Gf18 (own_fits (own_nb _) (fits_nar_byte _)) W20 2 rfl (Nat.le_of_ble_eq_true rfl)
  have Z20 : n0 ≤ h20.size := Nat.le_trans Z13 (Keep.of_wr W20).1
  obtain ⟨Lg20, X20', N20⟩ := own_gen X20 (Fr.snoc X20 N13 g_a2)
  have E_a2_u21 : Exa Z h20 a2 "[B" := (((E_a2.wr W6).wr W13).wr W20)
  obtain ⟨fs, hr, hrun, hended, hW, hsame⟩ := X20'.leave (v := some (.int (3 : Int32))) (fun h => by rw [Bd.returns] at h; cases h)
  refine ⟨_, _, pre0 _ ?_, hrun, hended, _, _, rfl, ?_, ⟨_, rfl⟩, hW, hsame.mono (by decide) (by decide)⟩
  · show SP p e below s₁ (mkF m 0 #[vR a0, vI (0 : Int32), vR a2, vI (0 : Int32), vI (3 : Int32), .unset, .unset] []) _
    refine XS.iconst X0.here hx rfl (hb hby d45_0) ?_
    refine XS.istore X0.here hx rfl (hb hby d45_1) rfl (l' := #[vR a0, vI (0 : Int32), vR a2, vI (0 : Int32), vI (3 : Int32), vI (0 : Int32), .unset]) rfl ?_
    refine XS.iload X0.here hx rfl (hb hby d45_3) rfl ?_
    refine XS.iload X0.here hx rfl (hb hby d45_5) rfl ?_
    refine XS.icmpNo X0.here hx rfl (hb hby d45_7) rfl (tlt (by decide : (0 : Int32) < (3 : Int32))).2.1 ?_
    refine XS.aloadN X0.here hx rfl (hb hby d45_10) rfl rfl ?_
    refine XS.iloadN X0.here hx rfl (hb hby d45_11) rfl ?_
    show SP p e below s₁ (mkF m 12 #[vR a0, vI (0 : Int32), vR a2, vI (0 : Int32), vI (3 : Int32), vI (0 : Int32), .unset] [(.int (0 : Int32)), (.ref a0)]) _
    refine X0.caload hx (j := (0 : Int32)) (v := (.int c0)) (by rw [e0]; exact Ar1.1) (State.isArrayOf_alike hZ.alike Ar1.2.1) Ar1.2.2 hin2 hat3 (g := (mkF m 12 #[vR a0, vI (0 : Int32), vR a2, vI (0 : Int32), vI (3 : Int32), vI (0 : Int32), .unset] [(.int (0 : Int32)), (.ref a0)])) rfl rfl (hb hby d45_12) _ ?_
    show SP p e below s₁ (mkF m 13 #[vR a0, vI (0 : Int32), vR a2, vI (0 : Int32), vI (3 : Int32), vI (0 : Int32), .unset] [(.int c0)]) _
    refine XS.istore X0.here hx rfl (hb hby d45_13) rfl (l' := #[vR a0, vI (0 : Int32), vR a2, vI (0 : Int32), vI (3 : Int32), vI (0 : Int32), vI c0]) rfl ?_
    refine XS.iload X0.here hx rfl (hb hby d45_15) rfl ?_
    refine XS.sipush X0.here hx rfl (hb hby d45_17) ?_
    refine XS.icmpYes X0.here hx rfl (pc0 := 20) (pc' := 26) rfl (hb hby d45_20) rfl (flt hc4).2.2.2 (by decide) (by decide) ?_
    refine XS.aloadN X0.here hx rfl (hb hby d45_26) rfl rfl ?_
    refine XS.iloadN X0.here hx rfl (hb hby d45_27) rfl ?_
    refine XS.iload X0.here hx rfl (hb hby d45_28) rfl ?_
    show SP p e below s₁ (mkF m 30 #[vR a0, vI (0 : Int32), vR a2, vI (0 : Int32), vI (3 : Int32), vI (0 : Int32), vI c0] [(.int c0), (.int (0 : Int32)), (.ref a2)]) _
    refine XS.i2b X0.here hx rfl (hb hby d45_30) rfl ?_
    show SP p e below s₁ (mkF m 31 #[vR a0, vI (0 : Int32), vR a2, vI (0 : Int32), vI (3 : Int32), vI (0 : Int32), vI c0] [(.int (c0.toInt8.toInt32)), (.int (0 : Int32)), (.ref a2)]) _
    refine st6 _ ?_
    show SP p e below T6 (mkF m 32 #[vR a0, vI (0 : Int32), vR a2, vI (0 : Int32), vI (3 : Int32), vI (0 : Int32), vI c0] []) _
    refine XS.iinc X6'.here hx rfl (hb hby d45_32) rfl (l' := #[vR a0, vI (1 : Int32), vR a2, vI (0 : Int32), vI (3 : Int32), vI (0 : Int32), vI c0]) rfl ?_
    refine XS.iinc X6'.here hx rfl (hb hby d45_35) rfl (l' := #[vR a0, vI (1 : Int32), vR a2, vI (1 : Int32), vI (3 : Int32), vI (0 : Int32), vI c0]) rfl ?_
    refine XS.iinc X6'.here hx rfl (hb hby d45_38) rfl (l' := #[vR a0, vI (1 : Int32), vR a2, vI (1 : Int32), vI (3 : Int32), vI (1 : Int32), vI c0]) rfl ?_
    refine XS.goto X6'.here hx rfl (pc0 := 41) (pc' := 3) rfl (hb hby d45_41) (by decide) (by decide) ?_
    refine XS.iload X6'.here hx rfl (hb hby d45_3) rfl ?_
    refine XS.iload X6'.here hx rfl (hb hby d45_5) rfl ?_
    refine XS.icmpNo X6'.here hx rfl (hb hby d45_7) rfl (tlt (by decide : (1 : Int32) < (3 : Int32))).2.1 ?_
    refine XS.aloadN X6'.here hx rfl (hb hby d45_10) rfl rfl ?_
    refine XS.iloadN X6'.here hx rfl (hb hby d45_11) rfl ?_
    show SP p e below T6 (mkF m 12 #[vR a0, vI (1 : Int32), vR a2, vI (1 : Int32), vI (3 : Int32), vI (1 : Int32), vI c0] [(.int (1 : Int32)), (.ref a0)]) _
    refine X6'.caload hx (j := (1 : Int32)) (v := (.int c1)) (by rw [e6]; exact Ar8.1) (State.isArrayOf_alike hZ.alike Ar8.2.1) Ar8.2.2 hin9 hat10 (g := (mkF m 12 #[vR a0, vI (1 : Int32), vR a2, vI (1 : Int32), vI (3 : Int32), vI (1 : Int32), vI c0] [(.int (1 : Int32)), (.ref a0)])) rfl rfl (hb hby d45_12) _ ?_
    show SP p e below T6 (mkF m 13 #[vR a0, vI (1 : Int32), vR a2, vI (1 : Int32), vI (3 : Int32), vI (1 : Int32), vI c0] [(.int c1)]) _
    refine XS.istore X6'.here hx rfl (hb hby d45_13) rfl (l' := #[vR a0, vI (1 : Int32), vR a2, vI (1 : Int32), vI (3 : Int32), vI (1 : Int32), vI c1]) rfl ?_
    refine XS.iload X6'.here hx rfl (hb hby d45_15) rfl ?_
    refine XS.sipush X6'.here hx rfl (hb hby d45_17) ?_
    refine XS.icmpYes X6'.here hx rfl (pc0 := 20) (pc' := 26) rfl (hb hby d45_20) rfl (flt hc6).2.2.2 (by decide) (by decide) ?_
    refine XS.aloadN X6'.here hx rfl (hb hby d45_26) rfl rfl ?_
    refine XS.iloadN X6'.here hx rfl (hb hby d45_27) rfl ?_
    refine XS.iload X6'.here hx rfl (hb hby d45_28) rfl ?_
    show SP p e below T6 (mkF m 30 #[vR a0, vI (1 : Int32), vR a2, vI (1 : Int32), vI (3 : Int32), vI (1 : Int32), vI c1] [(.int c1), (.int (1 : Int32)), (.ref a2)]) _
    refine XS.i2b X6'.here hx rfl (hb hby d45_30) rfl ?_
    show SP p e below T6 (mkF m 31 #[vR a0, vI (1 : Int32), vR a2, vI (1 : Int32), vI (3 : Int32), vI (1 : Int32), vI c1] [(.int (c1.toInt8.toInt32)), (.int (1 : Int32)), (.ref a2)]) _
    refine st13 _ ?_
    show SP p e below T13 (mkF m 32 #[vR a0, vI (1 : Int32), vR a2, vI (1 : Int32), vI (3 : Int32), vI (1 : Int32), vI c1] []) _
    refine XS.iinc X13'.here hx rfl (hb hby d45_32) rfl (l' := #[vR a0, vI (2 : Int32), vR a2, vI (1 : Int32), vI (3 : Int32), vI (1 : Int32), vI c1]) rfl ?_
    refine XS.iinc X13'.here hx rfl (hb hby d45_35) rfl (l' := #[vR a0, vI (2 : Int32), vR a2, vI (2 : Int32), vI (3 : Int32), vI (1 : Int32), vI c1]) rfl ?_
    refine XS.iinc X13'.here hx rfl (hb hby d45_38) rfl (l' := #[vR a0, vI (2 : Int32), vR a2, vI (2 : Int32), vI (3 : Int32), vI (2 : Int32), vI c1]) rfl ?_
    refine XS.goto X13'.here hx rfl (pc0 := 41) (pc' := 3) rfl (hb hby d45_41) (by decide) (by decide) ?_
    refine XS.iload X13'.here hx rfl (hb hby d45_3) rfl ?_
    refine XS.iload X13'.here hx rfl (hb hby d45_5) rfl ?_
    refine XS.icmpNo X13'.here hx rfl (hb hby d45_7) rfl (tlt (by decide : (2 : Int32) < (3 : Int32))).2.1 ?_
    refine XS.aloadN X13'.here hx rfl (hb hby d45_10) rfl rfl ?_
    refine XS.iloadN X13'.here hx rfl (hb hby d45_11) rfl ?_
    show SP p e below T13 (mkF m 12 #[vR a0, vI (2 : Int32), vR a2, vI (2 : Int32), vI (3 : Int32), vI (2 : Int32), vI c1] [(.int (2 : Int32)), (.ref a0)]) _
    refine X13'.caload hx (j := (2 : Int32)) (v := (.int c2)) (by rw [e13]; exact Ar15.1) (State.isArrayOf_alike hZ.alike Ar15.2.1) Ar15.2.2 hin16 hat17 (g := (mkF m 12 #[vR a0, vI (2 : Int32), vR a2, vI (2 : Int32), vI (3 : Int32), vI (2 : Int32), vI c1] [(.int (2 : Int32)), (.ref a0)])) rfl rfl (hb hby d45_12) _ ?_
    show SP p e below T13 (mkF m 13 #[vR a0, vI (2 : Int32), vR a2, vI (2 : Int32), vI (3 : Int32), vI (2 : Int32), vI c1] [(.int c2)]) _
    refine XS.istore X13'.here hx rfl (hb hby d45_13) rfl (l' := #[vR a0, vI (2 : Int32), vR a2, vI (2 : Int32), vI (3 : Int32), vI (2 : Int32), vI c2]) rfl ?_
    refine XS.iload X13'.here hx rfl (hb hby d45_15) rfl ?_
    refine XS.sipush X13'.here hx rfl (hb hby d45_17) ?_
    refine XS.icmpYes X13'.here hx rfl (pc0 := 20) (pc' := 26) rfl (hb hby d45_20) rfl (flt hc7).2.2.2 (by decide) (by decide) ?_
    refine XS.aloadN X13'.here hx rfl (hb hby d45_26) rfl rfl ?_
    refine XS.iloadN X13'.here hx rfl (hb hby d45_27) rfl ?_
    refine XS.iload X13'.here hx rfl (hb hby d45_28) rfl ?_
    show SP p e below T13 (mkF m 30 #[vR a0, vI (2 : Int32), vR a2, vI (2 : Int32), vI (3 : Int32), vI (2 : Int32), vI c2] [(.int c2), (.int (2 : Int32)), (.ref a2)]) _
    refine XS.i2b X13'.here hx rfl (hb hby d45_30) rfl ?_
    show SP p e below T13 (mkF m 31 #[vR a0, vI (2 : Int32), vR a2, vI (2 : Int32), vI (3 : Int32), vI (2 : Int32), vI c2] [(.int (c2.toInt8.toInt32)), (.int (2 : Int32)), (.ref a2)]) _
    refine st20 _ ?_
    show SP p e below T20 (mkF m 32 #[vR a0, vI (2 : Int32), vR a2, vI (2 : Int32), vI (3 : Int32), vI (2 : Int32), vI c2] []) _
    refine XS.iinc X20'.here hx rfl (hb hby d45_32) rfl (l' := #[vR a0, vI (3 : Int32), vR a2, vI (2 : Int32), vI (3 : Int32), vI (2 : Int32), vI c2]) rfl ?_
    refine XS.iinc X20'.here hx rfl (hb hby d45_35) rfl (l' := #[vR a0, vI (3 : Int32), vR a2, vI (3 : Int32), vI (3 : Int32), vI (2 : Int32), vI c2]) rfl ?_
    refine XS.iinc X20'.here hx rfl (hb hby d45_38) rfl (l' := #[vR a0, vI (3 : Int32), vR a2, vI (3 : Int32), vI (3 : Int32), vI (3 : Int32), vI c2]) rfl ?_
    refine XS.goto X20'.here hx rfl (pc0 := 41) (pc' := 3) rfl (hb hby d45_41) (by decide) (by decide) ?_
    refine XS.iload X20'.here hx rfl (hb hby d45_3) rfl ?_
    refine XS.iload X20'.here hx rfl (hb hby d45_5) rfl ?_
    refine XS.icmpYes X20'.here hx rfl (pc0 := 7) (pc' := 44) rfl (hb hby d45_7) rfl (flt (by decide : ¬ ((3 : Int32) < (3 : Int32)))).2.1 (by decide) (by decide) ?_
    refine XS.iload X20'.here hx rfl (hb hby d45_44) rfl ?_
    show SP p e below T20 (mkF m 46 #[vR a0, vI (3 : Int32), vR a2, vI (3 : Int32), vI (3 : Int32), vI (3 : Int32), vI c2] [(.int (3 : Int32))]) _
    exact retI X20' hx Bd.returns (hb hby d45_46) hr
  · show Q45k3 Z a0 a2 ka0 c0 c1 c2 k2 h0 n0 _ T20.heap _
    rw [e20]
    exact ⟨rfl, N20, K20, V_a2_20, E_a2_u21⟩
theorem ef_rm44k3 (m : MethodId) (a0 : Addr) : entryFrame m #[(.ref a0), (.int (0 : Int32)), (.int (3 : Int32))] 6 = mkF m 0 #[vR a0, vI (0 : Int32), vI (3 : Int32), .unset, .unset, .unset] [] := by first | (simp [entryFrame, mkF, argsToLocals, Value.category]; done) | rfl
def Q44k3 (Z : State) (a0 : Addr) (ka0 : ClassId) (c0 : Int32) (c1 : Int32) (c2 : Int32) (h0 : Heap) (n0 : Nat) (v : Option Value) (h : Heap) (L : List Loc) : Prop := ∃ r0 : Addr, ∃ rk0 : ClassId, v = some (.ref r0) ∧ Fr n0 L ∧ h0.size ≤ r0 ∧ Keep h0 h [] ∧ Exa Z h r0 "[B" ∧ Arv Z h r0 rk0 .byte (3 : Int32) [(.int (c0.toInt8.toInt32)), (.int (c1.toInt8.toInt32)), (.int (c2.toInt8.toInt32))] (.int (0 : Int32))
set_option maxRecDepth 65536 in
set_option maxHeartbeats 40000000 in
theorem rm44k3 (l : Launch) (Z : State) (az : Array Value) (hw : HW Z az) (ws : List Jvm.Cond) (a0 : Addr) (ka0 : ClassId) (c0 : Int32) (c1 : Int32) (c2 : Int32) (h0 : Heap) (n0 : Nat) (Z0 : n0 ≤ h0.size) (V_a0 : Arv Z h0 a0 ka0 .char (3 : Int32) [(.int c0), (.int c1), (.int c2)] (.int (0 : Int32))) (E_a0 : Exa Z h0 a0 "[C") (hc2 : ¬ ((255 : Int32) < c0)) (hc3 : ¬ ((255 : Int32) < c1)) (hc4 : ¬ ((255 : Int32) < c2)) :
    MF l Z h0 ws ⟨"java/lang/StringUTF16", "compress", "([CII)[B"⟩ jdk_52_method_16_code 6 (some (.array .byte)) ⟨1, 1, 3, 18⟩ #[(.ref a0), (.int (0 : Int32)), (.int (3 : Int32))] (Q44k3 Z a0 ka0 c0 c1 c2 h0 n0) := by
  refine MetFree.of_bodySF (plainFor_of_name pn_java_lang_StringUTF16) hisR ?_
  intro p e s m args below meth c s₁ Bd hml0 hP hK
  obtain ⟨rfl, hZ, hh⟩ := hP
  have hx := Bd.exec
  have hby := Bd.bytes
  have hml : c.maxLocals = 6 := hml0
  have hown : s.vm.findClass "java/lang/StringUTF16" = some m.cls := findClass_of_methodNamed Bd.named
  have hnm := (name_of_methodNamed Bd.named Bd.method).1
  have X0 : Stand p l e (⟨1, 1, 3, 18⟩ : Room) s m #[(.ref a0), (.int (0 : Int32)), (.int (3 : Int32))] below meth c s₁ [] 0 0 := Stand.of_body Bd
  have e0 : s₁.heap = h0 := by rw [← hh, Bd.state]; rfl
  have N0 := Fr.nil n0
  have pre0 : ∀ t, Steps p.tables e below (s₁.setTop (mkF m 0 #[vR a0, vI (0 : Int32), vI (3 : Int32), .unset, .unset, .unset] [])) t → Steps p.tables e below (s₁.setTop (entryFrame m #[(.ref a0), (.int (0 : Int32)), (.int (3 : Int32))] 6)) t := fun t k => castTop (ef_rm44k3 m a0) k
  obtain ⟨T1, h1, k1, X1, e1, E1, A1, x1, st1⟩ := newPE X0 hx hZ (aty := .byte) (w19 hw) e0 (g := (mkF m 1 #[vR a0, vI (0 : Int32), vI (3 : Int32), .unset, .unset, .unset] [(.int (3 : Int32))])) rfl (hb hby d44_1) rfl (by decide) (cap := 3) (by decide) (by decide) (by decide) (by decide) (ad := "[B") (by decide)
  obtain ⟨b1, g1⟩ : ∃ z, z = h0.size := ⟨_, rfl⟩
  rw [← g1] at A1 x1 st1
  have g_b1 : n0 ≤ b1 := Nat.le_trans Z0 (Nat.le_of_eq g1.symm)
  have sz_b1 : h0.size ≤ b1 := Nat.le_trans (Nat.le_refl _) (Nat.le_of_eq g1.symm)
  have Z1 : n0 ≤ h1.size := Nat.le_trans Z0 E1.1
  have K1 : Keep h0 h1 [] := (Keep.refl h0 []).ext E1
  have E_b1 := x1
  have V_b1 : Arv Z h1 b1 k1 .byte (3 : Int32) [(.int (0 : Int32)), (.int (0 : Int32)), (.int (0 : Int32))] (.int (0 : Int32)) := (Arv.new A1 (by decide)).pad (pad_rep [] (.int (0 : Int32)) 3)
  have V_a0_u3 : Arv Z h1 a0 ka0 .char (3 : Int32) [(.int c0), (.int c1), (.int c2)] (.int (0 : Int32)) := (V_a0.ext E1)
  have E_a0_u4 : Exa Z h1 a0 "[C" := (E_a0.ext E1)
  obtain ⟨_, _, ⟨T2, L2, k2', n2'⟩, -, X2, ⟨Lc2, hQ2, l2, y2, z2⟩, st2⟩ := Jvm.LawKit.callS X1 hx (y := (⟨"java/lang/StringUTF16", "compress", "([CI[BII)I"⟩ : MethodName)) hown (mvT hZ (w268 hw)) (mvT hZ (w269 hw)) (mvT hZ (w266 hw)) (mvT hZ (w270 hw)) (by decide) (backOf (W := 0) (rm45k3 l Z az hw [] a0 b1 ka0 c0 c1 c2 k1 h1 n0 Z1 V_a0_u3 E_a0_u4 V_b1 E_b1 hc2 g_b1 hc3 hc4) hZ (w270 hw) (w266 hw) (by decide) (by decide)) (g := (mkF m 9 #[vR a0, vI (0 : Int32), vI (3 : Int32), vR b1, .unset, .unset] [(.int (3 : Int32)), (.int (0 : Int32)), (.ref b1), (.int (0 : Int32)), (.ref a0)])) rfl (by rw [hml]; rfl) (argsL := [(.ref a0), (.int (0 : Int32)), (.ref b1), (.int (0 : Int32)), (.int (3 : Int32))]) (rest := []) (lenOf pd_18 rfl) rfl (Nat.le_of_eq rfl) (hb hby d44_9) (fun _ _ => ⟨rfl, e1, (by decide : 1 + 0 ≤ _), (by decide : 3 + 0 ≤ _)⟩)
  dsimp only [Pt.U, Pt.locs, Pt.cells, Pt.slots] at X2 l2 y2 z2 st2 hQ2
  subst l2 y2 z2
  obtain ⟨rfl, N2q, kq2, pf2_0, pf2_1⟩ := hQ2
  obtain ⟨Lg2, X2', N2⟩ := own_gen X2 (Fr.app N0 N2q)
  have K2 : Keep h0 T2.heap [] := K1.trans kq2 (allS (Or.inr sz_b1) all0)
  have Z2 : n0 ≤ T2.heap.size := Nat.le_trans Z1 kq2.1
  obtain ⟨fs, hr, hrun, hended, hW, hsame⟩ := X2'.leave (v := some (.ref b1)) (fun h => by rw [Bd.returns] at h; cases h)
  refine ⟨_, _, pre0 _ ?_, hrun, hended, _, _, rfl, ?_, ⟨_, rfl⟩, hW, hsame.mono (by decide) (by decide)⟩
  · show SP p e below s₁ (mkF m 0 #[vR a0, vI (0 : Int32), vI (3 : Int32), .unset, .unset, .unset] []) _
    refine XS.iloadN X0.here hx rfl (hb hby d44_0) rfl ?_
    show SP p e below s₁ (mkF m 1 #[vR a0, vI (0 : Int32), vI (3 : Int32), .unset, .unset, .unset] [(.int (3 : Int32))]) _
    refine st1 _ ?_
    show SP p e below T1 (mkF m 3 #[vR a0, vI (0 : Int32), vI (3 : Int32), .unset, .unset, .unset] [(.ref b1)]) _
    refine XS.astoreN X1.here hx rfl (hb hby d44_3) rfl rfl (l' := #[vR a0, vI (0 : Int32), vI (3 : Int32), vR b1, .unset, .unset]) rfl ?_
    refine XS.aloadN X1.here hx rfl (hb hby d44_4) rfl rfl ?_
    refine XS.iloadN X1.here hx rfl (hb hby d44_5) rfl ?_
    refine XS.aloadN X1.here hx rfl (hb hby d44_6) rfl rfl ?_
    refine XS.iconst X1.here hx rfl (hb hby d44_7) ?_
    refine XS.iloadN X1.here hx rfl (hb hby d44_8) rfl ?_
    show SP p e below T1 (mkF m 9 #[vR a0, vI (0 : Int32), vI (3 : Int32), vR b1, .unset, .unset] [(.int (3 : Int32)), (.int (0 : Int32)), (.ref b1), (.int (0 : Int32)), (.ref a0)]) _
    refine st2 _ ?_
    show SP p e below T2 (mkF m 12 #[vR a0, vI (0 : Int32), vI (3 : Int32), vR b1, .unset, .unset] [(.int (3 : Int32))]) _
    refine XS.istore X2'.here hx rfl (hb hby d44_12) rfl (l' := #[vR a0, vI (0 : Int32), vI (3 : Int32), vR b1, vI (3 : Int32), .unset]) rfl ?_
    refine XS.iload X2'.here hx rfl (hb hby d44_14) rfl ?_
    refine XS.iloadN X2'.here hx rfl (hb hby d44_16) rfl ?_
    refine XS.icmpYes X2'.here hx rfl (pc0 := 17) (pc' := 57) rfl (hb hby d44_17) rfl (teq (by decide : (3 : Int32) = (3 : Int32))).1 (by decide) (by decide) ?_
    refine XS.aloadN X2'.here hx rfl (hb hby d44_57) rfl rfl ?_
    show SP p e below T2 (mkF m 58 #[vR a0, vI (0 : Int32), vI (3 : Int32), vR b1, vI (3 : Int32), .unset] [(.ref b1)]) _
    jvm_step X2'.here [X2'.here.top, hx, (hb hby d44_58), X2'.method', Bd.returns, Value.isRef, FieldType.isReference]
    first | (intro acts; rw [hr _ acts rfl rfl rfl]) | rw [hr _ _ rfl rfl rfl]
    exact Steps.refl _
  · show Q44k3 Z a0 ka0 c0 c1 c2 h0 n0 _ T2.heap _
    exact ⟨b1, k1, rfl, N2, sz_b1, K2, pf2_1, pf2_0⟩
theorem ef_rm46k3 (m : MethodId) (a0 : Addr) : entryFrame m #[(.ref a0), (.int (3 : Int32))] 2 = mkF m 0 #[vR a0, vI (3 : Int32)] [] := by first | (simp [entryFrame, mkF, argsToLocals, Value.category]; done) | rfl
def Q46k3 (Z : State) (a0 : Addr) (k0 : ClassId) (b0 : Int32) (b1 : Int32) (b2 : Int32) (h0 : Heap) (n0 : Nat) (v : Option Value) (h : Heap) (L : List Loc) : Prop := v = some (.int (0 : Int32)) ∧ Fr n0 L ∧ h = h0
set_option maxRecDepth 65536 in
set_option maxHeartbeats 40000000 in
theorem rm46k3 (l : Launch) (Z : State) (az : Array Value) (hw : HW Z az) (ws : List Jvm.Cond) (a0 : Addr) (k0 : ClassId) (b0 : Int32) (b1 : Int32) (b2 : Int32) (h0 : Heap) (n0 : Nat) (Z0 : n0 ≤ h0.size) (V_a0 : Arv Z h0 a0 k0 .byte (3 : Int32) [(.int b0), (.int b1), (.int b2)] (.int (0 : Int32))) :
    MF l Z h0 ws ⟨"java/lang/StringUTF16", "coderFromArrayLen", "([BI)B"⟩ jdk_52_method_15_code 2 (some .byte) ⟨0, 0, 0, 0⟩ #[(.ref a0), (.int (3 : Int32))] (Q46k3 Z a0 k0 b0 b1 b2 h0 n0) := by
  refine MetFree.of_bodySF (plainFor_of_name pn_java_lang_StringUTF16) hisR ?_
  intro p e s m args below meth c s₁ Bd hml0 hP hK
  obtain ⟨rfl, hZ, hh⟩ := hP
  have hx := Bd.exec
  have hby := Bd.bytes
  have hml : c.maxLocals = 2 := hml0
  have hown : s.vm.findClass "java/lang/StringUTF16" = some m.cls := findClass_of_methodNamed Bd.named
  have hnm := (name_of_methodNamed Bd.named Bd.method).1
  have X0 : Stand p l e (⟨0, 0, 0, 0⟩ : Room) s m #[(.ref a0), (.int (3 : Int32))] below meth c s₁ [] 0 0 := Stand.of_body Bd
  have e0 : s₁.heap = h0 := by rw [← hh, Bd.state]; rfl
  have N0 := Fr.nil n0
  have pre0 : ∀ t, Steps p.tables e below (s₁.setTop (mkF m 0 #[vR a0, vI (3 : Int32)] [])) t → Steps p.tables e below (s₁.setTop (entryFrame m #[(.ref a0), (.int (3 : Int32))] 2)) t := fun t k => castTop (ef_rm46k3 m a0) k
  obtain ⟨cl1, Ar1, qk1, Sz1, Ng1, Hs1, Gf1⟩ := id V_a0
  obtain ⟨fs, hr, hrun, hended, hW, hsame⟩ := X0.leave (v := some (.int (0 : Int32))) (fun h => by rw [Bd.returns] at h; cases h)
  refine ⟨_, _, pre0 _ ?_, hrun, hended, _, _, rfl, ?_, ⟨_, rfl⟩, hW, hsame.mono (by decide) (by decide)⟩
  · show SP p e below s₁ (mkF m 0 #[vR a0, vI (3 : Int32)] []) _
    refine XS.iloadN X0.here hx rfl (hb hby d46_0) rfl ?_
    refine XS.aloadN X0.here hx rfl (hb hby d46_1) rfl rfl ?_
    show SP p e below s₁ (mkF m 2 #[vR a0, vI (3 : Int32)] [(.ref a0), (.int (3 : Int32))]) _
    refine X0.arraylength hx (by rw [e0]; exact Ar1.1) (State.isArrayOf_alike hZ.alike Ar1.2.1) (g := (mkF m 2 #[vR a0, vI (3 : Int32)] [(.ref a0), (.int (3 : Int32))])) rfl rfl (hb hby d46_2) _ ?_
    rw [len_of Sz1 Ng1]
    show SP p e below s₁ (mkF m 3 #[vR a0, vI (3 : Int32)] [(.int (3 : Int32)), (.int (3 : Int32))]) _
    refine XS.isub X0.here hx rfl (hb hby d46_3) rfl ?_
    refine XS.bipush X0.here hx rfl (hb hby d46_4) ?_
    refine XS.iushr X0.here hx rfl (hb hby d46_6) rfl ?_
    show SP p e below s₁ (mkF m 7 #[vR a0, vI (3 : Int32)] [(.int (0 : Int32))]) _
    refine XS.i2b X0.here hx rfl (hb hby d46_7) rfl ?_
    show SP p e below s₁ (mkF m 8 #[vR a0, vI (3 : Int32)] [(.int (0 : Int32))]) _
    exact retN X0 hx (t := .byte) Bd.returns (by simp) (hb hby d46_8) hr
  · show Q46k3 Z a0 k0 b0 b1 b2 h0 n0 _ s₁.heap _
    rw [e0]
    exact ⟨rfl, N0, rfl⟩
theorem ef_rm3k3 (m : MethodId) (a0 : Addr) (a1 : Addr) : entryFrame m #[(.ref a0), (.ref a1), (.int (0 : Int32)), (.int (3 : Int32)), .null] 6 = mkF m 0 #[vR a0, vR a1, vI (0 : Int32), vI (3 : Int32), .val .null, .unset] [] := by first | (simp [entryFrame, mkF, argsToLocals, Value.category]; done) | rfl
def Q3k3 (Z : State) (a0 : Addr) (a1 : Addr) (sC : Int32) (ka1 : ClassId) (c0 : Int32) (c1 : Int32) (c2 : Int32) (h0 : Heap) (n0 : Nat) (v : Option Value) (h : Heap) (L : List Loc) : Prop := ∃ r0 : Addr, ∃ rk0 : ClassId, v = none ∧ Fr n0 L ∧ h0.size ≤ r0 ∧ Keep h0 h [a0] ∧ Exa Z h a0 cST ∧ Fld Z h a0 cST "value" "[B" (.ref r0) ∧ Fld Z h a0 cST "coder" "B" (.int (0 : Int32)) ∧ Exa Z h r0 "[B" ∧ Arv Z h r0 rk0 .byte (3 : Int32) [(.int (c0.toInt8.toInt32)), (.int (c1.toInt8.toInt32)), (.int (c2.toInt8.toInt32))] (.int (0 : Int32))
set_option maxRecDepth 65536 in
set_option maxHeartbeats 40000000 in
theorem rm3k3 (l : Launch) (Z : State) (az : Array Value) (hw : HW Z az) (ws : List Jvm.Cond) (a0 : Addr) (a1 : Addr) (sC : Int32) (ka1 : ClassId) (c0 : Int32) (c1 : Int32) (c2 : Int32) (h0 : Heap) (n0 : Nat) (Z0 : n0 ≤ h0.size) (S_COMPACT_STRINGS : Sta Z h0 cST "COMPACT_STRINGS" "Z" (.int sC)) (hc1 : ¬ (sC = (0 : Int32))) (E_a0 : Exa Z h0 a0 cST) (F_value_a0 : Fld Z h0 a0 cST "value" "[B" .null) (F_coder_a0 : Fld Z h0 a0 cST "coder" "B" (.int (0 : Int32))) (V_a1 : Arv Z h0 a1 ka1 .char (3 : Int32) [(.int c0), (.int c1), (.int c2)] (.int (0 : Int32))) (E_a1 : Exa Z h0 a1 "[C") (hc7 : ¬ ((255 : Int32) < c0)) (hc8 : ¬ ((255 : Int32) < c1)) (hc9 : ¬ ((255 : Int32) < c2)) (g_a0 : n0 ≤ a0) :
    MF l Z h0 ws ⟨cST, "<init>", "([CIILjava/lang/Void;)V"⟩ jdk_42_method_149_code 6 none ⟨2, 1, 3, 35⟩ #[(.ref a0), (.ref a1), (.int (0 : Int32)), (.int (3 : Int32)), .null] (Q3k3 Z a0 a1 sC ka1 c0 c1 c2 h0 n0) := by
  refine MetFree.of_bodySF (plainFor_of_name pn_java_lang_String) hisR ?_
  intro p e s m args below meth c s₁ Bd hml0 hP hK
  obtain ⟨rfl, hZ, hh⟩ := hP
  have hx := Bd.exec
  have hby := Bd.bytes
  have hml : c.maxLocals = 6 := hml0
  have hown : s.vm.findClass cST = some m.cls := findClass_of_methodNamed Bd.named
  have hnm := (name_of_methodNamed Bd.named Bd.method).1
  have X0 : Stand p l e (⟨2, 1, 3, 35⟩ : Room) s m #[(.ref a0), (.ref a1), (.int (0 : Int32)), (.int (3 : Int32)), .null] below meth c s₁ [] 0 0 := Stand.of_body Bd
  have e0 : s₁.heap = h0 := by rw [← hh, Bd.state]; rfl
  have N0 := Fr.nil n0
  have pre0 : ∀ t, Steps p.tables e below (s₁.setTop (mkF m 0 #[vR a0, vR a1, vI (0 : Int32), vI (3 : Int32), .val .null, .unset] [])) t → Steps p.tables e below (s₁.setTop (entryFrame m #[(.ref a0), (.ref a1), (.int (0 : Int32)), (.int (3 : Int32)), .null] 6)) t := fun t k => castTop (ef_rm3k3 m a0 a1) k
  obtain ⟨T1, X1, e1, st1⟩ := initO X0 hx hZ hown (w15 hw) (w16 hw) (w17 hw) e0 (g := (mkF m 1 #[vR a0, vR a1, vI (0 : Int32), vI (3 : Int32), .val .null, .unset] [(.ref a0)])) rfl (by rw [hml]; rfl) rfl (hb hby d3_1) (by decide) (W := 0) (Nat.le_of_eq rfl) (by decide)
  obtain ⟨T2, X2, e2, st2⟩ := getS2 X1 hx hZ hown (host := "") (Or.inl (w71 hw)) Via.refl e1 S_COMPACT_STRINGS (g := (mkF m 27 #[vR a0, vR a1, vI (0 : Int32), vI (3 : Int32), .val .null, .unset] [])) rfl (hb hby d3_27)
  obtain ⟨_, _, ⟨T3, L3, k3', n3'⟩, -, X3, ⟨Lc3, hQ3, l3, y3, z3⟩, st3⟩ := Jvm.LawKit.callS X2 hx (y := (⟨"java/lang/StringUTF16", "compress", "([CII)[B"⟩ : MethodName)) hown (mvT hZ (w264 hw)) (mvT hZ (w265 hw)) (mvT hZ (w266 hw)) (mvT hZ (w267 hw)) (by decide) (backOf (W := 0) (rm44k3 l Z az hw [] a1 ka1 c0 c1 c2 h0 n0 Z0 V_a1 E_a1 hc7 hc8 hc9) hZ (w267 hw) (w266 hw) (by decide) (by decide)) (g := (mkF m 36 #[vR a0, vR a1, vI (0 : Int32), vI (3 : Int32), .val .null, .unset] [(.int (3 : Int32)), (.int (0 : Int32)), (.ref a1)])) rfl (by rw [hml]; rfl) (argsL := [(.ref a1), (.int (0 : Int32)), (.int (3 : Int32))]) (rest := []) (lenOf pd_19 rfl) rfl (Nat.le_of_eq rfl) (hb hby d3_36) (fun _ _ => ⟨rfl, e2, (by decide : 0 + 1 ≤ _), (by decide : 0 + 3 ≤ _)⟩)
  dsimp only [Pt.U, Pt.locs, Pt.cells, Pt.slots] at X3 l3 y3 z3 st3 hQ3
  subst l3 y3 z3
  obtain ⟨b3_0, kk3_0, rfl, N3q, s3_0, kq3, pf3_0, pf3_1⟩ := hQ3
  obtain ⟨Lg3, X3', N3⟩ := own_gen X3 (Fr.app N0 N3q)
  have g_b3_0 : n0 ≤ b3_0 := Nat.le_trans Z0 s3_0
  have sz_b3_0 : h0.size ≤ b3_0 := Nat.le_trans (Nat.le_refl _) s3_0
  have K3 : Keep h0 T3.heap [a0] := (Keep.refl h0 [a0]).trans kq3 all0
  have Z3 : n0 ≤ T3.heap.size := Nat.le_trans Z0 kq3.1
  obtain ⟨_, _, ⟨T4, L4, k4', n4'⟩, -, X4, ⟨Lc4, hQ4, l4, y4, z4⟩, st4⟩ := Jvm.LawKit.callS X3' hx (y := (⟨"java/lang/StringUTF16", "coderFromArrayLen", "([BI)B"⟩ : MethodName)) hown (mvT hZ (w271 hw)) (mvT hZ (w272 hw)) (mvT hZ (w266 hw)) (mvT hZ (w273 hw)) (by decide) (backOf (W := 1) (rm46k3 l Z az hw [] b3_0 kk3_0 (c0.toInt8.toInt32) (c1.toInt8.toInt32) (c2.toInt8.toInt32) T3.heap n0 Z3 pf3_1) hZ (w273 hw) (w266 hw) (by decide) (by decide)) (g := (mkF m 45 #[vR a0, vR a1, vI (0 : Int32), vI (3 : Int32), .val .null, vR b3_0] [(.int (3 : Int32)), (.ref b3_0), (.ref a0)])) rfl (by rw [hml]; rfl) (argsL := [(.ref b3_0), (.int (3 : Int32))]) (rest := [(.ref a0)]) (lenOf pd_20 rfl) rfl (Nat.le_of_eq rfl) (hb hby d3_45) (fun _ _ => ⟨rfl, rfl, (by decide : 1 + 0 ≤ _), (by decide : 3 + 0 ≤ _)⟩)
  dsimp only [Pt.U, Pt.locs, Pt.cells, Pt.slots] at X4 l4 y4 z4 st4 hQ4
  subst l4 y4 z4
  obtain ⟨rfl, N4q, e4⟩ := hQ4
  obtain ⟨Lg4, X4', N4⟩ := own_gen X4 (Fr.app N3 N4q)
  have F_a0_coder_u5 : Fld Z T3.heap a0 cST "coder" "B" (.int (0 : Int32)) := (F_coder_a0.keep kq3 nin0)
  have E_a0_u6 : Exa Z T3.heap a0 cST := (E_a0.keep kq3)
  obtain ⟨T7, h7, X7, e7, W7, st7⟩ := putFN X4' hx hZ hown (w25 hw) Via.refl e4 F_a0_coder_u5 E_a0_u6 (Or.inr ⟨(w21 hw), rfl, hnm⟩) (w5 hw) (ty := .byte) (v := (.int (0 : Int32))) (v' := (.int (0 : Int32))) (by decide) (by decide) (by decide) (g := (mkF m 48 #[vR a0, vR a1, vI (0 : Int32), vI (3 : Int32), .val .null, vR b3_0] [(.int (0 : Int32)), (.ref a0)])) rfl rfl (hb hby d3_48)
  have K7 : Keep h0 h7 [a0] := K3.wr W7 (Or.inl (mg 0 rfl))
  have Fw7 := F_a0_coder_u5.same W7
  have Z7 : n0 ≤ h7.size := Nat.le_trans Z3 (Keep.of_wr W7).1
  obtain ⟨Lg7, X7', N7⟩ := own_gen X7 (Fr.snoc X7 N4 g_a0)
  have F_a0_value_u8 : Fld Z h7 a0 cST "value" "[B" .null := ((F_value_a0.keep kq3 nin0).other W7 (Or.inr (sl_6 hw)))
  have E_a0_u9 : Exa Z h7 a0 cST := (E_a0_u6.wr W7)
  obtain ⟨T10, h10, X10, e10, W10, st10⟩ := putF X7' hx hZ hown (host := "") (Or.inl (w24 hw)) Via.refl e7 F_a0_value_u8 E_a0_u9 (Or.inr ⟨(w20 hw), rfl, hnm⟩) (w5 hw) (ty := (.array .byte)) (by decide) rfl rfl (g := (mkF m 54 #[vR a0, vR a1, vI (0 : Int32), vI (3 : Int32), .val .null, vR b3_0] [(.ref b3_0), (.ref a0)])) rfl rfl (hb hby d3_54)
  have K10 : Keep h0 h10 [a0] := K7.wr W10 (Or.inl (mg 0 rfl))
  have Fw10 := F_a0_value_u8.same W10
  have Z10 : n0 ≤ h10.size := Nat.le_trans Z7 (Keep.of_wr W10).1
  obtain ⟨Lg10, X10', N10⟩ := own_gen X10 (Fr.snoc X10 N7 g_a0)
  have E_a0_u11 : Exa Z h10 a0 cST := (E_a0_u9.wr W10)
  have F_a0_coder_u12 : Fld Z h10 a0 cST "coder" "B" (.int (0 : Int32)) := (Fw7.other W10 (Or.inr (sl_7 hw)))
  have E_b3_0_u13 : Exa Z h10 b3_0 "[B" := ((pf3_0.wr W7).wr W10)
  have ne_a0_b3_0 : a0 ≠ b3_0 := own_ne (Nat.lt_of_lt_of_le E_a0.lt s3_0)
  have V_b3_0_u14 : Arv Z h10 b3_0 kk3_0 .byte (3 : Int32) [(.int (c0.toInt8.toInt32)), (.int (c1.toInt8.toInt32)), (.int (c2.toInt8.toInt32))] (.int (0 : Int32)) := ((pf3_1.other W7 (Ne.symm ne_a0_b3_0)).other W10 (Ne.symm ne_a0_b3_0))
  obtain ⟨fs, hr, hrun, hended, hW, hsame⟩ := X10'.leave (v := none) (fun _ => rfl)
  refine ⟨_, _, pre0 _ ?_, hrun, hended, _, _, rfl, ?_, ⟨_, rfl⟩, hW, hsame.mono (by decide) (by decide)⟩
  · show SP p e below s₁ (mkF m 0 #[vR a0, vR a1, vI (0 : Int32), vI (3 : Int32), .val .null, .unset] []) _
    refine XS.aloadN X0.here hx rfl (hb hby d3_0) rfl rfl ?_
    show SP p e below s₁ (mkF m 1 #[vR a0, vR a1, vI (0 : Int32), vI (3 : Int32), .val .null, .unset] [(.ref a0)]) _
    refine st1 _ ?_
    show SP p e below T1 (mkF m 4 #[vR a0, vR a1, vI (0 : Int32), vI (3 : Int32), .val .null, .unset] []) _
    refine XS.iloadN X1.here hx rfl (hb hby d3_4) rfl ?_
    refine XS.ifYes X1.here hx rfl (pc0 := 5) (pc' := 27) rfl (hb hby d3_5) rfl ((if0 _ _).trans (feq (by decide : ¬ ((3 : Int32) = (0 : Int32)))).2) (by decide) (by decide) ?_
    show SP p e below T1 (mkF m 27 #[vR a0, vR a1, vI (0 : Int32), vI (3 : Int32), .val .null, .unset] []) _
    refine st2 _ ?_
    show SP p e below T2 (mkF m 30 #[vR a0, vR a1, vI (0 : Int32), vI (3 : Int32), .val .null, .unset] [(.int sC)]) _
    refine XS.ifNo X2.here hx rfl (hb hby d3_30) rfl ((if0 _ _).trans (feq hc1).1) ?_
    refine XS.aloadN X2.here hx rfl (hb hby d3_33) rfl rfl ?_
    refine XS.iloadN X2.here hx rfl (hb hby d3_34) rfl ?_
    refine XS.iloadN X2.here hx rfl (hb hby d3_35) rfl ?_
    show SP p e below T2 (mkF m 36 #[vR a0, vR a1, vI (0 : Int32), vI (3 : Int32), .val .null, .unset] [(.int (3 : Int32)), (.int (0 : Int32)), (.ref a1)]) _
    refine st3 _ ?_
    show SP p e below T3 (mkF m 39 #[vR a0, vR a1, vI (0 : Int32), vI (3 : Int32), .val .null, .unset] [(.ref b3_0)]) _
    refine XS.astore X3'.here hx rfl (hb hby d3_39) rfl rfl (l' := #[vR a0, vR a1, vI (0 : Int32), vI (3 : Int32), .val .null, vR b3_0]) rfl ?_
    refine XS.aloadN X3'.here hx rfl (hb hby d3_41) rfl rfl ?_
    refine XS.aload X3'.here hx rfl (hb hby d3_42) rfl rfl ?_
    refine XS.iloadN X3'.here hx rfl (hb hby d3_44) rfl ?_
    show SP p e below T3 (mkF m 45 #[vR a0, vR a1, vI (0 : Int32), vI (3 : Int32), .val .null, vR b3_0] [(.int (3 : Int32)), (.ref b3_0), (.ref a0)]) _
    refine st4 _ ?_
    show SP p e below T4 (mkF m 48 #[vR a0, vR a1, vI (0 : Int32), vI (3 : Int32), .val .null, vR b3_0] [(.int (0 : Int32)), (.ref a0)]) _
    refine st7 _ ?_
    show SP p e below T7 (mkF m 51 #[vR a0, vR a1, vI (0 : Int32), vI (3 : Int32), .val .null, vR b3_0] []) _
    refine XS.aloadN X7'.here hx rfl (hb hby d3_51) rfl rfl ?_
    refine XS.aload X7'.here hx rfl (hb hby d3_52) rfl rfl ?_
    show SP p e below T7 (mkF m 54 #[vR a0, vR a1, vI (0 : Int32), vI (3 : Int32), .val .null, vR b3_0] [(.ref b3_0), (.ref a0)]) _
    refine st10 _ ?_
    show SP p e below T10 (mkF m 57 #[vR a0, vR a1, vI (0 : Int32), vI (3 : Int32), .val .null, vR b3_0] []) _
    exact X10'.returnOut hx Bd.returns (hb hby d3_57) hr
  · show Q3k3 Z a0 a1 sC ka1 c0 c1 c2 h0 n0 _ T10.heap _
    rw [e10]
    exact ⟨b3_0, kk3_0, rfl, N10, sz_b3_0, K10, E_a0_u11, Fw10, F_a0_coder_u12, E_b3_0_u13, V_b3_0_u14⟩
theorem ef_rm2k3 (m : MethodId) (a0 : Addr) (a1 : Addr) : entryFrame m #[(.ref a0), (.ref a1)] 2 = mkF m 0 #[vR a0, vR a1] [] := by first | (simp [entryFrame, mkF, argsToLocals, Value.category]; done) | rfl
def Q2k3 (Z : State) (a0 : Addr) (a1 : Addr) (sC : Int32) (ka1 : ClassId) (c0 : Int32) (c1 : Int32) (c2 : Int32) (h0 : Heap) (n0 : Nat) (v : Option Value) (h : Heap) (L : List Loc) : Prop := ∃ r0 : Addr, ∃ rk0 : ClassId, v = none ∧ Fr n0 L ∧ h0.size ≤ r0 ∧ Keep h0 h [a0] ∧ Exa Z h a0 cST ∧ Fld Z h a0 cST "value" "[B" (.ref r0) ∧ Fld Z h a0 cST "coder" "B" (.int (0 : Int32)) ∧ Exa Z h r0 "[B" ∧ Arv Z h r0 rk0 .byte (3 : Int32) [(.int (c0.toInt8.toInt32)), (.int (c1.toInt8.toInt32)), (.int (c2.toInt8.toInt32))] (.int (0 : Int32))
set_option maxRecDepth 65536 in
set_option maxHeartbeats 40000000 in
theorem rm2k3 (l : Launch) (Z : State) (az : Array Value) (hw : HW Z az) (ws : List Jvm.Cond) (a0 : Addr) (a1 : Addr) (sC : Int32) (ka1 : ClassId) (c0 : Int32) (c1 : Int32) (c2 : Int32) (h0 : Heap) (n0 : Nat) (Z0 : n0 ≤ h0.size) (S_COMPACT_STRINGS : Sta Z h0 cST "COMPACT_STRINGS" "Z" (.int sC)) (hc1 : ¬ (sC = (0 : Int32))) (E_a0 : Exa Z h0 a0 cST) (F_value_a0 : Fld Z h0 a0 cST "value" "[B" .null) (F_coder_a0 : Fld Z h0 a0 cST "coder" "B" (.int (0 : Int32))) (V_a1 : Arv Z h0 a1 ka1 .char (3 : Int32) [(.int c0), (.int c1), (.int c2)] (.int (0 : Int32))) (E_a1 : Exa Z h0 a1 "[C") (hc7 : ¬ ((255 : Int32) < c0)) (hc8 : ¬ ((255 : Int32) < c1)) (hc9 : ¬ ((255 : Int32) < c2)) (g_a0 : n0 ≤ a0) :
    MF l Z h0 ws ⟨cST, "<init>", "([C)V"⟩ jdk_42_method_3_code 2 none ⟨3, 1, 3, 52⟩ #[(.ref a0), (.ref a1)] (Q2k3 Z a0 a1 sC ka1 c0 c1 c2 h0 n0) := by
  refine MetFree.of_bodySF (plainFor_of_name pn_java_lang_String) hisR ?_
  intro p e s m args below meth c s₁ Bd hml0 hP hK
  obtain ⟨rfl, hZ, hh⟩ := hP
  have hx := Bd.exec
  have hby := Bd.bytes
  have hml : c.maxLocals = 2 := hml0
  have hown : s.vm.findClass cST = some m.cls := findClass_of_methodNamed Bd.named
  have hnm := (name_of_methodNamed Bd.named Bd.method).1
  have X0 : Stand p l e (⟨3, 1, 3, 52⟩ : Room) s m #[(.ref a0), (.ref a1)] below meth c s₁ [] 0 0 := Stand.of_body Bd
  have e0 : s₁.heap = h0 := by rw [← hh, Bd.state]; rfl
  have N0 := Fr.nil n0
  have pre0 : ∀ t, Steps p.tables e below (s₁.setTop (mkF m 0 #[vR a0, vR a1] [])) t → Steps p.tables e below (s₁.setTop (entryFrame m #[(.ref a0), (.ref a1)] 2)) t := fun t k => castTop (ef_rm2k3 m a0 a1) k
  obtain ⟨cl1, Ar1, qk1, Sz1, Ng1, Hs1, Gf1⟩ := id V_a1
  obtain ⟨_, _, ⟨T2, L2, k2', n2'⟩, -, X2, ⟨Lc2, hQ2, l2, y2, z2⟩, st2⟩ := X0.specialBack hx (y := (⟨cST, "<init>", "([CIILjava/lang/Void;)V"⟩ : MethodName)) rfl hown (mvT hZ (w11 hw)) (mvT hZ (w12 hw)) (mvT hZ (w14 hw)) (by decide) (backOf (W := 0) (rm3k3 l Z az hw [] a0 a1 sC ka1 c0 c1 c2 h0 n0 Z0 S_COMPACT_STRINGS hc1 E_a0 F_value_a0 F_coder_a0 V_a1 E_a1 hc7 hc8 hc9 g_a0) hZ (w14 hw) (w6 hw) (by decide) (by decide)) (g := (mkF m 6 #[vR a0, vR a1] [.null, (.int (3 : Int32)), (.int (0 : Int32)), (.ref a1), (.ref a0)])) rfl (by rw [hml]; rfl) (Steps.refl _) (a := a0) (argsL := [(.ref a1), (.int (0 : Int32)), (.int (3 : Int32)), .null]) (rest := []) (lenOf pd_17 rfl) rfl (Nat.le_of_eq rfl) (hb hby d2_6) (fun _ _ => ⟨rfl, e0, (by decide : 0 + 1 ≤ _), (by decide : 0 + 3 ≤ _)⟩)
  dsimp only [Pt.U, Pt.locs, Pt.cells, Pt.slots] at X2 l2 y2 z2 st2 hQ2
  subst l2 y2 z2
  obtain ⟨b2_0, kk2_0, rfl, N2q, s2_0, kq2, pf2_0, pf2_1, pf2_2, pf2_3, pf2_4⟩ := hQ2
  obtain ⟨Lg2, X2', N2⟩ := own_gen X2 (Fr.app N0 N2q)
  have g_b2_0 : n0 ≤ b2_0 := Nat.le_trans Z0 s2_0
  have sz_b2_0 : h0.size ≤ b2_0 := Nat.le_trans (Nat.le_refl _) s2_0
  have K2 : Keep h0 T2.heap [a0] := (Keep.refl h0 [a0]).trans kq2 (allS (Or.inl (mg 0 rfl)) all0)
  have Z2 : n0 ≤ T2.heap.size := Nat.le_trans Z0 kq2.1
  obtain ⟨fs, hr, hrun, hended, hW, hsame⟩ := X2'.leave (v := none) (fun _ => rfl)
  refine ⟨_, _, pre0 _ ?_, hrun, hended, _, _, rfl, ?_, ⟨_, rfl⟩, hW, hsame.mono (by decide) (by decide)⟩
  · show SP p e below s₁ (mkF m 0 #[vR a0, vR a1] []) _
    refine XS.aloadN X0.here hx rfl (hb hby d2_0) rfl rfl ?_
    refine XS.aloadN X0.here hx rfl (hb hby d2_1) rfl rfl ?_
    refine XS.iconst X0.here hx rfl (hb hby d2_2) ?_
    refine XS.aloadN X0.here hx rfl (hb hby d2_3) rfl rfl ?_
    show SP p e below s₁ (mkF m 4 #[vR a0, vR a1] [(.ref a1), (.int (0 : Int32)), (.ref a1), (.ref a0)]) _
    refine X0.arraylength hx (by rw [e0]; exact Ar1.1) (State.isArrayOf_alike hZ.alike Ar1.2.1) (g := (mkF m 4 #[vR a0, vR a1] [(.ref a1), (.int (0 : Int32)), (.ref a1), (.ref a0)])) rfl rfl (hb hby d2_4) _ ?_
    rw [len_of Sz1 Ng1]
    show SP p e below s₁ (mkF m 5 #[vR a0, vR a1] [(.int (3 : Int32)), (.int (0 : Int32)), (.ref a1), (.ref a0)]) _
    refine XS.aconstNull X0.here hx rfl (hb hby d2_5) ?_
    show SP p e below s₁ (mkF m 6 #[vR a0, vR a1] [.null, (.int (3 : Int32)), (.int (0 : Int32)), (.ref a1), (.ref a0)]) _
    refine st2.trans ?_
    show SP p e below T2 (mkF m 9 #[vR a0, vR a1] []) _
    exact X2'.returnOut hx Bd.returns (hb hby d2_9) hr
  · show Q2k3 Z a0 a1 sC ka1 c0 c1 c2 h0 n0 _ T2.heap _
    exact ⟨b2_0, kk2_0, rfl, N2, sz_b2_0, K2, pf2_0, pf2_1, pf2_2, pf2_3, pf2_4⟩
theorem d1_0 : decode method_3_code 0 = .ok (.iload_n 0, 1) := by decide +kernel
theorem d1_1 : decode method_3_code 1 = .ok (.ifCond .ne 14, 3) := by decide +kernel
theorem d1_4 : decode method_3_code 4 = .ok (.new 30, 3) := by decide +kernel
theorem d1_7 : decode method_3_code 7 = .ok (.dup, 1) := by decide +kernel
theorem d1_8 : decode method_3_code 8 = .ok (.iconst 0, 1) := by decide +kernel
theorem d1_9 : decode method_3_code 9 = .ok (.newarray .char, 2) := by decide +kernel
theorem d1_11 : decode method_3_code 11 = .ok (.invokespecial 43, 3) := by decide +kernel
theorem pd_21 : parseMethodDescriptor "([C)V" = some ⟨[(.array .char)], none⟩ := by decide +kernel
theorem d1_14 : decode method_3_code 14 = .ok (.areturn, 1) := by decide +kernel
theorem pn_com_example_key_lease_keylease_store_WatchedNameClosedStorePinLaw : plainName "com/example/key_lease/keylease/store/WatchedNameClosedStorePinLaw" = true := by first | (simp [plainName, overriddenIn]; done) | decide +kernel
theorem ef_rm1k0 (m : MethodId) (p1 : Int32) (p2 : Int32) (p3 : Int32) : entryFrame m #[(.int (0 : Int32)), (.int p1), (.int p2), (.int p3)] 5 = mkF m 0 #[vI (0 : Int32), vI p1, vI p2, vI p3, .unset] [] := by first | (simp [entryFrame, mkF, argsToLocals, Value.category]; done) | rfl
def Q1k0 (Z : State) (p1 : Int32) (p2 : Int32) (p3 : Int32) (h0 : Heap) (n0 : Nat) (v : Option Value) (h : Heap) (L : List Loc) : Prop := ∃ r0 : Addr, ∃ rk0 : ClassId, ∃ rt0 : Addr, v = some (.ref r0) ∧ Fr n0 L ∧ h0.size ≤ r0 ∧ Keep h0 h [] ∧ Exa Z h r0 cST ∧ Fld Z h r0 cST "value" "[B" (.ref rt0) ∧ Fld Z h r0 cST "coder" "B" (.int (0 : Int32)) ∧ Arv Z h rt0 rk0 .byte (0 : Int32) [] (.int (0 : Int32)) ∧ Exa Z h rt0 "[B"
set_option maxRecDepth 65536 in
set_option maxHeartbeats 40000000 in
theorem rm1k0 (l : Launch) (Z : State) (az : Array Value) (hw : HW Z az) (ws : List Jvm.Cond) (p1 : Int32) (p2 : Int32) (p3 : Int32) (h0 : Heap) (n0 : Nat) (Z0 : n0 ≤ h0.size) :
    MetFree l (⟨cLW, "str", "(ICCC)Ljava/lang/String;"⟩ : MethodName) (head1 (Jvm.Cond.code (⟨cLW, "str", "(ICCC)Ljava/lang/String;"⟩ : MethodName) method_3_code 5 (some (.object cST)) :: ws) (⟨4, 6, 20, 90⟩ : Room)) (fun a U => a = #[(.int (0 : Int32)), (.int p1), (.int p2), (.int p3)] ∧ Z.Warmed39 U.vm ∧ U.heap = h0 ∧ CHv Z [(cWN, 36), (cLW, 46), (cST, 7)] U.vm h0) (fun _ _ _ _ _ => True) (fun _ U o U' => ∃ v L, o = .returned v ∧ Q1k0 Z p1 p2 p3 h0 n0 v U'.heap L ∧ CHr Z [(cWN, 36), (cLW, 46), (cST, 7)] U.vm U.heap U'.vm U'.heap ∧ ReturnedEndW U o U' L (⟨4, 6, 20, 90⟩ : Room).cells (⟨4, 6, 20, 90⟩ : Room).slots) := by
  refine MetFree.of_bodySF (plainFor_of_name pn_com_example_key_lease_keylease_store_WatchedNameClosedStorePinLaw) hisR ?_
  intro p e s m args below meth c s₁ Bd hml0 hP hK
  obtain ⟨rfl, hZ, hh, hCH⟩ := hP
  have hx := Bd.exec
  have hby := Bd.bytes
  have hml : c.maxLocals = 5 := hml0
  have hown : s.vm.findClass cLW = some m.cls := findClass_of_methodNamed Bd.named
  have hnm := (name_of_methodNamed Bd.named Bd.method).1
  have X0 : Stand p l e (⟨4, 6, 20, 90⟩ : Room) s m #[(.int (0 : Int32)), (.int p1), (.int p2), (.int p3)] below meth c s₁ [] 0 0 := Stand.of_body Bd
  have e0 : s₁.heap = h0 := by rw [← hh, Bd.state]; rfl
  have N0 := Fr.nil n0
  have pre0 : ∀ t, Steps p.tables e below (s₁.setTop (mkF m 0 #[vI (0 : Int32), vI p1, vI p2, vI p3, .unset] [])) t → Steps p.tables e below (s₁.setTop (entryFrame m #[(.int (0 : Int32)), (.int p1), (.int p2), (.int p3)] 5)) t := fun t k => castTop (ef_rm1k0 m p1 p2 p3) k
  have hZo := hZ
  have hEW : EW Z az [(cWN, 36), (cLW, 46), (cST, 7)] := (EW.cons (hw _ (mg 99 rfl)) (by decide) (EW.cons (hw _ (mg 238 rfl)) (by decide) (EW.cons (hw _ (mg 18 rfl)) (by decide) EW.nil)))
  have hS0 : s.Since s.vm 0 := (State.WarmedH.refl s).since 0
  have wS : ∀ a ∈ Bundle.stringAtoms, a.before az Z = true := fun d hd => by
    simp only [Bundle.stringAtoms, List.mem_cons, List.not_mem_nil, or_false] at hd
    rcases hd with rfl | rfl | rfl | rfl | rfl | rfl | rfl
    · exact (hw _ (mg 6 rfl))
    · exact (hw _ (mg 5 rfl))
    · exact (hw _ (mg 19 rfl))
    · exact (hw _ (mg 20 rfl))
    · exact (hw _ (mg 21 rfl))
    · exact (hw _ (mg 22 rfl))
    · exact (hw _ (mg 23 rfl))
  obtain ⟨T1, h1, X1, e1, E1, A1, D1, -, st1⟩ := newO X0 hx hZ hown (w4 hw) (w5 hw) (w6 hw) e0 (g := (mkF m 4 #[vI (0 : Int32), vI p1, vI p2, vI p3, .unset] [])) rfl (hb hby d1_4) (by decide) (by decide)
  obtain ⟨b1, g1⟩ : ∃ z, z = h0.size := ⟨_, rfl⟩
  rw [← g1] at A1 D1 st1
  have g_b1 : n0 ≤ b1 := Nat.le_trans Z0 (Nat.le_of_eq g1.symm)
  have sz_b1 : h0.size ≤ b1 := Nat.le_trans (Nat.le_refl _) (Nat.le_of_eq g1.symm)
  have Z1 : n0 ≤ h1.size := Nat.le_trans Z0 E1.1
  have K1 : Keep h0 h1 [] := (Keep.refl h0 []).ext E1
  have E_b1 := A1
  have F_value_b1 : Fld Z h1 b1 cST "value" "[B" .null := D1 (Or.inr (w20 hw)) (ty := (.array .byte)) (by decide)
  have F_coder_b1 : Fld Z h1 b1 cST "coder" "B" (.int (0 : Int32)) := D1 (Or.inr (w21 hw)) (ty := .byte) (by decide)
  obtain ⟨T2, h2, k2, X2, e2, E2, A2, x2, st2⟩ := newPE X1 hx hZ (aty := .char) (w7 hw) e1 (g := (mkF m 9 #[vI (0 : Int32), vI p1, vI p2, vI p3, .unset] [(.int (0 : Int32)), (.ref b1), (.ref b1)])) rfl (hb hby d1_9) rfl (by decide) (cap := 0) (by decide) (by decide) (by decide) (by decide) (ad := "[C") (by decide)
  obtain ⟨b2, g2⟩ : ∃ z, z = h1.size := ⟨_, rfl⟩
  rw [← g2] at A2 x2 st2
  have g_b2 : n0 ≤ b2 := Nat.le_trans Z1 (Nat.le_of_eq g2.symm)
  have sz_b2 : h0.size ≤ b2 := Nat.le_trans K1.1 (Nat.le_of_eq g2.symm)
  have Z2 : n0 ≤ h2.size := Nat.le_trans Z1 E2.1
  have K2 : Keep h0 h2 [] := K1.ext E2
  have E_b2 := x2
  have V_b2 : Arv Z h2 b2 k2 .char (0 : Int32) [] (.int (0 : Int32)) := Arv.new A2 (by decide)
  have E_b1_u4 : Exa Z h2 b1 cST := (E_b1.ext E2)
  have F_b1_value_u5 : Fld Z h2 b1 cST "value" "[B" .null := (F_value_b1.ext E2)
  have F_b1_coder_u6 : Fld Z h2 b1 cST "coder" "B" (.int (0 : Int32)) := (F_coder_b1.ext E2)
  have rh0 := CHr.refl hCH
  have rh7 := rh0.trans (CHr.ext E1 rh0.1)
  have rh8 := rh7.trans (CHr.ext E2 rh7.1)
  obtain ⟨_, _, ⟨T3, L3, k3', n3'⟩, -, Y3, yS3, yg3, ⟨Lc3, hQ3, l3, y3, z3, ch3⟩, st3⟩ := X2.specialBackS hx (y := (⟨cST, "<init>", "([C)V"⟩ : MethodName)) rfl hown (mvT hZ (w8 hw)) (mvT hZ (w9 hw)) (mvT hZ (w10 hw)) (by decide) (backOfSH (W := 1) (rm2k0 l Z az hw [] b1 b2 k2 h2 n0 Z2 E_b1_u4 F_b1_value_u5 F_b1_coder_u6 V_b2 g_b1) hZ (w10 hw) (w6 hw) (by decide) (by decide) hEW rh8.1) (g := (mkF m 11 #[vI (0 : Int32), vI p1, vI p2, vI p3, .unset] [(.ref b2), (.ref b1), (.ref b1)])) rfl (by rw [hml]; rfl) (Steps.refl _) (a := b1) (argsL := [(.ref b2)]) (rest := [(.ref b1)]) (lenOf pd_21 rfl) rfl (Nat.le_of_eq rfl) (hb hby d1_11) (fun _ _ => ⟨rfl, e2, (by decide : 2 + 4 ≤ _), (by decide : 4 + 8 ≤ _)⟩)
  dsimp only [Pt.U, Pt.locs, Pt.cells, Pt.slots] at Y3 yS3 yg3 l3 y3 z3 st3 hQ3 ch3
  subst l3 y3 z3
  obtain ⟨X3, hS3, hZ3, hown3⟩ := rebS (s := s) (vm0 := s.vm) hS0 (by rw [e2]; exact (Nat.le_trans (Nat.le_trans (Nat.zero_le _) E1.1) E2.1)) Y3 yS3 yg3 hZ hown
  obtain ⟨kk3_0, x3_0, rfl, N3q, kq3, pf3_0, pf3_1, pf3_2, pf3_3, pf3_4⟩ := hQ3
  obtain ⟨Lg3, X3', N3⟩ := own_gen X3 (Fr.app N0 N3q)
  have K3 : Keep h0 T3.heap [] := K2.trans kq3 (allS (Or.inr sz_b1) all0)
  have Z3 : n0 ≤ T3.heap.size := Nat.le_trans Z2 kq3.1
  have rh9 := rh8.trans ch3
  have hCHR := rh9.trans (CHv.at (s := s) (vm0 := T3.vm) X3' hZ3 hEW rh9.1)
  obtain ⟨fs, hr, hrun, hended, hWE⟩ := X3'.leaveW (s := s) hS3 (Nat.le_refl _) (v := some (.ref b1)) (fun h => by rw [Bd.returns] at h; cases h)
  refine ⟨_, _, pre0 _ ?_, hrun, hended, _, _, rfl, ?_, (by rw [hh]; show CHr _ _ _ _ T3.vm T3.heap; exact hCHR), hWE.1, hWE.2.1, hWE.2.2.1, hWE.2.2.2.mono (by decide) (by decide)⟩
  · show SP p e below s₁ (mkF m 0 #[vI (0 : Int32), vI p1, vI p2, vI p3, .unset] []) _
    refine XS.iloadN X0.here hx rfl (hb hby d1_0) rfl ?_
    refine XS.ifNo X0.here hx rfl (hb hby d1_1) rfl ((if0 _ _).trans (teq (by decide : (0 : Int32) = (0 : Int32))).2) ?_
    show SP p e below s₁ (mkF m 4 #[vI (0 : Int32), vI p1, vI p2, vI p3, .unset] []) _
    refine st1 _ ?_
    show SP p e below T1 (mkF m 7 #[vI (0 : Int32), vI p1, vI p2, vI p3, .unset] [(.ref b1)]) _
    refine XS.dup X1.here hx rfl (hb hby d1_7) rfl rfl ?_
    refine XS.iconst X1.here hx rfl (hb hby d1_8) ?_
    show SP p e below T1 (mkF m 9 #[vI (0 : Int32), vI p1, vI p2, vI p3, .unset] [(.int (0 : Int32)), (.ref b1), (.ref b1)]) _
    refine st2 _ ?_
    show SP p e below T2 (mkF m 11 #[vI (0 : Int32), vI p1, vI p2, vI p3, .unset] [(.ref b2), (.ref b1), (.ref b1)]) _
    refine st3.trans ?_
    show SP p e below T3 (mkF m 14 #[vI (0 : Int32), vI p1, vI p2, vI p3, .unset] [(.ref b1)]) _
    jvm_step X3'.here [X3'.here.top, hx, (hb hby d1_14), X3'.method', Bd.returns, Value.isRef, FieldType.isReference]
    first | (intro acts; rw [hr _ acts rfl rfl rfl]) | rw [hr _ _ rfl rfl rfl]
    exact Steps.refl _
  · show Q1k0 Z p1 p2 p3 h0 n0 _ T3.heap _
    exact ⟨b1, kk3_0, x3_0, rfl, N3, sz_b1, K3, pf3_0, pf3_1, pf3_2, pf3_3, pf3_4⟩
theorem d1_15 : decode method_3_code 15 = .ok (.iload_n 0, 1) := by decide +kernel
theorem d1_16 : decode method_3_code 16 = .ok (.iconst 1, 1) := by decide +kernel
theorem d1_17 : decode method_3_code 17 = .ok (.if_icmp .ne 23, 3) := by decide +kernel
theorem d1_20 : decode method_3_code 20 = .ok (.iconst 1, 1) := by decide +kernel
theorem d1_21 : decode method_3_code 21 = .ok (.newarray .char, 2) := by decide +kernel
theorem d1_23 : decode method_3_code 23 = .ok (.astore 4, 2) := by decide +kernel
theorem d1_25 : decode method_3_code 25 = .ok (.aload 4, 2) := by decide +kernel
theorem d1_27 : decode method_3_code 27 = .ok (.iconst 0, 1) := by decide +kernel
theorem d1_28 : decode method_3_code 28 = .ok (.iload_n 1, 1) := by decide +kernel
theorem d1_29 : decode method_3_code 29 = .ok (.castore, 1) := by decide +kernel
theorem d1_30 : decode method_3_code 30 = .ok (.new 30, 3) := by decide +kernel
theorem d1_33 : decode method_3_code 33 = .ok (.dup, 1) := by decide +kernel
theorem d1_34 : decode method_3_code 34 = .ok (.aload 4, 2) := by decide +kernel
theorem d1_36 : decode method_3_code 36 = .ok (.invokespecial 43, 3) := by decide +kernel
theorem d1_39 : decode method_3_code 39 = .ok (.areturn, 1) := by decide +kernel
theorem ef_rm1k1 (m : MethodId) (p1 : Int32) (p2 : Int32) (p3 : Int32) : entryFrame m #[(.int (1 : Int32)), (.int p1), (.int p2), (.int p3)] 5 = mkF m 0 #[vI (1 : Int32), vI p1, vI p2, vI p3, .unset] [] := by first | (simp [entryFrame, mkF, argsToLocals, Value.category]; done) | rfl
def Q1k1 (Z : State) (p1 : Int32) (p2 : Int32) (p3 : Int32) (sC : Int32) (h0 : Heap) (n0 : Nat) (v : Option Value) (h : Heap) (L : List Loc) : Prop := ∃ r0 : Addr, ∃ r1 : Addr, ∃ rk0 : ClassId, v = some (.ref r0) ∧ Fr n0 L ∧ h0.size ≤ r0 ∧ r0 < r1 ∧ Keep h0 h [] ∧ Exa Z h r0 cST ∧ Fld Z h r0 cST "value" "[B" (.ref r1) ∧ Fld Z h r0 cST "coder" "B" (.int (0 : Int32)) ∧ Exa Z h r1 "[B" ∧ Arv Z h r1 rk0 .byte (1 : Int32) [(.int (p1.toInt8.toInt32))] (.int (0 : Int32))
set_option maxRecDepth 65536 in
set_option maxHeartbeats 40000000 in
theorem rm1k1 (l : Launch) (Z : State) (az : Array Value) (hw : HW Z az) (ws : List Jvm.Cond) (p1 : Int32) (p2 : Int32) (p3 : Int32) (sC : Int32) (h0 : Heap) (n0 : Nat) (Z0 : n0 ≤ h0.size) (S_COMPACT_STRINGS : Sta Z h0 cST "COMPACT_STRINGS" "Z" (.int sC)) (hc1 : ¬ (sC = (0 : Int32))) (hc2 : nar .char p1 = p1) (hc3 : ¬ ((255 : Int32) < p1)) :
    MetFree l (⟨cLW, "str", "(ICCC)Ljava/lang/String;"⟩ : MethodName) (head1 (Jvm.Cond.code (⟨cLW, "str", "(ICCC)Ljava/lang/String;"⟩ : MethodName) method_3_code 5 (some (.object cST)) :: ws) (⟨4, 6, 20, 90⟩ : Room)) (fun a U => a = #[(.int (1 : Int32)), (.int p1), (.int p2), (.int p3)] ∧ Z.Warmed39 U.vm ∧ U.heap = h0 ∧ CHv Z [(cWN, 36), (cLW, 46), (cST, 7)] U.vm h0) (fun _ _ _ _ _ => True) (fun _ U o U' => ∃ v L, o = .returned v ∧ Q1k1 Z p1 p2 p3 sC h0 n0 v U'.heap L ∧ CHr Z [(cWN, 36), (cLW, 46), (cST, 7)] U.vm U.heap U'.vm U'.heap ∧ ReturnedEndW U o U' L (⟨4, 6, 20, 90⟩ : Room).cells (⟨4, 6, 20, 90⟩ : Room).slots) := by
  refine MetFree.of_bodySF (plainFor_of_name pn_com_example_key_lease_keylease_store_WatchedNameClosedStorePinLaw) hisR ?_
  intro p e s m args below meth c s₁ Bd hml0 hP hK
  obtain ⟨rfl, hZ, hh, hCH⟩ := hP
  have hx := Bd.exec
  have hby := Bd.bytes
  have hml : c.maxLocals = 5 := hml0
  have hown : s.vm.findClass cLW = some m.cls := findClass_of_methodNamed Bd.named
  have hnm := (name_of_methodNamed Bd.named Bd.method).1
  have X0 : Stand p l e (⟨4, 6, 20, 90⟩ : Room) s m #[(.int (1 : Int32)), (.int p1), (.int p2), (.int p3)] below meth c s₁ [] 0 0 := Stand.of_body Bd
  have e0 : s₁.heap = h0 := by rw [← hh, Bd.state]; rfl
  have N0 := Fr.nil n0
  have pre0 : ∀ t, Steps p.tables e below (s₁.setTop (mkF m 0 #[vI (1 : Int32), vI p1, vI p2, vI p3, .unset] [])) t → Steps p.tables e below (s₁.setTop (entryFrame m #[(.int (1 : Int32)), (.int p1), (.int p2), (.int p3)] 5)) t := fun t k => castTop (ef_rm1k1 m p1 p2 p3) k
  have hZo := hZ
  have hEW : EW Z az [(cWN, 36), (cLW, 46), (cST, 7)] := (EW.cons (hw _ (mg 99 rfl)) (by decide) (EW.cons (hw _ (mg 238 rfl)) (by decide) (EW.cons (hw _ (mg 18 rfl)) (by decide) EW.nil)))
  have hS0 : s.Since s.vm 0 := (State.WarmedH.refl s).since 0
  have wS : ∀ a ∈ Bundle.stringAtoms, a.before az Z = true := fun d hd => by
    simp only [Bundle.stringAtoms, List.mem_cons, List.not_mem_nil, or_false] at hd
    rcases hd with rfl | rfl | rfl | rfl | rfl | rfl | rfl
    · exact (hw _ (mg 6 rfl))
    · exact (hw _ (mg 5 rfl))
    · exact (hw _ (mg 19 rfl))
    · exact (hw _ (mg 20 rfl))
    · exact (hw _ (mg 21 rfl))
    · exact (hw _ (mg 22 rfl))
    · exact (hw _ (mg 23 rfl))
  obtain ⟨T1, h1, k1, X1, e1, E1, A1, x1, st1⟩ := newPE X0 hx hZ (aty := .char) (w7 hw) e0 (g := (mkF m 21 #[vI (1 : Int32), vI p1, vI p2, vI p3, .unset] [(.int (1 : Int32))])) rfl (hb hby d1_21) rfl (by decide) (cap := 1) (by decide) (by decide) (by decide) (by decide) (ad := "[C") (by decide)
  obtain ⟨b1, g1⟩ : ∃ z, z = h0.size := ⟨_, rfl⟩
  rw [← g1] at A1 x1 st1
  have g_b1 : n0 ≤ b1 := Nat.le_trans Z0 (Nat.le_of_eq g1.symm)
  have sz_b1 : h0.size ≤ b1 := Nat.le_trans (Nat.le_refl _) (Nat.le_of_eq g1.symm)
  have Z1 : n0 ≤ h1.size := Nat.le_trans Z0 E1.1
  have K1 : Keep h0 h1 [] := (Keep.refl h0 []).ext E1
  have E_b1 := x1
  have V_b1 : Arv Z h1 b1 k1 .char (1 : Int32) [(.int (0 : Int32))] (.int (0 : Int32)) := (Arv.new A1 (by decide)).pad (pad_rep [] (.int (0 : Int32)) 1)
  obtain ⟨cl2, Ar2, qk2, Sz2, Ng2, Hs2, Gf2⟩ := id V_b1
  have hin3 : ¬ ((0 : Int32) < 0 ∨ cl2.slots.size ≤ ((0 : Int32)).toNatClampNeg) := inb_of Sz2 ⟨by decide, by decide⟩
  obtain ⟨T4, h4, X4, e4, W4, st4⟩ := stC X1 hx hZ e1 Ar2 (j := (0 : Int32)) hin3 (g := (mkF m 29 #[vI (1 : Int32), vI p1, vI p2, vI p3, vR b1] [(.int p1), (.int (0 : Int32)), (.ref b1)])) rfl rfl (hb hby d1_29)
  rw [hc2] at W4
  have K4 : Keep h0 h4 [] := K1.wr W4 (Or.inr sz_b1)
  have V_b1_4 : Arv Z h4 b1 k1 .char (1 : Int32) [(.int p1)] (.int (0 : Int32)) := Arv.set (v := (.int p1)) Ar2 qk2 Sz2 Ng2 Hs2 Gf2 (own_fits hc2 (fits_nar_char _)) W4 0 rfl (Nat.le_of_ble_eq_true rfl)
  have Z4 : n0 ≤ h4.size := Nat.le_trans Z1 (Keep.of_wr W4).1
  obtain ⟨Lg4, X4', N4⟩ := own_gen X4 (Fr.snoc X4 N0 g_b1)
  obtain ⟨T5, h5, X5, e5, E5, A5, D5, -, st5⟩ := newO X4' hx hZ hown (w4 hw) (w5 hw) (w6 hw) e4 (g := (mkF m 30 #[vI (1 : Int32), vI p1, vI p2, vI p3, vR b1] [])) rfl (hb hby d1_30) (by decide) (by decide)
  obtain ⟨b5, g5⟩ : ∃ z, z = h4.size := ⟨_, rfl⟩
  rw [← g5] at A5 D5 st5
  have g_b5 : n0 ≤ b5 := Nat.le_trans Z4 (Nat.le_of_eq g5.symm)
  have sz_b5 : h0.size ≤ b5 := Nat.le_trans K4.1 (Nat.le_of_eq g5.symm)
  have Z5 : n0 ≤ h5.size := Nat.le_trans Z4 E5.1
  have K5 : Keep h0 h5 [] := K4.ext E5
  have E_b5 := A5
  have F_value_b5 : Fld Z h5 b5 cST "value" "[B" .null := D5 (Or.inr (w20 hw)) (ty := (.array .byte)) (by decide)
  have F_coder_b5 : Fld Z h5 b5 cST "coder" "B" (.int (0 : Int32)) := D5 (Or.inr (w21 hw)) (ty := .byte) (by decide)
  have S_String_COMPACT_STRINGS_u7 : Sta Z h5 cST "COMPACT_STRINGS" "Z" (.int sC) := (((S_COMPACT_STRINGS.ext E1).wr W4).ext E5)
  have V_b1_u8 : Arv Z h5 b1 k1 .char (1 : Int32) [(.int p1)] (.int (0 : Int32)) := (V_b1_4.ext E5)
  have E_b1_u9 : Exa Z h5 b1 "[C" := ((E_b1.wr W4).ext E5)
  obtain ⟨_, _, ⟨T6, L6, k6', n6'⟩, -, X6, ⟨Lc6, hQ6, l6, y6, z6⟩, st6⟩ := X5.specialBack hx (y := (⟨cST, "<init>", "([C)V"⟩ : MethodName)) rfl hown (mvT hZ (w8 hw)) (mvT hZ (w9 hw)) (mvT hZ (w10 hw)) (by decide) (backOf (W := 1) (rm2k1 l Z az hw [] b5 b1 sC k1 p1 h5 n0 Z5 S_String_COMPACT_STRINGS_u7 hc1 E_b5 F_value_b5 F_coder_b5 V_b1_u8 E_b1_u9 hc3 g_b5) hZ (w10 hw) (w6 hw) (by decide) (by decide)) (g := (mkF m 36 #[vI (1 : Int32), vI p1, vI p2, vI p3, vR b1] [(.ref b1), (.ref b5), (.ref b5)])) rfl (by rw [hml]; rfl) (Steps.refl _) (a := b5) (argsL := [(.ref b1)]) (rest := [(.ref b5)]) (lenOf pd_21 rfl) rfl (Nat.le_of_eq rfl) (hb hby d1_36) (fun _ _ => ⟨rfl, e5, (by decide : 2 + 1 ≤ _), (by decide : 5 + 1 ≤ _)⟩)
  dsimp only [Pt.U, Pt.locs, Pt.cells, Pt.slots] at X6 l6 y6 z6 st6 hQ6
  subst l6 y6 z6
  obtain ⟨b6_0, kk6_0, rfl, N6q, s6_0, kq6, pf6_0, pf6_1, pf6_2, pf6_3, pf6_4⟩ := hQ6
  obtain ⟨Lg6, X6', N6⟩ := own_gen X6 (Fr.app N4 N6q)
  have g_b6_0 : n0 ≤ b6_0 := Nat.le_trans Z5 s6_0
  have sz_b6_0 : h0.size ≤ b6_0 := Nat.le_trans K5.1 s6_0
  have K6 : Keep h0 T6.heap [] := K5.trans kq6 (allS (Or.inr sz_b5) all0)
  have Z6 : n0 ≤ T6.heap.size := Nat.le_trans Z5 kq6.1
  have rh0 := CHr.refl hCH
  have rh10 := rh0.trans (CHr.ext E1 rh0.1)
  have sf12 : Safe Z [(cWN, 36), (cLW, 46), (cST, 7)] s.vm h1 b1 := Safe.exa hZo.alike E_b1 (by decide) (by decide)
  have rh11 := rh10.trans (CHr.wr W4 sf12 rh10.1)
  have rh13 := rh11.trans (CHr.ext E5 rh11.1)
  have sf15 : Safe Z [(cWN, 36), (cLW, 46), (cST, 7)] s.vm h4 b5 := Safe.new (Nat.le_of_eq g5.symm)
  have sf16 : Safe Z [(cWN, 36), (cLW, 46), (cST, 7)] s.vm h5 b5 := Safe.ext E5 rh11.1 sf15
  have rh14 := rh13.trans (CHr.keep kq6 (sfS sf16 sf0) rh13.1)
  have hCHR := rh14.trans (CHv.at (s := s) (vm0 := s.vm) X6' hZ hEW rh14.1)
  obtain ⟨fs, hr, hrun, hended, hWE⟩ := X6'.leaveW (s := s) hS0 (Nat.le_trans (Nat.le_trans (Nat.le_trans (Nat.le_trans (Nat.zero_le _) E1.1) (Keep.of_wr W4).1) E5.1) kq6.1) (v := some (.ref b5)) (fun h => by rw [Bd.returns] at h; cases h)
  refine ⟨_, _, pre0 _ ?_, hrun, hended, _, _, rfl, ?_, (by rw [hh]; show CHr _ _ _ _ T6.vm T6.heap; exact hCHR), hWE.1, hWE.2.1, hWE.2.2.1, hWE.2.2.2.mono (by decide) (by decide)⟩
  · show SP p e below s₁ (mkF m 0 #[vI (1 : Int32), vI p1, vI p2, vI p3, .unset] []) _
    refine XS.iloadN X0.here hx rfl (hb hby d1_0) rfl ?_
    refine XS.ifYes X0.here hx rfl (pc0 := 1) (pc' := 15) rfl (hb hby d1_1) rfl ((if0 _ _).trans (feq (by decide : ¬ ((1 : Int32) = (0 : Int32)))).2) (by decide) (by decide) ?_
    refine XS.iloadN X0.here hx rfl (hb hby d1_15) rfl ?_
    refine XS.iconst X0.here hx rfl (hb hby d1_16) ?_
    refine XS.icmpNo X0.here hx rfl (hb hby d1_17) rfl (teq (by decide : (1 : Int32) = (1 : Int32))).2 ?_
    refine XS.iconst X0.here hx rfl (hb hby d1_20) ?_
    show SP p e below s₁ (mkF m 21 #[vI (1 : Int32), vI p1, vI p2, vI p3, .unset] [(.int (1 : Int32))]) _
    refine st1 _ ?_
    show SP p e below T1 (mkF m 23 #[vI (1 : Int32), vI p1, vI p2, vI p3, .unset] [(.ref b1)]) _
    refine XS.astore X1.here hx rfl (hb hby d1_23) rfl rfl (l' := #[vI (1 : Int32), vI p1, vI p2, vI p3, vR b1]) rfl ?_
    refine XS.aload X1.here hx rfl (hb hby d1_25) rfl rfl ?_
    refine XS.iconst X1.here hx rfl (hb hby d1_27) ?_
    refine XS.iloadN X1.here hx rfl (hb hby d1_28) rfl ?_
    show SP p e below T1 (mkF m 29 #[vI (1 : Int32), vI p1, vI p2, vI p3, vR b1] [(.int p1), (.int (0 : Int32)), (.ref b1)]) _
    refine st4 _ ?_
    show SP p e below T4 (mkF m 30 #[vI (1 : Int32), vI p1, vI p2, vI p3, vR b1] []) _
    refine st5 _ ?_
    show SP p e below T5 (mkF m 33 #[vI (1 : Int32), vI p1, vI p2, vI p3, vR b1] [(.ref b5)]) _
    refine XS.dup X5.here hx rfl (hb hby d1_33) rfl rfl ?_
    refine XS.aload X5.here hx rfl (hb hby d1_34) rfl rfl ?_
    show SP p e below T5 (mkF m 36 #[vI (1 : Int32), vI p1, vI p2, vI p3, vR b1] [(.ref b1), (.ref b5), (.ref b5)]) _
    refine st6.trans ?_
    show SP p e below T6 (mkF m 39 #[vI (1 : Int32), vI p1, vI p2, vI p3, vR b1] [(.ref b5)]) _
    jvm_step X6'.here [X6'.here.top, hx, (hb hby d1_39), X6'.method', Bd.returns, Value.isRef, FieldType.isReference]
    first | (intro acts; rw [hr _ acts rfl rfl rfl]) | rw [hr _ _ rfl rfl rfl]
    exact Steps.refl _
  · show Q1k1 Z p1 p2 p3 sC h0 n0 _ T6.heap _
    exact ⟨b5, b6_0, kk6_0, rfl, N6, sz_b5, (Nat.lt_of_lt_of_le E_b5.lt s6_0), K6, pf6_0, pf6_1, pf6_2, pf6_3, pf6_4⟩
theorem d1_40 : decode method_3_code 40 = .ok (.iload_n 0, 1) := by decide +kernel
theorem d1_41 : decode method_3_code 41 = .ok (.iconst 2, 1) := by decide +kernel
theorem d1_42 : decode method_3_code 42 = .ok (.if_icmp .ne 28, 3) := by decide +kernel
theorem d1_45 : decode method_3_code 45 = .ok (.iconst 2, 1) := by decide +kernel
theorem d1_46 : decode method_3_code 46 = .ok (.newarray .char, 2) := by decide +kernel
theorem d1_48 : decode method_3_code 48 = .ok (.astore 4, 2) := by decide +kernel
theorem d1_50 : decode method_3_code 50 = .ok (.aload 4, 2) := by decide +kernel
theorem d1_52 : decode method_3_code 52 = .ok (.iconst 0, 1) := by decide +kernel
theorem d1_53 : decode method_3_code 53 = .ok (.iload_n 1, 1) := by decide +kernel
theorem d1_54 : decode method_3_code 54 = .ok (.castore, 1) := by decide +kernel
theorem d1_55 : decode method_3_code 55 = .ok (.aload 4, 2) := by decide +kernel
theorem d1_57 : decode method_3_code 57 = .ok (.iconst 1, 1) := by decide +kernel
theorem d1_58 : decode method_3_code 58 = .ok (.iload_n 2, 1) := by decide +kernel
theorem d1_59 : decode method_3_code 59 = .ok (.castore, 1) := by decide +kernel
theorem d1_60 : decode method_3_code 60 = .ok (.new 30, 3) := by decide +kernel
theorem d1_63 : decode method_3_code 63 = .ok (.dup, 1) := by decide +kernel
theorem d1_64 : decode method_3_code 64 = .ok (.aload 4, 2) := by decide +kernel
theorem d1_66 : decode method_3_code 66 = .ok (.invokespecial 43, 3) := by decide +kernel
theorem d1_69 : decode method_3_code 69 = .ok (.areturn, 1) := by decide +kernel
theorem ef_rm1k2 (m : MethodId) (p1 : Int32) (p2 : Int32) (p3 : Int32) : entryFrame m #[(.int (2 : Int32)), (.int p1), (.int p2), (.int p3)] 5 = mkF m 0 #[vI (2 : Int32), vI p1, vI p2, vI p3, .unset] [] := by first | (simp [entryFrame, mkF, argsToLocals, Value.category]; done) | rfl
def Q1k2 (Z : State) (p1 : Int32) (p2 : Int32) (p3 : Int32) (sC : Int32) (h0 : Heap) (n0 : Nat) (v : Option Value) (h : Heap) (L : List Loc) : Prop := ∃ r0 : Addr, ∃ r1 : Addr, ∃ rk0 : ClassId, v = some (.ref r0) ∧ Fr n0 L ∧ h0.size ≤ r0 ∧ r0 < r1 ∧ Keep h0 h [] ∧ Exa Z h r0 cST ∧ Fld Z h r0 cST "value" "[B" (.ref r1) ∧ Fld Z h r0 cST "coder" "B" (.int (0 : Int32)) ∧ Exa Z h r1 "[B" ∧ Arv Z h r1 rk0 .byte (2 : Int32) [(.int (p1.toInt8.toInt32)), (.int (p2.toInt8.toInt32))] (.int (0 : Int32))
set_option maxRecDepth 65536 in
set_option maxHeartbeats 40000000 in
theorem rm1k2 (l : Launch) (Z : State) (az : Array Value) (hw : HW Z az) (ws : List Jvm.Cond) (p1 : Int32) (p2 : Int32) (p3 : Int32) (sC : Int32) (h0 : Heap) (n0 : Nat) (Z0 : n0 ≤ h0.size) (S_COMPACT_STRINGS : Sta Z h0 cST "COMPACT_STRINGS" "Z" (.int sC)) (hc1 : ¬ (sC = (0 : Int32))) (hc2 : nar .char p1 = p1) (hc3 : nar .char p2 = p2) (hc4 : ¬ ((255 : Int32) < p1)) (hc5 : ¬ ((255 : Int32) < p2)) :
    MetFree l (⟨cLW, "str", "(ICCC)Ljava/lang/String;"⟩ : MethodName) (head1 (Jvm.Cond.code (⟨cLW, "str", "(ICCC)Ljava/lang/String;"⟩ : MethodName) method_3_code 5 (some (.object cST)) :: ws) (⟨4, 6, 20, 90⟩ : Room)) (fun a U => a = #[(.int (2 : Int32)), (.int p1), (.int p2), (.int p3)] ∧ Z.Warmed39 U.vm ∧ U.heap = h0 ∧ CHv Z [(cWN, 36), (cLW, 46), (cST, 7)] U.vm h0) (fun _ _ _ _ _ => True) (fun _ U o U' => ∃ v L, o = .returned v ∧ Q1k2 Z p1 p2 p3 sC h0 n0 v U'.heap L ∧ CHr Z [(cWN, 36), (cLW, 46), (cST, 7)] U.vm U.heap U'.vm U'.heap ∧ ReturnedEndW U o U' L (⟨4, 6, 20, 90⟩ : Room).cells (⟨4, 6, 20, 90⟩ : Room).slots) := by
  refine MetFree.of_bodySF (plainFor_of_name pn_com_example_key_lease_keylease_store_WatchedNameClosedStorePinLaw) hisR ?_
  intro p e s m args below meth c s₁ Bd hml0 hP hK
  obtain ⟨rfl, hZ, hh, hCH⟩ := hP
  have hx := Bd.exec
  have hby := Bd.bytes
  have hml : c.maxLocals = 5 := hml0
  have hown : s.vm.findClass cLW = some m.cls := findClass_of_methodNamed Bd.named
  have hnm := (name_of_methodNamed Bd.named Bd.method).1
  have X0 : Stand p l e (⟨4, 6, 20, 90⟩ : Room) s m #[(.int (2 : Int32)), (.int p1), (.int p2), (.int p3)] below meth c s₁ [] 0 0 := Stand.of_body Bd
  have e0 : s₁.heap = h0 := by rw [← hh, Bd.state]; rfl
  have N0 := Fr.nil n0
  have pre0 : ∀ t, Steps p.tables e below (s₁.setTop (mkF m 0 #[vI (2 : Int32), vI p1, vI p2, vI p3, .unset] [])) t → Steps p.tables e below (s₁.setTop (entryFrame m #[(.int (2 : Int32)), (.int p1), (.int p2), (.int p3)] 5)) t := fun t k => castTop (ef_rm1k2 m p1 p2 p3) k
  have hZo := hZ
  have hEW : EW Z az [(cWN, 36), (cLW, 46), (cST, 7)] := (EW.cons (hw _ (mg 99 rfl)) (by decide) (EW.cons (hw _ (mg 238 rfl)) (by decide) (EW.cons (hw _ (mg 18 rfl)) (by decide) EW.nil)))
  have hS0 : s.Since s.vm 0 := (State.WarmedH.refl s).since 0
  have wS : ∀ a ∈ Bundle.stringAtoms, a.before az Z = true := fun d hd => by
    simp only [Bundle.stringAtoms, List.mem_cons, List.not_mem_nil, or_false] at hd
    rcases hd with rfl | rfl | rfl | rfl | rfl | rfl | rfl
    · exact (hw _ (mg 6 rfl))
    · exact (hw _ (mg 5 rfl))
    · exact (hw _ (mg 19 rfl))
    · exact (hw _ (mg 20 rfl))
    · exact (hw _ (mg 21 rfl))
    · exact (hw _ (mg 22 rfl))
    · exact (hw _ (mg 23 rfl))
  obtain ⟨T1, h1, k1, X1, e1, E1, A1, x1, st1⟩ := newPE X0 hx hZ (aty := .char) (w7 hw) e0 (g := (mkF m 46 #[vI (2 : Int32), vI p1, vI p2, vI p3, .unset] [(.int (2 : Int32))])) rfl (hb hby d1_46) rfl (by decide) (cap := 2) (by decide) (by decide) (by decide) (by decide) (ad := "[C") (by decide)
  obtain ⟨b1, g1⟩ : ∃ z, z = h0.size := ⟨_, rfl⟩
  rw [← g1] at A1 x1 st1
  have g_b1 : n0 ≤ b1 := Nat.le_trans Z0 (Nat.le_of_eq g1.symm)
  have sz_b1 : h0.size ≤ b1 := Nat.le_trans (Nat.le_refl _) (Nat.le_of_eq g1.symm)
  have Z1 : n0 ≤ h1.size := Nat.le_trans Z0 E1.1
  have K1 : Keep h0 h1 [] := (Keep.refl h0 []).ext E1
  have E_b1 := x1
  have V_b1 : Arv Z h1 b1 k1 .char (2 : Int32) [(.int (0 : Int32)), (.int (0 : Int32))] (.int (0 : Int32)) := (Arv.new A1 (by decide)).pad (pad_rep [] (.int (0 : Int32)) 2)
  obtain ⟨cl2, Ar2, qk2, Sz2, Ng2, Hs2, Gf2⟩ := id V_b1
  have hin3 : ¬ ((0 : Int32) < 0 ∨ cl2.slots.size ≤ ((0 : Int32)).toNatClampNeg) := inb_of Sz2 ⟨by decide, by decide⟩
  obtain ⟨T4, h4, X4, e4, W4, st4⟩ := stC X1 hx hZ e1 Ar2 (j := (0 : Int32)) hin3 (g := (mkF m 54 #[vI (2 : Int32), vI p1, vI p2, vI p3, vR b1] [(.int p1), (.int (0 : Int32)), (.ref b1)])) rfl rfl (hb hby d1_54)
  rw [hc2] at W4
  have K4 : Keep h0 h4 [] := K1.wr W4 (Or.inr sz_b1)
  have V_b1_4 : Arv Z h4 b1 k1 .char (2 : Int32) [(.int p1), (.int (0 : Int32))] (.int (0 : Int32)) := Arv.set (v := (.int p1)) Ar2 qk2 Sz2 Ng2 Hs2 Gf2 (own_fits hc2 (fits_nar_char _)) W4 0 rfl (Nat.le_of_ble_eq_true rfl)
  have Z4 : n0 ≤ h4.size := Nat.le_trans Z1 (Keep.of_wr W4).1
  obtain ⟨Lg4, X4', N4⟩ := own_gen X4 (Fr.snoc X4 N0 g_b1)
  obtain ⟨cl5, Ar5, qk5, Sz5, Ng5, Hs5, Gf5⟩ := id V_b1_4
  have hin6 : ¬ ((1 : Int32) < 0 ∨ cl5.slots.size ≤ ((1 : Int32)).toNatClampNeg) := inb_of Sz5 ⟨by decide, by decide⟩
  obtain ⟨T7, h7, X7, e7, W7, st7⟩ := stC X4' hx hZ e4 Ar5 (j := (1 : Int32)) hin6 (g := (mkF m 59 #[vI (2 : Int32), vI p1, vI p2, vI p3, vR b1] [(.int p2), (.int (1 : Int32)), (.ref b1)])) rfl rfl (hb hby d1_59)
  rw [hc3] at W7
  have K7 : Keep h0 h7 [] := K4.wr W7 (Or.inr sz_b1)
  have V_b1_7 : Arv Z h7 b1 k1 .char (2 : Int32) [(.int p1), (.int p2)] (.int (0 : Int32)) := Arv.set (v := (.int p2)) Ar5 qk5 Sz5 Ng5 Hs5 Gf5 (own_fits hc3 (fits_nar_char _)) W7 1 rfl (Nat.le_of_ble_eq_true rfl)
  have Z7 : n0 ≤ h7.size := Nat.le_trans Z4 (Keep.of_wr W7).1
  obtain ⟨Lg7, X7', N7⟩ := own_gen X7 (Fr.snoc X7 N4 g_b1)
  obtain ⟨T8, h8, X8, e8, E8, A8, D8, -, st8⟩ := newO X7' hx hZ hown (w4 hw) (w5 hw) (w6 hw) e7 (g := (mkF m 60 #[vI (2 : Int32), vI p1, vI p2, vI p3, vR b1] [])) rfl (hb hby d1_60) (by decide) (by decide)
  obtain ⟨b8, g8⟩ : ∃ z, z = h7.size := ⟨_, rfl⟩
  rw [← g8] at A8 D8 st8
  have g_b8 : n0 ≤ b8 := Nat.le_trans Z7 (Nat.le_of_eq g8.symm)
  have sz_b8 : h0.size ≤ b8 := Nat.le_trans K7.1 (Nat.le_of_eq g8.symm)
  have Z8 : n0 ≤ h8.size := Nat.le_trans Z7 E8.1
  have K8 : Keep h0 h8 [] := K7.ext E8
  have E_b8 := A8
  have F_value_b8 : Fld Z h8 b8 cST "value" "[B" .null := D8 (Or.inr (w20 hw)) (ty := (.array .byte)) (by decide)
  have F_coder_b8 : Fld Z h8 b8 cST "coder" "B" (.int (0 : Int32)) := D8 (Or.inr (w21 hw)) (ty := .byte) (by decide)
  have c10 : Sta Z h7 cST "COMPACT_STRINGS" "Z" (.int sC) := (((S_COMPACT_STRINGS.ext E1).wr W4).wr W7)
  have S_String_COMPACT_STRINGS_u11 : Sta Z h8 cST "COMPACT_STRINGS" "Z" (.int sC) := (c10.ext E8)
  have V_b1_u12 : Arv Z h8 b1 k1 .char (2 : Int32) [(.int p1), (.int p2)] (.int (0 : Int32)) := (V_b1_7.ext E8)
  have E_b1_u13 : Exa Z h8 b1 "[C" := (((E_b1.wr W4).wr W7).ext E8)
  obtain ⟨_, _, ⟨T9, L9, k9', n9'⟩, -, X9, ⟨Lc9, hQ9, l9, y9, z9⟩, st9⟩ := X8.specialBack hx (y := (⟨cST, "<init>", "([C)V"⟩ : MethodName)) rfl hown (mvT hZ (w8 hw)) (mvT hZ (w9 hw)) (mvT hZ (w10 hw)) (by decide) (backOf (W := 1) (rm2k2 l Z az hw [] b8 b1 sC k1 p1 p2 h8 n0 Z8 S_String_COMPACT_STRINGS_u11 hc1 E_b8 F_value_b8 F_coder_b8 V_b1_u12 E_b1_u13 hc4 hc5 g_b8) hZ (w10 hw) (w6 hw) (by decide) (by decide)) (g := (mkF m 66 #[vI (2 : Int32), vI p1, vI p2, vI p3, vR b1] [(.ref b1), (.ref b8), (.ref b8)])) rfl (by rw [hml]; rfl) (Steps.refl _) (a := b8) (argsL := [(.ref b1)]) (rest := [(.ref b8)]) (lenOf pd_21 rfl) rfl (Nat.le_of_eq rfl) (hb hby d1_66) (fun _ _ => ⟨rfl, e8, (by decide : 2 + 1 ≤ _), (by decide : 6 + 2 ≤ _)⟩)
  dsimp only [Pt.U, Pt.locs, Pt.cells, Pt.slots] at X9 l9 y9 z9 st9 hQ9
  subst l9 y9 z9
  obtain ⟨b9_0, kk9_0, rfl, N9q, s9_0, kq9, pf9_0, pf9_1, pf9_2, pf9_3, pf9_4⟩ := hQ9
  obtain ⟨Lg9, X9', N9⟩ := own_gen X9 (Fr.app N7 N9q)
  have g_b9_0 : n0 ≤ b9_0 := Nat.le_trans Z8 s9_0
  have sz_b9_0 : h0.size ≤ b9_0 := Nat.le_trans K8.1 s9_0
  have K9 : Keep h0 T9.heap [] := K8.trans kq9 (allS (Or.inr sz_b8) all0)
  have Z9 : n0 ≤ T9.heap.size := Nat.le_trans Z8 kq9.1
  have rh0 := CHr.refl hCH
  have rh14 := rh0.trans (CHr.ext E1 rh0.1)
  have sf16 : Safe Z [(cWN, 36), (cLW, 46), (cST, 7)] s.vm h1 b1 := Safe.exa hZo.alike E_b1 (by decide) (by decide)
  have rh15 := rh14.trans (CHr.wr W4 sf16 rh14.1)
  have sf18 : Safe Z [(cWN, 36), (cLW, 46), (cST, 7)] s.vm h4 b1 := Safe.exa hZo.alike (E_b1.wr W4) (by decide) (by decide)
  have rh17 := rh15.trans (CHr.wr W7 sf18 rh15.1)
  have rh19 := rh17.trans (CHr.ext E8 rh17.1)
  have sf21 : Safe Z [(cWN, 36), (cLW, 46), (cST, 7)] s.vm h7 b8 := Safe.new (Nat.le_of_eq g8.symm)
  have sf22 : Safe Z [(cWN, 36), (cLW, 46), (cST, 7)] s.vm h8 b8 := Safe.ext E8 rh17.1 sf21
  have rh20 := rh19.trans (CHr.keep kq9 (sfS sf22 sf0) rh19.1)
  have hCHR := rh20.trans (CHv.at (s := s) (vm0 := s.vm) X9' hZ hEW rh20.1)
  obtain ⟨fs, hr, hrun, hended, hWE⟩ := X9'.leaveW (s := s) hS0 (Nat.le_trans (Nat.le_trans (Nat.le_trans (Nat.le_trans (Nat.le_trans (Nat.zero_le _) E1.1) (Keep.of_wr W4).1) (Keep.of_wr W7).1) E8.1) kq9.1) (v := some (.ref b8)) (fun h => by rw [Bd.returns] at h; cases h)
  refine ⟨_, _, pre0 _ ?_, hrun, hended, _, _, rfl, ?_, (by rw [hh]; show CHr _ _ _ _ T9.vm T9.heap; exact hCHR), hWE.1, hWE.2.1, hWE.2.2.1, hWE.2.2.2.mono (by decide) (by decide)⟩
  · show SP p e below s₁ (mkF m 0 #[vI (2 : Int32), vI p1, vI p2, vI p3, .unset] []) _
    refine XS.iloadN X0.here hx rfl (hb hby d1_0) rfl ?_
    refine XS.ifYes X0.here hx rfl (pc0 := 1) (pc' := 15) rfl (hb hby d1_1) rfl ((if0 _ _).trans (feq (by decide : ¬ ((2 : Int32) = (0 : Int32)))).2) (by decide) (by decide) ?_
    refine XS.iloadN X0.here hx rfl (hb hby d1_15) rfl ?_
    refine XS.iconst X0.here hx rfl (hb hby d1_16) ?_
    refine XS.icmpYes X0.here hx rfl (pc0 := 17) (pc' := 40) rfl (hb hby d1_17) rfl (feq (by decide : ¬ ((2 : Int32) = (1 : Int32)))).2 (by decide) (by decide) ?_
    refine XS.iloadN X0.here hx rfl (hb hby d1_40) rfl ?_
    refine XS.iconst X0.here hx rfl (hb hby d1_41) ?_
    refine XS.icmpNo X0.here hx rfl (hb hby d1_42) rfl (teq (by decide : (2 : Int32) = (2 : Int32))).2 ?_
    refine XS.iconst X0.here hx rfl (hb hby d1_45) ?_
    show SP p e below s₁ (mkF m 46 #[vI (2 : Int32), vI p1, vI p2, vI p3, .unset] [(.int (2 : Int32))]) _
    refine st1 _ ?_
    show SP p e below T1 (mkF m 48 #[vI (2 : Int32), vI p1, vI p2, vI p3, .unset] [(.ref b1)]) _
    refine XS.astore X1.here hx rfl (hb hby d1_48) rfl rfl (l' := #[vI (2 : Int32), vI p1, vI p2, vI p3, vR b1]) rfl ?_
    refine XS.aload X1.here hx rfl (hb hby d1_50) rfl rfl ?_
    refine XS.iconst X1.here hx rfl (hb hby d1_52) ?_
    refine XS.iloadN X1.here hx rfl (hb hby d1_53) rfl ?_
    show SP p e below T1 (mkF m 54 #[vI (2 : Int32), vI p1, vI p2, vI p3, vR b1] [(.int p1), (.int (0 : Int32)), (.ref b1)]) _
    refine st4 _ ?_
    show SP p e below T4 (mkF m 55 #[vI (2 : Int32), vI p1, vI p2, vI p3, vR b1] []) _
    refine XS.aload X4'.here hx rfl (hb hby d1_55) rfl rfl ?_
    refine XS.iconst X4'.here hx rfl (hb hby d1_57) ?_
    refine XS.iloadN X4'.here hx rfl (hb hby d1_58) rfl ?_
    show SP p e below T4 (mkF m 59 #[vI (2 : Int32), vI p1, vI p2, vI p3, vR b1] [(.int p2), (.int (1 : Int32)), (.ref b1)]) _
    refine st7 _ ?_
    show SP p e below T7 (mkF m 60 #[vI (2 : Int32), vI p1, vI p2, vI p3, vR b1] []) _
    refine st8 _ ?_
    show SP p e below T8 (mkF m 63 #[vI (2 : Int32), vI p1, vI p2, vI p3, vR b1] [(.ref b8)]) _
    refine XS.dup X8.here hx rfl (hb hby d1_63) rfl rfl ?_
    refine XS.aload X8.here hx rfl (hb hby d1_64) rfl rfl ?_
    show SP p e below T8 (mkF m 66 #[vI (2 : Int32), vI p1, vI p2, vI p3, vR b1] [(.ref b1), (.ref b8), (.ref b8)]) _
    refine st9.trans ?_
    show SP p e below T9 (mkF m 69 #[vI (2 : Int32), vI p1, vI p2, vI p3, vR b1] [(.ref b8)]) _
    jvm_step X9'.here [X9'.here.top, hx, (hb hby d1_69), X9'.method', Bd.returns, Value.isRef, FieldType.isReference]
    first | (intro acts; rw [hr _ acts rfl rfl rfl]) | rw [hr _ _ rfl rfl rfl]
    exact Steps.refl _
  · show Q1k2 Z p1 p2 p3 sC h0 n0 _ T9.heap _
    exact ⟨b8, b9_0, kk9_0, rfl, N9, sz_b8, (Nat.lt_of_lt_of_le E_b8.lt s9_0), K9, pf9_0, pf9_1, pf9_2, pf9_3, pf9_4⟩
theorem d1_70 : decode method_3_code 70 = .ok (.iconst 3, 1) := by decide +kernel
theorem d1_71 : decode method_3_code 71 = .ok (.newarray .char, 2) := by decide +kernel
theorem d1_73 : decode method_3_code 73 = .ok (.astore 4, 2) := by decide +kernel
theorem d1_75 : decode method_3_code 75 = .ok (.aload 4, 2) := by decide +kernel
theorem d1_77 : decode method_3_code 77 = .ok (.iconst 0, 1) := by decide +kernel
theorem d1_78 : decode method_3_code 78 = .ok (.iload_n 1, 1) := by decide +kernel
theorem d1_79 : decode method_3_code 79 = .ok (.castore, 1) := by decide +kernel
theorem d1_80 : decode method_3_code 80 = .ok (.aload 4, 2) := by decide +kernel
theorem d1_82 : decode method_3_code 82 = .ok (.iconst 1, 1) := by decide +kernel
theorem d1_83 : decode method_3_code 83 = .ok (.iload_n 2, 1) := by decide +kernel
theorem d1_84 : decode method_3_code 84 = .ok (.castore, 1) := by decide +kernel
theorem d1_85 : decode method_3_code 85 = .ok (.aload 4, 2) := by decide +kernel
theorem d1_87 : decode method_3_code 87 = .ok (.iconst 2, 1) := by decide +kernel
theorem d1_88 : decode method_3_code 88 = .ok (.iload_n 3, 1) := by decide +kernel
theorem d1_89 : decode method_3_code 89 = .ok (.castore, 1) := by decide +kernel
theorem d1_90 : decode method_3_code 90 = .ok (.new 30, 3) := by decide +kernel
theorem d1_93 : decode method_3_code 93 = .ok (.dup, 1) := by decide +kernel
theorem d1_94 : decode method_3_code 94 = .ok (.aload 4, 2) := by decide +kernel
theorem d1_96 : decode method_3_code 96 = .ok (.invokespecial 43, 3) := by decide +kernel
theorem d1_99 : decode method_3_code 99 = .ok (.areturn, 1) := by decide +kernel
theorem ef_rm1k3 (m : MethodId) (p1 : Int32) (p2 : Int32) (p3 : Int32) : entryFrame m #[(.int (3 : Int32)), (.int p1), (.int p2), (.int p3)] 5 = mkF m 0 #[vI (3 : Int32), vI p1, vI p2, vI p3, .unset] [] := by first | (simp [entryFrame, mkF, argsToLocals, Value.category]; done) | rfl
def Q1k3 (Z : State) (p1 : Int32) (p2 : Int32) (p3 : Int32) (sC : Int32) (h0 : Heap) (n0 : Nat) (v : Option Value) (h : Heap) (L : List Loc) : Prop := ∃ r0 : Addr, ∃ r1 : Addr, ∃ rk0 : ClassId, v = some (.ref r0) ∧ Fr n0 L ∧ h0.size ≤ r0 ∧ r0 < r1 ∧ Keep h0 h [] ∧ Exa Z h r0 cST ∧ Fld Z h r0 cST "value" "[B" (.ref r1) ∧ Fld Z h r0 cST "coder" "B" (.int (0 : Int32)) ∧ Exa Z h r1 "[B" ∧ Arv Z h r1 rk0 .byte (3 : Int32) [(.int (p1.toInt8.toInt32)), (.int (p2.toInt8.toInt32)), (.int (p3.toInt8.toInt32))] (.int (0 : Int32))
set_option maxRecDepth 65536 in
set_option maxHeartbeats 40000000 in
theorem rm1k3 (l : Launch) (Z : State) (az : Array Value) (hw : HW Z az) (ws : List Jvm.Cond) (p1 : Int32) (p2 : Int32) (p3 : Int32) (sC : Int32) (h0 : Heap) (n0 : Nat) (Z0 : n0 ≤ h0.size) (S_COMPACT_STRINGS : Sta Z h0 cST "COMPACT_STRINGS" "Z" (.int sC)) (hc1 : ¬ (sC = (0 : Int32))) (hc2 : nar .char p1 = p1) (hc3 : nar .char p2 = p2) (hc4 : nar .char p3 = p3) (hc5 : ¬ ((255 : Int32) < p1)) (hc6 : ¬ ((255 : Int32) < p2)) (hc7 : ¬ ((255 : Int32) < p3)) :
    MetFree l (⟨cLW, "str", "(ICCC)Ljava/lang/String;"⟩ : MethodName) (head1 (Jvm.Cond.code (⟨cLW, "str", "(ICCC)Ljava/lang/String;"⟩ : MethodName) method_3_code 5 (some (.object cST)) :: ws) (⟨4, 6, 20, 90⟩ : Room)) (fun a U => a = #[(.int (3 : Int32)), (.int p1), (.int p2), (.int p3)] ∧ Z.Warmed39 U.vm ∧ U.heap = h0 ∧ CHv Z [(cWN, 36), (cLW, 46), (cST, 7)] U.vm h0) (fun _ _ _ _ _ => True) (fun _ U o U' => ∃ v L, o = .returned v ∧ Q1k3 Z p1 p2 p3 sC h0 n0 v U'.heap L ∧ CHr Z [(cWN, 36), (cLW, 46), (cST, 7)] U.vm U.heap U'.vm U'.heap ∧ ReturnedEndW U o U' L (⟨4, 6, 20, 90⟩ : Room).cells (⟨4, 6, 20, 90⟩ : Room).slots) := by
  refine MetFree.of_bodySF (plainFor_of_name pn_com_example_key_lease_keylease_store_WatchedNameClosedStorePinLaw) hisR ?_
  intro p e s m args below meth c s₁ Bd hml0 hP hK
  obtain ⟨rfl, hZ, hh, hCH⟩ := hP
  have hx := Bd.exec
  have hby := Bd.bytes
  have hml : c.maxLocals = 5 := hml0
  have hown : s.vm.findClass cLW = some m.cls := findClass_of_methodNamed Bd.named
  have hnm := (name_of_methodNamed Bd.named Bd.method).1
  have X0 : Stand p l e (⟨4, 6, 20, 90⟩ : Room) s m #[(.int (3 : Int32)), (.int p1), (.int p2), (.int p3)] below meth c s₁ [] 0 0 := Stand.of_body Bd
  have e0 : s₁.heap = h0 := by rw [← hh, Bd.state]; rfl
  have N0 := Fr.nil n0
  have pre0 : ∀ t, Steps p.tables e below (s₁.setTop (mkF m 0 #[vI (3 : Int32), vI p1, vI p2, vI p3, .unset] [])) t → Steps p.tables e below (s₁.setTop (entryFrame m #[(.int (3 : Int32)), (.int p1), (.int p2), (.int p3)] 5)) t := fun t k => castTop (ef_rm1k3 m p1 p2 p3) k
  have hZo := hZ
  have hEW : EW Z az [(cWN, 36), (cLW, 46), (cST, 7)] := (EW.cons (hw _ (mg 99 rfl)) (by decide) (EW.cons (hw _ (mg 238 rfl)) (by decide) (EW.cons (hw _ (mg 18 rfl)) (by decide) EW.nil)))
  have hS0 : s.Since s.vm 0 := (State.WarmedH.refl s).since 0
  have wS : ∀ a ∈ Bundle.stringAtoms, a.before az Z = true := fun d hd => by
    simp only [Bundle.stringAtoms, List.mem_cons, List.not_mem_nil, or_false] at hd
    rcases hd with rfl | rfl | rfl | rfl | rfl | rfl | rfl
    · exact (hw _ (mg 6 rfl))
    · exact (hw _ (mg 5 rfl))
    · exact (hw _ (mg 19 rfl))
    · exact (hw _ (mg 20 rfl))
    · exact (hw _ (mg 21 rfl))
    · exact (hw _ (mg 22 rfl))
    · exact (hw _ (mg 23 rfl))
  obtain ⟨T1, h1, k1, X1, e1, E1, A1, x1, st1⟩ := newPE X0 hx hZ (aty := .char) (w7 hw) e0 (g := (mkF m 71 #[vI (3 : Int32), vI p1, vI p2, vI p3, .unset] [(.int (3 : Int32))])) rfl (hb hby d1_71) rfl (by decide) (cap := 3) (by decide) (by decide) (by decide) (by decide) (ad := "[C") (by decide)
  obtain ⟨b1, g1⟩ : ∃ z, z = h0.size := ⟨_, rfl⟩
  rw [← g1] at A1 x1 st1
  have g_b1 : n0 ≤ b1 := Nat.le_trans Z0 (Nat.le_of_eq g1.symm)
  have sz_b1 : h0.size ≤ b1 := Nat.le_trans (Nat.le_refl _) (Nat.le_of_eq g1.symm)
  have Z1 : n0 ≤ h1.size := Nat.le_trans Z0 E1.1
  have K1 : Keep h0 h1 [] := (Keep.refl h0 []).ext E1
  have E_b1 := x1
  have V_b1 : Arv Z h1 b1 k1 .char (3 : Int32) [(.int (0 : Int32)), (.int (0 : Int32)), (.int (0 : Int32))] (.int (0 : Int32)) := (Arv.new A1 (by decide)).pad (pad_rep [] (.int (0 : Int32)) 3)
  obtain ⟨cl2, Ar2, qk2, Sz2, Ng2, Hs2, Gf2⟩ := id V_b1
  have hin3 : ¬ ((0 : Int32) < 0 ∨ cl2.slots.size ≤ ((0 : Int32)).toNatClampNeg) := inb_of Sz2 ⟨by decide, by decide⟩
  obtain ⟨T4, h4, X4, e4, W4, st4⟩ := stC X1 hx hZ e1 Ar2 (j := (0 : Int32)) hin3 (g := (mkF m 79 #[vI (3 : Int32), vI p1, vI p2, vI p3, vR b1] [(.int p1), (.int (0 : Int32)), (.ref b1)])) rfl rfl (hb hby d1_79)
  rw [hc2] at W4
  have K4 : Keep h0 h4 [] := K1.wr W4 (Or.inr sz_b1)
  have V_b1_4 : Arv Z h4 b1 k1 .char (3 : Int32) [(.int p1), (.int (0 : Int32)), (.int (0 : Int32))] (.int (0 : Int32)) := Arv.set (v := (.int p1)) Ar2 qk2 Sz2 Ng2 Hs2 Gf2 (own_fits hc2 (fits_nar_char _)) W4 0 rfl (Nat.le_of_ble_eq_true rfl)
  have Z4 : n0 ≤ h4.size := Nat.le_trans Z1 (Keep.of_wr W4).1
  obtain ⟨Lg4, X4', N4⟩ := own_gen X4 (Fr.snoc X4 N0 g_b1)
  obtain ⟨cl5, Ar5, qk5, Sz5, Ng5, Hs5, Gf5⟩ := id V_b1_4
  have hin6 : ¬ ((1 : Int32) < 0 ∨ cl5.slots.size ≤ ((1 : Int32)).toNatClampNeg) := inb_of Sz5 ⟨by decide, by decide⟩
  obtain ⟨T7, h7, X7, e7, W7, st7⟩ := stC X4' hx hZ e4 Ar5 (j := (1 : Int32)) hin6 (g := (mkF m 84 #[vI (3 : Int32), vI p1, vI p2, vI p3, vR b1] [(.int p2), (.int (1 : Int32)), (.ref b1)])) rfl rfl (hb hby d1_84)
  rw [hc3] at W7
  have K7 : Keep h0 h7 [] := K4.wr W7 (Or.inr sz_b1)
  have V_b1_7 : Arv Z h7 b1 k1 .char (3 : Int32) [(.int p1), (.int p2), (.int (0 : Int32))] (.int (0 : Int32)) := Arv.set (v := (.int p2)) Ar5 qk5 Sz5 Ng5 Hs5 Gf5 (own_fits hc3 (fits_nar_char _)) W7 1 rfl (Nat.le_of_ble_eq_true rfl)
  have Z7 : n0 ≤ h7.size := Nat.le_trans Z4 (Keep.of_wr W7).1
  obtain ⟨Lg7, X7', N7⟩ := own_gen X7 (Fr.snoc X7 N4 g_b1)
  obtain ⟨cl8, Ar8, qk8, Sz8, Ng8, Hs8, Gf8⟩ := id V_b1_7
  have hin9 : ¬ ((2 : Int32) < 0 ∨ cl8.slots.size ≤ ((2 : Int32)).toNatClampNeg) := inb_of Sz8 ⟨by decide, by decide⟩
  obtain ⟨T10, h10, X10, e10, W10, st10⟩ := stC X7' hx hZ e7 Ar8 (j := (2 : Int32)) hin9 (g := (mkF m 89 #[vI (3 : Int32), vI p1, vI p2, vI p3, vR b1] [(.int p3), (.int (2 : Int32)), (.ref b1)])) rfl rfl (hb hby d1_89)
  rw [hc4] at W10
  have K10 : Keep h0 h10 [] := K7.wr W10 (Or.inr sz_b1)
  have V_b1_10 : Arv Z h10 b1 k1 .char (3 : Int32) [(.int p1), (.int p2), (.int p3)] (.int (0 : Int32)) := Arv.set (v := (.int p3)) Ar8 qk8 Sz8 Ng8 Hs8 Gf8 (own_fits hc4 (fits_nar_char _)) W10 2 rfl (Nat.le_of_ble_eq_true rfl)
  have Z10 : n0 ≤ h10.size := Nat.le_trans Z7 (Keep.of_wr W10).1
  obtain ⟨Lg10, X10', N10⟩ := own_gen X10 (Fr.snoc X10 N7 g_b1)
  obtain ⟨T11, h11, X11, e11, E11, A11, D11, -, st11⟩ := newO X10' hx hZ hown (w4 hw) (w5 hw) (w6 hw) e10 (g := (mkF m 90 #[vI (3 : Int32), vI p1, vI p2, vI p3, vR b1] [])) rfl (hb hby d1_90) (by decide) (by decide)
  obtain ⟨b11, g11⟩ : ∃ z, z = h10.size := ⟨_, rfl⟩
  rw [← g11] at A11 D11 st11
  have g_b11 : n0 ≤ b11 := Nat.le_trans Z10 (Nat.le_of_eq g11.symm)
  have sz_b11 : h0.size ≤ b11 := Nat.le_trans K10.1 (Nat.le_of_eq g11.symm)
  have Z11 : n0 ≤ h11.size := Nat.le_trans Z10 E11.1
  have K11 : Keep h0 h11 [] := K10.ext E11
  have E_b11 := A11
  have F_value_b11 : Fld Z h11 b11 cST "value" "[B" .null := D11 (Or.inr (w20 hw)) (ty := (.array .byte)) (by decide)
  have F_coder_b11 : Fld Z h11 b11 cST "coder" "B" (.int (0 : Int32)) := D11 (Or.inr (w21 hw)) (ty := .byte) (by decide)
  have c13 : Sta Z h7 cST "COMPACT_STRINGS" "Z" (.int sC) := (((S_COMPACT_STRINGS.ext E1).wr W4).wr W7)
  have S_String_COMPACT_STRINGS_u14 : Sta Z h11 cST "COMPACT_STRINGS" "Z" (.int sC) := ((c13.wr W10).ext E11)
  have V_b1_u15 : Arv Z h11 b1 k1 .char (3 : Int32) [(.int p1), (.int p2), (.int p3)] (.int (0 : Int32)) := (V_b1_10.ext E11)
  have c16 : Exa Z h10 b1 "[C" := (((E_b1.wr W4).wr W7).wr W10)
  have E_b1_u17 : Exa Z h11 b1 "[C" := (c16.ext E11)
  obtain ⟨_, _, ⟨T12, L12, k12', n12'⟩, -, X12, ⟨Lc12, hQ12, l12, y12, z12⟩, st12⟩ := X11.specialBack hx (y := (⟨cST, "<init>", "([C)V"⟩ : MethodName)) rfl hown (mvT hZ (w8 hw)) (mvT hZ (w9 hw)) (mvT hZ (w10 hw)) (by decide) (backOf (W := 1) (rm2k3 l Z az hw [] b11 b1 sC k1 p1 p2 p3 h11 n0 Z11 S_String_COMPACT_STRINGS_u14 hc1 E_b11 F_value_b11 F_coder_b11 V_b1_u15 E_b1_u17 hc5 hc6 hc7 g_b11) hZ (w10 hw) (w6 hw) (by decide) (by decide)) (g := (mkF m 96 #[vI (3 : Int32), vI p1, vI p2, vI p3, vR b1] [(.ref b1), (.ref b11), (.ref b11)])) rfl (by rw [hml]; rfl) (Steps.refl _) (a := b11) (argsL := [(.ref b1)]) (rest := [(.ref b11)]) (lenOf pd_21 rfl) rfl (Nat.le_of_eq rfl) (hb hby d1_96) (fun _ _ => ⟨rfl, e11, (by decide : 2 + 1 ≤ _), (by decide : 7 + 3 ≤ _)⟩)
  dsimp only [Pt.U, Pt.locs, Pt.cells, Pt.slots] at X12 l12 y12 z12 st12 hQ12
  subst l12 y12 z12
  obtain ⟨b12_0, kk12_0, rfl, N12q, s12_0, kq12, pf12_0, pf12_1, pf12_2, pf12_3, pf12_4⟩ := hQ12
  obtain ⟨Lg12, X12', N12⟩ := own_gen X12 (Fr.app N10 N12q)
  have g_b12_0 : n0 ≤ b12_0 := Nat.le_trans Z11 s12_0
  have sz_b12_0 : h0.size ≤ b12_0 := Nat.le_trans K11.1 s12_0
  have K12 : Keep h0 T12.heap [] := K11.trans kq12 (allS (Or.inr sz_b11) all0)
  have Z12 : n0 ≤ T12.heap.size := Nat.le_trans Z11 kq12.1
  have rh0 := CHr.refl hCH
  have rh18 := rh0.trans (CHr.ext E1 rh0.1)
  have sf20 : Safe Z [(cWN, 36), (cLW, 46), (cST, 7)] s.vm h1 b1 := Safe.exa hZo.alike E_b1 (by decide) (by decide)
  have rh19 := rh18.trans (CHr.wr W4 sf20 rh18.1)
  have sf22 : Safe Z [(cWN, 36), (cLW, 46), (cST, 7)] s.vm h4 b1 := Safe.exa hZo.alike (E_b1.wr W4) (by decide) (by decide)
  have rh21 := rh19.trans (CHr.wr W7 sf22 rh19.1)
  have sf24 : Safe Z [(cWN, 36), (cLW, 46), (cST, 7)] s.vm h7 b1 := Safe.exa hZo.alike ((E_b1.wr W4).wr W7) (by decide) (by decide)
  have rh23 := rh21.trans (CHr.wr W10 sf24 rh21.1)
  have rh25 := rh23.trans (CHr.ext E11 rh23.1)
  have sf27 : Safe Z [(cWN, 36), (cLW, 46), (cST, 7)] s.vm h10 b11 := Safe.new (Nat.le_of_eq g11.symm)
  have sf28 : Safe Z [(cWN, 36), (cLW, 46), (cST, 7)] s.vm h11 b11 := Safe.ext E11 rh23.1 sf27
  have rh26 := rh25.trans (CHr.keep kq12 (sfS sf28 sf0) rh25.1)
  have hCHR := rh26.trans (CHv.at (s := s) (vm0 := s.vm) X12' hZ hEW rh26.1)
  obtain ⟨fs, hr, hrun, hended, hWE⟩ := X12'.leaveW (s := s) hS0 (Nat.le_trans (Nat.le_trans (Nat.le_trans (Nat.le_trans (Nat.le_trans (Nat.le_trans (Nat.zero_le _) E1.1) (Keep.of_wr W4).1) (Keep.of_wr W7).1) (Keep.of_wr W10).1) E11.1) kq12.1) (v := some (.ref b11)) (fun h => by rw [Bd.returns] at h; cases h)
  refine ⟨_, _, pre0 _ ?_, hrun, hended, _, _, rfl, ?_, (by rw [hh]; show CHr _ _ _ _ T12.vm T12.heap; exact hCHR), hWE.1, hWE.2.1, hWE.2.2.1, hWE.2.2.2.mono (by decide) (by decide)⟩
  · show SP p e below s₁ (mkF m 0 #[vI (3 : Int32), vI p1, vI p2, vI p3, .unset] []) _
    refine XS.iloadN X0.here hx rfl (hb hby d1_0) rfl ?_
    refine XS.ifYes X0.here hx rfl (pc0 := 1) (pc' := 15) rfl (hb hby d1_1) rfl ((if0 _ _).trans (feq (by decide : ¬ ((3 : Int32) = (0 : Int32)))).2) (by decide) (by decide) ?_
    refine XS.iloadN X0.here hx rfl (hb hby d1_15) rfl ?_
    refine XS.iconst X0.here hx rfl (hb hby d1_16) ?_
    refine XS.icmpYes X0.here hx rfl (pc0 := 17) (pc' := 40) rfl (hb hby d1_17) rfl (feq (by decide : ¬ ((3 : Int32) = (1 : Int32)))).2 (by decide) (by decide) ?_
    refine XS.iloadN X0.here hx rfl (hb hby d1_40) rfl ?_
    refine XS.iconst X0.here hx rfl (hb hby d1_41) ?_
    refine XS.icmpYes X0.here hx rfl (pc0 := 42) (pc' := 70) rfl (hb hby d1_42) rfl (feq (by decide : ¬ ((3 : Int32) = (2 : Int32)))).2 (by decide) (by decide) ?_
    refine XS.iconst X0.here hx rfl (hb hby d1_70) ?_
    show SP p e below s₁ (mkF m 71 #[vI (3 : Int32), vI p1, vI p2, vI p3, .unset] [(.int (3 : Int32))]) _
    refine st1 _ ?_
    show SP p e below T1 (mkF m 73 #[vI (3 : Int32), vI p1, vI p2, vI p3, .unset] [(.ref b1)]) _
    refine XS.astore X1.here hx rfl (hb hby d1_73) rfl rfl (l' := #[vI (3 : Int32), vI p1, vI p2, vI p3, vR b1]) rfl ?_
    refine XS.aload X1.here hx rfl (hb hby d1_75) rfl rfl ?_
    refine XS.iconst X1.here hx rfl (hb hby d1_77) ?_
    refine XS.iloadN X1.here hx rfl (hb hby d1_78) rfl ?_
    show SP p e below T1 (mkF m 79 #[vI (3 : Int32), vI p1, vI p2, vI p3, vR b1] [(.int p1), (.int (0 : Int32)), (.ref b1)]) _
    refine st4 _ ?_
    show SP p e below T4 (mkF m 80 #[vI (3 : Int32), vI p1, vI p2, vI p3, vR b1] []) _
    refine XS.aload X4'.here hx rfl (hb hby d1_80) rfl rfl ?_
    refine XS.iconst X4'.here hx rfl (hb hby d1_82) ?_
    refine XS.iloadN X4'.here hx rfl (hb hby d1_83) rfl ?_
    show SP p e below T4 (mkF m 84 #[vI (3 : Int32), vI p1, vI p2, vI p3, vR b1] [(.int p2), (.int (1 : Int32)), (.ref b1)]) _
    refine st7 _ ?_
    show SP p e below T7 (mkF m 85 #[vI (3 : Int32), vI p1, vI p2, vI p3, vR b1] []) _
    refine XS.aload X7'.here hx rfl (hb hby d1_85) rfl rfl ?_
    refine XS.iconst X7'.here hx rfl (hb hby d1_87) ?_
    refine XS.iloadN X7'.here hx rfl (hb hby d1_88) rfl ?_
    show SP p e below T7 (mkF m 89 #[vI (3 : Int32), vI p1, vI p2, vI p3, vR b1] [(.int p3), (.int (2 : Int32)), (.ref b1)]) _
    refine st10 _ ?_
    show SP p e below T10 (mkF m 90 #[vI (3 : Int32), vI p1, vI p2, vI p3, vR b1] []) _
    refine st11 _ ?_
    show SP p e below T11 (mkF m 93 #[vI (3 : Int32), vI p1, vI p2, vI p3, vR b1] [(.ref b11)]) _
    refine XS.dup X11.here hx rfl (hb hby d1_93) rfl rfl ?_
    refine XS.aload X11.here hx rfl (hb hby d1_94) rfl rfl ?_
    show SP p e below T11 (mkF m 96 #[vI (3 : Int32), vI p1, vI p2, vI p3, vR b1] [(.ref b1), (.ref b11), (.ref b11)]) _
    refine st12.trans ?_
    show SP p e below T12 (mkF m 99 #[vI (3 : Int32), vI p1, vI p2, vI p3, vR b1] [(.ref b11)]) _
    jvm_step X12'.here [X12'.here.top, hx, (hb hby d1_99), X12'.method', Bd.returns, Value.isRef, FieldType.isReference]
    first | (intro acts; rw [hr _ acts rfl rfl rfl]) | rw [hr _ _ rfl rfl rfl]
    exact Steps.refl _
  · show Q1k3 Z p1 p2 p3 sC h0 n0 _ T12.heap _
    exact ⟨b11, b12_0, kk12_0, rfl, N12, sz_b11, (Nat.lt_of_lt_of_le E_b11.lt s12_0), K12, pf12_0, pf12_1, pf12_2, pf12_3, pf12_4⟩
def QSTR (Z : State) (p0 : Int32) (p1 : Int32) (p2 : Int32) (p3 : Int32) (sC : Int32) (h0 : Heap) (n0 : Nat) (v : Option Value) (h : Heap) (L : List Loc) : Prop := ∃ r0 : Addr, ∃ rk0 : ClassId, ∃ rb : Addr, v = some (.ref r0) ∧ Fr n0 L ∧ h0.size ≤ r0 ∧ Keep h0 h [] ∧ Exa Z h r0 cST ∧ Fld Z h r0 cST "value" "[B" (.ref rb) ∧ Fld Z h r0 cST "coder" "B" (.int (0 : Int32)) ∧ own_Arf Z h rb rk0 .byte p0 (own_sf p1 p2 p3) ∧ Exa Z h rb "[B"
set_option maxRecDepth 65536 in
set_option maxHeartbeats 40000000 in
theorem rmSTR (l : Launch) (Z : State) (az : Array Value) (hw : HW Z az) (ws : List Jvm.Cond) (p0 : Int32) (p1 : Int32) (p2 : Int32) (p3 : Int32) (sC : Int32) (h0 : Heap) (n0 : Nat) (Z0 : n0 ≤ h0.size) (S_COMPACT_STRINGS : Sta Z h0 cST "COMPACT_STRINGS" "Z" (.int sC)) (hsC : ¬ (sC = (0 : Int32))) (hn3 : own_n3 p0) (hn1_ : nar .char p1 = p1) (hb1_ : ¬ ((255 : Int32) < p1)) (hn2_ : nar .char p2 = p2) (hb2_ : ¬ ((255 : Int32) < p2)) (hn3_ : nar .char p3 = p3) (hb3_ : ¬ ((255 : Int32) < p3)) :
    MetFree l (⟨cLW, "str", "(ICCC)Ljava/lang/String;"⟩ : MethodName) (head1 (Jvm.Cond.code (⟨cLW, "str", "(ICCC)Ljava/lang/String;"⟩ : MethodName) method_3_code 5 (some (.object cST)) :: ws) (⟨4, 6, 20, 90⟩ : Room)) (fun a U => a = #[(.int p0), (.int p1), (.int p2), (.int p3)] ∧ Z.Warmed39 U.vm ∧ U.heap = h0 ∧ CHv Z [(cWN, 36), (cLW, 46), (cST, 7)] U.vm h0) (fun _ _ _ _ _ => True) (fun _ U o U' => ∃ v L, o = .returned v ∧ QSTR Z p0 p1 p2 p3 sC h0 n0 v U'.heap L ∧ CHr Z [(cWN, 36), (cLW, 46), (cST, 7)] U.vm U.heap U'.vm U'.heap ∧ ReturnedEndW U o U' L (⟨4, 6, 20, 90⟩ : Room).cells (⟨4, 6, 20, 90⟩ : Room).slots) := by
  rcases hn3 with rfl | rfl | rfl | rfl
  · refine own_mono (rm1k0 l Z az hw ws p1 p2 p3 h0 n0 Z0 ) fun v h L q => ?_
    obtain ⟨r0, rk0, rt0, rfl, qN, qs, qK, qE_r0, qF_value_r0, qF_coder_r0, qV_rt0, qE_rt0⟩ := q
    refine ⟨r0, rk0, rt0, rfl, qN, qs, qK, qE_r0, qF_value_r0, qF_coder_r0, own_Arf.ofV qV_rt0 (fun i hi => ?_), qE_rt0⟩
    have hz : ((0 : Int32)).toNatClampNeg = 0 := by decide
    rw [hz] at hi
    omega
  · refine own_mono (rm1k1 l Z az hw ws p1 p2 p3 sC h0 n0 Z0 S_COMPACT_STRINGS hsC hn1_ hb1_) fun v h L q => ?_
    obtain ⟨r0, r1, rk0, rfl, qN, qs, ql0, qK, qE_r0, qF_value_r0, qF_coder_r0, qE_r1, qV_r1⟩ := q
    refine ⟨r0, rk0, r1, rfl, qN, qs, qK, qE_r0, qF_value_r0, qF_coder_r0, own_Arf.ofV qV_r1 (fun i hi => ?_), qE_r1⟩
    have hz : ((1 : Int32)).toNatClampNeg = 1 := by decide
    rw [hz] at hi
    obtain rfl : i = 0 := by omega
    rfl
  · refine own_mono (rm1k2 l Z az hw ws p1 p2 p3 sC h0 n0 Z0 S_COMPACT_STRINGS hsC hn1_ hn2_ hb1_ hb2_) fun v h L q => ?_
    obtain ⟨r0, r1, rk0, rfl, qN, qs, ql0, qK, qE_r0, qF_value_r0, qF_coder_r0, qE_r1, qV_r1⟩ := q
    refine ⟨r0, rk0, r1, rfl, qN, qs, qK, qE_r0, qF_value_r0, qF_coder_r0, own_Arf.ofV qV_r1 (fun i hi => ?_), qE_r1⟩
    have hz : ((2 : Int32)).toNatClampNeg = 2 := by decide
    rw [hz] at hi
    match i, hi with
    | 0, _ => rfl
    | 1, _ => rfl
  · refine own_mono (rm1k3 l Z az hw ws p1 p2 p3 sC h0 n0 Z0 S_COMPACT_STRINGS hsC hn1_ hn2_ hn3_ hb1_ hb2_ hb3_) fun v h L q => ?_
    obtain ⟨r0, r1, rk0, rfl, qN, qs, ql0, qK, qE_r0, qF_value_r0, qF_coder_r0, qE_r1, qV_r1⟩ := q
    refine ⟨r0, rk0, r1, rfl, qN, qs, qK, qE_r0, qF_value_r0, qF_coder_r0, own_Arf.ofV qV_r1 (fun i hi => ?_), qE_r1⟩
    have hz : ((3 : Int32)).toNatClampNeg = 3 := by decide
    rw [hz] at hi
    match i, hi with
    | 0, _ => rfl
    | 1, _ => rfl
    | 2, _ => rfl
open Bundle Jvm.Free.Exc LibCode.Throwable in
def own_tw (rc : String) : List Cond := [
  .instanceMethod tFill, .initialized tN, .superclass tN "java/lang/Object", .codeSync tFill Fill.code 1 (some (.object tN)), .instanceMethod tFill0, .native tFill0,
  .instanceMethod oInit, .code oInit object_method_1_code 1 none, .methodLink tN 1 oInit, .methodLink tN 27 tFill, .methodLink tN 202 tFill0,
  .fieldLink tN 7 tN "cause" thD, .lays rc tN "cause" thD, .fieldLink tN 17 tN "stackTrace" steD, .lays rc tN "stackTrace" steD,
  .fieldLink tN 24 tN "suppressedExceptions" listD, .lays rc tN "suppressedExceptions" listD,
  .fieldLink tN 13 tN "UNASSIGNED_STACK" steD, .laysStatic tN "UNASSIGNED_STACK" steD, .fieldLink tN 20 tN "SUPPRESSED_SENTINEL" listD, .laysStatic tN "SUPPRESSED_SENTINEL" listD,
  .lays rc tN "detailMessage" msgD, .fieldLink tN 198 tN "backtrace" obD, .lays rc tN "backtrace" obD, .lays rc tN "depth" "I",
  .soleField tN "backtrace", .soleField tN "depth", .arrayOver (.object "java/lang/Object"), .selects rc tFill0 tFill0, .selects rc tFill tFill, .declares tFill]
open Bundle Jvm.Free.Exc LibCode.Throwable in
def own_Thr (pl : Platform) (s : State) (T : ThrowableC) : Prop := T.Links pl s ∧ s.vm.findClass tN = some T.cT ∧ s.methodNamed? tFill = some T.fill ∧ s.methodNamed? tFill0 = some T.fill0 ∧ s.fieldFound? tN "stackTrace" steD = some (T.cT, T.kT, T.i17, T.fStack) ∧
  s.fieldFound? tN "UNASSIGNED_STACK" steD = some (T.cT, T.kT, T.i13, T.fUnassigned) ∧ T.fStack.type = .array (.object "java/lang/StackTraceElement")
open Bundle Jvm.Free.Exc LibCode.Throwable in
set_option maxHeartbeats 4000000 in
theorem own_thr {args : Array Value} {s : State} {pl : Platform} {rc : String} (howns : pl.frameOwnsMonitors = true) (hfin : pl.finalization = false) (hpl : pl.magicAccessors = ({} : Platform).magicAccessors)
    (h : ∀ d ∈ own_tw rc, d.before args s = true) : ∃ T : ThrowableC, own_Thr pl s T := by
  have q : ∀ {d : Cond} (i : Nat), (own_tw rc)[i]? = some d → d.holds args s none s [] = true := fun i e => h _ (List.mem_of_getElem? e)
  -- the class
  obtain ⟨mF, -, nF, -, -, -⟩ := Cond.instanceMethod_spec (q 0 rfl)
  have fc : s.vm.findClass tN = some mF.cls := findClass_of_methodNamed nF
  obtain ⟨k, kc, kn⟩ := Vm.findClass_spec fc
  obtain ⟨-, k', -, -, kc', -, -, -, -, kni⟩ := Cond.superclass_spec fc (q 2 rfl)
  cases Option.some.inj (kc'.symm.trans kc)
  -- Object's constructor
  obtain ⟨mO, uO, nO, lO, sO, bO⟩ := Cond.instanceMethod_spec (q 6 rfl)
  obtain ⟨uO', xO, lO', vO, yO, -, -, zO, -, gO⟩ := Cond.code_spec nO (q 7 rfl)
  cases Option.some.inj (lO'.symm.trans lO)
  obtain ⟨kO, kcO, knO⟩ := Vm.findClass_spec (findClass_of_methodNamed nO)
  -- the two methods
  obtain ⟨iF, uF, nF', lF, aF, sF, bF, -, -⟩ := Cond.ownMethod (x := tFill) fc kc (q 0 rfl)
  obtain ⟨uF', xF, lF', vF, yF, wF, rF, zF, -, gF⟩ := Cond.codeSync_spec nF' (q 3 rfl)
  cases Option.some.inj (lF'.symm.trans lF)
  obtain ⟨iN, uN, nN, lN, aN, sN, bN, tN1, dN⟩ := Cond.ownMethod (x := tFill0) fc kc (q 4 rfl)
  obtain ⟨mN, uN', nN', lN', eN, vN, zN, gN⟩ := Cond.native_spec (q 5 rfl)
  cases Option.some.inj (nN'.symm.trans nN)
  cases Option.some.inj (lN'.symm.trans lN)
  -- the links
  obtain ⟨c1, p1, cf, l1, r1, f1, o1⟩ := Cond.linkedMethod fc kc nO (q 8 rfl) pl hpl
  obtain ⟨c2, p2, cf2, l2, r2, f2, o2⟩ := Cond.linkedMethod fc kc nF' (q 9 rfl) pl hpl
  obtain ⟨c3, p3, cf3, l3, r3, f3, o3⟩ := Cond.linkedMethod fc kc nN (q 10 rfl) pl hpl
  cases Option.some.inj (f2.symm.trans f1)
  cases Option.some.inj (f3.symm.trans f1)
  -- the fields
  obtain ⟨cC, jC, fC, lC, rC, atC, stC, fiC, nmC, -, ffC⟩ := Cond.ownField (t := .object tN) fc kc (by decide +kernel) (q 11 rfl) (q 12 rfl) pl hpl
  obtain ⟨cS, jS, fS, lS, rS, atS, stS, fiS, nmS, tyS, ffS⟩ := Cond.ownField (t := .array (.object "java/lang/StackTraceElement")) fc kc (by decide +kernel) (q 13 rfl) (q 14 rfl) pl hpl
  obtain ⟨cP, jP, fP, lP, rP, atP, stP, fiP, nmP, -, ffP⟩ := Cond.ownField (t := .object "java/util/List") fc kc (by decide +kernel) (q 15 rfl) (q 16 rfl) pl hpl
  obtain ⟨cU, jU, fU, aU, -, lU, rU, atU, stU, -, -, hsU, -, -, -, -, ffU⟩ := Cond.ownStatic (t := .array (.object "java/lang/StackTraceElement")) fc kc (by decide +kernel) (q 17 rfl) (q 18 rfl) pl hpl
  obtain ⟨cE, jE, fE, -, -, lE, rE, atE, stE, -, -, -, -, -, -, -, ffE⟩ := Cond.ownStatic (t := .object "java/util/List") fc kc (by decide +kernel) (q 19 rfl) (q 20 rfl) pl hpl
  obtain ⟨cX, kX, -, -, -, fM, fX, kX1, -, stM, fiM, -, -, -⟩ := Cond.lays_spec (q 21 rfl)
  obtain ⟨-, d1, g1, h1⟩ := Cond.laysAt fX kX1 ffS (q 14 rfl)
  obtain ⟨-, d2, g2, h2⟩ := Cond.laysAt fX kX1 ffP (q 16 rfl)
  have ap := Cond.laysApart g1 g2 h1 h2 (by rw [nmS, nmP]; decide)
  obtain ⟨e1, e2⟩ := name_of_methodNamed nO lO
  have pF : uF.sig.parameters = [] := by
    have z : parseMethodDescriptor tFill.desc = some { parameters := [], returnType := some (.object tN) } := by decide +kernel
    rw [← Option.some.inj (z.symm.trans gF)]
  have pN : uN.sig.parameters = [.int] := by
    have z : parseMethodDescriptor tFill0.desc = some { parameters := [.int], returnType := some (.object tN) } := by decide +kernel
    rw [← Option.some.inj (z.symm.trans gN)]
  have pO : uO.sig.parameters = [] := by
    have z : parseMethodDescriptor oInit.desc = some { parameters := [], returnType := none } := by decide +kernel
    rw [← Option.some.inj (z.symm.trans gO)]
  refine ⟨⟨⟨mF.cls, k, 0, aU, iF, iN, 0, mO, kO, uF, uN, uF, uO, xF, xF, xO, fC, fC, fS, fC, fP, fM, fU, fE⟩, cf, c1, p1, c2, p2, c3, p3, cC, jC, cU, jU, cS, jS, cE, jE, cP, jP⟩, ?_, fc, nF', nN, ffS, ffU, tyS⟩
  constructor <;> first
    | assumption
    | exact Vm.findClass_boot fc kc
    | exact Cond.initialized_spec fc kc (q 1 rfl)
    | exact (by rw [e2]; exact lookupSpecial_of_named nO lO sO)
    | exact (by rw [show (_ : Method).sig.parameters = [] from pO]; rfl)
    | skip

open Bundle Jvm.Free.Exc LibCode.Throwable in
theorem own_tw_ok {rc : String} : (own_tw rc).all xOk = true := rfl
open Bundle Jvm.Free.Exc LibCode.Throwable in
/-- what the filling in leaves -/
theorem own_kept {T : State} {vm' : Vm} {a : Addr} {cell Ho : Cell} {b1 b2 b3 : Nat} {v1 v2 v3 : Value} (hc : T.heap[a]? = some cell) :
    Exc.Kept T (((T.setVm vm').pushCell Ho).setCell a (((cell.setSlot b1 v1).setSlot b2 v2).setSlot b3 v3)) [⟨a, b1⟩, ⟨a, b2⟩, ⟨a, b3⟩] := fun y cy hy => by
  have lt : y < T.heap.size := (Array.getElem?_eq_some_iff.mp hy).1
  have hp : ((T.setVm vm').pushCell Ho).heap[y]? = some cy := by
    show (T.heap.push Ho)[y]? = some cy
    rw [Array.getElem?_push_lt lt]; rw [Array.getElem?_eq_getElem lt] at hy; exact hy
  by_cases e : y = a
  · subst e
    cases hc.symm.trans hy
    refine ⟨_, State.heap_setCell_self hp, rfl, by simp [Cell.setSlot], fun i hi => ?_⟩
    simp only [List.mem_cons, List.not_mem_nil, or_false, not_or, Loc.mk.injEq, true_and] at hi
    simp [Cell.setSlot, Array.getElem?_setIfInBounds, Ne.symm hi.1, Ne.symm hi.2.1, Ne.symm hi.2.2]
  · exact ⟨cy, by rw [State.heap_setCell_other (Ne.symm e)]; exact hp, rfl, rfl, fun _ _ => rfl⟩
open Bundle Jvm.Free.Exc LibCode.Throwable in
set_option maxHeartbeats 4000000 in
theorem own_fill {p : Program} {l : Launch} {e : Env} {R : Room} {s : State} {m : MethodId} {args : Array Value} {below : List Frame} {meth : Method} {c : Code} {T : State} {locs : List Loc} {cells slots : Nat} {Z : State} {a0 : Array Value} {h : Heap}
    (X : Stand p l e R s m args below meth c T locs cells slots) (hx : p.tables.exec = Jvm.exec) (hl : l.stackTraces = true) (hZ : Z.Warmed39 s.vm) {rc : String} (hown : s.vm.findClass tN = some m.cls) (hw : ∀ d ∈ own_tw rc, d.before a0 Z = true) {n : Nat} (wi : (Cond.instantiable rc n).before a0 Z = true)
    (hT0 : ThS Z s.heap) (hT : ThS Z h) (hTK : s.vm.MethodsKnown) (hBelow : s.vm.FramesKnown below) (eT : T.heap = h) {a : Addr} (E : Exa Z h a rc) (N : Unt h a) (B : Fld Z h a tN "backtrace" obD .null) {u : Value} (hu : u.isRef = true) (hu0 : u ≠ .null) (FS : Fld Z h a tN "stackTrace" steD u) (SU : Sta Z h tN "UNASSIGNED_STACK" steD u)
    {g : JFrame} (hg : g.method = m) (hsize : g.locals.size = c.maxLocals) {rest : List Value} (hs : g.stack = .ref a :: rest) (hd : decode c.code g.pc = .ok (.invokevirtual 27, 3)) (hf : 2 < R.frames) (hlo : 2 * g.monitorRoom + (rest.map fun v => v.category).sum + 42 ≤ R.locals) (hc : cells + 1 ≤ R.cells) (hsl : slots + 2752 ≤ R.slots) :
    ∃ (T' : State) (h' : Heap) (v1 v2 : Value), Stand p l e R s m args below meth c T' (locs ++ sixLocs Z a) (cells + 1) (slots + 2752) ∧ T'.heap = h' ∧ Kp Z h h' a ∧ Exa Z h' a rc ∧ Unt h' a ∧ ThS Z h' ∧ Fld Z h' a tN "detailMessage" msgD v1 ∧ Fld Z h' a tN "cause" thD v2 ∧
      ∀ target, Steps p.tables e below (T'.setTop { g with pc := g.pc + 3, stack := .ref a :: rest }) target → Steps p.tables e below (T.setTop g) target := by
  have htr : e.platform.stackTraces = true := by rw [X.admits.platform]; exact hl
  have hpl : e.platform.magicAccessors = ({} : Platform).magicAccessors := by rw [X.admits.platform]
  have W : ∀ d ∈ own_tw rc, d.before args s = true := fun d hd => mvX hT0 hZ (List.all_eq_true.mp own_tw_ok d hd) (hw d hd)
  have q : ∀ {d : Cond} (i : Nat), (own_tw rc)[i]? = some d → d.holds args s none s [] = true := fun i e => W _ (List.mem_of_getElem? e)
  obtain ⟨TT, Dl, Dc, Df, Dg, Ds, Du, Dt⟩ := own_thr (pl := e.platform) (by rw [X.admits.platform]) (by rw [X.admits.platform]) hpl W
  have hal : Z.vm.Alike s.vm := hZ.alike
  -- the object's cell
  obtain ⟨cell, kz, h1, h2, h3, h4, h5⟩ := id E
  obtain ⟨cell', u1, u2, u3⟩ := id N
  cases h1.symm.trans u1
  obtain ⟨_, _, i1, i2, i3, -⟩ := Cond.instantiable_spec wi
  cases h2.symm.trans i1
  cases h3.symm.trans i2
  obtain ⟨kX, k1, k2⟩ := hal.2.2 _ _ h3
  have fX : s.vm.findClass rc = some cell.cls := by rw [hal.findClass]; exact h2
  have ord : kX.kind = .ordinary := by rw [k2]; exact i3
  have sz : cell.slots.size = kX.instanceTypes.size := by rw [k2]; exact h5 i3
  -- the stack's field and the static
  obtain ⟨_, _, _, _, fS, s1, s2, -, -, -, -, s7⟩ := FS
  cases h1.symm.trans s1
  obtain ⟨_, s3, -⟩ := State.fieldFound?_setVm (s := Z) hal s2
  cases (show s.fieldFound? tN "stackTrace" steD = _ from s3).symm.trans Ds
  obtain ⟨_, _, _, fU, st, cellS, t1, -, -, t4, t5, t6, t7⟩ := SU
  obtain ⟨_, t2, tk⟩ := State.fieldFound?_setVm (s := Z) hal t1
  cases (show s.fieldFound? tN "UNASSIGNED_STACK" steD = _ from t2).symm.trans Du
  have hst : TT.aS = st := Option.some.inj (Dl.statics.symm.trans (by rw [tk]; exact t4))
  obtain ⟨_, _, _, _, fB, b1, b2, -, -, -, -, b7⟩ := B
  cases h1.symm.trans b1
  obtain ⟨_, b3, -⟩ := State.fieldFound?_setVm (s := Z) hal b2
  obtain ⟨cB, jB, fB', lB, rB, aB, stB, -, nB, tB, ffB⟩ := Cond.ownField (t := .object "java/lang/Object") Dc Dl.cls (by decide +kernel) (q 22 rfl) (q 23 rfl) e.platform hpl
  cases (show s.fieldFound? tN "backtrace" obD = _ from b3).symm.trans ffB
  obtain ⟨_, _, _, _, _, fD, _, _, ffD, stD, -, -, -, -⟩ := Cond.lays_spec (q 24 rfl)
  cases Option.some.inj ((Cond.lays_declared (q 24 rfl) ffD).symm.trans Dc)
  obtain ⟨kD, aD⟩ := State.fieldFound?_spec ffD
  cases Option.some.inj (kD.symm.trans Dl.cls)
  obtain ⟨nD, tD⟩ := State.fieldFound?_type ffD (t := .int) (by decide +kernel)
  have tk : ∀ {f : Field} {v : Value}, kX.instanceTypes[f.slot]? = some f.type → fits f.type v = true → Jvm.Takes s cell f v := fun {f v} z1 z2 => by
    obtain ⟨q1, q2⟩ := Takes.of_laid (v := v) k1 ord z1 z2
    exact ⟨by rw [sz]; simpa using q1, by rw [u2]; exact q2⟩
  obtain ⟨yS, -⟩ := Cond.laysAt fX k1 Ds (q 14 rfl)
  obtain ⟨yB, -⟩ := Cond.laysAt fX k1 ffB (q 23 rfl)
  obtain ⟨yD, -⟩ := Cond.laysAt fX k1 ffD (q 24 rfl)
  obtain ⟨comp, cO, kO, -, -, o1, o2, o3⟩ := Cond.arrayOver_spec (q 27 rfl)
  have hsel0 : selectMethod e.platform s.vm cell.cls TT.fill0 = .method TT.fill0 := by
    obtain ⟨c2, r2, m2, q1, q2, q3, q4, -⟩ := Cond.selects_spec (q 28 rfl)
    cases Option.some.inj (q1.symm.trans fX)
    cases Option.some.inj (q2.symm.trans (State.methodFound?_of_named Dg (by decide)))
    cases Option.some.inj (q3.symm.trans Dg)
    rw [Launch.admits_selectMethod X.admits]; exact q4
  have hneS : TT.aS ≠ a := fun z => by
    rw [hst] at z; rw [z, h1] at t5; cases t5; rw [u2] at t6; cases t6
  have BK := Jvm.Free.Str.fillPays (l := l) (R := R) (p := p) (e := e) (below := below) (s := s) (sargs := args) (len := 3) (W := 2 * g.monitorRoom + (rest.map fun v => v.category).sum) hx htr TT Dl Df (u0 := ⟨u, hu⟩) hu0 (self := a) (cell := cell) (cellS := cellS)
    (fun k => by rw [u2]; simp) (by rw [u2]; simp) (by rw [u3]) (by rw [u3]) s7 hsel0 hneS (fun z => by rw [z] at t6; cases t6) t7 (tk yS (by rw [Dt]; exact fits_refV_array _ ⟨u, hu⟩))
    ⟨⟨cB, _, _⟩, ⟨lB, rB, aB, stB⟩, b7⟩ hTK hBelow Dc o3 o1 o2 (Cond.soleField_find Dc Dl.cls (q 25 rfl) aB nB stB) (Cond.soleField_find Dc Dl.cls (q 26 rfl) aD nD stD)
    (fun x => tk yB (by rw [tB]; exact fits_refV_object _ ⟨.ref x, rfl⟩)) (fun x => tk yD (by rw [tD]; rfl)) hf hlo
  obtain ⟨v, vm1, ⟨U, L', c', n'⟩, hW1, Y, ⟨rfl, vm2, lines, hlen, hW2, rfl, rfl, rfl, rfl⟩, st'⟩ := X.virtualBack hx hown (q 9 rfl) (q 30 rfl) (own_nf (q 29 rfl) rfl) (q 29 rfl) (q 0 rfl) (by decide) BK fX (b := a) ⟨cell, by rw [eT]; exact h1, rfl, h4⟩ hg hsize (Steps.refl _) (argsL := []) (rest := rest)
    (fun sig z => by have z' : parseMethodDescriptor tFill.desc = some { parameters := [], returnType := some (.object tN) } := by decide +kernel
                     rw [← Option.some.inj (z'.symm.trans z)]; rfl) hs (Nat.le_refl _) hd (fun vm₁ _ => ⟨rfl, hc, hsl, by show T.heap[a]? = _; rw [eT]; exact h1, by show T.heap[_]? = _; rw [eT, hst]; exact t5⟩)
  have hL : ∀ x ∈ [(⟨a, fB.slot⟩ : Loc), ⟨a, fD.slot⟩, ⟨a, TT.fStack.slot⟩], Six s a x := fun x hx => by
    simp only [List.mem_cons, List.not_mem_nil, or_false] at hx
    rcases hx with rfl | rfl | rfl
    · exact ⟨("backtrace", obD), _, by simp [sixNames], ⟨_, _, _, ffB⟩, rfl⟩
    · exact ⟨("depth", "I"), _, by simp [sixNames], ⟨_, _, _, ffD⟩, rfl⟩
    · exact ⟨("stackTrace", steD), _, by simp [sixNames], ⟨_, _, _, Ds⟩, rfl⟩
  have K := kp_of hZ eT hL (own_kept (T := T) (vm' := vm2) (Ho := traceHolder cO lines) (v1 := .ref T.heap.size) (v2 := .int lines.length.toInt32) (v3 := u) (by rw [eT]; exact h1))
  have E' := E.kp K
  have N' := N.kp K
  obtain ⟨cN, n1, n2, n3⟩ := id N'
  obtain ⟨v1, F1⟩ := fld_laid (O := tN) (n := "detailMessage") (d := msgD) E' ⟨cN, n1, by rw [n2]; simp⟩ wi (Or.inl (hw _ (mg 21 rfl)))
  obtain ⟨v2, F2⟩ := fld_laid (O := tN) (n := "cause") (d := thD) E' ⟨cN, n1, by rw [n2]; simp⟩ wi (Or.inl (hw _ (mg 12 rfl)))
  exact ⟨_, _, v1, v2, (wider Y hZ hL).more (Nat.le_refl _) (Nat.add_le_add_left (traceHolder_size_le cO hlen) _), rfl, K, E', N', hT.kp K N, F1, F2, fun target z => st'.trans z⟩
open Bundle Jvm.Free.Exc LibCode.Throwable in
theorem own_tws {Z : State} {az : Array Value} (hw : HW Z az) : ∀ d ∈ own_tw cSX, d.before az Z = true := fun d hd => by
  simp only [own_tw, List.mem_cons, List.not_mem_nil, or_false] at hd
  rcases hd with rfl | rfl | rfl | rfl | rfl | rfl | rfl | rfl | rfl | rfl | rfl | rfl | rfl | rfl | rfl | rfl | rfl | rfl | rfl | rfl | rfl | rfl | rfl | rfl | rfl | rfl | rfl | rfl | rfl | rfl | rfl
  · exact (hw _ (mg 196 rfl))
  · exact (hw _ (mg 183 rfl))
  · exact (hw _ (mg 201 rfl))
  · exact (hw _ (mg 202 rfl))
  · exact (hw _ (mg 203 rfl))
  · exact (hw _ (mg 204 rfl))
  · exact (hw _ (mg 16 rfl))
  · exact (hw _ (mg 17 rfl))
  · exact (hw _ (mg 185 rfl))
  · exact (hw _ (mg 194 rfl))
  · exact (hw _ (mg 207 rfl))
  · exact (hw _ (mg 186 rfl))
  · exact (hw _ (mg 187 rfl))
  · exact (hw _ (mg 189 rfl))
  · exact (hw _ (mg 190 rfl))
  · exact (hw _ (mg 192 rfl))
  · exact (hw _ (mg 193 rfl))
  · exact (hw _ (mg 188 rfl))
  · exact (hw _ (mg 214 rfl))
  · exact (hw _ (mg 191 rfl))
  · exact (hw _ (mg 215 rfl))
  · exact (hw _ (mg 217 rfl))
  · exact (hw _ (mg 212 rfl))
  · exact (hw _ (mg 218 rfl))
  · exact (hw _ (mg 219 rfl))
  · exact (hw _ (mg 199 rfl))
  · exact (hw _ (mg 200 rfl))
  · exact (hw _ (mg 198 rfl))
  · exact (hw _ (mg 216 rfl))
  · exact (hw _ (mg 197 rfl))
  · exact (hw _ (mg 195 rfl))
theorem d32_0 : decode jdk_78_method_3_code 0 = .ok (.aload_n 0, 1) := by decide +kernel
theorem d32_1 : decode jdk_78_method_3_code 1 = .ok (.invokespecial 1, 3) := by decide +kernel
theorem d32_4 : decode jdk_78_method_3_code 4 = .ok (.aload_n 0, 1) := by decide +kernel
theorem d32_5 : decode jdk_78_method_3_code 5 = .ok (.aload_n 0, 1) := by decide +kernel
theorem d32_6 : decode jdk_78_method_3_code 6 = .ok (.putfield 7, 3) := by decide +kernel
theorem d32_9 : decode jdk_78_method_3_code 9 = .ok (.aload_n 0, 1) := by decide +kernel
theorem d32_10 : decode jdk_78_method_3_code 10 = .ok (.getstatic 13, 3) := by decide +kernel
theorem d32_13 : decode jdk_78_method_3_code 13 = .ok (.putfield 17, 3) := by decide +kernel
theorem sl_8 {Z : State} {az : Array Value} (hw : HW Z az) : Jvm.RoadKit.slotOf Z cTN "stackTrace" "[Ljava/lang/StackTraceElement;" ≠ Jvm.RoadKit.slotOf Z cTN "cause" "Ljava/lang/Throwable;" := slot_ne (Z := Z) (Or.inl (w190 hw)) (Or.inl (w187 hw)) (by decide) (t := (.array (.object "java/lang/StackTraceElement"))) (t' := (.object cTN)) (by decide) (by decide)
theorem d32_16 : decode jdk_78_method_3_code 16 = .ok (.aload_n 0, 1) := by decide +kernel
theorem d32_17 : decode jdk_78_method_3_code 17 = .ok (.getstatic 20, 3) := by decide +kernel
theorem d32_20 : decode jdk_78_method_3_code 20 = .ok (.putfield 24, 3) := by decide +kernel
theorem sl_9 {Z : State} {az : Array Value} (hw : HW Z az) : Jvm.RoadKit.slotOf Z cTN "suppressedExceptions" "Ljava/util/List;" ≠ Jvm.RoadKit.slotOf Z cTN "cause" "Ljava/lang/Throwable;" := slot_ne (Z := Z) (Or.inl (w193 hw)) (Or.inl (w187 hw)) (by decide) (t := (.object "java/util/List")) (t' := (.object cTN)) (by decide) (by decide)
theorem sl_10 {Z : State} {az : Array Value} (hw : HW Z az) : Jvm.RoadKit.slotOf Z cTN "suppressedExceptions" "Ljava/util/List;" ≠ Jvm.RoadKit.slotOf Z cTN "stackTrace" "[Ljava/lang/StackTraceElement;" := slot_ne (Z := Z) (Or.inl (w193 hw)) (Or.inl (w190 hw)) (by decide) (t := (.object "java/util/List")) (t' := (.array (.object "java/lang/StackTraceElement"))) (by decide) (by decide)
theorem d32_23 : decode jdk_78_method_3_code 23 = .ok (.aload_n 0, 1) := by decide +kernel
theorem d32_24 : decode jdk_78_method_3_code 24 = .ok (.invokevirtual 27, 3) := by decide +kernel
theorem sl_11 {Z : State} {az : Array Value} (hw : HW Z az) : Jvm.RoadKit.slotOf Z cTN "backtrace" "Ljava/lang/Object;" ≠ Jvm.RoadKit.slotOf Z cTN "cause" "Ljava/lang/Throwable;" := slot_ne (Z := Z) (Or.inl (w218 hw)) (Or.inl (w187 hw)) (by decide) (t := (.object "java/lang/Object")) (t' := (.object cTN)) (by decide) (by decide)
theorem sl_12 {Z : State} {az : Array Value} (hw : HW Z az) : Jvm.RoadKit.slotOf Z cTN "backtrace" "Ljava/lang/Object;" ≠ Jvm.RoadKit.slotOf Z cTN "stackTrace" "[Ljava/lang/StackTraceElement;" := slot_ne (Z := Z) (Or.inl (w218 hw)) (Or.inl (w190 hw)) (by decide) (t := (.object "java/lang/Object")) (t' := (.array (.object "java/lang/StackTraceElement"))) (by decide) (by decide)
theorem sl_13 {Z : State} {az : Array Value} (hw : HW Z az) : Jvm.RoadKit.slotOf Z cTN "backtrace" "Ljava/lang/Object;" ≠ Jvm.RoadKit.slotOf Z cTN "suppressedExceptions" "Ljava/util/List;" := slot_ne (Z := Z) (Or.inl (w218 hw)) (Or.inl (w193 hw)) (by decide) (t := (.object "java/lang/Object")) (t' := (.object "java/util/List")) (by decide) (by decide)
theorem sl_14 {Z : State} {az : Array Value} (hw : HW Z az) : Jvm.RoadKit.slotOf Z cTN "stackTrace" "[Ljava/lang/StackTraceElement;" ≠ Jvm.RoadKit.slotOf Z cTN "suppressedExceptions" "Ljava/util/List;" := slot_ne (Z := Z) (Or.inl (w190 hw)) (Or.inl (w193 hw)) (by decide) (t := (.array (.object "java/lang/StackTraceElement"))) (t' := (.object "java/util/List")) (by decide) (by decide)
theorem d32_27 : decode jdk_78_method_3_code 27 = .ok (.pop, 1) := by decide +kernel
theorem d32_28 : decode jdk_78_method_3_code 28 = .ok (.aload_n 0, 1) := by decide +kernel
theorem d32_29 : decode jdk_78_method_3_code 29 = .ok (.aload_n 1, 1) := by decide +kernel
theorem d32_30 : decode jdk_78_method_3_code 30 = .ok (.putfield 31, 3) := by decide +kernel
theorem d32_33 : decode jdk_78_method_3_code 33 = .ok (.aload_n 0, 1) := by decide +kernel
theorem d32_34 : decode jdk_78_method_3_code 34 = .ok (.aload_n 2, 1) := by decide +kernel
theorem d32_35 : decode jdk_78_method_3_code 35 = .ok (.putfield 7, 3) := by decide +kernel
theorem sl_15 {Z : State} {az : Array Value} (hw : HW Z az) : Jvm.RoadKit.slotOf Z cTN "cause" "Ljava/lang/Throwable;" ≠ Jvm.RoadKit.slotOf Z cTN "detailMessage" "Ljava/lang/String;" := slot_ne (Z := Z) (Or.inl (w187 hw)) (Or.inl (w217 hw)) (by decide) (t := (.object cTN)) (t' := (.object cST)) (by decide) (by decide)
theorem d32_38 : decode jdk_78_method_3_code 38 = .ok (.return_, 1) := by decide +kernel
theorem sl_16 {Z : State} {az : Array Value} (hw : HW Z az) : Jvm.RoadKit.slotOf Z cTN "detailMessage" "Ljava/lang/String;" ≠ Jvm.RoadKit.slotOf Z cTN "cause" "Ljava/lang/Throwable;" := slot_ne (Z := Z) (Or.inl (w217 hw)) (Or.inl (w187 hw)) (by decide) (t := (.object cST)) (t' := (.object cTN)) (by decide) (by decide)
theorem pn_java_lang_Throwable : plainName "java/lang/Throwable" = true := by first | (simp [plainName, overriddenIn]; done) | decide +kernel
theorem ef_rm32 (m : MethodId) (a0 : Addr) (a1 : Addr) : entryFrame m #[(.ref a0), (.ref a1), .null] 3 = mkF m 0 #[vR a0, vR a1, .val .null] [] := by first | (simp [entryFrame, mkF, argsToLocals, Value.category]; done) | rfl
def Q32 (Z : State) (a0 : Addr) (a1 : Addr) (uA : Addr) (uB : Addr) (h0 : Heap) (n0 : Nat) (v : Option Value) (h : Heap) (L : List Loc) : Prop := v = none ∧ Fr n0 L ∧ Keep h0 h [a0] ∧ Exa Z h a0 cSX ∧ Unt h a0 ∧ Fld Z h a0 cTN "detailMessage" "Ljava/lang/String;" (.ref a1) ∧ Fld Z h a0 cTN "cause" "Ljava/lang/Throwable;" .null
set_option maxRecDepth 65536 in
set_option maxHeartbeats 40000000 in
theorem rm32 (l : Launch) (Z : State) (az : Array Value) (hw : HW Z az) (ws : List Jvm.Cond) (a0 : Addr) (a1 : Addr) (uA : Addr) (uB : Addr) (h0 : Heap) (n0 : Nat) (Z0 : n0 ≤ h0.size) (E_a0 : Exa Z h0 a0 cSX) (F_cause_a0 : Fld Z h0 a0 cTN "cause" "Ljava/lang/Throwable;" .null) (F_stackTrace_a0 : Fld Z h0 a0 cTN "stackTrace" "[Ljava/lang/StackTraceElement;" .null) (F_suppressedExceptions_a0 : Fld Z h0 a0 cTN "suppressedExceptions" "Ljava/util/List;" .null) (F_detailMessage_a0 : Fld Z h0 a0 cTN "detailMessage" "Ljava/lang/String;" .null) (F_backtrace_a0 : Fld Z h0 a0 cTN "backtrace" "Ljava/lang/Object;" .null) (F_depth_a0 : Fld Z h0 a0 cTN "depth" "I" (.int (0 : Int32))) (T_x : ThS Z h0) (Ut_a0 : Unt h0 a0) (S_UNASSIGNED_STACK : Sta Z h0 cTN "UNASSIGNED_STACK" "[Ljava/lang/StackTraceElement;" (.ref uA)) (S_SUPPRESSED_SENTINEL : Sta Z h0 cTN "SUPPRESSED_SENTINEL" "Ljava/util/List;" (.ref uB)) (g_a0 : n0 ≤ a0) (hc12 : l.stackTraces = true) :
    MetFree l (⟨cTN, "<init>", "(Ljava/lang/String;Ljava/lang/Throwable;)V"⟩ : MethodName) (head1 (Jvm.Cond.code (⟨cTN, "<init>", "(Ljava/lang/String;Ljava/lang/Throwable;)V"⟩ : MethodName) jdk_78_method_3_code 3 none :: ws) (⟨3, 1, 2752, 42⟩ : Room)) (fun a U => a = #[(.ref a0), (.ref a1), .null] ∧ Z.Warmed39 U.vm ∧ U.heap = h0) (fun _ _ bl s _ => s.vm.MethodsKnown ∧ s.vm.FramesKnown bl) (fun _ U o U' => ∃ v L, o = .returned v ∧ Q32 Z a0 a1 uA uB h0 n0 v U'.heap L ∧ FrameEnd U o U' L (⟨3, 1, 2752, 42⟩ : Room).cells (⟨3, 1, 2752, 42⟩ : Room).slots) := by
  refine MetFree.of_bodySF (plainFor_of_name pn_java_lang_Throwable) hisR ?_
  intro p e s m args below meth c s₁ Bd hml0 hP hK
  obtain ⟨rfl, hZ, hh⟩ := hP
  have hx := Bd.exec
  have hby := Bd.bytes
  have hml : c.maxLocals = 3 := hml0
  have hown : s.vm.findClass cTN = some m.cls := findClass_of_methodNamed Bd.named
  have hnm := (name_of_methodNamed Bd.named Bd.method).1
  have X0 : Stand p l e (⟨3, 1, 2752, 42⟩ : Room) s m #[(.ref a0), (.ref a1), .null] below meth c s₁ [] 0 0 := Stand.of_body Bd
  have e0 : s₁.heap = h0 := by rw [← hh, Bd.state]; rfl
  have N0 := Fr.nil n0
  have pre0 : ∀ t, Steps p.tables e below (s₁.setTop (mkF m 0 #[vR a0, vR a1, .val .null] [])) t → Steps p.tables e below (s₁.setTop (entryFrame m #[(.ref a0), (.ref a1), .null] 3)) t := fun t k => castTop (ef_rm32 m a0 a1) k
  obtain ⟨hTK, hBelow⟩ := hK
  obtain ⟨T1, X1, e1, st1⟩ := initO X0 hx hZ hown (w185 hw) (w16 hw) (w17 hw) e0 (g := (mkF m 1 #[vR a0, vR a1, .val .null] [(.ref a0)])) rfl (by rw [hml]; rfl) rfl (hb hby d32_1) (by decide) (W := 0) (Nat.le_of_eq rfl) (by decide)
  obtain ⟨T2, h2, X2, e2, W2, st2⟩ := putF X1 hx hZ hown (host := "") (Or.inl (w186 hw)) Via.refl e1 F_cause_a0 E_a0 (Or.inl (w187 hw)) (w31 hw) (ty := (.object cTN)) (by decide) rfl rfl (g := (mkF m 6 #[vR a0, vR a1, .val .null] [(.ref a0), (.ref a0)])) rfl rfl (hb hby d32_6)
  have K2 : Keep h0 h2 [a0] := (Keep.refl h0 [a0]).wr W2 (Or.inl (mg 0 rfl))
  have Fw2 := F_cause_a0.same W2
  have Z2 : n0 ≤ h2.size := Nat.le_trans Z0 (Keep.of_wr W2).1
  obtain ⟨Lg2, X2', N2⟩ := own_gen X2 (Fr.snoc X2 N0 g_a0)
  have S_Throwable_UNASSIGNED_STACK_u3 : Sta Z h2 cTN "UNASSIGNED_STACK" "[Ljava/lang/StackTraceElement;" (.ref uA) := (S_UNASSIGNED_STACK.wr W2)
  obtain ⟨T4, X4, e4, st4⟩ := getS2 X2' hx hZ hown (host := "") (Or.inl (w188 hw)) Via.refl e2 S_Throwable_UNASSIGNED_STACK_u3 (g := (mkF m 10 #[vR a0, vR a1, .val .null] [(.ref a0)])) rfl (hb hby d32_10)
  have F_a0_stackTrace_u5 : Fld Z h2 a0 cTN "stackTrace" "[Ljava/lang/StackTraceElement;" .null := (F_stackTrace_a0.other W2 (Or.inr (sl_8 hw)))
  have E_a0_u6 : Exa Z h2 a0 cSX := (E_a0.wr W2)
  obtain ⟨T7, h7, X7, e7, W7, st7⟩ := putF X4 hx hZ hown (host := "") (Or.inl (w189 hw)) Via.refl e4 F_a0_stackTrace_u5 E_a0_u6 (Or.inl (w190 hw)) (w31 hw) (ty := (.array (.object "java/lang/StackTraceElement"))) (by decide) rfl rfl (g := (mkF m 13 #[vR a0, vR a1, .val .null] [(.ref uA), (.ref a0)])) rfl rfl (hb hby d32_13)
  have K7 : Keep h0 h7 [a0] := K2.wr W7 (Or.inl (mg 0 rfl))
  have Fw7 := F_a0_stackTrace_u5.same W7
  have Z7 : n0 ≤ h7.size := Nat.le_trans Z2 (Keep.of_wr W7).1
  obtain ⟨Lg7, X7', N7⟩ := own_gen X7 (Fr.snoc X7 N2 g_a0)
  have S_Throwable_SUPPRESSED_SENTINEL_u8 : Sta Z h7 cTN "SUPPRESSED_SENTINEL" "Ljava/util/List;" (.ref uB) := ((S_SUPPRESSED_SENTINEL.wr W2).wr W7)
  obtain ⟨T9, X9, e9, st9⟩ := getS2 X7' hx hZ hown (host := "") (Or.inl (w191 hw)) Via.refl e7 S_Throwable_SUPPRESSED_SENTINEL_u8 (g := (mkF m 17 #[vR a0, vR a1, .val .null] [(.ref a0)])) rfl (hb hby d32_17)
  have F_a0_suppressedExceptions_u10 : Fld Z h7 a0 cTN "suppressedExceptions" "Ljava/util/List;" .null := ((F_suppressedExceptions_a0.other W2 (Or.inr (sl_9 hw))).other W7 (Or.inr (sl_10 hw)))
  have E_a0_u11 : Exa Z h7 a0 cSX := (E_a0_u6.wr W7)
  obtain ⟨T12, h12, X12, e12, W12, st12⟩ := putF X9 hx hZ hown (host := "") (Or.inl (w192 hw)) Via.refl e9 F_a0_suppressedExceptions_u10 E_a0_u11 (Or.inl (w193 hw)) (w31 hw) (ty := (.object "java/util/List")) (by decide) rfl rfl (g := (mkF m 20 #[vR a0, vR a1, .val .null] [(.ref uB), (.ref a0)])) rfl rfl (hb hby d32_20)
  have K12 : Keep h0 h12 [a0] := K7.wr W12 (Or.inl (mg 0 rfl))
  have Fw12 := F_a0_suppressedExceptions_u10.same W12
  have Z12 : n0 ≤ h12.size := Nat.le_trans Z7 (Keep.of_wr W12).1
  obtain ⟨Lg12, X12', N12⟩ := own_gen X12 (Fr.snoc X12 N7 g_a0)
  have T_x_u14 : ThS Z h12 := (ThS.wr W12 (ThS.wr W7 (ThS.wr W2 T_x)))
  have E_a0_u15 : Exa Z h12 a0 cSX := (E_a0_u11.wr W12)
  have U_a0_u16 : Unt h12 a0 := (Unt.wr W12 (Unt.wr W7 (Unt.wr W2 Ut_a0)))
  have F_a0_backtrace_u17 : Fld Z h12 a0 cTN "backtrace" "Ljava/lang/Object;" .null := (((F_backtrace_a0.other W2 (Or.inr (sl_11 hw))).other W7 (Or.inr (sl_12 hw))).other W12 (Or.inr (sl_13 hw)))
  have F_a0_stackTrace_u18 : Fld Z h12 a0 cTN "stackTrace" "[Ljava/lang/StackTraceElement;" (.ref uA) := (Fw7.other W12 (Or.inr (sl_14 hw)))
  have S_Throwable_UNASSIGNED_STACK_u19 : Sta Z h12 cTN "UNASSIGNED_STACK" "[Ljava/lang/StackTraceElement;" (.ref uA) := ((S_Throwable_UNASSIGNED_STACK_u3.wr W7).wr W12)
  obtain ⟨T13, h13, va13, vb13, X13, e13, kp13, x13, u13, th13, fm13, fc13, st13⟩ := own_fill X12' hx hc12 hZ (rc := cSX) hown (own_tws hw) (w31 hw) (by rw [show (s).heap = h0 from hh]; exact T_x) T_x_u14 hTK hBelow e12 E_a0_u15 U_a0_u16 F_a0_backtrace_u17 rfl (by simp) F_a0_stackTrace_u18 S_Throwable_UNASSIGNED_STACK_u19 (g := (mkF m 24 #[vR a0, vR a1, .val .null] [(.ref a0)])) rfl (by rw [hml]; rfl) (rest := []) rfl (hb hby d32_24) (by decide) (by show 2 * 0 + 0 + 42 ≤ _; decide) (by decide) (by decide)
  have kq13 := keep_of_kp kp13
  obtain ⟨Lg13, X13', N13⟩ := own_gen X13 (Fr.six N12 g_a0)
  have K13 : Keep h0 h13 [a0] := K12.trans kq13 (allS (Or.inl (mg 0 rfl)) all0)
  have Z13 : n0 ≤ h13.size := Nat.le_trans Z12 kq13.1
  obtain ⟨T20, h20, X20, e20, W20, st20⟩ := putF X13' hx hZ hown (host := "") (Or.inl (w221 hw)) Via.refl e13 fm13 x13 (Or.inl (w217 hw)) (w31 hw) (ty := (.object cST)) (by decide) rfl rfl (g := (mkF m 30 #[vR a0, vR a1, .val .null] [(.ref a1), (.ref a0)])) rfl rfl (hb hby d32_30)
  have K20 : Keep h0 h20 [a0] := K13.wr W20 (Or.inl (mg 0 rfl))
  have Fw20 := fm13.same W20
  have Z20 : n0 ≤ h20.size := Nat.le_trans Z13 (Keep.of_wr W20).1
  obtain ⟨Lg20, X20', N20⟩ := own_gen X20 (Fr.snoc X20 N13 g_a0)
  have F_a0_cause_u21 : Fld Z h20 a0 cTN "cause" "Ljava/lang/Throwable;" vb13 := (fc13.other W20 (Or.inr (sl_15 hw)))
  have E_a0_u22 : Exa Z h20 a0 cSX := (x13.wr W20)
  obtain ⟨T23, h23, X23, e23, W23, st23⟩ := putF X20' hx hZ hown (host := "") (Or.inl (w186 hw)) Via.refl e20 F_a0_cause_u21 E_a0_u22 (Or.inl (w187 hw)) (w31 hw) (ty := (.object cTN)) (by decide) rfl rfl (g := (mkF m 35 #[vR a0, vR a1, .val .null] [.null, (.ref a0)])) rfl rfl (hb hby d32_35)
  have K23 : Keep h0 h23 [a0] := K20.wr W23 (Or.inl (mg 0 rfl))
  have Fw23 := F_a0_cause_u21.same W23
  have Z23 : n0 ≤ h23.size := Nat.le_trans Z20 (Keep.of_wr W23).1
  obtain ⟨Lg23, X23', N23⟩ := own_gen X23 (Fr.snoc X23 N20 g_a0)
  have E_a0_u24 : Exa Z h23 a0 cSX := (E_a0_u22.wr W23)
  have U_a0_u25 : Unt h23 a0 := (Unt.wr W23 (Unt.wr W20 u13))
  have F_a0_detailMessage_u26 : Fld Z h23 a0 cTN "detailMessage" "Ljava/lang/String;" (.ref a1) := (Fw20.other W23 (Or.inr (sl_16 hw)))
  obtain ⟨fs, hr, hrun, hended, hW, hsame⟩ := X23'.leave (v := none) (fun _ => rfl)
  refine ⟨_, _, pre0 _ ?_, hrun, hended, _, _, rfl, ?_, ⟨_, rfl⟩, hW, hsame.mono (by decide) (by decide)⟩
  · show SP p e below s₁ (mkF m 0 #[vR a0, vR a1, .val .null] []) _
    refine XS.aloadN X0.here hx rfl (hb hby d32_0) rfl rfl ?_
    show SP p e below s₁ (mkF m 1 #[vR a0, vR a1, .val .null] [(.ref a0)]) _
    refine st1 _ ?_
    show SP p e below T1 (mkF m 4 #[vR a0, vR a1, .val .null] []) _
    refine XS.aloadN X1.here hx rfl (hb hby d32_4) rfl rfl ?_
    refine XS.aloadN X1.here hx rfl (hb hby d32_5) rfl rfl ?_
    show SP p e below T1 (mkF m 6 #[vR a0, vR a1, .val .null] [(.ref a0), (.ref a0)]) _
    refine st2 _ ?_
    show SP p e below T2 (mkF m 9 #[vR a0, vR a1, .val .null] []) _
    refine XS.aloadN X2'.here hx rfl (hb hby d32_9) rfl rfl ?_
    show SP p e below T2 (mkF m 10 #[vR a0, vR a1, .val .null] [(.ref a0)]) _
    refine st4 _ ?_
    show SP p e below T4 (mkF m 13 #[vR a0, vR a1, .val .null] [(.ref uA), (.ref a0)]) _
    refine st7 _ ?_
    show SP p e below T7 (mkF m 16 #[vR a0, vR a1, .val .null] []) _
    refine XS.aloadN X7'.here hx rfl (hb hby d32_16) rfl rfl ?_
    show SP p e below T7 (mkF m 17 #[vR a0, vR a1, .val .null] [(.ref a0)]) _
    refine st9 _ ?_
    show SP p e below T9 (mkF m 20 #[vR a0, vR a1, .val .null] [(.ref uB), (.ref a0)]) _
    refine st12 _ ?_
    show SP p e below T12 (mkF m 23 #[vR a0, vR a1, .val .null] []) _
    refine XS.aloadN X12'.here hx rfl (hb hby d32_23) rfl rfl ?_
    show SP p e below T12 (mkF m 24 #[vR a0, vR a1, .val .null] [(.ref a0)]) _
    refine st13 _ ?_
    show SP p e below T13 (mkF m 27 #[vR a0, vR a1, .val .null] [(.ref a0)]) _
    refine XS.pop X13'.here hx rfl (hb hby d32_27) rfl rfl ?_
    refine XS.aloadN X13'.here hx rfl (hb hby d32_28) rfl rfl ?_
    refine XS.aloadN X13'.here hx rfl (hb hby d32_29) rfl rfl ?_
    show SP p e below T13 (mkF m 30 #[vR a0, vR a1, .val .null] [(.ref a1), (.ref a0)]) _
    refine st20 _ ?_
    show SP p e below T20 (mkF m 33 #[vR a0, vR a1, .val .null] []) _
    refine XS.aloadN X20'.here hx rfl (hb hby d32_33) rfl rfl ?_
    refine XS.aloadN X20'.here hx rfl (hb hby d32_34) rfl rfl ?_
    show SP p e below T20 (mkF m 35 #[vR a0, vR a1, .val .null] [.null, (.ref a0)]) _
    refine st23 _ ?_
    show SP p e below T23 (mkF m 38 #[vR a0, vR a1, .val .null] []) _
    exact X23'.returnOut hx Bd.returns (hb hby d32_38) hr
  · show Q32 Z a0 a1 uA uB h0 n0 _ T23.heap _
    rw [e23]
    exact ⟨rfl, N23, K23, E_a0_u24, U_a0_u25, F_a0_detailMessage_u26, Fw23⟩
theorem d31_0 : decode jdk_59_method_3_code 0 = .ok (.aload_n 0, 1) := by decide +kernel
theorem d31_1 : decode jdk_59_method_3_code 1 = .ok (.aload_n 1, 1) := by decide +kernel
theorem d31_2 : decode jdk_59_method_3_code 2 = .ok (.aload_n 2, 1) := by decide +kernel
theorem d31_3 : decode jdk_59_method_3_code 3 = .ok (.invokespecial 10, 3) := by decide +kernel
theorem pd_22 : parseMethodDescriptor "(Ljava/lang/String;Ljava/lang/Throwable;)V" = some ⟨[(.object "java/lang/String"), (.object "java/lang/Throwable")], none⟩ := by decide +kernel
theorem d31_6 : decode jdk_59_method_3_code 6 = .ok (.return_, 1) := by decide +kernel
theorem pn_java_lang_Exception : plainName "java/lang/Exception" = true := by first | (simp [plainName, overriddenIn]; done) | decide +kernel
theorem ef_rm31 (m : MethodId) (a0 : Addr) (a1 : Addr) : entryFrame m #[(.ref a0), (.ref a1), .null] 3 = mkF m 0 #[vR a0, vR a1, .val .null] [] := by first | (simp [entryFrame, mkF, argsToLocals, Value.category]; done) | rfl
def Q31 (Z : State) (a0 : Addr) (a1 : Addr) (uA : Addr) (uB : Addr) (h0 : Heap) (n0 : Nat) (v : Option Value) (h : Heap) (L : List Loc) : Prop := v = none ∧ Fr n0 L ∧ Keep h0 h [a0] ∧ Exa Z h a0 cSX ∧ Unt h a0 ∧ Fld Z h a0 cTN "detailMessage" "Ljava/lang/String;" (.ref a1) ∧ Fld Z h a0 cTN "cause" "Ljava/lang/Throwable;" .null
set_option maxRecDepth 65536 in
set_option maxHeartbeats 40000000 in
theorem rm31 (l : Launch) (Z : State) (az : Array Value) (hw : HW Z az) (ws : List Jvm.Cond) (a0 : Addr) (a1 : Addr) (uA : Addr) (uB : Addr) (h0 : Heap) (n0 : Nat) (Z0 : n0 ≤ h0.size) (E_a0 : Exa Z h0 a0 cSX) (F_cause_a0 : Fld Z h0 a0 cTN "cause" "Ljava/lang/Throwable;" .null) (F_stackTrace_a0 : Fld Z h0 a0 cTN "stackTrace" "[Ljava/lang/StackTraceElement;" .null) (F_suppressedExceptions_a0 : Fld Z h0 a0 cTN "suppressedExceptions" "Ljava/util/List;" .null) (F_detailMessage_a0 : Fld Z h0 a0 cTN "detailMessage" "Ljava/lang/String;" .null) (F_backtrace_a0 : Fld Z h0 a0 cTN "backtrace" "Ljava/lang/Object;" .null) (F_depth_a0 : Fld Z h0 a0 cTN "depth" "I" (.int (0 : Int32))) (T_x : ThS Z h0) (Ut_a0 : Unt h0 a0) (S_UNASSIGNED_STACK : Sta Z h0 cTN "UNASSIGNED_STACK" "[Ljava/lang/StackTraceElement;" (.ref uA)) (S_SUPPRESSED_SENTINEL : Sta Z h0 cTN "SUPPRESSED_SENTINEL" "Ljava/util/List;" (.ref uB)) (g_a0 : n0 ≤ a0) (hc12 : l.stackTraces = true) :
    MetFree l (⟨"java/lang/Exception", "<init>", "(Ljava/lang/String;Ljava/lang/Throwable;)V"⟩ : MethodName) (head1 (Jvm.Cond.code (⟨"java/lang/Exception", "<init>", "(Ljava/lang/String;Ljava/lang/Throwable;)V"⟩ : MethodName) jdk_59_method_3_code 3 none :: ws) (⟨4, 1, 2752, 56⟩ : Room)) (fun a U => a = #[(.ref a0), (.ref a1), .null] ∧ Z.Warmed39 U.vm ∧ U.heap = h0) (fun _ _ bl s _ => s.vm.MethodsKnown ∧ s.vm.FramesKnown bl) (fun _ U o U' => ∃ v L, o = .returned v ∧ Q31 Z a0 a1 uA uB h0 n0 v U'.heap L ∧ FrameEnd U o U' L (⟨4, 1, 2752, 56⟩ : Room).cells (⟨4, 1, 2752, 56⟩ : Room).slots) := by
  refine MetFree.of_bodySF (plainFor_of_name pn_java_lang_Exception) hisR ?_
  intro p e s m args below meth c s₁ Bd hml0 hP hK
  obtain ⟨rfl, hZ, hh⟩ := hP
  have hx := Bd.exec
  have hby := Bd.bytes
  have hml : c.maxLocals = 3 := hml0
  have hown : s.vm.findClass "java/lang/Exception" = some m.cls := findClass_of_methodNamed Bd.named
  have hnm := (name_of_methodNamed Bd.named Bd.method).1
  have X0 : Stand p l e (⟨4, 1, 2752, 56⟩ : Room) s m #[(.ref a0), (.ref a1), .null] below meth c s₁ [] 0 0 := Stand.of_body Bd
  have e0 : s₁.heap = h0 := by rw [← hh, Bd.state]; rfl
  have N0 := Fr.nil n0
  have pre0 : ∀ t, Steps p.tables e below (s₁.setTop (mkF m 0 #[vR a0, vR a1, .val .null] [])) t → Steps p.tables e below (s₁.setTop (entryFrame m #[(.ref a0), (.ref a1), .null] 3)) t := fun t k => castTop (ef_rm31 m a0 a1) k
  obtain ⟨hTK, hBelow⟩ := hK
  obtain ⟨_, _, ⟨T1, L1, k1', n1'⟩, -, X1, ⟨Lc1, hQ1, l1, y1, z1⟩, st1⟩ := X0.specialBack hx (y := (⟨cTN, "<init>", "(Ljava/lang/String;Ljava/lang/Throwable;)V"⟩ : MethodName)) rfl hown (mvT hZ (w179 hw)) (mvT hZ (w180 hw)) (mvT hZ (w184 hw)) (by decide) (backOfKL (W := 0) (rm32 l Z az hw [] a0 a1 uA uB h0 n0 Z0 E_a0 F_cause_a0 F_stackTrace_a0 F_suppressedExceptions_a0 F_detailMessage_a0 F_backtrace_a0 F_depth_a0 T_x Ut_a0 S_UNASSIGNED_STACK S_SUPPRESSED_SENTINEL g_a0 hc12) hZ (w184 hw) (w183 hw) (by decide) (by decide) hTK hBelow) (g := (mkF m 3 #[vR a0, vR a1, .val .null] [.null, (.ref a1), (.ref a0)])) rfl (by rw [hml]; rfl) (Steps.refl _) (a := a0) (argsL := [(.ref a1), .null]) (rest := []) (lenOf pd_22 rfl) rfl (Nat.le_of_eq rfl) (hb hby d31_3) (fun _ _ => ⟨rfl, e0, (by decide : 0 + 1 ≤ _), (by decide : 0 + 2752 ≤ _)⟩)
  dsimp only [Pt.U, Pt.locs, Pt.cells, Pt.slots] at X1 l1 y1 z1 st1 hQ1
  subst l1 y1 z1
  obtain ⟨rfl, N1q, kq1, pf1_0, pf1_1, pf1_2, pf1_3⟩ := hQ1
  obtain ⟨Lg1, X1', N1⟩ := own_gen X1 (Fr.app N0 N1q)
  have K1 : Keep h0 T1.heap [a0] := (Keep.refl h0 [a0]).trans kq1 (allS (Or.inl (mg 0 rfl)) all0)
  have Z1 : n0 ≤ T1.heap.size := Nat.le_trans Z0 kq1.1
  obtain ⟨fs, hr, hrun, hended, hW, hsame⟩ := X1'.leave (v := none) (fun _ => rfl)
  refine ⟨_, _, pre0 _ ?_, hrun, hended, _, _, rfl, ?_, ⟨_, rfl⟩, hW, hsame.mono (by decide) (by decide)⟩
  · show SP p e below s₁ (mkF m 0 #[vR a0, vR a1, .val .null] []) _
    refine XS.aloadN X0.here hx rfl (hb hby d31_0) rfl rfl ?_
    refine XS.aloadN X0.here hx rfl (hb hby d31_1) rfl rfl ?_
    refine XS.aloadN X0.here hx rfl (hb hby d31_2) rfl rfl ?_
    show SP p e below s₁ (mkF m 3 #[vR a0, vR a1, .val .null] [.null, (.ref a1), (.ref a0)]) _
    refine st1.trans ?_
    show SP p e below T1 (mkF m 6 #[vR a0, vR a1, .val .null] []) _
    exact X1'.returnOut hx Bd.returns (hb hby d31_6) hr
  · show Q31 Z a0 a1 uA uB h0 n0 _ T1.heap _
    exact ⟨rfl, N1, K1, pf1_0, pf1_1, pf1_2, pf1_3⟩
theorem d30_0 : decode jdk_58_method_3_code 0 = .ok (.aload_n 0, 1) := by decide +kernel
theorem d30_1 : decode jdk_58_method_3_code 1 = .ok (.aload_n 1, 1) := by decide +kernel
theorem d30_2 : decode jdk_58_method_3_code 2 = .ok (.aload_n 2, 1) := by decide +kernel
theorem d30_3 : decode jdk_58_method_3_code 3 = .ok (.invokespecial 10, 3) := by decide +kernel
theorem d30_6 : decode jdk_58_method_3_code 6 = .ok (.return_, 1) := by decide +kernel
theorem pn_java_lang_RuntimeException : plainName "java/lang/RuntimeException" = true := by first | (simp [plainName, overriddenIn]; done) | decide +kernel
theorem ef_rm30 (m : MethodId) (a0 : Addr) (a1 : Addr) : entryFrame m #[(.ref a0), (.ref a1), .null] 3 = mkF m 0 #[vR a0, vR a1, .val .null] [] := by first | (simp [entryFrame, mkF, argsToLocals, Value.category]; done) | rfl
def Q30 (Z : State) (a0 : Addr) (a1 : Addr) (uA : Addr) (uB : Addr) (h0 : Heap) (n0 : Nat) (v : Option Value) (h : Heap) (L : List Loc) : Prop := v = none ∧ Fr n0 L ∧ Keep h0 h [a0] ∧ Exa Z h a0 cSX ∧ Unt h a0 ∧ Fld Z h a0 cTN "detailMessage" "Ljava/lang/String;" (.ref a1) ∧ Fld Z h a0 cTN "cause" "Ljava/lang/Throwable;" .null
set_option maxRecDepth 65536 in
set_option maxHeartbeats 40000000 in
theorem rm30 (l : Launch) (Z : State) (az : Array Value) (hw : HW Z az) (ws : List Jvm.Cond) (a0 : Addr) (a1 : Addr) (uA : Addr) (uB : Addr) (h0 : Heap) (n0 : Nat) (Z0 : n0 ≤ h0.size) (E_a0 : Exa Z h0 a0 cSX) (F_cause_a0 : Fld Z h0 a0 cTN "cause" "Ljava/lang/Throwable;" .null) (F_stackTrace_a0 : Fld Z h0 a0 cTN "stackTrace" "[Ljava/lang/StackTraceElement;" .null) (F_suppressedExceptions_a0 : Fld Z h0 a0 cTN "suppressedExceptions" "Ljava/util/List;" .null) (F_detailMessage_a0 : Fld Z h0 a0 cTN "detailMessage" "Ljava/lang/String;" .null) (F_backtrace_a0 : Fld Z h0 a0 cTN "backtrace" "Ljava/lang/Object;" .null) (F_depth_a0 : Fld Z h0 a0 cTN "depth" "I" (.int (0 : Int32))) (T_x : ThS Z h0) (Ut_a0 : Unt h0 a0) (S_UNASSIGNED_STACK : Sta Z h0 cTN "UNASSIGNED_STACK" "[Ljava/lang/StackTraceElement;" (.ref uA)) (S_SUPPRESSED_SENTINEL : Sta Z h0 cTN "SUPPRESSED_SENTINEL" "Ljava/util/List;" (.ref uB)) (g_a0 : n0 ≤ a0) (hc12 : l.stackTraces = true) :
    MetFree l (⟨"java/lang/RuntimeException", "<init>", "(Ljava/lang/String;Ljava/lang/Throwable;)V"⟩ : MethodName) (head1 (Jvm.Cond.code (⟨"java/lang/RuntimeException", "<init>", "(Ljava/lang/String;Ljava/lang/Throwable;)V"⟩ : MethodName) jdk_58_method_3_code 3 none :: ws) (⟨5, 1, 2752, 70⟩ : Room)) (fun a U => a = #[(.ref a0), (.ref a1), .null] ∧ Z.Warmed39 U.vm ∧ U.heap = h0) (fun _ _ bl s _ => s.vm.MethodsKnown ∧ s.vm.FramesKnown bl) (fun _ U o U' => ∃ v L, o = .returned v ∧ Q30 Z a0 a1 uA uB h0 n0 v U'.heap L ∧ FrameEnd U o U' L (⟨5, 1, 2752, 70⟩ : Room).cells (⟨5, 1, 2752, 70⟩ : Room).slots) := by
  refine MetFree.of_bodySF (plainFor_of_name pn_java_lang_RuntimeException) hisR ?_
  intro p e s m args below meth c s₁ Bd hml0 hP hK
  obtain ⟨rfl, hZ, hh⟩ := hP
  have hx := Bd.exec
  have hby := Bd.bytes
  have hml : c.maxLocals = 3 := hml0
  have hown : s.vm.findClass "java/lang/RuntimeException" = some m.cls := findClass_of_methodNamed Bd.named
  have hnm := (name_of_methodNamed Bd.named Bd.method).1
  have X0 : Stand p l e (⟨5, 1, 2752, 70⟩ : Room) s m #[(.ref a0), (.ref a1), .null] below meth c s₁ [] 0 0 := Stand.of_body Bd
  have e0 : s₁.heap = h0 := by rw [← hh, Bd.state]; rfl
  have N0 := Fr.nil n0
  have pre0 : ∀ t, Steps p.tables e below (s₁.setTop (mkF m 0 #[vR a0, vR a1, .val .null] [])) t → Steps p.tables e below (s₁.setTop (entryFrame m #[(.ref a0), (.ref a1), .null] 3)) t := fun t k => castTop (ef_rm30 m a0 a1) k
  obtain ⟨hTK, hBelow⟩ := hK
  obtain ⟨_, _, ⟨T1, L1, k1', n1'⟩, -, X1, ⟨Lc1, hQ1, l1, y1, z1⟩, st1⟩ := X0.specialBack hx (y := (⟨"java/lang/Exception", "<init>", "(Ljava/lang/String;Ljava/lang/Throwable;)V"⟩ : MethodName)) rfl hown (mvT hZ (w173 hw)) (mvT hZ (w174 hw)) (mvT hZ (w178 hw)) (by decide) (backOfKL (W := 0) (rm31 l Z az hw [] a0 a1 uA uB h0 n0 Z0 E_a0 F_cause_a0 F_stackTrace_a0 F_suppressedExceptions_a0 F_detailMessage_a0 F_backtrace_a0 F_depth_a0 T_x Ut_a0 S_UNASSIGNED_STACK S_SUPPRESSED_SENTINEL g_a0 hc12) hZ (w178 hw) (w177 hw) (by decide) (by decide) hTK hBelow) (g := (mkF m 3 #[vR a0, vR a1, .val .null] [.null, (.ref a1), (.ref a0)])) rfl (by rw [hml]; rfl) (Steps.refl _) (a := a0) (argsL := [(.ref a1), .null]) (rest := []) (lenOf pd_22 rfl) rfl (Nat.le_of_eq rfl) (hb hby d30_3) (fun _ _ => ⟨rfl, e0, (by decide : 0 + 1 ≤ _), (by decide : 0 + 2752 ≤ _)⟩)
  dsimp only [Pt.U, Pt.locs, Pt.cells, Pt.slots] at X1 l1 y1 z1 st1 hQ1
  subst l1 y1 z1
  obtain ⟨rfl, N1q, kq1, pf1_0, pf1_1, pf1_2, pf1_3⟩ := hQ1
  obtain ⟨Lg1, X1', N1⟩ := own_gen X1 (Fr.app N0 N1q)
  have K1 : Keep h0 T1.heap [a0] := (Keep.refl h0 [a0]).trans kq1 (allS (Or.inl (mg 0 rfl)) all0)
  have Z1 : n0 ≤ T1.heap.size := Nat.le_trans Z0 kq1.1
  obtain ⟨fs, hr, hrun, hended, hW, hsame⟩ := X1'.leave (v := none) (fun _ => rfl)
  refine ⟨_, _, pre0 _ ?_, hrun, hended, _, _, rfl, ?_, ⟨_, rfl⟩, hW, hsame.mono (by decide) (by decide)⟩
  · show SP p e below s₁ (mkF m 0 #[vR a0, vR a1, .val .null] []) _
    refine XS.aloadN X0.here hx rfl (hb hby d30_0) rfl rfl ?_
    refine XS.aloadN X0.here hx rfl (hb hby d30_1) rfl rfl ?_
    refine XS.aloadN X0.here hx rfl (hb hby d30_2) rfl rfl ?_
    show SP p e below s₁ (mkF m 3 #[vR a0, vR a1, .val .null] [.null, (.ref a1), (.ref a0)]) _
    refine st1.trans ?_
    show SP p e below T1 (mkF m 6 #[vR a0, vR a1, .val .null] []) _
    exact X1'.returnOut hx Bd.returns (hb hby d30_6) hr
  · show Q30 Z a0 a1 uA uB h0 n0 _ T1.heap _
    exact ⟨rfl, N1, K1, pf1_0, pf1_1, pf1_2, pf1_3⟩
theorem d29_0 : decode prog_19_method_1_code 0 = .ok (.aload_n 0, 1) := by decide +kernel
theorem d29_1 : decode prog_19_method_1_code 1 = .ok (.aload_n 1, 1) := by decide +kernel
theorem d29_2 : decode prog_19_method_1_code 2 = .ok (.aload_n 2, 1) := by decide +kernel
theorem d29_3 : decode prog_19_method_1_code 3 = .ok (.invokespecial 1, 3) := by decide +kernel
theorem d29_6 : decode prog_19_method_1_code 6 = .ok (.return_, 1) := by decide +kernel
theorem pn_com_example_key_lease_keylease_store_StoreException : plainName "com/example/key_lease/keylease/store/StoreException" = true := by first | (simp [plainName, overriddenIn]; done) | decide +kernel
theorem ef_rm29 (m : MethodId) (a0 : Addr) (a1 : Addr) : entryFrame m #[(.ref a0), (.ref a1), .null] 3 = mkF m 0 #[vR a0, vR a1, .val .null] [] := by first | (simp [entryFrame, mkF, argsToLocals, Value.category]; done) | rfl
def Q29 (Z : State) (a0 : Addr) (a1 : Addr) (uA : Addr) (uB : Addr) (h0 : Heap) (n0 : Nat) (v : Option Value) (h : Heap) (L : List Loc) : Prop := v = none ∧ Fr n0 L ∧ Keep h0 h [a0] ∧ Exa Z h a0 cSX ∧ Unt h a0 ∧ Fld Z h a0 cTN "detailMessage" "Ljava/lang/String;" (.ref a1) ∧ Fld Z h a0 cTN "cause" "Ljava/lang/Throwable;" .null
set_option maxRecDepth 65536 in
set_option maxHeartbeats 40000000 in
theorem rm29 (l : Launch) (Z : State) (az : Array Value) (hw : HW Z az) (ws : List Jvm.Cond) (a0 : Addr) (a1 : Addr) (uA : Addr) (uB : Addr) (h0 : Heap) (n0 : Nat) (Z0 : n0 ≤ h0.size) (E_a0 : Exa Z h0 a0 cSX) (F_cause_a0 : Fld Z h0 a0 cTN "cause" "Ljava/lang/Throwable;" .null) (F_stackTrace_a0 : Fld Z h0 a0 cTN "stackTrace" "[Ljava/lang/StackTraceElement;" .null) (F_suppressedExceptions_a0 : Fld Z h0 a0 cTN "suppressedExceptions" "Ljava/util/List;" .null) (F_detailMessage_a0 : Fld Z h0 a0 cTN "detailMessage" "Ljava/lang/String;" .null) (F_backtrace_a0 : Fld Z h0 a0 cTN "backtrace" "Ljava/lang/Object;" .null) (F_depth_a0 : Fld Z h0 a0 cTN "depth" "I" (.int (0 : Int32))) (T_x : ThS Z h0) (Ut_a0 : Unt h0 a0) (S_UNASSIGNED_STACK : Sta Z h0 cTN "UNASSIGNED_STACK" "[Ljava/lang/StackTraceElement;" (.ref uA)) (S_SUPPRESSED_SENTINEL : Sta Z h0 cTN "SUPPRESSED_SENTINEL" "Ljava/util/List;" (.ref uB)) (g_a0 : n0 ≤ a0) (hc12 : l.stackTraces = true) :
    MetFree l (⟨cSX, "<init>", "(Ljava/lang/String;Ljava/lang/Throwable;)V"⟩ : MethodName) (head1 (Jvm.Cond.code (⟨cSX, "<init>", "(Ljava/lang/String;Ljava/lang/Throwable;)V"⟩ : MethodName) prog_19_method_1_code 3 none :: ws) (⟨6, 1, 2752, 84⟩ : Room)) (fun a U => a = #[(.ref a0), (.ref a1), .null] ∧ Z.Warmed39 U.vm ∧ U.heap = h0) (fun _ _ bl s _ => s.vm.MethodsKnown ∧ s.vm.FramesKnown bl) (fun _ U o U' => ∃ v L, o = .returned v ∧ Q29 Z a0 a1 uA uB h0 n0 v U'.heap L ∧ FrameEnd U o U' L (⟨6, 1, 2752, 84⟩ : Room).cells (⟨6, 1, 2752, 84⟩ : Room).slots) := by
  refine MetFree.of_bodySF (plainFor_of_name pn_com_example_key_lease_keylease_store_StoreException) hisR ?_
  intro p e s m args below meth c s₁ Bd hml0 hP hK
  obtain ⟨rfl, hZ, hh⟩ := hP
  have hx := Bd.exec
  have hby := Bd.bytes
  have hml : c.maxLocals = 3 := hml0
  have hown : s.vm.findClass cSX = some m.cls := findClass_of_methodNamed Bd.named
  have hnm := (name_of_methodNamed Bd.named Bd.method).1
  have X0 : Stand p l e (⟨6, 1, 2752, 84⟩ : Room) s m #[(.ref a0), (.ref a1), .null] below meth c s₁ [] 0 0 := Stand.of_body Bd
  have e0 : s₁.heap = h0 := by rw [← hh, Bd.state]; rfl
  have N0 := Fr.nil n0
  have pre0 : ∀ t, Steps p.tables e below (s₁.setTop (mkF m 0 #[vR a0, vR a1, .val .null] [])) t → Steps p.tables e below (s₁.setTop (entryFrame m #[(.ref a0), (.ref a1), .null] 3)) t := fun t k => castTop (ef_rm29 m a0 a1) k
  obtain ⟨hTK, hBelow⟩ := hK
  obtain ⟨_, _, ⟨T1, L1, k1', n1'⟩, -, X1, ⟨Lc1, hQ1, l1, y1, z1⟩, st1⟩ := X0.specialBack hx (y := (⟨"java/lang/RuntimeException", "<init>", "(Ljava/lang/String;Ljava/lang/Throwable;)V"⟩ : MethodName)) rfl hown (mvT hZ (w168 hw)) (mvT hZ (w169 hw)) (mvT hZ (w172 hw)) (by decide) (backOfKL (W := 0) (rm30 l Z az hw [] a0 a1 uA uB h0 n0 Z0 E_a0 F_cause_a0 F_stackTrace_a0 F_suppressedExceptions_a0 F_detailMessage_a0 F_backtrace_a0 F_depth_a0 T_x Ut_a0 S_UNASSIGNED_STACK S_SUPPRESSED_SENTINEL g_a0 hc12) hZ (w172 hw) (w171 hw) (by decide) (by decide) hTK hBelow) (g := (mkF m 3 #[vR a0, vR a1, .val .null] [.null, (.ref a1), (.ref a0)])) rfl (by rw [hml]; rfl) (Steps.refl _) (a := a0) (argsL := [(.ref a1), .null]) (rest := []) (lenOf pd_22 rfl) rfl (Nat.le_of_eq rfl) (hb hby d29_3) (fun _ _ => ⟨rfl, e0, (by decide : 0 + 1 ≤ _), (by decide : 0 + 2752 ≤ _)⟩)
  dsimp only [Pt.U, Pt.locs, Pt.cells, Pt.slots] at X1 l1 y1 z1 st1 hQ1
  subst l1 y1 z1
  obtain ⟨rfl, N1q, kq1, pf1_0, pf1_1, pf1_2, pf1_3⟩ := hQ1
  obtain ⟨Lg1, X1', N1⟩ := own_gen X1 (Fr.app N0 N1q)
  have K1 : Keep h0 T1.heap [a0] := (Keep.refl h0 [a0]).trans kq1 (allS (Or.inl (mg 0 rfl)) all0)
  have Z1 : n0 ≤ T1.heap.size := Nat.le_trans Z0 kq1.1
  obtain ⟨fs, hr, hrun, hended, hW, hsame⟩ := X1'.leave (v := none) (fun _ => rfl)
  refine ⟨_, _, pre0 _ ?_, hrun, hended, _, _, rfl, ?_, ⟨_, rfl⟩, hW, hsame.mono (by decide) (by decide)⟩
  · show SP p e below s₁ (mkF m 0 #[vR a0, vR a1, .val .null] []) _
    refine XS.aloadN X0.here hx rfl (hb hby d29_0) rfl rfl ?_
    refine XS.aloadN X0.here hx rfl (hb hby d29_1) rfl rfl ?_
    refine XS.aloadN X0.here hx rfl (hb hby d29_2) rfl rfl ?_
    show SP p e below s₁ (mkF m 3 #[vR a0, vR a1, .val .null] [.null, (.ref a1), (.ref a0)]) _
    refine st1.trans ?_
    show SP p e below T1 (mkF m 6 #[vR a0, vR a1, .val .null] []) _
    exact X1'.returnOut hx Bd.returns (hb hby d29_6) hr
  · show Q29 Z a0 a1 uA uB h0 n0 _ T1.heap _
    exact ⟨rfl, N1, K1, pf1_0, pf1_1, pf1_2, pf1_3⟩
theorem d5_0 : decode prog_20_method_2_code 0 = .ok (.new 27, 3) := by decide +kernel
theorem d5_3 : decode prog_20_method_2_code 3 = .ok (.dup, 1) := by decide +kernel
theorem d5_4 : decode prog_20_method_2_code 4 = .ok (.new 29, 3) := by decide +kernel
theorem d5_7 : decode prog_20_method_2_code 7 = .ok (.dup, 1) := by decide +kernel
theorem d5_8 : decode prog_20_method_2_code 8 = .ok (.invokespecial 31, 3) := by decide +kernel
theorem pd_23 : parseMethodDescriptor "()V" = some ⟨[], none⟩ := by decide +kernel
theorem d5_11 : decode prog_20_method_2_code 11 = .ok (.aload_n 0, 1) := by decide +kernel
theorem d5_12 : decode prog_20_method_2_code 12 = .ok (.invokevirtual 32, 3) := by decide +kernel
theorem pd_24 : parseMethodDescriptor "(Ljava/lang/String;)Ljava/lang/StringBuilder;" = some ⟨[(.object "java/lang/String")], some (.object "java/lang/StringBuilder")⟩ := by decide +kernel
theorem d5_15 : decode prog_20_method_2_code 15 = .ok (.ldc 36, 2) := by decide +kernel
theorem d5_17 : decode prog_20_method_2_code 17 = .ok (.invokevirtual 32, 3) := by decide +kernel
theorem d5_20 : decode prog_20_method_2_code 20 = .ok (.aload_n 1, 1) := by decide +kernel
theorem d5_21 : decode prog_20_method_2_code 21 = .ok (.invokevirtual 32, 3) := by decide +kernel
theorem d5_24 : decode prog_20_method_2_code 24 = .ok (.invokevirtual 38, 3) := by decide +kernel
theorem pd_25 : parseMethodDescriptor "()Ljava/lang/String;" = some ⟨[], some (.object "java/lang/String")⟩ := by decide +kernel
theorem d5_27 : decode prog_20_method_2_code 27 = .ok (.aconst_null, 1) := by decide +kernel
theorem d5_28 : decode prog_20_method_2_code 28 = .ok (.invokespecial 42, 3) := by decide +kernel
theorem d5_31 : decode prog_20_method_2_code 31 = .ok (.areturn, 1) := by decide +kernel
theorem pn_com_example_key_lease_keylease_store_WatchedName : plainName "com/example/key_lease/keylease/store/WatchedName" = true := by first | (simp [plainName, overriddenIn]; done) | decide +kernel
theorem ef_rm5A (m : MethodId) (a0 : Addr) (a1 : Addr) : entryFrame m #[(.ref a0), (.ref a1)] 2 = mkF m 0 #[vR a0, vR a1] [] := by first | (simp [entryFrame, mkF, argsToLocals, Value.category]; done) | rfl
def Q5A (Z : State) (a0 : Addr) (a1 : Addr) (sC : Int32) (aS : Addr) (kaS : ClassId) (ls : Int32) (fS : Nat → Value) (aT : Addr) (kaT : ClassId) (ln : Int32) (fT : Nat → Value) (uA : Addr) (uB : Addr) (h0 : Heap) (n0 : Nat) (v : Option Value) (h : Heap) (L : List Loc) : Prop := ∃ r0 : Addr, ∃ r1 : Addr, ∃ r2 : Addr, ∃ rk0 : ClassId, v = some (.ref r0) ∧ Fr n0 L ∧ h0.size ≤ r0 ∧ r0 < r1 ∧ r1 < r2 ∧ Keep h0 h [] ∧ Exa Z h r0 cSX ∧ Unt h r0 ∧ Fld Z h r0 cTN "detailMessage" "Ljava/lang/String;" (.ref r1) ∧ Fld Z h r0 cTN "cause" "Ljava/lang/Throwable;" .null ∧ Exa Z h r1 cST ∧ Fld Z h r1 cST "value" "[B" (.ref r2) ∧ Fld Z h r1 cST "coder" "B" (.int (0 : Int32)) ∧ Exa Z h r2 "[B" ∧ own_Arf Z h r2 rk0 .byte (own_nca (((0 : Int32) + ls) + (35 : Int32)) (16 : Int32)) (own_cpf fT ((0 : Int32)).toNatClampNeg (own_cpf own_lit ((0 : Int32)).toNatClampNeg (own_cpf (own_cpf fS ((0 : Int32)).toNatClampNeg (fun _ => (.int (0 : Int32))) ((0 : Int32)).toNatClampNeg (ls).toNatClampNeg) ((0 : Int32)).toNatClampNeg (fun _ => (.int (0 : Int32))) ((0 : Int32)).toNatClampNeg ((16 : Int32)).toNatClampNeg) (((0 : Int32) + ls)).toNatClampNeg ((35 : Int32)).toNatClampNeg) ((((0 : Int32) + ls) + (35 : Int32))).toNatClampNeg (ln).toNatClampNeg)
set_option maxRecDepth 65536 in
set_option maxHeartbeats 40000000 in
theorem rm5A (l : Launch) (Z : State) (az : Array Value) (hw : HW Z az) (ws : List Jvm.Cond) (a0 : Addr) (a1 : Addr) (sC : Int32) (aS : Addr) (kaS : ClassId) (ls : Int32) (fS : Nat → Value) (aT : Addr) (kaT : ClassId) (ln : Int32) (fT : Nat → Value) (uA : Addr) (uB : Addr) (h0 : Heap) (n0 : Nat) (Z0 : n0 ≤ h0.size) (S_COMPACT_STRINGS : Sta Z h0 cST "COMPACT_STRINGS" "Z" (.int sC)) (hc1 : ¬ (sC = (0 : Int32))) (E_a0 : Exa Z h0 a0 cST) (F_coder_a0 : Fld Z h0 a0 cST "coder" "B" (.int (0 : Int32))) (F_value_a0 : Fld Z h0 a0 cST "value" "[B" (.ref aS)) (V_aS : own_Arf Z h0 aS kaS .byte ls fS) (E_aS : Exa Z h0 aS "[B") (E_a1 : Exa Z h0 a1 cST) (F_coder_a1 : Fld Z h0 a1 cST "coder" "B" (.int (0 : Int32))) (F_value_a1 : Fld Z h0 a1 cST "value" "[B" (.ref aT)) (V_aT : own_Arf Z h0 aT kaT .byte ln fT) (E_aT : Exa Z h0 aT "[B") (T_x : ThS Z h0) (S_UNASSIGNED_STACK : Sta Z h0 cTN "UNASSIGNED_STACK" "[Ljava/lang/StackTraceElement;" (.ref uA)) (S_SUPPRESSED_SENTINEL : Sta Z h0 cTN "SUPPRESSED_SENTINEL" "Ljava/util/List;" (.ref uB)) (hc15 : ¬ ((0 : Int32) < (((0 : Int32) + ls) - (16 : Int32)))) (hc16 : ¬ (ls < (0 : Int32))) (hc17 : ((0 : Int32)).toNatClampNeg + (ls).toNatClampNeg ≤ (ls).toNatClampNeg) (hc18 : ((0 : Int32)).toNatClampNeg + (ls).toNatClampNeg ≤ ((16 : Int32)).toNatClampNeg) (hc19 : (0 : Int32) < ((((0 : Int32) + ls) + (35 : Int32)) - (16 : Int32))) (hc20 : ¬ (((((0 : Int32) + ls) + (35 : Int32)) - (16 : Int32)) < ((16 : Int32) + (2 : Int32)))) (hc21 : (0 : Int32) < ((16 : Int32) + ((((0 : Int32) + ls) + (35 : Int32)) - (16 : Int32)))) (hc22 : ¬ ((2147483639 : Int32) < ((16 : Int32) + ((((0 : Int32) + ls) + (35 : Int32)) - (16 : Int32))))) (hc23 : ¬ (((16 : Int32) + ((((0 : Int32) + ls) + (35 : Int32)) - (16 : Int32))) = (2147483647 : Int32))) (hc24 : ¬ ((own_nca (((0 : Int32) + ls) + (35 : Int32)) (16 : Int32)) = (16 : Int32))) (hc25 : ¬ ((own_nca (((0 : Int32) + ls) + (35 : Int32)) (16 : Int32)) < (0 : Int32))) (hc26 : ((own_nca (((0 : Int32) + ls) + (35 : Int32)) (16 : Int32))).toNatClampNeg ≤ 80) (hc27 : ¬ ((own_nca (((0 : Int32) + ls) + (35 : Int32)) (16 : Int32)) < (16 : Int32))) (hc28 : ((0 : Int32)).toNatClampNeg + ((16 : Int32)).toNatClampNeg ≤ ((own_nca (((0 : Int32) + ls) + (35 : Int32)) (16 : Int32))).toNatClampNeg) (hc29 : ¬ (((0 : Int32) + ls) < (0 : Int32))) (hc30 : (((0 : Int32) + ls)).toNatClampNeg + ((35 : Int32)).toNatClampNeg ≤ ((own_nca (((0 : Int32) + ls) + (35 : Int32)) (16 : Int32))).toNatClampNeg) (hc31 : ¬ ((0 : Int32) < (((((0 : Int32) + ls) + (35 : Int32)) + ln) - (own_nca (((0 : Int32) + ls) + (35 : Int32)) (16 : Int32))))) (hc32 : ¬ ((((0 : Int32) + ls) + (35 : Int32)) < (0 : Int32))) (hc33 : ¬ (ln < (0 : Int32))) (hc34 : ((0 : Int32)).toNatClampNeg + (ln).toNatClampNeg ≤ (ln).toNatClampNeg) (hc35 : ((((0 : Int32) + ls) + (35 : Int32))).toNatClampNeg + (ln).toNatClampNeg ≤ ((own_nca (((0 : Int32) + ls) + (35 : Int32)) (16 : Int32))).toNatClampNeg) (hc36 : ((((0 : Int32) + ls) + (35 : Int32)) + ln) = (own_nca (((0 : Int32) + ls) + (35 : Int32)) (16 : Int32))) (hc37 : l.stackTraces = true) :
    MetFree l (⟨cWN, "closedStore", "(Ljava/lang/String;Ljava/lang/String;)Lcom/example/key_lease/keylease/store/StoreException;"⟩ : MethodName) (head1 (Jvm.Cond.code (⟨cWN, "closedStore", "(Ljava/lang/String;Ljava/lang/String;)Lcom/example/key_lease/keylease/store/StoreException;"⟩ : MethodName) prog_20_method_2_code 2 (some (.object cSX)) :: ws) (⟨7, 10, 3166, 99⟩ : Room)) (fun a U => a = #[(.ref a0), (.ref a1)] ∧ Z.Warmed39 U.vm ∧ U.heap = h0 ∧ CHv Z [(cWN, 36), (cLW, 46), (cST, 7)] U.vm h0) (fun _ _ bl s _ => s.vm.MethodsKnown ∧ s.vm.FramesKnown bl) (fun _ U o U' => ∃ v L, o = .returned v ∧ Q5A Z a0 a1 sC aS kaS ls fS aT kaT ln fT uA uB h0 n0 v U'.heap L ∧ CHr Z [(cWN, 36), (cLW, 46), (cST, 7)] U.vm U.heap U'.vm U'.heap ∧ ReturnedEndW U o U' L (⟨7, 10, 3166, 99⟩ : Room).cells (⟨7, 10, 3166, 99⟩ : Room).slots) := by
  refine MetFree.of_bodySF (plainFor_of_name pn_com_example_key_lease_keylease_store_WatchedName) hisR ?_
  intro p e s m args below meth c s₁ Bd hml0 hP hK
  obtain ⟨rfl, hZ, hh, hCH⟩ := hP
  have hx := Bd.exec
  have hby := Bd.bytes
  have hml : c.maxLocals = 2 := hml0
  have hown : s.vm.findClass cWN = some m.cls := findClass_of_methodNamed Bd.named
  have hnm := (name_of_methodNamed Bd.named Bd.method).1
  have X0 : Stand p l e (⟨7, 10, 3166, 99⟩ : Room) s m #[(.ref a0), (.ref a1)] below meth c s₁ [] 0 0 := Stand.of_body Bd
  have e0 : s₁.heap = h0 := by rw [← hh, Bd.state]; rfl
  have N0 := Fr.nil n0
  have pre0 : ∀ t, Steps p.tables e below (s₁.setTop (mkF m 0 #[vR a0, vR a1] [])) t → Steps p.tables e below (s₁.setTop (entryFrame m #[(.ref a0), (.ref a1)] 2)) t := fun t k => castTop (ef_rm5A m a0 a1) k
  have hZo := hZ
  have hEW : EW Z az [(cWN, 36), (cLW, 46), (cST, 7)] := (EW.cons (hw _ (mg 99 rfl)) (by decide) (EW.cons (hw _ (mg 238 rfl)) (by decide) (EW.cons (hw _ (mg 18 rfl)) (by decide) EW.nil)))
  obtain ⟨hTK, hBelow⟩ := hK
  have hS0 : s.Since s.vm 0 := (State.WarmedH.refl s).since 0
  have wS : ∀ a ∈ Bundle.stringAtoms, a.before az Z = true := fun d hd => by
    simp only [Bundle.stringAtoms, List.mem_cons, List.not_mem_nil, or_false] at hd
    rcases hd with rfl | rfl | rfl | rfl | rfl | rfl | rfl
    · exact (hw _ (mg 6 rfl))
    · exact (hw _ (mg 5 rfl))
    · exact (hw _ (mg 19 rfl))
    · exact (hw _ (mg 20 rfl))
    · exact (hw _ (mg 21 rfl))
    · exact (hw _ (mg 22 rfl))
    · exact (hw _ (mg 23 rfl))
  obtain ⟨T1, h1, X1, e1, E1, A1, D1, U1, st1⟩ := newO X0 hx hZ hown (w30 hw) (w31 hw) (w32 hw) e0 (g := (mkF m 0 #[vR a0, vR a1] [])) rfl (hb hby d5_0) (by decide) (by decide)
  obtain ⟨b1, g1⟩ : ∃ z, z = h0.size := ⟨_, rfl⟩
  rw [← g1] at A1 D1 st1 U1
  have g_b1 : n0 ≤ b1 := Nat.le_trans Z0 (Nat.le_of_eq g1.symm)
  have sz_b1 : h0.size ≤ b1 := Nat.le_trans (Nat.le_refl _) (Nat.le_of_eq g1.symm)
  have Z1 : n0 ≤ h1.size := Nat.le_trans Z0 E1.1
  have K1 : Keep h0 h1 [] := (Keep.refl h0 []).ext E1
  have Ut_b1 : Unt h1 b1 := U1
  have E_b1 := A1
  have F_cause_b1 : Fld Z h1 b1 cTN "cause" "Ljava/lang/Throwable;" .null := D1 (Or.inl (w187 hw)) (ty := (.object cTN)) (by decide)
  have F_stackTrace_b1 : Fld Z h1 b1 cTN "stackTrace" "[Ljava/lang/StackTraceElement;" .null := D1 (Or.inl (w190 hw)) (ty := (.array (.object "java/lang/StackTraceElement"))) (by decide)
  have F_suppressedExceptions_b1 : Fld Z h1 b1 cTN "suppressedExceptions" "Ljava/util/List;" .null := D1 (Or.inl (w193 hw)) (ty := (.object "java/util/List")) (by decide)
  have F_detailMessage_b1 : Fld Z h1 b1 cTN "detailMessage" "Ljava/lang/String;" .null := D1 (Or.inl (w217 hw)) (ty := (.object cST)) (by decide)
  have F_backtrace_b1 : Fld Z h1 b1 cTN "backtrace" "Ljava/lang/Object;" .null := D1 (Or.inl (w218 hw)) (ty := (.object "java/lang/Object")) (by decide)
  have F_depth_b1 : Fld Z h1 b1 cTN "depth" "I" (.int (0 : Int32)) := D1 (Or.inl (w219 hw)) (ty := .int) (by decide)
  obtain ⟨T2, h2, X2, e2, E2, A2, D2, -, st2⟩ := newO X1 hx hZ hown (w33 hw) (w34 hw) (w35 hw) e1 (g := (mkF m 4 #[vR a0, vR a1] [(.ref b1), (.ref b1)])) rfl (hb hby d5_4) (by decide) (by decide)
  obtain ⟨b2, g2⟩ : ∃ z, z = h1.size := ⟨_, rfl⟩
  rw [← g2] at A2 D2 st2
  have g_b2 : n0 ≤ b2 := Nat.le_trans Z1 (Nat.le_of_eq g2.symm)
  have sz_b2 : h0.size ≤ b2 := Nat.le_trans K1.1 (Nat.le_of_eq g2.symm)
  have Z2 : n0 ≤ h2.size := Nat.le_trans Z1 E2.1
  have K2 : Keep h0 h2 [] := K1.ext E2
  have E_b2 := A2
  have F_value_b2 : Fld Z h2 b2 cAB "value" "[B" .null := D2 (Or.inl (w48 hw)) (ty := (.array .byte)) (by decide)
  have F_coder_b2 : Fld Z h2 b2 cAB "coder" "B" (.int (0 : Int32)) := D2 (Or.inl (w50 hw)) (ty := .byte) (by decide)
  have F_count_b2 : Fld Z h2 b2 cAB "count" "I" (.int (0 : Int32)) := D2 (Or.inl (w73 hw)) (ty := .int) (by decide)
  have S_String_COMPACT_STRINGS_u4 : Sta Z h2 cST "COMPACT_STRINGS" "Z" (.int sC) := ((S_COMPACT_STRINGS.ext E1).ext E2)
  obtain ⟨_, _, ⟨T3, L3, k3', n3'⟩, -, X3, ⟨Lc3, hQ3, l3, y3, z3⟩, st3⟩ := X2.specialBack hx (y := (⟨cSB, "<init>", "()V"⟩ : MethodName)) rfl hown (mvT hZ (w36 hw)) (mvT hZ (w37 hw)) (mvT hZ (w38 hw)) (by decide) (backOf (W := 3) (rm6 l Z az hw [] b2 sC h2 n0 Z2 S_String_COMPACT_STRINGS_u4 hc1 E_b2 F_value_b2 F_coder_b2 F_count_b2 g_b2) hZ (w38 hw) (w35 hw) (by decide) (by decide)) (g := (mkF m 8 #[vR a0, vR a1] [(.ref b2), (.ref b2), (.ref b1), (.ref b1)])) rfl (by rw [hml]; rfl) (Steps.refl _) (a := b2) (argsL := []) (rest := [(.ref b2), (.ref b1), (.ref b1)]) (lenOf pd_23 rfl) rfl (Nat.le_of_eq rfl) (hb hby d5_8) (fun _ _ => ⟨rfl, e2, (by decide : 2 + 1 ≤ _), (by decide : 10 + 16 ≤ _)⟩)
  dsimp only [Pt.U, Pt.locs, Pt.cells, Pt.slots] at X3 l3 y3 z3 st3 hQ3
  subst l3 y3 z3
  obtain ⟨b3_0, kk3_0, rfl, N3q, s3_0, kq3, pf3_0, pf3_1, pf3_2, pf3_3, pf3_4, pf3_5⟩ := hQ3
  obtain ⟨Lg3, X3', N3⟩ := own_gen X3 (Fr.app N0 N3q)
  have g_b3_0 : n0 ≤ b3_0 := Nat.le_trans Z2 s3_0
  have sz_b3_0 : h0.size ≤ b3_0 := Nat.le_trans K2.1 s3_0
  have K3 : Keep h0 T3.heap [] := K2.trans kq3 (allS (Or.inr sz_b2) all0)
  have Z3 : n0 ≤ T3.heap.size := Nat.le_trans Z2 kq3.1
  have S_String_COMPACT_STRINGS_u6 : Sta Z T3.heap cST "COMPACT_STRINGS" "Z" (.int sC) := (own_Sta S_String_COMPACT_STRINGS_u4 kq3 (allS (P := fun x => ∀ cell : Cell, _ → cell.vm.isStatics = false) E_b2.nostat (fun _ m => nomatch m)))
  have E_a0_u7 : Exa Z T3.heap a0 cST := (((E_a0.ext E1).ext E2).keep kq3)
  have ne_a0_b2 : a0 ≠ b2 := own_ne (Nat.lt_of_lt_of_le (E_a0.ext E1).lt (Nat.le_of_eq g2.symm))
  have F_a0_coder_u8 : Fld Z T3.heap a0 cST "coder" "B" (.int (0 : Int32)) := (((F_coder_a0.ext E1).ext E2).keep kq3 (ninS ne_a0_b2 nin0))
  have F_a0_value_u9 : Fld Z T3.heap a0 cST "value" "[B" (.ref aS) := (((F_value_a0.ext E1).ext E2).keep kq3 (ninS ne_a0_b2 nin0))
  have ne_aS_b2 : aS ≠ b2 := own_ne (Nat.lt_of_lt_of_le (E_aS.ext E1).lt (Nat.le_of_eq g2.symm))
  have V_aS_u10 : own_Arf Z T3.heap aS kaS .byte ls fS := (((V_aS.ext E1).ext E2).keep kq3 (ninS ne_aS_b2 nin0))
  have E_aS_u11 : Exa Z T3.heap aS "[B" := (((E_aS.ext E1).ext E2).keep kq3)
  obtain ⟨cq5, kq5, q5a, q5b, q5c⟩ := isOf hZ rfl pf3_0
  obtain ⟨_, _, ⟨T5, L5, k5', n5'⟩, -, X5, ⟨Lc5, hQ5, l5, y5, z5⟩, st5⟩ := X3'.virtualBack hx (y := (⟨cSB, "append", "(Ljava/lang/String;)Ljava/lang/StringBuilder;"⟩ : MethodName)) (z := (⟨cSB, "append", "(Ljava/lang/String;)Ljava/lang/StringBuilder;"⟩ : MethodName)) hown (mvT hZ (w51 hw)) (mvT hZ (w52 hw)) (notFace_of_selects (args := #[]) (mvT hZ (w54 hw))) (mvT hZ (w54 hw)) (mvT hZ (w53 hw)) (by decide) (backOf (W := 2) (rm8F l Z az hw [] b2 a0 sC b3_0 kk3_0 (16 : Int32) (fun _ => (.int (0 : Int32))) (0 : Int32) aS kaS ls fS T3.heap n0 Z3 S_String_COMPACT_STRINGS_u6 hc1 pf3_0 pf3_1 pf3_2 pf3_5 pf3_4 pf3_3 E_a0_u7 F_a0_coder_u8 F_a0_value_u9 V_aS_u10 E_aS_u11 hc15 (by decide) hc16 hc17 hc18 g_b3_0 g_b2) hZ (w55 hw) (w35 hw) (by decide) (by decide)) q5a q5c (g := (mkF m 12 #[vR a0, vR a1] [(.ref a0), (.ref b2), (.ref b1), (.ref b1)])) rfl (by rw [hml]; rfl) (Steps.refl _) (argsL := [(.ref a0)]) (rest := [(.ref b1), (.ref b1)]) (lenOf pd_24 rfl) rfl (Nat.le_of_eq rfl) (hb hby d5_12) (fun _ _ => ⟨rfl, rfl, (by decide : 3 + 0 ≤ _), (by decide : 26 + 0 ≤ _)⟩)
  dsimp only [Pt.U, Pt.locs, Pt.cells, Pt.slots] at X5 l5 y5 z5 st5 hQ5
  subst l5 y5 z5
  obtain ⟨rfl, N5q, kq5, pf5_0, pf5_1, pf5_2, pf5_3, pf5_4, pf5_5⟩ := hQ5
  obtain ⟨Lg5, X5', N5⟩ := own_gen X5 (Fr.app N3 N5q)
  have K5 : Keep h0 T5.heap [] := K3.trans kq5 (allS (Or.inr sz_b3_0) (allS (Or.inr sz_b2) all0))
  have Z5 : n0 ≤ T5.heap.size := Nat.le_trans Z3 kq5.1
  have rh0 := CHr.refl hCH
  have rh12 := rh0.trans (CHr.ext E1 rh0.1)
  have rh13 := rh12.trans (CHr.ext E2 rh12.1)
  have sf15 : Safe Z [(cWN, 36), (cLW, 46), (cST, 7)] s.vm h2 b2 := Safe.exa hZo.alike E_b2 (by decide) (by decide)
  have rh14 := rh13.trans (CHr.keep kq3 (sfS sf15 sf0) rh13.1)
  have sf17 : Safe Z [(cWN, 36), (cLW, 46), (cST, 7)] s.vm T3.heap b2 := Safe.exa hZo.alike pf3_0 (by decide) (by decide)
  have sf18 : Safe Z [(cWN, 36), (cLW, 46), (cST, 7)] s.vm h2 b3_0 := Safe.new s3_0
  have sf19 : Safe Z [(cWN, 36), (cLW, 46), (cST, 7)] s.vm T3.heap b3_0 := Safe.keep kq3 (sfS sf15 sf0) rh13.1 sf18
  have rh16 := rh14.trans (CHr.keep kq5 (sfS sf19 (sfS sf17 sf0)) rh14.1)
  obtain ⟨l20, T20, h20, kk20, lb20, lk20, X20, e20, E20, hS20, hk20, hZ20, hown20, xl20, fc20, fv20, vl20, -, -, ch20, lt20, -, st20⟩ := ldcCH (s := s) (vm0 := s.vm) X5' hx hZ hown (w99 hw) wS rfl hS0 (Nat.le_trans (Nat.le_trans (Nat.le_trans (Nat.le_trans (Nat.zero_le _) E1.1) E2.1) kq3.1) kq5.1) hEW (mg 0 rfl) rh16.1 (vs := [(.int (32 : Int32)), (.int (105 : Int32)), (.int (115 : Int32)), (.int (32 : Int32)), (.int (99 : Int32)), (.int (108 : Int32)), (.int (111 : Int32)), (.int (115 : Int32)), (.int (101 : Int32)), (.int (100 : Int32)), (.int (58 : Int32)), (.int (32 : Int32)), (.int (105 : Int32)), (.int (116 : Int32)), (.int (32 : Int32)), (.int (104 : Int32)), (.int (101 : Int32)), (.int (97 : Int32)), (.int (114 : Int32)), (.int (115 : Int32)), (.int (32 : Int32)), (.int (110 : Int32)), (.int (111 : Int32)), (.int (32 : Int32)), (.int (114 : Int32)), (.int (101 : Int32)), (.int (108 : Int32)), (.int (101 : Int32)), (.int (97 : Int32)), (.int (115 : Int32)), (.int (101 : Int32)), (.int (32 : Int32)), (.int (111 : Int32)), (.int (102 : Int32)), (.int (32 : Int32))]) (z := (35 : Int32)) ⟨by decide, rfl⟩ (by decide) (by decide) (g := (mkF m 15 #[vR a0, vR a1] [(.ref b2), (.ref b1), (.ref b1)])) rfl (hb hby d5_15) (n := 140) (by decide) (by decide) (by decide) (by decide)
  have xb20 : Exa Z h20 lb20 "[B" := own_exaB (EL := [(cWN, 36), (cLW, 46), (cST, 7)]) ch20.1 (mg 0 rfl) hZ20 (w99 hw) hown20 lt20 fv20
  have Z20 : n0 ≤ h20.size := Nat.le_trans Z5 E20.1
  have K20 : Keep h0 h20 [] := K5.ext E20
  have rh21 := rh16.trans ch20
  have AL22 : own_Arf Z h20 lb20 lk20 .byte (35 : Int32) own_lit := own_Arf.ofV vl20 (fun _ _ => rfl)
  have S_String_COMPACT_STRINGS_u24 : Sta Z h20 cST "COMPACT_STRINGS" "Z" (.int sC) := ((own_Sta S_String_COMPACT_STRINGS_u6 kq5 (allS (P := fun x => ∀ cell : Cell, _ → cell.vm.isStatics = false) pf3_4.nostat (allS (P := fun x => ∀ cell : Cell, _ → cell.vm.isStatics = false) pf3_0.nostat (fun _ m => nomatch m)))).ext E20)
  have E_b2_u25 : Exa Z h20 b2 cSB := (pf5_2.ext E20)
  have F_b2_value_u26 : Fld Z h20 b2 cAB "value" "[B" (.ref b3_0) := (pf5_3.ext E20)
  have F_b2_coder_u27 : Fld Z h20 b2 cAB "coder" "B" (.int (0 : Int32)) := (pf5_4.ext E20)
  have V_b3_0_u28 : own_Arf Z h20 b3_0 kk3_0 .byte (16 : Int32) (own_cpf fS ((0 : Int32)).toNatClampNeg (fun _ => (.int (0 : Int32))) ((0 : Int32)).toNatClampNeg (ls).toNatClampNeg) := (pf5_1.ext E20)
  have E_b3_0_u29 : Exa Z h20 b3_0 "[B" := (pf5_0.ext E20)
  have F_b2_count_u30 : Fld Z h20 b2 cAB "count" "I" (.int ((0 : Int32) + ls)) := (pf5_5.ext E20)
  obtain ⟨cq23, kq23, q23a, q23b, q23c⟩ := isOf hZ20 e20 E_b2_u25
  obtain ⟨_, _, ⟨T23, L23, k23', n23'⟩, -, X23, ⟨Lc23, hQ23, l23, y23, z23⟩, st23⟩ := X20.virtualBack hx (y := (⟨cSB, "append", "(Ljava/lang/String;)Ljava/lang/StringBuilder;"⟩ : MethodName)) (z := (⟨cSB, "append", "(Ljava/lang/String;)Ljava/lang/StringBuilder;"⟩ : MethodName)) hown20 (mvT hZ20 (w51 hw)) (mvT hZ20 (w52 hw)) (notFace_of_selects (args := #[]) (mvT hZ20 (w54 hw))) (mvT hZ20 (w54 hw)) (mvT hZ20 (w53 hw)) (by decide) (backOf (W := 2) (rm8Ga l Z az hw [] b2 l20 sC b3_0 kk3_0 (16 : Int32) (own_cpf fS ((0 : Int32)).toNatClampNeg (fun _ => (.int (0 : Int32))) ((0 : Int32)).toNatClampNeg (ls).toNatClampNeg) ((0 : Int32) + ls) lb20 lk20 (35 : Int32) own_lit h20 n0 Z20 S_String_COMPACT_STRINGS_u24 hc1 E_b2_u25 F_b2_value_u26 F_b2_coder_u27 V_b3_0_u28 E_b3_0_u29 F_b2_count_u30 xl20 fc20 fv20 AL22 xb20 hc19 hc20 hc21 hc22 hc23 hc24 hc25 hc26 hc27 (by decide) (by decide) hc28 g_b2 hc29 (by decide) (by decide) hc30) hZ20 (w55 hw) (w35 hw) (by decide) (by decide)) q23a q23c (g := (mkF m 17 #[vR a0, vR a1] [(.ref l20), (.ref b2), (.ref b1), (.ref b1)])) rfl (by rw [hml]; rfl) (Steps.refl _) (argsL := [(.ref l20)]) (rest := [(.ref b1), (.ref b1)]) (lenOf pd_24 rfl) rfl (Nat.le_of_eq rfl) (hb hby d5_17) (fun _ _ => ⟨rfl, e20, (by decide : 5 + 1 ≤ _), (by decide : 170 + 80 ≤ _)⟩)
  dsimp only [Pt.U, Pt.locs, Pt.cells, Pt.slots] at X23 l23 y23 z23 st23 hQ23
  subst l23 y23 z23
  obtain ⟨b23_0, kk23_0, rfl, N23q, s23_0, kq23, pf23_0, pf23_1, pf23_2, pf23_3, pf23_4, pf23_5⟩ := hQ23
  obtain ⟨Lg23, X23', N23⟩ := own_gen X23 (Fr.app N5 N23q)
  have g_b23_0 : n0 ≤ b23_0 := Nat.le_trans Z20 s23_0
  have sz_b23_0 : h0.size ≤ b23_0 := Nat.le_trans K20.1 s23_0
  have K23 : Keep h0 T23.heap [] := K20.trans kq23 (allS (Or.inr sz_b2) all0)
  have Z23 : n0 ≤ T23.heap.size := Nat.le_trans Z20 kq23.1
  have S_String_COMPACT_STRINGS_u32 : Sta Z T23.heap cST "COMPACT_STRINGS" "Z" (.int sC) := (own_Sta S_String_COMPACT_STRINGS_u24 kq23 (allS (P := fun x => ∀ cell : Cell, _ → cell.vm.isStatics = false) E_b2_u25.nostat (fun _ m => nomatch m)))
  have c33 : Exa Z T3.heap a1 cST := (((E_a1.ext E1).ext E2).keep kq3)
  have E_a1_u34 : Exa Z T23.heap a1 cST := (((c33.keep kq5).ext E20).keep kq23)
  have ne_a1_b2 : a1 ≠ b2 := own_ne (Nat.lt_of_lt_of_le (E_a1.ext E1).lt (Nat.le_of_eq g2.symm))
  have c35 : Fld Z T3.heap a1 cST "coder" "B" (.int (0 : Int32)) := (((F_coder_a1.ext E1).ext E2).keep kq3 (ninS ne_a1_b2 nin0))
  have ne_a1_b3_0 : a1 ≠ b3_0 := own_ne (Nat.lt_of_lt_of_le ((E_a1.ext E1).ext E2).lt s3_0)
  have F_a1_coder_u36 : Fld Z T23.heap a1 cST "coder" "B" (.int (0 : Int32)) := (((c35.keep kq5 (ninS ne_a1_b3_0 (ninS ne_a1_b2 nin0))).ext E20).keep kq23 (ninS ne_a1_b2 nin0))
  have c37 : Fld Z T3.heap a1 cST "value" "[B" (.ref aT) := (((F_value_a1.ext E1).ext E2).keep kq3 (ninS ne_a1_b2 nin0))
  have F_a1_value_u38 : Fld Z T23.heap a1 cST "value" "[B" (.ref aT) := (((c37.keep kq5 (ninS ne_a1_b3_0 (ninS ne_a1_b2 nin0))).ext E20).keep kq23 (ninS ne_a1_b2 nin0))
  have ne_aT_b2 : aT ≠ b2 := own_ne (Nat.lt_of_lt_of_le (E_aT.ext E1).lt (Nat.le_of_eq g2.symm))
  have c39 : own_Arf Z T3.heap aT kaT .byte ln fT := (((V_aT.ext E1).ext E2).keep kq3 (ninS ne_aT_b2 nin0))
  have ne_aT_b3_0 : aT ≠ b3_0 := own_ne (Nat.lt_of_lt_of_le ((E_aT.ext E1).ext E2).lt s3_0)
  have V_aT_u40 : own_Arf Z T23.heap aT kaT .byte ln fT := (((c39.keep kq5 (ninS ne_aT_b3_0 (ninS ne_aT_b2 nin0))).ext E20).keep kq23 (ninS ne_aT_b2 nin0))
  have c41 : Exa Z T3.heap aT "[B" := (((E_aT.ext E1).ext E2).keep kq3)
  have E_aT_u42 : Exa Z T23.heap aT "[B" := (((c41.keep kq5).ext E20).keep kq23)
  obtain ⟨cq31, kq31, q31a, q31b, q31c⟩ := isOf hZ20 rfl pf23_0
  obtain ⟨_, _, ⟨T31, L31, k31', n31'⟩, -, X31, ⟨Lc31, hQ31, l31, y31, z31⟩, st31⟩ := X23'.virtualBack hx (y := (⟨cSB, "append", "(Ljava/lang/String;)Ljava/lang/StringBuilder;"⟩ : MethodName)) (z := (⟨cSB, "append", "(Ljava/lang/String;)Ljava/lang/StringBuilder;"⟩ : MethodName)) hown20 (mvT hZ20 (w51 hw)) (mvT hZ20 (w52 hw)) (notFace_of_selects (args := #[]) (mvT hZ20 (w54 hw))) (mvT hZ20 (w54 hw)) (mvT hZ20 (w53 hw)) (by decide) (backOf (W := 2) (rm8F l Z az hw [] b2 a1 sC b23_0 kk23_0 (own_nca (((0 : Int32) + ls) + (35 : Int32)) (16 : Int32)) (own_cpf own_lit ((0 : Int32)).toNatClampNeg (own_cpf (own_cpf fS ((0 : Int32)).toNatClampNeg (fun _ => (.int (0 : Int32))) ((0 : Int32)).toNatClampNeg (ls).toNatClampNeg) ((0 : Int32)).toNatClampNeg (fun _ => (.int (0 : Int32))) ((0 : Int32)).toNatClampNeg ((16 : Int32)).toNatClampNeg) (((0 : Int32) + ls)).toNatClampNeg ((35 : Int32)).toNatClampNeg) (((0 : Int32) + ls) + (35 : Int32)) aT kaT ln fT T23.heap n0 Z23 S_String_COMPACT_STRINGS_u32 hc1 pf23_0 pf23_1 pf23_2 pf23_5 pf23_4 pf23_3 E_a1_u34 F_a1_coder_u36 F_a1_value_u38 V_aT_u40 E_aT_u42 hc31 hc32 hc33 hc34 hc35 g_b23_0 g_b2) hZ20 (w55 hw) (w35 hw) (by decide) (by decide)) q31a q31c (g := (mkF m 21 #[vR a0, vR a1] [(.ref a1), (.ref b2), (.ref b1), (.ref b1)])) rfl (by rw [hml]; rfl) (Steps.refl _) (argsL := [(.ref a1)]) (rest := [(.ref b1), (.ref b1)]) (lenOf pd_24 rfl) rfl (Nat.le_of_eq rfl) (hb hby d5_21) (fun _ _ => ⟨rfl, rfl, (by decide : 6 + 0 ≤ _), (by decide : 250 + 0 ≤ _)⟩)
  dsimp only [Pt.U, Pt.locs, Pt.cells, Pt.slots] at X31 l31 y31 z31 st31 hQ31
  subst l31 y31 z31
  obtain ⟨rfl, N31q, kq31, pf31_0, pf31_1, pf31_2, pf31_3, pf31_4, pf31_5⟩ := hQ31
  obtain ⟨Lg31, X31', N31⟩ := own_gen X31 (Fr.app N23 N31q)
  have K31 : Keep h0 T31.heap [] := K23.trans kq31 (allS (Or.inr sz_b23_0) (allS (Or.inr sz_b2) all0))
  have Z31 : n0 ≤ T31.heap.size := Nat.le_trans Z23 kq31.1
  have S_String_COMPACT_STRINGS_u44 : Sta Z T31.heap cST "COMPACT_STRINGS" "Z" (.int sC) := (own_Sta S_String_COMPACT_STRINGS_u32 kq31 (allS (P := fun x => ∀ cell : Cell, _ → cell.vm.isStatics = false) pf23_4.nostat (allS (P := fun x => ∀ cell : Cell, _ → cell.vm.isStatics = false) pf23_0.nostat (fun _ m => nomatch m))))
  obtain ⟨cq43, kq43, q43a, q43b, q43c⟩ := isOf hZ20 rfl pf31_2
  obtain ⟨_, _, ⟨T43, L43, k43', n43'⟩, -, X43, ⟨Lc43, hQ43, l43, y43, z43⟩, st43⟩ := X31'.virtualBack hx (y := (⟨cSB, "toString", "()Ljava/lang/String;"⟩ : MethodName)) (z := (⟨cSB, "toString", "()Ljava/lang/String;"⟩ : MethodName)) hown20 (mvT hZ20 (w123 hw)) (mvT hZ20 (w124 hw)) (notFace_of_selects (args := #[]) (mvT hZ20 (w126 hw))) (mvT hZ20 (w126 hw)) (mvT hZ20 (w125 hw)) (by decide) (backOf (W := 2) (rm21c l Z az hw [] b2 sC b23_0 kk23_0 (own_nca (((0 : Int32) + ls) + (35 : Int32)) (16 : Int32)) (own_cpf fT ((0 : Int32)).toNatClampNeg (own_cpf own_lit ((0 : Int32)).toNatClampNeg (own_cpf (own_cpf fS ((0 : Int32)).toNatClampNeg (fun _ => (.int (0 : Int32))) ((0 : Int32)).toNatClampNeg (ls).toNatClampNeg) ((0 : Int32)).toNatClampNeg (fun _ => (.int (0 : Int32))) ((0 : Int32)).toNatClampNeg ((16 : Int32)).toNatClampNeg) (((0 : Int32) + ls)).toNatClampNeg ((35 : Int32)).toNatClampNeg) ((((0 : Int32) + ls) + (35 : Int32))).toNatClampNeg (ln).toNatClampNeg) ((((0 : Int32) + ls) + (35 : Int32)) + ln) T31.heap n0 Z31 S_String_COMPACT_STRINGS_u44 hc1 pf31_2 pf31_3 pf31_4 pf31_1 pf31_0 pf31_5 hc36 hc26) hZ20 (w127 hw) (w35 hw) (by decide) (by decide)) q43a q43c (g := (mkF m 24 #[vR a0, vR a1] [(.ref b2), (.ref b1), (.ref b1)])) rfl (by rw [hml]; rfl) (Steps.refl _) (argsL := []) (rest := [(.ref b1), (.ref b1)]) (lenOf pd_25 rfl) rfl (Nat.le_of_eq rfl) (hb hby d5_24) (fun _ _ => ⟨rfl, rfl, (by decide : 6 + 2 ≤ _), (by decide : 250 + 84 ≤ _)⟩)
  dsimp only [Pt.U, Pt.locs, Pt.cells, Pt.slots] at X43 l43 y43 z43 st43 hQ43
  subst l43 y43 z43
  obtain ⟨b43_0, b43_1, rfl, N43q, s43_0, lt_b43_0_b43_1, kq43, pf43_0, pf43_1, pf43_2, pf43_3, pf43_4⟩ := hQ43
  obtain ⟨Lg43, X43', N43⟩ := own_gen X43 (Fr.app N31 N43q)
  have g_b43_0 : n0 ≤ b43_0 := Nat.le_trans Z31 s43_0
  have sz_b43_0 : h0.size ≤ b43_0 := Nat.le_trans K31.1 s43_0
  have g_b43_1 : n0 ≤ b43_1 := Nat.le_trans Z31 (Nat.le_trans s43_0 (Nat.le_of_lt lt_b43_0_b43_1))
  have sz_b43_1 : h0.size ≤ b43_1 := Nat.le_trans K31.1 (Nat.le_trans s43_0 (Nat.le_of_lt lt_b43_0_b43_1))
  have K43 : Keep h0 T43.heap [] := K31.trans kq43 all0
  have Z43 : n0 ≤ T43.heap.size := Nat.le_trans Z31 kq43.1
  have c46 : Exa Z T5.heap b1 cSX := (((E_b1.ext E2).keep kq3).keep kq5)
  have c47 : Exa Z T31.heap b1 cSX := (((c46.ext E20).keep kq23).keep kq31)
  have E_b1_u48 : Exa Z T43.heap b1 cSX := (c47.keep kq43)
  have ne_b1_b2 : b1 ≠ b2 := own_ne (Nat.lt_of_lt_of_le E_b1.lt (Nat.le_of_eq g2.symm))
  have ne_b1_b3_0 : b1 ≠ b3_0 := own_ne (Nat.lt_of_lt_of_le (E_b1.ext E2).lt s3_0)
  have c49 : Fld Z T5.heap b1 cTN "cause" "Ljava/lang/Throwable;" .null := (((F_cause_b1.ext E2).keep kq3 (ninS ne_b1_b2 nin0)).keep kq5 (ninS ne_b1_b3_0 (ninS ne_b1_b2 nin0)))
  have ne_b1_b23_0 : b1 ≠ b23_0 := own_ne (Nat.lt_of_lt_of_le (c46.ext E20).lt s23_0)
  have c50 : Fld Z T31.heap b1 cTN "cause" "Ljava/lang/Throwable;" .null := (((c49.ext E20).keep kq23 (ninS ne_b1_b2 nin0)).keep kq31 (ninS ne_b1_b23_0 (ninS ne_b1_b2 nin0)))
  have F_b1_cause_u51 : Fld Z T43.heap b1 cTN "cause" "Ljava/lang/Throwable;" .null := (c50.keep kq43 nin0)
  have c52 : Fld Z T5.heap b1 cTN "stackTrace" "[Ljava/lang/StackTraceElement;" .null := (((F_stackTrace_b1.ext E2).keep kq3 (ninS ne_b1_b2 nin0)).keep kq5 (ninS ne_b1_b3_0 (ninS ne_b1_b2 nin0)))
  have c53 : Fld Z T31.heap b1 cTN "stackTrace" "[Ljava/lang/StackTraceElement;" .null := (((c52.ext E20).keep kq23 (ninS ne_b1_b2 nin0)).keep kq31 (ninS ne_b1_b23_0 (ninS ne_b1_b2 nin0)))
  have F_b1_stackTrace_u54 : Fld Z T43.heap b1 cTN "stackTrace" "[Ljava/lang/StackTraceElement;" .null := (c53.keep kq43 nin0)
  have c55 : Fld Z T5.heap b1 cTN "suppressedExceptions" "Ljava/util/List;" .null := (((F_suppressedExceptions_b1.ext E2).keep kq3 (ninS ne_b1_b2 nin0)).keep kq5 (ninS ne_b1_b3_0 (ninS ne_b1_b2 nin0)))
  have c56 : Fld Z T31.heap b1 cTN "suppressedExceptions" "Ljava/util/List;" .null := (((c55.ext E20).keep kq23 (ninS ne_b1_b2 nin0)).keep kq31 (ninS ne_b1_b23_0 (ninS ne_b1_b2 nin0)))
  have F_b1_suppressedExceptions_u57 : Fld Z T43.heap b1 cTN "suppressedExceptions" "Ljava/util/List;" .null := (c56.keep kq43 nin0)
  have c58 : Fld Z T5.heap b1 cTN "detailMessage" "Ljava/lang/String;" .null := (((F_detailMessage_b1.ext E2).keep kq3 (ninS ne_b1_b2 nin0)).keep kq5 (ninS ne_b1_b3_0 (ninS ne_b1_b2 nin0)))
  have c59 : Fld Z T31.heap b1 cTN "detailMessage" "Ljava/lang/String;" .null := (((c58.ext E20).keep kq23 (ninS ne_b1_b2 nin0)).keep kq31 (ninS ne_b1_b23_0 (ninS ne_b1_b2 nin0)))
  have F_b1_detailMessage_u60 : Fld Z T43.heap b1 cTN "detailMessage" "Ljava/lang/String;" .null := (c59.keep kq43 nin0)
  have c61 : Fld Z T5.heap b1 cTN "backtrace" "Ljava/lang/Object;" .null := (((F_backtrace_b1.ext E2).keep kq3 (ninS ne_b1_b2 nin0)).keep kq5 (ninS ne_b1_b3_0 (ninS ne_b1_b2 nin0)))
  have c62 : Fld Z T31.heap b1 cTN "backtrace" "Ljava/lang/Object;" .null := (((c61.ext E20).keep kq23 (ninS ne_b1_b2 nin0)).keep kq31 (ninS ne_b1_b23_0 (ninS ne_b1_b2 nin0)))
  have F_b1_backtrace_u63 : Fld Z T43.heap b1 cTN "backtrace" "Ljava/lang/Object;" .null := (c62.keep kq43 nin0)
  have c64 : Fld Z T5.heap b1 cTN "depth" "I" (.int (0 : Int32)) := (((F_depth_b1.ext E2).keep kq3 (ninS ne_b1_b2 nin0)).keep kq5 (ninS ne_b1_b3_0 (ninS ne_b1_b2 nin0)))
  have c65 : Fld Z T31.heap b1 cTN "depth" "I" (.int (0 : Int32)) := (((c64.ext E20).keep kq23 (ninS ne_b1_b2 nin0)).keep kq31 (ninS ne_b1_b23_0 (ninS ne_b1_b2 nin0)))
  have F_b1_depth_u66 : Fld Z T43.heap b1 cTN "depth" "I" (.int (0 : Int32)) := (c65.keep kq43 nin0)
  have c67 : ThS Z T3.heap := (ThS.keep kq3 (allS (P := fun x => ∀ cell : Cell, _ → cell.vm.isStatics = false) E_b2.nostat (fun _ m => nomatch m)) (ThS.ext E2 (ThS.ext E1 T_x)))
  have c68 : ThS Z T23.heap := (ThS.keep kq23 (allS (P := fun x => ∀ cell : Cell, _ → cell.vm.isStatics = false) E_b2_u25.nostat (fun _ m => nomatch m)) (ThS.ext E20 (ThS.keep kq5 (allS (P := fun x => ∀ cell : Cell, _ → cell.vm.isStatics = false) pf3_4.nostat (allS (P := fun x => ∀ cell : Cell, _ → cell.vm.isStatics = false) pf3_0.nostat (fun _ m => nomatch m))) c67)))
  have T_x_u69 : ThS Z T43.heap := (ThS.keep kq43 (fun _ m => nomatch m) (ThS.keep kq31 (allS (P := fun x => ∀ cell : Cell, _ → cell.vm.isStatics = false) pf23_4.nostat (allS (P := fun x => ∀ cell : Cell, _ → cell.vm.isStatics = false) pf23_0.nostat (fun _ m => nomatch m))) c68))
  have c70 : Unt T5.heap b1 := (Unt.keep kq5 (ninS ne_b1_b3_0 (ninS ne_b1_b2 nin0)) (Unt.keep kq3 (ninS ne_b1_b2 nin0) (Unt.keep ((Keep.refl _ []).ext E2) nin0 Ut_b1)))
  have c71 : Unt T31.heap b1 := (Unt.keep kq31 (ninS ne_b1_b23_0 (ninS ne_b1_b2 nin0)) (Unt.keep kq23 (ninS ne_b1_b2 nin0) (Unt.keep ((Keep.refl _ []).ext E20) nin0 c70)))
  have U_b1_u72 : Unt T43.heap b1 := (Unt.keep kq43 nin0 c71)
  have c73 : Sta Z T3.heap cTN "UNASSIGNED_STACK" "[Ljava/lang/StackTraceElement;" (.ref uA) := (own_Sta ((S_UNASSIGNED_STACK.ext E1).ext E2) kq3 (allS (P := fun x => ∀ cell : Cell, _ → cell.vm.isStatics = false) E_b2.nostat (fun _ m => nomatch m)))
  have c74 : Sta Z T23.heap cTN "UNASSIGNED_STACK" "[Ljava/lang/StackTraceElement;" (.ref uA) := (own_Sta ((own_Sta c73 kq5 (allS (P := fun x => ∀ cell : Cell, _ → cell.vm.isStatics = false) pf3_4.nostat (allS (P := fun x => ∀ cell : Cell, _ → cell.vm.isStatics = false) pf3_0.nostat (fun _ m => nomatch m)))).ext E20) kq23 (allS (P := fun x => ∀ cell : Cell, _ → cell.vm.isStatics = false) E_b2_u25.nostat (fun _ m => nomatch m)))
  have S_Throwable_UNASSIGNED_STACK_u75 : Sta Z T43.heap cTN "UNASSIGNED_STACK" "[Ljava/lang/StackTraceElement;" (.ref uA) := (own_Sta (own_Sta c74 kq31 (allS (P := fun x => ∀ cell : Cell, _ → cell.vm.isStatics = false) pf23_4.nostat (allS (P := fun x => ∀ cell : Cell, _ → cell.vm.isStatics = false) pf23_0.nostat (fun _ m => nomatch m)))) kq43 (fun _ m => nomatch m))
  have c76 : Sta Z T3.heap cTN "SUPPRESSED_SENTINEL" "Ljava/util/List;" (.ref uB) := (own_Sta ((S_SUPPRESSED_SENTINEL.ext E1).ext E2) kq3 (allS (P := fun x => ∀ cell : Cell, _ → cell.vm.isStatics = false) E_b2.nostat (fun _ m => nomatch m)))
  have c77 : Sta Z T23.heap cTN "SUPPRESSED_SENTINEL" "Ljava/util/List;" (.ref uB) := (own_Sta ((own_Sta c76 kq5 (allS (P := fun x => ∀ cell : Cell, _ → cell.vm.isStatics = false) pf3_4.nostat (allS (P := fun x => ∀ cell : Cell, _ → cell.vm.isStatics = false) pf3_0.nostat (fun _ m => nomatch m)))).ext E20) kq23 (allS (P := fun x => ∀ cell : Cell, _ → cell.vm.isStatics = false) E_b2_u25.nostat (fun _ m => nomatch m)))
  have S_Throwable_SUPPRESSED_SENTINEL_u78 : Sta Z T43.heap cTN "SUPPRESSED_SENTINEL" "Ljava/util/List;" (.ref uB) := (own_Sta (own_Sta c77 kq31 (allS (P := fun x => ∀ cell : Cell, _ → cell.vm.isStatics = false) pf23_4.nostat (allS (P := fun x => ∀ cell : Cell, _ → cell.vm.isStatics = false) pf23_0.nostat (fun _ m => nomatch m)))) kq43 (fun _ m => nomatch m))
  obtain ⟨_, _, ⟨T45, L45, k45', n45'⟩, -, X45, ⟨Lc45, hQ45, l45, y45, z45⟩, st45⟩ := X43'.specialBack hx (y := (⟨cSX, "<init>", "(Ljava/lang/String;Ljava/lang/Throwable;)V"⟩ : MethodName)) rfl hown20 (mvT hZ20 (w165 hw)) (mvT hZ20 (w166 hw)) (mvT hZ20 (w167 hw)) (by decide) (backOfKL (W := 1) (rm29 l Z az hw [] b1 b43_0 uA uB T43.heap n0 Z43 E_b1_u48 F_b1_cause_u51 F_b1_stackTrace_u54 F_b1_suppressedExceptions_u57 F_b1_detailMessage_u60 F_b1_backtrace_u63 F_b1_depth_u66 T_x_u69 U_b1_u72 S_Throwable_UNASSIGNED_STACK_u75 S_Throwable_SUPPRESSED_SENTINEL_u78 g_b1 hc37) hZ20 (w167 hw) (w32 hw) (by decide) (by decide) (Jvm.Vm.MethodsKnown.alikeC hS20.1.alike hTK) (Jvm.Vm.FramesKnown.alikeC hS20.1.alike hBelow)) (g := (mkF m 28 #[vR a0, vR a1] [.null, (.ref b43_0), (.ref b1), (.ref b1)])) rfl (by rw [hml]; rfl) (Steps.refl _) (a := b1) (argsL := [(.ref b43_0), .null]) (rest := [(.ref b1)]) (lenOf pd_22 rfl) rfl (Nat.le_of_eq rfl) (hb hby d5_28) (fun _ _ => ⟨rfl, rfl, (by decide : 8 + 1 ≤ _), (by decide : 334 + 2752 ≤ _)⟩)
  dsimp only [Pt.U, Pt.locs, Pt.cells, Pt.slots] at X45 l45 y45 z45 st45 hQ45
  subst l45 y45 z45
  obtain ⟨rfl, N45q, kq45, pf45_0, pf45_1, pf45_2, pf45_3⟩ := hQ45
  obtain ⟨Lg45, X45', N45⟩ := own_gen X45 (Fr.app N43 N45q)
  have K45 : Keep h0 T45.heap [] := K43.trans kq45 (allS (Or.inr sz_b1) all0)
  have Z45 : n0 ≤ T45.heap.size := Nat.le_trans Z43 kq45.1
  have E_b43_0_u79 : Exa Z T45.heap b43_0 cST := (pf43_0.keep kq45)
  have ne_b1_b43_0 : b1 ≠ b43_0 := own_ne (Nat.lt_of_lt_of_le c47.lt s43_0)
  have F_b43_0_value_u80 : Fld Z T45.heap b43_0 cST "value" "[B" (.ref b43_1) := (pf43_1.keep kq45 (ninS (Ne.symm ne_b1_b43_0) nin0))
  have F_b43_0_coder_u81 : Fld Z T45.heap b43_0 cST "coder" "B" (.int (0 : Int32)) := (pf43_2.keep kq45 (ninS (Ne.symm ne_b1_b43_0) nin0))
  have E_b43_1_u82 : Exa Z T45.heap b43_1 "[B" := (pf43_3.keep kq45)
  have ne_b1_b43_1 : b1 ≠ b43_1 := own_ne (Nat.lt_of_lt_of_le c47.lt (Nat.le_trans s43_0 (Nat.le_of_lt lt_b43_0_b43_1)))
  have V_b43_1_u83 : own_Arf Z T45.heap b43_1 kk23_0 .byte (own_nca (((0 : Int32) + ls) + (35 : Int32)) (16 : Int32)) (own_cpf fT ((0 : Int32)).toNatClampNeg (own_cpf own_lit ((0 : Int32)).toNatClampNeg (own_cpf (own_cpf fS ((0 : Int32)).toNatClampNeg (fun _ => (.int (0 : Int32))) ((0 : Int32)).toNatClampNeg (ls).toNatClampNeg) ((0 : Int32)).toNatClampNeg (fun _ => (.int (0 : Int32))) ((0 : Int32)).toNatClampNeg ((16 : Int32)).toNatClampNeg) (((0 : Int32) + ls)).toNatClampNeg ((35 : Int32)).toNatClampNeg) ((((0 : Int32) + ls) + (35 : Int32))).toNatClampNeg (ln).toNatClampNeg) := (pf43_4.keep kq45 (ninS (Ne.symm ne_b1_b43_1) nin0))
  have sf85 : Safe Z [(cWN, 36), (cLW, 46), (cST, 7)] T20.vm h20 b2 := Safe.exa hZ20.alike E_b2_u25 (by decide) (by decide)
  have rh84 := rh21.trans (CHr.keep kq23 (sfS sf85 sf0) rh21.1)
  have sf87 : Safe Z [(cWN, 36), (cLW, 46), (cST, 7)] T20.vm T23.heap b2 := Safe.exa hZ20.alike pf23_0 (by decide) (by decide)
  have sf88 : Safe Z [(cWN, 36), (cLW, 46), (cST, 7)] T20.vm h20 b23_0 := Safe.new s23_0
  have sf89 : Safe Z [(cWN, 36), (cLW, 46), (cST, 7)] T20.vm T23.heap b23_0 := Safe.keep kq23 (sfS sf85 sf0) rh21.1 sf88
  have rh86 := rh84.trans (CHr.keep kq31 (sfS sf89 (sfS sf87 sf0)) rh84.1)
  have rh90 := rh86.trans (CHr.keep kq43 sf0 rh86.1)
  have sf92 : Safe Z [(cWN, 36), (cLW, 46), (cST, 7)] T20.vm T43.heap b1 := Safe.exa hZ20.alike E_b1_u48 (by decide) (by decide)
  have rh91 := rh90.trans (CHr.keep kq45 (sfS sf92 sf0) rh90.1)
  have hCHR := rh91.trans (CHv.at (s := s) (vm0 := T20.vm) X45' hZ20 hEW rh91.1)
  obtain ⟨fs, hr, hrun, hended, hWE⟩ := X45'.leaveW (s := s) hS20 (Nat.le_trans (Nat.le_trans (Nat.le_trans (Nat.le_trans hk20 kq23.1) kq31.1) kq43.1) kq45.1) (v := some (.ref b1)) (fun h => by rw [Bd.returns] at h; cases h)
  refine ⟨_, _, pre0 _ ?_, hrun, hended, _, _, rfl, ?_, (by rw [hh]; show CHr _ _ _ _ T45.vm T45.heap; exact hCHR), hWE.1, hWE.2.1, hWE.2.2.1, hWE.2.2.2.mono (by decide) (by decide)⟩
  · show SP p e below s₁ (mkF m 0 #[vR a0, vR a1] []) _
    refine st1 _ ?_
    show SP p e below T1 (mkF m 3 #[vR a0, vR a1] [(.ref b1)]) _
    refine XS.dup X1.here hx rfl (hb hby d5_3) rfl rfl ?_
    show SP p e below T1 (mkF m 4 #[vR a0, vR a1] [(.ref b1), (.ref b1)]) _
    refine st2 _ ?_
    show SP p e below T2 (mkF m 7 #[vR a0, vR a1] [(.ref b2), (.ref b1), (.ref b1)]) _
    refine XS.dup X2.here hx rfl (hb hby d5_7) rfl rfl ?_
    show SP p e below T2 (mkF m 8 #[vR a0, vR a1] [(.ref b2), (.ref b2), (.ref b1), (.ref b1)]) _
    refine st3.trans ?_
    show SP p e below T3 (mkF m 11 #[vR a0, vR a1] [(.ref b2), (.ref b1), (.ref b1)]) _
    refine XS.aloadN X3'.here hx rfl (hb hby d5_11) rfl rfl ?_
    show SP p e below T3 (mkF m 12 #[vR a0, vR a1] [(.ref a0), (.ref b2), (.ref b1), (.ref b1)]) _
    refine st5.trans ?_
    show SP p e below T5 (mkF m 15 #[vR a0, vR a1] [(.ref b2), (.ref b1), (.ref b1)]) _
    refine st20 _ ?_
    show SP p e below T20 (mkF m 17 #[vR a0, vR a1] [(.ref l20), (.ref b2), (.ref b1), (.ref b1)]) _
    refine st23.trans ?_
    show SP p e below T23 (mkF m 20 #[vR a0, vR a1] [(.ref b2), (.ref b1), (.ref b1)]) _
    refine XS.aloadN X23'.here hx rfl (hb hby d5_20) rfl rfl ?_
    show SP p e below T23 (mkF m 21 #[vR a0, vR a1] [(.ref a1), (.ref b2), (.ref b1), (.ref b1)]) _
    refine st31.trans ?_
    show SP p e below T31 (mkF m 24 #[vR a0, vR a1] [(.ref b2), (.ref b1), (.ref b1)]) _
    refine st43.trans ?_
    show SP p e below T43 (mkF m 27 #[vR a0, vR a1] [(.ref b43_0), (.ref b1), (.ref b1)]) _
    refine XS.aconstNull X43'.here hx rfl (hb hby d5_27) ?_
    show SP p e below T43 (mkF m 28 #[vR a0, vR a1] [.null, (.ref b43_0), (.ref b1), (.ref b1)]) _
    refine st45.trans ?_
    show SP p e below T45 (mkF m 31 #[vR a0, vR a1] [(.ref b1)]) _
    jvm_step X45'.here [X45'.here.top, hx, (hb hby d5_31), X45'.method', Bd.returns, Value.isRef, FieldType.isReference]
    first | (intro acts; rw [hr _ acts rfl rfl rfl]) | rw [hr _ _ rfl rfl rfl]
    exact Steps.refl _
  · show Q5A Z a0 a1 sC aS kaS ls fS aT kaT ln fT uA uB h0 n0 _ T45.heap _
    exact ⟨b1, b43_0, b43_1, kk23_0, rfl, N45, sz_b1, (Nat.lt_of_lt_of_le c47.lt s43_0), lt_b43_0_b43_1, K45, pf45_0, pf45_1, pf45_2, pf45_3, E_b43_0_u79, F_b43_0_value_u80, F_b43_0_coder_u81, E_b43_1_u82, V_b43_1_u83⟩
theorem ef_rm5B (m : MethodId) (a0 : Addr) (a1 : Addr) : entryFrame m #[(.ref a0), (.ref a1)] 2 = mkF m 0 #[vR a0, vR a1] [] := by first | (simp [entryFrame, mkF, argsToLocals, Value.category]; done) | rfl
def Q5B (Z : State) (a0 : Addr) (a1 : Addr) (sC : Int32) (aS : Addr) (kaS : ClassId) (ls : Int32) (fS : Nat → Value) (aT : Addr) (kaT : ClassId) (ln : Int32) (fT : Nat → Value) (uA : Addr) (uB : Addr) (h0 : Heap) (n0 : Nat) (v : Option Value) (h : Heap) (L : List Loc) : Prop := ∃ r0 : Addr, ∃ r1 : Addr, ∃ r2 : Addr, ∃ rk0 : ClassId, v = some (.ref r0) ∧ Fr n0 L ∧ h0.size ≤ r0 ∧ r0 < r1 ∧ r1 < r2 ∧ Keep h0 h [] ∧ Exa Z h r0 cSX ∧ Unt h r0 ∧ Fld Z h r0 cTN "detailMessage" "Ljava/lang/String;" (.ref r1) ∧ Fld Z h r0 cTN "cause" "Ljava/lang/Throwable;" .null ∧ Exa Z h r1 cST ∧ Fld Z h r1 cST "value" "[B" (.ref r2) ∧ Fld Z h r1 cST "coder" "B" (.int (0 : Int32)) ∧ Exa Z h r2 "[B" ∧ own_Arf Z h r2 rk0 .byte (((((0 : Int32) + ls) + (35 : Int32)) + ln) - (0 : Int32)) (own_cpf (own_cpf fT ((0 : Int32)).toNatClampNeg (own_cpf (own_cpf own_lit ((0 : Int32)).toNatClampNeg (own_cpf (own_cpf fS ((0 : Int32)).toNatClampNeg (fun _ => (.int (0 : Int32))) ((0 : Int32)).toNatClampNeg (ls).toNatClampNeg) ((0 : Int32)).toNatClampNeg (fun _ => (.int (0 : Int32))) ((0 : Int32)).toNatClampNeg ((16 : Int32)).toNatClampNeg) (((0 : Int32) + ls)).toNatClampNeg ((35 : Int32)).toNatClampNeg) ((0 : Int32)).toNatClampNeg (fun _ => (.int (0 : Int32))) ((0 : Int32)).toNatClampNeg ((own_nca (((0 : Int32) + ls) + (35 : Int32)) (16 : Int32))).toNatClampNeg) ((((0 : Int32) + ls) + (35 : Int32))).toNatClampNeg (ln).toNatClampNeg) ((0 : Int32)).toNatClampNeg (fun _ => (.int (0 : Int32))) ((0 : Int32)).toNatClampNeg ((((((0 : Int32) + ls) + (35 : Int32)) + ln) - (0 : Int32))).toNatClampNeg)
set_option maxRecDepth 65536 in
set_option maxHeartbeats 40000000 in
theorem rm5B (l : Launch) (Z : State) (az : Array Value) (hw : HW Z az) (ws : List Jvm.Cond) (a0 : Addr) (a1 : Addr) (sC : Int32) (aS : Addr) (kaS : ClassId) (ls : Int32) (fS : Nat → Value) (aT : Addr) (kaT : ClassId) (ln : Int32) (fT : Nat → Value) (uA : Addr) (uB : Addr) (h0 : Heap) (n0 : Nat) (Z0 : n0 ≤ h0.size) (S_COMPACT_STRINGS : Sta Z h0 cST "COMPACT_STRINGS" "Z" (.int sC)) (hc1 : ¬ (sC = (0 : Int32))) (E_a0 : Exa Z h0 a0 cST) (F_coder_a0 : Fld Z h0 a0 cST "coder" "B" (.int (0 : Int32))) (F_value_a0 : Fld Z h0 a0 cST "value" "[B" (.ref aS)) (V_aS : own_Arf Z h0 aS kaS .byte ls fS) (E_aS : Exa Z h0 aS "[B") (E_a1 : Exa Z h0 a1 cST) (F_coder_a1 : Fld Z h0 a1 cST "coder" "B" (.int (0 : Int32))) (F_value_a1 : Fld Z h0 a1 cST "value" "[B" (.ref aT)) (V_aT : own_Arf Z h0 aT kaT .byte ln fT) (E_aT : Exa Z h0 aT "[B") (T_x : ThS Z h0) (S_UNASSIGNED_STACK : Sta Z h0 cTN "UNASSIGNED_STACK" "[Ljava/lang/StackTraceElement;" (.ref uA)) (S_SUPPRESSED_SENTINEL : Sta Z h0 cTN "SUPPRESSED_SENTINEL" "Ljava/util/List;" (.ref uB)) (hc15 : ¬ ((0 : Int32) < (((0 : Int32) + ls) - (16 : Int32)))) (hc16 : ¬ (ls < (0 : Int32))) (hc17 : ((0 : Int32)).toNatClampNeg + (ls).toNatClampNeg ≤ (ls).toNatClampNeg) (hc18 : ((0 : Int32)).toNatClampNeg + (ls).toNatClampNeg ≤ ((16 : Int32)).toNatClampNeg) (hc19 : (0 : Int32) < ((((0 : Int32) + ls) + (35 : Int32)) - (16 : Int32))) (hc20 : ¬ (((((0 : Int32) + ls) + (35 : Int32)) - (16 : Int32)) < ((16 : Int32) + (2 : Int32)))) (hc21 : (0 : Int32) < ((16 : Int32) + ((((0 : Int32) + ls) + (35 : Int32)) - (16 : Int32)))) (hc22 : ¬ ((2147483639 : Int32) < ((16 : Int32) + ((((0 : Int32) + ls) + (35 : Int32)) - (16 : Int32))))) (hc23 : ¬ (((16 : Int32) + ((((0 : Int32) + ls) + (35 : Int32)) - (16 : Int32))) = (2147483647 : Int32))) (hc24 : ¬ ((own_nca (((0 : Int32) + ls) + (35 : Int32)) (16 : Int32)) = (16 : Int32))) (hc25 : ¬ ((own_nca (((0 : Int32) + ls) + (35 : Int32)) (16 : Int32)) < (0 : Int32))) (hc26 : ((own_nca (((0 : Int32) + ls) + (35 : Int32)) (16 : Int32))).toNatClampNeg ≤ 80) (hc27 : ¬ ((own_nca (((0 : Int32) + ls) + (35 : Int32)) (16 : Int32)) < (16 : Int32))) (hc28 : ((0 : Int32)).toNatClampNeg + ((16 : Int32)).toNatClampNeg ≤ ((own_nca (((0 : Int32) + ls) + (35 : Int32)) (16 : Int32))).toNatClampNeg) (hc29 : ¬ (((0 : Int32) + ls) < (0 : Int32))) (hc30 : (((0 : Int32) + ls)).toNatClampNeg + ((35 : Int32)).toNatClampNeg ≤ ((own_nca (((0 : Int32) + ls) + (35 : Int32)) (16 : Int32))).toNatClampNeg) (hc31 : (0 : Int32) < (((((0 : Int32) + ls) + (35 : Int32)) + ln) - (own_nca (((0 : Int32) + ls) + (35 : Int32)) (16 : Int32)))) (hc32 : (((((0 : Int32) + ls) + (35 : Int32)) + ln) - (own_nca (((0 : Int32) + ls) + (35 : Int32)) (16 : Int32))) < ((own_nca (((0 : Int32) + ls) + (35 : Int32)) (16 : Int32)) + (2 : Int32))) (hc33 : (0 : Int32) < ((own_nca (((0 : Int32) + ls) + (35 : Int32)) (16 : Int32)) + ((own_nca (((0 : Int32) + ls) + (35 : Int32)) (16 : Int32)) + (2 : Int32)))) (hc34 : ¬ ((2147483639 : Int32) < ((own_nca (((0 : Int32) + ls) + (35 : Int32)) (16 : Int32)) + ((own_nca (((0 : Int32) + ls) + (35 : Int32)) (16 : Int32)) + (2 : Int32))))) (hc35 : ¬ (((own_nca (((0 : Int32) + ls) + (35 : Int32)) (16 : Int32)) + ((own_nca (((0 : Int32) + ls) + (35 : Int32)) (16 : Int32)) + (2 : Int32))) = (2147483647 : Int32))) (hc36 : ¬ ((own_ncb (own_nca (((0 : Int32) + ls) + (35 : Int32)) (16 : Int32))) = (own_nca (((0 : Int32) + ls) + (35 : Int32)) (16 : Int32)))) (hc37 : ¬ ((own_ncb (own_nca (((0 : Int32) + ls) + (35 : Int32)) (16 : Int32))) < (0 : Int32))) (hc38 : ((own_ncb (own_nca (((0 : Int32) + ls) + (35 : Int32)) (16 : Int32)))).toNatClampNeg ≤ 80) (hc39 : ¬ ((own_ncb (own_nca (((0 : Int32) + ls) + (35 : Int32)) (16 : Int32))) < (own_nca (((0 : Int32) + ls) + (35 : Int32)) (16 : Int32)))) (hc40 : ((0 : Int32)).toNatClampNeg + ((own_nca (((0 : Int32) + ls) + (35 : Int32)) (16 : Int32))).toNatClampNeg ≤ ((own_nca (((0 : Int32) + ls) + (35 : Int32)) (16 : Int32))).toNatClampNeg) (hc41 : ((0 : Int32)).toNatClampNeg + ((own_nca (((0 : Int32) + ls) + (35 : Int32)) (16 : Int32))).toNatClampNeg ≤ ((own_ncb (own_nca (((0 : Int32) + ls) + (35 : Int32)) (16 : Int32)))).toNatClampNeg) (hc42 : ¬ ((((0 : Int32) + ls) + (35 : Int32)) < (0 : Int32))) (hc43 : ¬ (ln < (0 : Int32))) (hc44 : ((0 : Int32)).toNatClampNeg + (ln).toNatClampNeg ≤ (ln).toNatClampNeg) (hc45 : ((((0 : Int32) + ls) + (35 : Int32))).toNatClampNeg + (ln).toNatClampNeg ≤ ((own_ncb (own_nca (((0 : Int32) + ls) + (35 : Int32)) (16 : Int32)))).toNatClampNeg) (hc46 : ¬ (((((0 : Int32) + ls) + (35 : Int32)) + ln) = (own_ncb (own_nca (((0 : Int32) + ls) + (35 : Int32)) (16 : Int32))))) (hc47 : ¬ (((((0 : Int32) + ls) + (35 : Int32)) + ln) < (0 : Int32))) (hc48 : ¬ ((((((0 : Int32) + ls) + (35 : Int32)) + ln) - (0 : Int32)) < (0 : Int32))) (hc49 : ((((((0 : Int32) + ls) + (35 : Int32)) + ln) - (0 : Int32))).toNatClampNeg ≤ 80) (hc50 : (((((0 : Int32) + ls) + (35 : Int32)) + ln) - (0 : Int32)) < ((own_ncb (own_nca (((0 : Int32) + ls) + (35 : Int32)) (16 : Int32))) - (0 : Int32))) (hc51 : ((0 : Int32)).toNatClampNeg + ((((((0 : Int32) + ls) + (35 : Int32)) + ln) - (0 : Int32))).toNatClampNeg ≤ ((own_ncb (own_nca (((0 : Int32) + ls) + (35 : Int32)) (16 : Int32)))).toNatClampNeg) (hc52 : ((0 : Int32)).toNatClampNeg + ((((((0 : Int32) + ls) + (35 : Int32)) + ln) - (0 : Int32))).toNatClampNeg ≤ ((((((0 : Int32) + ls) + (35 : Int32)) + ln) - (0 : Int32))).toNatClampNeg) (hc53 : l.stackTraces = true) :
    MetFree l (⟨cWN, "closedStore", "(Ljava/lang/String;Ljava/lang/String;)Lcom/example/key_lease/keylease/store/StoreException;"⟩ : MethodName) (head1 (Jvm.Cond.code (⟨cWN, "closedStore", "(Ljava/lang/String;Ljava/lang/String;)Lcom/example/key_lease/keylease/store/StoreException;"⟩ : MethodName) prog_20_method_2_code 2 (some (.object cSX)) :: ws) (⟨7, 10, 3166, 99⟩ : Room)) (fun a U => a = #[(.ref a0), (.ref a1)] ∧ Z.Warmed39 U.vm ∧ U.heap = h0 ∧ CHv Z [(cWN, 36), (cLW, 46), (cST, 7)] U.vm h0) (fun _ _ bl s _ => s.vm.MethodsKnown ∧ s.vm.FramesKnown bl) (fun _ U o U' => ∃ v L, o = .returned v ∧ Q5B Z a0 a1 sC aS kaS ls fS aT kaT ln fT uA uB h0 n0 v U'.heap L ∧ CHr Z [(cWN, 36), (cLW, 46), (cST, 7)] U.vm U.heap U'.vm U'.heap ∧ ReturnedEndW U o U' L (⟨7, 10, 3166, 99⟩ : Room).cells (⟨7, 10, 3166, 99⟩ : Room).slots) := by
  refine MetFree.of_bodySF (plainFor_of_name pn_com_example_key_lease_keylease_store_WatchedName) hisR ?_
  intro p e s m args below meth c s₁ Bd hml0 hP hK
  obtain ⟨rfl, hZ, hh, hCH⟩ := hP
  have hx := Bd.exec
  have hby := Bd.bytes
  have hml : c.maxLocals = 2 := hml0
  have hown : s.vm.findClass cWN = some m.cls := findClass_of_methodNamed Bd.named
  have hnm := (name_of_methodNamed Bd.named Bd.method).1
  have X0 : Stand p l e (⟨7, 10, 3166, 99⟩ : Room) s m #[(.ref a0), (.ref a1)] below meth c s₁ [] 0 0 := Stand.of_body Bd
  have e0 : s₁.heap = h0 := by rw [← hh, Bd.state]; rfl
  have N0 := Fr.nil n0
  have pre0 : ∀ t, Steps p.tables e below (s₁.setTop (mkF m 0 #[vR a0, vR a1] [])) t → Steps p.tables e below (s₁.setTop (entryFrame m #[(.ref a0), (.ref a1)] 2)) t := fun t k => castTop (ef_rm5B m a0 a1) k
  have hZo := hZ
  have hEW : EW Z az [(cWN, 36), (cLW, 46), (cST, 7)] := (EW.cons (hw _ (mg 99 rfl)) (by decide) (EW.cons (hw _ (mg 238 rfl)) (by decide) (EW.cons (hw _ (mg 18 rfl)) (by decide) EW.nil)))
  obtain ⟨hTK, hBelow⟩ := hK
  have hS0 : s.Since s.vm 0 := (State.WarmedH.refl s).since 0
  have wS : ∀ a ∈ Bundle.stringAtoms, a.before az Z = true := fun d hd => by
    simp only [Bundle.stringAtoms, List.mem_cons, List.not_mem_nil, or_false] at hd
    rcases hd with rfl | rfl | rfl | rfl | rfl | rfl | rfl
    · exact (hw _ (mg 6 rfl))
    · exact (hw _ (mg 5 rfl))
    · exact (hw _ (mg 19 rfl))
    · exact (hw _ (mg 20 rfl))
    · exact (hw _ (mg 21 rfl))
    · exact (hw _ (mg 22 rfl))
    · exact (hw _ (mg 23 rfl))
  obtain ⟨T1, h1, X1, e1, E1, A1, D1, U1, st1⟩ := newO X0 hx hZ hown (w30 hw) (w31 hw) (w32 hw) e0 (g := (mkF m 0 #[vR a0, vR a1] [])) rfl (hb hby d5_0) (by decide) (by decide)
  obtain ⟨b1, g1⟩ : ∃ z, z = h0.size := ⟨_, rfl⟩
  rw [← g1] at A1 D1 st1 U1
  have g_b1 : n0 ≤ b1 := Nat.le_trans Z0 (Nat.le_of_eq g1.symm)
  have sz_b1 : h0.size ≤ b1 := Nat.le_trans (Nat.le_refl _) (Nat.le_of_eq g1.symm)
  have Z1 : n0 ≤ h1.size := Nat.le_trans Z0 E1.1
  have K1 : Keep h0 h1 [] := (Keep.refl h0 []).ext E1
  have Ut_b1 : Unt h1 b1 := U1
  have E_b1 := A1
  have F_cause_b1 : Fld Z h1 b1 cTN "cause" "Ljava/lang/Throwable;" .null := D1 (Or.inl (w187 hw)) (ty := (.object cTN)) (by decide)
  have F_stackTrace_b1 : Fld Z h1 b1 cTN "stackTrace" "[Ljava/lang/StackTraceElement;" .null := D1 (Or.inl (w190 hw)) (ty := (.array (.object "java/lang/StackTraceElement"))) (by decide)
  have F_suppressedExceptions_b1 : Fld Z h1 b1 cTN "suppressedExceptions" "Ljava/util/List;" .null := D1 (Or.inl (w193 hw)) (ty := (.object "java/util/List")) (by decide)
  have F_detailMessage_b1 : Fld Z h1 b1 cTN "detailMessage" "Ljava/lang/String;" .null := D1 (Or.inl (w217 hw)) (ty := (.object cST)) (by decide)
  have F_backtrace_b1 : Fld Z h1 b1 cTN "backtrace" "Ljava/lang/Object;" .null := D1 (Or.inl (w218 hw)) (ty := (.object "java/lang/Object")) (by decide)
  have F_depth_b1 : Fld Z h1 b1 cTN "depth" "I" (.int (0 : Int32)) := D1 (Or.inl (w219 hw)) (ty := .int) (by decide)
  obtain ⟨T2, h2, X2, e2, E2, A2, D2, -, st2⟩ := newO X1 hx hZ hown (w33 hw) (w34 hw) (w35 hw) e1 (g := (mkF m 4 #[vR a0, vR a1] [(.ref b1), (.ref b1)])) rfl (hb hby d5_4) (by decide) (by decide)
  obtain ⟨b2, g2⟩ : ∃ z, z = h1.size := ⟨_, rfl⟩
  rw [← g2] at A2 D2 st2
  have g_b2 : n0 ≤ b2 := Nat.le_trans Z1 (Nat.le_of_eq g2.symm)
  have sz_b2 : h0.size ≤ b2 := Nat.le_trans K1.1 (Nat.le_of_eq g2.symm)
  have Z2 : n0 ≤ h2.size := Nat.le_trans Z1 E2.1
  have K2 : Keep h0 h2 [] := K1.ext E2
  have E_b2 := A2
  have F_value_b2 : Fld Z h2 b2 cAB "value" "[B" .null := D2 (Or.inl (w48 hw)) (ty := (.array .byte)) (by decide)
  have F_coder_b2 : Fld Z h2 b2 cAB "coder" "B" (.int (0 : Int32)) := D2 (Or.inl (w50 hw)) (ty := .byte) (by decide)
  have F_count_b2 : Fld Z h2 b2 cAB "count" "I" (.int (0 : Int32)) := D2 (Or.inl (w73 hw)) (ty := .int) (by decide)
  have S_String_COMPACT_STRINGS_u4 : Sta Z h2 cST "COMPACT_STRINGS" "Z" (.int sC) := ((S_COMPACT_STRINGS.ext E1).ext E2)
  obtain ⟨_, _, ⟨T3, L3, k3', n3'⟩, -, X3, ⟨Lc3, hQ3, l3, y3, z3⟩, st3⟩ := X2.specialBack hx (y := (⟨cSB, "<init>", "()V"⟩ : MethodName)) rfl hown (mvT hZ (w36 hw)) (mvT hZ (w37 hw)) (mvT hZ (w38 hw)) (by decide) (backOf (W := 3) (rm6 l Z az hw [] b2 sC h2 n0 Z2 S_String_COMPACT_STRINGS_u4 hc1 E_b2 F_value_b2 F_coder_b2 F_count_b2 g_b2) hZ (w38 hw) (w35 hw) (by decide) (by decide)) (g := (mkF m 8 #[vR a0, vR a1] [(.ref b2), (.ref b2), (.ref b1), (.ref b1)])) rfl (by rw [hml]; rfl) (Steps.refl _) (a := b2) (argsL := []) (rest := [(.ref b2), (.ref b1), (.ref b1)]) (lenOf pd_23 rfl) rfl (Nat.le_of_eq rfl) (hb hby d5_8) (fun _ _ => ⟨rfl, e2, (by decide : 2 + 1 ≤ _), (by decide : 10 + 16 ≤ _)⟩)
  dsimp only [Pt.U, Pt.locs, Pt.cells, Pt.slots] at X3 l3 y3 z3 st3 hQ3
  subst l3 y3 z3
  obtain ⟨b3_0, kk3_0, rfl, N3q, s3_0, kq3, pf3_0, pf3_1, pf3_2, pf3_3, pf3_4, pf3_5⟩ := hQ3
  obtain ⟨Lg3, X3', N3⟩ := own_gen X3 (Fr.app N0 N3q)
  have g_b3_0 : n0 ≤ b3_0 := Nat.le_trans Z2 s3_0
  have sz_b3_0 : h0.size ≤ b3_0 := Nat.le_trans K2.1 s3_0
  have K3 : Keep h0 T3.heap [] := K2.trans kq3 (allS (Or.inr sz_b2) all0)
  have Z3 : n0 ≤ T3.heap.size := Nat.le_trans Z2 kq3.1
  have S_String_COMPACT_STRINGS_u6 : Sta Z T3.heap cST "COMPACT_STRINGS" "Z" (.int sC) := (own_Sta S_String_COMPACT_STRINGS_u4 kq3 (allS (P := fun x => ∀ cell : Cell, _ → cell.vm.isStatics = false) E_b2.nostat (fun _ m => nomatch m)))
  have E_a0_u7 : Exa Z T3.heap a0 cST := (((E_a0.ext E1).ext E2).keep kq3)
  have ne_a0_b2 : a0 ≠ b2 := own_ne (Nat.lt_of_lt_of_le (E_a0.ext E1).lt (Nat.le_of_eq g2.symm))
  have F_a0_coder_u8 : Fld Z T3.heap a0 cST "coder" "B" (.int (0 : Int32)) := (((F_coder_a0.ext E1).ext E2).keep kq3 (ninS ne_a0_b2 nin0))
  have F_a0_value_u9 : Fld Z T3.heap a0 cST "value" "[B" (.ref aS) := (((F_value_a0.ext E1).ext E2).keep kq3 (ninS ne_a0_b2 nin0))
  have ne_aS_b2 : aS ≠ b2 := own_ne (Nat.lt_of_lt_of_le (E_aS.ext E1).lt (Nat.le_of_eq g2.symm))
  have V_aS_u10 : own_Arf Z T3.heap aS kaS .byte ls fS := (((V_aS.ext E1).ext E2).keep kq3 (ninS ne_aS_b2 nin0))
  have E_aS_u11 : Exa Z T3.heap aS "[B" := (((E_aS.ext E1).ext E2).keep kq3)
  obtain ⟨cq5, kq5, q5a, q5b, q5c⟩ := isOf hZ rfl pf3_0
  obtain ⟨_, _, ⟨T5, L5, k5', n5'⟩, -, X5, ⟨Lc5, hQ5, l5, y5, z5⟩, st5⟩ := X3'.virtualBack hx (y := (⟨cSB, "append", "(Ljava/lang/String;)Ljava/lang/StringBuilder;"⟩ : MethodName)) (z := (⟨cSB, "append", "(Ljava/lang/String;)Ljava/lang/StringBuilder;"⟩ : MethodName)) hown (mvT hZ (w51 hw)) (mvT hZ (w52 hw)) (notFace_of_selects (args := #[]) (mvT hZ (w54 hw))) (mvT hZ (w54 hw)) (mvT hZ (w53 hw)) (by decide) (backOf (W := 2) (rm8F l Z az hw [] b2 a0 sC b3_0 kk3_0 (16 : Int32) (fun _ => (.int (0 : Int32))) (0 : Int32) aS kaS ls fS T3.heap n0 Z3 S_String_COMPACT_STRINGS_u6 hc1 pf3_0 pf3_1 pf3_2 pf3_5 pf3_4 pf3_3 E_a0_u7 F_a0_coder_u8 F_a0_value_u9 V_aS_u10 E_aS_u11 hc15 (by decide) hc16 hc17 hc18 g_b3_0 g_b2) hZ (w55 hw) (w35 hw) (by decide) (by decide)) q5a q5c (g := (mkF m 12 #[vR a0, vR a1] [(.ref a0), (.ref b2), (.ref b1), (.ref b1)])) rfl (by rw [hml]; rfl) (Steps.refl _) (argsL := [(.ref a0)]) (rest := [(.ref b1), (.ref b1)]) (lenOf pd_24 rfl) rfl (Nat.le_of_eq rfl) (hb hby d5_12) (fun _ _ => ⟨rfl, rfl, (by decide : 3 + 0 ≤ _), (by decide : 26 + 0 ≤ _)⟩)
  dsimp only [Pt.U, Pt.locs, Pt.cells, Pt.slots] at X5 l5 y5 z5 st5 hQ5
  subst l5 y5 z5
  obtain ⟨rfl, N5q, kq5, pf5_0, pf5_1, pf5_2, pf5_3, pf5_4, pf5_5⟩ := hQ5
  obtain ⟨Lg5, X5', N5⟩ := own_gen X5 (Fr.app N3 N5q)
  have K5 : Keep h0 T5.heap [] := K3.trans kq5 (allS (Or.inr sz_b3_0) (allS (Or.inr sz_b2) all0))
  have Z5 : n0 ≤ T5.heap.size := Nat.le_trans Z3 kq5.1
  have rh0 := CHr.refl hCH
  have rh12 := rh0.trans (CHr.ext E1 rh0.1)
  have rh13 := rh12.trans (CHr.ext E2 rh12.1)
  have sf15 : Safe Z [(cWN, 36), (cLW, 46), (cST, 7)] s.vm h2 b2 := Safe.exa hZo.alike E_b2 (by decide) (by decide)
  have rh14 := rh13.trans (CHr.keep kq3 (sfS sf15 sf0) rh13.1)
  have sf17 : Safe Z [(cWN, 36), (cLW, 46), (cST, 7)] s.vm T3.heap b2 := Safe.exa hZo.alike pf3_0 (by decide) (by decide)
  have sf18 : Safe Z [(cWN, 36), (cLW, 46), (cST, 7)] s.vm h2 b3_0 := Safe.new s3_0
  have sf19 : Safe Z [(cWN, 36), (cLW, 46), (cST, 7)] s.vm T3.heap b3_0 := Safe.keep kq3 (sfS sf15 sf0) rh13.1 sf18
  have rh16 := rh14.trans (CHr.keep kq5 (sfS sf19 (sfS sf17 sf0)) rh14.1)
  obtain ⟨l20, T20, h20, kk20, lb20, lk20, X20, e20, E20, hS20, hk20, hZ20, hown20, xl20, fc20, fv20, vl20, -, -, ch20, lt20, -, st20⟩ := ldcCH (s := s) (vm0 := s.vm) X5' hx hZ hown (w99 hw) wS rfl hS0 (Nat.le_trans (Nat.le_trans (Nat.le_trans (Nat.le_trans (Nat.zero_le _) E1.1) E2.1) kq3.1) kq5.1) hEW (mg 0 rfl) rh16.1 (vs := [(.int (32 : Int32)), (.int (105 : Int32)), (.int (115 : Int32)), (.int (32 : Int32)), (.int (99 : Int32)), (.int (108 : Int32)), (.int (111 : Int32)), (.int (115 : Int32)), (.int (101 : Int32)), (.int (100 : Int32)), (.int (58 : Int32)), (.int (32 : Int32)), (.int (105 : Int32)), (.int (116 : Int32)), (.int (32 : Int32)), (.int (104 : Int32)), (.int (101 : Int32)), (.int (97 : Int32)), (.int (114 : Int32)), (.int (115 : Int32)), (.int (32 : Int32)), (.int (110 : Int32)), (.int (111 : Int32)), (.int (32 : Int32)), (.int (114 : Int32)), (.int (101 : Int32)), (.int (108 : Int32)), (.int (101 : Int32)), (.int (97 : Int32)), (.int (115 : Int32)), (.int (101 : Int32)), (.int (32 : Int32)), (.int (111 : Int32)), (.int (102 : Int32)), (.int (32 : Int32))]) (z := (35 : Int32)) ⟨by decide, rfl⟩ (by decide) (by decide) (g := (mkF m 15 #[vR a0, vR a1] [(.ref b2), (.ref b1), (.ref b1)])) rfl (hb hby d5_15) (n := 140) (by decide) (by decide) (by decide) (by decide)
  have xb20 : Exa Z h20 lb20 "[B" := own_exaB (EL := [(cWN, 36), (cLW, 46), (cST, 7)]) ch20.1 (mg 0 rfl) hZ20 (w99 hw) hown20 lt20 fv20
  have Z20 : n0 ≤ h20.size := Nat.le_trans Z5 E20.1
  have K20 : Keep h0 h20 [] := K5.ext E20
  have rh21 := rh16.trans ch20
  have AL22 : own_Arf Z h20 lb20 lk20 .byte (35 : Int32) own_lit := own_Arf.ofV vl20 (fun _ _ => rfl)
  have S_String_COMPACT_STRINGS_u24 : Sta Z h20 cST "COMPACT_STRINGS" "Z" (.int sC) := ((own_Sta S_String_COMPACT_STRINGS_u6 kq5 (allS (P := fun x => ∀ cell : Cell, _ → cell.vm.isStatics = false) pf3_4.nostat (allS (P := fun x => ∀ cell : Cell, _ → cell.vm.isStatics = false) pf3_0.nostat (fun _ m => nomatch m)))).ext E20)
  have E_b2_u25 : Exa Z h20 b2 cSB := (pf5_2.ext E20)
  have F_b2_value_u26 : Fld Z h20 b2 cAB "value" "[B" (.ref b3_0) := (pf5_3.ext E20)
  have F_b2_coder_u27 : Fld Z h20 b2 cAB "coder" "B" (.int (0 : Int32)) := (pf5_4.ext E20)
  have V_b3_0_u28 : own_Arf Z h20 b3_0 kk3_0 .byte (16 : Int32) (own_cpf fS ((0 : Int32)).toNatClampNeg (fun _ => (.int (0 : Int32))) ((0 : Int32)).toNatClampNeg (ls).toNatClampNeg) := (pf5_1.ext E20)
  have E_b3_0_u29 : Exa Z h20 b3_0 "[B" := (pf5_0.ext E20)
  have F_b2_count_u30 : Fld Z h20 b2 cAB "count" "I" (.int ((0 : Int32) + ls)) := (pf5_5.ext E20)
  obtain ⟨cq23, kq23, q23a, q23b, q23c⟩ := isOf hZ20 e20 E_b2_u25
  obtain ⟨_, _, ⟨T23, L23, k23', n23'⟩, -, X23, ⟨Lc23, hQ23, l23, y23, z23⟩, st23⟩ := X20.virtualBack hx (y := (⟨cSB, "append", "(Ljava/lang/String;)Ljava/lang/StringBuilder;"⟩ : MethodName)) (z := (⟨cSB, "append", "(Ljava/lang/String;)Ljava/lang/StringBuilder;"⟩ : MethodName)) hown20 (mvT hZ20 (w51 hw)) (mvT hZ20 (w52 hw)) (notFace_of_selects (args := #[]) (mvT hZ20 (w54 hw))) (mvT hZ20 (w54 hw)) (mvT hZ20 (w53 hw)) (by decide) (backOf (W := 2) (rm8Ga l Z az hw [] b2 l20 sC b3_0 kk3_0 (16 : Int32) (own_cpf fS ((0 : Int32)).toNatClampNeg (fun _ => (.int (0 : Int32))) ((0 : Int32)).toNatClampNeg (ls).toNatClampNeg) ((0 : Int32) + ls) lb20 lk20 (35 : Int32) own_lit h20 n0 Z20 S_String_COMPACT_STRINGS_u24 hc1 E_b2_u25 F_b2_value_u26 F_b2_coder_u27 V_b3_0_u28 E_b3_0_u29 F_b2_count_u30 xl20 fc20 fv20 AL22 xb20 hc19 hc20 hc21 hc22 hc23 hc24 hc25 hc26 hc27 (by decide) (by decide) hc28 g_b2 hc29 (by decide) (by decide) hc30) hZ20 (w55 hw) (w35 hw) (by decide) (by decide)) q23a q23c (g := (mkF m 17 #[vR a0, vR a1] [(.ref l20), (.ref b2), (.ref b1), (.ref b1)])) rfl (by rw [hml]; rfl) (Steps.refl _) (argsL := [(.ref l20)]) (rest := [(.ref b1), (.ref b1)]) (lenOf pd_24 rfl) rfl (Nat.le_of_eq rfl) (hb hby d5_17) (fun _ _ => ⟨rfl, e20, (by decide : 5 + 1 ≤ _), (by decide : 170 + 80 ≤ _)⟩)
  dsimp only [Pt.U, Pt.locs, Pt.cells, Pt.slots] at X23 l23 y23 z23 st23 hQ23
  subst l23 y23 z23
  obtain ⟨b23_0, kk23_0, rfl, N23q, s23_0, kq23, pf23_0, pf23_1, pf23_2, pf23_3, pf23_4, pf23_5⟩ := hQ23
  obtain ⟨Lg23, X23', N23⟩ := own_gen X23 (Fr.app N5 N23q)
  have g_b23_0 : n0 ≤ b23_0 := Nat.le_trans Z20 s23_0
  have sz_b23_0 : h0.size ≤ b23_0 := Nat.le_trans K20.1 s23_0
  have K23 : Keep h0 T23.heap [] := K20.trans kq23 (allS (Or.inr sz_b2) all0)
  have Z23 : n0 ≤ T23.heap.size := Nat.le_trans Z20 kq23.1
  have S_String_COMPACT_STRINGS_u32 : Sta Z T23.heap cST "COMPACT_STRINGS" "Z" (.int sC) := (own_Sta S_String_COMPACT_STRINGS_u24 kq23 (allS (P := fun x => ∀ cell : Cell, _ → cell.vm.isStatics = false) E_b2_u25.nostat (fun _ m => nomatch m)))
  have c33 : Exa Z T3.heap a1 cST := (((E_a1.ext E1).ext E2).keep kq3)
  have E_a1_u34 : Exa Z T23.heap a1 cST := (((c33.keep kq5).ext E20).keep kq23)
  have ne_a1_b2 : a1 ≠ b2 := own_ne (Nat.lt_of_lt_of_le (E_a1.ext E1).lt (Nat.le_of_eq g2.symm))
  have c35 : Fld Z T3.heap a1 cST "coder" "B" (.int (0 : Int32)) := (((F_coder_a1.ext E1).ext E2).keep kq3 (ninS ne_a1_b2 nin0))
  have ne_a1_b3_0 : a1 ≠ b3_0 := own_ne (Nat.lt_of_lt_of_le ((E_a1.ext E1).ext E2).lt s3_0)
  have F_a1_coder_u36 : Fld Z T23.heap a1 cST "coder" "B" (.int (0 : Int32)) := (((c35.keep kq5 (ninS ne_a1_b3_0 (ninS ne_a1_b2 nin0))).ext E20).keep kq23 (ninS ne_a1_b2 nin0))
  have c37 : Fld Z T3.heap a1 cST "value" "[B" (.ref aT) := (((F_value_a1.ext E1).ext E2).keep kq3 (ninS ne_a1_b2 nin0))
  have F_a1_value_u38 : Fld Z T23.heap a1 cST "value" "[B" (.ref aT) := (((c37.keep kq5 (ninS ne_a1_b3_0 (ninS ne_a1_b2 nin0))).ext E20).keep kq23 (ninS ne_a1_b2 nin0))
  have ne_aT_b2 : aT ≠ b2 := own_ne (Nat.lt_of_lt_of_le (E_aT.ext E1).lt (Nat.le_of_eq g2.symm))
  have c39 : own_Arf Z T3.heap aT kaT .byte ln fT := (((V_aT.ext E1).ext E2).keep kq3 (ninS ne_aT_b2 nin0))
  have ne_aT_b3_0 : aT ≠ b3_0 := own_ne (Nat.lt_of_lt_of_le ((E_aT.ext E1).ext E2).lt s3_0)
  have V_aT_u40 : own_Arf Z T23.heap aT kaT .byte ln fT := (((c39.keep kq5 (ninS ne_aT_b3_0 (ninS ne_aT_b2 nin0))).ext E20).keep kq23 (ninS ne_aT_b2 nin0))
  have c41 : Exa Z T3.heap aT "[B" := (((E_aT.ext E1).ext E2).keep kq3)
  have E_aT_u42 : Exa Z T23.heap aT "[B" := (((c41.keep kq5).ext E20).keep kq23)
  obtain ⟨cq31, kq31, q31a, q31b, q31c⟩ := isOf hZ20 rfl pf23_0
  obtain ⟨_, _, ⟨T31, L31, k31', n31'⟩, -, X31, ⟨Lc31, hQ31, l31, y31, z31⟩, st31⟩ := X23'.virtualBack hx (y := (⟨cSB, "append", "(Ljava/lang/String;)Ljava/lang/StringBuilder;"⟩ : MethodName)) (z := (⟨cSB, "append", "(Ljava/lang/String;)Ljava/lang/StringBuilder;"⟩ : MethodName)) hown20 (mvT hZ20 (w51 hw)) (mvT hZ20 (w52 hw)) (notFace_of_selects (args := #[]) (mvT hZ20 (w54 hw))) (mvT hZ20 (w54 hw)) (mvT hZ20 (w53 hw)) (by decide) (backOf (W := 2) (rm8Gb l Z az hw [] b2 a1 sC b23_0 kk23_0 (own_nca (((0 : Int32) + ls) + (35 : Int32)) (16 : Int32)) (own_cpf own_lit ((0 : Int32)).toNatClampNeg (own_cpf (own_cpf fS ((0 : Int32)).toNatClampNeg (fun _ => (.int (0 : Int32))) ((0 : Int32)).toNatClampNeg (ls).toNatClampNeg) ((0 : Int32)).toNatClampNeg (fun _ => (.int (0 : Int32))) ((0 : Int32)).toNatClampNeg ((16 : Int32)).toNatClampNeg) (((0 : Int32) + ls)).toNatClampNeg ((35 : Int32)).toNatClampNeg) (((0 : Int32) + ls) + (35 : Int32)) aT kaT ln fT T23.heap n0 Z23 S_String_COMPACT_STRINGS_u32 hc1 pf23_0 pf23_1 pf23_2 pf23_5 pf23_4 pf23_3 E_a1_u34 F_a1_coder_u36 F_a1_value_u38 V_aT_u40 E_aT_u42 hc31 hc32 hc33 hc34 hc35 hc36 hc37 hc38 hc39 hc25 hc40 hc41 g_b2 hc42 hc43 hc44 hc45) hZ20 (w55 hw) (w35 hw) (by decide) (by decide)) q31a q31c (g := (mkF m 21 #[vR a0, vR a1] [(.ref a1), (.ref b2), (.ref b1), (.ref b1)])) rfl (by rw [hml]; rfl) (Steps.refl _) (argsL := [(.ref a1)]) (rest := [(.ref b1), (.ref b1)]) (lenOf pd_24 rfl) rfl (Nat.le_of_eq rfl) (hb hby d5_21) (fun _ _ => ⟨rfl, rfl, (by decide : 6 + 1 ≤ _), (by decide : 250 + 80 ≤ _)⟩)
  dsimp only [Pt.U, Pt.locs, Pt.cells, Pt.slots] at X31 l31 y31 z31 st31 hQ31
  subst l31 y31 z31
  obtain ⟨b31_0, kk31_0, rfl, N31q, s31_0, kq31, pf31_0, pf31_1, pf31_2, pf31_3, pf31_4, pf31_5⟩ := hQ31
  obtain ⟨Lg31, X31', N31⟩ := own_gen X31 (Fr.app N23 N31q)
  have g_b31_0 : n0 ≤ b31_0 := Nat.le_trans Z23 s31_0
  have sz_b31_0 : h0.size ≤ b31_0 := Nat.le_trans K23.1 s31_0
  have K31 : Keep h0 T31.heap [] := K23.trans kq31 (allS (Or.inr sz_b2) all0)
  have Z31 : n0 ≤ T31.heap.size := Nat.le_trans Z23 kq31.1
  have S_String_COMPACT_STRINGS_u44 : Sta Z T31.heap cST "COMPACT_STRINGS" "Z" (.int sC) := (own_Sta S_String_COMPACT_STRINGS_u32 kq31 (allS (P := fun x => ∀ cell : Cell, _ → cell.vm.isStatics = false) pf23_0.nostat (fun _ m => nomatch m)))
  obtain ⟨cq43, kq43, q43a, q43b, q43c⟩ := isOf hZ20 rfl pf31_0
  obtain ⟨_, _, ⟨T43, L43, k43', n43'⟩, -, X43, ⟨Lc43, hQ43, l43, y43, z43⟩, st43⟩ := X31'.virtualBack hx (y := (⟨cSB, "toString", "()Ljava/lang/String;"⟩ : MethodName)) (z := (⟨cSB, "toString", "()Ljava/lang/String;"⟩ : MethodName)) hown20 (mvT hZ20 (w123 hw)) (mvT hZ20 (w124 hw)) (notFace_of_selects (args := #[]) (mvT hZ20 (w126 hw))) (mvT hZ20 (w126 hw)) (mvT hZ20 (w125 hw)) (by decide) (backOf (W := 2) (rm21r l Z az hw [] b2 sC b31_0 kk31_0 (own_ncb (own_nca (((0 : Int32) + ls) + (35 : Int32)) (16 : Int32))) (own_cpf fT ((0 : Int32)).toNatClampNeg (own_cpf (own_cpf own_lit ((0 : Int32)).toNatClampNeg (own_cpf (own_cpf fS ((0 : Int32)).toNatClampNeg (fun _ => (.int (0 : Int32))) ((0 : Int32)).toNatClampNeg (ls).toNatClampNeg) ((0 : Int32)).toNatClampNeg (fun _ => (.int (0 : Int32))) ((0 : Int32)).toNatClampNeg ((16 : Int32)).toNatClampNeg) (((0 : Int32) + ls)).toNatClampNeg ((35 : Int32)).toNatClampNeg) ((0 : Int32)).toNatClampNeg (fun _ => (.int (0 : Int32))) ((0 : Int32)).toNatClampNeg ((own_nca (((0 : Int32) + ls) + (35 : Int32)) (16 : Int32))).toNatClampNeg) ((((0 : Int32) + ls) + (35 : Int32))).toNatClampNeg (ln).toNatClampNeg) ((((0 : Int32) + ls) + (35 : Int32)) + ln) T31.heap n0 Z31 S_String_COMPACT_STRINGS_u44 hc1 pf31_0 pf31_1 pf31_2 pf31_5 pf31_4 pf31_3 hc46 hc47 hc48 hc49 hc50 hc51 hc52) hZ20 (w127 hw) (w35 hw) (by decide) (by decide)) q43a q43c (g := (mkF m 24 #[vR a0, vR a1] [(.ref b2), (.ref b1), (.ref b1)])) rfl (by rw [hml]; rfl) (Steps.refl _) (argsL := []) (rest := [(.ref b1), (.ref b1)]) (lenOf pd_25 rfl) rfl (Nat.le_of_eq rfl) (hb hby d5_24) (fun _ _ => ⟨rfl, rfl, (by decide : 7 + 2 ≤ _), (by decide : 330 + 84 ≤ _)⟩)
  dsimp only [Pt.U, Pt.locs, Pt.cells, Pt.slots] at X43 l43 y43 z43 st43 hQ43
  subst l43 y43 z43
  obtain ⟨b43_0, b43_1, kk43_0, rfl, N43q, s43_0, lt_b43_0_b43_1, kq43, pf43_0, pf43_1, pf43_2, pf43_3, pf43_4⟩ := hQ43
  obtain ⟨Lg43, X43', N43⟩ := own_gen X43 (Fr.app N31 N43q)
  have g_b43_0 : n0 ≤ b43_0 := Nat.le_trans Z31 s43_0
  have sz_b43_0 : h0.size ≤ b43_0 := Nat.le_trans K31.1 s43_0
  have g_b43_1 : n0 ≤ b43_1 := Nat.le_trans Z31 (Nat.le_trans s43_0 (Nat.le_of_lt lt_b43_0_b43_1))
  have sz_b43_1 : h0.size ≤ b43_1 := Nat.le_trans K31.1 (Nat.le_trans s43_0 (Nat.le_of_lt lt_b43_0_b43_1))
  have K43 : Keep h0 T43.heap [] := K31.trans kq43 all0
  have Z43 : n0 ≤ T43.heap.size := Nat.le_trans Z31 kq43.1
  have c46 : Exa Z T5.heap b1 cSX := (((E_b1.ext E2).keep kq3).keep kq5)
  have c47 : Exa Z T31.heap b1 cSX := (((c46.ext E20).keep kq23).keep kq31)
  have E_b1_u48 : Exa Z T43.heap b1 cSX := (c47.keep kq43)
  have ne_b1_b2 : b1 ≠ b2 := own_ne (Nat.lt_of_lt_of_le E_b1.lt (Nat.le_of_eq g2.symm))
  have ne_b1_b3_0 : b1 ≠ b3_0 := own_ne (Nat.lt_of_lt_of_le (E_b1.ext E2).lt s3_0)
  have c49 : Fld Z T5.heap b1 cTN "cause" "Ljava/lang/Throwable;" .null := (((F_cause_b1.ext E2).keep kq3 (ninS ne_b1_b2 nin0)).keep kq5 (ninS ne_b1_b3_0 (ninS ne_b1_b2 nin0)))
  have c50 : Fld Z T31.heap b1 cTN "cause" "Ljava/lang/Throwable;" .null := (((c49.ext E20).keep kq23 (ninS ne_b1_b2 nin0)).keep kq31 (ninS ne_b1_b2 nin0))
  have F_b1_cause_u51 : Fld Z T43.heap b1 cTN "cause" "Ljava/lang/Throwable;" .null := (c50.keep kq43 nin0)
  have c52 : Fld Z T5.heap b1 cTN "stackTrace" "[Ljava/lang/StackTraceElement;" .null := (((F_stackTrace_b1.ext E2).keep kq3 (ninS ne_b1_b2 nin0)).keep kq5 (ninS ne_b1_b3_0 (ninS ne_b1_b2 nin0)))
  have c53 : Fld Z T31.heap b1 cTN "stackTrace" "[Ljava/lang/StackTraceElement;" .null := (((c52.ext E20).keep kq23 (ninS ne_b1_b2 nin0)).keep kq31 (ninS ne_b1_b2 nin0))
  have F_b1_stackTrace_u54 : Fld Z T43.heap b1 cTN "stackTrace" "[Ljava/lang/StackTraceElement;" .null := (c53.keep kq43 nin0)
  have c55 : Fld Z T5.heap b1 cTN "suppressedExceptions" "Ljava/util/List;" .null := (((F_suppressedExceptions_b1.ext E2).keep kq3 (ninS ne_b1_b2 nin0)).keep kq5 (ninS ne_b1_b3_0 (ninS ne_b1_b2 nin0)))
  have c56 : Fld Z T31.heap b1 cTN "suppressedExceptions" "Ljava/util/List;" .null := (((c55.ext E20).keep kq23 (ninS ne_b1_b2 nin0)).keep kq31 (ninS ne_b1_b2 nin0))
  have F_b1_suppressedExceptions_u57 : Fld Z T43.heap b1 cTN "suppressedExceptions" "Ljava/util/List;" .null := (c56.keep kq43 nin0)
  have c58 : Fld Z T5.heap b1 cTN "detailMessage" "Ljava/lang/String;" .null := (((F_detailMessage_b1.ext E2).keep kq3 (ninS ne_b1_b2 nin0)).keep kq5 (ninS ne_b1_b3_0 (ninS ne_b1_b2 nin0)))
  have c59 : Fld Z T31.heap b1 cTN "detailMessage" "Ljava/lang/String;" .null := (((c58.ext E20).keep kq23 (ninS ne_b1_b2 nin0)).keep kq31 (ninS ne_b1_b2 nin0))
  have F_b1_detailMessage_u60 : Fld Z T43.heap b1 cTN "detailMessage" "Ljava/lang/String;" .null := (c59.keep kq43 nin0)
  have c61 : Fld Z T5.heap b1 cTN "backtrace" "Ljava/lang/Object;" .null := (((F_backtrace_b1.ext E2).keep kq3 (ninS ne_b1_b2 nin0)).keep kq5 (ninS ne_b1_b3_0 (ninS ne_b1_b2 nin0)))
  have c62 : Fld Z T31.heap b1 cTN "backtrace" "Ljava/lang/Object;" .null := (((c61.ext E20).keep kq23 (ninS ne_b1_b2 nin0)).keep kq31 (ninS ne_b1_b2 nin0))
  have F_b1_backtrace_u63 : Fld Z T43.heap b1 cTN "backtrace" "Ljava/lang/Object;" .null := (c62.keep kq43 nin0)
  have c64 : Fld Z T5.heap b1 cTN "depth" "I" (.int (0 : Int32)) := (((F_depth_b1.ext E2).keep kq3 (ninS ne_b1_b2 nin0)).keep kq5 (ninS ne_b1_b3_0 (ninS ne_b1_b2 nin0)))
  have c65 : Fld Z T31.heap b1 cTN "depth" "I" (.int (0 : Int32)) := (((c64.ext E20).keep kq23 (ninS ne_b1_b2 nin0)).keep kq31 (ninS ne_b1_b2 nin0))
  have F_b1_depth_u66 : Fld Z T43.heap b1 cTN "depth" "I" (.int (0 : Int32)) := (c65.keep kq43 nin0)
  have c67 : ThS Z T3.heap := (ThS.keep kq3 (allS (P := fun x => ∀ cell : Cell, _ → cell.vm.isStatics = false) E_b2.nostat (fun _ m => nomatch m)) (ThS.ext E2 (ThS.ext E1 T_x)))
  have c68 : ThS Z T23.heap := (ThS.keep kq23 (allS (P := fun x => ∀ cell : Cell, _ → cell.vm.isStatics = false) E_b2_u25.nostat (fun _ m => nomatch m)) (ThS.ext E20 (ThS.keep kq5 (allS (P := fun x => ∀ cell : Cell, _ → cell.vm.isStatics = false) pf3_4.nostat (allS (P := fun x => ∀ cell : Cell, _ → cell.vm.isStatics = false) pf3_0.nostat (fun _ m => nomatch m))) c67)))
  have T_x_u69 : ThS Z T43.heap := (ThS.keep kq43 (fun _ m => nomatch m) (ThS.keep kq31 (allS (P := fun x => ∀ cell : Cell, _ → cell.vm.isStatics = false) pf23_0.nostat (fun _ m => nomatch m)) c68))
  have c70 : Unt T5.heap b1 := (Unt.keep kq5 (ninS ne_b1_b3_0 (ninS ne_b1_b2 nin0)) (Unt.keep kq3 (ninS ne_b1_b2 nin0) (Unt.keep ((Keep.refl _ []).ext E2) nin0 Ut_b1)))
  have c71 : Unt T31.heap b1 := (Unt.keep kq31 (ninS ne_b1_b2 nin0) (Unt.keep kq23 (ninS ne_b1_b2 nin0) (Unt.keep ((Keep.refl _ []).ext E20) nin0 c70)))
  have U_b1_u72 : Unt T43.heap b1 := (Unt.keep kq43 nin0 c71)
  have c73 : Sta Z T3.heap cTN "UNASSIGNED_STACK" "[Ljava/lang/StackTraceElement;" (.ref uA) := (own_Sta ((S_UNASSIGNED_STACK.ext E1).ext E2) kq3 (allS (P := fun x => ∀ cell : Cell, _ → cell.vm.isStatics = false) E_b2.nostat (fun _ m => nomatch m)))
  have c74 : Sta Z T23.heap cTN "UNASSIGNED_STACK" "[Ljava/lang/StackTraceElement;" (.ref uA) := (own_Sta ((own_Sta c73 kq5 (allS (P := fun x => ∀ cell : Cell, _ → cell.vm.isStatics = false) pf3_4.nostat (allS (P := fun x => ∀ cell : Cell, _ → cell.vm.isStatics = false) pf3_0.nostat (fun _ m => nomatch m)))).ext E20) kq23 (allS (P := fun x => ∀ cell : Cell, _ → cell.vm.isStatics = false) E_b2_u25.nostat (fun _ m => nomatch m)))
  have S_Throwable_UNASSIGNED_STACK_u75 : Sta Z T43.heap cTN "UNASSIGNED_STACK" "[Ljava/lang/StackTraceElement;" (.ref uA) := (own_Sta (own_Sta c74 kq31 (allS (P := fun x => ∀ cell : Cell, _ → cell.vm.isStatics = false) pf23_0.nostat (fun _ m => nomatch m))) kq43 (fun _ m => nomatch m))
  have c76 : Sta Z T3.heap cTN "SUPPRESSED_SENTINEL" "Ljava/util/List;" (.ref uB) := (own_Sta ((S_SUPPRESSED_SENTINEL.ext E1).ext E2) kq3 (allS (P := fun x => ∀ cell : Cell, _ → cell.vm.isStatics = false) E_b2.nostat (fun _ m => nomatch m)))
  have c77 : Sta Z T23.heap cTN "SUPPRESSED_SENTINEL" "Ljava/util/List;" (.ref uB) := (own_Sta ((own_Sta c76 kq5 (allS (P := fun x => ∀ cell : Cell, _ → cell.vm.isStatics = false) pf3_4.nostat (allS (P := fun x => ∀ cell : Cell, _ → cell.vm.isStatics = false) pf3_0.nostat (fun _ m => nomatch m)))).ext E20) kq23 (allS (P := fun x => ∀ cell : Cell, _ → cell.vm.isStatics = false) E_b2_u25.nostat (fun _ m => nomatch m)))
  have S_Throwable_SUPPRESSED_SENTINEL_u78 : Sta Z T43.heap cTN "SUPPRESSED_SENTINEL" "Ljava/util/List;" (.ref uB) := (own_Sta (own_Sta c77 kq31 (allS (P := fun x => ∀ cell : Cell, _ → cell.vm.isStatics = false) pf23_0.nostat (fun _ m => nomatch m))) kq43 (fun _ m => nomatch m))
  obtain ⟨_, _, ⟨T45, L45, k45', n45'⟩, -, X45, ⟨Lc45, hQ45, l45, y45, z45⟩, st45⟩ := X43'.specialBack hx (y := (⟨cSX, "<init>", "(Ljava/lang/String;Ljava/lang/Throwable;)V"⟩ : MethodName)) rfl hown20 (mvT hZ20 (w165 hw)) (mvT hZ20 (w166 hw)) (mvT hZ20 (w167 hw)) (by decide) (backOfKL (W := 1) (rm29 l Z az hw [] b1 b43_0 uA uB T43.heap n0 Z43 E_b1_u48 F_b1_cause_u51 F_b1_stackTrace_u54 F_b1_suppressedExceptions_u57 F_b1_detailMessage_u60 F_b1_backtrace_u63 F_b1_depth_u66 T_x_u69 U_b1_u72 S_Throwable_UNASSIGNED_STACK_u75 S_Throwable_SUPPRESSED_SENTINEL_u78 g_b1 hc53) hZ20 (w167 hw) (w32 hw) (by decide) (by decide) (Jvm.Vm.MethodsKnown.alikeC hS20.1.alike hTK) (Jvm.Vm.FramesKnown.alikeC hS20.1.alike hBelow)) (g := (mkF m 28 #[vR a0, vR a1] [.null, (.ref b43_0), (.ref b1), (.ref b1)])) rfl (by rw [hml]; rfl) (Steps.refl _) (a := b1) (argsL := [(.ref b43_0), .null]) (rest := [(.ref b1)]) (lenOf pd_22 rfl) rfl (Nat.le_of_eq rfl) (hb hby d5_28) (fun _ _ => ⟨rfl, rfl, (by decide : 9 + 1 ≤ _), (by decide : 414 + 2752 ≤ _)⟩)
  dsimp only [Pt.U, Pt.locs, Pt.cells, Pt.slots] at X45 l45 y45 z45 st45 hQ45
  subst l45 y45 z45
  obtain ⟨rfl, N45q, kq45, pf45_0, pf45_1, pf45_2, pf45_3⟩ := hQ45
  obtain ⟨Lg45, X45', N45⟩ := own_gen X45 (Fr.app N43 N45q)
  have K45 : Keep h0 T45.heap [] := K43.trans kq45 (allS (Or.inr sz_b1) all0)
  have Z45 : n0 ≤ T45.heap.size := Nat.le_trans Z43 kq45.1
  have E_b43_0_u79 : Exa Z T45.heap b43_0 cST := (pf43_0.keep kq45)
  have ne_b1_b43_0 : b1 ≠ b43_0 := own_ne (Nat.lt_of_lt_of_le c47.lt s43_0)
  have F_b43_0_value_u80 : Fld Z T45.heap b43_0 cST "value" "[B" (.ref b43_1) := (pf43_1.keep kq45 (ninS (Ne.symm ne_b1_b43_0) nin0))
  have F_b43_0_coder_u81 : Fld Z T45.heap b43_0 cST "coder" "B" (.int (0 : Int32)) := (pf43_2.keep kq45 (ninS (Ne.symm ne_b1_b43_0) nin0))
  have E_b43_1_u82 : Exa Z T45.heap b43_1 "[B" := (pf43_3.keep kq45)
  have ne_b1_b43_1 : b1 ≠ b43_1 := own_ne (Nat.lt_of_lt_of_le c47.lt (Nat.le_trans s43_0 (Nat.le_of_lt lt_b43_0_b43_1)))
  have V_b43_1_u83 : own_Arf Z T45.heap b43_1 kk43_0 .byte (((((0 : Int32) + ls) + (35 : Int32)) + ln) - (0 : Int32)) (own_cpf (own_cpf fT ((0 : Int32)).toNatClampNeg (own_cpf (own_cpf own_lit ((0 : Int32)).toNatClampNeg (own_cpf (own_cpf fS ((0 : Int32)).toNatClampNeg (fun _ => (.int (0 : Int32))) ((0 : Int32)).toNatClampNeg (ls).toNatClampNeg) ((0 : Int32)).toNatClampNeg (fun _ => (.int (0 : Int32))) ((0 : Int32)).toNatClampNeg ((16 : Int32)).toNatClampNeg) (((0 : Int32) + ls)).toNatClampNeg ((35 : Int32)).toNatClampNeg) ((0 : Int32)).toNatClampNeg (fun _ => (.int (0 : Int32))) ((0 : Int32)).toNatClampNeg ((own_nca (((0 : Int32) + ls) + (35 : Int32)) (16 : Int32))).toNatClampNeg) ((((0 : Int32) + ls) + (35 : Int32))).toNatClampNeg (ln).toNatClampNeg) ((0 : Int32)).toNatClampNeg (fun _ => (.int (0 : Int32))) ((0 : Int32)).toNatClampNeg ((((((0 : Int32) + ls) + (35 : Int32)) + ln) - (0 : Int32))).toNatClampNeg) := (pf43_4.keep kq45 (ninS (Ne.symm ne_b1_b43_1) nin0))
  have sf85 : Safe Z [(cWN, 36), (cLW, 46), (cST, 7)] T20.vm h20 b2 := Safe.exa hZ20.alike E_b2_u25 (by decide) (by decide)
  have rh84 := rh21.trans (CHr.keep kq23 (sfS sf85 sf0) rh21.1)
  have sf87 : Safe Z [(cWN, 36), (cLW, 46), (cST, 7)] T20.vm T23.heap b2 := Safe.exa hZ20.alike pf23_0 (by decide) (by decide)
  have rh86 := rh84.trans (CHr.keep kq31 (sfS sf87 sf0) rh84.1)
  have rh88 := rh86.trans (CHr.keep kq43 sf0 rh86.1)
  have sf90 : Safe Z [(cWN, 36), (cLW, 46), (cST, 7)] T20.vm T43.heap b1 := Safe.exa hZ20.alike E_b1_u48 (by decide) (by decide)
  have rh89 := rh88.trans (CHr.keep kq45 (sfS sf90 sf0) rh88.1)
  have hCHR := rh89.trans (CHv.at (s := s) (vm0 := T20.vm) X45' hZ20 hEW rh89.1)
  obtain ⟨fs, hr, hrun, hended, hWE⟩ := X45'.leaveW (s := s) hS20 (Nat.le_trans (Nat.le_trans (Nat.le_trans (Nat.le_trans hk20 kq23.1) kq31.1) kq43.1) kq45.1) (v := some (.ref b1)) (fun h => by rw [Bd.returns] at h; cases h)
  refine ⟨_, _, pre0 _ ?_, hrun, hended, _, _, rfl, ?_, (by rw [hh]; show CHr _ _ _ _ T45.vm T45.heap; exact hCHR), hWE.1, hWE.2.1, hWE.2.2.1, hWE.2.2.2.mono (by decide) (by decide)⟩
  · show SP p e below s₁ (mkF m 0 #[vR a0, vR a1] []) _
    refine st1 _ ?_
    show SP p e below T1 (mkF m 3 #[vR a0, vR a1] [(.ref b1)]) _
    refine XS.dup X1.here hx rfl (hb hby d5_3) rfl rfl ?_
    show SP p e below T1 (mkF m 4 #[vR a0, vR a1] [(.ref b1), (.ref b1)]) _
    refine st2 _ ?_
    show SP p e below T2 (mkF m 7 #[vR a0, vR a1] [(.ref b2), (.ref b1), (.ref b1)]) _
    refine XS.dup X2.here hx rfl (hb hby d5_7) rfl rfl ?_
    show SP p e below T2 (mkF m 8 #[vR a0, vR a1] [(.ref b2), (.ref b2), (.ref b1), (.ref b1)]) _
    refine st3.trans ?_
    show SP p e below T3 (mkF m 11 #[vR a0, vR a1] [(.ref b2), (.ref b1), (.ref b1)]) _
    refine XS.aloadN X3'.here hx rfl (hb hby d5_11) rfl rfl ?_
    show SP p e below T3 (mkF m 12 #[vR a0, vR a1] [(.ref a0), (.ref b2), (.ref b1), (.ref b1)]) _
    refine st5.trans ?_
    show SP p e below T5 (mkF m 15 #[vR a0, vR a1] [(.ref b2), (.ref b1), (.ref b1)]) _
    refine st20 _ ?_
    show SP p e below T20 (mkF m 17 #[vR a0, vR a1] [(.ref l20), (.ref b2), (.ref b1), (.ref b1)]) _
    refine st23.trans ?_
    show SP p e below T23 (mkF m 20 #[vR a0, vR a1] [(.ref b2), (.ref b1), (.ref b1)]) _
    refine XS.aloadN X23'.here hx rfl (hb hby d5_20) rfl rfl ?_
    show SP p e below T23 (mkF m 21 #[vR a0, vR a1] [(.ref a1), (.ref b2), (.ref b1), (.ref b1)]) _
    refine st31.trans ?_
    show SP p e below T31 (mkF m 24 #[vR a0, vR a1] [(.ref b2), (.ref b1), (.ref b1)]) _
    refine st43.trans ?_
    show SP p e below T43 (mkF m 27 #[vR a0, vR a1] [(.ref b43_0), (.ref b1), (.ref b1)]) _
    refine XS.aconstNull X43'.here hx rfl (hb hby d5_27) ?_
    show SP p e below T43 (mkF m 28 #[vR a0, vR a1] [.null, (.ref b43_0), (.ref b1), (.ref b1)]) _
    refine st45.trans ?_
    show SP p e below T45 (mkF m 31 #[vR a0, vR a1] [(.ref b1)]) _
    jvm_step X45'.here [X45'.here.top, hx, (hb hby d5_31), X45'.method', Bd.returns, Value.isRef, FieldType.isReference]
    first | (intro acts; rw [hr _ acts rfl rfl rfl]) | rw [hr _ _ rfl rfl rfl]
    exact Steps.refl _
  · show Q5B Z a0 a1 sC aS kaS ls fS aT kaT ln fT uA uB h0 n0 _ T45.heap _
    exact ⟨b1, b43_0, b43_1, kk43_0, rfl, N45, sz_b1, (Nat.lt_of_lt_of_le c47.lt s43_0), lt_b43_0_b43_1, K45, pf45_0, pf45_1, pf45_2, pf45_3, E_b43_0_u79, F_b43_0_value_u80, F_b43_0_coder_u81, E_b43_1_u82, V_b43_1_u83⟩
theorem own_csA {ls : Int32} (hls : own_n3 ls) : ¬ ((0 : Int32) < (((0 : Int32) + ls) - (16 : Int32))) ∧ ¬ (ls < (0 : Int32)) ∧ ((0 : Int32)).toNatClampNeg + (ls).toNatClampNeg ≤ (ls).toNatClampNeg ∧ ((0 : Int32)).toNatClampNeg + (ls).toNatClampNeg ≤ ((16 : Int32)).toNatClampNeg ∧ (0 : Int32) < ((((0 : Int32) + ls) + (35 : Int32)) - (16 : Int32)) ∧ ¬ (((((0 : Int32) + ls) + (35 : Int32)) - (16 : Int32)) < ((16 : Int32) + (2 : Int32))) ∧ (0 : Int32) < ((16 : Int32) + ((((0 : Int32) + ls) + (35 : Int32)) - (16 : Int32))) ∧ ¬ ((2147483639 : Int32) < ((16 : Int32) + ((((0 : Int32) + ls) + (35 : Int32)) - (16 : Int32)))) ∧ ¬ (((16 : Int32) + ((((0 : Int32) + ls) + (35 : Int32)) - (16 : Int32))) = (2147483647 : Int32)) ∧ ¬ ((own_nca (((0 : Int32) + ls) + (35 : Int32)) (16 : Int32)) = (16 : Int32)) ∧ ¬ ((own_nca (((0 : Int32) + ls) + (35 : Int32)) (16 : Int32)) < (0 : Int32)) ∧ ((own_nca (((0 : Int32) + ls) + (35 : Int32)) (16 : Int32))).toNatClampNeg ≤ 80 ∧ ¬ ((own_nca (((0 : Int32) + ls) + (35 : Int32)) (16 : Int32)) < (16 : Int32)) ∧ ((0 : Int32)).toNatClampNeg + ((16 : Int32)).toNatClampNeg ≤ ((own_nca (((0 : Int32) + ls) + (35 : Int32)) (16 : Int32))).toNatClampNeg ∧ ¬ (((0 : Int32) + ls) < (0 : Int32)) ∧ (((0 : Int32) + ls)).toNatClampNeg + ((35 : Int32)).toNatClampNeg ≤ ((own_nca (((0 : Int32) + ls) + (35 : Int32)) (16 : Int32))).toNatClampNeg ∧ ¬ ((0 : Int32) < (((((0 : Int32) + ls) + (35 : Int32)) + (0 : Int32)) - (own_nca (((0 : Int32) + ls) + (35 : Int32)) (16 : Int32)))) ∧ ¬ ((((0 : Int32) + ls) + (35 : Int32)) < (0 : Int32)) ∧ ¬ ((0 : Int32) < (0 : Int32)) ∧ ((0 : Int32)).toNatClampNeg + ((0 : Int32)).toNatClampNeg ≤ ((0 : Int32)).toNatClampNeg ∧ ((((0 : Int32) + ls) + (35 : Int32))).toNatClampNeg + ((0 : Int32)).toNatClampNeg ≤ ((own_nca (((0 : Int32) + ls) + (35 : Int32)) (16 : Int32))).toNatClampNeg ∧ ((((0 : Int32) + ls) + (35 : Int32)) + (0 : Int32)) = (own_nca (((0 : Int32) + ls) + (35 : Int32)) (16 : Int32)) := by
  rcases hls with rfl | rfl | rfl | rfl <;> decide
theorem own_csB {ls ln : Int32} (hls : own_n3 ls) (hln : own_n3 ln) (hz : ¬ (ln = (0 : Int32))) : ¬ ((0 : Int32) < (((0 : Int32) + ls) - (16 : Int32))) ∧ ¬ (ls < (0 : Int32)) ∧ ((0 : Int32)).toNatClampNeg + (ls).toNatClampNeg ≤ (ls).toNatClampNeg ∧ ((0 : Int32)).toNatClampNeg + (ls).toNatClampNeg ≤ ((16 : Int32)).toNatClampNeg ∧ (0 : Int32) < ((((0 : Int32) + ls) + (35 : Int32)) - (16 : Int32)) ∧ ¬ (((((0 : Int32) + ls) + (35 : Int32)) - (16 : Int32)) < ((16 : Int32) + (2 : Int32))) ∧ (0 : Int32) < ((16 : Int32) + ((((0 : Int32) + ls) + (35 : Int32)) - (16 : Int32))) ∧ ¬ ((2147483639 : Int32) < ((16 : Int32) + ((((0 : Int32) + ls) + (35 : Int32)) - (16 : Int32)))) ∧ ¬ (((16 : Int32) + ((((0 : Int32) + ls) + (35 : Int32)) - (16 : Int32))) = (2147483647 : Int32)) ∧ ¬ ((own_nca (((0 : Int32) + ls) + (35 : Int32)) (16 : Int32)) = (16 : Int32)) ∧ ¬ ((own_nca (((0 : Int32) + ls) + (35 : Int32)) (16 : Int32)) < (0 : Int32)) ∧ ((own_nca (((0 : Int32) + ls) + (35 : Int32)) (16 : Int32))).toNatClampNeg ≤ 80 ∧ ¬ ((own_nca (((0 : Int32) + ls) + (35 : Int32)) (16 : Int32)) < (16 : Int32)) ∧ ((0 : Int32)).toNatClampNeg + ((16 : Int32)).toNatClampNeg ≤ ((own_nca (((0 : Int32) + ls) + (35 : Int32)) (16 : Int32))).toNatClampNeg ∧ ¬ (((0 : Int32) + ls) < (0 : Int32)) ∧ (((0 : Int32) + ls)).toNatClampNeg + ((35 : Int32)).toNatClampNeg ≤ ((own_nca (((0 : Int32) + ls) + (35 : Int32)) (16 : Int32))).toNatClampNeg ∧ (0 : Int32) < (((((0 : Int32) + ls) + (35 : Int32)) + ln) - (own_nca (((0 : Int32) + ls) + (35 : Int32)) (16 : Int32))) ∧ (((((0 : Int32) + ls) + (35 : Int32)) + ln) - (own_nca (((0 : Int32) + ls) + (35 : Int32)) (16 : Int32))) < ((own_nca (((0 : Int32) + ls) + (35 : Int32)) (16 : Int32)) + (2 : Int32)) ∧ (0 : Int32) < ((own_nca (((0 : Int32) + ls) + (35 : Int32)) (16 : Int32)) + ((own_nca (((0 : Int32) + ls) + (35 : Int32)) (16 : Int32)) + (2 : Int32))) ∧ ¬ ((2147483639 : Int32) < ((own_nca (((0 : Int32) + ls) + (35 : Int32)) (16 : Int32)) + ((own_nca (((0 : Int32) + ls) + (35 : Int32)) (16 : Int32)) + (2 : Int32)))) ∧ ¬ (((own_nca (((0 : Int32) + ls) + (35 : Int32)) (16 : Int32)) + ((own_nca (((0 : Int32) + ls) + (35 : Int32)) (16 : Int32)) + (2 : Int32))) = (2147483647 : Int32)) ∧ ¬ ((own_ncb (own_nca (((0 : Int32) + ls) + (35 : Int32)) (16 : Int32))) = (own_nca (((0 : Int32) + ls) + (35 : Int32)) (16 : Int32))) ∧ ¬ ((own_ncb (own_nca (((0 : Int32) + ls) + (35 : Int32)) (16 : Int32))) < (0 : Int32)) ∧ ((own_ncb (own_nca (((0 : Int32) + ls) + (35 : Int32)) (16 : Int32)))).toNatClampNeg ≤ 80 ∧ ¬ ((own_ncb (own_nca (((0 : Int32) + ls) + (35 : Int32)) (16 : Int32))) < (own_nca (((0 : Int32) + ls) + (35 : Int32)) (16 : Int32))) ∧ ((0 : Int32)).toNatClampNeg + ((own_nca (((0 : Int32) + ls) + (35 : Int32)) (16 : Int32))).toNatClampNeg ≤ ((own_nca (((0 : Int32) + ls) + (35 : Int32)) (16 : Int32))).toNatClampNeg ∧ ((0 : Int32)).toNatClampNeg + ((own_nca (((0 : Int32) + ls) + (35 : Int32)) (16 : Int32))).toNatClampNeg ≤ ((own_ncb (own_nca (((0 : Int32) + ls) + (35 : Int32)) (16 : Int32)))).toNatClampNeg ∧ ¬ ((((0 : Int32) + ls) + (35 : Int32)) < (0 : Int32)) ∧ ¬ (ln < (0 : Int32)) ∧ ((0 : Int32)).toNatClampNeg + (ln).toNatClampNeg ≤ (ln).toNatClampNeg ∧ ((((0 : Int32) + ls) + (35 : Int32))).toNatClampNeg + (ln).toNatClampNeg ≤ ((own_ncb (own_nca (((0 : Int32) + ls) + (35 : Int32)) (16 : Int32)))).toNatClampNeg ∧ ¬ (((((0 : Int32) + ls) + (35 : Int32)) + ln) = (own_ncb (own_nca (((0 : Int32) + ls) + (35 : Int32)) (16 : Int32)))) ∧ ¬ (((((0 : Int32) + ls) + (35 : Int32)) + ln) < (0 : Int32)) ∧ ¬ ((((((0 : Int32) + ls) + (35 : Int32)) + ln) - (0 : Int32)) < (0 : Int32)) ∧ ((((((0 : Int32) + ls) + (35 : Int32)) + ln) - (0 : Int32))).toNatClampNeg ≤ 80 ∧ (((((0 : Int32) + ls) + (35 : Int32)) + ln) - (0 : Int32)) < ((own_ncb (own_nca (((0 : Int32) + ls) + (35 : Int32)) (16 : Int32))) - (0 : Int32)) ∧ ((0 : Int32)).toNatClampNeg + ((((((0 : Int32) + ls) + (35 : Int32)) + ln) - (0 : Int32))).toNatClampNeg ≤ ((own_ncb (own_nca (((0 : Int32) + ls) + (35 : Int32)) (16 : Int32)))).toNatClampNeg ∧ ((0 : Int32)).toNatClampNeg + ((((((0 : Int32) + ls) + (35 : Int32)) + ln) - (0 : Int32))).toNatClampNeg ≤ ((((((0 : Int32) + ls) + (35 : Int32)) + ln) - (0 : Int32))).toNatClampNeg := by
  rcases hls with rfl | rfl | rfl | rfl <;> rcases hln with rfl | rfl | rfl | rfl <;> first | exact absurd rfl hz | decide
theorem own_csN {ls ln : Int32} (hls : own_n3 ls) (hln : own_n3 ln) : ((0 : Int32) + ls).toNatClampNeg = ls.toNatClampNeg ∧ (((0 : Int32) + ls) + (35 : Int32)).toNatClampNeg = ls.toNatClampNeg + 35 ∧ (own_nca (((0 : Int32) + ls) + (35 : Int32)) (16 : Int32)).toNatClampNeg = ls.toNatClampNeg + 35 ∧ ((ls + (35 : Int32)) + ln).toNatClampNeg = ls.toNatClampNeg + 35 + ln.toNatClampNeg ∧ own_nca (((0 : Int32) + ls) + (35 : Int32)) (16 : Int32) = (ls + (35 : Int32)) + (0 : Int32) ∧ ((((0 : Int32) + ls) + (35 : Int32)) + ln) - (0 : Int32) = (ls + (35 : Int32)) + ln := by
  rcases hls with rfl | rfl | rfl | rfl <;> rcases hln with rfl | rfl | rfl | rfl <;> decide
theorem own_l3 {ls : Int32} (hls : own_n3 ls) : ls.toNatClampNeg ≤ 3 := by
  rcases hls with rfl | rfl | rfl | rfl <;> decide
def QCS (Z : State) (a0 : Addr) (a1 : Addr) (sC : Int32) (aS : Addr) (kaS : ClassId) (ls : Int32) (fS : Nat → Value) (aT : Addr) (kaT : ClassId) (ln : Int32) (fT : Nat → Value) (uA : Addr) (uB : Addr) (h0 : Heap) (n0 : Nat) (v : Option Value) (h : Heap) (L : List Loc) : Prop := ∃ r0 : Addr, ∃ r1 : Addr, ∃ r2 : Addr, ∃ rk0 : ClassId, v = some (.ref r0) ∧ Fr n0 L ∧ h0.size ≤ r0 ∧ r0 < r1 ∧ r1 < r2 ∧ Keep h0 h [] ∧ Exa Z h r0 cSX ∧ Unt h r0 ∧ Fld Z h r0 cTN "detailMessage" "Ljava/lang/String;" (.ref r1) ∧ Fld Z h r0 cTN "cause" "Ljava/lang/Throwable;" .null ∧ Exa Z h r1 cST ∧ Fld Z h r1 cST "value" "[B" (.ref r2) ∧ Fld Z h r1 cST "coder" "B" (.int (0 : Int32)) ∧ Exa Z h r2 "[B" ∧ own_Arf Z h r2 rk0 .byte ((ls + (35 : Int32)) + ln) (own_msg fS ls fT)
set_option maxRecDepth 65536 in
set_option maxHeartbeats 40000000 in
theorem rmCS (l : Launch) (Z : State) (az : Array Value) (hw : HW Z az) (ws : List Jvm.Cond) (a0 : Addr) (a1 : Addr) (sC : Int32) (aS : Addr) (kaS : ClassId) (ls : Int32) (fS : Nat → Value) (aT : Addr) (kaT : ClassId) (ln : Int32) (fT : Nat → Value) (uA : Addr) (uB : Addr) (h0 : Heap) (n0 : Nat) (Z0 : n0 ≤ h0.size) (S_COMPACT_STRINGS : Sta Z h0 cST "COMPACT_STRINGS" "Z" (.int sC)) (hsC : ¬ (sC = (0 : Int32))) (E_a0 : Exa Z h0 a0 cST) (F_coder_a0 : Fld Z h0 a0 cST "coder" "B" (.int (0 : Int32))) (F_value_a0 : Fld Z h0 a0 cST "value" "[B" (.ref aS)) (V_aS : own_Arf Z h0 aS kaS .byte ls fS) (E_aS : Exa Z h0 aS "[B") (E_a1 : Exa Z h0 a1 cST) (F_coder_a1 : Fld Z h0 a1 cST "coder" "B" (.int (0 : Int32))) (F_value_a1 : Fld Z h0 a1 cST "value" "[B" (.ref aT)) (V_aT : own_Arf Z h0 aT kaT .byte ln fT) (E_aT : Exa Z h0 aT "[B") (T_x : ThS Z h0) (S_UNASSIGNED_STACK : Sta Z h0 cTN "UNASSIGNED_STACK" "[Ljava/lang/StackTraceElement;" (.ref uA)) (S_SUPPRESSED_SENTINEL : Sta Z h0 cTN "SUPPRESSED_SENTINEL" "Ljava/util/List;" (.ref uB)) (hls : own_n3 ls) (hln : own_n3 ln) (hst : l.stackTraces = true) :
    MetFree l (⟨cWN, "closedStore", "(Ljava/lang/String;Ljava/lang/String;)Lcom/example/key_lease/keylease/store/StoreException;"⟩ : MethodName) (head1 (Jvm.Cond.code (⟨cWN, "closedStore", "(Ljava/lang/String;Ljava/lang/String;)Lcom/example/key_lease/keylease/store/StoreException;"⟩ : MethodName) prog_20_method_2_code 2 (some (.object cSX)) :: ws) (⟨7, 10, 3166, 99⟩ : Room)) (fun a U => a = #[(.ref a0), (.ref a1)] ∧ Z.Warmed39 U.vm ∧ U.heap = h0 ∧ CHv Z [(cWN, 36), (cLW, 46), (cST, 7)] U.vm h0) (fun _ _ bl s _ => s.vm.MethodsKnown ∧ s.vm.FramesKnown bl) (fun _ U o U' => ∃ v L, o = .returned v ∧ QCS Z a0 a1 sC aS kaS ls fS aT kaT ln fT uA uB h0 n0 v U'.heap L ∧ CHr Z [(cWN, 36), (cLW, 46), (cST, 7)] U.vm U.heap U'.vm U'.heap ∧ ReturnedEndW U o U' L (⟨7, 10, 3166, 99⟩ : Room).cells (⟨7, 10, 3166, 99⟩ : Room).slots) := by
  have hl3 := own_l3 hls
  by_cases hz : ln = (0 : Int32)
  · subst hz
    obtain ⟨k0, k1, k2, k3, k4, k5, k6, k7, k8, k9, k10, k11, k12, k13, k14, k15, k16, k17, k18, k19, k20, k21⟩ := own_csA hls
    refine own_mono (rm5A l Z az hw ws a0 a1 sC aS kaS ls fS aT kaT (0 : Int32) fT uA uB h0 n0 Z0 S_COMPACT_STRINGS hsC E_a0 F_coder_a0 F_value_a0 V_aS E_aS E_a1 F_coder_a1 F_value_a1 V_aT E_aT T_x S_UNASSIGNED_STACK S_SUPPRESSED_SENTINEL k0 k1 k2 k3 k4 k5 k6 k7 k8 k9 k10 k11 k12 k13 k14 k15 k16 k17 k18 k19 k20 k21 hst) fun v h L q => ?_
    obtain ⟨r0, r1, r2, rk0, rfl, qN, qs, ql0, ql1, qK, qE_r0, qU_r0, qF_detailMessage_r0, qF_cause_r0, qE_r1, qF_value_r1, qF_coder_r1, qE_r2, qV_r2⟩ := q
    obtain ⟨e1, e2, e3, e4, e5, e6⟩ := own_csN hls hln
    refine ⟨r0, r1, r2, rk0, rfl, qN, qs, ql0, ql1, qK, qE_r0, qU_r0, qF_detailMessage_r0, qF_cause_r0, qE_r1, qF_value_r1, qF_coder_r1, qE_r2, ?_⟩
    rw [e5] at qV_r2
    refine qV_r2.congr fun i hi => ?_
    rw [e4] at hi
    unfold own_msg
    rw [e2, e1]
    exact (own_msgA _ _ _ _ _ _ _ hl3 hi).symm
  · obtain ⟨k0, k1, k2, k3, k4, k5, k6, k7, k8, k9, k10, k11, k12, k13, k14, k15, k16, k17, k18, k19, k20, k21, k22, k23, k24, k25, k26, k27, k28, k29, k30, k31, k32, k33, k34, k35, k36, k37⟩ := own_csB hls hln hz
    refine own_mono (rm5B l Z az hw ws a0 a1 sC aS kaS ls fS aT kaT ln fT uA uB h0 n0 Z0 S_COMPACT_STRINGS hsC E_a0 F_coder_a0 F_value_a0 V_aS E_aS E_a1 F_coder_a1 F_value_a1 V_aT E_aT T_x S_UNASSIGNED_STACK S_SUPPRESSED_SENTINEL k0 k1 k2 k3 k4 k5 k6 k7 k8 k9 k10 k11 k12 k13 k14 k15 k16 k17 k18 k19 k20 k21 k22 k23 k24 k25 k26 k27 k28 k29 k30 k31 k32 k33 k34 k35 k36 k37 hst) fun v h L q => ?_
    obtain ⟨r0, r1, r2, rk0, rfl, qN, qs, ql0, ql1, qK, qE_r0, qU_r0, qF_detailMessage_r0, qF_cause_r0, qE_r1, qF_value_r1, qF_coder_r1, qE_r2, qV_r2⟩ := q
    obtain ⟨e1, e2, e3, e4, e5, e6⟩ := own_csN hls hln
    refine ⟨r0, r1, r2, rk0, rfl, qN, qs, ql0, ql1, qK, qE_r0, qU_r0, qF_detailMessage_r0, qF_cause_r0, qE_r1, qF_value_r1, qF_coder_r1, qE_r2, ?_⟩
    rw [e6] at qV_r2
    refine qV_r2.congr fun i hi => ?_
    rw [e4] at hi
    unfold own_msg
    rw [e3, e2, e1, e4]
    exact (own_msgB _ _ _ _ _ _ _ _ _ hl3 hi).symm
theorem d43_0 : decode jdk_41_method_11_code 0 = .ok (.iload_n 0, 1) := by decide +kernel
theorem d43_1 : decode jdk_41_method_11_code 1 = .ok (.ifCond .lt 8, 3) := by decide +kernel
theorem d43_4 : decode jdk_41_method_11_code 4 = .ok (.iload_n 0, 1) := by decide +kernel
theorem d43_5 : decode jdk_41_method_11_code 5 = .ok (.iload_n 1, 1) := by decide +kernel
theorem d43_6 : decode jdk_41_method_11_code 6 = .ok (.if_icmp .lt 10, 3) := by decide +kernel
theorem d43_16 : decode jdk_41_method_11_code 16 = .ok (.iload_n 0, 1) := by decide +kernel
theorem d43_17 : decode jdk_41_method_11_code 17 = .ok (.ireturn, 1) := by decide +kernel
theorem pn_jdk_internal_util_Preconditions : plainName "jdk/internal/util/Preconditions" = true := by first | (simp [plainName, overriddenIn]; done) | decide +kernel
theorem ef_rm43z (m : MethodId) (p0 : Int32) (p1 : Int32) : entryFrame m #[(.int p0), (.int p1), .null] 3 = mkF m 0 #[vI p0, vI p1, .val .null] [] := by first | (simp [entryFrame, mkF, argsToLocals, Value.category]; done) | rfl
def Q43z (Z : State) (p0 : Int32) (p1 : Int32) (h0 : Heap) (n0 : Nat) (v : Option Value) (h : Heap) (L : List Loc) : Prop := v = some (.int p0) ∧ Fr n0 L ∧ h = h0
set_option maxRecDepth 65536 in
set_option maxHeartbeats 40000000 in
theorem rm43z (l : Launch) (Z : State) (az : Array Value) (hw : HW Z az) (ws : List Jvm.Cond) (p0 : Int32) (p1 : Int32) (h0 : Heap) (n0 : Nat) (Z0 : n0 ≤ h0.size) (hc0 : ¬ (p0 < (0 : Int32))) (hc1 : p0 < p1) :
    MF l Z h0 ws ⟨"jdk/internal/util/Preconditions", "checkIndex", "(IILjava/util/function/BiFunction;)I"⟩ jdk_41_method_11_code 3 (some .int) ⟨0, 0, 0, 0⟩ #[(.int p0), (.int p1), .null] (Q43z Z p0 p1 h0 n0) := by
  refine MetFree.of_bodySF (plainFor_of_name pn_jdk_internal_util_Preconditions) hisR ?_
  intro p e s m args below meth c s₁ Bd hml0 hP hK
  obtain ⟨rfl, hZ, hh⟩ := hP
  have hx := Bd.exec
  have hby := Bd.bytes
  have hml : c.maxLocals = 3 := hml0
  have hown : s.vm.findClass "jdk/internal/util/Preconditions" = some m.cls := findClass_of_methodNamed Bd.named
  have hnm := (name_of_methodNamed Bd.named Bd.method).1
  have X0 : Stand p l e (⟨0, 0, 0, 0⟩ : Room) s m #[(.int p0), (.int p1), .null] below meth c s₁ [] 0 0 := Stand.of_body Bd
  have e0 : s₁.heap = h0 := by rw [← hh, Bd.state]; rfl
  have N0 := Fr.nil n0
  have pre0 : ∀ t, Steps p.tables e below (s₁.setTop (mkF m 0 #[vI p0, vI p1, .val .null] [])) t → Steps p.tables e below (s₁.setTop (entryFrame m #[(.int p0), (.int p1), .null] 3)) t := fun t k => castTop (ef_rm43z m p0 p1) k
  obtain ⟨fs, hr, hrun, hended, hW, hsame⟩ := X0.leave (v := some (.int p0)) (fun h => by rw [Bd.returns] at h; cases h)
  refine ⟨_, _, pre0 _ ?_, hrun, hended, _, _, rfl, ?_, ⟨_, rfl⟩, hW, hsame.mono (by decide) (by decide)⟩
  · show SP p e below s₁ (mkF m 0 #[vI p0, vI p1, .val .null] []) _
    refine XS.iloadN X0.here hx rfl (hb hby d43_0) rfl ?_
    refine XS.ifNo X0.here hx rfl (hb hby d43_1) rfl ((if0 _ _).trans (flt hc0).1) ?_
    refine XS.iloadN X0.here hx rfl (hb hby d43_4) rfl ?_
    refine XS.iloadN X0.here hx rfl (hb hby d43_5) rfl ?_
    refine XS.icmpYes X0.here hx rfl (pc0 := 6) (pc' := 16) rfl (hb hby d43_6) rfl (tlt hc1).1 (by decide) (by decide) ?_
    refine XS.iloadN X0.here hx rfl (hb hby d43_16) rfl ?_
    show SP p e below s₁ (mkF m 17 #[vI p0, vI p1, .val .null] [(.int p0)]) _
    exact retI X0 hx Bd.returns (hb hby d43_17) hr
  · show Q43z Z p0 p1 h0 n0 _ s₁.heap _
    rw [e0]
    exact ⟨rfl, N0, rfl⟩
theorem ef_rm43r (m : MethodId) (p0 : Int32) (p1 : Int32) (a2 : Addr) : entryFrame m #[(.int p0), (.int p1), (.ref a2)] 3 = mkF m 0 #[vI p0, vI p1, vR a2] [] := by first | (simp [entryFrame, mkF, argsToLocals, Value.category]; done) | rfl
def Q43r (Z : State) (p0 : Int32) (p1 : Int32) (a2 : Addr) (h0 : Heap) (n0 : Nat) (v : Option Value) (h : Heap) (L : List Loc) : Prop := v = some (.int p0) ∧ Fr n0 L ∧ h = h0
set_option maxRecDepth 65536 in
set_option maxHeartbeats 40000000 in
theorem rm43r (l : Launch) (Z : State) (az : Array Value) (hw : HW Z az) (ws : List Jvm.Cond) (p0 : Int32) (p1 : Int32) (a2 : Addr) (h0 : Heap) (n0 : Nat) (Z0 : n0 ≤ h0.size) (hc0 : ¬ (p0 < (0 : Int32))) (hc1 : p0 < p1) :
    MF l Z h0 ws ⟨"jdk/internal/util/Preconditions", "checkIndex", "(IILjava/util/function/BiFunction;)I"⟩ jdk_41_method_11_code 3 (some .int) ⟨0, 0, 0, 0⟩ #[(.int p0), (.int p1), (.ref a2)] (Q43r Z p0 p1 a2 h0 n0) := by
  refine MetFree.of_bodySF (plainFor_of_name pn_jdk_internal_util_Preconditions) hisR ?_
  intro p e s m args below meth c s₁ Bd hml0 hP hK
  obtain ⟨rfl, hZ, hh⟩ := hP
  have hx := Bd.exec
  have hby := Bd.bytes
  have hml : c.maxLocals = 3 := hml0
  have hown : s.vm.findClass "jdk/internal/util/Preconditions" = some m.cls := findClass_of_methodNamed Bd.named
  have hnm := (name_of_methodNamed Bd.named Bd.method).1
  have X0 : Stand p l e (⟨0, 0, 0, 0⟩ : Room) s m #[(.int p0), (.int p1), (.ref a2)] below meth c s₁ [] 0 0 := Stand.of_body Bd
  have e0 : s₁.heap = h0 := by rw [← hh, Bd.state]; rfl
  have N0 := Fr.nil n0
  have pre0 : ∀ t, Steps p.tables e below (s₁.setTop (mkF m 0 #[vI p0, vI p1, vR a2] [])) t → Steps p.tables e below (s₁.setTop (entryFrame m #[(.int p0), (.int p1), (.ref a2)] 3)) t := fun t k => castTop (ef_rm43r m p0 p1 a2) k
  obtain ⟨fs, hr, hrun, hended, hW, hsame⟩ := X0.leave (v := some (.int p0)) (fun h => by rw [Bd.returns] at h; cases h)
  refine ⟨_, _, pre0 _ ?_, hrun, hended, _, _, rfl, ?_, ⟨_, rfl⟩, hW, hsame.mono (by decide) (by decide)⟩
  · show SP p e below s₁ (mkF m 0 #[vI p0, vI p1, vR a2] []) _
    refine XS.iloadN X0.here hx rfl (hb hby d43_0) rfl ?_
    refine XS.ifNo X0.here hx rfl (hb hby d43_1) rfl ((if0 _ _).trans (flt hc0).1) ?_
    refine XS.iloadN X0.here hx rfl (hb hby d43_4) rfl ?_
    refine XS.iloadN X0.here hx rfl (hb hby d43_5) rfl ?_
    refine XS.icmpYes X0.here hx rfl (pc0 := 6) (pc' := 16) rfl (hb hby d43_6) rfl (tlt hc1).1 (by decide) (by decide) ?_
    refine XS.iloadN X0.here hx rfl (hb hby d43_16) rfl ?_
    show SP p e below s₁ (mkF m 17 #[vI p0, vI p1, vR a2] [(.int p0)]) _
    exact retI X0 hx Bd.returns (hb hby d43_17) hr
  · show Q43r Z p0 p1 a2 h0 n0 _ s₁.heap _
    rw [e0]
    exact ⟨rfl, N0, rfl⟩
theorem d42_0 : decode jdk_42_method_155_code 0 = .ok (.iload_n 0, 1) := by decide +kernel
theorem d42_1 : decode jdk_42_method_155_code 1 = .ok (.iload_n 1, 1) := by decide +kernel
theorem d42_2 : decode jdk_42_method_155_code 2 = .ok (.getstatic 1053, 3) := by decide +kernel
theorem d42_5 : decode jdk_42_method_155_code 5 = .ok (.invokestatic 1059, 3) := by decide +kernel
theorem pd_26 : parseMethodDescriptor "(IILjava/util/function/BiFunction;)I" = some ⟨[.int, .int, (.object "java/util/function/BiFunction")], some .int⟩ := by decide +kernel
theorem d42_8 : decode jdk_42_method_155_code 8 = .ok (.pop, 1) := by decide +kernel
theorem d42_9 : decode jdk_42_method_155_code 9 = .ok (.return_, 1) := by decide +kernel
theorem ef_rm42z (m : MethodId) (p0 : Int32) (p1 : Int32) : entryFrame m #[(.int p0), (.int p1)] 2 = mkF m 0 #[vI p0, vI p1] [] := by first | (simp [entryFrame, mkF, argsToLocals, Value.category]; done) | rfl
def Q42z (Z : State) (p0 : Int32) (p1 : Int32) (h0 : Heap) (n0 : Nat) (v : Option Value) (h : Heap) (L : List Loc) : Prop := v = none ∧ Fr n0 L ∧ h = h0
set_option maxRecDepth 65536 in
set_option maxHeartbeats 40000000 in
theorem rm42z (l : Launch) (Z : State) (az : Array Value) (hw : HW Z az) (ws : List Jvm.Cond) (p0 : Int32) (p1 : Int32) (h0 : Heap) (n0 : Nat) (Z0 : n0 ≤ h0.size) (S_SIOOBE_FORMATTER : Sta Z h0 "jdk/internal/util/Preconditions" "SIOOBE_FORMATTER" "Ljava/util/function/BiFunction;" .null) (hc1 : ¬ (p0 < (0 : Int32))) (hc2 : p0 < p1) :
    MF l Z h0 ws ⟨cST, "checkIndex", "(II)V"⟩ jdk_42_method_155_code 2 none ⟨1, 0, 0, 14⟩ #[(.int p0), (.int p1)] (Q42z Z p0 p1 h0 n0) := by
  refine MetFree.of_bodySF (plainFor_of_name pn_java_lang_String) hisR ?_
  intro p e s m args below meth c s₁ Bd hml0 hP hK
  obtain ⟨rfl, hZ, hh⟩ := hP
  have hx := Bd.exec
  have hby := Bd.bytes
  have hml : c.maxLocals = 2 := hml0
  have hown : s.vm.findClass cST = some m.cls := findClass_of_methodNamed Bd.named
  have hnm := (name_of_methodNamed Bd.named Bd.method).1
  have X0 : Stand p l e (⟨1, 0, 0, 14⟩ : Room) s m #[(.int p0), (.int p1)] below meth c s₁ [] 0 0 := Stand.of_body Bd
  have e0 : s₁.heap = h0 := by rw [← hh, Bd.state]; rfl
  have N0 := Fr.nil n0
  have pre0 : ∀ t, Steps p.tables e below (s₁.setTop (mkF m 0 #[vI p0, vI p1] [])) t → Steps p.tables e below (s₁.setTop (entryFrame m #[(.int p0), (.int p1)] 2)) t := fun t k => castTop (ef_rm42z m p0 p1) k
  obtain ⟨T1, X1, e1, st1⟩ := getS2 X0 hx hZ hown (host := "") (Or.inl (w259 hw)) Via.refl e0 S_SIOOBE_FORMATTER (g := (mkF m 2 #[vI p0, vI p1] [(.int p1), (.int p0)])) rfl (hb hby d42_2)
  obtain ⟨_, _, ⟨T2, L2, k2', n2'⟩, -, X2, ⟨Lc2, hQ2, l2, y2, z2⟩, st2⟩ := Jvm.LawKit.callS X1 hx (y := (⟨"jdk/internal/util/Preconditions", "checkIndex", "(IILjava/util/function/BiFunction;)I"⟩ : MethodName)) hown (mvT hZ (w261 hw)) (mvT hZ (w262 hw)) (mvT hZ (w260 hw)) (mvT hZ (w263 hw)) (by decide) (backOf (W := 0) (rm43z l Z az hw [] p0 p1 h0 n0 Z0 hc1 hc2) hZ (w263 hw) (w260 hw) (by decide) (by decide)) (g := (mkF m 5 #[vI p0, vI p1] [.null, (.int p1), (.int p0)])) rfl (by rw [hml]; rfl) (argsL := [(.int p0), (.int p1), .null]) (rest := []) (lenOf pd_26 rfl) rfl (Nat.le_of_eq rfl) (hb hby d42_5) (fun _ _ => ⟨rfl, e1, (by decide : 0 + 0 ≤ _), (by decide : 0 + 0 ≤ _)⟩)
  dsimp only [Pt.U, Pt.locs, Pt.cells, Pt.slots] at X2 l2 y2 z2 st2 hQ2
  subst l2 y2 z2
  obtain ⟨rfl, N2q, e2⟩ := hQ2
  obtain ⟨Lg2, X2', N2⟩ := own_gen X2 (Fr.app N0 N2q)
  obtain ⟨fs, hr, hrun, hended, hW, hsame⟩ := X2'.leave (v := none) (fun _ => rfl)
  refine ⟨_, _, pre0 _ ?_, hrun, hended, _, _, rfl, ?_, ⟨_, rfl⟩, hW, hsame.mono (by decide) (by decide)⟩
  · show SP p e below s₁ (mkF m 0 #[vI p0, vI p1] []) _
    refine XS.iloadN X0.here hx rfl (hb hby d42_0) rfl ?_
    refine XS.iloadN X0.here hx rfl (hb hby d42_1) rfl ?_
    show SP p e below s₁ (mkF m 2 #[vI p0, vI p1] [(.int p1), (.int p0)]) _
    refine st1 _ ?_
    show SP p e below T1 (mkF m 5 #[vI p0, vI p1] [.null, (.int p1), (.int p0)]) _
    refine st2 _ ?_
    show SP p e below T2 (mkF m 8 #[vI p0, vI p1] [(.int p0)]) _
    refine XS.pop X2'.here hx rfl (hb hby d42_8) rfl rfl ?_
    show SP p e below T2 (mkF m 9 #[vI p0, vI p1] []) _
    exact X2'.returnOut hx Bd.returns (hb hby d42_9) hr
  · show Q42z Z p0 p1 h0 n0 _ T2.heap _
    rw [e2]
    exact ⟨rfl, N2, rfl⟩
theorem ef_rm42r (m : MethodId) (p0 : Int32) (p1 : Int32) : entryFrame m #[(.int p0), (.int p1)] 2 = mkF m 0 #[vI p0, vI p1] [] := by first | (simp [entryFrame, mkF, argsToLocals, Value.category]; done) | rfl
def Q42r (Z : State) (p0 : Int32) (p1 : Int32) (sF : Addr) (h0 : Heap) (n0 : Nat) (v : Option Value) (h : Heap) (L : List Loc) : Prop := v = none ∧ Fr n0 L ∧ h = h0
set_option maxRecDepth 65536 in
set_option maxHeartbeats 40000000 in
theorem rm42r (l : Launch) (Z : State) (az : Array Value) (hw : HW Z az) (ws : List Jvm.Cond) (p0 : Int32) (p1 : Int32) (sF : Addr) (h0 : Heap) (n0 : Nat) (Z0 : n0 ≤ h0.size) (S_SIOOBE_FORMATTER : Sta Z h0 "jdk/internal/util/Preconditions" "SIOOBE_FORMATTER" "Ljava/util/function/BiFunction;" (.ref sF)) (hc1 : ¬ (p0 < (0 : Int32))) (hc2 : p0 < p1) :
    MF l Z h0 ws ⟨cST, "checkIndex", "(II)V"⟩ jdk_42_method_155_code 2 none ⟨1, 0, 0, 14⟩ #[(.int p0), (.int p1)] (Q42r Z p0 p1 sF h0 n0) := by
  refine MetFree.of_bodySF (plainFor_of_name pn_java_lang_String) hisR ?_
  intro p e s m args below meth c s₁ Bd hml0 hP hK
  obtain ⟨rfl, hZ, hh⟩ := hP
  have hx := Bd.exec
  have hby := Bd.bytes
  have hml : c.maxLocals = 2 := hml0
  have hown : s.vm.findClass cST = some m.cls := findClass_of_methodNamed Bd.named
  have hnm := (name_of_methodNamed Bd.named Bd.method).1
  have X0 : Stand p l e (⟨1, 0, 0, 14⟩ : Room) s m #[(.int p0), (.int p1)] below meth c s₁ [] 0 0 := Stand.of_body Bd
  have e0 : s₁.heap = h0 := by rw [← hh, Bd.state]; rfl
  have N0 := Fr.nil n0
  have pre0 : ∀ t, Steps p.tables e below (s₁.setTop (mkF m 0 #[vI p0, vI p1] [])) t → Steps p.tables e below (s₁.setTop (entryFrame m #[(.int p0), (.int p1)] 2)) t := fun t k => castTop (ef_rm42r m p0 p1) k
  obtain ⟨T1, X1, e1, st1⟩ := getS2 X0 hx hZ hown (host := "") (Or.inl (w259 hw)) Via.refl e0 S_SIOOBE_FORMATTER (g := (mkF m 2 #[vI p0, vI p1] [(.int p1), (.int p0)])) rfl (hb hby d42_2)
  obtain ⟨_, _, ⟨T2, L2, k2', n2'⟩, -, X2, ⟨Lc2, hQ2, l2, y2, z2⟩, st2⟩ := Jvm.LawKit.callS X1 hx (y := (⟨"jdk/internal/util/Preconditions", "checkIndex", "(IILjava/util/function/BiFunction;)I"⟩ : MethodName)) hown (mvT hZ (w261 hw)) (mvT hZ (w262 hw)) (mvT hZ (w260 hw)) (mvT hZ (w263 hw)) (by decide) (backOf (W := 0) (rm43r l Z az hw [] p0 p1 sF h0 n0 Z0 hc1 hc2) hZ (w263 hw) (w260 hw) (by decide) (by decide)) (g := (mkF m 5 #[vI p0, vI p1] [(.ref sF), (.int p1), (.int p0)])) rfl (by rw [hml]; rfl) (argsL := [(.int p0), (.int p1), (.ref sF)]) (rest := []) (lenOf pd_26 rfl) rfl (Nat.le_of_eq rfl) (hb hby d42_5) (fun _ _ => ⟨rfl, e1, (by decide : 0 + 0 ≤ _), (by decide : 0 + 0 ≤ _)⟩)
  dsimp only [Pt.U, Pt.locs, Pt.cells, Pt.slots] at X2 l2 y2 z2 st2 hQ2
  subst l2 y2 z2
  obtain ⟨rfl, N2q, e2⟩ := hQ2
  obtain ⟨Lg2, X2', N2⟩ := own_gen X2 (Fr.app N0 N2q)
  obtain ⟨fs, hr, hrun, hended, hW, hsame⟩ := X2'.leave (v := none) (fun _ => rfl)
  refine ⟨_, _, pre0 _ ?_, hrun, hended, _, _, rfl, ?_, ⟨_, rfl⟩, hW, hsame.mono (by decide) (by decide)⟩
  · show SP p e below s₁ (mkF m 0 #[vI p0, vI p1] []) _
    refine XS.iloadN X0.here hx rfl (hb hby d42_0) rfl ?_
    refine XS.iloadN X0.here hx rfl (hb hby d42_1) rfl ?_
    show SP p e below s₁ (mkF m 2 #[vI p0, vI p1] [(.int p1), (.int p0)]) _
    refine st1 _ ?_
    show SP p e below T1 (mkF m 5 #[vI p0, vI p1] [(.ref sF), (.int p1), (.int p0)]) _
    refine st2 _ ?_
    show SP p e below T2 (mkF m 8 #[vI p0, vI p1] [(.int p0)]) _
    refine XS.pop X2'.here hx rfl (hb hby d42_8) rfl rfl ?_
    show SP p e below T2 (mkF m 9 #[vI p0, vI p1] []) _
    exact X2'.returnOut hx Bd.returns (hb hby d42_9) hr
  · show Q42r Z p0 p1 sF h0 n0 _ T2.heap _
    rw [e2]
    exact ⟨rfl, N2, rfl⟩
def own_isR (v : Value) : Prop := v = .null ∨ ∃ a, v = .ref a
def QCI (Z : State) (p0 : Int32) (p1 : Int32) (vF : Value) (h0 : Heap) (n0 : Nat) (v : Option Value) (h : Heap) (L : List Loc) : Prop := v = none ∧ Fr n0 L ∧ h = h0
set_option maxRecDepth 65536 in
set_option maxHeartbeats 40000000 in
theorem rmCI (l : Launch) (Z : State) (az : Array Value) (hw : HW Z az) (ws : List Jvm.Cond) (p0 : Int32) (p1 : Int32) (vF : Value) (h0 : Heap) (n0 : Nat) (Z0 : n0 ≤ h0.size) (S_SIOOBE_FORMATTER : Sta Z h0 "jdk/internal/util/Preconditions" "SIOOBE_FORMATTER" "Ljava/util/function/BiFunction;" vF) (hF : own_isR vF) (h1 : ¬ (p0 < (0 : Int32))) (h2 : p0 < p1) :
    MF l Z h0 ws ⟨cST, "checkIndex", "(II)V"⟩ jdk_42_method_155_code 2 none ⟨1, 0, 0, 14⟩ #[(.int p0), (.int p1)] (QCI Z p0 p1 vF h0 n0) := by
  rcases hF with rfl | ⟨sF, rfl⟩
  · exact rm42z l Z az hw ws p0 p1 h0 n0 Z0 S_SIOOBE_FORMATTER h1 h2
  · exact rm42r l Z az hw ws p0 p1 sF h0 n0 Z0 S_SIOOBE_FORMATTER h1 h2
theorem d41_0 : decode jdk_43_method_2_code 0 = .ok (.iload_n 1, 1) := by decide +kernel
theorem d41_1 : decode jdk_43_method_2_code 1 = .ok (.aload_n 0, 1) := by decide +kernel
theorem d41_2 : decode jdk_43_method_2_code 2 = .ok (.arraylength, 1) := by decide +kernel
theorem d41_3 : decode jdk_43_method_2_code 3 = .ok (.invokestatic 9, 3) := by decide +kernel
theorem d41_6 : decode jdk_43_method_2_code 6 = .ok (.aload_n 0, 1) := by decide +kernel
theorem d41_7 : decode jdk_43_method_2_code 7 = .ok (.iload_n 1, 1) := by decide +kernel
theorem d41_8 : decode jdk_43_method_2_code 8 = .ok (.baload, 1) := by decide +kernel
theorem d41_9 : decode jdk_43_method_2_code 9 = .ok (.sipush 255, 3) := by decide +kernel
theorem d41_12 : decode jdk_43_method_2_code 12 = .ok (.iand, 1) := by decide +kernel
theorem d41_13 : decode jdk_43_method_2_code 13 = .ok (.i2c, 1) := by decide +kernel
theorem d41_14 : decode jdk_43_method_2_code 14 = .ok (.ireturn, 1) := by decide +kernel
def own_ch (cw : Int32) : Int32 := ((cw &&& (255 : Int32)).toUInt32.toUInt16.toUInt32.toInt32)
theorem pn_java_lang_StringLatin1 : plainName "java/lang/StringLatin1" = true := by first | (simp [plainName, overriddenIn]; done) | decide +kernel
theorem ef_rm41 (m : MethodId) (a0 : Addr) (p1 : Int32) : entryFrame m #[(.ref a0), (.int p1)] 2 = mkF m 0 #[vR a0, vI p1] [] := by first | (simp [entryFrame, mkF, argsToLocals, Value.category]; done) | rfl
def Q41 (Z : State) (a0 : Addr) (p1 : Int32) (vF : Value) (k0 : ClassId) (ln : Int32) (f0 : Nat → Value) (cw : Int32) (h0 : Heap) (n0 : Nat) (v : Option Value) (h : Heap) (L : List Loc) : Prop := v = some (.int (own_ch cw)) ∧ Fr n0 L ∧ h = h0
set_option maxRecDepth 65536 in
set_option maxHeartbeats 40000000 in
theorem rm41 (l : Launch) (Z : State) (az : Array Value) (hw : HW Z az) (ws : List Jvm.Cond) (a0 : Addr) (p1 : Int32) (vF : Value) (k0 : ClassId) (ln : Int32) (f0 : Nat → Value) (cw : Int32) (h0 : Heap) (n0 : Nat) (Z0 : n0 ≤ h0.size) (S_SIOOBE_FORMATTER : Sta Z h0 "jdk/internal/util/Preconditions" "SIOOBE_FORMATTER" "Ljava/util/function/BiFunction;" vF) (hc1 : own_isR vF) (V_a0 : own_Arf Z h0 a0 k0 .byte ln f0) (hc3 : ¬ (p1 < (0 : Int32))) (hc4 : p1 < ln) (hc5 : f0 (p1).toNatClampNeg = (.int cw)) :
    MF l Z h0 ws ⟨"java/lang/StringLatin1", "charAt", "([BI)C"⟩ jdk_43_method_2_code 2 (some .char) ⟨2, 0, 0, 27⟩ #[(.ref a0), (.int p1)] (Q41 Z a0 p1 vF k0 ln f0 cw h0 n0) := by
  refine MetFree.of_bodySF (plainFor_of_name pn_java_lang_StringLatin1) hisR ?_
  intro p e s m args below meth c s₁ Bd hml0 hP hK
  obtain ⟨rfl, hZ, hh⟩ := hP
  have hx := Bd.exec
  have hby := Bd.bytes
  have hml : c.maxLocals = 2 := hml0
  have hown : s.vm.findClass "java/lang/StringLatin1" = some m.cls := findClass_of_methodNamed Bd.named
  have hnm := (name_of_methodNamed Bd.named Bd.method).1
  have X0 : Stand p l e (⟨2, 0, 0, 27⟩ : Room) s m #[(.ref a0), (.int p1)] below meth c s₁ [] 0 0 := Stand.of_body Bd
  have e0 : s₁.heap = h0 := by rw [← hh, Bd.state]; rfl
  have N0 := Fr.nil n0
  have pre0 : ∀ t, Steps p.tables e below (s₁.setTop (mkF m 0 #[vR a0, vI p1] [])) t → Steps p.tables e below (s₁.setTop (entryFrame m #[(.ref a0), (.int p1)] 2)) t := fun t k => castTop (ef_rm41 m a0 p1) k
  obtain ⟨cl1, Ar1, qk1, Sz1, Ng1, Hs1, Gf1⟩ := id V_a0
  obtain ⟨_, _, ⟨T2, L2, k2', n2'⟩, -, X2, ⟨Lc2, hQ2, l2, y2, z2⟩, st2⟩ := Jvm.LawKit.callS X0 hx (y := (⟨cST, "checkIndex", "(II)V"⟩ : MethodName)) hown (mvT hZ (w256 hw)) (mvT hZ (w257 hw)) (mvT hZ (w6 hw)) (mvT hZ (w258 hw)) (by decide) (backOf (W := 0) (rmCI l Z az hw [] p1 ln vF h0 n0 Z0 S_SIOOBE_FORMATTER hc1 hc3 hc4) hZ (w258 hw) (w6 hw) (by decide) (by decide)) (g := (mkF m 3 #[vR a0, vI p1] [(.int ln), (.int p1)])) rfl (by rw [hml]; rfl) (argsL := [(.int p1), (.int ln)]) (rest := []) (lenOf pd_11 rfl) rfl (Nat.le_of_eq rfl) (hb hby d41_3) (fun _ _ => ⟨rfl, e0, (by decide : 0 + 0 ≤ _), (by decide : 0 + 0 ≤ _)⟩)
  dsimp only [Pt.U, Pt.locs, Pt.cells, Pt.slots] at X2 l2 y2 z2 st2 hQ2
  subst l2 y2 z2
  obtain ⟨rfl, N2q, e2⟩ := hQ2
  obtain ⟨Lg2, X2', N2⟩ := own_gen X2 (Fr.app N0 N2q)
  have hin3 : ¬ (p1 < 0 ∨ cl1.slots.size ≤ (p1).toNatClampNeg) := inb_of Sz1 ⟨hc3, hc4⟩
  have hat4 : cl1.slots[(p1).toNatClampNeg]? = some (.int cw) := own_at Hs1 hin3 hc5
  obtain ⟨fs, hr, hrun, hended, hW, hsame⟩ := X2'.leave (v := some (.int (own_ch cw))) (fun h => by rw [Bd.returns] at h; cases h)
  refine ⟨_, _, pre0 _ ?_, hrun, hended, _, _, rfl, ?_, ⟨_, rfl⟩, hW, hsame.mono (by decide) (by decide)⟩
  · show SP p e below s₁ (mkF m 0 #[vR a0, vI p1] []) _
    refine XS.iloadN X0.here hx rfl (hb hby d41_0) rfl ?_
    refine XS.aloadN X0.here hx rfl (hb hby d41_1) rfl rfl ?_
    show SP p e below s₁ (mkF m 2 #[vR a0, vI p1] [(.ref a0), (.int p1)]) _
    refine X0.arraylength hx (by rw [e0]; exact Ar1.1) (State.isArrayOf_alike hZ.alike Ar1.2.1) (g := (mkF m 2 #[vR a0, vI p1] [(.ref a0), (.int p1)])) rfl rfl (hb hby d41_2) _ ?_
    rw [len_of Sz1 Ng1]
    show SP p e below s₁ (mkF m 3 #[vR a0, vI p1] [(.int ln), (.int p1)]) _
    refine st2 _ ?_
    show SP p e below T2 (mkF m 6 #[vR a0, vI p1] []) _
    refine XS.aloadN X2'.here hx rfl (hb hby d41_6) rfl rfl ?_
    refine XS.iloadN X2'.here hx rfl (hb hby d41_7) rfl ?_
    show SP p e below T2 (mkF m 8 #[vR a0, vI p1] [(.int p1), (.ref a0)]) _
    refine X2'.baloadBytes hx (j := p1) (v := (.int cw)) (by rw [e2]; exact Ar1.1) (State.isArrayOf_alike hZ.alike Ar1.2.1) Ar1.2.2 hin3 hat4 (g := (mkF m 8 #[vR a0, vI p1] [(.int p1), (.ref a0)])) rfl rfl (hb hby d41_8) _ ?_
    show SP p e below T2 (mkF m 9 #[vR a0, vI p1] [(.int cw)]) _
    refine XS.sipush X2'.here hx rfl (hb hby d41_9) ?_
    refine XS.iand X2'.here hx rfl (hb hby d41_12) rfl ?_
    show SP p e below T2 (mkF m 13 #[vR a0, vI p1] [(.int (cw &&& (255 : Int32)))]) _
    refine XS.i2c X2'.here hx rfl (hb hby d41_13) rfl ?_
    show SP p e below T2 (mkF m 14 #[vR a0, vI p1] [(.int ((cw &&& (255 : Int32)).toUInt32.toUInt16.toUInt32.toInt32))]) _
    exact retN X2' hx (t := .char) Bd.returns (by simp) (hb hby d41_14) (fun f acts q1 q2 q3 => by rw [(own_nc _)]; exact hr f acts q1 q2 q3)
  · show Q41 Z a0 p1 vF k0 ln f0 cw h0 n0 _ T2.heap _
    rw [e2]
    exact ⟨rfl, N2, rfl⟩
theorem d39_0 : decode jdk_42_method_56_code 0 = .ok (.aload_n 0, 1) := by decide +kernel
theorem d39_1 : decode jdk_42_method_56_code 1 = .ok (.invokevirtual 492, 3) := by decide +kernel
theorem d39_4 : decode jdk_42_method_56_code 4 = .ok (.ifCond .eq 12, 3) := by decide +kernel
theorem d39_7 : decode jdk_42_method_56_code 7 = .ok (.aload_n 0, 1) := by decide +kernel
theorem d39_8 : decode jdk_42_method_56_code 8 = .ok (.getfield 9, 3) := by decide +kernel
theorem d39_11 : decode jdk_42_method_56_code 11 = .ok (.iload_n 1, 1) := by decide +kernel
theorem d39_12 : decode jdk_42_method_56_code 12 = .ok (.invokestatic 495, 3) := by decide +kernel
theorem pd_27 : parseMethodDescriptor "([BI)C" = some ⟨[(.array .byte), .int], some .char⟩ := by decide +kernel
theorem d39_15 : decode jdk_42_method_56_code 15 = .ok (.ireturn, 1) := by decide +kernel
theorem ef_rm39 (m : MethodId) (a0 : Addr) (p1 : Int32) : entryFrame m #[(.ref a0), (.int p1)] 2 = mkF m 0 #[vR a0, vI p1] [] := by first | (simp [entryFrame, mkF, argsToLocals, Value.category]; done) | rfl
def Q39 (Z : State) (a0 : Addr) (p1 : Int32) (sC : Int32) (vF : Value) (aB : Addr) (kaB : ClassId) (ln : Int32) (fB : Nat → Value) (cw : Int32) (h0 : Heap) (n0 : Nat) (v : Option Value) (h : Heap) (L : List Loc) : Prop := v = some (.int (own_ch cw)) ∧ Fr n0 L ∧ h = h0
set_option maxRecDepth 65536 in
set_option maxHeartbeats 40000000 in
theorem rm39 (l : Launch) (Z : State) (az : Array Value) (hw : HW Z az) (ws : List Jvm.Cond) (a0 : Addr) (p1 : Int32) (sC : Int32) (vF : Value) (aB : Addr) (kaB : ClassId) (ln : Int32) (fB : Nat → Value) (cw : Int32) (h0 : Heap) (n0 : Nat) (Z0 : n0 ≤ h0.size) (S_COMPACT_STRINGS : Sta Z h0 cST "COMPACT_STRINGS" "Z" (.int sC)) (hc1 : ¬ (sC = (0 : Int32))) (S_SIOOBE_FORMATTER : Sta Z h0 "jdk/internal/util/Preconditions" "SIOOBE_FORMATTER" "Ljava/util/function/BiFunction;" vF) (hc3 : own_isR vF) (E_a0 : Exa Z h0 a0 cST) (F_coder_a0 : Fld Z h0 a0 cST "coder" "B" (.int (0 : Int32))) (F_value_a0 : Fld Z h0 a0 cST "value" "[B" (.ref aB)) (V_aB : own_Arf Z h0 aB kaB .byte ln fB) (E_aB : Exa Z h0 aB "[B") (hc9 : ¬ (p1 < (0 : Int32))) (hc10 : p1 < ln) (hc11 : fB (p1).toNatClampNeg = (.int cw)) (hc12 : nar .char (own_ch cw) = (own_ch cw)) :
    MF l Z h0 ws ⟨cST, "charAt", "(I)C"⟩ jdk_42_method_56_code 2 (some .char) ⟨3, 0, 0, 40⟩ #[(.ref a0), (.int p1)] (Q39 Z a0 p1 sC vF aB kaB ln fB cw h0 n0) := by
  refine MetFree.of_bodySF (plainFor_of_name pn_java_lang_String) hisR ?_
  intro p e s m args below meth c s₁ Bd hml0 hP hK
  obtain ⟨rfl, hZ, hh⟩ := hP
  have hx := Bd.exec
  have hby := Bd.bytes
  have hml : c.maxLocals = 2 := hml0
  have hown : s.vm.findClass cST = some m.cls := findClass_of_methodNamed Bd.named
  have hnm := (name_of_methodNamed Bd.named Bd.method).1
  have X0 : Stand p l e (⟨3, 0, 0, 40⟩ : Room) s m #[(.ref a0), (.int p1)] below meth c s₁ [] 0 0 := Stand.of_body Bd
  have e0 : s₁.heap = h0 := by rw [← hh, Bd.state]; rfl
  have N0 := Fr.nil n0
  have pre0 : ∀ t, Steps p.tables e below (s₁.setTop (mkF m 0 #[vR a0, vI p1] [])) t → Steps p.tables e below (s₁.setTop (entryFrame m #[(.ref a0), (.int p1)] 2)) t := fun t k => castTop (ef_rm39 m a0 p1) k
  obtain ⟨cq1, kq1, q1a, q1b, q1c⟩ := isOf hZ e0 E_a0
  obtain ⟨_, _, ⟨T1, L1, k1', n1'⟩, -, X1, ⟨Lc1, hQ1, l1, y1, z1⟩, st1⟩ := X0.virtualBack hx (y := (⟨cST, "isLatin1", "()Z"⟩ : MethodName)) (z := (⟨cST, "isLatin1", "()Z"⟩ : MethodName)) hown (mvT hZ (w247 hw)) (mvT hZ (w248 hw)) (notFace_of_selects (args := #[]) (mvT hZ (w250 hw))) (mvT hZ (w250 hw)) (mvT hZ (w249 hw)) (by decide) (backOf (W := 0) (rm40 l Z az hw [] a0 sC h0 n0 Z0 S_COMPACT_STRINGS hc1 F_coder_a0) hZ (w251 hw) (w6 hw) (by decide) (by decide)) q1a q1c (g := (mkF m 1 #[vR a0, vI p1] [(.ref a0)])) rfl (by rw [hml]; rfl) (Steps.refl _) (argsL := []) (rest := []) (lenOf pd_14 rfl) rfl (Nat.le_of_eq rfl) (hb hby d39_1) (fun _ _ => ⟨rfl, e0, (by decide : 0 + 0 ≤ _), (by decide : 0 + 0 ≤ _)⟩)
  dsimp only [Pt.U, Pt.locs, Pt.cells, Pt.slots] at X1 l1 y1 z1 st1 hQ1
  subst l1 y1 z1
  obtain ⟨rfl, N1q, e1⟩ := hQ1
  obtain ⟨Lg1, X1', N1⟩ := own_gen X1 (Fr.app N0 N1q)
  obtain ⟨T2, X2, e2, st2⟩ := getF X1' hx hZ hown (host := "") (Or.inl (w24 hw)) Via.refl e1 F_value_a0 (g := (mkF m 8 #[vR a0, vI p1] [(.ref a0)])) rfl rfl (hb hby d39_8)
  obtain ⟨_, _, ⟨T3, L3, k3', n3'⟩, -, X3, ⟨Lc3, hQ3, l3, y3, z3⟩, st3⟩ := Jvm.LawKit.callS X2 hx (y := (⟨"java/lang/StringLatin1", "charAt", "([BI)C"⟩ : MethodName)) hown (mvT hZ (w252 hw)) (mvT hZ (w253 hw)) (mvT hZ (w254 hw)) (mvT hZ (w255 hw)) (by decide) (backOf (W := 0) (rm41 l Z az hw [] aB p1 vF kaB ln fB cw h0 n0 Z0 S_SIOOBE_FORMATTER hc3 V_aB hc9 hc10 hc11) hZ (w255 hw) (w254 hw) (by decide) (by decide)) (g := (mkF m 12 #[vR a0, vI p1] [(.int p1), (.ref aB)])) rfl (by rw [hml]; rfl) (argsL := [(.ref aB), (.int p1)]) (rest := []) (lenOf pd_27 rfl) rfl (Nat.le_of_eq rfl) (hb hby d39_12) (fun _ _ => ⟨rfl, e2, (by decide : 0 + 0 ≤ _), (by decide : 0 + 0 ≤ _)⟩)
  dsimp only [Pt.U, Pt.locs, Pt.cells, Pt.slots] at X3 l3 y3 z3 st3 hQ3
  subst l3 y3 z3
  obtain ⟨rfl, N3q, e3⟩ := hQ3
  obtain ⟨Lg3, X3', N3⟩ := own_gen X3 (Fr.app N1 N3q)
  obtain ⟨fs, hr, hrun, hended, hW, hsame⟩ := X3'.leave (v := some (.int (own_ch cw))) (fun h => by rw [Bd.returns] at h; cases h)
  refine ⟨_, _, pre0 _ ?_, hrun, hended, _, _, rfl, ?_, ⟨_, rfl⟩, hW, hsame.mono (by decide) (by decide)⟩
  · show SP p e below s₁ (mkF m 0 #[vR a0, vI p1] []) _
    refine XS.aloadN X0.here hx rfl (hb hby d39_0) rfl rfl ?_
    show SP p e below s₁ (mkF m 1 #[vR a0, vI p1] [(.ref a0)]) _
    refine st1.trans ?_
    show SP p e below T1 (mkF m 4 #[vR a0, vI p1] [(.int (1 : Int32))]) _
    refine XS.ifNo X1'.here hx rfl (hb hby d39_4) rfl ((if0 _ _).trans (feq (by decide : ¬ ((1 : Int32) = (0 : Int32)))).1) ?_
    refine XS.aloadN X1'.here hx rfl (hb hby d39_7) rfl rfl ?_
    show SP p e below T1 (mkF m 8 #[vR a0, vI p1] [(.ref a0)]) _
    refine st2 _ ?_
    show SP p e below T2 (mkF m 11 #[vR a0, vI p1] [(.ref aB)]) _
    refine XS.iloadN X2.here hx rfl (hb hby d39_11) rfl ?_
    show SP p e below T2 (mkF m 12 #[vR a0, vI p1] [(.int p1), (.ref aB)]) _
    refine st3 _ ?_
    show SP p e below T3 (mkF m 15 #[vR a0, vI p1] [(.int (own_ch cw))]) _
    exact retN X3' hx (t := .char) Bd.returns (by simp) (hb hby d39_15) (fun f acts q1 q2 q3 => by rw [hc12]; exact hr f acts q1 q2 q3)
  · show Q39 Z a0 p1 sC vF aB kaB ln fB cw h0 n0 _ T3.heap _
    rw [e3]
    exact ⟨rfl, N3, rfl⟩
theorem d38_0 : decode method_4_code 0 = .ok (.aload_n 0, 1) := by decide +kernel
theorem d38_1 : decode method_4_code 1 = .ok (.iload_n 1, 1) := by decide +kernel
theorem d38_2 : decode method_4_code 2 = .ok (.iload_n 3, 1) := by decide +kernel
theorem d38_3 : decode method_4_code 3 = .ok (.iadd, 1) := by decide +kernel
theorem d38_4 : decode method_4_code 4 = .ok (.invokevirtual 35, 3) := by decide +kernel
theorem pd_28 : parseMethodDescriptor "(I)C" = some ⟨[.int], some .char⟩ := by decide +kernel
theorem d38_7 : decode method_4_code 7 = .ok (.aload_n 2, 1) := by decide +kernel
theorem d38_8 : decode method_4_code 8 = .ok (.iload_n 3, 1) := by decide +kernel
theorem d38_9 : decode method_4_code 9 = .ok (.invokevirtual 35, 3) := by decide +kernel
theorem d38_12 : decode method_4_code 12 = .ok (.if_icmp .ne 7, 3) := by decide +kernel
theorem d38_15 : decode method_4_code 15 = .ok (.iconst 1, 1) := by decide +kernel
theorem d38_16 : decode method_4_code 16 = .ok (.goto 4, 3) := by decide +kernel
theorem d38_20 : decode method_4_code 20 = .ok (.ireturn, 1) := by decide +kernel
theorem ef_rm38 (m : MethodId) (a0 : Addr) (p1 : Int32) (a2 : Addr) (p3 : Int32) : entryFrame m #[(.ref a0), (.int p1), (.ref a2), (.int p3)] 4 = mkF m 0 #[vR a0, vI p1, vR a2, vI p3] [] := by first | (simp [entryFrame, mkF, argsToLocals, Value.category]; done) | rfl
def Q38 (Z : State) (a0 : Addr) (p1 : Int32) (a2 : Addr) (p3 : Int32) (sC : Int32) (vF : Value) (aB : Addr) (kaB : ClassId) (ln : Int32) (fB : Nat → Value) (aL : Addr) (kaL : ClassId) (lL : Int32) (fL : Nat → Value) (cw : Int32) (h0 : Heap) (n0 : Nat) (v : Option Value) (h : Heap) (L : List Loc) : Prop := v = some (.int (1 : Int32)) ∧ Fr n0 L ∧ h = h0
set_option maxRecDepth 65536 in
set_option maxHeartbeats 40000000 in
theorem rm38 (l : Launch) (Z : State) (az : Array Value) (hw : HW Z az) (ws : List Jvm.Cond) (a0 : Addr) (p1 : Int32) (a2 : Addr) (p3 : Int32) (sC : Int32) (vF : Value) (aB : Addr) (kaB : ClassId) (ln : Int32) (fB : Nat → Value) (aL : Addr) (kaL : ClassId) (lL : Int32) (fL : Nat → Value) (cw : Int32) (h0 : Heap) (n0 : Nat) (Z0 : n0 ≤ h0.size) (S_COMPACT_STRINGS : Sta Z h0 cST "COMPACT_STRINGS" "Z" (.int sC)) (hc1 : ¬ (sC = (0 : Int32))) (S_SIOOBE_FORMATTER : Sta Z h0 "jdk/internal/util/Preconditions" "SIOOBE_FORMATTER" "Ljava/util/function/BiFunction;" vF) (hc3 : own_isR vF) (E_a0 : Exa Z h0 a0 cST) (F_coder_a0 : Fld Z h0 a0 cST "coder" "B" (.int (0 : Int32))) (F_value_a0 : Fld Z h0 a0 cST "value" "[B" (.ref aB)) (V_aB : own_Arf Z h0 aB kaB .byte ln fB) (E_aB : Exa Z h0 aB "[B") (E_a2 : Exa Z h0 a2 cST) (F_coder_a2 : Fld Z h0 a2 cST "coder" "B" (.int (0 : Int32))) (F_value_a2 : Fld Z h0 a2 cST "value" "[B" (.ref aL)) (V_aL : own_Arf Z h0 aL kaL .byte lL fL) (E_aL : Exa Z h0 aL "[B") (hc14 : ¬ ((p1 + p3) < (0 : Int32))) (hc15 : (p1 + p3) < ln) (hc16 : fB ((p1 + p3)).toNatClampNeg = (.int cw)) (hc17 : nar .char (own_ch cw) = (own_ch cw)) (hc18 : ¬ (p3 < (0 : Int32))) (hc19 : p3 < lL) (hc20 : fL (p3).toNatClampNeg = (.int cw)) :
    MF l Z h0 ws ⟨cLW, "eq", "(Ljava/lang/String;ILjava/lang/String;I)Z"⟩ method_4_code 4 (some .boolean) ⟨4, 0, 0, 54⟩ #[(.ref a0), (.int p1), (.ref a2), (.int p3)] (Q38 Z a0 p1 a2 p3 sC vF aB kaB ln fB aL kaL lL fL cw h0 n0) := by
  refine MetFree.of_bodySF (plainFor_of_name pn_com_example_key_lease_keylease_store_WatchedNameClosedStorePinLaw) hisR ?_
  intro p e s m args below meth c s₁ Bd hml0 hP hK
  obtain ⟨rfl, hZ, hh⟩ := hP
  have hx := Bd.exec
  have hby := Bd.bytes
  have hml : c.maxLocals = 4 := hml0
  have hown : s.vm.findClass cLW = some m.cls := findClass_of_methodNamed Bd.named
  have hnm := (name_of_methodNamed Bd.named Bd.method).1
  have X0 : Stand p l e (⟨4, 0, 0, 54⟩ : Room) s m #[(.ref a0), (.int p1), (.ref a2), (.int p3)] below meth c s₁ [] 0 0 := Stand.of_body Bd
  have e0 : s₁.heap = h0 := by rw [← hh, Bd.state]; rfl
  have N0 := Fr.nil n0
  have pre0 : ∀ t, Steps p.tables e below (s₁.setTop (mkF m 0 #[vR a0, vI p1, vR a2, vI p3] [])) t → Steps p.tables e below (s₁.setTop (entryFrame m #[(.ref a0), (.int p1), (.ref a2), (.int p3)] 4)) t := fun t k => castTop (ef_rm38 m a0 p1 a2 p3) k
  obtain ⟨cq1, kq1, q1a, q1b, q1c⟩ := isOf hZ e0 E_a0
  obtain ⟨_, _, ⟨T1, L1, k1', n1'⟩, -, X1, ⟨Lc1, hQ1, l1, y1, z1⟩, st1⟩ := X0.virtualBack hx (y := (⟨cST, "charAt", "(I)C"⟩ : MethodName)) (z := (⟨cST, "charAt", "(I)C"⟩ : MethodName)) hown (mvT hZ (w242 hw)) (mvT hZ (w243 hw)) (notFace_of_selects (args := #[]) (mvT hZ (w245 hw))) (mvT hZ (w245 hw)) (mvT hZ (w244 hw)) (by decide) (backOf (W := 0) (rm39 l Z az hw [] a0 (p1 + p3) sC vF aB kaB ln fB cw h0 n0 Z0 S_COMPACT_STRINGS hc1 S_SIOOBE_FORMATTER hc3 E_a0 F_coder_a0 F_value_a0 V_aB E_aB hc14 hc15 hc16 hc17) hZ (w246 hw) (w6 hw) (by decide) (by decide)) q1a q1c (g := (mkF m 4 #[vR a0, vI p1, vR a2, vI p3] [(.int (p1 + p3)), (.ref a0)])) rfl (by rw [hml]; rfl) (Steps.refl _) (argsL := [(.int (p1 + p3))]) (rest := []) (lenOf pd_28 rfl) rfl (Nat.le_of_eq rfl) (hb hby d38_4) (fun _ _ => ⟨rfl, e0, (by decide : 0 + 0 ≤ _), (by decide : 0 + 0 ≤ _)⟩)
  dsimp only [Pt.U, Pt.locs, Pt.cells, Pt.slots] at X1 l1 y1 z1 st1 hQ1
  subst l1 y1 z1
  obtain ⟨rfl, N1q, e1⟩ := hQ1
  obtain ⟨Lg1, X1', N1⟩ := own_gen X1 (Fr.app N0 N1q)
  obtain ⟨cq2, kq2, q2a, q2b, q2c⟩ := isOf hZ e1 E_a2
  obtain ⟨_, _, ⟨T2, L2, k2', n2'⟩, -, X2, ⟨Lc2, hQ2, l2, y2, z2⟩, st2⟩ := X1'.virtualBack hx (y := (⟨cST, "charAt", "(I)C"⟩ : MethodName)) (z := (⟨cST, "charAt", "(I)C"⟩ : MethodName)) hown (mvT hZ (w242 hw)) (mvT hZ (w243 hw)) (notFace_of_selects (args := #[]) (mvT hZ (w245 hw))) (mvT hZ (w245 hw)) (mvT hZ (w244 hw)) (by decide) (backOf (W := 1) (rm39 l Z az hw [] a2 p3 sC vF aL kaL lL fL cw h0 n0 Z0 S_COMPACT_STRINGS hc1 S_SIOOBE_FORMATTER hc3 E_a2 F_coder_a2 F_value_a2 V_aL E_aL hc18 hc19 hc20 hc17) hZ (w246 hw) (w6 hw) (by decide) (by decide)) q2a q2c (g := (mkF m 9 #[vR a0, vI p1, vR a2, vI p3] [(.int p3), (.ref a2), (.int (own_ch cw))])) rfl (by rw [hml]; rfl) (Steps.refl _) (argsL := [(.int p3)]) (rest := [(.int (own_ch cw))]) (lenOf pd_28 rfl) rfl (Nat.le_of_eq rfl) (hb hby d38_9) (fun _ _ => ⟨rfl, e1, (by decide : 0 + 0 ≤ _), (by decide : 0 + 0 ≤ _)⟩)
  dsimp only [Pt.U, Pt.locs, Pt.cells, Pt.slots] at X2 l2 y2 z2 st2 hQ2
  subst l2 y2 z2
  obtain ⟨rfl, N2q, e2⟩ := hQ2
  obtain ⟨Lg2, X2', N2⟩ := own_gen X2 (Fr.app N1 N2q)
  obtain ⟨fs, hr, hrun, hended, hW, hsame⟩ := X2'.leave (v := some (.int (1 : Int32))) (fun h => by rw [Bd.returns] at h; cases h)
  refine ⟨_, _, pre0 _ ?_, hrun, hended, _, _, rfl, ?_, ⟨_, rfl⟩, hW, hsame.mono (by decide) (by decide)⟩
  · show SP p e below s₁ (mkF m 0 #[vR a0, vI p1, vR a2, vI p3] []) _
    refine XS.aloadN X0.here hx rfl (hb hby d38_0) rfl rfl ?_
    refine XS.iloadN X0.here hx rfl (hb hby d38_1) rfl ?_
    refine XS.iloadN X0.here hx rfl (hb hby d38_2) rfl ?_
    refine XS.iadd X0.here hx rfl (hb hby d38_3) rfl ?_
    show SP p e below s₁ (mkF m 4 #[vR a0, vI p1, vR a2, vI p3] [(.int (p1 + p3)), (.ref a0)]) _
    refine st1.trans ?_
    show SP p e below T1 (mkF m 7 #[vR a0, vI p1, vR a2, vI p3] [(.int (own_ch cw))]) _
    refine XS.aloadN X1'.here hx rfl (hb hby d38_7) rfl rfl ?_
    refine XS.iloadN X1'.here hx rfl (hb hby d38_8) rfl ?_
    show SP p e below T1 (mkF m 9 #[vR a0, vI p1, vR a2, vI p3] [(.int p3), (.ref a2), (.int (own_ch cw))]) _
    refine st2.trans ?_
    show SP p e below T2 (mkF m 12 #[vR a0, vI p1, vR a2, vI p3] [(.int (own_ch cw)), (.int (own_ch cw))]) _
    refine XS.icmpNo X2'.here hx rfl (hb hby d38_12) rfl (teq (rfl : (own_ch cw) = (own_ch cw))).2 ?_
    refine XS.iconst X2'.here hx rfl (hb hby d38_15) ?_
    refine XS.goto X2'.here hx rfl (pc0 := 16) (pc' := 20) rfl (hb hby d38_16) (by decide) (by decide) ?_
    show SP p e below T2 (mkF m 20 #[vR a0, vI p1, vR a2, vI p3] [(.int (1 : Int32))]) _
    exact retN X2' hx (t := .boolean) Bd.returns (by simp) (hb hby d38_20) hr
  · show Q38 Z a0 p1 a2 p3 sC vF aB kaB ln fB aL kaL lL fL cw h0 n0 _ T2.heap _
    rw [e2]
    exact ⟨rfl, N2, rfl⟩
def own_Mid (f : Nat → Value) (n o : Int32) : Prop := ∀ k : Nat, k < 35 → ¬ ((o + Int32.ofNat k) < (0 : Int32)) ∧ (o + Int32.ofNat k) < n ∧ f (o + Int32.ofNat k).toNatClampNeg = own_lit k
theorem d37_42 : decode method_5_code 42 = .ok (.aload_n 0, 1) := by decide +kernel
theorem d37_43 : decode method_5_code 43 = .ok (.iload_n 1, 1) := by decide +kernel
theorem d37_44 : decode method_5_code 44 = .ok (.aload_n 2, 1) := by decide +kernel
theorem d37_45 : decode method_5_code 45 = .ok (.iconst 3, 1) := by decide +kernel
theorem d37_46 : decode method_5_code 46 = .ok (.invokestatic 48, 3) := by decide +kernel
theorem pd_29 : parseMethodDescriptor "(Ljava/lang/String;ILjava/lang/String;I)Z" = some ⟨[(.object "java/lang/String"), .int, (.object "java/lang/String"), .int], some .boolean⟩ := by decide +kernel
theorem d37_49 : decode method_5_code 49 = .ok (.ifCond .eq 346, 3) := by decide +kernel
set_option maxRecDepth 65536 in
set_option maxHeartbeats 40000000 in
theorem sgEI (l : Launch) (Z : State) (az : Array Value) (hw : HW Z az) {p : Program} {e : Env} {s : State} {m : MethodId} {args : Array Value} {below : List Frame} {meth : Method} {c : Code} (hx : p.tables.exec = Jvm.exec) (hby : c.code = method_5_code) (hml : c.maxLocals = 3) (hown : s.vm.findClass cLW = some m.cls) (hZ : Z.Warmed39 s.vm) (a0 : Addr) (p1 : Int32) (a2 : Addr) (sC : Int32) (vF : Value) (aM : Addr) (kaM : ClassId) (nM : Int32) (fM : Nat → Value) (aL : Addr) (kaL : ClassId) (lL : Int32) (fL : Nat → Value) (cw : Int32) (pc : Nat) (ki off : Int) (h0 : Heap) (n0 : Nat) (Z0 : n0 ≤ h0.size) (S_COMPACT_STRINGS : Sta Z h0 cST "COMPACT_STRINGS" "Z" (.int sC)) (hc1 : ¬ (sC = (0 : Int32))) (S_SIOOBE_FORMATTER : Sta Z h0 "jdk/internal/util/Preconditions" "SIOOBE_FORMATTER" "Ljava/util/function/BiFunction;" vF) (hc3 : own_isR vF) (E_a0 : Exa Z h0 a0 cST) (F_coder_a0 : Fld Z h0 a0 cST "coder" "B" (.int (0 : Int32))) (F_value_a0 : Fld Z h0 a0 cST "value" "[B" (.ref aM)) (V_aM : own_Arf Z h0 aM kaM .byte nM fM) (E_aM : Exa Z h0 aM "[B") (E_a2 : Exa Z h0 a2 cST) (F_coder_a2 : Fld Z h0 a2 cST "coder" "B" (.int (0 : Int32))) (F_value_a2 : Fld Z h0 a2 cST "value" "[B" (.ref aL)) (V_aL : own_Arf Z h0 aL kaL .byte lL fL) (E_aL : Exa Z h0 aL "[B") (hc14 : ¬ ((p1 + (Int32.ofInt ki)) < (0 : Int32))) (hc15 : (p1 + (Int32.ofInt ki)) < nM) (hc16 : fM ((p1 + (Int32.ofInt ki))).toNatClampNeg = (.int cw)) (hc17 : nar .char (own_ch cw) = (own_ch cw)) (hc18 : (Int32.ofInt ki) < lL) (hc19 : fL ((Int32.ofInt ki)).toNatClampNeg = (.int cw)) (hk0 : ¬ ((Int32.ofInt ki) < (0 : Int32))) (D0 : decode c.code pc = .ok (.aload_n 0, 1)) (D1 : decode c.code (pc + 1) = .ok (.iload_n 1, 1)) (D2 : decode c.code (pc + 2) = .ok (.aload_n 2, 1)) (D3 : decode c.code (pc + 3) = .ok (.iconst ki, 1)) (D4 : decode c.code (pc + 4) = .ok (.invokestatic 48, 3)) (D5 : decode c.code (pc + 7) = .ok (.ifCond .eq off, 3)) :
    own_Seg p l e (⟨5, 2, 144, 80⟩ : Room) s m args below meth c n0 2 144 2 144 h0 (mkF m pc #[vR a0, vI p1, vR a2] []) (fun h g => g = (mkF m (pc + 10) #[vR a0, vI p1, vR a2] []) ∧ h = h0) := by
  intro s₁ hT
  obtain ⟨Lz0, X0, e0, N0⟩ := hT
  obtain ⟨_, _, ⟨T1, L1, k1', n1'⟩, -, X1, ⟨Lc1, hQ1, l1, y1, z1⟩, st1⟩ := Jvm.LawKit.callS X0 hx (y := (⟨cLW, "eq", "(Ljava/lang/String;ILjava/lang/String;I)Z"⟩ : MethodName)) hown (mvT hZ (w239 hw)) (mvT hZ (w240 hw)) (mvT hZ (w2 hw)) (mvT hZ (w241 hw)) (by decide) (backOf (W := 0) (rm38 l Z az hw [] a0 p1 a2 (Int32.ofInt ki) sC vF aM kaM nM fM aL kaL lL fL cw h0 n0 Z0 S_COMPACT_STRINGS hc1 S_SIOOBE_FORMATTER hc3 E_a0 F_coder_a0 F_value_a0 V_aM E_aM E_a2 F_coder_a2 F_value_a2 V_aL E_aL hc14 hc15 hc16 hc17 hk0 hc18 hc19) hZ (w241 hw) (w2 hw) (by decide) (by decide)) (g := (mkF m (pc + 4) #[vR a0, vI p1, vR a2] [(.int (Int32.ofInt ki)), (.ref a2), (.int p1), (.ref a0)])) rfl (by rw [hml]; rfl) (argsL := [(.ref a0), (.int p1), (.ref a2), (.int (Int32.ofInt ki))]) (rest := []) (lenOf pd_29 rfl) rfl (Nat.le_of_eq rfl) D4 (fun _ _ => ⟨rfl, e0, (by decide : 2 + 0 ≤ _), (by decide : 144 + 0 ≤ _)⟩)
  dsimp only [Pt.U, Pt.locs, Pt.cells, Pt.slots] at X1 l1 y1 z1 st1 hQ1
  subst l1 y1 z1
  obtain ⟨rfl, N1q, e1⟩ := hQ1
  obtain ⟨Lg1, X1', N1⟩ := own_gen X1 (Fr.app N0 N1q)
  refine ⟨_, _, _, ⟨rfl, rfl⟩, ⟨_, X1', e1, N1⟩, fun t hr => ?_⟩
  show SP p e below s₁ (mkF m pc #[vR a0, vI p1, vR a2] []) _
  refine XS.aloadN X0.here hx rfl D0 rfl rfl ?_
  refine XS.iloadN X0.here hx rfl D1 rfl ?_
  refine XS.aloadN X0.here hx rfl D2 rfl rfl ?_
  refine XS.iconst X0.here hx rfl D3 ?_
  show SP p e below s₁ (mkF m (pc + 4) #[vR a0, vI p1, vR a2] [(.int (Int32.ofInt ki)), (.ref a2), (.int p1), (.ref a0)]) _
  refine st1 _ ?_
  show SP p e below T1 (mkF m (pc + 7) #[vR a0, vI p1, vR a2] [(.int (1 : Int32))]) _
  refine XS.ifNo X1'.here hx rfl D5 rfl ((if0 _ _).trans (feq (by decide : ¬ ((1 : Int32) = (0 : Int32)))).1) ?_
  exact hr
theorem d37_72 : decode method_5_code 72 = .ok (.aload_n 0, 1) := by decide +kernel
theorem d37_73 : decode method_5_code 73 = .ok (.iload_n 1, 1) := by decide +kernel
theorem d37_74 : decode method_5_code 74 = .ok (.aload_n 2, 1) := by decide +kernel
theorem d37_75 : decode method_5_code 75 = .ok (.bipush 6, 2) := by decide +kernel
theorem d37_77 : decode method_5_code 77 = .ok (.invokestatic 48, 3) := by decide +kernel
theorem d37_80 : decode method_5_code 80 = .ok (.ifCond .eq 315, 3) := by decide +kernel
set_option maxRecDepth 65536 in
set_option maxHeartbeats 40000000 in
theorem sgEB (l : Launch) (Z : State) (az : Array Value) (hw : HW Z az) {p : Program} {e : Env} {s : State} {m : MethodId} {args : Array Value} {below : List Frame} {meth : Method} {c : Code} (hx : p.tables.exec = Jvm.exec) (hby : c.code = method_5_code) (hml : c.maxLocals = 3) (hown : s.vm.findClass cLW = some m.cls) (hZ : Z.Warmed39 s.vm) (a0 : Addr) (p1 : Int32) (a2 : Addr) (sC : Int32) (vF : Value) (aM : Addr) (kaM : ClassId) (nM : Int32) (fM : Nat → Value) (aL : Addr) (kaL : ClassId) (lL : Int32) (fL : Nat → Value) (cw : Int32) (pc : Nat) (ki off : Int) (h0 : Heap) (n0 : Nat) (Z0 : n0 ≤ h0.size) (S_COMPACT_STRINGS : Sta Z h0 cST "COMPACT_STRINGS" "Z" (.int sC)) (hc1 : ¬ (sC = (0 : Int32))) (S_SIOOBE_FORMATTER : Sta Z h0 "jdk/internal/util/Preconditions" "SIOOBE_FORMATTER" "Ljava/util/function/BiFunction;" vF) (hc3 : own_isR vF) (E_a0 : Exa Z h0 a0 cST) (F_coder_a0 : Fld Z h0 a0 cST "coder" "B" (.int (0 : Int32))) (F_value_a0 : Fld Z h0 a0 cST "value" "[B" (.ref aM)) (V_aM : own_Arf Z h0 aM kaM .byte nM fM) (E_aM : Exa Z h0 aM "[B") (E_a2 : Exa Z h0 a2 cST) (F_coder_a2 : Fld Z h0 a2 cST "coder" "B" (.int (0 : Int32))) (F_value_a2 : Fld Z h0 a2 cST "value" "[B" (.ref aL)) (V_aL : own_Arf Z h0 aL kaL .byte lL fL) (E_aL : Exa Z h0 aL "[B") (hc14 : ¬ ((p1 + ((Int8.ofInt ki).toInt32)) < (0 : Int32))) (hc15 : (p1 + ((Int8.ofInt ki).toInt32)) < nM) (hc16 : fM ((p1 + ((Int8.ofInt ki).toInt32))).toNatClampNeg = (.int cw)) (hc17 : nar .char (own_ch cw) = (own_ch cw)) (hc18 : ((Int8.ofInt ki).toInt32) < lL) (hc19 : fL (((Int8.ofInt ki).toInt32)).toNatClampNeg = (.int cw)) (hk0 : ¬ (((Int8.ofInt ki).toInt32) < (0 : Int32))) (D0 : decode c.code pc = .ok (.aload_n 0, 1)) (D1 : decode c.code (pc + 1) = .ok (.iload_n 1, 1)) (D2 : decode c.code (pc + 2) = .ok (.aload_n 2, 1)) (D3 : decode c.code (pc + 3) = .ok (.bipush ki, 2)) (D4 : decode c.code (pc + 5) = .ok (.invokestatic 48, 3)) (D5 : decode c.code (pc + 8) = .ok (.ifCond .eq off, 3)) :
    own_Seg p l e (⟨5, 2, 144, 80⟩ : Room) s m args below meth c n0 2 144 2 144 h0 (mkF m pc #[vR a0, vI p1, vR a2] []) (fun h g => g = (mkF m (pc + 11) #[vR a0, vI p1, vR a2] []) ∧ h = h0) := by
  intro s₁ hT
  obtain ⟨Lz0, X0, e0, N0⟩ := hT
  obtain ⟨_, _, ⟨T1, L1, k1', n1'⟩, -, X1, ⟨Lc1, hQ1, l1, y1, z1⟩, st1⟩ := Jvm.LawKit.callS X0 hx (y := (⟨cLW, "eq", "(Ljava/lang/String;ILjava/lang/String;I)Z"⟩ : MethodName)) hown (mvT hZ (w239 hw)) (mvT hZ (w240 hw)) (mvT hZ (w2 hw)) (mvT hZ (w241 hw)) (by decide) (backOf (W := 0) (rm38 l Z az hw [] a0 p1 a2 ((Int8.ofInt ki).toInt32) sC vF aM kaM nM fM aL kaL lL fL cw h0 n0 Z0 S_COMPACT_STRINGS hc1 S_SIOOBE_FORMATTER hc3 E_a0 F_coder_a0 F_value_a0 V_aM E_aM E_a2 F_coder_a2 F_value_a2 V_aL E_aL hc14 hc15 hc16 hc17 hk0 hc18 hc19) hZ (w241 hw) (w2 hw) (by decide) (by decide)) (g := (mkF m (pc + 5) #[vR a0, vI p1, vR a2] [(.int ((Int8.ofInt ki).toInt32)), (.ref a2), (.int p1), (.ref a0)])) rfl (by rw [hml]; rfl) (argsL := [(.ref a0), (.int p1), (.ref a2), (.int ((Int8.ofInt ki).toInt32))]) (rest := []) (lenOf pd_29 rfl) rfl (Nat.le_of_eq rfl) D4 (fun _ _ => ⟨rfl, e0, (by decide : 2 + 0 ≤ _), (by decide : 144 + 0 ≤ _)⟩)
  dsimp only [Pt.U, Pt.locs, Pt.cells, Pt.slots] at X1 l1 y1 z1 st1 hQ1
  subst l1 y1 z1
  obtain ⟨rfl, N1q, e1⟩ := hQ1
  obtain ⟨Lg1, X1', N1⟩ := own_gen X1 (Fr.app N0 N1q)
  refine ⟨_, _, _, ⟨rfl, rfl⟩, ⟨_, X1', e1, N1⟩, fun t hr => ?_⟩
  show SP p e below s₁ (mkF m pc #[vR a0, vI p1, vR a2] []) _
  refine XS.aloadN X0.here hx rfl D0 rfl rfl ?_
  refine XS.iloadN X0.here hx rfl D1 rfl ?_
  refine XS.aloadN X0.here hx rfl D2 rfl rfl ?_
  refine XS.bipush X0.here hx rfl D3 ?_
  show SP p e below s₁ (mkF m (pc + 5) #[vR a0, vI p1, vR a2] [(.int ((Int8.ofInt ki).toInt32)), (.ref a2), (.int p1), (.ref a0)]) _
  refine st1 _ ?_
  show SP p e below T1 (mkF m (pc + 8) #[vR a0, vI p1, vR a2] [(.int (1 : Int32))]) _
  refine XS.ifNo X1'.here hx rfl D5 rfl ((if0 _ _).trans (feq (by decide : ¬ ((1 : Int32) = (0 : Int32)))).1) ?_
  exact hr
theorem own_Seg.seq {p : Program} {l : Launch} {e : Env} {R : Room} {s : State} {m : MethodId} {args : Array Value} {below : List Frame} {meth : Method} {c : Code} {n0 k1 s1 : Nat} {h0 : Heap} {g0 g1 : JFrame} {Q : Heap → JFrame → Prop} (A : own_Seg p l e R s m args below meth c n0 k1 s1 k1 s1 h0 g0 (fun h g => g = g1 ∧ h = h0)) (B : own_Seg p l e R s m args below meth c n0 k1 s1 k1 s1 h0 g1 Q) : own_Seg p l e R s m args below meth c n0 k1 s1 k1 s1 h0 g0 Q := own_Seg.bind A fun h g q => by
  obtain ⟨rfl, e⟩ := q
  rw [e]
  exact B
theorem d37_12 : decode method_5_code 12 = .ok (.aload_n 0, 1) := by decide +kernel
theorem d37_13 : decode method_5_code 13 = .ok (.iload_n 1, 1) := by decide +kernel
theorem d37_14 : decode method_5_code 14 = .ok (.aload_n 2, 1) := by decide +kernel
theorem d37_15 : decode method_5_code 15 = .ok (.iconst 0, 1) := by decide +kernel
theorem d37_16 : decode method_5_code 16 = .ok (.invokestatic 48, 3) := by decide +kernel
theorem d37_19 : decode method_5_code 19 = .ok (.ifCond .eq 376, 3) := by decide +kernel
theorem d37_22 : decode method_5_code 22 = .ok (.aload_n 0, 1) := by decide +kernel
theorem d37_23 : decode method_5_code 23 = .ok (.iload_n 1, 1) := by decide +kernel
theorem d37_24 : decode method_5_code 24 = .ok (.aload_n 2, 1) := by decide +kernel
theorem d37_25 : decode method_5_code 25 = .ok (.iconst 1, 1) := by decide +kernel
theorem d37_26 : decode method_5_code 26 = .ok (.invokestatic 48, 3) := by decide +kernel
theorem d37_29 : decode method_5_code 29 = .ok (.ifCond .eq 366, 3) := by decide +kernel
theorem d37_32 : decode method_5_code 32 = .ok (.aload_n 0, 1) := by decide +kernel
theorem d37_33 : decode method_5_code 33 = .ok (.iload_n 1, 1) := by decide +kernel
theorem d37_34 : decode method_5_code 34 = .ok (.aload_n 2, 1) := by decide +kernel
theorem d37_35 : decode method_5_code 35 = .ok (.iconst 2, 1) := by decide +kernel
theorem d37_36 : decode method_5_code 36 = .ok (.invokestatic 48, 3) := by decide +kernel
theorem d37_39 : decode method_5_code 39 = .ok (.ifCond .eq 356, 3) := by decide +kernel
theorem d37_52 : decode method_5_code 52 = .ok (.aload_n 0, 1) := by decide +kernel
theorem d37_53 : decode method_5_code 53 = .ok (.iload_n 1, 1) := by decide +kernel
theorem d37_54 : decode method_5_code 54 = .ok (.aload_n 2, 1) := by decide +kernel
theorem d37_55 : decode method_5_code 55 = .ok (.iconst 4, 1) := by decide +kernel
theorem d37_56 : decode method_5_code 56 = .ok (.invokestatic 48, 3) := by decide +kernel
theorem d37_59 : decode method_5_code 59 = .ok (.ifCond .eq 336, 3) := by decide +kernel
theorem d37_62 : decode method_5_code 62 = .ok (.aload_n 0, 1) := by decide +kernel
theorem d37_63 : decode method_5_code 63 = .ok (.iload_n 1, 1) := by decide +kernel
theorem d37_64 : decode method_5_code 64 = .ok (.aload_n 2, 1) := by decide +kernel
theorem d37_65 : decode method_5_code 65 = .ok (.iconst 5, 1) := by decide +kernel
theorem d37_66 : decode method_5_code 66 = .ok (.invokestatic 48, 3) := by decide +kernel
theorem d37_69 : decode method_5_code 69 = .ok (.ifCond .eq 326, 3) := by decide +kernel
theorem d37_83 : decode method_5_code 83 = .ok (.aload_n 0, 1) := by decide +kernel
theorem d37_84 : decode method_5_code 84 = .ok (.iload_n 1, 1) := by decide +kernel
theorem d37_85 : decode method_5_code 85 = .ok (.aload_n 2, 1) := by decide +kernel
theorem d37_86 : decode method_5_code 86 = .ok (.bipush 7, 2) := by decide +kernel
theorem d37_88 : decode method_5_code 88 = .ok (.invokestatic 48, 3) := by decide +kernel
theorem d37_91 : decode method_5_code 91 = .ok (.ifCond .eq 304, 3) := by decide +kernel
theorem d37_94 : decode method_5_code 94 = .ok (.aload_n 0, 1) := by decide +kernel
theorem d37_95 : decode method_5_code 95 = .ok (.iload_n 1, 1) := by decide +kernel
theorem d37_96 : decode method_5_code 96 = .ok (.aload_n 2, 1) := by decide +kernel
theorem d37_97 : decode method_5_code 97 = .ok (.bipush 8, 2) := by decide +kernel
theorem d37_99 : decode method_5_code 99 = .ok (.invokestatic 48, 3) := by decide +kernel
theorem d37_102 : decode method_5_code 102 = .ok (.ifCond .eq 293, 3) := by decide +kernel
theorem d37_105 : decode method_5_code 105 = .ok (.aload_n 0, 1) := by decide +kernel
theorem d37_106 : decode method_5_code 106 = .ok (.iload_n 1, 1) := by decide +kernel
theorem d37_107 : decode method_5_code 107 = .ok (.aload_n 2, 1) := by decide +kernel
theorem d37_108 : decode method_5_code 108 = .ok (.bipush 9, 2) := by decide +kernel
theorem d37_110 : decode method_5_code 110 = .ok (.invokestatic 48, 3) := by decide +kernel
theorem d37_113 : decode method_5_code 113 = .ok (.ifCond .eq 282, 3) := by decide +kernel
theorem d37_116 : decode method_5_code 116 = .ok (.aload_n 0, 1) := by decide +kernel
theorem d37_117 : decode method_5_code 117 = .ok (.iload_n 1, 1) := by decide +kernel
theorem d37_118 : decode method_5_code 118 = .ok (.aload_n 2, 1) := by decide +kernel
theorem d37_119 : decode method_5_code 119 = .ok (.bipush 10, 2) := by decide +kernel
theorem d37_121 : decode method_5_code 121 = .ok (.invokestatic 48, 3) := by decide +kernel
theorem d37_124 : decode method_5_code 124 = .ok (.ifCond .eq 271, 3) := by decide +kernel
theorem d37_127 : decode method_5_code 127 = .ok (.aload_n 0, 1) := by decide +kernel
theorem d37_128 : decode method_5_code 128 = .ok (.iload_n 1, 1) := by decide +kernel
theorem d37_129 : decode method_5_code 129 = .ok (.aload_n 2, 1) := by decide +kernel
theorem d37_130 : decode method_5_code 130 = .ok (.bipush 11, 2) := by decide +kernel
theorem d37_132 : decode method_5_code 132 = .ok (.invokestatic 48, 3) := by decide +kernel
theorem d37_135 : decode method_5_code 135 = .ok (.ifCond .eq 260, 3) := by decide +kernel
theorem d37_138 : decode method_5_code 138 = .ok (.aload_n 0, 1) := by decide +kernel
theorem d37_139 : decode method_5_code 139 = .ok (.iload_n 1, 1) := by decide +kernel
theorem d37_140 : decode method_5_code 140 = .ok (.aload_n 2, 1) := by decide +kernel
theorem d37_141 : decode method_5_code 141 = .ok (.bipush 12, 2) := by decide +kernel
theorem d37_143 : decode method_5_code 143 = .ok (.invokestatic 48, 3) := by decide +kernel
theorem d37_146 : decode method_5_code 146 = .ok (.ifCond .eq 249, 3) := by decide +kernel
theorem d37_149 : decode method_5_code 149 = .ok (.aload_n 0, 1) := by decide +kernel
theorem d37_150 : decode method_5_code 150 = .ok (.iload_n 1, 1) := by decide +kernel
theorem d37_151 : decode method_5_code 151 = .ok (.aload_n 2, 1) := by decide +kernel
theorem d37_152 : decode method_5_code 152 = .ok (.bipush 13, 2) := by decide +kernel
theorem d37_154 : decode method_5_code 154 = .ok (.invokestatic 48, 3) := by decide +kernel
theorem d37_157 : decode method_5_code 157 = .ok (.ifCond .eq 238, 3) := by decide +kernel
theorem d37_160 : decode method_5_code 160 = .ok (.aload_n 0, 1) := by decide +kernel
theorem d37_161 : decode method_5_code 161 = .ok (.iload_n 1, 1) := by decide +kernel
theorem d37_162 : decode method_5_code 162 = .ok (.aload_n 2, 1) := by decide +kernel
theorem d37_163 : decode method_5_code 163 = .ok (.bipush 14, 2) := by decide +kernel
theorem d37_165 : decode method_5_code 165 = .ok (.invokestatic 48, 3) := by decide +kernel
theorem d37_168 : decode method_5_code 168 = .ok (.ifCond .eq 227, 3) := by decide +kernel
theorem d37_171 : decode method_5_code 171 = .ok (.aload_n 0, 1) := by decide +kernel
theorem d37_172 : decode method_5_code 172 = .ok (.iload_n 1, 1) := by decide +kernel
theorem d37_173 : decode method_5_code 173 = .ok (.aload_n 2, 1) := by decide +kernel
theorem d37_174 : decode method_5_code 174 = .ok (.bipush 15, 2) := by decide +kernel
theorem d37_176 : decode method_5_code 176 = .ok (.invokestatic 48, 3) := by decide +kernel
theorem d37_179 : decode method_5_code 179 = .ok (.ifCond .eq 216, 3) := by decide +kernel
theorem d37_182 : decode method_5_code 182 = .ok (.aload_n 0, 1) := by decide +kernel
theorem d37_183 : decode method_5_code 183 = .ok (.iload_n 1, 1) := by decide +kernel
theorem d37_184 : decode method_5_code 184 = .ok (.aload_n 2, 1) := by decide +kernel
theorem d37_185 : decode method_5_code 185 = .ok (.bipush 16, 2) := by decide +kernel
theorem d37_187 : decode method_5_code 187 = .ok (.invokestatic 48, 3) := by decide +kernel
theorem d37_190 : decode method_5_code 190 = .ok (.ifCond .eq 205, 3) := by decide +kernel
theorem d37_193 : decode method_5_code 193 = .ok (.aload_n 0, 1) := by decide +kernel
theorem d37_194 : decode method_5_code 194 = .ok (.iload_n 1, 1) := by decide +kernel
theorem d37_195 : decode method_5_code 195 = .ok (.aload_n 2, 1) := by decide +kernel
theorem d37_196 : decode method_5_code 196 = .ok (.bipush 17, 2) := by decide +kernel
theorem d37_198 : decode method_5_code 198 = .ok (.invokestatic 48, 3) := by decide +kernel
theorem d37_201 : decode method_5_code 201 = .ok (.ifCond .eq 194, 3) := by decide +kernel
theorem d37_204 : decode method_5_code 204 = .ok (.aload_n 0, 1) := by decide +kernel
theorem d37_205 : decode method_5_code 205 = .ok (.iload_n 1, 1) := by decide +kernel
theorem d37_206 : decode method_5_code 206 = .ok (.aload_n 2, 1) := by decide +kernel
theorem d37_207 : decode method_5_code 207 = .ok (.bipush 18, 2) := by decide +kernel
theorem d37_209 : decode method_5_code 209 = .ok (.invokestatic 48, 3) := by decide +kernel
theorem d37_212 : decode method_5_code 212 = .ok (.ifCond .eq 183, 3) := by decide +kernel
theorem d37_215 : decode method_5_code 215 = .ok (.aload_n 0, 1) := by decide +kernel
theorem d37_216 : decode method_5_code 216 = .ok (.iload_n 1, 1) := by decide +kernel
theorem d37_217 : decode method_5_code 217 = .ok (.aload_n 2, 1) := by decide +kernel
theorem d37_218 : decode method_5_code 218 = .ok (.bipush 19, 2) := by decide +kernel
theorem d37_220 : decode method_5_code 220 = .ok (.invokestatic 48, 3) := by decide +kernel
theorem d37_223 : decode method_5_code 223 = .ok (.ifCond .eq 172, 3) := by decide +kernel
theorem d37_226 : decode method_5_code 226 = .ok (.aload_n 0, 1) := by decide +kernel
theorem d37_227 : decode method_5_code 227 = .ok (.iload_n 1, 1) := by decide +kernel
theorem d37_228 : decode method_5_code 228 = .ok (.aload_n 2, 1) := by decide +kernel
theorem d37_229 : decode method_5_code 229 = .ok (.bipush 20, 2) := by decide +kernel
theorem d37_231 : decode method_5_code 231 = .ok (.invokestatic 48, 3) := by decide +kernel
theorem d37_234 : decode method_5_code 234 = .ok (.ifCond .eq 161, 3) := by decide +kernel
theorem d37_237 : decode method_5_code 237 = .ok (.aload_n 0, 1) := by decide +kernel
theorem d37_238 : decode method_5_code 238 = .ok (.iload_n 1, 1) := by decide +kernel
theorem d37_239 : decode method_5_code 239 = .ok (.aload_n 2, 1) := by decide +kernel
theorem d37_240 : decode method_5_code 240 = .ok (.bipush 21, 2) := by decide +kernel
theorem d37_242 : decode method_5_code 242 = .ok (.invokestatic 48, 3) := by decide +kernel
theorem d37_245 : decode method_5_code 245 = .ok (.ifCond .eq 150, 3) := by decide +kernel
theorem d37_248 : decode method_5_code 248 = .ok (.aload_n 0, 1) := by decide +kernel
theorem d37_249 : decode method_5_code 249 = .ok (.iload_n 1, 1) := by decide +kernel
theorem d37_250 : decode method_5_code 250 = .ok (.aload_n 2, 1) := by decide +kernel
theorem d37_251 : decode method_5_code 251 = .ok (.bipush 22, 2) := by decide +kernel
theorem d37_253 : decode method_5_code 253 = .ok (.invokestatic 48, 3) := by decide +kernel
theorem d37_256 : decode method_5_code 256 = .ok (.ifCond .eq 139, 3) := by decide +kernel
theorem d37_259 : decode method_5_code 259 = .ok (.aload_n 0, 1) := by decide +kernel
theorem d37_260 : decode method_5_code 260 = .ok (.iload_n 1, 1) := by decide +kernel
theorem d37_261 : decode method_5_code 261 = .ok (.aload_n 2, 1) := by decide +kernel
theorem d37_262 : decode method_5_code 262 = .ok (.bipush 23, 2) := by decide +kernel
theorem d37_264 : decode method_5_code 264 = .ok (.invokestatic 48, 3) := by decide +kernel
theorem d37_267 : decode method_5_code 267 = .ok (.ifCond .eq 128, 3) := by decide +kernel
theorem d37_270 : decode method_5_code 270 = .ok (.aload_n 0, 1) := by decide +kernel
theorem d37_271 : decode method_5_code 271 = .ok (.iload_n 1, 1) := by decide +kernel
theorem d37_272 : decode method_5_code 272 = .ok (.aload_n 2, 1) := by decide +kernel
theorem d37_273 : decode method_5_code 273 = .ok (.bipush 24, 2) := by decide +kernel
theorem d37_275 : decode method_5_code 275 = .ok (.invokestatic 48, 3) := by decide +kernel
theorem d37_278 : decode method_5_code 278 = .ok (.ifCond .eq 117, 3) := by decide +kernel
theorem d37_281 : decode method_5_code 281 = .ok (.aload_n 0, 1) := by decide +kernel
theorem d37_282 : decode method_5_code 282 = .ok (.iload_n 1, 1) := by decide +kernel
theorem d37_283 : decode method_5_code 283 = .ok (.aload_n 2, 1) := by decide +kernel
theorem d37_284 : decode method_5_code 284 = .ok (.bipush 25, 2) := by decide +kernel
theorem d37_286 : decode method_5_code 286 = .ok (.invokestatic 48, 3) := by decide +kernel
theorem d37_289 : decode method_5_code 289 = .ok (.ifCond .eq 106, 3) := by decide +kernel
theorem d37_292 : decode method_5_code 292 = .ok (.aload_n 0, 1) := by decide +kernel
theorem d37_293 : decode method_5_code 293 = .ok (.iload_n 1, 1) := by decide +kernel
theorem d37_294 : decode method_5_code 294 = .ok (.aload_n 2, 1) := by decide +kernel
theorem d37_295 : decode method_5_code 295 = .ok (.bipush 26, 2) := by decide +kernel
theorem d37_297 : decode method_5_code 297 = .ok (.invokestatic 48, 3) := by decide +kernel
theorem d37_300 : decode method_5_code 300 = .ok (.ifCond .eq 95, 3) := by decide +kernel
theorem d37_303 : decode method_5_code 303 = .ok (.aload_n 0, 1) := by decide +kernel
theorem d37_304 : decode method_5_code 304 = .ok (.iload_n 1, 1) := by decide +kernel
theorem d37_305 : decode method_5_code 305 = .ok (.aload_n 2, 1) := by decide +kernel
theorem d37_306 : decode method_5_code 306 = .ok (.bipush 27, 2) := by decide +kernel
theorem d37_308 : decode method_5_code 308 = .ok (.invokestatic 48, 3) := by decide +kernel
theorem d37_311 : decode method_5_code 311 = .ok (.ifCond .eq 84, 3) := by decide +kernel
theorem d37_314 : decode method_5_code 314 = .ok (.aload_n 0, 1) := by decide +kernel
theorem d37_315 : decode method_5_code 315 = .ok (.iload_n 1, 1) := by decide +kernel
theorem d37_316 : decode method_5_code 316 = .ok (.aload_n 2, 1) := by decide +kernel
theorem d37_317 : decode method_5_code 317 = .ok (.bipush 28, 2) := by decide +kernel
theorem d37_319 : decode method_5_code 319 = .ok (.invokestatic 48, 3) := by decide +kernel
theorem d37_322 : decode method_5_code 322 = .ok (.ifCond .eq 73, 3) := by decide +kernel
theorem d37_325 : decode method_5_code 325 = .ok (.aload_n 0, 1) := by decide +kernel
theorem d37_326 : decode method_5_code 326 = .ok (.iload_n 1, 1) := by decide +kernel
theorem d37_327 : decode method_5_code 327 = .ok (.aload_n 2, 1) := by decide +kernel
theorem d37_328 : decode method_5_code 328 = .ok (.bipush 29, 2) := by decide +kernel
theorem d37_330 : decode method_5_code 330 = .ok (.invokestatic 48, 3) := by decide +kernel
theorem d37_333 : decode method_5_code 333 = .ok (.ifCond .eq 62, 3) := by decide +kernel
theorem d37_336 : decode method_5_code 336 = .ok (.aload_n 0, 1) := by decide +kernel
theorem d37_337 : decode method_5_code 337 = .ok (.iload_n 1, 1) := by decide +kernel
theorem d37_338 : decode method_5_code 338 = .ok (.aload_n 2, 1) := by decide +kernel
theorem d37_339 : decode method_5_code 339 = .ok (.bipush 30, 2) := by decide +kernel
theorem d37_341 : decode method_5_code 341 = .ok (.invokestatic 48, 3) := by decide +kernel
theorem d37_344 : decode method_5_code 344 = .ok (.ifCond .eq 51, 3) := by decide +kernel
theorem d37_347 : decode method_5_code 347 = .ok (.aload_n 0, 1) := by decide +kernel
theorem d37_348 : decode method_5_code 348 = .ok (.iload_n 1, 1) := by decide +kernel
theorem d37_349 : decode method_5_code 349 = .ok (.aload_n 2, 1) := by decide +kernel
theorem d37_350 : decode method_5_code 350 = .ok (.bipush 31, 2) := by decide +kernel
theorem d37_352 : decode method_5_code 352 = .ok (.invokestatic 48, 3) := by decide +kernel
theorem d37_355 : decode method_5_code 355 = .ok (.ifCond .eq 40, 3) := by decide +kernel
theorem d37_358 : decode method_5_code 358 = .ok (.aload_n 0, 1) := by decide +kernel
theorem d37_359 : decode method_5_code 359 = .ok (.iload_n 1, 1) := by decide +kernel
theorem d37_360 : decode method_5_code 360 = .ok (.aload_n 2, 1) := by decide +kernel
theorem d37_361 : decode method_5_code 361 = .ok (.bipush 32, 2) := by decide +kernel
theorem d37_363 : decode method_5_code 363 = .ok (.invokestatic 48, 3) := by decide +kernel
theorem d37_366 : decode method_5_code 366 = .ok (.ifCond .eq 29, 3) := by decide +kernel
theorem d37_369 : decode method_5_code 369 = .ok (.aload_n 0, 1) := by decide +kernel
theorem d37_370 : decode method_5_code 370 = .ok (.iload_n 1, 1) := by decide +kernel
theorem d37_371 : decode method_5_code 371 = .ok (.aload_n 2, 1) := by decide +kernel
theorem d37_372 : decode method_5_code 372 = .ok (.bipush 33, 2) := by decide +kernel
theorem d37_374 : decode method_5_code 374 = .ok (.invokestatic 48, 3) := by decide +kernel
theorem d37_377 : decode method_5_code 377 = .ok (.ifCond .eq 18, 3) := by decide +kernel
theorem d37_380 : decode method_5_code 380 = .ok (.aload_n 0, 1) := by decide +kernel
theorem d37_381 : decode method_5_code 381 = .ok (.iload_n 1, 1) := by decide +kernel
theorem d37_382 : decode method_5_code 382 = .ok (.aload_n 2, 1) := by decide +kernel
theorem d37_383 : decode method_5_code 383 = .ok (.bipush 34, 2) := by decide +kernel
theorem d37_385 : decode method_5_code 385 = .ok (.invokestatic 48, 3) := by decide +kernel
theorem d37_388 : decode method_5_code 388 = .ok (.ifCond .eq 7, 3) := by decide +kernel
set_option maxRecDepth 65536 in
set_option maxHeartbeats 40000000 in
theorem sgM (l : Launch) (Z : State) (az : Array Value) (hw : HW Z az) {p : Program} {e : Env} {s : State} {m : MethodId} {args : Array Value} {below : List Frame} {meth : Method} {c : Code} (hx : p.tables.exec = Jvm.exec) (hby : c.code = method_5_code) (hml : c.maxLocals = 3) (hown : s.vm.findClass cLW = some m.cls) (hZ : Z.Warmed39 s.vm) (a0 : Addr) (p1 : Int32) (a2 : Addr) (sC : Int32) (vF : Value) (aM : Addr) (kaM : ClassId) (nM : Int32) (fM : Nat → Value) (aL : Addr) (kaL : ClassId) (h0 : Heap) (n0 : Nat) (Z0 : n0 ≤ h0.size) (S_COMPACT_STRINGS : Sta Z h0 cST "COMPACT_STRINGS" "Z" (.int sC)) (hsC : ¬ (sC = (0 : Int32))) (S_SIOOBE_FORMATTER : Sta Z h0 "jdk/internal/util/Preconditions" "SIOOBE_FORMATTER" "Ljava/util/function/BiFunction;" vF) (hF : own_isR vF) (E_a0 : Exa Z h0 a0 cST) (F_coder_a0 : Fld Z h0 a0 cST "coder" "B" (.int (0 : Int32))) (F_value_a0 : Fld Z h0 a0 cST "value" "[B" (.ref aM)) (V_aM : own_Arf Z h0 aM kaM .byte nM fM) (E_aM : Exa Z h0 aM "[B") (E_a2 : Exa Z h0 a2 cST) (F_coder_a2 : Fld Z h0 a2 cST "coder" "B" (.int (0 : Int32))) (F_value_a2 : Fld Z h0 a2 cST "value" "[B" (.ref aL)) (V_aL : own_Arf Z h0 aL kaL .byte (35 : Int32) own_lit) (E_aL : Exa Z h0 aL "[B") (hM : own_Mid fM nM p1) :
    own_Seg p l e (⟨5, 2, 144, 80⟩ : Room) s m args below meth c n0 2 144 2 144 h0 (mkF m 12 #[vR a0, vI p1, vR a2] []) (fun h g => g = (mkF m 391 #[vR a0, vI p1, vR a2] []) ∧ h = h0) := by
  refine (sgEI l Z az hw hx hby hml hown hZ a0 p1 a2 sC vF aM kaM nM fM aL kaL (35 : Int32) own_lit (32 : Int32) 12 0 _ h0 n0 Z0 S_COMPACT_STRINGS hsC S_SIOOBE_FORMATTER hF E_a0 F_coder_a0 F_value_a0 V_aM E_aM E_a2 F_coder_a2 F_value_a2 V_aL E_aL (hM 0 (by decide)).1 (hM 0 (by decide)).2.1 (hM 0 (by decide)).2.2 (by decide) (by decide) rfl (by decide) (hb hby d37_12) (hb hby d37_13) (hb hby d37_14) (hb hby d37_15) (hb hby d37_16) (hb hby d37_19)).seq ?_
  refine (sgEI l Z az hw hx hby hml hown hZ a0 p1 a2 sC vF aM kaM nM fM aL kaL (35 : Int32) own_lit (105 : Int32) 22 1 _ h0 n0 Z0 S_COMPACT_STRINGS hsC S_SIOOBE_FORMATTER hF E_a0 F_coder_a0 F_value_a0 V_aM E_aM E_a2 F_coder_a2 F_value_a2 V_aL E_aL (hM 1 (by decide)).1 (hM 1 (by decide)).2.1 (hM 1 (by decide)).2.2 (by decide) (by decide) rfl (by decide) (hb hby d37_22) (hb hby d37_23) (hb hby d37_24) (hb hby d37_25) (hb hby d37_26) (hb hby d37_29)).seq ?_
  refine (sgEI l Z az hw hx hby hml hown hZ a0 p1 a2 sC vF aM kaM nM fM aL kaL (35 : Int32) own_lit (115 : Int32) 32 2 _ h0 n0 Z0 S_COMPACT_STRINGS hsC S_SIOOBE_FORMATTER hF E_a0 F_coder_a0 F_value_a0 V_aM E_aM E_a2 F_coder_a2 F_value_a2 V_aL E_aL (hM 2 (by decide)).1 (hM 2 (by decide)).2.1 (hM 2 (by decide)).2.2 (by decide) (by decide) rfl (by decide) (hb hby d37_32) (hb hby d37_33) (hb hby d37_34) (hb hby d37_35) (hb hby d37_36) (hb hby d37_39)).seq ?_
  refine (sgEI l Z az hw hx hby hml hown hZ a0 p1 a2 sC vF aM kaM nM fM aL kaL (35 : Int32) own_lit (32 : Int32) 42 3 _ h0 n0 Z0 S_COMPACT_STRINGS hsC S_SIOOBE_FORMATTER hF E_a0 F_coder_a0 F_value_a0 V_aM E_aM E_a2 F_coder_a2 F_value_a2 V_aL E_aL (hM 3 (by decide)).1 (hM 3 (by decide)).2.1 (hM 3 (by decide)).2.2 (by decide) (by decide) rfl (by decide) (hb hby d37_42) (hb hby d37_43) (hb hby d37_44) (hb hby d37_45) (hb hby d37_46) (hb hby d37_49)).seq ?_
  refine (sgEI l Z az hw hx hby hml hown hZ a0 p1 a2 sC vF aM kaM nM fM aL kaL (35 : Int32) own_lit (99 : Int32) 52 4 _ h0 n0 Z0 S_COMPACT_STRINGS hsC S_SIOOBE_FORMATTER hF E_a0 F_coder_a0 F_value_a0 V_aM E_aM E_a2 F_coder_a2 F_value_a2 V_aL E_aL (hM 4 (by decide)).1 (hM 4 (by decide)).2.1 (hM 4 (by decide)).2.2 (by decide) (by decide) rfl (by decide) (hb hby d37_52) (hb hby d37_53) (hb hby d37_54) (hb hby d37_55) (hb hby d37_56) (hb hby d37_59)).seq ?_
  refine (sgEI l Z az hw hx hby hml hown hZ a0 p1 a2 sC vF aM kaM nM fM aL kaL (35 : Int32) own_lit (108 : Int32) 62 5 _ h0 n0 Z0 S_COMPACT_STRINGS hsC S_SIOOBE_FORMATTER hF E_a0 F_coder_a0 F_value_a0 V_aM E_aM E_a2 F_coder_a2 F_value_a2 V_aL E_aL (hM 5 (by decide)).1 (hM 5 (by decide)).2.1 (hM 5 (by decide)).2.2 (by decide) (by decide) rfl (by decide) (hb hby d37_62) (hb hby d37_63) (hb hby d37_64) (hb hby d37_65) (hb hby d37_66) (hb hby d37_69)).seq ?_
  refine (sgEB l Z az hw hx hby hml hown hZ a0 p1 a2 sC vF aM kaM nM fM aL kaL (35 : Int32) own_lit (111 : Int32) 72 6 _ h0 n0 Z0 S_COMPACT_STRINGS hsC S_SIOOBE_FORMATTER hF E_a0 F_coder_a0 F_value_a0 V_aM E_aM E_a2 F_coder_a2 F_value_a2 V_aL E_aL (hM 6 (by decide)).1 (hM 6 (by decide)).2.1 (hM 6 (by decide)).2.2 (by decide) (by decide) rfl (by decide) (hb hby d37_72) (hb hby d37_73) (hb hby d37_74) (hb hby d37_75) (hb hby d37_77) (hb hby d37_80)).seq ?_
  refine (sgEB l Z az hw hx hby hml hown hZ a0 p1 a2 sC vF aM kaM nM fM aL kaL (35 : Int32) own_lit (115 : Int32) 83 7 _ h0 n0 Z0 S_COMPACT_STRINGS hsC S_SIOOBE_FORMATTER hF E_a0 F_coder_a0 F_value_a0 V_aM E_aM E_a2 F_coder_a2 F_value_a2 V_aL E_aL (hM 7 (by decide)).1 (hM 7 (by decide)).2.1 (hM 7 (by decide)).2.2 (by decide) (by decide) rfl (by decide) (hb hby d37_83) (hb hby d37_84) (hb hby d37_85) (hb hby d37_86) (hb hby d37_88) (hb hby d37_91)).seq ?_
  refine (sgEB l Z az hw hx hby hml hown hZ a0 p1 a2 sC vF aM kaM nM fM aL kaL (35 : Int32) own_lit (101 : Int32) 94 8 _ h0 n0 Z0 S_COMPACT_STRINGS hsC S_SIOOBE_FORMATTER hF E_a0 F_coder_a0 F_value_a0 V_aM E_aM E_a2 F_coder_a2 F_value_a2 V_aL E_aL (hM 8 (by decide)).1 (hM 8 (by decide)).2.1 (hM 8 (by decide)).2.2 (by decide) (by decide) rfl (by decide) (hb hby d37_94) (hb hby d37_95) (hb hby d37_96) (hb hby d37_97) (hb hby d37_99) (hb hby d37_102)).seq ?_
  refine (sgEB l Z az hw hx hby hml hown hZ a0 p1 a2 sC vF aM kaM nM fM aL kaL (35 : Int32) own_lit (100 : Int32) 105 9 _ h0 n0 Z0 S_COMPACT_STRINGS hsC S_SIOOBE_FORMATTER hF E_a0 F_coder_a0 F_value_a0 V_aM E_aM E_a2 F_coder_a2 F_value_a2 V_aL E_aL (hM 9 (by decide)).1 (hM 9 (by decide)).2.1 (hM 9 (by decide)).2.2 (by decide) (by decide) rfl (by decide) (hb hby d37_105) (hb hby d37_106) (hb hby d37_107) (hb hby d37_108) (hb hby d37_110) (hb hby d37_113)).seq ?_
  refine (sgEB l Z az hw hx hby hml hown hZ a0 p1 a2 sC vF aM kaM nM fM aL kaL (35 : Int32) own_lit (58 : Int32) 116 10 _ h0 n0 Z0 S_COMPACT_STRINGS hsC S_SIOOBE_FORMATTER hF E_a0 F_coder_a0 F_value_a0 V_aM E_aM E_a2 F_coder_a2 F_value_a2 V_aL E_aL (hM 10 (by decide)).1 (hM 10 (by decide)).2.1 (hM 10 (by decide)).2.2 (by decide) (by decide) rfl (by decide) (hb hby d37_116) (hb hby d37_117) (hb hby d37_118) (hb hby d37_119) (hb hby d37_121) (hb hby d37_124)).seq ?_
  refine (sgEB l Z az hw hx hby hml hown hZ a0 p1 a2 sC vF aM kaM nM fM aL kaL (35 : Int32) own_lit (32 : Int32) 127 11 _ h0 n0 Z0 S_COMPACT_STRINGS hsC S_SIOOBE_FORMATTER hF E_a0 F_coder_a0 F_value_a0 V_aM E_aM E_a2 F_coder_a2 F_value_a2 V_aL E_aL (hM 11 (by decide)).1 (hM 11 (by decide)).2.1 (hM 11 (by decide)).2.2 (by decide) (by decide) rfl (by decide) (hb hby d37_127) (hb hby d37_128) (hb hby d37_129) (hb hby d37_130) (hb hby d37_132) (hb hby d37_135)).seq ?_
  refine (sgEB l Z az hw hx hby hml hown hZ a0 p1 a2 sC vF aM kaM nM fM aL kaL (35 : Int32) own_lit (105 : Int32) 138 12 _ h0 n0 Z0 S_COMPACT_STRINGS hsC S_SIOOBE_FORMATTER hF E_a0 F_coder_a0 F_value_a0 V_aM E_aM E_a2 F_coder_a2 F_value_a2 V_aL E_aL (hM 12 (by decide)).1 (hM 12 (by decide)).2.1 (hM 12 (by decide)).2.2 (by decide) (by decide) rfl (by decide) (hb hby d37_138) (hb hby d37_139) (hb hby d37_140) (hb hby d37_141) (hb hby d37_143) (hb hby d37_146)).seq ?_
  refine (sgEB l Z az hw hx hby hml hown hZ a0 p1 a2 sC vF aM kaM nM fM aL kaL (35 : Int32) own_lit (116 : Int32) 149 13 _ h0 n0 Z0 S_COMPACT_STRINGS hsC S_SIOOBE_FORMATTER hF E_a0 F_coder_a0 F_value_a0 V_aM E_aM E_a2 F_coder_a2 F_value_a2 V_aL E_aL (hM 13 (by decide)).1 (hM 13 (by decide)).2.1 (hM 13 (by decide)).2.2 (by decide) (by decide) rfl (by decide) (hb hby d37_149) (hb hby d37_150) (hb hby d37_151) (hb hby d37_152) (hb hby d37_154) (hb hby d37_157)).seq ?_
  refine (sgEB l Z az hw hx hby hml hown hZ a0 p1 a2 sC vF aM kaM nM fM aL kaL (35 : Int32) own_lit (32 : Int32) 160 14 _ h0 n0 Z0 S_COMPACT_STRINGS hsC S_SIOOBE_FORMATTER hF E_a0 F_coder_a0 F_value_a0 V_aM E_aM E_a2 F_coder_a2 F_value_a2 V_aL E_aL (hM 14 (by decide)).1 (hM 14 (by decide)).2.1 (hM 14 (by decide)).2.2 (by decide) (by decide) rfl (by decide) (hb hby d37_160) (hb hby d37_161) (hb hby d37_162) (hb hby d37_163) (hb hby d37_165) (hb hby d37_168)).seq ?_
  refine (sgEB l Z az hw hx hby hml hown hZ a0 p1 a2 sC vF aM kaM nM fM aL kaL (35 : Int32) own_lit (104 : Int32) 171 15 _ h0 n0 Z0 S_COMPACT_STRINGS hsC S_SIOOBE_FORMATTER hF E_a0 F_coder_a0 F_value_a0 V_aM E_aM E_a2 F_coder_a2 F_value_a2 V_aL E_aL (hM 15 (by decide)).1 (hM 15 (by decide)).2.1 (hM 15 (by decide)).2.2 (by decide) (by decide) rfl (by decide) (hb hby d37_171) (hb hby d37_172) (hb hby d37_173) (hb hby d37_174) (hb hby d37_176) (hb hby d37_179)).seq ?_
  refine (sgEB l Z az hw hx hby hml hown hZ a0 p1 a2 sC vF aM kaM nM fM aL kaL (35 : Int32) own_lit (101 : Int32) 182 16 _ h0 n0 Z0 S_COMPACT_STRINGS hsC S_SIOOBE_FORMATTER hF E_a0 F_coder_a0 F_value_a0 V_aM E_aM E_a2 F_coder_a2 F_value_a2 V_aL E_aL (hM 16 (by decide)).1 (hM 16 (by decide)).2.1 (hM 16 (by decide)).2.2 (by decide) (by decide) rfl (by decide) (hb hby d37_182) (hb hby d37_183) (hb hby d37_184) (hb hby d37_185) (hb hby d37_187) (hb hby d37_190)).seq ?_
  refine (sgEB l Z az hw hx hby hml hown hZ a0 p1 a2 sC vF aM kaM nM fM aL kaL (35 : Int32) own_lit (97 : Int32) 193 17 _ h0 n0 Z0 S_COMPACT_STRINGS hsC S_SIOOBE_FORMATTER hF E_a0 F_coder_a0 F_value_a0 V_aM E_aM E_a2 F_coder_a2 F_value_a2 V_aL E_aL (hM 17 (by decide)).1 (hM 17 (by decide)).2.1 (hM 17 (by decide)).2.2 (by decide) (by decide) rfl (by decide) (hb hby d37_193) (hb hby d37_194) (hb hby d37_195) (hb hby d37_196) (hb hby d37_198) (hb hby d37_201)).seq ?_
  refine (sgEB l Z az hw hx hby hml hown hZ a0 p1 a2 sC vF aM kaM nM fM aL kaL (35 : Int32) own_lit (114 : Int32) 204 18 _ h0 n0 Z0 S_COMPACT_STRINGS hsC S_SIOOBE_FORMATTER hF E_a0 F_coder_a0 F_value_a0 V_aM E_aM E_a2 F_coder_a2 F_value_a2 V_aL E_aL (hM 18 (by decide)).1 (hM 18 (by decide)).2.1 (hM 18 (by decide)).2.2 (by decide) (by decide) rfl (by decide) (hb hby d37_204) (hb hby d37_205) (hb hby d37_206) (hb hby d37_207) (hb hby d37_209) (hb hby d37_212)).seq ?_
  refine (sgEB l Z az hw hx hby hml hown hZ a0 p1 a2 sC vF aM kaM nM fM aL kaL (35 : Int32) own_lit (115 : Int32) 215 19 _ h0 n0 Z0 S_COMPACT_STRINGS hsC S_SIOOBE_FORMATTER hF E_a0 F_coder_a0 F_value_a0 V_aM E_aM E_a2 F_coder_a2 F_value_a2 V_aL E_aL (hM 19 (by decide)).1 (hM 19 (by decide)).2.1 (hM 19 (by decide)).2.2 (by decide) (by decide) rfl (by decide) (hb hby d37_215) (hb hby d37_216) (hb hby d37_217) (hb hby d37_218) (hb hby d37_220) (hb hby d37_223)).seq ?_
  refine (sgEB l Z az hw hx hby hml hown hZ a0 p1 a2 sC vF aM kaM nM fM aL kaL (35 : Int32) own_lit (32 : Int32) 226 20 _ h0 n0 Z0 S_COMPACT_STRINGS hsC S_SIOOBE_FORMATTER hF E_a0 F_coder_a0 F_value_a0 V_aM E_aM E_a2 F_coder_a2 F_value_a2 V_aL E_aL (hM 20 (by decide)).1 (hM 20 (by decide)).2.1 (hM 20 (by decide)).2.2 (by decide) (by decide) rfl (by decide) (hb hby d37_226) (hb hby d37_227) (hb hby d37_228) (hb hby d37_229) (hb hby d37_231) (hb hby d37_234)).seq ?_
  refine (sgEB l Z az hw hx hby hml hown hZ a0 p1 a2 sC vF aM kaM nM fM aL kaL (35 : Int32) own_lit (110 : Int32) 237 21 _ h0 n0 Z0 S_COMPACT_STRINGS hsC S_SIOOBE_FORMATTER hF E_a0 F_coder_a0 F_value_a0 V_aM E_aM E_a2 F_coder_a2 F_value_a2 V_aL E_aL (hM 21 (by decide)).1 (hM 21 (by decide)).2.1 (hM 21 (by decide)).2.2 (by decide) (by decide) rfl (by decide) (hb hby d37_237) (hb hby d37_238) (hb hby d37_239) (hb hby d37_240) (hb hby d37_242) (hb hby d37_245)).seq ?_
  refine (sgEB l Z az hw hx hby hml hown hZ a0 p1 a2 sC vF aM kaM nM fM aL kaL (35 : Int32) own_lit (111 : Int32) 248 22 _ h0 n0 Z0 S_COMPACT_STRINGS hsC S_SIOOBE_FORMATTER hF E_a0 F_coder_a0 F_value_a0 V_aM E_aM E_a2 F_coder_a2 F_value_a2 V_aL E_aL (hM 22 (by decide)).1 (hM 22 (by decide)).2.1 (hM 22 (by decide)).2.2 (by decide) (by decide) rfl (by decide) (hb hby d37_248) (hb hby d37_249) (hb hby d37_250) (hb hby d37_251) (hb hby d37_253) (hb hby d37_256)).seq ?_
  refine (sgEB l Z az hw hx hby hml hown hZ a0 p1 a2 sC vF aM kaM nM fM aL kaL (35 : Int32) own_lit (32 : Int32) 259 23 _ h0 n0 Z0 S_COMPACT_STRINGS hsC S_SIOOBE_FORMATTER hF E_a0 F_coder_a0 F_value_a0 V_aM E_aM E_a2 F_coder_a2 F_value_a2 V_aL E_aL (hM 23 (by decide)).1 (hM 23 (by decide)).2.1 (hM 23 (by decide)).2.2 (by decide) (by decide) rfl (by decide) (hb hby d37_259) (hb hby d37_260) (hb hby d37_261) (hb hby d37_262) (hb hby d37_264) (hb hby d37_267)).seq ?_
  refine (sgEB l Z az hw hx hby hml hown hZ a0 p1 a2 sC vF aM kaM nM fM aL kaL (35 : Int32) own_lit (114 : Int32) 270 24 _ h0 n0 Z0 S_COMPACT_STRINGS hsC S_SIOOBE_FORMATTER hF E_a0 F_coder_a0 F_value_a0 V_aM E_aM E_a2 F_coder_a2 F_value_a2 V_aL E_aL (hM 24 (by decide)).1 (hM 24 (by decide)).2.1 (hM 24 (by decide)).2.2 (by decide) (by decide) rfl (by decide) (hb hby d37_270) (hb hby d37_271) (hb hby d37_272) (hb hby d37_273) (hb hby d37_275) (hb hby d37_278)).seq ?_
  refine (sgEB l Z az hw hx hby hml hown hZ a0 p1 a2 sC vF aM kaM nM fM aL kaL (35 : Int32) own_lit (101 : Int32) 281 25 _ h0 n0 Z0 S_COMPACT_STRINGS hsC S_SIOOBE_FORMATTER hF E_a0 F_coder_a0 F_value_a0 V_aM E_aM E_a2 F_coder_a2 F_value_a2 V_aL E_aL (hM 25 (by decide)).1 (hM 25 (by decide)).2.1 (hM 25 (by decide)).2.2 (by decide) (by decide) rfl (by decide) (hb hby d37_281) (hb hby d37_282) (hb hby d37_283) (hb hby d37_284) (hb hby d37_286) (hb hby d37_289)).seq ?_
  refine (sgEB l Z az hw hx hby hml hown hZ a0 p1 a2 sC vF aM kaM nM fM aL kaL (35 : Int32) own_lit (108 : Int32) 292 26 _ h0 n0 Z0 S_COMPACT_STRINGS hsC S_SIOOBE_FORMATTER hF E_a0 F_coder_a0 F_value_a0 V_aM E_aM E_a2 F_coder_a2 F_value_a2 V_aL E_aL (hM 26 (by decide)).1 (hM 26 (by decide)).2.1 (hM 26 (by decide)).2.2 (by decide) (by decide) rfl (by decide) (hb hby d37_292) (hb hby d37_293) (hb hby d37_294) (hb hby d37_295) (hb hby d37_297) (hb hby d37_300)).seq ?_
  refine (sgEB l Z az hw hx hby hml hown hZ a0 p1 a2 sC vF aM kaM nM fM aL kaL (35 : Int32) own_lit (101 : Int32) 303 27 _ h0 n0 Z0 S_COMPACT_STRINGS hsC S_SIOOBE_FORMATTER hF E_a0 F_coder_a0 F_value_a0 V_aM E_aM E_a2 F_coder_a2 F_value_a2 V_aL E_aL (hM 27 (by decide)).1 (hM 27 (by decide)).2.1 (hM 27 (by decide)).2.2 (by decide) (by decide) rfl (by decide) (hb hby d37_303) (hb hby d37_304) (hb hby d37_305) (hb hby d37_306) (hb hby d37_308) (hb hby d37_311)).seq ?_
  refine (sgEB l Z az hw hx hby hml hown hZ a0 p1 a2 sC vF aM kaM nM fM aL kaL (35 : Int32) own_lit (97 : Int32) 314 28 _ h0 n0 Z0 S_COMPACT_STRINGS hsC S_SIOOBE_FORMATTER hF E_a0 F_coder_a0 F_value_a0 V_aM E_aM E_a2 F_coder_a2 F_value_a2 V_aL E_aL (hM 28 (by decide)).1 (hM 28 (by decide)).2.1 (hM 28 (by decide)).2.2 (by decide) (by decide) rfl (by decide) (hb hby d37_314) (hb hby d37_315) (hb hby d37_316) (hb hby d37_317) (hb hby d37_319) (hb hby d37_322)).seq ?_
  refine (sgEB l Z az hw hx hby hml hown hZ a0 p1 a2 sC vF aM kaM nM fM aL kaL (35 : Int32) own_lit (115 : Int32) 325 29 _ h0 n0 Z0 S_COMPACT_STRINGS hsC S_SIOOBE_FORMATTER hF E_a0 F_coder_a0 F_value_a0 V_aM E_aM E_a2 F_coder_a2 F_value_a2 V_aL E_aL (hM 29 (by decide)).1 (hM 29 (by decide)).2.1 (hM 29 (by decide)).2.2 (by decide) (by decide) rfl (by decide) (hb hby d37_325) (hb hby d37_326) (hb hby d37_327) (hb hby d37_328) (hb hby d37_330) (hb hby d37_333)).seq ?_
  refine (sgEB l Z az hw hx hby hml hown hZ a0 p1 a2 sC vF aM kaM nM fM aL kaL (35 : Int32) own_lit (101 : Int32) 336 30 _ h0 n0 Z0 S_COMPACT_STRINGS hsC S_SIOOBE_FORMATTER hF E_a0 F_coder_a0 F_value_a0 V_aM E_aM E_a2 F_coder_a2 F_value_a2 V_aL E_aL (hM 30 (by decide)).1 (hM 30 (by decide)).2.1 (hM 30 (by decide)).2.2 (by decide) (by decide) rfl (by decide) (hb hby d37_336) (hb hby d37_337) (hb hby d37_338) (hb hby d37_339) (hb hby d37_341) (hb hby d37_344)).seq ?_
  refine (sgEB l Z az hw hx hby hml hown hZ a0 p1 a2 sC vF aM kaM nM fM aL kaL (35 : Int32) own_lit (32 : Int32) 347 31 _ h0 n0 Z0 S_COMPACT_STRINGS hsC S_SIOOBE_FORMATTER hF E_a0 F_coder_a0 F_value_a0 V_aM E_aM E_a2 F_coder_a2 F_value_a2 V_aL E_aL (hM 31 (by decide)).1 (hM 31 (by decide)).2.1 (hM 31 (by decide)).2.2 (by decide) (by decide) rfl (by decide) (hb hby d37_347) (hb hby d37_348) (hb hby d37_349) (hb hby d37_350) (hb hby d37_352) (hb hby d37_355)).seq ?_
  refine (sgEB l Z az hw hx hby hml hown hZ a0 p1 a2 sC vF aM kaM nM fM aL kaL (35 : Int32) own_lit (111 : Int32) 358 32 _ h0 n0 Z0 S_COMPACT_STRINGS hsC S_SIOOBE_FORMATTER hF E_a0 F_coder_a0 F_value_a0 V_aM E_aM E_a2 F_coder_a2 F_value_a2 V_aL E_aL (hM 32 (by decide)).1 (hM 32 (by decide)).2.1 (hM 32 (by decide)).2.2 (by decide) (by decide) rfl (by decide) (hb hby d37_358) (hb hby d37_359) (hb hby d37_360) (hb hby d37_361) (hb hby d37_363) (hb hby d37_366)).seq ?_
  refine (sgEB l Z az hw hx hby hml hown hZ a0 p1 a2 sC vF aM kaM nM fM aL kaL (35 : Int32) own_lit (102 : Int32) 369 33 _ h0 n0 Z0 S_COMPACT_STRINGS hsC S_SIOOBE_FORMATTER hF E_a0 F_coder_a0 F_value_a0 V_aM E_aM E_a2 F_coder_a2 F_value_a2 V_aL E_aL (hM 33 (by decide)).1 (hM 33 (by decide)).2.1 (hM 33 (by decide)).2.2 (by decide) (by decide) rfl (by decide) (hb hby d37_369) (hb hby d37_370) (hb hby d37_371) (hb hby d37_372) (hb hby d37_374) (hb hby d37_377)).seq ?_
  refine (sgEB l Z az hw hx hby hml hown hZ a0 p1 a2 sC vF aM kaM nM fM aL kaL (35 : Int32) own_lit (32 : Int32) 380 34 _ h0 n0 Z0 S_COMPACT_STRINGS hsC S_SIOOBE_FORMATTER hF E_a0 F_coder_a0 F_value_a0 V_aM E_aM E_a2 F_coder_a2 F_value_a2 V_aL E_aL (hM 34 (by decide)).1 (hM 34 (by decide)).2.1 (hM 34 (by decide)).2.2 (by decide) (by decide) rfl (by decide) (hb hby d37_380) (hb hby d37_381) (hb hby d37_382) (hb hby d37_383) (hb hby d37_385) (hb hby d37_388)).seq ?_
  exact own_Seg.done ⟨rfl, rfl⟩
theorem d37_0 : decode method_5_code 0 = .ok (.ldc 46, 2) := by decide +kernel
theorem d37_2 : decode method_5_code 2 = .ok (.astore_n 2, 1) := by decide +kernel
theorem d37_3 : decode method_5_code 3 = .ok (.aload_n 2, 1) := by decide +kernel
theorem d37_4 : decode method_5_code 4 = .ok (.invokevirtual 29, 3) := by decide +kernel
theorem d37_7 : decode method_5_code 7 = .ok (.bipush 35, 2) := by decide +kernel
theorem d37_9 : decode method_5_code 9 = .ok (.if_icmp .ne 386, 3) := by decide +kernel
theorem d37_391 : decode method_5_code 391 = .ok (.iconst 1, 1) := by decide +kernel
theorem d37_392 : decode method_5_code 392 = .ok (.goto 4, 3) := by decide +kernel
theorem d37_396 : decode method_5_code 396 = .ok (.ireturn, 1) := by decide +kernel
theorem ef_rm37 (m : MethodId) (a0 : Addr) (p1 : Int32) : entryFrame m #[(.ref a0), (.int p1)] 3 = mkF m 0 #[vR a0, vI p1, .unset] [] := by first | (simp [entryFrame, mkF, argsToLocals, Value.category]; done) | rfl
def Q37 (Z : State) (a0 : Addr) (p1 : Int32) (sC : Int32) (vF : Value) (aM : Addr) (kaM : ClassId) (nM : Int32) (fM : Nat → Value) (h0 : Heap) (n0 : Nat) (v : Option Value) (h : Heap) (L : List Loc) : Prop := v = some (.int (1 : Int32)) ∧ Fr n0 L ∧ Keep h0 h []
set_option maxRecDepth 65536 in
set_option maxHeartbeats 40000000 in
theorem rm37 (l : Launch) (Z : State) (az : Array Value) (hw : HW Z az) (ws : List Jvm.Cond) (a0 : Addr) (p1 : Int32) (sC : Int32) (vF : Value) (aM : Addr) (kaM : ClassId) (nM : Int32) (fM : Nat → Value) (h0 : Heap) (n0 : Nat) (Z0 : n0 ≤ h0.size) (S_COMPACT_STRINGS : Sta Z h0 cST "COMPACT_STRINGS" "Z" (.int sC)) (hc1 : ¬ (sC = (0 : Int32))) (S_SIOOBE_FORMATTER : Sta Z h0 "jdk/internal/util/Preconditions" "SIOOBE_FORMATTER" "Ljava/util/function/BiFunction;" vF) (hc3 : own_isR vF) (E_a0 : Exa Z h0 a0 cST) (F_coder_a0 : Fld Z h0 a0 cST "coder" "B" (.int (0 : Int32))) (F_value_a0 : Fld Z h0 a0 cST "value" "[B" (.ref aM)) (V_aM : own_Arf Z h0 aM kaM .byte nM fM) (E_aM : Exa Z h0 aM "[B") (hM : own_Mid fM nM p1) :
    MetFree l (⟨cLW, "mid", "(Ljava/lang/String;I)Z"⟩ : MethodName) (head1 (Jvm.Cond.code (⟨cLW, "mid", "(Ljava/lang/String;I)Z"⟩ : MethodName) method_5_code 3 (some .boolean) :: ws) (⟨5, 2, 144, 80⟩ : Room)) (fun a U => a = #[(.ref a0), (.int p1)] ∧ Z.Warmed39 U.vm ∧ U.heap = h0 ∧ CHv Z [(cWN, 36), (cLW, 46), (cST, 7)] U.vm h0) (fun _ _ _ _ _ => True) (fun _ U o U' => ∃ v L, o = .returned v ∧ Q37 Z a0 p1 sC vF aM kaM nM fM h0 n0 v U'.heap L ∧ CHr Z [(cWN, 36), (cLW, 46), (cST, 7)] U.vm U.heap U'.vm U'.heap ∧ ReturnedEndW U o U' L (⟨5, 2, 144, 80⟩ : Room).cells (⟨5, 2, 144, 80⟩ : Room).slots) := by
  refine MetFree.of_bodySF (plainFor_of_name pn_com_example_key_lease_keylease_store_WatchedNameClosedStorePinLaw) hisR ?_
  intro p e s m args below meth c s₁ Bd hml0 hP hK
  obtain ⟨rfl, hZ, hh, hCH⟩ := hP
  have hx := Bd.exec
  have hby := Bd.bytes
  have hml : c.maxLocals = 3 := hml0
  have hown : s.vm.findClass cLW = some m.cls := findClass_of_methodNamed Bd.named
  have hnm := (name_of_methodNamed Bd.named Bd.method).1
  have X0 : Stand p l e (⟨5, 2, 144, 80⟩ : Room) s m #[(.ref a0), (.int p1)] below meth c s₁ [] 0 0 := Stand.of_body Bd
  have e0 : s₁.heap = h0 := by rw [← hh, Bd.state]; rfl
  have N0 := Fr.nil n0
  have pre0 : ∀ t, Steps p.tables e below (s₁.setTop (mkF m 0 #[vR a0, vI p1, .unset] [])) t → Steps p.tables e below (s₁.setTop (entryFrame m #[(.ref a0), (.int p1)] 3)) t := fun t k => castTop (ef_rm37 m a0 p1) k
  have hZo := hZ
  have hEW : EW Z az [(cWN, 36), (cLW, 46), (cST, 7)] := (EW.cons (hw _ (mg 99 rfl)) (by decide) (EW.cons (hw _ (mg 238 rfl)) (by decide) (EW.cons (hw _ (mg 18 rfl)) (by decide) EW.nil)))
  have hS0 : s.Since s.vm 0 := (State.WarmedH.refl s).since 0
  have wS : ∀ a ∈ Bundle.stringAtoms, a.before az Z = true := fun d hd => by
    simp only [Bundle.stringAtoms, List.mem_cons, List.not_mem_nil, or_false] at hd
    rcases hd with rfl | rfl | rfl | rfl | rfl | rfl | rfl
    · exact (hw _ (mg 6 rfl))
    · exact (hw _ (mg 5 rfl))
    · exact (hw _ (mg 19 rfl))
    · exact (hw _ (mg 20 rfl))
    · exact (hw _ (mg 21 rfl))
    · exact (hw _ (mg 22 rfl))
    · exact (hw _ (mg 23 rfl))
  have rh0 := CHr.refl hCH
  obtain ⟨l1, T1, h1, kk1, lb1, lk1, X1, e1, E1, hS1, hk1, hZ1, hown1, xl1, fc1, fv1, vl1, -, -, ch1, lt1, -, st1⟩ := ldcCH (s := s) (vm0 := s.vm) X0 hx hZ hown (w238 hw) wS e0 hS0 (Nat.zero_le _) hEW (mg 1 rfl) rh0.1 (vs := [(.int (32 : Int32)), (.int (105 : Int32)), (.int (115 : Int32)), (.int (32 : Int32)), (.int (99 : Int32)), (.int (108 : Int32)), (.int (111 : Int32)), (.int (115 : Int32)), (.int (101 : Int32)), (.int (100 : Int32)), (.int (58 : Int32)), (.int (32 : Int32)), (.int (105 : Int32)), (.int (116 : Int32)), (.int (32 : Int32)), (.int (104 : Int32)), (.int (101 : Int32)), (.int (97 : Int32)), (.int (114 : Int32)), (.int (115 : Int32)), (.int (32 : Int32)), (.int (110 : Int32)), (.int (111 : Int32)), (.int (32 : Int32)), (.int (114 : Int32)), (.int (101 : Int32)), (.int (108 : Int32)), (.int (101 : Int32)), (.int (97 : Int32)), (.int (115 : Int32)), (.int (101 : Int32)), (.int (32 : Int32)), (.int (111 : Int32)), (.int (102 : Int32)), (.int (32 : Int32))]) (z := (35 : Int32)) ⟨by decide, rfl⟩ (by decide) (by decide) (g := (mkF m 0 #[vR a0, vI p1, .unset] [])) rfl (hb hby d37_0) (n := 140) (by decide) (by decide) (by decide) (by decide)
  have xb1 : Exa Z h1 lb1 "[B" := own_exaB (EL := [(cWN, 36), (cLW, 46), (cST, 7)]) ch1.1 (mg 1 rfl) hZ1 (w238 hw) hown1 lt1 fv1
  have Z1 : n0 ≤ h1.size := Nat.le_trans Z0 E1.1
  have K1 : Keep h0 h1 [] := (Keep.refl h0 []).ext E1
  have rh2 := rh0.trans ch1
  have AL3 : own_Arf Z h1 lb1 lk1 .byte (35 : Int32) own_lit := own_Arf.ofV vl1 (fun _ _ => rfl)
  have S_String_COMPACT_STRINGS_u5 : Sta Z h1 cST "COMPACT_STRINGS" "Z" (.int sC) := (S_COMPACT_STRINGS.ext E1)
  obtain ⟨cq4, kq4, q4a, q4b, q4c⟩ := isOf hZ1 e1 xl1
  obtain ⟨_, _, ⟨T4, L4, k4', n4'⟩, -, X4, ⟨Lc4, hQ4, l4, y4, z4⟩, st4⟩ := X1.virtualBack hx (y := (⟨cST, "length", "()I"⟩ : MethodName)) (z := (⟨cST, "length", "()I"⟩ : MethodName)) hown1 (mvT hZ1 (w234 hw)) (mvT hZ1 (w62 hw)) (notFace_of_selects (args := #[]) (mvT hZ1 (w64 hw))) (mvT hZ1 (w64 hw)) (mvT hZ1 (w63 hw)) (by decide) (backOf (W := 0) (rm10 l Z az hw [] l1 sC lb1 lk1 (35 : Int32) own_lit h1 n0 Z1 S_String_COMPACT_STRINGS_u5 hc1 xl1 fc1 fv1 AL3 xb1) hZ1 (w65 hw) (w6 hw) (by decide) (by decide)) q4a q4c (g := (mkF m 4 #[vR a0, vI p1, vR l1] [(.ref l1)])) rfl (by rw [hml]; rfl) (Steps.refl _) (argsL := []) (rest := []) (lenOf pd_8 rfl) rfl (Nat.le_of_eq rfl) (hb hby d37_4) (fun _ _ => ⟨rfl, e1, (by decide : 2 + 0 ≤ _), (by decide : 144 + 0 ≤ _)⟩)
  dsimp only [Pt.U, Pt.locs, Pt.cells, Pt.slots] at X4 l4 y4 z4 st4 hQ4
  subst l4 y4 z4
  obtain ⟨rfl, N4q, e4⟩ := hQ4
  obtain ⟨Lg4, X4', N4⟩ := own_gen X4 (Fr.app N0 N4q)
  have S_Preconditions_SIOOBE_FORMATTER_u6 : Sta Z h1 "jdk/internal/util/Preconditions" "SIOOBE_FORMATTER" "Ljava/util/function/BiFunction;" vF := (S_SIOOBE_FORMATTER.ext E1)
  have E_a0_u7 : Exa Z h1 a0 cST := (E_a0.ext E1)
  have F_a0_coder_u8 : Fld Z h1 a0 cST "coder" "B" (.int (0 : Int32)) := (F_coder_a0.ext E1)
  have F_a0_value_u9 : Fld Z h1 a0 cST "value" "[B" (.ref aM) := (F_value_a0.ext E1)
  have V_aM_u10 : own_Arf Z h1 aM kaM .byte nM fM := (V_aM.ext E1)
  have E_aM_u11 : Exa Z h1 aM "[B" := (E_aM.ext E1)
  obtain ⟨T12, hs12, g12, ⟨rfl, es12⟩, ⟨Lg12, X12, e12, N12⟩, st12⟩ := sgM l Z az hw hx hby hml hown1 hZ1 a0 p1 l1 sC vF aM kaM nM fM lb1 lk1 h1 n0 Z1 S_String_COMPACT_STRINGS_u5 hc1 S_Preconditions_SIOOBE_FORMATTER_u6 hc3 E_a0_u7 F_a0_coder_u8 F_a0_value_u9 V_aM_u10 E_aM_u11 xl1 fc1 fv1 AL3 xb1 hM T4 ⟨_, X4', e4, N4⟩
  rw [es12] at e12
  have hCHR := rh2.trans (CHv.at (s := s) (vm0 := T1.vm) X12 hZ1 hEW rh2.1)
  obtain ⟨fs, hr, hrun, hended, hWE⟩ := X12.leaveW (s := s) hS1 (by rw [e12]; exact hk1) (v := some (.int (1 : Int32))) (fun h => by rw [Bd.returns] at h; cases h)
  refine ⟨_, _, pre0 _ ?_, hrun, hended, _, _, rfl, ?_, (by rw [hh]; show CHr _ _ _ _ T12.vm T12.heap; rw [e12]; exact hCHR), hWE.1, hWE.2.1, hWE.2.2.1, hWE.2.2.2.mono (by decide) (by decide)⟩
  · show SP p e below s₁ (mkF m 0 #[vR a0, vI p1, .unset] []) _
    refine st1 _ ?_
    show SP p e below T1 (mkF m 2 #[vR a0, vI p1, .unset] [(.ref l1)]) _
    refine XS.astoreN X1.here hx rfl (hb hby d37_2) rfl rfl (l' := #[vR a0, vI p1, vR l1]) rfl ?_
    refine XS.aloadN X1.here hx rfl (hb hby d37_3) rfl rfl ?_
    show SP p e below T1 (mkF m 4 #[vR a0, vI p1, vR l1] [(.ref l1)]) _
    refine st4.trans ?_
    show SP p e below T4 (mkF m 7 #[vR a0, vI p1, vR l1] [(.int (35 : Int32))]) _
    refine XS.bipush X4'.here hx rfl (hb hby d37_7) ?_
    refine XS.icmpNo X4'.here hx rfl (hb hby d37_9) rfl (teq (by decide : (35 : Int32) = (35 : Int32))).2 ?_
    show SP p e below T4 (mkF m 12 #[vR a0, vI p1, vR l1] []) _
    refine st12 _ ?_
    show SP p e below T12 (mkF m 391 #[vR a0, vI p1, vR l1] []) _
    refine XS.iconst X12.here hx rfl (hb hby d37_391) ?_
    refine XS.goto X12.here hx rfl (pc0 := 392) (pc' := 396) rfl (hb hby d37_392) (by decide) (by decide) ?_
    show SP p e below T12 (mkF m 396 #[vR a0, vI p1, vR l1] [(.int (1 : Int32))]) _
    exact retN X12 hx (t := .boolean) Bd.returns (by simp) (hb hby d37_396) hr
  · show Q37 Z a0 p1 sC vF aM kaM nM fM h0 n0 _ T12.heap _
    rw [e12]
    exact ⟨rfl, N12, K1⟩
theorem d36_0 : decode jdk_78_method_6_code 0 = .ok (.aload_n 0, 1) := by decide +kernel
theorem d36_1 : decode jdk_78_method_6_code 1 = .ok (.getfield 31, 3) := by decide +kernel
theorem d36_4 : decode jdk_78_method_6_code 4 = .ok (.areturn, 1) := by decide +kernel
theorem ef_rm36 (m : MethodId) (a0 : Addr) : entryFrame m #[(.ref a0)] 1 = mkF m 0 #[vR a0] [] := by first | (simp [entryFrame, mkF, argsToLocals, Value.category]; done) | rfl
def Q36 (Z : State) (a0 : Addr) (a1 : Addr) (h0 : Heap) (n0 : Nat) (v : Option Value) (h : Heap) (L : List Loc) : Prop := v = some (.ref a1) ∧ Fr n0 L ∧ h = h0
set_option maxRecDepth 65536 in
set_option maxHeartbeats 40000000 in
theorem rm36 (l : Launch) (Z : State) (az : Array Value) (hw : HW Z az) (ws : List Jvm.Cond) (a0 : Addr) (a1 : Addr) (h0 : Heap) (n0 : Nat) (Z0 : n0 ≤ h0.size) (E_a0 : Exa Z h0 a0 cSX) (F_detailMessage_a0 : Fld Z h0 a0 cTN "detailMessage" "Ljava/lang/String;" (.ref a1)) :
    MF l Z h0 ws ⟨cTN, "getMessage", "()Ljava/lang/String;"⟩ jdk_78_method_6_code 1 (some (.object cST)) ⟨0, 0, 0, 0⟩ #[(.ref a0)] (Q36 Z a0 a1 h0 n0) := by
  refine MetFree.of_bodySF (plainFor_of_name pn_java_lang_Throwable) hisR ?_
  intro p e s m args below meth c s₁ Bd hml0 hP hK
  obtain ⟨rfl, hZ, hh⟩ := hP
  have hx := Bd.exec
  have hby := Bd.bytes
  have hml : c.maxLocals = 1 := hml0
  have hown : s.vm.findClass cTN = some m.cls := findClass_of_methodNamed Bd.named
  have hnm := (name_of_methodNamed Bd.named Bd.method).1
  have X0 : Stand p l e (⟨0, 0, 0, 0⟩ : Room) s m #[(.ref a0)] below meth c s₁ [] 0 0 := Stand.of_body Bd
  have e0 : s₁.heap = h0 := by rw [← hh, Bd.state]; rfl
  have N0 := Fr.nil n0
  have pre0 : ∀ t, Steps p.tables e below (s₁.setTop (mkF m 0 #[vR a0] [])) t → Steps p.tables e below (s₁.setTop (entryFrame m #[(.ref a0)] 1)) t := fun t k => castTop (ef_rm36 m a0) k
  obtain ⟨T1, X1, e1, st1⟩ := getF X0 hx hZ hown (host := "") (Or.inl (w221 hw)) Via.refl e0 F_detailMessage_a0 (g := (mkF m 1 #[vR a0] [(.ref a0)])) rfl rfl (hb hby d36_1)
  obtain ⟨fs, hr, hrun, hended, hW, hsame⟩ := X1.leave (v := some (.ref a1)) (fun h => by rw [Bd.returns] at h; cases h)
  refine ⟨_, _, pre0 _ ?_, hrun, hended, _, _, rfl, ?_, ⟨_, rfl⟩, hW, hsame.mono (by decide) (by decide)⟩
  · show SP p e below s₁ (mkF m 0 #[vR a0] []) _
    refine XS.aloadN X0.here hx rfl (hb hby d36_0) rfl rfl ?_
    show SP p e below s₁ (mkF m 1 #[vR a0] [(.ref a0)]) _
    refine st1 _ ?_
    show SP p e below T1 (mkF m 4 #[vR a0] [(.ref a1)]) _
    jvm_step X1.here [X1.here.top, hx, (hb hby d36_4), X1.method', Bd.returns, Value.isRef, FieldType.isReference]
    first | (intro acts; rw [hr _ acts rfl rfl rfl]) | rw [hr _ _ rfl rfl rfl]
    exact Steps.refl _
  · show Q36 Z a0 a1 h0 n0 _ T1.heap _
    rw [e1]
    exact ⟨rfl, N0, rfl⟩
def own_Chr (f : Nat → Value) (n j c : Int32) : Prop := ¬ (j < (0 : Int32)) ∧ j < n ∧ ∃ cw, f j.toNatClampNeg = .int cw ∧ nar .char (own_ch cw) = own_ch cw ∧ own_ch cw = c
set_option maxRecDepth 65536 in
set_option maxHeartbeats 40000000 in
theorem sgP0t (l : Launch) (Z : State) (az : Array Value) (hw : HW Z az) {p : Program} {e : Env} {s : State} {m : MethodId} {args : Array Value} {below : List Frame} {meth : Method} {c : Code} (hx : p.tables.exec = Jvm.exec) (hby : c.code = code) (hml : c.maxLocals = 17) (hown : s.vm.findClass cLW = some m.cls) (hZ : Z.Warmed39 s.vm) (x0 : Slot) (x1 : Slot) (lv : Int32) (cv : Int32) (x4 : Slot) (x5 : Slot) (x6 : Slot) (x7 : Slot) (x8 : Slot) (x9 : Slot) (x10 : Slot) (x11 : Slot) (x12 : Slot) (a0 : Addr) (x14 : Slot) (x15 : Slot) (x16 : Slot) (h0 : Heap) (n0 : Nat) (Z0 : n0 ≤ h0.size) (hc0 : lv < (1 : Int32)) :
    own_Seg p l e room_1 s m args below meth c n0 22 3206 22 3206 h0 (mkF m 153 #[x0, x1, vI lv, vI cv, x4, x5, x6, x7, x8, x9, x10, x11, x12, vR a0, x14, x15, x16] []) (fun h g => g = (mkF m 168 #[x0, x1, vI lv, vI cv, x4, x5, x6, x7, x8, x9, x10, x11, x12, vR a0, x14, x15, x16] []) ∧ h = h0) := by
  intro s₁ hT
  obtain ⟨Lz0, X0, e0, N0⟩ := hT
  refine ⟨_, _, _, ⟨rfl, rfl⟩, ⟨_, X0, e0, N0⟩, fun t hr => ?_⟩
  show SP p e below s₁ (mkF m 153 #[x0, x1, vI lv, vI cv, x4, x5, x6, x7, x8, x9, x10, x11, x12, vR a0, x14, x15, x16] []) _
  refine XS.iloadN X0.here hx rfl (hb hby at_153) rfl ?_
  refine XS.iconst X0.here hx rfl (hb hby at_154) ?_
  refine XS.icmpYes X0.here hx rfl (pc0 := 155) (pc' := 168) rfl (hb hby at_155) rfl (tlt hc0).1 (by decide) (by decide) ?_
  exact hr
set_option maxRecDepth 65536 in
set_option maxHeartbeats 40000000 in
theorem sgP0f (l : Launch) (Z : State) (az : Array Value) (hw : HW Z az) {p : Program} {e : Env} {s : State} {m : MethodId} {args : Array Value} {below : List Frame} {meth : Method} {c : Code} (hx : p.tables.exec = Jvm.exec) (hby : c.code = code) (hml : c.maxLocals = 17) (hown : s.vm.findClass cLW = some m.cls) (hZ : Z.Warmed39 s.vm) (x0 : Slot) (x1 : Slot) (lv : Int32) (cv : Int32) (x4 : Slot) (x5 : Slot) (x6 : Slot) (x7 : Slot) (x8 : Slot) (x9 : Slot) (x10 : Slot) (x11 : Slot) (x12 : Slot) (a0 : Addr) (x14 : Slot) (x15 : Slot) (x16 : Slot) (sC : Int32) (vF : Value) (aM : Addr) (kaM : ClassId) (nM : Int32) (fM : Nat → Value) (cw : Int32) (h0 : Heap) (n0 : Nat) (Z0 : n0 ≤ h0.size) (S_COMPACT_STRINGS : Sta Z h0 cST "COMPACT_STRINGS" "Z" (.int sC)) (hc1 : ¬ (sC = (0 : Int32))) (S_SIOOBE_FORMATTER : Sta Z h0 "jdk/internal/util/Preconditions" "SIOOBE_FORMATTER" "Ljava/util/function/BiFunction;" vF) (hc3 : own_isR vF) (E_a0 : Exa Z h0 a0 cST) (F_coder_a0 : Fld Z h0 a0 cST "coder" "B" (.int (0 : Int32))) (F_value_a0 : Fld Z h0 a0 cST "value" "[B" (.ref aM)) (V_aM : own_Arf Z h0 aM kaM .byte nM fM) (E_aM : Exa Z h0 aM "[B") (hc9 : ¬ (lv < (1 : Int32))) (hc10 : (0 : Int32) < nM) (hc11 : fM ((0 : Int32)).toNatClampNeg = (.int cw)) (hc12 : nar .char (own_ch cw) = (own_ch cw)) (hc13 : (own_ch cw) = cv) :
    own_Seg p l e room_1 s m args below meth c n0 22 3206 22 3206 h0 (mkF m 153 #[x0, x1, vI lv, vI cv, x4, x5, x6, x7, x8, x9, x10, x11, x12, vR a0, x14, x15, x16] []) (fun h g => g = (mkF m 168 #[x0, x1, vI lv, vI cv, x4, x5, x6, x7, x8, x9, x10, x11, x12, vR a0, x14, x15, x16] []) ∧ h = h0) := by
  intro s₁ hT
  obtain ⟨Lz0, X0, e0, N0⟩ := hT
  obtain ⟨cq1, kq1, q1a, q1b, q1c⟩ := isOf hZ e0 E_a0
  obtain ⟨_, _, ⟨T1, L1, k1', n1'⟩, -, X1, ⟨Lc1, hQ1, l1, y1, z1⟩, st1⟩ := X0.virtualBack hx (y := (⟨cST, "charAt", "(I)C"⟩ : MethodName)) (z := (⟨cST, "charAt", "(I)C"⟩ : MethodName)) hown (mvT hZ (w242 hw)) (mvT hZ (w243 hw)) (notFace_of_selects (args := #[]) (mvT hZ (w245 hw))) (mvT hZ (w245 hw)) (mvT hZ (w244 hw)) (by decide) (backOf (W := 0) (rm39 l Z az hw [] a0 (0 : Int32) sC vF aM kaM nM fM cw h0 n0 Z0 S_COMPACT_STRINGS hc1 S_SIOOBE_FORMATTER hc3 E_a0 F_coder_a0 F_value_a0 V_aM E_aM (by decide) hc10 hc11 hc12) hZ (w246 hw) (w6 hw) (by decide) (by decide)) q1a q1c (g := (mkF m 161 #[x0, x1, vI lv, vI cv, x4, x5, x6, x7, x8, x9, x10, x11, x12, vR a0, x14, x15, x16] [(.int (0 : Int32)), (.ref a0)])) rfl (by rw [hml]; rfl) (Steps.refl _) (argsL := [(.int (0 : Int32))]) (rest := []) (lenOf pd_28 rfl) rfl (Nat.le_of_eq rfl) (hb hby at_161) (fun _ _ => ⟨rfl, e0, (by decide : 22 + 0 ≤ _), (by decide : 3206 + 0 ≤ _)⟩)
  dsimp only [Pt.U, Pt.locs, Pt.cells, Pt.slots] at X1 l1 y1 z1 st1 hQ1
  subst l1 y1 z1
  obtain ⟨rfl, N1q, e1⟩ := hQ1
  obtain ⟨Lg1, X1', N1⟩ := own_gen X1 (Fr.app N0 N1q)
  refine ⟨_, _, _, ⟨rfl, rfl⟩, ⟨_, X1', e1, N1⟩, fun t hr => ?_⟩
  show SP p e below s₁ (mkF m 153 #[x0, x1, vI lv, vI cv, x4, x5, x6, x7, x8, x9, x10, x11, x12, vR a0, x14, x15, x16] []) _
  refine XS.iloadN X0.here hx rfl (hb hby at_153) rfl ?_
  refine XS.iconst X0.here hx rfl (hb hby at_154) ?_
  refine XS.icmpNo X0.here hx rfl (hb hby at_155) rfl (flt hc9).1 ?_
  refine XS.aload X0.here hx rfl (hb hby at_158) rfl rfl ?_
  refine XS.iconst X0.here hx rfl (hb hby at_160) ?_
  show SP p e below s₁ (mkF m 161 #[x0, x1, vI lv, vI cv, x4, x5, x6, x7, x8, x9, x10, x11, x12, vR a0, x14, x15, x16] [(.int (0 : Int32)), (.ref a0)]) _
  refine st1.trans ?_
  show SP p e below T1 (mkF m 164 #[x0, x1, vI lv, vI cv, x4, x5, x6, x7, x8, x9, x10, x11, x12, vR a0, x14, x15, x16] [(.int (own_ch cw))]) _
  refine XS.iloadN X1'.here hx rfl (hb hby at_164) rfl ?_
  refine XS.icmpNo X1'.here hx rfl (hb hby at_165) rfl (teq hc13).2 ?_
  exact hr
set_option maxRecDepth 65536 in
set_option maxHeartbeats 40000000 in
theorem sgP0 (l : Launch) (Z : State) (az : Array Value) (hw : HW Z az) {p : Program} {e : Env} {s : State} {m : MethodId} {args : Array Value} {below : List Frame} {meth : Method} {c : Code} (hx : p.tables.exec = Jvm.exec) (hby : c.code = code) (hml : c.maxLocals = 17) (hown : s.vm.findClass cLW = some m.cls) (hZ : Z.Warmed39 s.vm) (x0 : Slot) (x1 : Slot) (lv : Int32) (cv : Int32) (x4 : Slot) (x5 : Slot) (x6 : Slot) (x7 : Slot) (x8 : Slot) (x9 : Slot) (x10 : Slot) (x11 : Slot) (x12 : Slot) (a0 : Addr) (x14 : Slot) (x15 : Slot) (x16 : Slot) (sC : Int32) (vF : Value) (aM : Addr) (kaM : ClassId) (nM : Int32) (fM : Nat → Value) (h0 : Heap) (n0 : Nat) (Z0 : n0 ≤ h0.size) (S_COMPACT_STRINGS : Sta Z h0 cST "COMPACT_STRINGS" "Z" (.int sC)) (hsC : ¬ (sC = (0 : Int32))) (S_SIOOBE_FORMATTER : Sta Z h0 "jdk/internal/util/Preconditions" "SIOOBE_FORMATTER" "Ljava/util/function/BiFunction;" vF) (hF : own_isR vF) (E_a0 : Exa Z h0 a0 cST) (F_coder_a0 : Fld Z h0 a0 cST "coder" "B" (.int (0 : Int32))) (F_value_a0 : Fld Z h0 a0 cST "value" "[B" (.ref aM)) (V_aM : own_Arf Z h0 aM kaM .byte nM fM) (E_aM : Exa Z h0 aM "[B") (hJ : ¬ (lv < (1 : Int32)) → own_Chr fM nM (0 : Int32) cv) :
    own_Seg p l e (⟨11, 48, 9088, 224⟩ : Room) s m args below meth c n0 22 3206 22 3206 h0 (mkF m 153 #[x0, x1, vI lv, vI cv, x4, x5, x6, x7, x8, x9, x10, x11, x12, vR a0, x14, x15, x16] []) (fun h g => g = (mkF m 168 #[x0, x1, vI lv, vI cv, x4, x5, x6, x7, x8, x9, x10, x11, x12, vR a0, x14, x15, x16] []) ∧ h = h0) := by
  by_cases hq : lv < (1 : Int32)
  · exact sgP0t l Z az hw hx hby hml hown hZ x0 x1 lv cv x4 x5 x6 x7 x8 x9 x10 x11 x12 a0 x14 x15 x16 h0 n0 Z0 hq
  · obtain ⟨j1, j2, cw, j3, j4, j5⟩ := hJ hq
    exact sgP0f l Z az hw hx hby hml hown hZ x0 x1 lv cv x4 x5 x6 x7 x8 x9 x10 x11 x12 a0 x14 x15 x16 sC vF aM kaM nM fM cw h0 n0 Z0 S_COMPACT_STRINGS hsC S_SIOOBE_FORMATTER hF E_a0 F_coder_a0 F_value_a0 V_aM E_aM hq j2 j3 j4 j5
set_option maxRecDepth 65536 in
set_option maxHeartbeats 40000000 in
theorem sgP1t (l : Launch) (Z : State) (az : Array Value) (hw : HW Z az) {p : Program} {e : Env} {s : State} {m : MethodId} {args : Array Value} {below : List Frame} {meth : Method} {c : Code} (hx : p.tables.exec = Jvm.exec) (hby : c.code = code) (hml : c.maxLocals = 17) (hown : s.vm.findClass cLW = some m.cls) (hZ : Z.Warmed39 s.vm) (x0 : Slot) (x1 : Slot) (lv : Int32) (x3 : Slot) (cv : Int32) (x5 : Slot) (x6 : Slot) (x7 : Slot) (x8 : Slot) (x9 : Slot) (x10 : Slot) (x11 : Slot) (x12 : Slot) (a0 : Addr) (x14 : Slot) (x15 : Slot) (x16 : Slot) (h0 : Heap) (n0 : Nat) (Z0 : n0 ≤ h0.size) (hc0 : lv < (2 : Int32)) :
    own_Seg p l e room_1 s m args below meth c n0 22 3206 22 3206 h0 (mkF m 168 #[x0, x1, vI lv, x3, vI cv, x5, x6, x7, x8, x9, x10, x11, x12, vR a0, x14, x15, x16] []) (fun h g => g = (mkF m 184 #[x0, x1, vI lv, x3, vI cv, x5, x6, x7, x8, x9, x10, x11, x12, vR a0, x14, x15, x16] []) ∧ h = h0) := by
  intro s₁ hT
  obtain ⟨Lz0, X0, e0, N0⟩ := hT
  refine ⟨_, _, _, ⟨rfl, rfl⟩, ⟨_, X0, e0, N0⟩, fun t hr => ?_⟩
  show SP p e below s₁ (mkF m 168 #[x0, x1, vI lv, x3, vI cv, x5, x6, x7, x8, x9, x10, x11, x12, vR a0, x14, x15, x16] []) _
  refine XS.iloadN X0.here hx rfl (hb hby at_168) rfl ?_
  refine XS.iconst X0.here hx rfl (hb hby at_169) ?_
  refine XS.icmpYes X0.here hx rfl (pc0 := 170) (pc' := 184) rfl (hb hby at_170) rfl (tlt hc0).1 (by decide) (by decide) ?_
  exact hr
set_option maxRecDepth 65536 in
set_option maxHeartbeats 40000000 in
theorem sgP1f (l : Launch) (Z : State) (az : Array Value) (hw : HW Z az) {p : Program} {e : Env} {s : State} {m : MethodId} {args : Array Value} {below : List Frame} {meth : Method} {c : Code} (hx : p.tables.exec = Jvm.exec) (hby : c.code = code) (hml : c.maxLocals = 17) (hown : s.vm.findClass cLW = some m.cls) (hZ : Z.Warmed39 s.vm) (x0 : Slot) (x1 : Slot) (lv : Int32) (x3 : Slot) (cv : Int32) (x5 : Slot) (x6 : Slot) (x7 : Slot) (x8 : Slot) (x9 : Slot) (x10 : Slot) (x11 : Slot) (x12 : Slot) (a0 : Addr) (x14 : Slot) (x15 : Slot) (x16 : Slot) (sC : Int32) (vF : Value) (aM : Addr) (kaM : ClassId) (nM : Int32) (fM : Nat → Value) (cw : Int32) (h0 : Heap) (n0 : Nat) (Z0 : n0 ≤ h0.size) (S_COMPACT_STRINGS : Sta Z h0 cST "COMPACT_STRINGS" "Z" (.int sC)) (hc1 : ¬ (sC = (0 : Int32))) (S_SIOOBE_FORMATTER : Sta Z h0 "jdk/internal/util/Preconditions" "SIOOBE_FORMATTER" "Ljava/util/function/BiFunction;" vF) (hc3 : own_isR vF) (E_a0 : Exa Z h0 a0 cST) (F_coder_a0 : Fld Z h0 a0 cST "coder" "B" (.int (0 : Int32))) (F_value_a0 : Fld Z h0 a0 cST "value" "[B" (.ref aM)) (V_aM : own_Arf Z h0 aM kaM .byte nM fM) (E_aM : Exa Z h0 aM "[B") (hc9 : ¬ (lv < (2 : Int32))) (hc10 : (1 : Int32) < nM) (hc11 : fM ((1 : Int32)).toNatClampNeg = (.int cw)) (hc12 : nar .char (own_ch cw) = (own_ch cw)) (hc13 : (own_ch cw) = cv) :
    own_Seg p l e room_1 s m args below meth c n0 22 3206 22 3206 h0 (mkF m 168 #[x0, x1, vI lv, x3, vI cv, x5, x6, x7, x8, x9, x10, x11, x12, vR a0, x14, x15, x16] []) (fun h g => g = (mkF m 184 #[x0, x1, vI lv, x3, vI cv, x5, x6, x7, x8, x9, x10, x11, x12, vR a0, x14, x15, x16] []) ∧ h = h0) := by
  intro s₁ hT
  obtain ⟨Lz0, X0, e0, N0⟩ := hT
  obtain ⟨cq1, kq1, q1a, q1b, q1c⟩ := isOf hZ e0 E_a0
  obtain ⟨_, _, ⟨T1, L1, k1', n1'⟩, -, X1, ⟨Lc1, hQ1, l1, y1, z1⟩, st1⟩ := X0.virtualBack hx (y := (⟨cST, "charAt", "(I)C"⟩ : MethodName)) (z := (⟨cST, "charAt", "(I)C"⟩ : MethodName)) hown (mvT hZ (w242 hw)) (mvT hZ (w243 hw)) (notFace_of_selects (args := #[]) (mvT hZ (w245 hw))) (mvT hZ (w245 hw)) (mvT hZ (w244 hw)) (by decide) (backOf (W := 0) (rm39 l Z az hw [] a0 (1 : Int32) sC vF aM kaM nM fM cw h0 n0 Z0 S_COMPACT_STRINGS hc1 S_SIOOBE_FORMATTER hc3 E_a0 F_coder_a0 F_value_a0 V_aM E_aM (by decide) hc10 hc11 hc12) hZ (w246 hw) (w6 hw) (by decide) (by decide)) q1a q1c (g := (mkF m 176 #[x0, x1, vI lv, x3, vI cv, x5, x6, x7, x8, x9, x10, x11, x12, vR a0, x14, x15, x16] [(.int (1 : Int32)), (.ref a0)])) rfl (by rw [hml]; rfl) (Steps.refl _) (argsL := [(.int (1 : Int32))]) (rest := []) (lenOf pd_28 rfl) rfl (Nat.le_of_eq rfl) (hb hby at_176) (fun _ _ => ⟨rfl, e0, (by decide : 22 + 0 ≤ _), (by decide : 3206 + 0 ≤ _)⟩)
  dsimp only [Pt.U, Pt.locs, Pt.cells, Pt.slots] at X1 l1 y1 z1 st1 hQ1
  subst l1 y1 z1
  obtain ⟨rfl, N1q, e1⟩ := hQ1
  obtain ⟨Lg1, X1', N1⟩ := own_gen X1 (Fr.app N0 N1q)
  refine ⟨_, _, _, ⟨rfl, rfl⟩, ⟨_, X1', e1, N1⟩, fun t hr => ?_⟩
  show SP p e below s₁ (mkF m 168 #[x0, x1, vI lv, x3, vI cv, x5, x6, x7, x8, x9, x10, x11, x12, vR a0, x14, x15, x16] []) _
  refine XS.iloadN X0.here hx rfl (hb hby at_168) rfl ?_
  refine XS.iconst X0.here hx rfl (hb hby at_169) ?_
  refine XS.icmpNo X0.here hx rfl (hb hby at_170) rfl (flt hc9).1 ?_
  refine XS.aload X0.here hx rfl (hb hby at_173) rfl rfl ?_
  refine XS.iconst X0.here hx rfl (hb hby at_175) ?_
  show SP p e below s₁ (mkF m 176 #[x0, x1, vI lv, x3, vI cv, x5, x6, x7, x8, x9, x10, x11, x12, vR a0, x14, x15, x16] [(.int (1 : Int32)), (.ref a0)]) _
  refine st1.trans ?_
  show SP p e below T1 (mkF m 179 #[x0, x1, vI lv, x3, vI cv, x5, x6, x7, x8, x9, x10, x11, x12, vR a0, x14, x15, x16] [(.int (own_ch cw))]) _
  refine XS.iload X1'.here hx rfl (hb hby at_179) rfl ?_
  refine XS.icmpNo X1'.here hx rfl (hb hby at_181) rfl (teq hc13).2 ?_
  exact hr
set_option maxRecDepth 65536 in
set_option maxHeartbeats 40000000 in
theorem sgP1 (l : Launch) (Z : State) (az : Array Value) (hw : HW Z az) {p : Program} {e : Env} {s : State} {m : MethodId} {args : Array Value} {below : List Frame} {meth : Method} {c : Code} (hx : p.tables.exec = Jvm.exec) (hby : c.code = code) (hml : c.maxLocals = 17) (hown : s.vm.findClass cLW = some m.cls) (hZ : Z.Warmed39 s.vm) (x0 : Slot) (x1 : Slot) (lv : Int32) (x3 : Slot) (cv : Int32) (x5 : Slot) (x6 : Slot) (x7 : Slot) (x8 : Slot) (x9 : Slot) (x10 : Slot) (x11 : Slot) (x12 : Slot) (a0 : Addr) (x14 : Slot) (x15 : Slot) (x16 : Slot) (sC : Int32) (vF : Value) (aM : Addr) (kaM : ClassId) (nM : Int32) (fM : Nat → Value) (h0 : Heap) (n0 : Nat) (Z0 : n0 ≤ h0.size) (S_COMPACT_STRINGS : Sta Z h0 cST "COMPACT_STRINGS" "Z" (.int sC)) (hsC : ¬ (sC = (0 : Int32))) (S_SIOOBE_FORMATTER : Sta Z h0 "jdk/internal/util/Preconditions" "SIOOBE_FORMATTER" "Ljava/util/function/BiFunction;" vF) (hF : own_isR vF) (E_a0 : Exa Z h0 a0 cST) (F_coder_a0 : Fld Z h0 a0 cST "coder" "B" (.int (0 : Int32))) (F_value_a0 : Fld Z h0 a0 cST "value" "[B" (.ref aM)) (V_aM : own_Arf Z h0 aM kaM .byte nM fM) (E_aM : Exa Z h0 aM "[B") (hJ : ¬ (lv < (2 : Int32)) → own_Chr fM nM (1 : Int32) cv) :
    own_Seg p l e (⟨11, 48, 9088, 224⟩ : Room) s m args below meth c n0 22 3206 22 3206 h0 (mkF m 168 #[x0, x1, vI lv, x3, vI cv, x5, x6, x7, x8, x9, x10, x11, x12, vR a0, x14, x15, x16] []) (fun h g => g = (mkF m 184 #[x0, x1, vI lv, x3, vI cv, x5, x6, x7, x8, x9, x10, x11, x12, vR a0, x14, x15, x16] []) ∧ h = h0) := by
  by_cases hq : lv < (2 : Int32)
  · exact sgP1t l Z az hw hx hby hml hown hZ x0 x1 lv x3 cv x5 x6 x7 x8 x9 x10 x11 x12 a0 x14 x15 x16 h0 n0 Z0 hq
  · obtain ⟨j1, j2, cw, j3, j4, j5⟩ := hJ hq
    exact sgP1f l Z az hw hx hby hml hown hZ x0 x1 lv x3 cv x5 x6 x7 x8 x9 x10 x11 x12 a0 x14 x15 x16 sC vF aM kaM nM fM cw h0 n0 Z0 S_COMPACT_STRINGS hsC S_SIOOBE_FORMATTER hF E_a0 F_coder_a0 F_value_a0 V_aM E_aM hq j2 j3 j4 j5
set_option maxRecDepth 65536 in
set_option maxHeartbeats 40000000 in
theorem sgP2t (l : Launch) (Z : State) (az : Array Value) (hw : HW Z az) {p : Program} {e : Env} {s : State} {m : MethodId} {args : Array Value} {below : List Frame} {meth : Method} {c : Code} (hx : p.tables.exec = Jvm.exec) (hby : c.code = code) (hml : c.maxLocals = 17) (hown : s.vm.findClass cLW = some m.cls) (hZ : Z.Warmed39 s.vm) (x0 : Slot) (x1 : Slot) (lv : Int32) (x3 : Slot) (x4 : Slot) (cv : Int32) (x6 : Slot) (x7 : Slot) (x8 : Slot) (x9 : Slot) (x10 : Slot) (x11 : Slot) (x12 : Slot) (a0 : Addr) (x14 : Slot) (x15 : Slot) (x16 : Slot) (h0 : Heap) (n0 : Nat) (Z0 : n0 ≤ h0.size) (hc0 : lv < (3 : Int32)) :
    own_Seg p l e room_1 s m args below meth c n0 22 3206 22 3206 h0 (mkF m 184 #[x0, x1, vI lv, x3, x4, vI cv, x6, x7, x8, x9, x10, x11, x12, vR a0, x14, x15, x16] []) (fun h g => g = (mkF m 200 #[x0, x1, vI lv, x3, x4, vI cv, x6, x7, x8, x9, x10, x11, x12, vR a0, x14, x15, x16] []) ∧ h = h0) := by
  intro s₁ hT
  obtain ⟨Lz0, X0, e0, N0⟩ := hT
  refine ⟨_, _, _, ⟨rfl, rfl⟩, ⟨_, X0, e0, N0⟩, fun t hr => ?_⟩
  show SP p e below s₁ (mkF m 184 #[x0, x1, vI lv, x3, x4, vI cv, x6, x7, x8, x9, x10, x11, x12, vR a0, x14, x15, x16] []) _
  refine XS.iloadN X0.here hx rfl (hb hby at_184) rfl ?_
  refine XS.iconst X0.here hx rfl (hb hby at_185) ?_
  refine XS.icmpYes X0.here hx rfl (pc0 := 186) (pc' := 200) rfl (hb hby at_186) rfl (tlt hc0).1 (by decide) (by decide) ?_
  exact hr
set_option maxRecDepth 65536 in
set_option maxHeartbeats 40000000 in
theorem sgP2f (l : Launch) (Z : State) (az : Array Value) (hw : HW Z az) {p : Program} {e : Env} {s : State} {m : MethodId} {args : Array Value} {below : List Frame} {meth : Method} {c : Code} (hx : p.tables.exec = Jvm.exec) (hby : c.code = code) (hml : c.maxLocals = 17) (hown : s.vm.findClass cLW = some m.cls) (hZ : Z.Warmed39 s.vm) (x0 : Slot) (x1 : Slot) (lv : Int32) (x3 : Slot) (x4 : Slot) (cv : Int32) (x6 : Slot) (x7 : Slot) (x8 : Slot) (x9 : Slot) (x10 : Slot) (x11 : Slot) (x12 : Slot) (a0 : Addr) (x14 : Slot) (x15 : Slot) (x16 : Slot) (sC : Int32) (vF : Value) (aM : Addr) (kaM : ClassId) (nM : Int32) (fM : Nat → Value) (cw : Int32) (h0 : Heap) (n0 : Nat) (Z0 : n0 ≤ h0.size) (S_COMPACT_STRINGS : Sta Z h0 cST "COMPACT_STRINGS" "Z" (.int sC)) (hc1 : ¬ (sC = (0 : Int32))) (S_SIOOBE_FORMATTER : Sta Z h0 "jdk/internal/util/Preconditions" "SIOOBE_FORMATTER" "Ljava/util/function/BiFunction;" vF) (hc3 : own_isR vF) (E_a0 : Exa Z h0 a0 cST) (F_coder_a0 : Fld Z h0 a0 cST "coder" "B" (.int (0 : Int32))) (F_value_a0 : Fld Z h0 a0 cST "value" "[B" (.ref aM)) (V_aM : own_Arf Z h0 aM kaM .byte nM fM) (E_aM : Exa Z h0 aM "[B") (hc9 : ¬ (lv < (3 : Int32))) (hc10 : (2 : Int32) < nM) (hc11 : fM ((2 : Int32)).toNatClampNeg = (.int cw)) (hc12 : nar .char (own_ch cw) = (own_ch cw)) (hc13 : (own_ch cw) = cv) :
    own_Seg p l e room_1 s m args below meth c n0 22 3206 22 3206 h0 (mkF m 184 #[x0, x1, vI lv, x3, x4, vI cv, x6, x7, x8, x9, x10, x11, x12, vR a0, x14, x15, x16] []) (fun h g => g = (mkF m 200 #[x0, x1, vI lv, x3, x4, vI cv, x6, x7, x8, x9, x10, x11, x12, vR a0, x14, x15, x16] []) ∧ h = h0) := by
  intro s₁ hT
  obtain ⟨Lz0, X0, e0, N0⟩ := hT
  obtain ⟨cq1, kq1, q1a, q1b, q1c⟩ := isOf hZ e0 E_a0
  obtain ⟨_, _, ⟨T1, L1, k1', n1'⟩, -, X1, ⟨Lc1, hQ1, l1, y1, z1⟩, st1⟩ := X0.virtualBack hx (y := (⟨cST, "charAt", "(I)C"⟩ : MethodName)) (z := (⟨cST, "charAt", "(I)C"⟩ : MethodName)) hown (mvT hZ (w242 hw)) (mvT hZ (w243 hw)) (notFace_of_selects (args := #[]) (mvT hZ (w245 hw))) (mvT hZ (w245 hw)) (mvT hZ (w244 hw)) (by decide) (backOf (W := 0) (rm39 l Z az hw [] a0 (2 : Int32) sC vF aM kaM nM fM cw h0 n0 Z0 S_COMPACT_STRINGS hc1 S_SIOOBE_FORMATTER hc3 E_a0 F_coder_a0 F_value_a0 V_aM E_aM (by decide) hc10 hc11 hc12) hZ (w246 hw) (w6 hw) (by decide) (by decide)) q1a q1c (g := (mkF m 192 #[x0, x1, vI lv, x3, x4, vI cv, x6, x7, x8, x9, x10, x11, x12, vR a0, x14, x15, x16] [(.int (2 : Int32)), (.ref a0)])) rfl (by rw [hml]; rfl) (Steps.refl _) (argsL := [(.int (2 : Int32))]) (rest := []) (lenOf pd_28 rfl) rfl (Nat.le_of_eq rfl) (hb hby at_192) (fun _ _ => ⟨rfl, e0, (by decide : 22 + 0 ≤ _), (by decide : 3206 + 0 ≤ _)⟩)
  dsimp only [Pt.U, Pt.locs, Pt.cells, Pt.slots] at X1 l1 y1 z1 st1 hQ1
  subst l1 y1 z1
  obtain ⟨rfl, N1q, e1⟩ := hQ1
  obtain ⟨Lg1, X1', N1⟩ := own_gen X1 (Fr.app N0 N1q)
  refine ⟨_, _, _, ⟨rfl, rfl⟩, ⟨_, X1', e1, N1⟩, fun t hr => ?_⟩
  show SP p e below s₁ (mkF m 184 #[x0, x1, vI lv, x3, x4, vI cv, x6, x7, x8, x9, x10, x11, x12, vR a0, x14, x15, x16] []) _
  refine XS.iloadN X0.here hx rfl (hb hby at_184) rfl ?_
  refine XS.iconst X0.here hx rfl (hb hby at_185) ?_
  refine XS.icmpNo X0.here hx rfl (hb hby at_186) rfl (flt hc9).1 ?_
  refine XS.aload X0.here hx rfl (hb hby at_189) rfl rfl ?_
  refine XS.iconst X0.here hx rfl (hb hby at_191) ?_
  show SP p e below s₁ (mkF m 192 #[x0, x1, vI lv, x3, x4, vI cv, x6, x7, x8, x9, x10, x11, x12, vR a0, x14, x15, x16] [(.int (2 : Int32)), (.ref a0)]) _
  refine st1.trans ?_
  show SP p e below T1 (mkF m 195 #[x0, x1, vI lv, x3, x4, vI cv, x6, x7, x8, x9, x10, x11, x12, vR a0, x14, x15, x16] [(.int (own_ch cw))]) _
  refine XS.iload X1'.here hx rfl (hb hby at_195) rfl ?_
  refine XS.icmpNo X1'.here hx rfl (hb hby at_197) rfl (teq hc13).2 ?_
  exact hr
set_option maxRecDepth 65536 in
set_option maxHeartbeats 40000000 in
theorem sgP2 (l : Launch) (Z : State) (az : Array Value) (hw : HW Z az) {p : Program} {e : Env} {s : State} {m : MethodId} {args : Array Value} {below : List Frame} {meth : Method} {c : Code} (hx : p.tables.exec = Jvm.exec) (hby : c.code = code) (hml : c.maxLocals = 17) (hown : s.vm.findClass cLW = some m.cls) (hZ : Z.Warmed39 s.vm) (x0 : Slot) (x1 : Slot) (lv : Int32) (x3 : Slot) (x4 : Slot) (cv : Int32) (x6 : Slot) (x7 : Slot) (x8 : Slot) (x9 : Slot) (x10 : Slot) (x11 : Slot) (x12 : Slot) (a0 : Addr) (x14 : Slot) (x15 : Slot) (x16 : Slot) (sC : Int32) (vF : Value) (aM : Addr) (kaM : ClassId) (nM : Int32) (fM : Nat → Value) (h0 : Heap) (n0 : Nat) (Z0 : n0 ≤ h0.size) (S_COMPACT_STRINGS : Sta Z h0 cST "COMPACT_STRINGS" "Z" (.int sC)) (hsC : ¬ (sC = (0 : Int32))) (S_SIOOBE_FORMATTER : Sta Z h0 "jdk/internal/util/Preconditions" "SIOOBE_FORMATTER" "Ljava/util/function/BiFunction;" vF) (hF : own_isR vF) (E_a0 : Exa Z h0 a0 cST) (F_coder_a0 : Fld Z h0 a0 cST "coder" "B" (.int (0 : Int32))) (F_value_a0 : Fld Z h0 a0 cST "value" "[B" (.ref aM)) (V_aM : own_Arf Z h0 aM kaM .byte nM fM) (E_aM : Exa Z h0 aM "[B") (hJ : ¬ (lv < (3 : Int32)) → own_Chr fM nM (2 : Int32) cv) :
    own_Seg p l e (⟨11, 48, 9088, 224⟩ : Room) s m args below meth c n0 22 3206 22 3206 h0 (mkF m 184 #[x0, x1, vI lv, x3, x4, vI cv, x6, x7, x8, x9, x10, x11, x12, vR a0, x14, x15, x16] []) (fun h g => g = (mkF m 200 #[x0, x1, vI lv, x3, x4, vI cv, x6, x7, x8, x9, x10, x11, x12, vR a0, x14, x15, x16] []) ∧ h = h0) := by
  by_cases hq : lv < (3 : Int32)
  · exact sgP2t l Z az hw hx hby hml hown hZ x0 x1 lv x3 x4 cv x6 x7 x8 x9 x10 x11 x12 a0 x14 x15 x16 h0 n0 Z0 hq
  · obtain ⟨j1, j2, cw, j3, j4, j5⟩ := hJ hq
    exact sgP2f l Z az hw hx hby hml hown hZ x0 x1 lv x3 x4 cv x6 x7 x8 x9 x10 x11 x12 a0 x14 x15 x16 sC vF aM kaM nM fM cw h0 n0 Z0 S_COMPACT_STRINGS hsC S_SIOOBE_FORMATTER hF E_a0 F_coder_a0 F_value_a0 V_aM E_aM hq j2 j3 j4 j5
set_option maxRecDepth 65536 in
set_option maxHeartbeats 40000000 in
theorem sgS0t (l : Launch) (Z : State) (az : Array Value) (hw : HW Z az) {p : Program} {e : Env} {s : State} {m : MethodId} {args : Array Value} {below : List Frame} {meth : Method} {c : Code} (hx : p.tables.exec = Jvm.exec) (hby : c.code = code) (hml : c.maxLocals = 17) (hown : s.vm.findClass cLW = some m.cls) (hZ : Z.Warmed39 s.vm) (x0 : Slot) (x1 : Slot) (x2 : Slot) (x3 : Slot) (x4 : Slot) (x5 : Slot) (lv : Int32) (cv : Int32) (x8 : Slot) (x9 : Slot) (x10 : Slot) (x11 : Slot) (x12 : Slot) (a0 : Addr) (x14 : Slot) (o : Int32) (x16 : Slot) (h0 : Heap) (n0 : Nat) (Z0 : n0 ≤ h0.size) (hc0 : lv < (1 : Int32)) :
    own_Seg p l e room_1 s m args below meth c n0 22 3206 22 3206 h0 (mkF m 213 #[x0, x1, x2, x3, x4, x5, vI lv, vI cv, x8, x9, x10, x11, x12, vR a0, x14, vI o, x16] []) (fun h g => g = (mkF m 231 #[x0, x1, x2, x3, x4, x5, vI lv, vI cv, x8, x9, x10, x11, x12, vR a0, x14, vI o, x16] []) ∧ h = h0) := by
  intro s₁ hT
  obtain ⟨Lz0, X0, e0, N0⟩ := hT
  refine ⟨_, _, _, ⟨rfl, rfl⟩, ⟨_, X0, e0, N0⟩, fun t hr => ?_⟩
  show SP p e below s₁ (mkF m 213 #[x0, x1, x2, x3, x4, x5, vI lv, vI cv, x8, x9, x10, x11, x12, vR a0, x14, vI o, x16] []) _
  refine XS.iload X0.here hx rfl (hb hby at_213) rfl ?_
  refine XS.iconst X0.here hx rfl (hb hby at_215) ?_
  refine XS.icmpYes X0.here hx rfl (pc0 := 216) (pc' := 231) rfl (hb hby at_216) rfl (tlt hc0).1 (by decide) (by decide) ?_
  exact hr
set_option maxRecDepth 65536 in
set_option maxHeartbeats 40000000 in
theorem sgS0f (l : Launch) (Z : State) (az : Array Value) (hw : HW Z az) {p : Program} {e : Env} {s : State} {m : MethodId} {args : Array Value} {below : List Frame} {meth : Method} {c : Code} (hx : p.tables.exec = Jvm.exec) (hby : c.code = code) (hml : c.maxLocals = 17) (hown : s.vm.findClass cLW = some m.cls) (hZ : Z.Warmed39 s.vm) (x0 : Slot) (x1 : Slot) (x2 : Slot) (x3 : Slot) (x4 : Slot) (x5 : Slot) (lv : Int32) (cv : Int32) (x8 : Slot) (x9 : Slot) (x10 : Slot) (x11 : Slot) (x12 : Slot) (a0 : Addr) (x14 : Slot) (o : Int32) (x16 : Slot) (sC : Int32) (vF : Value) (aM : Addr) (kaM : ClassId) (nM : Int32) (fM : Nat → Value) (cw : Int32) (h0 : Heap) (n0 : Nat) (Z0 : n0 ≤ h0.size) (S_COMPACT_STRINGS : Sta Z h0 cST "COMPACT_STRINGS" "Z" (.int sC)) (hc1 : ¬ (sC = (0 : Int32))) (S_SIOOBE_FORMATTER : Sta Z h0 "jdk/internal/util/Preconditions" "SIOOBE_FORMATTER" "Ljava/util/function/BiFunction;" vF) (hc3 : own_isR vF) (E_a0 : Exa Z h0 a0 cST) (F_coder_a0 : Fld Z h0 a0 cST "coder" "B" (.int (0 : Int32))) (F_value_a0 : Fld Z h0 a0 cST "value" "[B" (.ref aM)) (V_aM : own_Arf Z h0 aM kaM .byte nM fM) (E_aM : Exa Z h0 aM "[B") (hc9 : ¬ (lv < (1 : Int32))) (hc10 : ¬ (o < (0 : Int32))) (hc11 : o < nM) (hc12 : fM (o).toNatClampNeg = (.int cw)) (hc13 : nar .char (own_ch cw) = (own_ch cw)) (hc14 : (own_ch cw) = cv) :
    own_Seg p l e room_1 s m args below meth c n0 22 3206 22 3206 h0 (mkF m 213 #[x0, x1, x2, x3, x4, x5, vI lv, vI cv, x8, x9, x10, x11, x12, vR a0, x14, vI o, x16] []) (fun h g => g = (mkF m 231 #[x0, x1, x2, x3, x4, x5, vI lv, vI cv, x8, x9, x10, x11, x12, vR a0, x14, vI o, x16] []) ∧ h = h0) := by
  intro s₁ hT
  obtain ⟨Lz0, X0, e0, N0⟩ := hT
  obtain ⟨cq1, kq1, q1a, q1b, q1c⟩ := isOf hZ e0 E_a0
  obtain ⟨_, _, ⟨T1, L1, k1', n1'⟩, -, X1, ⟨Lc1, hQ1, l1, y1, z1⟩, st1⟩ := X0.virtualBack hx (y := (⟨cST, "charAt", "(I)C"⟩ : MethodName)) (z := (⟨cST, "charAt", "(I)C"⟩ : MethodName)) hown (mvT hZ (w242 hw)) (mvT hZ (w243 hw)) (notFace_of_selects (args := #[]) (mvT hZ (w245 hw))) (mvT hZ (w245 hw)) (mvT hZ (w244 hw)) (by decide) (backOf (W := 0) (rm39 l Z az hw [] a0 o sC vF aM kaM nM fM cw h0 n0 Z0 S_COMPACT_STRINGS hc1 S_SIOOBE_FORMATTER hc3 E_a0 F_coder_a0 F_value_a0 V_aM E_aM hc10 hc11 hc12 hc13) hZ (w246 hw) (w6 hw) (by decide) (by decide)) q1a q1c (g := (mkF m 223 #[x0, x1, x2, x3, x4, x5, vI lv, vI cv, x8, x9, x10, x11, x12, vR a0, x14, vI o, x16] [(.int o), (.ref a0)])) rfl (by rw [hml]; rfl) (Steps.refl _) (argsL := [(.int o)]) (rest := []) (lenOf pd_28 rfl) rfl (Nat.le_of_eq rfl) (hb hby at_223) (fun _ _ => ⟨rfl, e0, (by decide : 22 + 0 ≤ _), (by decide : 3206 + 0 ≤ _)⟩)
  dsimp only [Pt.U, Pt.locs, Pt.cells, Pt.slots] at X1 l1 y1 z1 st1 hQ1
  subst l1 y1 z1
  obtain ⟨rfl, N1q, e1⟩ := hQ1
  obtain ⟨Lg1, X1', N1⟩ := own_gen X1 (Fr.app N0 N1q)
  refine ⟨_, _, _, ⟨rfl, rfl⟩, ⟨_, X1', e1, N1⟩, fun t hr => ?_⟩
  show SP p e below s₁ (mkF m 213 #[x0, x1, x2, x3, x4, x5, vI lv, vI cv, x8, x9, x10, x11, x12, vR a0, x14, vI o, x16] []) _
  refine XS.iload X0.here hx rfl (hb hby at_213) rfl ?_
  refine XS.iconst X0.here hx rfl (hb hby at_215) ?_
  refine XS.icmpNo X0.here hx rfl (hb hby at_216) rfl (flt hc9).1 ?_
  refine XS.aload X0.here hx rfl (hb hby at_219) rfl rfl ?_
  refine XS.iload X0.here hx rfl (hb hby at_221) rfl ?_
  show SP p e below s₁ (mkF m 223 #[x0, x1, x2, x3, x4, x5, vI lv, vI cv, x8, x9, x10, x11, x12, vR a0, x14, vI o, x16] [(.int o), (.ref a0)]) _
  refine st1.trans ?_
  show SP p e below T1 (mkF m 226 #[x0, x1, x2, x3, x4, x5, vI lv, vI cv, x8, x9, x10, x11, x12, vR a0, x14, vI o, x16] [(.int (own_ch cw))]) _
  refine XS.iload X1'.here hx rfl (hb hby at_226) rfl ?_
  refine XS.icmpNo X1'.here hx rfl (hb hby at_228) rfl (teq hc14).2 ?_
  exact hr
set_option maxRecDepth 65536 in
set_option maxHeartbeats 40000000 in
theorem sgS0 (l : Launch) (Z : State) (az : Array Value) (hw : HW Z az) {p : Program} {e : Env} {s : State} {m : MethodId} {args : Array Value} {below : List Frame} {meth : Method} {c : Code} (hx : p.tables.exec = Jvm.exec) (hby : c.code = code) (hml : c.maxLocals = 17) (hown : s.vm.findClass cLW = some m.cls) (hZ : Z.Warmed39 s.vm) (x0 : Slot) (x1 : Slot) (x2 : Slot) (x3 : Slot) (x4 : Slot) (x5 : Slot) (lv : Int32) (cv : Int32) (x8 : Slot) (x9 : Slot) (x10 : Slot) (x11 : Slot) (x12 : Slot) (a0 : Addr) (x14 : Slot) (o : Int32) (x16 : Slot) (sC : Int32) (vF : Value) (aM : Addr) (kaM : ClassId) (nM : Int32) (fM : Nat → Value) (h0 : Heap) (n0 : Nat) (Z0 : n0 ≤ h0.size) (S_COMPACT_STRINGS : Sta Z h0 cST "COMPACT_STRINGS" "Z" (.int sC)) (hsC : ¬ (sC = (0 : Int32))) (S_SIOOBE_FORMATTER : Sta Z h0 "jdk/internal/util/Preconditions" "SIOOBE_FORMATTER" "Ljava/util/function/BiFunction;" vF) (hF : own_isR vF) (E_a0 : Exa Z h0 a0 cST) (F_coder_a0 : Fld Z h0 a0 cST "coder" "B" (.int (0 : Int32))) (F_value_a0 : Fld Z h0 a0 cST "value" "[B" (.ref aM)) (V_aM : own_Arf Z h0 aM kaM .byte nM fM) (E_aM : Exa Z h0 aM "[B") (hJ : ¬ (lv < (1 : Int32)) → own_Chr fM nM o cv) :
    own_Seg p l e (⟨11, 48, 9088, 224⟩ : Room) s m args below meth c n0 22 3206 22 3206 h0 (mkF m 213 #[x0, x1, x2, x3, x4, x5, vI lv, vI cv, x8, x9, x10, x11, x12, vR a0, x14, vI o, x16] []) (fun h g => g = (mkF m 231 #[x0, x1, x2, x3, x4, x5, vI lv, vI cv, x8, x9, x10, x11, x12, vR a0, x14, vI o, x16] []) ∧ h = h0) := by
  by_cases hq : lv < (1 : Int32)
  · exact sgS0t l Z az hw hx hby hml hown hZ x0 x1 x2 x3 x4 x5 lv cv x8 x9 x10 x11 x12 a0 x14 o x16 h0 n0 Z0 hq
  · obtain ⟨j1, j2, cw, j3, j4, j5⟩ := hJ hq
    exact sgS0f l Z az hw hx hby hml hown hZ x0 x1 x2 x3 x4 x5 lv cv x8 x9 x10 x11 x12 a0 x14 o x16 sC vF aM kaM nM fM cw h0 n0 Z0 S_COMPACT_STRINGS hsC S_SIOOBE_FORMATTER hF E_a0 F_coder_a0 F_value_a0 V_aM E_aM hq j1 j2 j3 j4 j5
set_option maxRecDepth 65536 in
set_option maxHeartbeats 40000000 in
theorem sgS1t (l : Launch) (Z : State) (az : Array Value) (hw : HW Z az) {p : Program} {e : Env} {s : State} {m : MethodId} {args : Array Value} {below : List Frame} {meth : Method} {c : Code} (hx : p.tables.exec = Jvm.exec) (hby : c.code = code) (hml : c.maxLocals = 17) (hown : s.vm.findClass cLW = some m.cls) (hZ : Z.Warmed39 s.vm) (x0 : Slot) (x1 : Slot) (x2 : Slot) (x3 : Slot) (x4 : Slot) (x5 : Slot) (lv : Int32) (x7 : Slot) (cv : Int32) (x9 : Slot) (x10 : Slot) (x11 : Slot) (x12 : Slot) (a0 : Addr) (x14 : Slot) (o : Int32) (x16 : Slot) (h0 : Heap) (n0 : Nat) (Z0 : n0 ≤ h0.size) (hc0 : lv < (2 : Int32)) :
    own_Seg p l e room_1 s m args below meth c n0 22 3206 22 3206 h0 (mkF m 231 #[x0, x1, x2, x3, x4, x5, vI lv, x7, vI cv, x9, x10, x11, x12, vR a0, x14, vI o, x16] []) (fun h g => g = (mkF m 251 #[x0, x1, x2, x3, x4, x5, vI lv, x7, vI cv, x9, x10, x11, x12, vR a0, x14, vI o, x16] []) ∧ h = h0) := by
  intro s₁ hT
  obtain ⟨Lz0, X0, e0, N0⟩ := hT
  refine ⟨_, _, _, ⟨rfl, rfl⟩, ⟨_, X0, e0, N0⟩, fun t hr => ?_⟩
  show SP p e below s₁ (mkF m 231 #[x0, x1, x2, x3, x4, x5, vI lv, x7, vI cv, x9, x10, x11, x12, vR a0, x14, vI o, x16] []) _
  refine XS.iload X0.here hx rfl (hb hby at_231) rfl ?_
  refine XS.iconst X0.here hx rfl (hb hby at_233) ?_
  refine XS.icmpYes X0.here hx rfl (pc0 := 234) (pc' := 251) rfl (hb hby at_234) rfl (tlt hc0).1 (by decide) (by decide) ?_
  exact hr
set_option maxRecDepth 65536 in
set_option maxHeartbeats 40000000 in
theorem sgS1f (l : Launch) (Z : State) (az : Array Value) (hw : HW Z az) {p : Program} {e : Env} {s : State} {m : MethodId} {args : Array Value} {below : List Frame} {meth : Method} {c : Code} (hx : p.tables.exec = Jvm.exec) (hby : c.code = code) (hml : c.maxLocals = 17) (hown : s.vm.findClass cLW = some m.cls) (hZ : Z.Warmed39 s.vm) (x0 : Slot) (x1 : Slot) (x2 : Slot) (x3 : Slot) (x4 : Slot) (x5 : Slot) (lv : Int32) (x7 : Slot) (cv : Int32) (x9 : Slot) (x10 : Slot) (x11 : Slot) (x12 : Slot) (a0 : Addr) (x14 : Slot) (o : Int32) (x16 : Slot) (sC : Int32) (vF : Value) (aM : Addr) (kaM : ClassId) (nM : Int32) (fM : Nat → Value) (cw : Int32) (h0 : Heap) (n0 : Nat) (Z0 : n0 ≤ h0.size) (S_COMPACT_STRINGS : Sta Z h0 cST "COMPACT_STRINGS" "Z" (.int sC)) (hc1 : ¬ (sC = (0 : Int32))) (S_SIOOBE_FORMATTER : Sta Z h0 "jdk/internal/util/Preconditions" "SIOOBE_FORMATTER" "Ljava/util/function/BiFunction;" vF) (hc3 : own_isR vF) (E_a0 : Exa Z h0 a0 cST) (F_coder_a0 : Fld Z h0 a0 cST "coder" "B" (.int (0 : Int32))) (F_value_a0 : Fld Z h0 a0 cST "value" "[B" (.ref aM)) (V_aM : own_Arf Z h0 aM kaM .byte nM fM) (E_aM : Exa Z h0 aM "[B") (hc9 : ¬ (lv < (2 : Int32))) (hc10 : ¬ ((o + (1 : Int32)) < (0 : Int32))) (hc11 : (o + (1 : Int32)) < nM) (hc12 : fM ((o + (1 : Int32))).toNatClampNeg = (.int cw)) (hc13 : nar .char (own_ch cw) = (own_ch cw)) (hc14 : (own_ch cw) = cv) :
    own_Seg p l e room_1 s m args below meth c n0 22 3206 22 3206 h0 (mkF m 231 #[x0, x1, x2, x3, x4, x5, vI lv, x7, vI cv, x9, x10, x11, x12, vR a0, x14, vI o, x16] []) (fun h g => g = (mkF m 251 #[x0, x1, x2, x3, x4, x5, vI lv, x7, vI cv, x9, x10, x11, x12, vR a0, x14, vI o, x16] []) ∧ h = h0) := by
  intro s₁ hT
  obtain ⟨Lz0, X0, e0, N0⟩ := hT
  obtain ⟨cq1, kq1, q1a, q1b, q1c⟩ := isOf hZ e0 E_a0
  obtain ⟨_, _, ⟨T1, L1, k1', n1'⟩, -, X1, ⟨Lc1, hQ1, l1, y1, z1⟩, st1⟩ := X0.virtualBack hx (y := (⟨cST, "charAt", "(I)C"⟩ : MethodName)) (z := (⟨cST, "charAt", "(I)C"⟩ : MethodName)) hown (mvT hZ (w242 hw)) (mvT hZ (w243 hw)) (notFace_of_selects (args := #[]) (mvT hZ (w245 hw))) (mvT hZ (w245 hw)) (mvT hZ (w244 hw)) (by decide) (backOf (W := 0) (rm39 l Z az hw [] a0 (o + (1 : Int32)) sC vF aM kaM nM fM cw h0 n0 Z0 S_COMPACT_STRINGS hc1 S_SIOOBE_FORMATTER hc3 E_a0 F_coder_a0 F_value_a0 V_aM E_aM hc10 hc11 hc12 hc13) hZ (w246 hw) (w6 hw) (by decide) (by decide)) q1a q1c (g := (mkF m 243 #[x0, x1, x2, x3, x4, x5, vI lv, x7, vI cv, x9, x10, x11, x12, vR a0, x14, vI o, x16] [(.int (o + (1 : Int32))), (.ref a0)])) rfl (by rw [hml]; rfl) (Steps.refl _) (argsL := [(.int (o + (1 : Int32)))]) (rest := []) (lenOf pd_28 rfl) rfl (Nat.le_of_eq rfl) (hb hby at_243) (fun _ _ => ⟨rfl, e0, (by decide : 22 + 0 ≤ _), (by decide : 3206 + 0 ≤ _)⟩)
  dsimp only [Pt.U, Pt.locs, Pt.cells, Pt.slots] at X1 l1 y1 z1 st1 hQ1
  subst l1 y1 z1
  obtain ⟨rfl, N1q, e1⟩ := hQ1
  obtain ⟨Lg1, X1', N1⟩ := own_gen X1 (Fr.app N0 N1q)
  refine ⟨_, _, _, ⟨rfl, rfl⟩, ⟨_, X1', e1, N1⟩, fun t hr => ?_⟩
  show SP p e below s₁ (mkF m 231 #[x0, x1, x2, x3, x4, x5, vI lv, x7, vI cv, x9, x10, x11, x12, vR a0, x14, vI o, x16] []) _
  refine XS.iload X0.here hx rfl (hb hby at_231) rfl ?_
  refine XS.iconst X0.here hx rfl (hb hby at_233) ?_
  refine XS.icmpNo X0.here hx rfl (hb hby at_234) rfl (flt hc9).1 ?_
  refine XS.aload X0.here hx rfl (hb hby at_237) rfl rfl ?_
  refine XS.iload X0.here hx rfl (hb hby at_239) rfl ?_
  refine XS.iconst X0.here hx rfl (hb hby at_241) ?_
  refine XS.iadd X0.here hx rfl (hb hby at_242) rfl ?_
  show SP p e below s₁ (mkF m 243 #[x0, x1, x2, x3, x4, x5, vI lv, x7, vI cv, x9, x10, x11, x12, vR a0, x14, vI o, x16] [(.int (o + (1 : Int32))), (.ref a0)]) _
  refine st1.trans ?_
  show SP p e below T1 (mkF m 246 #[x0, x1, x2, x3, x4, x5, vI lv, x7, vI cv, x9, x10, x11, x12, vR a0, x14, vI o, x16] [(.int (own_ch cw))]) _
  refine XS.iload X1'.here hx rfl (hb hby at_246) rfl ?_
  refine XS.icmpNo X1'.here hx rfl (hb hby at_248) rfl (teq hc14).2 ?_
  exact hr
set_option maxRecDepth 65536 in
set_option maxHeartbeats 40000000 in
theorem sgS1 (l : Launch) (Z : State) (az : Array Value) (hw : HW Z az) {p : Program} {e : Env} {s : State} {m : MethodId} {args : Array Value} {below : List Frame} {meth : Method} {c : Code} (hx : p.tables.exec = Jvm.exec) (hby : c.code = code) (hml : c.maxLocals = 17) (hown : s.vm.findClass cLW = some m.cls) (hZ : Z.Warmed39 s.vm) (x0 : Slot) (x1 : Slot) (x2 : Slot) (x3 : Slot) (x4 : Slot) (x5 : Slot) (lv : Int32) (x7 : Slot) (cv : Int32) (x9 : Slot) (x10 : Slot) (x11 : Slot) (x12 : Slot) (a0 : Addr) (x14 : Slot) (o : Int32) (x16 : Slot) (sC : Int32) (vF : Value) (aM : Addr) (kaM : ClassId) (nM : Int32) (fM : Nat → Value) (h0 : Heap) (n0 : Nat) (Z0 : n0 ≤ h0.size) (S_COMPACT_STRINGS : Sta Z h0 cST "COMPACT_STRINGS" "Z" (.int sC)) (hsC : ¬ (sC = (0 : Int32))) (S_SIOOBE_FORMATTER : Sta Z h0 "jdk/internal/util/Preconditions" "SIOOBE_FORMATTER" "Ljava/util/function/BiFunction;" vF) (hF : own_isR vF) (E_a0 : Exa Z h0 a0 cST) (F_coder_a0 : Fld Z h0 a0 cST "coder" "B" (.int (0 : Int32))) (F_value_a0 : Fld Z h0 a0 cST "value" "[B" (.ref aM)) (V_aM : own_Arf Z h0 aM kaM .byte nM fM) (E_aM : Exa Z h0 aM "[B") (hJ : ¬ (lv < (2 : Int32)) → own_Chr fM nM (o + (1 : Int32)) cv) :
    own_Seg p l e (⟨11, 48, 9088, 224⟩ : Room) s m args below meth c n0 22 3206 22 3206 h0 (mkF m 231 #[x0, x1, x2, x3, x4, x5, vI lv, x7, vI cv, x9, x10, x11, x12, vR a0, x14, vI o, x16] []) (fun h g => g = (mkF m 251 #[x0, x1, x2, x3, x4, x5, vI lv, x7, vI cv, x9, x10, x11, x12, vR a0, x14, vI o, x16] []) ∧ h = h0) := by
  by_cases hq : lv < (2 : Int32)
  · exact sgS1t l Z az hw hx hby hml hown hZ x0 x1 x2 x3 x4 x5 lv x7 cv x9 x10 x11 x12 a0 x14 o x16 h0 n0 Z0 hq
  · obtain ⟨j1, j2, cw, j3, j4, j5⟩ := hJ hq
    exact sgS1f l Z az hw hx hby hml hown hZ x0 x1 x2 x3 x4 x5 lv x7 cv x9 x10 x11 x12 a0 x14 o x16 sC vF aM kaM nM fM cw h0 n0 Z0 S_COMPACT_STRINGS hsC S_SIOOBE_FORMATTER hF E_a0 F_coder_a0 F_value_a0 V_aM E_aM hq j1 j2 j3 j4 j5
set_option maxRecDepth 65536 in
set_option maxHeartbeats 40000000 in
theorem sgS2t (l : Launch) (Z : State) (az : Array Value) (hw : HW Z az) {p : Program} {e : Env} {s : State} {m : MethodId} {args : Array Value} {below : List Frame} {meth : Method} {c : Code} (hx : p.tables.exec = Jvm.exec) (hby : c.code = code) (hml : c.maxLocals = 17) (hown : s.vm.findClass cLW = some m.cls) (hZ : Z.Warmed39 s.vm) (x0 : Slot) (x1 : Slot) (x2 : Slot) (x3 : Slot) (x4 : Slot) (x5 : Slot) (lv : Int32) (x7 : Slot) (x8 : Slot) (cv : Int32) (x10 : Slot) (x11 : Slot) (x12 : Slot) (a0 : Addr) (x14 : Slot) (o : Int32) (x16 : Slot) (h0 : Heap) (n0 : Nat) (Z0 : n0 ≤ h0.size) (hc0 : lv < (3 : Int32)) :
    own_Seg p l e room_1 s m args below meth c n0 22 3206 22 3206 h0 (mkF m 251 #[x0, x1, x2, x3, x4, x5, vI lv, x7, x8, vI cv, x10, x11, x12, vR a0, x14, vI o, x16] []) (fun h g => g = (mkF m 271 #[x0, x1, x2, x3, x4, x5, vI lv, x7, x8, vI cv, x10, x11, x12, vR a0, x14, vI o, x16] []) ∧ h = h0) := by
  intro s₁ hT
  obtain ⟨Lz0, X0, e0, N0⟩ := hT
  refine ⟨_, _, _, ⟨rfl, rfl⟩, ⟨_, X0, e0, N0⟩, fun t hr => ?_⟩
  show SP p e below s₁ (mkF m 251 #[x0, x1, x2, x3, x4, x5, vI lv, x7, x8, vI cv, x10, x11, x12, vR a0, x14, vI o, x16] []) _
  refine XS.iload X0.here hx rfl (hb hby at_251) rfl ?_
  refine XS.iconst X0.here hx rfl (hb hby at_253) ?_
  refine XS.icmpYes X0.here hx rfl (pc0 := 254) (pc' := 271) rfl (hb hby at_254) rfl (tlt hc0).1 (by decide) (by decide) ?_
  exact hr
set_option maxRecDepth 65536 in
set_option maxHeartbeats 40000000 in
theorem sgS2f (l : Launch) (Z : State) (az : Array Value) (hw : HW Z az) {p : Program} {e : Env} {s : State} {m : MethodId} {args : Array Value} {below : List Frame} {meth : Method} {c : Code} (hx : p.tables.exec = Jvm.exec) (hby : c.code = code) (hml : c.maxLocals = 17) (hown : s.vm.findClass cLW = some m.cls) (hZ : Z.Warmed39 s.vm) (x0 : Slot) (x1 : Slot) (x2 : Slot) (x3 : Slot) (x4 : Slot) (x5 : Slot) (lv : Int32) (x7 : Slot) (x8 : Slot) (cv : Int32) (x10 : Slot) (x11 : Slot) (x12 : Slot) (a0 : Addr) (x14 : Slot) (o : Int32) (x16 : Slot) (sC : Int32) (vF : Value) (aM : Addr) (kaM : ClassId) (nM : Int32) (fM : Nat → Value) (cw : Int32) (h0 : Heap) (n0 : Nat) (Z0 : n0 ≤ h0.size) (S_COMPACT_STRINGS : Sta Z h0 cST "COMPACT_STRINGS" "Z" (.int sC)) (hc1 : ¬ (sC = (0 : Int32))) (S_SIOOBE_FORMATTER : Sta Z h0 "jdk/internal/util/Preconditions" "SIOOBE_FORMATTER" "Ljava/util/function/BiFunction;" vF) (hc3 : own_isR vF) (E_a0 : Exa Z h0 a0 cST) (F_coder_a0 : Fld Z h0 a0 cST "coder" "B" (.int (0 : Int32))) (F_value_a0 : Fld Z h0 a0 cST "value" "[B" (.ref aM)) (V_aM : own_Arf Z h0 aM kaM .byte nM fM) (E_aM : Exa Z h0 aM "[B") (hc9 : ¬ (lv < (3 : Int32))) (hc10 : ¬ ((o + (2 : Int32)) < (0 : Int32))) (hc11 : (o + (2 : Int32)) < nM) (hc12 : fM ((o + (2 : Int32))).toNatClampNeg = (.int cw)) (hc13 : nar .char (own_ch cw) = (own_ch cw)) (hc14 : (own_ch cw) = cv) :
    own_Seg p l e room_1 s m args below meth c n0 22 3206 22 3206 h0 (mkF m 251 #[x0, x1, x2, x3, x4, x5, vI lv, x7, x8, vI cv, x10, x11, x12, vR a0, x14, vI o, x16] []) (fun h g => g = (mkF m 271 #[x0, x1, x2, x3, x4, x5, vI lv, x7, x8, vI cv, x10, x11, x12, vR a0, x14, vI o, x16] []) ∧ h = h0) := by
  intro s₁ hT
  obtain ⟨Lz0, X0, e0, N0⟩ := hT
  obtain ⟨cq1, kq1, q1a, q1b, q1c⟩ := isOf hZ e0 E_a0
  obtain ⟨_, _, ⟨T1, L1, k1', n1'⟩, -, X1, ⟨Lc1, hQ1, l1, y1, z1⟩, st1⟩ := X0.virtualBack hx (y := (⟨cST, "charAt", "(I)C"⟩ : MethodName)) (z := (⟨cST, "charAt", "(I)C"⟩ : MethodName)) hown (mvT hZ (w242 hw)) (mvT hZ (w243 hw)) (notFace_of_selects (args := #[]) (mvT hZ (w245 hw))) (mvT hZ (w245 hw)) (mvT hZ (w244 hw)) (by decide) (backOf (W := 0) (rm39 l Z az hw [] a0 (o + (2 : Int32)) sC vF aM kaM nM fM cw h0 n0 Z0 S_COMPACT_STRINGS hc1 S_SIOOBE_FORMATTER hc3 E_a0 F_coder_a0 F_value_a0 V_aM E_aM hc10 hc11 hc12 hc13) hZ (w246 hw) (w6 hw) (by decide) (by decide)) q1a q1c (g := (mkF m 263 #[x0, x1, x2, x3, x4, x5, vI lv, x7, x8, vI cv, x10, x11, x12, vR a0, x14, vI o, x16] [(.int (o + (2 : Int32))), (.ref a0)])) rfl (by rw [hml]; rfl) (Steps.refl _) (argsL := [(.int (o + (2 : Int32)))]) (rest := []) (lenOf pd_28 rfl) rfl (Nat.le_of_eq rfl) (hb hby at_263) (fun _ _ => ⟨rfl, e0, (by decide : 22 + 0 ≤ _), (by decide : 3206 + 0 ≤ _)⟩)
  dsimp only [Pt.U, Pt.locs, Pt.cells, Pt.slots] at X1 l1 y1 z1 st1 hQ1
  subst l1 y1 z1
  obtain ⟨rfl, N1q, e1⟩ := hQ1
  obtain ⟨Lg1, X1', N1⟩ := own_gen X1 (Fr.app N0 N1q)
  refine ⟨_, _, _, ⟨rfl, rfl⟩, ⟨_, X1', e1, N1⟩, fun t hr => ?_⟩
  show SP p e below s₁ (mkF m 251 #[x0, x1, x2, x3, x4, x5, vI lv, x7, x8, vI cv, x10, x11, x12, vR a0, x14, vI o, x16] []) _
  refine XS.iload X0.here hx rfl (hb hby at_251) rfl ?_
  refine XS.iconst X0.here hx rfl (hb hby at_253) ?_
  refine XS.icmpNo X0.here hx rfl (hb hby at_254) rfl (flt hc9).1 ?_
  refine XS.aload X0.here hx rfl (hb hby at_257) rfl rfl ?_
  refine XS.iload X0.here hx rfl (hb hby at_259) rfl ?_
  refine XS.iconst X0.here hx rfl (hb hby at_261) ?_
  refine XS.iadd X0.here hx rfl (hb hby at_262) rfl ?_
  show SP p e below s₁ (mkF m 263 #[x0, x1, x2, x3, x4, x5, vI lv, x7, x8, vI cv, x10, x11, x12, vR a0, x14, vI o, x16] [(.int (o + (2 : Int32))), (.ref a0)]) _
  refine st1.trans ?_
  show SP p e below T1 (mkF m 266 #[x0, x1, x2, x3, x4, x5, vI lv, x7, x8, vI cv, x10, x11, x12, vR a0, x14, vI o, x16] [(.int (own_ch cw))]) _
  refine XS.iload X1'.here hx rfl (hb hby at_266) rfl ?_
  refine XS.icmpNo X1'.here hx rfl (hb hby at_268) rfl (teq hc14).2 ?_
  exact hr
set_option maxRecDepth 65536 in
set_option maxHeartbeats 40000000 in
theorem sgS2 (l : Launch) (Z : State) (az : Array Value) (hw : HW Z az) {p : Program} {e : Env} {s : State} {m : MethodId} {args : Array Value} {below : List Frame} {meth : Method} {c : Code} (hx : p.tables.exec = Jvm.exec) (hby : c.code = code) (hml : c.maxLocals = 17) (hown : s.vm.findClass cLW = some m.cls) (hZ : Z.Warmed39 s.vm) (x0 : Slot) (x1 : Slot) (x2 : Slot) (x3 : Slot) (x4 : Slot) (x5 : Slot) (lv : Int32) (x7 : Slot) (x8 : Slot) (cv : Int32) (x10 : Slot) (x11 : Slot) (x12 : Slot) (a0 : Addr) (x14 : Slot) (o : Int32) (x16 : Slot) (sC : Int32) (vF : Value) (aM : Addr) (kaM : ClassId) (nM : Int32) (fM : Nat → Value) (h0 : Heap) (n0 : Nat) (Z0 : n0 ≤ h0.size) (S_COMPACT_STRINGS : Sta Z h0 cST "COMPACT_STRINGS" "Z" (.int sC)) (hsC : ¬ (sC = (0 : Int32))) (S_SIOOBE_FORMATTER : Sta Z h0 "jdk/internal/util/Preconditions" "SIOOBE_FORMATTER" "Ljava/util/function/BiFunction;" vF) (hF : own_isR vF) (E_a0 : Exa Z h0 a0 cST) (F_coder_a0 : Fld Z h0 a0 cST "coder" "B" (.int (0 : Int32))) (F_value_a0 : Fld Z h0 a0 cST "value" "[B" (.ref aM)) (V_aM : own_Arf Z h0 aM kaM .byte nM fM) (E_aM : Exa Z h0 aM "[B") (hJ : ¬ (lv < (3 : Int32)) → own_Chr fM nM (o + (2 : Int32)) cv) :
    own_Seg p l e (⟨11, 48, 9088, 224⟩ : Room) s m args below meth c n0 22 3206 22 3206 h0 (mkF m 251 #[x0, x1, x2, x3, x4, x5, vI lv, x7, x8, vI cv, x10, x11, x12, vR a0, x14, vI o, x16] []) (fun h g => g = (mkF m 271 #[x0, x1, x2, x3, x4, x5, vI lv, x7, x8, vI cv, x10, x11, x12, vR a0, x14, vI o, x16] []) ∧ h = h0) := by
  by_cases hq : lv < (3 : Int32)
  · exact sgS2t l Z az hw hx hby hml hown hZ x0 x1 x2 x3 x4 x5 lv x7 x8 cv x10 x11 x12 a0 x14 o x16 h0 n0 Z0 hq
  · obtain ⟨j1, j2, cw, j3, j4, j5⟩ := hJ hq
    exact sgS2f l Z az hw hx hby hml hown hZ x0 x1 x2 x3 x4 x5 lv x7 x8 cv x10 x11 x12 a0 x14 o x16 sC vF aM kaM nM fM cw h0 n0 Z0 S_COMPACT_STRINGS hsC S_SIOOBE_FORMATTER hF E_a0 F_coder_a0 F_value_a0 V_aM E_aM hq j1 j2 j3 j4 j5
def own_l (x : Int32) : Int32 := (((x.toUInt32 >>> ((24 : Int32) &&& 31).toUInt32).toInt32) &&& (3 : Int32))
def own_c0 (x : Int32) : Int32 := ((x &&& (255 : Int32)).toUInt32.toUInt16.toUInt32.toInt32)
def own_c1 (x : Int32) : Int32 := ((((x.toUInt32 >>> ((8 : Int32) &&& 31).toUInt32).toInt32) &&& (255 : Int32)).toUInt32.toUInt16.toUInt32.toInt32)
def own_c2 (x : Int32) : Int32 := ((((x.toUInt32 >>> ((16 : Int32) &&& 31).toUInt32).toInt32) &&& (255 : Int32)).toUInt32.toUInt16.toUInt32.toInt32)
theorem pd_30 : parseMethodDescriptor "(ICCC)Ljava/lang/String;" = some ⟨[.int, .char, .char, .char], some (.object "java/lang/String")⟩ := by decide +kernel
theorem pd_31 : parseMethodDescriptor "(Ljava/lang/String;Ljava/lang/String;)Lcom/example/key_lease/keylease/store/StoreException;" = some ⟨[(.object "java/lang/String"), (.object "java/lang/String")], some (.object "com/example/key_lease/keylease/store/StoreException")⟩ := by decide +kernel
theorem pd_32 : parseMethodDescriptor "()Ljava/lang/Throwable;" = some ⟨[], some (.object "java/lang/Throwable")⟩ := by decide +kernel
theorem pd_33 : parseMethodDescriptor "(Ljava/lang/String;I)Z" = some ⟨[(.object "java/lang/String"), .int], some .boolean⟩ := by decide +kernel
theorem ef_rm0 (m : MethodId) (p0 : Int32) (p1 : Int32) : entryFrame m #[(.int p0), (.int p1)] maxLocals = mkF m 0 #[vI p0, vI p1, .unset, .unset, .unset, .unset, .unset, .unset, .unset, .unset, .unset, .unset, .unset, .unset, .unset, .unset, .unset] [] := by first | (simp [entryFrame, mkF, argsToLocals, Value.category, maxLocals]; done) | rfl
def Q0 (Z : State) (p0 : Int32) (p1 : Int32) (sC : Int32) (vF : Value) (uA : Addr) (uB : Addr) (h0 : Heap) (n0 : Nat) (v : Option Value) (h : Heap) (L : List Loc) : Prop := v = some (.int (1 : Int32)) ∧ Fr n0 L
set_option maxRecDepth 65536 in
set_option maxHeartbeats 40000000 in
theorem rm0 (l : Launch) (Z : State) (az : Array Value) (hw : HW Z az) (ws : List Jvm.Cond) (p0 : Int32) (p1 : Int32) (sC : Int32) (vF : Value) (uA : Addr) (uB : Addr) (h0 : Heap) (n0 : Nat) (Z0 : n0 ≤ h0.size) (S_COMPACT_STRINGS : Sta Z h0 cST "COMPACT_STRINGS" "Z" (.int sC)) (hc1 : ¬ (sC = (0 : Int32))) (S_SIOOBE_FORMATTER : Sta Z h0 "jdk/internal/util/Preconditions" "SIOOBE_FORMATTER" "Ljava/util/function/BiFunction;" vF) (hc3 : own_isR vF) (T_x : ThS Z h0) (S_UNASSIGNED_STACK : Sta Z h0 cTN "UNASSIGNED_STACK" "[Ljava/lang/StackTraceElement;" (.ref uA)) (S_SUPPRESSED_SENTINEL : Sta Z h0 cTN "SUPPRESSED_SENTINEL" "Ljava/util/List;" (.ref uB)) (hc7 : own_n3 (own_l p0)) (hc8 : nar .char (own_c0 p0) = (own_c0 p0)) (hc9 : ¬ ((255 : Int32) < (own_c0 p0))) (hc10 : nar .char (own_c1 p0) = (own_c1 p0)) (hc11 : ¬ ((255 : Int32) < (own_c1 p0))) (hc12 : nar .char (own_c2 p0) = (own_c2 p0)) (hc13 : ¬ ((255 : Int32) < (own_c2 p0))) (hc14 : own_n3 (own_l p1)) (hc15 : nar .char (own_c0 p1) = (own_c0 p1)) (hc16 : ¬ ((255 : Int32) < (own_c0 p1))) (hc17 : nar .char (own_c1 p1) = (own_c1 p1)) (hc18 : ¬ ((255 : Int32) < (own_c1 p1))) (hc19 : nar .char (own_c2 p1) = (own_c2 p1)) (hc20 : ¬ ((255 : Int32) < (own_c2 p1))) (hc21 : l.stackTraces = true) (hc22 : ¬ ((own_l p0) < (1 : Int32)) → own_Chr (own_msg (own_sf (own_c0 p0) (own_c1 p0) (own_c2 p0)) (own_l p0) (own_sf (own_c0 p1) (own_c1 p1) (own_c2 p1))) (((own_l p0) + (35 : Int32)) + (own_l p1)) (0 : Int32) (own_c0 p0)) (hc23 : ¬ ((own_l p0) < (2 : Int32)) → own_Chr (own_msg (own_sf (own_c0 p0) (own_c1 p0) (own_c2 p0)) (own_l p0) (own_sf (own_c0 p1) (own_c1 p1) (own_c2 p1))) (((own_l p0) + (35 : Int32)) + (own_l p1)) (1 : Int32) (own_c1 p0)) (hc24 : ¬ ((own_l p0) < (3 : Int32)) → own_Chr (own_msg (own_sf (own_c0 p0) (own_c1 p0) (own_c2 p0)) (own_l p0) (own_sf (own_c0 p1) (own_c1 p1) (own_c2 p1))) (((own_l p0) + (35 : Int32)) + (own_l p1)) (2 : Int32) (own_c2 p0)) (hc25 : ¬ ((own_l p1) < (1 : Int32)) → own_Chr (own_msg (own_sf (own_c0 p0) (own_c1 p0) (own_c2 p0)) (own_l p0) (own_sf (own_c0 p1) (own_c1 p1) (own_c2 p1))) (((own_l p0) + (35 : Int32)) + (own_l p1)) ((own_l p0) + (35 : Int32)) (own_c0 p1)) (hc26 : ¬ ((own_l p1) < (2 : Int32)) → own_Chr (own_msg (own_sf (own_c0 p0) (own_c1 p0) (own_c2 p0)) (own_l p0) (own_sf (own_c0 p1) (own_c1 p1) (own_c2 p1))) (((own_l p0) + (35 : Int32)) + (own_l p1)) (((own_l p0) + (35 : Int32)) + (1 : Int32)) (own_c1 p1)) (hc27 : ¬ ((own_l p1) < (3 : Int32)) → own_Chr (own_msg (own_sf (own_c0 p0) (own_c1 p0) (own_c2 p0)) (own_l p0) (own_sf (own_c0 p1) (own_c1 p1) (own_c2 p1))) (((own_l p0) + (35 : Int32)) + (own_l p1)) (((own_l p0) + (35 : Int32)) + (2 : Int32)) (own_c2 p1)) (hc28 : own_Mid (own_msg (own_sf (own_c0 p0) (own_c1 p0) (own_c2 p0)) (own_l p0) (own_sf (own_c0 p1) (own_c1 p1) (own_c2 p1))) (((own_l p0) + (35 : Int32)) + (own_l p1)) (own_l p0)) :
    MetFree l x (head1 (Jvm.Cond.code x code maxLocals ret :: ws) room_1) (fun a U => a = #[(.int p0), (.int p1)] ∧ Z.Warmed39 U.vm ∧ U.heap = h0 ∧ CHv Z [(cWN, 36), (cLW, 46), (cST, 7)] U.vm h0) (fun _ _ bl s _ => s.vm.MethodsKnown ∧ s.vm.FramesKnown bl) (fun _ U o U' => ∃ v L, o = .returned v ∧ Q0 Z p0 p1 sC vF uA uB h0 n0 v U'.heap L ∧ ReturnedEndW U o U' L room_1.cells room_1.slots) := by
  refine MetFree.of_bodySF (plainFor_of_name pn_com_example_key_lease_keylease_store_WatchedNameClosedStorePinLaw) hisR ?_
  intro p e s m args below meth c s₁ Bd hml0 hP hK
  obtain ⟨rfl, hZ, hh, hCH⟩ := hP
  have hx := Bd.exec
  have hby := Bd.bytes
  have hml : c.maxLocals = 17 := hml0
  have hown : s.vm.findClass cLW = some m.cls := findClass_of_methodNamed Bd.named
  have hnm := (name_of_methodNamed Bd.named Bd.method).1
  have X0 : Stand p l e room_1 s m #[(.int p0), (.int p1)] below meth c s₁ [] 0 0 := Stand.of_body Bd
  have e0 : s₁.heap = h0 := by rw [← hh, Bd.state]; rfl
  have N0 := Fr.nil n0
  have pre0 : ∀ t, Steps p.tables e below (s₁.setTop (mkF m 0 #[vI p0, vI p1, .unset, .unset, .unset, .unset, .unset, .unset, .unset, .unset, .unset, .unset, .unset, .unset, .unset, .unset, .unset] [])) t → Steps p.tables e below (s₁.setTop (entryFrame m #[(.int p0), (.int p1)] maxLocals)) t := fun t k => castTop (ef_rm0 m p0 p1) k
  have hZo := hZ
  have hEW : EW Z az [(cWN, 36), (cLW, 46), (cST, 7)] := (EW.cons (hw _ (mg 99 rfl)) (by decide) (EW.cons (hw _ (mg 238 rfl)) (by decide) (EW.cons (hw _ (mg 18 rfl)) (by decide) EW.nil)))
  obtain ⟨hTK, hBelow⟩ := hK
  have hS0 : s.Since s.vm 0 := (State.WarmedH.refl s).since 0
  have wS : ∀ a ∈ Bundle.stringAtoms, a.before az Z = true := fun d hd => by
    simp only [Bundle.stringAtoms, List.mem_cons, List.not_mem_nil, or_false] at hd
    rcases hd with rfl | rfl | rfl | rfl | rfl | rfl | rfl
    · exact (hw _ (mg 6 rfl))
    · exact (hw _ (mg 5 rfl))
    · exact (hw _ (mg 19 rfl))
    · exact (hw _ (mg 20 rfl))
    · exact (hw _ (mg 21 rfl))
    · exact (hw _ (mg 22 rfl))
    · exact (hw _ (mg 23 rfl))
  have rh0 := CHr.refl hCH
  obtain ⟨_, _, ⟨T1, L1, k1', n1'⟩, -, Y1, yS1, yg1, ⟨Lc1, hQ1, l1, y1, z1, ch1⟩, st1⟩ := callSS X0 hx (y := (⟨cLW, "str", "(ICCC)Ljava/lang/String;"⟩ : MethodName)) hown (mvT hZ (w0 hw)) (mvT hZ (w1 hw)) (mvT hZ (w2 hw)) (mvT hZ (w3 hw)) (by decide) (backOfSH (W := 0) (rmSTR l Z az hw [] (own_l p0) (own_c0 p0) (own_c1 p0) (own_c2 p0) sC h0 n0 Z0 S_COMPACT_STRINGS hc1 hc7 hc8 hc9 hc10 hc11 hc12 hc13) hZ (w3 hw) (w2 hw) (by decide) (by decide) hEW rh0.1) (g := (mkF m 80 #[vI p0, vI p1, vI (own_l p0), vI (own_c0 p0), vI (own_c1 p0), vI (own_c2 p0), vI (own_l p1), vI (own_c0 p1), vI (own_c1 p1), vI (own_c2 p1), .unset, .unset, .unset, .unset, .unset, .unset, .unset] [(.int (own_c2 p0)), (.int (own_c1 p0)), (.int (own_c0 p0)), (.int (own_l p0))])) rfl (by rw [hml]; rfl) (argsL := [(.int (own_l p0)), (.int (own_c0 p0)), (.int (own_c1 p0)), (.int (own_c2 p0))]) (rest := []) (lenOf pd_30 rfl) rfl (Nat.le_of_eq rfl) (hb hby at_80) (fun _ _ => ⟨rfl, e0, (by decide : 0 + 6 ≤ _), (by decide : 0 + 20 ≤ _)⟩)
  dsimp only [Pt.U, Pt.locs, Pt.cells, Pt.slots] at Y1 yS1 yg1 l1 y1 z1 st1 hQ1 ch1
  subst l1 y1 z1
  obtain ⟨X1, hS1, hZ1, hown1⟩ := rebS (s := s) (vm0 := s.vm) hS0 (by rw [e0]; exact (Nat.zero_le _)) Y1 yS1 yg1 hZ hown
  obtain ⟨b1_0, kk1_0, x1_0, rfl, N1q, s1_0, kq1, pf1_0, pf1_1, pf1_2, pf1_3, pf1_4⟩ := hQ1
  obtain ⟨Lg1, X1', N1⟩ := own_gen X1 (Fr.app N0 N1q)
  have g_b1_0 : n0 ≤ b1_0 := Nat.le_trans Z0 s1_0
  have sz_b1_0 : h0.size ≤ b1_0 := Nat.le_trans (Nat.le_refl _) s1_0
  have K1 : Keep h0 T1.heap [] := (Keep.refl h0 []).trans kq1 all0
  have Z1 : n0 ≤ T1.heap.size := Nat.le_trans Z0 kq1.1
  have rh2 := rh0.trans ch1
  have S_String_COMPACT_STRINGS_u4 : Sta Z T1.heap cST "COMPACT_STRINGS" "Z" (.int sC) := (own_Sta S_COMPACT_STRINGS kq1 (fun _ m => nomatch m))
  obtain ⟨_, _, ⟨T3, L3, k3', n3'⟩, -, Y3, yS3, yg3, ⟨Lc3, hQ3, l3, y3, z3, ch3⟩, st3⟩ := callSS X1' hx (y := (⟨cLW, "str", "(ICCC)Ljava/lang/String;"⟩ : MethodName)) hown1 (mvT hZ1 (w0 hw)) (mvT hZ1 (w1 hw)) (mvT hZ1 (w2 hw)) (mvT hZ1 (w3 hw)) (by decide) (backOfSH (W := 0) (rmSTR l Z az hw [] (own_l p1) (own_c0 p1) (own_c1 p1) (own_c2 p1) sC T1.heap n0 Z1 S_String_COMPACT_STRINGS_u4 hc1 hc14 hc15 hc16 hc17 hc18 hc19 hc20) hZ1 (w3 hw) (w2 hw) (by decide) (by decide) hEW rh2.1) (g := (mkF m 93 #[vI p0, vI p1, vI (own_l p0), vI (own_c0 p0), vI (own_c1 p0), vI (own_c2 p0), vI (own_l p1), vI (own_c0 p1), vI (own_c1 p1), vI (own_c2 p1), vR b1_0, .unset, .unset, .unset, .unset, .unset, .unset] [(.int (own_c2 p1)), (.int (own_c1 p1)), (.int (own_c0 p1)), (.int (own_l p1))])) rfl (by rw [hml]; rfl) (argsL := [(.int (own_l p1)), (.int (own_c0 p1)), (.int (own_c1 p1)), (.int (own_c2 p1))]) (rest := []) (lenOf pd_30 rfl) rfl (Nat.le_of_eq rfl) (hb hby at_93) (fun _ _ => ⟨rfl, rfl, (by decide : 6 + 6 ≤ _), (by decide : 20 + 20 ≤ _)⟩)
  dsimp only [Pt.U, Pt.locs, Pt.cells, Pt.slots] at Y3 yS3 yg3 l3 y3 z3 st3 hQ3 ch3
  subst l3 y3 z3
  obtain ⟨X3, hS3, hZ3, hown3⟩ := rebS (s := s) (vm0 := T1.vm) hS1 (Nat.le_refl _) Y3 yS3 yg3 hZ1 hown1
  obtain ⟨b3_0, kk3_0, x3_0, rfl, N3q, s3_0, kq3, pf3_0, pf3_1, pf3_2, pf3_3, pf3_4⟩ := hQ3
  obtain ⟨Lg3, X3', N3⟩ := own_gen X3 (Fr.app N1 N3q)
  have g_b3_0 : n0 ≤ b3_0 := Nat.le_trans Z1 s3_0
  have sz_b3_0 : h0.size ≤ b3_0 := Nat.le_trans K1.1 s3_0
  have K3 : Keep h0 T3.heap [] := K1.trans kq3 all0
  have Z3 : n0 ≤ T3.heap.size := Nat.le_trans Z1 kq3.1
  have rh5 := rh2.trans ch3
  have S_String_COMPACT_STRINGS_u7 : Sta Z T3.heap cST "COMPACT_STRINGS" "Z" (.int sC) := (own_Sta S_String_COMPACT_STRINGS_u4 kq3 (fun _ m => nomatch m))
  have E_b1_0_u8 : Exa Z T3.heap b1_0 cST := (pf1_0.keep kq3)
  have F_b1_0_coder_u9 : Fld Z T3.heap b1_0 cST "coder" "B" (.int (0 : Int32)) := (pf1_2.keep kq3 nin0)
  have F_b1_0_value_u10 : Fld Z T3.heap b1_0 cST "value" "[B" (.ref x1_0) := (pf1_1.keep kq3 nin0)
  have V_x1_0_u11 : own_Arf Z T3.heap x1_0 kk1_0 .byte (own_l p0) (own_sf (own_c0 p0) (own_c1 p0) (own_c2 p0)) := (pf1_3.keep kq3 nin0)
  have E_x1_0_u12 : Exa Z T3.heap x1_0 "[B" := (pf1_4.keep kq3)
  have T_x_u13 : ThS Z T3.heap := (ThS.keep kq3 (fun _ m => nomatch m) (ThS.keep kq1 (fun _ m => nomatch m) T_x))
  have S_Throwable_UNASSIGNED_STACK_u14 : Sta Z T3.heap cTN "UNASSIGNED_STACK" "[Ljava/lang/StackTraceElement;" (.ref uA) := (own_Sta (own_Sta S_UNASSIGNED_STACK kq1 (fun _ m => nomatch m)) kq3 (fun _ m => nomatch m))
  have S_Throwable_SUPPRESSED_SENTINEL_u15 : Sta Z T3.heap cTN "SUPPRESSED_SENTINEL" "Ljava/util/List;" (.ref uB) := (own_Sta (own_Sta S_SUPPRESSED_SENTINEL kq1 (fun _ m => nomatch m)) kq3 (fun _ m => nomatch m))
  obtain ⟨_, _, ⟨T6, L6, k6', n6'⟩, -, Y6, yS6, yg6, ⟨Lc6, hQ6, l6, y6, z6, ch6⟩, st6⟩ := callSS X3' hx (y := (⟨cWN, "closedStore", "(Ljava/lang/String;Ljava/lang/String;)Lcom/example/key_lease/keylease/store/StoreException;"⟩ : MethodName)) hown3 (mvT hZ3 (w26 hw)) (mvT hZ3 (w27 hw)) (mvT hZ3 (w28 hw)) (mvT hZ3 (w29 hw)) (by decide) (backOfSKH (W := 0) (rmCS l Z az hw [] b1_0 b3_0 sC x1_0 kk1_0 (own_l p0) (own_sf (own_c0 p0) (own_c1 p0) (own_c2 p0)) x3_0 kk3_0 (own_l p1) (own_sf (own_c0 p1) (own_c1 p1) (own_c2 p1)) uA uB T3.heap n0 Z3 S_String_COMPACT_STRINGS_u7 hc1 E_b1_0_u8 F_b1_0_coder_u9 F_b1_0_value_u10 V_x1_0_u11 E_x1_0_u12 pf3_0 pf3_2 pf3_1 pf3_3 pf3_4 T_x_u13 S_Throwable_UNASSIGNED_STACK_u14 S_Throwable_SUPPRESSED_SENTINEL_u15 hc7 hc14 hc21) hZ3 (w29 hw) (w28 hw) (by decide) (by decide) hEW rh5.1 (Jvm.Vm.MethodsKnown.alikeC hS3.1.alike hTK) (Jvm.Vm.FramesKnown.alikeC hS3.1.alike hBelow)) (g := (mkF m 102 #[vI p0, vI p1, vI (own_l p0), vI (own_c0 p0), vI (own_c1 p0), vI (own_c2 p0), vI (own_l p1), vI (own_c0 p1), vI (own_c1 p1), vI (own_c2 p1), vR b1_0, vR b3_0, .unset, .unset, .unset, .unset, .unset] [(.ref b3_0), (.ref b1_0)])) rfl (by rw [hml]; rfl) (argsL := [(.ref b1_0), (.ref b3_0)]) (rest := []) (lenOf pd_31 rfl) rfl (Nat.le_of_eq rfl) (hb hby at_102) (fun _ _ => ⟨rfl, rfl, (by decide : 12 + 10 ≤ _), (by decide : 40 + 3166 ≤ _)⟩)
  dsimp only [Pt.U, Pt.locs, Pt.cells, Pt.slots] at Y6 yS6 yg6 l6 y6 z6 st6 hQ6 ch6
  subst l6 y6 z6
  obtain ⟨X6, hS6, hZ6, hown6⟩ := rebS (s := s) (vm0 := T3.vm) hS3 (Nat.le_refl _) Y6 yS6 yg6 hZ3 hown3
  obtain ⟨b6_0, b6_1, b6_2, kk6_0, rfl, N6q, s6_0, lt_b6_0_b6_1, lt_b6_1_b6_2, kq6, pf6_0, pf6_1, pf6_2, pf6_3, pf6_4, pf6_5, pf6_6, pf6_7, pf6_8⟩ := hQ6
  obtain ⟨Lg6, X6', N6⟩ := own_gen X6 (Fr.app N3 N6q)
  have g_b6_0 : n0 ≤ b6_0 := Nat.le_trans Z3 s6_0
  have sz_b6_0 : h0.size ≤ b6_0 := Nat.le_trans K3.1 s6_0
  have g_b6_1 : n0 ≤ b6_1 := Nat.le_trans Z3 (Nat.le_trans s6_0 (Nat.le_of_lt lt_b6_0_b6_1))
  have sz_b6_1 : h0.size ≤ b6_1 := Nat.le_trans K3.1 (Nat.le_trans s6_0 (Nat.le_of_lt lt_b6_0_b6_1))
  have g_b6_2 : n0 ≤ b6_2 := Nat.le_trans Z3 (Nat.le_trans s6_0 (Nat.le_of_lt (Nat.lt_trans lt_b6_0_b6_1 lt_b6_1_b6_2)))
  have sz_b6_2 : h0.size ≤ b6_2 := Nat.le_trans K3.1 (Nat.le_trans s6_0 (Nat.le_of_lt (Nat.lt_trans lt_b6_0_b6_1 lt_b6_1_b6_2)))
  have K6 : Keep h0 T6.heap [] := K3.trans kq6 all0
  have Z6 : n0 ≤ T6.heap.size := Nat.le_trans Z3 kq6.1
  have rh16 := rh5.trans ch6
  obtain ⟨cq17, kq17, q17a, q17b, q17c⟩ := isOf hZ6 rfl pf6_0
  obtain ⟨v17, _, ⟨T17, L17, k17', n17'⟩, -, X17, hQ17, st17⟩ := X6'.virtualBackUp hx (x := (⟨cSX, "getCause", "()Ljava/lang/Throwable;"⟩ : MethodName)) (y := (⟨cTN, "getCause", "()Ljava/lang/Throwable;"⟩ : MethodName)) (owner := cTN) hown6 (mvT hZ6 (w222 hw)) (mvT hZ6 (w223 hw)) (mvT hZ6 (w224 hw)) (by decide) (mvT hZ6 (w226 hw)) (mvT hZ6 (w225 hw)) (gcBackPure (rm := (⟨0, 0, 0, 0⟩ : Room)) (W := 0) hZ6 (w227 hw) (w225 hw) (w183 hw) (w186 hw) pf6_1 pf6_3 rfl (by decide) (by decide)) q17a q17c (g := (mkF m 116 #[vI p0, vI p1, vI (own_l p0), vI (own_c0 p0), vI (own_c1 p0), vI (own_c2 p0), vI (own_l p1), vI (own_c0 p1), vI (own_c1 p1), vI (own_c2 p1), vR b1_0, vR b3_0, vR b6_0, .unset, .unset, .unset, .unset] [(.ref b6_0)])) rfl (by rw [hml]; rfl) (Steps.refl _) (argsL := []) (rest := []) (lenOf pd_32 rfl) rfl (Nat.le_of_eq rfl) (hb hby at_116) (fun _ _ => ⟨rfl, rfl, (by decide : 22 + 0 ≤ _), (by decide : 3206 + 0 ≤ _)⟩)
  dsimp only [Pt.U, Pt.locs, Pt.cells, Pt.slots] at X17 st17 hQ17
  obtain ⟨rfl, e17, rfl, rfl, rfl⟩ := hQ17
  rw [gcv_null] at st17
  obtain ⟨cq18, kq18, q18a, q18b, q18c⟩ := isOf hZ6 e17 pf6_0
  obtain ⟨_, _, ⟨T18, L18, k18', n18'⟩, -, X18, ⟨Lc18, hQ18, l18, y18, z18⟩, st18⟩ := X17.virtualBackUp hx (x := (⟨cSX, "getMessage", "()Ljava/lang/String;"⟩ : MethodName)) (y := (⟨cTN, "getMessage", "()Ljava/lang/String;"⟩ : MethodName)) (owner := cTN) hown6 (mvT hZ6 (w228 hw)) (mvT hZ6 (w229 hw)) (mvT hZ6 (w230 hw)) (by decide) (mvT hZ6 (w232 hw)) (mvT hZ6 (w231 hw)) (backOf (W := 0) (rm36 l Z az hw [] b6_0 b6_1 T6.heap n0 Z6 pf6_0 pf6_2) hZ6 (w233 hw) (w183 hw) (by decide) (by decide)) q18a q18c (g := (mkF m 126 #[vI p0, vI p1, vI (own_l p0), vI (own_c0 p0), vI (own_c1 p0), vI (own_c2 p0), vI (own_l p1), vI (own_c0 p1), vI (own_c1 p1), vI (own_c2 p1), vR b1_0, vR b3_0, vR b6_0, .unset, .unset, .unset, .unset] [(.ref b6_0)])) rfl (by rw [hml]; rfl) (Steps.refl _) (argsL := []) (rest := []) (lenOf pd_25 rfl) rfl (Nat.le_of_eq rfl) (hb hby at_126) (fun _ _ => ⟨rfl, e17, (by decide : 22 + 0 ≤ _), (by decide : 3206 + 0 ≤ _)⟩)
  dsimp only [Pt.U, Pt.locs, Pt.cells, Pt.slots] at X18 l18 y18 z18 st18 hQ18
  subst l18 y18 z18
  obtain ⟨rfl, N18q, e18⟩ := hQ18
  obtain ⟨Lg18, X18', N18⟩ := own_gen X18 (Fr.app N6 N18q)
  have S_String_COMPACT_STRINGS_u20 : Sta Z T6.heap cST "COMPACT_STRINGS" "Z" (.int sC) := (own_Sta S_String_COMPACT_STRINGS_u7 kq6 (fun _ m => nomatch m))
  obtain ⟨cq19, kq19, q19a, q19b, q19c⟩ := isOf hZ6 e18 pf6_4
  obtain ⟨_, _, ⟨T19, L19, k19', n19'⟩, -, X19, ⟨Lc19, hQ19, l19, y19, z19⟩, st19⟩ := X18'.virtualBack hx (y := (⟨cST, "length", "()I"⟩ : MethodName)) (z := (⟨cST, "length", "()I"⟩ : MethodName)) hown6 (mvT hZ6 (w234 hw)) (mvT hZ6 (w62 hw)) (notFace_of_selects (args := #[]) (mvT hZ6 (w64 hw))) (mvT hZ6 (w64 hw)) (mvT hZ6 (w63 hw)) (by decide) (backOf (W := 0) (rm10 l Z az hw [] b6_1 sC b6_2 kk6_0 (((own_l p0) + (35 : Int32)) + (own_l p1)) (own_msg (own_sf (own_c0 p0) (own_c1 p0) (own_c2 p0)) (own_l p0) (own_sf (own_c0 p1) (own_c1 p1) (own_c2 p1))) T6.heap n0 Z6 S_String_COMPACT_STRINGS_u20 hc1 pf6_4 pf6_6 pf6_5 pf6_8 pf6_7) hZ6 (w65 hw) (w6 hw) (by decide) (by decide)) q19a q19c (g := (mkF m 138 #[vI p0, vI p1, vI (own_l p0), vI (own_c0 p0), vI (own_c1 p0), vI (own_c2 p0), vI (own_l p1), vI (own_c0 p1), vI (own_c1 p1), vI (own_c2 p1), vR b1_0, vR b3_0, vR b6_0, vR b6_1, .unset, .unset, .unset] [(.ref b6_1)])) rfl (by rw [hml]; rfl) (Steps.refl _) (argsL := []) (rest := []) (lenOf pd_8 rfl) rfl (Nat.le_of_eq rfl) (hb hby at_138) (fun _ _ => ⟨rfl, e18, (by decide : 22 + 0 ≤ _), (by decide : 3206 + 0 ≤ _)⟩)
  dsimp only [Pt.U, Pt.locs, Pt.cells, Pt.slots] at X19 l19 y19 z19 st19 hQ19
  subst l19 y19 z19
  obtain ⟨rfl, N19q, e19⟩ := hQ19
  obtain ⟨Lg19, X19', N19⟩ := own_gen X19 (Fr.app N18 N19q)
  have S_Preconditions_SIOOBE_FORMATTER_u21 : Sta Z T6.heap "jdk/internal/util/Preconditions" "SIOOBE_FORMATTER" "Ljava/util/function/BiFunction;" vF := (own_Sta (own_Sta (own_Sta S_SIOOBE_FORMATTER kq1 (fun _ m => nomatch m)) kq3 (fun _ m => nomatch m)) kq6 (fun _ m => nomatch m))
  obtain ⟨T22, hs22, g22, ⟨rfl, es22⟩, ⟨Lg22, X22, e22, N22⟩, st22⟩ := sgP0 l Z az hw hx hby hml hown6 hZ6 (vI p0) (vI p1) (own_l p0) (own_c0 p0) (vI (own_c1 p0)) (vI (own_c2 p0)) (vI (own_l p1)) (vI (own_c0 p1)) (vI (own_c1 p1)) (vI (own_c2 p1)) (vR b1_0) (vR b3_0) (vR b6_0) b6_1 .unset .unset .unset sC vF b6_2 kk6_0 (((own_l p0) + (35 : Int32)) + (own_l p1)) (own_msg (own_sf (own_c0 p0) (own_c1 p0) (own_c2 p0)) (own_l p0) (own_sf (own_c0 p1) (own_c1 p1) (own_c2 p1))) T6.heap n0 Z6 S_String_COMPACT_STRINGS_u20 hc1 S_Preconditions_SIOOBE_FORMATTER_u21 hc3 pf6_4 pf6_6 pf6_5 pf6_8 pf6_7 hc22 T19 ⟨_, X19', e19, N19⟩
  rw [es22] at e22
  obtain ⟨T23, hs23, g23, ⟨rfl, es23⟩, ⟨Lg23, X23, e23, N23⟩, st23⟩ := sgP1 l Z az hw hx hby hml hown6 hZ6 (vI p0) (vI p1) (own_l p0) (vI (own_c0 p0)) (own_c1 p0) (vI (own_c2 p0)) (vI (own_l p1)) (vI (own_c0 p1)) (vI (own_c1 p1)) (vI (own_c2 p1)) (vR b1_0) (vR b3_0) (vR b6_0) b6_1 .unset .unset .unset sC vF b6_2 kk6_0 (((own_l p0) + (35 : Int32)) + (own_l p1)) (own_msg (own_sf (own_c0 p0) (own_c1 p0) (own_c2 p0)) (own_l p0) (own_sf (own_c0 p1) (own_c1 p1) (own_c2 p1))) T6.heap n0 Z6 S_String_COMPACT_STRINGS_u20 hc1 S_Preconditions_SIOOBE_FORMATTER_u21 hc3 pf6_4 pf6_6 pf6_5 pf6_8 pf6_7 hc23 T22 ⟨_, X22, e22, N22⟩
  rw [es23] at e23
  obtain ⟨T24, hs24, g24, ⟨rfl, es24⟩, ⟨Lg24, X24, e24, N24⟩, st24⟩ := sgP2 l Z az hw hx hby hml hown6 hZ6 (vI p0) (vI p1) (own_l p0) (vI (own_c0 p0)) (vI (own_c1 p0)) (own_c2 p0) (vI (own_l p1)) (vI (own_c0 p1)) (vI (own_c1 p1)) (vI (own_c2 p1)) (vR b1_0) (vR b3_0) (vR b6_0) b6_1 .unset .unset .unset sC vF b6_2 kk6_0 (((own_l p0) + (35 : Int32)) + (own_l p1)) (own_msg (own_sf (own_c0 p0) (own_c1 p0) (own_c2 p0)) (own_l p0) (own_sf (own_c0 p1) (own_c1 p1) (own_c2 p1))) T6.heap n0 Z6 S_String_COMPACT_STRINGS_u20 hc1 S_Preconditions_SIOOBE_FORMATTER_u21 hc3 pf6_4 pf6_6 pf6_5 pf6_8 pf6_7 hc24 T23 ⟨_, X23, e23, N23⟩
  rw [es24] at e24
  obtain ⟨T25, hs25, g25, ⟨rfl, es25⟩, ⟨Lg25, X25, e25, N25⟩, st25⟩ := sgS0 l Z az hw hx hby hml hown6 hZ6 (vI p0) (vI p1) (vI (own_l p0)) (vI (own_c0 p0)) (vI (own_c1 p0)) (vI (own_c2 p0)) (own_l p1) (own_c0 p1) (vI (own_c1 p1)) (vI (own_c2 p1)) (vR b1_0) (vR b3_0) (vR b6_0) b6_1 (vI (1 : Int32)) ((own_l p0) + (35 : Int32)) .unset sC vF b6_2 kk6_0 (((own_l p0) + (35 : Int32)) + (own_l p1)) (own_msg (own_sf (own_c0 p0) (own_c1 p0) (own_c2 p0)) (own_l p0) (own_sf (own_c0 p1) (own_c1 p1) (own_c2 p1))) T6.heap n0 Z6 S_String_COMPACT_STRINGS_u20 hc1 S_Preconditions_SIOOBE_FORMATTER_u21 hc3 pf6_4 pf6_6 pf6_5 pf6_8 pf6_7 hc25 T24 ⟨_, X24, e24, N24⟩
  rw [es25] at e25
  obtain ⟨T26, hs26, g26, ⟨rfl, es26⟩, ⟨Lg26, X26, e26, N26⟩, st26⟩ := sgS1 l Z az hw hx hby hml hown6 hZ6 (vI p0) (vI p1) (vI (own_l p0)) (vI (own_c0 p0)) (vI (own_c1 p0)) (vI (own_c2 p0)) (own_l p1) (vI (own_c0 p1)) (own_c1 p1) (vI (own_c2 p1)) (vR b1_0) (vR b3_0) (vR b6_0) b6_1 (vI (1 : Int32)) ((own_l p0) + (35 : Int32)) .unset sC vF b6_2 kk6_0 (((own_l p0) + (35 : Int32)) + (own_l p1)) (own_msg (own_sf (own_c0 p0) (own_c1 p0) (own_c2 p0)) (own_l p0) (own_sf (own_c0 p1) (own_c1 p1) (own_c2 p1))) T6.heap n0 Z6 S_String_COMPACT_STRINGS_u20 hc1 S_Preconditions_SIOOBE_FORMATTER_u21 hc3 pf6_4 pf6_6 pf6_5 pf6_8 pf6_7 hc26 T25 ⟨_, X25, e25, N25⟩
  rw [es26] at e26
  obtain ⟨T27, hs27, g27, ⟨rfl, es27⟩, ⟨Lg27, X27, e27, N27⟩, st27⟩ := sgS2 l Z az hw hx hby hml hown6 hZ6 (vI p0) (vI p1) (vI (own_l p0)) (vI (own_c0 p0)) (vI (own_c1 p0)) (vI (own_c2 p0)) (own_l p1) (vI (own_c0 p1)) (vI (own_c1 p1)) (own_c2 p1) (vR b1_0) (vR b3_0) (vR b6_0) b6_1 (vI (1 : Int32)) ((own_l p0) + (35 : Int32)) .unset sC vF b6_2 kk6_0 (((own_l p0) + (35 : Int32)) + (own_l p1)) (own_msg (own_sf (own_c0 p0) (own_c1 p0) (own_c2 p0)) (own_l p0) (own_sf (own_c0 p1) (own_c1 p1) (own_c2 p1))) T6.heap n0 Z6 S_String_COMPACT_STRINGS_u20 hc1 S_Preconditions_SIOOBE_FORMATTER_u21 hc3 pf6_4 pf6_6 pf6_5 pf6_8 pf6_7 hc27 T26 ⟨_, X26, e26, N26⟩
  rw [es27] at e27
  obtain ⟨_, _, ⟨T28, L28, k28', n28'⟩, -, Y28, yS28, yg28, ⟨Lc28, hQ28, l28, y28, z28, ch28⟩, st28⟩ := callSS X27 hx (y := (⟨cLW, "mid", "(Ljava/lang/String;I)Z"⟩ : MethodName)) hown6 (mvT hZ6 (w235 hw)) (mvT hZ6 (w236 hw)) (mvT hZ6 (w2 hw)) (mvT hZ6 (w237 hw)) (by decide) (backOfSH (W := 0) (rm37 l Z az hw [] b6_1 (own_l p0) sC vF b6_2 kk6_0 (((own_l p0) + (35 : Int32)) + (own_l p1)) (own_msg (own_sf (own_c0 p0) (own_c1 p0) (own_c2 p0)) (own_l p0) (own_sf (own_c0 p1) (own_c1 p1) (own_c2 p1))) T6.heap n0 Z6 S_String_COMPACT_STRINGS_u20 hc1 S_Preconditions_SIOOBE_FORMATTER_u21 hc3 pf6_4 pf6_6 pf6_5 pf6_8 pf6_7 hc28) hZ6 (w237 hw) (w2 hw) (by decide) (by decide) hEW rh16.1) (g := (mkF m 286 #[vI p0, vI p1, vI (own_l p0), vI (own_c0 p0), vI (own_c1 p0), vI (own_c2 p0), vI (own_l p1), vI (own_c0 p1), vI (own_c1 p1), vI (own_c2 p1), vR b1_0, vR b3_0, vR b6_0, vR b6_1, vI (1 : Int32), vI ((own_l p0) + (35 : Int32)), vI (1 : Int32)] [(.int (own_l p0)), (.ref b6_1)])) rfl (by rw [hml]; rfl) (argsL := [(.ref b6_1), (.int (own_l p0))]) (rest := []) (lenOf pd_33 rfl) rfl (Nat.le_of_eq rfl) (hb hby at_286) (fun _ _ => ⟨rfl, e27, (by decide : 22 + 2 ≤ _), (by decide : 3206 + 144 ≤ _)⟩)
  dsimp only [Pt.U, Pt.locs, Pt.cells, Pt.slots] at Y28 yS28 yg28 l28 y28 z28 st28 hQ28 ch28
  subst l28 y28 z28
  obtain ⟨X28, hS28, hZ28, hown28⟩ := rebS (s := s) (vm0 := T6.vm) hS6 (by rw [e27]; exact (Nat.le_refl _)) Y28 yS28 yg28 hZ6 hown6
  obtain ⟨rfl, N28q, kq28⟩ := hQ28
  obtain ⟨Lg28, X28', N28⟩ := own_gen X28 (Fr.app N27 N28q)
  have K28 : Keep h0 T28.heap [] := K6.trans kq28 all0
  have Z28 : n0 ≤ T28.heap.size := Nat.le_trans Z6 kq28.1
  have rh29 := rh16.trans ch28
  obtain ⟨fs, hr, hrun, hended, hWE⟩ := X28'.leaveW (s := s) hS28 (Nat.le_refl _) (v := some (.int (1 : Int32))) (fun h => by rw [Bd.returns] at h; cases h)
  refine ⟨_, _, pre0 _ ?_, hrun, hended, _, _, rfl, ?_, hWE.1, hWE.2.1, hWE.2.2.1, hWE.2.2.2.mono (by decide) (by decide)⟩
  · show SP p e below s₁ (mkF m 0 #[vI p0, vI p1, .unset, .unset, .unset, .unset, .unset, .unset, .unset, .unset, .unset, .unset, .unset, .unset, .unset, .unset, .unset] []) _
    refine XS.iloadN X0.here hx rfl (hb hby at_0) rfl ?_
    refine XS.bipush X0.here hx rfl (hb hby at_1) ?_
    refine XS.iushr X0.here hx rfl (hb hby at_3) rfl ?_
    refine XS.iconst X0.here hx rfl (hb hby at_4) ?_
    refine XS.iand X0.here hx rfl (hb hby at_5) rfl ?_
    show SP p e below s₁ (mkF m 6 #[vI p0, vI p1, .unset, .unset, .unset, .unset, .unset, .unset, .unset, .unset, .unset, .unset, .unset, .unset, .unset, .unset, .unset] [(.int (own_l p0))]) _
    show SP p e below s₁ (mkF m 6 #[vI p0, vI p1, .unset, .unset, .unset, .unset, .unset, .unset, .unset, .unset, .unset, .unset, .unset, .unset, .unset, .unset, .unset] [(.int (own_l p0))]) _
    refine XS.istoreN X0.here hx rfl (hb hby at_6) rfl (l' := #[vI p0, vI p1, vI (own_l p0), .unset, .unset, .unset, .unset, .unset, .unset, .unset, .unset, .unset, .unset, .unset, .unset, .unset, .unset]) rfl ?_
    refine XS.iloadN X0.here hx rfl (hb hby at_7) rfl ?_
    refine XS.sipush X0.here hx rfl (hb hby at_8) ?_
    refine XS.iand X0.here hx rfl (hb hby at_11) rfl ?_
    show SP p e below s₁ (mkF m 12 #[vI p0, vI p1, vI (own_l p0), .unset, .unset, .unset, .unset, .unset, .unset, .unset, .unset, .unset, .unset, .unset, .unset, .unset, .unset] [(.int (p0 &&& (255 : Int32)))]) _
    refine XS.i2c X0.here hx rfl (hb hby at_12) rfl ?_
    show SP p e below s₁ (mkF m 13 #[vI p0, vI p1, vI (own_l p0), .unset, .unset, .unset, .unset, .unset, .unset, .unset, .unset, .unset, .unset, .unset, .unset, .unset, .unset] [(.int (own_c0 p0))]) _
    show SP p e below s₁ (mkF m 13 #[vI p0, vI p1, vI (own_l p0), .unset, .unset, .unset, .unset, .unset, .unset, .unset, .unset, .unset, .unset, .unset, .unset, .unset, .unset] [(.int (own_c0 p0))]) _
    refine XS.istoreN X0.here hx rfl (hb hby at_13) rfl (l' := #[vI p0, vI p1, vI (own_l p0), vI (own_c0 p0), .unset, .unset, .unset, .unset, .unset, .unset, .unset, .unset, .unset, .unset, .unset, .unset, .unset]) rfl ?_
    refine XS.iloadN X0.here hx rfl (hb hby at_14) rfl ?_
    refine XS.bipush X0.here hx rfl (hb hby at_15) ?_
    refine XS.iushr X0.here hx rfl (hb hby at_17) rfl ?_
    refine XS.sipush X0.here hx rfl (hb hby at_18) ?_
    refine XS.iand X0.here hx rfl (hb hby at_21) rfl ?_
    show SP p e below s₁ (mkF m 22 #[vI p0, vI p1, vI (own_l p0), vI (own_c0 p0), .unset, .unset, .unset, .unset, .unset, .unset, .unset, .unset, .unset, .unset, .unset, .unset, .unset] [(.int (((p0.toUInt32 >>> ((8 : Int32) &&& 31).toUInt32).toInt32) &&& (255 : Int32)))]) _
    refine XS.i2c X0.here hx rfl (hb hby at_22) rfl ?_
    show SP p e below s₁ (mkF m 23 #[vI p0, vI p1, vI (own_l p0), vI (own_c0 p0), .unset, .unset, .unset, .unset, .unset, .unset, .unset, .unset, .unset, .unset, .unset, .unset, .unset] [(.int (own_c1 p0))]) _
    show SP p e below s₁ (mkF m 23 #[vI p0, vI p1, vI (own_l p0), vI (own_c0 p0), .unset, .unset, .unset, .unset, .unset, .unset, .unset, .unset, .unset, .unset, .unset, .unset, .unset] [(.int (own_c1 p0))]) _
    refine XS.istore X0.here hx rfl (hb hby at_23) rfl (l' := #[vI p0, vI p1, vI (own_l p0), vI (own_c0 p0), vI (own_c1 p0), .unset, .unset, .unset, .unset, .unset, .unset, .unset, .unset, .unset, .unset, .unset, .unset]) rfl ?_
    refine XS.iloadN X0.here hx rfl (hb hby at_25) rfl ?_
    refine XS.bipush X0.here hx rfl (hb hby at_26) ?_
    refine XS.iushr X0.here hx rfl (hb hby at_28) rfl ?_
    refine XS.sipush X0.here hx rfl (hb hby at_29) ?_
    refine XS.iand X0.here hx rfl (hb hby at_32) rfl ?_
    show SP p e below s₁ (mkF m 33 #[vI p0, vI p1, vI (own_l p0), vI (own_c0 p0), vI (own_c1 p0), .unset, .unset, .unset, .unset, .unset, .unset, .unset, .unset, .unset, .unset, .unset, .unset] [(.int (((p0.toUInt32 >>> ((16 : Int32) &&& 31).toUInt32).toInt32) &&& (255 : Int32)))]) _
    refine XS.i2c X0.here hx rfl (hb hby at_33) rfl ?_
    show SP p e below s₁ (mkF m 34 #[vI p0, vI p1, vI (own_l p0), vI (own_c0 p0), vI (own_c1 p0), .unset, .unset, .unset, .unset, .unset, .unset, .unset, .unset, .unset, .unset, .unset, .unset] [(.int (own_c2 p0))]) _
    show SP p e below s₁ (mkF m 34 #[vI p0, vI p1, vI (own_l p0), vI (own_c0 p0), vI (own_c1 p0), .unset, .unset, .unset, .unset, .unset, .unset, .unset, .unset, .unset, .unset, .unset, .unset] [(.int (own_c2 p0))]) _
    refine XS.istore X0.here hx rfl (hb hby at_34) rfl (l' := #[vI p0, vI p1, vI (own_l p0), vI (own_c0 p0), vI (own_c1 p0), vI (own_c2 p0), .unset, .unset, .unset, .unset, .unset, .unset, .unset, .unset, .unset, .unset, .unset]) rfl ?_
    refine XS.iloadN X0.here hx rfl (hb hby at_36) rfl ?_
    refine XS.bipush X0.here hx rfl (hb hby at_37) ?_
    refine XS.iushr X0.here hx rfl (hb hby at_39) rfl ?_
    refine XS.iconst X0.here hx rfl (hb hby at_40) ?_
    refine XS.iand X0.here hx rfl (hb hby at_41) rfl ?_
    show SP p e below s₁ (mkF m 42 #[vI p0, vI p1, vI (own_l p0), vI (own_c0 p0), vI (own_c1 p0), vI (own_c2 p0), .unset, .unset, .unset, .unset, .unset, .unset, .unset, .unset, .unset, .unset, .unset] [(.int (own_l p1))]) _
    show SP p e below s₁ (mkF m 42 #[vI p0, vI p1, vI (own_l p0), vI (own_c0 p0), vI (own_c1 p0), vI (own_c2 p0), .unset, .unset, .unset, .unset, .unset, .unset, .unset, .unset, .unset, .unset, .unset] [(.int (own_l p1))]) _
    refine XS.istore X0.here hx rfl (hb hby at_42) rfl (l' := #[vI p0, vI p1, vI (own_l p0), vI (own_c0 p0), vI (own_c1 p0), vI (own_c2 p0), vI (own_l p1), .unset, .unset, .unset, .unset, .unset, .unset, .unset, .unset, .unset, .unset]) rfl ?_
    refine XS.iloadN X0.here hx rfl (hb hby at_44) rfl ?_
    refine XS.sipush X0.here hx rfl (hb hby at_45) ?_
    refine XS.iand X0.here hx rfl (hb hby at_48) rfl ?_
    show SP p e below s₁ (mkF m 49 #[vI p0, vI p1, vI (own_l p0), vI (own_c0 p0), vI (own_c1 p0), vI (own_c2 p0), vI (own_l p1), .unset, .unset, .unset, .unset, .unset, .unset, .unset, .unset, .unset, .unset] [(.int (p1 &&& (255 : Int32)))]) _
    refine XS.i2c X0.here hx rfl (hb hby at_49) rfl ?_
    show SP p e below s₁ (mkF m 50 #[vI p0, vI p1, vI (own_l p0), vI (own_c0 p0), vI (own_c1 p0), vI (own_c2 p0), vI (own_l p1), .unset, .unset, .unset, .unset, .unset, .unset, .unset, .unset, .unset, .unset] [(.int (own_c0 p1))]) _
    show SP p e below s₁ (mkF m 50 #[vI p0, vI p1, vI (own_l p0), vI (own_c0 p0), vI (own_c1 p0), vI (own_c2 p0), vI (own_l p1), .unset, .unset, .unset, .unset, .unset, .unset, .unset, .unset, .unset, .unset] [(.int (own_c0 p1))]) _
    refine XS.istore X0.here hx rfl (hb hby at_50) rfl (l' := #[vI p0, vI p1, vI (own_l p0), vI (own_c0 p0), vI (own_c1 p0), vI (own_c2 p0), vI (own_l p1), vI (own_c0 p1), .unset, .unset, .unset, .unset, .unset, .unset, .unset, .unset, .unset]) rfl ?_
    refine XS.iloadN X0.here hx rfl (hb hby at_52) rfl ?_
    refine XS.bipush X0.here hx rfl (hb hby at_53) ?_
    refine XS.iushr X0.here hx rfl (hb hby at_55) rfl ?_
    refine XS.sipush X0.here hx rfl (hb hby at_56) ?_
    refine XS.iand X0.here hx rfl (hb hby at_59) rfl ?_
    show SP p e below s₁ (mkF m 60 #[vI p0, vI p1, vI (own_l p0), vI (own_c0 p0), vI (own_c1 p0), vI (own_c2 p0), vI (own_l p1), vI (own_c0 p1), .unset, .unset, .unset, .unset, .unset, .unset, .unset, .unset, .unset] [(.int (((p1.toUInt32 >>> ((8 : Int32) &&& 31).toUInt32).toInt32) &&& (255 : Int32)))]) _
    refine XS.i2c X0.here hx rfl (hb hby at_60) rfl ?_
    show SP p e below s₁ (mkF m 61 #[vI p0, vI p1, vI (own_l p0), vI (own_c0 p0), vI (own_c1 p0), vI (own_c2 p0), vI (own_l p1), vI (own_c0 p1), .unset, .unset, .unset, .unset, .unset, .unset, .unset, .unset, .unset] [(.int (own_c1 p1))]) _
    show SP p e below s₁ (mkF m 61 #[vI p0, vI p1, vI (own_l p0), vI (own_c0 p0), vI (own_c1 p0), vI (own_c2 p0), vI (own_l p1), vI (own_c0 p1), .unset, .unset, .unset, .unset, .unset, .unset, .unset, .unset, .unset] [(.int (own_c1 p1))]) _
    refine XS.istore X0.here hx rfl (hb hby at_61) rfl (l' := #[vI p0, vI p1, vI (own_l p0), vI (own_c0 p0), vI (own_c1 p0), vI (own_c2 p0), vI (own_l p1), vI (own_c0 p1), vI (own_c1 p1), .unset, .unset, .unset, .unset, .unset, .unset, .unset, .unset]) rfl ?_
    refine XS.iloadN X0.here hx rfl (hb hby at_63) rfl ?_
    refine XS.bipush X0.here hx rfl (hb hby at_64) ?_
    refine XS.iushr X0.here hx rfl (hb hby at_66) rfl ?_
    refine XS.sipush X0.here hx rfl (hb hby at_67) ?_
    refine XS.iand X0.here hx rfl (hb hby at_70) rfl ?_
    show SP p e below s₁ (mkF m 71 #[vI p0, vI p1, vI (own_l p0), vI (own_c0 p0), vI (own_c1 p0), vI (own_c2 p0), vI (own_l p1), vI (own_c0 p1), vI (own_c1 p1), .unset, .unset, .unset, .unset, .unset, .unset, .unset, .unset] [(.int (((p1.toUInt32 >>> ((16 : Int32) &&& 31).toUInt32).toInt32) &&& (255 : Int32)))]) _
    refine XS.i2c X0.here hx rfl (hb hby at_71) rfl ?_
    show SP p e below s₁ (mkF m 72 #[vI p0, vI p1, vI (own_l p0), vI (own_c0 p0), vI (own_c1 p0), vI (own_c2 p0), vI (own_l p1), vI (own_c0 p1), vI (own_c1 p1), .unset, .unset, .unset, .unset, .unset, .unset, .unset, .unset] [(.int (own_c2 p1))]) _
    show SP p e below s₁ (mkF m 72 #[vI p0, vI p1, vI (own_l p0), vI (own_c0 p0), vI (own_c1 p0), vI (own_c2 p0), vI (own_l p1), vI (own_c0 p1), vI (own_c1 p1), .unset, .unset, .unset, .unset, .unset, .unset, .unset, .unset] [(.int (own_c2 p1))]) _
    refine XS.istore X0.here hx rfl (hb hby at_72) rfl (l' := #[vI p0, vI p1, vI (own_l p0), vI (own_c0 p0), vI (own_c1 p0), vI (own_c2 p0), vI (own_l p1), vI (own_c0 p1), vI (own_c1 p1), vI (own_c2 p1), .unset, .unset, .unset, .unset, .unset, .unset, .unset]) rfl ?_
    refine XS.iloadN X0.here hx rfl (hb hby at_74) rfl ?_
    refine XS.iloadN X0.here hx rfl (hb hby at_75) rfl ?_
    refine XS.iload X0.here hx rfl (hb hby at_76) rfl ?_
    refine XS.iload X0.here hx rfl (hb hby at_78) rfl ?_
    show SP p e below s₁ (mkF m 80 #[vI p0, vI p1, vI (own_l p0), vI (own_c0 p0), vI (own_c1 p0), vI (own_c2 p0), vI (own_l p1), vI (own_c0 p1), vI (own_c1 p1), vI (own_c2 p1), .unset, .unset, .unset, .unset, .unset, .unset, .unset] [(.int (own_c2 p0)), (.int (own_c1 p0)), (.int (own_c0 p0)), (.int (own_l p0))]) _
    refine st1.trans ?_
    show SP p e below T1 (mkF m 83 #[vI p0, vI p1, vI (own_l p0), vI (own_c0 p0), vI (own_c1 p0), vI (own_c2 p0), vI (own_l p1), vI (own_c0 p1), vI (own_c1 p1), vI (own_c2 p1), .unset, .unset, .unset, .unset, .unset, .unset, .unset] [(.ref b1_0)]) _
    refine XS.astore X1'.here hx rfl (hb hby at_83) rfl rfl (l' := #[vI p0, vI p1, vI (own_l p0), vI (own_c0 p0), vI (own_c1 p0), vI (own_c2 p0), vI (own_l p1), vI (own_c0 p1), vI (own_c1 p1), vI (own_c2 p1), vR b1_0, .unset, .unset, .unset, .unset, .unset, .unset]) rfl ?_
    refine XS.iload X1'.here hx rfl (hb hby at_85) rfl ?_
    refine XS.iload X1'.here hx rfl (hb hby at_87) rfl ?_
    refine XS.iload X1'.here hx rfl (hb hby at_89) rfl ?_
    refine XS.iload X1'.here hx rfl (hb hby at_91) rfl ?_
    show SP p e below T1 (mkF m 93 #[vI p0, vI p1, vI (own_l p0), vI (own_c0 p0), vI (own_c1 p0), vI (own_c2 p0), vI (own_l p1), vI (own_c0 p1), vI (own_c1 p1), vI (own_c2 p1), vR b1_0, .unset, .unset, .unset, .unset, .unset, .unset] [(.int (own_c2 p1)), (.int (own_c1 p1)), (.int (own_c0 p1)), (.int (own_l p1))]) _
    refine st3.trans ?_
    show SP p e below T3 (mkF m 96 #[vI p0, vI p1, vI (own_l p0), vI (own_c0 p0), vI (own_c1 p0), vI (own_c2 p0), vI (own_l p1), vI (own_c0 p1), vI (own_c1 p1), vI (own_c2 p1), vR b1_0, .unset, .unset, .unset, .unset, .unset, .unset] [(.ref b3_0)]) _
    refine XS.astore X3'.here hx rfl (hb hby at_96) rfl rfl (l' := #[vI p0, vI p1, vI (own_l p0), vI (own_c0 p0), vI (own_c1 p0), vI (own_c2 p0), vI (own_l p1), vI (own_c0 p1), vI (own_c1 p1), vI (own_c2 p1), vR b1_0, vR b3_0, .unset, .unset, .unset, .unset, .unset]) rfl ?_
    refine XS.aload X3'.here hx rfl (hb hby at_98) rfl rfl ?_
    refine XS.aload X3'.here hx rfl (hb hby at_100) rfl rfl ?_
    show SP p e below T3 (mkF m 102 #[vI p0, vI p1, vI (own_l p0), vI (own_c0 p0), vI (own_c1 p0), vI (own_c2 p0), vI (own_l p1), vI (own_c0 p1), vI (own_c1 p1), vI (own_c2 p1), vR b1_0, vR b3_0, .unset, .unset, .unset, .unset, .unset] [(.ref b3_0), (.ref b1_0)]) _
    refine st6.trans ?_
    show SP p e below T6 (mkF m 105 #[vI p0, vI p1, vI (own_l p0), vI (own_c0 p0), vI (own_c1 p0), vI (own_c2 p0), vI (own_l p1), vI (own_c0 p1), vI (own_c1 p1), vI (own_c2 p1), vR b1_0, vR b3_0, .unset, .unset, .unset, .unset, .unset] [(.ref b6_0)]) _
    refine XS.astore X6'.here hx rfl (hb hby at_105) rfl rfl (l' := #[vI p0, vI p1, vI (own_l p0), vI (own_c0 p0), vI (own_c1 p0), vI (own_c2 p0), vI (own_l p1), vI (own_c0 p1), vI (own_c1 p1), vI (own_c2 p1), vR b1_0, vR b3_0, vR b6_0, .unset, .unset, .unset, .unset]) rfl ?_
    refine XS.aload X6'.here hx rfl (hb hby at_107) rfl rfl ?_
    show SP p e below T6 (mkF m 109 #[vI p0, vI p1, vI (own_l p0), vI (own_c0 p0), vI (own_c1 p0), vI (own_c2 p0), vI (own_l p1), vI (own_c0 p1), vI (own_c1 p1), vI (own_c2 p1), vR b1_0, vR b3_0, vR b6_0, .unset, .unset, .unset, .unset] [(.ref b6_0)]) _
    refine XS.ifnonnullYes X6'.here hx rfl (pc0 := 109) (pc' := 114) rfl (hb hby at_109) rfl (by decide) (by decide) ?_
    refine XS.aload X6'.here hx rfl (hb hby at_114) rfl rfl ?_
    show SP p e below T6 (mkF m 116 #[vI p0, vI p1, vI (own_l p0), vI (own_c0 p0), vI (own_c1 p0), vI (own_c2 p0), vI (own_l p1), vI (own_c0 p1), vI (own_c1 p1), vI (own_c2 p1), vR b1_0, vR b3_0, vR b6_0, .unset, .unset, .unset, .unset] [(.ref b6_0)]) _
    refine st17.trans ?_
    show SP p e below T17 (mkF m 119 #[vI p0, vI p1, vI (own_l p0), vI (own_c0 p0), vI (own_c1 p0), vI (own_c2 p0), vI (own_l p1), vI (own_c0 p1), vI (own_c1 p1), vI (own_c2 p1), vR b1_0, vR b3_0, vR b6_0, .unset, .unset, .unset, .unset] [.null]) _
    refine XS.ifnullYes X17.here hx rfl (pc0 := 119) (pc' := 124) rfl (hb hby at_119) rfl (by decide) (by decide) ?_
    refine XS.aload X17.here hx rfl (hb hby at_124) rfl rfl ?_
    show SP p e below T17 (mkF m 126 #[vI p0, vI p1, vI (own_l p0), vI (own_c0 p0), vI (own_c1 p0), vI (own_c2 p0), vI (own_l p1), vI (own_c0 p1), vI (own_c1 p1), vI (own_c2 p1), vR b1_0, vR b3_0, vR b6_0, .unset, .unset, .unset, .unset] [(.ref b6_0)]) _
    refine st18.trans ?_
    show SP p e below T18 (mkF m 129 #[vI p0, vI p1, vI (own_l p0), vI (own_c0 p0), vI (own_c1 p0), vI (own_c2 p0), vI (own_l p1), vI (own_c0 p1), vI (own_c1 p1), vI (own_c2 p1), vR b1_0, vR b3_0, vR b6_0, .unset, .unset, .unset, .unset] [(.ref b6_1)]) _
    refine XS.astore X18'.here hx rfl (hb hby at_129) rfl rfl (l' := #[vI p0, vI p1, vI (own_l p0), vI (own_c0 p0), vI (own_c1 p0), vI (own_c2 p0), vI (own_l p1), vI (own_c0 p1), vI (own_c1 p1), vI (own_c2 p1), vR b1_0, vR b3_0, vR b6_0, vR b6_1, .unset, .unset, .unset]) rfl ?_
    refine XS.aload X18'.here hx rfl (hb hby at_131) rfl rfl ?_
    show SP p e below T18 (mkF m 133 #[vI p0, vI p1, vI (own_l p0), vI (own_c0 p0), vI (own_c1 p0), vI (own_c2 p0), vI (own_l p1), vI (own_c0 p1), vI (own_c1 p1), vI (own_c2 p1), vR b1_0, vR b3_0, vR b6_0, vR b6_1, .unset, .unset, .unset] [(.ref b6_1)]) _
    refine XS.ifnullNo X18'.here hx rfl (hb hby at_133) rfl ?_
    refine XS.aload X18'.here hx rfl (hb hby at_136) rfl rfl ?_
    show SP p e below T18 (mkF m 138 #[vI p0, vI p1, vI (own_l p0), vI (own_c0 p0), vI (own_c1 p0), vI (own_c2 p0), vI (own_l p1), vI (own_c0 p1), vI (own_c1 p1), vI (own_c2 p1), vR b1_0, vR b3_0, vR b6_0, vR b6_1, .unset, .unset, .unset] [(.ref b6_1)]) _
    refine st19.trans ?_
    show SP p e below T19 (mkF m 141 #[vI p0, vI p1, vI (own_l p0), vI (own_c0 p0), vI (own_c1 p0), vI (own_c2 p0), vI (own_l p1), vI (own_c0 p1), vI (own_c1 p1), vI (own_c2 p1), vR b1_0, vR b3_0, vR b6_0, vR b6_1, .unset, .unset, .unset] [(.int (((own_l p0) + (35 : Int32)) + (own_l p1)))]) _
    refine XS.iloadN X19'.here hx rfl (hb hby at_141) rfl ?_
    refine XS.bipush X19'.here hx rfl (hb hby at_142) ?_
    refine XS.iadd X19'.here hx rfl (hb hby at_144) rfl ?_
    refine XS.iload X19'.here hx rfl (hb hby at_145) rfl ?_
    refine XS.iadd X19'.here hx rfl (hb hby at_147) rfl ?_
    refine XS.icmpYes X19'.here hx rfl (pc0 := 148) (pc' := 153) rfl (hb hby at_148) rfl (teq (rfl : (((own_l p0) + (35 : Int32)) + (own_l p1)) = (((own_l p0) + (35 : Int32)) + (own_l p1)))).1 (by decide) (by decide) ?_
    show SP p e below T19 (mkF m 153 #[vI p0, vI p1, vI (own_l p0), vI (own_c0 p0), vI (own_c1 p0), vI (own_c2 p0), vI (own_l p1), vI (own_c0 p1), vI (own_c1 p1), vI (own_c2 p1), vR b1_0, vR b3_0, vR b6_0, vR b6_1, .unset, .unset, .unset] []) _
    refine st22 _ ?_
    show SP p e below T22 (mkF m 168 #[vI p0, vI p1, vI (own_l p0), vI (own_c0 p0), vI (own_c1 p0), vI (own_c2 p0), vI (own_l p1), vI (own_c0 p1), vI (own_c1 p1), vI (own_c2 p1), vR b1_0, vR b3_0, vR b6_0, vR b6_1, .unset, .unset, .unset] []) _
    refine st23 _ ?_
    show SP p e below T23 (mkF m 184 #[vI p0, vI p1, vI (own_l p0), vI (own_c0 p0), vI (own_c1 p0), vI (own_c2 p0), vI (own_l p1), vI (own_c0 p1), vI (own_c1 p1), vI (own_c2 p1), vR b1_0, vR b3_0, vR b6_0, vR b6_1, .unset, .unset, .unset] []) _
    refine st24 _ ?_
    show SP p e below T24 (mkF m 200 #[vI p0, vI p1, vI (own_l p0), vI (own_c0 p0), vI (own_c1 p0), vI (own_c2 p0), vI (own_l p1), vI (own_c0 p1), vI (own_c1 p1), vI (own_c2 p1), vR b1_0, vR b3_0, vR b6_0, vR b6_1, .unset, .unset, .unset] []) _
    refine XS.iconst X24.here hx rfl (hb hby at_200) ?_
    refine XS.goto X24.here hx rfl (pc0 := 201) (pc' := 205) rfl (hb hby at_201) (by decide) (by decide) ?_
    refine XS.istore X24.here hx rfl (hb hby at_205) rfl (l' := #[vI p0, vI p1, vI (own_l p0), vI (own_c0 p0), vI (own_c1 p0), vI (own_c2 p0), vI (own_l p1), vI (own_c0 p1), vI (own_c1 p1), vI (own_c2 p1), vR b1_0, vR b3_0, vR b6_0, vR b6_1, vI (1 : Int32), .unset, .unset]) rfl ?_
    refine XS.iloadN X24.here hx rfl (hb hby at_207) rfl ?_
    refine XS.bipush X24.here hx rfl (hb hby at_208) ?_
    refine XS.iadd X24.here hx rfl (hb hby at_210) rfl ?_
    refine XS.istore X24.here hx rfl (hb hby at_211) rfl (l' := #[vI p0, vI p1, vI (own_l p0), vI (own_c0 p0), vI (own_c1 p0), vI (own_c2 p0), vI (own_l p1), vI (own_c0 p1), vI (own_c1 p1), vI (own_c2 p1), vR b1_0, vR b3_0, vR b6_0, vR b6_1, vI (1 : Int32), vI ((own_l p0) + (35 : Int32)), .unset]) rfl ?_
    show SP p e below T24 (mkF m 213 #[vI p0, vI p1, vI (own_l p0), vI (own_c0 p0), vI (own_c1 p0), vI (own_c2 p0), vI (own_l p1), vI (own_c0 p1), vI (own_c1 p1), vI (own_c2 p1), vR b1_0, vR b3_0, vR b6_0, vR b6_1, vI (1 : Int32), vI ((own_l p0) + (35 : Int32)), .unset] []) _
    refine st25 _ ?_
    show SP p e below T25 (mkF m 231 #[vI p0, vI p1, vI (own_l p0), vI (own_c0 p0), vI (own_c1 p0), vI (own_c2 p0), vI (own_l p1), vI (own_c0 p1), vI (own_c1 p1), vI (own_c2 p1), vR b1_0, vR b3_0, vR b6_0, vR b6_1, vI (1 : Int32), vI ((own_l p0) + (35 : Int32)), .unset] []) _
    refine st26 _ ?_
    show SP p e below T26 (mkF m 251 #[vI p0, vI p1, vI (own_l p0), vI (own_c0 p0), vI (own_c1 p0), vI (own_c2 p0), vI (own_l p1), vI (own_c0 p1), vI (own_c1 p1), vI (own_c2 p1), vR b1_0, vR b3_0, vR b6_0, vR b6_1, vI (1 : Int32), vI ((own_l p0) + (35 : Int32)), .unset] []) _
    refine st27 _ ?_
    show SP p e below T27 (mkF m 271 #[vI p0, vI p1, vI (own_l p0), vI (own_c0 p0), vI (own_c1 p0), vI (own_c2 p0), vI (own_l p1), vI (own_c0 p1), vI (own_c1 p1), vI (own_c2 p1), vR b1_0, vR b3_0, vR b6_0, vR b6_1, vI (1 : Int32), vI ((own_l p0) + (35 : Int32)), .unset] []) _
    refine XS.iconst X27.here hx rfl (hb hby at_271) ?_
    refine XS.goto X27.here hx rfl (pc0 := 272) (pc' := 276) rfl (hb hby at_272) (by decide) (by decide) ?_
    refine XS.istore X27.here hx rfl (hb hby at_276) rfl (l' := #[vI p0, vI p1, vI (own_l p0), vI (own_c0 p0), vI (own_c1 p0), vI (own_c2 p0), vI (own_l p1), vI (own_c0 p1), vI (own_c1 p1), vI (own_c2 p1), vR b1_0, vR b3_0, vR b6_0, vR b6_1, vI (1 : Int32), vI ((own_l p0) + (35 : Int32)), vI (1 : Int32)]) rfl ?_
    refine XS.iload X27.here hx rfl (hb hby at_278) rfl ?_
    refine XS.ifNo X27.here hx rfl (hb hby at_280) rfl ((if0 _ _).trans (feq (by decide : ¬ ((1 : Int32) = (0 : Int32)))).1) ?_
    refine XS.aload X27.here hx rfl (hb hby at_283) rfl rfl ?_
    refine XS.iloadN X27.here hx rfl (hb hby at_285) rfl ?_
    show SP p e below T27 (mkF m 286 #[vI p0, vI p1, vI (own_l p0), vI (own_c0 p0), vI (own_c1 p0), vI (own_c2 p0), vI (own_l p1), vI (own_c0 p1), vI (own_c1 p1), vI (own_c2 p1), vR b1_0, vR b3_0, vR b6_0, vR b6_1, vI (1 : Int32), vI ((own_l p0) + (35 : Int32)), vI (1 : Int32)] [(.int (own_l p0)), (.ref b6_1)]) _
    refine st28.trans ?_
    show SP p e below T28 (mkF m 289 #[vI p0, vI p1, vI (own_l p0), vI (own_c0 p0), vI (own_c1 p0), vI (own_c2 p0), vI (own_l p1), vI (own_c0 p1), vI (own_c1 p1), vI (own_c2 p1), vR b1_0, vR b3_0, vR b6_0, vR b6_1, vI (1 : Int32), vI ((own_l p0) + (35 : Int32)), vI (1 : Int32)] [(.int (1 : Int32))]) _
    refine XS.ifNo X28'.here hx rfl (hb hby at_289) rfl ((if0 _ _).trans (feq (by decide : ¬ ((1 : Int32) = (0 : Int32)))).1) ?_
    refine XS.iload X28'.here hx rfl (hb hby at_292) rfl ?_
    refine XS.ifNo X28'.here hx rfl (hb hby at_294) rfl ((if0 _ _).trans (feq (by decide : ¬ ((1 : Int32) = (0 : Int32)))).1) ?_
    refine XS.iconst X28'.here hx rfl (hb hby at_297) ?_
    refine XS.goto X28'.here hx rfl (pc0 := 298) (pc' := 302) rfl (hb hby at_298) (by decide) (by decide) ?_
    show SP p e below T28 (mkF m 302 #[vI p0, vI p1, vI (own_l p0), vI (own_c0 p0), vI (own_c1 p0), vI (own_c2 p0), vI (own_l p1), vI (own_c0 p1), vI (own_c1 p1), vI (own_c2 p1), vR b1_0, vR b3_0, vR b6_0, vR b6_1, vI (1 : Int32), vI ((own_l p0) + (35 : Int32)), vI (1 : Int32)] [(.int (1 : Int32))]) _
    exact retN X28' hx (t := .boolean) Bd.returns (by simp) (hb hby at_302) hr
  · show Q0 Z p0 p1 sC vF uA uB h0 n0 _ T28.heap _
    exact ⟨rfl, N28⟩
def own_ok (c : Int32) : Prop := nar .char c = c ∧ ¬ ((255 : Int32) < c) ∧ nar .char (own_ch (c.toInt8.toInt32)) = own_ch (c.toInt8.toInt32) ∧ own_ch (c.toInt8.toInt32) = c
theorem own_256 : ∀ n : Fin 256, own_ok ((Int32.ofNat n.val).toUInt32.toUInt16.toUInt32.toInt32) := by
  unfold own_ok
  decide +kernel
theorem own_okc (x : Int32) : own_ok ((x &&& (255 : Int32)).toUInt32.toUInt16.toUInt32.toInt32) := by
  have lt : (x &&& (255 : Int32)).toBitVec.toNat < 256 := by
    show (x.toBitVec &&& 255#32).toNat < 256
    rw [BitVec.toNat_and]; exact Nat.lt_of_le_of_lt Nat.and_le_right (by decide)
  have e : x &&& (255 : Int32) = Int32.ofNat (x &&& (255 : Int32)).toBitVec.toNat := by
    apply Int32.toBitVec_inj.mp
    show _ = BitVec.ofNat 32 _
    rw [BitVec.ofNat_toNat, BitVec.setWidth_eq]
  have q := own_256 ⟨_, lt⟩
  rw [← e] at q
  exact q
theorem own_n3l (x : Int32) : own_n3 (x &&& 3) := by
  have q : (x &&& 3).toBitVec = x.toBitVec &&& 3#32 := rfl
  have z : (x.toBitVec &&& 3#32).toNat < 4 := by rw [BitVec.toNat_and]; exact Nat.lt_of_le_of_lt Nat.and_le_right (by decide)
  have : (x.toBitVec &&& 3#32).toNat = 0 ∨ (x.toBitVec &&& 3#32).toNat = 1 ∨ (x.toBitVec &&& 3#32).toNat = 2 ∨ (x.toBitVec &&& 3#32).toNat = 3 := by omega
  rcases this with u | u | u | u
  · exact Or.inl (Int32.toBitVec_inj.mp (q.trans (BitVec.eq_of_toNat_eq u)))
  · exact Or.inr (Or.inl (Int32.toBitVec_inj.mp (q.trans (BitVec.eq_of_toNat_eq u))))
  · exact Or.inr (Or.inr (Or.inl (Int32.toBitVec_inj.mp (q.trans (BitVec.eq_of_toNat_eq u)))))
  · exact Or.inr (Or.inr (Or.inr (Int32.toBitVec_inj.mp (q.trans (BitVec.eq_of_toNat_eq u)))))
theorem own_pre (k : Nat) (hk : k < 3) {ls ln c0 c1 c2 c : Int32} {fT : Nat → Value} (hls : own_n3 ls) (hln : own_n3 ln) (hc : own_ok c) (e : own_sf c0 c1 c2 k = own_by c) (hj : ¬ (ls < Int32.ofNat (k + 1))) : own_Chr (own_msg (own_sf c0 c1 c2) ls fT) ((ls + (35 : Int32)) + ln) (Int32.ofNat k) c := by
  have q : ¬ (Int32.ofNat k < (0 : Int32)) ∧ Int32.ofNat k < (ls + (35 : Int32)) + ln ∧ (Int32.ofNat k).toNatClampNeg = k ∧ k < ls.toNatClampNeg := by
    rcases hls with rfl | rfl | rfl | rfl <;> rcases hln with rfl | rfl | rfl | rfl <;> match k, hk with
      | 0, _ => first | exact absurd (by decide) hj | decide
      | 1, _ => first | exact absurd (by decide) hj | decide
      | 2, _ => first | exact absurd (by decide) hj | decide
  obtain ⟨q1, q2, q3, q4⟩ := q
  refine ⟨q1, q2, _, ?_, hc.2.2.1, hc.2.2.2⟩
  rw [q3]
  show own_msgN _ _ _ k = _
  unfold own_msgN
  rw [if_pos q4, e]
  rfl
theorem own_suf (k : Nat) (hk : k < 3) {ls ln c0 c1 c2 c j : Int32} {fS : Nat → Value} (hls : own_n3 ls) (hln : own_n3 ln) (hc : own_ok c) (e : own_sf c0 c1 c2 k = own_by c) (hj : ¬ (ln < Int32.ofNat (k + 1))) (ej : (ls + (35 : Int32)) + Int32.ofNat k = j) : own_Chr (own_msg fS ls (own_sf c0 c1 c2)) ((ls + (35 : Int32)) + ln) j c := by
  subst ej
  have q : ¬ ((ls + (35 : Int32)) + Int32.ofNat k < (0 : Int32)) ∧ (ls + (35 : Int32)) + Int32.ofNat k < (ls + (35 : Int32)) + ln ∧ ((ls + (35 : Int32)) + Int32.ofNat k).toNatClampNeg = ls.toNatClampNeg + 35 + k := by
    rcases hls with rfl | rfl | rfl | rfl <;> rcases hln with rfl | rfl | rfl | rfl <;> match k, hk with
      | 0, _ => first | exact absurd (by decide) hj | decide
      | 1, _ => first | exact absurd (by decide) hj | decide
      | 2, _ => first | exact absurd (by decide) hj | decide
  obtain ⟨q1, q2, q3⟩ := q
  refine ⟨q1, q2, _, ?_, hc.2.2.1, hc.2.2.2⟩
  rw [q3]
  show own_msgN _ _ _ _ = _
  unfold own_msgN
  rw [if_neg (by omega), if_neg (by omega), Nat.add_sub_cancel_left, e]
  rfl
theorem own_mid {ls ln : Int32} {fS fT : Nat → Value} (hls : own_n3 ls) (hln : own_n3 ln) : own_Mid (own_msg fS ls fT) ((ls + (35 : Int32)) + ln) ls := fun k hk => by
  have w : ∀ k : Fin 35, ¬ ((ls + Int32.ofNat k.val) < (0 : Int32)) ∧ (ls + Int32.ofNat k.val) < (ls + (35 : Int32)) + ln ∧ (ls + Int32.ofNat k.val).toNatClampNeg = ls.toNatClampNeg + k.val := by
    rcases hls with rfl | rfl | rfl | rfl <;> rcases hln with rfl | rfl | rfl | rfl <;> decide
  obtain ⟨q1, q2, q3⟩ := w ⟨k, hk⟩
  refine ⟨q1, q2, ?_⟩
  show own_msgN _ _ _ _ = _
  rw [show (ls + Int32.ofNat k).toNatClampNeg = ls.toNatClampNeg + k from q3]
  unfold own_msgN
  rw [if_neg (by omega), if_pos (by omega), Nat.add_sub_cancel_left]
theorem own_TK {s : State} (h : (s.vm.classes.all fun k => match k.cf with
    | some cf => k.methods.size == cf.methods.size
    | none => true) = true) : s.vm.MethodsKnown := fun m x hx => by
  cases hk : s.vm.classes[m.cls]? with
  | none => simp [Vm.method?, hk] at hx
  | some k =>
    have q : k.methods[m.idx]? = some x := by simpa [Vm.method?, hk] using hx
    refine ⟨k, hk, fun cf hcf => ?_⟩
    obtain ⟨lt, e⟩ := Array.getElem?_eq_some_iff.mp hk
    have z := Array.all_eq_true.mp h m.cls lt
    rw [e, hcf] at z
    have z' : k.methods.size = cf.methods.size := by simpa using z
    have l2 := (Array.getElem?_eq_some_iff.mp q).1
    rw [z'] at l2
    simp [l2]
theorem own_FK {s : State} {f : Frame} {below : List Frame} (h : (s.frames.all fun f => match f with
    | Frame.java g => (match s.vm.classes[g.method.cls]? with
      | some k => (match k.cf with
        | some cf => (cf.methods[g.method.idx]?).isSome
        | none => true)
      | none => false)
    | Frame.native n => (match s.vm.classes[n.method.cls]? with
      | some k => (match k.cf with
        | some cf => (cf.methods[n.method.idx]?).isSome
        | none => true)
      | none => false)
    | _ => true) = true) (hf : s.frames = f :: below) : s.vm.FramesKnown below := fun y hy m' hm => by
  have z := List.all_eq_true.mp h y (by rw [hf]; exact List.mem_cons_of_mem _ hy)
  have go : ∀ i : MethodId, (match s.vm.classes[i.cls]? with
      | some k => (match k.cf with
        | some cf => (cf.methods[i.idx]?).isSome
        | none => true)
      | none => false) = true → s.vm.knowsMethod i := fun i q => by
    cases hk : s.vm.classes[i.cls]? with
    | none => rw [hk] at q; cases q
    | some k => exact ⟨k, hk, fun cf hcf => by rw [hk] at q; simp only [hcf] at q; exact q⟩
  cases y with
  | java g => cases hm; exact go _ z
  | native n => cases hm; exact go _ z
  | _ => cases hm
set_option maxRecDepth 65536 in
set_option maxHeartbeats 40000000 in
theorem comes_1 {Post : Tables → Env → Array Value → State → Outcome → State → Prop} (hpost : ∀ tb e args s v u, (limb_1_1.after args s (.returned v) u = true ∧ limb_1_2.after args s (.returned v) u = true ∧ True) → ReturnedEndW s (.returned v) u (Jvm.fieldLocs frame_1_writes args s ++ Jvm.arrayLocs frame_1_arrays args s ++ Jvm.staticLocs frame_1_statics s) 48 9088 → Post tb e args s (.returned v) u) :
    ArmFor flags0 classFile x code maxLocals ret World_1 tables_1 room_1 Calls_1 rest_1 Pre_1 Post := by
  intro l hfl _ _ p e ha hc hk s m args below hf hA hF happ hP
  obtain ⟨hcalls, hrest, hpre⟩ := hP
  obtain ⟨-, -, -, hnamed, -, -, -, hat⟩ := (Spec.applies_iff hf).mp happ
  obtain ⟨hg, hn⟩ := and_e (Cond.before_iff.mp (show (Jvm.Cond.and given_1 narrow_1).before args s = true from hpre))
  obtain ⟨gc, hg⟩ := and_e hg
  obtain ⟨gi0, hg⟩ := and_e hg
  have gi1 := hg
  obtain ⟨w0, w1, rfl⟩ : ∃ w0 w1 : Value, args = #[w0, w1] := by
    have hs : args.size = 2 := by simpa [Cond.value, given_1] using gc
    obtain ⟨L⟩ := args
    match L, hs with
    | [w0, w1], _ => exact ⟨w0, w1, rfl⟩
  have hw := fun d (hd : d ∈ tables_1) => atoms_spec (ws := Jvm.Cond.code x code maxLocals ret :: tables_1) hat d (List.mem_cons_of_mem _ hd)
  obtain ⟨hsets, hown0⟩ := atoms_of _ (rest_1_c_eq ▸ (show rest_1_c.before _ s = true from hrest))
  obtain ⟨i0, ei0⟩ := is_v gi0
  obtain rfl : w0 = (.int i0) := Option.some.inj ei0
  obtain ⟨i1, ei1⟩ := is_v gi1
  obtain rfl : w1 = (.int i1) := Option.some.inj ei1
  have hC := Cond.before_iff.mp (hsets _ (mg 1 rfl))
  have hC0 := Cond.before_iff.mp (hsets _ (mg 2 rfl))
  have hF := Cond.before_iff.mp (hsets _ (mg 8 rfl))
  have hA := Cond.before_iff.mp (hsets _ (mg 17 rfl))
  have hB := Cond.before_iff.mp (hsets _ (mg 22 rfl))
  obtain ⟨sC, vC⟩ := is_v hC
  obtain ⟨vF, eF, rF⟩ := isR_v hF
  obtain ⟨uA, vA⟩ := arr_v hA
  obtain ⟨uB, vB⟩ := exa_v hB
  have sS := Sta.start vC (Or.inl (hsets _ (mg 0 rfl)))
  have sF := Sta.start eF (Or.inl (hsets _ (mg 7 rfl)))
  have sA := Sta.start vA (Or.inl (hsets _ (mg 15 rfl)))
  have sB := Sta.start vB (Or.inl (hsets _ (mg 20 rfl)))
  have nC : ¬ (sC = (0 : Int32)) := gotF (by simp [Cond.value, vC, show (Term.int 0).eval #[Value.int i0, Value.int i1] s none [] s = some (.int 0) from rfl]) (not_v hC0)
  have nF : own_isR vF := by
    cases vF <;> first | exact Or.inl rfl | exact Or.inr ⟨_, rfl⟩ | cases rF
  have hst : l.stackTraces = true := by
    unfold Launch.stackTraces
    rw [hfl]
    decide
  have nl0 : own_n3 (own_l i0) := own_n3l _
  have nl1 : own_n3 (own_l i1) := own_n3l _
  have o00 : own_ok (own_c0 i0) := own_okc _
  have o01 : own_ok (own_c1 i0) := own_okc _
  have o02 : own_ok (own_c2 i0) := own_okc _
  have o10 : own_ok (own_c0 i1) := own_okc _
  have o11 : own_ok (own_c1 i1) := own_okc _
  have o12 : own_ok (own_c2 i1) := own_okc _
  have hEW0 : EW s _ [(cWN, 36), (cLW, 46), (cST, 7)] := (EW.cons (hw _ (mg 99 rfl)) (by decide) (EW.cons (hw _ (mg 238 rfl)) (by decide) (EW.cons (hw _ (mg 18 rfl)) (by decide) EW.nil)))
  have hCH0 : CHv s [(cWN, 36), (cLW, 46), (cST, 7)] s.vm s.heap := CHv.start hEW0 (fun p hp => by
      simp only [List.mem_cons, List.not_mem_nil, or_false] at hp
      rcases hp with rfl | rfl | rfl
      · exact hcalls.2.2.1 _ (mg 0 rfl)
      · exact hcalls.2.2.1 _ (mg 1 rfl)
      · exact hcalls.2.2.1 _ (mg 2 rfl)) (hsets _ (mg 2 rfl)) (hw _ (mg 19 rfl)) (hw _ (mg 5 rfl))
  obtain ⟨n, o, h1, h2, h3, _, L, rfl, ⟨rfl, N⟩, hq⟩ := rm0 l s _ hw tables_1 i0 i1 sC vF uA uB s.heap s.heap.size (Nat.le_refl _) sS nC sF nF ThS.start sA sB nl0 o00.1 o00.2.1 o01.1 o01.2.1 o02.1 o02.2.1 nl1 o10.1 o10.2.1 o11.1 o11.2.1 o12.1 o12.2.1 hst (fun hj => own_pre 0 (by decide) nl0 nl1 o00 rfl hj) (fun hj => own_pre 1 (by decide) nl0 nl1 o01 rfl hj) (fun hj => own_pre 2 (by decide) nl0 nl1 o02 rfl hj) (fun hj => own_suf 0 (by decide) nl0 nl1 o10 rfl hj (Int32.add_zero _)) (fun hj => own_suf 1 (by decide) nl0 nl1 o11 rfl hj rfl) (fun hj => own_suf 2 (by decide) nl0 nl1 o12 rfl hj rfl) (own_mid nl0 nl1) p e ha hc hk s m _ below hf ((Spec.applies_iff_loose hf).mp happ).1 ⟨rfl, State.Warmed39.refl s, rfl, hCH0⟩ ⟨own_TK hcalls.2.1, own_FK hcalls.1 hf⟩
  refine ⟨n, _, h1, h2, h3, hpost _ _ _ _ _ _ ⟨Cond.after_iff.mpr rfl, Cond.after_iff.mpr (eq_i res_at (Term.int_eval (1)) rfl), trivial⟩ ⟨hq.1, hq.2.1, hq.2.2.1, (hq.2.2.2.sift fun y hy => Or.inr (N y hy)).mono (by decide) (by decide)⟩⟩
theorem main_1_1 : Claimed_1_1 := comes_1 fun _ _ _ _ _ _ h hF => ⟨h.1, hF⟩
theorem main_1_2 : Claimed_1_2 := comes_1 fun _ _ _ _ _ _ h hF => ⟨h.2.1, hF⟩
end Jvm.Pilot.@@N@@
namespace Jvm.Pilot.@@N@@
open Jvm Jvm.ClassFile Sem Op Lib Jvm.Free Jvm.Stand Jvm.Pilot.@@N@@.Jvm.D
/-! MADE BY PROGRAM (witnessworld.py) out of the Statement's table words and the real class files: 43 classes; the members and pool entries that the words name. The judged class is class 1, her method 1. -/
namespace start1
open Jvm.ClassFile
def wM (a n d : Nat) : MethodInfo := { accessFlags := a, nameIndex := n, descriptorIndex := d, attributes := #[] }
def wN (a n d : Nat) : FieldInfo := { accessFlags := a, nameIndex := n, descriptorIndex := d, attributes := #[] }
def wF (n : String) (t : FieldType) (a s : Nat) : Field := { name := n, type := t, accessFlags := a, slot := s, constantValue := 0 }
def wC (a b : Nat) (c : ByteArray) : Code := { maxStack := a, maxLocals := b, code := c, exceptionTable := #[], attributes := #[] }
def wD (n d : String) (p : List FieldType) (r : Option FieldType) (a : Nat) (c : Option Code) : Method := { name := n, desc := d, sig := { parameters := p, returnType := r }, accessFlags := a, code := c }
def u (s : String) : CpInfo := .utf8 (stringToUtf16 s)
/-- a pool by its gaps: so many unusable entries, then the entry; so many at the end -/
def gap : Nat → List CpInfo → List CpInfo
  | 0, r => r
  | n + 1, r => .unusable :: gap n r
def poolList (es : List (Nat × CpInfo)) (last : Nat) : List CpInfo := es.foldr (fun e r => gap e.1 (e.2 :: r)) (gap last [])
def pool (es : List (Nat × CpInfo)) (last : Nat) : Array CpInfo := ⟨poolList es last⟩
def fileOf (pool : Array CpInfo) (this : Nat) (attrs : Array Attribute := #[]) (ms : Array MethodInfo := #[]) (fl : Nat := 33) (sup : Nat := 0) (ifs : Array Nat := #[]) (fds : Array FieldInfo := #[]) : ClassFile where
  minorVersion := 0
  majorVersion := 65
  constantPool := pool
  accessFlags := fl
  thisClass := this
  superClass := sup
  interfaces := ifs
  fields := fds
  methods := ms
  attributes := attrs
def plain (name : String) (sup : Option ClassId) : Class where
  name := name
  kind := .ordinary
  loader := none
  accessFlags := 33
  super := sup
  interfaces := #[]
  cf := none
  fields := #[]
  methods := #[]
  instanceTypes := #[]
  staticTypes := #[]
  resolved := #[]
  callSites := []
  init := .initialized
  statics := none
  mirror := none

def pool0 : Array CpInfo := pool [(5, u "<init>"), (0, u "()V"), (1, .class_ 10), (1, u "java/lang/Object"), (85, u "clone"), (0, u "()Ljava/lang/Object;")] 26

def k0c0 : Code := wC 0 1 object_method_1_code
def k0m0 : Method := wD "<init>" "()V" [] none 1 (some k0c0)
def k0m1 : Method := wD "clone" "()Ljava/lang/Object;" [] (some (.object "java/lang/Object")) 260 none
/-- java/lang/Object -/
def k0 : Class := { plain "java/lang/Object" none with
  accessFlags := 33
  interfaces := #[]
  cf := some (fileOf pool0 8 #[] #[(wM 1 5 6), (wM 260 96 97)] 33 0 #[] #[])
  fields := #[]
  methods := #[k0m0, k0m1]
  instanceTypes := #[]
  staticTypes := #[]
  resolved := Array.replicate 124 none
  statics := none }

def pool1 : Array CpInfo := pool [(2, .class_ 4), (1, u "java/lang/Object"), (0, u "<init>"), (0, u "()V"), (0, .methodref 8 9), (0, .class_ 10), (0, .nameAndType 11 12), (0, u "com/example/key_lease/keylease/store/WatchedNameClosedStorePinLaw"), (0, u "str"), (0, u "(ICCC)Ljava/lang/String;"), (0, .methodref 14 15), (0, .class_ 16), (0, .nameAndType 17 18), (0, u "com/example/key_lease/keylease/store/WatchedName"), (0, u "closedStore"), (0, u "(Ljava/lang/String;Ljava/lang/String;)Lcom/example/key_lease/keylease/store/StoreException;"), (0, .methodref 20 21), (0, .class_ 22), (0, .nameAndType 23 24), (0, u "com/example/key_lease/keylease/store/StoreException"), (0, u "getCause"), (0, u "()Ljava/lang/Throwable;"), (0, .methodref 20 26), (0, .nameAndType 27 28), (0, u "getMessage"), (0, u "()Ljava/lang/String;"), (0, .methodref 30 31), (0, .class_ 32), (0, .nameAndType 33 34), (0, u "java/lang/String"), (0, u "length"), (0, u "()I"), (0, .methodref 30 36), (0, .nameAndType 37 38), (0, u "charAt"), (0, u "(I)C"), (0, .methodref 8 40), (0, .nameAndType 41 42), (0, u "mid"), (0, u "(Ljava/lang/String;I)Z"), (0, .methodref 30 44), (0, .nameAndType 5 45), (0, u "([C)V"), (0, .string 47), (0, u " is closed: it hears no release of "), (0, .methodref 8 49), (0, .nameAndType 50 51), (0, u "eq"), (0, u "(Ljava/lang/String;ILjava/lang/String;I)Z"), (2, u "law"), (0, u "(II)Z")] 3

def k1m0 : Method := wD "<init>" "()V" [] none 1 none
def k1c1 : Code := wC 4 17 code
def k1m1 : Method := wD "law" "(II)Z" [.int, .int] (some .boolean) 9 (some k1c1)
def k1c2 : Code := wC 3 5 method_3_code
def k1m2 : Method := wD "str" "(ICCC)Ljava/lang/String;" [.int, .char, .char, .char] (some (.object "java/lang/String")) 10 (some k1c2)
def k1c3 : Code := wC 3 4 method_4_code
def k1m3 : Method := wD "eq" "(Ljava/lang/String;ILjava/lang/String;I)Z" [(.object "java/lang/String"), .int, (.object "java/lang/String"), .int] (some .boolean) 10 (some k1c3)
def k1c4 : Code := wC 4 3 method_5_code
def k1m4 : Method := wD "mid" "(Ljava/lang/String;I)Z" [(.object "java/lang/String"), .int] (some .boolean) 10 (some k1c4)
/-- com/example/key_lease/keylease/store/WatchedNameClosedStorePinLaw -/
def k1 : Class := { plain "com/example/key_lease/keylease/store/WatchedNameClosedStorePinLaw" (some 0) with
  accessFlags := 49
  interfaces := #[]
  cf := some (fileOf pool1 8 #[] #[(wM 1 5 6), (wM 9 54 55), (wM 10 11 12), (wM 10 50 51), (wM 10 41 42)] 49 2 #[] #[])
  fields := #[]
  methods := #[k1m0, k1m1, k1m2, k1m3, k1m4]
  instanceTypes := #[]
  staticTypes := #[]
  resolved := Array.replicate 59 none
  statics := none }

def pool2 : Array CpInfo := pool [(1, .class_ 2), (0, u "java/io/Serializable"), (0, .class_ 4), (0, u "java/lang/Object")] 2

/-- java/io/Serializable -/
def k2 : Class := { plain "java/io/Serializable" (some 0) with
  accessFlags := 1537
  interfaces := #[]
  cf := some (fileOf pool2 1 #[] #[] 1537 3 #[] #[])
  fields := #[]
  methods := #[]
  instanceTypes := #[]
  staticTypes := #[]
  resolved := Array.replicate 7 none
  statics := none }

def pool3 : Array CpInfo := pool [(1, .class_ 2), (0, u "java/lang/Comparable"), (0, .class_ 4), (0, u "java/lang/Object")] 7

/-- java/lang/Comparable -/
def k3 : Class := { plain "java/lang/Comparable" (some 0) with
  accessFlags := 1537
  interfaces := #[]
  cf := some (fileOf pool3 1 #[] #[] 1537 3 #[] #[])
  fields := #[]
  methods := #[]
  instanceTypes := #[]
  staticTypes := #[]
  resolved := Array.replicate 12 none
  statics := none }

def pool4 : Array CpInfo := pool [(2, .class_ 4), (1, u "java/lang/CharSequence"), (42, .class_ 48), (0, u "java/lang/CharSequence$1CodePointIterator"), (10, .class_ 60), (0, u "java/lang/CharSequence$1CharIterator"), (5, .class_ 67), (0, u "java/lang/Object")] 63

/-- java/lang/CharSequence -/
def k4 : Class := { plain "java/lang/CharSequence" (some 0) with
  accessFlags := 1537
  interfaces := #[]
  cf := some (fileOf pool4 2 #[.nestMembers #[47, 59]] #[] 1537 66 #[] #[])
  fields := #[]
  methods := #[]
  instanceTypes := #[]
  staticTypes := #[]
  resolved := Array.replicate 131 none
  statics := none }

def pool5 : Array CpInfo := pool [(1, .class_ 2), (0, u "java/lang/constant/Constable"), (0, .class_ 4), (0, u "java/lang/Object")] 6

/-- java/lang/constant/Constable -/
def k5 : Class := { plain "java/lang/constant/Constable" (some 0) with
  accessFlags := 1537
  interfaces := #[]
  cf := some (fileOf pool5 1 #[] #[] 1537 3 #[] #[])
  fields := #[]
  methods := #[]
  instanceTypes := #[]
  staticTypes := #[]
  resolved := Array.replicate 11 none
  statics := none }

def pool6 : Array CpInfo := pool [(1, .class_ 2), (0, u "java/lang/constant/ConstantDesc"), (0, .class_ 4), (0, u "java/lang/Object")] 32

/-- java/lang/constant/ConstantDesc -/
def k6 : Class := { plain "java/lang/constant/ConstantDesc" (some 0) with
  accessFlags := 1537
  interfaces := #[]
  cf := some (fileOf pool6 1 #[] #[] 1537 3 #[] #[])
  fields := #[]
  methods := #[]
  instanceTypes := #[]
  staticTypes := #[]
  resolved := Array.replicate 37 none
  statics := none }

def pool7 : Array CpInfo := pool [(1, .methodref 2 3), (0, .class_ 4), (0, .nameAndType 5 6), (0, u "java/lang/Object"), (0, u "<init>"), (0, u "()V"), (0, .string 8), (0, u ""), (0, .fieldref 10 11), (0, .class_ 12), (0, .nameAndType 13 14), (0, u "java/lang/String"), (0, u "value"), (0, u "[B"), (0, .fieldref 10 16), (0, .nameAndType 17 18), (0, u "coder"), (0, u "B"), (2, u "hash"), (0, u "I"), (2, u "hashIsZero"), (0, u "Z"), (0, .methodref 10 28), (0, .nameAndType 5 29), (0, u "([CIILjava/lang/Void;)V"), (8, .fieldref 10 39), (0, .nameAndType 40 26), (0, u "COMPACT_STRINGS"), (1, .class_ 44), (1, u "java/lang/StringUTF16"), (0, u "compress"), (1, .methodref 42 48), (0, .nameAndType 49 50), (0, u "coderFromArrayLen"), (0, u "([BI)B"), (3, .methodref 55 56), (0, .class_ 57), (0, .nameAndType 58 59), (0, u "java/util/Arrays"), (0, u "copyOfRange"), (0, u "([BII)[B"), (47, .class_ 109), (1, u "java/lang/StringLatin1"), (32, u "()Z"), (34, .methodref 42 178), (0, .nameAndType 45 179), (0, u "([CII)[B"), (13, .class_ 195), (1, u "java/lang/System"), (16, .methodref 193 213), (0, .nameAndType 214 215), (0, u "arraycopy"), (0, u "(Ljava/lang/Object;ILjava/lang/Object;II)V"), (118, u "()I"), (0, .methodref 10 336), (0, .nameAndType 17 337), (0, u "()B"), (2, u "()[B"), (22, u "([BI)C"), (27, u "(II)V"), (35, u "(I)C"), (61, .methodref 10 490), (0, .nameAndType 5 491), (0, u "(Ljava/lang/AbstractStringBuilder;Ljava/lang/Void;)V"), (0, .methodref 10 493), (0, .nameAndType 494 142), (0, u "isLatin1"), (0, .methodref 107 496), (0, .nameAndType 497 363), (0, u "charAt"), (3, u "checkIndex"), (4, .nameAndType 507 334), (0, u "length"), (24, u "getBytes"), (16, .methodref 550 506), (0, .class_ 551), (0, u "java/lang/AbstractStringBuilder"), (0, .methodref 550 553), (0, .nameAndType 554 340), (0, u "getValue"), (20, .class_ 576), (0, u "java/lang/CharSequence"), (22, u "CASE_INSENSITIVE_ORDER"), (0, u "Ljava/util/Comparator;"), (220, u "([BIB)V"), (188, u "([C)V"), (36, .methodref 550 493), (5, .fieldref 1054 1055), (0, .class_ 1056), (0, .nameAndType 1057 1058), (0, u "jdk/internal/util/Preconditions"), (0, u "SIOOBE_FORMATTER"), (0, u "Ljava/util/function/BiFunction;"), (0, .methodref 1054 1060), (0, .nameAndType 501 1061), (0, u "(IILjava/util/function/BiFunction;)I"), (39, u "serialPersistentFields"), (0, u "[Ljava/io/ObjectStreamField;"), (0, .class_ 1104), (0, u "java/lang/String$CaseInsensitiveComparator"), (1, .class_ 1107), (0, u "java/io/Serializable"), (0, .class_ 1109), (0, u "java/lang/Comparable"), (0, .class_ 1111), (0, u "java/lang/constant/Constable"), (0, .class_ 1113), (0, u "java/lang/constant/ConstantDesc"), (2, u "serialVersionUID"), (0, u "J"), (3, u "REPL"), (0, u "C"), (2, u "LATIN1"), (1, u "UTF16"), (105, u "(Ljava/lang/StringBuilder;)V")] 217

def k7m0 : Method := wD "<init>" "()V" [] none 1 none
def k7c1 : Code := wC 5 2 jdk_42_method_3_code
def k7m1 : Method := wD "<init>" "([C)V" [(.array .char)] none 1 (some k7c1)
def k7c2 : Code := wC 3 2 jdk_42_method_53_code
def k7m2 : Method := wD "<init>" "(Ljava/lang/StringBuilder;)V" [(.object "java/lang/StringBuilder")] none 1 (some k7c2)
def k7c3 : Code := wC 2 1 jdk_42_method_54_code
def k7m3 : Method := wD "length" "()I" [] (some .int) 1 (some k7c3)
def k7c4 : Code := wC 2 2 jdk_42_method_56_code
def k7m4 : Method := wD "charAt" "(I)C" [.int] (some .char) 1 (some k7c4)
def k7c5 : Code := wC 5 4 jdk_42_method_147_code
def k7m5 : Method := wD "getBytes" "([BIB)V" [(.array .byte), .int, .byte] none 0 (some k7c5)
def k7c6 : Code := wC 4 6 jdk_42_method_149_code
def k7m6 : Method := wD "<init>" "([CIILjava/lang/Void;)V" [(.array .char), .int, .int, (.object "java/lang/Void")] none 2 (some k7c6)
def k7c7 : Code := wC 5 5 jdk_42_method_150_code
def k7m7 : Method := wD "<init>" "(Ljava/lang/AbstractStringBuilder;Ljava/lang/Void;)V" [(.object "java/lang/AbstractStringBuilder"), (.object "java/lang/Void")] none 0 (some k7c7)
def k7c8 : Code := wC 1 1 jdk_42_method_152_code
def k7m8 : Method := wD "coder" "()B" [] (some .byte) 0 (some k7c8)
def k7c9 : Code := wC 1 1 jdk_42_method_154_code
def k7m9 : Method := wD "isLatin1" "()Z" [] (some .boolean) 0 (some k7c9)
def k7c10 : Code := wC 3 2 jdk_42_method_155_code
def k7m10 : Method := wD "checkIndex" "(II)V" [.int, .int] none 8 (some k7c10)
/-- java/lang/String -/
def k7 : Class := { plain "java/lang/String" (some 0) with
  accessFlags := 49
  interfaces := #[2, 3, 4, 5, 6]
  cf := some (fileOf pool7 10 #[.nestMembers #[1103]] #[(wM 1 5 6), (wM 1 5 1010), (wM 1 5 1233), (wM 1 507 334), (wM 1 497 427), (wM 0 532 821), (wM 2 5 29), (wM 0 5 491), (wM 0 17 337), (wM 0 494 142), (wM 8 501 391)] 49 2 #[1106, 1108, 575, 1110, 1112] #[(wN 18 13 14), (wN 18 17 18), (wN 2 21 22), (wN 2 25 26), (wN 26 1116 1117), (wN 24 40 26), (wN 26 1101 1102), (wN 26 1121 1122), (wN 25 599 600), (wN 24 1125 18), (wN 24 1127 18)])
  fields := #[wF "value" (.array .byte) 18 0, wF "coder" .byte 18 1, wF "hash" .int 2 2, wF "hashIsZero" .boolean 2 3, wF "serialVersionUID" .long 26 0, wF "COMPACT_STRINGS" .boolean 24 1, wF "serialPersistentFields" (.array (.object "java/io/ObjectStreamField")) 26 2, wF "REPL" .char 26 3, wF "CASE_INSENSITIVE_ORDER" (.object "java/util/Comparator") 25 4, wF "LATIN1" .byte 24 5, wF "UTF16" .byte 24 6]
  methods := #[k7m0, k7m1, k7m2, k7m3, k7m4, k7m5, k7m6, k7m7, k7m8, k7m9, k7m10]
  instanceTypes := #[(.array .byte), .byte, .int, .boolean]
  staticTypes := #[.long, .boolean, (.array (.object "java/io/ObjectStreamField")), .char, (.object "java/util/Comparator"), .byte, .byte]
  resolved := Array.replicate 1451 none
  statics := some 0 }

def pool8 : Array CpInfo := pool [(2, .class_ 4), (0, .nameAndType 5 6), (0, u "java/lang/Object"), (0, u "<init>"), (0, u "()V"), (4, .class_ 13), (1, u "com/example/key_lease/keylease/store/WatchedName"), (0, u "watches"), (0, u "Ljava/util/Deque;"), (2, u "name"), (0, u "Ljava/lang/String;"), (2, u "store"), (2, u "lock"), (0, u "Ljava/util/concurrent/locks/ReentrantLock;"), (0, .class_ 28), (0, u "com/example/key_lease/keylease/store/StoreException"), (0, .class_ 30), (0, u "java/lang/StringBuilder"), (0, .methodref 29 3), (0, .methodref 29 33), (0, .nameAndType 34 35), (0, u "append"), (0, u "(Ljava/lang/String;)Ljava/lang/StringBuilder;"), (0, .string 37), (0, u " is closed: it hears no release of "), (0, .methodref 29 39), (0, .nameAndType 40 41), (0, u "toString"), (0, u "()Ljava/lang/String;"), (0, .methodref 27 43), (0, .nameAndType 5 44), (0, u "(Ljava/lang/String;Ljava/lang/Throwable;)V"), (0, .class_ 46), (0, u "com/example/key_lease/keylease/store/WatchedName$Watch"), (66, u "HOLD_BACK_NANOS"), (0, u "J"), (0, .class_ 116), (0, u "com/example/key_lease/keylease/store/WatchedName$1"), (3, u "NOBODY"), (0, u "Lcom/example/key_lease/keylease/store/WatchedName$Listener;"), (6, u "NOTHING"), (0, u "Ljava/lang/Runnable;"), (0, u "HOLD_BACK_MILLIS"), (6, u "closedStore"), (0, u "(Ljava/lang/String;Ljava/lang/String;)Lcom/example/key_lease/keylease/store/StoreException;"), (15, .class_ 155), (0, u "com/example/key_lease/keylease/store/WatchedName$Listener")] 20

def k8c0 : Code := wC 4 2 prog_20_method_2_code
def k8m0 : Method := wD "closedStore" "(Ljava/lang/String;Ljava/lang/String;)Lcom/example/key_lease/keylease/store/StoreException;" [(.object "java/lang/String"), (.object "java/lang/String")] (some (.object "com/example/key_lease/keylease/store/StoreException")) 8 (some k8c0)
/-- com/example/key_lease/keylease/store/WatchedName -/
def k8 : Class := { plain "com/example/key_lease/keylease/store/WatchedName" (some 0) with
  accessFlags := 1056
  interfaces := #[]
  cf := some (fileOf pool8 11 #[.nestMembers #[45, 154, 115]] #[(wM 8 137 138)] 1056 2 #[] #[(wN 24 130 114), (wN 26 113 114), (wN 24 120 121), (wN 24 128 129), (wN 18 18 19), (wN 18 22 19), (wN 18 25 26), (wN 18 14 15)])
  fields := #[wF "HOLD_BACK_MILLIS" .long 24 0, wF "HOLD_BACK_NANOS" .long 26 1, wF "NOBODY" (.object "com/example/key_lease/keylease/store/WatchedName$Listener") 24 2, wF "NOTHING" (.object "java/lang/Runnable") 24 3, wF "name" (.object "java/lang/String") 18 0, wF "store" (.object "java/lang/String") 18 1, wF "lock" (.object "java/util/concurrent/locks/ReentrantLock") 18 2, wF "watches" (.object "java/util/Deque") 18 3]
  methods := #[k8m0]
  instanceTypes := #[(.object "java/lang/String"), (.object "java/lang/String"), (.object "java/util/concurrent/locks/ReentrantLock"), (.object "java/util/Deque")]
  staticTypes := #[.long, .long, (.object "com/example/key_lease/keylease/store/WatchedName$Listener"), (.object "java/lang/Runnable")]
  resolved := Array.replicate 176 none
  statics := none }

def pool9 : Array CpInfo := pool [(1, .methodref 2 3), (0, .class_ 4), (0, .nameAndType 5 6), (0, u "java/lang/Object"), (0, u "<init>"), (0, u "()V"), (0, .fieldref 8 9), (0, .class_ 10), (0, .nameAndType 11 12), (0, u "java/lang/Throwable"), (0, u "cause"), (0, u "Ljava/lang/Throwable;"), (0, .fieldref 8 14), (0, .nameAndType 15 16), (0, u "UNASSIGNED_STACK"), (0, u "[Ljava/lang/StackTraceElement;"), (0, .fieldref 8 18), (0, .nameAndType 19 16), (0, u "stackTrace"), (0, .fieldref 8 21), (0, .nameAndType 22 23), (0, u "SUPPRESSED_SENTINEL"), (0, u "Ljava/util/List;"), (0, .fieldref 8 25), (0, .nameAndType 26 23), (0, u "suppressedExceptions"), (0, .methodref 8 28), (0, .nameAndType 29 30), (0, u "fillInStackTrace"), (0, u "()Ljava/lang/Throwable;"), (0, .fieldref 8 32), (0, .nameAndType 33 34), (0, u "detailMessage"), (0, u "Ljava/lang/String;"), (3, u "()Ljava/lang/String;"), (2, u "getMessage"), (21, u "(Ljava/lang/String;Ljava/lang/Throwable;)V"), (29, .class_ 94), (0, u "java/lang/Throwable$WrappedPrintStream"), (6, .class_ 103), (1, u "java/lang/Throwable$PrintStreamOrWriter"), (54, u "getCause"), (6, u "$assertionsDisabled"), (0, u "Z"), (26, .class_ 194), (0, u "java/lang/Throwable$WrappedPrintWriter"), (3, .fieldref 8 199), (0, .nameAndType 200 201), (0, u "backtrace"), (0, u "Ljava/lang/Object;"), (0, .methodref 8 203), (0, .nameAndType 29 204), (0, u "(I)Ljava/lang/Throwable;"), (6, u "depth"), (0, u "I"), (56, .class_ 271), (1, u "java/lang/Throwable$SentinelHolder"), (32, u "EMPTY_THROWABLE_ARRAY"), (0, u "[Ljava/lang/Throwable;"), (12, .class_ 319), (0, u "java/io/Serializable"), (0, u "serialVersionUID"), (0, u "J"), (5, u "NULL_CAUSE_MESSAGE"), (0, u "SELF_SUPPRESSION_MESSAGE"), (0, u "CAUSE_CAPTION"), (0, u "SUPPRESSED_CAPTION")] 73

def k9c0 : Code := wC 2 1 jdk_78_method_1_code
def k9m0 : Method := wD "<init>" "()V" [] none 1 (some k9c0)
def k9c1 : Code := wC 2 3 jdk_78_method_3_code
def k9m1 : Method := wD "<init>" "(Ljava/lang/String;Ljava/lang/Throwable;)V" [(.object "java/lang/String"), (.object "java/lang/Throwable")] none 1 (some k9c1)
def k9c2 : Code := wC 1 1 jdk_78_method_6_code
def k9m2 : Method := wD "getMessage" "()Ljava/lang/String;" [] (some (.object "java/lang/String")) 1 (some k9c2)
def k9c3 : Code := wC 2 1 jdk_78_method_8_code
def k9m3 : Method := wD "getCause" "()Ljava/lang/Throwable;" [] (some (.object "java/lang/Throwable")) 33 (some k9c3)
def k9c4 : Code := wC 2 1 jdk_78_method_18_code
def k9m4 : Method := wD "fillInStackTrace" "()Ljava/lang/Throwable;" [] (some (.object "java/lang/Throwable")) 33 (some k9c4)
def k9m5 : Method := wD "fillInStackTrace" "(I)Ljava/lang/Throwable;" [.int] (some (.object "java/lang/Throwable")) 258 none
/-- java/lang/Throwable -/
def k9 : Class := { plain "java/lang/Throwable" (some 0) with
  accessFlags := 33
  interfaces := #[2]
  cf := some (fileOf pool9 8 #[.nestMembers #[193, 93, 101, 269]] #[(wM 1 5 6), (wM 1 5 63), (wM 1 41 38), (wM 33 158 30), (wM 33 29 30), (wM 258 29 204)] 33 2 #[318] #[(wN 26 320 321), (wN 130 200 201), (wN 2 33 34), (wN 26 15 16), (wN 2 11 12), (wN 2 19 16), (wN 130 211 212), (wN 26 22 23), (wN 2 26 23), (wN 26 327 34), (wN 26 328 34), (wN 26 329 34), (wN 26 330 34), (wN 26 304 305), (wN 4120 165 166)])
  fields := #[wF "serialVersionUID" .long 26 0, wF "backtrace" (.object "java/lang/Object") 130 0, wF "detailMessage" (.object "java/lang/String") 2 1, wF "UNASSIGNED_STACK" (.array (.object "java/lang/StackTraceElement")) 26 1, wF "cause" (.object "java/lang/Throwable") 2 2, wF "stackTrace" (.array (.object "java/lang/StackTraceElement")) 2 3, wF "depth" .int 130 4, wF "SUPPRESSED_SENTINEL" (.object "java/util/List") 26 2, wF "suppressedExceptions" (.object "java/util/List") 2 5, wF "NULL_CAUSE_MESSAGE" (.object "java/lang/String") 26 3, wF "SELF_SUPPRESSION_MESSAGE" (.object "java/lang/String") 26 4, wF "CAUSE_CAPTION" (.object "java/lang/String") 26 5, wF "SUPPRESSED_CAPTION" (.object "java/lang/String") 26 6, wF "EMPTY_THROWABLE_ARRAY" (.array (.object "java/lang/Throwable")) 26 7, wF "$assertionsDisabled" .boolean 4120 8]
  methods := #[k9m0, k9m1, k9m2, k9m3, k9m4, k9m5]
  instanceTypes := #[(.object "java/lang/Object"), (.object "java/lang/String"), (.object "java/lang/Throwable"), (.array (.object "java/lang/StackTraceElement")), .int, (.object "java/util/List")]
  staticTypes := #[.long, (.array (.object "java/lang/StackTraceElement")), (.object "java/util/List"), (.object "java/lang/String"), (.object "java/lang/String"), (.object "java/lang/String"), (.object "java/lang/String"), (.array (.object "java/lang/Throwable")), .boolean]
  resolved := Array.replicate 404 none
  statics := some 1 }

def pool10 : Array CpInfo := pool [(2, .class_ 4), (1, u "java/lang/Throwable"), (0, u "<init>"), (0, u "()V"), (3, .methodref 2 11), (0, .nameAndType 5 12), (0, u "(Ljava/lang/String;Ljava/lang/Throwable;)V"), (6, .class_ 20), (0, u "java/lang/Exception"), (0, u "serialVersionUID"), (0, u "J")] 17

def k10m0 : Method := wD "<init>" "()V" [] none 1 none
def k10c1 : Code := wC 3 3 jdk_59_method_3_code
def k10m1 : Method := wD "<init>" "(Ljava/lang/String;Ljava/lang/Throwable;)V" [(.object "java/lang/String"), (.object "java/lang/Throwable")] none 1 (some k10c1)
/-- java/lang/Exception -/
def k10 : Class := { plain "java/lang/Exception" (some 9) with
  accessFlags := 33
  interfaces := #[]
  cf := some (fileOf pool10 19 #[] #[(wM 1 5 6), (wM 1 5 12)] 33 2 #[] #[(wN 24 21 22)])
  fields := #[wF "serialVersionUID" .long 24 0]
  methods := #[k10m0, k10m1]
  instanceTypes := #[(.object "java/lang/Object"), (.object "java/lang/String"), (.object "java/lang/Throwable"), (.array (.object "java/lang/StackTraceElement")), .int, (.object "java/util/List")]
  staticTypes := #[.long]
  resolved := Array.replicate 40 none
  statics := none }

def pool11 : Array CpInfo := pool [(2, .class_ 4), (1, u "java/lang/Exception"), (0, u "<init>"), (0, u "()V"), (3, .methodref 2 11), (0, .nameAndType 5 12), (0, u "(Ljava/lang/String;Ljava/lang/Throwable;)V"), (6, .class_ 20), (0, u "java/lang/RuntimeException"), (0, u "serialVersionUID"), (0, u "J")] 17

def k11m0 : Method := wD "<init>" "()V" [] none 1 none
def k11c1 : Code := wC 3 3 jdk_58_method_3_code
def k11m1 : Method := wD "<init>" "(Ljava/lang/String;Ljava/lang/Throwable;)V" [(.object "java/lang/String"), (.object "java/lang/Throwable")] none 1 (some k11c1)
/-- java/lang/RuntimeException -/
def k11 : Class := { plain "java/lang/RuntimeException" (some 10) with
  accessFlags := 33
  interfaces := #[]
  cf := some (fileOf pool11 19 #[] #[(wM 1 5 6), (wM 1 5 12)] 33 2 #[] #[(wN 24 21 22)])
  fields := #[wF "serialVersionUID" .long 24 0]
  methods := #[k11m0, k11m1]
  instanceTypes := #[(.object "java/lang/Object"), (.object "java/lang/String"), (.object "java/lang/Throwable"), (.array (.object "java/lang/StackTraceElement")), .int, (.object "java/util/List")]
  staticTypes := #[.long]
  resolved := Array.replicate 40 none
  statics := none }

def pool12 : Array CpInfo := pool [(1, .methodref 2 3), (0, .class_ 4), (0, .nameAndType 5 6), (0, u "java/lang/RuntimeException"), (0, u "<init>"), (0, u "(Ljava/lang/String;Ljava/lang/Throwable;)V"), (0, .class_ 8), (0, u "com/example/key_lease/keylease/store/StoreException"), (0, u "serialVersionUID"), (0, u "J")] 7

def k12c0 : Code := wC 3 3 prog_19_method_1_code
def k12m0 : Method := wD "<init>" "(Ljava/lang/String;Ljava/lang/Throwable;)V" [(.object "java/lang/String"), (.object "java/lang/Throwable")] none 1 (some k12c0)
/-- com/example/key_lease/keylease/store/StoreException -/
def k12 : Class := { plain "com/example/key_lease/keylease/store/StoreException" (some 11) with
  accessFlags := 33
  interfaces := #[]
  cf := some (fileOf pool12 7 #[] #[(wM 1 5 6)] 33 2 #[] #[(wN 26 9 10)])
  fields := #[wF "serialVersionUID" .long 26 0]
  methods := #[k12m0]
  instanceTypes := #[(.object "java/lang/Object"), (.object "java/lang/String"), (.object "java/lang/Throwable"), (.array (.object "java/lang/StackTraceElement")), .int, (.object "java/util/List")]
  staticTypes := #[.long]
  resolved := Array.replicate 18 none
  statics := none }

def pool13 : Array CpInfo := pool [(1, .class_ 2), (0, u "java/lang/Appendable"), (0, .class_ 4), (0, u "java/lang/Object")] 9

/-- java/lang/Appendable -/
def k13 : Class := { plain "java/lang/Appendable" (some 0) with
  accessFlags := 1537
  interfaces := #[]
  cf := some (fileOf pool13 1 #[] #[] 1537 3 #[] #[])
  fields := #[]
  methods := #[]
  instanceTypes := #[]
  staticTypes := #[]
  resolved := Array.replicate 14 none
  statics := none }

def pool14 : Array CpInfo := pool [(1, .class_ 2), (0, u "java/lang/String"), (0, .methodref 4 5), (0, .class_ 6), (0, .nameAndType 7 8), (0, u "java/lang/Object"), (0, u "<init>"), (0, u "()V"), (1, .class_ 12), (1, u "java/lang/AbstractStringBuilder"), (0, u "EMPTYVALUE"), (0, u "[B"), (0, .fieldref 10 16), (0, .nameAndType 17 14), (0, u "value"), (0, .fieldref 1 19), (0, .nameAndType 20 21), (0, u "COMPACT_STRINGS"), (0, u "Z"), (0, .fieldref 10 23), (0, .nameAndType 24 25), (0, u "coder"), (0, u "B"), (6, .methodref 1 33), (0, .nameAndType 34 35), (0, u "length"), (0, u "()I"), (3, .integer 2147483647), (0, .methodref 1 41), (0, .nameAndType 24 42), (0, u "()B"), (2, u "append"), (0, u "(Ljava/lang/String;)Ljava/lang/AbstractStringBuilder;"), (1, .class_ 49), (0, u "java/lang/CharSequence"), (19, u "(Ljava/lang/String;)V"), (5, u "maybeLatin1"), (3, .fieldref 10 80), (0, .nameAndType 81 82), (0, u "count"), (0, u "I"), (2, u "isLatin1"), (0, u "()Z"), (13, .methodref 10 101), (0, .nameAndType 102 103), (0, u "ensureCapacityInternal"), (0, u "(I)V"), (0, .methodref 10 105), (0, .nameAndType 106 107), (0, u "newCapacity"), (0, u "(I)I"), (0, .methodref 109 110), (0, .class_ 111), (0, .nameAndType 112 113), (0, u "java/util/Arrays"), (0, u "copyOf"), (0, u "([BI)[B"), (0, .methodref 115 116), (0, .class_ 117), (0, .nameAndType 118 119), (0, u "jdk/internal/util/ArraysSupport"), (0, u "newLength"), (0, u "(III)I"), (88, .methodref 10 209), (0, .nameAndType 210 211), (0, u "putStringAt"), (0, u "(ILjava/lang/String;)V"), (5, u "inflateIfNeededFor"), (2, .nameAndType 221 222), (0, u "getBytes"), (0, u "([BIB)V"), (174, .methodref 10 398), (0, .nameAndType 217 69), (0, .methodref 1 220), (3, u "()[B"), (40, .class_ 445), (0, u "java/lang/Appendable"), (106, u "getValue")] 56

def k14m0 : Method := wD "<init>" "()V" [] none 0 none
def k14c1 : Code := wC 2 2 jdk_68_method_2_code
def k14m1 : Method := wD "<init>" "(I)V" [.int] none 0 (some k14c1)
def k14c2 : Code := wC 1 1 jdk_68_method_6_code
def k14m2 : Method := wD "length" "()I" [] (some .int) 1 (some k14c2)
def k14c3 : Code := wC 4 3 jdk_68_method_9_code
def k14m3 : Method := wD "ensureCapacityInternal" "(I)V" [.int] none 2 (some k14c3)
def k14c4 : Code := wC 5 6 jdk_68_method_10_code
def k14m4 : Method := wD "newCapacity" "(I)I" [.int] (some .int) 2 (some k14c4)
def k14c5 : Code := wC 3 3 jdk_68_method_22_code
def k14m5 : Method := wD "append" "(Ljava/lang/String;)Ljava/lang/AbstractStringBuilder;" [(.object "java/lang/String")] (some (.object "java/lang/AbstractStringBuilder")) 1 (some k14c5)
def k14c6 : Code := wC 1 1 jdk_68_method_64_code
def k14m6 : Method := wD "getValue" "()[B" [] (some (.array .byte)) 16 (some k14c6)
def k14c7 : Code := wC 1 1 jdk_68_method_68_code
def k14m7 : Method := wD "isLatin1" "()Z" [] (some .boolean) 16 (some k14c7)
def k14c8 : Code := wC 2 2 jdk_68_method_71_code
def k14m8 : Method := wD "inflateIfNeededFor" "(Ljava/lang/String;)V" [(.object "java/lang/String")] none 2 (some k14c8)
def k14c9 : Code := wC 4 3 jdk_68_method_73_code
def k14m9 : Method := wD "putStringAt" "(ILjava/lang/String;)V" [.int, (.object "java/lang/String")] none 2 (some k14c9)
/-- java/lang/AbstractStringBuilder -/
def k14 : Class := { plain "java/lang/AbstractStringBuilder" (some 0) with
  accessFlags := 1056
  interfaces := #[13, 4]
  cf := some (fileOf pool14 10 #[] #[(wM 0 7 8), (wM 0 7 103), (wM 1 34 35), (wM 2 102 103), (wM 2 106 107), (wM 1 45 46), (wM 16 552 403), (wM 16 85 86), (wM 2 217 69), (wM 2 210 211)] 1056 4 #[444, 48] #[(wN 0 17 14), (wN 0 24 25), (wN 0 75 21), (wN 0 81 82), (wN 26 13 14)])
  fields := #[wF "value" (.array .byte) 0 0, wF "coder" .byte 0 1, wF "maybeLatin1" .boolean 0 2, wF "count" .int 0 3, wF "EMPTYVALUE" (.array .byte) 26 0]
  methods := #[k14m0, k14m1, k14m2, k14m3, k14m4, k14m5, k14m6, k14m7, k14m8, k14m9]
  instanceTypes := #[(.array .byte), .byte, .boolean, .int]
  staticTypes := #[(.array .byte)]
  resolved := Array.replicate 609 none
  statics := none }

def pool15 : Array CpInfo := pool [(1, .methodref 2 3), (0, .class_ 4), (0, .nameAndType 5 6), (0, u "java/lang/AbstractStringBuilder"), (0, u "<init>"), (0, u "(I)V"), (11, .class_ 20), (1, u "java/lang/String"), (3, .class_ 26), (1, u "java/lang/StringBuilder"), (0, u "append"), (0, u "(Ljava/lang/String;)Ljava/lang/StringBuilder;"), (0, .methodref 2 30), (0, .nameAndType 27 31), (0, u "(Ljava/lang/String;)Ljava/lang/AbstractStringBuilder;"), (105, .methodref 18 138), (0, .nameAndType 5 139), (0, u "(Ljava/lang/StringBuilder;)V"), (5, u "()V"), (10, u "()I"), (186, .methodref 2 344), (0, .nameAndType 345 156), (0, u "length"), (3, .class_ 350), (0, u "java/lang/Appendable"), (0, .class_ 352), (0, u "java/io/Serializable"), (0, .class_ 354), (0, u "java/lang/Comparable"), (0, .class_ 356), (0, u "java/lang/CharSequence"), (0, u "serialVersionUID"), (0, u "J"), (40, u "toString"), (0, u "()Ljava/lang/String;")] 21

def k15c0 : Code := wC 2 1 jdk_67_method_1_code
def k15m0 : Method := wD "<init>" "()V" [] none 1 (some k15c0)
def k15c1 : Code := wC 2 2 jdk_67_method_7_code
def k15m1 : Method := wD "append" "(Ljava/lang/String;)Ljava/lang/StringBuilder;" [(.object "java/lang/String")] (some (.object "java/lang/StringBuilder")) 1 (some k15c1)
def k15c2 : Code := wC 3 1 jdk_67_method_42_code
def k15m2 : Method := wD "toString" "()Ljava/lang/String;" [] (some (.object "java/lang/String")) 1 (some k15c2)
def k15c3 : Code := wC 1 1 jdk_67_method_93_code
def k15m3 : Method := wD "length" "()I" [] (some .int) 4161 (some k15c3)
/-- java/lang/StringBuilder -/
def k15 : Class := { plain "java/lang/StringBuilder" (some 14) with
  accessFlags := 49
  interfaces := #[13, 2, 3, 4]
  cf := some (fileOf pool15 24 #[] #[(wM 1 5 145), (wM 1 27 28), (wM 1 399 400), (wM 4161 345 156)] 49 2 #[349, 351, 353, 355] #[(wN 24 357 358)])
  fields := #[wF "serialVersionUID" .long 24 0]
  methods := #[k15m0, k15m1, k15m2, k15m3]
  instanceTypes := #[(.array .byte), .byte, .boolean, .int]
  staticTypes := #[.long]
  resolved := Array.replicate 422 none
  statics := none }

def pool16 : Array CpInfo := pool [(2, .class_ 4), (1, u "java/lang/Object"), (0, u "<init>"), (0, u "()V"), (1, .class_ 10), (1, u "java/lang/System"), (0, u "allowSecurityManager"), (0, u "I"), (16, u "cons"), (0, u "Ljava/io/Console;"), (77, .class_ 110), (1, u "java/lang/System$CallersHolder"), (43, u "initialErrStream"), (0, u "Ljava/io/PrintStream;"), (19, u "security"), (0, u "Ljava/lang/SecurityManager;"), (31, .class_ 209), (0, u "java/lang/System$1"), (7, u "props"), (0, u "Ljava/util/Properties;"), (2, u "lineSeparator"), (0, u "Ljava/lang/String;"), (96, .class_ 321), (1, u "java/lang/System$LoggerFinder"), (5, .class_ 328), (0, u "java/lang/System$Logger"), (67, u "err"), (2, u "out"), (91, u "notSupportedJnuEncoding"), (15, u "in"), (17, u "initialIn"), (0, u "Ljava/io/InputStream;"), (35, u "bootLayer"), (0, u "Ljava/lang/ModuleLayer;"), (99, .class_ 664), (0, u "java/lang/System$2"), (9, u "NEVER"), (2, u "MAYBE"), (49, u "arraycopy"), (0, u "(Ljava/lang/Object;ILjava/lang/Object;II)V"), (72, .class_ 802), (0, u "java/lang/System$Logger$Level")] 31

def k16m0 : Method := wD "<init>" "()V" [] none 2 none
def k16m1 : Method := wD "arraycopy" "(Ljava/lang/Object;ILjava/lang/Object;II)V" [(.object "java/lang/Object"), .int, (.object "java/lang/Object"), .int, .int] none 265 none
/-- java/lang/System -/
def k16 : Class := { plain "java/lang/System" (some 0) with
  accessFlags := 49
  interfaces := #[]
  cf := some (fileOf pool16 8 #[.nestMembers #[319, 327, 801, 108, 663, 208]] #[(wM 2 5 6), (wM 265 727 728)] 49 2 #[] #[(wN 25 507 526), (wN 25 399 155), (wN 25 396 155), (wN 10 525 526), (wN 26 674 12), (wN 26 677 12), (wN 10 11 12), (wN 74 175 176), (wN 10 491 222), (wN 74 29 30), (wN 74 154 155), (wN 10 217 218), (wN 10 221 222), (wN 8 562 563)])
  fields := #[wF "in" (.object "java/io/InputStream") 25 0, wF "out" (.object "java/io/PrintStream") 25 1, wF "err" (.object "java/io/PrintStream") 25 2, wF "initialIn" (.object "java/io/InputStream") 10 3, wF "NEVER" .int 26 4, wF "MAYBE" .int 26 5, wF "allowSecurityManager" .int 10 6, wF "security" (.object "java/lang/SecurityManager") 74 7, wF "notSupportedJnuEncoding" (.object "java/lang/String") 10 8, wF "cons" (.object "java/io/Console") 74 9, wF "initialErrStream" (.object "java/io/PrintStream") 74 10, wF "props" (.object "java/util/Properties") 10 11, wF "lineSeparator" (.object "java/lang/String") 10 12, wF "bootLayer" (.object "java/lang/ModuleLayer") 8 13]
  methods := #[k16m0, k16m1]
  instanceTypes := #[]
  staticTypes := #[(.object "java/io/InputStream"), (.object "java/io/PrintStream"), (.object "java/io/PrintStream"), (.object "java/io/InputStream"), .int, .int, .int, (.object "java/lang/SecurityManager"), (.object "java/lang/String"), (.object "java/io/Console"), (.object "java/io/PrintStream"), (.object "java/util/Properties"), (.object "java/lang/String"), (.object "java/lang/ModuleLayer")]
  resolved := Array.replicate 834 none
  statics := none }

def pool17 : Array CpInfo := pool [(9, u "<init>"), (6, .class_ 18), (1, u "java/lang/Object"), (0, u "()V"), (1, .class_ 23), (1, u "jdk/internal/util/ArraysSupport"), (0, u "LOG2_ARRAY_LONG_INDEX_SCALE"), (0, u "I"), (2, u "U"), (0, u "Ljdk/internal/misc/Unsafe;"), (8, u "BIG_ENDIAN"), (0, u "Z"), (8, u "LOG2_BYTE_BIT_SIZE"), (4, u "LOG2_ARRAY_INT_INDEX_SCALE"), (54, u "JLA"), (0, u "Ljdk/internal/access/JavaLangAccess;"), (11, u "LOG2_ARRAY_BOOLEAN_INDEX_SCALE"), (9, u "LOG2_ARRAY_BYTE_INDEX_SCALE"), (5, u "LOG2_ARRAY_CHAR_INDEX_SCALE"), (5, u "LOG2_ARRAY_SHORT_INDEX_SCALE"), (18, u "LOG2_ARRAY_FLOAT_INDEX_SCALE"), (24, u "LOG2_ARRAY_DOUBLE_INDEX_SCALE"), (6, .methodref 195 196), (0, .class_ 197), (0, .nameAndType 198 199), (0, u "java/lang/Math"), (0, u "max"), (0, u "(II)I"), (0, .integer 2147483639), (76, u "T_BOOLEAN"), (2, u "T_CHAR"), (1, u "T_FLOAT"), (1, u "T_DOUBLE"), (1, u "T_BYTE"), (1, u "T_SHORT"), (1, u "T_INT"), (1, u "T_LONG"), (1, u "SOFT_MAX_ARRAY_LENGTH"), (56, u "newLength"), (0, u "(III)I")] 25

def k17m0 : Method := wD "<init>" "()V" [] none 2 none
def k17c1 : Code := wC 3 4 jdk_48_method_27_code
def k17m1 : Method := wD "newLength" "(III)I" [.int, .int, .int] (some .int) 9 (some k17c1)
/-- jdk/internal/util/ArraysSupport -/
def k17 : Class := { plain "jdk/internal/util/ArraysSupport" (some 0) with
  accessFlags := 33
  interfaces := #[]
  cf := some (fileOf pool17 21 #[] #[(wM 2 9 19), (wM 9 351 352)] 33 16 #[] #[(wN 24 28 29), (wN 26 38 39), (wN 25 121 25), (wN 25 131 25), (wN 25 137 25), (wN 25 143 25), (wN 25 53 25), (wN 25 24 25), (wN 25 162 25), (wN 25 187 25), (wN 26 48 25), (wN 25 277 25), (wN 25 280 25), (wN 25 282 25), (wN 25 284 25), (wN 25 286 25), (wN 25 288 25), (wN 25 290 25), (wN 25 292 25), (wN 26 108 109), (wN 25 294 25)])
  fields := #[wF "U" (.object "jdk/internal/misc/Unsafe") 24 0, wF "BIG_ENDIAN" .boolean 26 1, wF "LOG2_ARRAY_BOOLEAN_INDEX_SCALE" .int 25 2, wF "LOG2_ARRAY_BYTE_INDEX_SCALE" .int 25 3, wF "LOG2_ARRAY_CHAR_INDEX_SCALE" .int 25 4, wF "LOG2_ARRAY_SHORT_INDEX_SCALE" .int 25 5, wF "LOG2_ARRAY_INT_INDEX_SCALE" .int 25 6, wF "LOG2_ARRAY_LONG_INDEX_SCALE" .int 25 7, wF "LOG2_ARRAY_FLOAT_INDEX_SCALE" .int 25 8, wF "LOG2_ARRAY_DOUBLE_INDEX_SCALE" .int 25 9, wF "LOG2_BYTE_BIT_SIZE" .int 26 10, wF "T_BOOLEAN" .int 25 11, wF "T_CHAR" .int 25 12, wF "T_FLOAT" .int 25 13, wF "T_DOUBLE" .int 25 14, wF "T_BYTE" .int 25 15, wF "T_SHORT" .int 25 16, wF "T_INT" .int 25 17, wF "T_LONG" .int 25 18, wF "JLA" (.object "jdk/internal/access/JavaLangAccess") 26 19, wF "SOFT_MAX_ARRAY_LENGTH" .int 25 20]
  methods := #[k17m0, k17m1]
  instanceTypes := #[]
  staticTypes := #[(.object "jdk/internal/misc/Unsafe"), .boolean, .int, .int, .int, .int, .int, .int, .int, .int, .int, .int, .int, .int, .int, .int, .int, .int, .int, (.object "jdk/internal/access/JavaLangAccess"), .int]
  resolved := Array.replicate 378 none
  statics := none }

def pool18 : Array CpInfo := pool [(1, .class_ 2), (0, u "java/lang/Math"), (1, .class_ 6), (1, u "java/lang/Object"), (0, u "<init>"), (0, u "()V"), (89, .class_ 100), (1, u "java/lang/Math$RandomNumberGeneratorHolder"), (71, u "negativeZeroFloatBits"), (0, u "J"), (2, u "negativeZeroDoubleBits"), (21, u "max"), (2, u "min"), (43, u "$assertionsDisabled"), (0, u "Z"), (88, u "(II)I"), (2, u "twoToTheDoubleScaleDown"), (0, u "D"), (4, u "twoToTheDoubleScaleUp"), (9, u "E"), (3, u "PI"), (2, u "TAU"), (2, u "DEGREES_TO_RADIANS"), (0, u "RADIANS_TO_DEGREES")] 94

def k18m0 : Method := wD "<init>" "()V" [] none 2 none
def k18c1 : Code := wC 2 2 jdk_29_method_65_code
def k18m1 : Method := wD "max" "(II)I" [.int, .int] (some .int) 9 (some k18c1)
def k18c2 : Code := wC 2 2 jdk_29_method_69_code
def k18m2 : Method := wD "min" "(II)I" [.int, .int] (some .int) 9 (some k18c2)
/-- java/lang/Math -/
def k18 : Class := { plain "java/lang/Math" (some 0) with
  accessFlags := 49
  interfaces := #[]
  cf := some (fileOf pool18 1 #[.nestMembers #[98]] #[(wM 2 7 8), (wM 9 198 335), (wM 9 201 335)] 49 4 #[] #[(wN 25 354 339), (wN 25 358 339), (wN 25 361 339), (wN 26 364 339), (wN 26 365 339), (wN 26 172 173), (wN 26 176 173), (wN 8 344 339), (wN 8 338 339), (wN 4120 245 246)])
  fields := #[wF "E" .double 25 0, wF "PI" .double 25 1, wF "TAU" .double 25 2, wF "DEGREES_TO_RADIANS" .double 26 3, wF "RADIANS_TO_DEGREES" .double 26 4, wF "negativeZeroFloatBits" .long 26 5, wF "negativeZeroDoubleBits" .long 26 6, wF "twoToTheDoubleScaleUp" .double 8 7, wF "twoToTheDoubleScaleDown" .double 8 8, wF "$assertionsDisabled" .boolean 4120 9]
  methods := #[k18m0, k18m1, k18m2]
  instanceTypes := #[]
  staticTypes := #[.double, .double, .double, .double, .double, .long, .long, .double, .double, .boolean]
  resolved := Array.replicate 460 none
  statics := none }

def pool19 : Array CpInfo := pool [(2, .class_ 4), (1, u "java/lang/Object"), (0, u "<init>"), (0, u "()V"), (7, .class_ 16), (1, u "java/util/Arrays"), (57, .class_ 76), (1, u "java/util/Arrays$NaturalOrder"), (32, u "()Ljava/lang/Object;"), (3, .class_ 115), (1, u "java/util/Arrays$LegacyMergeSort"), (1, u "Z"), (10, .nameAndType 129 109), (0, u "clone"), (9, u "copyOfRange"), (10, .methodref 151 152), (0, .class_ 153), (0, .nameAndType 154 155), (0, u "java/lang/System"), (0, u "arraycopy"), (0, u "(Ljava/lang/Object;ILjava/lang/Object;II)V"), (146, u "copyOf"), (1, .methodref 305 306), (0, .class_ 307), (0, .nameAndType 308 309), (0, u "java/lang/Math"), (0, u "min"), (0, u "(II)I"), (0, .methodref 311 128), (0, .class_ 312), (0, u "[B"), (26, .methodref 14 340), (0, .nameAndType 341 342), (0, u "copyOfRangeByte"), (0, u "([BII)[B"), (0, .methodref 14 344), (0, .nameAndType 345 346), (0, u "checkLength"), (0, u "(II)V"), (28, .class_ 376), (0, u "java/util/Arrays$ArrayList"), (68, u "$assertionsDisabled"), (269, u "MIN_ARRAY_SORT_GRAN"), (0, u "I"), (2, u "INSERTIONSORT_THRESHOLD"), (149, u "([BI)[B"), (105, .class_ 976), (0, u "java/util/Arrays$ArrayItr")] 52

def k19m0 : Method := wD "<init>" "()V" [] none 2 none
def k19c1 : Code := wC 6 3 jdk_65_method_121_code
def k19m1 : Method := wD "copyOf" "([BI)[B" [(.array .byte), .int] (some (.array .byte)) 9 (some k19c1)
def k19c2 : Code := wC 4 2 jdk_65_method_131_code
def k19m2 : Method := wD "checkLength" "(II)V" [.int, .int] none 10 (some k19c2)
def k19c3 : Code := wC 3 3 jdk_65_method_132_code
def k19m3 : Method := wD "copyOfRange" "([BII)[B" [(.array .byte), .int, .int] (some (.array .byte)) 9 (some k19c3)
def k19c4 : Code := wC 6 5 jdk_65_method_133_code
def k19m4 : Method := wD "copyOfRangeByte" "([BII)[B" [(.array .byte), .int, .int] (some (.array .byte)) 10 (some k19c4)
/-- java/util/Arrays -/
def k19 : Class := { plain "java/util/Arrays" (some 0) with
  accessFlags := 49
  interfaces := #[]
  cf := some (fileOf pool19 14 #[.nestMembers #[975, 375, 113, 74]] #[(wM 2 5 6), (wM 9 302 869), (wM 10 345 346), (wM 9 139 342), (wM 10 341 342)] 49 2 #[] #[(wN 26 715 716), (wN 26 719 716), (wN 4120 445 117)])
  fields := #[wF "MIN_ARRAY_SORT_GRAN" .int 26 0, wF "INSERTIONSORT_THRESHOLD" .int 26 1, wF "$assertionsDisabled" .boolean 4120 2]
  methods := #[k19m0, k19m1, k19m2, k19m3, k19m4]
  instanceTypes := #[]
  staticTypes := #[.int, .int, .boolean]
  resolved := Array.replicate 1029 none
  statics := none }

def pool20 : Array CpInfo := pool [(1, .class_ 2), (0, u "java/lang/Cloneable"), (0, .class_ 4), (0, u "java/lang/Object")] 2

/-- java/lang/Cloneable -/
def k20 : Class := { plain "java/lang/Cloneable" (some 0) with
  accessFlags := 1537
  interfaces := #[]
  cf := some (fileOf pool20 1 #[] #[] 1537 3 #[] #[])
  fields := #[]
  methods := #[]
  instanceTypes := #[]
  staticTypes := #[]
  resolved := Array.replicate 7 none
  statics := none }

def pool21 : Array CpInfo := pool [(1, .class_ 2), (0, u "java/lang/String"), (1, .class_ 6), (1, u "java/lang/Object"), (0, u "<init>"), (0, u "()V"), (0, .methodref 1 10), (0, .nameAndType 11 12), (0, u "checkIndex"), (0, u "(II)V"), (1, .class_ 16), (1, u "java/lang/StringLatin1"), (36, u "([BI)C"), (67, u "$assertionsDisabled"), (0, u "Z"), (98, .class_ 223), (1, u "java/lang/StringLatin1$LinesSpliterator"), (28, u "charAt"), (137, .class_ 391), (0, u "java/lang/StringLatin1$CharsSpliterator")] 3

def k21m0 : Method := wD "<init>" "()V" [] none 0 none
def k21c1 : Code := wC 2 2 jdk_43_method_2_code
def k21m1 : Method := wD "charAt" "([BI)C" [(.array .byte), .int] (some .char) 9 (some k21c1)
/-- java/lang/StringLatin1 -/
def k21 : Class := { plain "java/lang/StringLatin1" (some 0) with
  accessFlags := 48
  interfaces := #[]
  cf := some (fileOf pool21 14 #[.nestMembers #[390, 221]] #[(wM 0 7 8), (wM 9 252 53)] 48 4 #[] #[(wN 4120 121 122)])
  fields := #[wF "$assertionsDisabled" .boolean 4120 0]
  methods := #[k21m0, k21m1]
  instanceTypes := #[]
  staticTypes := #[.boolean]
  resolved := Array.replicate 395 none
  statics := none }

def pool22 : Array CpInfo := pool [(2, .class_ 4), (1, u "java/lang/Object"), (0, u "<init>"), (0, u "()V"), (17, .class_ 26), (1, u "jdk/internal/util/Preconditions"), (6, u "checkIndex"), (21, .class_ 56), (0, u "jdk/internal/util/Preconditions$4"), (57, .class_ 115), (0, u "jdk/internal/util/Preconditions$1"), (7, u "SIOOBE_FORMATTER"), (0, u "Ljava/util/function/BiFunction;"), (0, .class_ 126), (0, u "jdk/internal/util/Preconditions$2"), (3, u "AIOOBE_FORMATTER"), (0, .class_ 132), (0, u "jdk/internal/util/Preconditions$3"), (3, u "IOOBE_FORMATTER"), (41, u "(IILjava/util/function/BiFunction;)I")] 15

def k22m0 : Method := wD "<init>" "()V" [] none 1 none
def k22c1 : Code := wC 3 3 jdk_41_method_11_code
def k22m1 : Method := wD "checkIndex" "(IILjava/util/function/BiFunction;)I" [.int, .int, (.object "java/util/function/BiFunction")] (some .int) 9 (some k22c1)
/-- jdk/internal/util/Preconditions -/
def k22 : Class := { plain "jdk/internal/util/Preconditions" (some 0) with
  accessFlags := 33
  interfaces := #[]
  cf := some (fileOf pool22 24 #[.nestMembers #[55, 131, 125, 114]] #[(wM 1 5 6), (wM 9 33 178)] 33 2 #[] #[(wN 25 123 124), (wN 25 130 124), (wN 25 136 124)])
  fields := #[wF "SIOOBE_FORMATTER" (.object "java/util/function/BiFunction") 25 0, wF "AIOOBE_FORMATTER" (.object "java/util/function/BiFunction") 25 1, wF "IOOBE_FORMATTER" (.object "java/util/function/BiFunction") 25 2]
  methods := #[k22m0, k22m1]
  instanceTypes := #[]
  staticTypes := #[(.object "java/util/function/BiFunction"), (.object "java/util/function/BiFunction"), (.object "java/util/function/BiFunction")]
  resolved := Array.replicate 194 none
  statics := some 2 }

def pool23 : Array CpInfo := pool [(6, .class_ 8), (1, u "java/lang/Object"), (0, u "<init>"), (0, u "()V"), (1, .class_ 14), (1, u "java/lang/StringUTF16"), (31, u "$assertionsDisabled"), (0, u "Z"), (13, u "HI_BYTE_SHIFT"), (0, u "I"), (2, u "LO_BYTE_SHIFT"), (49, .methodref 12 116), (0, .nameAndType 117 118), (0, u "compress"), (0, u "([CI[BII)I"), (3, u "([CII)[B"), (138, u "coderFromArrayLen"), (0, u "([BI)B"), (106, .class_ 371), (1, u "java/lang/StringUTF16$LinesSpliterator"), (58, u "MAX_LENGTH"), (196, .class_ 628), (0, u "java/lang/StringUTF16$CodePointsSpliterator"), (0, .class_ 630), (0, u "java/lang/StringUTF16$CharsSpliterator")] 4

def k23m0 : Method := wD "<init>" "()V" [] none 0 none
def k23c1 : Code := wC 2 2 jdk_52_method_15_code
def k23m1 : Method := wD "coderFromArrayLen" "([BI)B" [(.array .byte), .int] (some .byte) 8 (some k23c1)
def k23c2 : Code := wC 5 6 jdk_52_method_16_code
def k23m2 : Method := wD "compress" "([CII)[B" [(.array .char), .int, .int] (some (.array .byte)) 9 (some k23c2)
def k23c3 : Code := wC 3 7 jdk_52_method_21_code
def k23m3 : Method := wD "compress" "([CI[BII)I" [(.array .char), .int, (.array .byte), .int, .int] (some .int) 9 (some k23c3)
/-- java/lang/StringUTF16 -/
def k23 : Class := { plain "java/lang/StringUTF16" (some 0) with
  accessFlags := 48
  interfaces := #[]
  cf := some (fileOf pool23 12 #[.nestMembers #[627, 629, 369]] #[(wM 0 9 10), (wM 8 261 262), (wM 9 117 122), (wM 9 117 118)] 48 6 #[] #[(wN 26 61 62), (wN 26 65 62), (wN 24 430 62), (wN 4120 46 47)])
  fields := #[wF "HI_BYTE_SHIFT" .int 26 0, wF "LO_BYTE_SHIFT" .int 26 1, wF "MAX_LENGTH" .int 24 2, wF "$assertionsDisabled" .boolean 4120 3]
  methods := #[k23m0, k23m1, k23m2, k23m3]
  instanceTypes := #[]
  staticTypes := #[.int, .int, .int, .boolean]
  resolved := Array.replicate 635 none
  statics := none }

def pool24 : Array CpInfo := pool [(2, .class_ 4), (1, u "java/lang/Object"), (0, u "<init>"), (0, u "()V"), (12, .class_ 20), (0, u "java/util/Collections"), (63, u "r"), (0, u "Ljava/util/Random;"), (80, .class_ 167), (0, u "java/util/Collections$UnmodifiableCollection"), (6, .class_ 175), (0, u "java/util/Collections$UnmodifiableSequencedCollection"), (6, .class_ 183), (0, u "java/util/Collections$UnmodifiableSet"), (6, .class_ 191), (0, u "java/util/Collections$UnmodifiableSequencedSet"), (6, .class_ 199), (0, u "java/util/Collections$UnmodifiableSortedSet"), (6, .class_ 207), (0, u "java/util/Collections$UnmodifiableNavigableSet"), (4, .class_ 213), (0, u "java/util/Collections$UnmodifiableList"), (1, .class_ 216), (0, u "java/util/Collections$UnmodifiableRandomAccessList"), (6, .class_ 224), (0, u "java/util/Collections$UnmodifiableMap"), (6, .class_ 232), (0, u "java/util/Collections$UnmodifiableSequencedMap"), (4, .class_ 238), (0, u "java/util/Collections$UnmodifiableSortedMap"), (6, .class_ 246), (0, u "java/util/Collections$UnmodifiableNavigableMap"), (3, .class_ 251), (0, u "java/util/Collections$SynchronizedCollection"), (4, .class_ 257), (0, u "java/util/Collections$SynchronizedSet"), (4, .class_ 263), (0, u "java/util/Collections$SynchronizedSortedSet"), (1, .class_ 266), (0, u "java/util/Collections$SynchronizedNavigableSet"), (1, .class_ 269), (0, u "java/util/Collections$SynchronizedRandomAccessList"), (1, .class_ 272), (0, u "java/util/Collections$SynchronizedList"), (5, .class_ 279), (0, u "java/util/Collections$SynchronizedMap"), (1, .class_ 282), (0, u "java/util/Collections$SynchronizedSortedMap"), (1, .class_ 285), (0, u "java/util/Collections$SynchronizedNavigableMap"), (1, .class_ 288), (0, u "java/util/Collections$CheckedCollection"), (11, .class_ 301), (0, u "java/util/Collections$CheckedQueue"), (3, .class_ 306), (0, u "java/util/Collections$CheckedSet"), (3, .class_ 311), (0, u "java/util/Collections$CheckedSortedSet"), (3, .class_ 316), (0, u "java/util/Collections$CheckedNavigableSet"), (3, .class_ 321), (0, u "java/util/Collections$CheckedRandomAccessList"), (3, .class_ 326), (0, u "java/util/Collections$CheckedList"), (1, .class_ 329), (0, u "java/util/Collections$CheckedMap"), (3, .class_ 334), (0, u "java/util/Collections$CheckedSortedMap"), (3, .class_ 339), (0, u "java/util/Collections$CheckedNavigableMap"), (4, .class_ 346), (1, u "java/util/Collections$EmptyIterator"), (3, .class_ 352), (1, u "java/util/Collections$EmptyListIterator"), (2, .class_ 357), (1, u "java/util/Collections$EmptyEnumeration"), (4, u "EMPTY_SET"), (0, u "Ljava/util/Set;"), (6, u "EMPTY_LIST"), (0, u "Ljava/util/List;"), (2, u "EMPTY_MAP"), (0, u "Ljava/util/Map;"), (4, .class_ 381), (0, u "java/util/Collections$SingletonSet"), (2, .class_ 385), (0, u "java/util/Collections$1"), (1, .class_ 388), (0, u "java/util/Collections$2"), (1, .class_ 391), (0, u "java/util/Collections$SingletonList"), (1, .class_ 394), (0, u "java/util/Collections$SingletonMap"), (22, .class_ 418), (0, u "java/util/Collections$CopiesList"), (4, .class_ 425), (1, u "java/util/Collections$ReverseComparator"), (8, .class_ 435), (0, u "java/util/Collections$ReverseComparator2"), (6, .class_ 443), (0, u "java/util/Collections$3"), (25, .class_ 470), (0, u "java/util/Collections$SetFromMap"), (2, .class_ 474), (0, u "java/util/Collections$SequencedSetFromMap"), (3, .class_ 479), (0, u "java/util/Collections$AsLIFOQueue"), (11, .class_ 492), (0, u "java/util/Collections$EmptySet"), (1, .class_ 495), (0, u "java/util/Collections$EmptyList"), (1, .class_ 498), (0, u "java/util/Collections$EmptyMap"), (1, u "BINARYSEARCH_THRESHOLD"), (0, u "I"), (2, u "REVERSE_THRESHOLD"), (1, u "SHUFFLE_THRESHOLD"), (1, u "FILL_THRESHOLD"), (1, u "ROTATE_THRESHOLD"), (1, u "COPY_THRESHOLD"), (1, u "REPLACEALL_THRESHOLD"), (1, u "INDEXOFSUBLIST_THRESHOLD"), (333, .class_ 851), (0, u "java/util/Collections$CheckedMap$CheckedEntrySet"), (0, .class_ 853), (0, u "java/util/Collections$CheckedMap$CheckedEntrySet$CheckedEntry"), (0, .class_ 855), (0, u "java/util/Collections$CheckedMap$CheckedEntrySet$1"), (0, .class_ 857), (0, u "java/util/Collections$CheckedList$1"), (0, .class_ 859), (0, u "java/util/Collections$CheckedCollection$1"), (0, .class_ 861), (0, u "java/util/Collections$UnmodifiableNavigableMap$EmptyNavigableMap"), (0, .class_ 863), (0, u "java/util/Collections$UnmodifiableMap$UnmodifiableEntrySet"), (0, .class_ 865), (0, u "java/util/Collections$UnmodifiableMap$UnmodifiableEntrySet$UnmodifiableEntry"), (0, .class_ 867), (0, u "java/util/Collections$UnmodifiableMap$UnmodifiableEntrySet$UnmodifiableEntrySetSpliterator"), (0, .class_ 869), (0, u "java/util/Collections$UnmodifiableMap$UnmodifiableEntrySet$1"), (0, .class_ 871), (0, u "java/util/Collections$UnmodifiableList$1"), (0, .class_ 873), (0, u "java/util/Collections$UnmodifiableNavigableSet$EmptyNavigableSet"), (0, .class_ 875), (0, u "java/util/Collections$UnmodifiableCollection$1")] 57

def k24m0 : Method := wD "<init>" "()V" [] none 2 none
/-- java/util/Collections -/
def k24 : Class := { plain "java/util/Collections" (some 0) with
  accessFlags := 33
  interfaces := #[]
  cf := some (fileOf pool24 19 #[.nestMembers #[478, 473, 469, 434, 423, 417, 393, 390, 380, 497, 494, 491, 355, 350, 344, 338, 333, 328, 850, 852, 854, 320, 325, 856, 315, 310, 305, 300, 287, 858, 284, 281, 278, 268, 271, 265, 262, 256, 250, 245, 860, 237, 231, 223, 862, 864, 866, 868, 215, 212, 870, 206, 872, 198, 190, 182, 174, 166, 874, 442, 387, 384]] #[(wM 2 5 6)] 33 2 #[] #[(wN 26 500 501), (wN 26 504 501), (wN 26 506 501), (wN 26 508 501), (wN 26 510 501), (wN 26 512 501), (wN 26 514 501), (wN 26 516 501), (wN 10 84 85), (wN 25 362 363), (wN 25 370 371), (wN 25 374 375)])
  fields := #[wF "BINARYSEARCH_THRESHOLD" .int 26 0, wF "REVERSE_THRESHOLD" .int 26 1, wF "SHUFFLE_THRESHOLD" .int 26 2, wF "FILL_THRESHOLD" .int 26 3, wF "ROTATE_THRESHOLD" .int 26 4, wF "COPY_THRESHOLD" .int 26 5, wF "REPLACEALL_THRESHOLD" .int 26 6, wF "INDEXOFSUBLIST_THRESHOLD" .int 26 7, wF "r" (.object "java/util/Random") 10 8, wF "EMPTY_SET" (.object "java/util/Set") 25 9, wF "EMPTY_LIST" (.object "java/util/List") 25 10, wF "EMPTY_MAP" (.object "java/util/Map") 25 11]
  methods := #[k24m0]
  instanceTypes := #[]
  staticTypes := #[.int, .int, .int, .int, .int, .int, .int, .int, (.object "java/util/Random"), (.object "java/util/Set"), (.object "java/util/List"), (.object "java/util/Map")]
  resolved := Array.replicate 933 none
  statics := some 3 }

def pool25 : Array CpInfo := pool [(8, .class_ 10), (1, u "java/lang/Iterable"), (24, .class_ 36), (0, u "java/lang/Object")] 25

/-- java/lang/Iterable -/
def k25 : Class := { plain "java/lang/Iterable" (some 0) with
  accessFlags := 1537
  interfaces := #[]
  cf := some (fileOf pool25 8 #[] #[] 1537 35 #[] #[])
  fields := #[]
  methods := #[]
  instanceTypes := #[]
  staticTypes := #[]
  resolved := Array.replicate 62 none
  statics := none }

def pool26 : Array CpInfo := pool [(10, .class_ 12), (1, u "java/util/Collection"), (47, .class_ 61), (0, u "java/lang/Object"), (0, .class_ 63), (0, u "java/lang/Iterable")] 51

/-- java/util/Collection -/
def k26 : Class := { plain "java/util/Collection" (some 0) with
  accessFlags := 1537
  interfaces := #[25]
  cf := some (fileOf pool26 10 #[] #[] 1537 60 #[62] #[])
  fields := #[]
  methods := #[]
  instanceTypes := #[]
  staticTypes := #[]
  resolved := Array.replicate 115 none
  statics := none }

def pool27 : Array CpInfo := pool [(2, .class_ 4), (1, u "java/lang/Object"), (0, u "<init>"), (0, u "()V"), (1, .class_ 10), (1, u "java/util/AbstractCollection"), (66, .class_ 78), (0, u "java/util/Collection")] 81

def k27m0 : Method := wD "<init>" "()V" [] none 4 none
/-- java/util/AbstractCollection -/
def k27 : Class := { plain "java/util/AbstractCollection" (some 0) with
  accessFlags := 1057
  interfaces := #[26]
  cf := some (fileOf pool27 8 #[] #[(wM 4 5 6)] 1057 2 #[77] #[])
  fields := #[]
  methods := #[k27m0]
  instanceTypes := #[]
  staticTypes := #[]
  resolved := Array.replicate 160 none
  statics := none }

def pool28 : Array CpInfo := pool [(8, .class_ 10), (1, u "java/util/SequencedCollection"), (15, .class_ 27), (0, u "java/lang/Object"), (0, .class_ 29), (0, u "java/util/Collection")] 27

/-- java/util/SequencedCollection -/
def k28 : Class := { plain "java/util/SequencedCollection" (some 0) with
  accessFlags := 1537
  interfaces := #[26]
  cf := some (fileOf pool28 8 #[] #[] 1537 26 #[28] #[])
  fields := #[]
  methods := #[]
  instanceTypes := #[]
  staticTypes := #[]
  resolved := Array.replicate 57 none
  statics := none }

def pool29 : Array CpInfo := pool [(8, .class_ 10), (1, u "java/util/List"), (92, .class_ 104), (0, u "java/lang/Object"), (15, .class_ 121), (0, u "java/util/SequencedCollection")] 129

/-- java/util/List -/
def k29 : Class := { plain "java/util/List" (some 0) with
  accessFlags := 1537
  interfaces := #[28]
  cf := some (fileOf pool29 8 #[] #[] 1537 103 #[120] #[])
  fields := #[]
  methods := #[]
  instanceTypes := #[]
  staticTypes := #[]
  resolved := Array.replicate 251 none
  statics := none }

def pool30 : Array CpInfo := pool [(2, .class_ 4), (1, u "java/util/AbstractCollection"), (0, u "<init>"), (0, u "()V"), (1, .class_ 10), (1, u "java/util/AbstractList"), (0, u "modCount"), (0, u "I"), (64, .class_ 78), (0, u "java/util/AbstractList$Itr"), (3, .class_ 83), (0, u "java/util/AbstractList$ListItr"), (9, .class_ 94), (0, u "java/util/AbstractList$RandomAccessSubList"), (3, .class_ 99), (0, u "java/util/AbstractList$SubList"), (33, .class_ 134), (0, u "java/util/List"), (73, .class_ 209), (0, u "java/util/AbstractList$SubList$1"), (0, .class_ 211), (0, u "java/util/AbstractList$RandomAccessSpliterator")] 6

def k30m0 : Method := wD "<init>" "()V" [] none 4 none
/-- java/util/AbstractList -/
def k30 : Class := { plain "java/util/AbstractList" (some 27) with
  accessFlags := 1057
  interfaces := #[29]
  cf := some (fileOf pool30 8 #[.nestMembers #[93, 98, 208, 210, 82, 77]] #[(wM 4 5 6)] 1057 2 #[133] #[(wN 132 11 12)])
  fields := #[wF "modCount" .int 132 0]
  methods := #[k30m0]
  instanceTypes := #[.int]
  staticTypes := #[]
  resolved := Array.replicate 218 none
  statics := none }

def pool31 : Array CpInfo := pool [(1, .class_ 2), (0, u "java/util/RandomAccess"), (0, .class_ 4), (0, u "java/lang/Object")] 2

/-- java/util/RandomAccess -/
def k31 : Class := { plain "java/util/RandomAccess" (some 0) with
  accessFlags := 1537
  interfaces := #[]
  cf := some (fileOf pool31 1 #[] #[] 1537 3 #[] #[])
  fields := #[]
  methods := #[]
  instanceTypes := #[]
  staticTypes := #[]
  resolved := Array.replicate 7 none
  statics := none }

def pool32 : Array CpInfo := pool [(2, .class_ 4), (1, u "java/util/AbstractList"), (0, u "<init>"), (0, u "()V"), (1, .class_ 10), (1, u "java/util/Collections"), (54, .class_ 66), (0, u "java/util/Collections$EmptyList"), (0, .class_ 68), (0, u "java/util/RandomAccess"), (0, .class_ 70), (0, u "java/io/Serializable"), (0, u "serialVersionUID"), (0, u "J")] 77

def k32m0 : Method := wD "<init>" "()V" [] none 2 none
/-- java/util/Collections$EmptyList -/
def k32 : Class := { plain "java/util/Collections$EmptyList" (some 30) with
  accessFlags := 32
  interfaces := #[31, 2]
  cf := some (fileOf pool32 65 #[.nestHost 8] #[(wM 2 5 6)] 32 2 #[67, 69] #[(wN 26 71 72)])
  fields := #[wF "serialVersionUID" .long 26 0]
  methods := #[k32m0]
  instanceTypes := #[.int]
  staticTypes := #[.long]
  resolved := Array.replicate 150 none
  statics := none }

def pool33 : Array CpInfo := pool [(2, .class_ 4), (1, u "java/lang/StackTraceElement"), (0, u "<init>"), (2, .class_ 10), (1, u "java/lang/Object"), (0, u "()V"), (2, u "format"), (0, u "B"), (2, u "classLoaderName"), (0, u "Ljava/lang/String;"), (2, u "moduleName"), (2, u "moduleVersion"), (12, u "declaringClass"), (4, u "methodName"), (2, u "fileName"), (2, u "lineNumber"), (0, u "I"), (65, u "declaringClassObject"), (0, u "Ljava/lang/Class;"), (33, .class_ 153), (1, u "java/lang/StackTraceElement$HashedModules"), (17, .class_ 172), (0, u "java/io/Serializable"), (0, u "NATIVE_METHOD"), (1, u "UNKNOWN_SOURCE"), (2, u "BUILTIN_CLASS_LOADER"), (1, u "JDK_NON_UPGRADEABLE_MODULE"), (1, u "serialVersionUID"), (0, u "J")] 51

def k33m0 : Method := wD "<init>" "()V" [] none 2 none
/-- java/lang/StackTraceElement -/
def k33 : Class := { plain "java/lang/StackTraceElement" (some 0) with
  accessFlags := 49
  interfaces := #[2]
  cf := some (fileOf pool33 2 #[.nestMembers #[151]] #[(wM 2 5 11)] 49 8 #[171] #[(wN 26 173 19), (wN 26 175 19), (wN 130 116 117), (wN 2 18 19), (wN 2 22 19), (wN 2 25 19), (wN 2 38 19), (wN 2 43 19), (wN 2 46 19), (wN 2 49 50), (wN 2 14 15), (wN 26 178 15), (wN 26 180 15), (wN 26 182 183)])
  fields := #[wF "NATIVE_METHOD" (.object "java/lang/String") 26 0, wF "UNKNOWN_SOURCE" (.object "java/lang/String") 26 1, wF "declaringClassObject" (.object "java/lang/Class") 130 0, wF "classLoaderName" (.object "java/lang/String") 2 1, wF "moduleName" (.object "java/lang/String") 2 2, wF "moduleVersion" (.object "java/lang/String") 2 3, wF "declaringClass" (.object "java/lang/String") 2 4, wF "methodName" (.object "java/lang/String") 2 5, wF "fileName" (.object "java/lang/String") 2 6, wF "lineNumber" .int 2 7, wF "format" .byte 2 8, wF "BUILTIN_CLASS_LOADER" .byte 26 2, wF "JDK_NON_UPGRADEABLE_MODULE" .byte 26 3, wF "serialVersionUID" .long 26 4]
  methods := #[k33m0]
  instanceTypes := #[(.object "java/lang/Class"), (.object "java/lang/String"), (.object "java/lang/String"), (.object "java/lang/String"), (.object "java/lang/String"), (.object "java/lang/String"), (.object "java/lang/String"), .int, .byte]
  staticTypes := #[(.object "java/lang/String"), (.object "java/lang/String"), .byte, .byte, .long]
  resolved := Array.replicate 235 none
  statics := none }

/-- the primitive byte -/
def k34 : Class := { plain "byte" none with kind := .primitive 'B', accessFlags := 0x411 }
/-- [B -/
def k35 : Class := { plain "[B" (some 0) with kind := .array 34 .byte, interfaces := #[20, 2], accessFlags := 1041 }

/-- the primitive char -/
def k36 : Class := { plain "char" none with kind := .primitive 'C', accessFlags := 0x411 }
/-- [C -/
def k37 : Class := { plain "[C" (some 0) with kind := .array 36 .char, interfaces := #[20, 2], accessFlags := 1041 }

/-- the primitive int -/
def k38 : Class := { plain "int" none with kind := .primitive 'I', accessFlags := 0x411 }
/-- [I -/
def k39 : Class := { plain "[I" (some 0) with kind := .array 38 .int, interfaces := #[20, 2], accessFlags := 1041 }

/-- [Ljava/lang/Object; -/
def k40 : Class := { plain "[Ljava/lang/Object;" (some 0) with kind := .array 0 (.object "java/lang/Object"), interfaces := #[20, 2], accessFlags := 1041 }

/-- [Ljava/lang/StackTraceElement; -/
def k41 : Class := { plain "[Ljava/lang/StackTraceElement;" (some 0) with kind := .array 33 (.object "java/lang/StackTraceElement"), interfaces := #[20, 2], accessFlags := 1041 }

/-- [Ljava/lang/Throwable; -/
def k42 : Class := { plain "[Ljava/lang/Throwable;" (some 0) with kind := .array 9 (.object "java/lang/Throwable"), interfaces := #[20, 2], accessFlags := 1041 }

def heap : Heap := #[{ cls := 7, slots := #[.long 0, .int 1, .null, .int 0, .null, .int 0, .int 0], vm := .statics 7 },
  { cls := 9, slots := #[.long 0, .ref 4, .ref 5, .null, .null, .null, .null, .ref 6, .int 1], vm := .statics 9 },
  { cls := 22, slots := #[.null, .null, .null], vm := .statics 22 },
  { cls := 24, slots := #[.int 0, .int 0, .int 0, .int 0, .int 0, .int 0, .int 0, .int 0, .null, .null, .ref 5, .null], vm := .statics 24 },
  { cls := 41, slots := #[], vm := .none },
  { cls := 32, slots := #[.int 0], vm := .none },
  { cls := 42, slots := #[], vm := .none }]
def classes : Array Class := #[k0, k1, k2, k3, k4, k5, k6, k7, k8, k9, k10, k11, k12, k13, k14, k15, k16, k17, k18, k19, k20, k21, k22, k23, k24, k25, k26, k27, k28, k29, k30, k31, k32, k33, k34, k35, k36, k37, k38, k39, k40, k41, k42]
def interned : List (Array UInt16 × Addr) := []
def slotsUsed : Nat := 32
def theMethod : MethodId := ⟨1, 1⟩
def args0 : Array Value := #[.int 5, .int 7]
def aboutOver (below : List Frame) : State where
  vm := { classes := classes, interned := interned.toArray }
  heap := heap
  slotsUsed := slotsUsed
  threads := #[{ frames := .invoking theMethod args0 :: below }]
def below0 : List Frame := [.native { method := ⟨0, 0⟩, args := #[] }]
def about1 : State := aboutOver below0
def p0 : Program := .bare "" "" ""
def e0 : Env := launch0.env 0 0 0
theorem w_frames : about1.frames = Frame.invoking theMethod args0 :: below0 := rfl
set_option maxRecDepth 65536 in
theorem w_args : argsFit about1.vm theMethod args0 = true := by decide +kernel
set_option maxRecDepth 65536 in
theorem w_heap : heapFits about1 = true := by decide +kernel
set_option maxRecDepth 65536 in
theorem w_runnable : about1.curStatus? = some .runnable := by decide +kernel
set_option maxRecDepth 65536 in
theorem w_alone : about1.alone = true := by decide +kernel
set_option maxRecDepth 65536 in
theorem w_named : about1.methodNamed? x = some theMethod := by decide +kernel
set_option maxRecDepth 65536 in
theorem w_hears : about1.hears theMethod below0 = true := by decide +kernel
set_option maxRecDepth 65536 in
theorem w_ripe : about1.ripe theMethod args0 below0 = true := by decide +kernel
theorem w_running : about1.status = .running := rfl
set_option maxRecDepth 65536 in
theorem w_room : about1.hasRoom e0.platform room_1 = true :=
  launch0.hasRoom_least _ room_1 (by decide +kernel) (by decide +kernel) (by decide +kernel) (by decide +kernel) (by decide +kernel) (by decide +kernel)
theorem allAtoms_all (ts : List Jvm.Cond) (a : Array Jvm.Value) (st : Jvm.State) : (allAtoms ts).before a st = ts.all (fun c => c.before a st) := by
  induction ts with
  | nil => rfl
  | cons c t ih =>
    show (Jvm.Cond.and c (allAtoms t)).before a st = _
    rw [Jvm.Cond.before_and, ih, List.all_cons]
def words1 : List Jvm.Cond := Jvm.Cond.code x code maxLocals ret :: tables_1
/-- a 'code' word, met by the world's own term for the bytes: nothing is compared byte by byte -/
theorem code_word {y : MethodName} {bytes : ByteArray} {mx : Nat} {rt : Option FieldType} {a : Array Value} {s : State} {m : MethodId} {meth : Method} {c : Code} (h1 : s.methodNamed? y = some m) (h2 : s.vm.method? m = some meth) (h3 : meth.code = some c) (h4 : c.code = bytes)
    (h5 : (c.maxLocals == mx && c.exceptionTable.isEmpty && decide (c.maxStack ≤ mostOperands) && decide (meth.sig.returnType = rt) && !meth.locks && decide (parseMethodDescriptor y.desc = some meth.sig)) = true) : (Jvm.Cond.code y bytes mx rt).before a s = true := by
  simp only [Bool.and_eq_true, beq_iff_eq, Bool.not_eq_true', decide_eq_true_eq] at h5
  obtain ⟨⟨⟨⟨⟨g1, g2⟩, g3⟩, g4⟩, g5⟩, g6⟩ := h5
  simp [Cond.before, Cond.holds, Cond.value, h1, h2, h3, h4, g1, g2, g3, g4, g5, g6]
def isCode : Jvm.Cond → Bool
  | .code _ _ _ _ => true
  | _ => false
theorem all_split {L : List Jvm.Cond} {P : Jvm.Cond → Bool} (h1 : L.all (fun c => isCode c || P c) = true) (h2 : ∀ c ∈ L.filter isCode, P c = true) : L.all P = true := by
  refine List.all_eq_true.mpr fun c hc => ?_
  have h := List.all_eq_true.mp h1 c hc
  rcases Bool.eq_false_or_eq_true (isCode c) with hi | hi
  · exact h2 c (List.mem_filter.mpr ⟨hc, hi⟩)
  · simpa [hi] using h
abbrev cw0 : Jvm.Cond := Cond.code x code maxLocals ret
abbrev cw1 : Jvm.Cond := Cond.code ⟨"com/example/key_lease/keylease/store/WatchedNameClosedStorePinLaw", "str", "(ICCC)Ljava/lang/String;"⟩ method_3_code 5 (some (FieldType.object "java/lang/String"))
abbrev cw2 : Jvm.Cond := Cond.code ⟨"java/lang/String", "<init>", "([C)V"⟩ jdk_42_method_3_code 2 none
abbrev cw3 : Jvm.Cond := Cond.code ⟨"java/lang/String", "<init>", "([CIILjava/lang/Void;)V"⟩ jdk_42_method_149_code 6 none
abbrev cw4 : Jvm.Cond := Cond.code ⟨"java/lang/Object", "<init>", "()V"⟩ object_method_1_code 1 none
abbrev cw5 : Jvm.Cond := Cond.code ⟨"com/example/key_lease/keylease/store/WatchedName", "closedStore", "(Ljava/lang/String;Ljava/lang/String;)Lcom/example/key_lease/keylease/store/StoreException;"⟩ prog_20_method_2_code 2 (some (FieldType.object "com/example/key_lease/keylease/store/StoreException"))
abbrev cw6 : Jvm.Cond := Cond.code ⟨"java/lang/StringBuilder", "<init>", "()V"⟩ jdk_67_method_1_code 1 none
abbrev cw7 : Jvm.Cond := Cond.code ⟨"java/lang/AbstractStringBuilder", "<init>", "(I)V"⟩ jdk_68_method_2_code 2 none
abbrev cw8 : Jvm.Cond := Cond.code ⟨"java/lang/StringBuilder", "append", "(Ljava/lang/String;)Ljava/lang/StringBuilder;"⟩ jdk_67_method_7_code 2 (some (FieldType.object "java/lang/StringBuilder"))
abbrev cw9 : Jvm.Cond := Cond.code ⟨"java/lang/AbstractStringBuilder", "append", "(Ljava/lang/String;)Ljava/lang/AbstractStringBuilder;"⟩ jdk_68_method_22_code 3 (some (FieldType.object "java/lang/AbstractStringBuilder"))
abbrev cw10 : Jvm.Cond := Cond.code ⟨"java/lang/String", "length", "()I"⟩ jdk_42_method_54_code 1 (some FieldType.int)
abbrev cw11 : Jvm.Cond := Cond.code ⟨"java/lang/String", "coder", "()B"⟩ jdk_42_method_152_code 1 (some FieldType.byte)
abbrev cw12 : Jvm.Cond := Cond.code ⟨"java/lang/AbstractStringBuilder", "ensureCapacityInternal", "(I)V"⟩ jdk_68_method_9_code 3 none
abbrev cw13 : Jvm.Cond := Cond.code ⟨"java/lang/AbstractStringBuilder", "putStringAt", "(ILjava/lang/String;)V"⟩ jdk_68_method_73_code 3 none
abbrev cw14 : Jvm.Cond := Cond.code ⟨"java/lang/AbstractStringBuilder", "inflateIfNeededFor", "(Ljava/lang/String;)V"⟩ jdk_68_method_71_code 2 none
abbrev cw15 : Jvm.Cond := Cond.code ⟨"java/lang/String", "getBytes", "([BIB)V"⟩ jdk_42_method_147_code 4 none
abbrev cw16 : Jvm.Cond := Cond.code ⟨"java/lang/AbstractStringBuilder", "newCapacity", "(I)I"⟩ jdk_68_method_10_code 6 (some FieldType.int)
abbrev cw17 : Jvm.Cond := Cond.code ⟨"jdk/internal/util/ArraysSupport", "newLength", "(III)I"⟩ jdk_48_method_27_code 4 (some FieldType.int)
abbrev cw18 : Jvm.Cond := Cond.code ⟨"java/lang/Math", "max", "(II)I"⟩ jdk_29_method_65_code 2 (some FieldType.int)
abbrev cw19 : Jvm.Cond := Cond.code ⟨"java/util/Arrays", "copyOf", "([BI)[B"⟩ jdk_65_method_121_code 3 (some (FieldType.array FieldType.byte))
abbrev cw20 : Jvm.Cond := Cond.code ⟨"java/lang/Math", "min", "(II)I"⟩ jdk_29_method_69_code 2 (some FieldType.int)
abbrev cw21 : Jvm.Cond := Cond.code ⟨"java/lang/StringBuilder", "toString", "()Ljava/lang/String;"⟩ jdk_67_method_42_code 1 (some (FieldType.object "java/lang/String"))
abbrev cw22 : Jvm.Cond := Cond.code ⟨"java/lang/String", "<init>", "(Ljava/lang/StringBuilder;)V"⟩ jdk_42_method_53_code 2 none
abbrev cw23 : Jvm.Cond := Cond.code ⟨"java/lang/String", "<init>", "(Ljava/lang/AbstractStringBuilder;Ljava/lang/Void;)V"⟩ jdk_42_method_150_code 5 none
abbrev cw24 : Jvm.Cond := Cond.code ⟨"java/lang/AbstractStringBuilder", "getValue", "()[B"⟩ jdk_68_method_64_code 1 (some (FieldType.array FieldType.byte))
abbrev cw25 : Jvm.Cond := Cond.code ⟨"java/lang/StringBuilder", "length", "()I"⟩ jdk_67_method_93_code 1 (some FieldType.int)
abbrev cw26 : Jvm.Cond := Cond.code ⟨"java/lang/AbstractStringBuilder", "length", "()I"⟩ jdk_68_method_6_code 1 (some FieldType.int)
abbrev cw27 : Jvm.Cond := Cond.code ⟨"java/lang/AbstractStringBuilder", "isLatin1", "()Z"⟩ jdk_68_method_68_code 1 (some FieldType.boolean)
abbrev cw28 : Jvm.Cond := Cond.code ⟨"java/util/Arrays", "copyOfRange", "([BII)[B"⟩ jdk_65_method_132_code 3 (some (FieldType.array FieldType.byte))
abbrev cw29 : Jvm.Cond := Cond.code ⟨"com/example/key_lease/keylease/store/StoreException", "<init>", "(Ljava/lang/String;Ljava/lang/Throwable;)V"⟩ prog_19_method_1_code 3 none
abbrev cw30 : Jvm.Cond := Cond.code ⟨"java/lang/RuntimeException", "<init>", "(Ljava/lang/String;Ljava/lang/Throwable;)V"⟩ jdk_58_method_3_code 3 none
abbrev cw31 : Jvm.Cond := Cond.code ⟨"java/lang/Exception", "<init>", "(Ljava/lang/String;Ljava/lang/Throwable;)V"⟩ jdk_59_method_3_code 3 none
abbrev cw32 : Jvm.Cond := Cond.code ⟨"java/lang/Throwable", "<init>", "(Ljava/lang/String;Ljava/lang/Throwable;)V"⟩ jdk_78_method_3_code 3 none
abbrev cw33 : Jvm.Cond := Cond.code ⟨"java/lang/Throwable", "<init>", "()V"⟩ jdk_78_method_1_code 1 none
abbrev cw34 : Jvm.Cond := Cond.code ⟨"java/lang/Throwable", "getMessage", "()Ljava/lang/String;"⟩ jdk_78_method_6_code 1 (some (FieldType.object "java/lang/String"))
abbrev cw35 : Jvm.Cond := Cond.code ⟨"com/example/key_lease/keylease/store/WatchedNameClosedStorePinLaw", "mid", "(Ljava/lang/String;I)Z"⟩ method_5_code 3 (some FieldType.boolean)
abbrev cw36 : Jvm.Cond := Cond.code ⟨"com/example/key_lease/keylease/store/WatchedNameClosedStorePinLaw", "eq", "(Ljava/lang/String;ILjava/lang/String;I)Z"⟩ method_4_code 4 (some FieldType.boolean)
abbrev cw37 : Jvm.Cond := Cond.code ⟨"java/lang/String", "charAt", "(I)C"⟩ jdk_42_method_56_code 2 (some FieldType.char)
abbrev cw38 : Jvm.Cond := Cond.code ⟨"java/lang/String", "isLatin1", "()Z"⟩ jdk_42_method_154_code 1 (some FieldType.boolean)
abbrev cw39 : Jvm.Cond := Cond.code ⟨"java/lang/StringLatin1", "charAt", "([BI)C"⟩ jdk_43_method_2_code 2 (some FieldType.char)
abbrev cw40 : Jvm.Cond := Cond.code ⟨"java/lang/String", "checkIndex", "(II)V"⟩ jdk_42_method_155_code 2 none
abbrev cw41 : Jvm.Cond := Cond.code ⟨"jdk/internal/util/Preconditions", "checkIndex", "(IILjava/util/function/BiFunction;)I"⟩ jdk_41_method_11_code 3 (some FieldType.int)
abbrev cw42 : Jvm.Cond := Cond.code ⟨"java/lang/StringUTF16", "compress", "([CII)[B"⟩ jdk_52_method_16_code 6 (some (FieldType.array FieldType.byte))
abbrev cw43 : Jvm.Cond := Cond.code ⟨"java/lang/StringUTF16", "compress", "([CI[BII)I"⟩ jdk_52_method_21_code 7 (some FieldType.int)
abbrev cw44 : Jvm.Cond := Cond.code ⟨"java/lang/StringUTF16", "coderFromArrayLen", "([BI)B"⟩ jdk_52_method_15_code 2 (some FieldType.byte)
abbrev cw45 : Jvm.Cond := Cond.code ⟨"java/util/Arrays", "copyOfRangeByte", "([BII)[B"⟩ jdk_65_method_133_code 5 (some (FieldType.array FieldType.byte))
abbrev cw46 : Jvm.Cond := Cond.code ⟨"java/util/Arrays", "checkLength", "(II)V"⟩ jdk_65_method_131_code 2 none
set_option maxRecDepth 65536 in
theorem w_c0 : cw0.before args0 about1 = true := code_word (m := ⟨1, 1⟩) (meth := k1m1) (c := k1c1) (by decide +kernel) rfl rfl rfl (by decide +kernel)
set_option maxRecDepth 65536 in
theorem w_c1 : cw1.before args0 about1 = true := code_word (m := ⟨1, 2⟩) (meth := k1m2) (c := k1c2) (by decide +kernel) rfl rfl rfl (by decide +kernel)
set_option maxRecDepth 65536 in
theorem w_c2 : cw2.before args0 about1 = true := code_word (m := ⟨7, 1⟩) (meth := k7m1) (c := k7c1) (by decide +kernel) rfl rfl rfl (by decide +kernel)
set_option maxRecDepth 65536 in
theorem w_c3 : cw3.before args0 about1 = true := code_word (m := ⟨7, 6⟩) (meth := k7m6) (c := k7c6) (by decide +kernel) rfl rfl rfl (by decide +kernel)
set_option maxRecDepth 65536 in
theorem w_c4 : cw4.before args0 about1 = true := code_word (m := ⟨0, 0⟩) (meth := k0m0) (c := k0c0) (by decide +kernel) rfl rfl rfl (by decide +kernel)
set_option maxRecDepth 65536 in
theorem w_c5 : cw5.before args0 about1 = true := code_word (m := ⟨8, 0⟩) (meth := k8m0) (c := k8c0) (by decide +kernel) rfl rfl rfl (by decide +kernel)
set_option maxRecDepth 65536 in
theorem w_c6 : cw6.before args0 about1 = true := code_word (m := ⟨15, 0⟩) (meth := k15m0) (c := k15c0) (by decide +kernel) rfl rfl rfl (by decide +kernel)
set_option maxRecDepth 65536 in
theorem w_c7 : cw7.before args0 about1 = true := code_word (m := ⟨14, 1⟩) (meth := k14m1) (c := k14c1) (by decide +kernel) rfl rfl rfl (by decide +kernel)
set_option maxRecDepth 65536 in
theorem w_c8 : cw8.before args0 about1 = true := code_word (m := ⟨15, 1⟩) (meth := k15m1) (c := k15c1) (by decide +kernel) rfl rfl rfl (by decide +kernel)
set_option maxRecDepth 65536 in
theorem w_c9 : cw9.before args0 about1 = true := code_word (m := ⟨14, 5⟩) (meth := k14m5) (c := k14c5) (by decide +kernel) rfl rfl rfl (by decide +kernel)
set_option maxRecDepth 65536 in
theorem w_c10 : cw10.before args0 about1 = true := code_word (m := ⟨7, 3⟩) (meth := k7m3) (c := k7c3) (by decide +kernel) rfl rfl rfl (by decide +kernel)
set_option maxRecDepth 65536 in
theorem w_c11 : cw11.before args0 about1 = true := code_word (m := ⟨7, 8⟩) (meth := k7m8) (c := k7c8) (by decide +kernel) rfl rfl rfl (by decide +kernel)
set_option maxRecDepth 65536 in
theorem w_c12 : cw12.before args0 about1 = true := code_word (m := ⟨14, 3⟩) (meth := k14m3) (c := k14c3) (by decide +kernel) rfl rfl rfl (by decide +kernel)
set_option maxRecDepth 65536 in
theorem w_c13 : cw13.before args0 about1 = true := code_word (m := ⟨14, 9⟩) (meth := k14m9) (c := k14c9) (by decide +kernel) rfl rfl rfl (by decide +kernel)
set_option maxRecDepth 65536 in
theorem w_c14 : cw14.before args0 about1 = true := code_word (m := ⟨14, 8⟩) (meth := k14m8) (c := k14c8) (by decide +kernel) rfl rfl rfl (by decide +kernel)
set_option maxRecDepth 65536 in
theorem w_c15 : cw15.before args0 about1 = true := code_word (m := ⟨7, 5⟩) (meth := k7m5) (c := k7c5) (by decide +kernel) rfl rfl rfl (by decide +kernel)
set_option maxRecDepth 65536 in
theorem w_c16 : cw16.before args0 about1 = true := code_word (m := ⟨14, 4⟩) (meth := k14m4) (c := k14c4) (by decide +kernel) rfl rfl rfl (by decide +kernel)
set_option maxRecDepth 65536 in
theorem w_c17 : cw17.before args0 about1 = true := code_word (m := ⟨17, 1⟩) (meth := k17m1) (c := k17c1) (by decide +kernel) rfl rfl rfl (by decide +kernel)
set_option maxRecDepth 65536 in
theorem w_c18 : cw18.before args0 about1 = true := code_word (m := ⟨18, 1⟩) (meth := k18m1) (c := k18c1) (by decide +kernel) rfl rfl rfl (by decide +kernel)
set_option maxRecDepth 65536 in
theorem w_c19 : cw19.before args0 about1 = true := code_word (m := ⟨19, 1⟩) (meth := k19m1) (c := k19c1) (by decide +kernel) rfl rfl rfl (by decide +kernel)
set_option maxRecDepth 65536 in
theorem w_c20 : cw20.before args0 about1 = true := code_word (m := ⟨18, 2⟩) (meth := k18m2) (c := k18c2) (by decide +kernel) rfl rfl rfl (by decide +kernel)
set_option maxRecDepth 65536 in
theorem w_c21 : cw21.before args0 about1 = true := code_word (m := ⟨15, 2⟩) (meth := k15m2) (c := k15c2) (by decide +kernel) rfl rfl rfl (by decide +kernel)
set_option maxRecDepth 65536 in
theorem w_c22 : cw22.before args0 about1 = true := code_word (m := ⟨7, 2⟩) (meth := k7m2) (c := k7c2) (by decide +kernel) rfl rfl rfl (by decide +kernel)
set_option maxRecDepth 65536 in
theorem w_c23 : cw23.before args0 about1 = true := code_word (m := ⟨7, 7⟩) (meth := k7m7) (c := k7c7) (by decide +kernel) rfl rfl rfl (by decide +kernel)
set_option maxRecDepth 65536 in
theorem w_c24 : cw24.before args0 about1 = true := code_word (m := ⟨14, 6⟩) (meth := k14m6) (c := k14c6) (by decide +kernel) rfl rfl rfl (by decide +kernel)
set_option maxRecDepth 65536 in
theorem w_c25 : cw25.before args0 about1 = true := code_word (m := ⟨15, 3⟩) (meth := k15m3) (c := k15c3) (by decide +kernel) rfl rfl rfl (by decide +kernel)
set_option maxRecDepth 65536 in
theorem w_c26 : cw26.before args0 about1 = true := code_word (m := ⟨14, 2⟩) (meth := k14m2) (c := k14c2) (by decide +kernel) rfl rfl rfl (by decide +kernel)
set_option maxRecDepth 65536 in
theorem w_c27 : cw27.before args0 about1 = true := code_word (m := ⟨14, 7⟩) (meth := k14m7) (c := k14c7) (by decide +kernel) rfl rfl rfl (by decide +kernel)
set_option maxRecDepth 65536 in
theorem w_c28 : cw28.before args0 about1 = true := code_word (m := ⟨19, 3⟩) (meth := k19m3) (c := k19c3) (by decide +kernel) rfl rfl rfl (by decide +kernel)
set_option maxRecDepth 65536 in
theorem w_c29 : cw29.before args0 about1 = true := code_word (m := ⟨12, 0⟩) (meth := k12m0) (c := k12c0) (by decide +kernel) rfl rfl rfl (by decide +kernel)
set_option maxRecDepth 65536 in
theorem w_c30 : cw30.before args0 about1 = true := code_word (m := ⟨11, 1⟩) (meth := k11m1) (c := k11c1) (by decide +kernel) rfl rfl rfl (by decide +kernel)
set_option maxRecDepth 65536 in
theorem w_c31 : cw31.before args0 about1 = true := code_word (m := ⟨10, 1⟩) (meth := k10m1) (c := k10c1) (by decide +kernel) rfl rfl rfl (by decide +kernel)
set_option maxRecDepth 65536 in
theorem w_c32 : cw32.before args0 about1 = true := code_word (m := ⟨9, 1⟩) (meth := k9m1) (c := k9c1) (by decide +kernel) rfl rfl rfl (by decide +kernel)
set_option maxRecDepth 65536 in
theorem w_c33 : cw33.before args0 about1 = true := code_word (m := ⟨9, 0⟩) (meth := k9m0) (c := k9c0) (by decide +kernel) rfl rfl rfl (by decide +kernel)
set_option maxRecDepth 65536 in
theorem w_c34 : cw34.before args0 about1 = true := code_word (m := ⟨9, 2⟩) (meth := k9m2) (c := k9c2) (by decide +kernel) rfl rfl rfl (by decide +kernel)
set_option maxRecDepth 65536 in
theorem w_c35 : cw35.before args0 about1 = true := code_word (m := ⟨1, 4⟩) (meth := k1m4) (c := k1c4) (by decide +kernel) rfl rfl rfl (by decide +kernel)
set_option maxRecDepth 65536 in
theorem w_c36 : cw36.before args0 about1 = true := code_word (m := ⟨1, 3⟩) (meth := k1m3) (c := k1c3) (by decide +kernel) rfl rfl rfl (by decide +kernel)
set_option maxRecDepth 65536 in
theorem w_c37 : cw37.before args0 about1 = true := code_word (m := ⟨7, 4⟩) (meth := k7m4) (c := k7c4) (by decide +kernel) rfl rfl rfl (by decide +kernel)
set_option maxRecDepth 65536 in
theorem w_c38 : cw38.before args0 about1 = true := code_word (m := ⟨7, 9⟩) (meth := k7m9) (c := k7c9) (by decide +kernel) rfl rfl rfl (by decide +kernel)
set_option maxRecDepth 65536 in
theorem w_c39 : cw39.before args0 about1 = true := code_word (m := ⟨21, 1⟩) (meth := k21m1) (c := k21c1) (by decide +kernel) rfl rfl rfl (by decide +kernel)
set_option maxRecDepth 65536 in
theorem w_c40 : cw40.before args0 about1 = true := code_word (m := ⟨7, 10⟩) (meth := k7m10) (c := k7c10) (by decide +kernel) rfl rfl rfl (by decide +kernel)
set_option maxRecDepth 65536 in
theorem w_c41 : cw41.before args0 about1 = true := code_word (m := ⟨22, 1⟩) (meth := k22m1) (c := k22c1) (by decide +kernel) rfl rfl rfl (by decide +kernel)
set_option maxRecDepth 65536 in
theorem w_c42 : cw42.before args0 about1 = true := code_word (m := ⟨23, 2⟩) (meth := k23m2) (c := k23c2) (by decide +kernel) rfl rfl rfl (by decide +kernel)
set_option maxRecDepth 65536 in
theorem w_c43 : cw43.before args0 about1 = true := code_word (m := ⟨23, 3⟩) (meth := k23m3) (c := k23c3) (by decide +kernel) rfl rfl rfl (by decide +kernel)
set_option maxRecDepth 65536 in
theorem w_c44 : cw44.before args0 about1 = true := code_word (m := ⟨23, 1⟩) (meth := k23m1) (c := k23c1) (by decide +kernel) rfl rfl rfl (by decide +kernel)
set_option maxRecDepth 65536 in
theorem w_c45 : cw45.before args0 about1 = true := code_word (m := ⟨19, 4⟩) (meth := k19m4) (c := k19c4) (by decide +kernel) rfl rfl rfl (by decide +kernel)
set_option maxRecDepth 65536 in
theorem w_c46 : cw46.before args0 about1 = true := code_word (m := ⟨19, 2⟩) (meth := k19m2) (c := k19c2) (by decide +kernel) rfl rfl rfl (by decide +kernel)
def codes1 : List Jvm.Cond := [cw0, cw1, cw2, cw3, cw4, cw5, cw6, cw7, cw8, cw9, cw10, cw11, cw12, cw13, cw14, cw15, cw16, cw17, cw18, cw19, cw20, cw21, cw22, cw23, cw24, cw25, cw26, cw27, cw28, cw29, cw30, cw31, cw32, cw33, cw34, cw35, cw36, cw37, cw38, cw39, cw40, cw41, cw42, cw43, cw44, cw45, cw46]
set_option maxRecDepth 65536 in
theorem codes_eq : words1.filter isCode = codes1 := rfl
theorem w_codes : ∀ c ∈ words1.filter isCode, c.before args0 about1 = true := by
  rw [codes_eq]
  intro c hc
  simp only [codes1, List.mem_cons, List.not_mem_nil, or_false] at hc
  rcases hc with rfl | rfl | rfl | rfl | rfl | rfl | rfl | rfl | rfl | rfl | rfl | rfl | rfl | rfl | rfl | rfl | rfl | rfl | rfl | rfl | rfl | rfl | rfl | rfl | rfl | rfl | rfl | rfl | rfl | rfl | rfl | rfl | rfl | rfl | rfl | rfl | rfl | rfl | rfl | rfl | rfl | rfl | rfl | rfl | rfl | rfl | rfl
  · exact w_c0
  · exact w_c1
  · exact w_c2
  · exact w_c3
  · exact w_c4
  · exact w_c5
  · exact w_c6
  · exact w_c7
  · exact w_c8
  · exact w_c9
  · exact w_c10
  · exact w_c11
  · exact w_c12
  · exact w_c13
  · exact w_c14
  · exact w_c15
  · exact w_c16
  · exact w_c17
  · exact w_c18
  · exact w_c19
  · exact w_c20
  · exact w_c21
  · exact w_c22
  · exact w_c23
  · exact w_c24
  · exact w_c25
  · exact w_c26
  · exact w_c27
  · exact w_c28
  · exact w_c29
  · exact w_c30
  · exact w_c31
  · exact w_c32
  · exact w_c33
  · exact w_c34
  · exact w_c35
  · exact w_c36
  · exact w_c37
  · exact w_c38
  · exact w_c39
  · exact w_c40
  · exact w_c41
  · exact w_c42
  · exact w_c43
  · exact w_c44
  · exact w_c45
  · exact w_c46
set_option maxRecDepth 65536 in
theorem w_t1 : (words1.take 24).all (fun c => isCode c || c.before args0 about1) = true := by decide +kernel
set_option maxRecDepth 65536 in
theorem w_t2 : ((words1.drop 24).take 24).all (fun c => isCode c || c.before args0 about1) = true := by decide +kernel
set_option maxRecDepth 65536 in
theorem w_t3 : (((words1.drop 24).drop 24).take 24).all (fun c => isCode c || c.before args0 about1) = true := by decide +kernel
set_option maxRecDepth 65536 in
theorem w_t4 : ((((words1.drop 24).drop 24).drop 24).take 24).all (fun c => isCode c || c.before args0 about1) = true := by decide +kernel
set_option maxRecDepth 65536 in
theorem w_t5 : (((((words1.drop 24).drop 24).drop 24).drop 24).take 24).all (fun c => isCode c || c.before args0 about1) = true := by decide +kernel
set_option maxRecDepth 65536 in
theorem w_t6 : ((((((words1.drop 24).drop 24).drop 24).drop 24).drop 24).take 24).all (fun c => isCode c || c.before args0 about1) = true := by decide +kernel
set_option maxRecDepth 65536 in
theorem w_t7 : (((((((words1.drop 24).drop 24).drop 24).drop 24).drop 24).drop 24).take 24).all (fun c => isCode c || c.before args0 about1) = true := by decide +kernel
set_option maxRecDepth 65536 in
theorem w_t8 : ((((((((words1.drop 24).drop 24).drop 24).drop 24).drop 24).drop 24).drop 24).take 24).all (fun c => isCode c || c.before args0 about1) = true := by decide +kernel
set_option maxRecDepth 65536 in
theorem w_t9 : (((((((((words1.drop 24).drop 24).drop 24).drop 24).drop 24).drop 24).drop 24).drop 24).take 24).all (fun c => isCode c || c.before args0 about1) = true := by decide +kernel
set_option maxRecDepth 65536 in
theorem w_t10 : ((((((((((words1.drop 24).drop 24).drop 24).drop 24).drop 24).drop 24).drop 24).drop 24).drop 24).take 24).all (fun c => isCode c || c.before args0 about1) = true := by decide +kernel
set_option maxRecDepth 65536 in
theorem w_t11 : (((((((((((words1.drop 24).drop 24).drop 24).drop 24).drop 24).drop 24).drop 24).drop 24).drop 24).drop 24).take 24).all (fun c => isCode c || c.before args0 about1) = true := by decide +kernel
set_option maxRecDepth 65536 in
theorem w_t12 : (((((((((((words1.drop 24).drop 24).drop 24).drop 24).drop 24).drop 24).drop 24).drop 24).drop 24).drop 24).drop 24).all (fun c => isCode c || c.before args0 about1) = true := by decide +kernel
theorem w_tables : (allAtoms (Jvm.Cond.code x code maxLocals ret :: tables_1)).before args0 about1 = true := by
  rw [allAtoms_all]
  show words1.all (fun c => c.before args0 about1) = true
  refine all_split ?_ w_codes
  rw [← List.take_append_drop 24 words1, List.all_append, w_t1, ← List.take_append_drop 24 (words1.drop 24), List.all_append, w_t2, ← List.take_append_drop 24 ((words1.drop 24).drop 24), List.all_append, w_t3, ← List.take_append_drop 24 (((words1.drop 24).drop 24).drop 24), List.all_append, w_t4, ← List.take_append_drop 24 ((((words1.drop 24).drop 24).drop 24).drop 24), List.all_append, w_t5, ← List.take_append_drop 24 (((((words1.drop 24).drop 24).drop 24).drop 24).drop 24), List.all_append, w_t6, ← List.take_append_drop 24 ((((((words1.drop 24).drop 24).drop 24).drop 24).drop 24).drop 24), List.all_append, w_t7, ← List.take_append_drop 24 (((((((words1.drop 24).drop 24).drop 24).drop 24).drop 24).drop 24).drop 24), List.all_append, w_t8, ← List.take_append_drop 24 ((((((((words1.drop 24).drop 24).drop 24).drop 24).drop 24).drop 24).drop 24).drop 24), List.all_append, w_t9, ← List.take_append_drop 24 (((((((((words1.drop 24).drop 24).drop 24).drop 24).drop 24).drop 24).drop 24).drop 24).drop 24), List.all_append, w_t10, ← List.take_append_drop 24 ((((((((((words1.drop 24).drop 24).drop 24).drop 24).drop 24).drop 24).drop 24).drop 24).drop 24).drop 24), List.all_append, w_t11, w_t12]
  rfl
set_option maxRecDepth 65536 in
theorem w_rest : rest_1_c.before args0 about1 = true := by decide +kernel
set_option maxRecDepth 65536 in
theorem w_case : (Jvm.Cond.and given_1 narrow_1).before args0 about1 = true := by decide +kernel
set_option maxRecDepth 65536 in
theorem w_consts : constsHeld consts_1 about1 := Jvm.Lit.constsHeldB_iff.mp (by decide +kernel)
theorem w_applies : (headSpec (Jvm.Cond.code x code maxLocals ret :: tables_1) room_1).applies x e0.platform about1 = true :=
  (Spec.applies_iff w_frames).mpr ⟨w_running, w_runnable, w_alone, w_named, w_hears, w_ripe, w_room, w_tables⟩
theorem atStart : AtStart classFile x code maxLocals ret World_1 tables_1 room_1 Calls_1 rest_1 Pre_1 launch0 p0 e0 about1 theMethod args0 below0 :=
  ⟨lists_1, trivial, launch0.admits_env _ _ _, launch0.least_env, fairChoices_fair.cas, fairChoices_fair.clock, w_frames, w_args, w_heap, w_applies, ⟨(by decide +kernel : framesKnown about1 = true), ⟨(by decide +kernel : tablesKnown about1 = true), ⟨w_consts, trivial⟩⟩⟩, w_rest, w_case⟩
end start1
theorem witness_1 : WitnessClaimed_1 := ⟨start1.p0, start1.e0, start1.about1, start1.theMethod, start1.args0, start1.below0, start1.atStart⟩
end Jvm.Pilot.@@N@@
