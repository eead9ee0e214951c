import JvmDerived
import JvmDerived.Pilot.@@N@@Statement
import JvmDerived.Pilot.@@N@@Code
set_option linter.unusedVariables false
set_option linter.unusedSimpArgs false
namespace Jvm.RoadKit
open Sem ClassFile Op Lib Jvm.Stand Jvm.Free Jvm.LawKit
section New
variable {p : Program} {l : Launch} {e : Env} {R : Room} {s : State} {m : MethodId} {args : Array Value} {below : List Frame} {meth : Method} {c : Code} {T : State} {locs : List Loc} {cells slots : Nat} {K : Outcome → State → Prop}
theorem retI (X : Stand p l e R s m args below meth c T locs cells slots) (hx : p.tables.exec = Jvm.exec) {pc : Nat} {Ls : Array Slot} {z : Int32} {rest : List Value} (hret : meth.sig.returnType = some .int) (hd : decode c.code pc = .ok (.ireturn, 1)) {fs : List Frame}
    (hl : ∀ (f : JFrame) (acts : List Action), f.method = m → f.locked = none → f.entered = [] → (doReturn e (T.setTop f) acts (some (.int z))).1 = T.setFrames fs) : Steps p.tables e below (T.setTop (mkF m pc Ls (.int z :: rest))) (T.setFrames fs) := by
  have hm' : T.vm.method? m = some meth := X.method'
  have hn : narrow .int (.int z) = .int z := rfl
  show Steps p.tables e below (T.setTop { method := m, pc := pc, locals := Ls, stack := _ :: rest, locked := none }) _
  jvm_step X.here [X.here.top, hx, hd, hm', hret, hn]
  first | (intro acts; rw [hl _ acts rfl rfl rfl]) | rw [hl _ _ rfl rfl rfl]
  exact Steps.refl _
/-- from here the run comes to an end that K holds of -/
def Rch (p : Program) (e : Env) (below : List Frame) (K : Outcome → State → Prop) (T : State) (g : JFrame) : Prop := ∃ s₂ o, Steps p.tables e below (T.setTop g) s₂ ∧ s₂.status = .running ∧ Ended s₂ below o ∧ K o s₂
theorem Rch.of {T T' : State} {g g' : JFrame} (h : ∀ t, Steps p.tables e below (T'.setTop g') t → Steps p.tables e below (T.setTop g) t) (k : Rch p e below K T' g') : Rch p e below K T g := by
  obtain ⟨s₂, o, h1, h2⟩ := k
  exact ⟨s₂, o, h _ h1, h2⟩
theorem Rch.via {T T' : State} {g g' : JFrame} (h : Steps p.tables e below (T.setTop g) (T'.setTop g')) (k : Rch p e below K T' g') : Rch p e below K T g := Rch.of (fun _ kt => h.trans kt) k
theorem Rch.cast {T : State} {g g' : JFrame} (q : g = g') (k : Rch p e below K T g') : Rch p e below K T g := q ▸ k
theorem Rch.retN (X : Stand p l e R s m args below meth c T locs cells slots) (hx : p.tables.exec = Jvm.exec) {pc : Nat} {Ls : Array Slot} {z : Int32} {t : FieldType} {rest : List Value} (hret : meth.sig.returnType = some t) (ht : t = .boolean ∨ t = .byte ∨ t = .char ∨ t = .short) (hlk : meth.locks = false) (hd : decode c.code pc = .ok (.ireturn, 1))
    (k : ∀ U : State, U.heap = T.heap → FrameEnd s (.returned (some (.int (nar t z)))) U locs cells slots → K (.returned (some (.int (nar t z)))) U) : Rch p e below K T (mkF m pc Ls (.int z :: rest)) := by
  obtain ⟨fs, hr, hrun, hended, hW, hsame⟩ := X.leave (v := some (.int (nar t z))) (fun h => by rw [hret] at h; cases h) hlk
  exact ⟨_, _, Jvm.RoadKit.retN X hx hret ht hd hr, hrun, hended, k _ rfl ⟨⟨_, rfl⟩, hW, hsame⟩⟩
theorem Rch.retI (X : Stand p l e R s m args below meth c T locs cells slots) (hx : p.tables.exec = Jvm.exec) {pc : Nat} {Ls : Array Slot} {z : Int32} {rest : List Value} (hret : meth.sig.returnType = some .int) (hlk : meth.locks = false) (hd : decode c.code pc = .ok (.ireturn, 1))
    (k : ∀ U : State, U.heap = T.heap → FrameEnd s (.returned (some (.int z))) U locs cells slots → K (.returned (some (.int z))) U) : Rch p e below K T (mkF m pc Ls (.int z :: rest)) := by
  obtain ⟨fs, hr, hrun, hended, hW, hsame⟩ := X.leave (v := some (.int z)) (fun h => by rw [hret] at h; cases h) hlk
  exact ⟨_, _, Jvm.RoadKit.retI X hx hret hd hr, hrun, hended, k _ rfl ⟨⟨_, rfl⟩, hW, hsame⟩⟩
theorem Rch.retJ (X : Stand p l e R s m args below meth c T locs cells slots) (hx : p.tables.exec = Jvm.exec) {pc : Nat} {Ls : Array Slot} {z : Int64} {rest : List Value} (hret : meth.sig.returnType = some .long) (hlk : meth.locks = false) (hd : decode c.code pc = .ok (.lreturn, 1))
    (k : ∀ U : State, U.heap = T.heap → FrameEnd s (.returned (some (.long z))) U locs cells slots → K (.returned (some (.long z))) U) : Rch p e below K T (mkF m pc Ls (.long z :: rest)) := by
  obtain ⟨fs, hr, hrun, hended, hW, hsame⟩ := X.leave (v := some (.long z)) (fun h => by rw [hret] at h; cases h) hlk
  exact ⟨_, _, retOut X hx hret rfl (Or.inr (Or.inl ⟨rfl, rfl, z, rfl⟩)) hd hr, hrun, hended, k _ rfl ⟨⟨_, rfl⟩, hW, hsame⟩⟩
theorem Rch.retA (X : Stand p l e R s m args below meth c T locs cells slots) (hx : p.tables.exec = Jvm.exec) {pc : Nat} {Ls : Array Slot} {w : Value} {t : FieldType} {rest : List Value} (hret : meth.sig.returnType = some t) (ht : t.isReference = true) (hw : w.isRef = true) (hlk : meth.locks = false) (hd : decode c.code pc = .ok (.areturn, 1))
    (k : ∀ U : State, U.heap = T.heap → FrameEnd s (.returned (some w)) U locs cells slots → K (.returned (some w)) U) : Rch p e below K T (mkF m pc Ls (w :: rest)) := by
  obtain ⟨fs, hr, hrun, hended, hW, hsame⟩ := X.leave (v := some w) (fun h => by rw [hret] at h; cases h) hlk
  have hn : narrow t w = w := by
    rcases ref_cases hw with rfl | ⟨a, rfl⟩ <;> cases t <;> first | rfl | (simp [FieldType.isReference] at ht)
  exact ⟨_, _, retOut X hx hret hn (Or.inr (Or.inr (Or.inr (Or.inr ⟨rfl, ht, hw⟩)))) hd hr, hrun, hended, k _ rfl ⟨⟨_, rfl⟩, hW, hsame⟩⟩
theorem Rch.retV (X : Stand p l e R s m args below meth c T locs cells slots) (hx : p.tables.exec = Jvm.exec) {pc : Nat} {Ls : Array Slot} (hret : meth.sig.returnType = none) (hlk : meth.locks = false) (hd : decode c.code pc = .ok (.return_, 1))
    (k : ∀ U : State, U.heap = T.heap → FrameEnd s (.returned none) U locs cells slots → K (.returned none) U) : Rch p e below K T (mkF m pc Ls []) := by
  obtain ⟨fs, hr, hrun, hended, hW, hsame⟩ := X.leave (v := none) (fun _ => rfl) hlk
  exact ⟨_, _, X.returnOut hx hret hd hr, hrun, hended, k _ rfl ⟨⟨_, rfl⟩, hW, hsame⟩⟩
theorem own_met {y : MethodName} {bytes : ByteArray} {maxL : Nat} {ret : Option FieldType} {ws : List Cond} {rm : Room} {as' : Array Value} {Z : State} {h0 : Heap} {Q : Option Value → Heap → List Loc → Prop} {ck sk : Nat} (hn : plainFor y = true)
    (body : ∀ (p : Program) (e : Env) (s : State) (m : MethodId) (below : List Frame) (meth : Method) (c : Code) (T : State) (K : Outcome → State → Prop), p.tables.exec = Jvm.exec → c.code = bytes → c.maxLocals = maxL → meth.sig.returnType = ret → meth.locks = false → s.vm.findClass y.cls = some m.cls → meth.name = y.name → Z.Warmed39 s.vm → Stand p l e rm s m as' below meth c T [] 0 0 → T.heap = h0 →
      (∀ (v : Option Value) (U : State) (L : List Loc) (k n : Nat), Q v U.heap L → FrameEnd s (.returned v) U L k n → k ≤ ck → n ≤ sk → K (.returned v) U) → Rch p e below K T (entryFrame m as' maxL)) :
    MetFree l y (head1 (Cond.code y bytes maxL ret :: ws) rm) (fun a U => a = as' ∧ Z.Warmed39 U.vm ∧ U.heap = h0) (fun _ _ _ _ _ => True) (fun _ U o U' => ∃ v L, o = .returned v ∧ Q v U'.heap L ∧ FrameEnd U o U' L ck sk) := by
  refine MetFree.of_bodySF hn hisR ?_
  intro p e s m args below meth c s₁ Bd hml0 hP hK
  obtain ⟨rfl, hZ, hh⟩ := hP
  show Rch p e below (fun o U' => ∃ v L, o = .returned v ∧ Q v U'.heap L ∧ FrameEnd s o U' L ck sk) s₁ (entryFrame m args maxL)
  refine body p e s m below meth c s₁ _ Bd.exec Bd.bytes hml0 Bd.returns Bd.notSynchronized (findClass_of_methodNamed Bd.named) (name_of_methodNamed Bd.named Bd.method).1 hZ (Stand.of_body Bd) (by rw [← hh, Bd.state]; rfl) ?_
  intro v U L k n hQ hF hk hs
  exact ⟨v, L, rfl, hQ, hF.1, hF.2.1, hF.2.2.mono hk hs⟩
theorem own_metS {y : MethodName} {bytes : ByteArray} {maxL : Nat} {ret : Option FieldType} {ws : List Cond} {rm : Room} {as' : Array Value} {Z : State} {h0 : Heap} {Q : Option Value → Heap → List Loc → Prop} {ck sk : Nat} (hn : plainFor y = true)
    (body : ∀ (p : Program) (e : Env) (s : State) (m : MethodId) (below : List Frame) (meth : Method) (c : Code) (T : State) (K : Outcome → State → Prop), p.tables.exec = Jvm.exec → c.code = bytes → c.maxLocals = maxL → meth.sig.returnType = ret → meth.locks = false → s.vm.findClass y.cls = some m.cls → meth.name = y.name → Z.Warmed39 s.vm → Stand p l e rm s m as' below meth c T [] 0 0 → T.heap = h0 →
      (∀ (v : Option Value) (U : State) (L : List Loc) (k n : Nat), Q v U.heap L → ReturnedEndW s (.returned v) U L k n → k ≤ ck → n ≤ sk → K (.returned v) U) → Rch p e below K T (entryFrame m as' maxL)) :
    MetFree l y (head1 (Cond.code y bytes maxL ret :: ws) rm) (fun a U => a = as' ∧ Z.Warmed39 U.vm ∧ U.heap = h0) (fun _ _ _ _ _ => True) (fun _ U o U' => ∃ v L, o = .returned v ∧ Q v U'.heap L ∧ ReturnedEndW U o U' L ck sk) := by
  refine MetFree.of_bodySF hn hisR ?_
  intro p e s m args below meth c s₁ Bd hml0 hP hK
  obtain ⟨rfl, hZ, hh⟩ := hP
  show Rch p e below (fun o U' => ∃ v L, o = .returned v ∧ Q v U'.heap L ∧ ReturnedEndW s o U' L ck sk) s₁ (entryFrame m args maxL)
  refine body p e s m below meth c s₁ _ Bd.exec Bd.bytes hml0 Bd.returns Bd.notSynchronized (findClass_of_methodNamed Bd.named) (name_of_methodNamed Bd.named Bd.method).1 hZ (Stand.of_body Bd) (by rw [← hh, Bd.state]; rfl) ?_
  intro v U L k n hQ hF hk hs
  exact ⟨v, L, rfl, hQ, hF.1, hF.2.1, hF.2.2.1, hF.2.2.2.mono hk hs⟩
theorem own_end {vm1 : Vm} {n : Nat} (h : s.Since vm1 n) {U : State} {o : Outcome} {L : List Loc} {k c : Nat} (hn : n ≤ U.heap.size) (F : FrameEnd (s.setVm vm1) o U L k c) : ReturnedEndW s o U L k c := by
  obtain ⟨h1, h2, h3⟩ := F
  obtain ⟨g1, g2, g3⟩ := h.ended h2 hn h3
  exact ⟨h1, g1, g2, g3⟩
theorem own_narrowZ {z : Int32} (h : z = 0 ∨ z = 1) : narrow .boolean (.int z) = .int z := by rcases h with rfl | rfl <;> rfl
theorem own_fitZ {z : Int32} (h : z = 0 ∨ z = 1) : fits .boolean (.int z) = true := by rcases h with rfl | rfl <;> rfl
theorem own_narZ {z : Int32} (h : z = 0 ∨ z = 1) : nar .boolean z = z := by rcases h with rfl | rfl <;> rfl
/-- a truth as an int -/
def ob (P : Prop) [Decidable P] : Int32 := if P then 1 else 0
theorem ob_cases (P : Prop) [Decidable P] : (ob P = 1 ∧ P) ∨ (ob P = 0 ∧ ¬ P) := by
  by_cases h : P
  · exact Or.inl ⟨if_pos h, h⟩
  · exact Or.inr ⟨if_neg h, h⟩
theorem ob01 (P : Prop) [Decidable P] : ob P = 0 ∨ ob P = 1 := (ob_cases P).elim (fun h => Or.inr h.1) (fun h => Or.inl h.1)
theorem ob_pos {P : Prop} [Decidable P] (h : P) : ob P = 1 := if_pos h
theorem ob_neg {P : Prop} [Decidable P] (h : ¬ P) : ob P = 0 := if_neg h
theorem own_selP {args : Array Value} {y : MethodName} {n : Nat} (wi : (Cond.instantiable y.cls n).before args s = true) (hp : (Cond.privateMethod y).before args s = true) (hinst : (Cond.instanceMethod y).before args s = true) (hy : y.cls ≠ "java/lang/invoke/MethodHandle" ∧ y.cls ≠ "java/lang/invoke/VarHandle") : (Cond.selects y.cls y y).before args s = true := by
  obtain ⟨c, k, h1, h2, -, h4, -⟩ := Cond.instantiable_spec wi
  exact Jvm.Stand.selects_self_of_private h1 h2 (by cases hq : k.isInterface <;> simp [hq] at h4 ⊢) (Cond.privateMethod_at hp) hinst hy
end New
section Arrays
variable {Z : State} {h h' : Heap} {a b : Addr} {ty : FieldType} {n i : Nat} {f f' : Nat → Value} {sl : Nat} {v : Value} {ws : List Addr} {j : Int32} {c : Cell}
/-- the array at a has n places; place q holds f q -/
def Av (Z : State) (h : Heap) (a : Addr) (ty : FieldType) (n : Nat) (f : Nat → Value) : Prop := ∃ cl : Cell, Arr Z h a cl ty ∧ cl.slots.size = n ∧ ∀ j, j < n → cl.slots[j]? = some (f j)
theorem Av.ext (V : Av Z h a ty n f) (E : Ext h h') : Av Z h' a ty n f := by obtain ⟨c, A, r⟩ := V; exact ⟨c, A.ext E, r⟩
theorem Av.other (V : Av Z h b ty n f) (W : Wr h h' a sl v) (q : b ≠ a) : Av Z h' b ty n f := by obtain ⟨c, A, r⟩ := V; exact ⟨c, A.other W q, r⟩
theorem Av.keep (V : Av Z h a ty n f) (K : Keep h h' ws) (q : a ∉ ws) : Av Z h' a ty n f := by obtain ⟨c, A, r⟩ := V; exact ⟨c, ⟨K.2.1 a c A.1 q, A.2⟩, r⟩
theorem Av.lt (V : Av Z h a ty n f) : a < h.size := by obtain ⟨c, A, -⟩ := V; exact A.lt
theorem Av.congr (V : Av Z h a ty n f) (q : ∀ j, j < n → f j = f' j) : Av Z h a ty n f' := by obtain ⟨c, A, S, H⟩ := V; exact ⟨c, A, S, fun j hj => by rw [H j hj, q j hj]⟩
theorem Av.nostat (V : Av Z h a ty n f) : ∀ cell : Cell, h[a]? = some cell → cell.vm.isStatics = false := by
  obtain ⟨c, A, -⟩ := V
  exact Arr.nostat A
theorem own_sta {C nm d : String} (F : Sta Z h C nm d v) (K : Keep h h' ws) (hn : ∀ x ∈ ws, ∀ cell : Cell, h[x]? = some cell → cell.vm.isStatics = false) : Sta Z h' C nm d v := by
  obtain ⟨cf, i, k, f, st, cell, h1, h2, h3, h4, h5, h6, h7⟩ := F
  refine ⟨cf, i, k, f, st, cell, h1, h2, h3, h4, K.2.1 st cell h5 fun q => ?_, h6, h7⟩
  rw [hn st q cell h5] at h6
  cases h6
theorem oNat (e : j.toInt = (i : Int)) : j.toNatClampNeg = i := by simp only [Int32.toNatClampNeg]; omega
theorem oNn (e : j.toInt = (i : Int)) : ¬ j < 0 := by
  rw [Int32.lt_iff_toInt_lt]; have : (0 : Int32).toInt = 0 := rfl
  omega
theorem oIn (S : c.slots.size = n) (e : j.toInt = (i : Int)) (hi : i < n) : ¬ (j < 0 ∨ c.slots.size ≤ j.toNatClampNeg) := by
  rw [oNat e, S]; intro q
  rcases q with q | q
  · exact oNn e q
  · omega
theorem oAt (H : ∀ j, j < n → c.slots[j]? = some (f j)) (e : j.toInt = (i : Int)) (hi : i < n) : c.slots[j.toNatClampNeg]? = some (f i) := by rw [oNat e]; exact H i hi
theorem Av.set (V : Av Z h a ty n f) (e : j.toInt = (i : Int)) (hi : i < n) (W : Wr h h' a j.toNatClampNeg v) : Av Z h' a ty n (fun q => if q = i then v else f q) := by
  obtain ⟨c, A, S, H⟩ := V
  rw [oNat e] at W
  refine ⟨_, A.same W, by rw [sz_set]; exact S, fun k hk => ?_⟩
  by_cases u : k = i
  · subst u; simp [Cell.setSlot, S, hk]
  · simp only [u, if_false, Cell.setSlot]; rw [Array.getElem?_setIfInBounds_ne (Ne.symm u)]; exact H k hk
theorem Av.setI {y : Nat → Int32} {x : Int32} (V : Av Z h a ty n (fun q => .int (y q))) (e : j.toInt = (i : Int)) (hi : i < n) (W : Wr h h' a j.toNatClampNeg (.int x)) : Av Z h' a ty n (fun q => .int (if q = i then x else y q)) := (V.set e hi W).congr fun k _ => by
  by_cases u : k = i <;> simp [u]
theorem Av.setJ {y : Nat → Int64} {x : Int64} (V : Av Z h a ty n (fun q => .long (y q))) (e : j.toInt = (i : Int)) (hi : i < n) (W : Wr h h' a j.toNatClampNeg (.long x)) : Av Z h' a ty n (fun q => .long (if q = i then x else y q)) := (V.set e hi W).congr fun k _ => by
  by_cases u : k = i <;> simp [u]
theorem oLen (S : c.slots.size = n) : c.slots.size.toInt32 = Int32.ofNat n := by rw [S]
theorem Av.new {k : ClassId} {z : Int32} (A : Arr Z h a (newA k ty z) ty) (e : z.toInt = (n : Int)) : Av Z h a ty n (fun _ => defaultValue ty) :=
  ⟨_, A, by rw [sz_new]; exact oNat e, fun j hj => by have := oNat e; simp [newA, this, hj]⟩
/-- the array at a takes what is a C -/
def OvA (Z : State) (h : Heap) (a : Addr) (C : String) : Prop := ∃ cl : Cell, h[a]? = some cl ∧ Ovr Z cl.cls C
theorem OvA.ext {C : String} (F : OvA Z h a C) (E : Ext h h') : OvA Z h' a C := by obtain ⟨c, h1, h2⟩ := F; exact ⟨c, E.2 _ _ h1, h2⟩
theorem OvA.wr {C : String} (F : OvA Z h a C) (W : Wr h h' b sl v) : OvA Z h' a C := by
  obtain ⟨c, h1, h2⟩ := F
  obtain ⟨c', e1, e2, -⟩ := wr_at W h1
  exact ⟨c', e1, by rw [e2]; exact h2⟩
theorem OvA.keep {C : String} (F : OvA Z h a C) (K : Keep h h' ws) : OvA Z h' a C := by
  obtain ⟨c, h1, h2⟩ := F
  obtain ⟨c', e1, e2, -⟩ := K.2.2 a c h1
  exact ⟨c', e1, by rw [e2]; exact h2⟩
theorem OvA.at {C : String} (F : OvA Z h a C) (A : Arr Z h a c ty) : Ovr Z c.cls C := by
  obtain ⟨c', h1, h2⟩ := F
  cases h1.symm.trans A.1; exact h2
theorem oTo {n : Nat} (h : n < 2 ^ 31) : (Int32.ofNat n).toInt = (n : Int) := len_toInt h
end Arrays
end Jvm.RoadKit
namespace Jvm.Pilot.@@N@@
open Jvm Jvm.ClassFile Sem Op Lib Jvm.Free Jvm.Stand Jvm.LawKit Jvm.RoadKit Bundle Jvm.Pilot.@@N@@.Jvm.D
theorem d_jdk_30_method_1_code_0 : decode jdk_30_method_1_code 0 = .ok (.aload_n 0, 1) := by decide +kernel
theorem d_jdk_30_method_1_code_1 : decode jdk_30_method_1_code 1 = .ok (.invokespecial 1, 3) := by decide +kernel
theorem d_jdk_30_method_1_code_4 : decode jdk_30_method_1_code 4 = .ok (.return_, 1) := by decide +kernel
theorem pn_0 : plainName "java/lang/Record" = true := by first | (simp [plainName, overriddenIn]; done) | decide +kernel
theorem pd_0 : parseMethodDescriptor "(ZZ)V" = some ⟨[.boolean, .boolean], none⟩ := by decide +kernel
theorem pd_1 : parseMethodDescriptor "()V" = some ⟨[], none⟩ := by decide +kernel
theorem pd_2 : parseMethodDescriptor "(Z)Z" = some ⟨[.boolean], some .boolean⟩ := by decide +kernel
theorem ef_rm2 (m : MethodId) (a1 : Addr) : entryFrame m #[(.ref a1)] 1 = mkF m 0 #[.val (.ref a1)] [] := by first | (simp [entryFrame, mkF, argsToLocals, Value.category]; done) | rfl
def Q_rm2 (Z : State) (a1 : Addr) (h0 : Heap) (n0 : Nat) (vv_ : Option Value) (h : Heap) (LL_ : List Loc) : Prop := vv_ = none ∧ Fr n0 LL_ ∧ (h = h0)
set_option maxRecDepth 65536 in
set_option maxHeartbeats 40000000 in
theorem rm2 (l : Launch) (Z : State) (a0 : Array Value) (hw : ∀ d ∈ tables_1, d.before a0 Z = true) (ws : List Jvm.Cond) (a1 : Addr) (h0 : Heap) (n0 : Nat) (Z0 : n0 ≤ h0.size)  :
    MetFree l (⟨"java/lang/Record", "<init>", "()V"⟩ : MethodName) (head1 (Jvm.Cond.code (⟨"java/lang/Record", "<init>", "()V"⟩ : MethodName) jdk_30_method_1_code 1 none :: ws) ({ frames := 1, cells := 0, slots := 0, locals := 12 } : Room)) (fun aa_ UU_ => aa_ = #[(.ref a1)] ∧ Z.Warmed39 UU_.vm ∧ UU_.heap = h0) (fun _ _ _ _ _ => True) (fun _ UU_ oo_ VV_ => ∃ vv_ LL_, oo_ = .returned vv_ ∧ Q_rm2 Z a1 h0 n0 vv_ VV_.heap LL_ ∧ FrameEnd UU_ oo_ VV_ LL_ ({ frames := 1, cells := 0, slots := 0, locals := 12 } : Room).cells ({ frames := 1, cells := 0, slots := 0, locals := 12 } : Room).slots) := by
  refine own_met (y := (⟨"java/lang/Record", "<init>", "()V"⟩ : MethodName)) (plainFor_of_name pn_0) ?_
  intro p e s m below meth c T0 K hx hby hml hret hlk hown hnm hZ X0 e0 hK
  have N0 := Fr.nil n0
  refine Rch.cast (ef_rm2 m a1) ?_
  refine Rch.of (T' := T0) (g' := (mkF m 1 #[.val (.ref a1)] [(.ref a1)])) (fun _ kt => XS.aloadN X0.here hx rfl (hb hby d_jdk_30_method_1_code_0) rfl rfl kt) ?_
  obtain ⟨T1, X1, e1, st1⟩ := initO X0 hx hZ hown (hw _ (List.mem_of_getElem? (i := 11) rfl)) (hw _ (List.mem_of_getElem? (i := 12) rfl)) (hw _ (List.mem_of_getElem? (i := 13) rfl)) e0 (g := (mkF m 1 #[.val (.ref a1)] [(.ref a1)])) rfl (by rw [hml]; rfl) rfl (hb hby d_jdk_30_method_1_code_1) (by decide) (W := 0) (by show 2 * 0 + _ ≤ _; exact Nat.le_of_eq rfl) (by decide)
  refine Rch.of (T' := T1) (g' := (mkF m 4 #[.val (.ref a1)] [])) st1 ?_
  exact Rch.retV X1 hx hret hlk (hb hby d_jdk_30_method_1_code_4) (fun U hU hF => hK _ U _ _ _ (by show Q_rm2 Z a1 h0 n0 _ U.heap _; rw [hU, e1]; exact ⟨rfl, N0, rfl⟩) hF (by decide) (by decide))
theorem d_prog_8_method_1_code_0 : decode prog_8_method_1_code 0 = .ok (.aload_n 0, 1) := by decide +kernel
theorem d_prog_8_method_1_code_1 : decode prog_8_method_1_code 1 = .ok (.invokespecial 1, 3) := by decide +kernel
theorem d_prog_8_method_1_code_4 : decode prog_8_method_1_code 4 = .ok (.aload_n 0, 1) := by decide +kernel
theorem d_prog_8_method_1_code_5 : decode prog_8_method_1_code 5 = .ok (.iload_n 1, 1) := by decide +kernel
theorem d_prog_8_method_1_code_6 : decode prog_8_method_1_code 6 = .ok (.putfield 7, 3) := by decide +kernel
theorem d_prog_8_method_1_code_9 : decode prog_8_method_1_code 9 = .ok (.aload_n 0, 1) := by decide +kernel
theorem d_prog_8_method_1_code_10 : decode prog_8_method_1_code 10 = .ok (.iload_n 2, 1) := by decide +kernel
theorem d_prog_8_method_1_code_11 : decode prog_8_method_1_code 11 = .ok (.putfield 13, 3) := by decide +kernel
theorem d_prog_8_method_1_code_14 : decode prog_8_method_1_code 14 = .ok (.return_, 1) := by decide +kernel
theorem pn_1 : plainName "com/example/claimsmith/claimsmith/engine/GroupMapping$Manual" = true := by first | (simp [plainName, overriddenIn]; done) | decide +kernel
theorem ef_rm1 (m : MethodId) (a1 : Addr) (p2 : Int32) (p3 : Int32) : entryFrame m #[(.ref a1), (.int p2), (.int p3)] 3 = mkF m 0 #[.val (.ref a1), .val (.int p2), .val (.int p3)] [] := by first | (simp [entryFrame, mkF, argsToLocals, Value.category]; done) | rfl
def Q_rm1 (Z : State) (a1 : Addr) (p2 : Int32) (p3 : Int32) (u2 : Value) (u3 : Value) (h0 : Heap) (n0 : Nat) (vv_ : Option Value) (h : Heap) (LL_ : List Loc) : Prop := vv_ = none ∧ Fr n0 LL_ ∧ (Keep h0 h [a1] ∧ Exa Z h a1 "com/example/claimsmith/claimsmith/engine/GroupMapping$Manual" ∧ Fld Z h a1 "com/example/claimsmith/claimsmith/engine/GroupMapping$Manual" "restrictCreationToMappedGroups" "Z" (.int p2) ∧ Fld Z h a1 "com/example/claimsmith/claimsmith/engine/GroupMapping$Manual" "restrictLoginToMappedGroups" "Z" (.int p3))
set_option maxRecDepth 65536 in
set_option maxHeartbeats 40000000 in
theorem rm1 (l : Launch) (Z : State) (a0 : Array Value) (hw : ∀ d ∈ tables_1, d.before a0 Z = true) (ws : List Jvm.Cond) (a1 : Addr) (p2 : Int32) (p3 : Int32) (u2 : Value) (u3 : Value) (h0 : Heap) (n0 : Nat) (Z0 : n0 ≤ h0.size) (E1 : Exa Z h0 a1 "com/example/claimsmith/claimsmith/engine/GroupMapping$Manual") (F1 : Fld Z h0 a1 "com/example/claimsmith/claimsmith/engine/GroupMapping$Manual" "restrictCreationToMappedGroups" "Z" u2) (F2 : Fld Z h0 a1 "com/example/claimsmith/claimsmith/engine/GroupMapping$Manual" "restrictLoginToMappedGroups" "Z" u3) (g1 : n0 ≤ a1) (hb2 : p2 = 0 ∨ p2 = 1) (hb3 : p3 = 0 ∨ p3 = 1) :
    MetFree l (⟨"com/example/claimsmith/claimsmith/engine/GroupMapping$Manual", "<init>", "(ZZ)V"⟩ : MethodName) (head1 (Jvm.Cond.code (⟨"com/example/claimsmith/claimsmith/engine/GroupMapping$Manual", "<init>", "(ZZ)V"⟩ : MethodName) prog_8_method_1_code 3 none :: ws) ({ frames := 2, cells := 0, slots := 0, locals := 24 } : Room)) (fun aa_ UU_ => aa_ = #[(.ref a1), (.int p2), (.int p3)] ∧ Z.Warmed39 UU_.vm ∧ UU_.heap = h0) (fun _ _ _ _ _ => True) (fun _ UU_ oo_ VV_ => ∃ vv_ LL_, oo_ = .returned vv_ ∧ Q_rm1 Z a1 p2 p3 u2 u3 h0 n0 vv_ VV_.heap LL_ ∧ FrameEnd UU_ oo_ VV_ LL_ ({ frames := 2, cells := 0, slots := 0, locals := 24 } : Room).cells ({ frames := 2, cells := 0, slots := 0, locals := 24 } : Room).slots) := by
  refine own_met (y := (⟨"com/example/claimsmith/claimsmith/engine/GroupMapping$Manual", "<init>", "(ZZ)V"⟩ : MethodName)) (plainFor_of_name pn_1) ?_
  intro p e s m below meth c T0 K hx hby hml hret hlk hown hnm hZ X0 e0 hK
  have N0 := Fr.nil n0
  refine Rch.cast (ef_rm1 m a1 p2 p3) ?_
  refine Rch.of (T' := T0) (g' := (mkF m 1 #[.val (.ref a1), .val (.int p2), .val (.int p3)] [(.ref a1)])) (fun _ kt => XS.aloadN X0.here hx rfl (hb hby d_prog_8_method_1_code_0) rfl rfl kt) ?_
  obtain ⟨_, _, ⟨T2, L2, k2, n2⟩, -, X2, ⟨Lc2, hQ2, l2, y2, z2⟩, st2⟩ := X0.specialBack hx (y := (⟨"java/lang/Record", "<init>", "()V"⟩ : MethodName)) rfl hown (mvT hZ (hw _ (List.mem_of_getElem? (i := 6) rfl))) (mvT hZ (hw _ (List.mem_of_getElem? (i := 7) rfl))) (mvT hZ (hw _ (List.mem_of_getElem? (i := 10) rfl))) (by decide) (backOf (W := 0) (rm2 l Z a0 hw [] a1 h0 n0 Z0 ) hZ (hw _ (List.mem_of_getElem? (i := 10) rfl)) (hw _ (List.mem_of_getElem? (i := 9) rfl)) (by decide) (by decide)) (g := (mkF m 1 #[.val (.ref a1), .val (.int p2), .val (.int p3)] [(.ref a1)])) rfl (by rw [hml]; rfl) (Steps.refl _) (a := a1) (argsL := []) (rest := []) (lenOf pd_1 rfl) rfl (by show 2 * 0 + _ ≤ _; exact Nat.le_of_eq rfl) (hb hby d_prog_8_method_1_code_1) (fun _ _ => ⟨rfl, e0, (by decide : 0 + 0 ≤ _), (by decide : 0 + 0 ≤ _)⟩)
  dsimp only [Pt.U, Pt.locs, Pt.cells, Pt.slots] at X2 l2 y2 z2 st2 hQ2
  subst l2 y2 z2
  obtain ⟨rfl, N2q, hQ2⟩ := hQ2
  have N2 := Fr.app N0 N2q
  refine Rch.via (T' := T2) (g' := (mkF m 4 #[.val (.ref a1), .val (.int p2), .val (.int p3)] [])) st2 ?_
  refine Rch.of (T' := T2) (g' := (mkF m 5 #[.val (.ref a1), .val (.int p2), .val (.int p3)] [(.ref a1)])) (fun _ kt => XS.aloadN X2.here hx rfl (hb hby d_prog_8_method_1_code_4) rfl rfl kt) ?_
  refine Rch.of (T' := T2) (g' := (mkF m 6 #[.val (.ref a1), .val (.int p2), .val (.int p3)] [(.int p2), (.ref a1)])) (fun _ kt => XS.iloadN X2.here hx rfl (hb hby d_prog_8_method_1_code_5) rfl  kt) ?_
  obtain ⟨T3, h3, X3, e3, W3, st3⟩ := putFN X2 hx hZ hown (hw _ (List.mem_of_getElem? (i := 14) rfl)) Via.refl hQ2 F1 E1 (Or.inr ⟨(hw _ (List.mem_of_getElem? (i := 15) rfl)), rfl, hnm⟩) (hw _ (List.mem_of_getElem? (i := 1) rfl)) (ty := .boolean) (v' := (.int p2)) (by decide) (own_narrowZ hb2) (own_fitZ hb2) (g := (mkF m 6 #[.val (.ref a1), .val (.int p2), .val (.int p3)] [(.int p2), (.ref a1)])) rfl rfl (hb hby d_prog_8_method_1_code_6)
  have N3 := Fr.snoc X3 N2 g1
  have Fw3 := Fld.same W3 F1
  have Fb4 := (F2.other W3 (Or.inr (slot_ne (Or.inr (hw _ (List.mem_of_getElem? (i := 17) rfl))) (Or.inr (hw _ (List.mem_of_getElem? (i := 15) rfl))) (by decide) (t := .boolean) (t' := .boolean) (by decide) (by decide))))
  refine Rch.of (T' := T3) (g' := (mkF m 9 #[.val (.ref a1), .val (.int p2), .val (.int p3)] [])) st3 ?_
  refine Rch.of (T' := T3) (g' := (mkF m 10 #[.val (.ref a1), .val (.int p2), .val (.int p3)] [(.ref a1)])) (fun _ kt => XS.aloadN X3.here hx rfl (hb hby d_prog_8_method_1_code_9) rfl rfl kt) ?_
  refine Rch.of (T' := T3) (g' := (mkF m 11 #[.val (.ref a1), .val (.int p2), .val (.int p3)] [(.int p3), (.ref a1)])) (fun _ kt => XS.iloadN X3.here hx rfl (hb hby d_prog_8_method_1_code_10) rfl  kt) ?_
  obtain ⟨T5, h5, X5, e5, W5, st5⟩ := putFN X3 hx hZ hown (hw _ (List.mem_of_getElem? (i := 16) rfl)) Via.refl e3 Fb4 (E1.wr W3) (Or.inr ⟨(hw _ (List.mem_of_getElem? (i := 17) rfl)), rfl, hnm⟩) (hw _ (List.mem_of_getElem? (i := 1) rfl)) (ty := .boolean) (v' := (.int p3)) (by decide) (own_narrowZ hb3) (own_fitZ hb3) (g := (mkF m 11 #[.val (.ref a1), .val (.int p2), .val (.int p3)] [(.int p3), (.ref a1)])) rfl rfl (hb hby d_prog_8_method_1_code_11)
  have N5 := Fr.snoc X5 N3 g1
  have Fw5 := Fld.same W5 Fb4
  have Fb6 := (Fw3.other W5 (Or.inr (slot_ne (Or.inr (hw _ (List.mem_of_getElem? (i := 15) rfl))) (Or.inr (hw _ (List.mem_of_getElem? (i := 17) rfl))) (by decide) (t := .boolean) (t' := .boolean) (by decide) (by decide))))
  refine Rch.of (T' := T5) (g' := (mkF m 14 #[.val (.ref a1), .val (.int p2), .val (.int p3)] [])) st5 ?_
  exact Rch.retV X5 hx hret hlk (hb hby d_prog_8_method_1_code_14) (fun U hU hF => hK _ U _ _ _ (by show Q_rm1 Z a1 p2 p3 u2 u3 h0 n0 _ U.heap _; rw [hU, e5]; exact ⟨rfl, N5, (((Keep.refl h0 [a1]).wr W3 (Or.inl (List.mem_of_getElem? (i := 0) rfl))).wr W5 (Or.inl (List.mem_of_getElem? (i := 0) rfl))), ((E1.wr W3).wr W5), Fb6, Fw5⟩) hF (by decide) (by decide))
def own_j (cr w1 w2 : Int32) : Int32 := if w2 = 0 then (if cr = 0 then 0 else if w1 = 0 then 0 else 1) else 1
theorem d_prog_8_method_2_code_0 : decode prog_8_method_2_code 0 = .ok (.aload_n 0, 1) := by decide +kernel
theorem d_prog_8_method_2_code_1 : decode prog_8_method_2_code 1 = .ok (.getfield 13, 3) := by decide +kernel
theorem d_prog_8_method_2_code_4 : decode prog_8_method_2_code 4 = .ok (.ifCond .ne 14, 3) := by decide +kernel
theorem d_prog_8_method_2_code_7 : decode prog_8_method_2_code 7 = .ok (.iload_n 1, 1) := by decide +kernel
theorem d_prog_8_method_2_code_8 : decode prog_8_method_2_code 8 = .ok (.ifCond .eq 14, 3) := by decide +kernel
theorem d_prog_8_method_2_code_11 : decode prog_8_method_2_code 11 = .ok (.aload_n 0, 1) := by decide +kernel
theorem d_prog_8_method_2_code_12 : decode prog_8_method_2_code 12 = .ok (.getfield 7, 3) := by decide +kernel
theorem d_prog_8_method_2_code_15 : decode prog_8_method_2_code 15 = .ok (.ifCond .eq 7, 3) := by decide +kernel
theorem d_prog_8_method_2_code_18 : decode prog_8_method_2_code 18 = .ok (.iconst 1, 1) := by decide +kernel
theorem d_prog_8_method_2_code_19 : decode prog_8_method_2_code 19 = .ok (.goto 4, 3) := by decide +kernel
theorem d_prog_8_method_2_code_22 : decode prog_8_method_2_code 22 = .ok (.iconst 0, 1) := by decide +kernel
theorem d_prog_8_method_2_code_23 : decode prog_8_method_2_code 23 = .ok (.ireturn, 1) := by decide +kernel
theorem ef_rm4 (m : MethodId) (a1 : Addr) (p2 : Int32) : entryFrame m #[(.ref a1), (.int p2)] 2 = mkF m 0 #[.val (.ref a1), .val (.int p2)] [] := by first | (simp [entryFrame, mkF, argsToLocals, Value.category]; done) | rfl
def Q_rm4 (Z : State) (a1 : Addr) (p2 : Int32) (w1 : Int32) (w2 : Int32) (h0 : Heap) (n0 : Nat) (vv_ : Option Value) (h : Heap) (LL_ : List Loc) : Prop := vv_ = some (.int (own_j p2 w1 w2)) ∧ Fr n0 LL_ ∧ (h = h0)
set_option maxRecDepth 65536 in
set_option maxHeartbeats 40000000 in
theorem rm4 (l : Launch) (Z : State) (a0 : Array Value) (hw : ∀ d ∈ tables_1, d.before a0 Z = true) (ws : List Jvm.Cond) (a1 : Addr) (p2 : Int32) (w1 : Int32) (w2 : Int32) (h0 : Heap) (n0 : Nat) (Z0 : n0 ≤ h0.size) (F1 : Fld Z h0 a1 "com/example/claimsmith/claimsmith/engine/GroupMapping$Manual" "restrictCreationToMappedGroups" "Z" (.int w1)) (F2 : Fld Z h0 a1 "com/example/claimsmith/claimsmith/engine/GroupMapping$Manual" "restrictLoginToMappedGroups" "Z" (.int w2)) :
    MetFree l (⟨"com/example/claimsmith/claimsmith/engine/GroupMapping$Manual", "judges", "(Z)Z"⟩ : MethodName) (head1 (Jvm.Cond.code (⟨"com/example/claimsmith/claimsmith/engine/GroupMapping$Manual", "judges", "(Z)Z"⟩ : MethodName) prog_8_method_2_code 2 (some .boolean) :: ws) ({ frames := 0, cells := 0, slots := 0, locals := 0 } : Room)) (fun aa_ UU_ => aa_ = #[(.ref a1), (.int p2)] ∧ Z.Warmed39 UU_.vm ∧ UU_.heap = h0) (fun _ _ _ _ _ => True) (fun _ UU_ oo_ VV_ => ∃ vv_ LL_, oo_ = .returned vv_ ∧ Q_rm4 Z a1 p2 w1 w2 h0 n0 vv_ VV_.heap LL_ ∧ FrameEnd UU_ oo_ VV_ LL_ ({ frames := 0, cells := 0, slots := 0, locals := 0 } : Room).cells ({ frames := 0, cells := 0, slots := 0, locals := 0 } : Room).slots) := by
  refine own_met (y := (⟨"com/example/claimsmith/claimsmith/engine/GroupMapping$Manual", "judges", "(Z)Z"⟩ : MethodName)) (plainFor_of_name pn_1) ?_
  intro p e s m below meth c T0 K hx hby hml hret hlk hown hnm hZ X0 e0 hK
  have N0 := Fr.nil n0
  refine Rch.cast (ef_rm4 m a1 p2) ?_
  refine Rch.of (T' := T0) (g' := (mkF m 1 #[.val (.ref a1), .val (.int p2)] [(.ref a1)])) (fun _ kt => XS.aloadN X0.here hx rfl (hb hby d_prog_8_method_2_code_0) rfl rfl kt) ?_
  obtain ⟨T7, X7, e7, st7⟩ := getF X0 hx hZ hown (host := "") (Or.inl (hw _ (List.mem_of_getElem? (i := 16) rfl))) Via.refl e0 F2 (g := (mkF m 1 #[.val (.ref a1), .val (.int p2)] [(.ref a1)])) rfl rfl (hb hby d_prog_8_method_2_code_1)
  refine Rch.of (T' := T7) (g' := (mkF m 4 #[.val (.ref a1), .val (.int p2)] [(.int w2)])) st7 ?_
  by_cases c8 : w2 = (0 : Int32)
  · skip
    refine Rch.of (T' := T7) (g' := (mkF m 7 #[.val (.ref a1), .val (.int p2)] [])) (fun _ kt => XS.ifNo X7.here hx rfl (hb hby d_prog_8_method_2_code_4) rfl ((if0 _ _).trans (teq c8).2) kt) ?_
    refine Rch.of (T' := T7) (g' := (mkF m 8 #[.val (.ref a1), .val (.int p2)] [(.int p2)])) (fun _ kt => XS.iloadN X7.here hx rfl (hb hby d_prog_8_method_2_code_7) rfl  kt) ?_
    by_cases c9 : p2 = (0 : Int32)
    · skip
      refine Rch.of (T' := T7) (g' := (mkF m 22 #[.val (.ref a1), .val (.int p2)] [])) (fun _ kt => XS.ifYes X7.here hx rfl (pc0 := 8) (pc' := 22) rfl (hb hby d_prog_8_method_2_code_8) rfl ((if0 _ _).trans (teq c9).1) (by decide) (by decide) kt) ?_
      refine Rch.of (T' := T7) (g' := (mkF m 23 #[.val (.ref a1), .val (.int p2)] [(.int (0 : Int32))])) (fun _ kt => XS.iconst X7.here hx rfl (hb hby d_prog_8_method_2_code_22) kt) ?_
      exact Rch.retN X7 hx (t := .boolean) hret (by simp) hlk (hb hby d_prog_8_method_2_code_23) (fun U hU hF => hK _ U _ _ _ (by show Q_rm4 Z a1 p2 w1 w2 h0 n0 _ U.heap _; rw [hU, e7]; exact ⟨by simp [own_j, nar, c8, c9]; try decide, N0, rfl⟩) hF (by decide) (by decide))
    · skip
      refine Rch.of (T' := T7) (g' := (mkF m 11 #[.val (.ref a1), .val (.int p2)] [])) (fun _ kt => XS.ifNo X7.here hx rfl (hb hby d_prog_8_method_2_code_8) rfl ((if0 _ _).trans (feq c9).1) kt) ?_
      refine Rch.of (T' := T7) (g' := (mkF m 12 #[.val (.ref a1), .val (.int p2)] [(.ref a1)])) (fun _ kt => XS.aloadN X7.here hx rfl (hb hby d_prog_8_method_2_code_11) rfl rfl kt) ?_
      obtain ⟨T10, X10, e10, st10⟩ := getF X7 hx hZ hown (host := "") (Or.inl (hw _ (List.mem_of_getElem? (i := 14) rfl))) Via.refl e7 F1 (g := (mkF m 12 #[.val (.ref a1), .val (.int p2)] [(.ref a1)])) rfl rfl (hb hby d_prog_8_method_2_code_12)
      refine Rch.of (T' := T10) (g' := (mkF m 15 #[.val (.ref a1), .val (.int p2)] [(.int w1)])) st10 ?_
      by_cases c11 : w1 = (0 : Int32)
      · skip
        refine Rch.of (T' := T10) (g' := (mkF m 22 #[.val (.ref a1), .val (.int p2)] [])) (fun _ kt => XS.ifYes X10.here hx rfl (pc0 := 15) (pc' := 22) rfl (hb hby d_prog_8_method_2_code_15) rfl ((if0 _ _).trans (teq c11).1) (by decide) (by decide) kt) ?_
        refine Rch.of (T' := T10) (g' := (mkF m 23 #[.val (.ref a1), .val (.int p2)] [(.int (0 : Int32))])) (fun _ kt => XS.iconst X10.here hx rfl (hb hby d_prog_8_method_2_code_22) kt) ?_
        exact Rch.retN X10 hx (t := .boolean) hret (by simp) hlk (hb hby d_prog_8_method_2_code_23) (fun U hU hF => hK _ U _ _ _ (by show Q_rm4 Z a1 p2 w1 w2 h0 n0 _ U.heap _; rw [hU, e10]; exact ⟨by simp [own_j, nar, c8, c9, c11]; try decide, N0, rfl⟩) hF (by decide) (by decide))
      · skip
        refine Rch.of (T' := T10) (g' := (mkF m 18 #[.val (.ref a1), .val (.int p2)] [])) (fun _ kt => XS.ifNo X10.here hx rfl (hb hby d_prog_8_method_2_code_15) rfl ((if0 _ _).trans (feq c11).1) kt) ?_
        refine Rch.of (T' := T10) (g' := (mkF m 19 #[.val (.ref a1), .val (.int p2)] [(.int (1 : Int32))])) (fun _ kt => XS.iconst X10.here hx rfl (hb hby d_prog_8_method_2_code_18) kt) ?_
        refine Rch.of (T' := T10) (g' := (mkF m 23 #[.val (.ref a1), .val (.int p2)] [(.int (1 : Int32))])) (fun _ kt => XS.goto X10.here hx rfl (pc0 := 19) (pc' := 23) rfl (hb hby d_prog_8_method_2_code_19) (by decide) (by decide) kt) ?_
        exact Rch.retN X10 hx (t := .boolean) hret (by simp) hlk (hb hby d_prog_8_method_2_code_23) (fun U hU hF => hK _ U _ _ _ (by show Q_rm4 Z a1 p2 w1 w2 h0 n0 _ U.heap _; rw [hU, e10]; exact ⟨by simp [own_j, nar, c8, c9, c11]; try decide, N0, rfl⟩) hF (by decide) (by decide))
  · skip
    refine Rch.of (T' := T7) (g' := (mkF m 18 #[.val (.ref a1), .val (.int p2)] [])) (fun _ kt => XS.ifYes X7.here hx rfl (pc0 := 4) (pc' := 18) rfl (hb hby d_prog_8_method_2_code_4) rfl ((if0 _ _).trans (feq c8).2) (by decide) (by decide) kt) ?_
    refine Rch.of (T' := T7) (g' := (mkF m 19 #[.val (.ref a1), .val (.int p2)] [(.int (1 : Int32))])) (fun _ kt => XS.iconst X7.here hx rfl (hb hby d_prog_8_method_2_code_18) kt) ?_
    refine Rch.of (T' := T7) (g' := (mkF m 23 #[.val (.ref a1), .val (.int p2)] [(.int (1 : Int32))])) (fun _ kt => XS.goto X7.here hx rfl (pc0 := 19) (pc' := 23) rfl (hb hby d_prog_8_method_2_code_19) (by decide) (by decide) kt) ?_
    exact Rch.retN X7 hx (t := .boolean) hret (by simp) hlk (hb hby d_prog_8_method_2_code_23) (fun U hU hF => hK _ U _ _ _ (by show Q_rm4 Z a1 p2 w1 w2 h0 n0 _ U.heap _; rw [hU, e7]; exact ⟨by simp [own_j, nar, c8]; try decide, N0, rfl⟩) hF (by decide) (by decide))
theorem pn_2 : plainName "com/example/claimsmith/claimsmith/engine/ManualJudgesPinLaw" = true := by first | (simp [plainName, overriddenIn]; done) | decide +kernel
theorem ef_rm0 (m : MethodId) (p0 : Int32) (p1 : Int32) : entryFrame m #[(.int p0), (.int p1)] maxLocals = mkF m 0 #[.val (.int p0), .val (.int p1), .unset, .unset, .unset, .unset, .unset, .unset, .unset] [] := by first | (simp [entryFrame, mkF, argsToLocals, Value.category, maxLocals]; done) | rfl
def Q_rm0 (Z : State) (p0 : Int32) (p1 : Int32) (h0 : Heap) (n0 : Nat) (vv_ : Option Value) (h : Heap) (LL_ : List Loc) : Prop := vv_ = some (.int 1) ∧ Fr n0 LL_ ∧ (True)
set_option maxRecDepth 65536 in
set_option maxHeartbeats 40000000 in
theorem rm0 (l : Launch) (Z : State) (a0 : Array Value) (hw : ∀ d ∈ tables_1, d.before a0 Z = true) (ws : List Jvm.Cond) (p0 : Int32) (p1 : Int32) (h0 : Heap) (n0 : Nat) (Z0 : n0 ≤ h0.size)  :
    MetFree l x (head1 (Jvm.Cond.code x code maxLocals ret :: ws) room_1) (fun aa_ UU_ => aa_ = #[(.int p0), (.int p1)] ∧ Z.Warmed39 UU_.vm ∧ UU_.heap = h0) (fun _ _ _ _ _ => True) (fun _ UU_ oo_ VV_ => ∃ vv_ LL_, oo_ = .returned vv_ ∧ Q_rm0 Z p0 p1 h0 n0 vv_ VV_.heap LL_ ∧ FrameEnd UU_ oo_ VV_ LL_ room_1.cells room_1.slots) := by
  refine own_met (y := x) (plainFor_of_name pn_2) ?_
  intro p e s m below meth c T0 K hx hby hml hret hlk hown hnm hZ X0 e0 hK
  have N0 := Fr.nil n0
  refine Rch.cast (ef_rm0 m p0 p1) ?_
  refine Rch.of (T' := T0) (g' := (mkF m 1 #[.val (.int p0), .val (.int p1), .unset, .unset, .unset, .unset, .unset, .unset, .unset] [(.int p0)])) (fun _ kt => XS.iloadN X0.here hx rfl (hb hby at_0) rfl  kt) ?_
  refine Rch.of (T' := T0) (g' := (mkF m 2 #[.val (.int p0), .val (.int p1), .unset, .unset, .unset, .unset, .unset, .unset, .unset] [(.int (1 : Int32)), (.int p0)])) (fun _ kt => XS.iconst X0.here hx rfl (hb hby at_1) kt) ?_
  refine Rch.of (T' := T0) (g' := (mkF m 3 #[.val (.int p0), .val (.int p1), .unset, .unset, .unset, .unset, .unset, .unset, .unset] [(.int (p0 &&& (1 : Int32)))])) (fun _ kt => XS.iand X0.here hx rfl (hb hby at_2) rfl kt) ?_
  by_cases c12 : (p0 &&& (1 : Int32)) = (0 : Int32)
  · skip
    refine Rch.of (T' := T0) (g' := (mkF m 10 #[.val (.int p0), .val (.int p1), .unset, .unset, .unset, .unset, .unset, .unset, .unset] [])) (fun _ kt => XS.ifYes X0.here hx rfl (pc0 := 3) (pc' := 10) rfl (hb hby at_3) rfl ((if0 _ _).trans (teq c12).1) (by decide) (by decide) kt) ?_
    refine Rch.of (T' := T0) (g' := (mkF m 11 #[.val (.int p0), .val (.int p1), .unset, .unset, .unset, .unset, .unset, .unset, .unset] [(.int (0 : Int32))])) (fun _ kt => XS.iconst X0.here hx rfl (hb hby at_10) kt) ?_
    refine Rch.of (T' := T0) (g' := (mkF m 12 #[.val (.int p0), .val (.int p1), .val (.int (0 : Int32)), .unset, .unset, .unset, .unset, .unset, .unset] [])) (fun _ kt => XS.istoreN X0.here hx rfl (hb hby at_11) rfl (l' := #[.val (.int p0), .val (.int p1), .val (.int (0 : Int32)), .unset, .unset, .unset, .unset, .unset, .unset]) rfl kt) ?_
    refine Rch.of (T' := T0) (g' := (mkF m 13 #[.val (.int p0), .val (.int p1), .val (.int (0 : Int32)), .unset, .unset, .unset, .unset, .unset, .unset] [(.int p1)])) (fun _ kt => XS.iloadN X0.here hx rfl (hb hby at_12) rfl  kt) ?_
    refine Rch.of (T' := T0) (g' := (mkF m 14 #[.val (.int p0), .val (.int p1), .val (.int (0 : Int32)), .unset, .unset, .unset, .unset, .unset, .unset] [(.int (1 : Int32)), (.int p1)])) (fun _ kt => XS.iconst X0.here hx rfl (hb hby at_13) kt) ?_
    refine Rch.of (T' := T0) (g' := (mkF m 15 #[.val (.int p0), .val (.int p1), .val (.int (0 : Int32)), .unset, .unset, .unset, .unset, .unset, .unset] [(.int (p1 &&& (1 : Int32)))])) (fun _ kt => XS.iand X0.here hx rfl (hb hby at_14) rfl kt) ?_
    by_cases c13 : (p1 &&& (1 : Int32)) = (0 : Int32)
    · skip
      refine Rch.of (T' := T0) (g' := (mkF m 22 #[.val (.int p0), .val (.int p1), .val (.int (0 : Int32)), .unset, .unset, .unset, .unset, .unset, .unset] [])) (fun _ kt => XS.ifYes X0.here hx rfl (pc0 := 15) (pc' := 22) rfl (hb hby at_15) rfl ((if0 _ _).trans (teq c13).1) (by decide) (by decide) kt) ?_
      refine Rch.of (T' := T0) (g' := (mkF m 23 #[.val (.int p0), .val (.int p1), .val (.int (0 : Int32)), .unset, .unset, .unset, .unset, .unset, .unset] [(.int (0 : Int32))])) (fun _ kt => XS.iconst X0.here hx rfl (hb hby at_22) kt) ?_
      refine Rch.of (T' := T0) (g' := (mkF m 24 #[.val (.int p0), .val (.int p1), .val (.int (0 : Int32)), .val (.int (0 : Int32)), .unset, .unset, .unset, .unset, .unset] [])) (fun _ kt => XS.istoreN X0.here hx rfl (hb hby at_23) rfl (l' := #[.val (.int p0), .val (.int p1), .val (.int (0 : Int32)), .val (.int (0 : Int32)), .unset, .unset, .unset, .unset, .unset]) rfl kt) ?_
      obtain ⟨T14, h14, X14, e14, E14, A14, D14, -, st14⟩ := newO X0 hx hZ hown (hw _ (List.mem_of_getElem? (i := 0) rfl)) (hw _ (List.mem_of_getElem? (i := 1) rfl)) (hw _ (List.mem_of_getElem? (i := 2) rfl)) e0 (g := (mkF m 24 #[.val (.int p0), .val (.int p1), .val (.int (0 : Int32)), .val (.int (0 : Int32)), .unset, .unset, .unset, .unset, .unset] [])) rfl (hb hby at_24) (by decide) (by decide)
      obtain ⟨b14, g14⟩ : ∃ z, z = h0.size := ⟨_, rfl⟩
      have ge_b14 : n0 ≤ b14 := Nat.le_trans Z0 (Nat.le_of_eq g14.symm)
      have sz_b14 : h0.size ≤ b14 := Nat.le_trans (Keep.refl h0 []).1 (Nat.le_of_eq g14.symm)
      rw [← g14] at A14 D14 st14
      have F14_restrictCreationToMappedGroups : Fld Z h14 b14 "com/example/claimsmith/claimsmith/engine/GroupMapping$Manual" "restrictCreationToMappedGroups" "Z" (.int (0 : Int32)) := D14 (Or.inr (hw _ (List.mem_of_getElem? (i := 15) rfl))) (ty := .boolean) (by decide)
      have F14_restrictLoginToMappedGroups : Fld Z h14 b14 "com/example/claimsmith/claimsmith/engine/GroupMapping$Manual" "restrictLoginToMappedGroups" "Z" (.int (0 : Int32)) := D14 (Or.inr (hw _ (List.mem_of_getElem? (i := 17) rfl))) (ty := .boolean) (by decide)
      refine Rch.of (T' := T14) (g' := (mkF m 27 #[.val (.int p0), .val (.int p1), .val (.int (0 : Int32)), .val (.int (0 : Int32)), .unset, .unset, .unset, .unset, .unset] [(.ref b14)])) st14 ?_
      refine Rch.of (T' := T14) (g' := (mkF m 28 #[.val (.int p0), .val (.int p1), .val (.int (0 : Int32)), .val (.int (0 : Int32)), .unset, .unset, .unset, .unset, .unset] [(.ref b14), (.ref b14)])) (fun _ kt => XS.dup X14.here hx rfl (hb hby at_27) rfl rfl kt) ?_
      refine Rch.of (T' := T14) (g' := (mkF m 29 #[.val (.int p0), .val (.int p1), .val (.int (0 : Int32)), .val (.int (0 : Int32)), .unset, .unset, .unset, .unset, .unset] [(.int (0 : Int32)), (.ref b14), (.ref b14)])) (fun _ kt => XS.iloadN X14.here hx rfl (hb hby at_28) rfl  kt) ?_
      refine Rch.of (T' := T14) (g' := (mkF m 30 #[.val (.int p0), .val (.int p1), .val (.int (0 : Int32)), .val (.int (0 : Int32)), .unset, .unset, .unset, .unset, .unset] [(.int (0 : Int32)), (.int (0 : Int32)), (.ref b14), (.ref b14)])) (fun _ kt => XS.iloadN X14.here hx rfl (hb hby at_29) rfl  kt) ?_
      obtain ⟨_, _, ⟨T15, L15, k15, n15⟩, -, X15, ⟨Lc15, hQ15, l15, y15, z15⟩, st15⟩ := X14.specialBack hx (y := (⟨"com/example/claimsmith/claimsmith/engine/GroupMapping$Manual", "<init>", "(ZZ)V"⟩ : MethodName)) rfl hown (mvT hZ (hw _ (List.mem_of_getElem? (i := 3) rfl))) (mvT hZ (hw _ (List.mem_of_getElem? (i := 4) rfl))) (mvT hZ (hw _ (List.mem_of_getElem? (i := 5) rfl))) (by decide) (backOf (W := 1) (rm1 l Z a0 hw [] b14 (0 : Int32) (0 : Int32) (.int (0 : Int32)) (.int (0 : Int32)) h14 n0 (Nat.le_trans Z0 E14.1) A14 F14_restrictCreationToMappedGroups F14_restrictLoginToMappedGroups ge_b14 (Or.inl rfl) (Or.inl rfl)) hZ (hw _ (List.mem_of_getElem? (i := 5) rfl)) (hw _ (List.mem_of_getElem? (i := 2) rfl)) (by decide) (by decide)) (g := (mkF m 30 #[.val (.int p0), .val (.int p1), .val (.int (0 : Int32)), .val (.int (0 : Int32)), .unset, .unset, .unset, .unset, .unset] [(.int (0 : Int32)), (.int (0 : Int32)), (.ref b14), (.ref b14)])) rfl (by rw [hml]; rfl) (Steps.refl _) (a := b14) (argsL := [(.int (0 : Int32)), (.int (0 : Int32))]) (rest := [(.ref b14)]) (lenOf pd_0 rfl) rfl (by show 2 * 0 + _ ≤ _; exact Nat.le_of_eq rfl) (hb hby at_30) (fun _ _ => ⟨rfl, e14, (by decide : 1 + 0 ≤ _), (by decide : 2 + 0 ≤ _)⟩)
      dsimp only [Pt.U, Pt.locs, Pt.cells, Pt.slots] at X15 l15 y15 z15 st15 hQ15
      subst l15 y15 z15
      obtain ⟨rfl, N15q, hQ15⟩ := hQ15
      have N15 := Fr.app N0 N15q
      obtain ⟨K15, Ex15, Fa15, Fb15⟩ := hQ15
      refine Rch.via (T' := T15) (g' := (mkF m 33 #[.val (.int p0), .val (.int p1), .val (.int (0 : Int32)), .val (.int (0 : Int32)), .unset, .unset, .unset, .unset, .unset] [(.ref b14)])) st15 ?_
      refine Rch.of (T' := T15) (g' := (mkF m 35 #[.val (.int p0), .val (.int p1), .val (.int (0 : Int32)), .val (.int (0 : Int32)), .val (.ref b14), .unset, .unset, .unset, .unset] [])) (fun _ kt => XS.astore X15.here hx rfl (hb hby at_33) rfl rfl (l' := #[.val (.int p0), .val (.int p1), .val (.int (0 : Int32)), .val (.int (0 : Int32)), .val (.ref b14), .unset, .unset, .unset, .unset]) rfl kt) ?_
      refine Rch.of (T' := T15) (g' := (mkF m 37 #[.val (.int p0), .val (.int p1), .val (.int (0 : Int32)), .val (.int (0 : Int32)), .val (.ref b14), .unset, .unset, .unset, .unset] [(.ref b14)])) (fun _ kt => XS.aload X15.here hx rfl (hb hby at_35) rfl rfl kt) ?_
      refine Rch.of (T' := T15) (g' := (mkF m 38 #[.val (.int p0), .val (.int p1), .val (.int (0 : Int32)), .val (.int (0 : Int32)), .val (.ref b14), .unset, .unset, .unset, .unset] [(.int (0 : Int32)), (.ref b14)])) (fun _ kt => XS.iconst X15.here hx rfl (hb hby at_37) kt) ?_
      obtain ⟨cq16, kq16, q16a, q16b, q16c⟩ := isOf hZ rfl Ex15
      obtain ⟨_, _, ⟨T16, L16, k16, n16⟩, -, X16, ⟨Lc16, hQ16, l16, y16, z16⟩, st16⟩ := X15.virtualBack hx (y := (⟨"com/example/claimsmith/claimsmith/engine/GroupMapping$Manual", "judges", "(Z)Z"⟩ : MethodName)) (z := (⟨"com/example/claimsmith/claimsmith/engine/GroupMapping$Manual", "judges", "(Z)Z"⟩ : MethodName)) hown (mvT hZ (hw _ (List.mem_of_getElem? (i := 18) rfl))) (mvT hZ (hw _ (List.mem_of_getElem? (i := 19) rfl))) (notFace_of_selects (args := #[]) (mvT hZ (hw _ (List.mem_of_getElem? (i := 21) rfl)))) (mvT hZ (hw _ (List.mem_of_getElem? (i := 21) rfl))) (mvT hZ (hw _ (List.mem_of_getElem? (i := 20) rfl))) (by decide) (backOf (W := 0) (rm4 l Z a0 hw [] b14 (0 : Int32) (0 : Int32) (0 : Int32) T15.heap n0 (Nat.le_trans (Nat.le_trans Z0 E14.1) K15.1) Fa15 Fb15) hZ (hw _ (List.mem_of_getElem? (i := 22) rfl)) (hw _ (List.mem_of_getElem? (i := 2) rfl)) (by decide) (by decide)) q16a q16c (g := (mkF m 38 #[.val (.int p0), .val (.int p1), .val (.int (0 : Int32)), .val (.int (0 : Int32)), .val (.ref b14), .unset, .unset, .unset, .unset] [(.int (0 : Int32)), (.ref b14)])) rfl (by rw [hml]; rfl) (Steps.refl _) (argsL := [(.int (0 : Int32))]) (rest := []) (lenOf pd_2 rfl) rfl (by show 2 * 0 + _ ≤ _; exact Nat.le_of_eq rfl) (hb hby at_38) (fun _ _ => ⟨rfl, rfl, (by decide : 1 + 0 ≤ _), (by decide : 2 + 0 ≤ _)⟩)
      dsimp only [Pt.U, Pt.locs, Pt.cells, Pt.slots] at X16 l16 y16 z16 st16 hQ16
      subst l16 y16 z16
      obtain ⟨rfl, N16q, hQ16⟩ := hQ16
      have N16 := Fr.app N15 N16q
      refine Rch.via (T' := T16) (g' := (mkF m 41 #[.val (.int p0), .val (.int p1), .val (.int (0 : Int32)), .val (.int (0 : Int32)), .val (.ref b14), .unset, .unset, .unset, .unset] [(.int (own_j (0 : Int32) (0 : Int32) (0 : Int32)))])) st16 ?_
      rw [show (own_j (0 : Int32) (0 : Int32) (0 : Int32)) = (0 : Int32) from by decide]
      refine Rch.of (T' := T16) (g' := (mkF m 43 #[.val (.int p0), .val (.int p1), .val (.int (0 : Int32)), .val (.int (0 : Int32)), .val (.ref b14), .val (.int (0 : Int32)), .unset, .unset, .unset] [])) (fun _ kt => XS.istore X16.here hx rfl (hb hby at_41) rfl (l' := #[.val (.int p0), .val (.int p1), .val (.int (0 : Int32)), .val (.int (0 : Int32)), .val (.ref b14), .val (.int (0 : Int32)), .unset, .unset, .unset]) rfl kt) ?_
      refine Rch.of (T' := T16) (g' := (mkF m 45 #[.val (.int p0), .val (.int p1), .val (.int (0 : Int32)), .val (.int (0 : Int32)), .val (.ref b14), .val (.int (0 : Int32)), .unset, .unset, .unset] [(.ref b14)])) (fun _ kt => XS.aload X16.here hx rfl (hb hby at_43) rfl rfl kt) ?_
      refine Rch.of (T' := T16) (g' := (mkF m 46 #[.val (.int p0), .val (.int p1), .val (.int (0 : Int32)), .val (.int (0 : Int32)), .val (.ref b14), .val (.int (0 : Int32)), .unset, .unset, .unset] [(.int (1 : Int32)), (.ref b14)])) (fun _ kt => XS.iconst X16.here hx rfl (hb hby at_45) kt) ?_
      obtain ⟨cq17, kq17, q17a, q17b, q17c⟩ := isOf hZ hQ16 Ex15
      obtain ⟨_, _, ⟨T17, L17, k17, n17⟩, -, X17, ⟨Lc17, hQ17, l17, y17, z17⟩, st17⟩ := X16.virtualBack hx (y := (⟨"com/example/claimsmith/claimsmith/engine/GroupMapping$Manual", "judges", "(Z)Z"⟩ : MethodName)) (z := (⟨"com/example/claimsmith/claimsmith/engine/GroupMapping$Manual", "judges", "(Z)Z"⟩ : MethodName)) hown (mvT hZ (hw _ (List.mem_of_getElem? (i := 18) rfl))) (mvT hZ (hw _ (List.mem_of_getElem? (i := 19) rfl))) (notFace_of_selects (args := #[]) (mvT hZ (hw _ (List.mem_of_getElem? (i := 21) rfl)))) (mvT hZ (hw _ (List.mem_of_getElem? (i := 21) rfl))) (mvT hZ (hw _ (List.mem_of_getElem? (i := 20) rfl))) (by decide) (backOf (W := 0) (rm4 l Z a0 hw [] b14 (1 : Int32) (0 : Int32) (0 : Int32) T15.heap n0 (Nat.le_trans (Nat.le_trans Z0 E14.1) K15.1) Fa15 Fb15) hZ (hw _ (List.mem_of_getElem? (i := 22) rfl)) (hw _ (List.mem_of_getElem? (i := 2) rfl)) (by decide) (by decide)) q17a q17c (g := (mkF m 46 #[.val (.int p0), .val (.int p1), .val (.int (0 : Int32)), .val (.int (0 : Int32)), .val (.ref b14), .val (.int (0 : Int32)), .unset, .unset, .unset] [(.int (1 : Int32)), (.ref b14)])) rfl (by rw [hml]; rfl) (Steps.refl _) (argsL := [(.int (1 : Int32))]) (rest := []) (lenOf pd_2 rfl) rfl (by show 2 * 0 + _ ≤ _; exact Nat.le_of_eq rfl) (hb hby at_46) (fun _ _ => ⟨rfl, hQ16, (by decide : 1 + 0 ≤ _), (by decide : 2 + 0 ≤ _)⟩)
      dsimp only [Pt.U, Pt.locs, Pt.cells, Pt.slots] at X17 l17 y17 z17 st17 hQ17
      subst l17 y17 z17
      obtain ⟨rfl, N17q, hQ17⟩ := hQ17
      have N17 := Fr.app N16 N17q
      refine Rch.via (T' := T17) (g' := (mkF m 49 #[.val (.int p0), .val (.int p1), .val (.int (0 : Int32)), .val (.int (0 : Int32)), .val (.ref b14), .val (.int (0 : Int32)), .unset, .unset, .unset] [(.int (own_j (1 : Int32) (0 : Int32) (0 : Int32)))])) st17 ?_
      rw [show (own_j (1 : Int32) (0 : Int32) (0 : Int32)) = (0 : Int32) from by decide]
      refine Rch.of (T' := T17) (g' := (mkF m 51 #[.val (.int p0), .val (.int p1), .val (.int (0 : Int32)), .val (.int (0 : Int32)), .val (.ref b14), .val (.int (0 : Int32)), .val (.int (0 : Int32)), .unset, .unset] [])) (fun _ kt => XS.istore X17.here hx rfl (hb hby at_49) rfl (l' := #[.val (.int p0), .val (.int p1), .val (.int (0 : Int32)), .val (.int (0 : Int32)), .val (.ref b14), .val (.int (0 : Int32)), .val (.int (0 : Int32)), .unset, .unset]) rfl kt) ?_
      refine Rch.of (T' := T17) (g' := (mkF m 52 #[.val (.int p0), .val (.int p1), .val (.int (0 : Int32)), .val (.int (0 : Int32)), .val (.ref b14), .val (.int (0 : Int32)), .val (.int (0 : Int32)), .unset, .unset] [(.int (0 : Int32))])) (fun _ kt => XS.iloadN X17.here hx rfl (hb hby at_51) rfl  kt) ?_
      refine Rch.of (T' := T17) (g' := (mkF m 64 #[.val (.int p0), .val (.int p1), .val (.int (0 : Int32)), .val (.int (0 : Int32)), .val (.ref b14), .val (.int (0 : Int32)), .val (.int (0 : Int32)), .unset, .unset] [])) (fun _ kt => XS.ifYes X17.here hx rfl (pc0 := 52) (pc' := 64) rfl (hb hby at_52) rfl ((if0 _ _).trans (teq ((by decide) : (0 : Int32) = (0 : Int32))).1) (by decide) (by decide) kt) ?_
      refine Rch.of (T' := T17) (g' := (mkF m 65 #[.val (.int p0), .val (.int p1), .val (.int (0 : Int32)), .val (.int (0 : Int32)), .val (.ref b14), .val (.int (0 : Int32)), .val (.int (0 : Int32)), .unset, .unset] [(.int (0 : Int32))])) (fun _ kt => XS.iloadN X17.here hx rfl (hb hby at_64) rfl  kt) ?_
      refine Rch.of (T' := T17) (g' := (mkF m 77 #[.val (.int p0), .val (.int p1), .val (.int (0 : Int32)), .val (.int (0 : Int32)), .val (.ref b14), .val (.int (0 : Int32)), .val (.int (0 : Int32)), .unset, .unset] [])) (fun _ kt => XS.ifYes X17.here hx rfl (pc0 := 65) (pc' := 77) rfl (hb hby at_65) rfl ((if0 _ _).trans (teq ((by decide) : (0 : Int32) = (0 : Int32))).1) (by decide) (by decide) kt) ?_
      refine Rch.of (T' := T17) (g' := (mkF m 78 #[.val (.int p0), .val (.int p1), .val (.int (0 : Int32)), .val (.int (0 : Int32)), .val (.ref b14), .val (.int (0 : Int32)), .val (.int (0 : Int32)), .unset, .unset] [(.int (0 : Int32))])) (fun _ kt => XS.iconst X17.here hx rfl (hb hby at_77) kt) ?_
      refine Rch.of (T' := T17) (g' := (mkF m 80 #[.val (.int p0), .val (.int p1), .val (.int (0 : Int32)), .val (.int (0 : Int32)), .val (.ref b14), .val (.int (0 : Int32)), .val (.int (0 : Int32)), .val (.int (0 : Int32)), .unset] [])) (fun _ kt => XS.istore X17.here hx rfl (hb hby at_78) rfl (l' := #[.val (.int p0), .val (.int p1), .val (.int (0 : Int32)), .val (.int (0 : Int32)), .val (.ref b14), .val (.int (0 : Int32)), .val (.int (0 : Int32)), .val (.int (0 : Int32)), .unset]) rfl kt) ?_
      refine Rch.of (T' := T17) (g' := (mkF m 81 #[.val (.int p0), .val (.int p1), .val (.int (0 : Int32)), .val (.int (0 : Int32)), .val (.ref b14), .val (.int (0 : Int32)), .val (.int (0 : Int32)), .val (.int (0 : Int32)), .unset] [(.int (0 : Int32))])) (fun _ kt => XS.iconst X17.here hx rfl (hb hby at_80) kt) ?_
      refine Rch.of (T' := T17) (g' := (mkF m 83 #[.val (.int p0), .val (.int p1), .val (.int (0 : Int32)), .val (.int (0 : Int32)), .val (.ref b14), .val (.int (0 : Int32)), .val (.int (0 : Int32)), .val (.int (0 : Int32)), .val (.int (0 : Int32))] [])) (fun _ kt => XS.istore X17.here hx rfl (hb hby at_81) rfl (l' := #[.val (.int p0), .val (.int p1), .val (.int (0 : Int32)), .val (.int (0 : Int32)), .val (.ref b14), .val (.int (0 : Int32)), .val (.int (0 : Int32)), .val (.int (0 : Int32)), .val (.int (0 : Int32))]) rfl kt) ?_
      refine Rch.of (T' := T17) (g' := (mkF m 85 #[.val (.int p0), .val (.int p1), .val (.int (0 : Int32)), .val (.int (0 : Int32)), .val (.ref b14), .val (.int (0 : Int32)), .val (.int (0 : Int32)), .val (.int (0 : Int32)), .val (.int (0 : Int32))] [(.int (0 : Int32))])) (fun _ kt => XS.iload X17.here hx rfl (hb hby at_83) rfl  kt) ?_
      refine Rch.of (T' := T17) (g' := (mkF m 87 #[.val (.int p0), .val (.int p1), .val (.int (0 : Int32)), .val (.int (0 : Int32)), .val (.ref b14), .val (.int (0 : Int32)), .val (.int (0 : Int32)), .val (.int (0 : Int32)), .val (.int (0 : Int32))] [(.int (0 : Int32)), (.int (0 : Int32))])) (fun _ kt => XS.iload X17.here hx rfl (hb hby at_85) rfl  kt) ?_
      refine Rch.of (T' := T17) (g' := (mkF m 90 #[.val (.int p0), .val (.int p1), .val (.int (0 : Int32)), .val (.int (0 : Int32)), .val (.ref b14), .val (.int (0 : Int32)), .val (.int (0 : Int32)), .val (.int (0 : Int32)), .val (.int (0 : Int32))] [])) (fun _ kt => XS.icmpNo X17.here hx rfl (hb hby at_87) rfl (teq ((by decide) : (0 : Int32) = (0 : Int32))).2 kt) ?_
      refine Rch.of (T' := T17) (g' := (mkF m 92 #[.val (.int p0), .val (.int p1), .val (.int (0 : Int32)), .val (.int (0 : Int32)), .val (.ref b14), .val (.int (0 : Int32)), .val (.int (0 : Int32)), .val (.int (0 : Int32)), .val (.int (0 : Int32))] [(.int (0 : Int32))])) (fun _ kt => XS.iload X17.here hx rfl (hb hby at_90) rfl  kt) ?_
      refine Rch.of (T' := T17) (g' := (mkF m 94 #[.val (.int p0), .val (.int p1), .val (.int (0 : Int32)), .val (.int (0 : Int32)), .val (.ref b14), .val (.int (0 : Int32)), .val (.int (0 : Int32)), .val (.int (0 : Int32)), .val (.int (0 : Int32))] [(.int (0 : Int32)), (.int (0 : Int32))])) (fun _ kt => XS.iload X17.here hx rfl (hb hby at_92) rfl  kt) ?_
      refine Rch.of (T' := T17) (g' := (mkF m 97 #[.val (.int p0), .val (.int p1), .val (.int (0 : Int32)), .val (.int (0 : Int32)), .val (.ref b14), .val (.int (0 : Int32)), .val (.int (0 : Int32)), .val (.int (0 : Int32)), .val (.int (0 : Int32))] [])) (fun _ kt => XS.icmpNo X17.here hx rfl (hb hby at_94) rfl (teq ((by decide) : (0 : Int32) = (0 : Int32))).2 kt) ?_
      refine Rch.of (T' := T17) (g' := (mkF m 98 #[.val (.int p0), .val (.int p1), .val (.int (0 : Int32)), .val (.int (0 : Int32)), .val (.ref b14), .val (.int (0 : Int32)), .val (.int (0 : Int32)), .val (.int (0 : Int32)), .val (.int (0 : Int32))] [(.int (1 : Int32))])) (fun _ kt => XS.iconst X17.here hx rfl (hb hby at_97) kt) ?_
      refine Rch.of (T' := T17) (g' := (mkF m 102 #[.val (.int p0), .val (.int p1), .val (.int (0 : Int32)), .val (.int (0 : Int32)), .val (.ref b14), .val (.int (0 : Int32)), .val (.int (0 : Int32)), .val (.int (0 : Int32)), .val (.int (0 : Int32))] [(.int (1 : Int32))])) (fun _ kt => XS.goto X17.here hx rfl (pc0 := 98) (pc' := 102) rfl (hb hby at_98) (by decide) (by decide) kt) ?_
      exact Rch.retN X17 hx (t := .boolean) hret (by simp) hlk (hb hby at_102) (fun U hU hF => hK _ U _ _ _ (by show Q_rm0 Z p0 p1 h0 n0 _ U.heap _; rw [hU, hQ17]; exact ⟨rfl, N17, trivial⟩) hF (by decide) (by decide))
    · skip
      refine Rch.of (T' := T0) (g' := (mkF m 18 #[.val (.int p0), .val (.int p1), .val (.int (0 : Int32)), .unset, .unset, .unset, .unset, .unset, .unset] [])) (fun _ kt => XS.ifNo X0.here hx rfl (hb hby at_15) rfl ((if0 _ _).trans (feq c13).1) kt) ?_
      refine Rch.of (T' := T0) (g' := (mkF m 19 #[.val (.int p0), .val (.int p1), .val (.int (0 : Int32)), .unset, .unset, .unset, .unset, .unset, .unset] [(.int (1 : Int32))])) (fun _ kt => XS.iconst X0.here hx rfl (hb hby at_18) kt) ?_
      refine Rch.of (T' := T0) (g' := (mkF m 23 #[.val (.int p0), .val (.int p1), .val (.int (0 : Int32)), .unset, .unset, .unset, .unset, .unset, .unset] [(.int (1 : Int32))])) (fun _ kt => XS.goto X0.here hx rfl (pc0 := 19) (pc' := 23) rfl (hb hby at_19) (by decide) (by decide) kt) ?_
      refine Rch.of (T' := T0) (g' := (mkF m 24 #[.val (.int p0), .val (.int p1), .val (.int (0 : Int32)), .val (.int (1 : Int32)), .unset, .unset, .unset, .unset, .unset] [])) (fun _ kt => XS.istoreN X0.here hx rfl (hb hby at_23) rfl (l' := #[.val (.int p0), .val (.int p1), .val (.int (0 : Int32)), .val (.int (1 : Int32)), .unset, .unset, .unset, .unset, .unset]) rfl kt) ?_
      obtain ⟨T18, h18, X18, e18, E18, A18, D18, -, st18⟩ := newO X0 hx hZ hown (hw _ (List.mem_of_getElem? (i := 0) rfl)) (hw _ (List.mem_of_getElem? (i := 1) rfl)) (hw _ (List.mem_of_getElem? (i := 2) rfl)) e0 (g := (mkF m 24 #[.val (.int p0), .val (.int p1), .val (.int (0 : Int32)), .val (.int (1 : Int32)), .unset, .unset, .unset, .unset, .unset] [])) rfl (hb hby at_24) (by decide) (by decide)
      obtain ⟨b18, g18⟩ : ∃ z, z = h0.size := ⟨_, rfl⟩
      have ge_b18 : n0 ≤ b18 := Nat.le_trans Z0 (Nat.le_of_eq g18.symm)
      have sz_b18 : h0.size ≤ b18 := Nat.le_trans (Keep.refl h0 []).1 (Nat.le_of_eq g18.symm)
      rw [← g18] at A18 D18 st18
      have F18_restrictCreationToMappedGroups : Fld Z h18 b18 "com/example/claimsmith/claimsmith/engine/GroupMapping$Manual" "restrictCreationToMappedGroups" "Z" (.int (0 : Int32)) := D18 (Or.inr (hw _ (List.mem_of_getElem? (i := 15) rfl))) (ty := .boolean) (by decide)
      have F18_restrictLoginToMappedGroups : Fld Z h18 b18 "com/example/claimsmith/claimsmith/engine/GroupMapping$Manual" "restrictLoginToMappedGroups" "Z" (.int (0 : Int32)) := D18 (Or.inr (hw _ (List.mem_of_getElem? (i := 17) rfl))) (ty := .boolean) (by decide)
      refine Rch.of (T' := T18) (g' := (mkF m 27 #[.val (.int p0), .val (.int p1), .val (.int (0 : Int32)), .val (.int (1 : Int32)), .unset, .unset, .unset, .unset, .unset] [(.ref b18)])) st18 ?_
      refine Rch.of (T' := T18) (g' := (mkF m 28 #[.val (.int p0), .val (.int p1), .val (.int (0 : Int32)), .val (.int (1 : Int32)), .unset, .unset, .unset, .unset, .unset] [(.ref b18), (.ref b18)])) (fun _ kt => XS.dup X18.here hx rfl (hb hby at_27) rfl rfl kt) ?_
      refine Rch.of (T' := T18) (g' := (mkF m 29 #[.val (.int p0), .val (.int p1), .val (.int (0 : Int32)), .val (.int (1 : Int32)), .unset, .unset, .unset, .unset, .unset] [(.int (0 : Int32)), (.ref b18), (.ref b18)])) (fun _ kt => XS.iloadN X18.here hx rfl (hb hby at_28) rfl  kt) ?_
      refine Rch.of (T' := T18) (g' := (mkF m 30 #[.val (.int p0), .val (.int p1), .val (.int (0 : Int32)), .val (.int (1 : Int32)), .unset, .unset, .unset, .unset, .unset] [(.int (1 : Int32)), (.int (0 : Int32)), (.ref b18), (.ref b18)])) (fun _ kt => XS.iloadN X18.here hx rfl (hb hby at_29) rfl  kt) ?_
      obtain ⟨_, _, ⟨T19, L19, k19, n19⟩, -, X19, ⟨Lc19, hQ19, l19, y19, z19⟩, st19⟩ := X18.specialBack hx (y := (⟨"com/example/claimsmith/claimsmith/engine/GroupMapping$Manual", "<init>", "(ZZ)V"⟩ : MethodName)) rfl hown (mvT hZ (hw _ (List.mem_of_getElem? (i := 3) rfl))) (mvT hZ (hw _ (List.mem_of_getElem? (i := 4) rfl))) (mvT hZ (hw _ (List.mem_of_getElem? (i := 5) rfl))) (by decide) (backOf (W := 1) (rm1 l Z a0 hw [] b18 (0 : Int32) (1 : Int32) (.int (0 : Int32)) (.int (0 : Int32)) h18 n0 (Nat.le_trans Z0 E18.1) A18 F18_restrictCreationToMappedGroups F18_restrictLoginToMappedGroups ge_b18 (Or.inl rfl) (Or.inr rfl)) hZ (hw _ (List.mem_of_getElem? (i := 5) rfl)) (hw _ (List.mem_of_getElem? (i := 2) rfl)) (by decide) (by decide)) (g := (mkF m 30 #[.val (.int p0), .val (.int p1), .val (.int (0 : Int32)), .val (.int (1 : Int32)), .unset, .unset, .unset, .unset, .unset] [(.int (1 : Int32)), (.int (0 : Int32)), (.ref b18), (.ref b18)])) rfl (by rw [hml]; rfl) (Steps.refl _) (a := b18) (argsL := [(.int (0 : Int32)), (.int (1 : Int32))]) (rest := [(.ref b18)]) (lenOf pd_0 rfl) rfl (by show 2 * 0 + _ ≤ _; exact Nat.le_of_eq rfl) (hb hby at_30) (fun _ _ => ⟨rfl, e18, (by decide : 1 + 0 ≤ _), (by decide : 2 + 0 ≤ _)⟩)
      dsimp only [Pt.U, Pt.locs, Pt.cells, Pt.slots] at X19 l19 y19 z19 st19 hQ19
      subst l19 y19 z19
      obtain ⟨rfl, N19q, hQ19⟩ := hQ19
      have N19 := Fr.app N0 N19q
      obtain ⟨K19, Ex19, Fa19, Fb19⟩ := hQ19
      refine Rch.via (T' := T19) (g' := (mkF m 33 #[.val (.int p0), .val (.int p1), .val (.int (0 : Int32)), .val (.int (1 : Int32)), .unset, .unset, .unset, .unset, .unset] [(.ref b18)])) st19 ?_
      refine Rch.of (T' := T19) (g' := (mkF m 35 #[.val (.int p0), .val (.int p1), .val (.int (0 : Int32)), .val (.int (1 : Int32)), .val (.ref b18), .unset, .unset, .unset, .unset] [])) (fun _ kt => XS.astore X19.here hx rfl (hb hby at_33) rfl rfl (l' := #[.val (.int p0), .val (.int p1), .val (.int (0 : Int32)), .val (.int (1 : Int32)), .val (.ref b18), .unset, .unset, .unset, .unset]) rfl kt) ?_
      refine Rch.of (T' := T19) (g' := (mkF m 37 #[.val (.int p0), .val (.int p1), .val (.int (0 : Int32)), .val (.int (1 : Int32)), .val (.ref b18), .unset, .unset, .unset, .unset] [(.ref b18)])) (fun _ kt => XS.aload X19.here hx rfl (hb hby at_35) rfl rfl kt) ?_
      refine Rch.of (T' := T19) (g' := (mkF m 38 #[.val (.int p0), .val (.int p1), .val (.int (0 : Int32)), .val (.int (1 : Int32)), .val (.ref b18), .unset, .unset, .unset, .unset] [(.int (0 : Int32)), (.ref b18)])) (fun _ kt => XS.iconst X19.here hx rfl (hb hby at_37) kt) ?_
      obtain ⟨cq20, kq20, q20a, q20b, q20c⟩ := isOf hZ rfl Ex19
      obtain ⟨_, _, ⟨T20, L20, k20, n20⟩, -, X20, ⟨Lc20, hQ20, l20, y20, z20⟩, st20⟩ := X19.virtualBack hx (y := (⟨"com/example/claimsmith/claimsmith/engine/GroupMapping$Manual", "judges", "(Z)Z"⟩ : MethodName)) (z := (⟨"com/example/claimsmith/claimsmith/engine/GroupMapping$Manual", "judges", "(Z)Z"⟩ : MethodName)) hown (mvT hZ (hw _ (List.mem_of_getElem? (i := 18) rfl))) (mvT hZ (hw _ (List.mem_of_getElem? (i := 19) rfl))) (notFace_of_selects (args := #[]) (mvT hZ (hw _ (List.mem_of_getElem? (i := 21) rfl)))) (mvT hZ (hw _ (List.mem_of_getElem? (i := 21) rfl))) (mvT hZ (hw _ (List.mem_of_getElem? (i := 20) rfl))) (by decide) (backOf (W := 0) (rm4 l Z a0 hw [] b18 (0 : Int32) (0 : Int32) (1 : Int32) T19.heap n0 (Nat.le_trans (Nat.le_trans Z0 E18.1) K19.1) Fa19 Fb19) hZ (hw _ (List.mem_of_getElem? (i := 22) rfl)) (hw _ (List.mem_of_getElem? (i := 2) rfl)) (by decide) (by decide)) q20a q20c (g := (mkF m 38 #[.val (.int p0), .val (.int p1), .val (.int (0 : Int32)), .val (.int (1 : Int32)), .val (.ref b18), .unset, .unset, .unset, .unset] [(.int (0 : Int32)), (.ref b18)])) rfl (by rw [hml]; rfl) (Steps.refl _) (argsL := [(.int (0 : Int32))]) (rest := []) (lenOf pd_2 rfl) rfl (by show 2 * 0 + _ ≤ _; exact Nat.le_of_eq rfl) (hb hby at_38) (fun _ _ => ⟨rfl, rfl, (by decide : 1 + 0 ≤ _), (by decide : 2 + 0 ≤ _)⟩)
      dsimp only [Pt.U, Pt.locs, Pt.cells, Pt.slots] at X20 l20 y20 z20 st20 hQ20
      subst l20 y20 z20
      obtain ⟨rfl, N20q, hQ20⟩ := hQ20
      have N20 := Fr.app N19 N20q
      refine Rch.via (T' := T20) (g' := (mkF m 41 #[.val (.int p0), .val (.int p1), .val (.int (0 : Int32)), .val (.int (1 : Int32)), .val (.ref b18), .unset, .unset, .unset, .unset] [(.int (own_j (0 : Int32) (0 : Int32) (1 : Int32)))])) st20 ?_
      rw [show (own_j (0 : Int32) (0 : Int32) (1 : Int32)) = (1 : Int32) from by decide]
      refine Rch.of (T' := T20) (g' := (mkF m 43 #[.val (.int p0), .val (.int p1), .val (.int (0 : Int32)), .val (.int (1 : Int32)), .val (.ref b18), .val (.int (1 : Int32)), .unset, .unset, .unset] [])) (fun _ kt => XS.istore X20.here hx rfl (hb hby at_41) rfl (l' := #[.val (.int p0), .val (.int p1), .val (.int (0 : Int32)), .val (.int (1 : Int32)), .val (.ref b18), .val (.int (1 : Int32)), .unset, .unset, .unset]) rfl kt) ?_
      refine Rch.of (T' := T20) (g' := (mkF m 45 #[.val (.int p0), .val (.int p1), .val (.int (0 : Int32)), .val (.int (1 : Int32)), .val (.ref b18), .val (.int (1 : Int32)), .unset, .unset, .unset] [(.ref b18)])) (fun _ kt => XS.aload X20.here hx rfl (hb hby at_43) rfl rfl kt) ?_
      refine Rch.of (T' := T20) (g' := (mkF m 46 #[.val (.int p0), .val (.int p1), .val (.int (0 : Int32)), .val (.int (1 : Int32)), .val (.ref b18), .val (.int (1 : Int32)), .unset, .unset, .unset] [(.int (1 : Int32)), (.ref b18)])) (fun _ kt => XS.iconst X20.here hx rfl (hb hby at_45) kt) ?_
      obtain ⟨cq21, kq21, q21a, q21b, q21c⟩ := isOf hZ hQ20 Ex19
      obtain ⟨_, _, ⟨T21, L21, k21, n21⟩, -, X21, ⟨Lc21, hQ21, l21, y21, z21⟩, st21⟩ := X20.virtualBack hx (y := (⟨"com/example/claimsmith/claimsmith/engine/GroupMapping$Manual", "judges", "(Z)Z"⟩ : MethodName)) (z := (⟨"com/example/claimsmith/claimsmith/engine/GroupMapping$Manual", "judges", "(Z)Z"⟩ : MethodName)) hown (mvT hZ (hw _ (List.mem_of_getElem? (i := 18) rfl))) (mvT hZ (hw _ (List.mem_of_getElem? (i := 19) rfl))) (notFace_of_selects (args := #[]) (mvT hZ (hw _ (List.mem_of_getElem? (i := 21) rfl)))) (mvT hZ (hw _ (List.mem_of_getElem? (i := 21) rfl))) (mvT hZ (hw _ (List.mem_of_getElem? (i := 20) rfl))) (by decide) (backOf (W := 0) (rm4 l Z a0 hw [] b18 (1 : Int32) (0 : Int32) (1 : Int32) T19.heap n0 (Nat.le_trans (Nat.le_trans Z0 E18.1) K19.1) Fa19 Fb19) hZ (hw _ (List.mem_of_getElem? (i := 22) rfl)) (hw _ (List.mem_of_getElem? (i := 2) rfl)) (by decide) (by decide)) q21a q21c (g := (mkF m 46 #[.val (.int p0), .val (.int p1), .val (.int (0 : Int32)), .val (.int (1 : Int32)), .val (.ref b18), .val (.int (1 : Int32)), .unset, .unset, .unset] [(.int (1 : Int32)), (.ref b18)])) rfl (by rw [hml]; rfl) (Steps.refl _) (argsL := [(.int (1 : Int32))]) (rest := []) (lenOf pd_2 rfl) rfl (by show 2 * 0 + _ ≤ _; exact Nat.le_of_eq rfl) (hb hby at_46) (fun _ _ => ⟨rfl, hQ20, (by decide : 1 + 0 ≤ _), (by decide : 2 + 0 ≤ _)⟩)
      dsimp only [Pt.U, Pt.locs, Pt.cells, Pt.slots] at X21 l21 y21 z21 st21 hQ21
      subst l21 y21 z21
      obtain ⟨rfl, N21q, hQ21⟩ := hQ21
      have N21 := Fr.app N20 N21q
      refine Rch.via (T' := T21) (g' := (mkF m 49 #[.val (.int p0), .val (.int p1), .val (.int (0 : Int32)), .val (.int (1 : Int32)), .val (.ref b18), .val (.int (1 : Int32)), .unset, .unset, .unset] [(.int (own_j (1 : Int32) (0 : Int32) (1 : Int32)))])) st21 ?_
      rw [show (own_j (1 : Int32) (0 : Int32) (1 : Int32)) = (1 : Int32) from by decide]
      refine Rch.of (T' := T21) (g' := (mkF m 51 #[.val (.int p0), .val (.int p1), .val (.int (0 : Int32)), .val (.int (1 : Int32)), .val (.ref b18), .val (.int (1 : Int32)), .val (.int (1 : Int32)), .unset, .unset] [])) (fun _ kt => XS.istore X21.here hx rfl (hb hby at_49) rfl (l' := #[.val (.int p0), .val (.int p1), .val (.int (0 : Int32)), .val (.int (1 : Int32)), .val (.ref b18), .val (.int (1 : Int32)), .val (.int (1 : Int32)), .unset, .unset]) rfl kt) ?_
      refine Rch.of (T' := T21) (g' := (mkF m 52 #[.val (.int p0), .val (.int p1), .val (.int (0 : Int32)), .val (.int (1 : Int32)), .val (.ref b18), .val (.int (1 : Int32)), .val (.int (1 : Int32)), .unset, .unset] [(.int (1 : Int32))])) (fun _ kt => XS.iloadN X21.here hx rfl (hb hby at_51) rfl  kt) ?_
      refine Rch.of (T' := T21) (g' := (mkF m 55 #[.val (.int p0), .val (.int p1), .val (.int (0 : Int32)), .val (.int (1 : Int32)), .val (.ref b18), .val (.int (1 : Int32)), .val (.int (1 : Int32)), .unset, .unset] [])) (fun _ kt => XS.ifNo X21.here hx rfl (hb hby at_52) rfl ((if0 _ _).trans (feq ((by decide) : ¬ ((1 : Int32) = (0 : Int32)))).1) kt) ?_
      refine Rch.of (T' := T21) (g' := (mkF m 56 #[.val (.int p0), .val (.int p1), .val (.int (0 : Int32)), .val (.int (1 : Int32)), .val (.ref b18), .val (.int (1 : Int32)), .val (.int (1 : Int32)), .unset, .unset] [(.int (1 : Int32))])) (fun _ kt => XS.iconst X21.here hx rfl (hb hby at_55) kt) ?_
      refine Rch.of (T' := T21) (g' := (mkF m 58 #[.val (.int p0), .val (.int p1), .val (.int (0 : Int32)), .val (.int (1 : Int32)), .val (.ref b18), .val (.int (1 : Int32)), .val (.int (1 : Int32)), .val (.int (1 : Int32)), .unset] [])) (fun _ kt => XS.istore X21.here hx rfl (hb hby at_56) rfl (l' := #[.val (.int p0), .val (.int p1), .val (.int (0 : Int32)), .val (.int (1 : Int32)), .val (.ref b18), .val (.int (1 : Int32)), .val (.int (1 : Int32)), .val (.int (1 : Int32)), .unset]) rfl kt) ?_
      refine Rch.of (T' := T21) (g' := (mkF m 59 #[.val (.int p0), .val (.int p1), .val (.int (0 : Int32)), .val (.int (1 : Int32)), .val (.ref b18), .val (.int (1 : Int32)), .val (.int (1 : Int32)), .val (.int (1 : Int32)), .unset] [(.int (1 : Int32))])) (fun _ kt => XS.iconst X21.here hx rfl (hb hby at_58) kt) ?_
      refine Rch.of (T' := T21) (g' := (mkF m 61 #[.val (.int p0), .val (.int p1), .val (.int (0 : Int32)), .val (.int (1 : Int32)), .val (.ref b18), .val (.int (1 : Int32)), .val (.int (1 : Int32)), .val (.int (1 : Int32)), .val (.int (1 : Int32))] [])) (fun _ kt => XS.istore X21.here hx rfl (hb hby at_59) rfl (l' := #[.val (.int p0), .val (.int p1), .val (.int (0 : Int32)), .val (.int (1 : Int32)), .val (.ref b18), .val (.int (1 : Int32)), .val (.int (1 : Int32)), .val (.int (1 : Int32)), .val (.int (1 : Int32))]) rfl kt) ?_
      refine Rch.of (T' := T21) (g' := (mkF m 83 #[.val (.int p0), .val (.int p1), .val (.int (0 : Int32)), .val (.int (1 : Int32)), .val (.ref b18), .val (.int (1 : Int32)), .val (.int (1 : Int32)), .val (.int (1 : Int32)), .val (.int (1 : Int32))] [])) (fun _ kt => XS.goto X21.here hx rfl (pc0 := 61) (pc' := 83) rfl (hb hby at_61) (by decide) (by decide) kt) ?_
      refine Rch.of (T' := T21) (g' := (mkF m 85 #[.val (.int p0), .val (.int p1), .val (.int (0 : Int32)), .val (.int (1 : Int32)), .val (.ref b18), .val (.int (1 : Int32)), .val (.int (1 : Int32)), .val (.int (1 : Int32)), .val (.int (1 : Int32))] [(.int (1 : Int32))])) (fun _ kt => XS.iload X21.here hx rfl (hb hby at_83) rfl  kt) ?_
      refine Rch.of (T' := T21) (g' := (mkF m 87 #[.val (.int p0), .val (.int p1), .val (.int (0 : Int32)), .val (.int (1 : Int32)), .val (.ref b18), .val (.int (1 : Int32)), .val (.int (1 : Int32)), .val (.int (1 : Int32)), .val (.int (1 : Int32))] [(.int (1 : Int32)), (.int (1 : Int32))])) (fun _ kt => XS.iload X21.here hx rfl (hb hby at_85) rfl  kt) ?_
      refine Rch.of (T' := T21) (g' := (mkF m 90 #[.val (.int p0), .val (.int p1), .val (.int (0 : Int32)), .val (.int (1 : Int32)), .val (.ref b18), .val (.int (1 : Int32)), .val (.int (1 : Int32)), .val (.int (1 : Int32)), .val (.int (1 : Int32))] [])) (fun _ kt => XS.icmpNo X21.here hx rfl (hb hby at_87) rfl (teq ((by decide) : (1 : Int32) = (1 : Int32))).2 kt) ?_
      refine Rch.of (T' := T21) (g' := (mkF m 92 #[.val (.int p0), .val (.int p1), .val (.int (0 : Int32)), .val (.int (1 : Int32)), .val (.ref b18), .val (.int (1 : Int32)), .val (.int (1 : Int32)), .val (.int (1 : Int32)), .val (.int (1 : Int32))] [(.int (1 : Int32))])) (fun _ kt => XS.iload X21.here hx rfl (hb hby at_90) rfl  kt) ?_
      refine Rch.of (T' := T21) (g' := (mkF m 94 #[.val (.int p0), .val (.int p1), .val (.int (0 : Int32)), .val (.int (1 : Int32)), .val (.ref b18), .val (.int (1 : Int32)), .val (.int (1 : Int32)), .val (.int (1 : Int32)), .val (.int (1 : Int32))] [(.int (1 : Int32)), (.int (1 : Int32))])) (fun _ kt => XS.iload X21.here hx rfl (hb hby at_92) rfl  kt) ?_
      refine Rch.of (T' := T21) (g' := (mkF m 97 #[.val (.int p0), .val (.int p1), .val (.int (0 : Int32)), .val (.int (1 : Int32)), .val (.ref b18), .val (.int (1 : Int32)), .val (.int (1 : Int32)), .val (.int (1 : Int32)), .val (.int (1 : Int32))] [])) (fun _ kt => XS.icmpNo X21.here hx rfl (hb hby at_94) rfl (teq ((by decide) : (1 : Int32) = (1 : Int32))).2 kt) ?_
      refine Rch.of (T' := T21) (g' := (mkF m 98 #[.val (.int p0), .val (.int p1), .val (.int (0 : Int32)), .val (.int (1 : Int32)), .val (.ref b18), .val (.int (1 : Int32)), .val (.int (1 : Int32)), .val (.int (1 : Int32)), .val (.int (1 : Int32))] [(.int (1 : Int32))])) (fun _ kt => XS.iconst X21.here hx rfl (hb hby at_97) kt) ?_
      refine Rch.of (T' := T21) (g' := (mkF m 102 #[.val (.int p0), .val (.int p1), .val (.int (0 : Int32)), .val (.int (1 : Int32)), .val (.ref b18), .val (.int (1 : Int32)), .val (.int (1 : Int32)), .val (.int (1 : Int32)), .val (.int (1 : Int32))] [(.int (1 : Int32))])) (fun _ kt => XS.goto X21.here hx rfl (pc0 := 98) (pc' := 102) rfl (hb hby at_98) (by decide) (by decide) kt) ?_
      exact Rch.retN X21 hx (t := .boolean) hret (by simp) hlk (hb hby at_102) (fun U hU hF => hK _ U _ _ _ (by show Q_rm0 Z p0 p1 h0 n0 _ U.heap _; rw [hU, hQ21]; exact ⟨rfl, N21, trivial⟩) hF (by decide) (by decide))
  · skip
    refine Rch.of (T' := T0) (g' := (mkF m 6 #[.val (.int p0), .val (.int p1), .unset, .unset, .unset, .unset, .unset, .unset, .unset] [])) (fun _ kt => XS.ifNo X0.here hx rfl (hb hby at_3) rfl ((if0 _ _).trans (feq c12).1) kt) ?_
    refine Rch.of (T' := T0) (g' := (mkF m 7 #[.val (.int p0), .val (.int p1), .unset, .unset, .unset, .unset, .unset, .unset, .unset] [(.int (1 : Int32))])) (fun _ kt => XS.iconst X0.here hx rfl (hb hby at_6) kt) ?_
    refine Rch.of (T' := T0) (g' := (mkF m 11 #[.val (.int p0), .val (.int p1), .unset, .unset, .unset, .unset, .unset, .unset, .unset] [(.int (1 : Int32))])) (fun _ kt => XS.goto X0.here hx rfl (pc0 := 7) (pc' := 11) rfl (hb hby at_7) (by decide) (by decide) kt) ?_
    refine Rch.of (T' := T0) (g' := (mkF m 12 #[.val (.int p0), .val (.int p1), .val (.int (1 : Int32)), .unset, .unset, .unset, .unset, .unset, .unset] [])) (fun _ kt => XS.istoreN X0.here hx rfl (hb hby at_11) rfl (l' := #[.val (.int p0), .val (.int p1), .val (.int (1 : Int32)), .unset, .unset, .unset, .unset, .unset, .unset]) rfl kt) ?_
    refine Rch.of (T' := T0) (g' := (mkF m 13 #[.val (.int p0), .val (.int p1), .val (.int (1 : Int32)), .unset, .unset, .unset, .unset, .unset, .unset] [(.int p1)])) (fun _ kt => XS.iloadN X0.here hx rfl (hb hby at_12) rfl  kt) ?_
    refine Rch.of (T' := T0) (g' := (mkF m 14 #[.val (.int p0), .val (.int p1), .val (.int (1 : Int32)), .unset, .unset, .unset, .unset, .unset, .unset] [(.int (1 : Int32)), (.int p1)])) (fun _ kt => XS.iconst X0.here hx rfl (hb hby at_13) kt) ?_
    refine Rch.of (T' := T0) (g' := (mkF m 15 #[.val (.int p0), .val (.int p1), .val (.int (1 : Int32)), .unset, .unset, .unset, .unset, .unset, .unset] [(.int (p1 &&& (1 : Int32)))])) (fun _ kt => XS.iand X0.here hx rfl (hb hby at_14) rfl kt) ?_
    by_cases c22 : (p1 &&& (1 : Int32)) = (0 : Int32)
    · skip
      refine Rch.of (T' := T0) (g' := (mkF m 22 #[.val (.int p0), .val (.int p1), .val (.int (1 : Int32)), .unset, .unset, .unset, .unset, .unset, .unset] [])) (fun _ kt => XS.ifYes X0.here hx rfl (pc0 := 15) (pc' := 22) rfl (hb hby at_15) rfl ((if0 _ _).trans (teq c22).1) (by decide) (by decide) kt) ?_
      refine Rch.of (T' := T0) (g' := (mkF m 23 #[.val (.int p0), .val (.int p1), .val (.int (1 : Int32)), .unset, .unset, .unset, .unset, .unset, .unset] [(.int (0 : Int32))])) (fun _ kt => XS.iconst X0.here hx rfl (hb hby at_22) kt) ?_
      refine Rch.of (T' := T0) (g' := (mkF m 24 #[.val (.int p0), .val (.int p1), .val (.int (1 : Int32)), .val (.int (0 : Int32)), .unset, .unset, .unset, .unset, .unset] [])) (fun _ kt => XS.istoreN X0.here hx rfl (hb hby at_23) rfl (l' := #[.val (.int p0), .val (.int p1), .val (.int (1 : Int32)), .val (.int (0 : Int32)), .unset, .unset, .unset, .unset, .unset]) rfl kt) ?_
      obtain ⟨T23, h23, X23, e23, E23, A23, D23, -, st23⟩ := newO X0 hx hZ hown (hw _ (List.mem_of_getElem? (i := 0) rfl)) (hw _ (List.mem_of_getElem? (i := 1) rfl)) (hw _ (List.mem_of_getElem? (i := 2) rfl)) e0 (g := (mkF m 24 #[.val (.int p0), .val (.int p1), .val (.int (1 : Int32)), .val (.int (0 : Int32)), .unset, .unset, .unset, .unset, .unset] [])) rfl (hb hby at_24) (by decide) (by decide)
      obtain ⟨b23, g23⟩ : ∃ z, z = h0.size := ⟨_, rfl⟩
      have ge_b23 : n0 ≤ b23 := Nat.le_trans Z0 (Nat.le_of_eq g23.symm)
      have sz_b23 : h0.size ≤ b23 := Nat.le_trans (Keep.refl h0 []).1 (Nat.le_of_eq g23.symm)
      rw [← g23] at A23 D23 st23
      have F23_restrictCreationToMappedGroups : Fld Z h23 b23 "com/example/claimsmith/claimsmith/engine/GroupMapping$Manual" "restrictCreationToMappedGroups" "Z" (.int (0 : Int32)) := D23 (Or.inr (hw _ (List.mem_of_getElem? (i := 15) rfl))) (ty := .boolean) (by decide)
      have F23_restrictLoginToMappedGroups : Fld Z h23 b23 "com/example/claimsmith/claimsmith/engine/GroupMapping$Manual" "restrictLoginToMappedGroups" "Z" (.int (0 : Int32)) := D23 (Or.inr (hw _ (List.mem_of_getElem? (i := 17) rfl))) (ty := .boolean) (by decide)
      refine Rch.of (T' := T23) (g' := (mkF m 27 #[.val (.int p0), .val (.int p1), .val (.int (1 : Int32)), .val (.int (0 : Int32)), .unset, .unset, .unset, .unset, .unset] [(.ref b23)])) st23 ?_
      refine Rch.of (T' := T23) (g' := (mkF m 28 #[.val (.int p0), .val (.int p1), .val (.int (1 : Int32)), .val (.int (0 : Int32)), .unset, .unset, .unset, .unset, .unset] [(.ref b23), (.ref b23)])) (fun _ kt => XS.dup X23.here hx rfl (hb hby at_27) rfl rfl kt) ?_
      refine Rch.of (T' := T23) (g' := (mkF m 29 #[.val (.int p0), .val (.int p1), .val (.int (1 : Int32)), .val (.int (0 : Int32)), .unset, .unset, .unset, .unset, .unset] [(.int (1 : Int32)), (.ref b23), (.ref b23)])) (fun _ kt => XS.iloadN X23.here hx rfl (hb hby at_28) rfl  kt) ?_
      refine Rch.of (T' := T23) (g' := (mkF m 30 #[.val (.int p0), .val (.int p1), .val (.int (1 : Int32)), .val (.int (0 : Int32)), .unset, .unset, .unset, .unset, .unset] [(.int (0 : Int32)), (.int (1 : Int32)), (.ref b23), (.ref b23)])) (fun _ kt => XS.iloadN X23.here hx rfl (hb hby at_29) rfl  kt) ?_
      obtain ⟨_, _, ⟨T24, L24, k24, n24⟩, -, X24, ⟨Lc24, hQ24, l24, y24, z24⟩, st24⟩ := X23.specialBack hx (y := (⟨"com/example/claimsmith/claimsmith/engine/GroupMapping$Manual", "<init>", "(ZZ)V"⟩ : MethodName)) rfl hown (mvT hZ (hw _ (List.mem_of_getElem? (i := 3) rfl))) (mvT hZ (hw _ (List.mem_of_getElem? (i := 4) rfl))) (mvT hZ (hw _ (List.mem_of_getElem? (i := 5) rfl))) (by decide) (backOf (W := 1) (rm1 l Z a0 hw [] b23 (1 : Int32) (0 : Int32) (.int (0 : Int32)) (.int (0 : Int32)) h23 n0 (Nat.le_trans Z0 E23.1) A23 F23_restrictCreationToMappedGroups F23_restrictLoginToMappedGroups ge_b23 (Or.inr rfl) (Or.inl rfl)) hZ (hw _ (List.mem_of_getElem? (i := 5) rfl)) (hw _ (List.mem_of_getElem? (i := 2) rfl)) (by decide) (by decide)) (g := (mkF m 30 #[.val (.int p0), .val (.int p1), .val (.int (1 : Int32)), .val (.int (0 : Int32)), .unset, .unset, .unset, .unset, .unset] [(.int (0 : Int32)), (.int (1 : Int32)), (.ref b23), (.ref b23)])) rfl (by rw [hml]; rfl) (Steps.refl _) (a := b23) (argsL := [(.int (1 : Int32)), (.int (0 : Int32))]) (rest := [(.ref b23)]) (lenOf pd_0 rfl) rfl (by show 2 * 0 + _ ≤ _; exact Nat.le_of_eq rfl) (hb hby at_30) (fun _ _ => ⟨rfl, e23, (by decide : 1 + 0 ≤ _), (by decide : 2 + 0 ≤ _)⟩)
      dsimp only [Pt.U, Pt.locs, Pt.cells, Pt.slots] at X24 l24 y24 z24 st24 hQ24
      subst l24 y24 z24
      obtain ⟨rfl, N24q, hQ24⟩ := hQ24
      have N24 := Fr.app N0 N24q
      obtain ⟨K24, Ex24, Fa24, Fb24⟩ := hQ24
      refine Rch.via (T' := T24) (g' := (mkF m 33 #[.val (.int p0), .val (.int p1), .val (.int (1 : Int32)), .val (.int (0 : Int32)), .unset, .unset, .unset, .unset, .unset] [(.ref b23)])) st24 ?_
      refine Rch.of (T' := T24) (g' := (mkF m 35 #[.val (.int p0), .val (.int p1), .val (.int (1 : Int32)), .val (.int (0 : Int32)), .val (.ref b23), .unset, .unset, .unset, .unset] [])) (fun _ kt => XS.astore X24.here hx rfl (hb hby at_33) rfl rfl (l' := #[.val (.int p0), .val (.int p1), .val (.int (1 : Int32)), .val (.int (0 : Int32)), .val (.ref b23), .unset, .unset, .unset, .unset]) rfl kt) ?_
      refine Rch.of (T' := T24) (g' := (mkF m 37 #[.val (.int p0), .val (.int p1), .val (.int (1 : Int32)), .val (.int (0 : Int32)), .val (.ref b23), .unset, .unset, .unset, .unset] [(.ref b23)])) (fun _ kt => XS.aload X24.here hx rfl (hb hby at_35) rfl rfl kt) ?_
      refine Rch.of (T' := T24) (g' := (mkF m 38 #[.val (.int p0), .val (.int p1), .val (.int (1 : Int32)), .val (.int (0 : Int32)), .val (.ref b23), .unset, .unset, .unset, .unset] [(.int (0 : Int32)), (.ref b23)])) (fun _ kt => XS.iconst X24.here hx rfl (hb hby at_37) kt) ?_
      obtain ⟨cq25, kq25, q25a, q25b, q25c⟩ := isOf hZ rfl Ex24
      obtain ⟨_, _, ⟨T25, L25, k25, n25⟩, -, X25, ⟨Lc25, hQ25, l25, y25, z25⟩, st25⟩ := X24.virtualBack hx (y := (⟨"com/example/claimsmith/claimsmith/engine/GroupMapping$Manual", "judges", "(Z)Z"⟩ : MethodName)) (z := (⟨"com/example/claimsmith/claimsmith/engine/GroupMapping$Manual", "judges", "(Z)Z"⟩ : MethodName)) hown (mvT hZ (hw _ (List.mem_of_getElem? (i := 18) rfl))) (mvT hZ (hw _ (List.mem_of_getElem? (i := 19) rfl))) (notFace_of_selects (args := #[]) (mvT hZ (hw _ (List.mem_of_getElem? (i := 21) rfl)))) (mvT hZ (hw _ (List.mem_of_getElem? (i := 21) rfl))) (mvT hZ (hw _ (List.mem_of_getElem? (i := 20) rfl))) (by decide) (backOf (W := 0) (rm4 l Z a0 hw [] b23 (0 : Int32) (1 : Int32) (0 : Int32) T24.heap n0 (Nat.le_trans (Nat.le_trans Z0 E23.1) K24.1) Fa24 Fb24) hZ (hw _ (List.mem_of_getElem? (i := 22) rfl)) (hw _ (List.mem_of_getElem? (i := 2) rfl)) (by decide) (by decide)) q25a q25c (g := (mkF m 38 #[.val (.int p0), .val (.int p1), .val (.int (1 : Int32)), .val (.int (0 : Int32)), .val (.ref b23), .unset, .unset, .unset, .unset] [(.int (0 : Int32)), (.ref b23)])) rfl (by rw [hml]; rfl) (Steps.refl _) (argsL := [(.int (0 : Int32))]) (rest := []) (lenOf pd_2 rfl) rfl (by show 2 * 0 + _ ≤ _; exact Nat.le_of_eq rfl) (hb hby at_38) (fun _ _ => ⟨rfl, rfl, (by decide : 1 + 0 ≤ _), (by decide : 2 + 0 ≤ _)⟩)
      dsimp only [Pt.U, Pt.locs, Pt.cells, Pt.slots] at X25 l25 y25 z25 st25 hQ25
      subst l25 y25 z25
      obtain ⟨rfl, N25q, hQ25⟩ := hQ25
      have N25 := Fr.app N24 N25q
      refine Rch.via (T' := T25) (g' := (mkF m 41 #[.val (.int p0), .val (.int p1), .val (.int (1 : Int32)), .val (.int (0 : Int32)), .val (.ref b23), .unset, .unset, .unset, .unset] [(.int (own_j (0 : Int32) (1 : Int32) (0 : Int32)))])) st25 ?_
      rw [show (own_j (0 : Int32) (1 : Int32) (0 : Int32)) = (0 : Int32) from by decide]
      refine Rch.of (T' := T25) (g' := (mkF m 43 #[.val (.int p0), .val (.int p1), .val (.int (1 : Int32)), .val (.int (0 : Int32)), .val (.ref b23), .val (.int (0 : Int32)), .unset, .unset, .unset] [])) (fun _ kt => XS.istore X25.here hx rfl (hb hby at_41) rfl (l' := #[.val (.int p0), .val (.int p1), .val (.int (1 : Int32)), .val (.int (0 : Int32)), .val (.ref b23), .val (.int (0 : Int32)), .unset, .unset, .unset]) rfl kt) ?_
      refine Rch.of (T' := T25) (g' := (mkF m 45 #[.val (.int p0), .val (.int p1), .val (.int (1 : Int32)), .val (.int (0 : Int32)), .val (.ref b23), .val (.int (0 : Int32)), .unset, .unset, .unset] [(.ref b23)])) (fun _ kt => XS.aload X25.here hx rfl (hb hby at_43) rfl rfl kt) ?_
      refine Rch.of (T' := T25) (g' := (mkF m 46 #[.val (.int p0), .val (.int p1), .val (.int (1 : Int32)), .val (.int (0 : Int32)), .val (.ref b23), .val (.int (0 : Int32)), .unset, .unset, .unset] [(.int (1 : Int32)), (.ref b23)])) (fun _ kt => XS.iconst X25.here hx rfl (hb hby at_45) kt) ?_
      obtain ⟨cq26, kq26, q26a, q26b, q26c⟩ := isOf hZ hQ25 Ex24
      obtain ⟨_, _, ⟨T26, L26, k26, n26⟩, -, X26, ⟨Lc26, hQ26, l26, y26, z26⟩, st26⟩ := X25.virtualBack hx (y := (⟨"com/example/claimsmith/claimsmith/engine/GroupMapping$Manual", "judges", "(Z)Z"⟩ : MethodName)) (z := (⟨"com/example/claimsmith/claimsmith/engine/GroupMapping$Manual", "judges", "(Z)Z"⟩ : MethodName)) hown (mvT hZ (hw _ (List.mem_of_getElem? (i := 18) rfl))) (mvT hZ (hw _ (List.mem_of_getElem? (i := 19) rfl))) (notFace_of_selects (args := #[]) (mvT hZ (hw _ (List.mem_of_getElem? (i := 21) rfl)))) (mvT hZ (hw _ (List.mem_of_getElem? (i := 21) rfl))) (mvT hZ (hw _ (List.mem_of_getElem? (i := 20) rfl))) (by decide) (backOf (W := 0) (rm4 l Z a0 hw [] b23 (1 : Int32) (1 : Int32) (0 : Int32) T24.heap n0 (Nat.le_trans (Nat.le_trans Z0 E23.1) K24.1) Fa24 Fb24) hZ (hw _ (List.mem_of_getElem? (i := 22) rfl)) (hw _ (List.mem_of_getElem? (i := 2) rfl)) (by decide) (by decide)) q26a q26c (g := (mkF m 46 #[.val (.int p0), .val (.int p1), .val (.int (1 : Int32)), .val (.int (0 : Int32)), .val (.ref b23), .val (.int (0 : Int32)), .unset, .unset, .unset] [(.int (1 : Int32)), (.ref b23)])) rfl (by rw [hml]; rfl) (Steps.refl _) (argsL := [(.int (1 : Int32))]) (rest := []) (lenOf pd_2 rfl) rfl (by show 2 * 0 + _ ≤ _; exact Nat.le_of_eq rfl) (hb hby at_46) (fun _ _ => ⟨rfl, hQ25, (by decide : 1 + 0 ≤ _), (by decide : 2 + 0 ≤ _)⟩)
      dsimp only [Pt.U, Pt.locs, Pt.cells, Pt.slots] at X26 l26 y26 z26 st26 hQ26
      subst l26 y26 z26
      obtain ⟨rfl, N26q, hQ26⟩ := hQ26
      have N26 := Fr.app N25 N26q
      refine Rch.via (T' := T26) (g' := (mkF m 49 #[.val (.int p0), .val (.int p1), .val (.int (1 : Int32)), .val (.int (0 : Int32)), .val (.ref b23), .val (.int (0 : Int32)), .unset, .unset, .unset] [(.int (own_j (1 : Int32) (1 : Int32) (0 : Int32)))])) st26 ?_
      rw [show (own_j (1 : Int32) (1 : Int32) (0 : Int32)) = (1 : Int32) from by decide]
      refine Rch.of (T' := T26) (g' := (mkF m 51 #[.val (.int p0), .val (.int p1), .val (.int (1 : Int32)), .val (.int (0 : Int32)), .val (.ref b23), .val (.int (0 : Int32)), .val (.int (1 : Int32)), .unset, .unset] [])) (fun _ kt => XS.istore X26.here hx rfl (hb hby at_49) rfl (l' := #[.val (.int p0), .val (.int p1), .val (.int (1 : Int32)), .val (.int (0 : Int32)), .val (.ref b23), .val (.int (0 : Int32)), .val (.int (1 : Int32)), .unset, .unset]) rfl kt) ?_
      refine Rch.of (T' := T26) (g' := (mkF m 52 #[.val (.int p0), .val (.int p1), .val (.int (1 : Int32)), .val (.int (0 : Int32)), .val (.ref b23), .val (.int (0 : Int32)), .val (.int (1 : Int32)), .unset, .unset] [(.int (0 : Int32))])) (fun _ kt => XS.iloadN X26.here hx rfl (hb hby at_51) rfl  kt) ?_
      refine Rch.of (T' := T26) (g' := (mkF m 64 #[.val (.int p0), .val (.int p1), .val (.int (1 : Int32)), .val (.int (0 : Int32)), .val (.ref b23), .val (.int (0 : Int32)), .val (.int (1 : Int32)), .unset, .unset] [])) (fun _ kt => XS.ifYes X26.here hx rfl (pc0 := 52) (pc' := 64) rfl (hb hby at_52) rfl ((if0 _ _).trans (teq ((by decide) : (0 : Int32) = (0 : Int32))).1) (by decide) (by decide) kt) ?_
      refine Rch.of (T' := T26) (g' := (mkF m 65 #[.val (.int p0), .val (.int p1), .val (.int (1 : Int32)), .val (.int (0 : Int32)), .val (.ref b23), .val (.int (0 : Int32)), .val (.int (1 : Int32)), .unset, .unset] [(.int (1 : Int32))])) (fun _ kt => XS.iloadN X26.here hx rfl (hb hby at_64) rfl  kt) ?_
      refine Rch.of (T' := T26) (g' := (mkF m 68 #[.val (.int p0), .val (.int p1), .val (.int (1 : Int32)), .val (.int (0 : Int32)), .val (.ref b23), .val (.int (0 : Int32)), .val (.int (1 : Int32)), .unset, .unset] [])) (fun _ kt => XS.ifNo X26.here hx rfl (hb hby at_65) rfl ((if0 _ _).trans (feq ((by decide) : ¬ ((1 : Int32) = (0 : Int32)))).1) kt) ?_
      refine Rch.of (T' := T26) (g' := (mkF m 69 #[.val (.int p0), .val (.int p1), .val (.int (1 : Int32)), .val (.int (0 : Int32)), .val (.ref b23), .val (.int (0 : Int32)), .val (.int (1 : Int32)), .unset, .unset] [(.int (0 : Int32))])) (fun _ kt => XS.iconst X26.here hx rfl (hb hby at_68) kt) ?_
      refine Rch.of (T' := T26) (g' := (mkF m 71 #[.val (.int p0), .val (.int p1), .val (.int (1 : Int32)), .val (.int (0 : Int32)), .val (.ref b23), .val (.int (0 : Int32)), .val (.int (1 : Int32)), .val (.int (0 : Int32)), .unset] [])) (fun _ kt => XS.istore X26.here hx rfl (hb hby at_69) rfl (l' := #[.val (.int p0), .val (.int p1), .val (.int (1 : Int32)), .val (.int (0 : Int32)), .val (.ref b23), .val (.int (0 : Int32)), .val (.int (1 : Int32)), .val (.int (0 : Int32)), .unset]) rfl kt) ?_
      refine Rch.of (T' := T26) (g' := (mkF m 72 #[.val (.int p0), .val (.int p1), .val (.int (1 : Int32)), .val (.int (0 : Int32)), .val (.ref b23), .val (.int (0 : Int32)), .val (.int (1 : Int32)), .val (.int (0 : Int32)), .unset] [(.int (1 : Int32))])) (fun _ kt => XS.iconst X26.here hx rfl (hb hby at_71) kt) ?_
      refine Rch.of (T' := T26) (g' := (mkF m 74 #[.val (.int p0), .val (.int p1), .val (.int (1 : Int32)), .val (.int (0 : Int32)), .val (.ref b23), .val (.int (0 : Int32)), .val (.int (1 : Int32)), .val (.int (0 : Int32)), .val (.int (1 : Int32))] [])) (fun _ kt => XS.istore X26.here hx rfl (hb hby at_72) rfl (l' := #[.val (.int p0), .val (.int p1), .val (.int (1 : Int32)), .val (.int (0 : Int32)), .val (.ref b23), .val (.int (0 : Int32)), .val (.int (1 : Int32)), .val (.int (0 : Int32)), .val (.int (1 : Int32))]) rfl kt) ?_
      refine Rch.of (T' := T26) (g' := (mkF m 83 #[.val (.int p0), .val (.int p1), .val (.int (1 : Int32)), .val (.int (0 : Int32)), .val (.ref b23), .val (.int (0 : Int32)), .val (.int (1 : Int32)), .val (.int (0 : Int32)), .val (.int (1 : Int32))] [])) (fun _ kt => XS.goto X26.here hx rfl (pc0 := 74) (pc' := 83) rfl (hb hby at_74) (by decide) (by decide) kt) ?_
      refine Rch.of (T' := T26) (g' := (mkF m 85 #[.val (.int p0), .val (.int p1), .val (.int (1 : Int32)), .val (.int (0 : Int32)), .val (.ref b23), .val (.int (0 : Int32)), .val (.int (1 : Int32)), .val (.int (0 : Int32)), .val (.int (1 : Int32))] [(.int (0 : Int32))])) (fun _ kt => XS.iload X26.here hx rfl (hb hby at_83) rfl  kt) ?_
      refine Rch.of (T' := T26) (g' := (mkF m 87 #[.val (.int p0), .val (.int p1), .val (.int (1 : Int32)), .val (.int (0 : Int32)), .val (.ref b23), .val (.int (0 : Int32)), .val (.int (1 : Int32)), .val (.int (0 : Int32)), .val (.int (1 : Int32))] [(.int (0 : Int32)), (.int (0 : Int32))])) (fun _ kt => XS.iload X26.here hx rfl (hb hby at_85) rfl  kt) ?_
      refine Rch.of (T' := T26) (g' := (mkF m 90 #[.val (.int p0), .val (.int p1), .val (.int (1 : Int32)), .val (.int (0 : Int32)), .val (.ref b23), .val (.int (0 : Int32)), .val (.int (1 : Int32)), .val (.int (0 : Int32)), .val (.int (1 : Int32))] [])) (fun _ kt => XS.icmpNo X26.here hx rfl (hb hby at_87) rfl (teq ((by decide) : (0 : Int32) = (0 : Int32))).2 kt) ?_
      refine Rch.of (T' := T26) (g' := (mkF m 92 #[.val (.int p0), .val (.int p1), .val (.int (1 : Int32)), .val (.int (0 : Int32)), .val (.ref b23), .val (.int (0 : Int32)), .val (.int (1 : Int32)), .val (.int (0 : Int32)), .val (.int (1 : Int32))] [(.int (1 : Int32))])) (fun _ kt => XS.iload X26.here hx rfl (hb hby at_90) rfl  kt) ?_
      refine Rch.of (T' := T26) (g' := (mkF m 94 #[.val (.int p0), .val (.int p1), .val (.int (1 : Int32)), .val (.int (0 : Int32)), .val (.ref b23), .val (.int (0 : Int32)), .val (.int (1 : Int32)), .val (.int (0 : Int32)), .val (.int (1 : Int32))] [(.int (1 : Int32)), (.int (1 : Int32))])) (fun _ kt => XS.iload X26.here hx rfl (hb hby at_92) rfl  kt) ?_
      refine Rch.of (T' := T26) (g' := (mkF m 97 #[.val (.int p0), .val (.int p1), .val (.int (1 : Int32)), .val (.int (0 : Int32)), .val (.ref b23), .val (.int (0 : Int32)), .val (.int (1 : Int32)), .val (.int (0 : Int32)), .val (.int (1 : Int32))] [])) (fun _ kt => XS.icmpNo X26.here hx rfl (hb hby at_94) rfl (teq ((by decide) : (1 : Int32) = (1 : Int32))).2 kt) ?_
      refine Rch.of (T' := T26) (g' := (mkF m 98 #[.val (.int p0), .val (.int p1), .val (.int (1 : Int32)), .val (.int (0 : Int32)), .val (.ref b23), .val (.int (0 : Int32)), .val (.int (1 : Int32)), .val (.int (0 : Int32)), .val (.int (1 : Int32))] [(.int (1 : Int32))])) (fun _ kt => XS.iconst X26.here hx rfl (hb hby at_97) kt) ?_
      refine Rch.of (T' := T26) (g' := (mkF m 102 #[.val (.int p0), .val (.int p1), .val (.int (1 : Int32)), .val (.int (0 : Int32)), .val (.ref b23), .val (.int (0 : Int32)), .val (.int (1 : Int32)), .val (.int (0 : Int32)), .val (.int (1 : Int32))] [(.int (1 : Int32))])) (fun _ kt => XS.goto X26.here hx rfl (pc0 := 98) (pc' := 102) rfl (hb hby at_98) (by decide) (by decide) kt) ?_
      exact Rch.retN X26 hx (t := .boolean) hret (by simp) hlk (hb hby at_102) (fun U hU hF => hK _ U _ _ _ (by show Q_rm0 Z p0 p1 h0 n0 _ U.heap _; rw [hU, hQ26]; exact ⟨rfl, N26, trivial⟩) hF (by decide) (by decide))
    · skip
      refine Rch.of (T' := T0) (g' := (mkF m 18 #[.val (.int p0), .val (.int p1), .val (.int (1 : Int32)), .unset, .unset, .unset, .unset, .unset, .unset] [])) (fun _ kt => XS.ifNo X0.here hx rfl (hb hby at_15) rfl ((if0 _ _).trans (feq c22).1) kt) ?_
      refine Rch.of (T' := T0) (g' := (mkF m 19 #[.val (.int p0), .val (.int p1), .val (.int (1 : Int32)), .unset, .unset, .unset, .unset, .unset, .unset] [(.int (1 : Int32))])) (fun _ kt => XS.iconst X0.here hx rfl (hb hby at_18) kt) ?_
      refine Rch.of (T' := T0) (g' := (mkF m 23 #[.val (.int p0), .val (.int p1), .val (.int (1 : Int32)), .unset, .unset, .unset, .unset, .unset, .unset] [(.int (1 : Int32))])) (fun _ kt => XS.goto X0.here hx rfl (pc0 := 19) (pc' := 23) rfl (hb hby at_19) (by decide) (by decide) kt) ?_
      refine Rch.of (T' := T0) (g' := (mkF m 24 #[.val (.int p0), .val (.int p1), .val (.int (1 : Int32)), .val (.int (1 : Int32)), .unset, .unset, .unset, .unset, .unset] [])) (fun _ kt => XS.istoreN X0.here hx rfl (hb hby at_23) rfl (l' := #[.val (.int p0), .val (.int p1), .val (.int (1 : Int32)), .val (.int (1 : Int32)), .unset, .unset, .unset, .unset, .unset]) rfl kt) ?_
      obtain ⟨T27, h27, X27, e27, E27, A27, D27, -, st27⟩ := newO X0 hx hZ hown (hw _ (List.mem_of_getElem? (i := 0) rfl)) (hw _ (List.mem_of_getElem? (i := 1) rfl)) (hw _ (List.mem_of_getElem? (i := 2) rfl)) e0 (g := (mkF m 24 #[.val (.int p0), .val (.int p1), .val (.int (1 : Int32)), .val (.int (1 : Int32)), .unset, .unset, .unset, .unset, .unset] [])) rfl (hb hby at_24) (by decide) (by decide)
      obtain ⟨b27, g27⟩ : ∃ z, z = h0.size := ⟨_, rfl⟩
      have ge_b27 : n0 ≤ b27 := Nat.le_trans Z0 (Nat.le_of_eq g27.symm)
      have sz_b27 : h0.size ≤ b27 := Nat.le_trans (Keep.refl h0 []).1 (Nat.le_of_eq g27.symm)
      rw [← g27] at A27 D27 st27
      have F27_restrictCreationToMappedGroups : Fld Z h27 b27 "com/example/claimsmith/claimsmith/engine/GroupMapping$Manual" "restrictCreationToMappedGroups" "Z" (.int (0 : Int32)) := D27 (Or.inr (hw _ (List.mem_of_getElem? (i := 15) rfl))) (ty := .boolean) (by decide)
      have F27_restrictLoginToMappedGroups : Fld Z h27 b27 "com/example/claimsmith/claimsmith/engine/GroupMapping$Manual" "restrictLoginToMappedGroups" "Z" (.int (0 : Int32)) := D27 (Or.inr (hw _ (List.mem_of_getElem? (i := 17) rfl))) (ty := .boolean) (by decide)
      refine Rch.of (T' := T27) (g' := (mkF m 27 #[.val (.int p0), .val (.int p1), .val (.int (1 : Int32)), .val (.int (1 : Int32)), .unset, .unset, .unset, .unset, .unset] [(.ref b27)])) st27 ?_
      refine Rch.of (T' := T27) (g' := (mkF m 28 #[.val (.int p0), .val (.int p1), .val (.int (1 : Int32)), .val (.int (1 : Int32)), .unset, .unset, .unset, .unset, .unset] [(.ref b27), (.ref b27)])) (fun _ kt => XS.dup X27.here hx rfl (hb hby at_27) rfl rfl kt) ?_
      refine Rch.of (T' := T27) (g' := (mkF m 29 #[.val (.int p0), .val (.int p1), .val (.int (1 : Int32)), .val (.int (1 : Int32)), .unset, .unset, .unset, .unset, .unset] [(.int (1 : Int32)), (.ref b27), (.ref b27)])) (fun _ kt => XS.iloadN X27.here hx rfl (hb hby at_28) rfl  kt) ?_
      refine Rch.of (T' := T27) (g' := (mkF m 30 #[.val (.int p0), .val (.int p1), .val (.int (1 : Int32)), .val (.int (1 : Int32)), .unset, .unset, .unset, .unset, .unset] [(.int (1 : Int32)), (.int (1 : Int32)), (.ref b27), (.ref b27)])) (fun _ kt => XS.iloadN X27.here hx rfl (hb hby at_29) rfl  kt) ?_
      obtain ⟨_, _, ⟨T28, L28, k28, n28⟩, -, X28, ⟨Lc28, hQ28, l28, y28, z28⟩, st28⟩ := X27.specialBack hx (y := (⟨"com/example/claimsmith/claimsmith/engine/GroupMapping$Manual", "<init>", "(ZZ)V"⟩ : MethodName)) rfl hown (mvT hZ (hw _ (List.mem_of_getElem? (i := 3) rfl))) (mvT hZ (hw _ (List.mem_of_getElem? (i := 4) rfl))) (mvT hZ (hw _ (List.mem_of_getElem? (i := 5) rfl))) (by decide) (backOf (W := 1) (rm1 l Z a0 hw [] b27 (1 : Int32) (1 : Int32) (.int (0 : Int32)) (.int (0 : Int32)) h27 n0 (Nat.le_trans Z0 E27.1) A27 F27_restrictCreationToMappedGroups F27_restrictLoginToMappedGroups ge_b27 (Or.inr rfl) (Or.inr rfl)) hZ (hw _ (List.mem_of_getElem? (i := 5) rfl)) (hw _ (List.mem_of_getElem? (i := 2) rfl)) (by decide) (by decide)) (g := (mkF m 30 #[.val (.int p0), .val (.int p1), .val (.int (1 : Int32)), .val (.int (1 : Int32)), .unset, .unset, .unset, .unset, .unset] [(.int (1 : Int32)), (.int (1 : Int32)), (.ref b27), (.ref b27)])) rfl (by rw [hml]; rfl) (Steps.refl _) (a := b27) (argsL := [(.int (1 : Int32)), (.int (1 : Int32))]) (rest := [(.ref b27)]) (lenOf pd_0 rfl) rfl (by show 2 * 0 + _ ≤ _; exact Nat.le_of_eq rfl) (hb hby at_30) (fun _ _ => ⟨rfl, e27, (by decide : 1 + 0 ≤ _), (by decide : 2 + 0 ≤ _)⟩)
      dsimp only [Pt.U, Pt.locs, Pt.cells, Pt.slots] at X28 l28 y28 z28 st28 hQ28
      subst l28 y28 z28
      obtain ⟨rfl, N28q, hQ28⟩ := hQ28
      have N28 := Fr.app N0 N28q
      obtain ⟨K28, Ex28, Fa28, Fb28⟩ := hQ28
      refine Rch.via (T' := T28) (g' := (mkF m 33 #[.val (.int p0), .val (.int p1), .val (.int (1 : Int32)), .val (.int (1 : Int32)), .unset, .unset, .unset, .unset, .unset] [(.ref b27)])) st28 ?_
      refine Rch.of (T' := T28) (g' := (mkF m 35 #[.val (.int p0), .val (.int p1), .val (.int (1 : Int32)), .val (.int (1 : Int32)), .val (.ref b27), .unset, .unset, .unset, .unset] [])) (fun _ kt => XS.astore X28.here hx rfl (hb hby at_33) rfl rfl (l' := #[.val (.int p0), .val (.int p1), .val (.int (1 : Int32)), .val (.int (1 : Int32)), .val (.ref b27), .unset, .unset, .unset, .unset]) rfl kt) ?_
      refine Rch.of (T' := T28) (g' := (mkF m 37 #[.val (.int p0), .val (.int p1), .val (.int (1 : Int32)), .val (.int (1 : Int32)), .val (.ref b27), .unset, .unset, .unset, .unset] [(.ref b27)])) (fun _ kt => XS.aload X28.here hx rfl (hb hby at_35) rfl rfl kt) ?_
      refine Rch.of (T' := T28) (g' := (mkF m 38 #[.val (.int p0), .val (.int p1), .val (.int (1 : Int32)), .val (.int (1 : Int32)), .val (.ref b27), .unset, .unset, .unset, .unset] [(.int (0 : Int32)), (.ref b27)])) (fun _ kt => XS.iconst X28.here hx rfl (hb hby at_37) kt) ?_
      obtain ⟨cq29, kq29, q29a, q29b, q29c⟩ := isOf hZ rfl Ex28
      obtain ⟨_, _, ⟨T29, L29, k29, n29⟩, -, X29, ⟨Lc29, hQ29, l29, y29, z29⟩, st29⟩ := X28.virtualBack hx (y := (⟨"com/example/claimsmith/claimsmith/engine/GroupMapping$Manual", "judges", "(Z)Z"⟩ : MethodName)) (z := (⟨"com/example/claimsmith/claimsmith/engine/GroupMapping$Manual", "judges", "(Z)Z"⟩ : MethodName)) hown (mvT hZ (hw _ (List.mem_of_getElem? (i := 18) rfl))) (mvT hZ (hw _ (List.mem_of_getElem? (i := 19) rfl))) (notFace_of_selects (args := #[]) (mvT hZ (hw _ (List.mem_of_getElem? (i := 21) rfl)))) (mvT hZ (hw _ (List.mem_of_getElem? (i := 21) rfl))) (mvT hZ (hw _ (List.mem_of_getElem? (i := 20) rfl))) (by decide) (backOf (W := 0) (rm4 l Z a0 hw [] b27 (0 : Int32) (1 : Int32) (1 : Int32) T28.heap n0 (Nat.le_trans (Nat.le_trans Z0 E27.1) K28.1) Fa28 Fb28) hZ (hw _ (List.mem_of_getElem? (i := 22) rfl)) (hw _ (List.mem_of_getElem? (i := 2) rfl)) (by decide) (by decide)) q29a q29c (g := (mkF m 38 #[.val (.int p0), .val (.int p1), .val (.int (1 : Int32)), .val (.int (1 : Int32)), .val (.ref b27), .unset, .unset, .unset, .unset] [(.int (0 : Int32)), (.ref b27)])) rfl (by rw [hml]; rfl) (Steps.refl _) (argsL := [(.int (0 : Int32))]) (rest := []) (lenOf pd_2 rfl) rfl (by show 2 * 0 + _ ≤ _; exact Nat.le_of_eq rfl) (hb hby at_38) (fun _ _ => ⟨rfl, rfl, (by decide : 1 + 0 ≤ _), (by decide : 2 + 0 ≤ _)⟩)
      dsimp only [Pt.U, Pt.locs, Pt.cells, Pt.slots] at X29 l29 y29 z29 st29 hQ29
      subst l29 y29 z29
      obtain ⟨rfl, N29q, hQ29⟩ := hQ29
      have N29 := Fr.app N28 N29q
      refine Rch.via (T' := T29) (g' := (mkF m 41 #[.val (.int p0), .val (.int p1), .val (.int (1 : Int32)), .val (.int (1 : Int32)), .val (.ref b27), .unset, .unset, .unset, .unset] [(.int (own_j (0 : Int32) (1 : Int32) (1 : Int32)))])) st29 ?_
      rw [show (own_j (0 : Int32) (1 : Int32) (1 : Int32)) = (1 : Int32) from by decide]
      refine Rch.of (T' := T29) (g' := (mkF m 43 #[.val (.int p0), .val (.int p1), .val (.int (1 : Int32)), .val (.int (1 : Int32)), .val (.ref b27), .val (.int (1 : Int32)), .unset, .unset, .unset] [])) (fun _ kt => XS.istore X29.here hx rfl (hb hby at_41) rfl (l' := #[.val (.int p0), .val (.int p1), .val (.int (1 : Int32)), .val (.int (1 : Int32)), .val (.ref b27), .val (.int (1 : Int32)), .unset, .unset, .unset]) rfl kt) ?_
      refine Rch.of (T' := T29) (g' := (mkF m 45 #[.val (.int p0), .val (.int p1), .val (.int (1 : Int32)), .val (.int (1 : Int32)), .val (.ref b27), .val (.int (1 : Int32)), .unset, .unset, .unset] [(.ref b27)])) (fun _ kt => XS.aload X29.here hx rfl (hb hby at_43) rfl rfl kt) ?_
      refine Rch.of (T' := T29) (g' := (mkF m 46 #[.val (.int p0), .val (.int p1), .val (.int (1 : Int32)), .val (.int (1 : Int32)), .val (.ref b27), .val (.int (1 : Int32)), .unset, .unset, .unset] [(.int (1 : Int32)), (.ref b27)])) (fun _ kt => XS.iconst X29.here hx rfl (hb hby at_45) kt) ?_
      obtain ⟨cq30, kq30, q30a, q30b, q30c⟩ := isOf hZ hQ29 Ex28
      obtain ⟨_, _, ⟨T30, L30, k30, n30⟩, -, X30, ⟨Lc30, hQ30, l30, y30, z30⟩, st30⟩ := X29.virtualBack hx (y := (⟨"com/example/claimsmith/claimsmith/engine/GroupMapping$Manual", "judges", "(Z)Z"⟩ : MethodName)) (z := (⟨"com/example/claimsmith/claimsmith/engine/GroupMapping$Manual", "judges", "(Z)Z"⟩ : MethodName)) hown (mvT hZ (hw _ (List.mem_of_getElem? (i := 18) rfl))) (mvT hZ (hw _ (List.mem_of_getElem? (i := 19) rfl))) (notFace_of_selects (args := #[]) (mvT hZ (hw _ (List.mem_of_getElem? (i := 21) rfl)))) (mvT hZ (hw _ (List.mem_of_getElem? (i := 21) rfl))) (mvT hZ (hw _ (List.mem_of_getElem? (i := 20) rfl))) (by decide) (backOf (W := 0) (rm4 l Z a0 hw [] b27 (1 : Int32) (1 : Int32) (1 : Int32) T28.heap n0 (Nat.le_trans (Nat.le_trans Z0 E27.1) K28.1) Fa28 Fb28) hZ (hw _ (List.mem_of_getElem? (i := 22) rfl)) (hw _ (List.mem_of_getElem? (i := 2) rfl)) (by decide) (by decide)) q30a q30c (g := (mkF m 46 #[.val (.int p0), .val (.int p1), .val (.int (1 : Int32)), .val (.int (1 : Int32)), .val (.ref b27), .val (.int (1 : Int32)), .unset, .unset, .unset] [(.int (1 : Int32)), (.ref b27)])) rfl (by rw [hml]; rfl) (Steps.refl _) (argsL := [(.int (1 : Int32))]) (rest := []) (lenOf pd_2 rfl) rfl (by show 2 * 0 + _ ≤ _; exact Nat.le_of_eq rfl) (hb hby at_46) (fun _ _ => ⟨rfl, hQ29, (by decide : 1 + 0 ≤ _), (by decide : 2 + 0 ≤ _)⟩)
      dsimp only [Pt.U, Pt.locs, Pt.cells, Pt.slots] at X30 l30 y30 z30 st30 hQ30
      subst l30 y30 z30
      obtain ⟨rfl, N30q, hQ30⟩ := hQ30
      have N30 := Fr.app N29 N30q
      refine Rch.via (T' := T30) (g' := (mkF m 49 #[.val (.int p0), .val (.int p1), .val (.int (1 : Int32)), .val (.int (1 : Int32)), .val (.ref b27), .val (.int (1 : Int32)), .unset, .unset, .unset] [(.int (own_j (1 : Int32) (1 : Int32) (1 : Int32)))])) st30 ?_
      rw [show (own_j (1 : Int32) (1 : Int32) (1 : Int32)) = (1 : Int32) from by decide]
      refine Rch.of (T' := T30) (g' := (mkF m 51 #[.val (.int p0), .val (.int p1), .val (.int (1 : Int32)), .val (.int (1 : Int32)), .val (.ref b27), .val (.int (1 : Int32)), .val (.int (1 : Int32)), .unset, .unset] [])) (fun _ kt => XS.istore X30.here hx rfl (hb hby at_49) rfl (l' := #[.val (.int p0), .val (.int p1), .val (.int (1 : Int32)), .val (.int (1 : Int32)), .val (.ref b27), .val (.int (1 : Int32)), .val (.int (1 : Int32)), .unset, .unset]) rfl kt) ?_
      refine Rch.of (T' := T30) (g' := (mkF m 52 #[.val (.int p0), .val (.int p1), .val (.int (1 : Int32)), .val (.int (1 : Int32)), .val (.ref b27), .val (.int (1 : Int32)), .val (.int (1 : Int32)), .unset, .unset] [(.int (1 : Int32))])) (fun _ kt => XS.iloadN X30.here hx rfl (hb hby at_51) rfl  kt) ?_
      refine Rch.of (T' := T30) (g' := (mkF m 55 #[.val (.int p0), .val (.int p1), .val (.int (1 : Int32)), .val (.int (1 : Int32)), .val (.ref b27), .val (.int (1 : Int32)), .val (.int (1 : Int32)), .unset, .unset] [])) (fun _ kt => XS.ifNo X30.here hx rfl (hb hby at_52) rfl ((if0 _ _).trans (feq ((by decide) : ¬ ((1 : Int32) = (0 : Int32)))).1) kt) ?_
      refine Rch.of (T' := T30) (g' := (mkF m 56 #[.val (.int p0), .val (.int p1), .val (.int (1 : Int32)), .val (.int (1 : Int32)), .val (.ref b27), .val (.int (1 : Int32)), .val (.int (1 : Int32)), .unset, .unset] [(.int (1 : Int32))])) (fun _ kt => XS.iconst X30.here hx rfl (hb hby at_55) kt) ?_
      refine Rch.of (T' := T30) (g' := (mkF m 58 #[.val (.int p0), .val (.int p1), .val (.int (1 : Int32)), .val (.int (1 : Int32)), .val (.ref b27), .val (.int (1 : Int32)), .val (.int (1 : Int32)), .val (.int (1 : Int32)), .unset] [])) (fun _ kt => XS.istore X30.here hx rfl (hb hby at_56) rfl (l' := #[.val (.int p0), .val (.int p1), .val (.int (1 : Int32)), .val (.int (1 : Int32)), .val (.ref b27), .val (.int (1 : Int32)), .val (.int (1 : Int32)), .val (.int (1 : Int32)), .unset]) rfl kt) ?_
      refine Rch.of (T' := T30) (g' := (mkF m 59 #[.val (.int p0), .val (.int p1), .val (.int (1 : Int32)), .val (.int (1 : Int32)), .val (.ref b27), .val (.int (1 : Int32)), .val (.int (1 : Int32)), .val (.int (1 : Int32)), .unset] [(.int (1 : Int32))])) (fun _ kt => XS.iconst X30.here hx rfl (hb hby at_58) kt) ?_
      refine Rch.of (T' := T30) (g' := (mkF m 61 #[.val (.int p0), .val (.int p1), .val (.int (1 : Int32)), .val (.int (1 : Int32)), .val (.ref b27), .val (.int (1 : Int32)), .val (.int (1 : Int32)), .val (.int (1 : Int32)), .val (.int (1 : Int32))] [])) (fun _ kt => XS.istore X30.here hx rfl (hb hby at_59) rfl (l' := #[.val (.int p0), .val (.int p1), .val (.int (1 : Int32)), .val (.int (1 : Int32)), .val (.ref b27), .val (.int (1 : Int32)), .val (.int (1 : Int32)), .val (.int (1 : Int32)), .val (.int (1 : Int32))]) rfl kt) ?_
      refine Rch.of (T' := T30) (g' := (mkF m 83 #[.val (.int p0), .val (.int p1), .val (.int (1 : Int32)), .val (.int (1 : Int32)), .val (.ref b27), .val (.int (1 : Int32)), .val (.int (1 : Int32)), .val (.int (1 : Int32)), .val (.int (1 : Int32))] [])) (fun _ kt => XS.goto X30.here hx rfl (pc0 := 61) (pc' := 83) rfl (hb hby at_61) (by decide) (by decide) kt) ?_
      refine Rch.of (T' := T30) (g' := (mkF m 85 #[.val (.int p0), .val (.int p1), .val (.int (1 : Int32)), .val (.int (1 : Int32)), .val (.ref b27), .val (.int (1 : Int32)), .val (.int (1 : Int32)), .val (.int (1 : Int32)), .val (.int (1 : Int32))] [(.int (1 : Int32))])) (fun _ kt => XS.iload X30.here hx rfl (hb hby at_83) rfl  kt) ?_
      refine Rch.of (T' := T30) (g' := (mkF m 87 #[.val (.int p0), .val (.int p1), .val (.int (1 : Int32)), .val (.int (1 : Int32)), .val (.ref b27), .val (.int (1 : Int32)), .val (.int (1 : Int32)), .val (.int (1 : Int32)), .val (.int (1 : Int32))] [(.int (1 : Int32)), (.int (1 : Int32))])) (fun _ kt => XS.iload X30.here hx rfl (hb hby at_85) rfl  kt) ?_
      refine Rch.of (T' := T30) (g' := (mkF m 90 #[.val (.int p0), .val (.int p1), .val (.int (1 : Int32)), .val (.int (1 : Int32)), .val (.ref b27), .val (.int (1 : Int32)), .val (.int (1 : Int32)), .val (.int (1 : Int32)), .val (.int (1 : Int32))] [])) (fun _ kt => XS.icmpNo X30.here hx rfl (hb hby at_87) rfl (teq ((by decide) : (1 : Int32) = (1 : Int32))).2 kt) ?_
      refine Rch.of (T' := T30) (g' := (mkF m 92 #[.val (.int p0), .val (.int p1), .val (.int (1 : Int32)), .val (.int (1 : Int32)), .val (.ref b27), .val (.int (1 : Int32)), .val (.int (1 : Int32)), .val (.int (1 : Int32)), .val (.int (1 : Int32))] [(.int (1 : Int32))])) (fun _ kt => XS.iload X30.here hx rfl (hb hby at_90) rfl  kt) ?_
      refine Rch.of (T' := T30) (g' := (mkF m 94 #[.val (.int p0), .val (.int p1), .val (.int (1 : Int32)), .val (.int (1 : Int32)), .val (.ref b27), .val (.int (1 : Int32)), .val (.int (1 : Int32)), .val (.int (1 : Int32)), .val (.int (1 : Int32))] [(.int (1 : Int32)), (.int (1 : Int32))])) (fun _ kt => XS.iload X30.here hx rfl (hb hby at_92) rfl  kt) ?_
      refine Rch.of (T' := T30) (g' := (mkF m 97 #[.val (.int p0), .val (.int p1), .val (.int (1 : Int32)), .val (.int (1 : Int32)), .val (.ref b27), .val (.int (1 : Int32)), .val (.int (1 : Int32)), .val (.int (1 : Int32)), .val (.int (1 : Int32))] [])) (fun _ kt => XS.icmpNo X30.here hx rfl (hb hby at_94) rfl (teq ((by decide) : (1 : Int32) = (1 : Int32))).2 kt) ?_
      refine Rch.of (T' := T30) (g' := (mkF m 98 #[.val (.int p0), .val (.int p1), .val (.int (1 : Int32)), .val (.int (1 : Int32)), .val (.ref b27), .val (.int (1 : Int32)), .val (.int (1 : Int32)), .val (.int (1 : Int32)), .val (.int (1 : Int32))] [(.int (1 : Int32))])) (fun _ kt => XS.iconst X30.here hx rfl (hb hby at_97) kt) ?_
      refine Rch.of (T' := T30) (g' := (mkF m 102 #[.val (.int p0), .val (.int p1), .val (.int (1 : Int32)), .val (.int (1 : Int32)), .val (.ref b27), .val (.int (1 : Int32)), .val (.int (1 : Int32)), .val (.int (1 : Int32)), .val (.int (1 : Int32))] [(.int (1 : Int32))])) (fun _ kt => XS.goto X30.here hx rfl (pc0 := 98) (pc' := 102) rfl (hb hby at_98) (by decide) (by decide) kt) ?_
      exact Rch.retN X30 hx (t := .boolean) hret (by simp) hlk (hb hby at_102) (fun U hU hF => hK _ U _ _ _ (by show Q_rm0 Z p0 p1 h0 n0 _ U.heap _; rw [hU, hQ30]; exact ⟨rfl, N30, trivial⟩) hF (by decide) (by decide))
set_option maxRecDepth 65536 in
set_option maxHeartbeats 40000000 in
theorem comes_1 {Post : Tables → Env → Array Value → State → Outcome → State → Prop} (hpost : ∀ tb e args s v u, (limb_1_1.after args s (.returned v) u = true ∧ limb_1_2.after args s (.returned v) u = true ∧ True) → FrameEnd s (.returned v) u (Jvm.fieldLocs frame_1_writes args s ++ Jvm.arrayLocs frame_1_arrays args s ++ Jvm.staticLocs frame_1_statics s) 16 128 → Post tb e args s (.returned v) u) :
    ArmFor flags0 classFile x code maxLocals ret World_1 tables_1 room_1 Calls_1 rest_1 Pre_1 Post := by
  intro l hfl _ _ p e ha hc hk s m args below hf hA hF happ hP
  obtain ⟨hcalls, hrest, hpre⟩ := hP
  obtain ⟨-, -, -, hnamed, -, -, -, hat⟩ := (Spec.applies_iff hf).mp happ
  obtain ⟨hg, hn⟩ := and_e (Cond.before_iff.mp (show (Jvm.Cond.and given_1 narrow_1).before args s = true from hpre))
  obtain ⟨g0, hg0⟩ := and_e hg
  obtain ⟨ga0, hg1⟩ := and_e hg0
  obtain ⟨w0, w1, rfl⟩ : ∃ w0 w1 : Value, args = #[w0, w1] := by
    have hs : args.size = 2 := by simpa [Cond.value, given_1] using g0
    obtain ⟨L⟩ := args
    match L, hs with
    | [w0, w1], _ => exact ⟨w0, w1, rfl⟩
  have hw := fun d (hd : d ∈ tables_1) => atoms_spec (ws := Jvm.Cond.code x code maxLocals ret :: tables_1) hat d (List.mem_cons_of_mem _ hd)
  obtain ⟨i0, ei0⟩ := is_v ga0
  obtain rfl : w0 = (.int i0) := Option.some.inj ei0
  obtain ⟨i1, ei1⟩ := is_v hg1
  obtain rfl : w1 = (.int i1) := Option.some.inj ei1
  have hfit : Fit s := fun {y c} hc i hi => by
    obtain ⟨ha, rfl⟩ := Array.getElem?_eq_some_iff.mp hc
    have q := List.all_eq_true.mp ((Array.all_eq_true_iff_forall_mem.mp hF) _ (Array.getElem_mem ha)) i (List.mem_range.mpr hi)
    simpa [Array.getElem?_eq_getElem hi] using q
  obtain ⟨n, o, h1, h2, h3, _, L, rfl, ⟨rfl, N, -⟩, hq⟩ := rm0 l s _ hw tables_1 i0 i1  s.heap s.heap.size (Nat.le_refl _)  p e ha hc hk s m _ below hf ((Spec.applies_iff_loose hf).mp happ).1 ⟨rfl, State.Warmed39.refl s, rfl⟩ trivial
  refine ⟨n, _, h1, h2, h3, hpost _ _ _ _ _ _ ⟨Cond.after_iff.mpr rfl, Cond.after_iff.mpr (eq_i res_at (Term.int_eval (1)) rfl), trivial⟩ ⟨hq.1, hq.2.1, (hq.2.2.sift fun y hy => Or.inr (N y hy)).mono (by decide) (by decide)⟩⟩
theorem main_1_1 : Claimed_1_1 := comes_1 fun _ _ _ _ _ _ h hF => ⟨h.1, hF⟩
theorem main_1_2 : Claimed_1_2 := comes_1 fun _ _ _ _ _ _ h hF => ⟨h.2.1, hF⟩
end Jvm.Pilot.@@N@@
namespace Jvm.Pilot.@@N@@
open Jvm Jvm.ClassFile Sem Op Lib Jvm.Free Jvm.Stand Jvm.Pilot.@@N@@.Jvm.D
/-! MADE BY PROGRAM (witnessworld.py) out of the Statement's table words and the real class files: 10 classes; the members and pool entries that the words name. The judged class is class 1, her method 1. -/
namespace start1
open Jvm.ClassFile
def u (s : String) : CpInfo := .utf8 (stringToUtf16 s)
/-- a pool by its gaps: so many unusable entries, then the entry; so many at the end -/
def gap : Nat → List CpInfo → List CpInfo
  | 0, r => r
  | n + 1, r => .unusable :: gap n r
def poolList (es : List (Nat × CpInfo)) (last : Nat) : List CpInfo := es.foldr (fun e r => gap e.1 (e.2 :: r)) (gap last [])
def pool (es : List (Nat × CpInfo)) (last : Nat) : Array CpInfo := ⟨poolList es last⟩
def fileOf (pool : Array CpInfo) (this : Nat) (attrs : Array Attribute := #[]) (ms : Array MethodInfo := #[]) (fl : Nat := 33) (sup : Nat := 0) (ifs : Array Nat := #[]) (fds : Array FieldInfo := #[]) : ClassFile where
  minorVersion := 0
  majorVersion := 65
  constantPool := pool
  accessFlags := fl
  thisClass := this
  superClass := sup
  interfaces := ifs
  fields := fds
  methods := ms
  attributes := attrs
def plain (name : String) (sup : Option ClassId) : Class where
  name := name
  kind := .ordinary
  loader := none
  accessFlags := 33
  super := sup
  interfaces := #[]
  cf := none
  fields := #[]
  methods := #[]
  instanceTypes := #[]
  staticTypes := #[]
  resolved := #[]
  callSites := []
  init := .initialized
  statics := none
  mirror := none

def pool0 : Array CpInfo := pool [(5, u "<init>"), (0, u "()V"), (1, .class_ 10), (1, u "java/lang/Object")] 113

def k0c0 : Code := { maxStack := 0, maxLocals := 1, code := object_method_1_code, exceptionTable := #[], attributes := #[] }
def k0m0 : Method := { name := "<init>", desc := "()V", sig := { parameters := [], returnType := none }, accessFlags := 1, code := some k0c0 }
/-- java/lang/Object -/
def k0 : Class := { plain "java/lang/Object" none with
  accessFlags := 33
  interfaces := #[]
  cf := some (fileOf pool0 8 #[] #[{ accessFlags := 1, nameIndex := 5, descriptorIndex := 6, attributes := #[] }] 33 0 #[] #[])
  fields := #[]
  methods := #[k0m0]
  instanceTypes := #[]
  staticTypes := #[]
  resolved := Array.replicate 124 none
  statics := none }

def pool1 : Array CpInfo := pool [(2, .class_ 4), (1, u "java/lang/Object"), (0, u "<init>"), (0, u "()V"), (0, .class_ 8), (0, u "com/example/claimsmith/claimsmith/engine/GroupMapping$Manual"), (0, .methodref 7 10), (0, .nameAndType 5 11), (0, u "(ZZ)V"), (0, .methodref 7 13), (0, .nameAndType 14 15), (0, u "judges"), (0, u "(Z)Z"), (0, .class_ 17), (0, u "com/example/claimsmith/claimsmith/engine/ManualJudgesPinLaw"), (2, u "law"), (0, u "(II)Z")] 7

def k1m0 : Method := { name := "<init>", desc := "()V", sig := { parameters := [], returnType := none }, accessFlags := 1, code := none }
def k1c1 : Code := { maxStack := 4, maxLocals := 9, code := code, exceptionTable := #[], attributes := #[] }
def k1m1 : Method := { name := "law", desc := "(II)Z", sig := { parameters := [.int, .int], returnType := some .boolean }, accessFlags := 9, code := some k1c1 }
/-- com/example/claimsmith/claimsmith/engine/ManualJudgesPinLaw -/
def k1 : Class := { plain "com/example/claimsmith/claimsmith/engine/ManualJudgesPinLaw" (some 0) with
  accessFlags := 49
  interfaces := #[]
  cf := some (fileOf pool1 16 #[] #[{ accessFlags := 1, nameIndex := 5, descriptorIndex := 6, attributes := #[] }, { accessFlags := 9, nameIndex := 20, descriptorIndex := 21, attributes := #[] }] 49 2 #[] #[])
  fields := #[]
  methods := #[k1m0, k1m1]
  instanceTypes := #[]
  staticTypes := #[]
  resolved := Array.replicate 29 none
  statics := none }

def pool2 : Array CpInfo := pool [(1, .methodref 2 3), (0, .class_ 4), (0, .nameAndType 5 6), (0, u "java/lang/Object"), (0, u "<init>"), (0, u "()V"), (0, .class_ 8), (0, u "java/lang/Record")] 13

def k2c0 : Code := { maxStack := 1, maxLocals := 1, code := jdk_30_method_1_code, exceptionTable := #[], attributes := #[] }
def k2m0 : Method := { name := "<init>", desc := "()V", sig := { parameters := [], returnType := none }, accessFlags := 4, code := some k2c0 }
/-- java/lang/Record -/
def k2 : Class := { plain "java/lang/Record" (some 0) with
  accessFlags := 1057
  interfaces := #[]
  cf := some (fileOf pool2 7 #[] #[{ accessFlags := 4, nameIndex := 5, descriptorIndex := 6, attributes := #[] }] 1057 2 #[] #[])
  fields := #[]
  methods := #[k2m0]
  instanceTypes := #[]
  staticTypes := #[]
  resolved := Array.replicate 22 none
  statics := none }

def pool3 : Array CpInfo := pool [(1, .methodref 2 3), (0, .class_ 4), (0, .nameAndType 5 6), (0, u "java/lang/Record"), (0, u "<init>"), (0, u "()V"), (0, .fieldref 8 9), (0, .class_ 10), (0, .nameAndType 11 12), (0, u "com/example/claimsmith/claimsmith/engine/GroupMapping$Manual"), (0, u "restrictCreationToMappedGroups"), (0, u "Z"), (0, .fieldref 8 14), (0, .nameAndType 15 12), (0, u "restrictLoginToMappedGroups"), (14, u "(ZZ)V"), (2, u "DEFAULTS"), (0, u "Lcom/example/claimsmith/claimsmith/engine/GroupMapping$Manual;"), (3, u "judges"), (0, u "(Z)Z"), (9, .class_ 50), (0, u "com/example/claimsmith/claimsmith/engine/GroupMapping")] 20

def k3c0 : Code := { maxStack := 2, maxLocals := 3, code := prog_8_method_1_code, exceptionTable := #[], attributes := #[] }
def k3m0 : Method := { name := "<init>", desc := "(ZZ)V", sig := { parameters := [.boolean, .boolean], returnType := none }, accessFlags := 1, code := some k3c0 }
def k3c1 : Code := { maxStack := 1, maxLocals := 2, code := prog_8_method_2_code, exceptionTable := #[], attributes := #[] }
def k3m1 : Method := { name := "judges", desc := "(Z)Z", sig := { parameters := [.boolean], returnType := some .boolean }, accessFlags := 0, code := some k3c1 }
/-- com/example/claimsmith/claimsmith/engine/GroupMapping$Manual -/
def k3 : Class := { plain "com/example/claimsmith/claimsmith/engine/GroupMapping$Manual" (some 2) with
  accessFlags := 49
  interfaces := #[]
  cf := some (fileOf pool3 8 #[.nestHost 49] #[{ accessFlags := 1, nameIndex := 5, descriptorIndex := 30, attributes := #[] }, { accessFlags := 0, nameIndex := 38, descriptorIndex := 39, attributes := #[] }] 49 2 #[] #[{ accessFlags := 18, nameIndex := 11, descriptorIndex := 12, attributes := #[] }, { accessFlags := 18, nameIndex := 15, descriptorIndex := 12, attributes := #[] }, { accessFlags := 25, nameIndex := 33, descriptorIndex := 34, attributes := #[] }])
  fields := #[{ name := "restrictCreationToMappedGroups", type := .boolean, accessFlags := 18, slot := 0, constantValue := 0 }, { name := "restrictLoginToMappedGroups", type := .boolean, accessFlags := 18, slot := 1, constantValue := 0 }, { name := "DEFAULTS", type := (.object "com/example/claimsmith/claimsmith/engine/GroupMapping$Manual"), accessFlags := 25, slot := 0, constantValue := 0 }]
  methods := #[k3m0, k3m1]
  instanceTypes := #[.boolean, .boolean]
  staticTypes := #[(.object "com/example/claimsmith/claimsmith/engine/GroupMapping$Manual")]
  resolved := Array.replicate 71 none
  statics := none }

def pool4 : Array CpInfo := pool [(1, u "java/lang/Cloneable"), (0, .class_ 1), (0, u "java/lang/Object"), (0, .class_ 3)] 3

/-- java/lang/Cloneable -/
def k4 : Class := { plain "java/lang/Cloneable" (some 0) with
  accessFlags := 1537
  interfaces := #[]
  cf := some (fileOf pool4 2 #[] #[] 1537 4 #[] #[])
  fields := #[]
  methods := #[]
  instanceTypes := #[]
  staticTypes := #[]
  resolved := Array.replicate 8 none
  statics := none }

def pool5 : Array CpInfo := pool [(1, u "java/io/Serializable"), (0, .class_ 1), (0, u "java/lang/Object"), (0, .class_ 3)] 3

/-- java/io/Serializable -/
def k5 : Class := { plain "java/io/Serializable" (some 0) with
  accessFlags := 1537
  interfaces := #[]
  cf := some (fileOf pool5 2 #[] #[] 1537 4 #[] #[])
  fields := #[]
  methods := #[]
  instanceTypes := #[]
  staticTypes := #[]
  resolved := Array.replicate 8 none
  statics := none }

/-- the primitive byte -/
def k6 : Class := { plain "byte" none with kind := .primitive 'B', accessFlags := 0x411 }
/-- [B -/
def k7 : Class := { plain "[B" (some 0) with kind := .array 6 .byte, interfaces := #[4, 5], accessFlags := 1041 }

/-- the primitive int -/
def k8 : Class := { plain "int" none with kind := .primitive 'I', accessFlags := 0x411 }
/-- [I -/
def k9 : Class := { plain "[I" (some 0) with kind := .array 8 .int, interfaces := #[4, 5], accessFlags := 1041 }

def heap : Heap := #[]
def classes : Array Class := #[k0, k1, k2, k3, k4, k5, k6, k7, k8, k9]
def interned : List (Array UInt16 × Addr) := []
def slotsUsed : Nat := 0
def theMethod : MethodId := ⟨1, 1⟩
def args0 : Array Value := #[.int 5, .int 6]
def aboutOver (below : List Frame) : State where
  vm := { classes := classes, interned := interned.toArray }
  heap := heap
  slotsUsed := slotsUsed
  threads := #[{ frames := .invoking theMethod args0 :: below }]
def below0 : List Frame := [.native { method := ⟨0, 0⟩, args := #[] }]
def about1 : State := aboutOver below0
def p0 : Program := .bare "" "" ""
def e0 : Env := launch0.env 0 0 0
theorem w_frames : about1.frames = Frame.invoking theMethod args0 :: below0 := rfl
set_option maxRecDepth 65536 in
theorem w_args : argsFit about1.vm theMethod args0 = true := by decide +kernel
set_option maxRecDepth 65536 in
theorem w_heap : heapFits about1 = true := by decide +kernel
set_option maxRecDepth 65536 in
theorem w_runnable : about1.curStatus? = some .runnable := by decide +kernel
set_option maxRecDepth 65536 in
theorem w_alone : about1.alone = true := by decide +kernel
set_option maxRecDepth 65536 in
theorem w_named : about1.methodNamed? x = some theMethod := by decide +kernel
set_option maxRecDepth 65536 in
theorem w_hears : about1.hears theMethod below0 = true := by decide +kernel
set_option maxRecDepth 65536 in
theorem w_ripe : about1.ripe theMethod args0 below0 = true := by decide +kernel
theorem w_running : about1.status = .running := rfl
set_option maxRecDepth 65536 in
theorem w_room : about1.hasRoom e0.platform room_1 = true :=
  launch0.hasRoom_least _ room_1 (by decide +kernel) (by decide +kernel) (by decide +kernel) (by decide +kernel) (by decide +kernel) (by decide +kernel)
theorem allAtoms_all (ts : List Jvm.Cond) (a : Array Jvm.Value) (st : Jvm.State) : (allAtoms ts).before a st = ts.all (fun c => c.before a st) := by
  induction ts with
  | nil => rfl
  | cons c t ih =>
    show (Jvm.Cond.and c (allAtoms t)).before a st = _
    rw [Jvm.Cond.before_and, ih, List.all_cons]
def words1 : List Jvm.Cond := Jvm.Cond.code x code maxLocals ret :: tables_1
/-- a 'code' word, met by the world's own term for the bytes: nothing is compared byte by byte -/
theorem code_word {y : MethodName} {bytes : ByteArray} {mx : Nat} {rt : Option FieldType} {a : Array Value} {s : State} {m : MethodId} {meth : Method} {c : Code} (h1 : s.methodNamed? y = some m) (h2 : s.vm.method? m = some meth) (h3 : meth.code = some c) (h4 : c.code = bytes)
    (h5 : (c.maxLocals == mx && c.exceptionTable.isEmpty && decide (c.maxStack ≤ mostOperands) && decide (meth.sig.returnType = rt) && !meth.locks && decide (parseMethodDescriptor y.desc = some meth.sig)) = true) : (Jvm.Cond.code y bytes mx rt).before a s = true := by
  simp only [Bool.and_eq_true, beq_iff_eq, Bool.not_eq_true', decide_eq_true_eq] at h5
  obtain ⟨⟨⟨⟨⟨g1, g2⟩, g3⟩, g4⟩, g5⟩, g6⟩ := h5
  simp [Cond.before, Cond.holds, Cond.value, h1, h2, h3, h4, g1, g2, g3, g4, g5, g6]
def isCode : Jvm.Cond → Bool
  | .code _ _ _ _ => true
  | _ => false
theorem all_split {L : List Jvm.Cond} {P : Jvm.Cond → Bool} (h1 : L.all (fun c => isCode c || P c) = true) (h2 : ∀ c ∈ L.filter isCode, P c = true) : L.all P = true := by
  refine List.all_eq_true.mpr fun c hc => ?_
  have h := List.all_eq_true.mp h1 c hc
  rcases Bool.eq_false_or_eq_true (isCode c) with hi | hi
  · exact h2 c (List.mem_filter.mpr ⟨hc, hi⟩)
  · simpa [hi] using h
set_option maxRecDepth 65536 in
theorem w_c0 : (Jvm.Cond.code x code maxLocals ret).before args0 about1 = true := code_word (m := ⟨1, 1⟩) (meth := k1m1) (c := k1c1) (by decide +kernel) rfl rfl rfl (by decide +kernel)
set_option maxRecDepth 65536 in
theorem w_c1 : (Jvm.Cond.code ({ cls := "com/example/claimsmith/claimsmith/engine/GroupMapping$Manual", name := "<init>", desc := "(ZZ)V" } : Jvm.MethodName) prog_8_method_1_code (3 : Nat) (Option.none : Option Jvm.ClassFile.FieldType)).before args0 about1 = true := code_word (m := ⟨3, 0⟩) (meth := k3m0) (c := k3c0) (by decide +kernel) rfl rfl rfl (by decide +kernel)
set_option maxRecDepth 65536 in
theorem w_c2 : (Jvm.Cond.code ({ cls := "java/lang/Record", name := "<init>", desc := "()V" } : Jvm.MethodName) jdk_30_method_1_code (1 : Nat) (Option.none : Option Jvm.ClassFile.FieldType)).before args0 about1 = true := code_word (m := ⟨2, 0⟩) (meth := k2m0) (c := k2c0) (by decide +kernel) rfl rfl rfl (by decide +kernel)
set_option maxRecDepth 65536 in
theorem w_c3 : (Jvm.Cond.code ({ cls := "java/lang/Object", name := "<init>", desc := "()V" } : Jvm.MethodName) object_method_1_code (1 : Nat) (Option.none : Option Jvm.ClassFile.FieldType)).before args0 about1 = true := code_word (m := ⟨0, 0⟩) (meth := k0m0) (c := k0c0) (by decide +kernel) rfl rfl rfl (by decide +kernel)
set_option maxRecDepth 65536 in
theorem w_c4 : (Jvm.Cond.code ({ cls := "com/example/claimsmith/claimsmith/engine/GroupMapping$Manual", name := "judges", desc := "(Z)Z" } : Jvm.MethodName) prog_8_method_2_code (2 : Nat) (Option.some Jvm.ClassFile.FieldType.boolean)).before args0 about1 = true := code_word (m := ⟨3, 1⟩) (meth := k3m1) (c := k3c1) (by decide +kernel) rfl rfl rfl (by decide +kernel)
def codes1 : List Jvm.Cond := [Jvm.Cond.code x code maxLocals ret, Jvm.Cond.code ({ cls := "com/example/claimsmith/claimsmith/engine/GroupMapping$Manual", name := "<init>", desc := "(ZZ)V" } : Jvm.MethodName) prog_8_method_1_code (3 : Nat) (Option.none : Option Jvm.ClassFile.FieldType), Jvm.Cond.code ({ cls := "java/lang/Record", name := "<init>", desc := "()V" } : Jvm.MethodName) jdk_30_method_1_code (1 : Nat) (Option.none : Option Jvm.ClassFile.FieldType), Jvm.Cond.code ({ cls := "java/lang/Object", name := "<init>", desc := "()V" } : Jvm.MethodName) object_method_1_code (1 : Nat) (Option.none : Option Jvm.ClassFile.FieldType), Jvm.Cond.code ({ cls := "com/example/claimsmith/claimsmith/engine/GroupMapping$Manual", name := "judges", desc := "(Z)Z" } : Jvm.MethodName) prog_8_method_2_code (2 : Nat) (Option.some Jvm.ClassFile.FieldType.boolean)]
set_option maxRecDepth 65536 in
theorem codes_eq : words1.filter isCode = codes1 := rfl
theorem w_codes : ∀ c ∈ words1.filter isCode, c.before args0 about1 = true := by
  rw [codes_eq]
  intro c hc
  simp only [codes1, List.mem_cons, List.not_mem_nil, or_false] at hc
  rcases hc with rfl | rfl | rfl | rfl | rfl
  · exact w_c0
  · exact w_c1
  · exact w_c2
  · exact w_c3
  · exact w_c4
set_option maxRecDepth 65536 in
theorem w_t1 : words1.all (fun c => isCode c || c.before args0 about1) = true := by decide +kernel
theorem w_tables : (allAtoms (Jvm.Cond.code x code maxLocals ret :: tables_1)).before args0 about1 = true := by
  rw [allAtoms_all]
  show words1.all (fun c => c.before args0 about1) = true
  refine all_split ?_ w_codes
  rw [w_t1]
set_option maxRecDepth 65536 in
theorem w_case : (Jvm.Cond.and given_1 narrow_1).before args0 about1 = true := by decide +kernel
theorem w_applies : (headSpec (Jvm.Cond.code x code maxLocals ret :: tables_1) room_1).applies x e0.platform about1 = true :=
  (Spec.applies_iff w_frames).mpr ⟨w_running, w_runnable, w_alone, w_named, w_hears, w_ripe, w_room, w_tables⟩
theorem atStart : AtStart classFile x code maxLocals ret World_1 tables_1 room_1 Calls_1 rest_1 Pre_1 launch0 p0 e0 about1 theMethod args0 below0 :=
  ⟨lists_1, trivial, launch0.admits_env _ _ _, launch0.least_env, fairChoices_fair.cas, fairChoices_fair.clock, w_frames, w_args, w_heap, w_applies, trivial, trivial, w_case⟩
end start1
theorem witness_1 : WitnessClaimed_1 := ⟨start1.p0, start1.e0, start1.about1, start1.theMethod, start1.args0, start1.below0, start1.atStart⟩
end Jvm.Pilot.@@N@@
