import JvmDerived
import JvmDerived.Pilot.@@N@@Statement
import JvmDerived.Pilot.@@N@@Code
set_option linter.unusedVariables false
set_option linter.unusedSimpArgs false
namespace Jvm.RoadKit
open Sem ClassFile Op Lib Jvm.Stand Jvm.Free Jvm.LawKit
section New
variable {p : Program} {l : Launch} {e : Env} {R : Room} {s : State} {m : MethodId} {args : Array Value} {below : List Frame} {meth : Method} {c : Code} {T : State} {locs : List Loc} {cells slots : Nat} {K : Outcome → State → Prop}
theorem retI (X : Stand p l e R s m args below meth c T locs cells slots) (hx : p.tables.exec = Jvm.exec) {pc : Nat} {Ls : Array Slot} {z : Int32} {rest : List Value} (hret : meth.sig.returnType = some .int) (hd : decode c.code pc = .ok (.ireturn, 1)) {fs : List Frame}
    (hl : ∀ (f : JFrame) (acts : List Action), f.method = m → f.locked = none → f.entered = [] → (doReturn e (T.setTop f) acts (some (.int z))).1 = T.setFrames fs) : Steps p.tables e below (T.setTop (mkF m pc Ls (.int z :: rest))) (T.setFrames fs) := by
  have hm' : T.vm.method? m = some meth := X.method'
  have hn : narrow .int (.int z) = .int z := rfl
  show Steps p.tables e below (T.setTop { method := m, pc := pc, locals := Ls, stack := _ :: rest, locked := none }) _
  jvm_step X.here [X.here.top, hx, hd, hm', hret, hn]
  first | (intro acts; rw [hl _ acts rfl rfl rfl]) | rw [hl _ _ rfl rfl rfl]
  exact Steps.refl _
/-- from here the run comes to an end that K holds of -/
def Rch (p : Program) (e : Env) (below : List Frame) (K : Outcome → State → Prop) (T : State) (g : JFrame) : Prop := ∃ s₂ o, Steps p.tables e below (T.setTop g) s₂ ∧ s₂.status = .running ∧ Ended s₂ below o ∧ K o s₂
theorem Rch.of {T T' : State} {g g' : JFrame} (h : ∀ t, Steps p.tables e below (T'.setTop g') t → Steps p.tables e below (T.setTop g) t) (k : Rch p e below K T' g') : Rch p e below K T g := by
  obtain ⟨s₂, o, h1, h2⟩ := k
  exact ⟨s₂, o, h _ h1, h2⟩
theorem Rch.via {T T' : State} {g g' : JFrame} (h : Steps p.tables e below (T.setTop g) (T'.setTop g')) (k : Rch p e below K T' g') : Rch p e below K T g := Rch.of (fun _ kt => h.trans kt) k
theorem Rch.cast {T : State} {g g' : JFrame} (q : g = g') (k : Rch p e below K T g') : Rch p e below K T g := q ▸ k
theorem Rch.retN (X : Stand p l e R s m args below meth c T locs cells slots) (hx : p.tables.exec = Jvm.exec) {pc : Nat} {Ls : Array Slot} {z : Int32} {t : FieldType} {rest : List Value} (hret : meth.sig.returnType = some t) (ht : t = .boolean ∨ t = .byte ∨ t = .char ∨ t = .short) (hlk : meth.locks = false) (hd : decode c.code pc = .ok (.ireturn, 1))
    (k : ∀ U : State, U.heap = T.heap → FrameEnd s (.returned (some (.int (nar t z)))) U locs cells slots → K (.returned (some (.int (nar t z)))) U) : Rch p e below K T (mkF m pc Ls (.int z :: rest)) := by
  obtain ⟨fs, hr, hrun, hended, hW, hsame⟩ := X.leave (v := some (.int (nar t z))) (fun h => by rw [hret] at h; cases h) hlk
  exact ⟨_, _, Jvm.RoadKit.retN X hx hret ht hd hr, hrun, hended, k _ rfl ⟨⟨_, rfl⟩, hW, hsame⟩⟩
theorem Rch.retI (X : Stand p l e R s m args below meth c T locs cells slots) (hx : p.tables.exec = Jvm.exec) {pc : Nat} {Ls : Array Slot} {z : Int32} {rest : List Value} (hret : meth.sig.returnType = some .int) (hlk : meth.locks = false) (hd : decode c.code pc = .ok (.ireturn, 1))
    (k : ∀ U : State, U.heap = T.heap → FrameEnd s (.returned (some (.int z))) U locs cells slots → K (.returned (some (.int z))) U) : Rch p e below K T (mkF m pc Ls (.int z :: rest)) := by
  obtain ⟨fs, hr, hrun, hended, hW, hsame⟩ := X.leave (v := some (.int z)) (fun h => by rw [hret] at h; cases h) hlk
  exact ⟨_, _, Jvm.RoadKit.retI X hx hret hd hr, hrun, hended, k _ rfl ⟨⟨_, rfl⟩, hW, hsame⟩⟩
theorem Rch.retJ (X : Stand p l e R s m args below meth c T locs cells slots) (hx : p.tables.exec = Jvm.exec) {pc : Nat} {Ls : Array Slot} {z : Int64} {rest : List Value} (hret : meth.sig.returnType = some .long) (hlk : meth.locks = false) (hd : decode c.code pc = .ok (.lreturn, 1))
    (k : ∀ U : State, U.heap = T.heap → FrameEnd s (.returned (some (.long z))) U locs cells slots → K (.returned (some (.long z))) U) : Rch p e below K T (mkF m pc Ls (.long z :: rest)) := by
  obtain ⟨fs, hr, hrun, hended, hW, hsame⟩ := X.leave (v := some (.long z)) (fun h => by rw [hret] at h; cases h) hlk
  exact ⟨_, _, retOut X hx hret rfl (Or.inr (Or.inl ⟨rfl, rfl, z, rfl⟩)) hd hr, hrun, hended, k _ rfl ⟨⟨_, rfl⟩, hW, hsame⟩⟩
theorem Rch.retA (X : Stand p l e R s m args below meth c T locs cells slots) (hx : p.tables.exec = Jvm.exec) {pc : Nat} {Ls : Array Slot} {w : Value} {t : FieldType} {rest : List Value} (hret : meth.sig.returnType = some t) (ht : t.isReference = true) (hw : w.isRef = true) (hlk : meth.locks = false) (hd : decode c.code pc = .ok (.areturn, 1))
    (k : ∀ U : State, U.heap = T.heap → FrameEnd s (.returned (some w)) U locs cells slots → K (.returned (some w)) U) : Rch p e below K T (mkF m pc Ls (w :: rest)) := by
  obtain ⟨fs, hr, hrun, hended, hW, hsame⟩ := X.leave (v := some w) (fun h => by rw [hret] at h; cases h) hlk
  have hn : narrow t w = w := by
    rcases ref_cases hw with rfl | ⟨a, rfl⟩ <;> cases t <;> first | rfl | (simp [FieldType.isReference] at ht)
  exact ⟨_, _, retOut X hx hret hn (Or.inr (Or.inr (Or.inr (Or.inr ⟨rfl, ht, hw⟩)))) hd hr, hrun, hended, k _ rfl ⟨⟨_, rfl⟩, hW, hsame⟩⟩
theorem Rch.retV (X : Stand p l e R s m args below meth c T locs cells slots) (hx : p.tables.exec = Jvm.exec) {pc : Nat} {Ls : Array Slot} (hret : meth.sig.returnType = none) (hlk : meth.locks = false) (hd : decode c.code pc = .ok (.return_, 1))
    (k : ∀ U : State, U.heap = T.heap → FrameEnd s (.returned none) U locs cells slots → K (.returned none) U) : Rch p e below K T (mkF m pc Ls []) := by
  obtain ⟨fs, hr, hrun, hended, hW, hsame⟩ := X.leave (v := none) (fun _ => rfl) hlk
  exact ⟨_, _, X.returnOut hx hret hd hr, hrun, hended, k _ rfl ⟨⟨_, rfl⟩, hW, hsame⟩⟩
theorem own_met {y : MethodName} {bytes : ByteArray} {maxL : Nat} {ret : Option FieldType} {ws : List Cond} {rm : Room} {as' : Array Value} {Z : State} {h0 : Heap} {Q : Option Value → Heap → List Loc → Prop} {ck sk : Nat} (hn : plainFor y = true)
    (body : ∀ (p : Program) (e : Env) (s : State) (m : MethodId) (below : List Frame) (meth : Method) (c : Code) (T : State) (K : Outcome → State → Prop), p.tables.exec = Jvm.exec → c.code = bytes → c.maxLocals = maxL → meth.sig.returnType = ret → meth.locks = false → s.vm.findClass y.cls = some m.cls → meth.name = y.name → Z.Warmed39 s.vm → Stand p l e rm s m as' below meth c T [] 0 0 → T.heap = h0 →
      (∀ (v : Option Value) (U : State) (L : List Loc) (k n : Nat), Q v U.heap L → FrameEnd s (.returned v) U L k n → k ≤ ck → n ≤ sk → K (.returned v) U) → Rch p e below K T (entryFrame m as' maxL)) :
    MetFree l y (head1 (Cond.code y bytes maxL ret :: ws) rm) (fun a U => a = as' ∧ Z.Warmed39 U.vm ∧ U.heap = h0) (fun _ _ _ _ _ => True) (fun _ U o U' => ∃ v L, o = .returned v ∧ Q v U'.heap L ∧ FrameEnd U o U' L ck sk) := by
  refine MetFree.of_bodySF hn hisR ?_
  intro p e s m args below meth c s₁ Bd hml0 hP hK
  obtain ⟨rfl, hZ, hh⟩ := hP
  show Rch p e below (fun o U' => ∃ v L, o = .returned v ∧ Q v U'.heap L ∧ FrameEnd s o U' L ck sk) s₁ (entryFrame m args maxL)
  refine body p e s m below meth c s₁ _ Bd.exec Bd.bytes hml0 Bd.returns Bd.notSynchronized (findClass_of_methodNamed Bd.named) (name_of_methodNamed Bd.named Bd.method).1 hZ (Stand.of_body Bd) (by rw [← hh, Bd.state]; rfl) ?_
  intro v U L k n hQ hF hk hs
  exact ⟨v, L, rfl, hQ, hF.1, hF.2.1, hF.2.2.mono hk hs⟩
theorem own_metS {y : MethodName} {bytes : ByteArray} {maxL : Nat} {ret : Option FieldType} {ws : List Cond} {rm : Room} {as' : Array Value} {Z : State} {h0 : Heap} {Q : Option Value → Heap → List Loc → Prop} {ck sk : Nat} (hn : plainFor y = true)
    (body : ∀ (p : Program) (e : Env) (s : State) (m : MethodId) (below : List Frame) (meth : Method) (c : Code) (T : State) (K : Outcome → State → Prop), p.tables.exec = Jvm.exec → c.code = bytes → c.maxLocals = maxL → meth.sig.returnType = ret → meth.locks = false → s.vm.findClass y.cls = some m.cls → meth.name = y.name → Z.Warmed39 s.vm → Stand p l e rm s m as' below meth c T [] 0 0 → T.heap = h0 →
      (∀ (v : Option Value) (U : State) (L : List Loc) (k n : Nat), Q v U.heap L → ReturnedEndW s (.returned v) U L k n → k ≤ ck → n ≤ sk → K (.returned v) U) → Rch p e below K T (entryFrame m as' maxL)) :
    MetFree l y (head1 (Cond.code y bytes maxL ret :: ws) rm) (fun a U => a = as' ∧ Z.Warmed39 U.vm ∧ U.heap = h0) (fun _ _ _ _ _ => True) (fun _ U o U' => ∃ v L, o = .returned v ∧ Q v U'.heap L ∧ ReturnedEndW U o U' L ck sk) := by
  refine MetFree.of_bodySF hn hisR ?_
  intro p e s m args below meth c s₁ Bd hml0 hP hK
  obtain ⟨rfl, hZ, hh⟩ := hP
  show Rch p e below (fun o U' => ∃ v L, o = .returned v ∧ Q v U'.heap L ∧ ReturnedEndW s o U' L ck sk) s₁ (entryFrame m args maxL)
  refine body p e s m below meth c s₁ _ Bd.exec Bd.bytes hml0 Bd.returns Bd.notSynchronized (findClass_of_methodNamed Bd.named) (name_of_methodNamed Bd.named Bd.method).1 hZ (Stand.of_body Bd) (by rw [← hh, Bd.state]; rfl) ?_
  intro v U L k n hQ hF hk hs
  exact ⟨v, L, rfl, hQ, hF.1, hF.2.1, hF.2.2.1, hF.2.2.2.mono hk hs⟩
theorem own_end {vm1 : Vm} {n : Nat} (h : s.Since vm1 n) {U : State} {o : Outcome} {L : List Loc} {k c : Nat} (hn : n ≤ U.heap.size) (F : FrameEnd (s.setVm vm1) o U L k c) : ReturnedEndW s o U L k c := by
  obtain ⟨h1, h2, h3⟩ := F
  obtain ⟨g1, g2, g3⟩ := h.ended h2 hn h3
  exact ⟨h1, g1, g2, g3⟩
theorem own_narrowZ {z : Int32} (h : z = 0 ∨ z = 1) : narrow .boolean (.int z) = .int z := by rcases h with rfl | rfl <;> rfl
theorem own_fitZ {z : Int32} (h : z = 0 ∨ z = 1) : fits .boolean (.int z) = true := by rcases h with rfl | rfl <;> rfl
theorem own_narZ {z : Int32} (h : z = 0 ∨ z = 1) : nar .boolean z = z := by rcases h with rfl | rfl <;> rfl
/-- a truth as an int -/
def ob (P : Prop) [Decidable P] : Int32 := if P then 1 else 0
theorem ob_cases (P : Prop) [Decidable P] : (ob P = 1 ∧ P) ∨ (ob P = 0 ∧ ¬ P) := by
  by_cases h : P
  · exact Or.inl ⟨if_pos h, h⟩
  · exact Or.inr ⟨if_neg h, h⟩
theorem ob01 (P : Prop) [Decidable P] : ob P = 0 ∨ ob P = 1 := (ob_cases P).elim (fun h => Or.inr h.1) (fun h => Or.inl h.1)
theorem ob_pos {P : Prop} [Decidable P] (h : P) : ob P = 1 := if_pos h
theorem ob_neg {P : Prop} [Decidable P] (h : ¬ P) : ob P = 0 := if_neg h
theorem own_selP {args : Array Value} {y : MethodName} {n : Nat} (wi : (Cond.instantiable y.cls n).before args s = true) (hp : (Cond.privateMethod y).before args s = true) (hinst : (Cond.instanceMethod y).before args s = true) (hy : y.cls ≠ "java/lang/invoke/MethodHandle" ∧ y.cls ≠ "java/lang/invoke/VarHandle") : (Cond.selects y.cls y y).before args s = true := by
  obtain ⟨c, k, h1, h2, -, h4, -⟩ := Cond.instantiable_spec wi
  exact Jvm.Stand.selects_self_of_private h1 h2 (by cases hq : k.isInterface <;> simp [hq] at h4 ⊢) (Cond.privateMethod_at hp) hinst hy
end New
section Arrays
variable {Z : State} {h h' : Heap} {a b : Addr} {ty : FieldType} {n i : Nat} {f f' : Nat → Value} {sl : Nat} {v : Value} {ws : List Addr} {j : Int32} {c : Cell}
/-- the array at a has n places; place q holds f q -/
def Av (Z : State) (h : Heap) (a : Addr) (ty : FieldType) (n : Nat) (f : Nat → Value) : Prop := ∃ cl : Cell, Arr Z h a cl ty ∧ cl.slots.size = n ∧ ∀ j, j < n → cl.slots[j]? = some (f j)
theorem Av.ext (V : Av Z h a ty n f) (E : Ext h h') : Av Z h' a ty n f := by obtain ⟨c, A, r⟩ := V; exact ⟨c, A.ext E, r⟩
theorem Av.other (V : Av Z h b ty n f) (W : Wr h h' a sl v) (q : b ≠ a) : Av Z h' b ty n f := by obtain ⟨c, A, r⟩ := V; exact ⟨c, A.other W q, r⟩
theorem Av.keep (V : Av Z h a ty n f) (K : Keep h h' ws) (q : a ∉ ws) : Av Z h' a ty n f := by obtain ⟨c, A, r⟩ := V; exact ⟨c, ⟨K.2.1 a c A.1 q, A.2⟩, r⟩
theorem Av.lt (V : Av Z h a ty n f) : a < h.size := by obtain ⟨c, A, -⟩ := V; exact A.lt
theorem Av.congr (V : Av Z h a ty n f) (q : ∀ j, j < n → f j = f' j) : Av Z h a ty n f' := by obtain ⟨c, A, S, H⟩ := V; exact ⟨c, A, S, fun j hj => by rw [H j hj, q j hj]⟩
theorem Av.nostat (V : Av Z h a ty n f) : ∀ cell : Cell, h[a]? = some cell → cell.vm.isStatics = false := by
  obtain ⟨c, A, -⟩ := V
  exact Arr.nostat A
theorem own_sta {C nm d : String} (F : Sta Z h C nm d v) (K : Keep h h' ws) (hn : ∀ x ∈ ws, ∀ cell : Cell, h[x]? = some cell → cell.vm.isStatics = false) : Sta Z h' C nm d v := by
  obtain ⟨cf, i, k, f, st, cell, h1, h2, h3, h4, h5, h6, h7⟩ := F
  refine ⟨cf, i, k, f, st, cell, h1, h2, h3, h4, K.2.1 st cell h5 fun q => ?_, h6, h7⟩
  rw [hn st q cell h5] at h6
  cases h6
theorem oNat (e : j.toInt = (i : Int)) : j.toNatClampNeg = i := by simp only [Int32.toNatClampNeg]; omega
theorem oNn (e : j.toInt = (i : Int)) : ¬ j < 0 := by
  rw [Int32.lt_iff_toInt_lt]; have : (0 : Int32).toInt = 0 := rfl
  omega
theorem oIn (S : c.slots.size = n) (e : j.toInt = (i : Int)) (hi : i < n) : ¬ (j < 0 ∨ c.slots.size ≤ j.toNatClampNeg) := by
  rw [oNat e, S]; intro q
  rcases q with q | q
  · exact oNn e q
  · omega
theorem oAt (H : ∀ j, j < n → c.slots[j]? = some (f j)) (e : j.toInt = (i : Int)) (hi : i < n) : c.slots[j.toNatClampNeg]? = some (f i) := by rw [oNat e]; exact H i hi
theorem Av.set (V : Av Z h a ty n f) (e : j.toInt = (i : Int)) (hi : i < n) (W : Wr h h' a j.toNatClampNeg v) : Av Z h' a ty n (fun q => if q = i then v else f q) := by
  obtain ⟨c, A, S, H⟩ := V
  rw [oNat e] at W
  refine ⟨_, A.same W, by rw [sz_set]; exact S, fun k hk => ?_⟩
  by_cases u : k = i
  · subst u; simp [Cell.setSlot, S, hk]
  · simp only [u, if_false, Cell.setSlot]; rw [Array.getElem?_setIfInBounds_ne (Ne.symm u)]; exact H k hk
theorem Av.setI {y : Nat → Int32} {x : Int32} (V : Av Z h a ty n (fun q => .int (y q))) (e : j.toInt = (i : Int)) (hi : i < n) (W : Wr h h' a j.toNatClampNeg (.int x)) : Av Z h' a ty n (fun q => .int (if q = i then x else y q)) := (V.set e hi W).congr fun k _ => by
  by_cases u : k = i <;> simp [u]
theorem Av.setJ {y : Nat → Int64} {x : Int64} (V : Av Z h a ty n (fun q => .long (y q))) (e : j.toInt = (i : Int)) (hi : i < n) (W : Wr h h' a j.toNatClampNeg (.long x)) : Av Z h' a ty n (fun q => .long (if q = i then x else y q)) := (V.set e hi W).congr fun k _ => by
  by_cases u : k = i <;> simp [u]
theorem oLen (S : c.slots.size = n) : c.slots.size.toInt32 = Int32.ofNat n := by rw [S]
theorem Av.new {k : ClassId} {z : Int32} (A : Arr Z h a (newA k ty z) ty) (e : z.toInt = (n : Int)) : Av Z h a ty n (fun _ => defaultValue ty) :=
  ⟨_, A, by rw [sz_new]; exact oNat e, fun j hj => by have := oNat e; simp [newA, this, hj]⟩
/-- the array at a takes what is a C -/
def OvA (Z : State) (h : Heap) (a : Addr) (C : String) : Prop := ∃ cl : Cell, h[a]? = some cl ∧ Ovr Z cl.cls C
theorem OvA.ext {C : String} (F : OvA Z h a C) (E : Ext h h') : OvA Z h' a C := by obtain ⟨c, h1, h2⟩ := F; exact ⟨c, E.2 _ _ h1, h2⟩
theorem OvA.wr {C : String} (F : OvA Z h a C) (W : Wr h h' b sl v) : OvA Z h' a C := by
  obtain ⟨c, h1, h2⟩ := F
  obtain ⟨c', e1, e2, -⟩ := wr_at W h1
  exact ⟨c', e1, by rw [e2]; exact h2⟩
theorem OvA.keep {C : String} (F : OvA Z h a C) (K : Keep h h' ws) : OvA Z h' a C := by
  obtain ⟨c, h1, h2⟩ := F
  obtain ⟨c', e1, e2, -⟩ := K.2.2 a c h1
  exact ⟨c', e1, by rw [e2]; exact h2⟩
theorem OvA.at {C : String} (F : OvA Z h a C) (A : Arr Z h a c ty) : Ovr Z c.cls C := by
  obtain ⟨c', h1, h2⟩ := F
  cases h1.symm.trans A.1; exact h2
theorem oTo {n : Nat} (h : n < 2 ^ 31) : (Int32.ofNat n).toInt = (n : Int) := len_toInt h
end Arrays
end Jvm.RoadKit
namespace Jvm.Pilot.@@N@@
open Jvm Jvm.ClassFile Sem Op Lib Jvm.Free Jvm.Stand Jvm.LawKit Jvm.RoadKit Bundle Jvm.Pilot.@@N@@.Jvm.D
theorem d_jdk_30_method_1_code_0 : decode jdk_30_method_1_code 0 = .ok (.aload_n 0, 1) := by decide +kernel
theorem d_jdk_30_method_1_code_1 : decode jdk_30_method_1_code 1 = .ok (.invokespecial 1, 3) := by decide +kernel
theorem d_jdk_30_method_1_code_4 : decode jdk_30_method_1_code 4 = .ok (.return_, 1) := by decide +kernel
theorem pn_0 : plainName "java/lang/Record" = true := by first | (simp [plainName, overriddenIn]; done) | decide +kernel
theorem pd_0 : parseMethodDescriptor "()Ljava/util/Set;" = some ⟨[], some (.object "java/util/Set")⟩ := by decide +kernel
theorem pd_1 : parseMethodDescriptor "(ZZLjava/util/Set;Z)V" = some ⟨[.boolean, .boolean, (.object "java/util/Set"), .boolean], none⟩ := by decide +kernel
theorem pd_2 : parseMethodDescriptor "()V" = some ⟨[], none⟩ := by decide +kernel
theorem pd_3 : parseMethodDescriptor "(Ljava/util/Collection;)Ljava/util/Set;" = some ⟨[(.object "java/util/Collection")], some (.object "java/util/Set")⟩ := by decide +kernel
theorem pd_4 : parseMethodDescriptor "()Z" = some ⟨[], some .boolean⟩ := by decide +kernel
theorem ef_rm3 (m : MethodId) (a1 : Addr) : entryFrame m #[(.ref a1)] 1 = mkF m 0 #[.val (.ref a1)] [] := by first | (simp [entryFrame, mkF, argsToLocals, Value.category]; done) | rfl
def Q_rm3 (Z : State) (a1 : Addr) (h0 : Heap) (n0 : Nat) (vv_ : Option Value) (h : Heap) (LL_ : List Loc) : Prop := vv_ = none ∧ Fr n0 LL_ ∧ (h = h0)
set_option maxRecDepth 65536 in
set_option maxHeartbeats 40000000 in
theorem rm3 (l : Launch) (Z : State) (a0 : Array Value) (hw : ∀ d ∈ tables_1, d.before a0 Z = true) (ws : List Jvm.Cond) (a1 : Addr) (h0 : Heap) (n0 : Nat) (Z0 : n0 ≤ h0.size)  :
    MetFree l (⟨"java/lang/Record", "<init>", "()V"⟩ : MethodName) (head1 (Jvm.Cond.code (⟨"java/lang/Record", "<init>", "()V"⟩ : MethodName) jdk_30_method_1_code 1 none :: ws) ({ frames := 1, cells := 0, slots := 0, locals := 12 } : Room)) (fun aa_ UU_ => aa_ = #[(.ref a1)] ∧ Z.Warmed39 UU_.vm ∧ UU_.heap = h0) (fun _ _ _ _ _ => True) (fun _ UU_ oo_ VV_ => ∃ vv_ LL_, oo_ = .returned vv_ ∧ Q_rm3 Z a1 h0 n0 vv_ VV_.heap LL_ ∧ FrameEnd UU_ oo_ VV_ LL_ ({ frames := 1, cells := 0, slots := 0, locals := 12 } : Room).cells ({ frames := 1, cells := 0, slots := 0, locals := 12 } : Room).slots) := by
  refine own_met (y := (⟨"java/lang/Record", "<init>", "()V"⟩ : MethodName)) (plainFor_of_name pn_0) ?_
  intro p e s m below meth c T0 K hx hby hml hret hlk hown hnm hZ X0 e0 hK
  have N0 := Fr.nil n0
  refine Rch.cast (ef_rm3 m a1) ?_
  refine Rch.of (T' := T0) (g' := (mkF m 1 #[.val (.ref a1)] [(.ref a1)])) (fun _ kt => XS.aloadN X0.here hx rfl (hb hby d_jdk_30_method_1_code_0) rfl rfl kt) ?_
  obtain ⟨T1, X1, e1, st1⟩ := initO X0 hx hZ hown (hw _ (List.mem_of_getElem? (i := 20) rfl)) (hw _ (List.mem_of_getElem? (i := 21) rfl)) (hw _ (List.mem_of_getElem? (i := 22) rfl)) e0 (g := (mkF m 1 #[.val (.ref a1)] [(.ref a1)])) rfl (by rw [hml]; rfl) rfl (hb hby d_jdk_30_method_1_code_1) (by decide) (W := 0) (by show 2 * 0 + _ ≤ _; exact Nat.le_of_eq rfl) (by decide)
  refine Rch.of (T' := T1) (g' := (mkF m 4 #[.val (.ref a1)] [])) st1 ?_
  exact Rch.retV X1 hx hret hlk (hb hby d_jdk_30_method_1_code_4) (fun U hU hF => hK _ U _ _ _ (by show Q_rm3 Z a1 h0 n0 _ U.heap _; rw [hU, e1]; exact ⟨rfl, N0, rfl⟩) hF (by decide) (by decide))
theorem d_jdk_96_method_29_code_0 : decode jdk_96_method_29_code 0 = .ok (.aload_n 0, 1) := by decide +kernel
theorem d_jdk_96_method_29_code_1 : decode jdk_96_method_29_code 1 = .ok (.instanceof 31, 3) := by decide +kernel
theorem d_jdk_96_method_29_code_4 : decode jdk_96_method_29_code 4 = .ok (.ifCond .eq 8, 3) := by decide +kernel
theorem d_jdk_96_method_29_code_7 : decode jdk_96_method_29_code 7 = .ok (.aload_n 0, 1) := by decide +kernel
theorem d_jdk_96_method_29_code_8 : decode jdk_96_method_29_code 8 = .ok (.checkcast 33, 3) := by decide +kernel
theorem d_jdk_96_method_29_code_11 : decode jdk_96_method_29_code 11 = .ok (.areturn, 1) := by decide +kernel
theorem d_jdk_96_method_29_code_12 : decode jdk_96_method_29_code 12 = .ok (.aload_n 0, 1) := by decide +kernel
theorem d_jdk_96_method_29_code_13 : decode jdk_96_method_29_code 13 = .ok (.invokeinterface 35 1, 5) := by decide +kernel
theorem d_jdk_96_method_29_code_18 : decode jdk_96_method_29_code 18 = .ok (.ifCond .eq 7, 3) := by decide +kernel
theorem d_jdk_96_method_29_code_21 : decode jdk_96_method_29_code 21 = .ok (.invokestatic 41, 3) := by decide +kernel
theorem d_jdk_96_method_29_code_24 : decode jdk_96_method_29_code 24 = .ok (.areturn, 1) := by decide +kernel
theorem d_jdk_96_method_29_code_25 : decode jdk_96_method_29_code 25 = .ok (.new 45, 3) := by decide +kernel
theorem d_jdk_96_method_29_code_28 : decode jdk_96_method_29_code 28 = .ok (.dup, 1) := by decide +kernel
theorem d_jdk_96_method_29_code_29 : decode jdk_96_method_29_code 29 = .ok (.aload_n 0, 1) := by decide +kernel
theorem d_jdk_96_method_29_code_30 : decode jdk_96_method_29_code 30 = .ok (.invokespecial 47, 3) := by decide +kernel
theorem d_jdk_96_method_29_code_33 : decode jdk_96_method_29_code 33 = .ok (.invokevirtual 50, 3) := by decide +kernel
theorem d_jdk_96_method_29_code_36 : decode jdk_96_method_29_code 36 = .ok (.invokestatic 54, 3) := by decide +kernel
theorem d_jdk_96_method_29_code_39 : decode jdk_96_method_29_code 39 = .ok (.areturn, 1) := by decide +kernel
theorem pn_1 : plainName "java/util/Set" = true := by first | (simp [plainName, overriddenIn]; done) | decide +kernel
theorem ef_rm5 (m : MethodId) (a1 : Addr) : entryFrame m #[(.ref a1)] 1 = mkF m 0 #[.val (.ref a1)] [] := by first | (simp [entryFrame, mkF, argsToLocals, Value.category]; done) | rfl
def Q_rm5 (Z : State) (a1 : Addr) (h0 : Heap) (n0 : Nat) (vv_ : Option Value) (h : Heap) (LL_ : List Loc) : Prop := vv_ = some (.ref a1) ∧ Fr n0 LL_ ∧ (h = h0)
set_option maxRecDepth 65536 in
set_option maxHeartbeats 40000000 in
theorem rm5 (l : Launch) (Z : State) (a0 : Array Value) (hw : ∀ d ∈ tables_1, d.before a0 Z = true) (ws : List Jvm.Cond) (a1 : Addr) (h0 : Heap) (n0 : Nat) (Z0 : n0 ≤ h0.size) (E1 : Exa Z h0 a1 "java/util/ImmutableCollections$SetN") :
    MetFree l (⟨"java/util/Set", "copyOf", "(Ljava/util/Collection;)Ljava/util/Set;"⟩ : MethodName) (head1 (Jvm.Cond.code (⟨"java/util/Set", "copyOf", "(Ljava/util/Collection;)Ljava/util/Set;"⟩ : MethodName) jdk_96_method_29_code 1 (some (.object "java/util/Set")) :: ws) ({ frames := 0, cells := 0, slots := 0, locals := 0 } : Room)) (fun aa_ UU_ => aa_ = #[(.ref a1)] ∧ Z.Warmed39 UU_.vm ∧ UU_.heap = h0) (fun _ _ _ _ _ => True) (fun _ UU_ oo_ VV_ => ∃ vv_ LL_, oo_ = .returned vv_ ∧ Q_rm5 Z a1 h0 n0 vv_ VV_.heap LL_ ∧ FrameEnd UU_ oo_ VV_ LL_ ({ frames := 0, cells := 0, slots := 0, locals := 0 } : Room).cells ({ frames := 0, cells := 0, slots := 0, locals := 0 } : Room).slots) := by
  refine own_met (y := (⟨"java/util/Set", "copyOf", "(Ljava/util/Collection;)Ljava/util/Set;"⟩ : MethodName)) (plainFor_of_name pn_1) ?_
  intro p e s m below meth c T0 K hx hby hml hret hlk hown hnm hZ X0 e0 hK
  have N0 := Fr.nil n0
  refine Rch.cast (ef_rm5 m a1) ?_
  refine Rch.of (T' := T0) (g' := (mkF m 1 #[.val (.ref a1)] [(.ref a1)])) (fun _ kt => XS.aloadN X0.here hx rfl (hb hby d_jdk_96_method_29_code_0) rfl rfl kt) ?_
  obtain ⟨T2, X2, e2, st2⟩ := instY X0 hx hZ hown (hw _ (List.mem_of_getElem? (i := 27) rfl)) e0 (Ins.of_exa E1 (hw _ (List.mem_of_getElem? (i := 28) rfl))) (g := (mkF m 1 #[.val (.ref a1)] [(.ref a1)])) rfl rfl (hb hby d_jdk_96_method_29_code_1)
  refine Rch.of (T' := T2) (g' := (mkF m 4 #[.val (.ref a1)] [(.int (1 : Int32))])) st2 ?_
  refine Rch.of (T' := T2) (g' := (mkF m 7 #[.val (.ref a1)] [])) (fun _ kt => XS.ifNo X2.here hx rfl (hb hby d_jdk_96_method_29_code_4) rfl ((if0 _ _).trans (feq ((by decide) : ¬ ((1 : Int32) = (0 : Int32)))).1) kt) ?_
  refine Rch.of (T' := T2) (g' := (mkF m 8 #[.val (.ref a1)] [(.ref a1)])) (fun _ kt => XS.aloadN X2.here hx rfl (hb hby d_jdk_96_method_29_code_7) rfl rfl kt) ?_
  obtain ⟨T3, X3, e3, st3⟩ := castY X2 hx hZ hown (hw _ (List.mem_of_getElem? (i := 29) rfl)) e2 (Ins.of_exa E1 (hw _ (List.mem_of_getElem? (i := 30) rfl))) (g := (mkF m 8 #[.val (.ref a1)] [(.ref a1)])) rfl rfl (hb hby d_jdk_96_method_29_code_8)
  refine Rch.of (T' := T3) (g' := (mkF m 11 #[.val (.ref a1)] [(.ref a1)])) st3 ?_
  exact Rch.retA X3 hx (w := (.ref a1)) hret rfl rfl hlk (hb hby d_jdk_96_method_29_code_11) (fun U hU hF => hK _ U _ _ _ (by show Q_rm5 Z a1 h0 n0 _ U.heap _; rw [hU, e3]; exact ⟨rfl, N0, rfl⟩) hF (by decide) (by decide))
theorem d_prog_10_method_8_code_0 : decode prog_10_method_8_code 0 = .ok (.aload_n 0, 1) := by decide +kernel
theorem d_prog_10_method_8_code_1 : decode prog_10_method_8_code 1 = .ok (.getfield 22, 3) := by decide +kernel
theorem d_prog_10_method_8_code_4 : decode prog_10_method_8_code 4 = .ok (.areturn, 1) := by decide +kernel
theorem pn_2 : plainName "com/example/claimsmith/claimsmith/engine/GroupMapping$OnTheFly" = true := by first | (simp [plainName, overriddenIn]; done) | decide +kernel
theorem ef_rm1 (m : MethodId) (a1 : Addr) : entryFrame m #[(.ref a1)] 1 = mkF m 0 #[.val (.ref a1)] [] := by first | (simp [entryFrame, mkF, argsToLocals, Value.category]; done) | rfl
def Q_rm1 (Z : State) (a1 : Addr) (w1 : Addr) (h0 : Heap) (n0 : Nat) (vv_ : Option Value) (h : Heap) (LL_ : List Loc) : Prop := vv_ = some (.ref w1) ∧ Fr n0 LL_ ∧ (h = h0)
set_option maxRecDepth 65536 in
set_option maxHeartbeats 40000000 in
theorem rm1 (l : Launch) (Z : State) (a0 : Array Value) (hw : ∀ d ∈ tables_1, d.before a0 Z = true) (ws : List Jvm.Cond) (a1 : Addr) (w1 : Addr) (h0 : Heap) (n0 : Nat) (Z0 : n0 ≤ h0.size) (F1 : Fld Z h0 a1 "com/example/claimsmith/claimsmith/engine/GroupMapping$OnTheFly" "excludeGroups" "Ljava/util/Set;" (.ref w1)) :
    MetFree l (⟨"com/example/claimsmith/claimsmith/engine/GroupMapping$OnTheFly", "excludeGroups", "()Ljava/util/Set;"⟩ : MethodName) (head1 (Jvm.Cond.code (⟨"com/example/claimsmith/claimsmith/engine/GroupMapping$OnTheFly", "excludeGroups", "()Ljava/util/Set;"⟩ : MethodName) prog_10_method_8_code 1 (some (.object "java/util/Set")) :: ws) ({ frames := 0, cells := 0, slots := 0, locals := 0 } : Room)) (fun aa_ UU_ => aa_ = #[(.ref a1)] ∧ Z.Warmed39 UU_.vm ∧ UU_.heap = h0) (fun _ _ _ _ _ => True) (fun _ UU_ oo_ VV_ => ∃ vv_ LL_, oo_ = .returned vv_ ∧ Q_rm1 Z a1 w1 h0 n0 vv_ VV_.heap LL_ ∧ FrameEnd UU_ oo_ VV_ LL_ ({ frames := 0, cells := 0, slots := 0, locals := 0 } : Room).cells ({ frames := 0, cells := 0, slots := 0, locals := 0 } : Room).slots) := by
  refine own_met (y := (⟨"com/example/claimsmith/claimsmith/engine/GroupMapping$OnTheFly", "excludeGroups", "()Ljava/util/Set;"⟩ : MethodName)) (plainFor_of_name pn_2) ?_
  intro p e s m below meth c T0 K hx hby hml hret hlk hown hnm hZ X0 e0 hK
  have N0 := Fr.nil n0
  refine Rch.cast (ef_rm1 m a1) ?_
  refine Rch.of (T' := T0) (g' := (mkF m 1 #[.val (.ref a1)] [(.ref a1)])) (fun _ kt => XS.aloadN X0.here hx rfl (hb hby d_prog_10_method_8_code_0) rfl rfl kt) ?_
  obtain ⟨T4, X4, e4, st4⟩ := getF X0 hx hZ hown (host := "") (Or.inl (hw _ (List.mem_of_getElem? (i := 10) rfl))) Via.refl e0 F1 (g := (mkF m 1 #[.val (.ref a1)] [(.ref a1)])) rfl rfl (hb hby d_prog_10_method_8_code_1)
  refine Rch.of (T' := T4) (g' := (mkF m 4 #[.val (.ref a1)] [(.ref w1)])) st4 ?_
  exact Rch.retA X4 hx (w := (.ref w1)) hret rfl rfl hlk (hb hby d_prog_10_method_8_code_4) (fun U hU hF => hK _ U _ _ _ (by show Q_rm1 Z a1 w1 h0 n0 _ U.heap _; rw [hU, e4]; exact ⟨rfl, N0, rfl⟩) hF (by decide) (by decide))
theorem d_prog_10_method_1_code_0 : decode prog_10_method_1_code 0 = .ok (.aload_n 0, 1) := by decide +kernel
theorem d_prog_10_method_1_code_1 : decode prog_10_method_1_code 1 = .ok (.invokespecial 1, 3) := by decide +kernel
theorem d_prog_10_method_1_code_4 : decode prog_10_method_1_code 4 = .ok (.aload_n 3, 1) := by decide +kernel
theorem d_prog_10_method_1_code_5 : decode prog_10_method_1_code 5 = .ok (.invokestatic 7, 3) := by decide +kernel
theorem d_prog_10_method_1_code_8 : decode prog_10_method_1_code 8 = .ok (.astore_n 3, 1) := by decide +kernel
theorem d_prog_10_method_1_code_9 : decode prog_10_method_1_code 9 = .ok (.aload_n 0, 1) := by decide +kernel
theorem d_prog_10_method_1_code_10 : decode prog_10_method_1_code 10 = .ok (.iload_n 1, 1) := by decide +kernel
theorem d_prog_10_method_1_code_11 : decode prog_10_method_1_code 11 = .ok (.putfield 13, 3) := by decide +kernel
theorem d_prog_10_method_1_code_14 : decode prog_10_method_1_code 14 = .ok (.aload_n 0, 1) := by decide +kernel
theorem d_prog_10_method_1_code_15 : decode prog_10_method_1_code 15 = .ok (.iload_n 2, 1) := by decide +kernel
theorem d_prog_10_method_1_code_16 : decode prog_10_method_1_code 16 = .ok (.putfield 19, 3) := by decide +kernel
theorem d_prog_10_method_1_code_19 : decode prog_10_method_1_code 19 = .ok (.aload_n 0, 1) := by decide +kernel
theorem d_prog_10_method_1_code_20 : decode prog_10_method_1_code 20 = .ok (.aload_n 3, 1) := by decide +kernel
theorem d_prog_10_method_1_code_21 : decode prog_10_method_1_code 21 = .ok (.putfield 22, 3) := by decide +kernel
theorem d_prog_10_method_1_code_24 : decode prog_10_method_1_code 24 = .ok (.aload_n 0, 1) := by decide +kernel
theorem d_prog_10_method_1_code_25 : decode prog_10_method_1_code 25 = .ok (.iload 4, 2) := by decide +kernel
theorem d_prog_10_method_1_code_27 : decode prog_10_method_1_code 27 = .ok (.putfield 26, 3) := by decide +kernel
theorem d_prog_10_method_1_code_30 : decode prog_10_method_1_code 30 = .ok (.return_, 1) := by decide +kernel
theorem ef_rm2 (m : MethodId) (a1 : Addr) (p2 : Int32) (p3 : Int32) (a4 : Addr) (p5 : Int32) : entryFrame m #[(.ref a1), (.int p2), (.int p3), (.ref a4), (.int p5)] 5 = mkF m 0 #[.val (.ref a1), .val (.int p2), .val (.int p3), .val (.ref a4), .val (.int p5)] [] := by first | (simp [entryFrame, mkF, argsToLocals, Value.category]; done) | rfl
def Q_rm2 (Z : State) (a1 : Addr) (p2 : Int32) (p3 : Int32) (a4 : Addr) (p5 : Int32) (u1 : Value) (u2 : Value) (u3 : Value) (u4 : Value) (h0 : Heap) (n0 : Nat) (vv_ : Option Value) (h : Heap) (LL_ : List Loc) : Prop := vv_ = none ∧ Fr n0 LL_ ∧ (Keep h0 h [a1] ∧ Exa Z h a1 "com/example/claimsmith/claimsmith/engine/GroupMapping$OnTheFly" ∧ Fld Z h a1 "com/example/claimsmith/claimsmith/engine/GroupMapping$OnTheFly" "createGroups" "Z" (.int p2) ∧ Fld Z h a1 "com/example/claimsmith/claimsmith/engine/GroupMapping$OnTheFly" "restrictToKnownGroups" "Z" (.int p5))
set_option maxRecDepth 65536 in
set_option maxHeartbeats 40000000 in
theorem rm2 (l : Launch) (Z : State) (a0 : Array Value) (hw : ∀ d ∈ tables_1, d.before a0 Z = true) (ws : List Jvm.Cond) (a1 : Addr) (p2 : Int32) (p3 : Int32) (a4 : Addr) (p5 : Int32) (u1 : Value) (u2 : Value) (u3 : Value) (u4 : Value) (h0 : Heap) (n0 : Nat) (Z0 : n0 ≤ h0.size) (E1 : Exa Z h0 a1 "com/example/claimsmith/claimsmith/engine/GroupMapping$OnTheFly") (E2 : Exa Z h0 a4 "java/util/ImmutableCollections$SetN") (F1 : Fld Z h0 a1 "com/example/claimsmith/claimsmith/engine/GroupMapping$OnTheFly" "createGroups" "Z" u1) (F2 : Fld Z h0 a1 "com/example/claimsmith/claimsmith/engine/GroupMapping$OnTheFly" "keepExistingGroups" "Z" u2) (F3 : Fld Z h0 a1 "com/example/claimsmith/claimsmith/engine/GroupMapping$OnTheFly" "excludeGroups" "Ljava/util/Set;" u3) (F4 : Fld Z h0 a1 "com/example/claimsmith/claimsmith/engine/GroupMapping$OnTheFly" "restrictToKnownGroups" "Z" u4) (g1 : n0 ≤ a1) (hp2 : p2 = 0 ∨ p2 = 1) (hp3 : p3 = 0 ∨ p3 = 1) (hp5 : p5 = 0 ∨ p5 = 1) :
    MetFree l (⟨"com/example/claimsmith/claimsmith/engine/GroupMapping$OnTheFly", "<init>", "(ZZLjava/util/Set;Z)V"⟩ : MethodName) (head1 (Jvm.Cond.code (⟨"com/example/claimsmith/claimsmith/engine/GroupMapping$OnTheFly", "<init>", "(ZZLjava/util/Set;Z)V"⟩ : MethodName) prog_10_method_1_code 5 none :: ws) ({ frames := 2, cells := 0, slots := 0, locals := 24 } : Room)) (fun aa_ UU_ => aa_ = #[(.ref a1), (.int p2), (.int p3), (.ref a4), (.int p5)] ∧ Z.Warmed39 UU_.vm ∧ UU_.heap = h0) (fun _ _ _ _ _ => True) (fun _ UU_ oo_ VV_ => ∃ vv_ LL_, oo_ = .returned vv_ ∧ Q_rm2 Z a1 p2 p3 a4 p5 u1 u2 u3 u4 h0 n0 vv_ VV_.heap LL_ ∧ FrameEnd UU_ oo_ VV_ LL_ ({ frames := 2, cells := 0, slots := 0, locals := 24 } : Room).cells ({ frames := 2, cells := 0, slots := 0, locals := 24 } : Room).slots) := by
  refine own_met (y := (⟨"com/example/claimsmith/claimsmith/engine/GroupMapping$OnTheFly", "<init>", "(ZZLjava/util/Set;Z)V"⟩ : MethodName)) (plainFor_of_name pn_2) ?_
  intro p e s m below meth c T0 K hx hby hml hret hlk hown hnm hZ X0 e0 hK
  have N0 := Fr.nil n0
  refine Rch.cast (ef_rm2 m a1 p2 p3 a4 p5) ?_
  refine Rch.of (T' := T0) (g' := (mkF m 1 #[.val (.ref a1), .val (.int p2), .val (.int p3), .val (.ref a4), .val (.int p5)] [(.ref a1)])) (fun _ kt => XS.aloadN X0.here hx rfl (hb hby d_prog_10_method_1_code_0) rfl rfl kt) ?_
  obtain ⟨_, _, ⟨T5, L5, k5, n5⟩, -, X5, ⟨Lc5, hQ5, l5, y5, z5⟩, st5⟩ := X0.specialBack hx (y := (⟨"java/lang/Record", "<init>", "()V"⟩ : MethodName)) rfl hown (mvT hZ (hw _ (List.mem_of_getElem? (i := 15) rfl))) (mvT hZ (hw _ (List.mem_of_getElem? (i := 16) rfl))) (mvT hZ (hw _ (List.mem_of_getElem? (i := 19) rfl))) (by decide) (backOf (W := 0) (rm3 l Z a0 hw [] a1 h0 n0 Z0 ) hZ (hw _ (List.mem_of_getElem? (i := 19) rfl)) (hw _ (List.mem_of_getElem? (i := 18) rfl)) (by decide) (by decide)) (g := (mkF m 1 #[.val (.ref a1), .val (.int p2), .val (.int p3), .val (.ref a4), .val (.int p5)] [(.ref a1)])) rfl (by rw [hml]; rfl) (Steps.refl _) (a := a1) (argsL := []) (rest := []) (lenOf pd_2 rfl) rfl (by show 2 * 0 + _ ≤ _; exact Nat.le_of_eq rfl) (hb hby d_prog_10_method_1_code_1) (fun _ _ => ⟨rfl, e0, (by decide : 0 + 0 ≤ _), (by decide : 0 + 0 ≤ _)⟩)
  dsimp only [Pt.U, Pt.locs, Pt.cells, Pt.slots] at X5 l5 y5 z5 st5 hQ5
  subst l5 y5 z5
  obtain ⟨rfl, N5q, hQ5⟩ := hQ5
  have N5 := Fr.app N0 N5q
  refine Rch.via (T' := T5) (g' := (mkF m 4 #[.val (.ref a1), .val (.int p2), .val (.int p3), .val (.ref a4), .val (.int p5)] [])) st5 ?_
  refine Rch.of (T' := T5) (g' := (mkF m 5 #[.val (.ref a1), .val (.int p2), .val (.int p3), .val (.ref a4), .val (.int p5)] [(.ref a4)])) (fun _ kt => XS.aloadN X5.here hx rfl (hb hby d_prog_10_method_1_code_4) rfl rfl kt) ?_
  obtain ⟨_, _, ⟨T6, L6, k6, n6⟩, -, X6, ⟨Lc6, hQ6, l6, y6, z6⟩, st6⟩ := Jvm.LawKit.callS X5 hx (y := (⟨"java/util/Set", "copyOf", "(Ljava/util/Collection;)Ljava/util/Set;"⟩ : MethodName)) hown (mvT hZ (hw _ (List.mem_of_getElem? (i := 23) rfl))) (mvT hZ (hw _ (List.mem_of_getElem? (i := 24) rfl))) (mvT hZ (hw _ (List.mem_of_getElem? (i := 25) rfl))) (mvT hZ (hw _ (List.mem_of_getElem? (i := 26) rfl))) (by decide) (backOf (W := 0) (rm5 l Z a0 hw [] a4 h0 n0 Z0 E2) hZ (hw _ (List.mem_of_getElem? (i := 26) rfl)) (hw _ (List.mem_of_getElem? (i := 25) rfl)) (by decide) (by decide)) (g := (mkF m 5 #[.val (.ref a1), .val (.int p2), .val (.int p3), .val (.ref a4), .val (.int p5)] [(.ref a4)])) rfl (by rw [hml]; rfl) (argsL := [(.ref a4)]) (rest := []) (lenOf pd_3 rfl) rfl (by show 2 * 0 + _ ≤ _; exact Nat.le_of_eq rfl) (hb hby d_prog_10_method_1_code_5) (fun _ _ => ⟨rfl, hQ5, (by decide : 0 + 0 ≤ _), (by decide : 0 + 0 ≤ _)⟩)
  dsimp only [Pt.U, Pt.locs, Pt.cells, Pt.slots] at X6 l6 y6 z6 st6 hQ6
  subst l6 y6 z6
  obtain ⟨rfl, N6q, hQ6⟩ := hQ6
  have N6 := Fr.app N5 N6q
  refine Rch.of (T' := T6) (g' := (mkF m 8 #[.val (.ref a1), .val (.int p2), .val (.int p3), .val (.ref a4), .val (.int p5)] [(.ref a4)])) st6 ?_
  refine Rch.of (T' := T6) (g' := (mkF m 9 #[.val (.ref a1), .val (.int p2), .val (.int p3), .val (.ref a4), .val (.int p5)] [])) (fun _ kt => XS.astoreN X6.here hx rfl (hb hby d_prog_10_method_1_code_8) rfl rfl (l' := #[.val (.ref a1), .val (.int p2), .val (.int p3), .val (.ref a4), .val (.int p5)]) rfl kt) ?_
  refine Rch.of (T' := T6) (g' := (mkF m 10 #[.val (.ref a1), .val (.int p2), .val (.int p3), .val (.ref a4), .val (.int p5)] [(.ref a1)])) (fun _ kt => XS.aloadN X6.here hx rfl (hb hby d_prog_10_method_1_code_9) rfl rfl kt) ?_
  refine Rch.of (T' := T6) (g' := (mkF m 11 #[.val (.ref a1), .val (.int p2), .val (.int p3), .val (.ref a4), .val (.int p5)] [(.int p2), (.ref a1)])) (fun _ kt => XS.iloadN X6.here hx rfl (hb hby d_prog_10_method_1_code_10) rfl  kt) ?_
  obtain ⟨T7, h7, X7, e7, W7, st7⟩ := putFN X6 hx hZ hown (hw _ (List.mem_of_getElem? (i := 31) rfl)) Via.refl hQ6 F1 E1 (Or.inr ⟨(hw _ (List.mem_of_getElem? (i := 32) rfl)), rfl, hnm⟩) (hw _ (List.mem_of_getElem? (i := 1) rfl)) (ty := .boolean) (v' := (.int p2)) (by decide) (own_narrowZ hp2) (own_fitZ hp2) (g := (mkF m 11 #[.val (.ref a1), .val (.int p2), .val (.int p3), .val (.ref a4), .val (.int p5)] [(.int p2), (.ref a1)])) rfl rfl (hb hby d_prog_10_method_1_code_11)
  have N7 := Fr.snoc X7 N6 g1
  have Fw7 := Fld.same W7 F1
  have Fb8 := (F2.other W7 (Or.inr (slot_ne (Or.inr (hw _ (List.mem_of_getElem? (i := 34) rfl))) (Or.inr (hw _ (List.mem_of_getElem? (i := 32) rfl))) (by decide) (t := .boolean) (t' := .boolean) (by decide) (by decide))))
  have Fb9 := (F3.other W7 (Or.inr (slot_ne (Or.inr (hw _ (List.mem_of_getElem? (i := 11) rfl))) (Or.inr (hw _ (List.mem_of_getElem? (i := 32) rfl))) (by decide) (t := (.object "java/util/Set")) (t' := .boolean) (by decide) (by decide))))
  have Fb10 := (F4.other W7 (Or.inr (slot_ne (Or.inr (hw _ (List.mem_of_getElem? (i := 36) rfl))) (Or.inr (hw _ (List.mem_of_getElem? (i := 32) rfl))) (by decide) (t := .boolean) (t' := .boolean) (by decide) (by decide))))
  refine Rch.of (T' := T7) (g' := (mkF m 14 #[.val (.ref a1), .val (.int p2), .val (.int p3), .val (.ref a4), .val (.int p5)] [])) st7 ?_
  refine Rch.of (T' := T7) (g' := (mkF m 15 #[.val (.ref a1), .val (.int p2), .val (.int p3), .val (.ref a4), .val (.int p5)] [(.ref a1)])) (fun _ kt => XS.aloadN X7.here hx rfl (hb hby d_prog_10_method_1_code_14) rfl rfl kt) ?_
  refine Rch.of (T' := T7) (g' := (mkF m 16 #[.val (.ref a1), .val (.int p2), .val (.int p3), .val (.ref a4), .val (.int p5)] [(.int p3), (.ref a1)])) (fun _ kt => XS.iloadN X7.here hx rfl (hb hby d_prog_10_method_1_code_15) rfl  kt) ?_
  obtain ⟨T11, h11, X11, e11, W11, st11⟩ := putFN X7 hx hZ hown (hw _ (List.mem_of_getElem? (i := 33) rfl)) Via.refl e7 Fb8 (E1.wr W7) (Or.inr ⟨(hw _ (List.mem_of_getElem? (i := 34) rfl)), rfl, hnm⟩) (hw _ (List.mem_of_getElem? (i := 1) rfl)) (ty := .boolean) (v' := (.int p3)) (by decide) (own_narrowZ hp3) (own_fitZ hp3) (g := (mkF m 16 #[.val (.ref a1), .val (.int p2), .val (.int p3), .val (.ref a4), .val (.int p5)] [(.int p3), (.ref a1)])) rfl rfl (hb hby d_prog_10_method_1_code_16)
  have N11 := Fr.snoc X11 N7 g1
  have Fw11 := Fld.same W11 Fb8
  have Fb12 := (Fw7.other W11 (Or.inr (slot_ne (Or.inr (hw _ (List.mem_of_getElem? (i := 32) rfl))) (Or.inr (hw _ (List.mem_of_getElem? (i := 34) rfl))) (by decide) (t := .boolean) (t' := .boolean) (by decide) (by decide))))
  have Fb13 := (Fb9.other W11 (Or.inr (slot_ne (Or.inr (hw _ (List.mem_of_getElem? (i := 11) rfl))) (Or.inr (hw _ (List.mem_of_getElem? (i := 34) rfl))) (by decide) (t := (.object "java/util/Set")) (t' := .boolean) (by decide) (by decide))))
  have Fb14 := (Fb10.other W11 (Or.inr (slot_ne (Or.inr (hw _ (List.mem_of_getElem? (i := 36) rfl))) (Or.inr (hw _ (List.mem_of_getElem? (i := 34) rfl))) (by decide) (t := .boolean) (t' := .boolean) (by decide) (by decide))))
  refine Rch.of (T' := T11) (g' := (mkF m 19 #[.val (.ref a1), .val (.int p2), .val (.int p3), .val (.ref a4), .val (.int p5)] [])) st11 ?_
  refine Rch.of (T' := T11) (g' := (mkF m 20 #[.val (.ref a1), .val (.int p2), .val (.int p3), .val (.ref a4), .val (.int p5)] [(.ref a1)])) (fun _ kt => XS.aloadN X11.here hx rfl (hb hby d_prog_10_method_1_code_19) rfl rfl kt) ?_
  refine Rch.of (T' := T11) (g' := (mkF m 21 #[.val (.ref a1), .val (.int p2), .val (.int p3), .val (.ref a4), .val (.int p5)] [(.ref a4), (.ref a1)])) (fun _ kt => XS.aloadN X11.here hx rfl (hb hby d_prog_10_method_1_code_20) rfl rfl kt) ?_
  obtain ⟨T15, h15, X15, e15, W15, st15⟩ := putF X11 hx hZ hown (host := "") (Or.inl (hw _ (List.mem_of_getElem? (i := 10) rfl))) Via.refl e11 Fb13 ((E1.wr W7).wr W11) (Or.inr ⟨(hw _ (List.mem_of_getElem? (i := 11) rfl)), rfl, hnm⟩) (hw _ (List.mem_of_getElem? (i := 1) rfl)) (ty := (.object "java/util/Set")) (by decide) rfl rfl (g := (mkF m 21 #[.val (.ref a1), .val (.int p2), .val (.int p3), .val (.ref a4), .val (.int p5)] [(.ref a4), (.ref a1)])) rfl rfl (hb hby d_prog_10_method_1_code_21)
  have N15 := Fr.snoc X15 N11 g1
  have Fw15 := Fld.same W15 Fb13
  have Fb16 := (Fb12.other W15 (Or.inr (slot_ne (Or.inr (hw _ (List.mem_of_getElem? (i := 32) rfl))) (Or.inr (hw _ (List.mem_of_getElem? (i := 11) rfl))) (by decide) (t := .boolean) (t' := (.object "java/util/Set")) (by decide) (by decide))))
  have Fb17 := (Fw11.other W15 (Or.inr (slot_ne (Or.inr (hw _ (List.mem_of_getElem? (i := 34) rfl))) (Or.inr (hw _ (List.mem_of_getElem? (i := 11) rfl))) (by decide) (t := .boolean) (t' := (.object "java/util/Set")) (by decide) (by decide))))
  have Fb18 := (Fb14.other W15 (Or.inr (slot_ne (Or.inr (hw _ (List.mem_of_getElem? (i := 36) rfl))) (Or.inr (hw _ (List.mem_of_getElem? (i := 11) rfl))) (by decide) (t := .boolean) (t' := (.object "java/util/Set")) (by decide) (by decide))))
  have Fb19 := ((((Keep.refl h0 [a1]).wr W7 (Or.inl (List.mem_of_getElem? (i := 0) rfl))).wr W11 (Or.inl (List.mem_of_getElem? (i := 0) rfl))).wr W15 (Or.inl (List.mem_of_getElem? (i := 0) rfl)))
  refine Rch.of (T' := T15) (g' := (mkF m 24 #[.val (.ref a1), .val (.int p2), .val (.int p3), .val (.ref a4), .val (.int p5)] [])) st15 ?_
  refine Rch.of (T' := T15) (g' := (mkF m 25 #[.val (.ref a1), .val (.int p2), .val (.int p3), .val (.ref a4), .val (.int p5)] [(.ref a1)])) (fun _ kt => XS.aloadN X15.here hx rfl (hb hby d_prog_10_method_1_code_24) rfl rfl kt) ?_
  refine Rch.of (T' := T15) (g' := (mkF m 27 #[.val (.ref a1), .val (.int p2), .val (.int p3), .val (.ref a4), .val (.int p5)] [(.int p5), (.ref a1)])) (fun _ kt => XS.iload X15.here hx rfl (hb hby d_prog_10_method_1_code_25) rfl  kt) ?_
  obtain ⟨T20, h20, X20, e20, W20, st20⟩ := putFN X15 hx hZ hown (hw _ (List.mem_of_getElem? (i := 35) rfl)) Via.refl e15 Fb18 (((E1.wr W7).wr W11).wr W15) (Or.inr ⟨(hw _ (List.mem_of_getElem? (i := 36) rfl)), rfl, hnm⟩) (hw _ (List.mem_of_getElem? (i := 1) rfl)) (ty := .boolean) (v' := (.int p5)) (by decide) (own_narrowZ hp5) (own_fitZ hp5) (g := (mkF m 27 #[.val (.ref a1), .val (.int p2), .val (.int p3), .val (.ref a4), .val (.int p5)] [(.int p5), (.ref a1)])) rfl rfl (hb hby d_prog_10_method_1_code_27)
  have N20 := Fr.snoc X20 N15 g1
  have Fw20 := Fld.same W20 Fb18
  have Fb21 := (Fb16.other W20 (Or.inr (slot_ne (Or.inr (hw _ (List.mem_of_getElem? (i := 32) rfl))) (Or.inr (hw _ (List.mem_of_getElem? (i := 36) rfl))) (by decide) (t := .boolean) (t' := .boolean) (by decide) (by decide))))
  have Fb22 := (Fb17.other W20 (Or.inr (slot_ne (Or.inr (hw _ (List.mem_of_getElem? (i := 34) rfl))) (Or.inr (hw _ (List.mem_of_getElem? (i := 36) rfl))) (by decide) (t := .boolean) (t' := .boolean) (by decide) (by decide))))
  have Fb23 := (Fw15.other W20 (Or.inr (slot_ne (Or.inr (hw _ (List.mem_of_getElem? (i := 11) rfl))) (Or.inr (hw _ (List.mem_of_getElem? (i := 36) rfl))) (by decide) (t := (.object "java/util/Set")) (t' := .boolean) (by decide) (by decide))))
  refine Rch.of (T' := T20) (g' := (mkF m 30 #[.val (.ref a1), .val (.int p2), .val (.int p3), .val (.ref a4), .val (.int p5)] [])) st20 ?_
  exact Rch.retV X20 hx hret hlk (hb hby d_prog_10_method_1_code_30) (fun U hU hF => hK _ U _ _ _ (by show Q_rm2 Z a1 p2 p3 a4 p5 u1 u2 u3 u4 h0 n0 _ U.heap _; rw [hU, e20]; exact ⟨rfl, N20, (Fb19.wr W20 (Or.inl (List.mem_of_getElem? (i := 0) rfl))), ((((E1.wr W7).wr W11).wr W15).wr W20), Fb21, Fw20⟩) hF (by decide) (by decide))
def own_c (w1 w4 : Int32) : Int32 := if w1 = 0 then 0 else if w4 = 0 then 1 else 0
theorem d_prog_10_method_2_code_0 : decode prog_10_method_2_code 0 = .ok (.aload_n 0, 1) := by decide +kernel
theorem d_prog_10_method_2_code_1 : decode prog_10_method_2_code 1 = .ok (.getfield 13, 3) := by decide +kernel
theorem d_prog_10_method_2_code_4 : decode prog_10_method_2_code 4 = .ok (.ifCond .eq 14, 3) := by decide +kernel
theorem d_prog_10_method_2_code_7 : decode prog_10_method_2_code 7 = .ok (.aload_n 0, 1) := by decide +kernel
theorem d_prog_10_method_2_code_8 : decode prog_10_method_2_code 8 = .ok (.getfield 26, 3) := by decide +kernel
theorem d_prog_10_method_2_code_11 : decode prog_10_method_2_code 11 = .ok (.ifCond .ne 7, 3) := by decide +kernel
theorem d_prog_10_method_2_code_14 : decode prog_10_method_2_code 14 = .ok (.iconst 1, 1) := by decide +kernel
theorem d_prog_10_method_2_code_15 : decode prog_10_method_2_code 15 = .ok (.goto 4, 3) := by decide +kernel
theorem d_prog_10_method_2_code_18 : decode prog_10_method_2_code 18 = .ok (.iconst 0, 1) := by decide +kernel
theorem d_prog_10_method_2_code_19 : decode prog_10_method_2_code 19 = .ok (.ireturn, 1) := by decide +kernel
theorem ef_rm6 (m : MethodId) (a1 : Addr) : entryFrame m #[(.ref a1)] 1 = mkF m 0 #[.val (.ref a1)] [] := by first | (simp [entryFrame, mkF, argsToLocals, Value.category]; done) | rfl
def Q_rm6 (Z : State) (a1 : Addr) (w1 : Int32) (w4 : Int32) (h0 : Heap) (n0 : Nat) (vv_ : Option Value) (h : Heap) (LL_ : List Loc) : Prop := vv_ = some (.int (own_c w1 w4)) ∧ Fr n0 LL_ ∧ (h = h0)
set_option maxRecDepth 65536 in
set_option maxHeartbeats 40000000 in
theorem rm6 (l : Launch) (Z : State) (a0 : Array Value) (hw : ∀ d ∈ tables_1, d.before a0 Z = true) (ws : List Jvm.Cond) (a1 : Addr) (w1 : Int32) (w4 : Int32) (h0 : Heap) (n0 : Nat) (Z0 : n0 ≤ h0.size) (F1 : Fld Z h0 a1 "com/example/claimsmith/claimsmith/engine/GroupMapping$OnTheFly" "createGroups" "Z" (.int w1)) (F4 : Fld Z h0 a1 "com/example/claimsmith/claimsmith/engine/GroupMapping$OnTheFly" "restrictToKnownGroups" "Z" (.int w4)) :
    MetFree l (⟨"com/example/claimsmith/claimsmith/engine/GroupMapping$OnTheFly", "creates", "()Z"⟩ : MethodName) (head1 (Jvm.Cond.code (⟨"com/example/claimsmith/claimsmith/engine/GroupMapping$OnTheFly", "creates", "()Z"⟩ : MethodName) prog_10_method_2_code 1 (some .boolean) :: ws) ({ frames := 0, cells := 0, slots := 0, locals := 0 } : Room)) (fun aa_ UU_ => aa_ = #[(.ref a1)] ∧ Z.Warmed39 UU_.vm ∧ UU_.heap = h0) (fun _ _ _ _ _ => True) (fun _ UU_ oo_ VV_ => ∃ vv_ LL_, oo_ = .returned vv_ ∧ Q_rm6 Z a1 w1 w4 h0 n0 vv_ VV_.heap LL_ ∧ FrameEnd UU_ oo_ VV_ LL_ ({ frames := 0, cells := 0, slots := 0, locals := 0 } : Room).cells ({ frames := 0, cells := 0, slots := 0, locals := 0 } : Room).slots) := by
  refine own_met (y := (⟨"com/example/claimsmith/claimsmith/engine/GroupMapping$OnTheFly", "creates", "()Z"⟩ : MethodName)) (plainFor_of_name pn_2) ?_
  intro p e s m below meth c T0 K hx hby hml hret hlk hown hnm hZ X0 e0 hK
  have N0 := Fr.nil n0
  refine Rch.cast (ef_rm6 m a1) ?_
  refine Rch.of (T' := T0) (g' := (mkF m 1 #[.val (.ref a1)] [(.ref a1)])) (fun _ kt => XS.aloadN X0.here hx rfl (hb hby d_prog_10_method_2_code_0) rfl rfl kt) ?_
  obtain ⟨T24, X24, e24, st24⟩ := getF X0 hx hZ hown (host := "") (Or.inl (hw _ (List.mem_of_getElem? (i := 31) rfl))) Via.refl e0 F1 (g := (mkF m 1 #[.val (.ref a1)] [(.ref a1)])) rfl rfl (hb hby d_prog_10_method_2_code_1)
  refine Rch.of (T' := T24) (g' := (mkF m 4 #[.val (.ref a1)] [(.int w1)])) st24 ?_
  by_cases c25 : w1 = (0 : Int32)
  · skip
    refine Rch.of (T' := T24) (g' := (mkF m 18 #[.val (.ref a1)] [])) (fun _ kt => XS.ifYes X24.here hx rfl (pc0 := 4) (pc' := 18) rfl (hb hby d_prog_10_method_2_code_4) rfl ((if0 _ _).trans (teq c25).1) (by decide) (by decide) kt) ?_
    refine Rch.of (T' := T24) (g' := (mkF m 19 #[.val (.ref a1)] [(.int (0 : Int32))])) (fun _ kt => XS.iconst X24.here hx rfl (hb hby d_prog_10_method_2_code_18) kt) ?_
    exact Rch.retN X24 hx (t := .boolean) hret (by simp) hlk (hb hby d_prog_10_method_2_code_19) (fun U hU hF => hK _ U _ _ _ (by show Q_rm6 Z a1 w1 w4 h0 n0 _ U.heap _; rw [hU, e24]; exact ⟨by simp [own_c, nar, c25]; try decide, N0, rfl⟩) hF (by decide) (by decide))
  · skip
    refine Rch.of (T' := T24) (g' := (mkF m 7 #[.val (.ref a1)] [])) (fun _ kt => XS.ifNo X24.here hx rfl (hb hby d_prog_10_method_2_code_4) rfl ((if0 _ _).trans (feq c25).1) kt) ?_
    refine Rch.of (T' := T24) (g' := (mkF m 8 #[.val (.ref a1)] [(.ref a1)])) (fun _ kt => XS.aloadN X24.here hx rfl (hb hby d_prog_10_method_2_code_7) rfl rfl kt) ?_
    obtain ⟨T26, X26, e26, st26⟩ := getF X24 hx hZ hown (host := "") (Or.inl (hw _ (List.mem_of_getElem? (i := 35) rfl))) Via.refl e24 F4 (g := (mkF m 8 #[.val (.ref a1)] [(.ref a1)])) rfl rfl (hb hby d_prog_10_method_2_code_8)
    refine Rch.of (T' := T26) (g' := (mkF m 11 #[.val (.ref a1)] [(.int w4)])) st26 ?_
    by_cases c27 : w4 = (0 : Int32)
    · skip
      refine Rch.of (T' := T26) (g' := (mkF m 14 #[.val (.ref a1)] [])) (fun _ kt => XS.ifNo X26.here hx rfl (hb hby d_prog_10_method_2_code_11) rfl ((if0 _ _).trans (teq c27).2) kt) ?_
      refine Rch.of (T' := T26) (g' := (mkF m 15 #[.val (.ref a1)] [(.int (1 : Int32))])) (fun _ kt => XS.iconst X26.here hx rfl (hb hby d_prog_10_method_2_code_14) kt) ?_
      refine Rch.of (T' := T26) (g' := (mkF m 19 #[.val (.ref a1)] [(.int (1 : Int32))])) (fun _ kt => XS.goto X26.here hx rfl (pc0 := 15) (pc' := 19) rfl (hb hby d_prog_10_method_2_code_15) (by decide) (by decide) kt) ?_
      exact Rch.retN X26 hx (t := .boolean) hret (by simp) hlk (hb hby d_prog_10_method_2_code_19) (fun U hU hF => hK _ U _ _ _ (by show Q_rm6 Z a1 w1 w4 h0 n0 _ U.heap _; rw [hU, e26]; exact ⟨by simp [own_c, nar, c25, c27]; try decide, N0, rfl⟩) hF (by decide) (by decide))
    · skip
      refine Rch.of (T' := T26) (g' := (mkF m 18 #[.val (.ref a1)] [])) (fun _ kt => XS.ifYes X26.here hx rfl (pc0 := 11) (pc' := 18) rfl (hb hby d_prog_10_method_2_code_11) rfl ((if0 _ _).trans (feq c27).2) (by decide) (by decide) kt) ?_
      refine Rch.of (T' := T26) (g' := (mkF m 19 #[.val (.ref a1)] [(.int (0 : Int32))])) (fun _ kt => XS.iconst X26.here hx rfl (hb hby d_prog_10_method_2_code_18) kt) ?_
      exact Rch.retN X26 hx (t := .boolean) hret (by simp) hlk (hb hby d_prog_10_method_2_code_19) (fun U hU hF => hK _ U _ _ _ (by show Q_rm6 Z a1 w1 w4 h0 n0 _ U.heap _; rw [hU, e26]; exact ⟨by simp [own_c, nar, c25, c27]; try decide, N0, rfl⟩) hF (by decide) (by decide))
theorem pn_3 : plainName "com/example/claimsmith/claimsmith/engine/OnTheFlyCreatesPinLaw" = true := by first | (simp [plainName, overriddenIn]; done) | decide +kernel
theorem ef_rm0 (m : MethodId) (p0 : Int32) : entryFrame m #[(.int p0)] maxLocals = mkF m 0 #[.val (.int p0), .unset, .unset, .unset, .unset, .unset] [] := by first | (simp [entryFrame, mkF, argsToLocals, Value.category, maxLocals]; done) | rfl
def Q_rm0 (Z : State) (p0 : Int32) (t : Addr) (u : Addr) (h0 : Heap) (n0 : Nat) (vv_ : Option Value) (h : Heap) (LL_ : List Loc) : Prop := vv_ = some (.int 1) ∧ Fr n0 LL_ ∧ (True)
set_option maxRecDepth 65536 in
set_option maxHeartbeats 40000000 in
theorem rm0 (l : Launch) (Z : State) (a0 : Array Value) (hw : ∀ d ∈ tables_1, d.before a0 Z = true) (ws : List Jvm.Cond) (p0 : Int32) (t : Addr) (u : Addr) (h0 : Heap) (n0 : Nat) (Z0 : n0 ≤ h0.size) (O0 : Old Z n0 h0) (S1 : Sta Z Z.heap "com/example/claimsmith/claimsmith/engine/GroupMapping$OnTheFly" "DEFAULTS" "Lcom/example/claimsmith/claimsmith/engine/GroupMapping$OnTheFly;" (.ref t)) (E2 : Exa Z Z.heap t "com/example/claimsmith/claimsmith/engine/GroupMapping$OnTheFly") (F2 : Fld Z Z.heap t "com/example/claimsmith/claimsmith/engine/GroupMapping$OnTheFly" "excludeGroups" "Ljava/util/Set;" (.ref u)) (E3 : Exa Z Z.heap u "java/util/ImmutableCollections$SetN") :
    MetFree l x (head1 (Jvm.Cond.code x code maxLocals ret :: ws) room_1) (fun aa_ UU_ => aa_ = #[(.int p0)] ∧ Z.Warmed39 UU_.vm ∧ UU_.heap = h0) (fun _ _ _ _ _ => True) (fun _ UU_ oo_ VV_ => ∃ vv_ LL_, oo_ = .returned vv_ ∧ Q_rm0 Z p0 t u h0 n0 vv_ VV_.heap LL_ ∧ FrameEnd UU_ oo_ VV_ LL_ room_1.cells room_1.slots) := by
  refine own_met (y := x) (plainFor_of_name pn_3) ?_
  intro p e s m below meth c T0 K hx hby hml hret hlk hown hnm hZ X0 e0 hK
  have N0 := Fr.nil n0
  refine Rch.cast (ef_rm0 m p0) ?_
  refine Rch.of (T' := T0) (g' := (mkF m 1 #[.val (.int p0), .unset, .unset, .unset, .unset, .unset] [(.int p0)])) (fun _ kt => XS.iloadN X0.here hx rfl (hb hby at_0) rfl  kt) ?_
  refine Rch.of (T' := T0) (g' := (mkF m 2 #[.val (.int p0), .unset, .unset, .unset, .unset, .unset] [(.int (1 : Int32)), (.int p0)])) (fun _ kt => XS.iconst X0.here hx rfl (hb hby at_1) kt) ?_
  refine Rch.of (T' := T0) (g' := (mkF m 3 #[.val (.int p0), .unset, .unset, .unset, .unset, .unset] [(.int (p0 &&& (1 : Int32)))])) (fun _ kt => XS.iand X0.here hx rfl (hb hby at_2) rfl kt) ?_
  by_cases c28 : (p0 &&& (1 : Int32)) = (0 : Int32)
  · skip
    refine Rch.of (T' := T0) (g' := (mkF m 10 #[.val (.int p0), .unset, .unset, .unset, .unset, .unset] [])) (fun _ kt => XS.ifYes X0.here hx rfl (pc0 := 3) (pc' := 10) rfl (hb hby at_3) rfl ((if0 _ _).trans (teq c28).1) (by decide) (by decide) kt) ?_
    refine Rch.of (T' := T0) (g' := (mkF m 11 #[.val (.int p0), .unset, .unset, .unset, .unset, .unset] [(.int (0 : Int32))])) (fun _ kt => XS.iconst X0.here hx rfl (hb hby at_10) kt) ?_
    refine Rch.of (T' := T0) (g' := (mkF m 12 #[.val (.int p0), .val (.int (0 : Int32)), .unset, .unset, .unset, .unset] [])) (fun _ kt => XS.istoreN X0.here hx rfl (hb hby at_11) rfl (l' := #[.val (.int p0), .val (.int (0 : Int32)), .unset, .unset, .unset, .unset]) rfl kt) ?_
    refine Rch.of (T' := T0) (g' := (mkF m 13 #[.val (.int p0), .val (.int (0 : Int32)), .unset, .unset, .unset, .unset] [(.int p0)])) (fun _ kt => XS.iloadN X0.here hx rfl (hb hby at_12) rfl  kt) ?_
    refine Rch.of (T' := T0) (g' := (mkF m 14 #[.val (.int p0), .val (.int (0 : Int32)), .unset, .unset, .unset, .unset] [(.int (2 : Int32)), (.int p0)])) (fun _ kt => XS.iconst X0.here hx rfl (hb hby at_13) kt) ?_
    refine Rch.of (T' := T0) (g' := (mkF m 15 #[.val (.int p0), .val (.int (0 : Int32)), .unset, .unset, .unset, .unset] [(.int (p0 &&& (2 : Int32)))])) (fun _ kt => XS.iand X0.here hx rfl (hb hby at_14) rfl kt) ?_
    by_cases c29 : (p0 &&& (2 : Int32)) = (0 : Int32)
    · skip
      refine Rch.of (T' := T0) (g' := (mkF m 22 #[.val (.int p0), .val (.int (0 : Int32)), .unset, .unset, .unset, .unset] [])) (fun _ kt => XS.ifYes X0.here hx rfl (pc0 := 15) (pc' := 22) rfl (hb hby at_15) rfl ((if0 _ _).trans (teq c29).1) (by decide) (by decide) kt) ?_
      refine Rch.of (T' := T0) (g' := (mkF m 23 #[.val (.int p0), .val (.int (0 : Int32)), .unset, .unset, .unset, .unset] [(.int (0 : Int32))])) (fun _ kt => XS.iconst X0.here hx rfl (hb hby at_22) kt) ?_
      refine Rch.of (T' := T0) (g' := (mkF m 24 #[.val (.int p0), .val (.int (0 : Int32)), .val (.int (0 : Int32)), .unset, .unset, .unset] [])) (fun _ kt => XS.istoreN X0.here hx rfl (hb hby at_23) rfl (l' := #[.val (.int p0), .val (.int (0 : Int32)), .val (.int (0 : Int32)), .unset, .unset, .unset]) rfl kt) ?_
      refine Rch.of (T' := T0) (g' := (mkF m 25 #[.val (.int p0), .val (.int (0 : Int32)), .val (.int (0 : Int32)), .unset, .unset, .unset] [(.int p0)])) (fun _ kt => XS.iloadN X0.here hx rfl (hb hby at_24) rfl  kt) ?_
      refine Rch.of (T' := T0) (g' := (mkF m 26 #[.val (.int p0), .val (.int (0 : Int32)), .val (.int (0 : Int32)), .unset, .unset, .unset] [(.int (4 : Int32)), (.int p0)])) (fun _ kt => XS.iconst X0.here hx rfl (hb hby at_25) kt) ?_
      refine Rch.of (T' := T0) (g' := (mkF m 27 #[.val (.int p0), .val (.int (0 : Int32)), .val (.int (0 : Int32)), .unset, .unset, .unset] [(.int (p0 &&& (4 : Int32)))])) (fun _ kt => XS.iand X0.here hx rfl (hb hby at_26) rfl kt) ?_
      by_cases c30 : (p0 &&& (4 : Int32)) = (0 : Int32)
      · skip
        refine Rch.of (T' := T0) (g' := (mkF m 34 #[.val (.int p0), .val (.int (0 : Int32)), .val (.int (0 : Int32)), .unset, .unset, .unset] [])) (fun _ kt => XS.ifYes X0.here hx rfl (pc0 := 27) (pc' := 34) rfl (hb hby at_27) rfl ((if0 _ _).trans (teq c30).1) (by decide) (by decide) kt) ?_
        refine Rch.of (T' := T0) (g' := (mkF m 35 #[.val (.int p0), .val (.int (0 : Int32)), .val (.int (0 : Int32)), .unset, .unset, .unset] [(.int (0 : Int32))])) (fun _ kt => XS.iconst X0.here hx rfl (hb hby at_34) kt) ?_
        refine Rch.of (T' := T0) (g' := (mkF m 36 #[.val (.int p0), .val (.int (0 : Int32)), .val (.int (0 : Int32)), .val (.int (0 : Int32)), .unset, .unset] [])) (fun _ kt => XS.istoreN X0.here hx rfl (hb hby at_35) rfl (l' := #[.val (.int p0), .val (.int (0 : Int32)), .val (.int (0 : Int32)), .val (.int (0 : Int32)), .unset, .unset]) rfl kt) ?_
        obtain ⟨T31, h31, X31, e31, E31, A31, D31, -, st31⟩ := newO X0 hx hZ hown (hw _ (List.mem_of_getElem? (i := 0) rfl)) (hw _ (List.mem_of_getElem? (i := 1) rfl)) (hw _ (List.mem_of_getElem? (i := 2) rfl)) e0 (g := (mkF m 36 #[.val (.int p0), .val (.int (0 : Int32)), .val (.int (0 : Int32)), .val (.int (0 : Int32)), .unset, .unset] [])) rfl (hb hby at_36) (by decide) (by decide)
        obtain ⟨b31, g31⟩ : ∃ z, z = h0.size := ⟨_, rfl⟩
        have ne_t_b31 : t ≠ b31 := Nat.ne_of_lt (Nat.lt_of_lt_of_le (E2.ext O0.2).lt (Nat.le_of_eq g31.symm))
        have ne_u_b31 : u ≠ b31 := Nat.ne_of_lt (Nat.lt_of_lt_of_le (E3.ext O0.2).lt (Nat.le_of_eq g31.symm))
        have ge_b31 : n0 ≤ b31 := Nat.le_trans Z0 (Nat.le_of_eq g31.symm)
        have sz_b31 : h0.size ≤ b31 := Nat.le_trans (Keep.refl h0 []).1 (Nat.le_of_eq g31.symm)
        rw [← g31] at A31 D31 st31
        have F31_excludeGroups : Fld Z h31 b31 "com/example/claimsmith/claimsmith/engine/GroupMapping$OnTheFly" "excludeGroups" "Ljava/util/Set;" .null := D31 (Or.inr (hw _ (List.mem_of_getElem? (i := 11) rfl))) (ty := (.object "java/util/Set")) (by decide)
        have F31_createGroups : Fld Z h31 b31 "com/example/claimsmith/claimsmith/engine/GroupMapping$OnTheFly" "createGroups" "Z" (.int (0 : Int32)) := D31 (Or.inr (hw _ (List.mem_of_getElem? (i := 32) rfl))) (ty := .boolean) (by decide)
        have F31_keepExistingGroups : Fld Z h31 b31 "com/example/claimsmith/claimsmith/engine/GroupMapping$OnTheFly" "keepExistingGroups" "Z" (.int (0 : Int32)) := D31 (Or.inr (hw _ (List.mem_of_getElem? (i := 34) rfl))) (ty := .boolean) (by decide)
        have F31_restrictToKnownGroups : Fld Z h31 b31 "com/example/claimsmith/claimsmith/engine/GroupMapping$OnTheFly" "restrictToKnownGroups" "Z" (.int (0 : Int32)) := D31 (Or.inr (hw _ (List.mem_of_getElem? (i := 36) rfl))) (ty := .boolean) (by decide)
        refine Rch.of (T' := T31) (g' := (mkF m 39 #[.val (.int p0), .val (.int (0 : Int32)), .val (.int (0 : Int32)), .val (.int (0 : Int32)), .unset, .unset] [(.ref b31)])) st31 ?_
        refine Rch.of (T' := T31) (g' := (mkF m 40 #[.val (.int p0), .val (.int (0 : Int32)), .val (.int (0 : Int32)), .val (.int (0 : Int32)), .unset, .unset] [(.ref b31), (.ref b31)])) (fun _ kt => XS.dup X31.here hx rfl (hb hby at_39) rfl rfl kt) ?_
        refine Rch.of (T' := T31) (g' := (mkF m 41 #[.val (.int p0), .val (.int (0 : Int32)), .val (.int (0 : Int32)), .val (.int (0 : Int32)), .unset, .unset] [(.int (0 : Int32)), (.ref b31), (.ref b31)])) (fun _ kt => XS.iloadN X31.here hx rfl (hb hby at_40) rfl  kt) ?_
        refine Rch.of (T' := T31) (g' := (mkF m 42 #[.val (.int p0), .val (.int (0 : Int32)), .val (.int (0 : Int32)), .val (.int (0 : Int32)), .unset, .unset] [(.int (0 : Int32)), (.int (0 : Int32)), (.ref b31), (.ref b31)])) (fun _ kt => XS.iloadN X31.here hx rfl (hb hby at_41) rfl  kt) ?_
        obtain ⟨T32, X32, e32, st32⟩ := getS2 X31 hx hZ hown (host := "") (Or.inl (hw _ (List.mem_of_getElem? (i := 3) rfl))) Via.refl e31 ((S1.ext O0.2).ext E31) (g := (mkF m 42 #[.val (.int p0), .val (.int (0 : Int32)), .val (.int (0 : Int32)), .val (.int (0 : Int32)), .unset, .unset] [(.int (0 : Int32)), (.int (0 : Int32)), (.ref b31), (.ref b31)])) rfl (hb hby at_42)
        refine Rch.of (T' := T32) (g' := (mkF m 45 #[.val (.int p0), .val (.int (0 : Int32)), .val (.int (0 : Int32)), .val (.int (0 : Int32)), .unset, .unset] [(.ref t), (.int (0 : Int32)), (.int (0 : Int32)), (.ref b31), (.ref b31)])) st32 ?_
        obtain ⟨cq33, kq33, q33a, q33b, q33c⟩ := isOf hZ e32 ((E2.ext O0.2).ext E31)
        obtain ⟨_, _, ⟨T33, L33, k33, n33⟩, -, X33, ⟨Lc33, hQ33, l33, y33, z33⟩, st33⟩ := X32.virtualBack hx (y := (⟨"com/example/claimsmith/claimsmith/engine/GroupMapping$OnTheFly", "excludeGroups", "()Ljava/util/Set;"⟩ : MethodName)) (z := (⟨"com/example/claimsmith/claimsmith/engine/GroupMapping$OnTheFly", "excludeGroups", "()Ljava/util/Set;"⟩ : MethodName)) hown (mvT hZ (hw _ (List.mem_of_getElem? (i := 5) rfl))) (mvT hZ (hw _ (List.mem_of_getElem? (i := 6) rfl))) (notFace_of_selects (args := #[]) (mvT hZ (hw _ (List.mem_of_getElem? (i := 8) rfl)))) (mvT hZ (hw _ (List.mem_of_getElem? (i := 8) rfl))) (mvT hZ (hw _ (List.mem_of_getElem? (i := 7) rfl))) (by decide) (backOf (W := 4) (rm1 l Z a0 hw [] t u h31 n0 (Nat.le_trans Z0 E31.1) ((F2.ext O0.2).ext E31)) hZ (hw _ (List.mem_of_getElem? (i := 9) rfl)) (hw _ (List.mem_of_getElem? (i := 2) rfl)) (by decide) (by decide)) q33a q33c (g := (mkF m 45 #[.val (.int p0), .val (.int (0 : Int32)), .val (.int (0 : Int32)), .val (.int (0 : Int32)), .unset, .unset] [(.ref t), (.int (0 : Int32)), (.int (0 : Int32)), (.ref b31), (.ref b31)])) rfl (by rw [hml]; rfl) (Steps.refl _) (argsL := []) (rest := [(.int (0 : Int32)), (.int (0 : Int32)), (.ref b31), (.ref b31)]) (lenOf pd_0 rfl) rfl (by show 2 * 0 + _ ≤ _; exact Nat.le_of_eq rfl) (hb hby at_45) (fun _ _ => ⟨rfl, e32, (by decide : 1 + 0 ≤ _), (by decide : 4 + 0 ≤ _)⟩)
        dsimp only [Pt.U, Pt.locs, Pt.cells, Pt.slots] at X33 l33 y33 z33 st33 hQ33
        subst l33 y33 z33
        obtain ⟨rfl, N33q, hQ33⟩ := hQ33
        have N33 := Fr.app N0 N33q
        refine Rch.via (T' := T33) (g' := (mkF m 48 #[.val (.int p0), .val (.int (0 : Int32)), .val (.int (0 : Int32)), .val (.int (0 : Int32)), .unset, .unset] [(.ref u), (.int (0 : Int32)), (.int (0 : Int32)), (.ref b31), (.ref b31)])) st33 ?_
        refine Rch.of (T' := T33) (g' := (mkF m 49 #[.val (.int p0), .val (.int (0 : Int32)), .val (.int (0 : Int32)), .val (.int (0 : Int32)), .unset, .unset] [(.int (0 : Int32)), (.ref u), (.int (0 : Int32)), (.int (0 : Int32)), (.ref b31), (.ref b31)])) (fun _ kt => XS.iloadN X33.here hx rfl (hb hby at_48) rfl  kt) ?_
        obtain ⟨_, _, ⟨T34, L34, k34, n34⟩, -, X34, ⟨Lc34, hQ34, l34, y34, z34⟩, st34⟩ := X33.specialBack hx (y := (⟨"com/example/claimsmith/claimsmith/engine/GroupMapping$OnTheFly", "<init>", "(ZZLjava/util/Set;Z)V"⟩ : MethodName)) rfl hown (mvT hZ (hw _ (List.mem_of_getElem? (i := 12) rfl))) (mvT hZ (hw _ (List.mem_of_getElem? (i := 13) rfl))) (mvT hZ (hw _ (List.mem_of_getElem? (i := 14) rfl))) (by decide) (backOf (W := 1) (rm2 l Z a0 hw [] b31 (0 : Int32) (0 : Int32) u (0 : Int32) (.int (0 : Int32)) (.int (0 : Int32)) .null (.int (0 : Int32)) h31 n0 (Nat.le_trans Z0 E31.1) A31 ((E3.ext O0.2).ext E31) F31_createGroups F31_keepExistingGroups F31_excludeGroups F31_restrictToKnownGroups ge_b31 (Or.inl rfl) (Or.inl rfl) (Or.inl rfl)) hZ (hw _ (List.mem_of_getElem? (i := 14) rfl)) (hw _ (List.mem_of_getElem? (i := 2) rfl)) (by decide) (by decide)) (g := (mkF m 49 #[.val (.int p0), .val (.int (0 : Int32)), .val (.int (0 : Int32)), .val (.int (0 : Int32)), .unset, .unset] [(.int (0 : Int32)), (.ref u), (.int (0 : Int32)), (.int (0 : Int32)), (.ref b31), (.ref b31)])) rfl (by rw [hml]; rfl) (Steps.refl _) (a := b31) (argsL := [(.int (0 : Int32)), (.int (0 : Int32)), (.ref u), (.int (0 : Int32))]) (rest := [(.ref b31)]) (lenOf pd_1 rfl) rfl (by show 2 * 0 + _ ≤ _; exact Nat.le_of_eq rfl) (hb hby at_49) (fun _ _ => ⟨rfl, hQ33, (by decide : 1 + 0 ≤ _), (by decide : 4 + 0 ≤ _)⟩)
        dsimp only [Pt.U, Pt.locs, Pt.cells, Pt.slots] at X34 l34 y34 z34 st34 hQ34
        subst l34 y34 z34
        obtain ⟨rfl, N34q, hQ34⟩ := hQ34
        have N34 := Fr.app N33 N34q
        obtain ⟨K34, Ex34, Fa34, Fb34⟩ := hQ34
        refine Rch.via (T' := T34) (g' := (mkF m 52 #[.val (.int p0), .val (.int (0 : Int32)), .val (.int (0 : Int32)), .val (.int (0 : Int32)), .unset, .unset] [(.ref b31)])) st34 ?_
        refine Rch.of (T' := T34) (g' := (mkF m 54 #[.val (.int p0), .val (.int (0 : Int32)), .val (.int (0 : Int32)), .val (.int (0 : Int32)), .val (.ref b31), .unset] [])) (fun _ kt => XS.astore X34.here hx rfl (hb hby at_52) rfl rfl (l' := #[.val (.int p0), .val (.int (0 : Int32)), .val (.int (0 : Int32)), .val (.int (0 : Int32)), .val (.ref b31), .unset]) rfl kt) ?_
        refine Rch.of (T' := T34) (g' := (mkF m 55 #[.val (.int p0), .val (.int (0 : Int32)), .val (.int (0 : Int32)), .val (.int (0 : Int32)), .val (.ref b31), .unset] [(.int (0 : Int32))])) (fun _ kt => XS.iloadN X34.here hx rfl (hb hby at_54) rfl  kt) ?_
        refine Rch.of (T' := T34) (g' := (mkF m 64 #[.val (.int p0), .val (.int (0 : Int32)), .val (.int (0 : Int32)), .val (.int (0 : Int32)), .val (.ref b31), .unset] [])) (fun _ kt => XS.ifYes X34.here hx rfl (pc0 := 55) (pc' := 64) rfl (hb hby at_55) rfl ((if0 _ _).trans (teq ((by decide) : (0 : Int32) = (0 : Int32))).1) (by decide) (by decide) kt) ?_
        refine Rch.of (T' := T34) (g' := (mkF m 65 #[.val (.int p0), .val (.int (0 : Int32)), .val (.int (0 : Int32)), .val (.int (0 : Int32)), .val (.ref b31), .unset] [(.int (0 : Int32))])) (fun _ kt => XS.iloadN X34.here hx rfl (hb hby at_64) rfl  kt) ?_
        refine Rch.of (T' := T34) (g' := (mkF m 74 #[.val (.int p0), .val (.int (0 : Int32)), .val (.int (0 : Int32)), .val (.int (0 : Int32)), .val (.ref b31), .unset] [])) (fun _ kt => XS.ifYes X34.here hx rfl (pc0 := 65) (pc' := 74) rfl (hb hby at_65) rfl ((if0 _ _).trans (teq ((by decide) : (0 : Int32) = (0 : Int32))).1) (by decide) (by decide) kt) ?_
        refine Rch.of (T' := T34) (g' := (mkF m 75 #[.val (.int p0), .val (.int (0 : Int32)), .val (.int (0 : Int32)), .val (.int (0 : Int32)), .val (.ref b31), .unset] [(.int (0 : Int32))])) (fun _ kt => XS.iconst X34.here hx rfl (hb hby at_74) kt) ?_
        refine Rch.of (T' := T34) (g' := (mkF m 77 #[.val (.int p0), .val (.int (0 : Int32)), .val (.int (0 : Int32)), .val (.int (0 : Int32)), .val (.ref b31), .val (.int (0 : Int32))] [])) (fun _ kt => XS.istore X34.here hx rfl (hb hby at_75) rfl (l' := #[.val (.int p0), .val (.int (0 : Int32)), .val (.int (0 : Int32)), .val (.int (0 : Int32)), .val (.ref b31), .val (.int (0 : Int32))]) rfl kt) ?_
        refine Rch.of (T' := T34) (g' := (mkF m 79 #[.val (.int p0), .val (.int (0 : Int32)), .val (.int (0 : Int32)), .val (.int (0 : Int32)), .val (.ref b31), .val (.int (0 : Int32))] [(.ref b31)])) (fun _ kt => XS.aload X34.here hx rfl (hb hby at_77) rfl rfl kt) ?_
        obtain ⟨cq35, kq35, q35a, q35b, q35c⟩ := isOf hZ rfl Ex34
        obtain ⟨_, _, ⟨T35, L35, k35, n35⟩, -, X35, ⟨Lc35, hQ35, l35, y35, z35⟩, st35⟩ := X34.virtualBack hx (y := (⟨"com/example/claimsmith/claimsmith/engine/GroupMapping$OnTheFly", "creates", "()Z"⟩ : MethodName)) (z := (⟨"com/example/claimsmith/claimsmith/engine/GroupMapping$OnTheFly", "creates", "()Z"⟩ : MethodName)) hown (mvT hZ (hw _ (List.mem_of_getElem? (i := 37) rfl))) (mvT hZ (hw _ (List.mem_of_getElem? (i := 38) rfl))) (notFace_of_selects (args := #[]) (mvT hZ (hw _ (List.mem_of_getElem? (i := 40) rfl)))) (mvT hZ (hw _ (List.mem_of_getElem? (i := 40) rfl))) (mvT hZ (hw _ (List.mem_of_getElem? (i := 39) rfl))) (by decide) (backOf (W := 0) (rm6 l Z a0 hw [] b31 (0 : Int32) (0 : Int32) T34.heap n0 (Nat.le_trans (Nat.le_trans Z0 E31.1) K34.1) Fa34 Fb34) hZ (hw _ (List.mem_of_getElem? (i := 41) rfl)) (hw _ (List.mem_of_getElem? (i := 2) rfl)) (by decide) (by decide)) q35a q35c (g := (mkF m 79 #[.val (.int p0), .val (.int (0 : Int32)), .val (.int (0 : Int32)), .val (.int (0 : Int32)), .val (.ref b31), .val (.int (0 : Int32))] [(.ref b31)])) rfl (by rw [hml]; rfl) (Steps.refl _) (argsL := []) (rest := []) (lenOf pd_4 rfl) rfl (by show 2 * 0 + _ ≤ _; exact Nat.le_of_eq rfl) (hb hby at_79) (fun _ _ => ⟨rfl, rfl, (by decide : 1 + 0 ≤ _), (by decide : 4 + 0 ≤ _)⟩)
        dsimp only [Pt.U, Pt.locs, Pt.cells, Pt.slots] at X35 l35 y35 z35 st35 hQ35
        subst l35 y35 z35
        obtain ⟨rfl, N35q, hQ35⟩ := hQ35
        have N35 := Fr.app N34 N35q
        refine Rch.via (T' := T35) (g' := (mkF m 82 #[.val (.int p0), .val (.int (0 : Int32)), .val (.int (0 : Int32)), .val (.int (0 : Int32)), .val (.ref b31), .val (.int (0 : Int32))] [(.int (own_c (0 : Int32) (0 : Int32)))])) st35 ?_
        rw [show (own_c (0 : Int32) (0 : Int32)) = (0 : Int32) from by decide]
        refine Rch.of (T' := T35) (g' := (mkF m 84 #[.val (.int p0), .val (.int (0 : Int32)), .val (.int (0 : Int32)), .val (.int (0 : Int32)), .val (.ref b31), .val (.int (0 : Int32))] [(.int (0 : Int32)), (.int (0 : Int32))])) (fun _ kt => XS.iload X35.here hx rfl (hb hby at_82) rfl  kt) ?_
        refine Rch.of (T' := T35) (g' := (mkF m 87 #[.val (.int p0), .val (.int (0 : Int32)), .val (.int (0 : Int32)), .val (.int (0 : Int32)), .val (.ref b31), .val (.int (0 : Int32))] [])) (fun _ kt => XS.icmpNo X35.here hx rfl (hb hby at_84) rfl (teq ((by decide) : (0 : Int32) = (0 : Int32))).2 kt) ?_
        refine Rch.of (T' := T35) (g' := (mkF m 88 #[.val (.int p0), .val (.int (0 : Int32)), .val (.int (0 : Int32)), .val (.int (0 : Int32)), .val (.ref b31), .val (.int (0 : Int32))] [(.int (1 : Int32))])) (fun _ kt => XS.iconst X35.here hx rfl (hb hby at_87) kt) ?_
        refine Rch.of (T' := T35) (g' := (mkF m 92 #[.val (.int p0), .val (.int (0 : Int32)), .val (.int (0 : Int32)), .val (.int (0 : Int32)), .val (.ref b31), .val (.int (0 : Int32))] [(.int (1 : Int32))])) (fun _ kt => XS.goto X35.here hx rfl (pc0 := 88) (pc' := 92) rfl (hb hby at_88) (by decide) (by decide) kt) ?_
        exact Rch.retN X35 hx (t := .boolean) hret (by simp) hlk (hb hby at_92) (fun U hU hF => hK _ U _ _ _ (by show Q_rm0 Z p0 t u h0 n0 _ U.heap _; rw [hU, hQ35]; exact ⟨rfl, N35, trivial⟩) hF (by decide) (by decide))
      · skip
        refine Rch.of (T' := T0) (g' := (mkF m 30 #[.val (.int p0), .val (.int (0 : Int32)), .val (.int (0 : Int32)), .unset, .unset, .unset] [])) (fun _ kt => XS.ifNo X0.here hx rfl (hb hby at_27) rfl ((if0 _ _).trans (feq c30).1) kt) ?_
        refine Rch.of (T' := T0) (g' := (mkF m 31 #[.val (.int p0), .val (.int (0 : Int32)), .val (.int (0 : Int32)), .unset, .unset, .unset] [(.int (1 : Int32))])) (fun _ kt => XS.iconst X0.here hx rfl (hb hby at_30) kt) ?_
        refine Rch.of (T' := T0) (g' := (mkF m 35 #[.val (.int p0), .val (.int (0 : Int32)), .val (.int (0 : Int32)), .unset, .unset, .unset] [(.int (1 : Int32))])) (fun _ kt => XS.goto X0.here hx rfl (pc0 := 31) (pc' := 35) rfl (hb hby at_31) (by decide) (by decide) kt) ?_
        refine Rch.of (T' := T0) (g' := (mkF m 36 #[.val (.int p0), .val (.int (0 : Int32)), .val (.int (0 : Int32)), .val (.int (1 : Int32)), .unset, .unset] [])) (fun _ kt => XS.istoreN X0.here hx rfl (hb hby at_35) rfl (l' := #[.val (.int p0), .val (.int (0 : Int32)), .val (.int (0 : Int32)), .val (.int (1 : Int32)), .unset, .unset]) rfl kt) ?_
        obtain ⟨T36, h36, X36, e36, E36, A36, D36, -, st36⟩ := newO X0 hx hZ hown (hw _ (List.mem_of_getElem? (i := 0) rfl)) (hw _ (List.mem_of_getElem? (i := 1) rfl)) (hw _ (List.mem_of_getElem? (i := 2) rfl)) e0 (g := (mkF m 36 #[.val (.int p0), .val (.int (0 : Int32)), .val (.int (0 : Int32)), .val (.int (1 : Int32)), .unset, .unset] [])) rfl (hb hby at_36) (by decide) (by decide)
        obtain ⟨b36, g36⟩ : ∃ z, z = h0.size := ⟨_, rfl⟩
        have ne_t_b36 : t ≠ b36 := Nat.ne_of_lt (Nat.lt_of_lt_of_le (E2.ext O0.2).lt (Nat.le_of_eq g36.symm))
        have ne_u_b36 : u ≠ b36 := Nat.ne_of_lt (Nat.lt_of_lt_of_le (E3.ext O0.2).lt (Nat.le_of_eq g36.symm))
        have ge_b36 : n0 ≤ b36 := Nat.le_trans Z0 (Nat.le_of_eq g36.symm)
        have sz_b36 : h0.size ≤ b36 := Nat.le_trans (Keep.refl h0 []).1 (Nat.le_of_eq g36.symm)
        rw [← g36] at A36 D36 st36
        have F36_excludeGroups : Fld Z h36 b36 "com/example/claimsmith/claimsmith/engine/GroupMapping$OnTheFly" "excludeGroups" "Ljava/util/Set;" .null := D36 (Or.inr (hw _ (List.mem_of_getElem? (i := 11) rfl))) (ty := (.object "java/util/Set")) (by decide)
        have F36_createGroups : Fld Z h36 b36 "com/example/claimsmith/claimsmith/engine/GroupMapping$OnTheFly" "createGroups" "Z" (.int (0 : Int32)) := D36 (Or.inr (hw _ (List.mem_of_getElem? (i := 32) rfl))) (ty := .boolean) (by decide)
        have F36_keepExistingGroups : Fld Z h36 b36 "com/example/claimsmith/claimsmith/engine/GroupMapping$OnTheFly" "keepExistingGroups" "Z" (.int (0 : Int32)) := D36 (Or.inr (hw _ (List.mem_of_getElem? (i := 34) rfl))) (ty := .boolean) (by decide)
        have F36_restrictToKnownGroups : Fld Z h36 b36 "com/example/claimsmith/claimsmith/engine/GroupMapping$OnTheFly" "restrictToKnownGroups" "Z" (.int (0 : Int32)) := D36 (Or.inr (hw _ (List.mem_of_getElem? (i := 36) rfl))) (ty := .boolean) (by decide)
        refine Rch.of (T' := T36) (g' := (mkF m 39 #[.val (.int p0), .val (.int (0 : Int32)), .val (.int (0 : Int32)), .val (.int (1 : Int32)), .unset, .unset] [(.ref b36)])) st36 ?_
        refine Rch.of (T' := T36) (g' := (mkF m 40 #[.val (.int p0), .val (.int (0 : Int32)), .val (.int (0 : Int32)), .val (.int (1 : Int32)), .unset, .unset] [(.ref b36), (.ref b36)])) (fun _ kt => XS.dup X36.here hx rfl (hb hby at_39) rfl rfl kt) ?_
        refine Rch.of (T' := T36) (g' := (mkF m 41 #[.val (.int p0), .val (.int (0 : Int32)), .val (.int (0 : Int32)), .val (.int (1 : Int32)), .unset, .unset] [(.int (0 : Int32)), (.ref b36), (.ref b36)])) (fun _ kt => XS.iloadN X36.here hx rfl (hb hby at_40) rfl  kt) ?_
        refine Rch.of (T' := T36) (g' := (mkF m 42 #[.val (.int p0), .val (.int (0 : Int32)), .val (.int (0 : Int32)), .val (.int (1 : Int32)), .unset, .unset] [(.int (0 : Int32)), (.int (0 : Int32)), (.ref b36), (.ref b36)])) (fun _ kt => XS.iloadN X36.here hx rfl (hb hby at_41) rfl  kt) ?_
        obtain ⟨T37, X37, e37, st37⟩ := getS2 X36 hx hZ hown (host := "") (Or.inl (hw _ (List.mem_of_getElem? (i := 3) rfl))) Via.refl e36 ((S1.ext O0.2).ext E36) (g := (mkF m 42 #[.val (.int p0), .val (.int (0 : Int32)), .val (.int (0 : Int32)), .val (.int (1 : Int32)), .unset, .unset] [(.int (0 : Int32)), (.int (0 : Int32)), (.ref b36), (.ref b36)])) rfl (hb hby at_42)
        refine Rch.of (T' := T37) (g' := (mkF m 45 #[.val (.int p0), .val (.int (0 : Int32)), .val (.int (0 : Int32)), .val (.int (1 : Int32)), .unset, .unset] [(.ref t), (.int (0 : Int32)), (.int (0 : Int32)), (.ref b36), (.ref b36)])) st37 ?_
        obtain ⟨cq38, kq38, q38a, q38b, q38c⟩ := isOf hZ e37 ((E2.ext O0.2).ext E36)
        obtain ⟨_, _, ⟨T38, L38, k38, n38⟩, -, X38, ⟨Lc38, hQ38, l38, y38, z38⟩, st38⟩ := X37.virtualBack hx (y := (⟨"com/example/claimsmith/claimsmith/engine/GroupMapping$OnTheFly", "excludeGroups", "()Ljava/util/Set;"⟩ : MethodName)) (z := (⟨"com/example/claimsmith/claimsmith/engine/GroupMapping$OnTheFly", "excludeGroups", "()Ljava/util/Set;"⟩ : MethodName)) hown (mvT hZ (hw _ (List.mem_of_getElem? (i := 5) rfl))) (mvT hZ (hw _ (List.mem_of_getElem? (i := 6) rfl))) (notFace_of_selects (args := #[]) (mvT hZ (hw _ (List.mem_of_getElem? (i := 8) rfl)))) (mvT hZ (hw _ (List.mem_of_getElem? (i := 8) rfl))) (mvT hZ (hw _ (List.mem_of_getElem? (i := 7) rfl))) (by decide) (backOf (W := 4) (rm1 l Z a0 hw [] t u h36 n0 (Nat.le_trans Z0 E36.1) ((F2.ext O0.2).ext E36)) hZ (hw _ (List.mem_of_getElem? (i := 9) rfl)) (hw _ (List.mem_of_getElem? (i := 2) rfl)) (by decide) (by decide)) q38a q38c (g := (mkF m 45 #[.val (.int p0), .val (.int (0 : Int32)), .val (.int (0 : Int32)), .val (.int (1 : Int32)), .unset, .unset] [(.ref t), (.int (0 : Int32)), (.int (0 : Int32)), (.ref b36), (.ref b36)])) rfl (by rw [hml]; rfl) (Steps.refl _) (argsL := []) (rest := [(.int (0 : Int32)), (.int (0 : Int32)), (.ref b36), (.ref b36)]) (lenOf pd_0 rfl) rfl (by show 2 * 0 + _ ≤ _; exact Nat.le_of_eq rfl) (hb hby at_45) (fun _ _ => ⟨rfl, e37, (by decide : 1 + 0 ≤ _), (by decide : 4 + 0 ≤ _)⟩)
        dsimp only [Pt.U, Pt.locs, Pt.cells, Pt.slots] at X38 l38 y38 z38 st38 hQ38
        subst l38 y38 z38
        obtain ⟨rfl, N38q, hQ38⟩ := hQ38
        have N38 := Fr.app N0 N38q
        refine Rch.via (T' := T38) (g' := (mkF m 48 #[.val (.int p0), .val (.int (0 : Int32)), .val (.int (0 : Int32)), .val (.int (1 : Int32)), .unset, .unset] [(.ref u), (.int (0 : Int32)), (.int (0 : Int32)), (.ref b36), (.ref b36)])) st38 ?_
        refine Rch.of (T' := T38) (g' := (mkF m 49 #[.val (.int p0), .val (.int (0 : Int32)), .val (.int (0 : Int32)), .val (.int (1 : Int32)), .unset, .unset] [(.int (1 : Int32)), (.ref u), (.int (0 : Int32)), (.int (0 : Int32)), (.ref b36), (.ref b36)])) (fun _ kt => XS.iloadN X38.here hx rfl (hb hby at_48) rfl  kt) ?_
        obtain ⟨_, _, ⟨T39, L39, k39, n39⟩, -, X39, ⟨Lc39, hQ39, l39, y39, z39⟩, st39⟩ := X38.specialBack hx (y := (⟨"com/example/claimsmith/claimsmith/engine/GroupMapping$OnTheFly", "<init>", "(ZZLjava/util/Set;Z)V"⟩ : MethodName)) rfl hown (mvT hZ (hw _ (List.mem_of_getElem? (i := 12) rfl))) (mvT hZ (hw _ (List.mem_of_getElem? (i := 13) rfl))) (mvT hZ (hw _ (List.mem_of_getElem? (i := 14) rfl))) (by decide) (backOf (W := 1) (rm2 l Z a0 hw [] b36 (0 : Int32) (0 : Int32) u (1 : Int32) (.int (0 : Int32)) (.int (0 : Int32)) .null (.int (0 : Int32)) h36 n0 (Nat.le_trans Z0 E36.1) A36 ((E3.ext O0.2).ext E36) F36_createGroups F36_keepExistingGroups F36_excludeGroups F36_restrictToKnownGroups ge_b36 (Or.inl rfl) (Or.inl rfl) (Or.inr rfl)) hZ (hw _ (List.mem_of_getElem? (i := 14) rfl)) (hw _ (List.mem_of_getElem? (i := 2) rfl)) (by decide) (by decide)) (g := (mkF m 49 #[.val (.int p0), .val (.int (0 : Int32)), .val (.int (0 : Int32)), .val (.int (1 : Int32)), .unset, .unset] [(.int (1 : Int32)), (.ref u), (.int (0 : Int32)), (.int (0 : Int32)), (.ref b36), (.ref b36)])) rfl (by rw [hml]; rfl) (Steps.refl _) (a := b36) (argsL := [(.int (0 : Int32)), (.int (0 : Int32)), (.ref u), (.int (1 : Int32))]) (rest := [(.ref b36)]) (lenOf pd_1 rfl) rfl (by show 2 * 0 + _ ≤ _; exact Nat.le_of_eq rfl) (hb hby at_49) (fun _ _ => ⟨rfl, hQ38, (by decide : 1 + 0 ≤ _), (by decide : 4 + 0 ≤ _)⟩)
        dsimp only [Pt.U, Pt.locs, Pt.cells, Pt.slots] at X39 l39 y39 z39 st39 hQ39
        subst l39 y39 z39
        obtain ⟨rfl, N39q, hQ39⟩ := hQ39
        have N39 := Fr.app N38 N39q
        obtain ⟨K39, Ex39, Fa39, Fb39⟩ := hQ39
        refine Rch.via (T' := T39) (g' := (mkF m 52 #[.val (.int p0), .val (.int (0 : Int32)), .val (.int (0 : Int32)), .val (.int (1 : Int32)), .unset, .unset] [(.ref b36)])) st39 ?_
        refine Rch.of (T' := T39) (g' := (mkF m 54 #[.val (.int p0), .val (.int (0 : Int32)), .val (.int (0 : Int32)), .val (.int (1 : Int32)), .val (.ref b36), .unset] [])) (fun _ kt => XS.astore X39.here hx rfl (hb hby at_52) rfl rfl (l' := #[.val (.int p0), .val (.int (0 : Int32)), .val (.int (0 : Int32)), .val (.int (1 : Int32)), .val (.ref b36), .unset]) rfl kt) ?_
        refine Rch.of (T' := T39) (g' := (mkF m 55 #[.val (.int p0), .val (.int (0 : Int32)), .val (.int (0 : Int32)), .val (.int (1 : Int32)), .val (.ref b36), .unset] [(.int (1 : Int32))])) (fun _ kt => XS.iloadN X39.here hx rfl (hb hby at_54) rfl  kt) ?_
        refine Rch.of (T' := T39) (g' := (mkF m 58 #[.val (.int p0), .val (.int (0 : Int32)), .val (.int (0 : Int32)), .val (.int (1 : Int32)), .val (.ref b36), .unset] [])) (fun _ kt => XS.ifNo X39.here hx rfl (hb hby at_55) rfl ((if0 _ _).trans (feq ((by decide) : ¬ ((1 : Int32) = (0 : Int32)))).1) kt) ?_
        refine Rch.of (T' := T39) (g' := (mkF m 59 #[.val (.int p0), .val (.int (0 : Int32)), .val (.int (0 : Int32)), .val (.int (1 : Int32)), .val (.ref b36), .unset] [(.int (0 : Int32))])) (fun _ kt => XS.iconst X39.here hx rfl (hb hby at_58) kt) ?_
        refine Rch.of (T' := T39) (g' := (mkF m 61 #[.val (.int p0), .val (.int (0 : Int32)), .val (.int (0 : Int32)), .val (.int (1 : Int32)), .val (.ref b36), .val (.int (0 : Int32))] [])) (fun _ kt => XS.istore X39.here hx rfl (hb hby at_59) rfl (l' := #[.val (.int p0), .val (.int (0 : Int32)), .val (.int (0 : Int32)), .val (.int (1 : Int32)), .val (.ref b36), .val (.int (0 : Int32))]) rfl kt) ?_
        refine Rch.of (T' := T39) (g' := (mkF m 77 #[.val (.int p0), .val (.int (0 : Int32)), .val (.int (0 : Int32)), .val (.int (1 : Int32)), .val (.ref b36), .val (.int (0 : Int32))] [])) (fun _ kt => XS.goto X39.here hx rfl (pc0 := 61) (pc' := 77) rfl (hb hby at_61) (by decide) (by decide) kt) ?_
        refine Rch.of (T' := T39) (g' := (mkF m 79 #[.val (.int p0), .val (.int (0 : Int32)), .val (.int (0 : Int32)), .val (.int (1 : Int32)), .val (.ref b36), .val (.int (0 : Int32))] [(.ref b36)])) (fun _ kt => XS.aload X39.here hx rfl (hb hby at_77) rfl rfl kt) ?_
        obtain ⟨cq40, kq40, q40a, q40b, q40c⟩ := isOf hZ rfl Ex39
        obtain ⟨_, _, ⟨T40, L40, k40, n40⟩, -, X40, ⟨Lc40, hQ40, l40, y40, z40⟩, st40⟩ := X39.virtualBack hx (y := (⟨"com/example/claimsmith/claimsmith/engine/GroupMapping$OnTheFly", "creates", "()Z"⟩ : MethodName)) (z := (⟨"com/example/claimsmith/claimsmith/engine/GroupMapping$OnTheFly", "creates", "()Z"⟩ : MethodName)) hown (mvT hZ (hw _ (List.mem_of_getElem? (i := 37) rfl))) (mvT hZ (hw _ (List.mem_of_getElem? (i := 38) rfl))) (notFace_of_selects (args := #[]) (mvT hZ (hw _ (List.mem_of_getElem? (i := 40) rfl)))) (mvT hZ (hw _ (List.mem_of_getElem? (i := 40) rfl))) (mvT hZ (hw _ (List.mem_of_getElem? (i := 39) rfl))) (by decide) (backOf (W := 0) (rm6 l Z a0 hw [] b36 (0 : Int32) (1 : Int32) T39.heap n0 (Nat.le_trans (Nat.le_trans Z0 E36.1) K39.1) Fa39 Fb39) hZ (hw _ (List.mem_of_getElem? (i := 41) rfl)) (hw _ (List.mem_of_getElem? (i := 2) rfl)) (by decide) (by decide)) q40a q40c (g := (mkF m 79 #[.val (.int p0), .val (.int (0 : Int32)), .val (.int (0 : Int32)), .val (.int (1 : Int32)), .val (.ref b36), .val (.int (0 : Int32))] [(.ref b36)])) rfl (by rw [hml]; rfl) (Steps.refl _) (argsL := []) (rest := []) (lenOf pd_4 rfl) rfl (by show 2 * 0 + _ ≤ _; exact Nat.le_of_eq rfl) (hb hby at_79) (fun _ _ => ⟨rfl, rfl, (by decide : 1 + 0 ≤ _), (by decide : 4 + 0 ≤ _)⟩)
        dsimp only [Pt.U, Pt.locs, Pt.cells, Pt.slots] at X40 l40 y40 z40 st40 hQ40
        subst l40 y40 z40
        obtain ⟨rfl, N40q, hQ40⟩ := hQ40
        have N40 := Fr.app N39 N40q
        refine Rch.via (T' := T40) (g' := (mkF m 82 #[.val (.int p0), .val (.int (0 : Int32)), .val (.int (0 : Int32)), .val (.int (1 : Int32)), .val (.ref b36), .val (.int (0 : Int32))] [(.int (own_c (0 : Int32) (1 : Int32)))])) st40 ?_
        rw [show (own_c (0 : Int32) (1 : Int32)) = (0 : Int32) from by decide]
        refine Rch.of (T' := T40) (g' := (mkF m 84 #[.val (.int p0), .val (.int (0 : Int32)), .val (.int (0 : Int32)), .val (.int (1 : Int32)), .val (.ref b36), .val (.int (0 : Int32))] [(.int (0 : Int32)), (.int (0 : Int32))])) (fun _ kt => XS.iload X40.here hx rfl (hb hby at_82) rfl  kt) ?_
        refine Rch.of (T' := T40) (g' := (mkF m 87 #[.val (.int p0), .val (.int (0 : Int32)), .val (.int (0 : Int32)), .val (.int (1 : Int32)), .val (.ref b36), .val (.int (0 : Int32))] [])) (fun _ kt => XS.icmpNo X40.here hx rfl (hb hby at_84) rfl (teq ((by decide) : (0 : Int32) = (0 : Int32))).2 kt) ?_
        refine Rch.of (T' := T40) (g' := (mkF m 88 #[.val (.int p0), .val (.int (0 : Int32)), .val (.int (0 : Int32)), .val (.int (1 : Int32)), .val (.ref b36), .val (.int (0 : Int32))] [(.int (1 : Int32))])) (fun _ kt => XS.iconst X40.here hx rfl (hb hby at_87) kt) ?_
        refine Rch.of (T' := T40) (g' := (mkF m 92 #[.val (.int p0), .val (.int (0 : Int32)), .val (.int (0 : Int32)), .val (.int (1 : Int32)), .val (.ref b36), .val (.int (0 : Int32))] [(.int (1 : Int32))])) (fun _ kt => XS.goto X40.here hx rfl (pc0 := 88) (pc' := 92) rfl (hb hby at_88) (by decide) (by decide) kt) ?_
        exact Rch.retN X40 hx (t := .boolean) hret (by simp) hlk (hb hby at_92) (fun U hU hF => hK _ U _ _ _ (by show Q_rm0 Z p0 t u h0 n0 _ U.heap _; rw [hU, hQ40]; exact ⟨rfl, N40, trivial⟩) hF (by decide) (by decide))
    · skip
      refine Rch.of (T' := T0) (g' := (mkF m 18 #[.val (.int p0), .val (.int (0 : Int32)), .unset, .unset, .unset, .unset] [])) (fun _ kt => XS.ifNo X0.here hx rfl (hb hby at_15) rfl ((if0 _ _).trans (feq c29).1) kt) ?_
      refine Rch.of (T' := T0) (g' := (mkF m 19 #[.val (.int p0), .val (.int (0 : Int32)), .unset, .unset, .unset, .unset] [(.int (1 : Int32))])) (fun _ kt => XS.iconst X0.here hx rfl (hb hby at_18) kt) ?_
      refine Rch.of (T' := T0) (g' := (mkF m 23 #[.val (.int p0), .val (.int (0 : Int32)), .unset, .unset, .unset, .unset] [(.int (1 : Int32))])) (fun _ kt => XS.goto X0.here hx rfl (pc0 := 19) (pc' := 23) rfl (hb hby at_19) (by decide) (by decide) kt) ?_
      refine Rch.of (T' := T0) (g' := (mkF m 24 #[.val (.int p0), .val (.int (0 : Int32)), .val (.int (1 : Int32)), .unset, .unset, .unset] [])) (fun _ kt => XS.istoreN X0.here hx rfl (hb hby at_23) rfl (l' := #[.val (.int p0), .val (.int (0 : Int32)), .val (.int (1 : Int32)), .unset, .unset, .unset]) rfl kt) ?_
      refine Rch.of (T' := T0) (g' := (mkF m 25 #[.val (.int p0), .val (.int (0 : Int32)), .val (.int (1 : Int32)), .unset, .unset, .unset] [(.int p0)])) (fun _ kt => XS.iloadN X0.here hx rfl (hb hby at_24) rfl  kt) ?_
      refine Rch.of (T' := T0) (g' := (mkF m 26 #[.val (.int p0), .val (.int (0 : Int32)), .val (.int (1 : Int32)), .unset, .unset, .unset] [(.int (4 : Int32)), (.int p0)])) (fun _ kt => XS.iconst X0.here hx rfl (hb hby at_25) kt) ?_
      refine Rch.of (T' := T0) (g' := (mkF m 27 #[.val (.int p0), .val (.int (0 : Int32)), .val (.int (1 : Int32)), .unset, .unset, .unset] [(.int (p0 &&& (4 : Int32)))])) (fun _ kt => XS.iand X0.here hx rfl (hb hby at_26) rfl kt) ?_
      by_cases c41 : (p0 &&& (4 : Int32)) = (0 : Int32)
      · skip
        refine Rch.of (T' := T0) (g' := (mkF m 34 #[.val (.int p0), .val (.int (0 : Int32)), .val (.int (1 : Int32)), .unset, .unset, .unset] [])) (fun _ kt => XS.ifYes X0.here hx rfl (pc0 := 27) (pc' := 34) rfl (hb hby at_27) rfl ((if0 _ _).trans (teq c41).1) (by decide) (by decide) kt) ?_
        refine Rch.of (T' := T0) (g' := (mkF m 35 #[.val (.int p0), .val (.int (0 : Int32)), .val (.int (1 : Int32)), .unset, .unset, .unset] [(.int (0 : Int32))])) (fun _ kt => XS.iconst X0.here hx rfl (hb hby at_34) kt) ?_
        refine Rch.of (T' := T0) (g' := (mkF m 36 #[.val (.int p0), .val (.int (0 : Int32)), .val (.int (1 : Int32)), .val (.int (0 : Int32)), .unset, .unset] [])) (fun _ kt => XS.istoreN X0.here hx rfl (hb hby at_35) rfl (l' := #[.val (.int p0), .val (.int (0 : Int32)), .val (.int (1 : Int32)), .val (.int (0 : Int32)), .unset, .unset]) rfl kt) ?_
        obtain ⟨T42, h42, X42, e42, E42, A42, D42, -, st42⟩ := newO X0 hx hZ hown (hw _ (List.mem_of_getElem? (i := 0) rfl)) (hw _ (List.mem_of_getElem? (i := 1) rfl)) (hw _ (List.mem_of_getElem? (i := 2) rfl)) e0 (g := (mkF m 36 #[.val (.int p0), .val (.int (0 : Int32)), .val (.int (1 : Int32)), .val (.int (0 : Int32)), .unset, .unset] [])) rfl (hb hby at_36) (by decide) (by decide)
        obtain ⟨b42, g42⟩ : ∃ z, z = h0.size := ⟨_, rfl⟩
        have ne_t_b42 : t ≠ b42 := Nat.ne_of_lt (Nat.lt_of_lt_of_le (E2.ext O0.2).lt (Nat.le_of_eq g42.symm))
        have ne_u_b42 : u ≠ b42 := Nat.ne_of_lt (Nat.lt_of_lt_of_le (E3.ext O0.2).lt (Nat.le_of_eq g42.symm))
        have ge_b42 : n0 ≤ b42 := Nat.le_trans Z0 (Nat.le_of_eq g42.symm)
        have sz_b42 : h0.size ≤ b42 := Nat.le_trans (Keep.refl h0 []).1 (Nat.le_of_eq g42.symm)
        rw [← g42] at A42 D42 st42
        have F42_excludeGroups : Fld Z h42 b42 "com/example/claimsmith/claimsmith/engine/GroupMapping$OnTheFly" "excludeGroups" "Ljava/util/Set;" .null := D42 (Or.inr (hw _ (List.mem_of_getElem? (i := 11) rfl))) (ty := (.object "java/util/Set")) (by decide)
        have F42_createGroups : Fld Z h42 b42 "com/example/claimsmith/claimsmith/engine/GroupMapping$OnTheFly" "createGroups" "Z" (.int (0 : Int32)) := D42 (Or.inr (hw _ (List.mem_of_getElem? (i := 32) rfl))) (ty := .boolean) (by decide)
        have F42_keepExistingGroups : Fld Z h42 b42 "com/example/claimsmith/claimsmith/engine/GroupMapping$OnTheFly" "keepExistingGroups" "Z" (.int (0 : Int32)) := D42 (Or.inr (hw _ (List.mem_of_getElem? (i := 34) rfl))) (ty := .boolean) (by decide)
        have F42_restrictToKnownGroups : Fld Z h42 b42 "com/example/claimsmith/claimsmith/engine/GroupMapping$OnTheFly" "restrictToKnownGroups" "Z" (.int (0 : Int32)) := D42 (Or.inr (hw _ (List.mem_of_getElem? (i := 36) rfl))) (ty := .boolean) (by decide)
        refine Rch.of (T' := T42) (g' := (mkF m 39 #[.val (.int p0), .val (.int (0 : Int32)), .val (.int (1 : Int32)), .val (.int (0 : Int32)), .unset, .unset] [(.ref b42)])) st42 ?_
        refine Rch.of (T' := T42) (g' := (mkF m 40 #[.val (.int p0), .val (.int (0 : Int32)), .val (.int (1 : Int32)), .val (.int (0 : Int32)), .unset, .unset] [(.ref b42), (.ref b42)])) (fun _ kt => XS.dup X42.here hx rfl (hb hby at_39) rfl rfl kt) ?_
        refine Rch.of (T' := T42) (g' := (mkF m 41 #[.val (.int p0), .val (.int (0 : Int32)), .val (.int (1 : Int32)), .val (.int (0 : Int32)), .unset, .unset] [(.int (0 : Int32)), (.ref b42), (.ref b42)])) (fun _ kt => XS.iloadN X42.here hx rfl (hb hby at_40) rfl  kt) ?_
        refine Rch.of (T' := T42) (g' := (mkF m 42 #[.val (.int p0), .val (.int (0 : Int32)), .val (.int (1 : Int32)), .val (.int (0 : Int32)), .unset, .unset] [(.int (1 : Int32)), (.int (0 : Int32)), (.ref b42), (.ref b42)])) (fun _ kt => XS.iloadN X42.here hx rfl (hb hby at_41) rfl  kt) ?_
        obtain ⟨T43, X43, e43, st43⟩ := getS2 X42 hx hZ hown (host := "") (Or.inl (hw _ (List.mem_of_getElem? (i := 3) rfl))) Via.refl e42 ((S1.ext O0.2).ext E42) (g := (mkF m 42 #[.val (.int p0), .val (.int (0 : Int32)), .val (.int (1 : Int32)), .val (.int (0 : Int32)), .unset, .unset] [(.int (1 : Int32)), (.int (0 : Int32)), (.ref b42), (.ref b42)])) rfl (hb hby at_42)
        refine Rch.of (T' := T43) (g' := (mkF m 45 #[.val (.int p0), .val (.int (0 : Int32)), .val (.int (1 : Int32)), .val (.int (0 : Int32)), .unset, .unset] [(.ref t), (.int (1 : Int32)), (.int (0 : Int32)), (.ref b42), (.ref b42)])) st43 ?_
        obtain ⟨cq44, kq44, q44a, q44b, q44c⟩ := isOf hZ e43 ((E2.ext O0.2).ext E42)
        obtain ⟨_, _, ⟨T44, L44, k44, n44⟩, -, X44, ⟨Lc44, hQ44, l44, y44, z44⟩, st44⟩ := X43.virtualBack hx (y := (⟨"com/example/claimsmith/claimsmith/engine/GroupMapping$OnTheFly", "excludeGroups", "()Ljava/util/Set;"⟩ : MethodName)) (z := (⟨"com/example/claimsmith/claimsmith/engine/GroupMapping$OnTheFly", "excludeGroups", "()Ljava/util/Set;"⟩ : MethodName)) hown (mvT hZ (hw _ (List.mem_of_getElem? (i := 5) rfl))) (mvT hZ (hw _ (List.mem_of_getElem? (i := 6) rfl))) (notFace_of_selects (args := #[]) (mvT hZ (hw _ (List.mem_of_getElem? (i := 8) rfl)))) (mvT hZ (hw _ (List.mem_of_getElem? (i := 8) rfl))) (mvT hZ (hw _ (List.mem_of_getElem? (i := 7) rfl))) (by decide) (backOf (W := 4) (rm1 l Z a0 hw [] t u h42 n0 (Nat.le_trans Z0 E42.1) ((F2.ext O0.2).ext E42)) hZ (hw _ (List.mem_of_getElem? (i := 9) rfl)) (hw _ (List.mem_of_getElem? (i := 2) rfl)) (by decide) (by decide)) q44a q44c (g := (mkF m 45 #[.val (.int p0), .val (.int (0 : Int32)), .val (.int (1 : Int32)), .val (.int (0 : Int32)), .unset, .unset] [(.ref t), (.int (1 : Int32)), (.int (0 : Int32)), (.ref b42), (.ref b42)])) rfl (by rw [hml]; rfl) (Steps.refl _) (argsL := []) (rest := [(.int (1 : Int32)), (.int (0 : Int32)), (.ref b42), (.ref b42)]) (lenOf pd_0 rfl) rfl (by show 2 * 0 + _ ≤ _; exact Nat.le_of_eq rfl) (hb hby at_45) (fun _ _ => ⟨rfl, e43, (by decide : 1 + 0 ≤ _), (by decide : 4 + 0 ≤ _)⟩)
        dsimp only [Pt.U, Pt.locs, Pt.cells, Pt.slots] at X44 l44 y44 z44 st44 hQ44
        subst l44 y44 z44
        obtain ⟨rfl, N44q, hQ44⟩ := hQ44
        have N44 := Fr.app N0 N44q
        refine Rch.via (T' := T44) (g' := (mkF m 48 #[.val (.int p0), .val (.int (0 : Int32)), .val (.int (1 : Int32)), .val (.int (0 : Int32)), .unset, .unset] [(.ref u), (.int (1 : Int32)), (.int (0 : Int32)), (.ref b42), (.ref b42)])) st44 ?_
        refine Rch.of (T' := T44) (g' := (mkF m 49 #[.val (.int p0), .val (.int (0 : Int32)), .val (.int (1 : Int32)), .val (.int (0 : Int32)), .unset, .unset] [(.int (0 : Int32)), (.ref u), (.int (1 : Int32)), (.int (0 : Int32)), (.ref b42), (.ref b42)])) (fun _ kt => XS.iloadN X44.here hx rfl (hb hby at_48) rfl  kt) ?_
        obtain ⟨_, _, ⟨T45, L45, k45, n45⟩, -, X45, ⟨Lc45, hQ45, l45, y45, z45⟩, st45⟩ := X44.specialBack hx (y := (⟨"com/example/claimsmith/claimsmith/engine/GroupMapping$OnTheFly", "<init>", "(ZZLjava/util/Set;Z)V"⟩ : MethodName)) rfl hown (mvT hZ (hw _ (List.mem_of_getElem? (i := 12) rfl))) (mvT hZ (hw _ (List.mem_of_getElem? (i := 13) rfl))) (mvT hZ (hw _ (List.mem_of_getElem? (i := 14) rfl))) (by decide) (backOf (W := 1) (rm2 l Z a0 hw [] b42 (0 : Int32) (1 : Int32) u (0 : Int32) (.int (0 : Int32)) (.int (0 : Int32)) .null (.int (0 : Int32)) h42 n0 (Nat.le_trans Z0 E42.1) A42 ((E3.ext O0.2).ext E42) F42_createGroups F42_keepExistingGroups F42_excludeGroups F42_restrictToKnownGroups ge_b42 (Or.inl rfl) (Or.inr rfl) (Or.inl rfl)) hZ (hw _ (List.mem_of_getElem? (i := 14) rfl)) (hw _ (List.mem_of_getElem? (i := 2) rfl)) (by decide) (by decide)) (g := (mkF m 49 #[.val (.int p0), .val (.int (0 : Int32)), .val (.int (1 : Int32)), .val (.int (0 : Int32)), .unset, .unset] [(.int (0 : Int32)), (.ref u), (.int (1 : Int32)), (.int (0 : Int32)), (.ref b42), (.ref b42)])) rfl (by rw [hml]; rfl) (Steps.refl _) (a := b42) (argsL := [(.int (0 : Int32)), (.int (1 : Int32)), (.ref u), (.int (0 : Int32))]) (rest := [(.ref b42)]) (lenOf pd_1 rfl) rfl (by show 2 * 0 + _ ≤ _; exact Nat.le_of_eq rfl) (hb hby at_49) (fun _ _ => ⟨rfl, hQ44, (by decide : 1 + 0 ≤ _), (by decide : 4 + 0 ≤ _)⟩)
        dsimp only [Pt.U, Pt.locs, Pt.cells, Pt.slots] at X45 l45 y45 z45 st45 hQ45
        subst l45 y45 z45
        obtain ⟨rfl, N45q, hQ45⟩ := hQ45
        have N45 := Fr.app N44 N45q
        obtain ⟨K45, Ex45, Fa45, Fb45⟩ := hQ45
        refine Rch.via (T' := T45) (g' := (mkF m 52 #[.val (.int p0), .val (.int (0 : Int32)), .val (.int (1 : Int32)), .val (.int (0 : Int32)), .unset, .unset] [(.ref b42)])) st45 ?_
        refine Rch.of (T' := T45) (g' := (mkF m 54 #[.val (.int p0), .val (.int (0 : Int32)), .val (.int (1 : Int32)), .val (.int (0 : Int32)), .val (.ref b42), .unset] [])) (fun _ kt => XS.astore X45.here hx rfl (hb hby at_52) rfl rfl (l' := #[.val (.int p0), .val (.int (0 : Int32)), .val (.int (1 : Int32)), .val (.int (0 : Int32)), .val (.ref b42), .unset]) rfl kt) ?_
        refine Rch.of (T' := T45) (g' := (mkF m 55 #[.val (.int p0), .val (.int (0 : Int32)), .val (.int (1 : Int32)), .val (.int (0 : Int32)), .val (.ref b42), .unset] [(.int (0 : Int32))])) (fun _ kt => XS.iloadN X45.here hx rfl (hb hby at_54) rfl  kt) ?_
        refine Rch.of (T' := T45) (g' := (mkF m 64 #[.val (.int p0), .val (.int (0 : Int32)), .val (.int (1 : Int32)), .val (.int (0 : Int32)), .val (.ref b42), .unset] [])) (fun _ kt => XS.ifYes X45.here hx rfl (pc0 := 55) (pc' := 64) rfl (hb hby at_55) rfl ((if0 _ _).trans (teq ((by decide) : (0 : Int32) = (0 : Int32))).1) (by decide) (by decide) kt) ?_
        refine Rch.of (T' := T45) (g' := (mkF m 65 #[.val (.int p0), .val (.int (0 : Int32)), .val (.int (1 : Int32)), .val (.int (0 : Int32)), .val (.ref b42), .unset] [(.int (0 : Int32))])) (fun _ kt => XS.iloadN X45.here hx rfl (hb hby at_64) rfl  kt) ?_
        refine Rch.of (T' := T45) (g' := (mkF m 74 #[.val (.int p0), .val (.int (0 : Int32)), .val (.int (1 : Int32)), .val (.int (0 : Int32)), .val (.ref b42), .unset] [])) (fun _ kt => XS.ifYes X45.here hx rfl (pc0 := 65) (pc' := 74) rfl (hb hby at_65) rfl ((if0 _ _).trans (teq ((by decide) : (0 : Int32) = (0 : Int32))).1) (by decide) (by decide) kt) ?_
        refine Rch.of (T' := T45) (g' := (mkF m 75 #[.val (.int p0), .val (.int (0 : Int32)), .val (.int (1 : Int32)), .val (.int (0 : Int32)), .val (.ref b42), .unset] [(.int (0 : Int32))])) (fun _ kt => XS.iconst X45.here hx rfl (hb hby at_74) kt) ?_
        refine Rch.of (T' := T45) (g' := (mkF m 77 #[.val (.int p0), .val (.int (0 : Int32)), .val (.int (1 : Int32)), .val (.int (0 : Int32)), .val (.ref b42), .val (.int (0 : Int32))] [])) (fun _ kt => XS.istore X45.here hx rfl (hb hby at_75) rfl (l' := #[.val (.int p0), .val (.int (0 : Int32)), .val (.int (1 : Int32)), .val (.int (0 : Int32)), .val (.ref b42), .val (.int (0 : Int32))]) rfl kt) ?_
        refine Rch.of (T' := T45) (g' := (mkF m 79 #[.val (.int p0), .val (.int (0 : Int32)), .val (.int (1 : Int32)), .val (.int (0 : Int32)), .val (.ref b42), .val (.int (0 : Int32))] [(.ref b42)])) (fun _ kt => XS.aload X45.here hx rfl (hb hby at_77) rfl rfl kt) ?_
        obtain ⟨cq46, kq46, q46a, q46b, q46c⟩ := isOf hZ rfl Ex45
        obtain ⟨_, _, ⟨T46, L46, k46, n46⟩, -, X46, ⟨Lc46, hQ46, l46, y46, z46⟩, st46⟩ := X45.virtualBack hx (y := (⟨"com/example/claimsmith/claimsmith/engine/GroupMapping$OnTheFly", "creates", "()Z"⟩ : MethodName)) (z := (⟨"com/example/claimsmith/claimsmith/engine/GroupMapping$OnTheFly", "creates", "()Z"⟩ : MethodName)) hown (mvT hZ (hw _ (List.mem_of_getElem? (i := 37) rfl))) (mvT hZ (hw _ (List.mem_of_getElem? (i := 38) rfl))) (notFace_of_selects (args := #[]) (mvT hZ (hw _ (List.mem_of_getElem? (i := 40) rfl)))) (mvT hZ (hw _ (List.mem_of_getElem? (i := 40) rfl))) (mvT hZ (hw _ (List.mem_of_getElem? (i := 39) rfl))) (by decide) (backOf (W := 0) (rm6 l Z a0 hw [] b42 (0 : Int32) (0 : Int32) T45.heap n0 (Nat.le_trans (Nat.le_trans Z0 E42.1) K45.1) Fa45 Fb45) hZ (hw _ (List.mem_of_getElem? (i := 41) rfl)) (hw _ (List.mem_of_getElem? (i := 2) rfl)) (by decide) (by decide)) q46a q46c (g := (mkF m 79 #[.val (.int p0), .val (.int (0 : Int32)), .val (.int (1 : Int32)), .val (.int (0 : Int32)), .val (.ref b42), .val (.int (0 : Int32))] [(.ref b42)])) rfl (by rw [hml]; rfl) (Steps.refl _) (argsL := []) (rest := []) (lenOf pd_4 rfl) rfl (by show 2 * 0 + _ ≤ _; exact Nat.le_of_eq rfl) (hb hby at_79) (fun _ _ => ⟨rfl, rfl, (by decide : 1 + 0 ≤ _), (by decide : 4 + 0 ≤ _)⟩)
        dsimp only [Pt.U, Pt.locs, Pt.cells, Pt.slots] at X46 l46 y46 z46 st46 hQ46
        subst l46 y46 z46
        obtain ⟨rfl, N46q, hQ46⟩ := hQ46
        have N46 := Fr.app N45 N46q
        refine Rch.via (T' := T46) (g' := (mkF m 82 #[.val (.int p0), .val (.int (0 : Int32)), .val (.int (1 : Int32)), .val (.int (0 : Int32)), .val (.ref b42), .val (.int (0 : Int32))] [(.int (own_c (0 : Int32) (0 : Int32)))])) st46 ?_
        rw [show (own_c (0 : Int32) (0 : Int32)) = (0 : Int32) from by decide]
        refine Rch.of (T' := T46) (g' := (mkF m 84 #[.val (.int p0), .val (.int (0 : Int32)), .val (.int (1 : Int32)), .val (.int (0 : Int32)), .val (.ref b42), .val (.int (0 : Int32))] [(.int (0 : Int32)), (.int (0 : Int32))])) (fun _ kt => XS.iload X46.here hx rfl (hb hby at_82) rfl  kt) ?_
        refine Rch.of (T' := T46) (g' := (mkF m 87 #[.val (.int p0), .val (.int (0 : Int32)), .val (.int (1 : Int32)), .val (.int (0 : Int32)), .val (.ref b42), .val (.int (0 : Int32))] [])) (fun _ kt => XS.icmpNo X46.here hx rfl (hb hby at_84) rfl (teq ((by decide) : (0 : Int32) = (0 : Int32))).2 kt) ?_
        refine Rch.of (T' := T46) (g' := (mkF m 88 #[.val (.int p0), .val (.int (0 : Int32)), .val (.int (1 : Int32)), .val (.int (0 : Int32)), .val (.ref b42), .val (.int (0 : Int32))] [(.int (1 : Int32))])) (fun _ kt => XS.iconst X46.here hx rfl (hb hby at_87) kt) ?_
        refine Rch.of (T' := T46) (g' := (mkF m 92 #[.val (.int p0), .val (.int (0 : Int32)), .val (.int (1 : Int32)), .val (.int (0 : Int32)), .val (.ref b42), .val (.int (0 : Int32))] [(.int (1 : Int32))])) (fun _ kt => XS.goto X46.here hx rfl (pc0 := 88) (pc' := 92) rfl (hb hby at_88) (by decide) (by decide) kt) ?_
        exact Rch.retN X46 hx (t := .boolean) hret (by simp) hlk (hb hby at_92) (fun U hU hF => hK _ U _ _ _ (by show Q_rm0 Z p0 t u h0 n0 _ U.heap _; rw [hU, hQ46]; exact ⟨rfl, N46, trivial⟩) hF (by decide) (by decide))
      · skip
        refine Rch.of (T' := T0) (g' := (mkF m 30 #[.val (.int p0), .val (.int (0 : Int32)), .val (.int (1 : Int32)), .unset, .unset, .unset] [])) (fun _ kt => XS.ifNo X0.here hx rfl (hb hby at_27) rfl ((if0 _ _).trans (feq c41).1) kt) ?_
        refine Rch.of (T' := T0) (g' := (mkF m 31 #[.val (.int p0), .val (.int (0 : Int32)), .val (.int (1 : Int32)), .unset, .unset, .unset] [(.int (1 : Int32))])) (fun _ kt => XS.iconst X0.here hx rfl (hb hby at_30) kt) ?_
        refine Rch.of (T' := T0) (g' := (mkF m 35 #[.val (.int p0), .val (.int (0 : Int32)), .val (.int (1 : Int32)), .unset, .unset, .unset] [(.int (1 : Int32))])) (fun _ kt => XS.goto X0.here hx rfl (pc0 := 31) (pc' := 35) rfl (hb hby at_31) (by decide) (by decide) kt) ?_
        refine Rch.of (T' := T0) (g' := (mkF m 36 #[.val (.int p0), .val (.int (0 : Int32)), .val (.int (1 : Int32)), .val (.int (1 : Int32)), .unset, .unset] [])) (fun _ kt => XS.istoreN X0.here hx rfl (hb hby at_35) rfl (l' := #[.val (.int p0), .val (.int (0 : Int32)), .val (.int (1 : Int32)), .val (.int (1 : Int32)), .unset, .unset]) rfl kt) ?_
        obtain ⟨T47, h47, X47, e47, E47, A47, D47, -, st47⟩ := newO X0 hx hZ hown (hw _ (List.mem_of_getElem? (i := 0) rfl)) (hw _ (List.mem_of_getElem? (i := 1) rfl)) (hw _ (List.mem_of_getElem? (i := 2) rfl)) e0 (g := (mkF m 36 #[.val (.int p0), .val (.int (0 : Int32)), .val (.int (1 : Int32)), .val (.int (1 : Int32)), .unset, .unset] [])) rfl (hb hby at_36) (by decide) (by decide)
        obtain ⟨b47, g47⟩ : ∃ z, z = h0.size := ⟨_, rfl⟩
        have ne_t_b47 : t ≠ b47 := Nat.ne_of_lt (Nat.lt_of_lt_of_le (E2.ext O0.2).lt (Nat.le_of_eq g47.symm))
        have ne_u_b47 : u ≠ b47 := Nat.ne_of_lt (Nat.lt_of_lt_of_le (E3.ext O0.2).lt (Nat.le_of_eq g47.symm))
        have ge_b47 : n0 ≤ b47 := Nat.le_trans Z0 (Nat.le_of_eq g47.symm)
        have sz_b47 : h0.size ≤ b47 := Nat.le_trans (Keep.refl h0 []).1 (Nat.le_of_eq g47.symm)
        rw [← g47] at A47 D47 st47
        have F47_excludeGroups : Fld Z h47 b47 "com/example/claimsmith/claimsmith/engine/GroupMapping$OnTheFly" "excludeGroups" "Ljava/util/Set;" .null := D47 (Or.inr (hw _ (List.mem_of_getElem? (i := 11) rfl))) (ty := (.object "java/util/Set")) (by decide)
        have F47_createGroups : Fld Z h47 b47 "com/example/claimsmith/claimsmith/engine/GroupMapping$OnTheFly" "createGroups" "Z" (.int (0 : Int32)) := D47 (Or.inr (hw _ (List.mem_of_getElem? (i := 32) rfl))) (ty := .boolean) (by decide)
        have F47_keepExistingGroups : Fld Z h47 b47 "com/example/claimsmith/claimsmith/engine/GroupMapping$OnTheFly" "keepExistingGroups" "Z" (.int (0 : Int32)) := D47 (Or.inr (hw _ (List.mem_of_getElem? (i := 34) rfl))) (ty := .boolean) (by decide)
        have F47_restrictToKnownGroups : Fld Z h47 b47 "com/example/claimsmith/claimsmith/engine/GroupMapping$OnTheFly" "restrictToKnownGroups" "Z" (.int (0 : Int32)) := D47 (Or.inr (hw _ (List.mem_of_getElem? (i := 36) rfl))) (ty := .boolean) (by decide)
        refine Rch.of (T' := T47) (g' := (mkF m 39 #[.val (.int p0), .val (.int (0 : Int32)), .val (.int (1 : Int32)), .val (.int (1 : Int32)), .unset, .unset] [(.ref b47)])) st47 ?_
        refine Rch.of (T' := T47) (g' := (mkF m 40 #[.val (.int p0), .val (.int (0 : Int32)), .val (.int (1 : Int32)), .val (.int (1 : Int32)), .unset, .unset] [(.ref b47), (.ref b47)])) (fun _ kt => XS.dup X47.here hx rfl (hb hby at_39) rfl rfl kt) ?_
        refine Rch.of (T' := T47) (g' := (mkF m 41 #[.val (.int p0), .val (.int (0 : Int32)), .val (.int (1 : Int32)), .val (.int (1 : Int32)), .unset, .unset] [(.int (0 : Int32)), (.ref b47), (.ref b47)])) (fun _ kt => XS.iloadN X47.here hx rfl (hb hby at_40) rfl  kt) ?_
        refine Rch.of (T' := T47) (g' := (mkF m 42 #[.val (.int p0), .val (.int (0 : Int32)), .val (.int (1 : Int32)), .val (.int (1 : Int32)), .unset, .unset] [(.int (1 : Int32)), (.int (0 : Int32)), (.ref b47), (.ref b47)])) (fun _ kt => XS.iloadN X47.here hx rfl (hb hby at_41) rfl  kt) ?_
        obtain ⟨T48, X48, e48, st48⟩ := getS2 X47 hx hZ hown (host := "") (Or.inl (hw _ (List.mem_of_getElem? (i := 3) rfl))) Via.refl e47 ((S1.ext O0.2).ext E47) (g := (mkF m 42 #[.val (.int p0), .val (.int (0 : Int32)), .val (.int (1 : Int32)), .val (.int (1 : Int32)), .unset, .unset] [(.int (1 : Int32)), (.int (0 : Int32)), (.ref b47), (.ref b47)])) rfl (hb hby at_42)
        refine Rch.of (T' := T48) (g' := (mkF m 45 #[.val (.int p0), .val (.int (0 : Int32)), .val (.int (1 : Int32)), .val (.int (1 : Int32)), .unset, .unset] [(.ref t), (.int (1 : Int32)), (.int (0 : Int32)), (.ref b47), (.ref b47)])) st48 ?_
        obtain ⟨cq49, kq49, q49a, q49b, q49c⟩ := isOf hZ e48 ((E2.ext O0.2).ext E47)
        obtain ⟨_, _, ⟨T49, L49, k49, n49⟩, -, X49, ⟨Lc49, hQ49, l49, y49, z49⟩, st49⟩ := X48.virtualBack hx (y := (⟨"com/example/claimsmith/claimsmith/engine/GroupMapping$OnTheFly", "excludeGroups", "()Ljava/util/Set;"⟩ : MethodName)) (z := (⟨"com/example/claimsmith/claimsmith/engine/GroupMapping$OnTheFly", "excludeGroups", "()Ljava/util/Set;"⟩ : MethodName)) hown (mvT hZ (hw _ (List.mem_of_getElem? (i := 5) rfl))) (mvT hZ (hw _ (List.mem_of_getElem? (i := 6) rfl))) (notFace_of_selects (args := #[]) (mvT hZ (hw _ (List.mem_of_getElem? (i := 8) rfl)))) (mvT hZ (hw _ (List.mem_of_getElem? (i := 8) rfl))) (mvT hZ (hw _ (List.mem_of_getElem? (i := 7) rfl))) (by decide) (backOf (W := 4) (rm1 l Z a0 hw [] t u h47 n0 (Nat.le_trans Z0 E47.1) ((F2.ext O0.2).ext E47)) hZ (hw _ (List.mem_of_getElem? (i := 9) rfl)) (hw _ (List.mem_of_getElem? (i := 2) rfl)) (by decide) (by decide)) q49a q49c (g := (mkF m 45 #[.val (.int p0), .val (.int (0 : Int32)), .val (.int (1 : Int32)), .val (.int (1 : Int32)), .unset, .unset] [(.ref t), (.int (1 : Int32)), (.int (0 : Int32)), (.ref b47), (.ref b47)])) rfl (by rw [hml]; rfl) (Steps.refl _) (argsL := []) (rest := [(.int (1 : Int32)), (.int (0 : Int32)), (.ref b47), (.ref b47)]) (lenOf pd_0 rfl) rfl (by show 2 * 0 + _ ≤ _; exact Nat.le_of_eq rfl) (hb hby at_45) (fun _ _ => ⟨rfl, e48, (by decide : 1 + 0 ≤ _), (by decide : 4 + 0 ≤ _)⟩)
        dsimp only [Pt.U, Pt.locs, Pt.cells, Pt.slots] at X49 l49 y49 z49 st49 hQ49
        subst l49 y49 z49
        obtain ⟨rfl, N49q, hQ49⟩ := hQ49
        have N49 := Fr.app N0 N49q
        refine Rch.via (T' := T49) (g' := (mkF m 48 #[.val (.int p0), .val (.int (0 : Int32)), .val (.int (1 : Int32)), .val (.int (1 : Int32)), .unset, .unset] [(.ref u), (.int (1 : Int32)), (.int (0 : Int32)), (.ref b47), (.ref b47)])) st49 ?_
        refine Rch.of (T' := T49) (g' := (mkF m 49 #[.val (.int p0), .val (.int (0 : Int32)), .val (.int (1 : Int32)), .val (.int (1 : Int32)), .unset, .unset] [(.int (1 : Int32)), (.ref u), (.int (1 : Int32)), (.int (0 : Int32)), (.ref b47), (.ref b47)])) (fun _ kt => XS.iloadN X49.here hx rfl (hb hby at_48) rfl  kt) ?_
        obtain ⟨_, _, ⟨T50, L50, k50, n50⟩, -, X50, ⟨Lc50, hQ50, l50, y50, z50⟩, st50⟩ := X49.specialBack hx (y := (⟨"com/example/claimsmith/claimsmith/engine/GroupMapping$OnTheFly", "<init>", "(ZZLjava/util/Set;Z)V"⟩ : MethodName)) rfl hown (mvT hZ (hw _ (List.mem_of_getElem? (i := 12) rfl))) (mvT hZ (hw _ (List.mem_of_getElem? (i := 13) rfl))) (mvT hZ (hw _ (List.mem_of_getElem? (i := 14) rfl))) (by decide) (backOf (W := 1) (rm2 l Z a0 hw [] b47 (0 : Int32) (1 : Int32) u (1 : Int32) (.int (0 : Int32)) (.int (0 : Int32)) .null (.int (0 : Int32)) h47 n0 (Nat.le_trans Z0 E47.1) A47 ((E3.ext O0.2).ext E47) F47_createGroups F47_keepExistingGroups F47_excludeGroups F47_restrictToKnownGroups ge_b47 (Or.inl rfl) (Or.inr rfl) (Or.inr rfl)) hZ (hw _ (List.mem_of_getElem? (i := 14) rfl)) (hw _ (List.mem_of_getElem? (i := 2) rfl)) (by decide) (by decide)) (g := (mkF m 49 #[.val (.int p0), .val (.int (0 : Int32)), .val (.int (1 : Int32)), .val (.int (1 : Int32)), .unset, .unset] [(.int (1 : Int32)), (.ref u), (.int (1 : Int32)), (.int (0 : Int32)), (.ref b47), (.ref b47)])) rfl (by rw [hml]; rfl) (Steps.refl _) (a := b47) (argsL := [(.int (0 : Int32)), (.int (1 : Int32)), (.ref u), (.int (1 : Int32))]) (rest := [(.ref b47)]) (lenOf pd_1 rfl) rfl (by show 2 * 0 + _ ≤ _; exact Nat.le_of_eq rfl) (hb hby at_49) (fun _ _ => ⟨rfl, hQ49, (by decide : 1 + 0 ≤ _), (by decide : 4 + 0 ≤ _)⟩)
        dsimp only [Pt.U, Pt.locs, Pt.cells, Pt.slots] at X50 l50 y50 z50 st50 hQ50
        subst l50 y50 z50
        obtain ⟨rfl, N50q, hQ50⟩ := hQ50
        have N50 := Fr.app N49 N50q
        obtain ⟨K50, Ex50, Fa50, Fb50⟩ := hQ50
        refine Rch.via (T' := T50) (g' := (mkF m 52 #[.val (.int p0), .val (.int (0 : Int32)), .val (.int (1 : Int32)), .val (.int (1 : Int32)), .unset, .unset] [(.ref b47)])) st50 ?_
        refine Rch.of (T' := T50) (g' := (mkF m 54 #[.val (.int p0), .val (.int (0 : Int32)), .val (.int (1 : Int32)), .val (.int (1 : Int32)), .val (.ref b47), .unset] [])) (fun _ kt => XS.astore X50.here hx rfl (hb hby at_52) rfl rfl (l' := #[.val (.int p0), .val (.int (0 : Int32)), .val (.int (1 : Int32)), .val (.int (1 : Int32)), .val (.ref b47), .unset]) rfl kt) ?_
        refine Rch.of (T' := T50) (g' := (mkF m 55 #[.val (.int p0), .val (.int (0 : Int32)), .val (.int (1 : Int32)), .val (.int (1 : Int32)), .val (.ref b47), .unset] [(.int (1 : Int32))])) (fun _ kt => XS.iloadN X50.here hx rfl (hb hby at_54) rfl  kt) ?_
        refine Rch.of (T' := T50) (g' := (mkF m 58 #[.val (.int p0), .val (.int (0 : Int32)), .val (.int (1 : Int32)), .val (.int (1 : Int32)), .val (.ref b47), .unset] [])) (fun _ kt => XS.ifNo X50.here hx rfl (hb hby at_55) rfl ((if0 _ _).trans (feq ((by decide) : ¬ ((1 : Int32) = (0 : Int32)))).1) kt) ?_
        refine Rch.of (T' := T50) (g' := (mkF m 59 #[.val (.int p0), .val (.int (0 : Int32)), .val (.int (1 : Int32)), .val (.int (1 : Int32)), .val (.ref b47), .unset] [(.int (0 : Int32))])) (fun _ kt => XS.iconst X50.here hx rfl (hb hby at_58) kt) ?_
        refine Rch.of (T' := T50) (g' := (mkF m 61 #[.val (.int p0), .val (.int (0 : Int32)), .val (.int (1 : Int32)), .val (.int (1 : Int32)), .val (.ref b47), .val (.int (0 : Int32))] [])) (fun _ kt => XS.istore X50.here hx rfl (hb hby at_59) rfl (l' := #[.val (.int p0), .val (.int (0 : Int32)), .val (.int (1 : Int32)), .val (.int (1 : Int32)), .val (.ref b47), .val (.int (0 : Int32))]) rfl kt) ?_
        refine Rch.of (T' := T50) (g' := (mkF m 77 #[.val (.int p0), .val (.int (0 : Int32)), .val (.int (1 : Int32)), .val (.int (1 : Int32)), .val (.ref b47), .val (.int (0 : Int32))] [])) (fun _ kt => XS.goto X50.here hx rfl (pc0 := 61) (pc' := 77) rfl (hb hby at_61) (by decide) (by decide) kt) ?_
        refine Rch.of (T' := T50) (g' := (mkF m 79 #[.val (.int p0), .val (.int (0 : Int32)), .val (.int (1 : Int32)), .val (.int (1 : Int32)), .val (.ref b47), .val (.int (0 : Int32))] [(.ref b47)])) (fun _ kt => XS.aload X50.here hx rfl (hb hby at_77) rfl rfl kt) ?_
        obtain ⟨cq51, kq51, q51a, q51b, q51c⟩ := isOf hZ rfl Ex50
        obtain ⟨_, _, ⟨T51, L51, k51, n51⟩, -, X51, ⟨Lc51, hQ51, l51, y51, z51⟩, st51⟩ := X50.virtualBack hx (y := (⟨"com/example/claimsmith/claimsmith/engine/GroupMapping$OnTheFly", "creates", "()Z"⟩ : MethodName)) (z := (⟨"com/example/claimsmith/claimsmith/engine/GroupMapping$OnTheFly", "creates", "()Z"⟩ : MethodName)) hown (mvT hZ (hw _ (List.mem_of_getElem? (i := 37) rfl))) (mvT hZ (hw _ (List.mem_of_getElem? (i := 38) rfl))) (notFace_of_selects (args := #[]) (mvT hZ (hw _ (List.mem_of_getElem? (i := 40) rfl)))) (mvT hZ (hw _ (List.mem_of_getElem? (i := 40) rfl))) (mvT hZ (hw _ (List.mem_of_getElem? (i := 39) rfl))) (by decide) (backOf (W := 0) (rm6 l Z a0 hw [] b47 (0 : Int32) (1 : Int32) T50.heap n0 (Nat.le_trans (Nat.le_trans Z0 E47.1) K50.1) Fa50 Fb50) hZ (hw _ (List.mem_of_getElem? (i := 41) rfl)) (hw _ (List.mem_of_getElem? (i := 2) rfl)) (by decide) (by decide)) q51a q51c (g := (mkF m 79 #[.val (.int p0), .val (.int (0 : Int32)), .val (.int (1 : Int32)), .val (.int (1 : Int32)), .val (.ref b47), .val (.int (0 : Int32))] [(.ref b47)])) rfl (by rw [hml]; rfl) (Steps.refl _) (argsL := []) (rest := []) (lenOf pd_4 rfl) rfl (by show 2 * 0 + _ ≤ _; exact Nat.le_of_eq rfl) (hb hby at_79) (fun _ _ => ⟨rfl, rfl, (by decide : 1 + 0 ≤ _), (by decide : 4 + 0 ≤ _)⟩)
        dsimp only [Pt.U, Pt.locs, Pt.cells, Pt.slots] at X51 l51 y51 z51 st51 hQ51
        subst l51 y51 z51
        obtain ⟨rfl, N51q, hQ51⟩ := hQ51
        have N51 := Fr.app N50 N51q
        refine Rch.via (T' := T51) (g' := (mkF m 82 #[.val (.int p0), .val (.int (0 : Int32)), .val (.int (1 : Int32)), .val (.int (1 : Int32)), .val (.ref b47), .val (.int (0 : Int32))] [(.int (own_c (0 : Int32) (1 : Int32)))])) st51 ?_
        rw [show (own_c (0 : Int32) (1 : Int32)) = (0 : Int32) from by decide]
        refine Rch.of (T' := T51) (g' := (mkF m 84 #[.val (.int p0), .val (.int (0 : Int32)), .val (.int (1 : Int32)), .val (.int (1 : Int32)), .val (.ref b47), .val (.int (0 : Int32))] [(.int (0 : Int32)), (.int (0 : Int32))])) (fun _ kt => XS.iload X51.here hx rfl (hb hby at_82) rfl  kt) ?_
        refine Rch.of (T' := T51) (g' := (mkF m 87 #[.val (.int p0), .val (.int (0 : Int32)), .val (.int (1 : Int32)), .val (.int (1 : Int32)), .val (.ref b47), .val (.int (0 : Int32))] [])) (fun _ kt => XS.icmpNo X51.here hx rfl (hb hby at_84) rfl (teq ((by decide) : (0 : Int32) = (0 : Int32))).2 kt) ?_
        refine Rch.of (T' := T51) (g' := (mkF m 88 #[.val (.int p0), .val (.int (0 : Int32)), .val (.int (1 : Int32)), .val (.int (1 : Int32)), .val (.ref b47), .val (.int (0 : Int32))] [(.int (1 : Int32))])) (fun _ kt => XS.iconst X51.here hx rfl (hb hby at_87) kt) ?_
        refine Rch.of (T' := T51) (g' := (mkF m 92 #[.val (.int p0), .val (.int (0 : Int32)), .val (.int (1 : Int32)), .val (.int (1 : Int32)), .val (.ref b47), .val (.int (0 : Int32))] [(.int (1 : Int32))])) (fun _ kt => XS.goto X51.here hx rfl (pc0 := 88) (pc' := 92) rfl (hb hby at_88) (by decide) (by decide) kt) ?_
        exact Rch.retN X51 hx (t := .boolean) hret (by simp) hlk (hb hby at_92) (fun U hU hF => hK _ U _ _ _ (by show Q_rm0 Z p0 t u h0 n0 _ U.heap _; rw [hU, hQ51]; exact ⟨rfl, N51, trivial⟩) hF (by decide) (by decide))
  · skip
    refine Rch.of (T' := T0) (g' := (mkF m 6 #[.val (.int p0), .unset, .unset, .unset, .unset, .unset] [])) (fun _ kt => XS.ifNo X0.here hx rfl (hb hby at_3) rfl ((if0 _ _).trans (feq c28).1) kt) ?_
    refine Rch.of (T' := T0) (g' := (mkF m 7 #[.val (.int p0), .unset, .unset, .unset, .unset, .unset] [(.int (1 : Int32))])) (fun _ kt => XS.iconst X0.here hx rfl (hb hby at_6) kt) ?_
    refine Rch.of (T' := T0) (g' := (mkF m 11 #[.val (.int p0), .unset, .unset, .unset, .unset, .unset] [(.int (1 : Int32))])) (fun _ kt => XS.goto X0.here hx rfl (pc0 := 7) (pc' := 11) rfl (hb hby at_7) (by decide) (by decide) kt) ?_
    refine Rch.of (T' := T0) (g' := (mkF m 12 #[.val (.int p0), .val (.int (1 : Int32)), .unset, .unset, .unset, .unset] [])) (fun _ kt => XS.istoreN X0.here hx rfl (hb hby at_11) rfl (l' := #[.val (.int p0), .val (.int (1 : Int32)), .unset, .unset, .unset, .unset]) rfl kt) ?_
    refine Rch.of (T' := T0) (g' := (mkF m 13 #[.val (.int p0), .val (.int (1 : Int32)), .unset, .unset, .unset, .unset] [(.int p0)])) (fun _ kt => XS.iloadN X0.here hx rfl (hb hby at_12) rfl  kt) ?_
    refine Rch.of (T' := T0) (g' := (mkF m 14 #[.val (.int p0), .val (.int (1 : Int32)), .unset, .unset, .unset, .unset] [(.int (2 : Int32)), (.int p0)])) (fun _ kt => XS.iconst X0.here hx rfl (hb hby at_13) kt) ?_
    refine Rch.of (T' := T0) (g' := (mkF m 15 #[.val (.int p0), .val (.int (1 : Int32)), .unset, .unset, .unset, .unset] [(.int (p0 &&& (2 : Int32)))])) (fun _ kt => XS.iand X0.here hx rfl (hb hby at_14) rfl kt) ?_
    by_cases c52 : (p0 &&& (2 : Int32)) = (0 : Int32)
    · skip
      refine Rch.of (T' := T0) (g' := (mkF m 22 #[.val (.int p0), .val (.int (1 : Int32)), .unset, .unset, .unset, .unset] [])) (fun _ kt => XS.ifYes X0.here hx rfl (pc0 := 15) (pc' := 22) rfl (hb hby at_15) rfl ((if0 _ _).trans (teq c52).1) (by decide) (by decide) kt) ?_
      refine Rch.of (T' := T0) (g' := (mkF m 23 #[.val (.int p0), .val (.int (1 : Int32)), .unset, .unset, .unset, .unset] [(.int (0 : Int32))])) (fun _ kt => XS.iconst X0.here hx rfl (hb hby at_22) kt) ?_
      refine Rch.of (T' := T0) (g' := (mkF m 24 #[.val (.int p0), .val (.int (1 : Int32)), .val (.int (0 : Int32)), .unset, .unset, .unset] [])) (fun _ kt => XS.istoreN X0.here hx rfl (hb hby at_23) rfl (l' := #[.val (.int p0), .val (.int (1 : Int32)), .val (.int (0 : Int32)), .unset, .unset, .unset]) rfl kt) ?_
      refine Rch.of (T' := T0) (g' := (mkF m 25 #[.val (.int p0), .val (.int (1 : Int32)), .val (.int (0 : Int32)), .unset, .unset, .unset] [(.int p0)])) (fun _ kt => XS.iloadN X0.here hx rfl (hb hby at_24) rfl  kt) ?_
      refine Rch.of (T' := T0) (g' := (mkF m 26 #[.val (.int p0), .val (.int (1 : Int32)), .val (.int (0 : Int32)), .unset, .unset, .unset] [(.int (4 : Int32)), (.int p0)])) (fun _ kt => XS.iconst X0.here hx rfl (hb hby at_25) kt) ?_
      refine Rch.of (T' := T0) (g' := (mkF m 27 #[.val (.int p0), .val (.int (1 : Int32)), .val (.int (0 : Int32)), .unset, .unset, .unset] [(.int (p0 &&& (4 : Int32)))])) (fun _ kt => XS.iand X0.here hx rfl (hb hby at_26) rfl kt) ?_
      by_cases c53 : (p0 &&& (4 : Int32)) = (0 : Int32)
      · skip
        refine Rch.of (T' := T0) (g' := (mkF m 34 #[.val (.int p0), .val (.int (1 : Int32)), .val (.int (0 : Int32)), .unset, .unset, .unset] [])) (fun _ kt => XS.ifYes X0.here hx rfl (pc0 := 27) (pc' := 34) rfl (hb hby at_27) rfl ((if0 _ _).trans (teq c53).1) (by decide) (by decide) kt) ?_
        refine Rch.of (T' := T0) (g' := (mkF m 35 #[.val (.int p0), .val (.int (1 : Int32)), .val (.int (0 : Int32)), .unset, .unset, .unset] [(.int (0 : Int32))])) (fun _ kt => XS.iconst X0.here hx rfl (hb hby at_34) kt) ?_
        refine Rch.of (T' := T0) (g' := (mkF m 36 #[.val (.int p0), .val (.int (1 : Int32)), .val (.int (0 : Int32)), .val (.int (0 : Int32)), .unset, .unset] [])) (fun _ kt => XS.istoreN X0.here hx rfl (hb hby at_35) rfl (l' := #[.val (.int p0), .val (.int (1 : Int32)), .val (.int (0 : Int32)), .val (.int (0 : Int32)), .unset, .unset]) rfl kt) ?_
        obtain ⟨T54, h54, X54, e54, E54, A54, D54, -, st54⟩ := newO X0 hx hZ hown (hw _ (List.mem_of_getElem? (i := 0) rfl)) (hw _ (List.mem_of_getElem? (i := 1) rfl)) (hw _ (List.mem_of_getElem? (i := 2) rfl)) e0 (g := (mkF m 36 #[.val (.int p0), .val (.int (1 : Int32)), .val (.int (0 : Int32)), .val (.int (0 : Int32)), .unset, .unset] [])) rfl (hb hby at_36) (by decide) (by decide)
        obtain ⟨b54, g54⟩ : ∃ z, z = h0.size := ⟨_, rfl⟩
        have ne_t_b54 : t ≠ b54 := Nat.ne_of_lt (Nat.lt_of_lt_of_le (E2.ext O0.2).lt (Nat.le_of_eq g54.symm))
        have ne_u_b54 : u ≠ b54 := Nat.ne_of_lt (Nat.lt_of_lt_of_le (E3.ext O0.2).lt (Nat.le_of_eq g54.symm))
        have ge_b54 : n0 ≤ b54 := Nat.le_trans Z0 (Nat.le_of_eq g54.symm)
        have sz_b54 : h0.size ≤ b54 := Nat.le_trans (Keep.refl h0 []).1 (Nat.le_of_eq g54.symm)
        rw [← g54] at A54 D54 st54
        have F54_excludeGroups : Fld Z h54 b54 "com/example/claimsmith/claimsmith/engine/GroupMapping$OnTheFly" "excludeGroups" "Ljava/util/Set;" .null := D54 (Or.inr (hw _ (List.mem_of_getElem? (i := 11) rfl))) (ty := (.object "java/util/Set")) (by decide)
        have F54_createGroups : Fld Z h54 b54 "com/example/claimsmith/claimsmith/engine/GroupMapping$OnTheFly" "createGroups" "Z" (.int (0 : Int32)) := D54 (Or.inr (hw _ (List.mem_of_getElem? (i := 32) rfl))) (ty := .boolean) (by decide)
        have F54_keepExistingGroups : Fld Z h54 b54 "com/example/claimsmith/claimsmith/engine/GroupMapping$OnTheFly" "keepExistingGroups" "Z" (.int (0 : Int32)) := D54 (Or.inr (hw _ (List.mem_of_getElem? (i := 34) rfl))) (ty := .boolean) (by decide)
        have F54_restrictToKnownGroups : Fld Z h54 b54 "com/example/claimsmith/claimsmith/engine/GroupMapping$OnTheFly" "restrictToKnownGroups" "Z" (.int (0 : Int32)) := D54 (Or.inr (hw _ (List.mem_of_getElem? (i := 36) rfl))) (ty := .boolean) (by decide)
        refine Rch.of (T' := T54) (g' := (mkF m 39 #[.val (.int p0), .val (.int (1 : Int32)), .val (.int (0 : Int32)), .val (.int (0 : Int32)), .unset, .unset] [(.ref b54)])) st54 ?_
        refine Rch.of (T' := T54) (g' := (mkF m 40 #[.val (.int p0), .val (.int (1 : Int32)), .val (.int (0 : Int32)), .val (.int (0 : Int32)), .unset, .unset] [(.ref b54), (.ref b54)])) (fun _ kt => XS.dup X54.here hx rfl (hb hby at_39) rfl rfl kt) ?_
        refine Rch.of (T' := T54) (g' := (mkF m 41 #[.val (.int p0), .val (.int (1 : Int32)), .val (.int (0 : Int32)), .val (.int (0 : Int32)), .unset, .unset] [(.int (1 : Int32)), (.ref b54), (.ref b54)])) (fun _ kt => XS.iloadN X54.here hx rfl (hb hby at_40) rfl  kt) ?_
        refine Rch.of (T' := T54) (g' := (mkF m 42 #[.val (.int p0), .val (.int (1 : Int32)), .val (.int (0 : Int32)), .val (.int (0 : Int32)), .unset, .unset] [(.int (0 : Int32)), (.int (1 : Int32)), (.ref b54), (.ref b54)])) (fun _ kt => XS.iloadN X54.here hx rfl (hb hby at_41) rfl  kt) ?_
        obtain ⟨T55, X55, e55, st55⟩ := getS2 X54 hx hZ hown (host := "") (Or.inl (hw _ (List.mem_of_getElem? (i := 3) rfl))) Via.refl e54 ((S1.ext O0.2).ext E54) (g := (mkF m 42 #[.val (.int p0), .val (.int (1 : Int32)), .val (.int (0 : Int32)), .val (.int (0 : Int32)), .unset, .unset] [(.int (0 : Int32)), (.int (1 : Int32)), (.ref b54), (.ref b54)])) rfl (hb hby at_42)
        refine Rch.of (T' := T55) (g' := (mkF m 45 #[.val (.int p0), .val (.int (1 : Int32)), .val (.int (0 : Int32)), .val (.int (0 : Int32)), .unset, .unset] [(.ref t), (.int (0 : Int32)), (.int (1 : Int32)), (.ref b54), (.ref b54)])) st55 ?_
        obtain ⟨cq56, kq56, q56a, q56b, q56c⟩ := isOf hZ e55 ((E2.ext O0.2).ext E54)
        obtain ⟨_, _, ⟨T56, L56, k56, n56⟩, -, X56, ⟨Lc56, hQ56, l56, y56, z56⟩, st56⟩ := X55.virtualBack hx (y := (⟨"com/example/claimsmith/claimsmith/engine/GroupMapping$OnTheFly", "excludeGroups", "()Ljava/util/Set;"⟩ : MethodName)) (z := (⟨"com/example/claimsmith/claimsmith/engine/GroupMapping$OnTheFly", "excludeGroups", "()Ljava/util/Set;"⟩ : MethodName)) hown (mvT hZ (hw _ (List.mem_of_getElem? (i := 5) rfl))) (mvT hZ (hw _ (List.mem_of_getElem? (i := 6) rfl))) (notFace_of_selects (args := #[]) (mvT hZ (hw _ (List.mem_of_getElem? (i := 8) rfl)))) (mvT hZ (hw _ (List.mem_of_getElem? (i := 8) rfl))) (mvT hZ (hw _ (List.mem_of_getElem? (i := 7) rfl))) (by decide) (backOf (W := 4) (rm1 l Z a0 hw [] t u h54 n0 (Nat.le_trans Z0 E54.1) ((F2.ext O0.2).ext E54)) hZ (hw _ (List.mem_of_getElem? (i := 9) rfl)) (hw _ (List.mem_of_getElem? (i := 2) rfl)) (by decide) (by decide)) q56a q56c (g := (mkF m 45 #[.val (.int p0), .val (.int (1 : Int32)), .val (.int (0 : Int32)), .val (.int (0 : Int32)), .unset, .unset] [(.ref t), (.int (0 : Int32)), (.int (1 : Int32)), (.ref b54), (.ref b54)])) rfl (by rw [hml]; rfl) (Steps.refl _) (argsL := []) (rest := [(.int (0 : Int32)), (.int (1 : Int32)), (.ref b54), (.ref b54)]) (lenOf pd_0 rfl) rfl (by show 2 * 0 + _ ≤ _; exact Nat.le_of_eq rfl) (hb hby at_45) (fun _ _ => ⟨rfl, e55, (by decide : 1 + 0 ≤ _), (by decide : 4 + 0 ≤ _)⟩)
        dsimp only [Pt.U, Pt.locs, Pt.cells, Pt.slots] at X56 l56 y56 z56 st56 hQ56
        subst l56 y56 z56
        obtain ⟨rfl, N56q, hQ56⟩ := hQ56
        have N56 := Fr.app N0 N56q
        refine Rch.via (T' := T56) (g' := (mkF m 48 #[.val (.int p0), .val (.int (1 : Int32)), .val (.int (0 : Int32)), .val (.int (0 : Int32)), .unset, .unset] [(.ref u), (.int (0 : Int32)), (.int (1 : Int32)), (.ref b54), (.ref b54)])) st56 ?_
        refine Rch.of (T' := T56) (g' := (mkF m 49 #[.val (.int p0), .val (.int (1 : Int32)), .val (.int (0 : Int32)), .val (.int (0 : Int32)), .unset, .unset] [(.int (0 : Int32)), (.ref u), (.int (0 : Int32)), (.int (1 : Int32)), (.ref b54), (.ref b54)])) (fun _ kt => XS.iloadN X56.here hx rfl (hb hby at_48) rfl  kt) ?_
        obtain ⟨_, _, ⟨T57, L57, k57, n57⟩, -, X57, ⟨Lc57, hQ57, l57, y57, z57⟩, st57⟩ := X56.specialBack hx (y := (⟨"com/example/claimsmith/claimsmith/engine/GroupMapping$OnTheFly", "<init>", "(ZZLjava/util/Set;Z)V"⟩ : MethodName)) rfl hown (mvT hZ (hw _ (List.mem_of_getElem? (i := 12) rfl))) (mvT hZ (hw _ (List.mem_of_getElem? (i := 13) rfl))) (mvT hZ (hw _ (List.mem_of_getElem? (i := 14) rfl))) (by decide) (backOf (W := 1) (rm2 l Z a0 hw [] b54 (1 : Int32) (0 : Int32) u (0 : Int32) (.int (0 : Int32)) (.int (0 : Int32)) .null (.int (0 : Int32)) h54 n0 (Nat.le_trans Z0 E54.1) A54 ((E3.ext O0.2).ext E54) F54_createGroups F54_keepExistingGroups F54_excludeGroups F54_restrictToKnownGroups ge_b54 (Or.inr rfl) (Or.inl rfl) (Or.inl rfl)) hZ (hw _ (List.mem_of_getElem? (i := 14) rfl)) (hw _ (List.mem_of_getElem? (i := 2) rfl)) (by decide) (by decide)) (g := (mkF m 49 #[.val (.int p0), .val (.int (1 : Int32)), .val (.int (0 : Int32)), .val (.int (0 : Int32)), .unset, .unset] [(.int (0 : Int32)), (.ref u), (.int (0 : Int32)), (.int (1 : Int32)), (.ref b54), (.ref b54)])) rfl (by rw [hml]; rfl) (Steps.refl _) (a := b54) (argsL := [(.int (1 : Int32)), (.int (0 : Int32)), (.ref u), (.int (0 : Int32))]) (rest := [(.ref b54)]) (lenOf pd_1 rfl) rfl (by show 2 * 0 + _ ≤ _; exact Nat.le_of_eq rfl) (hb hby at_49) (fun _ _ => ⟨rfl, hQ56, (by decide : 1 + 0 ≤ _), (by decide : 4 + 0 ≤ _)⟩)
        dsimp only [Pt.U, Pt.locs, Pt.cells, Pt.slots] at X57 l57 y57 z57 st57 hQ57
        subst l57 y57 z57
        obtain ⟨rfl, N57q, hQ57⟩ := hQ57
        have N57 := Fr.app N56 N57q
        obtain ⟨K57, Ex57, Fa57, Fb57⟩ := hQ57
        refine Rch.via (T' := T57) (g' := (mkF m 52 #[.val (.int p0), .val (.int (1 : Int32)), .val (.int (0 : Int32)), .val (.int (0 : Int32)), .unset, .unset] [(.ref b54)])) st57 ?_
        refine Rch.of (T' := T57) (g' := (mkF m 54 #[.val (.int p0), .val (.int (1 : Int32)), .val (.int (0 : Int32)), .val (.int (0 : Int32)), .val (.ref b54), .unset] [])) (fun _ kt => XS.astore X57.here hx rfl (hb hby at_52) rfl rfl (l' := #[.val (.int p0), .val (.int (1 : Int32)), .val (.int (0 : Int32)), .val (.int (0 : Int32)), .val (.ref b54), .unset]) rfl kt) ?_
        refine Rch.of (T' := T57) (g' := (mkF m 55 #[.val (.int p0), .val (.int (1 : Int32)), .val (.int (0 : Int32)), .val (.int (0 : Int32)), .val (.ref b54), .unset] [(.int (0 : Int32))])) (fun _ kt => XS.iloadN X57.here hx rfl (hb hby at_54) rfl  kt) ?_
        refine Rch.of (T' := T57) (g' := (mkF m 64 #[.val (.int p0), .val (.int (1 : Int32)), .val (.int (0 : Int32)), .val (.int (0 : Int32)), .val (.ref b54), .unset] [])) (fun _ kt => XS.ifYes X57.here hx rfl (pc0 := 55) (pc' := 64) rfl (hb hby at_55) rfl ((if0 _ _).trans (teq ((by decide) : (0 : Int32) = (0 : Int32))).1) (by decide) (by decide) kt) ?_
        refine Rch.of (T' := T57) (g' := (mkF m 65 #[.val (.int p0), .val (.int (1 : Int32)), .val (.int (0 : Int32)), .val (.int (0 : Int32)), .val (.ref b54), .unset] [(.int (1 : Int32))])) (fun _ kt => XS.iloadN X57.here hx rfl (hb hby at_64) rfl  kt) ?_
        refine Rch.of (T' := T57) (g' := (mkF m 68 #[.val (.int p0), .val (.int (1 : Int32)), .val (.int (0 : Int32)), .val (.int (0 : Int32)), .val (.ref b54), .unset] [])) (fun _ kt => XS.ifNo X57.here hx rfl (hb hby at_65) rfl ((if0 _ _).trans (feq ((by decide) : ¬ ((1 : Int32) = (0 : Int32)))).1) kt) ?_
        refine Rch.of (T' := T57) (g' := (mkF m 69 #[.val (.int p0), .val (.int (1 : Int32)), .val (.int (0 : Int32)), .val (.int (0 : Int32)), .val (.ref b54), .unset] [(.int (1 : Int32))])) (fun _ kt => XS.iconst X57.here hx rfl (hb hby at_68) kt) ?_
        refine Rch.of (T' := T57) (g' := (mkF m 71 #[.val (.int p0), .val (.int (1 : Int32)), .val (.int (0 : Int32)), .val (.int (0 : Int32)), .val (.ref b54), .val (.int (1 : Int32))] [])) (fun _ kt => XS.istore X57.here hx rfl (hb hby at_69) rfl (l' := #[.val (.int p0), .val (.int (1 : Int32)), .val (.int (0 : Int32)), .val (.int (0 : Int32)), .val (.ref b54), .val (.int (1 : Int32))]) rfl kt) ?_
        refine Rch.of (T' := T57) (g' := (mkF m 77 #[.val (.int p0), .val (.int (1 : Int32)), .val (.int (0 : Int32)), .val (.int (0 : Int32)), .val (.ref b54), .val (.int (1 : Int32))] [])) (fun _ kt => XS.goto X57.here hx rfl (pc0 := 71) (pc' := 77) rfl (hb hby at_71) (by decide) (by decide) kt) ?_
        refine Rch.of (T' := T57) (g' := (mkF m 79 #[.val (.int p0), .val (.int (1 : Int32)), .val (.int (0 : Int32)), .val (.int (0 : Int32)), .val (.ref b54), .val (.int (1 : Int32))] [(.ref b54)])) (fun _ kt => XS.aload X57.here hx rfl (hb hby at_77) rfl rfl kt) ?_
        obtain ⟨cq58, kq58, q58a, q58b, q58c⟩ := isOf hZ rfl Ex57
        obtain ⟨_, _, ⟨T58, L58, k58, n58⟩, -, X58, ⟨Lc58, hQ58, l58, y58, z58⟩, st58⟩ := X57.virtualBack hx (y := (⟨"com/example/claimsmith/claimsmith/engine/GroupMapping$OnTheFly", "creates", "()Z"⟩ : MethodName)) (z := (⟨"com/example/claimsmith/claimsmith/engine/GroupMapping$OnTheFly", "creates", "()Z"⟩ : MethodName)) hown (mvT hZ (hw _ (List.mem_of_getElem? (i := 37) rfl))) (mvT hZ (hw _ (List.mem_of_getElem? (i := 38) rfl))) (notFace_of_selects (args := #[]) (mvT hZ (hw _ (List.mem_of_getElem? (i := 40) rfl)))) (mvT hZ (hw _ (List.mem_of_getElem? (i := 40) rfl))) (mvT hZ (hw _ (List.mem_of_getElem? (i := 39) rfl))) (by decide) (backOf (W := 0) (rm6 l Z a0 hw [] b54 (1 : Int32) (0 : Int32) T57.heap n0 (Nat.le_trans (Nat.le_trans Z0 E54.1) K57.1) Fa57 Fb57) hZ (hw _ (List.mem_of_getElem? (i := 41) rfl)) (hw _ (List.mem_of_getElem? (i := 2) rfl)) (by decide) (by decide)) q58a q58c (g := (mkF m 79 #[.val (.int p0), .val (.int (1 : Int32)), .val (.int (0 : Int32)), .val (.int (0 : Int32)), .val (.ref b54), .val (.int (1 : Int32))] [(.ref b54)])) rfl (by rw [hml]; rfl) (Steps.refl _) (argsL := []) (rest := []) (lenOf pd_4 rfl) rfl (by show 2 * 0 + _ ≤ _; exact Nat.le_of_eq rfl) (hb hby at_79) (fun _ _ => ⟨rfl, rfl, (by decide : 1 + 0 ≤ _), (by decide : 4 + 0 ≤ _)⟩)
        dsimp only [Pt.U, Pt.locs, Pt.cells, Pt.slots] at X58 l58 y58 z58 st58 hQ58
        subst l58 y58 z58
        obtain ⟨rfl, N58q, hQ58⟩ := hQ58
        have N58 := Fr.app N57 N58q
        refine Rch.via (T' := T58) (g' := (mkF m 82 #[.val (.int p0), .val (.int (1 : Int32)), .val (.int (0 : Int32)), .val (.int (0 : Int32)), .val (.ref b54), .val (.int (1 : Int32))] [(.int (own_c (1 : Int32) (0 : Int32)))])) st58 ?_
        rw [show (own_c (1 : Int32) (0 : Int32)) = (1 : Int32) from by decide]
        refine Rch.of (T' := T58) (g' := (mkF m 84 #[.val (.int p0), .val (.int (1 : Int32)), .val (.int (0 : Int32)), .val (.int (0 : Int32)), .val (.ref b54), .val (.int (1 : Int32))] [(.int (1 : Int32)), (.int (1 : Int32))])) (fun _ kt => XS.iload X58.here hx rfl (hb hby at_82) rfl  kt) ?_
        refine Rch.of (T' := T58) (g' := (mkF m 87 #[.val (.int p0), .val (.int (1 : Int32)), .val (.int (0 : Int32)), .val (.int (0 : Int32)), .val (.ref b54), .val (.int (1 : Int32))] [])) (fun _ kt => XS.icmpNo X58.here hx rfl (hb hby at_84) rfl (teq ((by decide) : (1 : Int32) = (1 : Int32))).2 kt) ?_
        refine Rch.of (T' := T58) (g' := (mkF m 88 #[.val (.int p0), .val (.int (1 : Int32)), .val (.int (0 : Int32)), .val (.int (0 : Int32)), .val (.ref b54), .val (.int (1 : Int32))] [(.int (1 : Int32))])) (fun _ kt => XS.iconst X58.here hx rfl (hb hby at_87) kt) ?_
        refine Rch.of (T' := T58) (g' := (mkF m 92 #[.val (.int p0), .val (.int (1 : Int32)), .val (.int (0 : Int32)), .val (.int (0 : Int32)), .val (.ref b54), .val (.int (1 : Int32))] [(.int (1 : Int32))])) (fun _ kt => XS.goto X58.here hx rfl (pc0 := 88) (pc' := 92) rfl (hb hby at_88) (by decide) (by decide) kt) ?_
        exact Rch.retN X58 hx (t := .boolean) hret (by simp) hlk (hb hby at_92) (fun U hU hF => hK _ U _ _ _ (by show Q_rm0 Z p0 t u h0 n0 _ U.heap _; rw [hU, hQ58]; exact ⟨rfl, N58, trivial⟩) hF (by decide) (by decide))
      · skip
        refine Rch.of (T' := T0) (g' := (mkF m 30 #[.val (.int p0), .val (.int (1 : Int32)), .val (.int (0 : Int32)), .unset, .unset, .unset] [])) (fun _ kt => XS.ifNo X0.here hx rfl (hb hby at_27) rfl ((if0 _ _).trans (feq c53).1) kt) ?_
        refine Rch.of (T' := T0) (g' := (mkF m 31 #[.val (.int p0), .val (.int (1 : Int32)), .val (.int (0 : Int32)), .unset, .unset, .unset] [(.int (1 : Int32))])) (fun _ kt => XS.iconst X0.here hx rfl (hb hby at_30) kt) ?_
        refine Rch.of (T' := T0) (g' := (mkF m 35 #[.val (.int p0), .val (.int (1 : Int32)), .val (.int (0 : Int32)), .unset, .unset, .unset] [(.int (1 : Int32))])) (fun _ kt => XS.goto X0.here hx rfl (pc0 := 31) (pc' := 35) rfl (hb hby at_31) (by decide) (by decide) kt) ?_
        refine Rch.of (T' := T0) (g' := (mkF m 36 #[.val (.int p0), .val (.int (1 : Int32)), .val (.int (0 : Int32)), .val (.int (1 : Int32)), .unset, .unset] [])) (fun _ kt => XS.istoreN X0.here hx rfl (hb hby at_35) rfl (l' := #[.val (.int p0), .val (.int (1 : Int32)), .val (.int (0 : Int32)), .val (.int (1 : Int32)), .unset, .unset]) rfl kt) ?_
        obtain ⟨T59, h59, X59, e59, E59, A59, D59, -, st59⟩ := newO X0 hx hZ hown (hw _ (List.mem_of_getElem? (i := 0) rfl)) (hw _ (List.mem_of_getElem? (i := 1) rfl)) (hw _ (List.mem_of_getElem? (i := 2) rfl)) e0 (g := (mkF m 36 #[.val (.int p0), .val (.int (1 : Int32)), .val (.int (0 : Int32)), .val (.int (1 : Int32)), .unset, .unset] [])) rfl (hb hby at_36) (by decide) (by decide)
        obtain ⟨b59, g59⟩ : ∃ z, z = h0.size := ⟨_, rfl⟩
        have ne_t_b59 : t ≠ b59 := Nat.ne_of_lt (Nat.lt_of_lt_of_le (E2.ext O0.2).lt (Nat.le_of_eq g59.symm))
        have ne_u_b59 : u ≠ b59 := Nat.ne_of_lt (Nat.lt_of_lt_of_le (E3.ext O0.2).lt (Nat.le_of_eq g59.symm))
        have ge_b59 : n0 ≤ b59 := Nat.le_trans Z0 (Nat.le_of_eq g59.symm)
        have sz_b59 : h0.size ≤ b59 := Nat.le_trans (Keep.refl h0 []).1 (Nat.le_of_eq g59.symm)
        rw [← g59] at A59 D59 st59
        have F59_excludeGroups : Fld Z h59 b59 "com/example/claimsmith/claimsmith/engine/GroupMapping$OnTheFly" "excludeGroups" "Ljava/util/Set;" .null := D59 (Or.inr (hw _ (List.mem_of_getElem? (i := 11) rfl))) (ty := (.object "java/util/Set")) (by decide)
        have F59_createGroups : Fld Z h59 b59 "com/example/claimsmith/claimsmith/engine/GroupMapping$OnTheFly" "createGroups" "Z" (.int (0 : Int32)) := D59 (Or.inr (hw _ (List.mem_of_getElem? (i := 32) rfl))) (ty := .boolean) (by decide)
        have F59_keepExistingGroups : Fld Z h59 b59 "com/example/claimsmith/claimsmith/engine/GroupMapping$OnTheFly" "keepExistingGroups" "Z" (.int (0 : Int32)) := D59 (Or.inr (hw _ (List.mem_of_getElem? (i := 34) rfl))) (ty := .boolean) (by decide)
        have F59_restrictToKnownGroups : Fld Z h59 b59 "com/example/claimsmith/claimsmith/engine/GroupMapping$OnTheFly" "restrictToKnownGroups" "Z" (.int (0 : Int32)) := D59 (Or.inr (hw _ (List.mem_of_getElem? (i := 36) rfl))) (ty := .boolean) (by decide)
        refine Rch.of (T' := T59) (g' := (mkF m 39 #[.val (.int p0), .val (.int (1 : Int32)), .val (.int (0 : Int32)), .val (.int (1 : Int32)), .unset, .unset] [(.ref b59)])) st59 ?_
        refine Rch.of (T' := T59) (g' := (mkF m 40 #[.val (.int p0), .val (.int (1 : Int32)), .val (.int (0 : Int32)), .val (.int (1 : Int32)), .unset, .unset] [(.ref b59), (.ref b59)])) (fun _ kt => XS.dup X59.here hx rfl (hb hby at_39) rfl rfl kt) ?_
        refine Rch.of (T' := T59) (g' := (mkF m 41 #[.val (.int p0), .val (.int (1 : Int32)), .val (.int (0 : Int32)), .val (.int (1 : Int32)), .unset, .unset] [(.int (1 : Int32)), (.ref b59), (.ref b59)])) (fun _ kt => XS.iloadN X59.here hx rfl (hb hby at_40) rfl  kt) ?_
        refine Rch.of (T' := T59) (g' := (mkF m 42 #[.val (.int p0), .val (.int (1 : Int32)), .val (.int (0 : Int32)), .val (.int (1 : Int32)), .unset, .unset] [(.int (0 : Int32)), (.int (1 : Int32)), (.ref b59), (.ref b59)])) (fun _ kt => XS.iloadN X59.here hx rfl (hb hby at_41) rfl  kt) ?_
        obtain ⟨T60, X60, e60, st60⟩ := getS2 X59 hx hZ hown (host := "") (Or.inl (hw _ (List.mem_of_getElem? (i := 3) rfl))) Via.refl e59 ((S1.ext O0.2).ext E59) (g := (mkF m 42 #[.val (.int p0), .val (.int (1 : Int32)), .val (.int (0 : Int32)), .val (.int (1 : Int32)), .unset, .unset] [(.int (0 : Int32)), (.int (1 : Int32)), (.ref b59), (.ref b59)])) rfl (hb hby at_42)
        refine Rch.of (T' := T60) (g' := (mkF m 45 #[.val (.int p0), .val (.int (1 : Int32)), .val (.int (0 : Int32)), .val (.int (1 : Int32)), .unset, .unset] [(.ref t), (.int (0 : Int32)), (.int (1 : Int32)), (.ref b59), (.ref b59)])) st60 ?_
        obtain ⟨cq61, kq61, q61a, q61b, q61c⟩ := isOf hZ e60 ((E2.ext O0.2).ext E59)
        obtain ⟨_, _, ⟨T61, L61, k61, n61⟩, -, X61, ⟨Lc61, hQ61, l61, y61, z61⟩, st61⟩ := X60.virtualBack hx (y := (⟨"com/example/claimsmith/claimsmith/engine/GroupMapping$OnTheFly", "excludeGroups", "()Ljava/util/Set;"⟩ : MethodName)) (z := (⟨"com/example/claimsmith/claimsmith/engine/GroupMapping$OnTheFly", "excludeGroups", "()Ljava/util/Set;"⟩ : MethodName)) hown (mvT hZ (hw _ (List.mem_of_getElem? (i := 5) rfl))) (mvT hZ (hw _ (List.mem_of_getElem? (i := 6) rfl))) (notFace_of_selects (args := #[]) (mvT hZ (hw _ (List.mem_of_getElem? (i := 8) rfl)))) (mvT hZ (hw _ (List.mem_of_getElem? (i := 8) rfl))) (mvT hZ (hw _ (List.mem_of_getElem? (i := 7) rfl))) (by decide) (backOf (W := 4) (rm1 l Z a0 hw [] t u h59 n0 (Nat.le_trans Z0 E59.1) ((F2.ext O0.2).ext E59)) hZ (hw _ (List.mem_of_getElem? (i := 9) rfl)) (hw _ (List.mem_of_getElem? (i := 2) rfl)) (by decide) (by decide)) q61a q61c (g := (mkF m 45 #[.val (.int p0), .val (.int (1 : Int32)), .val (.int (0 : Int32)), .val (.int (1 : Int32)), .unset, .unset] [(.ref t), (.int (0 : Int32)), (.int (1 : Int32)), (.ref b59), (.ref b59)])) rfl (by rw [hml]; rfl) (Steps.refl _) (argsL := []) (rest := [(.int (0 : Int32)), (.int (1 : Int32)), (.ref b59), (.ref b59)]) (lenOf pd_0 rfl) rfl (by show 2 * 0 + _ ≤ _; exact Nat.le_of_eq rfl) (hb hby at_45) (fun _ _ => ⟨rfl, e60, (by decide : 1 + 0 ≤ _), (by decide : 4 + 0 ≤ _)⟩)
        dsimp only [Pt.U, Pt.locs, Pt.cells, Pt.slots] at X61 l61 y61 z61 st61 hQ61
        subst l61 y61 z61
        obtain ⟨rfl, N61q, hQ61⟩ := hQ61
        have N61 := Fr.app N0 N61q
        refine Rch.via (T' := T61) (g' := (mkF m 48 #[.val (.int p0), .val (.int (1 : Int32)), .val (.int (0 : Int32)), .val (.int (1 : Int32)), .unset, .unset] [(.ref u), (.int (0 : Int32)), (.int (1 : Int32)), (.ref b59), (.ref b59)])) st61 ?_
        refine Rch.of (T' := T61) (g' := (mkF m 49 #[.val (.int p0), .val (.int (1 : Int32)), .val (.int (0 : Int32)), .val (.int (1 : Int32)), .unset, .unset] [(.int (1 : Int32)), (.ref u), (.int (0 : Int32)), (.int (1 : Int32)), (.ref b59), (.ref b59)])) (fun _ kt => XS.iloadN X61.here hx rfl (hb hby at_48) rfl  kt) ?_
        obtain ⟨_, _, ⟨T62, L62, k62, n62⟩, -, X62, ⟨Lc62, hQ62, l62, y62, z62⟩, st62⟩ := X61.specialBack hx (y := (⟨"com/example/claimsmith/claimsmith/engine/GroupMapping$OnTheFly", "<init>", "(ZZLjava/util/Set;Z)V"⟩ : MethodName)) rfl hown (mvT hZ (hw _ (List.mem_of_getElem? (i := 12) rfl))) (mvT hZ (hw _ (List.mem_of_getElem? (i := 13) rfl))) (mvT hZ (hw _ (List.mem_of_getElem? (i := 14) rfl))) (by decide) (backOf (W := 1) (rm2 l Z a0 hw [] b59 (1 : Int32) (0 : Int32) u (1 : Int32) (.int (0 : Int32)) (.int (0 : Int32)) .null (.int (0 : Int32)) h59 n0 (Nat.le_trans Z0 E59.1) A59 ((E3.ext O0.2).ext E59) F59_createGroups F59_keepExistingGroups F59_excludeGroups F59_restrictToKnownGroups ge_b59 (Or.inr rfl) (Or.inl rfl) (Or.inr rfl)) hZ (hw _ (List.mem_of_getElem? (i := 14) rfl)) (hw _ (List.mem_of_getElem? (i := 2) rfl)) (by decide) (by decide)) (g := (mkF m 49 #[.val (.int p0), .val (.int (1 : Int32)), .val (.int (0 : Int32)), .val (.int (1 : Int32)), .unset, .unset] [(.int (1 : Int32)), (.ref u), (.int (0 : Int32)), (.int (1 : Int32)), (.ref b59), (.ref b59)])) rfl (by rw [hml]; rfl) (Steps.refl _) (a := b59) (argsL := [(.int (1 : Int32)), (.int (0 : Int32)), (.ref u), (.int (1 : Int32))]) (rest := [(.ref b59)]) (lenOf pd_1 rfl) rfl (by show 2 * 0 + _ ≤ _; exact Nat.le_of_eq rfl) (hb hby at_49) (fun _ _ => ⟨rfl, hQ61, (by decide : 1 + 0 ≤ _), (by decide : 4 + 0 ≤ _)⟩)
        dsimp only [Pt.U, Pt.locs, Pt.cells, Pt.slots] at X62 l62 y62 z62 st62 hQ62
        subst l62 y62 z62
        obtain ⟨rfl, N62q, hQ62⟩ := hQ62
        have N62 := Fr.app N61 N62q
        obtain ⟨K62, Ex62, Fa62, Fb62⟩ := hQ62
        refine Rch.via (T' := T62) (g' := (mkF m 52 #[.val (.int p0), .val (.int (1 : Int32)), .val (.int (0 : Int32)), .val (.int (1 : Int32)), .unset, .unset] [(.ref b59)])) st62 ?_
        refine Rch.of (T' := T62) (g' := (mkF m 54 #[.val (.int p0), .val (.int (1 : Int32)), .val (.int (0 : Int32)), .val (.int (1 : Int32)), .val (.ref b59), .unset] [])) (fun _ kt => XS.astore X62.here hx rfl (hb hby at_52) rfl rfl (l' := #[.val (.int p0), .val (.int (1 : Int32)), .val (.int (0 : Int32)), .val (.int (1 : Int32)), .val (.ref b59), .unset]) rfl kt) ?_
        refine Rch.of (T' := T62) (g' := (mkF m 55 #[.val (.int p0), .val (.int (1 : Int32)), .val (.int (0 : Int32)), .val (.int (1 : Int32)), .val (.ref b59), .unset] [(.int (1 : Int32))])) (fun _ kt => XS.iloadN X62.here hx rfl (hb hby at_54) rfl  kt) ?_
        refine Rch.of (T' := T62) (g' := (mkF m 58 #[.val (.int p0), .val (.int (1 : Int32)), .val (.int (0 : Int32)), .val (.int (1 : Int32)), .val (.ref b59), .unset] [])) (fun _ kt => XS.ifNo X62.here hx rfl (hb hby at_55) rfl ((if0 _ _).trans (feq ((by decide) : ¬ ((1 : Int32) = (0 : Int32)))).1) kt) ?_
        refine Rch.of (T' := T62) (g' := (mkF m 59 #[.val (.int p0), .val (.int (1 : Int32)), .val (.int (0 : Int32)), .val (.int (1 : Int32)), .val (.ref b59), .unset] [(.int (0 : Int32))])) (fun _ kt => XS.iconst X62.here hx rfl (hb hby at_58) kt) ?_
        refine Rch.of (T' := T62) (g' := (mkF m 61 #[.val (.int p0), .val (.int (1 : Int32)), .val (.int (0 : Int32)), .val (.int (1 : Int32)), .val (.ref b59), .val (.int (0 : Int32))] [])) (fun _ kt => XS.istore X62.here hx rfl (hb hby at_59) rfl (l' := #[.val (.int p0), .val (.int (1 : Int32)), .val (.int (0 : Int32)), .val (.int (1 : Int32)), .val (.ref b59), .val (.int (0 : Int32))]) rfl kt) ?_
        refine Rch.of (T' := T62) (g' := (mkF m 77 #[.val (.int p0), .val (.int (1 : Int32)), .val (.int (0 : Int32)), .val (.int (1 : Int32)), .val (.ref b59), .val (.int (0 : Int32))] [])) (fun _ kt => XS.goto X62.here hx rfl (pc0 := 61) (pc' := 77) rfl (hb hby at_61) (by decide) (by decide) kt) ?_
        refine Rch.of (T' := T62) (g' := (mkF m 79 #[.val (.int p0), .val (.int (1 : Int32)), .val (.int (0 : Int32)), .val (.int (1 : Int32)), .val (.ref b59), .val (.int (0 : Int32))] [(.ref b59)])) (fun _ kt => XS.aload X62.here hx rfl (hb hby at_77) rfl rfl kt) ?_
        obtain ⟨cq63, kq63, q63a, q63b, q63c⟩ := isOf hZ rfl Ex62
        obtain ⟨_, _, ⟨T63, L63, k63, n63⟩, -, X63, ⟨Lc63, hQ63, l63, y63, z63⟩, st63⟩ := X62.virtualBack hx (y := (⟨"com/example/claimsmith/claimsmith/engine/GroupMapping$OnTheFly", "creates", "()Z"⟩ : MethodName)) (z := (⟨"com/example/claimsmith/claimsmith/engine/GroupMapping$OnTheFly", "creates", "()Z"⟩ : MethodName)) hown (mvT hZ (hw _ (List.mem_of_getElem? (i := 37) rfl))) (mvT hZ (hw _ (List.mem_of_getElem? (i := 38) rfl))) (notFace_of_selects (args := #[]) (mvT hZ (hw _ (List.mem_of_getElem? (i := 40) rfl)))) (mvT hZ (hw _ (List.mem_of_getElem? (i := 40) rfl))) (mvT hZ (hw _ (List.mem_of_getElem? (i := 39) rfl))) (by decide) (backOf (W := 0) (rm6 l Z a0 hw [] b59 (1 : Int32) (1 : Int32) T62.heap n0 (Nat.le_trans (Nat.le_trans Z0 E59.1) K62.1) Fa62 Fb62) hZ (hw _ (List.mem_of_getElem? (i := 41) rfl)) (hw _ (List.mem_of_getElem? (i := 2) rfl)) (by decide) (by decide)) q63a q63c (g := (mkF m 79 #[.val (.int p0), .val (.int (1 : Int32)), .val (.int (0 : Int32)), .val (.int (1 : Int32)), .val (.ref b59), .val (.int (0 : Int32))] [(.ref b59)])) rfl (by rw [hml]; rfl) (Steps.refl _) (argsL := []) (rest := []) (lenOf pd_4 rfl) rfl (by show 2 * 0 + _ ≤ _; exact Nat.le_of_eq rfl) (hb hby at_79) (fun _ _ => ⟨rfl, rfl, (by decide : 1 + 0 ≤ _), (by decide : 4 + 0 ≤ _)⟩)
        dsimp only [Pt.U, Pt.locs, Pt.cells, Pt.slots] at X63 l63 y63 z63 st63 hQ63
        subst l63 y63 z63
        obtain ⟨rfl, N63q, hQ63⟩ := hQ63
        have N63 := Fr.app N62 N63q
        refine Rch.via (T' := T63) (g' := (mkF m 82 #[.val (.int p0), .val (.int (1 : Int32)), .val (.int (0 : Int32)), .val (.int (1 : Int32)), .val (.ref b59), .val (.int (0 : Int32))] [(.int (own_c (1 : Int32) (1 : Int32)))])) st63 ?_
        rw [show (own_c (1 : Int32) (1 : Int32)) = (0 : Int32) from by decide]
        refine Rch.of (T' := T63) (g' := (mkF m 84 #[.val (.int p0), .val (.int (1 : Int32)), .val (.int (0 : Int32)), .val (.int (1 : Int32)), .val (.ref b59), .val (.int (0 : Int32))] [(.int (0 : Int32)), (.int (0 : Int32))])) (fun _ kt => XS.iload X63.here hx rfl (hb hby at_82) rfl  kt) ?_
        refine Rch.of (T' := T63) (g' := (mkF m 87 #[.val (.int p0), .val (.int (1 : Int32)), .val (.int (0 : Int32)), .val (.int (1 : Int32)), .val (.ref b59), .val (.int (0 : Int32))] [])) (fun _ kt => XS.icmpNo X63.here hx rfl (hb hby at_84) rfl (teq ((by decide) : (0 : Int32) = (0 : Int32))).2 kt) ?_
        refine Rch.of (T' := T63) (g' := (mkF m 88 #[.val (.int p0), .val (.int (1 : Int32)), .val (.int (0 : Int32)), .val (.int (1 : Int32)), .val (.ref b59), .val (.int (0 : Int32))] [(.int (1 : Int32))])) (fun _ kt => XS.iconst X63.here hx rfl (hb hby at_87) kt) ?_
        refine Rch.of (T' := T63) (g' := (mkF m 92 #[.val (.int p0), .val (.int (1 : Int32)), .val (.int (0 : Int32)), .val (.int (1 : Int32)), .val (.ref b59), .val (.int (0 : Int32))] [(.int (1 : Int32))])) (fun _ kt => XS.goto X63.here hx rfl (pc0 := 88) (pc' := 92) rfl (hb hby at_88) (by decide) (by decide) kt) ?_
        exact Rch.retN X63 hx (t := .boolean) hret (by simp) hlk (hb hby at_92) (fun U hU hF => hK _ U _ _ _ (by show Q_rm0 Z p0 t u h0 n0 _ U.heap _; rw [hU, hQ63]; exact ⟨rfl, N63, trivial⟩) hF (by decide) (by decide))
    · skip
      refine Rch.of (T' := T0) (g' := (mkF m 18 #[.val (.int p0), .val (.int (1 : Int32)), .unset, .unset, .unset, .unset] [])) (fun _ kt => XS.ifNo X0.here hx rfl (hb hby at_15) rfl ((if0 _ _).trans (feq c52).1) kt) ?_
      refine Rch.of (T' := T0) (g' := (mkF m 19 #[.val (.int p0), .val (.int (1 : Int32)), .unset, .unset, .unset, .unset] [(.int (1 : Int32))])) (fun _ kt => XS.iconst X0.here hx rfl (hb hby at_18) kt) ?_
      refine Rch.of (T' := T0) (g' := (mkF m 23 #[.val (.int p0), .val (.int (1 : Int32)), .unset, .unset, .unset, .unset] [(.int (1 : Int32))])) (fun _ kt => XS.goto X0.here hx rfl (pc0 := 19) (pc' := 23) rfl (hb hby at_19) (by decide) (by decide) kt) ?_
      refine Rch.of (T' := T0) (g' := (mkF m 24 #[.val (.int p0), .val (.int (1 : Int32)), .val (.int (1 : Int32)), .unset, .unset, .unset] [])) (fun _ kt => XS.istoreN X0.here hx rfl (hb hby at_23) rfl (l' := #[.val (.int p0), .val (.int (1 : Int32)), .val (.int (1 : Int32)), .unset, .unset, .unset]) rfl kt) ?_
      refine Rch.of (T' := T0) (g' := (mkF m 25 #[.val (.int p0), .val (.int (1 : Int32)), .val (.int (1 : Int32)), .unset, .unset, .unset] [(.int p0)])) (fun _ kt => XS.iloadN X0.here hx rfl (hb hby at_24) rfl  kt) ?_
      refine Rch.of (T' := T0) (g' := (mkF m 26 #[.val (.int p0), .val (.int (1 : Int32)), .val (.int (1 : Int32)), .unset, .unset, .unset] [(.int (4 : Int32)), (.int p0)])) (fun _ kt => XS.iconst X0.here hx rfl (hb hby at_25) kt) ?_
      refine Rch.of (T' := T0) (g' := (mkF m 27 #[.val (.int p0), .val (.int (1 : Int32)), .val (.int (1 : Int32)), .unset, .unset, .unset] [(.int (p0 &&& (4 : Int32)))])) (fun _ kt => XS.iand X0.here hx rfl (hb hby at_26) rfl kt) ?_
      by_cases c64 : (p0 &&& (4 : Int32)) = (0 : Int32)
      · skip
        refine Rch.of (T' := T0) (g' := (mkF m 34 #[.val (.int p0), .val (.int (1 : Int32)), .val (.int (1 : Int32)), .unset, .unset, .unset] [])) (fun _ kt => XS.ifYes X0.here hx rfl (pc0 := 27) (pc' := 34) rfl (hb hby at_27) rfl ((if0 _ _).trans (teq c64).1) (by decide) (by decide) kt) ?_
        refine Rch.of (T' := T0) (g' := (mkF m 35 #[.val (.int p0), .val (.int (1 : Int32)), .val (.int (1 : Int32)), .unset, .unset, .unset] [(.int (0 : Int32))])) (fun _ kt => XS.iconst X0.here hx rfl (hb hby at_34) kt) ?_
        refine Rch.of (T' := T0) (g' := (mkF m 36 #[.val (.int p0), .val (.int (1 : Int32)), .val (.int (1 : Int32)), .val (.int (0 : Int32)), .unset, .unset] [])) (fun _ kt => XS.istoreN X0.here hx rfl (hb hby at_35) rfl (l' := #[.val (.int p0), .val (.int (1 : Int32)), .val (.int (1 : Int32)), .val (.int (0 : Int32)), .unset, .unset]) rfl kt) ?_
        obtain ⟨T65, h65, X65, e65, E65, A65, D65, -, st65⟩ := newO X0 hx hZ hown (hw _ (List.mem_of_getElem? (i := 0) rfl)) (hw _ (List.mem_of_getElem? (i := 1) rfl)) (hw _ (List.mem_of_getElem? (i := 2) rfl)) e0 (g := (mkF m 36 #[.val (.int p0), .val (.int (1 : Int32)), .val (.int (1 : Int32)), .val (.int (0 : Int32)), .unset, .unset] [])) rfl (hb hby at_36) (by decide) (by decide)
        obtain ⟨b65, g65⟩ : ∃ z, z = h0.size := ⟨_, rfl⟩
        have ne_t_b65 : t ≠ b65 := Nat.ne_of_lt (Nat.lt_of_lt_of_le (E2.ext O0.2).lt (Nat.le_of_eq g65.symm))
        have ne_u_b65 : u ≠ b65 := Nat.ne_of_lt (Nat.lt_of_lt_of_le (E3.ext O0.2).lt (Nat.le_of_eq g65.symm))
        have ge_b65 : n0 ≤ b65 := Nat.le_trans Z0 (Nat.le_of_eq g65.symm)
        have sz_b65 : h0.size ≤ b65 := Nat.le_trans (Keep.refl h0 []).1 (Nat.le_of_eq g65.symm)
        rw [← g65] at A65 D65 st65
        have F65_excludeGroups : Fld Z h65 b65 "com/example/claimsmith/claimsmith/engine/GroupMapping$OnTheFly" "excludeGroups" "Ljava/util/Set;" .null := D65 (Or.inr (hw _ (List.mem_of_getElem? (i := 11) rfl))) (ty := (.object "java/util/Set")) (by decide)
        have F65_createGroups : Fld Z h65 b65 "com/example/claimsmith/claimsmith/engine/GroupMapping$OnTheFly" "createGroups" "Z" (.int (0 : Int32)) := D65 (Or.inr (hw _ (List.mem_of_getElem? (i := 32) rfl))) (ty := .boolean) (by decide)
        have F65_keepExistingGroups : Fld Z h65 b65 "com/example/claimsmith/claimsmith/engine/GroupMapping$OnTheFly" "keepExistingGroups" "Z" (.int (0 : Int32)) := D65 (Or.inr (hw _ (List.mem_of_getElem? (i := 34) rfl))) (ty := .boolean) (by decide)
        have F65_restrictToKnownGroups : Fld Z h65 b65 "com/example/claimsmith/claimsmith/engine/GroupMapping$OnTheFly" "restrictToKnownGroups" "Z" (.int (0 : Int32)) := D65 (Or.inr (hw _ (List.mem_of_getElem? (i := 36) rfl))) (ty := .boolean) (by decide)
        refine Rch.of (T' := T65) (g' := (mkF m 39 #[.val (.int p0), .val (.int (1 : Int32)), .val (.int (1 : Int32)), .val (.int (0 : Int32)), .unset, .unset] [(.ref b65)])) st65 ?_
        refine Rch.of (T' := T65) (g' := (mkF m 40 #[.val (.int p0), .val (.int (1 : Int32)), .val (.int (1 : Int32)), .val (.int (0 : Int32)), .unset, .unset] [(.ref b65), (.ref b65)])) (fun _ kt => XS.dup X65.here hx rfl (hb hby at_39) rfl rfl kt) ?_
        refine Rch.of (T' := T65) (g' := (mkF m 41 #[.val (.int p0), .val (.int (1 : Int32)), .val (.int (1 : Int32)), .val (.int (0 : Int32)), .unset, .unset] [(.int (1 : Int32)), (.ref b65), (.ref b65)])) (fun _ kt => XS.iloadN X65.here hx rfl (hb hby at_40) rfl  kt) ?_
        refine Rch.of (T' := T65) (g' := (mkF m 42 #[.val (.int p0), .val (.int (1 : Int32)), .val (.int (1 : Int32)), .val (.int (0 : Int32)), .unset, .unset] [(.int (1 : Int32)), (.int (1 : Int32)), (.ref b65), (.ref b65)])) (fun _ kt => XS.iloadN X65.here hx rfl (hb hby at_41) rfl  kt) ?_
        obtain ⟨T66, X66, e66, st66⟩ := getS2 X65 hx hZ hown (host := "") (Or.inl (hw _ (List.mem_of_getElem? (i := 3) rfl))) Via.refl e65 ((S1.ext O0.2).ext E65) (g := (mkF m 42 #[.val (.int p0), .val (.int (1 : Int32)), .val (.int (1 : Int32)), .val (.int (0 : Int32)), .unset, .unset] [(.int (1 : Int32)), (.int (1 : Int32)), (.ref b65), (.ref b65)])) rfl (hb hby at_42)
        refine Rch.of (T' := T66) (g' := (mkF m 45 #[.val (.int p0), .val (.int (1 : Int32)), .val (.int (1 : Int32)), .val (.int (0 : Int32)), .unset, .unset] [(.ref t), (.int (1 : Int32)), (.int (1 : Int32)), (.ref b65), (.ref b65)])) st66 ?_
        obtain ⟨cq67, kq67, q67a, q67b, q67c⟩ := isOf hZ e66 ((E2.ext O0.2).ext E65)
        obtain ⟨_, _, ⟨T67, L67, k67, n67⟩, -, X67, ⟨Lc67, hQ67, l67, y67, z67⟩, st67⟩ := X66.virtualBack hx (y := (⟨"com/example/claimsmith/claimsmith/engine/GroupMapping$OnTheFly", "excludeGroups", "()Ljava/util/Set;"⟩ : MethodName)) (z := (⟨"com/example/claimsmith/claimsmith/engine/GroupMapping$OnTheFly", "excludeGroups", "()Ljava/util/Set;"⟩ : MethodName)) hown (mvT hZ (hw _ (List.mem_of_getElem? (i := 5) rfl))) (mvT hZ (hw _ (List.mem_of_getElem? (i := 6) rfl))) (notFace_of_selects (args := #[]) (mvT hZ (hw _ (List.mem_of_getElem? (i := 8) rfl)))) (mvT hZ (hw _ (List.mem_of_getElem? (i := 8) rfl))) (mvT hZ (hw _ (List.mem_of_getElem? (i := 7) rfl))) (by decide) (backOf (W := 4) (rm1 l Z a0 hw [] t u h65 n0 (Nat.le_trans Z0 E65.1) ((F2.ext O0.2).ext E65)) hZ (hw _ (List.mem_of_getElem? (i := 9) rfl)) (hw _ (List.mem_of_getElem? (i := 2) rfl)) (by decide) (by decide)) q67a q67c (g := (mkF m 45 #[.val (.int p0), .val (.int (1 : Int32)), .val (.int (1 : Int32)), .val (.int (0 : Int32)), .unset, .unset] [(.ref t), (.int (1 : Int32)), (.int (1 : Int32)), (.ref b65), (.ref b65)])) rfl (by rw [hml]; rfl) (Steps.refl _) (argsL := []) (rest := [(.int (1 : Int32)), (.int (1 : Int32)), (.ref b65), (.ref b65)]) (lenOf pd_0 rfl) rfl (by show 2 * 0 + _ ≤ _; exact Nat.le_of_eq rfl) (hb hby at_45) (fun _ _ => ⟨rfl, e66, (by decide : 1 + 0 ≤ _), (by decide : 4 + 0 ≤ _)⟩)
        dsimp only [Pt.U, Pt.locs, Pt.cells, Pt.slots] at X67 l67 y67 z67 st67 hQ67
        subst l67 y67 z67
        obtain ⟨rfl, N67q, hQ67⟩ := hQ67
        have N67 := Fr.app N0 N67q
        refine Rch.via (T' := T67) (g' := (mkF m 48 #[.val (.int p0), .val (.int (1 : Int32)), .val (.int (1 : Int32)), .val (.int (0 : Int32)), .unset, .unset] [(.ref u), (.int (1 : Int32)), (.int (1 : Int32)), (.ref b65), (.ref b65)])) st67 ?_
        refine Rch.of (T' := T67) (g' := (mkF m 49 #[.val (.int p0), .val (.int (1 : Int32)), .val (.int (1 : Int32)), .val (.int (0 : Int32)), .unset, .unset] [(.int (0 : Int32)), (.ref u), (.int (1 : Int32)), (.int (1 : Int32)), (.ref b65), (.ref b65)])) (fun _ kt => XS.iloadN X67.here hx rfl (hb hby at_48) rfl  kt) ?_
        obtain ⟨_, _, ⟨T68, L68, k68, n68⟩, -, X68, ⟨Lc68, hQ68, l68, y68, z68⟩, st68⟩ := X67.specialBack hx (y := (⟨"com/example/claimsmith/claimsmith/engine/GroupMapping$OnTheFly", "<init>", "(ZZLjava/util/Set;Z)V"⟩ : MethodName)) rfl hown (mvT hZ (hw _ (List.mem_of_getElem? (i := 12) rfl))) (mvT hZ (hw _ (List.mem_of_getElem? (i := 13) rfl))) (mvT hZ (hw _ (List.mem_of_getElem? (i := 14) rfl))) (by decide) (backOf (W := 1) (rm2 l Z a0 hw [] b65 (1 : Int32) (1 : Int32) u (0 : Int32) (.int (0 : Int32)) (.int (0 : Int32)) .null (.int (0 : Int32)) h65 n0 (Nat.le_trans Z0 E65.1) A65 ((E3.ext O0.2).ext E65) F65_createGroups F65_keepExistingGroups F65_excludeGroups F65_restrictToKnownGroups ge_b65 (Or.inr rfl) (Or.inr rfl) (Or.inl rfl)) hZ (hw _ (List.mem_of_getElem? (i := 14) rfl)) (hw _ (List.mem_of_getElem? (i := 2) rfl)) (by decide) (by decide)) (g := (mkF m 49 #[.val (.int p0), .val (.int (1 : Int32)), .val (.int (1 : Int32)), .val (.int (0 : Int32)), .unset, .unset] [(.int (0 : Int32)), (.ref u), (.int (1 : Int32)), (.int (1 : Int32)), (.ref b65), (.ref b65)])) rfl (by rw [hml]; rfl) (Steps.refl _) (a := b65) (argsL := [(.int (1 : Int32)), (.int (1 : Int32)), (.ref u), (.int (0 : Int32))]) (rest := [(.ref b65)]) (lenOf pd_1 rfl) rfl (by show 2 * 0 + _ ≤ _; exact Nat.le_of_eq rfl) (hb hby at_49) (fun _ _ => ⟨rfl, hQ67, (by decide : 1 + 0 ≤ _), (by decide : 4 + 0 ≤ _)⟩)
        dsimp only [Pt.U, Pt.locs, Pt.cells, Pt.slots] at X68 l68 y68 z68 st68 hQ68
        subst l68 y68 z68
        obtain ⟨rfl, N68q, hQ68⟩ := hQ68
        have N68 := Fr.app N67 N68q
        obtain ⟨K68, Ex68, Fa68, Fb68⟩ := hQ68
        refine Rch.via (T' := T68) (g' := (mkF m 52 #[.val (.int p0), .val (.int (1 : Int32)), .val (.int (1 : Int32)), .val (.int (0 : Int32)), .unset, .unset] [(.ref b65)])) st68 ?_
        refine Rch.of (T' := T68) (g' := (mkF m 54 #[.val (.int p0), .val (.int (1 : Int32)), .val (.int (1 : Int32)), .val (.int (0 : Int32)), .val (.ref b65), .unset] [])) (fun _ kt => XS.astore X68.here hx rfl (hb hby at_52) rfl rfl (l' := #[.val (.int p0), .val (.int (1 : Int32)), .val (.int (1 : Int32)), .val (.int (0 : Int32)), .val (.ref b65), .unset]) rfl kt) ?_
        refine Rch.of (T' := T68) (g' := (mkF m 55 #[.val (.int p0), .val (.int (1 : Int32)), .val (.int (1 : Int32)), .val (.int (0 : Int32)), .val (.ref b65), .unset] [(.int (0 : Int32))])) (fun _ kt => XS.iloadN X68.here hx rfl (hb hby at_54) rfl  kt) ?_
        refine Rch.of (T' := T68) (g' := (mkF m 64 #[.val (.int p0), .val (.int (1 : Int32)), .val (.int (1 : Int32)), .val (.int (0 : Int32)), .val (.ref b65), .unset] [])) (fun _ kt => XS.ifYes X68.here hx rfl (pc0 := 55) (pc' := 64) rfl (hb hby at_55) rfl ((if0 _ _).trans (teq ((by decide) : (0 : Int32) = (0 : Int32))).1) (by decide) (by decide) kt) ?_
        refine Rch.of (T' := T68) (g' := (mkF m 65 #[.val (.int p0), .val (.int (1 : Int32)), .val (.int (1 : Int32)), .val (.int (0 : Int32)), .val (.ref b65), .unset] [(.int (1 : Int32))])) (fun _ kt => XS.iloadN X68.here hx rfl (hb hby at_64) rfl  kt) ?_
        refine Rch.of (T' := T68) (g' := (mkF m 68 #[.val (.int p0), .val (.int (1 : Int32)), .val (.int (1 : Int32)), .val (.int (0 : Int32)), .val (.ref b65), .unset] [])) (fun _ kt => XS.ifNo X68.here hx rfl (hb hby at_65) rfl ((if0 _ _).trans (feq ((by decide) : ¬ ((1 : Int32) = (0 : Int32)))).1) kt) ?_
        refine Rch.of (T' := T68) (g' := (mkF m 69 #[.val (.int p0), .val (.int (1 : Int32)), .val (.int (1 : Int32)), .val (.int (0 : Int32)), .val (.ref b65), .unset] [(.int (1 : Int32))])) (fun _ kt => XS.iconst X68.here hx rfl (hb hby at_68) kt) ?_
        refine Rch.of (T' := T68) (g' := (mkF m 71 #[.val (.int p0), .val (.int (1 : Int32)), .val (.int (1 : Int32)), .val (.int (0 : Int32)), .val (.ref b65), .val (.int (1 : Int32))] [])) (fun _ kt => XS.istore X68.here hx rfl (hb hby at_69) rfl (l' := #[.val (.int p0), .val (.int (1 : Int32)), .val (.int (1 : Int32)), .val (.int (0 : Int32)), .val (.ref b65), .val (.int (1 : Int32))]) rfl kt) ?_
        refine Rch.of (T' := T68) (g' := (mkF m 77 #[.val (.int p0), .val (.int (1 : Int32)), .val (.int (1 : Int32)), .val (.int (0 : Int32)), .val (.ref b65), .val (.int (1 : Int32))] [])) (fun _ kt => XS.goto X68.here hx rfl (pc0 := 71) (pc' := 77) rfl (hb hby at_71) (by decide) (by decide) kt) ?_
        refine Rch.of (T' := T68) (g' := (mkF m 79 #[.val (.int p0), .val (.int (1 : Int32)), .val (.int (1 : Int32)), .val (.int (0 : Int32)), .val (.ref b65), .val (.int (1 : Int32))] [(.ref b65)])) (fun _ kt => XS.aload X68.here hx rfl (hb hby at_77) rfl rfl kt) ?_
        obtain ⟨cq69, kq69, q69a, q69b, q69c⟩ := isOf hZ rfl Ex68
        obtain ⟨_, _, ⟨T69, L69, k69, n69⟩, -, X69, ⟨Lc69, hQ69, l69, y69, z69⟩, st69⟩ := X68.virtualBack hx (y := (⟨"com/example/claimsmith/claimsmith/engine/GroupMapping$OnTheFly", "creates", "()Z"⟩ : MethodName)) (z := (⟨"com/example/claimsmith/claimsmith/engine/GroupMapping$OnTheFly", "creates", "()Z"⟩ : MethodName)) hown (mvT hZ (hw _ (List.mem_of_getElem? (i := 37) rfl))) (mvT hZ (hw _ (List.mem_of_getElem? (i := 38) rfl))) (notFace_of_selects (args := #[]) (mvT hZ (hw _ (List.mem_of_getElem? (i := 40) rfl)))) (mvT hZ (hw _ (List.mem_of_getElem? (i := 40) rfl))) (mvT hZ (hw _ (List.mem_of_getElem? (i := 39) rfl))) (by decide) (backOf (W := 0) (rm6 l Z a0 hw [] b65 (1 : Int32) (0 : Int32) T68.heap n0 (Nat.le_trans (Nat.le_trans Z0 E65.1) K68.1) Fa68 Fb68) hZ (hw _ (List.mem_of_getElem? (i := 41) rfl)) (hw _ (List.mem_of_getElem? (i := 2) rfl)) (by decide) (by decide)) q69a q69c (g := (mkF m 79 #[.val (.int p0), .val (.int (1 : Int32)), .val (.int (1 : Int32)), .val (.int (0 : Int32)), .val (.ref b65), .val (.int (1 : Int32))] [(.ref b65)])) rfl (by rw [hml]; rfl) (Steps.refl _) (argsL := []) (rest := []) (lenOf pd_4 rfl) rfl (by show 2 * 0 + _ ≤ _; exact Nat.le_of_eq rfl) (hb hby at_79) (fun _ _ => ⟨rfl, rfl, (by decide : 1 + 0 ≤ _), (by decide : 4 + 0 ≤ _)⟩)
        dsimp only [Pt.U, Pt.locs, Pt.cells, Pt.slots] at X69 l69 y69 z69 st69 hQ69
        subst l69 y69 z69
        obtain ⟨rfl, N69q, hQ69⟩ := hQ69
        have N69 := Fr.app N68 N69q
        refine Rch.via (T' := T69) (g' := (mkF m 82 #[.val (.int p0), .val (.int (1 : Int32)), .val (.int (1 : Int32)), .val (.int (0 : Int32)), .val (.ref b65), .val (.int (1 : Int32))] [(.int (own_c (1 : Int32) (0 : Int32)))])) st69 ?_
        rw [show (own_c (1 : Int32) (0 : Int32)) = (1 : Int32) from by decide]
        refine Rch.of (T' := T69) (g' := (mkF m 84 #[.val (.int p0), .val (.int (1 : Int32)), .val (.int (1 : Int32)), .val (.int (0 : Int32)), .val (.ref b65), .val (.int (1 : Int32))] [(.int (1 : Int32)), (.int (1 : Int32))])) (fun _ kt => XS.iload X69.here hx rfl (hb hby at_82) rfl  kt) ?_
        refine Rch.of (T' := T69) (g' := (mkF m 87 #[.val (.int p0), .val (.int (1 : Int32)), .val (.int (1 : Int32)), .val (.int (0 : Int32)), .val (.ref b65), .val (.int (1 : Int32))] [])) (fun _ kt => XS.icmpNo X69.here hx rfl (hb hby at_84) rfl (teq ((by decide) : (1 : Int32) = (1 : Int32))).2 kt) ?_
        refine Rch.of (T' := T69) (g' := (mkF m 88 #[.val (.int p0), .val (.int (1 : Int32)), .val (.int (1 : Int32)), .val (.int (0 : Int32)), .val (.ref b65), .val (.int (1 : Int32))] [(.int (1 : Int32))])) (fun _ kt => XS.iconst X69.here hx rfl (hb hby at_87) kt) ?_
        refine Rch.of (T' := T69) (g' := (mkF m 92 #[.val (.int p0), .val (.int (1 : Int32)), .val (.int (1 : Int32)), .val (.int (0 : Int32)), .val (.ref b65), .val (.int (1 : Int32))] [(.int (1 : Int32))])) (fun _ kt => XS.goto X69.here hx rfl (pc0 := 88) (pc' := 92) rfl (hb hby at_88) (by decide) (by decide) kt) ?_
        exact Rch.retN X69 hx (t := .boolean) hret (by simp) hlk (hb hby at_92) (fun U hU hF => hK _ U _ _ _ (by show Q_rm0 Z p0 t u h0 n0 _ U.heap _; rw [hU, hQ69]; exact ⟨rfl, N69, trivial⟩) hF (by decide) (by decide))
      · skip
        refine Rch.of (T' := T0) (g' := (mkF m 30 #[.val (.int p0), .val (.int (1 : Int32)), .val (.int (1 : Int32)), .unset, .unset, .unset] [])) (fun _ kt => XS.ifNo X0.here hx rfl (hb hby at_27) rfl ((if0 _ _).trans (feq c64).1) kt) ?_
        refine Rch.of (T' := T0) (g' := (mkF m 31 #[.val (.int p0), .val (.int (1 : Int32)), .val (.int (1 : Int32)), .unset, .unset, .unset] [(.int (1 : Int32))])) (fun _ kt => XS.iconst X0.here hx rfl (hb hby at_30) kt) ?_
        refine Rch.of (T' := T0) (g' := (mkF m 35 #[.val (.int p0), .val (.int (1 : Int32)), .val (.int (1 : Int32)), .unset, .unset, .unset] [(.int (1 : Int32))])) (fun _ kt => XS.goto X0.here hx rfl (pc0 := 31) (pc' := 35) rfl (hb hby at_31) (by decide) (by decide) kt) ?_
        refine Rch.of (T' := T0) (g' := (mkF m 36 #[.val (.int p0), .val (.int (1 : Int32)), .val (.int (1 : Int32)), .val (.int (1 : Int32)), .unset, .unset] [])) (fun _ kt => XS.istoreN X0.here hx rfl (hb hby at_35) rfl (l' := #[.val (.int p0), .val (.int (1 : Int32)), .val (.int (1 : Int32)), .val (.int (1 : Int32)), .unset, .unset]) rfl kt) ?_
        obtain ⟨T70, h70, X70, e70, E70, A70, D70, -, st70⟩ := newO X0 hx hZ hown (hw _ (List.mem_of_getElem? (i := 0) rfl)) (hw _ (List.mem_of_getElem? (i := 1) rfl)) (hw _ (List.mem_of_getElem? (i := 2) rfl)) e0 (g := (mkF m 36 #[.val (.int p0), .val (.int (1 : Int32)), .val (.int (1 : Int32)), .val (.int (1 : Int32)), .unset, .unset] [])) rfl (hb hby at_36) (by decide) (by decide)
        obtain ⟨b70, g70⟩ : ∃ z, z = h0.size := ⟨_, rfl⟩
        have ne_t_b70 : t ≠ b70 := Nat.ne_of_lt (Nat.lt_of_lt_of_le (E2.ext O0.2).lt (Nat.le_of_eq g70.symm))
        have ne_u_b70 : u ≠ b70 := Nat.ne_of_lt (Nat.lt_of_lt_of_le (E3.ext O0.2).lt (Nat.le_of_eq g70.symm))
        have ge_b70 : n0 ≤ b70 := Nat.le_trans Z0 (Nat.le_of_eq g70.symm)
        have sz_b70 : h0.size ≤ b70 := Nat.le_trans (Keep.refl h0 []).1 (Nat.le_of_eq g70.symm)
        rw [← g70] at A70 D70 st70
        have F70_excludeGroups : Fld Z h70 b70 "com/example/claimsmith/claimsmith/engine/GroupMapping$OnTheFly" "excludeGroups" "Ljava/util/Set;" .null := D70 (Or.inr (hw _ (List.mem_of_getElem? (i := 11) rfl))) (ty := (.object "java/util/Set")) (by decide)
        have F70_createGroups : Fld Z h70 b70 "com/example/claimsmith/claimsmith/engine/GroupMapping$OnTheFly" "createGroups" "Z" (.int (0 : Int32)) := D70 (Or.inr (hw _ (List.mem_of_getElem? (i := 32) rfl))) (ty := .boolean) (by decide)
        have F70_keepExistingGroups : Fld Z h70 b70 "com/example/claimsmith/claimsmith/engine/GroupMapping$OnTheFly" "keepExistingGroups" "Z" (.int (0 : Int32)) := D70 (Or.inr (hw _ (List.mem_of_getElem? (i := 34) rfl))) (ty := .boolean) (by decide)
        have F70_restrictToKnownGroups : Fld Z h70 b70 "com/example/claimsmith/claimsmith/engine/GroupMapping$OnTheFly" "restrictToKnownGroups" "Z" (.int (0 : Int32)) := D70 (Or.inr (hw _ (List.mem_of_getElem? (i := 36) rfl))) (ty := .boolean) (by decide)
        refine Rch.of (T' := T70) (g' := (mkF m 39 #[.val (.int p0), .val (.int (1 : Int32)), .val (.int (1 : Int32)), .val (.int (1 : Int32)), .unset, .unset] [(.ref b70)])) st70 ?_
        refine Rch.of (T' := T70) (g' := (mkF m 40 #[.val (.int p0), .val (.int (1 : Int32)), .val (.int (1 : Int32)), .val (.int (1 : Int32)), .unset, .unset] [(.ref b70), (.ref b70)])) (fun _ kt => XS.dup X70.here hx rfl (hb hby at_39) rfl rfl kt) ?_
        refine Rch.of (T' := T70) (g' := (mkF m 41 #[.val (.int p0), .val (.int (1 : Int32)), .val (.int (1 : Int32)), .val (.int (1 : Int32)), .unset, .unset] [(.int (1 : Int32)), (.ref b70), (.ref b70)])) (fun _ kt => XS.iloadN X70.here hx rfl (hb hby at_40) rfl  kt) ?_
        refine Rch.of (T' := T70) (g' := (mkF m 42 #[.val (.int p0), .val (.int (1 : Int32)), .val (.int (1 : Int32)), .val (.int (1 : Int32)), .unset, .unset] [(.int (1 : Int32)), (.int (1 : Int32)), (.ref b70), (.ref b70)])) (fun _ kt => XS.iloadN X70.here hx rfl (hb hby at_41) rfl  kt) ?_
        obtain ⟨T71, X71, e71, st71⟩ := getS2 X70 hx hZ hown (host := "") (Or.inl (hw _ (List.mem_of_getElem? (i := 3) rfl))) Via.refl e70 ((S1.ext O0.2).ext E70) (g := (mkF m 42 #[.val (.int p0), .val (.int (1 : Int32)), .val (.int (1 : Int32)), .val (.int (1 : Int32)), .unset, .unset] [(.int (1 : Int32)), (.int (1 : Int32)), (.ref b70), (.ref b70)])) rfl (hb hby at_42)
        refine Rch.of (T' := T71) (g' := (mkF m 45 #[.val (.int p0), .val (.int (1 : Int32)), .val (.int (1 : Int32)), .val (.int (1 : Int32)), .unset, .unset] [(.ref t), (.int (1 : Int32)), (.int (1 : Int32)), (.ref b70), (.ref b70)])) st71 ?_
        obtain ⟨cq72, kq72, q72a, q72b, q72c⟩ := isOf hZ e71 ((E2.ext O0.2).ext E70)
        obtain ⟨_, _, ⟨T72, L72, k72, n72⟩, -, X72, ⟨Lc72, hQ72, l72, y72, z72⟩, st72⟩ := X71.virtualBack hx (y := (⟨"com/example/claimsmith/claimsmith/engine/GroupMapping$OnTheFly", "excludeGroups", "()Ljava/util/Set;"⟩ : MethodName)) (z := (⟨"com/example/claimsmith/claimsmith/engine/GroupMapping$OnTheFly", "excludeGroups", "()Ljava/util/Set;"⟩ : MethodName)) hown (mvT hZ (hw _ (List.mem_of_getElem? (i := 5) rfl))) (mvT hZ (hw _ (List.mem_of_getElem? (i := 6) rfl))) (notFace_of_selects (args := #[]) (mvT hZ (hw _ (List.mem_of_getElem? (i := 8) rfl)))) (mvT hZ (hw _ (List.mem_of_getElem? (i := 8) rfl))) (mvT hZ (hw _ (List.mem_of_getElem? (i := 7) rfl))) (by decide) (backOf (W := 4) (rm1 l Z a0 hw [] t u h70 n0 (Nat.le_trans Z0 E70.1) ((F2.ext O0.2).ext E70)) hZ (hw _ (List.mem_of_getElem? (i := 9) rfl)) (hw _ (List.mem_of_getElem? (i := 2) rfl)) (by decide) (by decide)) q72a q72c (g := (mkF m 45 #[.val (.int p0), .val (.int (1 : Int32)), .val (.int (1 : Int32)), .val (.int (1 : Int32)), .unset, .unset] [(.ref t), (.int (1 : Int32)), (.int (1 : Int32)), (.ref b70), (.ref b70)])) rfl (by rw [hml]; rfl) (Steps.refl _) (argsL := []) (rest := [(.int (1 : Int32)), (.int (1 : Int32)), (.ref b70), (.ref b70)]) (lenOf pd_0 rfl) rfl (by show 2 * 0 + _ ≤ _; exact Nat.le_of_eq rfl) (hb hby at_45) (fun _ _ => ⟨rfl, e71, (by decide : 1 + 0 ≤ _), (by decide : 4 + 0 ≤ _)⟩)
        dsimp only [Pt.U, Pt.locs, Pt.cells, Pt.slots] at X72 l72 y72 z72 st72 hQ72
        subst l72 y72 z72
        obtain ⟨rfl, N72q, hQ72⟩ := hQ72
        have N72 := Fr.app N0 N72q
        refine Rch.via (T' := T72) (g' := (mkF m 48 #[.val (.int p0), .val (.int (1 : Int32)), .val (.int (1 : Int32)), .val (.int (1 : Int32)), .unset, .unset] [(.ref u), (.int (1 : Int32)), (.int (1 : Int32)), (.ref b70), (.ref b70)])) st72 ?_
        refine Rch.of (T' := T72) (g' := (mkF m 49 #[.val (.int p0), .val (.int (1 : Int32)), .val (.int (1 : Int32)), .val (.int (1 : Int32)), .unset, .unset] [(.int (1 : Int32)), (.ref u), (.int (1 : Int32)), (.int (1 : Int32)), (.ref b70), (.ref b70)])) (fun _ kt => XS.iloadN X72.here hx rfl (hb hby at_48) rfl  kt) ?_
        obtain ⟨_, _, ⟨T73, L73, k73, n73⟩, -, X73, ⟨Lc73, hQ73, l73, y73, z73⟩, st73⟩ := X72.specialBack hx (y := (⟨"com/example/claimsmith/claimsmith/engine/GroupMapping$OnTheFly", "<init>", "(ZZLjava/util/Set;Z)V"⟩ : MethodName)) rfl hown (mvT hZ (hw _ (List.mem_of_getElem? (i := 12) rfl))) (mvT hZ (hw _ (List.mem_of_getElem? (i := 13) rfl))) (mvT hZ (hw _ (List.mem_of_getElem? (i := 14) rfl))) (by decide) (backOf (W := 1) (rm2 l Z a0 hw [] b70 (1 : Int32) (1 : Int32) u (1 : Int32) (.int (0 : Int32)) (.int (0 : Int32)) .null (.int (0 : Int32)) h70 n0 (Nat.le_trans Z0 E70.1) A70 ((E3.ext O0.2).ext E70) F70_createGroups F70_keepExistingGroups F70_excludeGroups F70_restrictToKnownGroups ge_b70 (Or.inr rfl) (Or.inr rfl) (Or.inr rfl)) hZ (hw _ (List.mem_of_getElem? (i := 14) rfl)) (hw _ (List.mem_of_getElem? (i := 2) rfl)) (by decide) (by decide)) (g := (mkF m 49 #[.val (.int p0), .val (.int (1 : Int32)), .val (.int (1 : Int32)), .val (.int (1 : Int32)), .unset, .unset] [(.int (1 : Int32)), (.ref u), (.int (1 : Int32)), (.int (1 : Int32)), (.ref b70), (.ref b70)])) rfl (by rw [hml]; rfl) (Steps.refl _) (a := b70) (argsL := [(.int (1 : Int32)), (.int (1 : Int32)), (.ref u), (.int (1 : Int32))]) (rest := [(.ref b70)]) (lenOf pd_1 rfl) rfl (by show 2 * 0 + _ ≤ _; exact Nat.le_of_eq rfl) (hb hby at_49) (fun _ _ => ⟨rfl, hQ72, (by decide : 1 + 0 ≤ _), (by decide : 4 + 0 ≤ _)⟩)
        dsimp only [Pt.U, Pt.locs, Pt.cells, Pt.slots] at X73 l73 y73 z73 st73 hQ73
        subst l73 y73 z73
        obtain ⟨rfl, N73q, hQ73⟩ := hQ73
        have N73 := Fr.app N72 N73q
        obtain ⟨K73, Ex73, Fa73, Fb73⟩ := hQ73
        refine Rch.via (T' := T73) (g' := (mkF m 52 #[.val (.int p0), .val (.int (1 : Int32)), .val (.int (1 : Int32)), .val (.int (1 : Int32)), .unset, .unset] [(.ref b70)])) st73 ?_
        refine Rch.of (T' := T73) (g' := (mkF m 54 #[.val (.int p0), .val (.int (1 : Int32)), .val (.int (1 : Int32)), .val (.int (1 : Int32)), .val (.ref b70), .unset] [])) (fun _ kt => XS.astore X73.here hx rfl (hb hby at_52) rfl rfl (l' := #[.val (.int p0), .val (.int (1 : Int32)), .val (.int (1 : Int32)), .val (.int (1 : Int32)), .val (.ref b70), .unset]) rfl kt) ?_
        refine Rch.of (T' := T73) (g' := (mkF m 55 #[.val (.int p0), .val (.int (1 : Int32)), .val (.int (1 : Int32)), .val (.int (1 : Int32)), .val (.ref b70), .unset] [(.int (1 : Int32))])) (fun _ kt => XS.iloadN X73.here hx rfl (hb hby at_54) rfl  kt) ?_
        refine Rch.of (T' := T73) (g' := (mkF m 58 #[.val (.int p0), .val (.int (1 : Int32)), .val (.int (1 : Int32)), .val (.int (1 : Int32)), .val (.ref b70), .unset] [])) (fun _ kt => XS.ifNo X73.here hx rfl (hb hby at_55) rfl ((if0 _ _).trans (feq ((by decide) : ¬ ((1 : Int32) = (0 : Int32)))).1) kt) ?_
        refine Rch.of (T' := T73) (g' := (mkF m 59 #[.val (.int p0), .val (.int (1 : Int32)), .val (.int (1 : Int32)), .val (.int (1 : Int32)), .val (.ref b70), .unset] [(.int (0 : Int32))])) (fun _ kt => XS.iconst X73.here hx rfl (hb hby at_58) kt) ?_
        refine Rch.of (T' := T73) (g' := (mkF m 61 #[.val (.int p0), .val (.int (1 : Int32)), .val (.int (1 : Int32)), .val (.int (1 : Int32)), .val (.ref b70), .val (.int (0 : Int32))] [])) (fun _ kt => XS.istore X73.here hx rfl (hb hby at_59) rfl (l' := #[.val (.int p0), .val (.int (1 : Int32)), .val (.int (1 : Int32)), .val (.int (1 : Int32)), .val (.ref b70), .val (.int (0 : Int32))]) rfl kt) ?_
        refine Rch.of (T' := T73) (g' := (mkF m 77 #[.val (.int p0), .val (.int (1 : Int32)), .val (.int (1 : Int32)), .val (.int (1 : Int32)), .val (.ref b70), .val (.int (0 : Int32))] [])) (fun _ kt => XS.goto X73.here hx rfl (pc0 := 61) (pc' := 77) rfl (hb hby at_61) (by decide) (by decide) kt) ?_
        refine Rch.of (T' := T73) (g' := (mkF m 79 #[.val (.int p0), .val (.int (1 : Int32)), .val (.int (1 : Int32)), .val (.int (1 : Int32)), .val (.ref b70), .val (.int (0 : Int32))] [(.ref b70)])) (fun _ kt => XS.aload X73.here hx rfl (hb hby at_77) rfl rfl kt) ?_
        obtain ⟨cq74, kq74, q74a, q74b, q74c⟩ := isOf hZ rfl Ex73
        obtain ⟨_, _, ⟨T74, L74, k74, n74⟩, -, X74, ⟨Lc74, hQ74, l74, y74, z74⟩, st74⟩ := X73.virtualBack hx (y := (⟨"com/example/claimsmith/claimsmith/engine/GroupMapping$OnTheFly", "creates", "()Z"⟩ : MethodName)) (z := (⟨"com/example/claimsmith/claimsmith/engine/GroupMapping$OnTheFly", "creates", "()Z"⟩ : MethodName)) hown (mvT hZ (hw _ (List.mem_of_getElem? (i := 37) rfl))) (mvT hZ (hw _ (List.mem_of_getElem? (i := 38) rfl))) (notFace_of_selects (args := #[]) (mvT hZ (hw _ (List.mem_of_getElem? (i := 40) rfl)))) (mvT hZ (hw _ (List.mem_of_getElem? (i := 40) rfl))) (mvT hZ (hw _ (List.mem_of_getElem? (i := 39) rfl))) (by decide) (backOf (W := 0) (rm6 l Z a0 hw [] b70 (1 : Int32) (1 : Int32) T73.heap n0 (Nat.le_trans (Nat.le_trans Z0 E70.1) K73.1) Fa73 Fb73) hZ (hw _ (List.mem_of_getElem? (i := 41) rfl)) (hw _ (List.mem_of_getElem? (i := 2) rfl)) (by decide) (by decide)) q74a q74c (g := (mkF m 79 #[.val (.int p0), .val (.int (1 : Int32)), .val (.int (1 : Int32)), .val (.int (1 : Int32)), .val (.ref b70), .val (.int (0 : Int32))] [(.ref b70)])) rfl (by rw [hml]; rfl) (Steps.refl _) (argsL := []) (rest := []) (lenOf pd_4 rfl) rfl (by show 2 * 0 + _ ≤ _; exact Nat.le_of_eq rfl) (hb hby at_79) (fun _ _ => ⟨rfl, rfl, (by decide : 1 + 0 ≤ _), (by decide : 4 + 0 ≤ _)⟩)
        dsimp only [Pt.U, Pt.locs, Pt.cells, Pt.slots] at X74 l74 y74 z74 st74 hQ74
        subst l74 y74 z74
        obtain ⟨rfl, N74q, hQ74⟩ := hQ74
        have N74 := Fr.app N73 N74q
        refine Rch.via (T' := T74) (g' := (mkF m 82 #[.val (.int p0), .val (.int (1 : Int32)), .val (.int (1 : Int32)), .val (.int (1 : Int32)), .val (.ref b70), .val (.int (0 : Int32))] [(.int (own_c (1 : Int32) (1 : Int32)))])) st74 ?_
        rw [show (own_c (1 : Int32) (1 : Int32)) = (0 : Int32) from by decide]
        refine Rch.of (T' := T74) (g' := (mkF m 84 #[.val (.int p0), .val (.int (1 : Int32)), .val (.int (1 : Int32)), .val (.int (1 : Int32)), .val (.ref b70), .val (.int (0 : Int32))] [(.int (0 : Int32)), (.int (0 : Int32))])) (fun _ kt => XS.iload X74.here hx rfl (hb hby at_82) rfl  kt) ?_
        refine Rch.of (T' := T74) (g' := (mkF m 87 #[.val (.int p0), .val (.int (1 : Int32)), .val (.int (1 : Int32)), .val (.int (1 : Int32)), .val (.ref b70), .val (.int (0 : Int32))] [])) (fun _ kt => XS.icmpNo X74.here hx rfl (hb hby at_84) rfl (teq ((by decide) : (0 : Int32) = (0 : Int32))).2 kt) ?_
        refine Rch.of (T' := T74) (g' := (mkF m 88 #[.val (.int p0), .val (.int (1 : Int32)), .val (.int (1 : Int32)), .val (.int (1 : Int32)), .val (.ref b70), .val (.int (0 : Int32))] [(.int (1 : Int32))])) (fun _ kt => XS.iconst X74.here hx rfl (hb hby at_87) kt) ?_
        refine Rch.of (T' := T74) (g' := (mkF m 92 #[.val (.int p0), .val (.int (1 : Int32)), .val (.int (1 : Int32)), .val (.int (1 : Int32)), .val (.ref b70), .val (.int (0 : Int32))] [(.int (1 : Int32))])) (fun _ kt => XS.goto X74.here hx rfl (pc0 := 88) (pc' := 92) rfl (hb hby at_88) (by decide) (by decide) kt) ?_
        exact Rch.retN X74 hx (t := .boolean) hret (by simp) hlk (hb hby at_92) (fun U hU hF => hK _ U _ _ _ (by show Q_rm0 Z p0 t u h0 n0 _ U.heap _; rw [hU, hQ74]; exact ⟨rfl, N74, trivial⟩) hF (by decide) (by decide))
set_option maxRecDepth 65536 in
set_option maxHeartbeats 40000000 in
theorem comes_1 {Post : Tables → Env → Array Value → State → Outcome → State → Prop} (hpost : ∀ tb e args s v u, (limb_1_1.after args s (.returned v) u = true ∧ limb_1_2.after args s (.returned v) u = true ∧ True) → FrameEnd s (.returned v) u (Jvm.fieldLocs frame_1_writes args s ++ Jvm.arrayLocs frame_1_arrays args s ++ Jvm.staticLocs frame_1_statics s) 16 128 → Post tb e args s (.returned v) u) :
    ArmFor flags0 classFile x code maxLocals ret World_1 tables_1 room_1 Calls_1 rest_1 Pre_1 Post := by
  intro l hfl _ _ p e ha hc hk s m args below hf hA hF happ hP
  obtain ⟨hcalls, hrest, hpre⟩ := hP
  obtain ⟨-, -, -, hnamed, -, -, -, hat⟩ := (Spec.applies_iff hf).mp happ
  obtain ⟨hg, hn⟩ := and_e (Cond.before_iff.mp (show (Jvm.Cond.and given_1 narrow_1).before args s = true from hpre))
  obtain ⟨g0, hg0⟩ := and_e hg
  obtain ⟨w0, rfl⟩ : ∃ w0 : Value, args = #[w0] := by
    have hs : args.size = 1 := by simpa [Cond.value, given_1] using g0
    obtain ⟨L⟩ := args
    match L, hs with
    | [w0], _ => exact ⟨w0, rfl⟩
  have hw := fun d (hd : d ∈ tables_1) => atoms_spec (ws := Jvm.Cond.code x code maxLocals ret :: tables_1) hat d (List.mem_cons_of_mem _ hd)
  obtain ⟨i0, ei0⟩ := is_v hg0
  obtain rfl : w0 = (.int i0) := Option.some.inj ei0
  have hfit : Fit s := fun {y c} hc i hi => by
    obtain ⟨ha, rfl⟩ := Array.getElem?_eq_some_iff.mp hc
    have q := List.all_eq_true.mp ((Array.all_eq_true_iff_forall_mem.mp hF) _ (Array.getElem_mem ha)) i (List.mem_range.mpr hi)
    simpa [Array.getElem?_eq_getElem hi] using q
  obtain ⟨na, nb⟩ := and_e hn
  obtain ⟨t, et⟩ := exa_v na
  have Et := Exa.start et na
  have St := Sta.start et (Or.inr ⟨(hw _ (List.mem_of_getElem? (i := 2) rfl)), (hw _ (List.mem_of_getElem? (i := 4) rfl))⟩)
  obtain ⟨u, eu⟩ := exa_v nb
  have Eu := Exa.start eu nb
  have Fu := Fld.start ((fld_at et).symm.trans eu)
  obtain ⟨n, o, h1, h2, h3, _, L, rfl, ⟨rfl, N, -⟩, hq⟩ := rm0 l s _ hw tables_1 i0 t u s.heap s.heap.size (Nat.le_refl _) (Old.start s) St Et Fu Eu p e ha hc hk s m _ below hf ((Spec.applies_iff_loose hf).mp happ).1 ⟨rfl, State.Warmed39.refl s, rfl⟩ trivial
  refine ⟨n, _, h1, h2, h3, hpost _ _ _ _ _ _ ⟨Cond.after_iff.mpr rfl, Cond.after_iff.mpr (eq_i res_at (Term.int_eval (1)) rfl), trivial⟩ ⟨hq.1, hq.2.1, (hq.2.2.sift fun y hy => Or.inr (N y hy)).mono (by decide) (by decide)⟩⟩
theorem main_1_1 : Claimed_1_1 := comes_1 fun _ _ _ _ _ _ h hF => ⟨h.1, hF⟩
theorem main_1_2 : Claimed_1_2 := comes_1 fun _ _ _ _ _ _ h hF => ⟨h.2.1, hF⟩
end Jvm.Pilot.@@N@@
namespace Jvm.Pilot.@@N@@
open Jvm Jvm.ClassFile Sem Op Lib Jvm.Free Jvm.Stand Jvm.Pilot.@@N@@.Jvm.D
/-! MADE BY PROGRAM (witnessworld.py) out of the Statement's table words and the real class files: 17 classes; the members and pool entries that the words name. The judged class is class 1, her method 1. -/
namespace start1
open Jvm.ClassFile
def u (s : String) : CpInfo := .utf8 (stringToUtf16 s)
/-- a pool by its gaps: so many unusable entries, then the entry; so many at the end -/
def gap : Nat → List CpInfo → List CpInfo
  | 0, r => r
  | n + 1, r => .unusable :: gap n r
def poolList (es : List (Nat × CpInfo)) (last : Nat) : List CpInfo := es.foldr (fun e r => gap e.1 (e.2 :: r)) (gap last [])
def pool (es : List (Nat × CpInfo)) (last : Nat) : Array CpInfo := ⟨poolList es last⟩
def fileOf (pool : Array CpInfo) (this : Nat) (attrs : Array Attribute := #[]) (ms : Array MethodInfo := #[]) (fl : Nat := 33) (sup : Nat := 0) (ifs : Array Nat := #[]) (fds : Array FieldInfo := #[]) : ClassFile where
  minorVersion := 0
  majorVersion := 65
  constantPool := pool
  accessFlags := fl
  thisClass := this
  superClass := sup
  interfaces := ifs
  fields := fds
  methods := ms
  attributes := attrs
def plain (name : String) (sup : Option ClassId) : Class where
  name := name
  kind := .ordinary
  loader := none
  accessFlags := 33
  super := sup
  interfaces := #[]
  cf := none
  fields := #[]
  methods := #[]
  instanceTypes := #[]
  staticTypes := #[]
  resolved := #[]
  callSites := []
  init := .initialized
  statics := none
  mirror := none

def pool0 : Array CpInfo := pool [(5, u "<init>"), (0, u "()V"), (1, .class_ 10), (1, u "java/lang/Object")] 113

def k0c0 : Code := { maxStack := 0, maxLocals := 1, code := object_method_1_code, exceptionTable := #[], attributes := #[] }
def k0m0 : Method := { name := "<init>", desc := "()V", sig := { parameters := [], returnType := none }, accessFlags := 1, code := some k0c0 }
/-- java/lang/Object -/
def k0 : Class := { plain "java/lang/Object" none with
  accessFlags := 33
  interfaces := #[]
  cf := some (fileOf pool0 8 #[] #[{ accessFlags := 1, nameIndex := 5, descriptorIndex := 6, attributes := #[] }] 33 0 #[] #[])
  fields := #[]
  methods := #[k0m0]
  instanceTypes := #[]
  staticTypes := #[]
  resolved := Array.replicate 124 none
  statics := none }

def pool1 : Array CpInfo := pool [(2, .class_ 4), (1, u "java/lang/Object"), (0, u "<init>"), (0, u "()V"), (0, .class_ 8), (0, u "com/example/claimsmith/claimsmith/engine/GroupMapping$OnTheFly"), (0, .fieldref 7 10), (0, .nameAndType 11 12), (0, u "DEFAULTS"), (0, u "Lcom/example/claimsmith/claimsmith/engine/GroupMapping$OnTheFly;"), (0, .methodref 7 14), (0, .nameAndType 15 16), (0, u "excludeGroups"), (0, u "()Ljava/util/Set;"), (0, .methodref 7 18), (0, .nameAndType 5 19), (0, u "(ZZLjava/util/Set;Z)V"), (0, .methodref 7 21), (0, .nameAndType 22 23), (0, u "creates"), (0, u "()Z"), (0, .class_ 25), (0, u "com/example/claimsmith/claimsmith/engine/OnTheFlyCreatesPinLaw"), (2, u "law"), (0, u "(I)Z")] 7

def k1m0 : Method := { name := "<init>", desc := "()V", sig := { parameters := [], returnType := none }, accessFlags := 1, code := none }
def k1c1 : Code := { maxStack := 6, maxLocals := 6, code := code, exceptionTable := #[], attributes := #[] }
def k1m1 : Method := { name := "law", desc := "(I)Z", sig := { parameters := [.int], returnType := some .boolean }, accessFlags := 9, code := some k1c1 }
/-- com/example/claimsmith/claimsmith/engine/OnTheFlyCreatesPinLaw -/
def k1 : Class := { plain "com/example/claimsmith/claimsmith/engine/OnTheFlyCreatesPinLaw" (some 0) with
  accessFlags := 49
  interfaces := #[]
  cf := some (fileOf pool1 24 #[] #[{ accessFlags := 1, nameIndex := 5, descriptorIndex := 6, attributes := #[] }, { accessFlags := 9, nameIndex := 28, descriptorIndex := 29, attributes := #[] }] 49 2 #[] #[])
  fields := #[]
  methods := #[k1m0, k1m1]
  instanceTypes := #[]
  staticTypes := #[]
  resolved := Array.replicate 37 none
  statics := none }

def pool2 : Array CpInfo := pool [(1, .methodref 2 3), (0, .class_ 4), (0, .nameAndType 5 6), (0, u "java/lang/Object"), (0, u "<init>"), (0, u "()V"), (0, .class_ 8), (0, u "java/lang/Record")] 13

def k2c0 : Code := { maxStack := 1, maxLocals := 1, code := jdk_30_method_1_code, exceptionTable := #[], attributes := #[] }
def k2m0 : Method := { name := "<init>", desc := "()V", sig := { parameters := [], returnType := none }, accessFlags := 4, code := some k2c0 }
/-- java/lang/Record -/
def k2 : Class := { plain "java/lang/Record" (some 0) with
  accessFlags := 1057
  interfaces := #[]
  cf := some (fileOf pool2 7 #[] #[{ accessFlags := 4, nameIndex := 5, descriptorIndex := 6, attributes := #[] }] 1057 2 #[] #[])
  fields := #[]
  methods := #[k2m0]
  instanceTypes := #[]
  staticTypes := #[]
  resolved := Array.replicate 22 none
  statics := none }

def pool3 : Array CpInfo := pool [(1, .methodref 2 3), (0, .class_ 4), (0, .nameAndType 5 6), (0, u "java/lang/Record"), (0, u "<init>"), (0, u "()V"), (0, .interfaceMethodref 8 9), (0, .class_ 10), (0, .nameAndType 11 12), (0, u "java/util/Set"), (0, u "copyOf"), (0, u "(Ljava/util/Collection;)Ljava/util/Set;"), (0, .fieldref 14 15), (0, .class_ 16), (0, .nameAndType 17 18), (0, u "com/example/claimsmith/claimsmith/engine/GroupMapping$OnTheFly"), (0, u "createGroups"), (0, u "Z"), (0, .fieldref 14 20), (0, .nameAndType 21 18), (0, u "keepExistingGroups"), (0, .fieldref 14 23), (0, .nameAndType 24 25), (0, u "excludeGroups"), (0, u "Ljava/util/Set;"), (0, .fieldref 14 27), (0, .nameAndType 28 18), (0, u "restrictToKnownGroups"), (15, u "()Ljava/util/Set;"), (2, u "(ZZLjava/util/Set;Z)V"), (2, u "DEFAULTS"), (0, u "Lcom/example/claimsmith/claimsmith/engine/GroupMapping$OnTheFly;"), (6, u "creates"), (0, u "()Z"), (9, .class_ 70), (0, u "com/example/claimsmith/claimsmith/engine/GroupMapping")] 22

def k3c0 : Code := { maxStack := 2, maxLocals := 5, code := prog_10_method_1_code, exceptionTable := #[], attributes := #[] }
def k3m0 : Method := { name := "<init>", desc := "(ZZLjava/util/Set;Z)V", sig := { parameters := [.boolean, .boolean, (.object "java/util/Set"), .boolean], returnType := none }, accessFlags := 1, code := some k3c0 }
def k3c1 : Code := { maxStack := 1, maxLocals := 1, code := prog_10_method_2_code, exceptionTable := #[], attributes := #[] }
def k3m1 : Method := { name := "creates", desc := "()Z", sig := { parameters := [], returnType := some .boolean }, accessFlags := 0, code := some k3c1 }
def k3c2 : Code := { maxStack := 1, maxLocals := 1, code := prog_10_method_8_code, exceptionTable := #[], attributes := #[] }
def k3m2 : Method := { name := "excludeGroups", desc := "()Ljava/util/Set;", sig := { parameters := [], returnType := some (.object "java/util/Set") }, accessFlags := 1, code := some k3c2 }
/-- com/example/claimsmith/claimsmith/engine/GroupMapping$OnTheFly -/
def k3 : Class := { plain "com/example/claimsmith/claimsmith/engine/GroupMapping$OnTheFly" (some 2) with
  accessFlags := 49
  interfaces := #[]
  cf := some (fileOf pool3 14 #[.nestHost 69] #[{ accessFlags := 1, nameIndex := 5, descriptorIndex := 47, attributes := #[] }, { accessFlags := 0, nameIndex := 58, descriptorIndex := 59, attributes := #[] }, { accessFlags := 1, nameIndex := 24, descriptorIndex := 44, attributes := #[] }] 49 2 #[] #[{ accessFlags := 18, nameIndex := 17, descriptorIndex := 18, attributes := #[] }, { accessFlags := 18, nameIndex := 21, descriptorIndex := 18, attributes := #[] }, { accessFlags := 18, nameIndex := 24, descriptorIndex := 25, attributes := #[] }, { accessFlags := 18, nameIndex := 28, descriptorIndex := 18, attributes := #[] }, { accessFlags := 25, nameIndex := 50, descriptorIndex := 51, attributes := #[] }])
  fields := #[{ name := "createGroups", type := .boolean, accessFlags := 18, slot := 0, constantValue := 0 }, { name := "keepExistingGroups", type := .boolean, accessFlags := 18, slot := 1, constantValue := 0 }, { name := "excludeGroups", type := (.object "java/util/Set"), accessFlags := 18, slot := 2, constantValue := 0 }, { name := "restrictToKnownGroups", type := .boolean, accessFlags := 18, slot := 3, constantValue := 0 }, { name := "DEFAULTS", type := (.object "com/example/claimsmith/claimsmith/engine/GroupMapping$OnTheFly"), accessFlags := 25, slot := 0, constantValue := 0 }]
  methods := #[k3m0, k3m1, k3m2]
  instanceTypes := #[.boolean, .boolean, (.object "java/util/Set"), .boolean]
  staticTypes := #[(.object "com/example/claimsmith/claimsmith/engine/GroupMapping$OnTheFly")]
  resolved := Array.replicate 93 none
  statics := some 0 }

def pool4 : Array CpInfo := pool [(8, .class_ 10), (1, u "java/lang/Iterable"), (24, .class_ 36), (0, u "java/lang/Object")] 25

/-- java/lang/Iterable -/
def k4 : Class := { plain "java/lang/Iterable" (some 0) with
  accessFlags := 1537
  interfaces := #[]
  cf := some (fileOf pool4 8 #[] #[] 1537 35 #[] #[])
  fields := #[]
  methods := #[]
  instanceTypes := #[]
  staticTypes := #[]
  resolved := Array.replicate 62 none
  statics := none }

def pool5 : Array CpInfo := pool [(10, .class_ 12), (1, u "java/util/Collection"), (47, .class_ 61), (0, u "java/lang/Object"), (0, .class_ 63), (0, u "java/lang/Iterable")] 51

/-- java/util/Collection -/
def k5 : Class := { plain "java/util/Collection" (some 0) with
  accessFlags := 1537
  interfaces := #[4]
  cf := some (fileOf pool5 10 #[] #[] 1537 60 #[62] #[])
  fields := #[]
  methods := #[]
  instanceTypes := #[]
  staticTypes := #[]
  resolved := Array.replicate 115 none
  statics := none }

def pool6 : Array CpInfo := pool [(26, .class_ 27), (0, u "java/lang/Object"), (3, .class_ 32), (0, u "java/util/ImmutableCollections$AbstractImmutableSet"), (0, .class_ 34), (0, u "java/util/Set"), (1, .class_ 38), (1, u "java/util/Collection"), (92, u "copyOf"), (0, u "(Ljava/util/Collection;)Ljava/util/Set;")] 11

def k6c0 : Code := { maxStack := 3, maxLocals := 1, code := jdk_96_method_29_code, exceptionTable := #[], attributes := #[] }
def k6m0 : Method := { name := "copyOf", desc := "(Ljava/util/Collection;)Ljava/util/Set;", sig := { parameters := [(.object "java/util/Collection")], returnType := some (.object "java/util/Set") }, accessFlags := 9, code := some k6c0 }
/-- java/util/Set -/
def k6 : Class := { plain "java/util/Set" (some 0) with
  accessFlags := 1537
  interfaces := #[5]
  cf := some (fileOf pool6 33 #[] #[{ accessFlags := 9, nameIndex := 131, descriptorIndex := 132, attributes := #[] }] 1537 26 #[36] #[])
  fields := #[]
  methods := #[k6m0]
  instanceTypes := #[]
  staticTypes := #[]
  resolved := Array.replicate 144 none
  statics := none }

def pool7 : Array CpInfo := pool [(2, .class_ 4), (1, u "java/lang/Object"), (0, u "<init>"), (0, u "()V"), (1, .class_ 10), (1, u "java/util/AbstractCollection"), (66, .class_ 78), (0, u "java/util/Collection")] 81

def k7m0 : Method := { name := "<init>", desc := "()V", sig := { parameters := [], returnType := none }, accessFlags := 4, code := none }
/-- java/util/AbstractCollection -/
def k7 : Class := { plain "java/util/AbstractCollection" (some 0) with
  accessFlags := 1057
  interfaces := #[5]
  cf := some (fileOf pool7 8 #[] #[{ accessFlags := 4, nameIndex := 5, descriptorIndex := 6, attributes := #[] }] 1057 2 #[77] #[])
  fields := #[]
  methods := #[k7m0]
  instanceTypes := #[]
  staticTypes := #[]
  resolved := Array.replicate 160 none
  statics := none }

def pool8 : Array CpInfo := pool [(2, .class_ 4), (1, u "java/util/AbstractCollection"), (0, u "<init>"), (0, u "()V"), (1, .class_ 10), (1, u "java/util/ImmutableCollections"), (2, .class_ 14), (0, u "java/util/ImmutableCollections$AbstractImmutableCollection")] 41

def k8m0 : Method := { name := "<init>", desc := "()V", sig := { parameters := [], returnType := none }, accessFlags := 0, code := none }
/-- java/util/ImmutableCollections$AbstractImmutableCollection -/
def k8 : Class := { plain "java/util/ImmutableCollections$AbstractImmutableCollection" (some 7) with
  accessFlags := 1056
  interfaces := #[]
  cf := some (fileOf pool8 13 #[.nestHost 8] #[{ accessFlags := 0, nameIndex := 5, descriptorIndex := 6, attributes := #[] }] 1056 2 #[] #[])
  fields := #[]
  methods := #[k8m0]
  instanceTypes := #[]
  staticTypes := #[]
  resolved := Array.replicate 56 none
  statics := none }

def pool9 : Array CpInfo := pool [(2, .class_ 4), (1, u "java/util/ImmutableCollections$AbstractImmutableCollection"), (0, u "<init>"), (0, u "()V"), (0, .class_ 8), (0, u "java/util/Set"), (7, .class_ 17), (0, u "java/util/ImmutableCollections$AbstractImmutableSet"), (43, .class_ 62), (0, u "java/util/ImmutableCollections")] 3

def k9m0 : Method := { name := "<init>", desc := "()V", sig := { parameters := [], returnType := none }, accessFlags := 0, code := none }
/-- java/util/ImmutableCollections$AbstractImmutableSet -/
def k9 : Class := { plain "java/util/ImmutableCollections$AbstractImmutableSet" (some 8) with
  accessFlags := 1056
  interfaces := #[6]
  cf := some (fileOf pool9 16 #[.nestHost 61] #[{ accessFlags := 0, nameIndex := 5, descriptorIndex := 6, attributes := #[] }] 1056 2 #[7] #[])
  fields := #[]
  methods := #[k9m0]
  instanceTypes := #[]
  staticTypes := #[]
  resolved := Array.replicate 66 none
  statics := none }

def pool10 : Array CpInfo := pool [(1, .class_ 2), (0, u "java/io/Serializable"), (0, .class_ 4), (0, u "java/lang/Object")] 2

/-- java/io/Serializable -/
def k10 : Class := { plain "java/io/Serializable" (some 0) with
  accessFlags := 1537
  interfaces := #[]
  cf := some (fileOf pool10 1 #[] #[] 1537 3 #[] #[])
  fields := #[]
  methods := #[]
  instanceTypes := #[]
  staticTypes := #[]
  resolved := Array.replicate 7 none
  statics := none }

def pool11 : Array CpInfo := pool [(1, .class_ 2), (0, u "java/util/ImmutableCollections"), (1, .class_ 6), (1, u "java/util/ImmutableCollections$AbstractImmutableSet"), (3, .class_ 12), (1, u "java/util/ImmutableCollections$SetN"), (0, u "size"), (0, u "I"), (4, u "elements"), (0, u "[Ljava/lang/Object;"), (86, .class_ 108), (0, u "java/io/Serializable")] 59

/-- java/util/ImmutableCollections$SetN -/
def k11 : Class := { plain "java/util/ImmutableCollections$SetN" (some 9) with
  accessFlags := 48
  interfaces := #[10]
  cf := some (fileOf pool11 10 #[.nestHost 1] #[] 48 4 #[107] #[{ accessFlags := 16, nameIndex := 19, descriptorIndex := 20, attributes := #[] }, { accessFlags := 16, nameIndex := 13, descriptorIndex := 14, attributes := #[] }])
  fields := #[{ name := "elements", type := (.array (.object "java/lang/Object")), accessFlags := 16, slot := 0, constantValue := 0 }, { name := "size", type := .int, accessFlags := 16, slot := 1, constantValue := 0 }]
  methods := #[]
  instanceTypes := #[(.array (.object "java/lang/Object")), .int]
  staticTypes := #[]
  resolved := Array.replicate 168 none
  statics := none }

def pool12 : Array CpInfo := pool [(1, u "java/lang/Cloneable"), (0, .class_ 1), (0, u "java/lang/Object"), (0, .class_ 3)] 3

/-- java/lang/Cloneable -/
def k12 : Class := { plain "java/lang/Cloneable" (some 0) with
  accessFlags := 1537
  interfaces := #[]
  cf := some (fileOf pool12 2 #[] #[] 1537 4 #[] #[])
  fields := #[]
  methods := #[]
  instanceTypes := #[]
  staticTypes := #[]
  resolved := Array.replicate 8 none
  statics := none }

/-- the primitive byte -/
def k13 : Class := { plain "byte" none with kind := .primitive 'B', accessFlags := 0x411 }
/-- [B -/
def k14 : Class := { plain "[B" (some 0) with kind := .array 13 .byte, interfaces := #[12, 10], accessFlags := 1041 }

/-- the primitive int -/
def k15 : Class := { plain "int" none with kind := .primitive 'I', accessFlags := 0x411 }
/-- [I -/
def k16 : Class := { plain "[I" (some 0) with kind := .array 15 .int, interfaces := #[12, 10], accessFlags := 1041 }

def heap : Heap := #[{ cls := 3, slots := #[.ref 1], vm := .statics 3 },
  { cls := 3, slots := #[.int 1, .int 0, .ref 2, .int 0], vm := .none },
  { cls := 11, slots := #[.null, .int 0], vm := .none }]
def classes : Array Class := #[k0, k1, k2, k3, k4, k5, k6, k7, k8, k9, k10, k11, k12, k13, k14, k15, k16]
def interned : List (Array UInt16 × Addr) := []
def slotsUsed : Nat := 7
def theMethod : MethodId := ⟨1, 1⟩
def args0 : Array Value := #[.int 5]
def aboutOver (below : List Frame) : State where
  vm := { classes := classes, interned := interned.toArray }
  heap := heap
  slotsUsed := slotsUsed
  threads := #[{ frames := .invoking theMethod args0 :: below }]
def below0 : List Frame := [.native { method := ⟨0, 0⟩, args := #[] }]
def about1 : State := aboutOver below0
def p0 : Program := .bare "" "" ""
def e0 : Env := launch0.env 0 0 0
theorem w_frames : about1.frames = Frame.invoking theMethod args0 :: below0 := rfl
set_option maxRecDepth 65536 in
theorem w_args : argsFit about1.vm theMethod args0 = true := by decide +kernel
set_option maxRecDepth 65536 in
theorem w_heap : heapFits about1 = true := by decide +kernel
set_option maxRecDepth 65536 in
theorem w_runnable : about1.curStatus? = some .runnable := by decide +kernel
set_option maxRecDepth 65536 in
theorem w_alone : about1.alone = true := by decide +kernel
set_option maxRecDepth 65536 in
theorem w_named : about1.methodNamed? x = some theMethod := by decide +kernel
set_option maxRecDepth 65536 in
theorem w_hears : about1.hears theMethod below0 = true := by decide +kernel
set_option maxRecDepth 65536 in
theorem w_ripe : about1.ripe theMethod args0 below0 = true := by decide +kernel
theorem w_running : about1.status = .running := rfl
set_option maxRecDepth 65536 in
theorem w_room : about1.hasRoom e0.platform room_1 = true :=
  launch0.hasRoom_least _ room_1 (by decide +kernel) (by decide +kernel) (by decide +kernel) (by decide +kernel) (by decide +kernel) (by decide +kernel)
theorem allAtoms_all (ts : List Jvm.Cond) (a : Array Jvm.Value) (st : Jvm.State) : (allAtoms ts).before a st = ts.all (fun c => c.before a st) := by
  induction ts with
  | nil => rfl
  | cons c t ih =>
    show (Jvm.Cond.and c (allAtoms t)).before a st = _
    rw [Jvm.Cond.before_and, ih, List.all_cons]
def words1 : List Jvm.Cond := Jvm.Cond.code x code maxLocals ret :: tables_1
/-- a 'code' word, met by the world's own term for the bytes: nothing is compared byte by byte -/
theorem code_word {y : MethodName} {bytes : ByteArray} {mx : Nat} {rt : Option FieldType} {a : Array Value} {s : State} {m : MethodId} {meth : Method} {c : Code} (h1 : s.methodNamed? y = some m) (h2 : s.vm.method? m = some meth) (h3 : meth.code = some c) (h4 : c.code = bytes)
    (h5 : (c.maxLocals == mx && c.exceptionTable.isEmpty && decide (c.maxStack ≤ mostOperands) && decide (meth.sig.returnType = rt) && !meth.locks && decide (parseMethodDescriptor y.desc = some meth.sig)) = true) : (Jvm.Cond.code y bytes mx rt).before a s = true := by
  simp only [Bool.and_eq_true, beq_iff_eq, Bool.not_eq_true', decide_eq_true_eq] at h5
  obtain ⟨⟨⟨⟨⟨g1, g2⟩, g3⟩, g4⟩, g5⟩, g6⟩ := h5
  simp [Cond.before, Cond.holds, Cond.value, h1, h2, h3, h4, g1, g2, g3, g4, g5, g6]
def isCode : Jvm.Cond → Bool
  | .code _ _ _ _ => true
  | _ => false
theorem all_split {L : List Jvm.Cond} {P : Jvm.Cond → Bool} (h1 : L.all (fun c => isCode c || P c) = true) (h2 : ∀ c ∈ L.filter isCode, P c = true) : L.all P = true := by
  refine List.all_eq_true.mpr fun c hc => ?_
  have h := List.all_eq_true.mp h1 c hc
  rcases Bool.eq_false_or_eq_true (isCode c) with hi | hi
  · exact h2 c (List.mem_filter.mpr ⟨hc, hi⟩)
  · simpa [hi] using h
set_option maxRecDepth 65536 in
theorem w_c0 : (Jvm.Cond.code x code maxLocals ret).before args0 about1 = true := code_word (m := ⟨1, 1⟩) (meth := k1m1) (c := k1c1) (by decide +kernel) rfl rfl rfl (by decide +kernel)
set_option maxRecDepth 65536 in
theorem w_c1 : (Jvm.Cond.code ({ cls := "com/example/claimsmith/claimsmith/engine/GroupMapping$OnTheFly", name := "excludeGroups", desc := "()Ljava/util/Set;" } : Jvm.MethodName) prog_10_method_8_code (1 : Nat) (Option.some (Jvm.ClassFile.FieldType.object "java/util/Set"))).before args0 about1 = true := code_word (m := ⟨3, 2⟩) (meth := k3m2) (c := k3c2) (by decide +kernel) rfl rfl rfl (by decide +kernel)
set_option maxRecDepth 65536 in
theorem w_c2 : (Jvm.Cond.code ({ cls := "com/example/claimsmith/claimsmith/engine/GroupMapping$OnTheFly", name := "<init>", desc := "(ZZLjava/util/Set;Z)V" } : Jvm.MethodName) prog_10_method_1_code (5 : Nat) (Option.none : Option Jvm.ClassFile.FieldType)).before args0 about1 = true := code_word (m := ⟨3, 0⟩) (meth := k3m0) (c := k3c0) (by decide +kernel) rfl rfl rfl (by decide +kernel)
set_option maxRecDepth 65536 in
theorem w_c3 : (Jvm.Cond.code ({ cls := "java/lang/Record", name := "<init>", desc := "()V" } : Jvm.MethodName) jdk_30_method_1_code (1 : Nat) (Option.none : Option Jvm.ClassFile.FieldType)).before args0 about1 = true := code_word (m := ⟨2, 0⟩) (meth := k2m0) (c := k2c0) (by decide +kernel) rfl rfl rfl (by decide +kernel)
set_option maxRecDepth 65536 in
theorem w_c4 : (Jvm.Cond.code ({ cls := "java/lang/Object", name := "<init>", desc := "()V" } : Jvm.MethodName) object_method_1_code (1 : Nat) (Option.none : Option Jvm.ClassFile.FieldType)).before args0 about1 = true := code_word (m := ⟨0, 0⟩) (meth := k0m0) (c := k0c0) (by decide +kernel) rfl rfl rfl (by decide +kernel)
set_option maxRecDepth 65536 in
theorem w_c5 : (Jvm.Cond.code ({ cls := "java/util/Set", name := "copyOf", desc := "(Ljava/util/Collection;)Ljava/util/Set;" } : Jvm.MethodName) jdk_96_method_29_code (1 : Nat) (Option.some (Jvm.ClassFile.FieldType.object "java/util/Set"))).before args0 about1 = true := code_word (m := ⟨6, 0⟩) (meth := k6m0) (c := k6c0) (by decide +kernel) rfl rfl rfl (by decide +kernel)
set_option maxRecDepth 65536 in
theorem w_c6 : (Jvm.Cond.code ({ cls := "com/example/claimsmith/claimsmith/engine/GroupMapping$OnTheFly", name := "creates", desc := "()Z" } : Jvm.MethodName) prog_10_method_2_code (1 : Nat) (Option.some Jvm.ClassFile.FieldType.boolean)).before args0 about1 = true := code_word (m := ⟨3, 1⟩) (meth := k3m1) (c := k3c1) (by decide +kernel) rfl rfl rfl (by decide +kernel)
def codes1 : List Jvm.Cond := [Jvm.Cond.code x code maxLocals ret, Jvm.Cond.code ({ cls := "com/example/claimsmith/claimsmith/engine/GroupMapping$OnTheFly", name := "excludeGroups", desc := "()Ljava/util/Set;" } : Jvm.MethodName) prog_10_method_8_code (1 : Nat) (Option.some (Jvm.ClassFile.FieldType.object "java/util/Set")), Jvm.Cond.code ({ cls := "com/example/claimsmith/claimsmith/engine/GroupMapping$OnTheFly", name := "<init>", desc := "(ZZLjava/util/Set;Z)V" } : Jvm.MethodName) prog_10_method_1_code (5 : Nat) (Option.none : Option Jvm.ClassFile.FieldType), Jvm.Cond.code ({ cls := "java/lang/Record", name := "<init>", desc := "()V" } : Jvm.MethodName) jdk_30_method_1_code (1 : Nat) (Option.none : Option Jvm.ClassFile.FieldType), Jvm.Cond.code ({ cls := "java/lang/Object", name := "<init>", desc := "()V" } : Jvm.MethodName) object_method_1_code (1 : Nat) (Option.none : Option Jvm.ClassFile.FieldType), Jvm.Cond.code ({ cls := "java/util/Set", name := "copyOf", desc := "(Ljava/util/Collection;)Ljava/util/Set;" } : Jvm.MethodName) jdk_96_method_29_code (1 : Nat) (Option.some (Jvm.ClassFile.FieldType.object "java/util/Set")), Jvm.Cond.code ({ cls := "com/example/claimsmith/claimsmith/engine/GroupMapping$OnTheFly", name := "creates", desc := "()Z" } : Jvm.MethodName) prog_10_method_2_code (1 : Nat) (Option.some Jvm.ClassFile.FieldType.boolean)]
set_option maxRecDepth 65536 in
theorem codes_eq : words1.filter isCode = codes1 := rfl
theorem w_codes : ∀ c ∈ words1.filter isCode, c.before args0 about1 = true := by
  rw [codes_eq]
  intro c hc
  simp only [codes1, List.mem_cons, List.not_mem_nil, or_false] at hc
  rcases hc with rfl | rfl | rfl | rfl | rfl | rfl | rfl
  · exact w_c0
  · exact w_c1
  · exact w_c2
  · exact w_c3
  · exact w_c4
  · exact w_c5
  · exact w_c6
set_option maxRecDepth 65536 in
theorem w_t1 : (words1.take 24).all (fun c => isCode c || c.before args0 about1) = true := by decide +kernel
set_option maxRecDepth 65536 in
theorem w_t2 : (words1.drop 24).all (fun c => isCode c || c.before args0 about1) = true := by decide +kernel
theorem w_tables : (allAtoms (Jvm.Cond.code x code maxLocals ret :: tables_1)).before args0 about1 = true := by
  rw [allAtoms_all]
  show words1.all (fun c => c.before args0 about1) = true
  refine all_split ?_ w_codes
  rw [← List.take_append_drop 24 words1, List.all_append, w_t1, w_t2]
  rfl
set_option maxRecDepth 65536 in
theorem w_case : (Jvm.Cond.and given_1 narrow_1).before args0 about1 = true := by decide +kernel
theorem w_applies : (headSpec (Jvm.Cond.code x code maxLocals ret :: tables_1) room_1).applies x e0.platform about1 = true :=
  (Spec.applies_iff w_frames).mpr ⟨w_running, w_runnable, w_alone, w_named, w_hears, w_ripe, w_room, w_tables⟩
theorem atStart : AtStart classFile x code maxLocals ret World_1 tables_1 room_1 Calls_1 rest_1 Pre_1 launch0 p0 e0 about1 theMethod args0 below0 :=
  ⟨lists_1, trivial, launch0.admits_env _ _ _, launch0.least_env, fairChoices_fair.cas, fairChoices_fair.clock, w_frames, w_args, w_heap, w_applies, trivial, trivial, w_case⟩
end start1
theorem witness_1 : WitnessClaimed_1 := ⟨start1.p0, start1.e0, start1.about1, start1.theMethod, start1.args0, start1.below0, start1.atStart⟩
end Jvm.Pilot.@@N@@
