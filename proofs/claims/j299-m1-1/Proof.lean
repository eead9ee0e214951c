import JvmDerived
import JvmDerived.Pilot.@@N@@Statement
import JvmDerived.Pilot.@@N@@Code
set_option linter.unusedVariables false
set_option linter.unusedSimpArgs false
namespace Jvm.RoadKit
open Sem ClassFile Op Lib Jvm.Stand Jvm.Free Jvm.LawKit
section New
variable {p : Program} {l : Launch} {e : Env} {R : Room} {s : State} {m : MethodId} {args : Array Value} {below : List Frame} {meth : Method} {c : Code} {T : State} {locs : List Loc} {cells slots : Nat} {K : Outcome → State → Prop}
theorem retI (X : Stand p l e R s m args below meth c T locs cells slots) (hx : p.tables.exec = Jvm.exec) {pc : Nat} {Ls : Array Slot} {z : Int32} {rest : List Value} (hret : meth.sig.returnType = some .int) (hd : decode c.code pc = .ok (.ireturn, 1)) {fs : List Frame}
    (hl : ∀ (f : JFrame) (acts : List Action), f.method = m → f.locked = none → f.entered = [] → (doReturn e (T.setTop f) acts (some (.int z))).1 = T.setFrames fs) : Steps p.tables e below (T.setTop (mkF m pc Ls (.int z :: rest))) (T.setFrames fs) := by
  have hm' : T.vm.method? m = some meth := X.method'
  have hn : narrow .int (.int z) = .int z := rfl
  show Steps p.tables e below (T.setTop { method := m, pc := pc, locals := Ls, stack := _ :: rest, locked := none }) _
  jvm_step X.here [X.here.top, hx, hd, hm', hret, hn]
  first | (intro acts; rw [hl _ acts rfl rfl rfl]) | rw [hl _ _ rfl rfl rfl]
  exact Steps.refl _
/-- from here the run comes to an end that K holds of -/
def Rch (p : Program) (e : Env) (below : List Frame) (K : Outcome → State → Prop) (T : State) (g : JFrame) : Prop := ∃ s₂ o, Steps p.tables e below (T.setTop g) s₂ ∧ s₂.status = .running ∧ Ended s₂ below o ∧ K o s₂
theorem Rch.of {T T' : State} {g g' : JFrame} (h : ∀ t, Steps p.tables e below (T'.setTop g') t → Steps p.tables e below (T.setTop g) t) (k : Rch p e below K T' g') : Rch p e below K T g := by
  obtain ⟨s₂, o, h1, h2⟩ := k
  exact ⟨s₂, o, h _ h1, h2⟩
theorem Rch.via {T T' : State} {g g' : JFrame} (h : Steps p.tables e below (T.setTop g) (T'.setTop g')) (k : Rch p e below K T' g') : Rch p e below K T g := Rch.of (fun _ kt => h.trans kt) k
theorem Rch.cast {T : State} {g g' : JFrame} (q : g = g') (k : Rch p e below K T g') : Rch p e below K T g := q ▸ k
theorem Rch.retN (X : Stand p l e R s m args below meth c T locs cells slots) (hx : p.tables.exec = Jvm.exec) {pc : Nat} {Ls : Array Slot} {z : Int32} {t : FieldType} {rest : List Value} (hret : meth.sig.returnType = some t) (ht : t = .boolean ∨ t = .byte ∨ t = .char ∨ t = .short) (hlk : meth.locks = false) (hd : decode c.code pc = .ok (.ireturn, 1))
    (k : ∀ U : State, U.heap = T.heap → FrameEnd s (.returned (some (.int (nar t z)))) U locs cells slots → K (.returned (some (.int (nar t z)))) U) : Rch p e below K T (mkF m pc Ls (.int z :: rest)) := by
  obtain ⟨fs, hr, hrun, hended, hW, hsame⟩ := X.leave (v := some (.int (nar t z))) (fun h => by rw [hret] at h; cases h) hlk
  exact ⟨_, _, Jvm.RoadKit.retN X hx hret ht hd hr, hrun, hended, k _ rfl ⟨⟨_, rfl⟩, hW, hsame⟩⟩
theorem Rch.retI (X : Stand p l e R s m args below meth c T locs cells slots) (hx : p.tables.exec = Jvm.exec) {pc : Nat} {Ls : Array Slot} {z : Int32} {rest : List Value} (hret : meth.sig.returnType = some .int) (hlk : meth.locks = false) (hd : decode c.code pc = .ok (.ireturn, 1))
    (k : ∀ U : State, U.heap = T.heap → FrameEnd s (.returned (some (.int z))) U locs cells slots → K (.returned (some (.int z))) U) : Rch p e below K T (mkF m pc Ls (.int z :: rest)) := by
  obtain ⟨fs, hr, hrun, hended, hW, hsame⟩ := X.leave (v := some (.int z)) (fun h => by rw [hret] at h; cases h) hlk
  exact ⟨_, _, Jvm.RoadKit.retI X hx hret hd hr, hrun, hended, k _ rfl ⟨⟨_, rfl⟩, hW, hsame⟩⟩
theorem Rch.retJ (X : Stand p l e R s m args below meth c T locs cells slots) (hx : p.tables.exec = Jvm.exec) {pc : Nat} {Ls : Array Slot} {z : Int64} {rest : List Value} (hret : meth.sig.returnType = some .long) (hlk : meth.locks = false) (hd : decode c.code pc = .ok (.lreturn, 1))
    (k : ∀ U : State, U.heap = T.heap → FrameEnd s (.returned (some (.long z))) U locs cells slots → K (.returned (some (.long z))) U) : Rch p e below K T (mkF m pc Ls (.long z :: rest)) := by
  obtain ⟨fs, hr, hrun, hended, hW, hsame⟩ := X.leave (v := some (.long z)) (fun h => by rw [hret] at h; cases h) hlk
  exact ⟨_, _, retOut X hx hret rfl (Or.inr (Or.inl ⟨rfl, rfl, z, rfl⟩)) hd hr, hrun, hended, k _ rfl ⟨⟨_, rfl⟩, hW, hsame⟩⟩
theorem Rch.retA (X : Stand p l e R s m args below meth c T locs cells slots) (hx : p.tables.exec = Jvm.exec) {pc : Nat} {Ls : Array Slot} {w : Value} {t : FieldType} {rest : List Value} (hret : meth.sig.returnType = some t) (ht : t.isReference = true) (hw : w.isRef = true) (hlk : meth.locks = false) (hd : decode c.code pc = .ok (.areturn, 1))
    (k : ∀ U : State, U.heap = T.heap → FrameEnd s (.returned (some w)) U locs cells slots → K (.returned (some w)) U) : Rch p e below K T (mkF m pc Ls (w :: rest)) := by
  obtain ⟨fs, hr, hrun, hended, hW, hsame⟩ := X.leave (v := some w) (fun h => by rw [hret] at h; cases h) hlk
  have hn : narrow t w = w := by
    rcases ref_cases hw with rfl | ⟨a, rfl⟩ <;> cases t <;> first | rfl | (simp [FieldType.isReference] at ht)
  exact ⟨_, _, retOut X hx hret hn (Or.inr (Or.inr (Or.inr (Or.inr ⟨rfl, ht, hw⟩)))) hd hr, hrun, hended, k _ rfl ⟨⟨_, rfl⟩, hW, hsame⟩⟩
theorem Rch.retV (X : Stand p l e R s m args below meth c T locs cells slots) (hx : p.tables.exec = Jvm.exec) {pc : Nat} {Ls : Array Slot} (hret : meth.sig.returnType = none) (hlk : meth.locks = false) (hd : decode c.code pc = .ok (.return_, 1))
    (k : ∀ U : State, U.heap = T.heap → FrameEnd s (.returned none) U locs cells slots → K (.returned none) U) : Rch p e below K T (mkF m pc Ls []) := by
  obtain ⟨fs, hr, hrun, hended, hW, hsame⟩ := X.leave (v := none) (fun _ => rfl) hlk
  exact ⟨_, _, X.returnOut hx hret hd hr, hrun, hended, k _ rfl ⟨⟨_, rfl⟩, hW, hsame⟩⟩
theorem own_met {y : MethodName} {bytes : ByteArray} {maxL : Nat} {ret : Option FieldType} {ws : List Cond} {rm : Room} {as' : Array Value} {Z : State} {h0 : Heap} {Q : Option Value → Heap → List Loc → Prop} {ck sk : Nat} (hn : plainFor y = true)
    (body : ∀ (p : Program) (e : Env) (s : State) (m : MethodId) (below : List Frame) (meth : Method) (c : Code) (T : State) (K : Outcome → State → Prop), p.tables.exec = Jvm.exec → c.code = bytes → c.maxLocals = maxL → meth.sig.returnType = ret → meth.locks = false → s.vm.findClass y.cls = some m.cls → meth.name = y.name → Z.Warmed39 s.vm → Stand p l e rm s m as' below meth c T [] 0 0 → T.heap = h0 →
      (∀ (v : Option Value) (U : State) (L : List Loc) (k n : Nat), Q v U.heap L → FrameEnd s (.returned v) U L k n → k ≤ ck → n ≤ sk → K (.returned v) U) → Rch p e below K T (entryFrame m as' maxL)) :
    MetFree l y (head1 (Cond.code y bytes maxL ret :: ws) rm) (fun a U => a = as' ∧ Z.Warmed39 U.vm ∧ U.heap = h0) (fun _ _ _ _ _ => True) (fun _ U o U' => ∃ v L, o = .returned v ∧ Q v U'.heap L ∧ FrameEnd U o U' L ck sk) := by
  refine MetFree.of_bodySF hn hisR ?_
  intro p e s m args below meth c s₁ Bd hml0 hP hK
  obtain ⟨rfl, hZ, hh⟩ := hP
  show Rch p e below (fun o U' => ∃ v L, o = .returned v ∧ Q v U'.heap L ∧ FrameEnd s o U' L ck sk) s₁ (entryFrame m args maxL)
  refine body p e s m below meth c s₁ _ Bd.exec Bd.bytes hml0 Bd.returns Bd.notSynchronized (findClass_of_methodNamed Bd.named) (name_of_methodNamed Bd.named Bd.method).1 hZ (Stand.of_body Bd) (by rw [← hh, Bd.state]; rfl) ?_
  intro v U L k n hQ hF hk hs
  exact ⟨v, L, rfl, hQ, hF.1, hF.2.1, hF.2.2.mono hk hs⟩
theorem own_metS {y : MethodName} {bytes : ByteArray} {maxL : Nat} {ret : Option FieldType} {ws : List Cond} {rm : Room} {as' : Array Value} {Z : State} {h0 : Heap} {Q : Option Value → Heap → List Loc → Prop} {ck sk : Nat} (hn : plainFor y = true)
    (body : ∀ (p : Program) (e : Env) (s : State) (m : MethodId) (below : List Frame) (meth : Method) (c : Code) (T : State) (K : Outcome → State → Prop), p.tables.exec = Jvm.exec → c.code = bytes → c.maxLocals = maxL → meth.sig.returnType = ret → meth.locks = false → s.vm.findClass y.cls = some m.cls → meth.name = y.name → Z.Warmed39 s.vm → Stand p l e rm s m as' below meth c T [] 0 0 → T.heap = h0 →
      (∀ (v : Option Value) (U : State) (L : List Loc) (k n : Nat), Q v U.heap L → ReturnedEndW s (.returned v) U L k n → k ≤ ck → n ≤ sk → K (.returned v) U) → Rch p e below K T (entryFrame m as' maxL)) :
    MetFree l y (head1 (Cond.code y bytes maxL ret :: ws) rm) (fun a U => a = as' ∧ Z.Warmed39 U.vm ∧ U.heap = h0) (fun _ _ _ _ _ => True) (fun _ U o U' => ∃ v L, o = .returned v ∧ Q v U'.heap L ∧ ReturnedEndW U o U' L ck sk) := by
  refine MetFree.of_bodySF hn hisR ?_
  intro p e s m args below meth c s₁ Bd hml0 hP hK
  obtain ⟨rfl, hZ, hh⟩ := hP
  show Rch p e below (fun o U' => ∃ v L, o = .returned v ∧ Q v U'.heap L ∧ ReturnedEndW s o U' L ck sk) s₁ (entryFrame m args maxL)
  refine body p e s m below meth c s₁ _ Bd.exec Bd.bytes hml0 Bd.returns Bd.notSynchronized (findClass_of_methodNamed Bd.named) (name_of_methodNamed Bd.named Bd.method).1 hZ (Stand.of_body Bd) (by rw [← hh, Bd.state]; rfl) ?_
  intro v U L k n hQ hF hk hs
  exact ⟨v, L, rfl, hQ, hF.1, hF.2.1, hF.2.2.1, hF.2.2.2.mono hk hs⟩
theorem own_end {vm1 : Vm} {n : Nat} (h : s.Since vm1 n) {U : State} {o : Outcome} {L : List Loc} {k c : Nat} (hn : n ≤ U.heap.size) (F : FrameEnd (s.setVm vm1) o U L k c) : ReturnedEndW s o U L k c := by
  obtain ⟨h1, h2, h3⟩ := F
  obtain ⟨g1, g2, g3⟩ := h.ended h2 hn h3
  exact ⟨h1, g1, g2, g3⟩
theorem own_narrowZ {z : Int32} (h : z = 0 ∨ z = 1) : narrow .boolean (.int z) = .int z := by rcases h with rfl | rfl <;> rfl
theorem own_fitZ {z : Int32} (h : z = 0 ∨ z = 1) : fits .boolean (.int z) = true := by rcases h with rfl | rfl <;> rfl
theorem own_narZ {z : Int32} (h : z = 0 ∨ z = 1) : nar .boolean z = z := by rcases h with rfl | rfl <;> rfl
/-- a truth as an int -/
def ob (P : Prop) [Decidable P] : Int32 := if P then 1 else 0
theorem ob_cases (P : Prop) [Decidable P] : (ob P = 1 ∧ P) ∨ (ob P = 0 ∧ ¬ P) := by
  by_cases h : P
  · exact Or.inl ⟨if_pos h, h⟩
  · exact Or.inr ⟨if_neg h, h⟩
theorem ob01 (P : Prop) [Decidable P] : ob P = 0 ∨ ob P = 1 := (ob_cases P).elim (fun h => Or.inr h.1) (fun h => Or.inl h.1)
theorem ob_pos {P : Prop} [Decidable P] (h : P) : ob P = 1 := if_pos h
theorem ob_neg {P : Prop} [Decidable P] (h : ¬ P) : ob P = 0 := if_neg h
theorem own_selP {args : Array Value} {y : MethodName} {n : Nat} (wi : (Cond.instantiable y.cls n).before args s = true) (hp : (Cond.privateMethod y).before args s = true) (hinst : (Cond.instanceMethod y).before args s = true) (hy : y.cls ≠ "java/lang/invoke/MethodHandle" ∧ y.cls ≠ "java/lang/invoke/VarHandle") : (Cond.selects y.cls y y).before args s = true := by
  obtain ⟨c, k, h1, h2, -, h4, -⟩ := Cond.instantiable_spec wi
  exact Jvm.Stand.selects_self_of_private h1 h2 (by cases hq : k.isInterface <;> simp [hq] at h4 ⊢) (Cond.privateMethod_at hp) hinst hy
end New
section Arrays
variable {Z : State} {h h' : Heap} {a b : Addr} {ty : FieldType} {n i : Nat} {f f' : Nat → Value} {sl : Nat} {v : Value} {ws : List Addr} {j : Int32} {c : Cell}
/-- the array at a has n places; place q holds f q -/
def Av (Z : State) (h : Heap) (a : Addr) (ty : FieldType) (n : Nat) (f : Nat → Value) : Prop := ∃ cl : Cell, Arr Z h a cl ty ∧ cl.slots.size = n ∧ ∀ j, j < n → cl.slots[j]? = some (f j)
theorem Av.ext (V : Av Z h a ty n f) (E : Ext h h') : Av Z h' a ty n f := by obtain ⟨c, A, r⟩ := V; exact ⟨c, A.ext E, r⟩
theorem Av.other (V : Av Z h b ty n f) (W : Wr h h' a sl v) (q : b ≠ a) : Av Z h' b ty n f := by obtain ⟨c, A, r⟩ := V; exact ⟨c, A.other W q, r⟩
theorem Av.keep (V : Av Z h a ty n f) (K : Keep h h' ws) (q : a ∉ ws) : Av Z h' a ty n f := by obtain ⟨c, A, r⟩ := V; exact ⟨c, ⟨K.2.1 a c A.1 q, A.2⟩, r⟩
theorem Av.lt (V : Av Z h a ty n f) : a < h.size := by obtain ⟨c, A, -⟩ := V; exact A.lt
theorem Av.congr (V : Av Z h a ty n f) (q : ∀ j, j < n → f j = f' j) : Av Z h a ty n f' := by obtain ⟨c, A, S, H⟩ := V; exact ⟨c, A, S, fun j hj => by rw [H j hj, q j hj]⟩
theorem Av.nostat (V : Av Z h a ty n f) : ∀ cell : Cell, h[a]? = some cell → cell.vm.isStatics = false := by
  obtain ⟨c, A, -⟩ := V
  exact Arr.nostat A
theorem own_sta {C nm d : String} (F : Sta Z h C nm d v) (K : Keep h h' ws) (hn : ∀ x ∈ ws, ∀ cell : Cell, h[x]? = some cell → cell.vm.isStatics = false) : Sta Z h' C nm d v := by
  obtain ⟨cf, i, k, f, st, cell, h1, h2, h3, h4, h5, h6, h7⟩ := F
  refine ⟨cf, i, k, f, st, cell, h1, h2, h3, h4, K.2.1 st cell h5 fun q => ?_, h6, h7⟩
  rw [hn st q cell h5] at h6
  cases h6
theorem oNat (e : j.toInt = (i : Int)) : j.toNatClampNeg = i := by simp only [Int32.toNatClampNeg]; omega
theorem oNn (e : j.toInt = (i : Int)) : ¬ j < 0 := by
  rw [Int32.lt_iff_toInt_lt]; have : (0 : Int32).toInt = 0 := rfl
  omega
theorem oIn (S : c.slots.size = n) (e : j.toInt = (i : Int)) (hi : i < n) : ¬ (j < 0 ∨ c.slots.size ≤ j.toNatClampNeg) := by
  rw [oNat e, S]; intro q
  rcases q with q | q
  · exact oNn e q
  · omega
theorem oAt (H : ∀ j, j < n → c.slots[j]? = some (f j)) (e : j.toInt = (i : Int)) (hi : i < n) : c.slots[j.toNatClampNeg]? = some (f i) := by rw [oNat e]; exact H i hi
theorem Av.set (V : Av Z h a ty n f) (e : j.toInt = (i : Int)) (hi : i < n) (W : Wr h h' a j.toNatClampNeg v) : Av Z h' a ty n (fun q => if q = i then v else f q) := by
  obtain ⟨c, A, S, H⟩ := V
  rw [oNat e] at W
  refine ⟨_, A.same W, by rw [sz_set]; exact S, fun k hk => ?_⟩
  by_cases u : k = i
  · subst u; simp [Cell.setSlot, S, hk]
  · simp only [u, if_false, Cell.setSlot]; rw [Array.getElem?_setIfInBounds_ne (Ne.symm u)]; exact H k hk
theorem Av.setI {y : Nat → Int32} {x : Int32} (V : Av Z h a ty n (fun q => .int (y q))) (e : j.toInt = (i : Int)) (hi : i < n) (W : Wr h h' a j.toNatClampNeg (.int x)) : Av Z h' a ty n (fun q => .int (if q = i then x else y q)) := (V.set e hi W).congr fun k _ => by
  by_cases u : k = i <;> simp [u]
theorem Av.setJ {y : Nat → Int64} {x : Int64} (V : Av Z h a ty n (fun q => .long (y q))) (e : j.toInt = (i : Int)) (hi : i < n) (W : Wr h h' a j.toNatClampNeg (.long x)) : Av Z h' a ty n (fun q => .long (if q = i then x else y q)) := (V.set e hi W).congr fun k _ => by
  by_cases u : k = i <;> simp [u]
theorem oLen (S : c.slots.size = n) : c.slots.size.toInt32 = Int32.ofNat n := by rw [S]
theorem Av.new {k : ClassId} {z : Int32} (A : Arr Z h a (newA k ty z) ty) (e : z.toInt = (n : Int)) : Av Z h a ty n (fun _ => defaultValue ty) :=
  ⟨_, A, by rw [sz_new]; exact oNat e, fun j hj => by have := oNat e; simp [newA, this, hj]⟩
/-- the array at a takes what is a C -/
def OvA (Z : State) (h : Heap) (a : Addr) (C : String) : Prop := ∃ cl : Cell, h[a]? = some cl ∧ Ovr Z cl.cls C
theorem OvA.ext {C : String} (F : OvA Z h a C) (E : Ext h h') : OvA Z h' a C := by obtain ⟨c, h1, h2⟩ := F; exact ⟨c, E.2 _ _ h1, h2⟩
theorem OvA.wr {C : String} (F : OvA Z h a C) (W : Wr h h' b sl v) : OvA Z h' a C := by
  obtain ⟨c, h1, h2⟩ := F
  obtain ⟨c', e1, e2, -⟩ := wr_at W h1
  exact ⟨c', e1, by rw [e2]; exact h2⟩
theorem OvA.keep {C : String} (F : OvA Z h a C) (K : Keep h h' ws) : OvA Z h' a C := by
  obtain ⟨c, h1, h2⟩ := F
  obtain ⟨c', e1, e2, -⟩ := K.2.2 a c h1
  exact ⟨c', e1, by rw [e2]; exact h2⟩
theorem OvA.at {C : String} (F : OvA Z h a C) (A : Arr Z h a c ty) : Ovr Z c.cls C := by
  obtain ⟨c', h1, h2⟩ := F
  cases h1.symm.trans A.1; exact h2
theorem oTo {n : Nat} (h : n < 2 ^ 31) : (Int32.ofNat n).toInt = (n : Int) := len_toInt h
end Arrays
end Jvm.RoadKit
namespace Jvm.Pilot.@@N@@
open Jvm Jvm.ClassFile Sem Op Lib Jvm.Free Jvm.Stand Jvm.LawKit Jvm.RoadKit Bundle Jvm.Pilot.@@N@@.Jvm.D
def own_key (a b : Int32) : Int64 := ((a.toInt64) <<< ((32 : Int32) &&& 0x3f).toInt64) + ((b.toInt64) - (-2147483648 : Int64))
theorem own_key_val (a b : Int32) : (own_key a b).toInt = a.toInt * 4294967296 + (b.toInt + 2147483648) := by
  have h1 := c_lshl a.toInt64 (32 : Int32) 32 (by decide)
  have h2 := c_lsub b.toInt64 (-2147483648 : Int64)
  have h3 := c_ladd (a.toInt64 <<< ((32 : Int32) &&& 0x3f).toInt64) (b.toInt64 - (-2147483648 : Int64))
  have e1 := c_i2l a
  have e2 := c_i2l b
  have e3 : (-2147483648 : Int64).toInt = -2147483648 := by decide
  have b1 := a.toInt_lt; have b2 := a.le_toInt; have b3 := b.toInt_lt; have b4 := b.le_toInt
  have b5 := (own_key a b).toInt_lt; have b6 := (own_key a b).le_toInt
  have b7 := (b.toInt64 - (-2147483648 : Int64)).toInt_lt; have b8 := (b.toInt64 - (-2147483648 : Int64)).le_toInt
  have b9 := (a.toInt64 <<< ((32 : Int32) &&& 0x3f).toInt64).toInt_lt; have b10 := (a.toInt64 <<< ((32 : Int32) &&& 0x3f).toInt64).le_toInt
  simp only [own_key] at b5 b6 ⊢
  rw [e1] at h1; rw [e2, e3] at h2
  generalize (a.toInt64 <<< ((32 : Int32) &&& 0x3f).toInt64) = A at *
  generalize (b.toInt64 - (-2147483648 : Int64)) = B at *
  omega
theorem own_key_lt {a b a' b' : Int32} : own_key a b < own_key a' b' ↔ (a < a' ∨ (a = a' ∧ b < b')) := by
  rw [Int64.lt_iff_toInt_lt, own_key_val, own_key_val, Int32.lt_iff_toInt_lt, Int32.lt_iff_toInt_lt, ← Int32.toInt_inj]
  have b1 := a.toInt_lt; have b2 := a.le_toInt; have b3 := b.toInt_lt; have b4 := b.le_toInt
  have b5 := a'.toInt_lt; have b6 := a'.le_toInt; have b7 := b'.toInt_lt; have b8 := b'.le_toInt
  omega
theorem d_jdk_30_method_1_code_0 : decode jdk_30_method_1_code 0 = .ok (.aload_n 0, 1) := by decide +kernel
theorem d_jdk_30_method_1_code_1 : decode jdk_30_method_1_code 1 = .ok (.invokespecial 1, 3) := by decide +kernel
theorem d_jdk_30_method_1_code_4 : decode jdk_30_method_1_code 4 = .ok (.return_, 1) := by decide +kernel
theorem pn_0 : plainName "java/lang/Record" = true := by first | (simp [plainName, overriddenIn]; done) | decide +kernel
theorem pd_0 : parseMethodDescriptor "(II)V" = some ⟨[.int, .int], none⟩ := by decide +kernel
theorem pd_1 : parseMethodDescriptor "()V" = some ⟨[], none⟩ := by decide +kernel
theorem pd_2 : parseMethodDescriptor "(II)J" = some ⟨[.int, .int], some .long⟩ := by decide +kernel
theorem pd_3 : parseMethodDescriptor "(Lcom/example/isidore/isidore/Place;)Z" = some ⟨[(.object "com/example/isidore/isidore/Place")], some .boolean⟩ := by decide +kernel
theorem ef_rm2 (m : MethodId) (a1 : Addr) : entryFrame m #[(.ref a1)] 1 = mkF m 0 #[.val (.ref a1)] [] := by first | (simp [entryFrame, mkF, argsToLocals, Value.category]; done) | rfl
def Q_rm2 (Z : State) (a1 : Addr) (h0 : Heap) (n0 : Nat) (vv_ : Option Value) (h : Heap) (LL_ : List Loc) : Prop := vv_ = none ∧ Fr n0 LL_ ∧ (h = h0)
set_option maxRecDepth 65536 in
set_option maxHeartbeats 40000000 in
theorem rm2 (l : Launch) (Z : State) (a0 : Array Value) (hw : ∀ d ∈ tables_1, d.before a0 Z = true) (ws : List Jvm.Cond) (a1 : Addr) (h0 : Heap) (n0 : Nat) (Z0 : n0 ≤ h0.size)  :
    MetFree l (⟨"java/lang/Record", "<init>", "()V"⟩ : MethodName) (head1 (Jvm.Cond.code (⟨"java/lang/Record", "<init>", "()V"⟩ : MethodName) jdk_30_method_1_code 1 none :: ws) ({ frames := 1, cells := 0, slots := 0, locals := 12 } : Room)) (fun aa_ UU_ => aa_ = #[(.ref a1)] ∧ Z.Warmed39 UU_.vm ∧ UU_.heap = h0) (fun _ _ _ _ _ => True) (fun _ UU_ oo_ VV_ => ∃ vv_ LL_, oo_ = .returned vv_ ∧ Q_rm2 Z a1 h0 n0 vv_ VV_.heap LL_ ∧ FrameEnd UU_ oo_ VV_ LL_ ({ frames := 1, cells := 0, slots := 0, locals := 12 } : Room).cells ({ frames := 1, cells := 0, slots := 0, locals := 12 } : Room).slots) := by
  refine own_met (y := (⟨"java/lang/Record", "<init>", "()V"⟩ : MethodName)) (plainFor_of_name pn_0) ?_
  intro p e s m below meth c T0 K hx hby hml hret hlk hown hnm hZ X0 e0 hK
  have N0 := Fr.nil n0
  refine Rch.cast (ef_rm2 m a1) ?_
  refine Rch.of (T' := T0) (g' := (mkF m 1 #[.val (.ref a1)] [(.ref a1)])) (fun _ kt => XS.aloadN X0.here hx rfl (hb hby d_jdk_30_method_1_code_0) rfl rfl kt) ?_
  obtain ⟨T1, X1, e1, st1⟩ := initO X0 hx hZ hown (hw _ (List.mem_of_getElem? (i := 11) rfl)) (hw _ (List.mem_of_getElem? (i := 12) rfl)) (hw _ (List.mem_of_getElem? (i := 13) rfl)) e0 (g := (mkF m 1 #[.val (.ref a1)] [(.ref a1)])) rfl (by rw [hml]; rfl) rfl (hb hby d_jdk_30_method_1_code_1) (by decide) (W := 0) (by show 2 * 0 + _ ≤ _; exact Nat.le_of_eq rfl) (by decide)
  refine Rch.of (T' := T1) (g' := (mkF m 4 #[.val (.ref a1)] [])) st1 ?_
  exact Rch.retV X1 hx hret hlk (hb hby d_jdk_30_method_1_code_4) (fun U hU hF => hK _ U _ _ _ (by show Q_rm2 Z a1 h0 n0 _ U.heap _; rw [hU, e1]; exact ⟨rfl, N0, rfl⟩) hF (by decide) (by decide))
theorem d_prog_18_method_1_code_0 : decode prog_18_method_1_code 0 = .ok (.aload_n 0, 1) := by decide +kernel
theorem d_prog_18_method_1_code_1 : decode prog_18_method_1_code 1 = .ok (.invokespecial 1, 3) := by decide +kernel
theorem d_prog_18_method_1_code_4 : decode prog_18_method_1_code 4 = .ok (.aload_n 0, 1) := by decide +kernel
theorem d_prog_18_method_1_code_5 : decode prog_18_method_1_code 5 = .ok (.iload_n 1, 1) := by decide +kernel
theorem d_prog_18_method_1_code_6 : decode prog_18_method_1_code 6 = .ok (.putfield 7, 3) := by decide +kernel
theorem d_prog_18_method_1_code_9 : decode prog_18_method_1_code 9 = .ok (.aload_n 0, 1) := by decide +kernel
theorem d_prog_18_method_1_code_10 : decode prog_18_method_1_code 10 = .ok (.iload_n 2, 1) := by decide +kernel
theorem d_prog_18_method_1_code_11 : decode prog_18_method_1_code 11 = .ok (.putfield 13, 3) := by decide +kernel
theorem d_prog_18_method_1_code_14 : decode prog_18_method_1_code 14 = .ok (.return_, 1) := by decide +kernel
theorem pn_1 : plainName "com/example/isidore/isidore/Place" = true := by first | (simp [plainName, overriddenIn]; done) | decide +kernel
theorem ef_rm1 (m : MethodId) (a1 : Addr) (p2 : Int32) (p3 : Int32) : entryFrame m #[(.ref a1), (.int p2), (.int p3)] 3 = mkF m 0 #[.val (.ref a1), .val (.int p2), .val (.int p3)] [] := by first | (simp [entryFrame, mkF, argsToLocals, Value.category]; done) | rfl
def Q_rm1 (Z : State) (a1 : Addr) (p2 : Int32) (p3 : Int32) (u2 : Value) (u3 : Value) (h0 : Heap) (n0 : Nat) (vv_ : Option Value) (h : Heap) (LL_ : List Loc) : Prop := vv_ = none ∧ Fr n0 LL_ ∧ (Keep h0 h [a1] ∧ Exa Z h a1 "com/example/isidore/isidore/Place" ∧ Fld Z h a1 "com/example/isidore/isidore/Place" "line" "I" (.int p2) ∧ Fld Z h a1 "com/example/isidore/isidore/Place" "column" "I" (.int p3))
set_option maxRecDepth 65536 in
set_option maxHeartbeats 40000000 in
theorem rm1 (l : Launch) (Z : State) (a0 : Array Value) (hw : ∀ d ∈ tables_1, d.before a0 Z = true) (ws : List Jvm.Cond) (a1 : Addr) (p2 : Int32) (p3 : Int32) (u2 : Value) (u3 : Value) (h0 : Heap) (n0 : Nat) (Z0 : n0 ≤ h0.size) (E1 : Exa Z h0 a1 "com/example/isidore/isidore/Place") (F1 : Fld Z h0 a1 "com/example/isidore/isidore/Place" "line" "I" u2) (F2 : Fld Z h0 a1 "com/example/isidore/isidore/Place" "column" "I" u3) (g1 : n0 ≤ a1) :
    MetFree l (⟨"com/example/isidore/isidore/Place", "<init>", "(II)V"⟩ : MethodName) (head1 (Jvm.Cond.code (⟨"com/example/isidore/isidore/Place", "<init>", "(II)V"⟩ : MethodName) prog_18_method_1_code 3 none :: ws) ({ frames := 2, cells := 0, slots := 0, locals := 24 } : Room)) (fun aa_ UU_ => aa_ = #[(.ref a1), (.int p2), (.int p3)] ∧ Z.Warmed39 UU_.vm ∧ UU_.heap = h0) (fun _ _ _ _ _ => True) (fun _ UU_ oo_ VV_ => ∃ vv_ LL_, oo_ = .returned vv_ ∧ Q_rm1 Z a1 p2 p3 u2 u3 h0 n0 vv_ VV_.heap LL_ ∧ FrameEnd UU_ oo_ VV_ LL_ ({ frames := 2, cells := 0, slots := 0, locals := 24 } : Room).cells ({ frames := 2, cells := 0, slots := 0, locals := 24 } : Room).slots) := by
  refine own_met (y := (⟨"com/example/isidore/isidore/Place", "<init>", "(II)V"⟩ : MethodName)) (plainFor_of_name pn_1) ?_
  intro p e s m below meth c T0 K hx hby hml hret hlk hown hnm hZ X0 e0 hK
  have N0 := Fr.nil n0
  refine Rch.cast (ef_rm1 m a1 p2 p3) ?_
  refine Rch.of (T' := T0) (g' := (mkF m 1 #[.val (.ref a1), .val (.int p2), .val (.int p3)] [(.ref a1)])) (fun _ kt => XS.aloadN X0.here hx rfl (hb hby d_prog_18_method_1_code_0) rfl rfl kt) ?_
  obtain ⟨_, _, ⟨T2, L2, k2, n2⟩, -, X2, ⟨Lc2, hQ2, l2, y2, z2⟩, st2⟩ := X0.specialBack hx (y := (⟨"java/lang/Record", "<init>", "()V"⟩ : MethodName)) rfl hown (mvT hZ (hw _ (List.mem_of_getElem? (i := 6) rfl))) (mvT hZ (hw _ (List.mem_of_getElem? (i := 7) rfl))) (mvT hZ (hw _ (List.mem_of_getElem? (i := 10) rfl))) (by decide) (backOf (W := 0) (rm2 l Z a0 hw [] a1 h0 n0 Z0 ) hZ (hw _ (List.mem_of_getElem? (i := 10) rfl)) (hw _ (List.mem_of_getElem? (i := 9) rfl)) (by decide) (by decide)) (g := (mkF m 1 #[.val (.ref a1), .val (.int p2), .val (.int p3)] [(.ref a1)])) rfl (by rw [hml]; rfl) (Steps.refl _) (a := a1) (argsL := []) (rest := []) (lenOf pd_1 rfl) rfl (by show 2 * 0 + _ ≤ _; exact Nat.le_of_eq rfl) (hb hby d_prog_18_method_1_code_1) (fun _ _ => ⟨rfl, e0, (by decide : 0 + 0 ≤ _), (by decide : 0 + 0 ≤ _)⟩)
  dsimp only [Pt.U, Pt.locs, Pt.cells, Pt.slots] at X2 l2 y2 z2 st2 hQ2
  subst l2 y2 z2
  obtain ⟨rfl, N2q, hQ2⟩ := hQ2
  have N2 := Fr.app N0 N2q
  refine Rch.via (T' := T2) (g' := (mkF m 4 #[.val (.ref a1), .val (.int p2), .val (.int p3)] [])) st2 ?_
  refine Rch.of (T' := T2) (g' := (mkF m 5 #[.val (.ref a1), .val (.int p2), .val (.int p3)] [(.ref a1)])) (fun _ kt => XS.aloadN X2.here hx rfl (hb hby d_prog_18_method_1_code_4) rfl rfl kt) ?_
  refine Rch.of (T' := T2) (g' := (mkF m 6 #[.val (.ref a1), .val (.int p2), .val (.int p3)] [(.int p2), (.ref a1)])) (fun _ kt => XS.iloadN X2.here hx rfl (hb hby d_prog_18_method_1_code_5) rfl  kt) ?_
  obtain ⟨T3, h3, X3, e3, W3, st3⟩ := putF X2 hx hZ hown (host := "") (Or.inl (hw _ (List.mem_of_getElem? (i := 14) rfl))) Via.refl hQ2 F1 E1 (Or.inr ⟨(hw _ (List.mem_of_getElem? (i := 15) rfl)), rfl, hnm⟩) (hw _ (List.mem_of_getElem? (i := 1) rfl)) (ty := .int) (by decide) rfl rfl (g := (mkF m 6 #[.val (.ref a1), .val (.int p2), .val (.int p3)] [(.int p2), (.ref a1)])) rfl rfl (hb hby d_prog_18_method_1_code_6)
  have N3 := Fr.snoc X3 N2 g1
  have Fw3 := Fld.same W3 F1
  have Fb4 := (F2.other W3 (Or.inr (slot_ne (Or.inr (hw _ (List.mem_of_getElem? (i := 17) rfl))) (Or.inr (hw _ (List.mem_of_getElem? (i := 15) rfl))) (by decide) (t := .int) (t' := .int) (by decide) (by decide))))
  refine Rch.of (T' := T3) (g' := (mkF m 9 #[.val (.ref a1), .val (.int p2), .val (.int p3)] [])) st3 ?_
  refine Rch.of (T' := T3) (g' := (mkF m 10 #[.val (.ref a1), .val (.int p2), .val (.int p3)] [(.ref a1)])) (fun _ kt => XS.aloadN X3.here hx rfl (hb hby d_prog_18_method_1_code_9) rfl rfl kt) ?_
  refine Rch.of (T' := T3) (g' := (mkF m 11 #[.val (.ref a1), .val (.int p2), .val (.int p3)] [(.int p3), (.ref a1)])) (fun _ kt => XS.iloadN X3.here hx rfl (hb hby d_prog_18_method_1_code_10) rfl  kt) ?_
  obtain ⟨T5, h5, X5, e5, W5, st5⟩ := putF X3 hx hZ hown (host := "") (Or.inl (hw _ (List.mem_of_getElem? (i := 16) rfl))) Via.refl e3 Fb4 (E1.wr W3) (Or.inr ⟨(hw _ (List.mem_of_getElem? (i := 17) rfl)), rfl, hnm⟩) (hw _ (List.mem_of_getElem? (i := 1) rfl)) (ty := .int) (by decide) rfl rfl (g := (mkF m 11 #[.val (.ref a1), .val (.int p2), .val (.int p3)] [(.int p3), (.ref a1)])) rfl rfl (hb hby d_prog_18_method_1_code_11)
  have N5 := Fr.snoc X5 N3 g1
  have Fw5 := Fld.same W5 Fb4
  have Fb6 := (Fw3.other W5 (Or.inr (slot_ne (Or.inr (hw _ (List.mem_of_getElem? (i := 15) rfl))) (Or.inr (hw _ (List.mem_of_getElem? (i := 17) rfl))) (by decide) (t := .int) (t' := .int) (by decide) (by decide))))
  refine Rch.of (T' := T5) (g' := (mkF m 14 #[.val (.ref a1), .val (.int p2), .val (.int p3)] [])) st5 ?_
  exact Rch.retV X5 hx hret hlk (hb hby d_prog_18_method_1_code_14) (fun U hU hF => hK _ U _ _ _ (by show Q_rm1 Z a1 p2 p3 u2 u3 h0 n0 _ U.heap _; rw [hU, e5]; exact ⟨rfl, N5, (((Keep.refl h0 [a1]).wr W3 (Or.inl (List.mem_of_getElem? (i := 0) rfl))).wr W5 (Or.inl (List.mem_of_getElem? (i := 0) rfl))), ((E1.wr W3).wr W5), Fb6, Fw5⟩) hF (by decide) (by decide))
theorem d_method_2_code_0 : decode method_2_code 0 = .ok (.iload_n 0, 1) := by decide +kernel
theorem d_method_2_code_1 : decode method_2_code 1 = .ok (.i2l, 1) := by decide +kernel
theorem d_method_2_code_2 : decode method_2_code 2 = .ok (.bipush 32, 2) := by decide +kernel
theorem d_method_2_code_4 : decode method_2_code 4 = .ok (.lshl, 1) := by decide +kernel
theorem d_method_2_code_5 : decode method_2_code 5 = .ok (.iload_n 1, 1) := by decide +kernel
theorem d_method_2_code_6 : decode method_2_code 6 = .ok (.i2l, 1) := by decide +kernel
theorem d_method_2_code_7 : decode method_2_code 7 = .ok (.ldc2_w 9, 3) := by decide +kernel
theorem d_method_2_code_10 : decode method_2_code 10 = .ok (.lsub, 1) := by decide +kernel
theorem d_method_2_code_11 : decode method_2_code 11 = .ok (.ladd, 1) := by decide +kernel
theorem d_method_2_code_12 : decode method_2_code 12 = .ok (.lreturn, 1) := by decide +kernel
theorem pn_2 : plainName "com/example/isidore/isidore/PlaceIsBeforePinLaw" = true := by first | (simp [plainName, overriddenIn]; done) | decide +kernel
theorem ef_rm4 (m : MethodId) (p1 : Int32) (p2 : Int32) : entryFrame m #[(.int p1), (.int p2)] 2 = mkF m 0 #[.val (.int p1), .val (.int p2)] [] := by first | (simp [entryFrame, mkF, argsToLocals, Value.category]; done) | rfl
def Q_rm4 (Z : State) (p1 : Int32) (p2 : Int32) (h0 : Heap) (n0 : Nat) (vv_ : Option Value) (h : Heap) (LL_ : List Loc) : Prop := vv_ = some (.long (own_key p1 p2)) ∧ Fr n0 LL_ ∧ (h = h0)
set_option maxRecDepth 65536 in
set_option maxHeartbeats 40000000 in
theorem rm4 (l : Launch) (Z : State) (a0 : Array Value) (hw : ∀ d ∈ tables_1, d.before a0 Z = true) (ws : List Jvm.Cond) (p1 : Int32) (p2 : Int32) (h0 : Heap) (n0 : Nat) (Z0 : n0 ≤ h0.size)  :
    MetFree l (⟨"com/example/isidore/isidore/PlaceIsBeforePinLaw", "key", "(II)J"⟩ : MethodName) (head1 (Jvm.Cond.code (⟨"com/example/isidore/isidore/PlaceIsBeforePinLaw", "key", "(II)J"⟩ : MethodName) method_2_code 2 (some .long) :: ws) ({ frames := 0, cells := 0, slots := 0, locals := 0 } : Room)) (fun aa_ UU_ => aa_ = #[(.int p1), (.int p2)] ∧ Z.Warmed39 UU_.vm ∧ UU_.heap = h0) (fun _ _ _ _ _ => True) (fun _ UU_ oo_ VV_ => ∃ vv_ LL_, oo_ = .returned vv_ ∧ Q_rm4 Z p1 p2 h0 n0 vv_ VV_.heap LL_ ∧ FrameEnd UU_ oo_ VV_ LL_ ({ frames := 0, cells := 0, slots := 0, locals := 0 } : Room).cells ({ frames := 0, cells := 0, slots := 0, locals := 0 } : Room).slots) := by
  refine own_met (y := (⟨"com/example/isidore/isidore/PlaceIsBeforePinLaw", "key", "(II)J"⟩ : MethodName)) (plainFor_of_name pn_2) ?_
  intro p e s m below meth c T0 K hx hby hml hret hlk hown hnm hZ X0 e0 hK
  have N0 := Fr.nil n0
  refine Rch.cast (ef_rm4 m p1 p2) ?_
  refine Rch.of (T' := T0) (g' := (mkF m 1 #[.val (.int p1), .val (.int p2)] [(.int p1)])) (fun _ kt => XS.iloadN X0.here hx rfl (hb hby d_method_2_code_0) rfl  kt) ?_
  refine Rch.of (T' := T0) (g' := (mkF m 2 #[.val (.int p1), .val (.int p2)] [(.long (p1.toInt64))])) (fun _ kt => XS.i2l X0.here hx rfl (hb hby d_method_2_code_1) rfl kt) ?_
  refine Rch.of (T' := T0) (g' := (mkF m 4 #[.val (.int p1), .val (.int p2)] [(.int (32 : Int32)), (.long (p1.toInt64))])) (fun _ kt => XS.bipush X0.here hx rfl (hb hby d_method_2_code_2) kt) ?_
  refine Rch.of (T' := T0) (g' := (mkF m 5 #[.val (.int p1), .val (.int p2)] [(.long ((p1.toInt64) <<< ((32 : Int32) &&& 0x3f).toInt64))])) (fun _ kt => XS.lshl X0.here hx rfl (hb hby d_method_2_code_4) rfl kt) ?_
  refine Rch.of (T' := T0) (g' := (mkF m 6 #[.val (.int p1), .val (.int p2)] [(.int p2), (.long ((p1.toInt64) <<< ((32 : Int32) &&& 0x3f).toInt64))])) (fun _ kt => XS.iloadN X0.here hx rfl (hb hby d_method_2_code_5) rfl  kt) ?_
  refine Rch.of (T' := T0) (g' := (mkF m 7 #[.val (.int p1), .val (.int p2)] [(.long (p2.toInt64)), (.long ((p1.toInt64) <<< ((32 : Int32) &&& 0x3f).toInt64))])) (fun _ kt => XS.i2l X0.here hx rfl (hb hby d_method_2_code_6) rfl kt) ?_
  refine Rch.of (T' := T0) (g' := (mkF m 10 #[.val (.int p1), .val (.int p2)] [(.long (-2147483648 : Int64)), (.long (p2.toInt64)), (.long ((p1.toInt64) <<< ((32 : Int32) &&& 0x3f).toInt64))])) (X0.ldc2Long hx hown (mvT hZ (hw _ (List.mem_of_getElem? (i := 22) rfl))) (g := (mkF m 7 #[.val (.int p1), .val (.int p2)] [(.long (p2.toInt64)), (.long ((p1.toInt64) <<< ((32 : Int32) &&& 0x3f).toInt64))])) rfl (hb hby d_method_2_code_7)) ?_
  refine Rch.of (T' := T0) (g' := (mkF m 11 #[.val (.int p1), .val (.int p2)] [(.long ((p2.toInt64) - (-2147483648 : Int64))), (.long ((p1.toInt64) <<< ((32 : Int32) &&& 0x3f).toInt64))])) (fun _ kt => XS.lsub X0.here hx rfl (hb hby d_method_2_code_10) rfl kt) ?_
  refine Rch.of (T' := T0) (g' := (mkF m 12 #[.val (.int p1), .val (.int p2)] [(.long (((p1.toInt64) <<< ((32 : Int32) &&& 0x3f).toInt64) + ((p2.toInt64) - (-2147483648 : Int64))))])) (fun _ kt => XS.ladd X0.here hx rfl (hb hby d_method_2_code_11) rfl kt) ?_
  exact Rch.retJ X0 hx hret hlk (hb hby d_method_2_code_12) (fun U hU hF => hK _ U _ _ _ (by show Q_rm4 Z p1 p2 h0 n0 _ U.heap _; rw [hU, e0]; exact ⟨rfl, N0, rfl⟩) hF (by decide) (by decide))
theorem d_prog_18_method_2_code_0 : decode prog_18_method_2_code 0 = .ok (.aload_n 0, 1) := by decide +kernel
theorem d_prog_18_method_2_code_1 : decode prog_18_method_2_code 1 = .ok (.getfield 7, 3) := by decide +kernel
theorem d_prog_18_method_2_code_4 : decode prog_18_method_2_code 4 = .ok (.aload_n 1, 1) := by decide +kernel
theorem d_prog_18_method_2_code_5 : decode prog_18_method_2_code 5 = .ok (.getfield 7, 3) := by decide +kernel
theorem d_prog_18_method_2_code_8 : decode prog_18_method_2_code 8 = .ok (.if_icmp .lt 25, 3) := by decide +kernel
theorem d_prog_18_method_2_code_11 : decode prog_18_method_2_code 11 = .ok (.aload_n 0, 1) := by decide +kernel
theorem d_prog_18_method_2_code_12 : decode prog_18_method_2_code 12 = .ok (.getfield 7, 3) := by decide +kernel
theorem d_prog_18_method_2_code_15 : decode prog_18_method_2_code 15 = .ok (.aload_n 1, 1) := by decide +kernel
theorem d_prog_18_method_2_code_16 : decode prog_18_method_2_code 16 = .ok (.getfield 7, 3) := by decide +kernel
theorem d_prog_18_method_2_code_19 : decode prog_18_method_2_code 19 = .ok (.if_icmp .ne 18, 3) := by decide +kernel
theorem d_prog_18_method_2_code_22 : decode prog_18_method_2_code 22 = .ok (.aload_n 0, 1) := by decide +kernel
theorem d_prog_18_method_2_code_23 : decode prog_18_method_2_code 23 = .ok (.getfield 13, 3) := by decide +kernel
theorem d_prog_18_method_2_code_26 : decode prog_18_method_2_code 26 = .ok (.aload_n 1, 1) := by decide +kernel
theorem d_prog_18_method_2_code_27 : decode prog_18_method_2_code 27 = .ok (.getfield 13, 3) := by decide +kernel
theorem d_prog_18_method_2_code_30 : decode prog_18_method_2_code 30 = .ok (.if_icmp .ge 7, 3) := by decide +kernel
theorem d_prog_18_method_2_code_33 : decode prog_18_method_2_code 33 = .ok (.iconst 1, 1) := by decide +kernel
theorem d_prog_18_method_2_code_34 : decode prog_18_method_2_code 34 = .ok (.goto 4, 3) := by decide +kernel
theorem d_prog_18_method_2_code_37 : decode prog_18_method_2_code 37 = .ok (.iconst 0, 1) := by decide +kernel
theorem d_prog_18_method_2_code_38 : decode prog_18_method_2_code 38 = .ok (.ireturn, 1) := by decide +kernel
theorem ef_rm5 (m : MethodId) (a1 : Addr) (a2 : Addr) : entryFrame m #[(.ref a1), (.ref a2)] 2 = mkF m 0 #[.val (.ref a1), .val (.ref a2)] [] := by first | (simp [entryFrame, mkF, argsToLocals, Value.category]; done) | rfl
def Q_rm5 (Z : State) (a1 : Addr) (a2 : Addr) (w1 : Int32) (w2 : Int32) (w3 : Int32) (w4 : Int32) (h0 : Heap) (n0 : Nat) (vv_ : Option Value) (h : Heap) (LL_ : List Loc) : Prop := vv_ = some (.int (ob (w1 < w3 ∨ (w1 = w3 ∧ w2 < w4)))) ∧ Fr n0 LL_ ∧ (h = h0)
set_option maxRecDepth 65536 in
set_option maxHeartbeats 40000000 in
theorem rm5 (l : Launch) (Z : State) (a0 : Array Value) (hw : ∀ d ∈ tables_1, d.before a0 Z = true) (ws : List Jvm.Cond) (a1 : Addr) (a2 : Addr) (w1 : Int32) (w2 : Int32) (w3 : Int32) (w4 : Int32) (h0 : Heap) (n0 : Nat) (Z0 : n0 ≤ h0.size) (F1 : Fld Z h0 a1 "com/example/isidore/isidore/Place" "line" "I" (.int w1)) (F2 : Fld Z h0 a1 "com/example/isidore/isidore/Place" "column" "I" (.int w2)) (F3 : Fld Z h0 a2 "com/example/isidore/isidore/Place" "line" "I" (.int w3)) (F4 : Fld Z h0 a2 "com/example/isidore/isidore/Place" "column" "I" (.int w4)) :
    MetFree l (⟨"com/example/isidore/isidore/Place", "isBefore", "(Lcom/example/isidore/isidore/Place;)Z"⟩ : MethodName) (head1 (Jvm.Cond.code (⟨"com/example/isidore/isidore/Place", "isBefore", "(Lcom/example/isidore/isidore/Place;)Z"⟩ : MethodName) prog_18_method_2_code 2 (some .boolean) :: ws) ({ frames := 0, cells := 0, slots := 0, locals := 0 } : Room)) (fun aa_ UU_ => aa_ = #[(.ref a1), (.ref a2)] ∧ Z.Warmed39 UU_.vm ∧ UU_.heap = h0) (fun _ _ _ _ _ => True) (fun _ UU_ oo_ VV_ => ∃ vv_ LL_, oo_ = .returned vv_ ∧ Q_rm5 Z a1 a2 w1 w2 w3 w4 h0 n0 vv_ VV_.heap LL_ ∧ FrameEnd UU_ oo_ VV_ LL_ ({ frames := 0, cells := 0, slots := 0, locals := 0 } : Room).cells ({ frames := 0, cells := 0, slots := 0, locals := 0 } : Room).slots) := by
  refine own_met (y := (⟨"com/example/isidore/isidore/Place", "isBefore", "(Lcom/example/isidore/isidore/Place;)Z"⟩ : MethodName)) (plainFor_of_name pn_1) ?_
  intro p e s m below meth c T0 K hx hby hml hret hlk hown hnm hZ X0 e0 hK
  have N0 := Fr.nil n0
  refine Rch.cast (ef_rm5 m a1 a2) ?_
  refine Rch.of (T' := T0) (g' := (mkF m 1 #[.val (.ref a1), .val (.ref a2)] [(.ref a1)])) (fun _ kt => XS.aloadN X0.here hx rfl (hb hby d_prog_18_method_2_code_0) rfl rfl kt) ?_
  obtain ⟨T7, X7, e7, st7⟩ := getF X0 hx hZ hown (host := "") (Or.inl (hw _ (List.mem_of_getElem? (i := 14) rfl))) Via.refl e0 F1 (g := (mkF m 1 #[.val (.ref a1), .val (.ref a2)] [(.ref a1)])) rfl rfl (hb hby d_prog_18_method_2_code_1)
  refine Rch.of (T' := T7) (g' := (mkF m 4 #[.val (.ref a1), .val (.ref a2)] [(.int w1)])) st7 ?_
  refine Rch.of (T' := T7) (g' := (mkF m 5 #[.val (.ref a1), .val (.ref a2)] [(.ref a2), (.int w1)])) (fun _ kt => XS.aloadN X7.here hx rfl (hb hby d_prog_18_method_2_code_4) rfl rfl kt) ?_
  obtain ⟨T8, X8, e8, st8⟩ := getF X7 hx hZ hown (host := "") (Or.inl (hw _ (List.mem_of_getElem? (i := 14) rfl))) Via.refl e7 F3 (g := (mkF m 5 #[.val (.ref a1), .val (.ref a2)] [(.ref a2), (.int w1)])) rfl rfl (hb hby d_prog_18_method_2_code_5)
  refine Rch.of (T' := T8) (g' := (mkF m 8 #[.val (.ref a1), .val (.ref a2)] [(.int w3), (.int w1)])) st8 ?_
  by_cases c9 : w1 < w3
  · skip
    refine Rch.of (T' := T8) (g' := (mkF m 33 #[.val (.ref a1), .val (.ref a2)] [])) (fun _ kt => XS.icmpYes X8.here hx rfl (pc0 := 8) (pc' := 33) rfl (hb hby d_prog_18_method_2_code_8) rfl (tlt c9).1 (by decide) (by decide) kt) ?_
    refine Rch.of (T' := T8) (g' := (mkF m 34 #[.val (.ref a1), .val (.ref a2)] [(.int (1 : Int32))])) (fun _ kt => XS.iconst X8.here hx rfl (hb hby d_prog_18_method_2_code_33) kt) ?_
    refine Rch.of (T' := T8) (g' := (mkF m 38 #[.val (.ref a1), .val (.ref a2)] [(.int (1 : Int32))])) (fun _ kt => XS.goto X8.here hx rfl (pc0 := 34) (pc' := 38) rfl (hb hby d_prog_18_method_2_code_34) (by decide) (by decide) kt) ?_
    have hv : (w1 < w3 ∨ (w1 = w3 ∧ w2 < w4)) := by simp [c9]
    exact Rch.retN X8 hx (t := .boolean) hret (by simp) hlk (hb hby d_prog_18_method_2_code_38) (fun U hU hF => hK _ U _ _ _ (by show Q_rm5 Z a1 a2 w1 w2 w3 w4 h0 n0 _ U.heap _; rw [hU, e8]; exact ⟨by rw [ob_pos hv]; rfl, N0, rfl⟩) hF (by decide) (by decide))
  · skip
    refine Rch.of (T' := T8) (g' := (mkF m 11 #[.val (.ref a1), .val (.ref a2)] [])) (fun _ kt => XS.icmpNo X8.here hx rfl (hb hby d_prog_18_method_2_code_8) rfl (flt c9).1 kt) ?_
    refine Rch.of (T' := T8) (g' := (mkF m 12 #[.val (.ref a1), .val (.ref a2)] [(.ref a1)])) (fun _ kt => XS.aloadN X8.here hx rfl (hb hby d_prog_18_method_2_code_11) rfl rfl kt) ?_
    obtain ⟨T10, X10, e10, st10⟩ := getF X8 hx hZ hown (host := "") (Or.inl (hw _ (List.mem_of_getElem? (i := 14) rfl))) Via.refl e8 F1 (g := (mkF m 12 #[.val (.ref a1), .val (.ref a2)] [(.ref a1)])) rfl rfl (hb hby d_prog_18_method_2_code_12)
    refine Rch.of (T' := T10) (g' := (mkF m 15 #[.val (.ref a1), .val (.ref a2)] [(.int w1)])) st10 ?_
    refine Rch.of (T' := T10) (g' := (mkF m 16 #[.val (.ref a1), .val (.ref a2)] [(.ref a2), (.int w1)])) (fun _ kt => XS.aloadN X10.here hx rfl (hb hby d_prog_18_method_2_code_15) rfl rfl kt) ?_
    obtain ⟨T11, X11, e11, st11⟩ := getF X10 hx hZ hown (host := "") (Or.inl (hw _ (List.mem_of_getElem? (i := 14) rfl))) Via.refl e10 F3 (g := (mkF m 16 #[.val (.ref a1), .val (.ref a2)] [(.ref a2), (.int w1)])) rfl rfl (hb hby d_prog_18_method_2_code_16)
    refine Rch.of (T' := T11) (g' := (mkF m 19 #[.val (.ref a1), .val (.ref a2)] [(.int w3), (.int w1)])) st11 ?_
    by_cases c12 : w1 = w3
    · skip
      refine Rch.of (T' := T11) (g' := (mkF m 22 #[.val (.ref a1), .val (.ref a2)] [])) (fun _ kt => XS.icmpNo X11.here hx rfl (hb hby d_prog_18_method_2_code_19) rfl (teq c12).2 kt) ?_
      refine Rch.of (T' := T11) (g' := (mkF m 23 #[.val (.ref a1), .val (.ref a2)] [(.ref a1)])) (fun _ kt => XS.aloadN X11.here hx rfl (hb hby d_prog_18_method_2_code_22) rfl rfl kt) ?_
      obtain ⟨T13, X13, e13, st13⟩ := getF X11 hx hZ hown (host := "") (Or.inl (hw _ (List.mem_of_getElem? (i := 16) rfl))) Via.refl e11 F2 (g := (mkF m 23 #[.val (.ref a1), .val (.ref a2)] [(.ref a1)])) rfl rfl (hb hby d_prog_18_method_2_code_23)
      refine Rch.of (T' := T13) (g' := (mkF m 26 #[.val (.ref a1), .val (.ref a2)] [(.int w2)])) st13 ?_
      refine Rch.of (T' := T13) (g' := (mkF m 27 #[.val (.ref a1), .val (.ref a2)] [(.ref a2), (.int w2)])) (fun _ kt => XS.aloadN X13.here hx rfl (hb hby d_prog_18_method_2_code_26) rfl rfl kt) ?_
      obtain ⟨T14, X14, e14, st14⟩ := getF X13 hx hZ hown (host := "") (Or.inl (hw _ (List.mem_of_getElem? (i := 16) rfl))) Via.refl e13 F4 (g := (mkF m 27 #[.val (.ref a1), .val (.ref a2)] [(.ref a2), (.int w2)])) rfl rfl (hb hby d_prog_18_method_2_code_27)
      refine Rch.of (T' := T14) (g' := (mkF m 30 #[.val (.ref a1), .val (.ref a2)] [(.int w4), (.int w2)])) st14 ?_
      by_cases c15 : w2 < w4
      · skip
        refine Rch.of (T' := T14) (g' := (mkF m 33 #[.val (.ref a1), .val (.ref a2)] [])) (fun _ kt => XS.icmpNo X14.here hx rfl (hb hby d_prog_18_method_2_code_30) rfl (tlt c15).2.1 kt) ?_
        refine Rch.of (T' := T14) (g' := (mkF m 34 #[.val (.ref a1), .val (.ref a2)] [(.int (1 : Int32))])) (fun _ kt => XS.iconst X14.here hx rfl (hb hby d_prog_18_method_2_code_33) kt) ?_
        refine Rch.of (T' := T14) (g' := (mkF m 38 #[.val (.ref a1), .val (.ref a2)] [(.int (1 : Int32))])) (fun _ kt => XS.goto X14.here hx rfl (pc0 := 34) (pc' := 38) rfl (hb hby d_prog_18_method_2_code_34) (by decide) (by decide) kt) ?_
        have hv : (w1 < w3 ∨ (w1 = w3 ∧ w2 < w4)) := by simp [c9, c12, c15]
        exact Rch.retN X14 hx (t := .boolean) hret (by simp) hlk (hb hby d_prog_18_method_2_code_38) (fun U hU hF => hK _ U _ _ _ (by show Q_rm5 Z a1 a2 w1 w2 w3 w4 h0 n0 _ U.heap _; rw [hU, e14]; exact ⟨by rw [ob_pos hv]; rfl, N0, rfl⟩) hF (by decide) (by decide))
      · skip
        refine Rch.of (T' := T14) (g' := (mkF m 37 #[.val (.ref a1), .val (.ref a2)] [])) (fun _ kt => XS.icmpYes X14.here hx rfl (pc0 := 30) (pc' := 37) rfl (hb hby d_prog_18_method_2_code_30) rfl (flt c15).2.1 (by decide) (by decide) kt) ?_
        refine Rch.of (T' := T14) (g' := (mkF m 38 #[.val (.ref a1), .val (.ref a2)] [(.int (0 : Int32))])) (fun _ kt => XS.iconst X14.here hx rfl (hb hby d_prog_18_method_2_code_37) kt) ?_
        have hv : ¬ (w1 < w3 ∨ (w1 = w3 ∧ w2 < w4)) := by simp [c9, c12, c15]
        exact Rch.retN X14 hx (t := .boolean) hret (by simp) hlk (hb hby d_prog_18_method_2_code_38) (fun U hU hF => hK _ U _ _ _ (by show Q_rm5 Z a1 a2 w1 w2 w3 w4 h0 n0 _ U.heap _; rw [hU, e14]; exact ⟨by rw [ob_neg hv]; rfl, N0, rfl⟩) hF (by decide) (by decide))
    · skip
      refine Rch.of (T' := T11) (g' := (mkF m 37 #[.val (.ref a1), .val (.ref a2)] [])) (fun _ kt => XS.icmpYes X11.here hx rfl (pc0 := 19) (pc' := 37) rfl (hb hby d_prog_18_method_2_code_19) rfl (feq c12).2 (by decide) (by decide) kt) ?_
      refine Rch.of (T' := T11) (g' := (mkF m 38 #[.val (.ref a1), .val (.ref a2)] [(.int (0 : Int32))])) (fun _ kt => XS.iconst X11.here hx rfl (hb hby d_prog_18_method_2_code_37) kt) ?_
      have hv : ¬ (w1 < w3 ∨ (w1 = w3 ∧ w2 < w4)) := by simp [c9, c12]
      exact Rch.retN X11 hx (t := .boolean) hret (by simp) hlk (hb hby d_prog_18_method_2_code_38) (fun U hU hF => hK _ U _ _ _ (by show Q_rm5 Z a1 a2 w1 w2 w3 w4 h0 n0 _ U.heap _; rw [hU, e11]; exact ⟨by rw [ob_neg hv]; rfl, N0, rfl⟩) hF (by decide) (by decide))
theorem ef_rm0 (m : MethodId) (p0 : Int32) (p1 : Int32) (p2 : Int32) (p3 : Int32) (p4 : Int32) : entryFrame m #[(.int p0), (.int p1), (.int p2), (.int p3), (.int p4)] maxLocals = mkF m 0 #[.val (.int p0), .val (.int p1), .val (.int p2), .val (.int p3), .val (.int p4), .unset, .unset, .unset, .unset, .unset, .unset, .unset, .unset, .unset, .unset] [] := by first | (simp [entryFrame, mkF, argsToLocals, Value.category, maxLocals]; done) | rfl
def Q_rm0 (Z : State) (p0 : Int32) (p1 : Int32) (p2 : Int32) (p3 : Int32) (p4 : Int32) (h0 : Heap) (n0 : Nat) (vv_ : Option Value) (h : Heap) (LL_ : List Loc) : Prop := vv_ = some (.int 1) ∧ Fr n0 LL_ ∧ (True)
set_option maxRecDepth 65536 in
set_option maxHeartbeats 40000000 in
theorem rm0 (l : Launch) (Z : State) (a0 : Array Value) (hw : ∀ d ∈ tables_1, d.before a0 Z = true) (ws : List Jvm.Cond) (p0 : Int32) (p1 : Int32) (p2 : Int32) (p3 : Int32) (p4 : Int32) (h0 : Heap) (n0 : Nat) (Z0 : n0 ≤ h0.size)  :
    MetFree l x (head1 (Jvm.Cond.code x code maxLocals ret :: ws) room_1) (fun aa_ UU_ => aa_ = #[(.int p0), (.int p1), (.int p2), (.int p3), (.int p4)] ∧ Z.Warmed39 UU_.vm ∧ UU_.heap = h0) (fun _ _ _ _ _ => True) (fun _ UU_ oo_ VV_ => ∃ vv_ LL_, oo_ = .returned vv_ ∧ Q_rm0 Z p0 p1 p2 p3 p4 h0 n0 vv_ VV_.heap LL_ ∧ FrameEnd UU_ oo_ VV_ LL_ room_1.cells room_1.slots) := by
  refine own_met (y := x) (plainFor_of_name pn_2) ?_
  intro p e s m below meth c T0 K hx hby hml hret hlk hown hnm hZ X0 e0 hK
  have N0 := Fr.nil n0
  refine Rch.cast (ef_rm0 m p0 p1 p2 p3 p4) ?_
  have J28 : ∀ (x5 x6 : Int32), Rch p e below K T0 (mkF m 28 #[.val (.int p0), .val (.int p1), .val (.int p2), .val (.int p3), .val (.int p4), .val (.int x5), .val (.int x6), .unset, .unset, .unset, .unset, .unset, .unset, .unset, .unset] []) := by
    intro x5 x6
    obtain ⟨T16, h16, X16, e16, E16, A16, D16, -, st16⟩ := newO X0 hx hZ hown (hw _ (List.mem_of_getElem? (i := 0) rfl)) (hw _ (List.mem_of_getElem? (i := 1) rfl)) (hw _ (List.mem_of_getElem? (i := 2) rfl)) e0 (g := (mkF m 28 #[.val (.int p0), .val (.int p1), .val (.int p2), .val (.int p3), .val (.int p4), .val (.int x5), .val (.int x6), .unset, .unset, .unset, .unset, .unset, .unset, .unset, .unset] [])) rfl (hb hby at_28) (by decide) (by decide)
    obtain ⟨b16, g16⟩ : ∃ z, z = h0.size := ⟨_, rfl⟩
    have ge_b16 : n0 ≤ b16 := Nat.le_trans Z0 (Nat.le_of_eq g16.symm)
    have sz_b16 : h0.size ≤ b16 := Nat.le_trans (Keep.refl h0 []).1 (Nat.le_of_eq g16.symm)
    rw [← g16] at A16 D16 st16
    have F16_line : Fld Z h16 b16 "com/example/isidore/isidore/Place" "line" "I" (.int (0 : Int32)) := D16 (Or.inr (hw _ (List.mem_of_getElem? (i := 15) rfl))) (ty := .int) (by decide)
    have F16_column : Fld Z h16 b16 "com/example/isidore/isidore/Place" "column" "I" (.int (0 : Int32)) := D16 (Or.inr (hw _ (List.mem_of_getElem? (i := 17) rfl))) (ty := .int) (by decide)
    refine Rch.of (T' := T16) (g' := (mkF m 31 #[.val (.int p0), .val (.int p1), .val (.int p2), .val (.int p3), .val (.int p4), .val (.int x5), .val (.int x6), .unset, .unset, .unset, .unset, .unset, .unset, .unset, .unset] [(.ref b16)])) st16 ?_
    refine Rch.of (T' := T16) (g' := (mkF m 32 #[.val (.int p0), .val (.int p1), .val (.int p2), .val (.int p3), .val (.int p4), .val (.int x5), .val (.int x6), .unset, .unset, .unset, .unset, .unset, .unset, .unset, .unset] [(.ref b16), (.ref b16)])) (fun _ kt => XS.dup X16.here hx rfl (hb hby at_31) rfl rfl kt) ?_
    refine Rch.of (T' := T16) (g' := (mkF m 33 #[.val (.int p0), .val (.int p1), .val (.int p2), .val (.int p3), .val (.int p4), .val (.int x5), .val (.int x6), .unset, .unset, .unset, .unset, .unset, .unset, .unset, .unset] [(.int p0), (.ref b16), (.ref b16)])) (fun _ kt => XS.iloadN X16.here hx rfl (hb hby at_32) rfl  kt) ?_
    refine Rch.of (T' := T16) (g' := (mkF m 34 #[.val (.int p0), .val (.int p1), .val (.int p2), .val (.int p3), .val (.int p4), .val (.int x5), .val (.int x6), .unset, .unset, .unset, .unset, .unset, .unset, .unset, .unset] [(.int p1), (.int p0), (.ref b16), (.ref b16)])) (fun _ kt => XS.iloadN X16.here hx rfl (hb hby at_33) rfl  kt) ?_
    obtain ⟨_, _, ⟨T17, L17, k17, n17⟩, -, X17, ⟨Lc17, hQ17, l17, y17, z17⟩, st17⟩ := X16.specialBack hx (y := (⟨"com/example/isidore/isidore/Place", "<init>", "(II)V"⟩ : MethodName)) rfl hown (mvT hZ (hw _ (List.mem_of_getElem? (i := 3) rfl))) (mvT hZ (hw _ (List.mem_of_getElem? (i := 4) rfl))) (mvT hZ (hw _ (List.mem_of_getElem? (i := 5) rfl))) (by decide) (backOf (W := 1) (rm1 l Z a0 hw [] b16 p0 p1 (.int (0 : Int32)) (.int (0 : Int32)) h16 n0 (Nat.le_trans Z0 E16.1) A16 F16_line F16_column ge_b16) hZ (hw _ (List.mem_of_getElem? (i := 5) rfl)) (hw _ (List.mem_of_getElem? (i := 2) rfl)) (by decide) (by decide)) (g := (mkF m 34 #[.val (.int p0), .val (.int p1), .val (.int p2), .val (.int p3), .val (.int p4), .val (.int x5), .val (.int x6), .unset, .unset, .unset, .unset, .unset, .unset, .unset, .unset] [(.int p1), (.int p0), (.ref b16), (.ref b16)])) rfl (by rw [hml]; rfl) (Steps.refl _) (a := b16) (argsL := [(.int p0), (.int p1)]) (rest := [(.ref b16)]) (lenOf pd_0 rfl) rfl (by show 2 * 0 + _ ≤ _; exact Nat.le_of_eq rfl) (hb hby at_34) (fun _ _ => ⟨rfl, e16, (by decide : 1 + 0 ≤ _), (by decide : 2 + 0 ≤ _)⟩)
    dsimp only [Pt.U, Pt.locs, Pt.cells, Pt.slots] at X17 l17 y17 z17 st17 hQ17
    subst l17 y17 z17
    obtain ⟨rfl, N17q, hQ17⟩ := hQ17
    have N17 := Fr.app N0 N17q
    obtain ⟨K17, Ex17, Fa17, Fb17⟩ := hQ17
    refine Rch.via (T' := T17) (g' := (mkF m 37 #[.val (.int p0), .val (.int p1), .val (.int p2), .val (.int p3), .val (.int p4), .val (.int x5), .val (.int x6), .unset, .unset, .unset, .unset, .unset, .unset, .unset, .unset] [(.ref b16)])) st17 ?_
    refine Rch.of (T' := T17) (g' := (mkF m 39 #[.val (.int p0), .val (.int p1), .val (.int p2), .val (.int p3), .val (.int p4), .val (.int x5), .val (.int x6), .val (.ref b16), .unset, .unset, .unset, .unset, .unset, .unset, .unset] [])) (fun _ kt => XS.astore X17.here hx rfl (hb hby at_37) rfl rfl (l' := #[.val (.int p0), .val (.int p1), .val (.int p2), .val (.int p3), .val (.int p4), .val (.int x5), .val (.int x6), .val (.ref b16), .unset, .unset, .unset, .unset, .unset, .unset, .unset]) rfl kt) ?_
    obtain ⟨T18, h18, X18, e18, E18, A18, D18, -, st18⟩ := newO X17 hx hZ hown (hw _ (List.mem_of_getElem? (i := 0) rfl)) (hw _ (List.mem_of_getElem? (i := 1) rfl)) (hw _ (List.mem_of_getElem? (i := 2) rfl)) rfl (g := (mkF m 39 #[.val (.int p0), .val (.int p1), .val (.int p2), .val (.int p3), .val (.int p4), .val (.int x5), .val (.int x6), .val (.ref b16), .unset, .unset, .unset, .unset, .unset, .unset, .unset] [])) rfl (hb hby at_39) (by decide) (by decide)
    obtain ⟨b18, g18⟩ : ∃ z, z = T17.heap.size := ⟨_, rfl⟩
    have ne_b16_b18 : b16 ≠ b18 := Nat.ne_of_lt (Nat.lt_of_lt_of_le Ex17.lt (Nat.le_of_eq g18.symm))
    have ge_b18 : n0 ≤ b18 := Nat.le_trans (Nat.le_trans (Nat.le_trans Z0 E16.1) K17.1) (Nat.le_of_eq g18.symm)
    have sz_b18 : h0.size ≤ b18 := Nat.le_trans (((Keep.refl h0 []).ext E16).trans K17 (allS (Or.inr sz_b16) all0)).1 (Nat.le_of_eq g18.symm)
    rw [← g18] at A18 D18 st18
    have F18_line : Fld Z h18 b18 "com/example/isidore/isidore/Place" "line" "I" (.int (0 : Int32)) := D18 (Or.inr (hw _ (List.mem_of_getElem? (i := 15) rfl))) (ty := .int) (by decide)
    have F18_column : Fld Z h18 b18 "com/example/isidore/isidore/Place" "column" "I" (.int (0 : Int32)) := D18 (Or.inr (hw _ (List.mem_of_getElem? (i := 17) rfl))) (ty := .int) (by decide)
    refine Rch.of (T' := T18) (g' := (mkF m 42 #[.val (.int p0), .val (.int p1), .val (.int p2), .val (.int p3), .val (.int p4), .val (.int x5), .val (.int x6), .val (.ref b16), .unset, .unset, .unset, .unset, .unset, .unset, .unset] [(.ref b18)])) st18 ?_
    refine Rch.of (T' := T18) (g' := (mkF m 43 #[.val (.int p0), .val (.int p1), .val (.int p2), .val (.int p3), .val (.int p4), .val (.int x5), .val (.int x6), .val (.ref b16), .unset, .unset, .unset, .unset, .unset, .unset, .unset] [(.ref b18), (.ref b18)])) (fun _ kt => XS.dup X18.here hx rfl (hb hby at_42) rfl rfl kt) ?_
    refine Rch.of (T' := T18) (g' := (mkF m 45 #[.val (.int p0), .val (.int p1), .val (.int p2), .val (.int p3), .val (.int p4), .val (.int x5), .val (.int x6), .val (.ref b16), .unset, .unset, .unset, .unset, .unset, .unset, .unset] [(.int x5), (.ref b18), (.ref b18)])) (fun _ kt => XS.iload X18.here hx rfl (hb hby at_43) rfl  kt) ?_
    refine Rch.of (T' := T18) (g' := (mkF m 47 #[.val (.int p0), .val (.int p1), .val (.int p2), .val (.int p3), .val (.int p4), .val (.int x5), .val (.int x6), .val (.ref b16), .unset, .unset, .unset, .unset, .unset, .unset, .unset] [(.int x6), (.int x5), (.ref b18), (.ref b18)])) (fun _ kt => XS.iload X18.here hx rfl (hb hby at_45) rfl  kt) ?_
    obtain ⟨_, _, ⟨T19, L19, k19, n19⟩, -, X19, ⟨Lc19, hQ19, l19, y19, z19⟩, st19⟩ := X18.specialBack hx (y := (⟨"com/example/isidore/isidore/Place", "<init>", "(II)V"⟩ : MethodName)) rfl hown (mvT hZ (hw _ (List.mem_of_getElem? (i := 3) rfl))) (mvT hZ (hw _ (List.mem_of_getElem? (i := 4) rfl))) (mvT hZ (hw _ (List.mem_of_getElem? (i := 5) rfl))) (by decide) (backOf (W := 1) (rm1 l Z a0 hw [] b18 x5 x6 (.int (0 : Int32)) (.int (0 : Int32)) h18 n0 (Nat.le_trans (Nat.le_trans (Nat.le_trans Z0 E16.1) K17.1) E18.1) A18 F18_line F18_column ge_b18) hZ (hw _ (List.mem_of_getElem? (i := 5) rfl)) (hw _ (List.mem_of_getElem? (i := 2) rfl)) (by decide) (by decide)) (g := (mkF m 47 #[.val (.int p0), .val (.int p1), .val (.int p2), .val (.int p3), .val (.int p4), .val (.int x5), .val (.int x6), .val (.ref b16), .unset, .unset, .unset, .unset, .unset, .unset, .unset] [(.int x6), (.int x5), (.ref b18), (.ref b18)])) rfl (by rw [hml]; rfl) (Steps.refl _) (a := b18) (argsL := [(.int x5), (.int x6)]) (rest := [(.ref b18)]) (lenOf pd_0 rfl) rfl (by show 2 * 0 + _ ≤ _; exact Nat.le_of_eq rfl) (hb hby at_47) (fun _ _ => ⟨rfl, e18, (by decide : 2 + 0 ≤ _), (by decide : 4 + 0 ≤ _)⟩)
    dsimp only [Pt.U, Pt.locs, Pt.cells, Pt.slots] at X19 l19 y19 z19 st19 hQ19
    subst l19 y19 z19
    obtain ⟨rfl, N19q, hQ19⟩ := hQ19
    have N19 := Fr.app N17 N19q
    obtain ⟨K19, Ex19, Fa19, Fb19⟩ := hQ19
    refine Rch.via (T' := T19) (g' := (mkF m 50 #[.val (.int p0), .val (.int p1), .val (.int p2), .val (.int p3), .val (.int p4), .val (.int x5), .val (.int x6), .val (.ref b16), .unset, .unset, .unset, .unset, .unset, .unset, .unset] [(.ref b18)])) st19 ?_
    refine Rch.of (T' := T19) (g' := (mkF m 52 #[.val (.int p0), .val (.int p1), .val (.int p2), .val (.int p3), .val (.int p4), .val (.int x5), .val (.int x6), .val (.ref b16), .val (.ref b18), .unset, .unset, .unset, .unset, .unset, .unset] [])) (fun _ kt => XS.astore X19.here hx rfl (hb hby at_50) rfl rfl (l' := #[.val (.int p0), .val (.int p1), .val (.int p2), .val (.int p3), .val (.int p4), .val (.int x5), .val (.int x6), .val (.ref b16), .val (.ref b18), .unset, .unset, .unset, .unset, .unset, .unset]) rfl kt) ?_
    refine Rch.of (T' := T19) (g' := (mkF m 53 #[.val (.int p0), .val (.int p1), .val (.int p2), .val (.int p3), .val (.int p4), .val (.int x5), .val (.int x6), .val (.ref b16), .val (.ref b18), .unset, .unset, .unset, .unset, .unset, .unset] [(.int p0)])) (fun _ kt => XS.iloadN X19.here hx rfl (hb hby at_52) rfl  kt) ?_
    refine Rch.of (T' := T19) (g' := (mkF m 54 #[.val (.int p0), .val (.int p1), .val (.int p2), .val (.int p3), .val (.int p4), .val (.int x5), .val (.int x6), .val (.ref b16), .val (.ref b18), .unset, .unset, .unset, .unset, .unset, .unset] [(.int p1), (.int p0)])) (fun _ kt => XS.iloadN X19.here hx rfl (hb hby at_53) rfl  kt) ?_
    obtain ⟨_, _, ⟨T20, L20, k20, n20⟩, -, X20, ⟨Lc20, hQ20, l20, y20, z20⟩, st20⟩ := Jvm.LawKit.callS X19 hx (y := (⟨"com/example/isidore/isidore/PlaceIsBeforePinLaw", "key", "(II)J"⟩ : MethodName)) hown (mvT hZ (hw _ (List.mem_of_getElem? (i := 18) rfl))) (mvT hZ (hw _ (List.mem_of_getElem? (i := 19) rfl))) (mvT hZ (hw _ (List.mem_of_getElem? (i := 20) rfl))) (mvT hZ (hw _ (List.mem_of_getElem? (i := 21) rfl))) (by decide) (backOf (W := 0) (rm4 l Z a0 hw [] p0 p1 T19.heap n0 (Nat.le_trans (Nat.le_trans (Nat.le_trans (Nat.le_trans Z0 E16.1) K17.1) E18.1) K19.1) ) hZ (hw _ (List.mem_of_getElem? (i := 21) rfl)) (hw _ (List.mem_of_getElem? (i := 20) rfl)) (by decide) (by decide)) (g := (mkF m 54 #[.val (.int p0), .val (.int p1), .val (.int p2), .val (.int p3), .val (.int p4), .val (.int x5), .val (.int x6), .val (.ref b16), .val (.ref b18), .unset, .unset, .unset, .unset, .unset, .unset] [(.int p1), (.int p0)])) rfl (by rw [hml]; rfl) (argsL := [(.int p0), (.int p1)]) (rest := []) (lenOf pd_2 rfl) rfl (by show 2 * 0 + _ ≤ _; exact Nat.le_of_eq rfl) (hb hby at_54) (fun _ _ => ⟨rfl, rfl, (by decide : 2 + 0 ≤ _), (by decide : 4 + 0 ≤ _)⟩)
    dsimp only [Pt.U, Pt.locs, Pt.cells, Pt.slots] at X20 l20 y20 z20 st20 hQ20
    subst l20 y20 z20
    obtain ⟨rfl, N20q, hQ20⟩ := hQ20
    have N20 := Fr.app N19 N20q
    refine Rch.of (T' := T20) (g' := (mkF m 57 #[.val (.int p0), .val (.int p1), .val (.int p2), .val (.int p3), .val (.int p4), .val (.int x5), .val (.int x6), .val (.ref b16), .val (.ref b18), .unset, .unset, .unset, .unset, .unset, .unset] [(.long (own_key p0 p1))])) st20 ?_
    refine Rch.of (T' := T20) (g' := (mkF m 59 #[.val (.int p0), .val (.int p1), .val (.int p2), .val (.int p3), .val (.int p4), .val (.int x5), .val (.int x6), .val (.ref b16), .val (.ref b18), .val (.long (own_key p0 p1)), .second, .unset, .unset, .unset, .unset] [])) (fun _ kt => XS.lstore X20.here hx rfl (hb hby at_57) rfl (l' := #[.val (.int p0), .val (.int p1), .val (.int p2), .val (.int p3), .val (.int p4), .val (.int x5), .val (.int x6), .val (.ref b16), .val (.ref b18), .val (.long (own_key p0 p1)), .second, .unset, .unset, .unset, .unset]) rfl kt) ?_
    refine Rch.of (T' := T20) (g' := (mkF m 61 #[.val (.int p0), .val (.int p1), .val (.int p2), .val (.int p3), .val (.int p4), .val (.int x5), .val (.int x6), .val (.ref b16), .val (.ref b18), .val (.long (own_key p0 p1)), .second, .unset, .unset, .unset, .unset] [(.int x5)])) (fun _ kt => XS.iload X20.here hx rfl (hb hby at_59) rfl  kt) ?_
    refine Rch.of (T' := T20) (g' := (mkF m 63 #[.val (.int p0), .val (.int p1), .val (.int p2), .val (.int p3), .val (.int p4), .val (.int x5), .val (.int x6), .val (.ref b16), .val (.ref b18), .val (.long (own_key p0 p1)), .second, .unset, .unset, .unset, .unset] [(.int x6), (.int x5)])) (fun _ kt => XS.iload X20.here hx rfl (hb hby at_61) rfl  kt) ?_
    obtain ⟨_, _, ⟨T21, L21, k21, n21⟩, -, X21, ⟨Lc21, hQ21, l21, y21, z21⟩, st21⟩ := Jvm.LawKit.callS X20 hx (y := (⟨"com/example/isidore/isidore/PlaceIsBeforePinLaw", "key", "(II)J"⟩ : MethodName)) hown (mvT hZ (hw _ (List.mem_of_getElem? (i := 18) rfl))) (mvT hZ (hw _ (List.mem_of_getElem? (i := 19) rfl))) (mvT hZ (hw _ (List.mem_of_getElem? (i := 20) rfl))) (mvT hZ (hw _ (List.mem_of_getElem? (i := 21) rfl))) (by decide) (backOf (W := 0) (rm4 l Z a0 hw [] x5 x6 T19.heap n0 (Nat.le_trans (Nat.le_trans (Nat.le_trans (Nat.le_trans Z0 E16.1) K17.1) E18.1) K19.1) ) hZ (hw _ (List.mem_of_getElem? (i := 21) rfl)) (hw _ (List.mem_of_getElem? (i := 20) rfl)) (by decide) (by decide)) (g := (mkF m 63 #[.val (.int p0), .val (.int p1), .val (.int p2), .val (.int p3), .val (.int p4), .val (.int x5), .val (.int x6), .val (.ref b16), .val (.ref b18), .val (.long (own_key p0 p1)), .second, .unset, .unset, .unset, .unset] [(.int x6), (.int x5)])) rfl (by rw [hml]; rfl) (argsL := [(.int x5), (.int x6)]) (rest := []) (lenOf pd_2 rfl) rfl (by show 2 * 0 + _ ≤ _; exact Nat.le_of_eq rfl) (hb hby at_63) (fun _ _ => ⟨rfl, hQ20, (by decide : 2 + 0 ≤ _), (by decide : 4 + 0 ≤ _)⟩)
    dsimp only [Pt.U, Pt.locs, Pt.cells, Pt.slots] at X21 l21 y21 z21 st21 hQ21
    subst l21 y21 z21
    obtain ⟨rfl, N21q, hQ21⟩ := hQ21
    have N21 := Fr.app N20 N21q
    refine Rch.of (T' := T21) (g' := (mkF m 66 #[.val (.int p0), .val (.int p1), .val (.int p2), .val (.int p3), .val (.int p4), .val (.int x5), .val (.int x6), .val (.ref b16), .val (.ref b18), .val (.long (own_key p0 p1)), .second, .unset, .unset, .unset, .unset] [(.long (own_key x5 x6))])) st21 ?_
    refine Rch.of (T' := T21) (g' := (mkF m 68 #[.val (.int p0), .val (.int p1), .val (.int p2), .val (.int p3), .val (.int p4), .val (.int x5), .val (.int x6), .val (.ref b16), .val (.ref b18), .val (.long (own_key p0 p1)), .second, .val (.long (own_key x5 x6)), .second, .unset, .unset] [])) (fun _ kt => XS.lstore X21.here hx rfl (hb hby at_66) rfl (l' := #[.val (.int p0), .val (.int p1), .val (.int p2), .val (.int p3), .val (.int p4), .val (.int x5), .val (.int x6), .val (.ref b16), .val (.ref b18), .val (.long (own_key p0 p1)), .second, .val (.long (own_key x5 x6)), .second, .unset, .unset]) rfl kt) ?_
    refine Rch.of (T' := T21) (g' := (mkF m 70 #[.val (.int p0), .val (.int p1), .val (.int p2), .val (.int p3), .val (.int p4), .val (.int x5), .val (.int x6), .val (.ref b16), .val (.ref b18), .val (.long (own_key p0 p1)), .second, .val (.long (own_key x5 x6)), .second, .unset, .unset] [(.ref b16)])) (fun _ kt => XS.aload X21.here hx rfl (hb hby at_68) rfl rfl kt) ?_
    refine Rch.of (T' := T21) (g' := (mkF m 72 #[.val (.int p0), .val (.int p1), .val (.int p2), .val (.int p3), .val (.int p4), .val (.int x5), .val (.int x6), .val (.ref b16), .val (.ref b18), .val (.long (own_key p0 p1)), .second, .val (.long (own_key x5 x6)), .second, .unset, .unset] [(.ref b18), (.ref b16)])) (fun _ kt => XS.aload X21.here hx rfl (hb hby at_70) rfl rfl kt) ?_
    obtain ⟨cq22, kq22, q22a, q22b, q22c⟩ := isOf hZ hQ21 ((Ex17.ext E18).keep K19)
    obtain ⟨_, _, ⟨T22, L22, k22, n22⟩, -, X22, ⟨Lc22, hQ22, l22, y22, z22⟩, st22⟩ := X21.virtualBack hx (y := (⟨"com/example/isidore/isidore/Place", "isBefore", "(Lcom/example/isidore/isidore/Place;)Z"⟩ : MethodName)) (z := (⟨"com/example/isidore/isidore/Place", "isBefore", "(Lcom/example/isidore/isidore/Place;)Z"⟩ : MethodName)) hown (mvT hZ (hw _ (List.mem_of_getElem? (i := 23) rfl))) (mvT hZ (hw _ (List.mem_of_getElem? (i := 24) rfl))) (notFace_of_selects (args := #[]) (mvT hZ (hw _ (List.mem_of_getElem? (i := 26) rfl)))) (mvT hZ (hw _ (List.mem_of_getElem? (i := 26) rfl))) (mvT hZ (hw _ (List.mem_of_getElem? (i := 25) rfl))) (by decide) (backOf (W := 0) (rm5 l Z a0 hw [] b16 b18 p0 p1 x5 x6 T19.heap n0 (Nat.le_trans (Nat.le_trans (Nat.le_trans (Nat.le_trans Z0 E16.1) K17.1) E18.1) K19.1) ((Fa17.ext E18).keep K19 (ninS ne_b16_b18 nin0)) ((Fb17.ext E18).keep K19 (ninS ne_b16_b18 nin0)) Fa19 Fb19) hZ (hw _ (List.mem_of_getElem? (i := 27) rfl)) (hw _ (List.mem_of_getElem? (i := 2) rfl)) (by decide) (by decide)) q22a q22c (g := (mkF m 72 #[.val (.int p0), .val (.int p1), .val (.int p2), .val (.int p3), .val (.int p4), .val (.int x5), .val (.int x6), .val (.ref b16), .val (.ref b18), .val (.long (own_key p0 p1)), .second, .val (.long (own_key x5 x6)), .second, .unset, .unset] [(.ref b18), (.ref b16)])) rfl (by rw [hml]; rfl) (Steps.refl _) (argsL := [(.ref b18)]) (rest := []) (lenOf pd_3 rfl) rfl (by show 2 * 0 + _ ≤ _; exact Nat.le_of_eq rfl) (hb hby at_72) (fun _ _ => ⟨rfl, hQ21, (by decide : 2 + 0 ≤ _), (by decide : 4 + 0 ≤ _)⟩)
    dsimp only [Pt.U, Pt.locs, Pt.cells, Pt.slots] at X22 l22 y22 z22 st22 hQ22
    subst l22 y22 z22
    obtain ⟨rfl, N22q, hQ22⟩ := hQ22
    have N22 := Fr.app N21 N22q
    refine Rch.via (T' := T22) (g' := (mkF m 75 #[.val (.int p0), .val (.int p1), .val (.int p2), .val (.int p3), .val (.int p4), .val (.int x5), .val (.int x6), .val (.ref b16), .val (.ref b18), .val (.long (own_key p0 p1)), .second, .val (.long (own_key x5 x6)), .second, .unset, .unset] [(.int (ob (p0 < x5 ∨ (p0 = x5 ∧ p1 < x6))))])) st22 ?_
    refine Rch.of (T' := T22) (g' := (mkF m 77 #[.val (.int p0), .val (.int p1), .val (.int p2), .val (.int p3), .val (.int p4), .val (.int x5), .val (.int x6), .val (.ref b16), .val (.ref b18), .val (.long (own_key p0 p1)), .second, .val (.long (own_key x5 x6)), .second, .val (.int (ob (p0 < x5 ∨ (p0 = x5 ∧ p1 < x6)))), .unset] [])) (fun _ kt => XS.istore X22.here hx rfl (hb hby at_75) rfl (l' := #[.val (.int p0), .val (.int p1), .val (.int p2), .val (.int p3), .val (.int p4), .val (.int x5), .val (.int x6), .val (.ref b16), .val (.ref b18), .val (.long (own_key p0 p1)), .second, .val (.long (own_key x5 x6)), .second, .val (.int (ob (p0 < x5 ∨ (p0 = x5 ∧ p1 < x6)))), .unset]) rfl kt) ?_
    refine Rch.of (T' := T22) (g' := (mkF m 79 #[.val (.int p0), .val (.int p1), .val (.int p2), .val (.int p3), .val (.int p4), .val (.int x5), .val (.int x6), .val (.ref b16), .val (.ref b18), .val (.long (own_key p0 p1)), .second, .val (.long (own_key x5 x6)), .second, .val (.int (ob (p0 < x5 ∨ (p0 = x5 ∧ p1 < x6)))), .unset] [(.ref b18)])) (fun _ kt => XS.aload X22.here hx rfl (hb hby at_77) rfl rfl kt) ?_
    refine Rch.of (T' := T22) (g' := (mkF m 81 #[.val (.int p0), .val (.int p1), .val (.int p2), .val (.int p3), .val (.int p4), .val (.int x5), .val (.int x6), .val (.ref b16), .val (.ref b18), .val (.long (own_key p0 p1)), .second, .val (.long (own_key x5 x6)), .second, .val (.int (ob (p0 < x5 ∨ (p0 = x5 ∧ p1 < x6)))), .unset] [(.ref b16), (.ref b18)])) (fun _ kt => XS.aload X22.here hx rfl (hb hby at_79) rfl rfl kt) ?_
    obtain ⟨cq23, kq23, q23a, q23b, q23c⟩ := isOf hZ hQ22 Ex19
    obtain ⟨_, _, ⟨T23, L23, k23, n23⟩, -, X23, ⟨Lc23, hQ23, l23, y23, z23⟩, st23⟩ := X22.virtualBack hx (y := (⟨"com/example/isidore/isidore/Place", "isBefore", "(Lcom/example/isidore/isidore/Place;)Z"⟩ : MethodName)) (z := (⟨"com/example/isidore/isidore/Place", "isBefore", "(Lcom/example/isidore/isidore/Place;)Z"⟩ : MethodName)) hown (mvT hZ (hw _ (List.mem_of_getElem? (i := 23) rfl))) (mvT hZ (hw _ (List.mem_of_getElem? (i := 24) rfl))) (notFace_of_selects (args := #[]) (mvT hZ (hw _ (List.mem_of_getElem? (i := 26) rfl)))) (mvT hZ (hw _ (List.mem_of_getElem? (i := 26) rfl))) (mvT hZ (hw _ (List.mem_of_getElem? (i := 25) rfl))) (by decide) (backOf (W := 0) (rm5 l Z a0 hw [] b18 b16 x5 x6 p0 p1 T19.heap n0 (Nat.le_trans (Nat.le_trans (Nat.le_trans (Nat.le_trans Z0 E16.1) K17.1) E18.1) K19.1) Fa19 Fb19 ((Fa17.ext E18).keep K19 (ninS ne_b16_b18 nin0)) ((Fb17.ext E18).keep K19 (ninS ne_b16_b18 nin0))) hZ (hw _ (List.mem_of_getElem? (i := 27) rfl)) (hw _ (List.mem_of_getElem? (i := 2) rfl)) (by decide) (by decide)) q23a q23c (g := (mkF m 81 #[.val (.int p0), .val (.int p1), .val (.int p2), .val (.int p3), .val (.int p4), .val (.int x5), .val (.int x6), .val (.ref b16), .val (.ref b18), .val (.long (own_key p0 p1)), .second, .val (.long (own_key x5 x6)), .second, .val (.int (ob (p0 < x5 ∨ (p0 = x5 ∧ p1 < x6)))), .unset] [(.ref b16), (.ref b18)])) rfl (by rw [hml]; rfl) (Steps.refl _) (argsL := [(.ref b16)]) (rest := []) (lenOf pd_3 rfl) rfl (by show 2 * 0 + _ ≤ _; exact Nat.le_of_eq rfl) (hb hby at_81) (fun _ _ => ⟨rfl, hQ22, (by decide : 2 + 0 ≤ _), (by decide : 4 + 0 ≤ _)⟩)
    dsimp only [Pt.U, Pt.locs, Pt.cells, Pt.slots] at X23 l23 y23 z23 st23 hQ23
    subst l23 y23 z23
    obtain ⟨rfl, N23q, hQ23⟩ := hQ23
    have N23 := Fr.app N22 N23q
    refine Rch.via (T' := T23) (g' := (mkF m 84 #[.val (.int p0), .val (.int p1), .val (.int p2), .val (.int p3), .val (.int p4), .val (.int x5), .val (.int x6), .val (.ref b16), .val (.ref b18), .val (.long (own_key p0 p1)), .second, .val (.long (own_key x5 x6)), .second, .val (.int (ob (p0 < x5 ∨ (p0 = x5 ∧ p1 < x6)))), .unset] [(.int (ob (x5 < p0 ∨ (x5 = p0 ∧ x6 < p1))))])) st23 ?_
    refine Rch.of (T' := T23) (g' := (mkF m 86 #[.val (.int p0), .val (.int p1), .val (.int p2), .val (.int p3), .val (.int p4), .val (.int x5), .val (.int x6), .val (.ref b16), .val (.ref b18), .val (.long (own_key p0 p1)), .second, .val (.long (own_key x5 x6)), .second, .val (.int (ob (p0 < x5 ∨ (p0 = x5 ∧ p1 < x6)))), .val (.int (ob (x5 < p0 ∨ (x5 = p0 ∧ x6 < p1))))] [])) (fun _ kt => XS.istore X23.here hx rfl (hb hby at_84) rfl (l' := #[.val (.int p0), .val (.int p1), .val (.int p2), .val (.int p3), .val (.int p4), .val (.int x5), .val (.int x6), .val (.ref b16), .val (.ref b18), .val (.long (own_key p0 p1)), .second, .val (.long (own_key x5 x6)), .second, .val (.int (ob (p0 < x5 ∨ (p0 = x5 ∧ p1 < x6)))), .val (.int (ob (x5 < p0 ∨ (x5 = p0 ∧ x6 < p1))))]) rfl kt) ?_
    refine Rch.of (T' := T23) (g' := (mkF m 88 #[.val (.int p0), .val (.int p1), .val (.int p2), .val (.int p3), .val (.int p4), .val (.int x5), .val (.int x6), .val (.ref b16), .val (.ref b18), .val (.long (own_key p0 p1)), .second, .val (.long (own_key x5 x6)), .second, .val (.int (ob (p0 < x5 ∨ (p0 = x5 ∧ p1 < x6)))), .val (.int (ob (x5 < p0 ∨ (x5 = p0 ∧ x6 < p1))))] [(.int (ob (p0 < x5 ∨ (p0 = x5 ∧ p1 < x6))))])) (fun _ kt => XS.iload X23.here hx rfl (hb hby at_86) rfl  kt) ?_
    refine Rch.of (T' := T23) (g' := (mkF m 90 #[.val (.int p0), .val (.int p1), .val (.int p2), .val (.int p3), .val (.int p4), .val (.int x5), .val (.int x6), .val (.ref b16), .val (.ref b18), .val (.long (own_key p0 p1)), .second, .val (.long (own_key x5 x6)), .second, .val (.int (ob (p0 < x5 ∨ (p0 = x5 ∧ p1 < x6)))), .val (.int (ob (x5 < p0 ∨ (x5 = p0 ∧ x6 < p1))))] [(.long (own_key p0 p1)), (.int (ob (p0 < x5 ∨ (p0 = x5 ∧ p1 < x6))))])) (fun _ kt => XS.lload X23.here hx rfl (hb hby at_88) rfl  kt) ?_
    refine Rch.of (T' := T23) (g' := (mkF m 92 #[.val (.int p0), .val (.int p1), .val (.int p2), .val (.int p3), .val (.int p4), .val (.int x5), .val (.int x6), .val (.ref b16), .val (.ref b18), .val (.long (own_key p0 p1)), .second, .val (.long (own_key x5 x6)), .second, .val (.int (ob (p0 < x5 ∨ (p0 = x5 ∧ p1 < x6)))), .val (.int (ob (x5 < p0 ∨ (x5 = p0 ∧ x6 < p1))))] [(.long (own_key x5 x6)), (.long (own_key p0 p1)), (.int (ob (p0 < x5 ∨ (p0 = x5 ∧ p1 < x6))))])) (fun _ kt => XS.lload X23.here hx rfl (hb hby at_90) rfl  kt) ?_
    refine Rch.of (T' := T23) (g' := (mkF m 93 #[.val (.int p0), .val (.int p1), .val (.int p2), .val (.int p3), .val (.int p4), .val (.int x5), .val (.int x6), .val (.ref b16), .val (.ref b18), .val (.long (own_key p0 p1)), .second, .val (.long (own_key x5 x6)), .second, .val (.int (ob (p0 < x5 ∨ (p0 = x5 ∧ p1 < x6)))), .val (.int (ob (x5 < p0 ∨ (x5 = p0 ∧ x6 < p1))))] [(.int (lcmpW (own_key p0 p1) (own_key x5 x6))), (.int (ob (p0 < x5 ∨ (p0 = x5 ∧ p1 < x6))))])) (fun _ kt => XS.lcmp X23.here hx rfl (hb hby at_92) rfl kt) ?_
    by_cases c24 : (lcmpW (own_key p0 p1) (own_key x5 x6)) < (0 : Int32)
    · skip
      refine Rch.of (T' := T23) (g' := (mkF m 96 #[.val (.int p0), .val (.int p1), .val (.int p2), .val (.int p3), .val (.int p4), .val (.int x5), .val (.int x6), .val (.ref b16), .val (.ref b18), .val (.long (own_key p0 p1)), .second, .val (.long (own_key x5 x6)), .second, .val (.int (ob (p0 < x5 ∨ (p0 = x5 ∧ p1 < x6)))), .val (.int (ob (x5 < p0 ∨ (x5 = p0 ∧ x6 < p1))))] [(.int (ob (p0 < x5 ∨ (p0 = x5 ∧ p1 < x6))))])) (fun _ kt => XS.ifNo X23.here hx rfl (hb hby at_93) rfl ((if0 _ _).trans (tlt c24).2.1) kt) ?_
      refine Rch.of (T' := T23) (g' := (mkF m 97 #[.val (.int p0), .val (.int p1), .val (.int p2), .val (.int p3), .val (.int p4), .val (.int x5), .val (.int x6), .val (.ref b16), .val (.ref b18), .val (.long (own_key p0 p1)), .second, .val (.long (own_key x5 x6)), .second, .val (.int (ob (p0 < x5 ∨ (p0 = x5 ∧ p1 < x6)))), .val (.int (ob (x5 < p0 ∨ (x5 = p0 ∧ x6 < p1))))] [(.int (1 : Int32)), (.int (ob (p0 < x5 ∨ (p0 = x5 ∧ p1 < x6))))])) (fun _ kt => XS.iconst X23.here hx rfl (hb hby at_96) kt) ?_
      refine Rch.of (T' := T23) (g' := (mkF m 101 #[.val (.int p0), .val (.int p1), .val (.int p2), .val (.int p3), .val (.int p4), .val (.int x5), .val (.int x6), .val (.ref b16), .val (.ref b18), .val (.long (own_key p0 p1)), .second, .val (.long (own_key x5 x6)), .second, .val (.int (ob (p0 < x5 ∨ (p0 = x5 ∧ p1 < x6)))), .val (.int (ob (x5 < p0 ∨ (x5 = p0 ∧ x6 < p1))))] [(.int (1 : Int32)), (.int (ob (p0 < x5 ∨ (p0 = x5 ∧ p1 < x6))))])) (fun _ kt => XS.goto X23.here hx rfl (pc0 := 97) (pc' := 101) rfl (hb hby at_97) (by decide) (by decide) kt) ?_
      refine Rch.of (T' := T23) (g' := (mkF m 104 #[.val (.int p0), .val (.int p1), .val (.int p2), .val (.int p3), .val (.int p4), .val (.int x5), .val (.int x6), .val (.ref b16), .val (.ref b18), .val (.long (own_key p0 p1)), .second, .val (.long (own_key x5 x6)), .second, .val (.int (ob (p0 < x5 ∨ (p0 = x5 ∧ p1 < x6)))), .val (.int (ob (x5 < p0 ∨ (x5 = p0 ∧ x6 < p1))))] [])) (fun _ kt => XS.icmpNo X23.here hx rfl (hb hby at_101) rfl (teq (ob_pos (own_key_lt.mp ((lw_lt _ _).mp c24)))).2 kt) ?_
      refine Rch.of (T' := T23) (g' := (mkF m 106 #[.val (.int p0), .val (.int p1), .val (.int p2), .val (.int p3), .val (.int p4), .val (.int x5), .val (.int x6), .val (.ref b16), .val (.ref b18), .val (.long (own_key p0 p1)), .second, .val (.long (own_key x5 x6)), .second, .val (.int (ob (p0 < x5 ∨ (p0 = x5 ∧ p1 < x6)))), .val (.int (ob (x5 < p0 ∨ (x5 = p0 ∧ x6 < p1))))] [(.int (ob (x5 < p0 ∨ (x5 = p0 ∧ x6 < p1))))])) (fun _ kt => XS.iload X23.here hx rfl (hb hby at_104) rfl  kt) ?_
      refine Rch.of (T' := T23) (g' := (mkF m 108 #[.val (.int p0), .val (.int p1), .val (.int p2), .val (.int p3), .val (.int p4), .val (.int x5), .val (.int x6), .val (.ref b16), .val (.ref b18), .val (.long (own_key p0 p1)), .second, .val (.long (own_key x5 x6)), .second, .val (.int (ob (p0 < x5 ∨ (p0 = x5 ∧ p1 < x6)))), .val (.int (ob (x5 < p0 ∨ (x5 = p0 ∧ x6 < p1))))] [(.long (own_key x5 x6)), (.int (ob (x5 < p0 ∨ (x5 = p0 ∧ x6 < p1))))])) (fun _ kt => XS.lload X23.here hx rfl (hb hby at_106) rfl  kt) ?_
      refine Rch.of (T' := T23) (g' := (mkF m 110 #[.val (.int p0), .val (.int p1), .val (.int p2), .val (.int p3), .val (.int p4), .val (.int x5), .val (.int x6), .val (.ref b16), .val (.ref b18), .val (.long (own_key p0 p1)), .second, .val (.long (own_key x5 x6)), .second, .val (.int (ob (p0 < x5 ∨ (p0 = x5 ∧ p1 < x6)))), .val (.int (ob (x5 < p0 ∨ (x5 = p0 ∧ x6 < p1))))] [(.long (own_key p0 p1)), (.long (own_key x5 x6)), (.int (ob (x5 < p0 ∨ (x5 = p0 ∧ x6 < p1))))])) (fun _ kt => XS.lload X23.here hx rfl (hb hby at_108) rfl  kt) ?_
      refine Rch.of (T' := T23) (g' := (mkF m 111 #[.val (.int p0), .val (.int p1), .val (.int p2), .val (.int p3), .val (.int p4), .val (.int x5), .val (.int x6), .val (.ref b16), .val (.ref b18), .val (.long (own_key p0 p1)), .second, .val (.long (own_key x5 x6)), .second, .val (.int (ob (p0 < x5 ∨ (p0 = x5 ∧ p1 < x6)))), .val (.int (ob (x5 < p0 ∨ (x5 = p0 ∧ x6 < p1))))] [(.int (lcmpW (own_key x5 x6) (own_key p0 p1))), (.int (ob (x5 < p0 ∨ (x5 = p0 ∧ x6 < p1))))])) (fun _ kt => XS.lcmp X23.here hx rfl (hb hby at_110) rfl kt) ?_
      by_cases c25 : (lcmpW (own_key x5 x6) (own_key p0 p1)) < (0 : Int32)
      · skip
        refine Rch.of (T' := T23) (g' := (mkF m 114 #[.val (.int p0), .val (.int p1), .val (.int p2), .val (.int p3), .val (.int p4), .val (.int x5), .val (.int x6), .val (.ref b16), .val (.ref b18), .val (.long (own_key p0 p1)), .second, .val (.long (own_key x5 x6)), .second, .val (.int (ob (p0 < x5 ∨ (p0 = x5 ∧ p1 < x6)))), .val (.int (ob (x5 < p0 ∨ (x5 = p0 ∧ x6 < p1))))] [(.int (ob (x5 < p0 ∨ (x5 = p0 ∧ x6 < p1))))])) (fun _ kt => XS.ifNo X23.here hx rfl (hb hby at_111) rfl ((if0 _ _).trans (tlt c25).2.1) kt) ?_
        refine Rch.of (T' := T23) (g' := (mkF m 115 #[.val (.int p0), .val (.int p1), .val (.int p2), .val (.int p3), .val (.int p4), .val (.int x5), .val (.int x6), .val (.ref b16), .val (.ref b18), .val (.long (own_key p0 p1)), .second, .val (.long (own_key x5 x6)), .second, .val (.int (ob (p0 < x5 ∨ (p0 = x5 ∧ p1 < x6)))), .val (.int (ob (x5 < p0 ∨ (x5 = p0 ∧ x6 < p1))))] [(.int (1 : Int32)), (.int (ob (x5 < p0 ∨ (x5 = p0 ∧ x6 < p1))))])) (fun _ kt => XS.iconst X23.here hx rfl (hb hby at_114) kt) ?_
        refine Rch.of (T' := T23) (g' := (mkF m 119 #[.val (.int p0), .val (.int p1), .val (.int p2), .val (.int p3), .val (.int p4), .val (.int x5), .val (.int x6), .val (.ref b16), .val (.ref b18), .val (.long (own_key p0 p1)), .second, .val (.long (own_key x5 x6)), .second, .val (.int (ob (p0 < x5 ∨ (p0 = x5 ∧ p1 < x6)))), .val (.int (ob (x5 < p0 ∨ (x5 = p0 ∧ x6 < p1))))] [(.int (1 : Int32)), (.int (ob (x5 < p0 ∨ (x5 = p0 ∧ x6 < p1))))])) (fun _ kt => XS.goto X23.here hx rfl (pc0 := 115) (pc' := 119) rfl (hb hby at_115) (by decide) (by decide) kt) ?_
        refine Rch.of (T' := T23) (g' := (mkF m 122 #[.val (.int p0), .val (.int p1), .val (.int p2), .val (.int p3), .val (.int p4), .val (.int x5), .val (.int x6), .val (.ref b16), .val (.ref b18), .val (.long (own_key p0 p1)), .second, .val (.long (own_key x5 x6)), .second, .val (.int (ob (p0 < x5 ∨ (p0 = x5 ∧ p1 < x6)))), .val (.int (ob (x5 < p0 ∨ (x5 = p0 ∧ x6 < p1))))] [])) (fun _ kt => XS.icmpNo X23.here hx rfl (hb hby at_119) rfl (teq (ob_pos (own_key_lt.mp ((lw_lt _ _).mp c25)))).2 kt) ?_
        refine Rch.of (T' := T23) (g' := (mkF m 123 #[.val (.int p0), .val (.int p1), .val (.int p2), .val (.int p3), .val (.int p4), .val (.int x5), .val (.int x6), .val (.ref b16), .val (.ref b18), .val (.long (own_key p0 p1)), .second, .val (.long (own_key x5 x6)), .second, .val (.int (ob (p0 < x5 ∨ (p0 = x5 ∧ p1 < x6)))), .val (.int (ob (x5 < p0 ∨ (x5 = p0 ∧ x6 < p1))))] [(.int (1 : Int32))])) (fun _ kt => XS.iconst X23.here hx rfl (hb hby at_122) kt) ?_
        refine Rch.of (T' := T23) (g' := (mkF m 127 #[.val (.int p0), .val (.int p1), .val (.int p2), .val (.int p3), .val (.int p4), .val (.int x5), .val (.int x6), .val (.ref b16), .val (.ref b18), .val (.long (own_key p0 p1)), .second, .val (.long (own_key x5 x6)), .second, .val (.int (ob (p0 < x5 ∨ (p0 = x5 ∧ p1 < x6)))), .val (.int (ob (x5 < p0 ∨ (x5 = p0 ∧ x6 < p1))))] [(.int (1 : Int32))])) (fun _ kt => XS.goto X23.here hx rfl (pc0 := 123) (pc' := 127) rfl (hb hby at_123) (by decide) (by decide) kt) ?_
        exact Rch.retN X23 hx (t := .boolean) hret (by simp) hlk (hb hby at_127) (fun U hU hF => hK _ U _ _ _ (by show Q_rm0 Z p0 p1 p2 p3 p4 h0 n0 _ U.heap _; rw [hU, hQ23]; exact ⟨rfl, N23, trivial⟩) hF (by decide) (by decide))
      · skip
        refine Rch.of (T' := T23) (g' := (mkF m 118 #[.val (.int p0), .val (.int p1), .val (.int p2), .val (.int p3), .val (.int p4), .val (.int x5), .val (.int x6), .val (.ref b16), .val (.ref b18), .val (.long (own_key p0 p1)), .second, .val (.long (own_key x5 x6)), .second, .val (.int (ob (p0 < x5 ∨ (p0 = x5 ∧ p1 < x6)))), .val (.int (ob (x5 < p0 ∨ (x5 = p0 ∧ x6 < p1))))] [(.int (ob (x5 < p0 ∨ (x5 = p0 ∧ x6 < p1))))])) (fun _ kt => XS.ifYes X23.here hx rfl (pc0 := 111) (pc' := 118) rfl (hb hby at_111) rfl ((if0 _ _).trans (flt c25).2.1) (by decide) (by decide) kt) ?_
        refine Rch.of (T' := T23) (g' := (mkF m 119 #[.val (.int p0), .val (.int p1), .val (.int p2), .val (.int p3), .val (.int p4), .val (.int x5), .val (.int x6), .val (.ref b16), .val (.ref b18), .val (.long (own_key p0 p1)), .second, .val (.long (own_key x5 x6)), .second, .val (.int (ob (p0 < x5 ∨ (p0 = x5 ∧ p1 < x6)))), .val (.int (ob (x5 < p0 ∨ (x5 = p0 ∧ x6 < p1))))] [(.int (0 : Int32)), (.int (ob (x5 < p0 ∨ (x5 = p0 ∧ x6 < p1))))])) (fun _ kt => XS.iconst X23.here hx rfl (hb hby at_118) kt) ?_
        refine Rch.of (T' := T23) (g' := (mkF m 122 #[.val (.int p0), .val (.int p1), .val (.int p2), .val (.int p3), .val (.int p4), .val (.int x5), .val (.int x6), .val (.ref b16), .val (.ref b18), .val (.long (own_key p0 p1)), .second, .val (.long (own_key x5 x6)), .second, .val (.int (ob (p0 < x5 ∨ (p0 = x5 ∧ p1 < x6)))), .val (.int (ob (x5 < p0 ∨ (x5 = p0 ∧ x6 < p1))))] [])) (fun _ kt => XS.icmpNo X23.here hx rfl (hb hby at_119) rfl (teq (ob_neg fun q => c25 ((lw_lt _ _).mpr (own_key_lt.mpr q)))).2 kt) ?_
        refine Rch.of (T' := T23) (g' := (mkF m 123 #[.val (.int p0), .val (.int p1), .val (.int p2), .val (.int p3), .val (.int p4), .val (.int x5), .val (.int x6), .val (.ref b16), .val (.ref b18), .val (.long (own_key p0 p1)), .second, .val (.long (own_key x5 x6)), .second, .val (.int (ob (p0 < x5 ∨ (p0 = x5 ∧ p1 < x6)))), .val (.int (ob (x5 < p0 ∨ (x5 = p0 ∧ x6 < p1))))] [(.int (1 : Int32))])) (fun _ kt => XS.iconst X23.here hx rfl (hb hby at_122) kt) ?_
        refine Rch.of (T' := T23) (g' := (mkF m 127 #[.val (.int p0), .val (.int p1), .val (.int p2), .val (.int p3), .val (.int p4), .val (.int x5), .val (.int x6), .val (.ref b16), .val (.ref b18), .val (.long (own_key p0 p1)), .second, .val (.long (own_key x5 x6)), .second, .val (.int (ob (p0 < x5 ∨ (p0 = x5 ∧ p1 < x6)))), .val (.int (ob (x5 < p0 ∨ (x5 = p0 ∧ x6 < p1))))] [(.int (1 : Int32))])) (fun _ kt => XS.goto X23.here hx rfl (pc0 := 123) (pc' := 127) rfl (hb hby at_123) (by decide) (by decide) kt) ?_
        exact Rch.retN X23 hx (t := .boolean) hret (by simp) hlk (hb hby at_127) (fun U hU hF => hK _ U _ _ _ (by show Q_rm0 Z p0 p1 p2 p3 p4 h0 n0 _ U.heap _; rw [hU, hQ23]; exact ⟨rfl, N23, trivial⟩) hF (by decide) (by decide))
    · skip
      refine Rch.of (T' := T23) (g' := (mkF m 100 #[.val (.int p0), .val (.int p1), .val (.int p2), .val (.int p3), .val (.int p4), .val (.int x5), .val (.int x6), .val (.ref b16), .val (.ref b18), .val (.long (own_key p0 p1)), .second, .val (.long (own_key x5 x6)), .second, .val (.int (ob (p0 < x5 ∨ (p0 = x5 ∧ p1 < x6)))), .val (.int (ob (x5 < p0 ∨ (x5 = p0 ∧ x6 < p1))))] [(.int (ob (p0 < x5 ∨ (p0 = x5 ∧ p1 < x6))))])) (fun _ kt => XS.ifYes X23.here hx rfl (pc0 := 93) (pc' := 100) rfl (hb hby at_93) rfl ((if0 _ _).trans (flt c24).2.1) (by decide) (by decide) kt) ?_
      refine Rch.of (T' := T23) (g' := (mkF m 101 #[.val (.int p0), .val (.int p1), .val (.int p2), .val (.int p3), .val (.int p4), .val (.int x5), .val (.int x6), .val (.ref b16), .val (.ref b18), .val (.long (own_key p0 p1)), .second, .val (.long (own_key x5 x6)), .second, .val (.int (ob (p0 < x5 ∨ (p0 = x5 ∧ p1 < x6)))), .val (.int (ob (x5 < p0 ∨ (x5 = p0 ∧ x6 < p1))))] [(.int (0 : Int32)), (.int (ob (p0 < x5 ∨ (p0 = x5 ∧ p1 < x6))))])) (fun _ kt => XS.iconst X23.here hx rfl (hb hby at_100) kt) ?_
      refine Rch.of (T' := T23) (g' := (mkF m 104 #[.val (.int p0), .val (.int p1), .val (.int p2), .val (.int p3), .val (.int p4), .val (.int x5), .val (.int x6), .val (.ref b16), .val (.ref b18), .val (.long (own_key p0 p1)), .second, .val (.long (own_key x5 x6)), .second, .val (.int (ob (p0 < x5 ∨ (p0 = x5 ∧ p1 < x6)))), .val (.int (ob (x5 < p0 ∨ (x5 = p0 ∧ x6 < p1))))] [])) (fun _ kt => XS.icmpNo X23.here hx rfl (hb hby at_101) rfl (teq (ob_neg fun q => c24 ((lw_lt _ _).mpr (own_key_lt.mpr q)))).2 kt) ?_
      refine Rch.of (T' := T23) (g' := (mkF m 106 #[.val (.int p0), .val (.int p1), .val (.int p2), .val (.int p3), .val (.int p4), .val (.int x5), .val (.int x6), .val (.ref b16), .val (.ref b18), .val (.long (own_key p0 p1)), .second, .val (.long (own_key x5 x6)), .second, .val (.int (ob (p0 < x5 ∨ (p0 = x5 ∧ p1 < x6)))), .val (.int (ob (x5 < p0 ∨ (x5 = p0 ∧ x6 < p1))))] [(.int (ob (x5 < p0 ∨ (x5 = p0 ∧ x6 < p1))))])) (fun _ kt => XS.iload X23.here hx rfl (hb hby at_104) rfl  kt) ?_
      refine Rch.of (T' := T23) (g' := (mkF m 108 #[.val (.int p0), .val (.int p1), .val (.int p2), .val (.int p3), .val (.int p4), .val (.int x5), .val (.int x6), .val (.ref b16), .val (.ref b18), .val (.long (own_key p0 p1)), .second, .val (.long (own_key x5 x6)), .second, .val (.int (ob (p0 < x5 ∨ (p0 = x5 ∧ p1 < x6)))), .val (.int (ob (x5 < p0 ∨ (x5 = p0 ∧ x6 < p1))))] [(.long (own_key x5 x6)), (.int (ob (x5 < p0 ∨ (x5 = p0 ∧ x6 < p1))))])) (fun _ kt => XS.lload X23.here hx rfl (hb hby at_106) rfl  kt) ?_
      refine Rch.of (T' := T23) (g' := (mkF m 110 #[.val (.int p0), .val (.int p1), .val (.int p2), .val (.int p3), .val (.int p4), .val (.int x5), .val (.int x6), .val (.ref b16), .val (.ref b18), .val (.long (own_key p0 p1)), .second, .val (.long (own_key x5 x6)), .second, .val (.int (ob (p0 < x5 ∨ (p0 = x5 ∧ p1 < x6)))), .val (.int (ob (x5 < p0 ∨ (x5 = p0 ∧ x6 < p1))))] [(.long (own_key p0 p1)), (.long (own_key x5 x6)), (.int (ob (x5 < p0 ∨ (x5 = p0 ∧ x6 < p1))))])) (fun _ kt => XS.lload X23.here hx rfl (hb hby at_108) rfl  kt) ?_
      refine Rch.of (T' := T23) (g' := (mkF m 111 #[.val (.int p0), .val (.int p1), .val (.int p2), .val (.int p3), .val (.int p4), .val (.int x5), .val (.int x6), .val (.ref b16), .val (.ref b18), .val (.long (own_key p0 p1)), .second, .val (.long (own_key x5 x6)), .second, .val (.int (ob (p0 < x5 ∨ (p0 = x5 ∧ p1 < x6)))), .val (.int (ob (x5 < p0 ∨ (x5 = p0 ∧ x6 < p1))))] [(.int (lcmpW (own_key x5 x6) (own_key p0 p1))), (.int (ob (x5 < p0 ∨ (x5 = p0 ∧ x6 < p1))))])) (fun _ kt => XS.lcmp X23.here hx rfl (hb hby at_110) rfl kt) ?_
      by_cases c26 : (lcmpW (own_key x5 x6) (own_key p0 p1)) < (0 : Int32)
      · skip
        refine Rch.of (T' := T23) (g' := (mkF m 114 #[.val (.int p0), .val (.int p1), .val (.int p2), .val (.int p3), .val (.int p4), .val (.int x5), .val (.int x6), .val (.ref b16), .val (.ref b18), .val (.long (own_key p0 p1)), .second, .val (.long (own_key x5 x6)), .second, .val (.int (ob (p0 < x5 ∨ (p0 = x5 ∧ p1 < x6)))), .val (.int (ob (x5 < p0 ∨ (x5 = p0 ∧ x6 < p1))))] [(.int (ob (x5 < p0 ∨ (x5 = p0 ∧ x6 < p1))))])) (fun _ kt => XS.ifNo X23.here hx rfl (hb hby at_111) rfl ((if0 _ _).trans (tlt c26).2.1) kt) ?_
        refine Rch.of (T' := T23) (g' := (mkF m 115 #[.val (.int p0), .val (.int p1), .val (.int p2), .val (.int p3), .val (.int p4), .val (.int x5), .val (.int x6), .val (.ref b16), .val (.ref b18), .val (.long (own_key p0 p1)), .second, .val (.long (own_key x5 x6)), .second, .val (.int (ob (p0 < x5 ∨ (p0 = x5 ∧ p1 < x6)))), .val (.int (ob (x5 < p0 ∨ (x5 = p0 ∧ x6 < p1))))] [(.int (1 : Int32)), (.int (ob (x5 < p0 ∨ (x5 = p0 ∧ x6 < p1))))])) (fun _ kt => XS.iconst X23.here hx rfl (hb hby at_114) kt) ?_
        refine Rch.of (T' := T23) (g' := (mkF m 119 #[.val (.int p0), .val (.int p1), .val (.int p2), .val (.int p3), .val (.int p4), .val (.int x5), .val (.int x6), .val (.ref b16), .val (.ref b18), .val (.long (own_key p0 p1)), .second, .val (.long (own_key x5 x6)), .second, .val (.int (ob (p0 < x5 ∨ (p0 = x5 ∧ p1 < x6)))), .val (.int (ob (x5 < p0 ∨ (x5 = p0 ∧ x6 < p1))))] [(.int (1 : Int32)), (.int (ob (x5 < p0 ∨ (x5 = p0 ∧ x6 < p1))))])) (fun _ kt => XS.goto X23.here hx rfl (pc0 := 115) (pc' := 119) rfl (hb hby at_115) (by decide) (by decide) kt) ?_
        refine Rch.of (T' := T23) (g' := (mkF m 122 #[.val (.int p0), .val (.int p1), .val (.int p2), .val (.int p3), .val (.int p4), .val (.int x5), .val (.int x6), .val (.ref b16), .val (.ref b18), .val (.long (own_key p0 p1)), .second, .val (.long (own_key x5 x6)), .second, .val (.int (ob (p0 < x5 ∨ (p0 = x5 ∧ p1 < x6)))), .val (.int (ob (x5 < p0 ∨ (x5 = p0 ∧ x6 < p1))))] [])) (fun _ kt => XS.icmpNo X23.here hx rfl (hb hby at_119) rfl (teq (ob_pos (own_key_lt.mp ((lw_lt _ _).mp c26)))).2 kt) ?_
        refine Rch.of (T' := T23) (g' := (mkF m 123 #[.val (.int p0), .val (.int p1), .val (.int p2), .val (.int p3), .val (.int p4), .val (.int x5), .val (.int x6), .val (.ref b16), .val (.ref b18), .val (.long (own_key p0 p1)), .second, .val (.long (own_key x5 x6)), .second, .val (.int (ob (p0 < x5 ∨ (p0 = x5 ∧ p1 < x6)))), .val (.int (ob (x5 < p0 ∨ (x5 = p0 ∧ x6 < p1))))] [(.int (1 : Int32))])) (fun _ kt => XS.iconst X23.here hx rfl (hb hby at_122) kt) ?_
        refine Rch.of (T' := T23) (g' := (mkF m 127 #[.val (.int p0), .val (.int p1), .val (.int p2), .val (.int p3), .val (.int p4), .val (.int x5), .val (.int x6), .val (.ref b16), .val (.ref b18), .val (.long (own_key p0 p1)), .second, .val (.long (own_key x5 x6)), .second, .val (.int (ob (p0 < x5 ∨ (p0 = x5 ∧ p1 < x6)))), .val (.int (ob (x5 < p0 ∨ (x5 = p0 ∧ x6 < p1))))] [(.int (1 : Int32))])) (fun _ kt => XS.goto X23.here hx rfl (pc0 := 123) (pc' := 127) rfl (hb hby at_123) (by decide) (by decide) kt) ?_
        exact Rch.retN X23 hx (t := .boolean) hret (by simp) hlk (hb hby at_127) (fun U hU hF => hK _ U _ _ _ (by show Q_rm0 Z p0 p1 p2 p3 p4 h0 n0 _ U.heap _; rw [hU, hQ23]; exact ⟨rfl, N23, trivial⟩) hF (by decide) (by decide))
      · skip
        refine Rch.of (T' := T23) (g' := (mkF m 118 #[.val (.int p0), .val (.int p1), .val (.int p2), .val (.int p3), .val (.int p4), .val (.int x5), .val (.int x6), .val (.ref b16), .val (.ref b18), .val (.long (own_key p0 p1)), .second, .val (.long (own_key x5 x6)), .second, .val (.int (ob (p0 < x5 ∨ (p0 = x5 ∧ p1 < x6)))), .val (.int (ob (x5 < p0 ∨ (x5 = p0 ∧ x6 < p1))))] [(.int (ob (x5 < p0 ∨ (x5 = p0 ∧ x6 < p1))))])) (fun _ kt => XS.ifYes X23.here hx rfl (pc0 := 111) (pc' := 118) rfl (hb hby at_111) rfl ((if0 _ _).trans (flt c26).2.1) (by decide) (by decide) kt) ?_
        refine Rch.of (T' := T23) (g' := (mkF m 119 #[.val (.int p0), .val (.int p1), .val (.int p2), .val (.int p3), .val (.int p4), .val (.int x5), .val (.int x6), .val (.ref b16), .val (.ref b18), .val (.long (own_key p0 p1)), .second, .val (.long (own_key x5 x6)), .second, .val (.int (ob (p0 < x5 ∨ (p0 = x5 ∧ p1 < x6)))), .val (.int (ob (x5 < p0 ∨ (x5 = p0 ∧ x6 < p1))))] [(.int (0 : Int32)), (.int (ob (x5 < p0 ∨ (x5 = p0 ∧ x6 < p1))))])) (fun _ kt => XS.iconst X23.here hx rfl (hb hby at_118) kt) ?_
        refine Rch.of (T' := T23) (g' := (mkF m 122 #[.val (.int p0), .val (.int p1), .val (.int p2), .val (.int p3), .val (.int p4), .val (.int x5), .val (.int x6), .val (.ref b16), .val (.ref b18), .val (.long (own_key p0 p1)), .second, .val (.long (own_key x5 x6)), .second, .val (.int (ob (p0 < x5 ∨ (p0 = x5 ∧ p1 < x6)))), .val (.int (ob (x5 < p0 ∨ (x5 = p0 ∧ x6 < p1))))] [])) (fun _ kt => XS.icmpNo X23.here hx rfl (hb hby at_119) rfl (teq (ob_neg fun q => c26 ((lw_lt _ _).mpr (own_key_lt.mpr q)))).2 kt) ?_
        refine Rch.of (T' := T23) (g' := (mkF m 123 #[.val (.int p0), .val (.int p1), .val (.int p2), .val (.int p3), .val (.int p4), .val (.int x5), .val (.int x6), .val (.ref b16), .val (.ref b18), .val (.long (own_key p0 p1)), .second, .val (.long (own_key x5 x6)), .second, .val (.int (ob (p0 < x5 ∨ (p0 = x5 ∧ p1 < x6)))), .val (.int (ob (x5 < p0 ∨ (x5 = p0 ∧ x6 < p1))))] [(.int (1 : Int32))])) (fun _ kt => XS.iconst X23.here hx rfl (hb hby at_122) kt) ?_
        refine Rch.of (T' := T23) (g' := (mkF m 127 #[.val (.int p0), .val (.int p1), .val (.int p2), .val (.int p3), .val (.int p4), .val (.int x5), .val (.int x6), .val (.ref b16), .val (.ref b18), .val (.long (own_key p0 p1)), .second, .val (.long (own_key x5 x6)), .second, .val (.int (ob (p0 < x5 ∨ (p0 = x5 ∧ p1 < x6)))), .val (.int (ob (x5 < p0 ∨ (x5 = p0 ∧ x6 < p1))))] [(.int (1 : Int32))])) (fun _ kt => XS.goto X23.here hx rfl (pc0 := 123) (pc' := 127) rfl (hb hby at_123) (by decide) (by decide) kt) ?_
        exact Rch.retN X23 hx (t := .boolean) hret (by simp) hlk (hb hby at_127) (fun U hU hF => hK _ U _ _ _ (by show Q_rm0 Z p0 p1 p2 p3 p4 h0 n0 _ U.heap _; rw [hU, hQ23]; exact ⟨rfl, N23, trivial⟩) hF (by decide) (by decide))
  refine Rch.of (T' := T0) (g' := (mkF m 2 #[.val (.int p0), .val (.int p1), .val (.int p2), .val (.int p3), .val (.int p4), .unset, .unset, .unset, .unset, .unset, .unset, .unset, .unset, .unset, .unset] [(.int p4)])) (fun _ kt => XS.iload X0.here hx rfl (hb hby at_0) rfl  kt) ?_
  refine Rch.of (T' := T0) (g' := (mkF m 3 #[.val (.int p0), .val (.int p1), .val (.int p2), .val (.int p3), .val (.int p4), .unset, .unset, .unset, .unset, .unset, .unset, .unset, .unset, .unset, .unset] [(.int (1 : Int32)), (.int p4)])) (fun _ kt => XS.iconst X0.here hx rfl (hb hby at_2) kt) ?_
  refine Rch.of (T' := T0) (g' := (mkF m 4 #[.val (.int p0), .val (.int p1), .val (.int p2), .val (.int p3), .val (.int p4), .unset, .unset, .unset, .unset, .unset, .unset, .unset, .unset, .unset, .unset] [(.int (p4 &&& (1 : Int32)))])) (fun _ kt => XS.iand X0.here hx rfl (hb hby at_3) rfl kt) ?_
  by_cases c27 : (p4 &&& (1 : Int32)) = (0 : Int32)
  · skip
    refine Rch.of (T' := T0) (g' := (mkF m 11 #[.val (.int p0), .val (.int p1), .val (.int p2), .val (.int p3), .val (.int p4), .unset, .unset, .unset, .unset, .unset, .unset, .unset, .unset, .unset, .unset] [])) (fun _ kt => XS.ifYes X0.here hx rfl (pc0 := 4) (pc' := 11) rfl (hb hby at_4) rfl ((if0 _ _).trans (teq c27).1) (by decide) (by decide) kt) ?_
    refine Rch.of (T' := T0) (g' := (mkF m 12 #[.val (.int p0), .val (.int p1), .val (.int p2), .val (.int p3), .val (.int p4), .unset, .unset, .unset, .unset, .unset, .unset, .unset, .unset, .unset, .unset] [(.int p2)])) (fun _ kt => XS.iloadN X0.here hx rfl (hb hby at_11) rfl  kt) ?_
    refine Rch.of (T' := T0) (g' := (mkF m 14 #[.val (.int p0), .val (.int p1), .val (.int p2), .val (.int p3), .val (.int p4), .val (.int p2), .unset, .unset, .unset, .unset, .unset, .unset, .unset, .unset, .unset] [])) (fun _ kt => XS.istore X0.here hx rfl (hb hby at_12) rfl (l' := #[.val (.int p0), .val (.int p1), .val (.int p2), .val (.int p3), .val (.int p4), .val (.int p2), .unset, .unset, .unset, .unset, .unset, .unset, .unset, .unset, .unset]) rfl kt) ?_
    refine Rch.of (T' := T0) (g' := (mkF m 16 #[.val (.int p0), .val (.int p1), .val (.int p2), .val (.int p3), .val (.int p4), .val (.int p2), .unset, .unset, .unset, .unset, .unset, .unset, .unset, .unset, .unset] [(.int p4)])) (fun _ kt => XS.iload X0.here hx rfl (hb hby at_14) rfl  kt) ?_
    refine Rch.of (T' := T0) (g' := (mkF m 17 #[.val (.int p0), .val (.int p1), .val (.int p2), .val (.int p3), .val (.int p4), .val (.int p2), .unset, .unset, .unset, .unset, .unset, .unset, .unset, .unset, .unset] [(.int (2 : Int32)), (.int p4)])) (fun _ kt => XS.iconst X0.here hx rfl (hb hby at_16) kt) ?_
    refine Rch.of (T' := T0) (g' := (mkF m 18 #[.val (.int p0), .val (.int p1), .val (.int p2), .val (.int p3), .val (.int p4), .val (.int p2), .unset, .unset, .unset, .unset, .unset, .unset, .unset, .unset, .unset] [(.int (p4 &&& (2 : Int32)))])) (fun _ kt => XS.iand X0.here hx rfl (hb hby at_17) rfl kt) ?_
    by_cases c28 : (p4 &&& (2 : Int32)) = (0 : Int32)
    · skip
      refine Rch.of (T' := T0) (g' := (mkF m 25 #[.val (.int p0), .val (.int p1), .val (.int p2), .val (.int p3), .val (.int p4), .val (.int p2), .unset, .unset, .unset, .unset, .unset, .unset, .unset, .unset, .unset] [])) (fun _ kt => XS.ifYes X0.here hx rfl (pc0 := 18) (pc' := 25) rfl (hb hby at_18) rfl ((if0 _ _).trans (teq c28).1) (by decide) (by decide) kt) ?_
      refine Rch.of (T' := T0) (g' := (mkF m 26 #[.val (.int p0), .val (.int p1), .val (.int p2), .val (.int p3), .val (.int p4), .val (.int p2), .unset, .unset, .unset, .unset, .unset, .unset, .unset, .unset, .unset] [(.int p3)])) (fun _ kt => XS.iloadN X0.here hx rfl (hb hby at_25) rfl  kt) ?_
      refine Rch.of (T' := T0) (g' := (mkF m 28 #[.val (.int p0), .val (.int p1), .val (.int p2), .val (.int p3), .val (.int p4), .val (.int p2), .val (.int p3), .unset, .unset, .unset, .unset, .unset, .unset, .unset, .unset] [])) (fun _ kt => XS.istore X0.here hx rfl (hb hby at_26) rfl (l' := #[.val (.int p0), .val (.int p1), .val (.int p2), .val (.int p3), .val (.int p4), .val (.int p2), .val (.int p3), .unset, .unset, .unset, .unset, .unset, .unset, .unset, .unset]) rfl kt) ?_
      exact J28 _ _
    · skip
      refine Rch.of (T' := T0) (g' := (mkF m 21 #[.val (.int p0), .val (.int p1), .val (.int p2), .val (.int p3), .val (.int p4), .val (.int p2), .unset, .unset, .unset, .unset, .unset, .unset, .unset, .unset, .unset] [])) (fun _ kt => XS.ifNo X0.here hx rfl (hb hby at_18) rfl ((if0 _ _).trans (feq c28).1) kt) ?_
      refine Rch.of (T' := T0) (g' := (mkF m 22 #[.val (.int p0), .val (.int p1), .val (.int p2), .val (.int p3), .val (.int p4), .val (.int p2), .unset, .unset, .unset, .unset, .unset, .unset, .unset, .unset, .unset] [(.int p1)])) (fun _ kt => XS.iloadN X0.here hx rfl (hb hby at_21) rfl  kt) ?_
      refine Rch.of (T' := T0) (g' := (mkF m 26 #[.val (.int p0), .val (.int p1), .val (.int p2), .val (.int p3), .val (.int p4), .val (.int p2), .unset, .unset, .unset, .unset, .unset, .unset, .unset, .unset, .unset] [(.int p1)])) (fun _ kt => XS.goto X0.here hx rfl (pc0 := 22) (pc' := 26) rfl (hb hby at_22) (by decide) (by decide) kt) ?_
      refine Rch.of (T' := T0) (g' := (mkF m 28 #[.val (.int p0), .val (.int p1), .val (.int p2), .val (.int p3), .val (.int p4), .val (.int p2), .val (.int p1), .unset, .unset, .unset, .unset, .unset, .unset, .unset, .unset] [])) (fun _ kt => XS.istore X0.here hx rfl (hb hby at_26) rfl (l' := #[.val (.int p0), .val (.int p1), .val (.int p2), .val (.int p3), .val (.int p4), .val (.int p2), .val (.int p1), .unset, .unset, .unset, .unset, .unset, .unset, .unset, .unset]) rfl kt) ?_
      exact J28 _ _
  · skip
    refine Rch.of (T' := T0) (g' := (mkF m 7 #[.val (.int p0), .val (.int p1), .val (.int p2), .val (.int p3), .val (.int p4), .unset, .unset, .unset, .unset, .unset, .unset, .unset, .unset, .unset, .unset] [])) (fun _ kt => XS.ifNo X0.here hx rfl (hb hby at_4) rfl ((if0 _ _).trans (feq c27).1) kt) ?_
    refine Rch.of (T' := T0) (g' := (mkF m 8 #[.val (.int p0), .val (.int p1), .val (.int p2), .val (.int p3), .val (.int p4), .unset, .unset, .unset, .unset, .unset, .unset, .unset, .unset, .unset, .unset] [(.int p0)])) (fun _ kt => XS.iloadN X0.here hx rfl (hb hby at_7) rfl  kt) ?_
    refine Rch.of (T' := T0) (g' := (mkF m 12 #[.val (.int p0), .val (.int p1), .val (.int p2), .val (.int p3), .val (.int p4), .unset, .unset, .unset, .unset, .unset, .unset, .unset, .unset, .unset, .unset] [(.int p0)])) (fun _ kt => XS.goto X0.here hx rfl (pc0 := 8) (pc' := 12) rfl (hb hby at_8) (by decide) (by decide) kt) ?_
    refine Rch.of (T' := T0) (g' := (mkF m 14 #[.val (.int p0), .val (.int p1), .val (.int p2), .val (.int p3), .val (.int p4), .val (.int p0), .unset, .unset, .unset, .unset, .unset, .unset, .unset, .unset, .unset] [])) (fun _ kt => XS.istore X0.here hx rfl (hb hby at_12) rfl (l' := #[.val (.int p0), .val (.int p1), .val (.int p2), .val (.int p3), .val (.int p4), .val (.int p0), .unset, .unset, .unset, .unset, .unset, .unset, .unset, .unset, .unset]) rfl kt) ?_
    refine Rch.of (T' := T0) (g' := (mkF m 16 #[.val (.int p0), .val (.int p1), .val (.int p2), .val (.int p3), .val (.int p4), .val (.int p0), .unset, .unset, .unset, .unset, .unset, .unset, .unset, .unset, .unset] [(.int p4)])) (fun _ kt => XS.iload X0.here hx rfl (hb hby at_14) rfl  kt) ?_
    refine Rch.of (T' := T0) (g' := (mkF m 17 #[.val (.int p0), .val (.int p1), .val (.int p2), .val (.int p3), .val (.int p4), .val (.int p0), .unset, .unset, .unset, .unset, .unset, .unset, .unset, .unset, .unset] [(.int (2 : Int32)), (.int p4)])) (fun _ kt => XS.iconst X0.here hx rfl (hb hby at_16) kt) ?_
    refine Rch.of (T' := T0) (g' := (mkF m 18 #[.val (.int p0), .val (.int p1), .val (.int p2), .val (.int p3), .val (.int p4), .val (.int p0), .unset, .unset, .unset, .unset, .unset, .unset, .unset, .unset, .unset] [(.int (p4 &&& (2 : Int32)))])) (fun _ kt => XS.iand X0.here hx rfl (hb hby at_17) rfl kt) ?_
    by_cases c29 : (p4 &&& (2 : Int32)) = (0 : Int32)
    · skip
      refine Rch.of (T' := T0) (g' := (mkF m 25 #[.val (.int p0), .val (.int p1), .val (.int p2), .val (.int p3), .val (.int p4), .val (.int p0), .unset, .unset, .unset, .unset, .unset, .unset, .unset, .unset, .unset] [])) (fun _ kt => XS.ifYes X0.here hx rfl (pc0 := 18) (pc' := 25) rfl (hb hby at_18) rfl ((if0 _ _).trans (teq c29).1) (by decide) (by decide) kt) ?_
      refine Rch.of (T' := T0) (g' := (mkF m 26 #[.val (.int p0), .val (.int p1), .val (.int p2), .val (.int p3), .val (.int p4), .val (.int p0), .unset, .unset, .unset, .unset, .unset, .unset, .unset, .unset, .unset] [(.int p3)])) (fun _ kt => XS.iloadN X0.here hx rfl (hb hby at_25) rfl  kt) ?_
      refine Rch.of (T' := T0) (g' := (mkF m 28 #[.val (.int p0), .val (.int p1), .val (.int p2), .val (.int p3), .val (.int p4), .val (.int p0), .val (.int p3), .unset, .unset, .unset, .unset, .unset, .unset, .unset, .unset] [])) (fun _ kt => XS.istore X0.here hx rfl (hb hby at_26) rfl (l' := #[.val (.int p0), .val (.int p1), .val (.int p2), .val (.int p3), .val (.int p4), .val (.int p0), .val (.int p3), .unset, .unset, .unset, .unset, .unset, .unset, .unset, .unset]) rfl kt) ?_
      exact J28 _ _
    · skip
      refine Rch.of (T' := T0) (g' := (mkF m 21 #[.val (.int p0), .val (.int p1), .val (.int p2), .val (.int p3), .val (.int p4), .val (.int p0), .unset, .unset, .unset, .unset, .unset, .unset, .unset, .unset, .unset] [])) (fun _ kt => XS.ifNo X0.here hx rfl (hb hby at_18) rfl ((if0 _ _).trans (feq c29).1) kt) ?_
      refine Rch.of (T' := T0) (g' := (mkF m 22 #[.val (.int p0), .val (.int p1), .val (.int p2), .val (.int p3), .val (.int p4), .val (.int p0), .unset, .unset, .unset, .unset, .unset, .unset, .unset, .unset, .unset] [(.int p1)])) (fun _ kt => XS.iloadN X0.here hx rfl (hb hby at_21) rfl  kt) ?_
      refine Rch.of (T' := T0) (g' := (mkF m 26 #[.val (.int p0), .val (.int p1), .val (.int p2), .val (.int p3), .val (.int p4), .val (.int p0), .unset, .unset, .unset, .unset, .unset, .unset, .unset, .unset, .unset] [(.int p1)])) (fun _ kt => XS.goto X0.here hx rfl (pc0 := 22) (pc' := 26) rfl (hb hby at_22) (by decide) (by decide) kt) ?_
      refine Rch.of (T' := T0) (g' := (mkF m 28 #[.val (.int p0), .val (.int p1), .val (.int p2), .val (.int p3), .val (.int p4), .val (.int p0), .val (.int p1), .unset, .unset, .unset, .unset, .unset, .unset, .unset, .unset] [])) (fun _ kt => XS.istore X0.here hx rfl (hb hby at_26) rfl (l' := #[.val (.int p0), .val (.int p1), .val (.int p2), .val (.int p3), .val (.int p4), .val (.int p0), .val (.int p1), .unset, .unset, .unset, .unset, .unset, .unset, .unset, .unset]) rfl kt) ?_
      exact J28 _ _
set_option maxRecDepth 65536 in
set_option maxHeartbeats 40000000 in
theorem comes_1 {Post : Tables → Env → Array Value → State → Outcome → State → Prop} (hpost : ∀ tb e args s v u, (limb_1_1.after args s (.returned v) u = true ∧ limb_1_2.after args s (.returned v) u = true ∧ True) → FrameEnd s (.returned v) u (Jvm.fieldLocs frame_1_writes args s ++ Jvm.arrayLocs frame_1_arrays args s ++ Jvm.staticLocs frame_1_statics s) 16 128 → Post tb e args s (.returned v) u) :
    ArmFor flags0 classFile x code maxLocals ret World_1 tables_1 room_1 Calls_1 rest_1 Pre_1 Post := by
  intro l hfl _ _ p e ha hc hk s m args below hf hA hF happ hP
  obtain ⟨hcalls, hrest, hpre⟩ := hP
  obtain ⟨-, -, -, hnamed, -, -, -, hat⟩ := (Spec.applies_iff hf).mp happ
  obtain ⟨hg, hn⟩ := and_e (Cond.before_iff.mp (show (Jvm.Cond.and given_1 narrow_1).before args s = true from hpre))
  obtain ⟨g0, hg0⟩ := and_e hg
  obtain ⟨ga0, hg1⟩ := and_e hg0
  obtain ⟨ga1, hg2⟩ := and_e hg1
  obtain ⟨ga2, hg3⟩ := and_e hg2
  obtain ⟨ga3, hg4⟩ := and_e hg3
  obtain ⟨w0, w1, w2, w3, w4, rfl⟩ : ∃ w0 w1 w2 w3 w4 : Value, args = #[w0, w1, w2, w3, w4] := by
    have hs : args.size = 5 := by simpa [Cond.value, given_1] using g0
    obtain ⟨L⟩ := args
    match L, hs with
    | [w0, w1, w2, w3, w4], _ => exact ⟨w0, w1, w2, w3, w4, rfl⟩
  have hw := fun d (hd : d ∈ tables_1) => atoms_spec (ws := Jvm.Cond.code x code maxLocals ret :: tables_1) hat d (List.mem_cons_of_mem _ hd)
  obtain ⟨i0, ei0⟩ := is_v ga0
  obtain rfl : w0 = (.int i0) := Option.some.inj ei0
  obtain ⟨i1, ei1⟩ := is_v ga1
  obtain rfl : w1 = (.int i1) := Option.some.inj ei1
  obtain ⟨i2, ei2⟩ := is_v ga2
  obtain rfl : w2 = (.int i2) := Option.some.inj ei2
  obtain ⟨i3, ei3⟩ := is_v ga3
  obtain rfl : w3 = (.int i3) := Option.some.inj ei3
  obtain ⟨i4, ei4⟩ := is_v hg4
  obtain rfl : w4 = (.int i4) := Option.some.inj ei4
  have hfit : Fit s := fun {y c} hc i hi => by
    obtain ⟨ha, rfl⟩ := Array.getElem?_eq_some_iff.mp hc
    have q := List.all_eq_true.mp ((Array.all_eq_true_iff_forall_mem.mp hF) _ (Array.getElem_mem ha)) i (List.mem_range.mpr hi)
    simpa [Array.getElem?_eq_getElem hi] using q
  obtain ⟨n, o, h1, h2, h3, _, L, rfl, ⟨rfl, N, -⟩, hq⟩ := rm0 l s _ hw tables_1 i0 i1 i2 i3 i4  s.heap s.heap.size (Nat.le_refl _)  p e ha hc hk s m _ below hf ((Spec.applies_iff_loose hf).mp happ).1 ⟨rfl, State.Warmed39.refl s, rfl⟩ trivial
  refine ⟨n, _, h1, h2, h3, hpost _ _ _ _ _ _ ⟨Cond.after_iff.mpr rfl, Cond.after_iff.mpr (eq_i res_at (Term.int_eval (1)) rfl), trivial⟩ ⟨hq.1, hq.2.1, (hq.2.2.sift fun y hy => Or.inr (N y hy)).mono (by decide) (by decide)⟩⟩
theorem main_1_1 : Claimed_1_1 := comes_1 fun _ _ _ _ _ _ h hF => ⟨h.1, hF⟩
theorem main_1_2 : Claimed_1_2 := comes_1 fun _ _ _ _ _ _ h hF => ⟨h.2.1, hF⟩
end Jvm.Pilot.@@N@@
namespace Jvm.Pilot.@@N@@
open Jvm Jvm.ClassFile Sem Op Lib Jvm.Free Jvm.Stand Jvm.Pilot.@@N@@.Jvm.D
/-! MADE BY PROGRAM (witnessworld.py) out of the Statement's table words and the real class files: 10 classes; the members and pool entries that the words name. The judged class is class 1, her method 2. -/
namespace start1
open Jvm.ClassFile
def u (s : String) : CpInfo := .utf8 (stringToUtf16 s)
/-- a pool by its gaps: so many unusable entries, then the entry; so many at the end -/
def gap : Nat → List CpInfo → List CpInfo
  | 0, r => r
  | n + 1, r => .unusable :: gap n r
def poolList (es : List (Nat × CpInfo)) (last : Nat) : List CpInfo := es.foldr (fun e r => gap e.1 (e.2 :: r)) (gap last [])
def pool (es : List (Nat × CpInfo)) (last : Nat) : Array CpInfo := ⟨poolList es last⟩
def fileOf (pool : Array CpInfo) (this : Nat) (attrs : Array Attribute := #[]) (ms : Array MethodInfo := #[]) (fl : Nat := 33) (sup : Nat := 0) (ifs : Array Nat := #[]) (fds : Array FieldInfo := #[]) : ClassFile where
  minorVersion := 0
  majorVersion := 65
  constantPool := pool
  accessFlags := fl
  thisClass := this
  superClass := sup
  interfaces := ifs
  fields := fds
  methods := ms
  attributes := attrs
def plain (name : String) (sup : Option ClassId) : Class where
  name := name
  kind := .ordinary
  loader := none
  accessFlags := 33
  super := sup
  interfaces := #[]
  cf := none
  fields := #[]
  methods := #[]
  instanceTypes := #[]
  staticTypes := #[]
  resolved := #[]
  callSites := []
  init := .initialized
  statics := none
  mirror := none

def pool0 : Array CpInfo := pool [(5, u "<init>"), (0, u "()V"), (1, .class_ 10), (1, u "java/lang/Object")] 113

def k0c0 : Code := { maxStack := 0, maxLocals := 1, code := object_method_1_code, exceptionTable := #[], attributes := #[] }
def k0m0 : Method := { name := "<init>", desc := "()V", sig := { parameters := [], returnType := none }, accessFlags := 1, code := some k0c0 }
/-- java/lang/Object -/
def k0 : Class := { plain "java/lang/Object" none with
  accessFlags := 33
  interfaces := #[]
  cf := some (fileOf pool0 8 #[] #[{ accessFlags := 1, nameIndex := 5, descriptorIndex := 6, attributes := #[] }] 33 0 #[] #[])
  fields := #[]
  methods := #[k0m0]
  instanceTypes := #[]
  staticTypes := #[]
  resolved := Array.replicate 124 none
  statics := none }

def pool1 : Array CpInfo := pool [(2, .class_ 4), (1, u "java/lang/Object"), (0, u "<init>"), (0, u "()V"), (2, .long 18446744071562067968), (1, .class_ 12), (0, u "com/example/isidore/isidore/Place"), (0, .methodref 11 14), (0, .nameAndType 5 15), (0, u "(II)V"), (0, .methodref 17 18), (0, .class_ 19), (0, .nameAndType 20 21), (0, u "com/example/isidore/isidore/PlaceIsBeforePinLaw"), (0, u "key"), (0, u "(II)J"), (0, .methodref 11 23), (0, .nameAndType 24 25), (0, u "isBefore"), (0, u "(Lcom/example/isidore/isidore/Place;)Z"), (2, u "law"), (0, u "(IIIII)Z")] 3

def k1m0 : Method := { name := "<init>", desc := "()V", sig := { parameters := [], returnType := none }, accessFlags := 1, code := none }
def k1c1 : Code := { maxStack := 6, maxLocals := 2, code := method_2_code, exceptionTable := #[], attributes := #[] }
def k1m1 : Method := { name := "key", desc := "(II)J", sig := { parameters := [.int, .int], returnType := some .long }, accessFlags := 10, code := some k1c1 }
def k1c2 : Code := { maxStack := 5, maxLocals := 15, code := code, exceptionTable := #[], attributes := #[] }
def k1m2 : Method := { name := "law", desc := "(IIIII)Z", sig := { parameters := [.int, .int, .int, .int, .int], returnType := some .boolean }, accessFlags := 9, code := some k1c2 }
/-- com/example/isidore/isidore/PlaceIsBeforePinLaw -/
def k1 : Class := { plain "com/example/isidore/isidore/PlaceIsBeforePinLaw" (some 0) with
  accessFlags := 49
  interfaces := #[]
  cf := some (fileOf pool1 17 #[] #[{ accessFlags := 1, nameIndex := 5, descriptorIndex := 6, attributes := #[] }, { accessFlags := 10, nameIndex := 20, descriptorIndex := 21, attributes := #[] }, { accessFlags := 9, nameIndex := 28, descriptorIndex := 29, attributes := #[] }] 49 2 #[] #[])
  fields := #[]
  methods := #[k1m0, k1m1, k1m2]
  instanceTypes := #[]
  staticTypes := #[]
  resolved := Array.replicate 33 none
  statics := none }

def pool2 : Array CpInfo := pool [(1, .methodref 2 3), (0, .class_ 4), (0, .nameAndType 5 6), (0, u "java/lang/Object"), (0, u "<init>"), (0, u "()V"), (0, .class_ 8), (0, u "java/lang/Record")] 13

def k2c0 : Code := { maxStack := 1, maxLocals := 1, code := jdk_30_method_1_code, exceptionTable := #[], attributes := #[] }
def k2m0 : Method := { name := "<init>", desc := "()V", sig := { parameters := [], returnType := none }, accessFlags := 4, code := some k2c0 }
/-- java/lang/Record -/
def k2 : Class := { plain "java/lang/Record" (some 0) with
  accessFlags := 1057
  interfaces := #[]
  cf := some (fileOf pool2 7 #[] #[{ accessFlags := 4, nameIndex := 5, descriptorIndex := 6, attributes := #[] }] 1057 2 #[] #[])
  fields := #[]
  methods := #[k2m0]
  instanceTypes := #[]
  staticTypes := #[]
  resolved := Array.replicate 22 none
  statics := none }

def pool3 : Array CpInfo := pool [(1, .methodref 2 3), (0, .class_ 4), (0, .nameAndType 5 6), (0, u "java/lang/Record"), (0, u "<init>"), (0, u "()V"), (0, .fieldref 8 9), (0, .class_ 10), (0, .nameAndType 11 12), (0, u "com/example/isidore/isidore/Place"), (0, u "line"), (0, u "I"), (0, .fieldref 8 14), (0, .nameAndType 15 12), (0, u "column"), (12, u "(II)V"), (3, u "isBefore"), (0, u "(Lcom/example/isidore/isidore/Place;)Z")] 25

def k3c0 : Code := { maxStack := 2, maxLocals := 3, code := prog_18_method_1_code, exceptionTable := #[], attributes := #[] }
def k3m0 : Method := { name := "<init>", desc := "(II)V", sig := { parameters := [.int, .int], returnType := none }, accessFlags := 1, code := some k3c0 }
def k3c1 : Code := { maxStack := 2, maxLocals := 2, code := prog_18_method_2_code, exceptionTable := #[], attributes := #[] }
def k3m1 : Method := { name := "isBefore", desc := "(Lcom/example/isidore/isidore/Place;)Z", sig := { parameters := [(.object "com/example/isidore/isidore/Place")], returnType := some .boolean }, accessFlags := 1, code := some k3c1 }
/-- com/example/isidore/isidore/Place -/
def k3 : Class := { plain "com/example/isidore/isidore/Place" (some 2) with
  accessFlags := 49
  interfaces := #[]
  cf := some (fileOf pool3 8 #[] #[{ accessFlags := 1, nameIndex := 5, descriptorIndex := 28, attributes := #[] }, { accessFlags := 1, nameIndex := 32, descriptorIndex := 33, attributes := #[] }] 49 2 #[] #[{ accessFlags := 18, nameIndex := 11, descriptorIndex := 12, attributes := #[] }, { accessFlags := 18, nameIndex := 15, descriptorIndex := 12, attributes := #[] }])
  fields := #[{ name := "line", type := .int, accessFlags := 18, slot := 0, constantValue := 0 }, { name := "column", type := .int, accessFlags := 18, slot := 1, constantValue := 0 }]
  methods := #[k3m0, k3m1]
  instanceTypes := #[.int, .int]
  staticTypes := #[]
  resolved := Array.replicate 59 none
  statics := none }

def pool4 : Array CpInfo := pool [(1, u "java/lang/Cloneable"), (0, .class_ 1), (0, u "java/lang/Object"), (0, .class_ 3)] 3

/-- java/lang/Cloneable -/
def k4 : Class := { plain "java/lang/Cloneable" (some 0) with
  accessFlags := 1537
  interfaces := #[]
  cf := some (fileOf pool4 2 #[] #[] 1537 4 #[] #[])
  fields := #[]
  methods := #[]
  instanceTypes := #[]
  staticTypes := #[]
  resolved := Array.replicate 8 none
  statics := none }

def pool5 : Array CpInfo := pool [(1, u "java/io/Serializable"), (0, .class_ 1), (0, u "java/lang/Object"), (0, .class_ 3)] 3

/-- java/io/Serializable -/
def k5 : Class := { plain "java/io/Serializable" (some 0) with
  accessFlags := 1537
  interfaces := #[]
  cf := some (fileOf pool5 2 #[] #[] 1537 4 #[] #[])
  fields := #[]
  methods := #[]
  instanceTypes := #[]
  staticTypes := #[]
  resolved := Array.replicate 8 none
  statics := none }

/-- the primitive byte -/
def k6 : Class := { plain "byte" none with kind := .primitive 'B', accessFlags := 0x411 }
/-- [B -/
def k7 : Class := { plain "[B" (some 0) with kind := .array 6 .byte, interfaces := #[4, 5], accessFlags := 1041 }

/-- the primitive int -/
def k8 : Class := { plain "int" none with kind := .primitive 'I', accessFlags := 0x411 }
/-- [I -/
def k9 : Class := { plain "[I" (some 0) with kind := .array 8 .int, interfaces := #[4, 5], accessFlags := 1041 }

def heap : Heap := #[]
def classes : Array Class := #[k0, k1, k2, k3, k4, k5, k6, k7, k8, k9]
def interned : List (Array UInt16 × Addr) := []
def slotsUsed : Nat := 0
def theMethod : MethodId := ⟨1, 2⟩
def args0 : Array Value := #[.int 5, .int 6, .int 7, .int 8, .int 3]
def aboutOver (below : List Frame) : State where
  vm := { classes := classes, interned := interned.toArray }
  heap := heap
  slotsUsed := slotsUsed
  threads := #[{ frames := .invoking theMethod args0 :: below }]
def below0 : List Frame := [.native { method := ⟨0, 0⟩, args := #[] }]
def about1 : State := aboutOver below0
def p0 : Program := .bare "" "" ""
def e0 : Env := launch0.env 0 0 0
theorem w_frames : about1.frames = Frame.invoking theMethod args0 :: below0 := rfl
set_option maxRecDepth 65536 in
theorem w_args : argsFit about1.vm theMethod args0 = true := by decide +kernel
set_option maxRecDepth 65536 in
theorem w_heap : heapFits about1 = true := by decide +kernel
set_option maxRecDepth 65536 in
theorem w_runnable : about1.curStatus? = some .runnable := by decide +kernel
set_option maxRecDepth 65536 in
theorem w_alone : about1.alone = true := by decide +kernel
set_option maxRecDepth 65536 in
theorem w_named : about1.methodNamed? x = some theMethod := by decide +kernel
set_option maxRecDepth 65536 in
theorem w_hears : about1.hears theMethod below0 = true := by decide +kernel
set_option maxRecDepth 65536 in
theorem w_ripe : about1.ripe theMethod args0 below0 = true := by decide +kernel
theorem w_running : about1.status = .running := rfl
set_option maxRecDepth 65536 in
theorem w_room : about1.hasRoom e0.platform room_1 = true :=
  launch0.hasRoom_least _ room_1 (by decide +kernel) (by decide +kernel) (by decide +kernel) (by decide +kernel) (by decide +kernel) (by decide +kernel)
theorem allAtoms_all (ts : List Jvm.Cond) (a : Array Jvm.Value) (st : Jvm.State) : (allAtoms ts).before a st = ts.all (fun c => c.before a st) := by
  induction ts with
  | nil => rfl
  | cons c t ih =>
    show (Jvm.Cond.and c (allAtoms t)).before a st = _
    rw [Jvm.Cond.before_and, ih, List.all_cons]
def words1 : List Jvm.Cond := Jvm.Cond.code x code maxLocals ret :: tables_1
/-- a 'code' word, met by the world's own term for the bytes: nothing is compared byte by byte -/
theorem code_word {y : MethodName} {bytes : ByteArray} {mx : Nat} {rt : Option FieldType} {a : Array Value} {s : State} {m : MethodId} {meth : Method} {c : Code} (h1 : s.methodNamed? y = some m) (h2 : s.vm.method? m = some meth) (h3 : meth.code = some c) (h4 : c.code = bytes)
    (h5 : (c.maxLocals == mx && c.exceptionTable.isEmpty && decide (c.maxStack ≤ mostOperands) && decide (meth.sig.returnType = rt) && !meth.locks && decide (parseMethodDescriptor y.desc = some meth.sig)) = true) : (Jvm.Cond.code y bytes mx rt).before a s = true := by
  simp only [Bool.and_eq_true, beq_iff_eq, Bool.not_eq_true', decide_eq_true_eq] at h5
  obtain ⟨⟨⟨⟨⟨g1, g2⟩, g3⟩, g4⟩, g5⟩, g6⟩ := h5
  simp [Cond.before, Cond.holds, Cond.value, h1, h2, h3, h4, g1, g2, g3, g4, g5, g6]
def isCode : Jvm.Cond → Bool
  | .code _ _ _ _ => true
  | _ => false
theorem all_split {L : List Jvm.Cond} {P : Jvm.Cond → Bool} (h1 : L.all (fun c => isCode c || P c) = true) (h2 : ∀ c ∈ L.filter isCode, P c = true) : L.all P = true := by
  refine List.all_eq_true.mpr fun c hc => ?_
  have h := List.all_eq_true.mp h1 c hc
  rcases Bool.eq_false_or_eq_true (isCode c) with hi | hi
  · exact h2 c (List.mem_filter.mpr ⟨hc, hi⟩)
  · simpa [hi] using h
set_option maxRecDepth 65536 in
theorem w_c0 : (Jvm.Cond.code x code maxLocals ret).before args0 about1 = true := code_word (m := ⟨1, 2⟩) (meth := k1m2) (c := k1c2) (by decide +kernel) rfl rfl rfl (by decide +kernel)
set_option maxRecDepth 65536 in
theorem w_c1 : (Jvm.Cond.code ({ cls := "com/example/isidore/isidore/Place", name := "<init>", desc := "(II)V" } : Jvm.MethodName) prog_18_method_1_code (3 : Nat) (Option.none : Option Jvm.ClassFile.FieldType)).before args0 about1 = true := code_word (m := ⟨3, 0⟩) (meth := k3m0) (c := k3c0) (by decide +kernel) rfl rfl rfl (by decide +kernel)
set_option maxRecDepth 65536 in
theorem w_c2 : (Jvm.Cond.code ({ cls := "java/lang/Record", name := "<init>", desc := "()V" } : Jvm.MethodName) jdk_30_method_1_code (1 : Nat) (Option.none : Option Jvm.ClassFile.FieldType)).before args0 about1 = true := code_word (m := ⟨2, 0⟩) (meth := k2m0) (c := k2c0) (by decide +kernel) rfl rfl rfl (by decide +kernel)
set_option maxRecDepth 65536 in
theorem w_c3 : (Jvm.Cond.code ({ cls := "java/lang/Object", name := "<init>", desc := "()V" } : Jvm.MethodName) object_method_1_code (1 : Nat) (Option.none : Option Jvm.ClassFile.FieldType)).before args0 about1 = true := code_word (m := ⟨0, 0⟩) (meth := k0m0) (c := k0c0) (by decide +kernel) rfl rfl rfl (by decide +kernel)
set_option maxRecDepth 65536 in
theorem w_c4 : (Jvm.Cond.code ({ cls := "com/example/isidore/isidore/PlaceIsBeforePinLaw", name := "key", desc := "(II)J" } : Jvm.MethodName) method_2_code (2 : Nat) (Option.some Jvm.ClassFile.FieldType.long)).before args0 about1 = true := code_word (m := ⟨1, 1⟩) (meth := k1m1) (c := k1c1) (by decide +kernel) rfl rfl rfl (by decide +kernel)
set_option maxRecDepth 65536 in
theorem w_c5 : (Jvm.Cond.code ({ cls := "com/example/isidore/isidore/Place", name := "isBefore", desc := "(Lcom/example/isidore/isidore/Place;)Z" } : Jvm.MethodName) prog_18_method_2_code (2 : Nat) (Option.some Jvm.ClassFile.FieldType.boolean)).before args0 about1 = true := code_word (m := ⟨3, 1⟩) (meth := k3m1) (c := k3c1) (by decide +kernel) rfl rfl rfl (by decide +kernel)
def codes1 : List Jvm.Cond := [Jvm.Cond.code x code maxLocals ret, Jvm.Cond.code ({ cls := "com/example/isidore/isidore/Place", name := "<init>", desc := "(II)V" } : Jvm.MethodName) prog_18_method_1_code (3 : Nat) (Option.none : Option Jvm.ClassFile.FieldType), Jvm.Cond.code ({ cls := "java/lang/Record", name := "<init>", desc := "()V" } : Jvm.MethodName) jdk_30_method_1_code (1 : Nat) (Option.none : Option Jvm.ClassFile.FieldType), Jvm.Cond.code ({ cls := "java/lang/Object", name := "<init>", desc := "()V" } : Jvm.MethodName) object_method_1_code (1 : Nat) (Option.none : Option Jvm.ClassFile.FieldType), Jvm.Cond.code ({ cls := "com/example/isidore/isidore/PlaceIsBeforePinLaw", name := "key", desc := "(II)J" } : Jvm.MethodName) method_2_code (2 : Nat) (Option.some Jvm.ClassFile.FieldType.long), Jvm.Cond.code ({ cls := "com/example/isidore/isidore/Place", name := "isBefore", desc := "(Lcom/example/isidore/isidore/Place;)Z" } : Jvm.MethodName) prog_18_method_2_code (2 : Nat) (Option.some Jvm.ClassFile.FieldType.boolean)]
set_option maxRecDepth 65536 in
theorem codes_eq : words1.filter isCode = codes1 := rfl
theorem w_codes : ∀ c ∈ words1.filter isCode, c.before args0 about1 = true := by
  rw [codes_eq]
  intro c hc
  simp only [codes1, List.mem_cons, List.not_mem_nil, or_false] at hc
  rcases hc with rfl | rfl | rfl | rfl | rfl | rfl
  · exact w_c0
  · exact w_c1
  · exact w_c2
  · exact w_c3
  · exact w_c4
  · exact w_c5
set_option maxRecDepth 65536 in
theorem w_t1 : (words1.take 24).all (fun c => isCode c || c.before args0 about1) = true := by decide +kernel
set_option maxRecDepth 65536 in
theorem w_t2 : (words1.drop 24).all (fun c => isCode c || c.before args0 about1) = true := by decide +kernel
theorem w_tables : (allAtoms (Jvm.Cond.code x code maxLocals ret :: tables_1)).before args0 about1 = true := by
  rw [allAtoms_all]
  show words1.all (fun c => c.before args0 about1) = true
  refine all_split ?_ w_codes
  rw [← List.take_append_drop 24 words1, List.all_append, w_t1, w_t2]
  rfl
set_option maxRecDepth 65536 in
theorem w_case : (Jvm.Cond.and given_1 narrow_1).before args0 about1 = true := by decide +kernel
theorem w_applies : (headSpec (Jvm.Cond.code x code maxLocals ret :: tables_1) room_1).applies x e0.platform about1 = true :=
  (Spec.applies_iff w_frames).mpr ⟨w_running, w_runnable, w_alone, w_named, w_hears, w_ripe, w_room, w_tables⟩
theorem atStart : AtStart classFile x code maxLocals ret World_1 tables_1 room_1 Calls_1 rest_1 Pre_1 launch0 p0 e0 about1 theMethod args0 below0 :=
  ⟨lists_1, trivial, launch0.admits_env _ _ _, launch0.least_env, fairChoices_fair.cas, fairChoices_fair.clock, w_frames, w_args, w_heap, w_applies, trivial, trivial, w_case⟩
end start1
theorem witness_1 : WitnessClaimed_1 := ⟨start1.p0, start1.e0, start1.about1, start1.theMethod, start1.args0, start1.below0, start1.atStart⟩
end Jvm.Pilot.@@N@@
