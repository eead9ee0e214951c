import JvmDerived
import JvmDerived.Pilot.@@N@@Statement
import JvmDerived.Pilot.@@N@@Code
set_option linter.unusedVariables false
set_option linter.unusedSimpArgs false
namespace Jvm.RoadKit
open Sem ClassFile Op Lib Jvm.Stand Jvm.Free Jvm.LawKit
section New
variable {p : Program} {l : Launch} {e : Env} {R : Room} {s : State} {m : MethodId} {args : Array Value} {below : List Frame} {meth : Method} {c : Code} {T : State} {locs : List Loc} {cells slots : Nat} {K : Outcome → State → Prop}
theorem retI (X : Stand p l e R s m args below meth c T locs cells slots) (hx : p.tables.exec = Jvm.exec) {pc : Nat} {Ls : Array Slot} {z : Int32} {rest : List Value} (hret : meth.sig.returnType = some .int) (hd : decode c.code pc = .ok (.ireturn, 1)) {fs : List Frame}
    (hl : ∀ (f : JFrame) (acts : List Action), f.method = m → f.locked = none → f.entered = [] → (doReturn e (T.setTop f) acts (some (.int z))).1 = T.setFrames fs) : Steps p.tables e below (T.setTop (mkF m pc Ls (.int z :: rest))) (T.setFrames fs) := by
  have hm' : T.vm.method? m = some meth := X.method'
  have hn : narrow .int (.int z) = .int z := rfl
  show Steps p.tables e below (T.setTop { method := m, pc := pc, locals := Ls, stack := _ :: rest, locked := none }) _
  jvm_step X.here [X.here.top, hx, hd, hm', hret, hn]
  first | (intro acts; rw [hl _ acts rfl rfl rfl]) | rw [hl _ _ rfl rfl rfl]
  exact Steps.refl _
/-- from here the run comes to an end that K holds of -/
def Rch (p : Program) (e : Env) (below : List Frame) (K : Outcome → State → Prop) (T : State) (g : JFrame) : Prop := ∃ s₂ o, Steps p.tables e below (T.setTop g) s₂ ∧ s₂.status = .running ∧ Ended s₂ below o ∧ K o s₂
theorem Rch.of {T T' : State} {g g' : JFrame} (h : ∀ t, Steps p.tables e below (T'.setTop g') t → Steps p.tables e below (T.setTop g) t) (k : Rch p e below K T' g') : Rch p e below K T g := by
  obtain ⟨s₂, o, h1, h2⟩ := k
  exact ⟨s₂, o, h _ h1, h2⟩
theorem Rch.via {T T' : State} {g g' : JFrame} (h : Steps p.tables e below (T.setTop g) (T'.setTop g')) (k : Rch p e below K T' g') : Rch p e below K T g := Rch.of (fun _ kt => h.trans kt) k
theorem Rch.cast {T : State} {g g' : JFrame} (q : g = g') (k : Rch p e below K T g') : Rch p e below K T g := q ▸ k
theorem Rch.retN (X : Stand p l e R s m args below meth c T locs cells slots) (hx : p.tables.exec = Jvm.exec) {pc : Nat} {Ls : Array Slot} {z : Int32} {t : FieldType} {rest : List Value} (hret : meth.sig.returnType = some t) (ht : t = .boolean ∨ t = .byte ∨ t = .char ∨ t = .short) (hlk : meth.locks = false) (hd : decode c.code pc = .ok (.ireturn, 1))
    (k : ∀ U : State, U.heap = T.heap → FrameEnd s (.returned (some (.int (nar t z)))) U locs cells slots → K (.returned (some (.int (nar t z)))) U) : Rch p e below K T (mkF m pc Ls (.int z :: rest)) := by
  obtain ⟨fs, hr, hrun, hended, hW, hsame⟩ := X.leave (v := some (.int (nar t z))) (fun h => by rw [hret] at h; cases h) hlk
  exact ⟨_, _, Jvm.RoadKit.retN X hx hret ht hd hr, hrun, hended, k _ rfl ⟨⟨_, rfl⟩, hW, hsame⟩⟩
theorem Rch.retI (X : Stand p l e R s m args below meth c T locs cells slots) (hx : p.tables.exec = Jvm.exec) {pc : Nat} {Ls : Array Slot} {z : Int32} {rest : List Value} (hret : meth.sig.returnType = some .int) (hlk : meth.locks = false) (hd : decode c.code pc = .ok (.ireturn, 1))
    (k : ∀ U : State, U.heap = T.heap → FrameEnd s (.returned (some (.int z))) U locs cells slots → K (.returned (some (.int z))) U) : Rch p e below K T (mkF m pc Ls (.int z :: rest)) := by
  obtain ⟨fs, hr, hrun, hended, hW, hsame⟩ := X.leave (v := some (.int z)) (fun h => by rw [hret] at h; cases h) hlk
  exact ⟨_, _, Jvm.RoadKit.retI X hx hret hd hr, hrun, hended, k _ rfl ⟨⟨_, rfl⟩, hW, hsame⟩⟩
theorem Rch.retJ (X : Stand p l e R s m args below meth c T locs cells slots) (hx : p.tables.exec = Jvm.exec) {pc : Nat} {Ls : Array Slot} {z : Int64} {rest : List Value} (hret : meth.sig.returnType = some .long) (hlk : meth.locks = false) (hd : decode c.code pc = .ok (.lreturn, 1))
    (k : ∀ U : State, U.heap = T.heap → FrameEnd s (.returned (some (.long z))) U locs cells slots → K (.returned (some (.long z))) U) : Rch p e below K T (mkF m pc Ls (.long z :: rest)) := by
  obtain ⟨fs, hr, hrun, hended, hW, hsame⟩ := X.leave (v := some (.long z)) (fun h => by rw [hret] at h; cases h) hlk
  exact ⟨_, _, retOut X hx hret rfl (Or.inr (Or.inl ⟨rfl, rfl, z, rfl⟩)) hd hr, hrun, hended, k _ rfl ⟨⟨_, rfl⟩, hW, hsame⟩⟩
theorem Rch.retA (X : Stand p l e R s m args below meth c T locs cells slots) (hx : p.tables.exec = Jvm.exec) {pc : Nat} {Ls : Array Slot} {w : Value} {t : FieldType} {rest : List Value} (hret : meth.sig.returnType = some t) (ht : t.isReference = true) (hw : w.isRef = true) (hlk : meth.locks = false) (hd : decode c.code pc = .ok (.areturn, 1))
    (k : ∀ U : State, U.heap = T.heap → FrameEnd s (.returned (some w)) U locs cells slots → K (.returned (some w)) U) : Rch p e below K T (mkF m pc Ls (w :: rest)) := by
  obtain ⟨fs, hr, hrun, hended, hW, hsame⟩ := X.leave (v := some w) (fun h => by rw [hret] at h; cases h) hlk
  have hn : narrow t w = w := by
    rcases ref_cases hw with rfl | ⟨a, rfl⟩ <;> cases t <;> first | rfl | (simp [FieldType.isReference] at ht)
  exact ⟨_, _, retOut X hx hret hn (Or.inr (Or.inr (Or.inr (Or.inr ⟨rfl, ht, hw⟩)))) hd hr, hrun, hended, k _ rfl ⟨⟨_, rfl⟩, hW, hsame⟩⟩
theorem Rch.retV (X : Stand p l e R s m args below meth c T locs cells slots) (hx : p.tables.exec = Jvm.exec) {pc : Nat} {Ls : Array Slot} (hret : meth.sig.returnType = none) (hlk : meth.locks = false) (hd : decode c.code pc = .ok (.return_, 1))
    (k : ∀ U : State, U.heap = T.heap → FrameEnd s (.returned none) U locs cells slots → K (.returned none) U) : Rch p e below K T (mkF m pc Ls []) := by
  obtain ⟨fs, hr, hrun, hended, hW, hsame⟩ := X.leave (v := none) (fun _ => rfl) hlk
  exact ⟨_, _, X.returnOut hx hret hd hr, hrun, hended, k _ rfl ⟨⟨_, rfl⟩, hW, hsame⟩⟩
theorem own_met {y : MethodName} {bytes : ByteArray} {maxL : Nat} {ret : Option FieldType} {ws : List Cond} {rm : Room} {as' : Array Value} {Z : State} {h0 : Heap} {Q : Option Value → Heap → List Loc → Prop} {ck sk : Nat} (hn : plainFor y = true)
    (body : ∀ (p : Program) (e : Env) (s : State) (m : MethodId) (below : List Frame) (meth : Method) (c : Code) (T : State) (K : Outcome → State → Prop), p.tables.exec = Jvm.exec → c.code = bytes → c.maxLocals = maxL → meth.sig.returnType = ret → meth.locks = false → s.vm.findClass y.cls = some m.cls → meth.name = y.name → Z.Warmed39 s.vm → Stand p l e rm s m as' below meth c T [] 0 0 → T.heap = h0 →
      (∀ (v : Option Value) (U : State) (L : List Loc) (k n : Nat), Q v U.heap L → FrameEnd s (.returned v) U L k n → k ≤ ck → n ≤ sk → K (.returned v) U) → Rch p e below K T (entryFrame m as' maxL)) :
    MetFree l y (head1 (Cond.code y bytes maxL ret :: ws) rm) (fun a U => a = as' ∧ Z.Warmed39 U.vm ∧ U.heap = h0) (fun _ _ _ _ _ => True) (fun _ U o U' => ∃ v L, o = .returned v ∧ Q v U'.heap L ∧ FrameEnd U o U' L ck sk) := by
  refine MetFree.of_bodySF hn hisR ?_
  intro p e s m args below meth c s₁ Bd hml0 hP hK
  obtain ⟨rfl, hZ, hh⟩ := hP
  show Rch p e below (fun o U' => ∃ v L, o = .returned v ∧ Q v U'.heap L ∧ FrameEnd s o U' L ck sk) s₁ (entryFrame m args maxL)
  refine body p e s m below meth c s₁ _ Bd.exec Bd.bytes hml0 Bd.returns Bd.notSynchronized (findClass_of_methodNamed Bd.named) (name_of_methodNamed Bd.named Bd.method).1 hZ (Stand.of_body Bd) (by rw [← hh, Bd.state]; rfl) ?_
  intro v U L k n hQ hF hk hs
  exact ⟨v, L, rfl, hQ, hF.1, hF.2.1, hF.2.2.mono hk hs⟩
theorem own_metS {y : MethodName} {bytes : ByteArray} {maxL : Nat} {ret : Option FieldType} {ws : List Cond} {rm : Room} {as' : Array Value} {Z : State} {h0 : Heap} {Q : Option Value → Heap → List Loc → Prop} {ck sk : Nat} (hn : plainFor y = true)
    (body : ∀ (p : Program) (e : Env) (s : State) (m : MethodId) (below : List Frame) (meth : Method) (c : Code) (T : State) (K : Outcome → State → Prop), p.tables.exec = Jvm.exec → c.code = bytes → c.maxLocals = maxL → meth.sig.returnType = ret → meth.locks = false → s.vm.findClass y.cls = some m.cls → meth.name = y.name → Z.Warmed39 s.vm → Stand p l e rm s m as' below meth c T [] 0 0 → T.heap = h0 →
      (∀ (v : Option Value) (U : State) (L : List Loc) (k n : Nat), Q v U.heap L → ReturnedEndW s (.returned v) U L k n → k ≤ ck → n ≤ sk → K (.returned v) U) → Rch p e below K T (entryFrame m as' maxL)) :
    MetFree l y (head1 (Cond.code y bytes maxL ret :: ws) rm) (fun a U => a = as' ∧ Z.Warmed39 U.vm ∧ U.heap = h0) (fun _ _ _ _ _ => True) (fun _ U o U' => ∃ v L, o = .returned v ∧ Q v U'.heap L ∧ ReturnedEndW U o U' L ck sk) := by
  refine MetFree.of_bodySF hn hisR ?_
  intro p e s m args below meth c s₁ Bd hml0 hP hK
  obtain ⟨rfl, hZ, hh⟩ := hP
  show Rch p e below (fun o U' => ∃ v L, o = .returned v ∧ Q v U'.heap L ∧ ReturnedEndW s o U' L ck sk) s₁ (entryFrame m args maxL)
  refine body p e s m below meth c s₁ _ Bd.exec Bd.bytes hml0 Bd.returns Bd.notSynchronized (findClass_of_methodNamed Bd.named) (name_of_methodNamed Bd.named Bd.method).1 hZ (Stand.of_body Bd) (by rw [← hh, Bd.state]; rfl) ?_
  intro v U L k n hQ hF hk hs
  exact ⟨v, L, rfl, hQ, hF.1, hF.2.1, hF.2.2.1, hF.2.2.2.mono hk hs⟩
theorem own_end {vm1 : Vm} {n : Nat} (h : s.Since vm1 n) {U : State} {o : Outcome} {L : List Loc} {k c : Nat} (hn : n ≤ U.heap.size) (F : FrameEnd (s.setVm vm1) o U L k c) : ReturnedEndW s o U L k c := by
  obtain ⟨h1, h2, h3⟩ := F
  obtain ⟨g1, g2, g3⟩ := h.ended h2 hn h3
  exact ⟨h1, g1, g2, g3⟩
theorem own_narrowZ {z : Int32} (h : z = 0 ∨ z = 1) : narrow .boolean (.int z) = .int z := by rcases h with rfl | rfl <;> rfl
theorem own_fitZ {z : Int32} (h : z = 0 ∨ z = 1) : fits .boolean (.int z) = true := by rcases h with rfl | rfl <;> rfl
theorem own_narZ {z : Int32} (h : z = 0 ∨ z = 1) : nar .boolean z = z := by rcases h with rfl | rfl <;> rfl
/-- a truth as an int -/
def ob (P : Prop) [Decidable P] : Int32 := if P then 1 else 0
theorem ob_cases (P : Prop) [Decidable P] : (ob P = 1 ∧ P) ∨ (ob P = 0 ∧ ¬ P) := by
  by_cases h : P
  · exact Or.inl ⟨if_pos h, h⟩
  · exact Or.inr ⟨if_neg h, h⟩
theorem ob01 (P : Prop) [Decidable P] : ob P = 0 ∨ ob P = 1 := (ob_cases P).elim (fun h => Or.inr h.1) (fun h => Or.inl h.1)
theorem ob_pos {P : Prop} [Decidable P] (h : P) : ob P = 1 := if_pos h
theorem ob_neg {P : Prop} [Decidable P] (h : ¬ P) : ob P = 0 := if_neg h
theorem own_selP {args : Array Value} {y : MethodName} {n : Nat} (wi : (Cond.instantiable y.cls n).before args s = true) (hp : (Cond.privateMethod y).before args s = true) (hinst : (Cond.instanceMethod y).before args s = true) (hy : y.cls ≠ "java/lang/invoke/MethodHandle" ∧ y.cls ≠ "java/lang/invoke/VarHandle") : (Cond.selects y.cls y y).before args s = true := by
  obtain ⟨c, k, h1, h2, -, h4, -⟩ := Cond.instantiable_spec wi
  exact Jvm.Stand.selects_self_of_private h1 h2 (by cases hq : k.isInterface <;> simp [hq] at h4 ⊢) (Cond.privateMethod_at hp) hinst hy
end New
section Arrays
variable {Z : State} {h h' : Heap} {a b : Addr} {ty : FieldType} {n i : Nat} {f f' : Nat → Value} {sl : Nat} {v : Value} {ws : List Addr} {j : Int32} {c : Cell}
/-- the array at a has n places; place q holds f q -/
def Av (Z : State) (h : Heap) (a : Addr) (ty : FieldType) (n : Nat) (f : Nat → Value) : Prop := ∃ cl : Cell, Arr Z h a cl ty ∧ cl.slots.size = n ∧ ∀ j, j < n → cl.slots[j]? = some (f j)
theorem Av.ext (V : Av Z h a ty n f) (E : Ext h h') : Av Z h' a ty n f := by obtain ⟨c, A, r⟩ := V; exact ⟨c, A.ext E, r⟩
theorem Av.other (V : Av Z h b ty n f) (W : Wr h h' a sl v) (q : b ≠ a) : Av Z h' b ty n f := by obtain ⟨c, A, r⟩ := V; exact ⟨c, A.other W q, r⟩
theorem Av.keep (V : Av Z h a ty n f) (K : Keep h h' ws) (q : a ∉ ws) : Av Z h' a ty n f := by obtain ⟨c, A, r⟩ := V; exact ⟨c, ⟨K.2.1 a c A.1 q, A.2⟩, r⟩
theorem Av.lt (V : Av Z h a ty n f) : a < h.size := by obtain ⟨c, A, -⟩ := V; exact A.lt
theorem Av.congr (V : Av Z h a ty n f) (q : ∀ j, j < n → f j = f' j) : Av Z h a ty n f' := by obtain ⟨c, A, S, H⟩ := V; exact ⟨c, A, S, fun j hj => by rw [H j hj, q j hj]⟩
theorem Av.nostat (V : Av Z h a ty n f) : ∀ cell : Cell, h[a]? = some cell → cell.vm.isStatics = false := by
  obtain ⟨c, A, -⟩ := V
  exact Arr.nostat A
theorem own_sta {C nm d : String} (F : Sta Z h C nm d v) (K : Keep h h' ws) (hn : ∀ x ∈ ws, ∀ cell : Cell, h[x]? = some cell → cell.vm.isStatics = false) : Sta Z h' C nm d v := by
  obtain ⟨cf, i, k, f, st, cell, h1, h2, h3, h4, h5, h6, h7⟩ := F
  refine ⟨cf, i, k, f, st, cell, h1, h2, h3, h4, K.2.1 st cell h5 fun q => ?_, h6, h7⟩
  rw [hn st q cell h5] at h6
  cases h6
theorem oNat (e : j.toInt = (i : Int)) : j.toNatClampNeg = i := by simp only [Int32.toNatClampNeg]; omega
theorem oNn (e : j.toInt = (i : Int)) : ¬ j < 0 := by
  rw [Int32.lt_iff_toInt_lt]; have : (0 : Int32).toInt = 0 := rfl
  omega
theorem oIn (S : c.slots.size = n) (e : j.toInt = (i : Int)) (hi : i < n) : ¬ (j < 0 ∨ c.slots.size ≤ j.toNatClampNeg) := by
  rw [oNat e, S]; intro q
  rcases q with q | q
  · exact oNn e q
  · omega
theorem oAt (H : ∀ j, j < n → c.slots[j]? = some (f j)) (e : j.toInt = (i : Int)) (hi : i < n) : c.slots[j.toNatClampNeg]? = some (f i) := by rw [oNat e]; exact H i hi
theorem Av.set (V : Av Z h a ty n f) (e : j.toInt = (i : Int)) (hi : i < n) (W : Wr h h' a j.toNatClampNeg v) : Av Z h' a ty n (fun q => if q = i then v else f q) := by
  obtain ⟨c, A, S, H⟩ := V
  rw [oNat e] at W
  refine ⟨_, A.same W, by rw [sz_set]; exact S, fun k hk => ?_⟩
  by_cases u : k = i
  · subst u; simp [Cell.setSlot, S, hk]
  · simp only [u, if_false, Cell.setSlot]; rw [Array.getElem?_setIfInBounds_ne (Ne.symm u)]; exact H k hk
theorem Av.setI {y : Nat → Int32} {x : Int32} (V : Av Z h a ty n (fun q => .int (y q))) (e : j.toInt = (i : Int)) (hi : i < n) (W : Wr h h' a j.toNatClampNeg (.int x)) : Av Z h' a ty n (fun q => .int (if q = i then x else y q)) := (V.set e hi W).congr fun k _ => by
  by_cases u : k = i <;> simp [u]
theorem Av.setJ {y : Nat → Int64} {x : Int64} (V : Av Z h a ty n (fun q => .long (y q))) (e : j.toInt = (i : Int)) (hi : i < n) (W : Wr h h' a j.toNatClampNeg (.long x)) : Av Z h' a ty n (fun q => .long (if q = i then x else y q)) := (V.set e hi W).congr fun k _ => by
  by_cases u : k = i <;> simp [u]
theorem oLen (S : c.slots.size = n) : c.slots.size.toInt32 = Int32.ofNat n := by rw [S]
theorem Av.new {k : ClassId} {z : Int32} (A : Arr Z h a (newA k ty z) ty) (e : z.toInt = (n : Int)) : Av Z h a ty n (fun _ => defaultValue ty) :=
  ⟨_, A, by rw [sz_new]; exact oNat e, fun j hj => by have := oNat e; simp [newA, this, hj]⟩
/-- the array at a takes what is a C -/
def OvA (Z : State) (h : Heap) (a : Addr) (C : String) : Prop := ∃ cl : Cell, h[a]? = some cl ∧ Ovr Z cl.cls C
theorem OvA.ext {C : String} (F : OvA Z h a C) (E : Ext h h') : OvA Z h' a C := by obtain ⟨c, h1, h2⟩ := F; exact ⟨c, E.2 _ _ h1, h2⟩
theorem OvA.wr {C : String} (F : OvA Z h a C) (W : Wr h h' b sl v) : OvA Z h' a C := by
  obtain ⟨c, h1, h2⟩ := F
  obtain ⟨c', e1, e2, -⟩ := wr_at W h1
  exact ⟨c', e1, by rw [e2]; exact h2⟩
theorem OvA.keep {C : String} (F : OvA Z h a C) (K : Keep h h' ws) : OvA Z h' a C := by
  obtain ⟨c, h1, h2⟩ := F
  obtain ⟨c', e1, e2, -⟩ := K.2.2 a c h1
  exact ⟨c', e1, by rw [e2]; exact h2⟩
theorem OvA.at {C : String} (F : OvA Z h a C) (A : Arr Z h a c ty) : Ovr Z c.cls C := by
  obtain ⟨c', h1, h2⟩ := F
  cases h1.symm.trans A.1; exact h2
theorem oTo {n : Nat} (h : n < 2 ^ 31) : (Int32.ofNat n).toInt = (n : Int) := len_toInt h
end Arrays
end Jvm.RoadKit
namespace Jvm.Pilot.@@N@@
open Jvm Jvm.ClassFile Sem Op Lib Jvm.Free Jvm.Stand Jvm.LawKit Jvm.RoadKit Bundle Jvm.Pilot.@@N@@.Jvm.D
theorem own_one (i : Nat) : Int32.ofNat i + (1 : Int32) = Int32.ofNat (i + 1) := (Int32.ofNat_add i 1).symm
theorem own_olt2 {i n : Nat} (hi : i < 2 ^ 31) (hn : n < 2 ^ 31) : Int32.ofNat i < Int32.ofNat n ↔ i < n := by
  rw [Int32.lt_iff_toInt_lt, oTo hn, oTo hi]; omega
theorem own_fill (i j : Nat) (p v : Int32) : (Value.int (if j = i then p else if j < i then p else v)) = Value.int (if j < i + 1 then p else v) := by
  by_cases h : j = i
  · simp [h]
  · by_cases h2 : j < i
    · simp [h, h2, show j < i + 1 by omega]
    · simp [h, h2, show ¬ j < i + 1 by omega]
def own_hash (p : Int32) : Int32 := ((p * (-1640531527 : Int32)) ^^^ (((p * (-1640531527 : Int32)).toUInt32 >>> ((16 : Int32) &&& 31).toUInt32).toInt32)) &&& (63 : Int32)
def own_h (p : Int32) : Nat := (own_hash p).toInt.toNat
theorem own_hash_b (p : Int32) : 0 ≤ (own_hash p).toInt ∧ (own_hash p).toInt ≤ 63 := by
  have h := c_and ((p * (-1640531527 : Int32)) ^^^ (((p * (-1640531527 : Int32)).toUInt32 >>> ((16 : Int32) &&& 31).toUInt32).toInt32)) (63 : Int32) (by decide)
  have e : (63 : Int32).toInt = 63 := by decide
  rw [e] at h
  exact h
theorem own_h_lt (p : Int32) : own_h p < 64 := by have := own_hash_b p; unfold own_h; omega
theorem own_h_eq (p : Int32) : own_hash p = Int32.ofNat (own_h p) := by
  have := own_hash_b p
  have hl := own_h_lt p
  apply Int32.toInt_inj.mp
  rw [oTo (by omega)]
  unfold own_h
  omega
theorem own_dbl (q : Nat) : (2 : Int32) * Int32.ofNat q = Int32.ofNat (2 * q) := (Int32.ofNat_mul 2 q).symm
theorem own_dblI {q : Nat} (h : q < 64) : ((2 : Int32) * Int32.ofNat q).toInt = ((2 * q : Nat) : Int) := by rw [own_dbl, oTo (by omega)]
theorem own_next {q : Nat} (h : q < 64) : ((Int32.ofNat q + (1 : Int32)) &&& (63 : Int32)) = Int32.ofNat ((q + 1) % 64) := by
  apply Int32.toInt_inj.mp
  rw [c_mask _ 63 6 (by decide) (by decide), own_one, oTo (by omega), oTo (by omega)]
  rfl
def own_probe (y : Nat → Int32) (p : Int32) : Nat → Nat → Nat
  | 0, q => q
  | f + 1, q => if y (2 * q) = (-1 : Int32) then q else if y (2 * q) = p then q else own_probe y p f ((q + 1) % 64)
def own_ok (y : Nat → Int32) (p : Int32) : Nat → Nat → Prop
  | 0, _ => False
  | f + 1, q => y (2 * q) = (-1 : Int32) ∨ y (2 * q) = p ∨ own_ok y p f ((q + 1) % 64)
def own_slot (y : Nat → Int32) (p : Int32) : Nat := own_probe y p 64 (own_h p)
theorem own_probe_lt (y : Nat → Int32) (p : Int32) : ∀ (f q : Nat), q < 64 → own_probe y p f q < 64 := by
  intro f
  induction f with
  | zero => intro q h; exact h
  | succ f ih =>
    intro q h
    rw [own_probe]
    split
    · exact h
    · split
      · exact h
      · exact ih _ (Nat.mod_lt _ (by decide))
theorem own_slot_lt (y : Nat → Int32) (p : Int32) : own_slot y p < 64 := own_probe_lt y p 64 _ (own_h_lt p)
theorem own_odd (y : Nat → Int32) (p : Int32) : (Int32.ofNat (2 * own_slot y p) + (1 : Int32)).toInt = ((2 * own_slot y p + 1 : Nat) : Int) := by
  have := own_slot_lt y p
  rw [own_one, oTo (by omega)]
theorem own_hit (y : Nat → Int32) (p : Int32) : ∀ (f q : Nat), own_ok y p f q → y (2 * own_probe y p f q) = (-1 : Int32) ∨ y (2 * own_probe y p f q) = p := by
  intro f
  induction f with
  | zero => intro q h; exact absurd h id
  | succ f ih =>
    intro q h
    rw [own_probe]
    by_cases a : y (2 * q) = (-1 : Int32)
    · rw [if_pos a]; exact Or.inl a
    · rw [if_neg a]
      by_cases b : y (2 * q) = p
      · rw [if_pos b]; exact Or.inr b
      · rw [if_neg b]; exact ih _ ((h.resolve_left a).resolve_left b)
def own_find (y : Nat → Int32) (p : Int32) : Int32 := if y (2 * own_slot y p) = (-1 : Int32) then -1 else y (2 * own_slot y p + 1)
def own_addY (y : Nat → Int32) (sz : Nat) (p : Int32) : Nat → Int32 := fun q => if y (2 * own_slot y p) = (-1 : Int32) then (if q = 2 * own_slot y p + 1 then Int32.ofNat sz else if q = 2 * own_slot y p then p else y q) else y q
def own_addS (y : Nat → Int32) (sz : Nat) (p : Int32) : Nat := if y (2 * own_slot y p) = (-1 : Int32) then sz + 1 else sz
def own_addV (y : Nat → Int32) (sz : Nat) (p : Int32) : Int32 := if y (2 * own_slot y p) = (-1 : Int32) then (Int32.ofNat sz + (1 : Int32)) - (1 : Int32) else y (2 * own_slot y p + 1)
theorem own_ne32 {sz : Nat} (h : sz ≤ 3) : ¬ Int32.ofNat sz = Int32.ofNat 32 := by
  intro q
  have := Int32.toInt_inj.mpr q
  rw [oTo (by omega), oTo (by decide)] at this
  omega
theorem own_four {sz : Nat} (h : sz ≤ 3) : ¬ Int32.ofNat 128 < (4 : Int32) * (Int32.ofNat sz + (1 : Int32)) := by
  rw [own_one, show (4 : Int32) * Int32.ofNat (sz + 1) = Int32.ofNat (4 * (sz + 1)) from (Int32.ofNat_mul 4 (sz + 1)).symm, own_olt2 (by decide) (by omega)]
  omega
def own_idxF : List Int32 → Int32 → Nat → Int32
  | [], _, _ => -1
  | k :: ks, p, i => if k = p then Int32.ofNat i else own_idxF ks p (i + 1)
def own_idx (ks : List Int32) (p : Int32) : Int32 := own_idxF ks p 0
def own_addL (ks : List Int32) (p : Int32) : List Int32 := if p ∈ ks then ks else ks ++ [p]
theorem own_nil : ([] : List Int32) = [] := rfl
theorem own_addL_len (ks : List Int32) (p : Int32) : (own_addL ks p).length ≤ ks.length + 1 := by
  unfold own_addL; split <;> simp
theorem own_idx_no : ∀ (ks : List Int32) (p : Int32) (i : Nat), p ∉ ks → own_idxF ks p i = -1 := by
  intro ks p
  induction ks with
  | nil => intro i _; rfl
  | cons k ks ih =>
    intro i h
    rw [own_idxF, if_neg (fun q => h (by simp [q])), ih _ (fun q => h (by simp [q]))]
theorem own_idx_in : ∀ (ks : List Int32) (p r : Int32) (i : Nat), p ∈ ks → own_idxF (ks ++ [r]) p i = own_idxF ks p i := by
  intro ks p r
  induction ks with
  | nil => intro i h; cases h
  | cons k ks ih =>
    intro i h
    rw [List.cons_append, own_idxF, own_idxF]
    by_cases a : k = p
    · rw [if_pos a, if_pos a]
    · rw [if_neg a, if_neg a]
      exact ih _ ((List.mem_cons.mp h).resolve_left (fun q => a q.symm))
theorem own_idx_end : ∀ (ks : List Int32) (p : Int32) (i : Nat), p ∉ ks → own_idxF (ks ++ [p]) p i = Int32.ofNat (i + ks.length) := by
  intro ks p
  induction ks with
  | nil => intro i _; simp [own_idxF]
  | cons k ks ih =>
    intro i h
    rw [List.cons_append, own_idxF, if_neg (fun q => h (by simp [q])), ih _ (fun q => h (by simp [q]))]
    congr 1
    simp only [List.length_cons]; omega
def own_Inv (y : Nat → Int32) (ks : List Int32) : Prop :=
  ∃ os : List Nat, os.length ≤ ks.length ∧ (∀ q, q < 64 → y (2 * q) ≠ (-1 : Int32) → q ∈ os ∧ y (2 * q) ∈ ks ∧ y (2 * q + 1) = own_idx ks (y (2 * q))) ∧ (∀ k, k ∈ ks → k ≠ (-1 : Int32) ∧ y (2 * own_slot y k) = k)
theorem own_inv0 : own_Inv (fun _ => (-1 : Int32)) [] := ⟨[], Nat.le_refl _, fun _ _ h => absurd rfl h, fun _ h => by cases h⟩
theorem own_pigeon : ∀ (n : Nat) (os : List Nat), os.length < n → ∃ q, q < n ∧ q ∉ os := by
  intro n
  induction n with
  | zero => intro os h; omega
  | succ n ih =>
    intro os h
    by_cases a : n ∈ os
    · have hl : (os.filter (fun x => x != n)).length < os.length := List.length_filter_lt_length_iff_exists.mpr ⟨n, a, by simp⟩
      obtain ⟨q, h1, h2⟩ := ih (os.filter (fun x => x != n)) (by omega)
      refine ⟨q, by omega, fun m => h2 (List.mem_filter.mpr ⟨m, ?_⟩)⟩
      simp; omega
    · exact ⟨n, by omega, a⟩
theorem own_reach (y : Nat → Int32) (p : Int32) : ∀ (f d q : Nat), d < f → y (2 * ((q + d) % 64)) = (-1 : Int32) → q < 64 → own_ok y p f q := by
  intro f
  induction f with
  | zero => intro d q h; omega
  | succ f ih =>
    intro d q h hy hq
    cases d with
    | zero => left; rw [Nat.add_zero, Nat.mod_eq_of_lt hq] at hy; exact hy
    | succ d =>
      right; right
      refine ih d ((q + 1) % 64) (by omega) ?_ (Nat.mod_lt _ (by decide))
      rw [show ((q + 1) % 64 + d) % 64 = (q + (d + 1)) % 64 by omega]
      exact hy
theorem own_inv_ok {y : Nat → Int32} {ks : List Int32} (I : own_Inv y ks) (hl : ks.length ≤ 4) (p : Int32) : own_ok y p 64 (own_h p) := by
  obtain ⟨os, h1, h2, -⟩ := I
  obtain ⟨q, hq, hn⟩ := own_pigeon 64 os (by omega)
  have he : y (2 * q) = (-1 : Int32) := Classical.byContradiction fun h => hn (h2 q hq h).1
  have hh := own_h_lt p
  refine own_reach y p 64 ((q + 64 - own_h p) % 64) (own_h p) (Nat.mod_lt _ (by decide)) ?_ hh
  rw [show (own_h p + (q + 64 - own_h p) % 64) % 64 = q by omega]
  exact he
theorem own_find_eq {y : Nat → Int32} {ks : List Int32} (I : own_Inv y ks) (hl : ks.length ≤ 4) {p : Int32} : own_find y p = own_idx ks p := by
  have hok := own_inv_ok I hl p
  obtain ⟨os, h1, h2, h3⟩ := I
  have hh := own_hit y p 64 (own_h p) hok
  unfold own_find
  by_cases a : y (2 * own_slot y p) = (-1 : Int32)
  · rw [if_pos a]
    refine (own_idx_no ks p 0 fun hm => ?_).symm
    have := h3 p hm
    exact this.1 (this.2.symm.trans a)
  · rw [if_neg a]
    have hp : y (2 * own_slot y p) = p := hh.resolve_left a
    have := (h2 _ (own_slot_lt y p) a).2.2
    rw [this, hp]
theorem own_mem_iff {y : Nat → Int32} {ks : List Int32} (I : own_Inv y ks) (hl : ks.length ≤ 4) {p : Int32} (hp : p ≠ (-1 : Int32)) : y (2 * own_slot y p) = (-1 : Int32) ↔ p ∉ ks := by
  have hok := own_inv_ok I hl p
  obtain ⟨os, h1, h2, h3⟩ := I
  have hh := own_hit y p 64 (own_h p) hok
  constructor
  · intro a hm
    exact hp ((h3 p hm).2.symm.trans a)
  · intro hm
    refine hh.resolve_right fun q => hm ?_
    have := (h2 _ (own_slot_lt y p) (by rw [show y (2 * own_slot y p) = p from q]; exact hp)).2.1
    rwa [show y (2 * own_slot y p) = p from q] at this
theorem own_same (y y' : Nat → Int32) (k : Int32) (s : Nat) (hs : y (2 * s) = (-1 : Int32)) (he : ∀ q, q ≠ s → y' (2 * q) = y (2 * q)) : ∀ (f q : Nat), y (2 * own_probe y k f q) ≠ (-1 : Int32) → own_probe y' k f q = own_probe y k f q := by
  intro f
  induction f with
  | zero => intro q _; rfl
  | succ f ih =>
    intro q h
    rw [own_probe] at h
    rw [own_probe, own_probe]
    by_cases a : y (2 * q) = (-1 : Int32)
    · rw [if_pos a] at h; exact absurd a h
    · rw [if_neg a] at h
      have hne : q ≠ s := fun e => a (by rw [e]; exact hs)
      rw [he q hne, if_neg a, if_neg a]
      by_cases b : y (2 * q) = k
      · rw [if_pos b, if_pos b]
      · rw [if_neg b] at h
        rw [if_neg b, if_neg b]
        exact ih _ h
theorem own_new (y y' : Nat → Int32) (p : Int32) (hp : p ≠ (-1 : Int32)) : ∀ (f q : Nat), y (2 * own_probe y p f q) = (-1 : Int32) → (∀ r, r ≠ own_probe y p f q → y' (2 * r) = y (2 * r)) → y' (2 * own_probe y p f q) = p → own_probe y' p f q = own_probe y p f q := by
  intro f
  induction f with
  | zero => intro q _ _ _; rfl
  | succ f ih =>
    intro q h he hy
    rw [own_probe] at h he hy
    rw [own_probe, own_probe]
    by_cases a : y (2 * q) = (-1 : Int32)
    · rw [if_pos a] at hy
      rw [if_pos a, hy, if_neg hp, if_pos rfl]
    · rw [if_neg a] at h he hy
      by_cases b : y (2 * q) = p
      · rw [if_pos b] at h; exact absurd (b.symm.trans h) hp
      · rw [if_neg b] at h he hy
        have hne : q ≠ own_probe y p f ((q + 1) % 64) := fun e => a (by rw [e]; exact h)
        rw [he q hne, if_neg a, if_neg b, if_neg a, if_neg b]
        exact ih _ h he hy
theorem own_inv_add {y : Nat → Int32} {ks : List Int32} (I : own_Inv y ks) {p : Int32} (hp : p ≠ (-1 : Int32)) (hl : ks.length ≤ 3) {sz : Nat} (hsz : sz = ks.length) : own_Inv (own_addY y sz p) (own_addL ks p) := by
  have hm := own_mem_iff I (by omega) hp
  by_cases a : y (2 * own_slot y p) = (-1 : Int32)
  · have hn := hm.mp a
    obtain ⟨os, h1, h2, h3⟩ := I
    have e1 : ∀ q, q ≠ own_slot y p → own_addY y sz p (2 * q) = y (2 * q) := fun q hq => by
      simp only [own_addY, if_pos a]
      rw [if_neg (by omega), if_neg (by omega)]
    have e2 : ∀ q, q ≠ own_slot y p → own_addY y sz p (2 * q + 1) = y (2 * q + 1) := fun q hq => by
      simp only [own_addY, if_pos a]
      rw [if_neg (by omega), if_neg (by omega)]
    have e3 : own_addY y sz p (2 * own_slot y p) = p := by
      simp only [own_addY, if_pos a]
      rw [if_neg (by omega), if_pos trivial]
    have e4 : own_addY y sz p (2 * own_slot y p + 1) = Int32.ofNat sz := by
      simp only [own_addY, if_pos a]
      rw [if_pos trivial]
    have eL : own_addL ks p = ks ++ [p] := if_neg hn
    rw [eL]
    refine ⟨own_slot y p :: os, by simp; omega, fun q hq hy => ?_, fun k hk => ?_⟩
    · by_cases c : q = own_slot y p
      · subst c
        rw [e3, e4]
        refine ⟨by simp, by simp, ?_⟩
        rw [own_idx, own_idx_end ks p 0 hn, hsz, Nat.zero_add]
      · rw [e1 q c] at hy ⊢
        rw [e2 q c]
        obtain ⟨r1, r2, r3⟩ := h2 q hq hy
        refine ⟨by simp [r1], by simp [r2], ?_⟩
        rw [r3, own_idx, own_idx, own_idx_in ks _ p 0 r2]
    · rcases List.mem_append.mp hk with hk | hk
      · obtain ⟨r1, r2⟩ := h3 k hk
        refine ⟨r1, ?_⟩
        have := own_same y (own_addY y sz p) k (own_slot y p) a e1 64 (own_h k) (by rw [show y (2 * own_probe y k 64 (own_h k)) = k from r2]; exact r1)
        have es : own_slot (own_addY y sz p) k = own_slot y k := this
        rw [es, e1 _ (fun e => r1 (by rw [← r2, e]; exact a))]
        exact r2
      · cases List.mem_singleton.mp hk
        refine ⟨hp, ?_⟩
        have es : own_slot (own_addY y sz p) p = own_slot y p := own_new y (own_addY y sz p) p hp 64 (own_h p) a e1 e3
        rw [es]
        exact e3
  · have hi : p ∈ ks := Classical.byContradiction fun h => a (hm.mpr h)
    have eY : own_addY y sz p = y := by funext q; simp only [own_addY, if_neg a]
    have eL : own_addL ks p = ks := if_pos hi
    rw [eY, eL]
    exact I
theorem own_len_eq {y : Nat → Int32} {ks : List Int32} (I : own_Inv y ks) {p : Int32} (hp : p ≠ (-1 : Int32)) (hl : ks.length ≤ 3) : own_addS y ks.length p = (own_addL ks p).length := by
  have hm := own_mem_iff I (by omega) hp
  unfold own_addS own_addL
  by_cases a : y (2 * own_slot y p) = (-1 : Int32)
  · rw [if_pos a, if_neg (hm.mp a)]; simp
  · rw [if_neg a, if_pos (Classical.byContradiction fun h => a (hm.mpr h))]
def own_e4 (q0 q1 q2 q3 q4 q5 cnt e2 : Int32) : Int32 := e2
def own_e3 (q0 q1 q2 q3 q4 q5 cnt e2 : Int32) : Int32 := if 3 < q0 then (if q4 = q1 then own_e4 q0 q1 q2 q3 q4 q5 cnt e2 else if q4 = q2 then own_e4 q0 q1 q2 q3 q4 q5 cnt e2 else if q4 = q3 then own_e4 q0 q1 q2 q3 q4 q5 cnt e2 else if q5 = q4 then (if e2 < 0 then own_e4 q0 q1 q2 q3 q4 q5 (cnt + 1) cnt else own_e4 q0 q1 q2 q3 q4 q5 (cnt + 1) e2) else own_e4 q0 q1 q2 q3 q4 q5 (cnt + 1) e2) else own_e4 q0 q1 q2 q3 q4 q5 cnt e2
def own_e2 (q0 q1 q2 q3 q4 q5 cnt e2 : Int32) : Int32 := if 2 < q0 then (if q3 = q1 then own_e3 q0 q1 q2 q3 q4 q5 cnt e2 else if q3 = q2 then own_e3 q0 q1 q2 q3 q4 q5 cnt e2 else if q5 = q3 then (if e2 < 0 then own_e3 q0 q1 q2 q3 q4 q5 (cnt + 1) cnt else own_e3 q0 q1 q2 q3 q4 q5 (cnt + 1) e2) else own_e3 q0 q1 q2 q3 q4 q5 (cnt + 1) e2) else own_e3 q0 q1 q2 q3 q4 q5 cnt e2
def own_e1 (q0 q1 q2 q3 q4 q5 cnt e2 : Int32) : Int32 := if 1 < q0 then (if q2 = q1 then own_e2 q0 q1 q2 q3 q4 q5 cnt e2 else if q5 = q2 then (if e2 < 0 then own_e2 q0 q1 q2 q3 q4 q5 (cnt + 1) cnt else own_e2 q0 q1 q2 q3 q4 q5 (cnt + 1) e2) else own_e2 q0 q1 q2 q3 q4 q5 (cnt + 1) e2) else own_e2 q0 q1 q2 q3 q4 q5 cnt e2
def own_e0 (q0 q1 q2 q3 q4 q5 : Int32) : Int32 := if 0 < q0 then (if q5 = q1 then own_e1 q0 q1 q2 q3 q4 q5 1 0 else own_e1 q0 q1 q2 q3 q4 q5 1 (-1)) else own_e1 q0 q1 q2 q3 q4 q5 0 (-1)
def own_exp (q0 q1 q2 q3 q4 q5 : Int32) : Int32 := own_e0 q0 q1 q2 q3 q4 q5
theorem own_nn {x : Int32} (h : 0 ≤ x.toInt) : x ≠ (-1 : Int32) := fun q => by rw [q] at h; exact absurd h (by decide)
theorem own_msk (x : Int32) : 0 ≤ (x &&& (2147483647 : Int32)).toInt := (c_and x (2147483647 : Int32) (by decide)).1
theorem own_five (x : Int32) : ((x &&& (7 : Int32)) % (5 : Int32)) = 0 ∨ ((x &&& (7 : Int32)) % (5 : Int32)) = 1 ∨ ((x &&& (7 : Int32)) % (5 : Int32)) = 2 ∨ ((x &&& (7 : Int32)) % (5 : Int32)) = 3 ∨ ((x &&& (7 : Int32)) % (5 : Int32)) = 4 := by
  have h1 := c_and x (7 : Int32) (by decide)
  have h2 := (c_irem (x &&& (7 : Int32)) (5 : Int32) 5 (by decide)).1 h1.1
  simp only [← Int32.toInt_inj, Int32.reduceToInt]
  omega
theorem own_mem_add (ks : List Int32) (p q : Int32) : q ∈ own_addL ks p ↔ q ∈ ks ∨ q = p := by
  unfold own_addL
  by_cases h : p ∈ ks
  · rw [if_pos h]
    exact ⟨Or.inl, fun z => z.elim id fun e => e ▸ h⟩
  · rw [if_neg h]; simp
theorem own_stage (ks : List Int32) (p x : Int32) (F : Int32 → Int32 → Int32) :
    (if p ∈ ks then F (Int32.ofNat ks.length) (own_idx ks x) else if x = p then (if own_idx ks x < 0 then F (Int32.ofNat ks.length + 1) (Int32.ofNat ks.length) else F (Int32.ofNat ks.length + 1) (own_idx ks x)) else F (Int32.ofNat ks.length + 1) (own_idx ks x)) = F (Int32.ofNat (own_addL ks p).length) (own_idx (own_addL ks p) x) := by
  by_cases h : p ∈ ks
  · rw [if_pos h, show own_addL ks p = ks from if_pos h]
  · rw [if_neg h, show own_addL ks p = ks ++ [p] from if_neg h]
    have hl : Int32.ofNat (ks ++ [p]).length = Int32.ofNat ks.length + 1 := by rw [List.length_append, List.length_singleton, own_one]
    rw [hl]
    by_cases e : x = p
    · subst e
      rw [if_pos rfl, show own_idx ks x = -1 from own_idx_no ks x 0 h, if_pos (by decide), show own_idx (ks ++ [x]) x = Int32.ofNat (0 + ks.length) from own_idx_end ks x 0 h, Nat.zero_add]
    · rw [if_neg e]
      by_cases m : x ∈ ks
      · rw [show own_idx (ks ++ [p]) x = own_idx ks x from own_idx_in ks x p 0 m]
      · rw [show own_idx ks x = -1 from own_idx_no ks x 0 m, show own_idx (ks ++ [p]) x = -1 from own_idx_no (ks ++ [p]) x 0 (by simp [m, e])]
theorem own_s0 (n x6 x7 x8 x9 x : Int32) (h : 0 < n) : own_exp n x6 x7 x8 x9 x = own_e1 n x6 x7 x8 x9 x (Int32.ofNat (own_addL [] x6).length) (own_idx (own_addL [] x6) x) := by
  rw [← own_stage [] x6 x (own_e1 n x6 x7 x8 x9 x)]
  simp only [own_exp, own_e0, if_pos h, List.not_mem_nil, if_false]
  by_cases e : x = x6
  · simp only [e, if_true]; rfl
  · simp only [e, if_false]; rfl
theorem own_s1 (n x6 x7 x8 x9 x : Int32) (ks : List Int32) (hm : x7 ∈ ks ↔ x7 = x6) (h : 1 < n) : own_e1 n x6 x7 x8 x9 x (Int32.ofNat ks.length) (own_idx ks x) = own_e2 n x6 x7 x8 x9 x (Int32.ofNat (own_addL ks x7).length) (own_idx (own_addL ks x7) x) := by
  rw [← own_stage ks x7 x (own_e2 n x6 x7 x8 x9 x)]
  simp only [own_e1, if_pos h, hm]
theorem own_s2 (n x6 x7 x8 x9 x : Int32) (ks : List Int32) (hm : x8 ∈ ks ↔ x8 = x6 ∨ x8 = x7) (h : 2 < n) : own_e2 n x6 x7 x8 x9 x (Int32.ofNat ks.length) (own_idx ks x) = own_e3 n x6 x7 x8 x9 x (Int32.ofNat (own_addL ks x8).length) (own_idx (own_addL ks x8) x) := by
  rw [← own_stage ks x8 x (own_e3 n x6 x7 x8 x9 x)]
  simp only [own_e2, if_pos h, hm]
  by_cases a : x8 = x6
  · simp only [a, true_or, if_true]
  · by_cases b : x8 = x7
    · simp only [b, or_true, if_true, ite_self]
    · simp only [a, b, or_self, if_false]
theorem own_s3 (n x6 x7 x8 x9 x : Int32) (ks : List Int32) (hm : x9 ∈ ks ↔ x9 = x6 ∨ x9 = x7 ∨ x9 = x8) (h : 3 < n) : own_e3 n x6 x7 x8 x9 x (Int32.ofNat ks.length) (own_idx ks x) = own_e4 n x6 x7 x8 x9 x (Int32.ofNat (own_addL ks x9).length) (own_idx (own_addL ks x9) x) := by
  rw [← own_stage ks x9 x (own_e4 n x6 x7 x8 x9 x)]
  simp only [own_e3, if_pos h, hm]
  by_cases a : x9 = x6
  · simp only [a, true_or, if_true]
  · by_cases b : x9 = x7
    · simp only [b, true_or, or_true, if_true, ite_self]
    · by_cases c : x9 = x8
      · simp only [c, or_true, if_true, ite_self]
      · simp only [a, b, c, or_self, if_false]
theorem own_m1 (x6 q : Int32) : q ∈ own_addL [] x6 ↔ q = x6 := by rw [own_mem_add]; simp
theorem own_m2 (x6 x7 q : Int32) : q ∈ own_addL (own_addL [] x6) x7 ↔ q = x6 ∨ q = x7 := by rw [own_mem_add, own_m1]
theorem own_m3 (x6 x7 x8 q : Int32) : q ∈ own_addL (own_addL (own_addL [] x6) x7) x8 ↔ q = x6 ∨ q = x7 ∨ q = x8 := by rw [own_mem_add, own_m2, or_assoc]
theorem own_join0 (x6 x7 x8 x9 x12 : Int32) : own_idx [] x12 = own_exp 0 x6 x7 x8 x9 x12 := by
  simp only [own_exp, own_e0, own_e1, own_e2, own_e3, own_e4, if_neg (show ¬ (0 : Int32) < 0 by decide), if_neg (show ¬ (1 : Int32) < 0 by decide), if_neg (show ¬ (2 : Int32) < 0 by decide), if_neg (show ¬ (3 : Int32) < 0 by decide)]
  rfl
theorem own_join1 (x6 x7 x8 x9 x12 : Int32) : own_idx (own_addL [] x6) x12 = own_exp 1 x6 x7 x8 x9 x12 := by
  rw [own_s0 1 x6 x7 x8 x9 x12 (by decide)]
  simp only [own_e1, own_e2, own_e3, own_e4, if_neg (show ¬ (1 : Int32) < 1 by decide), if_neg (show ¬ (2 : Int32) < 1 by decide), if_neg (show ¬ (3 : Int32) < 1 by decide)]
theorem own_join2 (x6 x7 x8 x9 x12 : Int32) : own_idx (own_addL (own_addL [] x6) x7) x12 = own_exp 2 x6 x7 x8 x9 x12 := by
  rw [own_s0 2 x6 x7 x8 x9 x12 (by decide), own_s1 2 x6 x7 x8 x9 x12 _ (own_m1 x6 x7) (by decide)]
  simp only [own_e2, own_e3, own_e4, if_neg (show ¬ (2 : Int32) < 2 by decide), if_neg (show ¬ (3 : Int32) < 2 by decide)]
theorem own_join3 (x6 x7 x8 x9 x12 : Int32) : own_idx (own_addL (own_addL (own_addL [] x6) x7) x8) x12 = own_exp 3 x6 x7 x8 x9 x12 := by
  rw [own_s0 3 x6 x7 x8 x9 x12 (by decide), own_s1 3 x6 x7 x8 x9 x12 _ (own_m1 x6 x7) (by decide), own_s2 3 x6 x7 x8 x9 x12 _ (own_m2 x6 x7 x8) (by decide)]
  simp only [own_e3, own_e4, if_neg (show ¬ (3 : Int32) < 3 by decide)]
theorem own_join4 (x6 x7 x8 x9 x12 : Int32) : own_idx (own_addL (own_addL (own_addL (own_addL [] x6) x7) x8) x9) x12 = own_exp 4 x6 x7 x8 x9 x12 := by
  rw [own_s0 4 x6 x7 x8 x9 x12 (by decide), own_s1 4 x6 x7 x8 x9 x12 _ (own_m1 x6 x7) (by decide), own_s2 4 x6 x7 x8 x9 x12 _ (own_m2 x6 x7 x8) (by decide), own_s3 4 x6 x7 x8 x9 x12 _ (own_m3 x6 x7 x8 x9) (by decide)]
  rfl
theorem d_jdk_65_method_103_code_0 : decode jdk_65_method_103_code 0 = .ok (.iconst 0, 1) := by decide +kernel
theorem d_jdk_65_method_103_code_1 : decode jdk_65_method_103_code 1 = .ok (.istore_n 2, 1) := by decide +kernel
theorem d_jdk_65_method_103_code_2 : decode jdk_65_method_103_code 2 = .ok (.aload_n 0, 1) := by decide +kernel
theorem d_jdk_65_method_103_code_3 : decode jdk_65_method_103_code 3 = .ok (.arraylength, 1) := by decide +kernel
theorem d_jdk_65_method_103_code_4 : decode jdk_65_method_103_code 4 = .ok (.istore_n 3, 1) := by decide +kernel
theorem d_jdk_65_method_103_code_5 : decode jdk_65_method_103_code 5 = .ok (.iload_n 2, 1) := by decide +kernel
theorem d_jdk_65_method_103_code_6 : decode jdk_65_method_103_code 6 = .ok (.iload_n 3, 1) := by decide +kernel
theorem d_jdk_65_method_103_code_7 : decode jdk_65_method_103_code 7 = .ok (.if_icmp .ge 13, 3) := by decide +kernel
theorem d_jdk_65_method_103_code_10 : decode jdk_65_method_103_code 10 = .ok (.aload_n 0, 1) := by decide +kernel
theorem d_jdk_65_method_103_code_11 : decode jdk_65_method_103_code 11 = .ok (.iload_n 2, 1) := by decide +kernel
theorem d_jdk_65_method_103_code_12 : decode jdk_65_method_103_code 12 = .ok (.iload_n 1, 1) := by decide +kernel
theorem d_jdk_65_method_103_code_13 : decode jdk_65_method_103_code 13 = .ok (.iastore, 1) := by decide +kernel
theorem d_jdk_65_method_103_code_14 : decode jdk_65_method_103_code 14 = .ok (.iinc 2 1, 3) := by decide +kernel
theorem d_jdk_65_method_103_code_17 : decode jdk_65_method_103_code 17 = .ok (.goto (-12), 3) := by decide +kernel
theorem d_jdk_65_method_103_code_20 : decode jdk_65_method_103_code 20 = .ok (.return_, 1) := by decide +kernel
theorem pn_0 : plainName "java/util/Arrays" = true := by first | (simp [plainName, overriddenIn]; done) | decide +kernel
theorem pd_0 : parseMethodDescriptor "()V" = some ⟨[], none⟩ := by decide +kernel
theorem pd_1 : parseMethodDescriptor "(I)[I" = some ⟨[.int], some (.array .int)⟩ := by decide +kernel
theorem pd_2 : parseMethodDescriptor "([II)V" = some ⟨[(.array .int), .int], none⟩ := by decide +kernel
theorem pd_3 : parseMethodDescriptor "(IIIIII)I" = some ⟨[.int, .int, .int, .int, .int, .int], some .int⟩ := by decide +kernel
theorem pd_4 : parseMethodDescriptor "(I)I" = some ⟨[.int], some .int⟩ := by decide +kernel
theorem ef_rm4 (m : MethodId) (a1 : Addr) (p2 : Int32) : entryFrame m #[(.ref a1), (.int p2)] 4 = mkF m 0 #[.val (.ref a1), .val (.int p2), .unset, .unset] [] := by first | (simp [entryFrame, mkF, argsToLocals, Value.category]; done) | rfl
def Q_rm4 (Z : State) (a1 : Addr) (p2 : Int32) (n : Nat) (y : Nat → Int32) (h0 : Heap) (n0 : Nat) (vv_ : Option Value) (h : Heap) (LL_ : List Loc) : Prop := vv_ = none ∧ Fr n0 LL_ ∧ (Keep h0 h [a1] ∧ Av Z h a1 .int n (fun _ => .int p2))
set_option maxRecDepth 65536 in
set_option maxHeartbeats 40000000 in
theorem rm4 (l : Launch) (Z : State) (a0 : Array Value) (hw : ∀ d ∈ tables_1, d.before a0 Z = true) (ws : List Jvm.Cond) (a1 : Addr) (p2 : Int32) (n : Nat) (y : Nat → Int32) (h0 : Heap) (n0 : Nat) (Z0 : n0 ≤ h0.size) (V1 : Av Z h0 a1 .int n (fun q => .int (y q))) (g1 : n0 ≤ a1) (hn : n < 1000) :
    MetFree l (⟨"java/util/Arrays", "fill", "([II)V"⟩ : MethodName) (head1 (Jvm.Cond.code (⟨"java/util/Arrays", "fill", "([II)V"⟩ : MethodName) jdk_65_method_103_code 4 none :: ws) ({ frames := 0, cells := 0, slots := 0, locals := 0 } : Room)) (fun aa_ UU_ => aa_ = #[(.ref a1), (.int p2)] ∧ Z.Warmed39 UU_.vm ∧ UU_.heap = h0) (fun _ _ _ _ _ => True) (fun _ UU_ oo_ VV_ => ∃ vv_ LL_, oo_ = .returned vv_ ∧ Q_rm4 Z a1 p2 n y h0 n0 vv_ VV_.heap LL_ ∧ FrameEnd UU_ oo_ VV_ LL_ ({ frames := 0, cells := 0, slots := 0, locals := 0 } : Room).cells ({ frames := 0, cells := 0, slots := 0, locals := 0 } : Room).slots) := by
  refine own_met (y := (⟨"java/util/Arrays", "fill", "([II)V"⟩ : MethodName)) (plainFor_of_name pn_0) ?_
  intro p e s m below meth c T0 K hx hby hml hret hlk hown hnm hZ X0 e0 hK
  have N0 := Fr.nil n0
  refine Rch.cast (ef_rm4 m a1 p2) ?_
  have loop : ∀ (k i : Nat) (hk : i + k = n) (T : State) (h : Heap) (locs : List Loc) (X : Stand p l e ({ frames := 0, cells := 0, slots := 0, locals := 0 } : Room) s m #[(.ref a1), (.int p2)] below meth c T locs 0 0) (eT : T.heap = h) (N : Fr n0 locs) (Zh : n0 ≤ h.size) (Kh : Keep h0 h [a1]) (V : Av Z h a1 .int n (fun q => .int (if q < i then p2 else y q))), Rch p e below K T (mkF m 5 #[.val (.ref a1), .val (.int p2), .val (.int (Int32.ofNat i)), .val (.int (Int32.ofNat n))] []) := by
    intro k
    induction k with
    | zero =>
      intro i hk T h locs X eT N Zh Kh V
      have hin : ¬ i < n := by omega
      refine Rch.of (T' := T) (g' := (mkF m 6 #[.val (.ref a1), .val (.int p2), .val (.int (Int32.ofNat i)), .val (.int (Int32.ofNat n))] [(.int (Int32.ofNat i))])) (fun _ kt => XS.iloadN X.here hx rfl (hb hby d_jdk_65_method_103_code_5) rfl  kt) ?_
      refine Rch.of (T' := T) (g' := (mkF m 7 #[.val (.ref a1), .val (.int p2), .val (.int (Int32.ofNat i)), .val (.int (Int32.ofNat n))] [(.int (Int32.ofNat n)), (.int (Int32.ofNat i))])) (fun _ kt => XS.iloadN X.here hx rfl (hb hby d_jdk_65_method_103_code_6) rfl  kt) ?_
      refine Rch.of (T' := T) (g' := (mkF m 20 #[.val (.ref a1), .val (.int p2), .val (.int (Int32.ofNat i)), .val (.int (Int32.ofNat n))] [])) (fun _ kt => XS.icmpYes X.here hx rfl (pc0 := 7) (pc' := 20) rfl (hb hby d_jdk_65_method_103_code_7) rfl (flt (fun q => hin ((own_olt2 (by omega) (by omega)).mp q))).2.1 (by decide) (by decide) kt) ?_
      exact Rch.retV X hx hret hlk (hb hby d_jdk_65_method_103_code_20) (fun U hU hF => hK _ U _ _ _ (by show Q_rm4 Z a1 p2 n y h0 n0 _ U.heap _; rw [hU, eT]; exact ⟨rfl, N, Kh, V.congr (fun j hj => by simp [show j < i by omega])⟩) hF (by decide) (by decide))
    | succ k ih =>
      intro i hk T h locs X eT N Zh Kh V
      have hin : i < n := by omega
      refine Rch.of (T' := T) (g' := (mkF m 6 #[.val (.ref a1), .val (.int p2), .val (.int (Int32.ofNat i)), .val (.int (Int32.ofNat n))] [(.int (Int32.ofNat i))])) (fun _ kt => XS.iloadN X.here hx rfl (hb hby d_jdk_65_method_103_code_5) rfl  kt) ?_
      refine Rch.of (T' := T) (g' := (mkF m 7 #[.val (.ref a1), .val (.int p2), .val (.int (Int32.ofNat i)), .val (.int (Int32.ofNat n))] [(.int (Int32.ofNat n)), (.int (Int32.ofNat i))])) (fun _ kt => XS.iloadN X.here hx rfl (hb hby d_jdk_65_method_103_code_6) rfl  kt) ?_
      refine Rch.of (T' := T) (g' := (mkF m 10 #[.val (.ref a1), .val (.int p2), .val (.int (Int32.ofNat i)), .val (.int (Int32.ofNat n))] [])) (fun _ kt => XS.icmpNo X.here hx rfl (hb hby d_jdk_65_method_103_code_7) rfl (tlt ((own_olt2 (by omega) (by omega)).mpr hin)).2.1 kt) ?_
      refine Rch.of (T' := T) (g' := (mkF m 11 #[.val (.ref a1), .val (.int p2), .val (.int (Int32.ofNat i)), .val (.int (Int32.ofNat n))] [(.ref a1)])) (fun _ kt => XS.aloadN X.here hx rfl (hb hby d_jdk_65_method_103_code_10) rfl rfl kt) ?_
      refine Rch.of (T' := T) (g' := (mkF m 12 #[.val (.ref a1), .val (.int p2), .val (.int (Int32.ofNat i)), .val (.int (Int32.ofNat n))] [(.int (Int32.ofNat i)), (.ref a1)])) (fun _ kt => XS.iloadN X.here hx rfl (hb hby d_jdk_65_method_103_code_11) rfl  kt) ?_
      refine Rch.of (T' := T) (g' := (mkF m 13 #[.val (.ref a1), .val (.int p2), .val (.int (Int32.ofNat i)), .val (.int (Int32.ofNat n))] [(.int p2), (.int (Int32.ofNat i)), (.ref a1)])) (fun _ kt => XS.iloadN X.here hx rfl (hb hby d_jdk_65_method_103_code_12) rfl  kt) ?_
      obtain ⟨cl101, Ar101, Sz101, Ha101⟩ := id V
      obtain ⟨T101, h101, X101, e101, W101, st101⟩ := stI X hx hZ eT Ar101 (j := (Int32.ofNat i)) (oIn Sz101 (oTo (by omega)) hin) (g := (mkF m 13 #[.val (.ref a1), .val (.int p2), .val (.int (Int32.ofNat i)), .val (.int (Int32.ofNat n))] [(.int p2), (.int (Int32.ofNat i)), (.ref a1)])) rfl rfl (hb hby d_jdk_65_method_103_code_13)
      have V101 := Av.setI V (oTo (by omega)) hin W101
      obtain ⟨y101, hy101⟩ : ∃ zz_ : Nat → Int32, zz_ = fun q => if q = i then p2 else (fun q => if q < i then p2 else y q) q := ⟨_, rfl⟩
      have V101 : Av Z h101 a1 .int n (fun q => .int (y101 q)) := by rw [hy101]; exact V101
      have N101 := Fr.snoc X101 N g1
      refine Rch.of (T' := T101) (g' := (mkF m 14 #[.val (.ref a1), .val (.int p2), .val (.int (Int32.ofNat i)), .val (.int (Int32.ofNat n))] [])) st101 ?_
      refine Rch.of (T' := T101) (g' := (mkF m 17 #[.val (.ref a1), .val (.int p2), .val (.int ((Int32.ofNat i) + (1 : Int32))), .val (.int (Int32.ofNat n))] [])) (fun _ kt => XS.iinc X101.here hx rfl (hb hby d_jdk_65_method_103_code_14) rfl (l' := #[.val (.ref a1), .val (.int p2), .val (.int ((Int32.ofNat i) + (1 : Int32))), .val (.int (Int32.ofNat n))]) rfl kt) ?_
      refine Rch.of (T' := T101) (g' := (mkF m 5 #[.val (.ref a1), .val (.int p2), .val (.int ((Int32.ofNat i) + (1 : Int32))), .val (.int (Int32.ofNat n))] [])) (fun _ kt => XS.goto X101.here hx rfl (pc0 := 17) (pc' := 5) rfl (hb hby d_jdk_65_method_103_code_17) (by decide) (by decide) kt) ?_
      rw [own_one i]
      exact ih (i + 1) (by omega) T101 _ _ X101 e101 N101 (Nat.le_trans Zh (Keep.of_wr W101).1) (Kh.wr W101 (Or.inl (List.mem_of_getElem? (i := 0) rfl))) (Av.congr V101 (fun j hj => by rw [hy101]; exact own_fill i j p2 (y j)))
  refine Rch.of (T' := T0) (g' := (mkF m 1 #[.val (.ref a1), .val (.int p2), .unset, .unset] [(.int (0 : Int32))])) (fun _ kt => XS.iconst X0.here hx rfl (hb hby d_jdk_65_method_103_code_0) kt) ?_
  refine Rch.of (T' := T0) (g' := (mkF m 2 #[.val (.ref a1), .val (.int p2), .val (.int (0 : Int32)), .unset] [])) (fun _ kt => XS.istoreN X0.here hx rfl (hb hby d_jdk_65_method_103_code_1) rfl (l' := #[.val (.ref a1), .val (.int p2), .val (.int (0 : Int32)), .unset]) rfl kt) ?_
  refine Rch.of (T' := T0) (g' := (mkF m 3 #[.val (.ref a1), .val (.int p2), .val (.int (0 : Int32)), .unset] [(.ref a1)])) (fun _ kt => XS.aloadN X0.here hx rfl (hb hby d_jdk_65_method_103_code_2) rfl rfl kt) ?_
  obtain ⟨cl102, Ar102, Sz102, Ha102⟩ := id V1
  refine Rch.of (T' := T0) (g' := (mkF m 4 #[.val (.ref a1), .val (.int p2), .val (.int (0 : Int32)), .unset] [(.int cl102.slots.size.toInt32)])) (X0.arraylength hx (by rw [e0]; exact Ar102.1) (State.isArrayOf_alike hZ.alike Ar102.2.1) (g := (mkF m 3 #[.val (.ref a1), .val (.int p2), .val (.int (0 : Int32)), .unset] [(.ref a1)])) rfl rfl (hb hby d_jdk_65_method_103_code_3)) ?_
  rw [oLen Sz102]
  show Rch p e below K T0 (mkF m 4 #[.val (.ref a1), .val (.int p2), .val (.int (0 : Int32)), .unset] [(.int (Int32.ofNat n))])
  refine Rch.of (T' := T0) (g' := (mkF m 5 #[.val (.ref a1), .val (.int p2), .val (.int (0 : Int32)), .val (.int (Int32.ofNat n))] [])) (fun _ kt => XS.istoreN X0.here hx rfl (hb hby d_jdk_65_method_103_code_4) rfl (l' := #[.val (.ref a1), .val (.int p2), .val (.int (0 : Int32)), .val (.int (Int32.ofNat n))]) rfl kt) ?_
  exact loop n 0 (by omega) T0 _ _ X0 e0 N0 Z0 (Keep.refl h0 [a1]) (V1.congr (fun j hj => by simp))
theorem d_prog_120_method_8_code_0 : decode prog_120_method_8_code 0 = .ok (.iconst 2, 1) := by decide +kernel
theorem d_prog_120_method_8_code_1 : decode prog_120_method_8_code 1 = .ok (.iload_n 0, 1) := by decide +kernel
theorem d_prog_120_method_8_code_2 : decode prog_120_method_8_code 2 = .ok (.imul, 1) := by decide +kernel
theorem d_prog_120_method_8_code_3 : decode prog_120_method_8_code 3 = .ok (.newarray .int, 2) := by decide +kernel
theorem d_prog_120_method_8_code_5 : decode prog_120_method_8_code 5 = .ok (.astore_n 1, 1) := by decide +kernel
theorem d_prog_120_method_8_code_6 : decode prog_120_method_8_code 6 = .ok (.aload_n 1, 1) := by decide +kernel
theorem d_prog_120_method_8_code_7 : decode prog_120_method_8_code 7 = .ok (.iconst (-1), 1) := by decide +kernel
theorem d_prog_120_method_8_code_8 : decode prog_120_method_8_code 8 = .ok (.invokestatic 38, 3) := by decide +kernel
theorem d_prog_120_method_8_code_11 : decode prog_120_method_8_code 11 = .ok (.aload_n 1, 1) := by decide +kernel
theorem d_prog_120_method_8_code_12 : decode prog_120_method_8_code 12 = .ok (.areturn, 1) := by decide +kernel
theorem pn_1 : plainName "com/example/ampliar/ampliar/service/TermNumbering" = true := by first | (simp [plainName, overriddenIn]; done) | decide +kernel
theorem ef_rm3 (m : MethodId)  : entryFrame m #[(.int (64 : Int32))] 2 = mkF m 0 #[.val (.int (64 : Int32)), .unset] [] := by first | (simp [entryFrame, mkF, argsToLocals, Value.category]; done) | rfl
def Q_rm3 (Z : State)  (h0 : Heap) (n0 : Nat) (vv_ : Option Value) (h : Heap) (LL_ : List Loc) : Prop := vv_ = some (.ref h0.size) ∧ Fr n0 LL_ ∧ (Keep h0 h [] ∧ Av Z h h0.size .int 128 (fun _ => .int (-1 : Int32)))
set_option maxRecDepth 65536 in
set_option maxHeartbeats 40000000 in
theorem rm3 (l : Launch) (Z : State) (a0 : Array Value) (hw : ∀ d ∈ tables_1, d.before a0 Z = true) (ws : List Jvm.Cond)  (h0 : Heap) (n0 : Nat) (Z0 : n0 ≤ h0.size)  :
    MetFree l (⟨"com/example/ampliar/ampliar/service/TermNumbering", "emptyTable", "(I)[I"⟩ : MethodName) (head1 (Jvm.Cond.code (⟨"com/example/ampliar/ampliar/service/TermNumbering", "emptyTable", "(I)[I"⟩ : MethodName) prog_120_method_8_code 2 (some (.array .int)) :: ws) ({ frames := 1, cells := 1, slots := 128, locals := 15 } : Room)) (fun aa_ UU_ => aa_ = #[(.int (64 : Int32))] ∧ Z.Warmed39 UU_.vm ∧ UU_.heap = h0) (fun _ _ _ _ _ => True) (fun _ UU_ oo_ VV_ => ∃ vv_ LL_, oo_ = .returned vv_ ∧ Q_rm3 Z  h0 n0 vv_ VV_.heap LL_ ∧ FrameEnd UU_ oo_ VV_ LL_ ({ frames := 1, cells := 1, slots := 128, locals := 15 } : Room).cells ({ frames := 1, cells := 1, slots := 128, locals := 15 } : Room).slots) := by
  refine own_met (y := (⟨"com/example/ampliar/ampliar/service/TermNumbering", "emptyTable", "(I)[I"⟩ : MethodName)) (plainFor_of_name pn_1) ?_
  intro p e s m below meth c T0 K hx hby hml hret hlk hown hnm hZ X0 e0 hK
  have N0 := Fr.nil n0
  refine Rch.cast (ef_rm3 m ) ?_
  refine Rch.of (T' := T0) (g' := (mkF m 1 #[.val (.int (64 : Int32)), .unset] [(.int (2 : Int32))])) (fun _ kt => XS.iconst X0.here hx rfl (hb hby d_prog_120_method_8_code_0) kt) ?_
  refine Rch.of (T' := T0) (g' := (mkF m 2 #[.val (.int (64 : Int32)), .unset] [(.int (64 : Int32)), (.int (2 : Int32))])) (fun _ kt => XS.iloadN X0.here hx rfl (hb hby d_prog_120_method_8_code_1) rfl  kt) ?_
  refine Rch.of (T' := T0) (g' := (mkF m 3 #[.val (.int (64 : Int32)), .unset] [(.int ((2 : Int32) * (64 : Int32)))])) (fun _ kt => XS.imul X0.here hx rfl (hb hby d_prog_120_method_8_code_2) rfl kt) ?_
  rw [show ((2 : Int32) * (64 : Int32)) = (128 : Int32) from by decide]
  obtain ⟨T103, h103, k103, X103, e103, E103, A103, Q103, st103⟩ := newPE X0 hx hZ (hw _ (List.mem_of_getElem? (i := 13) rfl)) e0 (g := (mkF m 3 #[.val (.int (64 : Int32)), .unset] [(.int (128 : Int32))])) rfl (hb hby d_prog_120_method_8_code_3) rfl (by decide) (cap := 128) (by decide) (by decide) (by decide) (by decide) (ad := "[I") rfl
  obtain ⟨b103, g103⟩ : ∃ zz_, zz_ = h0.size := ⟨_, rfl⟩
  have ge_b103 : n0 ≤ b103 := Nat.le_trans Z0 (Nat.le_of_eq g103.symm)
  have sz_b103 : h0.size ≤ b103 := Nat.le_trans (Keep.refl h0 []).1 (Nat.le_of_eq g103.symm)
  rw [← g103] at A103 Q103 st103
  have V103 : Av Z h103 b103 .int 128 (fun _ => (.int (0 : Int32))) := Av.new A103 (by decide)
  refine Rch.of (T' := T103) (g' := (mkF m 5 #[.val (.int (64 : Int32)), .unset] [(.ref b103)])) st103 ?_
  refine Rch.of (T' := T103) (g' := (mkF m 6 #[.val (.int (64 : Int32)), .val (.ref b103)] [])) (fun _ kt => XS.astoreN X103.here hx rfl (hb hby d_prog_120_method_8_code_5) rfl rfl (l' := #[.val (.int (64 : Int32)), .val (.ref b103)]) rfl kt) ?_
  refine Rch.of (T' := T103) (g' := (mkF m 7 #[.val (.int (64 : Int32)), .val (.ref b103)] [(.ref b103)])) (fun _ kt => XS.aloadN X103.here hx rfl (hb hby d_prog_120_method_8_code_6) rfl rfl kt) ?_
  refine Rch.of (T' := T103) (g' := (mkF m 8 #[.val (.int (64 : Int32)), .val (.ref b103)] [(.int (-1 : Int32)), (.ref b103)])) (fun _ kt => XS.iconst X103.here hx rfl (hb hby d_prog_120_method_8_code_7) kt) ?_
  obtain ⟨_, _, ⟨T104, L104, k104, n104⟩, -, X104, ⟨Lc104, hQ104, l104, y104, z104⟩, st104⟩ := Jvm.LawKit.callS X103 hx (y := (⟨"java/util/Arrays", "fill", "([II)V"⟩ : MethodName)) hown (mvT hZ (hw _ (List.mem_of_getElem? (i := 14) rfl))) (mvT hZ (hw _ (List.mem_of_getElem? (i := 15) rfl))) (mvT hZ (hw _ (List.mem_of_getElem? (i := 16) rfl))) (mvT hZ (hw _ (List.mem_of_getElem? (i := 17) rfl))) (by decide) (backOf (W := 0) (rm4 l Z a0 hw [] b103 (-1 : Int32) 128 (fun _ => (0 : Int32)) h103 n0 (Nat.le_trans Z0 E103.1) V103 ge_b103 (by decide)) hZ (hw _ (List.mem_of_getElem? (i := 17) rfl)) (hw _ (List.mem_of_getElem? (i := 16) rfl)) (by decide) (by decide)) (g := (mkF m 8 #[.val (.int (64 : Int32)), .val (.ref b103)] [(.int (-1 : Int32)), (.ref b103)])) rfl (by rw [hml]; rfl) (argsL := [(.ref b103), (.int (-1 : Int32))]) (rest := []) (lenOf pd_2 rfl) rfl (by show 2 * 0 + _ ≤ _; exact Nat.le_of_eq rfl) (hb hby d_prog_120_method_8_code_8) (fun _ _ => ⟨rfl, e103, (by decide : 1 + 0 ≤ _), (by decide : 128 + 0 ≤ _)⟩)
  dsimp only [Pt.U, Pt.locs, Pt.cells, Pt.slots] at X104 l104 y104 z104 st104 hQ104
  subst l104 y104 z104
  obtain ⟨rfl, N104q, hQ104⟩ := hQ104
  have N104 := Fr.app N0 N104q
  obtain ⟨K104, V104⟩ := hQ104
  refine Rch.of (T' := T104) (g' := (mkF m 11 #[.val (.int (64 : Int32)), .val (.ref b103)] [])) st104 ?_
  refine Rch.of (T' := T104) (g' := (mkF m 12 #[.val (.int (64 : Int32)), .val (.ref b103)] [(.ref b103)])) (fun _ kt => XS.aloadN X104.here hx rfl (hb hby d_prog_120_method_8_code_11) rfl rfl kt) ?_
  exact Rch.retA X104 hx (w := (.ref b103)) hret rfl rfl hlk (hb hby d_prog_120_method_8_code_12) (fun U hU hF => hK _ U _ _ _ (by show Q_rm3 Z  h0 n0 _ U.heap _; rw [hU]; exact ⟨by rw [g103], N104, by rw [← g103]; exact ⟨(((Keep.refl h0 []).ext E103).trans K104 (allS (Or.inr sz_b103) all0)), V104⟩⟩) hF (by decide) (by decide))
theorem d_prog_120_method_1_code_0 : decode prog_120_method_1_code 0 = .ok (.aload_n 0, 1) := by decide +kernel
theorem d_prog_120_method_1_code_1 : decode prog_120_method_1_code 1 = .ok (.invokespecial 1, 3) := by decide +kernel
theorem d_prog_120_method_1_code_4 : decode prog_120_method_1_code 4 = .ok (.aload_n 0, 1) := by decide +kernel
theorem d_prog_120_method_1_code_5 : decode prog_120_method_1_code 5 = .ok (.bipush 64, 2) := by decide +kernel
theorem d_prog_120_method_1_code_7 : decode prog_120_method_1_code 7 = .ok (.invokestatic 7, 3) := by decide +kernel
theorem d_prog_120_method_1_code_10 : decode prog_120_method_1_code 10 = .ok (.putfield 13, 3) := by decide +kernel
theorem d_prog_120_method_1_code_13 : decode prog_120_method_1_code 13 = .ok (.aload_n 0, 1) := by decide +kernel
theorem d_prog_120_method_1_code_14 : decode prog_120_method_1_code 14 = .ok (.bipush 32, 2) := by decide +kernel
theorem d_prog_120_method_1_code_16 : decode prog_120_method_1_code 16 = .ok (.newarray .int, 2) := by decide +kernel
theorem d_prog_120_method_1_code_18 : decode prog_120_method_1_code 18 = .ok (.putfield 17, 3) := by decide +kernel
theorem d_prog_120_method_1_code_21 : decode prog_120_method_1_code 21 = .ok (.return_, 1) := by decide +kernel
theorem ef_rm1 (m : MethodId) (a1 : Addr) : entryFrame m #[(.ref a1)] 1 = mkF m 0 #[.val (.ref a1)] [] := by first | (simp [entryFrame, mkF, argsToLocals, Value.category]; done) | rfl
def Q_rm1 (Z : State) (a1 : Addr) (u1 : Value) (u2 : Value) (h0 : Heap) (n0 : Nat) (vv_ : Option Value) (h : Heap) (LL_ : List Loc) : Prop := vv_ = none ∧ Fr n0 LL_ ∧ (∃ t b, h0.size ≤ t ∧ h0.size ≤ b ∧ t ≠ b ∧ Keep h0 h [a1] ∧ Exa Z h a1 "com/example/ampliar/ampliar/service/TermNumbering" ∧ Fld Z h a1 "com/example/ampliar/ampliar/service/TermNumbering" "table" "[I" (.ref t) ∧ Fld Z h a1 "com/example/ampliar/ampliar/service/TermNumbering" "numbered" "[I" (.ref b) ∧ Fld Z h a1 "com/example/ampliar/ampliar/service/TermNumbering" "size" "I" (.int (Int32.ofNat 0)) ∧ Av Z h t .int 128 (fun _ => .int (-1 : Int32)) ∧ Av Z h b .int 32 (fun _ => .int (0 : Int32)))
set_option maxRecDepth 65536 in
set_option maxHeartbeats 40000000 in
theorem rm1 (l : Launch) (Z : State) (a0 : Array Value) (hw : ∀ d ∈ tables_1, d.before a0 Z = true) (ws : List Jvm.Cond) (a1 : Addr) (u1 : Value) (u2 : Value) (h0 : Heap) (n0 : Nat) (Z0 : n0 ≤ h0.size) (E1 : Exa Z h0 a1 "com/example/ampliar/ampliar/service/TermNumbering") (F1 : Fld Z h0 a1 "com/example/ampliar/ampliar/service/TermNumbering" "table" "[I" u1) (F2 : Fld Z h0 a1 "com/example/ampliar/ampliar/service/TermNumbering" "numbered" "[I" u2) (F3 : Fld Z h0 a1 "com/example/ampliar/ampliar/service/TermNumbering" "size" "I" (.int (0 : Int32))) (g1 : n0 ≤ a1) :
    MetFree l (⟨"com/example/ampliar/ampliar/service/TermNumbering", "<init>", "()V"⟩ : MethodName) (head1 (Jvm.Cond.code (⟨"com/example/ampliar/ampliar/service/TermNumbering", "<init>", "()V"⟩ : MethodName) prog_120_method_1_code 1 none :: ws) ({ frames := 2, cells := 2, slots := 160, locals := 29 } : Room)) (fun aa_ UU_ => aa_ = #[(.ref a1)] ∧ Z.Warmed39 UU_.vm ∧ UU_.heap = h0) (fun _ _ _ _ _ => True) (fun _ UU_ oo_ VV_ => ∃ vv_ LL_, oo_ = .returned vv_ ∧ Q_rm1 Z a1 u1 u2 h0 n0 vv_ VV_.heap LL_ ∧ FrameEnd UU_ oo_ VV_ LL_ ({ frames := 2, cells := 2, slots := 160, locals := 29 } : Room).cells ({ frames := 2, cells := 2, slots := 160, locals := 29 } : Room).slots) := by
  refine own_met (y := (⟨"com/example/ampliar/ampliar/service/TermNumbering", "<init>", "()V"⟩ : MethodName)) (plainFor_of_name pn_1) ?_
  intro p e s m below meth c T0 K hx hby hml hret hlk hown hnm hZ X0 e0 hK
  have N0 := Fr.nil n0
  refine Rch.cast (ef_rm1 m a1) ?_
  refine Rch.of (T' := T0) (g' := (mkF m 1 #[.val (.ref a1)] [(.ref a1)])) (fun _ kt => XS.aloadN X0.here hx rfl (hb hby d_prog_120_method_1_code_0) rfl rfl kt) ?_
  obtain ⟨T105, X105, e105, st105⟩ := initO X0 hx hZ hown (hw _ (List.mem_of_getElem? (i := 7) rfl)) (hw _ (List.mem_of_getElem? (i := 8) rfl)) (hw _ (List.mem_of_getElem? (i := 9) rfl)) e0 (g := (mkF m 1 #[.val (.ref a1)] [(.ref a1)])) rfl (by rw [hml]; rfl) rfl (hb hby d_prog_120_method_1_code_1) (by decide) (W := 0) (by show 2 * 0 + _ ≤ _; exact Nat.le_of_eq rfl) (by decide)
  refine Rch.of (T' := T105) (g' := (mkF m 4 #[.val (.ref a1)] [])) st105 ?_
  refine Rch.of (T' := T105) (g' := (mkF m 5 #[.val (.ref a1)] [(.ref a1)])) (fun _ kt => XS.aloadN X105.here hx rfl (hb hby d_prog_120_method_1_code_4) rfl rfl kt) ?_
  refine Rch.of (T' := T105) (g' := (mkF m 7 #[.val (.ref a1)] [(.int (64 : Int32)), (.ref a1)])) (fun _ kt => XS.bipush X105.here hx rfl (hb hby d_prog_120_method_1_code_5) kt) ?_
  obtain ⟨_, _, ⟨T106, L106, k106, n106⟩, -, X106, ⟨Lc106, hQ106, l106, y106, z106⟩, st106⟩ := Jvm.LawKit.callS X105 hx (y := (⟨"com/example/ampliar/ampliar/service/TermNumbering", "emptyTable", "(I)[I"⟩ : MethodName)) hown (mvT hZ (hw _ (List.mem_of_getElem? (i := 10) rfl))) (mvT hZ (hw _ (List.mem_of_getElem? (i := 11) rfl))) (mvT hZ (hw _ (List.mem_of_getElem? (i := 3) rfl))) (mvT hZ (hw _ (List.mem_of_getElem? (i := 12) rfl))) (by decide) (backOf (W := 1) (rm3 l Z a0 hw []  h0 n0 Z0 ) hZ (hw _ (List.mem_of_getElem? (i := 12) rfl)) (hw _ (List.mem_of_getElem? (i := 3) rfl)) (by decide) (by decide)) (g := (mkF m 7 #[.val (.ref a1)] [(.int (64 : Int32)), (.ref a1)])) rfl (by rw [hml]; rfl) (argsL := [(.int (64 : Int32))]) (rest := [(.ref a1)]) (lenOf pd_1 rfl) rfl (by show 2 * 0 + _ ≤ _; exact Nat.le_of_eq rfl) (hb hby d_prog_120_method_1_code_7) (fun _ _ => ⟨rfl, e105, (by decide : 0 + 1 ≤ _), (by decide : 0 + 128 ≤ _)⟩)
  dsimp only [Pt.U, Pt.locs, Pt.cells, Pt.slots] at X106 l106 y106 z106 st106 hQ106
  subst l106 y106 z106
  obtain ⟨rfl, N106q, hQ106⟩ := hQ106
  have N106 := Fr.app N0 N106q
  obtain ⟨K106, V106⟩ := hQ106
  obtain ⟨b106, g106⟩ : ∃ zz_, zz_ = h0.size := ⟨_, rfl⟩
  have ne_a1_b106 : a1 ≠ b106 := Nat.ne_of_lt (Nat.lt_of_lt_of_le E1.lt (Nat.le_of_eq g106.symm))
  have ge_b106 : n0 ≤ b106 := Nat.le_trans Z0 (Nat.le_of_eq g106.symm)
  have sz_b106 : h0.size ≤ b106 := Nat.le_trans (Keep.refl h0 [a1]).1 (Nat.le_of_eq g106.symm)
  rw [← g106] at V106 st106
  refine Rch.of (T' := T106) (g' := (mkF m 10 #[.val (.ref a1)] [(.ref b106), (.ref a1)])) st106 ?_
  obtain ⟨T107, h107, X107, e107, W107, st107⟩ := putF X106 hx hZ hown (host := "") (Or.inl (hw _ (List.mem_of_getElem? (i := 18) rfl))) Via.refl rfl (F1.keep K106 nin0) (E1.keep K106) (Or.inl (hw _ (List.mem_of_getElem? (i := 19) rfl))) (hw _ (List.mem_of_getElem? (i := 2) rfl)) (ty := (.array .int)) (by decide) rfl rfl (g := (mkF m 10 #[.val (.ref a1)] [(.ref b106), (.ref a1)])) rfl rfl (hb hby d_prog_120_method_1_code_10)
  have N107 := Fr.snoc X107 N106 g1
  have Fw107 := Fld.same W107 (F1.keep K106 nin0)
  have Fb108 := ((F2.keep K106 nin0).other W107 (Or.inr (slot_ne (Or.inl (hw _ (List.mem_of_getElem? (i := 21) rfl))) (Or.inl (hw _ (List.mem_of_getElem? (i := 19) rfl))) (by decide) (t := (.array .int)) (t' := (.array .int)) (by decide) (by decide))))
  have Fb109 := ((F3.keep K106 nin0).other W107 (Or.inr (slot_ne (Or.inl (hw _ (List.mem_of_getElem? (i := 42) rfl))) (Or.inl (hw _ (List.mem_of_getElem? (i := 19) rfl))) (by decide) (t := .int) (t' := (.array .int)) (by decide) (by decide))))
  refine Rch.of (T' := T107) (g' := (mkF m 13 #[.val (.ref a1)] [])) st107 ?_
  refine Rch.of (T' := T107) (g' := (mkF m 14 #[.val (.ref a1)] [(.ref a1)])) (fun _ kt => XS.aloadN X107.here hx rfl (hb hby d_prog_120_method_1_code_13) rfl rfl kt) ?_
  refine Rch.of (T' := T107) (g' := (mkF m 16 #[.val (.ref a1)] [(.int (32 : Int32)), (.ref a1)])) (fun _ kt => XS.bipush X107.here hx rfl (hb hby d_prog_120_method_1_code_14) kt) ?_
  obtain ⟨T110, h110, k110, X110, e110, E110, A110, Q110, st110⟩ := newPE X107 hx hZ (hw _ (List.mem_of_getElem? (i := 13) rfl)) e107 (g := (mkF m 16 #[.val (.ref a1)] [(.int (32 : Int32)), (.ref a1)])) rfl (hb hby d_prog_120_method_1_code_16) rfl (by decide) (cap := 32) (by decide) (by decide) (by decide) (by decide) (ad := "[I") rfl
  obtain ⟨b110, g110⟩ : ∃ zz_, zz_ = h107.size := ⟨_, rfl⟩
  have ne_a1_b110 : a1 ≠ b110 := Nat.ne_of_lt (Nat.lt_of_lt_of_le ((E1.keep K106).wr W107).lt (Nat.le_of_eq g110.symm))
  have ne_b106_b110 : b106 ≠ b110 := Nat.ne_of_lt (Nat.lt_of_lt_of_le (V106.other W107 (Ne.symm ne_a1_b106)).lt (Nat.le_of_eq g110.symm))
  have ge_b110 : n0 ≤ b110 := Nat.le_trans (Nat.le_trans (Nat.le_trans Z0 K106.1) (Keep.of_wr W107).1) (Nat.le_of_eq g110.symm)
  have sz_b110 : h0.size ≤ b110 := Nat.le_trans (((Keep.refl h0 [a1]).trans K106 all0).wr W107 (Or.inl (List.mem_of_getElem? (i := 0) rfl))).1 (Nat.le_of_eq g110.symm)
  rw [← g110] at A110 Q110 st110
  have V110 : Av Z h110 b110 .int 32 (fun _ => (.int (0 : Int32))) := Av.new A110 (by decide)
  refine Rch.of (T' := T110) (g' := (mkF m 18 #[.val (.ref a1)] [(.ref b110), (.ref a1)])) st110 ?_
  obtain ⟨T111, h111, X111, e111, W111, st111⟩ := putF X110 hx hZ hown (host := "") (Or.inl (hw _ (List.mem_of_getElem? (i := 20) rfl))) Via.refl e110 (Fb108.ext E110) (((E1.keep K106).wr W107).ext E110) (Or.inl (hw _ (List.mem_of_getElem? (i := 21) rfl))) (hw _ (List.mem_of_getElem? (i := 2) rfl)) (ty := (.array .int)) (by decide) rfl rfl (g := (mkF m 18 #[.val (.ref a1)] [(.ref b110), (.ref a1)])) rfl rfl (hb hby d_prog_120_method_1_code_18)
  have N111 := Fr.snoc X111 N107 g1
  have Fw111 := Fld.same W111 (Fb108.ext E110)
  have Fb112 := ((Fw107.ext E110).other W111 (Or.inr (slot_ne (Or.inl (hw _ (List.mem_of_getElem? (i := 19) rfl))) (Or.inl (hw _ (List.mem_of_getElem? (i := 21) rfl))) (by decide) (t := (.array .int)) (t' := (.array .int)) (by decide) (by decide))))
  have Fb113 := ((Fb109.ext E110).other W111 (Or.inr (slot_ne (Or.inl (hw _ (List.mem_of_getElem? (i := 42) rfl))) (Or.inl (hw _ (List.mem_of_getElem? (i := 21) rfl))) (by decide) (t := .int) (t' := (.array .int)) (by decide) (by decide))))
  refine Rch.of (T' := T111) (g' := (mkF m 21 #[.val (.ref a1)] [])) st111 ?_
  exact Rch.retV X111 hx hret hlk (hb hby d_prog_120_method_1_code_21) (fun U hU hF => hK _ U _ _ _ (by show Q_rm1 Z a1 u1 u2 h0 n0 _ U.heap _; rw [hU, e111]; exact ⟨rfl, N111, b106, b110, sz_b106, sz_b110, ne_b106_b110, (((((Keep.refl h0 [a1]).trans K106 all0).wr W107 (Or.inl (List.mem_of_getElem? (i := 0) rfl))).ext E110).wr W111 (Or.inl (List.mem_of_getElem? (i := 0) rfl))), ((((E1.keep K106).wr W107).ext E110).wr W111), Fb112, Fw111, Fb113, (((V106.other W107 (Ne.symm ne_a1_b106)).ext E110).other W111 (Ne.symm ne_a1_b106)), (V110.other W111 (Ne.symm ne_a1_b110))⟩) hF (by decide) (by decide))
theorem d_prog_120_method_6_code_0 : decode prog_120_method_6_code 0 = .ok (.aload_n 0, 1) := by decide +kernel
theorem d_prog_120_method_6_code_1 : decode prog_120_method_6_code 1 = .ok (.getfield 13, 3) := by decide +kernel
theorem d_prog_120_method_6_code_4 : decode prog_120_method_6_code 4 = .ok (.arraylength, 1) := by decide +kernel
theorem d_prog_120_method_6_code_5 : decode prog_120_method_6_code 5 = .ok (.iconst 2, 1) := by decide +kernel
theorem d_prog_120_method_6_code_6 : decode prog_120_method_6_code 6 = .ok (.idiv, 1) := by decide +kernel
theorem d_prog_120_method_6_code_7 : decode prog_120_method_6_code 7 = .ok (.iconst 1, 1) := by decide +kernel
theorem d_prog_120_method_6_code_8 : decode prog_120_method_6_code 8 = .ok (.isub, 1) := by decide +kernel
theorem d_prog_120_method_6_code_9 : decode prog_120_method_6_code 9 = .ok (.istore_n 2, 1) := by decide +kernel
theorem d_prog_120_method_6_code_10 : decode prog_120_method_6_code 10 = .ok (.iload_n 1, 1) := by decide +kernel
theorem d_prog_120_method_6_code_11 : decode prog_120_method_6_code 11 = .ok (.ldc 37, 2) := by decide +kernel
theorem d_prog_120_method_6_code_13 : decode prog_120_method_6_code 13 = .ok (.imul, 1) := by decide +kernel
theorem d_prog_120_method_6_code_14 : decode prog_120_method_6_code 14 = .ok (.istore_n 3, 1) := by decide +kernel
theorem d_prog_120_method_6_code_15 : decode prog_120_method_6_code 15 = .ok (.iload_n 3, 1) := by decide +kernel
theorem d_prog_120_method_6_code_16 : decode prog_120_method_6_code 16 = .ok (.iload_n 3, 1) := by decide +kernel
theorem d_prog_120_method_6_code_17 : decode prog_120_method_6_code 17 = .ok (.bipush 16, 2) := by decide +kernel
theorem d_prog_120_method_6_code_19 : decode prog_120_method_6_code 19 = .ok (.iushr, 1) := by decide +kernel
theorem d_prog_120_method_6_code_20 : decode prog_120_method_6_code 20 = .ok (.ixor, 1) := by decide +kernel
theorem d_prog_120_method_6_code_21 : decode prog_120_method_6_code 21 = .ok (.iload_n 2, 1) := by decide +kernel
theorem d_prog_120_method_6_code_22 : decode prog_120_method_6_code 22 = .ok (.iand, 1) := by decide +kernel
theorem d_prog_120_method_6_code_23 : decode prog_120_method_6_code 23 = .ok (.istore 4, 2) := by decide +kernel
theorem d_prog_120_method_6_code_25 : decode prog_120_method_6_code 25 = .ok (.aload_n 0, 1) := by decide +kernel
theorem d_prog_120_method_6_code_26 : decode prog_120_method_6_code 26 = .ok (.getfield 13, 3) := by decide +kernel
theorem d_prog_120_method_6_code_29 : decode prog_120_method_6_code 29 = .ok (.iconst 2, 1) := by decide +kernel
theorem d_prog_120_method_6_code_30 : decode prog_120_method_6_code 30 = .ok (.iload 4, 2) := by decide +kernel
theorem d_prog_120_method_6_code_32 : decode prog_120_method_6_code 32 = .ok (.imul, 1) := by decide +kernel
theorem d_prog_120_method_6_code_33 : decode prog_120_method_6_code 33 = .ok (.iaload, 1) := by decide +kernel
theorem d_prog_120_method_6_code_34 : decode prog_120_method_6_code 34 = .ok (.iconst (-1), 1) := by decide +kernel
theorem d_prog_120_method_6_code_35 : decode prog_120_method_6_code 35 = .ok (.if_icmp .eq 27, 3) := by decide +kernel
theorem d_prog_120_method_6_code_38 : decode prog_120_method_6_code 38 = .ok (.aload_n 0, 1) := by decide +kernel
theorem d_prog_120_method_6_code_39 : decode prog_120_method_6_code 39 = .ok (.getfield 13, 3) := by decide +kernel
theorem d_prog_120_method_6_code_42 : decode prog_120_method_6_code 42 = .ok (.iconst 2, 1) := by decide +kernel
theorem d_prog_120_method_6_code_43 : decode prog_120_method_6_code 43 = .ok (.iload 4, 2) := by decide +kernel
theorem d_prog_120_method_6_code_45 : decode prog_120_method_6_code 45 = .ok (.imul, 1) := by decide +kernel
theorem d_prog_120_method_6_code_46 : decode prog_120_method_6_code 46 = .ok (.iaload, 1) := by decide +kernel
theorem d_prog_120_method_6_code_47 : decode prog_120_method_6_code 47 = .ok (.iload_n 1, 1) := by decide +kernel
theorem d_prog_120_method_6_code_48 : decode prog_120_method_6_code 48 = .ok (.if_icmp .eq 14, 3) := by decide +kernel
theorem d_prog_120_method_6_code_51 : decode prog_120_method_6_code 51 = .ok (.iload 4, 2) := by decide +kernel
theorem d_prog_120_method_6_code_53 : decode prog_120_method_6_code 53 = .ok (.iconst 1, 1) := by decide +kernel
theorem d_prog_120_method_6_code_54 : decode prog_120_method_6_code 54 = .ok (.iadd, 1) := by decide +kernel
theorem d_prog_120_method_6_code_55 : decode prog_120_method_6_code 55 = .ok (.iload_n 2, 1) := by decide +kernel
theorem d_prog_120_method_6_code_56 : decode prog_120_method_6_code 56 = .ok (.iand, 1) := by decide +kernel
theorem d_prog_120_method_6_code_57 : decode prog_120_method_6_code 57 = .ok (.istore 4, 2) := by decide +kernel
theorem d_prog_120_method_6_code_59 : decode prog_120_method_6_code 59 = .ok (.goto (-34), 3) := by decide +kernel
theorem d_prog_120_method_6_code_62 : decode prog_120_method_6_code 62 = .ok (.iconst 2, 1) := by decide +kernel
theorem d_prog_120_method_6_code_63 : decode prog_120_method_6_code 63 = .ok (.iload 4, 2) := by decide +kernel
theorem d_prog_120_method_6_code_65 : decode prog_120_method_6_code 65 = .ok (.imul, 1) := by decide +kernel
theorem d_prog_120_method_6_code_66 : decode prog_120_method_6_code 66 = .ok (.ireturn, 1) := by decide +kernel
theorem ef_rm7 (m : MethodId) (a1 : Addr) (p2 : Int32) : entryFrame m #[(.ref a1), (.int p2)] 5 = mkF m 0 #[.val (.ref a1), .val (.int p2), .unset, .unset, .unset] [] := by first | (simp [entryFrame, mkF, argsToLocals, Value.category]; done) | rfl
def Q_rm7 (Z : State) (a1 : Addr) (p2 : Int32) (t : Addr) (y : Nat → Int32) (h0 : Heap) (n0 : Nat) (vv_ : Option Value) (h : Heap) (LL_ : List Loc) : Prop := vv_ = some (.int (Int32.ofNat (2 * own_slot y p2))) ∧ Fr n0 LL_ ∧ (h = h0)
set_option maxRecDepth 65536 in
set_option maxHeartbeats 40000000 in
theorem rm7 (l : Launch) (Z : State) (a0 : Array Value) (hw : ∀ d ∈ tables_1, d.before a0 Z = true) (ws : List Jvm.Cond) (a1 : Addr) (p2 : Int32) (t : Addr) (y : Nat → Int32) (h0 : Heap) (n0 : Nat) (Z0 : n0 ≤ h0.size) (F1 : Fld Z h0 a1 "com/example/ampliar/ampliar/service/TermNumbering" "table" "[I" (.ref t)) (V1 : Av Z h0 t .int 128 (fun q => .int (y q))) (hok : own_ok y p2 64 (own_h p2)) :
    MetFree l (⟨"com/example/ampliar/ampliar/service/TermNumbering", "slot", "(I)I"⟩ : MethodName) (head1 (Jvm.Cond.code (⟨"com/example/ampliar/ampliar/service/TermNumbering", "slot", "(I)I"⟩ : MethodName) prog_120_method_6_code 5 (some .int) :: ws) ({ frames := 0, cells := 0, slots := 0, locals := 0 } : Room)) (fun aa_ UU_ => aa_ = #[(.ref a1), (.int p2)] ∧ Z.Warmed39 UU_.vm ∧ UU_.heap = h0) (fun _ _ _ _ _ => True) (fun _ UU_ oo_ VV_ => ∃ vv_ LL_, oo_ = .returned vv_ ∧ Q_rm7 Z a1 p2 t y h0 n0 vv_ VV_.heap LL_ ∧ FrameEnd UU_ oo_ VV_ LL_ ({ frames := 0, cells := 0, slots := 0, locals := 0 } : Room).cells ({ frames := 0, cells := 0, slots := 0, locals := 0 } : Room).slots) := by
  refine own_met (y := (⟨"com/example/ampliar/ampliar/service/TermNumbering", "slot", "(I)I"⟩ : MethodName)) (plainFor_of_name pn_1) ?_
  intro p e s m below meth c T0 K hx hby hml hret hlk hown hnm hZ X0 e0 hK
  have N0 := Fr.nil n0
  refine Rch.cast (ef_rm7 m a1 p2) ?_
  have loop : ∀ (f q : Nat) (hq : q < 64) (hok : own_ok y p2 f q) (hs : own_slot y p2 = own_probe y p2 f q) (T : State) (X : Stand p l e ({ frames := 0, cells := 0, slots := 0, locals := 0 } : Room) s m #[(.ref a1), (.int p2)] below meth c T [] 0 0) (eT : T.heap = h0), Rch p e below K T (mkF m 25 #[.val (.ref a1), .val (.int p2), .val (.int (63 : Int32)), .val (.int (p2 * (-1640531527 : Int32))), .val (.int (Int32.ofNat q))] []) := by
    intro f
    induction f with
    | zero => intro q hq hok; exact absurd hok id
    | succ f ih =>
      intro q hq hok hs T X eT
      refine Rch.of (T' := T) (g' := (mkF m 26 #[.val (.ref a1), .val (.int p2), .val (.int (63 : Int32)), .val (.int (p2 * (-1640531527 : Int32))), .val (.int (Int32.ofNat q))] [(.ref a1)])) (fun _ kt => XS.aloadN X.here hx rfl (hb hby d_prog_120_method_6_code_25) rfl rfl kt) ?_
      obtain ⟨T114, X114, e114, st114⟩ := getF X hx hZ hown (host := "") (Or.inl (hw _ (List.mem_of_getElem? (i := 18) rfl))) Via.refl eT F1 (g := (mkF m 26 #[.val (.ref a1), .val (.int p2), .val (.int (63 : Int32)), .val (.int (p2 * (-1640531527 : Int32))), .val (.int (Int32.ofNat q))] [(.ref a1)])) rfl rfl (hb hby d_prog_120_method_6_code_26)
      refine Rch.of (T' := T114) (g' := (mkF m 29 #[.val (.ref a1), .val (.int p2), .val (.int (63 : Int32)), .val (.int (p2 * (-1640531527 : Int32))), .val (.int (Int32.ofNat q))] [(.ref t)])) st114 ?_
      refine Rch.of (T' := T114) (g' := (mkF m 30 #[.val (.ref a1), .val (.int p2), .val (.int (63 : Int32)), .val (.int (p2 * (-1640531527 : Int32))), .val (.int (Int32.ofNat q))] [(.int (2 : Int32)), (.ref t)])) (fun _ kt => XS.iconst X114.here hx rfl (hb hby d_prog_120_method_6_code_29) kt) ?_
      refine Rch.of (T' := T114) (g' := (mkF m 32 #[.val (.ref a1), .val (.int p2), .val (.int (63 : Int32)), .val (.int (p2 * (-1640531527 : Int32))), .val (.int (Int32.ofNat q))] [(.int (Int32.ofNat q)), (.int (2 : Int32)), (.ref t)])) (fun _ kt => XS.iload X114.here hx rfl (hb hby d_prog_120_method_6_code_30) rfl  kt) ?_
      refine Rch.of (T' := T114) (g' := (mkF m 33 #[.val (.ref a1), .val (.int p2), .val (.int (63 : Int32)), .val (.int (p2 * (-1640531527 : Int32))), .val (.int (Int32.ofNat q))] [(.int ((2 : Int32) * (Int32.ofNat q))), (.ref t)])) (fun _ kt => XS.imul X114.here hx rfl (hb hby d_prog_120_method_6_code_32) rfl kt) ?_
      obtain ⟨cl115, Ar115, Sz115, Ha115⟩ := id V1
      refine Rch.of (T' := T114) (g' := (mkF m 34 #[.val (.ref a1), .val (.int p2), .val (.int (63 : Int32)), .val (.int (p2 * (-1640531527 : Int32))), .val (.int (Int32.ofNat q))] [(.int (y (2 * q)))])) (X114.iaload hx (j := ((2 : Int32) * (Int32.ofNat q))) (v := (.int (y (2 * q)))) (by rw [e114]; exact Ar115.1) (State.isArrayOf_alike hZ.alike Ar115.2.1) Ar115.2.2 (oIn Sz115 (own_dblI hq) (by omega)) (oAt Ha115 (own_dblI hq) (by omega)) (g := (mkF m 33 #[.val (.ref a1), .val (.int p2), .val (.int (63 : Int32)), .val (.int (p2 * (-1640531527 : Int32))), .val (.int (Int32.ofNat q))] [(.int ((2 : Int32) * (Int32.ofNat q))), (.ref t)])) rfl rfl (hb hby d_prog_120_method_6_code_33)) ?_
      refine Rch.of (T' := T114) (g' := (mkF m 35 #[.val (.ref a1), .val (.int p2), .val (.int (63 : Int32)), .val (.int (p2 * (-1640531527 : Int32))), .val (.int (Int32.ofNat q))] [(.int (-1 : Int32)), (.int (y (2 * q)))])) (fun _ kt => XS.iconst X114.here hx rfl (hb hby d_prog_120_method_6_code_34) kt) ?_
      by_cases c116 : (y (2 * q)) = (-1 : Int32)
      · skip
        refine Rch.of (T' := T114) (g' := (mkF m 62 #[.val (.ref a1), .val (.int p2), .val (.int (63 : Int32)), .val (.int (p2 * (-1640531527 : Int32))), .val (.int (Int32.ofNat q))] [])) (fun _ kt => XS.icmpYes X114.here hx rfl (pc0 := 35) (pc' := 62) rfl (hb hby d_prog_120_method_6_code_35) rfl (teq c116).1 (by decide) (by decide) kt) ?_
        refine Rch.of (T' := T114) (g' := (mkF m 63 #[.val (.ref a1), .val (.int p2), .val (.int (63 : Int32)), .val (.int (p2 * (-1640531527 : Int32))), .val (.int (Int32.ofNat q))] [(.int (2 : Int32))])) (fun _ kt => XS.iconst X114.here hx rfl (hb hby d_prog_120_method_6_code_62) kt) ?_
        refine Rch.of (T' := T114) (g' := (mkF m 65 #[.val (.ref a1), .val (.int p2), .val (.int (63 : Int32)), .val (.int (p2 * (-1640531527 : Int32))), .val (.int (Int32.ofNat q))] [(.int (Int32.ofNat q)), (.int (2 : Int32))])) (fun _ kt => XS.iload X114.here hx rfl (hb hby d_prog_120_method_6_code_63) rfl  kt) ?_
        refine Rch.of (T' := T114) (g' := (mkF m 66 #[.val (.ref a1), .val (.int p2), .val (.int (63 : Int32)), .val (.int (p2 * (-1640531527 : Int32))), .val (.int (Int32.ofNat q))] [(.int ((2 : Int32) * (Int32.ofNat q)))])) (fun _ kt => XS.imul X114.here hx rfl (hb hby d_prog_120_method_6_code_65) rfl kt) ?_
        exact Rch.retI X114 hx hret hlk (hb hby d_prog_120_method_6_code_66) (fun U hU hF => hK _ U _ _ _ (by show Q_rm7 Z a1 p2 t y h0 n0 _ U.heap _; rw [hU, e114]; exact ⟨by rw [hs, own_probe, if_pos c116, own_dbl], N0, rfl⟩) hF (by decide) (by decide))
      · skip
        refine Rch.of (T' := T114) (g' := (mkF m 38 #[.val (.ref a1), .val (.int p2), .val (.int (63 : Int32)), .val (.int (p2 * (-1640531527 : Int32))), .val (.int (Int32.ofNat q))] [])) (fun _ kt => XS.icmpNo X114.here hx rfl (hb hby d_prog_120_method_6_code_35) rfl (feq c116).1 kt) ?_
        refine Rch.of (T' := T114) (g' := (mkF m 39 #[.val (.ref a1), .val (.int p2), .val (.int (63 : Int32)), .val (.int (p2 * (-1640531527 : Int32))), .val (.int (Int32.ofNat q))] [(.ref a1)])) (fun _ kt => XS.aloadN X114.here hx rfl (hb hby d_prog_120_method_6_code_38) rfl rfl kt) ?_
        obtain ⟨T117, X117, e117, st117⟩ := getF X114 hx hZ hown (host := "") (Or.inl (hw _ (List.mem_of_getElem? (i := 18) rfl))) Via.refl e114 F1 (g := (mkF m 39 #[.val (.ref a1), .val (.int p2), .val (.int (63 : Int32)), .val (.int (p2 * (-1640531527 : Int32))), .val (.int (Int32.ofNat q))] [(.ref a1)])) rfl rfl (hb hby d_prog_120_method_6_code_39)
        refine Rch.of (T' := T117) (g' := (mkF m 42 #[.val (.ref a1), .val (.int p2), .val (.int (63 : Int32)), .val (.int (p2 * (-1640531527 : Int32))), .val (.int (Int32.ofNat q))] [(.ref t)])) st117 ?_
        refine Rch.of (T' := T117) (g' := (mkF m 43 #[.val (.ref a1), .val (.int p2), .val (.int (63 : Int32)), .val (.int (p2 * (-1640531527 : Int32))), .val (.int (Int32.ofNat q))] [(.int (2 : Int32)), (.ref t)])) (fun _ kt => XS.iconst X117.here hx rfl (hb hby d_prog_120_method_6_code_42) kt) ?_
        refine Rch.of (T' := T117) (g' := (mkF m 45 #[.val (.ref a1), .val (.int p2), .val (.int (63 : Int32)), .val (.int (p2 * (-1640531527 : Int32))), .val (.int (Int32.ofNat q))] [(.int (Int32.ofNat q)), (.int (2 : Int32)), (.ref t)])) (fun _ kt => XS.iload X117.here hx rfl (hb hby d_prog_120_method_6_code_43) rfl  kt) ?_
        refine Rch.of (T' := T117) (g' := (mkF m 46 #[.val (.ref a1), .val (.int p2), .val (.int (63 : Int32)), .val (.int (p2 * (-1640531527 : Int32))), .val (.int (Int32.ofNat q))] [(.int ((2 : Int32) * (Int32.ofNat q))), (.ref t)])) (fun _ kt => XS.imul X117.here hx rfl (hb hby d_prog_120_method_6_code_45) rfl kt) ?_
        obtain ⟨cl118, Ar118, Sz118, Ha118⟩ := id V1
        refine Rch.of (T' := T117) (g' := (mkF m 47 #[.val (.ref a1), .val (.int p2), .val (.int (63 : Int32)), .val (.int (p2 * (-1640531527 : Int32))), .val (.int (Int32.ofNat q))] [(.int (y (2 * q)))])) (X117.iaload hx (j := ((2 : Int32) * (Int32.ofNat q))) (v := (.int (y (2 * q)))) (by rw [e117]; exact Ar118.1) (State.isArrayOf_alike hZ.alike Ar118.2.1) Ar118.2.2 (oIn Sz118 (own_dblI hq) (by omega)) (oAt Ha118 (own_dblI hq) (by omega)) (g := (mkF m 46 #[.val (.ref a1), .val (.int p2), .val (.int (63 : Int32)), .val (.int (p2 * (-1640531527 : Int32))), .val (.int (Int32.ofNat q))] [(.int ((2 : Int32) * (Int32.ofNat q))), (.ref t)])) rfl rfl (hb hby d_prog_120_method_6_code_46)) ?_
        refine Rch.of (T' := T117) (g' := (mkF m 48 #[.val (.ref a1), .val (.int p2), .val (.int (63 : Int32)), .val (.int (p2 * (-1640531527 : Int32))), .val (.int (Int32.ofNat q))] [(.int p2), (.int (y (2 * q)))])) (fun _ kt => XS.iloadN X117.here hx rfl (hb hby d_prog_120_method_6_code_47) rfl  kt) ?_
        by_cases c119 : (y (2 * q)) = p2
        · skip
          refine Rch.of (T' := T117) (g' := (mkF m 62 #[.val (.ref a1), .val (.int p2), .val (.int (63 : Int32)), .val (.int (p2 * (-1640531527 : Int32))), .val (.int (Int32.ofNat q))] [])) (fun _ kt => XS.icmpYes X117.here hx rfl (pc0 := 48) (pc' := 62) rfl (hb hby d_prog_120_method_6_code_48) rfl (teq c119).1 (by decide) (by decide) kt) ?_
          refine Rch.of (T' := T117) (g' := (mkF m 63 #[.val (.ref a1), .val (.int p2), .val (.int (63 : Int32)), .val (.int (p2 * (-1640531527 : Int32))), .val (.int (Int32.ofNat q))] [(.int (2 : Int32))])) (fun _ kt => XS.iconst X117.here hx rfl (hb hby d_prog_120_method_6_code_62) kt) ?_
          refine Rch.of (T' := T117) (g' := (mkF m 65 #[.val (.ref a1), .val (.int p2), .val (.int (63 : Int32)), .val (.int (p2 * (-1640531527 : Int32))), .val (.int (Int32.ofNat q))] [(.int (Int32.ofNat q)), (.int (2 : Int32))])) (fun _ kt => XS.iload X117.here hx rfl (hb hby d_prog_120_method_6_code_63) rfl  kt) ?_
          refine Rch.of (T' := T117) (g' := (mkF m 66 #[.val (.ref a1), .val (.int p2), .val (.int (63 : Int32)), .val (.int (p2 * (-1640531527 : Int32))), .val (.int (Int32.ofNat q))] [(.int ((2 : Int32) * (Int32.ofNat q)))])) (fun _ kt => XS.imul X117.here hx rfl (hb hby d_prog_120_method_6_code_65) rfl kt) ?_
          exact Rch.retI X117 hx hret hlk (hb hby d_prog_120_method_6_code_66) (fun U hU hF => hK _ U _ _ _ (by show Q_rm7 Z a1 p2 t y h0 n0 _ U.heap _; rw [hU, e117]; exact ⟨by rw [hs, own_probe, if_neg c116, if_pos c119, own_dbl], N0, rfl⟩) hF (by decide) (by decide))
        · skip
          refine Rch.of (T' := T117) (g' := (mkF m 51 #[.val (.ref a1), .val (.int p2), .val (.int (63 : Int32)), .val (.int (p2 * (-1640531527 : Int32))), .val (.int (Int32.ofNat q))] [])) (fun _ kt => XS.icmpNo X117.here hx rfl (hb hby d_prog_120_method_6_code_48) rfl (feq c119).1 kt) ?_
          refine Rch.of (T' := T117) (g' := (mkF m 53 #[.val (.ref a1), .val (.int p2), .val (.int (63 : Int32)), .val (.int (p2 * (-1640531527 : Int32))), .val (.int (Int32.ofNat q))] [(.int (Int32.ofNat q))])) (fun _ kt => XS.iload X117.here hx rfl (hb hby d_prog_120_method_6_code_51) rfl  kt) ?_
          refine Rch.of (T' := T117) (g' := (mkF m 54 #[.val (.ref a1), .val (.int p2), .val (.int (63 : Int32)), .val (.int (p2 * (-1640531527 : Int32))), .val (.int (Int32.ofNat q))] [(.int (1 : Int32)), (.int (Int32.ofNat q))])) (fun _ kt => XS.iconst X117.here hx rfl (hb hby d_prog_120_method_6_code_53) kt) ?_
          refine Rch.of (T' := T117) (g' := (mkF m 55 #[.val (.ref a1), .val (.int p2), .val (.int (63 : Int32)), .val (.int (p2 * (-1640531527 : Int32))), .val (.int (Int32.ofNat q))] [(.int ((Int32.ofNat q) + (1 : Int32)))])) (fun _ kt => XS.iadd X117.here hx rfl (hb hby d_prog_120_method_6_code_54) rfl kt) ?_
          refine Rch.of (T' := T117) (g' := (mkF m 56 #[.val (.ref a1), .val (.int p2), .val (.int (63 : Int32)), .val (.int (p2 * (-1640531527 : Int32))), .val (.int (Int32.ofNat q))] [(.int (63 : Int32)), (.int ((Int32.ofNat q) + (1 : Int32)))])) (fun _ kt => XS.iloadN X117.here hx rfl (hb hby d_prog_120_method_6_code_55) rfl  kt) ?_
          refine Rch.of (T' := T117) (g' := (mkF m 57 #[.val (.ref a1), .val (.int p2), .val (.int (63 : Int32)), .val (.int (p2 * (-1640531527 : Int32))), .val (.int (Int32.ofNat q))] [(.int (((Int32.ofNat q) + (1 : Int32)) &&& (63 : Int32)))])) (fun _ kt => XS.iand X117.here hx rfl (hb hby d_prog_120_method_6_code_56) rfl kt) ?_
          refine Rch.of (T' := T117) (g' := (mkF m 59 #[.val (.ref a1), .val (.int p2), .val (.int (63 : Int32)), .val (.int (p2 * (-1640531527 : Int32))), .val (.int (((Int32.ofNat q) + (1 : Int32)) &&& (63 : Int32)))] [])) (fun _ kt => XS.istore X117.here hx rfl (hb hby d_prog_120_method_6_code_57) rfl (l' := #[.val (.ref a1), .val (.int p2), .val (.int (63 : Int32)), .val (.int (p2 * (-1640531527 : Int32))), .val (.int (((Int32.ofNat q) + (1 : Int32)) &&& (63 : Int32)))]) rfl kt) ?_
          refine Rch.of (T' := T117) (g' := (mkF m 25 #[.val (.ref a1), .val (.int p2), .val (.int (63 : Int32)), .val (.int (p2 * (-1640531527 : Int32))), .val (.int (((Int32.ofNat q) + (1 : Int32)) &&& (63 : Int32)))] [])) (fun _ kt => XS.goto X117.here hx rfl (pc0 := 59) (pc' := 25) rfl (hb hby d_prog_120_method_6_code_59) (by decide) (by decide) kt) ?_
          rw [own_next hq]
          refine ih ((q + 1) % 64) (Nat.mod_lt _ (by decide)) ?_ ?_ T117 X117 e117
          · exact (hok.resolve_left c116).resolve_left c119
          · rw [hs, own_probe, if_neg c116, if_neg c119]
  refine Rch.of (T' := T0) (g' := (mkF m 1 #[.val (.ref a1), .val (.int p2), .unset, .unset, .unset] [(.ref a1)])) (fun _ kt => XS.aloadN X0.here hx rfl (hb hby d_prog_120_method_6_code_0) rfl rfl kt) ?_
  obtain ⟨T120, X120, e120, st120⟩ := getF X0 hx hZ hown (host := "") (Or.inl (hw _ (List.mem_of_getElem? (i := 18) rfl))) Via.refl e0 F1 (g := (mkF m 1 #[.val (.ref a1), .val (.int p2), .unset, .unset, .unset] [(.ref a1)])) rfl rfl (hb hby d_prog_120_method_6_code_1)
  refine Rch.of (T' := T120) (g' := (mkF m 4 #[.val (.ref a1), .val (.int p2), .unset, .unset, .unset] [(.ref t)])) st120 ?_
  obtain ⟨cl121, Ar121, Sz121, Ha121⟩ := id V1
  refine Rch.of (T' := T120) (g' := (mkF m 5 #[.val (.ref a1), .val (.int p2), .unset, .unset, .unset] [(.int cl121.slots.size.toInt32)])) (X120.arraylength hx (by rw [e120]; exact Ar121.1) (State.isArrayOf_alike hZ.alike Ar121.2.1) (g := (mkF m 4 #[.val (.ref a1), .val (.int p2), .unset, .unset, .unset] [(.ref t)])) rfl rfl (hb hby d_prog_120_method_6_code_4)) ?_
  rw [oLen Sz121]
  show Rch p e below K T120 (mkF m 5 #[.val (.ref a1), .val (.int p2), .unset, .unset, .unset] [(.int (Int32.ofNat 128))])
  refine Rch.of (T' := T120) (g' := (mkF m 6 #[.val (.ref a1), .val (.int p2), .unset, .unset, .unset] [(.int (2 : Int32)), (.int (Int32.ofNat 128))])) (fun _ kt => XS.iconst X120.here hx rfl (hb hby d_prog_120_method_6_code_5) kt) ?_
  refine Rch.of (T' := T120) (g' := (mkF m 7 #[.val (.ref a1), .val (.int p2), .unset, .unset, .unset] [(.int ((Int32.ofNat 128) / (2 : Int32)))])) (fun _ kt => XS.idiv X120.here hx rfl (hb hby d_prog_120_method_6_code_6) rfl (by decide) kt) ?_
  refine Rch.of (T' := T120) (g' := (mkF m 8 #[.val (.ref a1), .val (.int p2), .unset, .unset, .unset] [(.int (1 : Int32)), (.int ((Int32.ofNat 128) / (2 : Int32)))])) (fun _ kt => XS.iconst X120.here hx rfl (hb hby d_prog_120_method_6_code_7) kt) ?_
  refine Rch.of (T' := T120) (g' := (mkF m 9 #[.val (.ref a1), .val (.int p2), .unset, .unset, .unset] [(.int (((Int32.ofNat 128) / (2 : Int32)) - (1 : Int32)))])) (fun _ kt => XS.isub X120.here hx rfl (hb hby d_prog_120_method_6_code_8) rfl kt) ?_
  refine Rch.of (T' := T120) (g' := (mkF m 10 #[.val (.ref a1), .val (.int p2), .val (.int (((Int32.ofNat 128) / (2 : Int32)) - (1 : Int32))), .unset, .unset] [])) (fun _ kt => XS.istoreN X120.here hx rfl (hb hby d_prog_120_method_6_code_9) rfl (l' := #[.val (.ref a1), .val (.int p2), .val (.int (((Int32.ofNat 128) / (2 : Int32)) - (1 : Int32))), .unset, .unset]) rfl kt) ?_
  rw [show (((Int32.ofNat 128) / (2 : Int32)) - (1 : Int32)) = (63 : Int32) from by decide]
  refine Rch.of (T' := T120) (g' := (mkF m 11 #[.val (.ref a1), .val (.int p2), .val (.int (63 : Int32)), .unset, .unset] [(.int p2)])) (fun _ kt => XS.iloadN X120.here hx rfl (hb hby d_prog_120_method_6_code_10) rfl  kt) ?_
  refine Rch.of (T' := T120) (g' := (mkF m 13 #[.val (.ref a1), .val (.int p2), .val (.int (63 : Int32)), .unset, .unset] [(.int (-1640531527 : Int32)), (.int p2)])) (X120.ldcInt hx hown (mvT hZ (hw _ (List.mem_of_getElem? (i := 35) rfl))) (g := (mkF m 11 #[.val (.ref a1), .val (.int p2), .val (.int (63 : Int32)), .unset, .unset] [(.int p2)])) rfl (hb hby d_prog_120_method_6_code_11)) ?_
  refine Rch.of (T' := T120) (g' := (mkF m 14 #[.val (.ref a1), .val (.int p2), .val (.int (63 : Int32)), .unset, .unset] [(.int (p2 * (-1640531527 : Int32)))])) (fun _ kt => XS.imul X120.here hx rfl (hb hby d_prog_120_method_6_code_13) rfl kt) ?_
  refine Rch.of (T' := T120) (g' := (mkF m 15 #[.val (.ref a1), .val (.int p2), .val (.int (63 : Int32)), .val (.int (p2 * (-1640531527 : Int32))), .unset] [])) (fun _ kt => XS.istoreN X120.here hx rfl (hb hby d_prog_120_method_6_code_14) rfl (l' := #[.val (.ref a1), .val (.int p2), .val (.int (63 : Int32)), .val (.int (p2 * (-1640531527 : Int32))), .unset]) rfl kt) ?_
  refine Rch.of (T' := T120) (g' := (mkF m 16 #[.val (.ref a1), .val (.int p2), .val (.int (63 : Int32)), .val (.int (p2 * (-1640531527 : Int32))), .unset] [(.int (p2 * (-1640531527 : Int32)))])) (fun _ kt => XS.iloadN X120.here hx rfl (hb hby d_prog_120_method_6_code_15) rfl  kt) ?_
  refine Rch.of (T' := T120) (g' := (mkF m 17 #[.val (.ref a1), .val (.int p2), .val (.int (63 : Int32)), .val (.int (p2 * (-1640531527 : Int32))), .unset] [(.int (p2 * (-1640531527 : Int32))), (.int (p2 * (-1640531527 : Int32)))])) (fun _ kt => XS.iloadN X120.here hx rfl (hb hby d_prog_120_method_6_code_16) rfl  kt) ?_
  refine Rch.of (T' := T120) (g' := (mkF m 19 #[.val (.ref a1), .val (.int p2), .val (.int (63 : Int32)), .val (.int (p2 * (-1640531527 : Int32))), .unset] [(.int (16 : Int32)), (.int (p2 * (-1640531527 : Int32))), (.int (p2 * (-1640531527 : Int32)))])) (fun _ kt => XS.bipush X120.here hx rfl (hb hby d_prog_120_method_6_code_17) kt) ?_
  refine Rch.of (T' := T120) (g' := (mkF m 20 #[.val (.ref a1), .val (.int p2), .val (.int (63 : Int32)), .val (.int (p2 * (-1640531527 : Int32))), .unset] [(.int (((p2 * (-1640531527 : Int32)).toUInt32 >>> ((16 : Int32) &&& 31).toUInt32).toInt32)), (.int (p2 * (-1640531527 : Int32)))])) (fun _ kt => XS.iushr X120.here hx rfl (hb hby d_prog_120_method_6_code_19) rfl kt) ?_
  refine Rch.of (T' := T120) (g' := (mkF m 21 #[.val (.ref a1), .val (.int p2), .val (.int (63 : Int32)), .val (.int (p2 * (-1640531527 : Int32))), .unset] [(.int ((p2 * (-1640531527 : Int32)) ^^^ (((p2 * (-1640531527 : Int32)).toUInt32 >>> ((16 : Int32) &&& 31).toUInt32).toInt32)))])) (fun _ kt => XS.ixor X120.here hx rfl (hb hby d_prog_120_method_6_code_20) rfl kt) ?_
  refine Rch.of (T' := T120) (g' := (mkF m 22 #[.val (.ref a1), .val (.int p2), .val (.int (63 : Int32)), .val (.int (p2 * (-1640531527 : Int32))), .unset] [(.int (63 : Int32)), (.int ((p2 * (-1640531527 : Int32)) ^^^ (((p2 * (-1640531527 : Int32)).toUInt32 >>> ((16 : Int32) &&& 31).toUInt32).toInt32)))])) (fun _ kt => XS.iloadN X120.here hx rfl (hb hby d_prog_120_method_6_code_21) rfl  kt) ?_
  refine Rch.of (T' := T120) (g' := (mkF m 23 #[.val (.ref a1), .val (.int p2), .val (.int (63 : Int32)), .val (.int (p2 * (-1640531527 : Int32))), .unset] [(.int (((p2 * (-1640531527 : Int32)) ^^^ (((p2 * (-1640531527 : Int32)).toUInt32 >>> ((16 : Int32) &&& 31).toUInt32).toInt32)) &&& (63 : Int32)))])) (fun _ kt => XS.iand X120.here hx rfl (hb hby d_prog_120_method_6_code_22) rfl kt) ?_
  refine Rch.of (T' := T120) (g' := (mkF m 25 #[.val (.ref a1), .val (.int p2), .val (.int (63 : Int32)), .val (.int (p2 * (-1640531527 : Int32))), .val (.int (((p2 * (-1640531527 : Int32)) ^^^ (((p2 * (-1640531527 : Int32)).toUInt32 >>> ((16 : Int32) &&& 31).toUInt32).toInt32)) &&& (63 : Int32)))] [])) (fun _ kt => XS.istore X120.here hx rfl (hb hby d_prog_120_method_6_code_23) rfl (l' := #[.val (.ref a1), .val (.int p2), .val (.int (63 : Int32)), .val (.int (p2 * (-1640531527 : Int32))), .val (.int (((p2 * (-1640531527 : Int32)) ^^^ (((p2 * (-1640531527 : Int32)).toUInt32 >>> ((16 : Int32) &&& 31).toUInt32).toInt32)) &&& (63 : Int32)))]) rfl kt) ?_
  rw [show (((p2 * (-1640531527 : Int32)) ^^^ (((p2 * (-1640531527 : Int32)).toUInt32 >>> ((16 : Int32) &&& 31).toUInt32).toInt32)) &&& (63 : Int32)) = Int32.ofNat (own_h p2) from own_h_eq p2]
  exact loop 64 (own_h p2) (own_h_lt p2) hok rfl T120 X120 e120
theorem d_prog_120_method_3_code_0 : decode prog_120_method_3_code 0 = .ok (.aload_n 0, 1) := by decide +kernel
theorem d_prog_120_method_3_code_1 : decode prog_120_method_3_code 1 = .ok (.iload_n 1, 1) := by decide +kernel
theorem d_prog_120_method_3_code_2 : decode prog_120_method_3_code 2 = .ok (.invokevirtual 20, 3) := by decide +kernel
theorem d_prog_120_method_3_code_5 : decode prog_120_method_3_code 5 = .ok (.istore_n 2, 1) := by decide +kernel
theorem d_prog_120_method_3_code_6 : decode prog_120_method_3_code 6 = .ok (.aload_n 0, 1) := by decide +kernel
theorem d_prog_120_method_3_code_7 : decode prog_120_method_3_code 7 = .ok (.getfield 13, 3) := by decide +kernel
theorem d_prog_120_method_3_code_10 : decode prog_120_method_3_code 10 = .ok (.iload_n 2, 1) := by decide +kernel
theorem d_prog_120_method_3_code_11 : decode prog_120_method_3_code 11 = .ok (.iaload, 1) := by decide +kernel
theorem d_prog_120_method_3_code_12 : decode prog_120_method_3_code 12 = .ok (.iconst (-1), 1) := by decide +kernel
theorem d_prog_120_method_3_code_13 : decode prog_120_method_3_code 13 = .ok (.if_icmp .ne 7, 3) := by decide +kernel
theorem d_prog_120_method_3_code_16 : decode prog_120_method_3_code 16 = .ok (.iconst (-1), 1) := by decide +kernel
theorem d_prog_120_method_3_code_17 : decode prog_120_method_3_code 17 = .ok (.goto 11, 3) := by decide +kernel
theorem d_prog_120_method_3_code_20 : decode prog_120_method_3_code 20 = .ok (.aload_n 0, 1) := by decide +kernel
theorem d_prog_120_method_3_code_21 : decode prog_120_method_3_code 21 = .ok (.getfield 13, 3) := by decide +kernel
theorem d_prog_120_method_3_code_24 : decode prog_120_method_3_code 24 = .ok (.iload_n 2, 1) := by decide +kernel
theorem d_prog_120_method_3_code_25 : decode prog_120_method_3_code 25 = .ok (.iconst 1, 1) := by decide +kernel
theorem d_prog_120_method_3_code_26 : decode prog_120_method_3_code 26 = .ok (.iadd, 1) := by decide +kernel
theorem d_prog_120_method_3_code_27 : decode prog_120_method_3_code 27 = .ok (.iaload, 1) := by decide +kernel
theorem d_prog_120_method_3_code_28 : decode prog_120_method_3_code 28 = .ok (.ireturn, 1) := by decide +kernel
theorem ef_rm6 (m : MethodId) (a1 : Addr) (p2 : Int32) : entryFrame m #[(.ref a1), (.int p2)] 3 = mkF m 0 #[.val (.ref a1), .val (.int p2), .unset] [] := by first | (simp [entryFrame, mkF, argsToLocals, Value.category]; done) | rfl
def Q_rm6 (Z : State) (a1 : Addr) (p2 : Int32) (t : Addr) (y : Nat → Int32) (h0 : Heap) (n0 : Nat) (vv_ : Option Value) (h : Heap) (LL_ : List Loc) : Prop := vv_ = some (.int (own_find y p2)) ∧ Fr n0 LL_ ∧ (h = h0)
set_option maxRecDepth 65536 in
set_option maxHeartbeats 40000000 in
theorem rm6 (l : Launch) (Z : State) (a0 : Array Value) (hw : ∀ d ∈ tables_1, d.before a0 Z = true) (ws : List Jvm.Cond) (a1 : Addr) (p2 : Int32) (t : Addr) (y : Nat → Int32) (h0 : Heap) (n0 : Nat) (Z0 : n0 ≤ h0.size) (E1 : Exa Z h0 a1 "com/example/ampliar/ampliar/service/TermNumbering") (F1 : Fld Z h0 a1 "com/example/ampliar/ampliar/service/TermNumbering" "table" "[I" (.ref t)) (V1 : Av Z h0 t .int 128 (fun q => .int (y q))) (hok : own_ok y p2 64 (own_h p2)) :
    MetFree l (⟨"com/example/ampliar/ampliar/service/TermNumbering", "find", "(I)I"⟩ : MethodName) (head1 (Jvm.Cond.code (⟨"com/example/ampliar/ampliar/service/TermNumbering", "find", "(I)I"⟩ : MethodName) prog_120_method_3_code 3 (some .int) :: ws) ({ frames := 1, cells := 0, slots := 0, locals := 16 } : Room)) (fun aa_ UU_ => aa_ = #[(.ref a1), (.int p2)] ∧ Z.Warmed39 UU_.vm ∧ UU_.heap = h0) (fun _ _ _ _ _ => True) (fun _ UU_ oo_ VV_ => ∃ vv_ LL_, oo_ = .returned vv_ ∧ Q_rm6 Z a1 p2 t y h0 n0 vv_ VV_.heap LL_ ∧ FrameEnd UU_ oo_ VV_ LL_ ({ frames := 1, cells := 0, slots := 0, locals := 16 } : Room).cells ({ frames := 1, cells := 0, slots := 0, locals := 16 } : Room).slots) := by
  refine own_met (y := (⟨"com/example/ampliar/ampliar/service/TermNumbering", "find", "(I)I"⟩ : MethodName)) (plainFor_of_name pn_1) ?_
  intro p e s m below meth c T0 K hx hby hml hret hlk hown hnm hZ X0 e0 hK
  have N0 := Fr.nil n0
  refine Rch.cast (ef_rm6 m a1 p2) ?_
  refine Rch.of (T' := T0) (g' := (mkF m 1 #[.val (.ref a1), .val (.int p2), .unset] [(.ref a1)])) (fun _ kt => XS.aloadN X0.here hx rfl (hb hby d_prog_120_method_3_code_0) rfl rfl kt) ?_
  refine Rch.of (T' := T0) (g' := (mkF m 2 #[.val (.ref a1), .val (.int p2), .unset] [(.int p2), (.ref a1)])) (fun _ kt => XS.iloadN X0.here hx rfl (hb hby d_prog_120_method_3_code_1) rfl  kt) ?_
  obtain ⟨cq122, q122, q122'⟩ := E1.cell
  obtain ⟨_, _, ⟨T122, L122, k122, n122⟩, -, X122, ⟨Lc122, hQ122, l122, y122, z122⟩, st122⟩ := X0.privateBack hx (y := (⟨"com/example/ampliar/ampliar/service/TermNumbering", "slot", "(I)I"⟩ : MethodName)) hown (mvT hZ (hw _ (List.mem_of_getElem? (i := 31) rfl))) (mvT hZ (hw _ (List.mem_of_getElem? (i := 32) rfl))) (own_selP (mvT hZ (hw _ (List.mem_of_getElem? (i := 2) rfl))) (mvP hZ (hw _ (List.mem_of_getElem? (i := 33) rfl))) (mvT hZ (hw _ (List.mem_of_getElem? (i := 32) rfl))) (by decide)) (Cond.privateMethod_at (mvP hZ (hw _ (List.mem_of_getElem? (i := 33) rfl)) (args := #[]))) (mvT hZ (hw _ (List.mem_of_getElem? (i := 34) rfl))) (by decide) (backOf (W := 0) (rm7 l Z a0 hw [] a1 p2 t y h0 n0 Z0 F1 V1 hok) hZ (hw _ (List.mem_of_getElem? (i := 34) rfl)) (hw _ (List.mem_of_getElem? (i := 3) rfl)) (by decide) (by decide)) (g := (mkF m 2 #[.val (.ref a1), .val (.int p2), .unset] [(.int p2), (.ref a1)])) rfl (by rw [hml]; rfl) (Steps.refl _) (a := a1) (by rw [e0]; exact q122) q122' (argsL := [(.int p2)]) (rest := []) (lenOf pd_4 rfl) rfl (by show 2 * 0 + _ ≤ _; exact Nat.le_of_eq rfl) (hb hby d_prog_120_method_3_code_2) (fun _ _ => ⟨rfl, e0, (by decide : 0 + 0 ≤ _), (by decide : 0 + 0 ≤ _)⟩)
  dsimp only [Pt.U, Pt.locs, Pt.cells, Pt.slots] at X122 l122 y122 z122 st122 hQ122
  subst l122 y122 z122
  obtain ⟨rfl, N122q, hQ122⟩ := hQ122
  have N122 := Fr.app N0 N122q
  refine Rch.via (T' := T122) (g' := (mkF m 5 #[.val (.ref a1), .val (.int p2), .unset] [(.int (Int32.ofNat (2 * own_slot y p2)))])) st122 ?_
  refine Rch.of (T' := T122) (g' := (mkF m 6 #[.val (.ref a1), .val (.int p2), .val (.int (Int32.ofNat (2 * own_slot y p2)))] [])) (fun _ kt => XS.istoreN X122.here hx rfl (hb hby d_prog_120_method_3_code_5) rfl (l' := #[.val (.ref a1), .val (.int p2), .val (.int (Int32.ofNat (2 * own_slot y p2)))]) rfl kt) ?_
  refine Rch.of (T' := T122) (g' := (mkF m 7 #[.val (.ref a1), .val (.int p2), .val (.int (Int32.ofNat (2 * own_slot y p2)))] [(.ref a1)])) (fun _ kt => XS.aloadN X122.here hx rfl (hb hby d_prog_120_method_3_code_6) rfl rfl kt) ?_
  obtain ⟨T123, X123, e123, st123⟩ := getF X122 hx hZ hown (host := "") (Or.inl (hw _ (List.mem_of_getElem? (i := 18) rfl))) Via.refl hQ122 F1 (g := (mkF m 7 #[.val (.ref a1), .val (.int p2), .val (.int (Int32.ofNat (2 * own_slot y p2)))] [(.ref a1)])) rfl rfl (hb hby d_prog_120_method_3_code_7)
  refine Rch.of (T' := T123) (g' := (mkF m 10 #[.val (.ref a1), .val (.int p2), .val (.int (Int32.ofNat (2 * own_slot y p2)))] [(.ref t)])) st123 ?_
  refine Rch.of (T' := T123) (g' := (mkF m 11 #[.val (.ref a1), .val (.int p2), .val (.int (Int32.ofNat (2 * own_slot y p2)))] [(.int (Int32.ofNat (2 * own_slot y p2))), (.ref t)])) (fun _ kt => XS.iloadN X123.here hx rfl (hb hby d_prog_120_method_3_code_10) rfl  kt) ?_
  obtain ⟨cl124, Ar124, Sz124, Ha124⟩ := id V1
  refine Rch.of (T' := T123) (g' := (mkF m 12 #[.val (.ref a1), .val (.int p2), .val (.int (Int32.ofNat (2 * own_slot y p2)))] [(.int (y (2 * own_slot y p2)))])) (X123.iaload hx (j := (Int32.ofNat (2 * own_slot y p2))) (v := (.int (y (2 * own_slot y p2)))) (by rw [e123]; exact Ar124.1) (State.isArrayOf_alike hZ.alike Ar124.2.1) Ar124.2.2 (oIn Sz124 (oTo (by have := own_slot_lt y p2; omega)) (by have := own_slot_lt y p2; omega)) (oAt Ha124 (oTo (by have := own_slot_lt y p2; omega)) (by have := own_slot_lt y p2; omega)) (g := (mkF m 11 #[.val (.ref a1), .val (.int p2), .val (.int (Int32.ofNat (2 * own_slot y p2)))] [(.int (Int32.ofNat (2 * own_slot y p2))), (.ref t)])) rfl rfl (hb hby d_prog_120_method_3_code_11)) ?_
  refine Rch.of (T' := T123) (g' := (mkF m 13 #[.val (.ref a1), .val (.int p2), .val (.int (Int32.ofNat (2 * own_slot y p2)))] [(.int (-1 : Int32)), (.int (y (2 * own_slot y p2)))])) (fun _ kt => XS.iconst X123.here hx rfl (hb hby d_prog_120_method_3_code_12) kt) ?_
  by_cases c125 : (y (2 * own_slot y p2)) = (-1 : Int32)
  · skip
    refine Rch.of (T' := T123) (g' := (mkF m 16 #[.val (.ref a1), .val (.int p2), .val (.int (Int32.ofNat (2 * own_slot y p2)))] [])) (fun _ kt => XS.icmpNo X123.here hx rfl (hb hby d_prog_120_method_3_code_13) rfl (teq c125).2 kt) ?_
    refine Rch.of (T' := T123) (g' := (mkF m 17 #[.val (.ref a1), .val (.int p2), .val (.int (Int32.ofNat (2 * own_slot y p2)))] [(.int (-1 : Int32))])) (fun _ kt => XS.iconst X123.here hx rfl (hb hby d_prog_120_method_3_code_16) kt) ?_
    refine Rch.of (T' := T123) (g' := (mkF m 28 #[.val (.ref a1), .val (.int p2), .val (.int (Int32.ofNat (2 * own_slot y p2)))] [(.int (-1 : Int32))])) (fun _ kt => XS.goto X123.here hx rfl (pc0 := 17) (pc' := 28) rfl (hb hby d_prog_120_method_3_code_17) (by decide) (by decide) kt) ?_
    exact Rch.retI X123 hx hret hlk (hb hby d_prog_120_method_3_code_28) (fun U hU hF => hK _ U _ _ _ (by show Q_rm6 Z a1 p2 t y h0 n0 _ U.heap _; rw [hU, e123]; exact ⟨by simp [own_find, c125], N122, rfl⟩) hF (by decide) (by decide))
  · skip
    refine Rch.of (T' := T123) (g' := (mkF m 20 #[.val (.ref a1), .val (.int p2), .val (.int (Int32.ofNat (2 * own_slot y p2)))] [])) (fun _ kt => XS.icmpYes X123.here hx rfl (pc0 := 13) (pc' := 20) rfl (hb hby d_prog_120_method_3_code_13) rfl (feq c125).2 (by decide) (by decide) kt) ?_
    refine Rch.of (T' := T123) (g' := (mkF m 21 #[.val (.ref a1), .val (.int p2), .val (.int (Int32.ofNat (2 * own_slot y p2)))] [(.ref a1)])) (fun _ kt => XS.aloadN X123.here hx rfl (hb hby d_prog_120_method_3_code_20) rfl rfl kt) ?_
    obtain ⟨T126, X126, e126, st126⟩ := getF X123 hx hZ hown (host := "") (Or.inl (hw _ (List.mem_of_getElem? (i := 18) rfl))) Via.refl e123 F1 (g := (mkF m 21 #[.val (.ref a1), .val (.int p2), .val (.int (Int32.ofNat (2 * own_slot y p2)))] [(.ref a1)])) rfl rfl (hb hby d_prog_120_method_3_code_21)
    refine Rch.of (T' := T126) (g' := (mkF m 24 #[.val (.ref a1), .val (.int p2), .val (.int (Int32.ofNat (2 * own_slot y p2)))] [(.ref t)])) st126 ?_
    refine Rch.of (T' := T126) (g' := (mkF m 25 #[.val (.ref a1), .val (.int p2), .val (.int (Int32.ofNat (2 * own_slot y p2)))] [(.int (Int32.ofNat (2 * own_slot y p2))), (.ref t)])) (fun _ kt => XS.iloadN X126.here hx rfl (hb hby d_prog_120_method_3_code_24) rfl  kt) ?_
    refine Rch.of (T' := T126) (g' := (mkF m 26 #[.val (.ref a1), .val (.int p2), .val (.int (Int32.ofNat (2 * own_slot y p2)))] [(.int (1 : Int32)), (.int (Int32.ofNat (2 * own_slot y p2))), (.ref t)])) (fun _ kt => XS.iconst X126.here hx rfl (hb hby d_prog_120_method_3_code_25) kt) ?_
    refine Rch.of (T' := T126) (g' := (mkF m 27 #[.val (.ref a1), .val (.int p2), .val (.int (Int32.ofNat (2 * own_slot y p2)))] [(.int ((Int32.ofNat (2 * own_slot y p2)) + (1 : Int32))), (.ref t)])) (fun _ kt => XS.iadd X126.here hx rfl (hb hby d_prog_120_method_3_code_26) rfl kt) ?_
    obtain ⟨cl127, Ar127, Sz127, Ha127⟩ := id V1
    refine Rch.of (T' := T126) (g' := (mkF m 28 #[.val (.ref a1), .val (.int p2), .val (.int (Int32.ofNat (2 * own_slot y p2)))] [(.int (y (2 * own_slot y p2 + 1)))])) (X126.iaload hx (j := ((Int32.ofNat (2 * own_slot y p2)) + (1 : Int32))) (v := (.int (y (2 * own_slot y p2 + 1)))) (by rw [e126]; exact Ar127.1) (State.isArrayOf_alike hZ.alike Ar127.2.1) Ar127.2.2 (oIn Sz127 (own_odd y p2) (by have := own_slot_lt y p2; omega)) (oAt Ha127 (own_odd y p2) (by have := own_slot_lt y p2; omega)) (g := (mkF m 27 #[.val (.ref a1), .val (.int p2), .val (.int (Int32.ofNat (2 * own_slot y p2)))] [(.int ((Int32.ofNat (2 * own_slot y p2)) + (1 : Int32))), (.ref t)])) rfl rfl (hb hby d_prog_120_method_3_code_27)) ?_
    exact Rch.retI X126 hx hret hlk (hb hby d_prog_120_method_3_code_28) (fun U hU hF => hK _ U _ _ _ (by show Q_rm6 Z a1 p2 t y h0 n0 _ U.heap _; rw [hU, e126]; exact ⟨by simp [own_find, c125], N122, rfl⟩) hF (by decide) (by decide))
theorem d_prog_120_method_2_code_0 : decode prog_120_method_2_code 0 = .ok (.aload_n 0, 1) := by decide +kernel
theorem d_prog_120_method_2_code_1 : decode prog_120_method_2_code 1 = .ok (.iload_n 1, 1) := by decide +kernel
theorem d_prog_120_method_2_code_2 : decode prog_120_method_2_code 2 = .ok (.invokevirtual 20, 3) := by decide +kernel
theorem d_prog_120_method_2_code_5 : decode prog_120_method_2_code 5 = .ok (.istore_n 2, 1) := by decide +kernel
theorem d_prog_120_method_2_code_6 : decode prog_120_method_2_code 6 = .ok (.aload_n 0, 1) := by decide +kernel
theorem d_prog_120_method_2_code_7 : decode prog_120_method_2_code 7 = .ok (.getfield 13, 3) := by decide +kernel
theorem d_prog_120_method_2_code_10 : decode prog_120_method_2_code 10 = .ok (.iload_n 2, 1) := by decide +kernel
theorem d_prog_120_method_2_code_11 : decode prog_120_method_2_code 11 = .ok (.iaload, 1) := by decide +kernel
theorem d_prog_120_method_2_code_12 : decode prog_120_method_2_code 12 = .ok (.iconst (-1), 1) := by decide +kernel
theorem d_prog_120_method_2_code_13 : decode prog_120_method_2_code 13 = .ok (.if_icmp .ne 96, 3) := by decide +kernel
theorem d_prog_120_method_2_code_16 : decode prog_120_method_2_code 16 = .ok (.aload_n 0, 1) := by decide +kernel
theorem d_prog_120_method_2_code_17 : decode prog_120_method_2_code 17 = .ok (.getfield 24, 3) := by decide +kernel
theorem d_prog_120_method_2_code_20 : decode prog_120_method_2_code 20 = .ok (.aload_n 0, 1) := by decide +kernel
theorem d_prog_120_method_2_code_21 : decode prog_120_method_2_code 21 = .ok (.getfield 17, 3) := by decide +kernel
theorem d_prog_120_method_2_code_24 : decode prog_120_method_2_code 24 = .ok (.arraylength, 1) := by decide +kernel
theorem d_prog_120_method_2_code_25 : decode prog_120_method_2_code 25 = .ok (.if_icmp .ne 20, 3) := by decide +kernel
theorem d_prog_120_method_2_code_28 : decode prog_120_method_2_code 28 = .ok (.aload_n 0, 1) := by decide +kernel
theorem d_prog_120_method_2_code_29 : decode prog_120_method_2_code 29 = .ok (.aload_n 0, 1) := by decide +kernel
theorem d_prog_120_method_2_code_30 : decode prog_120_method_2_code 30 = .ok (.getfield 17, 3) := by decide +kernel
theorem d_prog_120_method_2_code_33 : decode prog_120_method_2_code 33 = .ok (.iconst 2, 1) := by decide +kernel
theorem d_prog_120_method_2_code_34 : decode prog_120_method_2_code 34 = .ok (.aload_n 0, 1) := by decide +kernel
theorem d_prog_120_method_2_code_35 : decode prog_120_method_2_code 35 = .ok (.getfield 24, 3) := by decide +kernel
theorem d_prog_120_method_2_code_38 : decode prog_120_method_2_code 38 = .ok (.imul, 1) := by decide +kernel
theorem d_prog_120_method_2_code_39 : decode prog_120_method_2_code 39 = .ok (.invokestatic 28, 3) := by decide +kernel
theorem d_prog_120_method_2_code_42 : decode prog_120_method_2_code 42 = .ok (.putfield 17, 3) := by decide +kernel
theorem d_prog_120_method_2_code_45 : decode prog_120_method_2_code 45 = .ok (.aload_n 0, 1) := by decide +kernel
theorem d_prog_120_method_2_code_46 : decode prog_120_method_2_code 46 = .ok (.getfield 17, 3) := by decide +kernel
theorem d_prog_120_method_2_code_49 : decode prog_120_method_2_code 49 = .ok (.aload_n 0, 1) := by decide +kernel
theorem d_prog_120_method_2_code_50 : decode prog_120_method_2_code 50 = .ok (.getfield 24, 3) := by decide +kernel
theorem d_prog_120_method_2_code_53 : decode prog_120_method_2_code 53 = .ok (.iload_n 1, 1) := by decide +kernel
theorem d_prog_120_method_2_code_54 : decode prog_120_method_2_code 54 = .ok (.iastore, 1) := by decide +kernel
theorem d_prog_120_method_2_code_55 : decode prog_120_method_2_code 55 = .ok (.aload_n 0, 1) := by decide +kernel
theorem d_prog_120_method_2_code_56 : decode prog_120_method_2_code 56 = .ok (.getfield 13, 3) := by decide +kernel
theorem d_prog_120_method_2_code_59 : decode prog_120_method_2_code 59 = .ok (.iload_n 2, 1) := by decide +kernel
theorem d_prog_120_method_2_code_60 : decode prog_120_method_2_code 60 = .ok (.iload_n 1, 1) := by decide +kernel
theorem d_prog_120_method_2_code_61 : decode prog_120_method_2_code 61 = .ok (.iastore, 1) := by decide +kernel
theorem d_prog_120_method_2_code_62 : decode prog_120_method_2_code 62 = .ok (.aload_n 0, 1) := by decide +kernel
theorem d_prog_120_method_2_code_63 : decode prog_120_method_2_code 63 = .ok (.getfield 13, 3) := by decide +kernel
theorem d_prog_120_method_2_code_66 : decode prog_120_method_2_code 66 = .ok (.iload_n 2, 1) := by decide +kernel
theorem d_prog_120_method_2_code_67 : decode prog_120_method_2_code 67 = .ok (.iconst 1, 1) := by decide +kernel
theorem d_prog_120_method_2_code_68 : decode prog_120_method_2_code 68 = .ok (.iadd, 1) := by decide +kernel
theorem d_prog_120_method_2_code_69 : decode prog_120_method_2_code 69 = .ok (.aload_n 0, 1) := by decide +kernel
theorem d_prog_120_method_2_code_70 : decode prog_120_method_2_code 70 = .ok (.getfield 24, 3) := by decide +kernel
theorem d_prog_120_method_2_code_73 : decode prog_120_method_2_code 73 = .ok (.iastore, 1) := by decide +kernel
theorem d_prog_120_method_2_code_74 : decode prog_120_method_2_code 74 = .ok (.aload_n 0, 1) := by decide +kernel
theorem d_prog_120_method_2_code_75 : decode prog_120_method_2_code 75 = .ok (.dup, 1) := by decide +kernel
theorem d_prog_120_method_2_code_76 : decode prog_120_method_2_code 76 = .ok (.getfield 24, 3) := by decide +kernel
theorem d_prog_120_method_2_code_79 : decode prog_120_method_2_code 79 = .ok (.iconst 1, 1) := by decide +kernel
theorem d_prog_120_method_2_code_80 : decode prog_120_method_2_code 80 = .ok (.iadd, 1) := by decide +kernel
theorem d_prog_120_method_2_code_81 : decode prog_120_method_2_code 81 = .ok (.putfield 24, 3) := by decide +kernel
theorem d_prog_120_method_2_code_84 : decode prog_120_method_2_code 84 = .ok (.iconst 4, 1) := by decide +kernel
theorem d_prog_120_method_2_code_85 : decode prog_120_method_2_code 85 = .ok (.aload_n 0, 1) := by decide +kernel
theorem d_prog_120_method_2_code_86 : decode prog_120_method_2_code 86 = .ok (.getfield 24, 3) := by decide +kernel
theorem d_prog_120_method_2_code_89 : decode prog_120_method_2_code 89 = .ok (.imul, 1) := by decide +kernel
theorem d_prog_120_method_2_code_90 : decode prog_120_method_2_code 90 = .ok (.aload_n 0, 1) := by decide +kernel
theorem d_prog_120_method_2_code_91 : decode prog_120_method_2_code 91 = .ok (.getfield 13, 3) := by decide +kernel
theorem d_prog_120_method_2_code_94 : decode prog_120_method_2_code 94 = .ok (.arraylength, 1) := by decide +kernel
theorem d_prog_120_method_2_code_95 : decode prog_120_method_2_code 95 = .ok (.if_icmp .le 7, 3) := by decide +kernel
theorem d_prog_120_method_2_code_98 : decode prog_120_method_2_code 98 = .ok (.aload_n 0, 1) := by decide +kernel
theorem d_prog_120_method_2_code_99 : decode prog_120_method_2_code 99 = .ok (.invokevirtual 34, 3) := by decide +kernel
theorem d_prog_120_method_2_code_102 : decode prog_120_method_2_code 102 = .ok (.aload_n 0, 1) := by decide +kernel
theorem d_prog_120_method_2_code_103 : decode prog_120_method_2_code 103 = .ok (.getfield 24, 3) := by decide +kernel
theorem d_prog_120_method_2_code_106 : decode prog_120_method_2_code 106 = .ok (.iconst 1, 1) := by decide +kernel
theorem d_prog_120_method_2_code_107 : decode prog_120_method_2_code 107 = .ok (.isub, 1) := by decide +kernel
theorem d_prog_120_method_2_code_108 : decode prog_120_method_2_code 108 = .ok (.ireturn, 1) := by decide +kernel
theorem d_prog_120_method_2_code_109 : decode prog_120_method_2_code 109 = .ok (.aload_n 0, 1) := by decide +kernel
theorem d_prog_120_method_2_code_110 : decode prog_120_method_2_code 110 = .ok (.getfield 13, 3) := by decide +kernel
theorem d_prog_120_method_2_code_113 : decode prog_120_method_2_code 113 = .ok (.iload_n 2, 1) := by decide +kernel
theorem d_prog_120_method_2_code_114 : decode prog_120_method_2_code 114 = .ok (.iconst 1, 1) := by decide +kernel
theorem d_prog_120_method_2_code_115 : decode prog_120_method_2_code 115 = .ok (.iadd, 1) := by decide +kernel
theorem d_prog_120_method_2_code_116 : decode prog_120_method_2_code 116 = .ok (.iaload, 1) := by decide +kernel
theorem d_prog_120_method_2_code_117 : decode prog_120_method_2_code 117 = .ok (.ireturn, 1) := by decide +kernel
theorem ef_rm8 (m : MethodId) (a1 : Addr) (p2 : Int32) : entryFrame m #[(.ref a1), (.int p2)] 3 = mkF m 0 #[.val (.ref a1), .val (.int p2), .unset] [] := by first | (simp [entryFrame, mkF, argsToLocals, Value.category]; done) | rfl
def Q_rm8 (Z : State) (a1 : Addr) (p2 : Int32) (t : Addr) (nb : Addr) (sz : Nat) (y : Nat → Int32) (z : Nat → Int32) (h0 : Heap) (n0 : Nat) (vv_ : Option Value) (h : Heap) (LL_ : List Loc) : Prop := vv_ = some (.int (own_addV y sz p2)) ∧ Fr n0 LL_ ∧ (∃ z2 : Nat → Int32, Keep h0 h [a1, t, nb] ∧ Fld Z h a1 "com/example/ampliar/ampliar/service/TermNumbering" "table" "[I" (.ref t) ∧ Fld Z h a1 "com/example/ampliar/ampliar/service/TermNumbering" "numbered" "[I" (.ref nb) ∧ Fld Z h a1 "com/example/ampliar/ampliar/service/TermNumbering" "size" "I" (.int (Int32.ofNat (own_addS y sz p2))) ∧ Av Z h t .int 128 (fun q => .int (own_addY y sz p2 q)) ∧ Av Z h nb .int 32 (fun q => .int (z2 q)))
set_option maxRecDepth 65536 in
set_option maxHeartbeats 40000000 in
theorem rm8 (l : Launch) (Z : State) (a0 : Array Value) (hw : ∀ d ∈ tables_1, d.before a0 Z = true) (ws : List Jvm.Cond) (a1 : Addr) (p2 : Int32) (t : Addr) (nb : Addr) (sz : Nat) (y : Nat → Int32) (z : Nat → Int32) (h0 : Heap) (n0 : Nat) (Z0 : n0 ≤ h0.size) (E1 : Exa Z h0 a1 "com/example/ampliar/ampliar/service/TermNumbering") (F1 : Fld Z h0 a1 "com/example/ampliar/ampliar/service/TermNumbering" "table" "[I" (.ref t)) (F2 : Fld Z h0 a1 "com/example/ampliar/ampliar/service/TermNumbering" "numbered" "[I" (.ref nb)) (F3 : Fld Z h0 a1 "com/example/ampliar/ampliar/service/TermNumbering" "size" "I" (.int (Int32.ofNat sz))) (V1 : Av Z h0 t .int 128 (fun q => .int (y q))) (V2 : Av Z h0 nb .int 32 (fun q => .int (z q))) (g1 : n0 ≤ a1) (g2 : n0 ≤ t) (g3 : n0 ≤ nb) (n1 : a1 ≠ t) (n2 : a1 ≠ nb) (n3 : t ≠ nb) (hsz : sz ≤ 3) (hok : own_ok y p2 64 (own_h p2)) :
    MetFree l (⟨"com/example/ampliar/ampliar/service/TermNumbering", "add", "(I)I"⟩ : MethodName) (head1 (Jvm.Cond.code (⟨"com/example/ampliar/ampliar/service/TermNumbering", "add", "(I)I"⟩ : MethodName) prog_120_method_2_code 3 (some .int) :: ws) ({ frames := 1, cells := 0, slots := 0, locals := 16 } : Room)) (fun aa_ UU_ => aa_ = #[(.ref a1), (.int p2)] ∧ Z.Warmed39 UU_.vm ∧ UU_.heap = h0) (fun _ _ _ _ _ => True) (fun _ UU_ oo_ VV_ => ∃ vv_ LL_, oo_ = .returned vv_ ∧ Q_rm8 Z a1 p2 t nb sz y z h0 n0 vv_ VV_.heap LL_ ∧ FrameEnd UU_ oo_ VV_ LL_ ({ frames := 1, cells := 0, slots := 0, locals := 16 } : Room).cells ({ frames := 1, cells := 0, slots := 0, locals := 16 } : Room).slots) := by
  refine own_met (y := (⟨"com/example/ampliar/ampliar/service/TermNumbering", "add", "(I)I"⟩ : MethodName)) (plainFor_of_name pn_1) ?_
  intro p e s m below meth c T0 K hx hby hml hret hlk hown hnm hZ X0 e0 hK
  have N0 := Fr.nil n0
  refine Rch.cast (ef_rm8 m a1 p2) ?_
  refine Rch.of (T' := T0) (g' := (mkF m 1 #[.val (.ref a1), .val (.int p2), .unset] [(.ref a1)])) (fun _ kt => XS.aloadN X0.here hx rfl (hb hby d_prog_120_method_2_code_0) rfl rfl kt) ?_
  refine Rch.of (T' := T0) (g' := (mkF m 2 #[.val (.ref a1), .val (.int p2), .unset] [(.int p2), (.ref a1)])) (fun _ kt => XS.iloadN X0.here hx rfl (hb hby d_prog_120_method_2_code_1) rfl  kt) ?_
  obtain ⟨cq128, q128, q128'⟩ := E1.cell
  obtain ⟨_, _, ⟨T128, L128, k128, n128⟩, -, X128, ⟨Lc128, hQ128, l128, y128, z128⟩, st128⟩ := X0.privateBack hx (y := (⟨"com/example/ampliar/ampliar/service/TermNumbering", "slot", "(I)I"⟩ : MethodName)) hown (mvT hZ (hw _ (List.mem_of_getElem? (i := 31) rfl))) (mvT hZ (hw _ (List.mem_of_getElem? (i := 32) rfl))) (own_selP (mvT hZ (hw _ (List.mem_of_getElem? (i := 2) rfl))) (mvP hZ (hw _ (List.mem_of_getElem? (i := 33) rfl))) (mvT hZ (hw _ (List.mem_of_getElem? (i := 32) rfl))) (by decide)) (Cond.privateMethod_at (mvP hZ (hw _ (List.mem_of_getElem? (i := 33) rfl)) (args := #[]))) (mvT hZ (hw _ (List.mem_of_getElem? (i := 34) rfl))) (by decide) (backOf (W := 0) (rm7 l Z a0 hw [] a1 p2 t y h0 n0 Z0 F1 V1 hok) hZ (hw _ (List.mem_of_getElem? (i := 34) rfl)) (hw _ (List.mem_of_getElem? (i := 3) rfl)) (by decide) (by decide)) (g := (mkF m 2 #[.val (.ref a1), .val (.int p2), .unset] [(.int p2), (.ref a1)])) rfl (by rw [hml]; rfl) (Steps.refl _) (a := a1) (by rw [e0]; exact q128) q128' (argsL := [(.int p2)]) (rest := []) (lenOf pd_4 rfl) rfl (by show 2 * 0 + _ ≤ _; exact Nat.le_of_eq rfl) (hb hby d_prog_120_method_2_code_2) (fun _ _ => ⟨rfl, e0, (by decide : 0 + 0 ≤ _), (by decide : 0 + 0 ≤ _)⟩)
  dsimp only [Pt.U, Pt.locs, Pt.cells, Pt.slots] at X128 l128 y128 z128 st128 hQ128
  subst l128 y128 z128
  obtain ⟨rfl, N128q, hQ128⟩ := hQ128
  have N128 := Fr.app N0 N128q
  refine Rch.via (T' := T128) (g' := (mkF m 5 #[.val (.ref a1), .val (.int p2), .unset] [(.int (Int32.ofNat (2 * own_slot y p2)))])) st128 ?_
  refine Rch.of (T' := T128) (g' := (mkF m 6 #[.val (.ref a1), .val (.int p2), .val (.int (Int32.ofNat (2 * own_slot y p2)))] [])) (fun _ kt => XS.istoreN X128.here hx rfl (hb hby d_prog_120_method_2_code_5) rfl (l' := #[.val (.ref a1), .val (.int p2), .val (.int (Int32.ofNat (2 * own_slot y p2)))]) rfl kt) ?_
  refine Rch.of (T' := T128) (g' := (mkF m 7 #[.val (.ref a1), .val (.int p2), .val (.int (Int32.ofNat (2 * own_slot y p2)))] [(.ref a1)])) (fun _ kt => XS.aloadN X128.here hx rfl (hb hby d_prog_120_method_2_code_6) rfl rfl kt) ?_
  obtain ⟨T129, X129, e129, st129⟩ := getF X128 hx hZ hown (host := "") (Or.inl (hw _ (List.mem_of_getElem? (i := 18) rfl))) Via.refl hQ128 F1 (g := (mkF m 7 #[.val (.ref a1), .val (.int p2), .val (.int (Int32.ofNat (2 * own_slot y p2)))] [(.ref a1)])) rfl rfl (hb hby d_prog_120_method_2_code_7)
  refine Rch.of (T' := T129) (g' := (mkF m 10 #[.val (.ref a1), .val (.int p2), .val (.int (Int32.ofNat (2 * own_slot y p2)))] [(.ref t)])) st129 ?_
  refine Rch.of (T' := T129) (g' := (mkF m 11 #[.val (.ref a1), .val (.int p2), .val (.int (Int32.ofNat (2 * own_slot y p2)))] [(.int (Int32.ofNat (2 * own_slot y p2))), (.ref t)])) (fun _ kt => XS.iloadN X129.here hx rfl (hb hby d_prog_120_method_2_code_10) rfl  kt) ?_
  obtain ⟨cl130, Ar130, Sz130, Ha130⟩ := id V1
  refine Rch.of (T' := T129) (g' := (mkF m 12 #[.val (.ref a1), .val (.int p2), .val (.int (Int32.ofNat (2 * own_slot y p2)))] [(.int (y (2 * own_slot y p2)))])) (X129.iaload hx (j := (Int32.ofNat (2 * own_slot y p2))) (v := (.int (y (2 * own_slot y p2)))) (by rw [e129]; exact Ar130.1) (State.isArrayOf_alike hZ.alike Ar130.2.1) Ar130.2.2 (oIn Sz130 (oTo (by have := own_slot_lt y p2; omega)) (by have := own_slot_lt y p2; omega)) (oAt Ha130 (oTo (by have := own_slot_lt y p2; omega)) (by have := own_slot_lt y p2; omega)) (g := (mkF m 11 #[.val (.ref a1), .val (.int p2), .val (.int (Int32.ofNat (2 * own_slot y p2)))] [(.int (Int32.ofNat (2 * own_slot y p2))), (.ref t)])) rfl rfl (hb hby d_prog_120_method_2_code_11)) ?_
  refine Rch.of (T' := T129) (g' := (mkF m 13 #[.val (.ref a1), .val (.int p2), .val (.int (Int32.ofNat (2 * own_slot y p2)))] [(.int (-1 : Int32)), (.int (y (2 * own_slot y p2)))])) (fun _ kt => XS.iconst X129.here hx rfl (hb hby d_prog_120_method_2_code_12) kt) ?_
  by_cases c131 : (y (2 * own_slot y p2)) = (-1 : Int32)
  · skip
    refine Rch.of (T' := T129) (g' := (mkF m 16 #[.val (.ref a1), .val (.int p2), .val (.int (Int32.ofNat (2 * own_slot y p2)))] [])) (fun _ kt => XS.icmpNo X129.here hx rfl (hb hby d_prog_120_method_2_code_13) rfl (teq c131).2 kt) ?_
    refine Rch.of (T' := T129) (g' := (mkF m 17 #[.val (.ref a1), .val (.int p2), .val (.int (Int32.ofNat (2 * own_slot y p2)))] [(.ref a1)])) (fun _ kt => XS.aloadN X129.here hx rfl (hb hby d_prog_120_method_2_code_16) rfl rfl kt) ?_
    obtain ⟨T132, X132, e132, st132⟩ := getF X129 hx hZ hown (host := "") (Or.inl (hw _ (List.mem_of_getElem? (i := 41) rfl))) Via.refl e129 F3 (g := (mkF m 17 #[.val (.ref a1), .val (.int p2), .val (.int (Int32.ofNat (2 * own_slot y p2)))] [(.ref a1)])) rfl rfl (hb hby d_prog_120_method_2_code_17)
    refine Rch.of (T' := T132) (g' := (mkF m 20 #[.val (.ref a1), .val (.int p2), .val (.int (Int32.ofNat (2 * own_slot y p2)))] [(.int (Int32.ofNat sz))])) st132 ?_
    refine Rch.of (T' := T132) (g' := (mkF m 21 #[.val (.ref a1), .val (.int p2), .val (.int (Int32.ofNat (2 * own_slot y p2)))] [(.ref a1), (.int (Int32.ofNat sz))])) (fun _ kt => XS.aloadN X132.here hx rfl (hb hby d_prog_120_method_2_code_20) rfl rfl kt) ?_
    obtain ⟨T133, X133, e133, st133⟩ := getF X132 hx hZ hown (host := "") (Or.inl (hw _ (List.mem_of_getElem? (i := 20) rfl))) Via.refl e132 F2 (g := (mkF m 21 #[.val (.ref a1), .val (.int p2), .val (.int (Int32.ofNat (2 * own_slot y p2)))] [(.ref a1), (.int (Int32.ofNat sz))])) rfl rfl (hb hby d_prog_120_method_2_code_21)
    refine Rch.of (T' := T133) (g' := (mkF m 24 #[.val (.ref a1), .val (.int p2), .val (.int (Int32.ofNat (2 * own_slot y p2)))] [(.ref nb), (.int (Int32.ofNat sz))])) st133 ?_
    obtain ⟨cl134, Ar134, Sz134, Ha134⟩ := id V2
    refine Rch.of (T' := T133) (g' := (mkF m 25 #[.val (.ref a1), .val (.int p2), .val (.int (Int32.ofNat (2 * own_slot y p2)))] [(.int cl134.slots.size.toInt32), (.int (Int32.ofNat sz))])) (X133.arraylength hx (by rw [e133]; exact Ar134.1) (State.isArrayOf_alike hZ.alike Ar134.2.1) (g := (mkF m 24 #[.val (.ref a1), .val (.int p2), .val (.int (Int32.ofNat (2 * own_slot y p2)))] [(.ref nb), (.int (Int32.ofNat sz))])) rfl rfl (hb hby d_prog_120_method_2_code_24)) ?_
    rw [oLen Sz134]
    show Rch p e below K T133 (mkF m 25 #[.val (.ref a1), .val (.int p2), .val (.int (Int32.ofNat (2 * own_slot y p2)))] [(.int (Int32.ofNat 32)), (.int (Int32.ofNat sz))])
    refine Rch.of (T' := T133) (g' := (mkF m 45 #[.val (.ref a1), .val (.int p2), .val (.int (Int32.ofNat (2 * own_slot y p2)))] [])) (fun _ kt => XS.icmpYes X133.here hx rfl (pc0 := 25) (pc' := 45) rfl (hb hby d_prog_120_method_2_code_25) rfl (feq (own_ne32 hsz)).2 (by decide) (by decide) kt) ?_
    refine Rch.of (T' := T133) (g' := (mkF m 46 #[.val (.ref a1), .val (.int p2), .val (.int (Int32.ofNat (2 * own_slot y p2)))] [(.ref a1)])) (fun _ kt => XS.aloadN X133.here hx rfl (hb hby d_prog_120_method_2_code_45) rfl rfl kt) ?_
    obtain ⟨T135, X135, e135, st135⟩ := getF X133 hx hZ hown (host := "") (Or.inl (hw _ (List.mem_of_getElem? (i := 20) rfl))) Via.refl e133 F2 (g := (mkF m 46 #[.val (.ref a1), .val (.int p2), .val (.int (Int32.ofNat (2 * own_slot y p2)))] [(.ref a1)])) rfl rfl (hb hby d_prog_120_method_2_code_46)
    refine Rch.of (T' := T135) (g' := (mkF m 49 #[.val (.ref a1), .val (.int p2), .val (.int (Int32.ofNat (2 * own_slot y p2)))] [(.ref nb)])) st135 ?_
    refine Rch.of (T' := T135) (g' := (mkF m 50 #[.val (.ref a1), .val (.int p2), .val (.int (Int32.ofNat (2 * own_slot y p2)))] [(.ref a1), (.ref nb)])) (fun _ kt => XS.aloadN X135.here hx rfl (hb hby d_prog_120_method_2_code_49) rfl rfl kt) ?_
    obtain ⟨T136, X136, e136, st136⟩ := getF X135 hx hZ hown (host := "") (Or.inl (hw _ (List.mem_of_getElem? (i := 41) rfl))) Via.refl e135 F3 (g := (mkF m 50 #[.val (.ref a1), .val (.int p2), .val (.int (Int32.ofNat (2 * own_slot y p2)))] [(.ref a1), (.ref nb)])) rfl rfl (hb hby d_prog_120_method_2_code_50)
    refine Rch.of (T' := T136) (g' := (mkF m 53 #[.val (.ref a1), .val (.int p2), .val (.int (Int32.ofNat (2 * own_slot y p2)))] [(.int (Int32.ofNat sz)), (.ref nb)])) st136 ?_
    refine Rch.of (T' := T136) (g' := (mkF m 54 #[.val (.ref a1), .val (.int p2), .val (.int (Int32.ofNat (2 * own_slot y p2)))] [(.int p2), (.int (Int32.ofNat sz)), (.ref nb)])) (fun _ kt => XS.iloadN X136.here hx rfl (hb hby d_prog_120_method_2_code_53) rfl  kt) ?_
    obtain ⟨cl137, Ar137, Sz137, Ha137⟩ := id V2
    obtain ⟨T137, h137, X137, e137, W137, st137⟩ := stI X136 hx hZ e136 Ar137 (j := (Int32.ofNat sz)) (oIn Sz137 (oTo (by omega)) (by omega)) (g := (mkF m 54 #[.val (.ref a1), .val (.int p2), .val (.int (Int32.ofNat (2 * own_slot y p2)))] [(.int p2), (.int (Int32.ofNat sz)), (.ref nb)])) rfl rfl (hb hby d_prog_120_method_2_code_54)
    have V137 := Av.setI V2 (oTo (by omega)) (by omega) W137
    obtain ⟨y137, hy137⟩ : ∃ zz_ : Nat → Int32, zz_ = fun q => if q = sz then p2 else z q := ⟨_, rfl⟩
    have V137 : Av Z h137 nb .int 32 (fun q => .int (y137 q)) := by rw [hy137]; exact V137
    have N137 := Fr.snoc X137 N128 g3
    refine Rch.of (T' := T137) (g' := (mkF m 55 #[.val (.ref a1), .val (.int p2), .val (.int (Int32.ofNat (2 * own_slot y p2)))] [])) st137 ?_
    refine Rch.of (T' := T137) (g' := (mkF m 56 #[.val (.ref a1), .val (.int p2), .val (.int (Int32.ofNat (2 * own_slot y p2)))] [(.ref a1)])) (fun _ kt => XS.aloadN X137.here hx rfl (hb hby d_prog_120_method_2_code_55) rfl rfl kt) ?_
    obtain ⟨T138, X138, e138, st138⟩ := getF X137 hx hZ hown (host := "") (Or.inl (hw _ (List.mem_of_getElem? (i := 18) rfl))) Via.refl e137 (F1.other W137 (Or.inl n2)) (g := (mkF m 56 #[.val (.ref a1), .val (.int p2), .val (.int (Int32.ofNat (2 * own_slot y p2)))] [(.ref a1)])) rfl rfl (hb hby d_prog_120_method_2_code_56)
    refine Rch.of (T' := T138) (g' := (mkF m 59 #[.val (.ref a1), .val (.int p2), .val (.int (Int32.ofNat (2 * own_slot y p2)))] [(.ref t)])) st138 ?_
    refine Rch.of (T' := T138) (g' := (mkF m 60 #[.val (.ref a1), .val (.int p2), .val (.int (Int32.ofNat (2 * own_slot y p2)))] [(.int (Int32.ofNat (2 * own_slot y p2))), (.ref t)])) (fun _ kt => XS.iloadN X138.here hx rfl (hb hby d_prog_120_method_2_code_59) rfl  kt) ?_
    refine Rch.of (T' := T138) (g' := (mkF m 61 #[.val (.ref a1), .val (.int p2), .val (.int (Int32.ofNat (2 * own_slot y p2)))] [(.int p2), (.int (Int32.ofNat (2 * own_slot y p2))), (.ref t)])) (fun _ kt => XS.iloadN X138.here hx rfl (hb hby d_prog_120_method_2_code_60) rfl  kt) ?_
    obtain ⟨cl139, Ar139, Sz139, Ha139⟩ := id (V1.other W137 n3)
    obtain ⟨T139, h139, X139, e139, W139, st139⟩ := stI X138 hx hZ e138 Ar139 (j := (Int32.ofNat (2 * own_slot y p2))) (oIn Sz139 (oTo (by have := own_slot_lt y p2; omega)) (by have := own_slot_lt y p2; omega)) (g := (mkF m 61 #[.val (.ref a1), .val (.int p2), .val (.int (Int32.ofNat (2 * own_slot y p2)))] [(.int p2), (.int (Int32.ofNat (2 * own_slot y p2))), (.ref t)])) rfl rfl (hb hby d_prog_120_method_2_code_61)
    have V139 := Av.setI (V1.other W137 n3) (oTo (by have := own_slot_lt y p2; omega)) (by have := own_slot_lt y p2; omega) W139
    obtain ⟨y139, hy139⟩ : ∃ zz_ : Nat → Int32, zz_ = fun q => if q = (2 * own_slot y p2) then p2 else y q := ⟨_, rfl⟩
    have V139 : Av Z h139 t .int 128 (fun q => .int (y139 q)) := by rw [hy139]; exact V139
    have N139 := Fr.snoc X139 N137 g2
    refine Rch.of (T' := T139) (g' := (mkF m 62 #[.val (.ref a1), .val (.int p2), .val (.int (Int32.ofNat (2 * own_slot y p2)))] [])) st139 ?_
    refine Rch.of (T' := T139) (g' := (mkF m 63 #[.val (.ref a1), .val (.int p2), .val (.int (Int32.ofNat (2 * own_slot y p2)))] [(.ref a1)])) (fun _ kt => XS.aloadN X139.here hx rfl (hb hby d_prog_120_method_2_code_62) rfl rfl kt) ?_
    obtain ⟨T140, X140, e140, st140⟩ := getF X139 hx hZ hown (host := "") (Or.inl (hw _ (List.mem_of_getElem? (i := 18) rfl))) Via.refl e139 ((F1.other W137 (Or.inl n2)).other W139 (Or.inl n1)) (g := (mkF m 63 #[.val (.ref a1), .val (.int p2), .val (.int (Int32.ofNat (2 * own_slot y p2)))] [(.ref a1)])) rfl rfl (hb hby d_prog_120_method_2_code_63)
    refine Rch.of (T' := T140) (g' := (mkF m 66 #[.val (.ref a1), .val (.int p2), .val (.int (Int32.ofNat (2 * own_slot y p2)))] [(.ref t)])) st140 ?_
    refine Rch.of (T' := T140) (g' := (mkF m 67 #[.val (.ref a1), .val (.int p2), .val (.int (Int32.ofNat (2 * own_slot y p2)))] [(.int (Int32.ofNat (2 * own_slot y p2))), (.ref t)])) (fun _ kt => XS.iloadN X140.here hx rfl (hb hby d_prog_120_method_2_code_66) rfl  kt) ?_
    refine Rch.of (T' := T140) (g' := (mkF m 68 #[.val (.ref a1), .val (.int p2), .val (.int (Int32.ofNat (2 * own_slot y p2)))] [(.int (1 : Int32)), (.int (Int32.ofNat (2 * own_slot y p2))), (.ref t)])) (fun _ kt => XS.iconst X140.here hx rfl (hb hby d_prog_120_method_2_code_67) kt) ?_
    refine Rch.of (T' := T140) (g' := (mkF m 69 #[.val (.ref a1), .val (.int p2), .val (.int (Int32.ofNat (2 * own_slot y p2)))] [(.int ((Int32.ofNat (2 * own_slot y p2)) + (1 : Int32))), (.ref t)])) (fun _ kt => XS.iadd X140.here hx rfl (hb hby d_prog_120_method_2_code_68) rfl kt) ?_
    refine Rch.of (T' := T140) (g' := (mkF m 70 #[.val (.ref a1), .val (.int p2), .val (.int (Int32.ofNat (2 * own_slot y p2)))] [(.ref a1), (.int ((Int32.ofNat (2 * own_slot y p2)) + (1 : Int32))), (.ref t)])) (fun _ kt => XS.aloadN X140.here hx rfl (hb hby d_prog_120_method_2_code_69) rfl rfl kt) ?_
    obtain ⟨T141, X141, e141, st141⟩ := getF X140 hx hZ hown (host := "") (Or.inl (hw _ (List.mem_of_getElem? (i := 41) rfl))) Via.refl e140 ((F3.other W137 (Or.inl n2)).other W139 (Or.inl n1)) (g := (mkF m 70 #[.val (.ref a1), .val (.int p2), .val (.int (Int32.ofNat (2 * own_slot y p2)))] [(.ref a1), (.int ((Int32.ofNat (2 * own_slot y p2)) + (1 : Int32))), (.ref t)])) rfl rfl (hb hby d_prog_120_method_2_code_70)
    refine Rch.of (T' := T141) (g' := (mkF m 73 #[.val (.ref a1), .val (.int p2), .val (.int (Int32.ofNat (2 * own_slot y p2)))] [(.int (Int32.ofNat sz)), (.int ((Int32.ofNat (2 * own_slot y p2)) + (1 : Int32))), (.ref t)])) st141 ?_
    obtain ⟨cl142, Ar142, Sz142, Ha142⟩ := id V139
    obtain ⟨T142, h142, X142, e142, W142, st142⟩ := stI X141 hx hZ e141 Ar142 (j := ((Int32.ofNat (2 * own_slot y p2)) + (1 : Int32))) (oIn Sz142 (own_odd y p2) (by have := own_slot_lt y p2; omega)) (g := (mkF m 73 #[.val (.ref a1), .val (.int p2), .val (.int (Int32.ofNat (2 * own_slot y p2)))] [(.int (Int32.ofNat sz)), (.int ((Int32.ofNat (2 * own_slot y p2)) + (1 : Int32))), (.ref t)])) rfl rfl (hb hby d_prog_120_method_2_code_73)
    have V142 := Av.setI V139 (own_odd y p2) (by have := own_slot_lt y p2; omega) W142
    obtain ⟨y142, hy142⟩ : ∃ zz_ : Nat → Int32, zz_ = fun q => if q = (2 * own_slot y p2 + 1) then (Int32.ofNat sz) else y139 q := ⟨_, rfl⟩
    have V142 : Av Z h142 t .int 128 (fun q => .int (y142 q)) := by rw [hy142]; exact V142
    have N142 := Fr.snoc X142 N139 g2
    have Fb143 := ((((Keep.refl h0 [a1, t, nb]).wr W137 (Or.inl (List.mem_of_getElem? (i := 2) rfl))).wr W139 (Or.inl (List.mem_of_getElem? (i := 1) rfl))).wr W142 (Or.inl (List.mem_of_getElem? (i := 1) rfl)))
    refine Rch.of (T' := T142) (g' := (mkF m 74 #[.val (.ref a1), .val (.int p2), .val (.int (Int32.ofNat (2 * own_slot y p2)))] [])) st142 ?_
    refine Rch.of (T' := T142) (g' := (mkF m 75 #[.val (.ref a1), .val (.int p2), .val (.int (Int32.ofNat (2 * own_slot y p2)))] [(.ref a1)])) (fun _ kt => XS.aloadN X142.here hx rfl (hb hby d_prog_120_method_2_code_74) rfl rfl kt) ?_
    refine Rch.of (T' := T142) (g' := (mkF m 76 #[.val (.ref a1), .val (.int p2), .val (.int (Int32.ofNat (2 * own_slot y p2)))] [(.ref a1), (.ref a1)])) (fun _ kt => XS.dup X142.here hx rfl (hb hby d_prog_120_method_2_code_75) rfl rfl kt) ?_
    obtain ⟨T144, X144, e144, st144⟩ := getF X142 hx hZ hown (host := "") (Or.inl (hw _ (List.mem_of_getElem? (i := 41) rfl))) Via.refl e142 (((F3.other W137 (Or.inl n2)).other W139 (Or.inl n1)).other W142 (Or.inl n1)) (g := (mkF m 76 #[.val (.ref a1), .val (.int p2), .val (.int (Int32.ofNat (2 * own_slot y p2)))] [(.ref a1), (.ref a1)])) rfl rfl (hb hby d_prog_120_method_2_code_76)
    refine Rch.of (T' := T144) (g' := (mkF m 79 #[.val (.ref a1), .val (.int p2), .val (.int (Int32.ofNat (2 * own_slot y p2)))] [(.int (Int32.ofNat sz)), (.ref a1)])) st144 ?_
    refine Rch.of (T' := T144) (g' := (mkF m 80 #[.val (.ref a1), .val (.int p2), .val (.int (Int32.ofNat (2 * own_slot y p2)))] [(.int (1 : Int32)), (.int (Int32.ofNat sz)), (.ref a1)])) (fun _ kt => XS.iconst X144.here hx rfl (hb hby d_prog_120_method_2_code_79) kt) ?_
    refine Rch.of (T' := T144) (g' := (mkF m 81 #[.val (.ref a1), .val (.int p2), .val (.int (Int32.ofNat (2 * own_slot y p2)))] [(.int ((Int32.ofNat sz) + (1 : Int32))), (.ref a1)])) (fun _ kt => XS.iadd X144.here hx rfl (hb hby d_prog_120_method_2_code_80) rfl kt) ?_
    obtain ⟨T145, h145, X145, e145, W145, st145⟩ := putF X144 hx hZ hown (host := "") (Or.inl (hw _ (List.mem_of_getElem? (i := 41) rfl))) Via.refl e144 (((F3.other W137 (Or.inl n2)).other W139 (Or.inl n1)).other W142 (Or.inl n1)) (((E1.wr W137).wr W139).wr W142) (Or.inl (hw _ (List.mem_of_getElem? (i := 42) rfl))) (hw _ (List.mem_of_getElem? (i := 2) rfl)) (ty := .int) (by decide) rfl rfl (g := (mkF m 81 #[.val (.ref a1), .val (.int p2), .val (.int (Int32.ofNat (2 * own_slot y p2)))] [(.int ((Int32.ofNat sz) + (1 : Int32))), (.ref a1)])) rfl rfl (hb hby d_prog_120_method_2_code_81)
    have N145 := Fr.snoc X145 N142 g1
    have Fw145 := Fld.same W145 (((F3.other W137 (Or.inl n2)).other W139 (Or.inl n1)).other W142 (Or.inl n1))
    have Fb146 := ((((F1.other W137 (Or.inl n2)).other W139 (Or.inl n1)).other W142 (Or.inl n1)).other W145 (Or.inr (slot_ne (Or.inl (hw _ (List.mem_of_getElem? (i := 19) rfl))) (Or.inl (hw _ (List.mem_of_getElem? (i := 42) rfl))) (by decide) (t := (.array .int)) (t' := .int) (by decide) (by decide))))
    have Fb147 := ((((F2.other W137 (Or.inl n2)).other W139 (Or.inl n1)).other W142 (Or.inl n1)).other W145 (Or.inr (slot_ne (Or.inl (hw _ (List.mem_of_getElem? (i := 21) rfl))) (Or.inl (hw _ (List.mem_of_getElem? (i := 42) rfl))) (by decide) (t := (.array .int)) (t' := .int) (by decide) (by decide))))
    refine Rch.of (T' := T145) (g' := (mkF m 84 #[.val (.ref a1), .val (.int p2), .val (.int (Int32.ofNat (2 * own_slot y p2)))] [])) st145 ?_
    refine Rch.of (T' := T145) (g' := (mkF m 85 #[.val (.ref a1), .val (.int p2), .val (.int (Int32.ofNat (2 * own_slot y p2)))] [(.int (4 : Int32))])) (fun _ kt => XS.iconst X145.here hx rfl (hb hby d_prog_120_method_2_code_84) kt) ?_
    refine Rch.of (T' := T145) (g' := (mkF m 86 #[.val (.ref a1), .val (.int p2), .val (.int (Int32.ofNat (2 * own_slot y p2)))] [(.ref a1), (.int (4 : Int32))])) (fun _ kt => XS.aloadN X145.here hx rfl (hb hby d_prog_120_method_2_code_85) rfl rfl kt) ?_
    obtain ⟨T148, X148, e148, st148⟩ := getF X145 hx hZ hown (host := "") (Or.inl (hw _ (List.mem_of_getElem? (i := 41) rfl))) Via.refl e145 Fw145 (g := (mkF m 86 #[.val (.ref a1), .val (.int p2), .val (.int (Int32.ofNat (2 * own_slot y p2)))] [(.ref a1), (.int (4 : Int32))])) rfl rfl (hb hby d_prog_120_method_2_code_86)
    refine Rch.of (T' := T148) (g' := (mkF m 89 #[.val (.ref a1), .val (.int p2), .val (.int (Int32.ofNat (2 * own_slot y p2)))] [(.int ((Int32.ofNat sz) + (1 : Int32))), (.int (4 : Int32))])) st148 ?_
    refine Rch.of (T' := T148) (g' := (mkF m 90 #[.val (.ref a1), .val (.int p2), .val (.int (Int32.ofNat (2 * own_slot y p2)))] [(.int ((4 : Int32) * ((Int32.ofNat sz) + (1 : Int32))))])) (fun _ kt => XS.imul X148.here hx rfl (hb hby d_prog_120_method_2_code_89) rfl kt) ?_
    refine Rch.of (T' := T148) (g' := (mkF m 91 #[.val (.ref a1), .val (.int p2), .val (.int (Int32.ofNat (2 * own_slot y p2)))] [(.ref a1), (.int ((4 : Int32) * ((Int32.ofNat sz) + (1 : Int32))))])) (fun _ kt => XS.aloadN X148.here hx rfl (hb hby d_prog_120_method_2_code_90) rfl rfl kt) ?_
    obtain ⟨T149, X149, e149, st149⟩ := getF X148 hx hZ hown (host := "") (Or.inl (hw _ (List.mem_of_getElem? (i := 18) rfl))) Via.refl e148 Fb146 (g := (mkF m 91 #[.val (.ref a1), .val (.int p2), .val (.int (Int32.ofNat (2 * own_slot y p2)))] [(.ref a1), (.int ((4 : Int32) * ((Int32.ofNat sz) + (1 : Int32))))])) rfl rfl (hb hby d_prog_120_method_2_code_91)
    refine Rch.of (T' := T149) (g' := (mkF m 94 #[.val (.ref a1), .val (.int p2), .val (.int (Int32.ofNat (2 * own_slot y p2)))] [(.ref t), (.int ((4 : Int32) * ((Int32.ofNat sz) + (1 : Int32))))])) st149 ?_
    obtain ⟨cl150, Ar150, Sz150, Ha150⟩ := id (V142.other W145 (Ne.symm n1))
    refine Rch.of (T' := T149) (g' := (mkF m 95 #[.val (.ref a1), .val (.int p2), .val (.int (Int32.ofNat (2 * own_slot y p2)))] [(.int cl150.slots.size.toInt32), (.int ((4 : Int32) * ((Int32.ofNat sz) + (1 : Int32))))])) (X149.arraylength hx (by rw [e149]; exact Ar150.1) (State.isArrayOf_alike hZ.alike Ar150.2.1) (g := (mkF m 94 #[.val (.ref a1), .val (.int p2), .val (.int (Int32.ofNat (2 * own_slot y p2)))] [(.ref t), (.int ((4 : Int32) * ((Int32.ofNat sz) + (1 : Int32))))])) rfl rfl (hb hby d_prog_120_method_2_code_94)) ?_
    rw [oLen Sz150]
    show Rch p e below K T149 (mkF m 95 #[.val (.ref a1), .val (.int p2), .val (.int (Int32.ofNat (2 * own_slot y p2)))] [(.int (Int32.ofNat 128)), (.int ((4 : Int32) * ((Int32.ofNat sz) + (1 : Int32))))])
    refine Rch.of (T' := T149) (g' := (mkF m 102 #[.val (.ref a1), .val (.int p2), .val (.int (Int32.ofNat (2 * own_slot y p2)))] [])) (fun _ kt => XS.icmpYes X149.here hx rfl (pc0 := 95) (pc' := 102) rfl (hb hby d_prog_120_method_2_code_95) rfl (flt (own_four hsz)).2.2.2 (by decide) (by decide) kt) ?_
    refine Rch.of (T' := T149) (g' := (mkF m 103 #[.val (.ref a1), .val (.int p2), .val (.int (Int32.ofNat (2 * own_slot y p2)))] [(.ref a1)])) (fun _ kt => XS.aloadN X149.here hx rfl (hb hby d_prog_120_method_2_code_102) rfl rfl kt) ?_
    obtain ⟨T151, X151, e151, st151⟩ := getF X149 hx hZ hown (host := "") (Or.inl (hw _ (List.mem_of_getElem? (i := 41) rfl))) Via.refl e149 Fw145 (g := (mkF m 103 #[.val (.ref a1), .val (.int p2), .val (.int (Int32.ofNat (2 * own_slot y p2)))] [(.ref a1)])) rfl rfl (hb hby d_prog_120_method_2_code_103)
    refine Rch.of (T' := T151) (g' := (mkF m 106 #[.val (.ref a1), .val (.int p2), .val (.int (Int32.ofNat (2 * own_slot y p2)))] [(.int ((Int32.ofNat sz) + (1 : Int32)))])) st151 ?_
    refine Rch.of (T' := T151) (g' := (mkF m 107 #[.val (.ref a1), .val (.int p2), .val (.int (Int32.ofNat (2 * own_slot y p2)))] [(.int (1 : Int32)), (.int ((Int32.ofNat sz) + (1 : Int32)))])) (fun _ kt => XS.iconst X151.here hx rfl (hb hby d_prog_120_method_2_code_106) kt) ?_
    refine Rch.of (T' := T151) (g' := (mkF m 108 #[.val (.ref a1), .val (.int p2), .val (.int (Int32.ofNat (2 * own_slot y p2)))] [(.int (((Int32.ofNat sz) + (1 : Int32)) - (1 : Int32)))])) (fun _ kt => XS.isub X151.here hx rfl (hb hby d_prog_120_method_2_code_107) rfl kt) ?_
    have hs' : own_addS y sz p2 = sz + 1 := by simp [own_addS, c131]
    exact Rch.retI X151 hx hret hlk (hb hby d_prog_120_method_2_code_108) (fun U hU hF => hK _ U _ _ _ (by show Q_rm8 Z a1 p2 t nb sz y z h0 n0 _ U.heap _; rw [hU, e151]; exact ⟨by simp [own_addV, c131], N145, y137, (Fb143.wr W145 (Or.inl (List.mem_of_getElem? (i := 0) rfl))), Fb146, Fb147, by rw [hs', ← own_one]; exact Fw145, Av.congr (V142.other W145 (Ne.symm n1)) (fun j hj => by rw [hy142, hy139]; simp [own_addY, c131]), (((V137.other W139 (Ne.symm n3)).other W142 (Ne.symm n3)).other W145 (Ne.symm n2))⟩) hF (by decide) (by decide))
  · skip
    refine Rch.of (T' := T129) (g' := (mkF m 109 #[.val (.ref a1), .val (.int p2), .val (.int (Int32.ofNat (2 * own_slot y p2)))] [])) (fun _ kt => XS.icmpYes X129.here hx rfl (pc0 := 13) (pc' := 109) rfl (hb hby d_prog_120_method_2_code_13) rfl (feq c131).2 (by decide) (by decide) kt) ?_
    refine Rch.of (T' := T129) (g' := (mkF m 110 #[.val (.ref a1), .val (.int p2), .val (.int (Int32.ofNat (2 * own_slot y p2)))] [(.ref a1)])) (fun _ kt => XS.aloadN X129.here hx rfl (hb hby d_prog_120_method_2_code_109) rfl rfl kt) ?_
    obtain ⟨T152, X152, e152, st152⟩ := getF X129 hx hZ hown (host := "") (Or.inl (hw _ (List.mem_of_getElem? (i := 18) rfl))) Via.refl e129 F1 (g := (mkF m 110 #[.val (.ref a1), .val (.int p2), .val (.int (Int32.ofNat (2 * own_slot y p2)))] [(.ref a1)])) rfl rfl (hb hby d_prog_120_method_2_code_110)
    refine Rch.of (T' := T152) (g' := (mkF m 113 #[.val (.ref a1), .val (.int p2), .val (.int (Int32.ofNat (2 * own_slot y p2)))] [(.ref t)])) st152 ?_
    refine Rch.of (T' := T152) (g' := (mkF m 114 #[.val (.ref a1), .val (.int p2), .val (.int (Int32.ofNat (2 * own_slot y p2)))] [(.int (Int32.ofNat (2 * own_slot y p2))), (.ref t)])) (fun _ kt => XS.iloadN X152.here hx rfl (hb hby d_prog_120_method_2_code_113) rfl  kt) ?_
    refine Rch.of (T' := T152) (g' := (mkF m 115 #[.val (.ref a1), .val (.int p2), .val (.int (Int32.ofNat (2 * own_slot y p2)))] [(.int (1 : Int32)), (.int (Int32.ofNat (2 * own_slot y p2))), (.ref t)])) (fun _ kt => XS.iconst X152.here hx rfl (hb hby d_prog_120_method_2_code_114) kt) ?_
    refine Rch.of (T' := T152) (g' := (mkF m 116 #[.val (.ref a1), .val (.int p2), .val (.int (Int32.ofNat (2 * own_slot y p2)))] [(.int ((Int32.ofNat (2 * own_slot y p2)) + (1 : Int32))), (.ref t)])) (fun _ kt => XS.iadd X152.here hx rfl (hb hby d_prog_120_method_2_code_115) rfl kt) ?_
    obtain ⟨cl153, Ar153, Sz153, Ha153⟩ := id V1
    refine Rch.of (T' := T152) (g' := (mkF m 117 #[.val (.ref a1), .val (.int p2), .val (.int (Int32.ofNat (2 * own_slot y p2)))] [(.int (y (2 * own_slot y p2 + 1)))])) (X152.iaload hx (j := ((Int32.ofNat (2 * own_slot y p2)) + (1 : Int32))) (v := (.int (y (2 * own_slot y p2 + 1)))) (by rw [e152]; exact Ar153.1) (State.isArrayOf_alike hZ.alike Ar153.2.1) Ar153.2.2 (oIn Sz153 (own_odd y p2) (by have := own_slot_lt y p2; omega)) (oAt Ha153 (own_odd y p2) (by have := own_slot_lt y p2; omega)) (g := (mkF m 116 #[.val (.ref a1), .val (.int p2), .val (.int (Int32.ofNat (2 * own_slot y p2)))] [(.int ((Int32.ofNat (2 * own_slot y p2)) + (1 : Int32))), (.ref t)])) rfl rfl (hb hby d_prog_120_method_2_code_116)) ?_
    have hs' : own_addS y sz p2 = sz := by simp [own_addS, c131]
    exact Rch.retI X152 hx hret hlk (hb hby d_prog_120_method_2_code_117) (fun U hU hF => hK _ U _ _ _ (by show Q_rm8 Z a1 p2 t nb sz y z h0 n0 _ U.heap _; rw [hU, e152]; exact ⟨by simp [own_addV, c131], N128, z, Keep.refl h0 _, F1, F2, by rw [hs']; exact F3, Av.congr V1 (fun j hj => by simp [own_addY, c131]), V2⟩) hF (by decide) (by decide))
theorem d_method_3_code_0 : decode method_3_code 0 = .ok (.iconst 0, 1) := by decide +kernel
theorem d_method_3_code_1 : decode method_3_code 1 = .ok (.istore 6, 2) := by decide +kernel
theorem d_method_3_code_3 : decode method_3_code 3 = .ok (.iconst (-1), 1) := by decide +kernel
theorem d_method_3_code_4 : decode method_3_code 4 = .ok (.istore 7, 2) := by decide +kernel
theorem d_method_3_code_6 : decode method_3_code 6 = .ok (.iload_n 0, 1) := by decide +kernel
theorem d_method_3_code_7 : decode method_3_code 7 = .ok (.ifCond .le 15, 3) := by decide +kernel
theorem d_method_3_code_10 : decode method_3_code 10 = .ok (.iload 5, 2) := by decide +kernel
theorem d_method_3_code_12 : decode method_3_code 12 = .ok (.iload_n 1, 1) := by decide +kernel
theorem d_method_3_code_13 : decode method_3_code 13 = .ok (.if_icmp .ne 6, 3) := by decide +kernel
theorem d_method_3_code_16 : decode method_3_code 16 = .ok (.iconst 0, 1) := by decide +kernel
theorem d_method_3_code_17 : decode method_3_code 17 = .ok (.istore 7, 2) := by decide +kernel
theorem d_method_3_code_19 : decode method_3_code 19 = .ok (.iconst 1, 1) := by decide +kernel
theorem d_method_3_code_20 : decode method_3_code 20 = .ok (.istore 6, 2) := by decide +kernel
theorem d_method_3_code_22 : decode method_3_code 22 = .ok (.iload_n 0, 1) := by decide +kernel
theorem d_method_3_code_23 : decode method_3_code 23 = .ok (.iconst 1, 1) := by decide +kernel
theorem d_method_3_code_24 : decode method_3_code 24 = .ok (.if_icmp .le 26, 3) := by decide +kernel
theorem d_method_3_code_27 : decode method_3_code 27 = .ok (.iload_n 2, 1) := by decide +kernel
theorem d_method_3_code_28 : decode method_3_code 28 = .ok (.iload_n 1, 1) := by decide +kernel
theorem d_method_3_code_29 : decode method_3_code 29 = .ok (.if_icmp .eq 21, 3) := by decide +kernel
theorem d_method_3_code_32 : decode method_3_code 32 = .ok (.iload 5, 2) := by decide +kernel
theorem d_method_3_code_34 : decode method_3_code 34 = .ok (.iload_n 2, 1) := by decide +kernel
theorem d_method_3_code_35 : decode method_3_code 35 = .ok (.if_icmp .ne 12, 3) := by decide +kernel
theorem d_method_3_code_38 : decode method_3_code 38 = .ok (.iload 7, 2) := by decide +kernel
theorem d_method_3_code_40 : decode method_3_code 40 = .ok (.ifCond .ge 7, 3) := by decide +kernel
theorem d_method_3_code_43 : decode method_3_code 43 = .ok (.iload 6, 2) := by decide +kernel
theorem d_method_3_code_45 : decode method_3_code 45 = .ok (.istore 7, 2) := by decide +kernel
theorem d_method_3_code_47 : decode method_3_code 47 = .ok (.iinc 6 1, 3) := by decide +kernel
theorem d_method_3_code_50 : decode method_3_code 50 = .ok (.iload_n 0, 1) := by decide +kernel
theorem d_method_3_code_51 : decode method_3_code 51 = .ok (.iconst 2, 1) := by decide +kernel
theorem d_method_3_code_52 : decode method_3_code 52 = .ok (.if_icmp .le 31, 3) := by decide +kernel
theorem d_method_3_code_55 : decode method_3_code 55 = .ok (.iload_n 3, 1) := by decide +kernel
theorem d_method_3_code_56 : decode method_3_code 56 = .ok (.iload_n 1, 1) := by decide +kernel
theorem d_method_3_code_57 : decode method_3_code 57 = .ok (.if_icmp .eq 26, 3) := by decide +kernel
theorem d_method_3_code_60 : decode method_3_code 60 = .ok (.iload_n 3, 1) := by decide +kernel
theorem d_method_3_code_61 : decode method_3_code 61 = .ok (.iload_n 2, 1) := by decide +kernel
theorem d_method_3_code_62 : decode method_3_code 62 = .ok (.if_icmp .eq 21, 3) := by decide +kernel
theorem d_method_3_code_65 : decode method_3_code 65 = .ok (.iload 5, 2) := by decide +kernel
theorem d_method_3_code_67 : decode method_3_code 67 = .ok (.iload_n 3, 1) := by decide +kernel
theorem d_method_3_code_68 : decode method_3_code 68 = .ok (.if_icmp .ne 12, 3) := by decide +kernel
theorem d_method_3_code_71 : decode method_3_code 71 = .ok (.iload 7, 2) := by decide +kernel
theorem d_method_3_code_73 : decode method_3_code 73 = .ok (.ifCond .ge 7, 3) := by decide +kernel
theorem d_method_3_code_76 : decode method_3_code 76 = .ok (.iload 6, 2) := by decide +kernel
theorem d_method_3_code_78 : decode method_3_code 78 = .ok (.istore 7, 2) := by decide +kernel
theorem d_method_3_code_80 : decode method_3_code 80 = .ok (.iinc 6 1, 3) := by decide +kernel
theorem d_method_3_code_83 : decode method_3_code 83 = .ok (.iload_n 0, 1) := by decide +kernel
theorem d_method_3_code_84 : decode method_3_code 84 = .ok (.iconst 3, 1) := by decide +kernel
theorem d_method_3_code_85 : decode method_3_code 85 = .ok (.if_icmp .le 40, 3) := by decide +kernel
theorem d_method_3_code_88 : decode method_3_code 88 = .ok (.iload 4, 2) := by decide +kernel
theorem d_method_3_code_90 : decode method_3_code 90 = .ok (.iload_n 1, 1) := by decide +kernel
theorem d_method_3_code_91 : decode method_3_code 91 = .ok (.if_icmp .eq 34, 3) := by decide +kernel
theorem d_method_3_code_94 : decode method_3_code 94 = .ok (.iload 4, 2) := by decide +kernel
theorem d_method_3_code_96 : decode method_3_code 96 = .ok (.iload_n 2, 1) := by decide +kernel
theorem d_method_3_code_97 : decode method_3_code 97 = .ok (.if_icmp .eq 28, 3) := by decide +kernel
theorem d_method_3_code_100 : decode method_3_code 100 = .ok (.iload 4, 2) := by decide +kernel
theorem d_method_3_code_102 : decode method_3_code 102 = .ok (.iload_n 3, 1) := by decide +kernel
theorem d_method_3_code_103 : decode method_3_code 103 = .ok (.if_icmp .eq 22, 3) := by decide +kernel
theorem d_method_3_code_106 : decode method_3_code 106 = .ok (.iload 5, 2) := by decide +kernel
theorem d_method_3_code_108 : decode method_3_code 108 = .ok (.iload 4, 2) := by decide +kernel
theorem d_method_3_code_110 : decode method_3_code 110 = .ok (.if_icmp .ne 12, 3) := by decide +kernel
theorem d_method_3_code_113 : decode method_3_code 113 = .ok (.iload 7, 2) := by decide +kernel
theorem d_method_3_code_115 : decode method_3_code 115 = .ok (.ifCond .ge 7, 3) := by decide +kernel
theorem d_method_3_code_118 : decode method_3_code 118 = .ok (.iload 6, 2) := by decide +kernel
theorem d_method_3_code_120 : decode method_3_code 120 = .ok (.istore 7, 2) := by decide +kernel
theorem d_method_3_code_122 : decode method_3_code 122 = .ok (.iinc 6 1, 3) := by decide +kernel
theorem d_method_3_code_125 : decode method_3_code 125 = .ok (.iload 7, 2) := by decide +kernel
theorem d_method_3_code_127 : decode method_3_code 127 = .ok (.ireturn, 1) := by decide +kernel
theorem pn_2 : plainName "com/example/ampliar/ampliar/service/TermNumberingFindPinLaw" = true := by first | (simp [plainName, overriddenIn]; done) | decide +kernel
theorem ef_rm5 (m : MethodId) (q0 : Int32) (q1 : Int32) (q2 : Int32) (q3 : Int32) (q4 : Int32) (q5 : Int32) : entryFrame m #[(.int q0), (.int q1), (.int q2), (.int q3), (.int q4), (.int q5)] 8 = mkF m 0 #[.val (.int q0), .val (.int q1), .val (.int q2), .val (.int q3), .val (.int q4), .val (.int q5), .unset, .unset] [] := by first | (simp [entryFrame, mkF, argsToLocals, Value.category]; done) | rfl
def Q_rm5 (Z : State) (q0 : Int32) (q1 : Int32) (q2 : Int32) (q3 : Int32) (q4 : Int32) (q5 : Int32) (h0 : Heap) (n0 : Nat) (vv_ : Option Value) (h : Heap) (LL_ : List Loc) : Prop := vv_ = some (.int (own_exp q0 q1 q2 q3 q4 q5)) ∧ Fr n0 LL_ ∧ (h = h0)
set_option maxRecDepth 65536 in
set_option maxHeartbeats 40000000 in
theorem rm5 (l : Launch) (Z : State) (a0 : Array Value) (hw : ∀ d ∈ tables_1, d.before a0 Z = true) (ws : List Jvm.Cond) (q0 : Int32) (q1 : Int32) (q2 : Int32) (q3 : Int32) (q4 : Int32) (q5 : Int32) (h0 : Heap) (n0 : Nat) (Z0 : n0 ≤ h0.size)  :
    MetFree l (⟨"com/example/ampliar/ampliar/service/TermNumberingFindPinLaw", "expected", "(IIIIII)I"⟩ : MethodName) (head1 (Jvm.Cond.code (⟨"com/example/ampliar/ampliar/service/TermNumberingFindPinLaw", "expected", "(IIIIII)I"⟩ : MethodName) method_3_code 8 (some .int) :: ws) ({ frames := 0, cells := 0, slots := 0, locals := 0 } : Room)) (fun aa_ UU_ => aa_ = #[(.int q0), (.int q1), (.int q2), (.int q3), (.int q4), (.int q5)] ∧ Z.Warmed39 UU_.vm ∧ UU_.heap = h0) (fun _ _ _ _ _ => True) (fun _ UU_ oo_ VV_ => ∃ vv_ LL_, oo_ = .returned vv_ ∧ Q_rm5 Z q0 q1 q2 q3 q4 q5 h0 n0 vv_ VV_.heap LL_ ∧ FrameEnd UU_ oo_ VV_ LL_ ({ frames := 0, cells := 0, slots := 0, locals := 0 } : Room).cells ({ frames := 0, cells := 0, slots := 0, locals := 0 } : Room).slots) := by
  refine own_met (y := (⟨"com/example/ampliar/ampliar/service/TermNumberingFindPinLaw", "expected", "(IIIIII)I"⟩ : MethodName)) (plainFor_of_name pn_2) ?_
  intro p e s m below meth c T0 K hx hby hml hret hlk hown hnm hZ X0 e0 hK
  have N0 := Fr.nil n0
  refine Rch.cast (ef_rm5 m q0 q1 q2 q3 q4 q5) ?_
  have J125 : ∀ (cnt e2 : Int32) (hv : own_exp q0 q1 q2 q3 q4 q5 = own_e4 q0 q1 q2 q3 q4 q5 cnt e2), Rch p e below K T0 (mkF m 125 #[.val (.int q0), .val (.int q1), .val (.int q2), .val (.int q3), .val (.int q4), .val (.int q5), .val (.int cnt), .val (.int e2)] []) := by
    intro cnt e2 hv
    refine Rch.of (T' := T0) (g' := (mkF m 127 #[.val (.int q0), .val (.int q1), .val (.int q2), .val (.int q3), .val (.int q4), .val (.int q5), .val (.int cnt), .val (.int e2)] [(.int e2)])) (fun _ kt => XS.iload X0.here hx rfl (hb hby d_method_3_code_125) rfl  kt) ?_
    exact Rch.retI X0 hx hret hlk (hb hby d_method_3_code_127) (fun U hU hF => hK _ U _ _ _ (by show Q_rm5 Z q0 q1 q2 q3 q4 q5 h0 n0 _ U.heap _; rw [hU, e0]; exact ⟨by rw [hv]; rfl, N0, rfl⟩) hF (by decide) (by decide))
  have J83 : ∀ (cnt e2 : Int32) (hv : own_exp q0 q1 q2 q3 q4 q5 = own_e3 q0 q1 q2 q3 q4 q5 cnt e2), Rch p e below K T0 (mkF m 83 #[.val (.int q0), .val (.int q1), .val (.int q2), .val (.int q3), .val (.int q4), .val (.int q5), .val (.int cnt), .val (.int e2)] []) := by
    intro cnt e2 hv
    refine Rch.of (T' := T0) (g' := (mkF m 84 #[.val (.int q0), .val (.int q1), .val (.int q2), .val (.int q3), .val (.int q4), .val (.int q5), .val (.int cnt), .val (.int e2)] [(.int q0)])) (fun _ kt => XS.iloadN X0.here hx rfl (hb hby d_method_3_code_83) rfl  kt) ?_
    refine Rch.of (T' := T0) (g' := (mkF m 85 #[.val (.int q0), .val (.int q1), .val (.int q2), .val (.int q3), .val (.int q4), .val (.int q5), .val (.int cnt), .val (.int e2)] [(.int (3 : Int32)), (.int q0)])) (fun _ kt => XS.iconst X0.here hx rfl (hb hby d_method_3_code_84) kt) ?_
    by_cases c154 : (3 : Int32) < q0
    · skip
      refine Rch.of (T' := T0) (g' := (mkF m 88 #[.val (.int q0), .val (.int q1), .val (.int q2), .val (.int q3), .val (.int q4), .val (.int q5), .val (.int cnt), .val (.int e2)] [])) (fun _ kt => XS.icmpNo X0.here hx rfl (hb hby d_method_3_code_85) rfl (tlt c154).2.2.2 kt) ?_
      refine Rch.of (T' := T0) (g' := (mkF m 90 #[.val (.int q0), .val (.int q1), .val (.int q2), .val (.int q3), .val (.int q4), .val (.int q5), .val (.int cnt), .val (.int e2)] [(.int q4)])) (fun _ kt => XS.iload X0.here hx rfl (hb hby d_method_3_code_88) rfl  kt) ?_
      refine Rch.of (T' := T0) (g' := (mkF m 91 #[.val (.int q0), .val (.int q1), .val (.int q2), .val (.int q3), .val (.int q4), .val (.int q5), .val (.int cnt), .val (.int e2)] [(.int q1), (.int q4)])) (fun _ kt => XS.iloadN X0.here hx rfl (hb hby d_method_3_code_90) rfl  kt) ?_
      by_cases c155 : q4 = q1
      · skip
        refine Rch.of (T' := T0) (g' := (mkF m 125 #[.val (.int q0), .val (.int q1), .val (.int q2), .val (.int q3), .val (.int q4), .val (.int q5), .val (.int cnt), .val (.int e2)] [])) (fun _ kt => XS.icmpYes X0.here hx rfl (pc0 := 91) (pc' := 125) rfl (hb hby d_method_3_code_91) rfl (teq c155).1 (by decide) (by decide) kt) ?_
        exact J125 _ _ (by rw [hv]; simp [own_e1, own_e2, own_e3, c154, c155])
      · skip
        refine Rch.of (T' := T0) (g' := (mkF m 94 #[.val (.int q0), .val (.int q1), .val (.int q2), .val (.int q3), .val (.int q4), .val (.int q5), .val (.int cnt), .val (.int e2)] [])) (fun _ kt => XS.icmpNo X0.here hx rfl (hb hby d_method_3_code_91) rfl (feq c155).1 kt) ?_
        refine Rch.of (T' := T0) (g' := (mkF m 96 #[.val (.int q0), .val (.int q1), .val (.int q2), .val (.int q3), .val (.int q4), .val (.int q5), .val (.int cnt), .val (.int e2)] [(.int q4)])) (fun _ kt => XS.iload X0.here hx rfl (hb hby d_method_3_code_94) rfl  kt) ?_
        refine Rch.of (T' := T0) (g' := (mkF m 97 #[.val (.int q0), .val (.int q1), .val (.int q2), .val (.int q3), .val (.int q4), .val (.int q5), .val (.int cnt), .val (.int e2)] [(.int q2), (.int q4)])) (fun _ kt => XS.iloadN X0.here hx rfl (hb hby d_method_3_code_96) rfl  kt) ?_
        by_cases c156 : q4 = q2
        · skip
          refine Rch.of (T' := T0) (g' := (mkF m 125 #[.val (.int q0), .val (.int q1), .val (.int q2), .val (.int q3), .val (.int q4), .val (.int q5), .val (.int cnt), .val (.int e2)] [])) (fun _ kt => XS.icmpYes X0.here hx rfl (pc0 := 97) (pc' := 125) rfl (hb hby d_method_3_code_97) rfl (teq c156).1 (by decide) (by decide) kt) ?_
          exact J125 _ _ (by rw [hv]; simp [own_e1, own_e2, own_e3, c154, c155, c156])
        · skip
          refine Rch.of (T' := T0) (g' := (mkF m 100 #[.val (.int q0), .val (.int q1), .val (.int q2), .val (.int q3), .val (.int q4), .val (.int q5), .val (.int cnt), .val (.int e2)] [])) (fun _ kt => XS.icmpNo X0.here hx rfl (hb hby d_method_3_code_97) rfl (feq c156).1 kt) ?_
          refine Rch.of (T' := T0) (g' := (mkF m 102 #[.val (.int q0), .val (.int q1), .val (.int q2), .val (.int q3), .val (.int q4), .val (.int q5), .val (.int cnt), .val (.int e2)] [(.int q4)])) (fun _ kt => XS.iload X0.here hx rfl (hb hby d_method_3_code_100) rfl  kt) ?_
          refine Rch.of (T' := T0) (g' := (mkF m 103 #[.val (.int q0), .val (.int q1), .val (.int q2), .val (.int q3), .val (.int q4), .val (.int q5), .val (.int cnt), .val (.int e2)] [(.int q3), (.int q4)])) (fun _ kt => XS.iloadN X0.here hx rfl (hb hby d_method_3_code_102) rfl  kt) ?_
          by_cases c157 : q4 = q3
          · skip
            refine Rch.of (T' := T0) (g' := (mkF m 125 #[.val (.int q0), .val (.int q1), .val (.int q2), .val (.int q3), .val (.int q4), .val (.int q5), .val (.int cnt), .val (.int e2)] [])) (fun _ kt => XS.icmpYes X0.here hx rfl (pc0 := 103) (pc' := 125) rfl (hb hby d_method_3_code_103) rfl (teq c157).1 (by decide) (by decide) kt) ?_
            exact J125 _ _ (by rw [hv]; simp [own_e1, own_e2, own_e3, c154, c155, c156, c157])
          · skip
            refine Rch.of (T' := T0) (g' := (mkF m 106 #[.val (.int q0), .val (.int q1), .val (.int q2), .val (.int q3), .val (.int q4), .val (.int q5), .val (.int cnt), .val (.int e2)] [])) (fun _ kt => XS.icmpNo X0.here hx rfl (hb hby d_method_3_code_103) rfl (feq c157).1 kt) ?_
            refine Rch.of (T' := T0) (g' := (mkF m 108 #[.val (.int q0), .val (.int q1), .val (.int q2), .val (.int q3), .val (.int q4), .val (.int q5), .val (.int cnt), .val (.int e2)] [(.int q5)])) (fun _ kt => XS.iload X0.here hx rfl (hb hby d_method_3_code_106) rfl  kt) ?_
            refine Rch.of (T' := T0) (g' := (mkF m 110 #[.val (.int q0), .val (.int q1), .val (.int q2), .val (.int q3), .val (.int q4), .val (.int q5), .val (.int cnt), .val (.int e2)] [(.int q4), (.int q5)])) (fun _ kt => XS.iload X0.here hx rfl (hb hby d_method_3_code_108) rfl  kt) ?_
            by_cases c158 : q5 = q4
            · skip
              refine Rch.of (T' := T0) (g' := (mkF m 113 #[.val (.int q0), .val (.int q1), .val (.int q2), .val (.int q3), .val (.int q4), .val (.int q5), .val (.int cnt), .val (.int e2)] [])) (fun _ kt => XS.icmpNo X0.here hx rfl (hb hby d_method_3_code_110) rfl (teq c158).2 kt) ?_
              refine Rch.of (T' := T0) (g' := (mkF m 115 #[.val (.int q0), .val (.int q1), .val (.int q2), .val (.int q3), .val (.int q4), .val (.int q5), .val (.int cnt), .val (.int e2)] [(.int e2)])) (fun _ kt => XS.iload X0.here hx rfl (hb hby d_method_3_code_113) rfl  kt) ?_
              by_cases c159 : e2 < (0 : Int32)
              · skip
                refine Rch.of (T' := T0) (g' := (mkF m 118 #[.val (.int q0), .val (.int q1), .val (.int q2), .val (.int q3), .val (.int q4), .val (.int q5), .val (.int cnt), .val (.int e2)] [])) (fun _ kt => XS.ifNo X0.here hx rfl (hb hby d_method_3_code_115) rfl ((if0 _ _).trans (tlt c159).2.1) kt) ?_
                refine Rch.of (T' := T0) (g' := (mkF m 120 #[.val (.int q0), .val (.int q1), .val (.int q2), .val (.int q3), .val (.int q4), .val (.int q5), .val (.int cnt), .val (.int e2)] [(.int cnt)])) (fun _ kt => XS.iload X0.here hx rfl (hb hby d_method_3_code_118) rfl  kt) ?_
                refine Rch.of (T' := T0) (g' := (mkF m 122 #[.val (.int q0), .val (.int q1), .val (.int q2), .val (.int q3), .val (.int q4), .val (.int q5), .val (.int cnt), .val (.int cnt)] [])) (fun _ kt => XS.istore X0.here hx rfl (hb hby d_method_3_code_120) rfl (l' := #[.val (.int q0), .val (.int q1), .val (.int q2), .val (.int q3), .val (.int q4), .val (.int q5), .val (.int cnt), .val (.int cnt)]) rfl kt) ?_
                refine Rch.of (T' := T0) (g' := (mkF m 125 #[.val (.int q0), .val (.int q1), .val (.int q2), .val (.int q3), .val (.int q4), .val (.int q5), .val (.int (cnt + (1 : Int32))), .val (.int cnt)] [])) (fun _ kt => XS.iinc X0.here hx rfl (hb hby d_method_3_code_122) rfl (l' := #[.val (.int q0), .val (.int q1), .val (.int q2), .val (.int q3), .val (.int q4), .val (.int q5), .val (.int (cnt + (1 : Int32))), .val (.int cnt)]) rfl kt) ?_
                exact J125 _ _ (by rw [hv]; simp [own_e1, own_e2, own_e3, c154, c155, c156, c157, c158, c159])
              · skip
                refine Rch.of (T' := T0) (g' := (mkF m 122 #[.val (.int q0), .val (.int q1), .val (.int q2), .val (.int q3), .val (.int q4), .val (.int q5), .val (.int cnt), .val (.int e2)] [])) (fun _ kt => XS.ifYes X0.here hx rfl (pc0 := 115) (pc' := 122) rfl (hb hby d_method_3_code_115) rfl ((if0 _ _).trans (flt c159).2.1) (by decide) (by decide) kt) ?_
                refine Rch.of (T' := T0) (g' := (mkF m 125 #[.val (.int q0), .val (.int q1), .val (.int q2), .val (.int q3), .val (.int q4), .val (.int q5), .val (.int (cnt + (1 : Int32))), .val (.int e2)] [])) (fun _ kt => XS.iinc X0.here hx rfl (hb hby d_method_3_code_122) rfl (l' := #[.val (.int q0), .val (.int q1), .val (.int q2), .val (.int q3), .val (.int q4), .val (.int q5), .val (.int (cnt + (1 : Int32))), .val (.int e2)]) rfl kt) ?_
                exact J125 _ _ (by rw [hv]; simp [own_e1, own_e2, own_e3, c154, c155, c156, c157, c158, c159])
            · skip
              refine Rch.of (T' := T0) (g' := (mkF m 122 #[.val (.int q0), .val (.int q1), .val (.int q2), .val (.int q3), .val (.int q4), .val (.int q5), .val (.int cnt), .val (.int e2)] [])) (fun _ kt => XS.icmpYes X0.here hx rfl (pc0 := 110) (pc' := 122) rfl (hb hby d_method_3_code_110) rfl (feq c158).2 (by decide) (by decide) kt) ?_
              refine Rch.of (T' := T0) (g' := (mkF m 125 #[.val (.int q0), .val (.int q1), .val (.int q2), .val (.int q3), .val (.int q4), .val (.int q5), .val (.int (cnt + (1 : Int32))), .val (.int e2)] [])) (fun _ kt => XS.iinc X0.here hx rfl (hb hby d_method_3_code_122) rfl (l' := #[.val (.int q0), .val (.int q1), .val (.int q2), .val (.int q3), .val (.int q4), .val (.int q5), .val (.int (cnt + (1 : Int32))), .val (.int e2)]) rfl kt) ?_
              exact J125 _ _ (by rw [hv]; simp [own_e1, own_e2, own_e3, c154, c155, c156, c157, c158])
    · skip
      refine Rch.of (T' := T0) (g' := (mkF m 125 #[.val (.int q0), .val (.int q1), .val (.int q2), .val (.int q3), .val (.int q4), .val (.int q5), .val (.int cnt), .val (.int e2)] [])) (fun _ kt => XS.icmpYes X0.here hx rfl (pc0 := 85) (pc' := 125) rfl (hb hby d_method_3_code_85) rfl (flt c154).2.2.2 (by decide) (by decide) kt) ?_
      exact J125 _ _ (by rw [hv]; simp [own_e1, own_e2, own_e3, c154])
  have J50 : ∀ (cnt e2 : Int32) (hv : own_exp q0 q1 q2 q3 q4 q5 = own_e2 q0 q1 q2 q3 q4 q5 cnt e2), Rch p e below K T0 (mkF m 50 #[.val (.int q0), .val (.int q1), .val (.int q2), .val (.int q3), .val (.int q4), .val (.int q5), .val (.int cnt), .val (.int e2)] []) := by
    intro cnt e2 hv
    refine Rch.of (T' := T0) (g' := (mkF m 51 #[.val (.int q0), .val (.int q1), .val (.int q2), .val (.int q3), .val (.int q4), .val (.int q5), .val (.int cnt), .val (.int e2)] [(.int q0)])) (fun _ kt => XS.iloadN X0.here hx rfl (hb hby d_method_3_code_50) rfl  kt) ?_
    refine Rch.of (T' := T0) (g' := (mkF m 52 #[.val (.int q0), .val (.int q1), .val (.int q2), .val (.int q3), .val (.int q4), .val (.int q5), .val (.int cnt), .val (.int e2)] [(.int (2 : Int32)), (.int q0)])) (fun _ kt => XS.iconst X0.here hx rfl (hb hby d_method_3_code_51) kt) ?_
    by_cases c160 : (2 : Int32) < q0
    · skip
      refine Rch.of (T' := T0) (g' := (mkF m 55 #[.val (.int q0), .val (.int q1), .val (.int q2), .val (.int q3), .val (.int q4), .val (.int q5), .val (.int cnt), .val (.int e2)] [])) (fun _ kt => XS.icmpNo X0.here hx rfl (hb hby d_method_3_code_52) rfl (tlt c160).2.2.2 kt) ?_
      refine Rch.of (T' := T0) (g' := (mkF m 56 #[.val (.int q0), .val (.int q1), .val (.int q2), .val (.int q3), .val (.int q4), .val (.int q5), .val (.int cnt), .val (.int e2)] [(.int q3)])) (fun _ kt => XS.iloadN X0.here hx rfl (hb hby d_method_3_code_55) rfl  kt) ?_
      refine Rch.of (T' := T0) (g' := (mkF m 57 #[.val (.int q0), .val (.int q1), .val (.int q2), .val (.int q3), .val (.int q4), .val (.int q5), .val (.int cnt), .val (.int e2)] [(.int q1), (.int q3)])) (fun _ kt => XS.iloadN X0.here hx rfl (hb hby d_method_3_code_56) rfl  kt) ?_
      by_cases c161 : q3 = q1
      · skip
        refine Rch.of (T' := T0) (g' := (mkF m 83 #[.val (.int q0), .val (.int q1), .val (.int q2), .val (.int q3), .val (.int q4), .val (.int q5), .val (.int cnt), .val (.int e2)] [])) (fun _ kt => XS.icmpYes X0.here hx rfl (pc0 := 57) (pc' := 83) rfl (hb hby d_method_3_code_57) rfl (teq c161).1 (by decide) (by decide) kt) ?_
        exact J83 _ _ (by rw [hv]; simp [own_e1, own_e2, own_e3, c160, c161])
      · skip
        refine Rch.of (T' := T0) (g' := (mkF m 60 #[.val (.int q0), .val (.int q1), .val (.int q2), .val (.int q3), .val (.int q4), .val (.int q5), .val (.int cnt), .val (.int e2)] [])) (fun _ kt => XS.icmpNo X0.here hx rfl (hb hby d_method_3_code_57) rfl (feq c161).1 kt) ?_
        refine Rch.of (T' := T0) (g' := (mkF m 61 #[.val (.int q0), .val (.int q1), .val (.int q2), .val (.int q3), .val (.int q4), .val (.int q5), .val (.int cnt), .val (.int e2)] [(.int q3)])) (fun _ kt => XS.iloadN X0.here hx rfl (hb hby d_method_3_code_60) rfl  kt) ?_
        refine Rch.of (T' := T0) (g' := (mkF m 62 #[.val (.int q0), .val (.int q1), .val (.int q2), .val (.int q3), .val (.int q4), .val (.int q5), .val (.int cnt), .val (.int e2)] [(.int q2), (.int q3)])) (fun _ kt => XS.iloadN X0.here hx rfl (hb hby d_method_3_code_61) rfl  kt) ?_
        by_cases c162 : q3 = q2
        · skip
          refine Rch.of (T' := T0) (g' := (mkF m 83 #[.val (.int q0), .val (.int q1), .val (.int q2), .val (.int q3), .val (.int q4), .val (.int q5), .val (.int cnt), .val (.int e2)] [])) (fun _ kt => XS.icmpYes X0.here hx rfl (pc0 := 62) (pc' := 83) rfl (hb hby d_method_3_code_62) rfl (teq c162).1 (by decide) (by decide) kt) ?_
          exact J83 _ _ (by rw [hv]; simp [own_e1, own_e2, own_e3, c160, c161, c162])
        · skip
          refine Rch.of (T' := T0) (g' := (mkF m 65 #[.val (.int q0), .val (.int q1), .val (.int q2), .val (.int q3), .val (.int q4), .val (.int q5), .val (.int cnt), .val (.int e2)] [])) (fun _ kt => XS.icmpNo X0.here hx rfl (hb hby d_method_3_code_62) rfl (feq c162).1 kt) ?_
          refine Rch.of (T' := T0) (g' := (mkF m 67 #[.val (.int q0), .val (.int q1), .val (.int q2), .val (.int q3), .val (.int q4), .val (.int q5), .val (.int cnt), .val (.int e2)] [(.int q5)])) (fun _ kt => XS.iload X0.here hx rfl (hb hby d_method_3_code_65) rfl  kt) ?_
          refine Rch.of (T' := T0) (g' := (mkF m 68 #[.val (.int q0), .val (.int q1), .val (.int q2), .val (.int q3), .val (.int q4), .val (.int q5), .val (.int cnt), .val (.int e2)] [(.int q3), (.int q5)])) (fun _ kt => XS.iloadN X0.here hx rfl (hb hby d_method_3_code_67) rfl  kt) ?_
          by_cases c163 : q5 = q3
          · skip
            refine Rch.of (T' := T0) (g' := (mkF m 71 #[.val (.int q0), .val (.int q1), .val (.int q2), .val (.int q3), .val (.int q4), .val (.int q5), .val (.int cnt), .val (.int e2)] [])) (fun _ kt => XS.icmpNo X0.here hx rfl (hb hby d_method_3_code_68) rfl (teq c163).2 kt) ?_
            refine Rch.of (T' := T0) (g' := (mkF m 73 #[.val (.int q0), .val (.int q1), .val (.int q2), .val (.int q3), .val (.int q4), .val (.int q5), .val (.int cnt), .val (.int e2)] [(.int e2)])) (fun _ kt => XS.iload X0.here hx rfl (hb hby d_method_3_code_71) rfl  kt) ?_
            by_cases c164 : e2 < (0 : Int32)
            · skip
              refine Rch.of (T' := T0) (g' := (mkF m 76 #[.val (.int q0), .val (.int q1), .val (.int q2), .val (.int q3), .val (.int q4), .val (.int q5), .val (.int cnt), .val (.int e2)] [])) (fun _ kt => XS.ifNo X0.here hx rfl (hb hby d_method_3_code_73) rfl ((if0 _ _).trans (tlt c164).2.1) kt) ?_
              refine Rch.of (T' := T0) (g' := (mkF m 78 #[.val (.int q0), .val (.int q1), .val (.int q2), .val (.int q3), .val (.int q4), .val (.int q5), .val (.int cnt), .val (.int e2)] [(.int cnt)])) (fun _ kt => XS.iload X0.here hx rfl (hb hby d_method_3_code_76) rfl  kt) ?_
              refine Rch.of (T' := T0) (g' := (mkF m 80 #[.val (.int q0), .val (.int q1), .val (.int q2), .val (.int q3), .val (.int q4), .val (.int q5), .val (.int cnt), .val (.int cnt)] [])) (fun _ kt => XS.istore X0.here hx rfl (hb hby d_method_3_code_78) rfl (l' := #[.val (.int q0), .val (.int q1), .val (.int q2), .val (.int q3), .val (.int q4), .val (.int q5), .val (.int cnt), .val (.int cnt)]) rfl kt) ?_
              refine Rch.of (T' := T0) (g' := (mkF m 83 #[.val (.int q0), .val (.int q1), .val (.int q2), .val (.int q3), .val (.int q4), .val (.int q5), .val (.int (cnt + (1 : Int32))), .val (.int cnt)] [])) (fun _ kt => XS.iinc X0.here hx rfl (hb hby d_method_3_code_80) rfl (l' := #[.val (.int q0), .val (.int q1), .val (.int q2), .val (.int q3), .val (.int q4), .val (.int q5), .val (.int (cnt + (1 : Int32))), .val (.int cnt)]) rfl kt) ?_
              exact J83 _ _ (by rw [hv]; simp [own_e1, own_e2, own_e3, c160, c161, c162, c163, c164])
            · skip
              refine Rch.of (T' := T0) (g' := (mkF m 80 #[.val (.int q0), .val (.int q1), .val (.int q2), .val (.int q3), .val (.int q4), .val (.int q5), .val (.int cnt), .val (.int e2)] [])) (fun _ kt => XS.ifYes X0.here hx rfl (pc0 := 73) (pc' := 80) rfl (hb hby d_method_3_code_73) rfl ((if0 _ _).trans (flt c164).2.1) (by decide) (by decide) kt) ?_
              refine Rch.of (T' := T0) (g' := (mkF m 83 #[.val (.int q0), .val (.int q1), .val (.int q2), .val (.int q3), .val (.int q4), .val (.int q5), .val (.int (cnt + (1 : Int32))), .val (.int e2)] [])) (fun _ kt => XS.iinc X0.here hx rfl (hb hby d_method_3_code_80) rfl (l' := #[.val (.int q0), .val (.int q1), .val (.int q2), .val (.int q3), .val (.int q4), .val (.int q5), .val (.int (cnt + (1 : Int32))), .val (.int e2)]) rfl kt) ?_
              exact J83 _ _ (by rw [hv]; simp [own_e1, own_e2, own_e3, c160, c161, c162, c163, c164])
          · skip
            refine Rch.of (T' := T0) (g' := (mkF m 80 #[.val (.int q0), .val (.int q1), .val (.int q2), .val (.int q3), .val (.int q4), .val (.int q5), .val (.int cnt), .val (.int e2)] [])) (fun _ kt => XS.icmpYes X0.here hx rfl (pc0 := 68) (pc' := 80) rfl (hb hby d_method_3_code_68) rfl (feq c163).2 (by decide) (by decide) kt) ?_
            refine Rch.of (T' := T0) (g' := (mkF m 83 #[.val (.int q0), .val (.int q1), .val (.int q2), .val (.int q3), .val (.int q4), .val (.int q5), .val (.int (cnt + (1 : Int32))), .val (.int e2)] [])) (fun _ kt => XS.iinc X0.here hx rfl (hb hby d_method_3_code_80) rfl (l' := #[.val (.int q0), .val (.int q1), .val (.int q2), .val (.int q3), .val (.int q4), .val (.int q5), .val (.int (cnt + (1 : Int32))), .val (.int e2)]) rfl kt) ?_
            exact J83 _ _ (by rw [hv]; simp [own_e1, own_e2, own_e3, c160, c161, c162, c163])
    · skip
      refine Rch.of (T' := T0) (g' := (mkF m 83 #[.val (.int q0), .val (.int q1), .val (.int q2), .val (.int q3), .val (.int q4), .val (.int q5), .val (.int cnt), .val (.int e2)] [])) (fun _ kt => XS.icmpYes X0.here hx rfl (pc0 := 52) (pc' := 83) rfl (hb hby d_method_3_code_52) rfl (flt c160).2.2.2 (by decide) (by decide) kt) ?_
      exact J83 _ _ (by rw [hv]; simp [own_e1, own_e2, own_e3, c160])
  have J22 : ∀ (cnt e2 : Int32) (hv : own_exp q0 q1 q2 q3 q4 q5 = own_e1 q0 q1 q2 q3 q4 q5 cnt e2), Rch p e below K T0 (mkF m 22 #[.val (.int q0), .val (.int q1), .val (.int q2), .val (.int q3), .val (.int q4), .val (.int q5), .val (.int cnt), .val (.int e2)] []) := by
    intro cnt e2 hv
    refine Rch.of (T' := T0) (g' := (mkF m 23 #[.val (.int q0), .val (.int q1), .val (.int q2), .val (.int q3), .val (.int q4), .val (.int q5), .val (.int cnt), .val (.int e2)] [(.int q0)])) (fun _ kt => XS.iloadN X0.here hx rfl (hb hby d_method_3_code_22) rfl  kt) ?_
    refine Rch.of (T' := T0) (g' := (mkF m 24 #[.val (.int q0), .val (.int q1), .val (.int q2), .val (.int q3), .val (.int q4), .val (.int q5), .val (.int cnt), .val (.int e2)] [(.int (1 : Int32)), (.int q0)])) (fun _ kt => XS.iconst X0.here hx rfl (hb hby d_method_3_code_23) kt) ?_
    by_cases c165 : (1 : Int32) < q0
    · skip
      refine Rch.of (T' := T0) (g' := (mkF m 27 #[.val (.int q0), .val (.int q1), .val (.int q2), .val (.int q3), .val (.int q4), .val (.int q5), .val (.int cnt), .val (.int e2)] [])) (fun _ kt => XS.icmpNo X0.here hx rfl (hb hby d_method_3_code_24) rfl (tlt c165).2.2.2 kt) ?_
      refine Rch.of (T' := T0) (g' := (mkF m 28 #[.val (.int q0), .val (.int q1), .val (.int q2), .val (.int q3), .val (.int q4), .val (.int q5), .val (.int cnt), .val (.int e2)] [(.int q2)])) (fun _ kt => XS.iloadN X0.here hx rfl (hb hby d_method_3_code_27) rfl  kt) ?_
      refine Rch.of (T' := T0) (g' := (mkF m 29 #[.val (.int q0), .val (.int q1), .val (.int q2), .val (.int q3), .val (.int q4), .val (.int q5), .val (.int cnt), .val (.int e2)] [(.int q1), (.int q2)])) (fun _ kt => XS.iloadN X0.here hx rfl (hb hby d_method_3_code_28) rfl  kt) ?_
      by_cases c166 : q2 = q1
      · skip
        refine Rch.of (T' := T0) (g' := (mkF m 50 #[.val (.int q0), .val (.int q1), .val (.int q2), .val (.int q3), .val (.int q4), .val (.int q5), .val (.int cnt), .val (.int e2)] [])) (fun _ kt => XS.icmpYes X0.here hx rfl (pc0 := 29) (pc' := 50) rfl (hb hby d_method_3_code_29) rfl (teq c166).1 (by decide) (by decide) kt) ?_
        exact J50 _ _ (by rw [hv]; simp [own_e1, own_e2, own_e3, c165, c166])
      · skip
        refine Rch.of (T' := T0) (g' := (mkF m 32 #[.val (.int q0), .val (.int q1), .val (.int q2), .val (.int q3), .val (.int q4), .val (.int q5), .val (.int cnt), .val (.int e2)] [])) (fun _ kt => XS.icmpNo X0.here hx rfl (hb hby d_method_3_code_29) rfl (feq c166).1 kt) ?_
        refine Rch.of (T' := T0) (g' := (mkF m 34 #[.val (.int q0), .val (.int q1), .val (.int q2), .val (.int q3), .val (.int q4), .val (.int q5), .val (.int cnt), .val (.int e2)] [(.int q5)])) (fun _ kt => XS.iload X0.here hx rfl (hb hby d_method_3_code_32) rfl  kt) ?_
        refine Rch.of (T' := T0) (g' := (mkF m 35 #[.val (.int q0), .val (.int q1), .val (.int q2), .val (.int q3), .val (.int q4), .val (.int q5), .val (.int cnt), .val (.int e2)] [(.int q2), (.int q5)])) (fun _ kt => XS.iloadN X0.here hx rfl (hb hby d_method_3_code_34) rfl  kt) ?_
        by_cases c167 : q5 = q2
        · skip
          refine Rch.of (T' := T0) (g' := (mkF m 38 #[.val (.int q0), .val (.int q1), .val (.int q2), .val (.int q3), .val (.int q4), .val (.int q5), .val (.int cnt), .val (.int e2)] [])) (fun _ kt => XS.icmpNo X0.here hx rfl (hb hby d_method_3_code_35) rfl (teq c167).2 kt) ?_
          refine Rch.of (T' := T0) (g' := (mkF m 40 #[.val (.int q0), .val (.int q1), .val (.int q2), .val (.int q3), .val (.int q4), .val (.int q5), .val (.int cnt), .val (.int e2)] [(.int e2)])) (fun _ kt => XS.iload X0.here hx rfl (hb hby d_method_3_code_38) rfl  kt) ?_
          by_cases c168 : e2 < (0 : Int32)
          · skip
            refine Rch.of (T' := T0) (g' := (mkF m 43 #[.val (.int q0), .val (.int q1), .val (.int q2), .val (.int q3), .val (.int q4), .val (.int q5), .val (.int cnt), .val (.int e2)] [])) (fun _ kt => XS.ifNo X0.here hx rfl (hb hby d_method_3_code_40) rfl ((if0 _ _).trans (tlt c168).2.1) kt) ?_
            refine Rch.of (T' := T0) (g' := (mkF m 45 #[.val (.int q0), .val (.int q1), .val (.int q2), .val (.int q3), .val (.int q4), .val (.int q5), .val (.int cnt), .val (.int e2)] [(.int cnt)])) (fun _ kt => XS.iload X0.here hx rfl (hb hby d_method_3_code_43) rfl  kt) ?_
            refine Rch.of (T' := T0) (g' := (mkF m 47 #[.val (.int q0), .val (.int q1), .val (.int q2), .val (.int q3), .val (.int q4), .val (.int q5), .val (.int cnt), .val (.int cnt)] [])) (fun _ kt => XS.istore X0.here hx rfl (hb hby d_method_3_code_45) rfl (l' := #[.val (.int q0), .val (.int q1), .val (.int q2), .val (.int q3), .val (.int q4), .val (.int q5), .val (.int cnt), .val (.int cnt)]) rfl kt) ?_
            refine Rch.of (T' := T0) (g' := (mkF m 50 #[.val (.int q0), .val (.int q1), .val (.int q2), .val (.int q3), .val (.int q4), .val (.int q5), .val (.int (cnt + (1 : Int32))), .val (.int cnt)] [])) (fun _ kt => XS.iinc X0.here hx rfl (hb hby d_method_3_code_47) rfl (l' := #[.val (.int q0), .val (.int q1), .val (.int q2), .val (.int q3), .val (.int q4), .val (.int q5), .val (.int (cnt + (1 : Int32))), .val (.int cnt)]) rfl kt) ?_
            exact J50 _ _ (by rw [hv]; simp [own_e1, own_e2, own_e3, c165, c166, c167, c168])
          · skip
            refine Rch.of (T' := T0) (g' := (mkF m 47 #[.val (.int q0), .val (.int q1), .val (.int q2), .val (.int q3), .val (.int q4), .val (.int q5), .val (.int cnt), .val (.int e2)] [])) (fun _ kt => XS.ifYes X0.here hx rfl (pc0 := 40) (pc' := 47) rfl (hb hby d_method_3_code_40) rfl ((if0 _ _).trans (flt c168).2.1) (by decide) (by decide) kt) ?_
            refine Rch.of (T' := T0) (g' := (mkF m 50 #[.val (.int q0), .val (.int q1), .val (.int q2), .val (.int q3), .val (.int q4), .val (.int q5), .val (.int (cnt + (1 : Int32))), .val (.int e2)] [])) (fun _ kt => XS.iinc X0.here hx rfl (hb hby d_method_3_code_47) rfl (l' := #[.val (.int q0), .val (.int q1), .val (.int q2), .val (.int q3), .val (.int q4), .val (.int q5), .val (.int (cnt + (1 : Int32))), .val (.int e2)]) rfl kt) ?_
            exact J50 _ _ (by rw [hv]; simp [own_e1, own_e2, own_e3, c165, c166, c167, c168])
        · skip
          refine Rch.of (T' := T0) (g' := (mkF m 47 #[.val (.int q0), .val (.int q1), .val (.int q2), .val (.int q3), .val (.int q4), .val (.int q5), .val (.int cnt), .val (.int e2)] [])) (fun _ kt => XS.icmpYes X0.here hx rfl (pc0 := 35) (pc' := 47) rfl (hb hby d_method_3_code_35) rfl (feq c167).2 (by decide) (by decide) kt) ?_
          refine Rch.of (T' := T0) (g' := (mkF m 50 #[.val (.int q0), .val (.int q1), .val (.int q2), .val (.int q3), .val (.int q4), .val (.int q5), .val (.int (cnt + (1 : Int32))), .val (.int e2)] [])) (fun _ kt => XS.iinc X0.here hx rfl (hb hby d_method_3_code_47) rfl (l' := #[.val (.int q0), .val (.int q1), .val (.int q2), .val (.int q3), .val (.int q4), .val (.int q5), .val (.int (cnt + (1 : Int32))), .val (.int e2)]) rfl kt) ?_
          exact J50 _ _ (by rw [hv]; simp [own_e1, own_e2, own_e3, c165, c166, c167])
    · skip
      refine Rch.of (T' := T0) (g' := (mkF m 50 #[.val (.int q0), .val (.int q1), .val (.int q2), .val (.int q3), .val (.int q4), .val (.int q5), .val (.int cnt), .val (.int e2)] [])) (fun _ kt => XS.icmpYes X0.here hx rfl (pc0 := 24) (pc' := 50) rfl (hb hby d_method_3_code_24) rfl (flt c165).2.2.2 (by decide) (by decide) kt) ?_
      exact J50 _ _ (by rw [hv]; simp [own_e1, own_e2, own_e3, c165])
  have hv : own_exp q0 q1 q2 q3 q4 q5 = own_e0 q0 q1 q2 q3 q4 q5 := rfl
  refine Rch.of (T' := T0) (g' := (mkF m 1 #[.val (.int q0), .val (.int q1), .val (.int q2), .val (.int q3), .val (.int q4), .val (.int q5), .unset, .unset] [(.int (0 : Int32))])) (fun _ kt => XS.iconst X0.here hx rfl (hb hby d_method_3_code_0) kt) ?_
  refine Rch.of (T' := T0) (g' := (mkF m 3 #[.val (.int q0), .val (.int q1), .val (.int q2), .val (.int q3), .val (.int q4), .val (.int q5), .val (.int (0 : Int32)), .unset] [])) (fun _ kt => XS.istore X0.here hx rfl (hb hby d_method_3_code_1) rfl (l' := #[.val (.int q0), .val (.int q1), .val (.int q2), .val (.int q3), .val (.int q4), .val (.int q5), .val (.int (0 : Int32)), .unset]) rfl kt) ?_
  refine Rch.of (T' := T0) (g' := (mkF m 4 #[.val (.int q0), .val (.int q1), .val (.int q2), .val (.int q3), .val (.int q4), .val (.int q5), .val (.int (0 : Int32)), .unset] [(.int (-1 : Int32))])) (fun _ kt => XS.iconst X0.here hx rfl (hb hby d_method_3_code_3) kt) ?_
  refine Rch.of (T' := T0) (g' := (mkF m 6 #[.val (.int q0), .val (.int q1), .val (.int q2), .val (.int q3), .val (.int q4), .val (.int q5), .val (.int (0 : Int32)), .val (.int (-1 : Int32))] [])) (fun _ kt => XS.istore X0.here hx rfl (hb hby d_method_3_code_4) rfl (l' := #[.val (.int q0), .val (.int q1), .val (.int q2), .val (.int q3), .val (.int q4), .val (.int q5), .val (.int (0 : Int32)), .val (.int (-1 : Int32))]) rfl kt) ?_
  refine Rch.of (T' := T0) (g' := (mkF m 7 #[.val (.int q0), .val (.int q1), .val (.int q2), .val (.int q3), .val (.int q4), .val (.int q5), .val (.int (0 : Int32)), .val (.int (-1 : Int32))] [(.int q0)])) (fun _ kt => XS.iloadN X0.here hx rfl (hb hby d_method_3_code_6) rfl  kt) ?_
  by_cases c169 : (0 : Int32) < q0
  · skip
    refine Rch.of (T' := T0) (g' := (mkF m 10 #[.val (.int q0), .val (.int q1), .val (.int q2), .val (.int q3), .val (.int q4), .val (.int q5), .val (.int (0 : Int32)), .val (.int (-1 : Int32))] [])) (fun _ kt => XS.ifNo X0.here hx rfl (hb hby d_method_3_code_7) rfl ((if0 _ _).trans (tlt c169).2.2.2) kt) ?_
    refine Rch.of (T' := T0) (g' := (mkF m 12 #[.val (.int q0), .val (.int q1), .val (.int q2), .val (.int q3), .val (.int q4), .val (.int q5), .val (.int (0 : Int32)), .val (.int (-1 : Int32))] [(.int q5)])) (fun _ kt => XS.iload X0.here hx rfl (hb hby d_method_3_code_10) rfl  kt) ?_
    refine Rch.of (T' := T0) (g' := (mkF m 13 #[.val (.int q0), .val (.int q1), .val (.int q2), .val (.int q3), .val (.int q4), .val (.int q5), .val (.int (0 : Int32)), .val (.int (-1 : Int32))] [(.int q1), (.int q5)])) (fun _ kt => XS.iloadN X0.here hx rfl (hb hby d_method_3_code_12) rfl  kt) ?_
    by_cases c170 : q5 = q1
    · skip
      refine Rch.of (T' := T0) (g' := (mkF m 16 #[.val (.int q0), .val (.int q1), .val (.int q2), .val (.int q3), .val (.int q4), .val (.int q5), .val (.int (0 : Int32)), .val (.int (-1 : Int32))] [])) (fun _ kt => XS.icmpNo X0.here hx rfl (hb hby d_method_3_code_13) rfl (teq c170).2 kt) ?_
      refine Rch.of (T' := T0) (g' := (mkF m 17 #[.val (.int q0), .val (.int q1), .val (.int q2), .val (.int q3), .val (.int q4), .val (.int q5), .val (.int (0 : Int32)), .val (.int (-1 : Int32))] [(.int (0 : Int32))])) (fun _ kt => XS.iconst X0.here hx rfl (hb hby d_method_3_code_16) kt) ?_
      refine Rch.of (T' := T0) (g' := (mkF m 19 #[.val (.int q0), .val (.int q1), .val (.int q2), .val (.int q3), .val (.int q4), .val (.int q5), .val (.int (0 : Int32)), .val (.int (0 : Int32))] [])) (fun _ kt => XS.istore X0.here hx rfl (hb hby d_method_3_code_17) rfl (l' := #[.val (.int q0), .val (.int q1), .val (.int q2), .val (.int q3), .val (.int q4), .val (.int q5), .val (.int (0 : Int32)), .val (.int (0 : Int32))]) rfl kt) ?_
      refine Rch.of (T' := T0) (g' := (mkF m 20 #[.val (.int q0), .val (.int q1), .val (.int q2), .val (.int q3), .val (.int q4), .val (.int q5), .val (.int (0 : Int32)), .val (.int (0 : Int32))] [(.int (1 : Int32))])) (fun _ kt => XS.iconst X0.here hx rfl (hb hby d_method_3_code_19) kt) ?_
      refine Rch.of (T' := T0) (g' := (mkF m 22 #[.val (.int q0), .val (.int q1), .val (.int q2), .val (.int q3), .val (.int q4), .val (.int q5), .val (.int (1 : Int32)), .val (.int (0 : Int32))] [])) (fun _ kt => XS.istore X0.here hx rfl (hb hby d_method_3_code_20) rfl (l' := #[.val (.int q0), .val (.int q1), .val (.int q2), .val (.int q3), .val (.int q4), .val (.int q5), .val (.int (1 : Int32)), .val (.int (0 : Int32))]) rfl kt) ?_
      exact J22 _ _ (by rw [hv]; simp [own_e0, c169, c170])
    · skip
      refine Rch.of (T' := T0) (g' := (mkF m 19 #[.val (.int q0), .val (.int q1), .val (.int q2), .val (.int q3), .val (.int q4), .val (.int q5), .val (.int (0 : Int32)), .val (.int (-1 : Int32))] [])) (fun _ kt => XS.icmpYes X0.here hx rfl (pc0 := 13) (pc' := 19) rfl (hb hby d_method_3_code_13) rfl (feq c170).2 (by decide) (by decide) kt) ?_
      refine Rch.of (T' := T0) (g' := (mkF m 20 #[.val (.int q0), .val (.int q1), .val (.int q2), .val (.int q3), .val (.int q4), .val (.int q5), .val (.int (0 : Int32)), .val (.int (-1 : Int32))] [(.int (1 : Int32))])) (fun _ kt => XS.iconst X0.here hx rfl (hb hby d_method_3_code_19) kt) ?_
      refine Rch.of (T' := T0) (g' := (mkF m 22 #[.val (.int q0), .val (.int q1), .val (.int q2), .val (.int q3), .val (.int q4), .val (.int q5), .val (.int (1 : Int32)), .val (.int (-1 : Int32))] [])) (fun _ kt => XS.istore X0.here hx rfl (hb hby d_method_3_code_20) rfl (l' := #[.val (.int q0), .val (.int q1), .val (.int q2), .val (.int q3), .val (.int q4), .val (.int q5), .val (.int (1 : Int32)), .val (.int (-1 : Int32))]) rfl kt) ?_
      exact J22 _ _ (by rw [hv]; simp [own_e0, c169, c170])
  · skip
    refine Rch.of (T' := T0) (g' := (mkF m 22 #[.val (.int q0), .val (.int q1), .val (.int q2), .val (.int q3), .val (.int q4), .val (.int q5), .val (.int (0 : Int32)), .val (.int (-1 : Int32))] [])) (fun _ kt => XS.ifYes X0.here hx rfl (pc0 := 7) (pc' := 22) rfl (hb hby d_method_3_code_7) rfl ((if0 _ _).trans (flt c169).2.2.2) (by decide) (by decide) kt) ?_
    exact J22 _ _ (by rw [hv]; simp [own_e0, c169])
theorem ef_rm0 (m : MethodId) (p0 : Int32) (p1 : Int32) (p2 : Int32) (p3 : Int32) (p4 : Int32) (p5 : Int32) : entryFrame m #[(.int p0), (.int p1), (.int p2), (.int p3), (.int p4), (.int p5)] maxLocals = mkF m 0 #[.val (.int p0), .val (.int p1), .val (.int p2), .val (.int p3), .val (.int p4), .val (.int p5), .unset, .unset, .unset, .unset, .unset, .unset, .unset, .unset, .unset] [] := by first | (simp [entryFrame, mkF, argsToLocals, Value.category, maxLocals]; done) | rfl
def Q_rm0 (Z : State) (p0 : Int32) (p1 : Int32) (p2 : Int32) (p3 : Int32) (p4 : Int32) (p5 : Int32) (h0 : Heap) (n0 : Nat) (vv_ : Option Value) (h : Heap) (LL_ : List Loc) : Prop := vv_ = some (.int 1) ∧ Fr n0 LL_ ∧ (True)
set_option maxRecDepth 65536 in
set_option maxHeartbeats 40000000 in
theorem rm0 (l : Launch) (Z : State) (a0 : Array Value) (hw : ∀ d ∈ tables_1, d.before a0 Z = true) (ws : List Jvm.Cond) (p0 : Int32) (p1 : Int32) (p2 : Int32) (p3 : Int32) (p4 : Int32) (p5 : Int32) (h0 : Heap) (n0 : Nat) (Z0 : n0 ≤ h0.size)  :
    MetFree l x (head1 (Jvm.Cond.code x code maxLocals ret :: ws) room_1) (fun aa_ UU_ => aa_ = #[(.int p0), (.int p1), (.int p2), (.int p3), (.int p4), (.int p5)] ∧ Z.Warmed39 UU_.vm ∧ UU_.heap = h0) (fun _ _ _ _ _ => True) (fun _ UU_ oo_ VV_ => ∃ vv_ LL_, oo_ = .returned vv_ ∧ Q_rm0 Z p0 p1 p2 p3 p4 p5 h0 n0 vv_ VV_.heap LL_ ∧ FrameEnd UU_ oo_ VV_ LL_ room_1.cells room_1.slots) := by
  refine own_met (y := x) (plainFor_of_name pn_2) ?_
  intro p e s m below meth c T0 K hx hby hml hret hlk hown hnm hZ X0 e0 hK
  have N0 := Fr.nil n0
  refine Rch.cast (ef_rm0 m p0 p1 p2 p3 p4 p5) ?_
  have J123 : ∀ (x6 x7 x8 x9 x10 x11 x12 : Int32) (h6 : 0 ≤ x6.toInt) (h7 : 0 ≤ x7.toInt) (h8 : 0 ≤ x8.toInt) (h9 : 0 ≤ x9.toInt) (hn : x10 = 0 ∨ x10 = 1 ∨ x10 = 2 ∨ x10 = 3 ∨ x10 = 4), Rch p e below K T0 (mkF m 123 #[.val (.int p0), .val (.int p1), .val (.int p2), .val (.int p3), .val (.int p4), .val (.int p5), .val (.int x6), .val (.int x7), .val (.int x8), .val (.int x9), .val (.int x10), .val (.int x11), .val (.int x12), .unset, .unset] []) := by
    intro x6 x7 x8 x9 x10 x11 x12 h6 h7 h8 h9 hn
    rcases hn with rfl | rfl | rfl | rfl | rfl
    · skip
      obtain ⟨T171, h171, X171, e171, E171, A171, D171, -, st171⟩ := newO X0 hx hZ hown (hw _ (List.mem_of_getElem? (i := 1) rfl)) (hw _ (List.mem_of_getElem? (i := 2) rfl)) (hw _ (List.mem_of_getElem? (i := 3) rfl)) e0 (g := (mkF m 123 #[.val (.int p0), .val (.int p1), .val (.int p2), .val (.int p3), .val (.int p4), .val (.int p5), .val (.int x6), .val (.int x7), .val (.int x8), .val (.int x9), .val (.int (0 : Int32)), .val (.int x11), .val (.int x12), .unset, .unset] [])) rfl (hb hby at_123) (by decide) (by decide)
      obtain ⟨b171, g171⟩ : ∃ zz_, zz_ = h0.size := ⟨_, rfl⟩
      have ge_b171 : n0 ≤ b171 := Nat.le_trans Z0 (Nat.le_of_eq g171.symm)
      have sz_b171 : h0.size ≤ b171 := Nat.le_trans (Keep.refl h0 []).1 (Nat.le_of_eq g171.symm)
      rw [← g171] at A171 D171 st171
      have F171_table : Fld Z h171 b171 "com/example/ampliar/ampliar/service/TermNumbering" "table" "[I" .null := D171 (Or.inl (hw _ (List.mem_of_getElem? (i := 19) rfl))) (ty := (.array .int)) (by decide)
      have F171_numbered : Fld Z h171 b171 "com/example/ampliar/ampliar/service/TermNumbering" "numbered" "[I" .null := D171 (Or.inl (hw _ (List.mem_of_getElem? (i := 21) rfl))) (ty := (.array .int)) (by decide)
      have F171_size : Fld Z h171 b171 "com/example/ampliar/ampliar/service/TermNumbering" "size" "I" (.int (0 : Int32)) := D171 (Or.inl (hw _ (List.mem_of_getElem? (i := 42) rfl))) (ty := .int) (by decide)
      refine Rch.of (T' := T171) (g' := (mkF m 126 #[.val (.int p0), .val (.int p1), .val (.int p2), .val (.int p3), .val (.int p4), .val (.int p5), .val (.int x6), .val (.int x7), .val (.int x8), .val (.int x9), .val (.int (0 : Int32)), .val (.int x11), .val (.int x12), .unset, .unset] [(.ref b171)])) st171 ?_
      refine Rch.of (T' := T171) (g' := (mkF m 127 #[.val (.int p0), .val (.int p1), .val (.int p2), .val (.int p3), .val (.int p4), .val (.int p5), .val (.int x6), .val (.int x7), .val (.int x8), .val (.int x9), .val (.int (0 : Int32)), .val (.int x11), .val (.int x12), .unset, .unset] [(.ref b171), (.ref b171)])) (fun _ kt => XS.dup X171.here hx rfl (hb hby at_126) rfl rfl kt) ?_
      obtain ⟨_, _, ⟨T172, L172, k172, n172⟩, -, X172, ⟨Lc172, hQ172, l172, y172, z172⟩, st172⟩ := X171.specialBack hx (y := (⟨"com/example/ampliar/ampliar/service/TermNumbering", "<init>", "()V"⟩ : MethodName)) rfl hown (mvT hZ (hw _ (List.mem_of_getElem? (i := 4) rfl))) (mvT hZ (hw _ (List.mem_of_getElem? (i := 5) rfl))) (mvT hZ (hw _ (List.mem_of_getElem? (i := 6) rfl))) (by decide) (backOf (W := 1) (rm1 l Z a0 hw [] b171 .null .null h171 n0 (Nat.le_trans Z0 E171.1) A171 F171_table F171_numbered F171_size ge_b171) hZ (hw _ (List.mem_of_getElem? (i := 6) rfl)) (hw _ (List.mem_of_getElem? (i := 3) rfl)) (by decide) (by decide)) (g := (mkF m 127 #[.val (.int p0), .val (.int p1), .val (.int p2), .val (.int p3), .val (.int p4), .val (.int p5), .val (.int x6), .val (.int x7), .val (.int x8), .val (.int x9), .val (.int (0 : Int32)), .val (.int x11), .val (.int x12), .unset, .unset] [(.ref b171), (.ref b171)])) rfl (by rw [hml]; rfl) (Steps.refl _) (a := b171) (argsL := []) (rest := [(.ref b171)]) (lenOf pd_0 rfl) rfl (by show 2 * 0 + _ ≤ _; exact Nat.le_of_eq rfl) (hb hby at_127) (fun _ _ => ⟨rfl, e171, (by decide : 1 + 2 ≤ _), (by decide : 3 + 160 ≤ _)⟩)
      dsimp only [Pt.U, Pt.locs, Pt.cells, Pt.slots] at X172 l172 y172 z172 st172 hQ172
      subst l172 y172 z172
      obtain ⟨rfl, N172q, hQ172⟩ := hQ172
      have N172 := Fr.app N0 N172q
      obtain ⟨t172, nb172, zt172, zb172, ne172, K172, Ex172, Fa172, Fb172, Fc172, Va172, Vb172⟩ := hQ172
      have ne_b171_t172 : b171 ≠ t172 := Nat.ne_of_lt (Nat.lt_of_lt_of_le A171.lt zt172)
      have ne_b171_nb172 : b171 ≠ nb172 := Nat.ne_of_lt (Nat.lt_of_lt_of_le A171.lt zb172)
      have ge_t172 : n0 ≤ t172 := Nat.le_trans (Nat.le_trans Z0 E171.1) zt172
      have sz_t172 : h0.size ≤ t172 := Nat.le_trans ((Keep.refl h0 []).ext E171).1 zt172
      have ge_nb172 : n0 ≤ nb172 := Nat.le_trans (Nat.le_trans Z0 E171.1) zb172
      have sz_nb172 : h0.size ≤ nb172 := Nat.le_trans ((Keep.refl h0 []).ext E171).1 zb172
      refine Rch.via (T' := T172) (g' := (mkF m 130 #[.val (.int p0), .val (.int p1), .val (.int p2), .val (.int p3), .val (.int p4), .val (.int p5), .val (.int x6), .val (.int x7), .val (.int x8), .val (.int x9), .val (.int (0 : Int32)), .val (.int x11), .val (.int x12), .unset, .unset] [(.ref b171)])) st172 ?_
      have hI0 : own_Inv (fun _ => (-1 : Int32)) [] := own_inv0
      have hl0 : ([] : List Int32).length ≤ 0 := Nat.le_refl 0
      refine Rch.of (T' := T172) (g' := (mkF m 132 #[.val (.int p0), .val (.int p1), .val (.int p2), .val (.int p3), .val (.int p4), .val (.int p5), .val (.int x6), .val (.int x7), .val (.int x8), .val (.int x9), .val (.int (0 : Int32)), .val (.int x11), .val (.int x12), .val (.ref b171), .unset] [])) (fun _ kt => XS.astore X172.here hx rfl (hb hby at_130) rfl rfl (l' := #[.val (.int p0), .val (.int p1), .val (.int p2), .val (.int p3), .val (.int p4), .val (.int p5), .val (.int x6), .val (.int x7), .val (.int x8), .val (.int x9), .val (.int (0 : Int32)), .val (.int x11), .val (.int x12), .val (.ref b171), .unset]) rfl kt) ?_
      refine Rch.of (T' := T172) (g' := (mkF m 134 #[.val (.int p0), .val (.int p1), .val (.int p2), .val (.int p3), .val (.int p4), .val (.int p5), .val (.int x6), .val (.int x7), .val (.int x8), .val (.int x9), .val (.int (0 : Int32)), .val (.int x11), .val (.int x12), .val (.ref b171), .unset] [(.int (0 : Int32))])) (fun _ kt => XS.iload X172.here hx rfl (hb hby at_132) rfl  kt) ?_
      refine Rch.of (T' := T172) (g' := (mkF m 145 #[.val (.int p0), .val (.int p1), .val (.int p2), .val (.int p3), .val (.int p4), .val (.int p5), .val (.int x6), .val (.int x7), .val (.int x8), .val (.int x9), .val (.int (0 : Int32)), .val (.int x11), .val (.int x12), .val (.ref b171), .unset] [])) (fun _ kt => XS.ifYes X172.here hx rfl (pc0 := 134) (pc' := 145) rfl (hb hby at_134) rfl ((if0 _ _).trans (flt ((by decide) : ¬ ((0 : Int32) < (0 : Int32)))).2.2.2) (by decide) (by decide) kt) ?_
      refine Rch.of (T' := T172) (g' := (mkF m 147 #[.val (.int p0), .val (.int p1), .val (.int p2), .val (.int p3), .val (.int p4), .val (.int p5), .val (.int x6), .val (.int x7), .val (.int x8), .val (.int x9), .val (.int (0 : Int32)), .val (.int x11), .val (.int x12), .val (.ref b171), .unset] [(.int (0 : Int32))])) (fun _ kt => XS.iload X172.here hx rfl (hb hby at_145) rfl  kt) ?_
      refine Rch.of (T' := T172) (g' := (mkF m 148 #[.val (.int p0), .val (.int p1), .val (.int p2), .val (.int p3), .val (.int p4), .val (.int p5), .val (.int x6), .val (.int x7), .val (.int x8), .val (.int x9), .val (.int (0 : Int32)), .val (.int x11), .val (.int x12), .val (.ref b171), .unset] [(.int (1 : Int32)), (.int (0 : Int32))])) (fun _ kt => XS.iconst X172.here hx rfl (hb hby at_147) kt) ?_
      refine Rch.of (T' := T172) (g' := (mkF m 159 #[.val (.int p0), .val (.int p1), .val (.int p2), .val (.int p3), .val (.int p4), .val (.int p5), .val (.int x6), .val (.int x7), .val (.int x8), .val (.int x9), .val (.int (0 : Int32)), .val (.int x11), .val (.int x12), .val (.ref b171), .unset] [])) (fun _ kt => XS.icmpYes X172.here hx rfl (pc0 := 148) (pc' := 159) rfl (hb hby at_148) rfl (flt ((by decide) : ¬ ((1 : Int32) < (0 : Int32)))).2.2.2 (by decide) (by decide) kt) ?_
      refine Rch.of (T' := T172) (g' := (mkF m 161 #[.val (.int p0), .val (.int p1), .val (.int p2), .val (.int p3), .val (.int p4), .val (.int p5), .val (.int x6), .val (.int x7), .val (.int x8), .val (.int x9), .val (.int (0 : Int32)), .val (.int x11), .val (.int x12), .val (.ref b171), .unset] [(.int (0 : Int32))])) (fun _ kt => XS.iload X172.here hx rfl (hb hby at_159) rfl  kt) ?_
      refine Rch.of (T' := T172) (g' := (mkF m 162 #[.val (.int p0), .val (.int p1), .val (.int p2), .val (.int p3), .val (.int p4), .val (.int p5), .val (.int x6), .val (.int x7), .val (.int x8), .val (.int x9), .val (.int (0 : Int32)), .val (.int x11), .val (.int x12), .val (.ref b171), .unset] [(.int (2 : Int32)), (.int (0 : Int32))])) (fun _ kt => XS.iconst X172.here hx rfl (hb hby at_161) kt) ?_
      refine Rch.of (T' := T172) (g' := (mkF m 173 #[.val (.int p0), .val (.int p1), .val (.int p2), .val (.int p3), .val (.int p4), .val (.int p5), .val (.int x6), .val (.int x7), .val (.int x8), .val (.int x9), .val (.int (0 : Int32)), .val (.int x11), .val (.int x12), .val (.ref b171), .unset] [])) (fun _ kt => XS.icmpYes X172.here hx rfl (pc0 := 162) (pc' := 173) rfl (hb hby at_162) rfl (flt ((by decide) : ¬ ((2 : Int32) < (0 : Int32)))).2.2.2 (by decide) (by decide) kt) ?_
      refine Rch.of (T' := T172) (g' := (mkF m 175 #[.val (.int p0), .val (.int p1), .val (.int p2), .val (.int p3), .val (.int p4), .val (.int p5), .val (.int x6), .val (.int x7), .val (.int x8), .val (.int x9), .val (.int (0 : Int32)), .val (.int x11), .val (.int x12), .val (.ref b171), .unset] [(.int (0 : Int32))])) (fun _ kt => XS.iload X172.here hx rfl (hb hby at_173) rfl  kt) ?_
      refine Rch.of (T' := T172) (g' := (mkF m 176 #[.val (.int p0), .val (.int p1), .val (.int p2), .val (.int p3), .val (.int p4), .val (.int p5), .val (.int x6), .val (.int x7), .val (.int x8), .val (.int x9), .val (.int (0 : Int32)), .val (.int x11), .val (.int x12), .val (.ref b171), .unset] [(.int (3 : Int32)), (.int (0 : Int32))])) (fun _ kt => XS.iconst X172.here hx rfl (hb hby at_175) kt) ?_
      refine Rch.of (T' := T172) (g' := (mkF m 187 #[.val (.int p0), .val (.int p1), .val (.int p2), .val (.int p3), .val (.int p4), .val (.int p5), .val (.int x6), .val (.int x7), .val (.int x8), .val (.int x9), .val (.int (0 : Int32)), .val (.int x11), .val (.int x12), .val (.ref b171), .unset] [])) (fun _ kt => XS.icmpYes X172.here hx rfl (pc0 := 176) (pc' := 187) rfl (hb hby at_176) rfl (flt ((by decide) : ¬ ((3 : Int32) < (0 : Int32)))).2.2.2 (by decide) (by decide) kt) ?_
      refine Rch.of (T' := T172) (g' := (mkF m 189 #[.val (.int p0), .val (.int p1), .val (.int p2), .val (.int p3), .val (.int p4), .val (.int p5), .val (.int x6), .val (.int x7), .val (.int x8), .val (.int x9), .val (.int (0 : Int32)), .val (.int x11), .val (.int x12), .val (.ref b171), .unset] [(.int (0 : Int32))])) (fun _ kt => XS.iload X172.here hx rfl (hb hby at_187) rfl  kt) ?_
      refine Rch.of (T' := T172) (g' := (mkF m 191 #[.val (.int p0), .val (.int p1), .val (.int p2), .val (.int p3), .val (.int p4), .val (.int p5), .val (.int x6), .val (.int x7), .val (.int x8), .val (.int x9), .val (.int (0 : Int32)), .val (.int x11), .val (.int x12), .val (.ref b171), .unset] [(.int x6), (.int (0 : Int32))])) (fun _ kt => XS.iload X172.here hx rfl (hb hby at_189) rfl  kt) ?_
      refine Rch.of (T' := T172) (g' := (mkF m 193 #[.val (.int p0), .val (.int p1), .val (.int p2), .val (.int p3), .val (.int p4), .val (.int p5), .val (.int x6), .val (.int x7), .val (.int x8), .val (.int x9), .val (.int (0 : Int32)), .val (.int x11), .val (.int x12), .val (.ref b171), .unset] [(.int x7), (.int x6), (.int (0 : Int32))])) (fun _ kt => XS.iload X172.here hx rfl (hb hby at_191) rfl  kt) ?_
      refine Rch.of (T' := T172) (g' := (mkF m 195 #[.val (.int p0), .val (.int p1), .val (.int p2), .val (.int p3), .val (.int p4), .val (.int p5), .val (.int x6), .val (.int x7), .val (.int x8), .val (.int x9), .val (.int (0 : Int32)), .val (.int x11), .val (.int x12), .val (.ref b171), .unset] [(.int x8), (.int x7), (.int x6), (.int (0 : Int32))])) (fun _ kt => XS.iload X172.here hx rfl (hb hby at_193) rfl  kt) ?_
      refine Rch.of (T' := T172) (g' := (mkF m 197 #[.val (.int p0), .val (.int p1), .val (.int p2), .val (.int p3), .val (.int p4), .val (.int p5), .val (.int x6), .val (.int x7), .val (.int x8), .val (.int x9), .val (.int (0 : Int32)), .val (.int x11), .val (.int x12), .val (.ref b171), .unset] [(.int x9), (.int x8), (.int x7), (.int x6), (.int (0 : Int32))])) (fun _ kt => XS.iload X172.here hx rfl (hb hby at_195) rfl  kt) ?_
      refine Rch.of (T' := T172) (g' := (mkF m 199 #[.val (.int p0), .val (.int p1), .val (.int p2), .val (.int p3), .val (.int p4), .val (.int p5), .val (.int x6), .val (.int x7), .val (.int x8), .val (.int x9), .val (.int (0 : Int32)), .val (.int x11), .val (.int x12), .val (.ref b171), .unset] [(.int x12), (.int x9), (.int x8), (.int x7), (.int x6), (.int (0 : Int32))])) (fun _ kt => XS.iload X172.here hx rfl (hb hby at_197) rfl  kt) ?_
      obtain ⟨_, _, ⟨T173, L173, k173, n173⟩, -, X173, ⟨Lc173, hQ173, l173, y173, z173⟩, st173⟩ := Jvm.LawKit.callS X172 hx (y := (⟨"com/example/ampliar/ampliar/service/TermNumberingFindPinLaw", "expected", "(IIIIII)I"⟩ : MethodName)) hown (mvT hZ (hw _ (List.mem_of_getElem? (i := 22) rfl))) (mvT hZ (hw _ (List.mem_of_getElem? (i := 23) rfl))) (mvT hZ (hw _ (List.mem_of_getElem? (i := 24) rfl))) (mvT hZ (hw _ (List.mem_of_getElem? (i := 25) rfl))) (by decide) (backOf (W := 0) (rm5 l Z a0 hw [] (0 : Int32) x6 x7 x8 x9 x12 T172.heap n0 (Nat.le_trans (Nat.le_trans Z0 E171.1) K172.1) ) hZ (hw _ (List.mem_of_getElem? (i := 25) rfl)) (hw _ (List.mem_of_getElem? (i := 24) rfl)) (by decide) (by decide)) (g := (mkF m 199 #[.val (.int p0), .val (.int p1), .val (.int p2), .val (.int p3), .val (.int p4), .val (.int p5), .val (.int x6), .val (.int x7), .val (.int x8), .val (.int x9), .val (.int (0 : Int32)), .val (.int x11), .val (.int x12), .val (.ref b171), .unset] [(.int x12), (.int x9), (.int x8), (.int x7), (.int x6), (.int (0 : Int32))])) rfl (by rw [hml]; rfl) (argsL := [(.int (0 : Int32)), (.int x6), (.int x7), (.int x8), (.int x9), (.int x12)]) (rest := []) (lenOf pd_3 rfl) rfl (by show 2 * 0 + _ ≤ _; exact Nat.le_of_eq rfl) (hb hby at_199) (fun _ _ => ⟨rfl, rfl, (by decide : 3 + 0 ≤ _), (by decide : 163 + 0 ≤ _)⟩)
      dsimp only [Pt.U, Pt.locs, Pt.cells, Pt.slots] at X173 l173 y173 z173 st173 hQ173
      subst l173 y173 z173
      obtain ⟨rfl, N173q, hQ173⟩ := hQ173
      have N173 := Fr.app N172 N173q
      refine Rch.of (T' := T173) (g' := (mkF m 202 #[.val (.int p0), .val (.int p1), .val (.int p2), .val (.int p3), .val (.int p4), .val (.int p5), .val (.int x6), .val (.int x7), .val (.int x8), .val (.int x9), .val (.int (0 : Int32)), .val (.int x11), .val (.int x12), .val (.ref b171), .unset] [(.int (own_exp (0 : Int32) x6 x7 x8 x9 x12))])) st173 ?_
      refine Rch.of (T' := T173) (g' := (mkF m 204 #[.val (.int p0), .val (.int p1), .val (.int p2), .val (.int p3), .val (.int p4), .val (.int p5), .val (.int x6), .val (.int x7), .val (.int x8), .val (.int x9), .val (.int (0 : Int32)), .val (.int x11), .val (.int x12), .val (.ref b171), .val (.int (own_exp (0 : Int32) x6 x7 x8 x9 x12))] [])) (fun _ kt => XS.istore X173.here hx rfl (hb hby at_202) rfl (l' := #[.val (.int p0), .val (.int p1), .val (.int p2), .val (.int p3), .val (.int p4), .val (.int p5), .val (.int x6), .val (.int x7), .val (.int x8), .val (.int x9), .val (.int (0 : Int32)), .val (.int x11), .val (.int x12), .val (.ref b171), .val (.int (own_exp (0 : Int32) x6 x7 x8 x9 x12))]) rfl kt) ?_
      refine Rch.of (T' := T173) (g' := (mkF m 206 #[.val (.int p0), .val (.int p1), .val (.int p2), .val (.int p3), .val (.int p4), .val (.int p5), .val (.int x6), .val (.int x7), .val (.int x8), .val (.int x9), .val (.int (0 : Int32)), .val (.int x11), .val (.int x12), .val (.ref b171), .val (.int (own_exp (0 : Int32) x6 x7 x8 x9 x12))] [(.ref b171)])) (fun _ kt => XS.aload X173.here hx rfl (hb hby at_204) rfl rfl kt) ?_
      refine Rch.of (T' := T173) (g' := (mkF m 208 #[.val (.int p0), .val (.int p1), .val (.int p2), .val (.int p3), .val (.int p4), .val (.int p5), .val (.int x6), .val (.int x7), .val (.int x8), .val (.int x9), .val (.int (0 : Int32)), .val (.int x11), .val (.int x12), .val (.ref b171), .val (.int (own_exp (0 : Int32) x6 x7 x8 x9 x12))] [(.int x12), (.ref b171)])) (fun _ kt => XS.iload X173.here hx rfl (hb hby at_206) rfl  kt) ?_
      obtain ⟨cq174, kq174, q174a, q174b, q174c⟩ := isOf hZ hQ173 Ex172
      obtain ⟨_, _, ⟨T174, L174, k174, n174⟩, -, X174, ⟨Lc174, hQ174, l174, y174, z174⟩, st174⟩ := X173.virtualBack hx (y := (⟨"com/example/ampliar/ampliar/service/TermNumbering", "find", "(I)I"⟩ : MethodName)) (z := (⟨"com/example/ampliar/ampliar/service/TermNumbering", "find", "(I)I"⟩ : MethodName)) hown (mvT hZ (hw _ (List.mem_of_getElem? (i := 26) rfl))) (mvT hZ (hw _ (List.mem_of_getElem? (i := 27) rfl))) (notFace_of_selects (args := #[]) (mvT hZ (hw _ (List.mem_of_getElem? (i := 29) rfl)))) (mvT hZ (hw _ (List.mem_of_getElem? (i := 29) rfl))) (mvT hZ (hw _ (List.mem_of_getElem? (i := 28) rfl))) (by decide) (backOf (W := 0) (rm6 l Z a0 hw [] b171 x12 t172 (fun _ => (-1 : Int32)) T172.heap n0 (Nat.le_trans (Nat.le_trans Z0 E171.1) K172.1) Ex172 Fa172 Va172 (own_inv_ok hI0 (by omega) _)) hZ (hw _ (List.mem_of_getElem? (i := 30) rfl)) (hw _ (List.mem_of_getElem? (i := 3) rfl)) (by decide) (by decide)) q174a q174c (g := (mkF m 208 #[.val (.int p0), .val (.int p1), .val (.int p2), .val (.int p3), .val (.int p4), .val (.int p5), .val (.int x6), .val (.int x7), .val (.int x8), .val (.int x9), .val (.int (0 : Int32)), .val (.int x11), .val (.int x12), .val (.ref b171), .val (.int (own_exp (0 : Int32) x6 x7 x8 x9 x12))] [(.int x12), (.ref b171)])) rfl (by rw [hml]; rfl) (Steps.refl _) (argsL := [(.int x12)]) (rest := []) (lenOf pd_4 rfl) rfl (by show 2 * 0 + _ ≤ _; exact Nat.le_of_eq rfl) (hb hby at_208) (fun _ _ => ⟨rfl, hQ173, (by decide : 3 + 0 ≤ _), (by decide : 163 + 0 ≤ _)⟩)
      dsimp only [Pt.U, Pt.locs, Pt.cells, Pt.slots] at X174 l174 y174 z174 st174 hQ174
      subst l174 y174 z174
      obtain ⟨rfl, N174q, hQ174⟩ := hQ174
      have N174 := Fr.app N173 N174q
      refine Rch.via (T' := T174) (g' := (mkF m 211 #[.val (.int p0), .val (.int p1), .val (.int p2), .val (.int p3), .val (.int p4), .val (.int p5), .val (.int x6), .val (.int x7), .val (.int x8), .val (.int x9), .val (.int (0 : Int32)), .val (.int x11), .val (.int x12), .val (.ref b171), .val (.int (own_exp (0 : Int32) x6 x7 x8 x9 x12))] [(.int (own_find (fun _ => (-1 : Int32)) x12))])) st174 ?_
      refine Rch.of (T' := T174) (g' := (mkF m 213 #[.val (.int p0), .val (.int p1), .val (.int p2), .val (.int p3), .val (.int p4), .val (.int p5), .val (.int x6), .val (.int x7), .val (.int x8), .val (.int x9), .val (.int (0 : Int32)), .val (.int x11), .val (.int x12), .val (.ref b171), .val (.int (own_exp (0 : Int32) x6 x7 x8 x9 x12))] [(.int (own_exp (0 : Int32) x6 x7 x8 x9 x12)), (.int (own_find (fun _ => (-1 : Int32)) x12))])) (fun _ kt => XS.iload X174.here hx rfl (hb hby at_211) rfl  kt) ?_
      have hfin : (own_find (fun _ => (-1 : Int32)) x12) = (own_exp (0 : Int32) x6 x7 x8 x9 x12) := by
        rw [own_find_eq hI0 (by omega), own_nil]
        exact own_join0 _ _ _ _ _
      refine Rch.of (T' := T174) (g' := (mkF m 216 #[.val (.int p0), .val (.int p1), .val (.int p2), .val (.int p3), .val (.int p4), .val (.int p5), .val (.int x6), .val (.int x7), .val (.int x8), .val (.int x9), .val (.int (0 : Int32)), .val (.int x11), .val (.int x12), .val (.ref b171), .val (.int (own_exp (0 : Int32) x6 x7 x8 x9 x12))] [])) (fun _ kt => XS.icmpNo X174.here hx rfl (hb hby at_213) rfl (teq hfin).2 kt) ?_
      refine Rch.of (T' := T174) (g' := (mkF m 217 #[.val (.int p0), .val (.int p1), .val (.int p2), .val (.int p3), .val (.int p4), .val (.int p5), .val (.int x6), .val (.int x7), .val (.int x8), .val (.int x9), .val (.int (0 : Int32)), .val (.int x11), .val (.int x12), .val (.ref b171), .val (.int (own_exp (0 : Int32) x6 x7 x8 x9 x12))] [(.int (1 : Int32))])) (fun _ kt => XS.iconst X174.here hx rfl (hb hby at_216) kt) ?_
      refine Rch.of (T' := T174) (g' := (mkF m 221 #[.val (.int p0), .val (.int p1), .val (.int p2), .val (.int p3), .val (.int p4), .val (.int p5), .val (.int x6), .val (.int x7), .val (.int x8), .val (.int x9), .val (.int (0 : Int32)), .val (.int x11), .val (.int x12), .val (.ref b171), .val (.int (own_exp (0 : Int32) x6 x7 x8 x9 x12))] [(.int (1 : Int32))])) (fun _ kt => XS.goto X174.here hx rfl (pc0 := 217) (pc' := 221) rfl (hb hby at_217) (by decide) (by decide) kt) ?_
      exact Rch.retN X174 hx (t := .boolean) hret (by simp) hlk (hb hby at_221) (fun U hU hF => hK _ U _ _ _ (by show Q_rm0 Z p0 p1 p2 p3 p4 p5 h0 n0 _ U.heap _; rw [hU, hQ174]; exact ⟨rfl, N174, trivial⟩) hF (by decide) (by decide))
    · skip
      obtain ⟨T175, h175, X175, e175, E175, A175, D175, -, st175⟩ := newO X0 hx hZ hown (hw _ (List.mem_of_getElem? (i := 1) rfl)) (hw _ (List.mem_of_getElem? (i := 2) rfl)) (hw _ (List.mem_of_getElem? (i := 3) rfl)) e0 (g := (mkF m 123 #[.val (.int p0), .val (.int p1), .val (.int p2), .val (.int p3), .val (.int p4), .val (.int p5), .val (.int x6), .val (.int x7), .val (.int x8), .val (.int x9), .val (.int (1 : Int32)), .val (.int x11), .val (.int x12), .unset, .unset] [])) rfl (hb hby at_123) (by decide) (by decide)
      obtain ⟨b175, g175⟩ : ∃ zz_, zz_ = h0.size := ⟨_, rfl⟩
      have ge_b175 : n0 ≤ b175 := Nat.le_trans Z0 (Nat.le_of_eq g175.symm)
      have sz_b175 : h0.size ≤ b175 := Nat.le_trans (Keep.refl h0 []).1 (Nat.le_of_eq g175.symm)
      rw [← g175] at A175 D175 st175
      have F175_table : Fld Z h175 b175 "com/example/ampliar/ampliar/service/TermNumbering" "table" "[I" .null := D175 (Or.inl (hw _ (List.mem_of_getElem? (i := 19) rfl))) (ty := (.array .int)) (by decide)
      have F175_numbered : Fld Z h175 b175 "com/example/ampliar/ampliar/service/TermNumbering" "numbered" "[I" .null := D175 (Or.inl (hw _ (List.mem_of_getElem? (i := 21) rfl))) (ty := (.array .int)) (by decide)
      have F175_size : Fld Z h175 b175 "com/example/ampliar/ampliar/service/TermNumbering" "size" "I" (.int (0 : Int32)) := D175 (Or.inl (hw _ (List.mem_of_getElem? (i := 42) rfl))) (ty := .int) (by decide)
      refine Rch.of (T' := T175) (g' := (mkF m 126 #[.val (.int p0), .val (.int p1), .val (.int p2), .val (.int p3), .val (.int p4), .val (.int p5), .val (.int x6), .val (.int x7), .val (.int x8), .val (.int x9), .val (.int (1 : Int32)), .val (.int x11), .val (.int x12), .unset, .unset] [(.ref b175)])) st175 ?_
      refine Rch.of (T' := T175) (g' := (mkF m 127 #[.val (.int p0), .val (.int p1), .val (.int p2), .val (.int p3), .val (.int p4), .val (.int p5), .val (.int x6), .val (.int x7), .val (.int x8), .val (.int x9), .val (.int (1 : Int32)), .val (.int x11), .val (.int x12), .unset, .unset] [(.ref b175), (.ref b175)])) (fun _ kt => XS.dup X175.here hx rfl (hb hby at_126) rfl rfl kt) ?_
      obtain ⟨_, _, ⟨T176, L176, k176, n176⟩, -, X176, ⟨Lc176, hQ176, l176, y176, z176⟩, st176⟩ := X175.specialBack hx (y := (⟨"com/example/ampliar/ampliar/service/TermNumbering", "<init>", "()V"⟩ : MethodName)) rfl hown (mvT hZ (hw _ (List.mem_of_getElem? (i := 4) rfl))) (mvT hZ (hw _ (List.mem_of_getElem? (i := 5) rfl))) (mvT hZ (hw _ (List.mem_of_getElem? (i := 6) rfl))) (by decide) (backOf (W := 1) (rm1 l Z a0 hw [] b175 .null .null h175 n0 (Nat.le_trans Z0 E175.1) A175 F175_table F175_numbered F175_size ge_b175) hZ (hw _ (List.mem_of_getElem? (i := 6) rfl)) (hw _ (List.mem_of_getElem? (i := 3) rfl)) (by decide) (by decide)) (g := (mkF m 127 #[.val (.int p0), .val (.int p1), .val (.int p2), .val (.int p3), .val (.int p4), .val (.int p5), .val (.int x6), .val (.int x7), .val (.int x8), .val (.int x9), .val (.int (1 : Int32)), .val (.int x11), .val (.int x12), .unset, .unset] [(.ref b175), (.ref b175)])) rfl (by rw [hml]; rfl) (Steps.refl _) (a := b175) (argsL := []) (rest := [(.ref b175)]) (lenOf pd_0 rfl) rfl (by show 2 * 0 + _ ≤ _; exact Nat.le_of_eq rfl) (hb hby at_127) (fun _ _ => ⟨rfl, e175, (by decide : 1 + 2 ≤ _), (by decide : 3 + 160 ≤ _)⟩)
      dsimp only [Pt.U, Pt.locs, Pt.cells, Pt.slots] at X176 l176 y176 z176 st176 hQ176
      subst l176 y176 z176
      obtain ⟨rfl, N176q, hQ176⟩ := hQ176
      have N176 := Fr.app N0 N176q
      obtain ⟨t176, nb176, zt176, zb176, ne176, K176, Ex176, Fa176, Fb176, Fc176, Va176, Vb176⟩ := hQ176
      have ne_b175_t176 : b175 ≠ t176 := Nat.ne_of_lt (Nat.lt_of_lt_of_le A175.lt zt176)
      have ne_b175_nb176 : b175 ≠ nb176 := Nat.ne_of_lt (Nat.lt_of_lt_of_le A175.lt zb176)
      have ge_t176 : n0 ≤ t176 := Nat.le_trans (Nat.le_trans Z0 E175.1) zt176
      have sz_t176 : h0.size ≤ t176 := Nat.le_trans ((Keep.refl h0 []).ext E175).1 zt176
      have ge_nb176 : n0 ≤ nb176 := Nat.le_trans (Nat.le_trans Z0 E175.1) zb176
      have sz_nb176 : h0.size ≤ nb176 := Nat.le_trans ((Keep.refl h0 []).ext E175).1 zb176
      refine Rch.via (T' := T176) (g' := (mkF m 130 #[.val (.int p0), .val (.int p1), .val (.int p2), .val (.int p3), .val (.int p4), .val (.int p5), .val (.int x6), .val (.int x7), .val (.int x8), .val (.int x9), .val (.int (1 : Int32)), .val (.int x11), .val (.int x12), .unset, .unset] [(.ref b175)])) st176 ?_
      have hI0 : own_Inv (fun _ => (-1 : Int32)) [] := own_inv0
      have hl0 : ([] : List Int32).length ≤ 0 := Nat.le_refl 0
      refine Rch.of (T' := T176) (g' := (mkF m 132 #[.val (.int p0), .val (.int p1), .val (.int p2), .val (.int p3), .val (.int p4), .val (.int p5), .val (.int x6), .val (.int x7), .val (.int x8), .val (.int x9), .val (.int (1 : Int32)), .val (.int x11), .val (.int x12), .val (.ref b175), .unset] [])) (fun _ kt => XS.astore X176.here hx rfl (hb hby at_130) rfl rfl (l' := #[.val (.int p0), .val (.int p1), .val (.int p2), .val (.int p3), .val (.int p4), .val (.int p5), .val (.int x6), .val (.int x7), .val (.int x8), .val (.int x9), .val (.int (1 : Int32)), .val (.int x11), .val (.int x12), .val (.ref b175), .unset]) rfl kt) ?_
      refine Rch.of (T' := T176) (g' := (mkF m 134 #[.val (.int p0), .val (.int p1), .val (.int p2), .val (.int p3), .val (.int p4), .val (.int p5), .val (.int x6), .val (.int x7), .val (.int x8), .val (.int x9), .val (.int (1 : Int32)), .val (.int x11), .val (.int x12), .val (.ref b175), .unset] [(.int (1 : Int32))])) (fun _ kt => XS.iload X176.here hx rfl (hb hby at_132) rfl  kt) ?_
      refine Rch.of (T' := T176) (g' := (mkF m 137 #[.val (.int p0), .val (.int p1), .val (.int p2), .val (.int p3), .val (.int p4), .val (.int p5), .val (.int x6), .val (.int x7), .val (.int x8), .val (.int x9), .val (.int (1 : Int32)), .val (.int x11), .val (.int x12), .val (.ref b175), .unset] [])) (fun _ kt => XS.ifNo X176.here hx rfl (hb hby at_134) rfl ((if0 _ _).trans (tlt ((by decide) : (0 : Int32) < (1 : Int32))).2.2.2) kt) ?_
      refine Rch.of (T' := T176) (g' := (mkF m 139 #[.val (.int p0), .val (.int p1), .val (.int p2), .val (.int p3), .val (.int p4), .val (.int p5), .val (.int x6), .val (.int x7), .val (.int x8), .val (.int x9), .val (.int (1 : Int32)), .val (.int x11), .val (.int x12), .val (.ref b175), .unset] [(.ref b175)])) (fun _ kt => XS.aload X176.here hx rfl (hb hby at_137) rfl rfl kt) ?_
      refine Rch.of (T' := T176) (g' := (mkF m 141 #[.val (.int p0), .val (.int p1), .val (.int p2), .val (.int p3), .val (.int p4), .val (.int p5), .val (.int x6), .val (.int x7), .val (.int x8), .val (.int x9), .val (.int (1 : Int32)), .val (.int x11), .val (.int x12), .val (.ref b175), .unset] [(.int x6), (.ref b175)])) (fun _ kt => XS.iload X176.here hx rfl (hb hby at_139) rfl  kt) ?_
      obtain ⟨cq177, kq177, q177a, q177b, q177c⟩ := isOf hZ rfl Ex176
      obtain ⟨_, _, ⟨T177, L177, k177, n177⟩, -, X177, ⟨Lc177, hQ177, l177, y177, z177⟩, st177⟩ := X176.virtualBack hx (y := (⟨"com/example/ampliar/ampliar/service/TermNumbering", "add", "(I)I"⟩ : MethodName)) (z := (⟨"com/example/ampliar/ampliar/service/TermNumbering", "add", "(I)I"⟩ : MethodName)) hown (mvT hZ (hw _ (List.mem_of_getElem? (i := 36) rfl))) (mvT hZ (hw _ (List.mem_of_getElem? (i := 37) rfl))) (notFace_of_selects (args := #[]) (mvT hZ (hw _ (List.mem_of_getElem? (i := 39) rfl)))) (mvT hZ (hw _ (List.mem_of_getElem? (i := 39) rfl))) (mvT hZ (hw _ (List.mem_of_getElem? (i := 38) rfl))) (by decide) (backOf (W := 0) (rm8 l Z a0 hw [] b175 x6 t176 nb176 ([] : List Int32).length (fun _ => (-1 : Int32)) (fun _ => (0 : Int32)) T176.heap n0 (Nat.le_trans (Nat.le_trans Z0 E175.1) K176.1) Ex176 Fa176 Fb176 Fc176 Va176 Vb176 ge_b175 ge_t176 ge_nb176 ne_b175_t176 ne_b175_nb176 ne176 (by omega) (own_inv_ok hI0 (by omega) _)) hZ (hw _ (List.mem_of_getElem? (i := 40) rfl)) (hw _ (List.mem_of_getElem? (i := 3) rfl)) (by decide) (by decide)) q177a q177c (g := (mkF m 141 #[.val (.int p0), .val (.int p1), .val (.int p2), .val (.int p3), .val (.int p4), .val (.int p5), .val (.int x6), .val (.int x7), .val (.int x8), .val (.int x9), .val (.int (1 : Int32)), .val (.int x11), .val (.int x12), .val (.ref b175), .unset] [(.int x6), (.ref b175)])) rfl (by rw [hml]; rfl) (Steps.refl _) (argsL := [(.int x6)]) (rest := []) (lenOf pd_4 rfl) rfl (by show 2 * 0 + _ ≤ _; exact Nat.le_of_eq rfl) (hb hby at_141) (fun _ _ => ⟨rfl, rfl, (by decide : 3 + 0 ≤ _), (by decide : 163 + 0 ≤ _)⟩)
      dsimp only [Pt.U, Pt.locs, Pt.cells, Pt.slots] at X177 l177 y177 z177 st177 hQ177
      subst l177 y177 z177
      obtain ⟨rfl, N177q, hQ177⟩ := hQ177
      have N177 := Fr.app N176 N177q
      obtain ⟨zz177, K177, Fa177, Fb177, Fc177, Va177, Vb177⟩ := hQ177
      have Fb178 := ((((Keep.refl h0 []).ext E175).trans K176 (allS (Or.inr sz_b175) all0)).trans K177 (allS (Or.inr sz_b175) (allS (Or.inr sz_t176) (allS (Or.inr sz_nb176) all0))))
      have hI177 := own_inv_add hI0 (p := x6) (own_nn h6) (by omega) rfl
      obtain ⟨y177, hy177⟩ : ∃ z, z = own_addY (fun _ => (-1 : Int32)) ([] : List Int32).length x6 := ⟨_, rfl⟩
      obtain ⟨ks177, hks177⟩ : ∃ z, z = own_addL ([] : List Int32) x6 := ⟨_, rfl⟩
      rw [own_len_eq hI0 (own_nn h6) (by omega), ← hks177] at Fc177
      rw [← hy177] at hI177 Va177
      rw [← hks177] at hI177
      have hl177 : ks177.length ≤ 1 := by rw [hks177]; exact Nat.le_trans (own_addL_len _ _) (by omega)
      refine Rch.via (T' := T177) (g' := (mkF m 144 #[.val (.int p0), .val (.int p1), .val (.int p2), .val (.int p3), .val (.int p4), .val (.int p5), .val (.int x6), .val (.int x7), .val (.int x8), .val (.int x9), .val (.int (1 : Int32)), .val (.int x11), .val (.int x12), .val (.ref b175), .unset] [(.int (own_addV (fun _ => (-1 : Int32)) ([] : List Int32).length x6))])) st177 ?_
      refine Rch.of (T' := T177) (g' := (mkF m 145 #[.val (.int p0), .val (.int p1), .val (.int p2), .val (.int p3), .val (.int p4), .val (.int p5), .val (.int x6), .val (.int x7), .val (.int x8), .val (.int x9), .val (.int (1 : Int32)), .val (.int x11), .val (.int x12), .val (.ref b175), .unset] [])) (fun _ kt => XS.pop X177.here hx rfl (hb hby at_144) rfl rfl kt) ?_
      refine Rch.of (T' := T177) (g' := (mkF m 147 #[.val (.int p0), .val (.int p1), .val (.int p2), .val (.int p3), .val (.int p4), .val (.int p5), .val (.int x6), .val (.int x7), .val (.int x8), .val (.int x9), .val (.int (1 : Int32)), .val (.int x11), .val (.int x12), .val (.ref b175), .unset] [(.int (1 : Int32))])) (fun _ kt => XS.iload X177.here hx rfl (hb hby at_145) rfl  kt) ?_
      refine Rch.of (T' := T177) (g' := (mkF m 148 #[.val (.int p0), .val (.int p1), .val (.int p2), .val (.int p3), .val (.int p4), .val (.int p5), .val (.int x6), .val (.int x7), .val (.int x8), .val (.int x9), .val (.int (1 : Int32)), .val (.int x11), .val (.int x12), .val (.ref b175), .unset] [(.int (1 : Int32)), (.int (1 : Int32))])) (fun _ kt => XS.iconst X177.here hx rfl (hb hby at_147) kt) ?_
      refine Rch.of (T' := T177) (g' := (mkF m 159 #[.val (.int p0), .val (.int p1), .val (.int p2), .val (.int p3), .val (.int p4), .val (.int p5), .val (.int x6), .val (.int x7), .val (.int x8), .val (.int x9), .val (.int (1 : Int32)), .val (.int x11), .val (.int x12), .val (.ref b175), .unset] [])) (fun _ kt => XS.icmpYes X177.here hx rfl (pc0 := 148) (pc' := 159) rfl (hb hby at_148) rfl (flt ((by decide) : ¬ ((1 : Int32) < (1 : Int32)))).2.2.2 (by decide) (by decide) kt) ?_
      refine Rch.of (T' := T177) (g' := (mkF m 161 #[.val (.int p0), .val (.int p1), .val (.int p2), .val (.int p3), .val (.int p4), .val (.int p5), .val (.int x6), .val (.int x7), .val (.int x8), .val (.int x9), .val (.int (1 : Int32)), .val (.int x11), .val (.int x12), .val (.ref b175), .unset] [(.int (1 : Int32))])) (fun _ kt => XS.iload X177.here hx rfl (hb hby at_159) rfl  kt) ?_
      refine Rch.of (T' := T177) (g' := (mkF m 162 #[.val (.int p0), .val (.int p1), .val (.int p2), .val (.int p3), .val (.int p4), .val (.int p5), .val (.int x6), .val (.int x7), .val (.int x8), .val (.int x9), .val (.int (1 : Int32)), .val (.int x11), .val (.int x12), .val (.ref b175), .unset] [(.int (2 : Int32)), (.int (1 : Int32))])) (fun _ kt => XS.iconst X177.here hx rfl (hb hby at_161) kt) ?_
      refine Rch.of (T' := T177) (g' := (mkF m 173 #[.val (.int p0), .val (.int p1), .val (.int p2), .val (.int p3), .val (.int p4), .val (.int p5), .val (.int x6), .val (.int x7), .val (.int x8), .val (.int x9), .val (.int (1 : Int32)), .val (.int x11), .val (.int x12), .val (.ref b175), .unset] [])) (fun _ kt => XS.icmpYes X177.here hx rfl (pc0 := 162) (pc' := 173) rfl (hb hby at_162) rfl (flt ((by decide) : ¬ ((2 : Int32) < (1 : Int32)))).2.2.2 (by decide) (by decide) kt) ?_
      refine Rch.of (T' := T177) (g' := (mkF m 175 #[.val (.int p0), .val (.int p1), .val (.int p2), .val (.int p3), .val (.int p4), .val (.int p5), .val (.int x6), .val (.int x7), .val (.int x8), .val (.int x9), .val (.int (1 : Int32)), .val (.int x11), .val (.int x12), .val (.ref b175), .unset] [(.int (1 : Int32))])) (fun _ kt => XS.iload X177.here hx rfl (hb hby at_173) rfl  kt) ?_
      refine Rch.of (T' := T177) (g' := (mkF m 176 #[.val (.int p0), .val (.int p1), .val (.int p2), .val (.int p3), .val (.int p4), .val (.int p5), .val (.int x6), .val (.int x7), .val (.int x8), .val (.int x9), .val (.int (1 : Int32)), .val (.int x11), .val (.int x12), .val (.ref b175), .unset] [(.int (3 : Int32)), (.int (1 : Int32))])) (fun _ kt => XS.iconst X177.here hx rfl (hb hby at_175) kt) ?_
      refine Rch.of (T' := T177) (g' := (mkF m 187 #[.val (.int p0), .val (.int p1), .val (.int p2), .val (.int p3), .val (.int p4), .val (.int p5), .val (.int x6), .val (.int x7), .val (.int x8), .val (.int x9), .val (.int (1 : Int32)), .val (.int x11), .val (.int x12), .val (.ref b175), .unset] [])) (fun _ kt => XS.icmpYes X177.here hx rfl (pc0 := 176) (pc' := 187) rfl (hb hby at_176) rfl (flt ((by decide) : ¬ ((3 : Int32) < (1 : Int32)))).2.2.2 (by decide) (by decide) kt) ?_
      refine Rch.of (T' := T177) (g' := (mkF m 189 #[.val (.int p0), .val (.int p1), .val (.int p2), .val (.int p3), .val (.int p4), .val (.int p5), .val (.int x6), .val (.int x7), .val (.int x8), .val (.int x9), .val (.int (1 : Int32)), .val (.int x11), .val (.int x12), .val (.ref b175), .unset] [(.int (1 : Int32))])) (fun _ kt => XS.iload X177.here hx rfl (hb hby at_187) rfl  kt) ?_
      refine Rch.of (T' := T177) (g' := (mkF m 191 #[.val (.int p0), .val (.int p1), .val (.int p2), .val (.int p3), .val (.int p4), .val (.int p5), .val (.int x6), .val (.int x7), .val (.int x8), .val (.int x9), .val (.int (1 : Int32)), .val (.int x11), .val (.int x12), .val (.ref b175), .unset] [(.int x6), (.int (1 : Int32))])) (fun _ kt => XS.iload X177.here hx rfl (hb hby at_189) rfl  kt) ?_
      refine Rch.of (T' := T177) (g' := (mkF m 193 #[.val (.int p0), .val (.int p1), .val (.int p2), .val (.int p3), .val (.int p4), .val (.int p5), .val (.int x6), .val (.int x7), .val (.int x8), .val (.int x9), .val (.int (1 : Int32)), .val (.int x11), .val (.int x12), .val (.ref b175), .unset] [(.int x7), (.int x6), (.int (1 : Int32))])) (fun _ kt => XS.iload X177.here hx rfl (hb hby at_191) rfl  kt) ?_
      refine Rch.of (T' := T177) (g' := (mkF m 195 #[.val (.int p0), .val (.int p1), .val (.int p2), .val (.int p3), .val (.int p4), .val (.int p5), .val (.int x6), .val (.int x7), .val (.int x8), .val (.int x9), .val (.int (1 : Int32)), .val (.int x11), .val (.int x12), .val (.ref b175), .unset] [(.int x8), (.int x7), (.int x6), (.int (1 : Int32))])) (fun _ kt => XS.iload X177.here hx rfl (hb hby at_193) rfl  kt) ?_
      refine Rch.of (T' := T177) (g' := (mkF m 197 #[.val (.int p0), .val (.int p1), .val (.int p2), .val (.int p3), .val (.int p4), .val (.int p5), .val (.int x6), .val (.int x7), .val (.int x8), .val (.int x9), .val (.int (1 : Int32)), .val (.int x11), .val (.int x12), .val (.ref b175), .unset] [(.int x9), (.int x8), (.int x7), (.int x6), (.int (1 : Int32))])) (fun _ kt => XS.iload X177.here hx rfl (hb hby at_195) rfl  kt) ?_
      refine Rch.of (T' := T177) (g' := (mkF m 199 #[.val (.int p0), .val (.int p1), .val (.int p2), .val (.int p3), .val (.int p4), .val (.int p5), .val (.int x6), .val (.int x7), .val (.int x8), .val (.int x9), .val (.int (1 : Int32)), .val (.int x11), .val (.int x12), .val (.ref b175), .unset] [(.int x12), (.int x9), (.int x8), (.int x7), (.int x6), (.int (1 : Int32))])) (fun _ kt => XS.iload X177.here hx rfl (hb hby at_197) rfl  kt) ?_
      obtain ⟨_, _, ⟨T179, L179, k179, n179⟩, -, X179, ⟨Lc179, hQ179, l179, y179, z179⟩, st179⟩ := Jvm.LawKit.callS X177 hx (y := (⟨"com/example/ampliar/ampliar/service/TermNumberingFindPinLaw", "expected", "(IIIIII)I"⟩ : MethodName)) hown (mvT hZ (hw _ (List.mem_of_getElem? (i := 22) rfl))) (mvT hZ (hw _ (List.mem_of_getElem? (i := 23) rfl))) (mvT hZ (hw _ (List.mem_of_getElem? (i := 24) rfl))) (mvT hZ (hw _ (List.mem_of_getElem? (i := 25) rfl))) (by decide) (backOf (W := 0) (rm5 l Z a0 hw [] (1 : Int32) x6 x7 x8 x9 x12 T177.heap n0 (Nat.le_trans (Nat.le_trans (Nat.le_trans Z0 E175.1) K176.1) K177.1) ) hZ (hw _ (List.mem_of_getElem? (i := 25) rfl)) (hw _ (List.mem_of_getElem? (i := 24) rfl)) (by decide) (by decide)) (g := (mkF m 199 #[.val (.int p0), .val (.int p1), .val (.int p2), .val (.int p3), .val (.int p4), .val (.int p5), .val (.int x6), .val (.int x7), .val (.int x8), .val (.int x9), .val (.int (1 : Int32)), .val (.int x11), .val (.int x12), .val (.ref b175), .unset] [(.int x12), (.int x9), (.int x8), (.int x7), (.int x6), (.int (1 : Int32))])) rfl (by rw [hml]; rfl) (argsL := [(.int (1 : Int32)), (.int x6), (.int x7), (.int x8), (.int x9), (.int x12)]) (rest := []) (lenOf pd_3 rfl) rfl (by show 2 * 0 + _ ≤ _; exact Nat.le_of_eq rfl) (hb hby at_199) (fun _ _ => ⟨rfl, rfl, (by decide : 3 + 0 ≤ _), (by decide : 163 + 0 ≤ _)⟩)
      dsimp only [Pt.U, Pt.locs, Pt.cells, Pt.slots] at X179 l179 y179 z179 st179 hQ179
      subst l179 y179 z179
      obtain ⟨rfl, N179q, hQ179⟩ := hQ179
      have N179 := Fr.app N177 N179q
      refine Rch.of (T' := T179) (g' := (mkF m 202 #[.val (.int p0), .val (.int p1), .val (.int p2), .val (.int p3), .val (.int p4), .val (.int p5), .val (.int x6), .val (.int x7), .val (.int x8), .val (.int x9), .val (.int (1 : Int32)), .val (.int x11), .val (.int x12), .val (.ref b175), .unset] [(.int (own_exp (1 : Int32) x6 x7 x8 x9 x12))])) st179 ?_
      refine Rch.of (T' := T179) (g' := (mkF m 204 #[.val (.int p0), .val (.int p1), .val (.int p2), .val (.int p3), .val (.int p4), .val (.int p5), .val (.int x6), .val (.int x7), .val (.int x8), .val (.int x9), .val (.int (1 : Int32)), .val (.int x11), .val (.int x12), .val (.ref b175), .val (.int (own_exp (1 : Int32) x6 x7 x8 x9 x12))] [])) (fun _ kt => XS.istore X179.here hx rfl (hb hby at_202) rfl (l' := #[.val (.int p0), .val (.int p1), .val (.int p2), .val (.int p3), .val (.int p4), .val (.int p5), .val (.int x6), .val (.int x7), .val (.int x8), .val (.int x9), .val (.int (1 : Int32)), .val (.int x11), .val (.int x12), .val (.ref b175), .val (.int (own_exp (1 : Int32) x6 x7 x8 x9 x12))]) rfl kt) ?_
      refine Rch.of (T' := T179) (g' := (mkF m 206 #[.val (.int p0), .val (.int p1), .val (.int p2), .val (.int p3), .val (.int p4), .val (.int p5), .val (.int x6), .val (.int x7), .val (.int x8), .val (.int x9), .val (.int (1 : Int32)), .val (.int x11), .val (.int x12), .val (.ref b175), .val (.int (own_exp (1 : Int32) x6 x7 x8 x9 x12))] [(.ref b175)])) (fun _ kt => XS.aload X179.here hx rfl (hb hby at_204) rfl rfl kt) ?_
      refine Rch.of (T' := T179) (g' := (mkF m 208 #[.val (.int p0), .val (.int p1), .val (.int p2), .val (.int p3), .val (.int p4), .val (.int p5), .val (.int x6), .val (.int x7), .val (.int x8), .val (.int x9), .val (.int (1 : Int32)), .val (.int x11), .val (.int x12), .val (.ref b175), .val (.int (own_exp (1 : Int32) x6 x7 x8 x9 x12))] [(.int x12), (.ref b175)])) (fun _ kt => XS.iload X179.here hx rfl (hb hby at_206) rfl  kt) ?_
      obtain ⟨cq180, kq180, q180a, q180b, q180c⟩ := isOf hZ hQ179 (Ex176.keep K177)
      obtain ⟨_, _, ⟨T180, L180, k180, n180⟩, -, X180, ⟨Lc180, hQ180, l180, y180, z180⟩, st180⟩ := X179.virtualBack hx (y := (⟨"com/example/ampliar/ampliar/service/TermNumbering", "find", "(I)I"⟩ : MethodName)) (z := (⟨"com/example/ampliar/ampliar/service/TermNumbering", "find", "(I)I"⟩ : MethodName)) hown (mvT hZ (hw _ (List.mem_of_getElem? (i := 26) rfl))) (mvT hZ (hw _ (List.mem_of_getElem? (i := 27) rfl))) (notFace_of_selects (args := #[]) (mvT hZ (hw _ (List.mem_of_getElem? (i := 29) rfl)))) (mvT hZ (hw _ (List.mem_of_getElem? (i := 29) rfl))) (mvT hZ (hw _ (List.mem_of_getElem? (i := 28) rfl))) (by decide) (backOf (W := 0) (rm6 l Z a0 hw [] b175 x12 t176 y177 T177.heap n0 (Nat.le_trans (Nat.le_trans (Nat.le_trans Z0 E175.1) K176.1) K177.1) (Ex176.keep K177) Fa177 Va177 (own_inv_ok hI177 (by omega) _)) hZ (hw _ (List.mem_of_getElem? (i := 30) rfl)) (hw _ (List.mem_of_getElem? (i := 3) rfl)) (by decide) (by decide)) q180a q180c (g := (mkF m 208 #[.val (.int p0), .val (.int p1), .val (.int p2), .val (.int p3), .val (.int p4), .val (.int p5), .val (.int x6), .val (.int x7), .val (.int x8), .val (.int x9), .val (.int (1 : Int32)), .val (.int x11), .val (.int x12), .val (.ref b175), .val (.int (own_exp (1 : Int32) x6 x7 x8 x9 x12))] [(.int x12), (.ref b175)])) rfl (by rw [hml]; rfl) (Steps.refl _) (argsL := [(.int x12)]) (rest := []) (lenOf pd_4 rfl) rfl (by show 2 * 0 + _ ≤ _; exact Nat.le_of_eq rfl) (hb hby at_208) (fun _ _ => ⟨rfl, hQ179, (by decide : 3 + 0 ≤ _), (by decide : 163 + 0 ≤ _)⟩)
      dsimp only [Pt.U, Pt.locs, Pt.cells, Pt.slots] at X180 l180 y180 z180 st180 hQ180
      subst l180 y180 z180
      obtain ⟨rfl, N180q, hQ180⟩ := hQ180
      have N180 := Fr.app N179 N180q
      refine Rch.via (T' := T180) (g' := (mkF m 211 #[.val (.int p0), .val (.int p1), .val (.int p2), .val (.int p3), .val (.int p4), .val (.int p5), .val (.int x6), .val (.int x7), .val (.int x8), .val (.int x9), .val (.int (1 : Int32)), .val (.int x11), .val (.int x12), .val (.ref b175), .val (.int (own_exp (1 : Int32) x6 x7 x8 x9 x12))] [(.int (own_find y177 x12))])) st180 ?_
      refine Rch.of (T' := T180) (g' := (mkF m 213 #[.val (.int p0), .val (.int p1), .val (.int p2), .val (.int p3), .val (.int p4), .val (.int p5), .val (.int x6), .val (.int x7), .val (.int x8), .val (.int x9), .val (.int (1 : Int32)), .val (.int x11), .val (.int x12), .val (.ref b175), .val (.int (own_exp (1 : Int32) x6 x7 x8 x9 x12))] [(.int (own_exp (1 : Int32) x6 x7 x8 x9 x12)), (.int (own_find y177 x12))])) (fun _ kt => XS.iload X180.here hx rfl (hb hby at_211) rfl  kt) ?_
      have hfin : (own_find y177 x12) = (own_exp (1 : Int32) x6 x7 x8 x9 x12) := by
        rw [own_find_eq hI177 (by omega), hks177]
        exact own_join1 _ _ _ _ _
      refine Rch.of (T' := T180) (g' := (mkF m 216 #[.val (.int p0), .val (.int p1), .val (.int p2), .val (.int p3), .val (.int p4), .val (.int p5), .val (.int x6), .val (.int x7), .val (.int x8), .val (.int x9), .val (.int (1 : Int32)), .val (.int x11), .val (.int x12), .val (.ref b175), .val (.int (own_exp (1 : Int32) x6 x7 x8 x9 x12))] [])) (fun _ kt => XS.icmpNo X180.here hx rfl (hb hby at_213) rfl (teq hfin).2 kt) ?_
      refine Rch.of (T' := T180) (g' := (mkF m 217 #[.val (.int p0), .val (.int p1), .val (.int p2), .val (.int p3), .val (.int p4), .val (.int p5), .val (.int x6), .val (.int x7), .val (.int x8), .val (.int x9), .val (.int (1 : Int32)), .val (.int x11), .val (.int x12), .val (.ref b175), .val (.int (own_exp (1 : Int32) x6 x7 x8 x9 x12))] [(.int (1 : Int32))])) (fun _ kt => XS.iconst X180.here hx rfl (hb hby at_216) kt) ?_
      refine Rch.of (T' := T180) (g' := (mkF m 221 #[.val (.int p0), .val (.int p1), .val (.int p2), .val (.int p3), .val (.int p4), .val (.int p5), .val (.int x6), .val (.int x7), .val (.int x8), .val (.int x9), .val (.int (1 : Int32)), .val (.int x11), .val (.int x12), .val (.ref b175), .val (.int (own_exp (1 : Int32) x6 x7 x8 x9 x12))] [(.int (1 : Int32))])) (fun _ kt => XS.goto X180.here hx rfl (pc0 := 217) (pc' := 221) rfl (hb hby at_217) (by decide) (by decide) kt) ?_
      exact Rch.retN X180 hx (t := .boolean) hret (by simp) hlk (hb hby at_221) (fun U hU hF => hK _ U _ _ _ (by show Q_rm0 Z p0 p1 p2 p3 p4 p5 h0 n0 _ U.heap _; rw [hU, hQ180]; exact ⟨rfl, N180, trivial⟩) hF (by decide) (by decide))
    · skip
      obtain ⟨T181, h181, X181, e181, E181, A181, D181, -, st181⟩ := newO X0 hx hZ hown (hw _ (List.mem_of_getElem? (i := 1) rfl)) (hw _ (List.mem_of_getElem? (i := 2) rfl)) (hw _ (List.mem_of_getElem? (i := 3) rfl)) e0 (g := (mkF m 123 #[.val (.int p0), .val (.int p1), .val (.int p2), .val (.int p3), .val (.int p4), .val (.int p5), .val (.int x6), .val (.int x7), .val (.int x8), .val (.int x9), .val (.int (2 : Int32)), .val (.int x11), .val (.int x12), .unset, .unset] [])) rfl (hb hby at_123) (by decide) (by decide)
      obtain ⟨b181, g181⟩ : ∃ zz_, zz_ = h0.size := ⟨_, rfl⟩
      have ge_b181 : n0 ≤ b181 := Nat.le_trans Z0 (Nat.le_of_eq g181.symm)
      have sz_b181 : h0.size ≤ b181 := Nat.le_trans (Keep.refl h0 []).1 (Nat.le_of_eq g181.symm)
      rw [← g181] at A181 D181 st181
      have F181_table : Fld Z h181 b181 "com/example/ampliar/ampliar/service/TermNumbering" "table" "[I" .null := D181 (Or.inl (hw _ (List.mem_of_getElem? (i := 19) rfl))) (ty := (.array .int)) (by decide)
      have F181_numbered : Fld Z h181 b181 "com/example/ampliar/ampliar/service/TermNumbering" "numbered" "[I" .null := D181 (Or.inl (hw _ (List.mem_of_getElem? (i := 21) rfl))) (ty := (.array .int)) (by decide)
      have F181_size : Fld Z h181 b181 "com/example/ampliar/ampliar/service/TermNumbering" "size" "I" (.int (0 : Int32)) := D181 (Or.inl (hw _ (List.mem_of_getElem? (i := 42) rfl))) (ty := .int) (by decide)
      refine Rch.of (T' := T181) (g' := (mkF m 126 #[.val (.int p0), .val (.int p1), .val (.int p2), .val (.int p3), .val (.int p4), .val (.int p5), .val (.int x6), .val (.int x7), .val (.int x8), .val (.int x9), .val (.int (2 : Int32)), .val (.int x11), .val (.int x12), .unset, .unset] [(.ref b181)])) st181 ?_
      refine Rch.of (T' := T181) (g' := (mkF m 127 #[.val (.int p0), .val (.int p1), .val (.int p2), .val (.int p3), .val (.int p4), .val (.int p5), .val (.int x6), .val (.int x7), .val (.int x8), .val (.int x9), .val (.int (2 : Int32)), .val (.int x11), .val (.int x12), .unset, .unset] [(.ref b181), (.ref b181)])) (fun _ kt => XS.dup X181.here hx rfl (hb hby at_126) rfl rfl kt) ?_
      obtain ⟨_, _, ⟨T182, L182, k182, n182⟩, -, X182, ⟨Lc182, hQ182, l182, y182, z182⟩, st182⟩ := X181.specialBack hx (y := (⟨"com/example/ampliar/ampliar/service/TermNumbering", "<init>", "()V"⟩ : MethodName)) rfl hown (mvT hZ (hw _ (List.mem_of_getElem? (i := 4) rfl))) (mvT hZ (hw _ (List.mem_of_getElem? (i := 5) rfl))) (mvT hZ (hw _ (List.mem_of_getElem? (i := 6) rfl))) (by decide) (backOf (W := 1) (rm1 l Z a0 hw [] b181 .null .null h181 n0 (Nat.le_trans Z0 E181.1) A181 F181_table F181_numbered F181_size ge_b181) hZ (hw _ (List.mem_of_getElem? (i := 6) rfl)) (hw _ (List.mem_of_getElem? (i := 3) rfl)) (by decide) (by decide)) (g := (mkF m 127 #[.val (.int p0), .val (.int p1), .val (.int p2), .val (.int p3), .val (.int p4), .val (.int p5), .val (.int x6), .val (.int x7), .val (.int x8), .val (.int x9), .val (.int (2 : Int32)), .val (.int x11), .val (.int x12), .unset, .unset] [(.ref b181), (.ref b181)])) rfl (by rw [hml]; rfl) (Steps.refl _) (a := b181) (argsL := []) (rest := [(.ref b181)]) (lenOf pd_0 rfl) rfl (by show 2 * 0 + _ ≤ _; exact Nat.le_of_eq rfl) (hb hby at_127) (fun _ _ => ⟨rfl, e181, (by decide : 1 + 2 ≤ _), (by decide : 3 + 160 ≤ _)⟩)
      dsimp only [Pt.U, Pt.locs, Pt.cells, Pt.slots] at X182 l182 y182 z182 st182 hQ182
      subst l182 y182 z182
      obtain ⟨rfl, N182q, hQ182⟩ := hQ182
      have N182 := Fr.app N0 N182q
      obtain ⟨t182, nb182, zt182, zb182, ne182, K182, Ex182, Fa182, Fb182, Fc182, Va182, Vb182⟩ := hQ182
      have ne_b181_t182 : b181 ≠ t182 := Nat.ne_of_lt (Nat.lt_of_lt_of_le A181.lt zt182)
      have ne_b181_nb182 : b181 ≠ nb182 := Nat.ne_of_lt (Nat.lt_of_lt_of_le A181.lt zb182)
      have ge_t182 : n0 ≤ t182 := Nat.le_trans (Nat.le_trans Z0 E181.1) zt182
      have sz_t182 : h0.size ≤ t182 := Nat.le_trans ((Keep.refl h0 []).ext E181).1 zt182
      have ge_nb182 : n0 ≤ nb182 := Nat.le_trans (Nat.le_trans Z0 E181.1) zb182
      have sz_nb182 : h0.size ≤ nb182 := Nat.le_trans ((Keep.refl h0 []).ext E181).1 zb182
      refine Rch.via (T' := T182) (g' := (mkF m 130 #[.val (.int p0), .val (.int p1), .val (.int p2), .val (.int p3), .val (.int p4), .val (.int p5), .val (.int x6), .val (.int x7), .val (.int x8), .val (.int x9), .val (.int (2 : Int32)), .val (.int x11), .val (.int x12), .unset, .unset] [(.ref b181)])) st182 ?_
      have hI0 : own_Inv (fun _ => (-1 : Int32)) [] := own_inv0
      have hl0 : ([] : List Int32).length ≤ 0 := Nat.le_refl 0
      refine Rch.of (T' := T182) (g' := (mkF m 132 #[.val (.int p0), .val (.int p1), .val (.int p2), .val (.int p3), .val (.int p4), .val (.int p5), .val (.int x6), .val (.int x7), .val (.int x8), .val (.int x9), .val (.int (2 : Int32)), .val (.int x11), .val (.int x12), .val (.ref b181), .unset] [])) (fun _ kt => XS.astore X182.here hx rfl (hb hby at_130) rfl rfl (l' := #[.val (.int p0), .val (.int p1), .val (.int p2), .val (.int p3), .val (.int p4), .val (.int p5), .val (.int x6), .val (.int x7), .val (.int x8), .val (.int x9), .val (.int (2 : Int32)), .val (.int x11), .val (.int x12), .val (.ref b181), .unset]) rfl kt) ?_
      refine Rch.of (T' := T182) (g' := (mkF m 134 #[.val (.int p0), .val (.int p1), .val (.int p2), .val (.int p3), .val (.int p4), .val (.int p5), .val (.int x6), .val (.int x7), .val (.int x8), .val (.int x9), .val (.int (2 : Int32)), .val (.int x11), .val (.int x12), .val (.ref b181), .unset] [(.int (2 : Int32))])) (fun _ kt => XS.iload X182.here hx rfl (hb hby at_132) rfl  kt) ?_
      refine Rch.of (T' := T182) (g' := (mkF m 137 #[.val (.int p0), .val (.int p1), .val (.int p2), .val (.int p3), .val (.int p4), .val (.int p5), .val (.int x6), .val (.int x7), .val (.int x8), .val (.int x9), .val (.int (2 : Int32)), .val (.int x11), .val (.int x12), .val (.ref b181), .unset] [])) (fun _ kt => XS.ifNo X182.here hx rfl (hb hby at_134) rfl ((if0 _ _).trans (tlt ((by decide) : (0 : Int32) < (2 : Int32))).2.2.2) kt) ?_
      refine Rch.of (T' := T182) (g' := (mkF m 139 #[.val (.int p0), .val (.int p1), .val (.int p2), .val (.int p3), .val (.int p4), .val (.int p5), .val (.int x6), .val (.int x7), .val (.int x8), .val (.int x9), .val (.int (2 : Int32)), .val (.int x11), .val (.int x12), .val (.ref b181), .unset] [(.ref b181)])) (fun _ kt => XS.aload X182.here hx rfl (hb hby at_137) rfl rfl kt) ?_
      refine Rch.of (T' := T182) (g' := (mkF m 141 #[.val (.int p0), .val (.int p1), .val (.int p2), .val (.int p3), .val (.int p4), .val (.int p5), .val (.int x6), .val (.int x7), .val (.int x8), .val (.int x9), .val (.int (2 : Int32)), .val (.int x11), .val (.int x12), .val (.ref b181), .unset] [(.int x6), (.ref b181)])) (fun _ kt => XS.iload X182.here hx rfl (hb hby at_139) rfl  kt) ?_
      obtain ⟨cq183, kq183, q183a, q183b, q183c⟩ := isOf hZ rfl Ex182
      obtain ⟨_, _, ⟨T183, L183, k183, n183⟩, -, X183, ⟨Lc183, hQ183, l183, y183, z183⟩, st183⟩ := X182.virtualBack hx (y := (⟨"com/example/ampliar/ampliar/service/TermNumbering", "add", "(I)I"⟩ : MethodName)) (z := (⟨"com/example/ampliar/ampliar/service/TermNumbering", "add", "(I)I"⟩ : MethodName)) hown (mvT hZ (hw _ (List.mem_of_getElem? (i := 36) rfl))) (mvT hZ (hw _ (List.mem_of_getElem? (i := 37) rfl))) (notFace_of_selects (args := #[]) (mvT hZ (hw _ (List.mem_of_getElem? (i := 39) rfl)))) (mvT hZ (hw _ (List.mem_of_getElem? (i := 39) rfl))) (mvT hZ (hw _ (List.mem_of_getElem? (i := 38) rfl))) (by decide) (backOf (W := 0) (rm8 l Z a0 hw [] b181 x6 t182 nb182 ([] : List Int32).length (fun _ => (-1 : Int32)) (fun _ => (0 : Int32)) T182.heap n0 (Nat.le_trans (Nat.le_trans Z0 E181.1) K182.1) Ex182 Fa182 Fb182 Fc182 Va182 Vb182 ge_b181 ge_t182 ge_nb182 ne_b181_t182 ne_b181_nb182 ne182 (by omega) (own_inv_ok hI0 (by omega) _)) hZ (hw _ (List.mem_of_getElem? (i := 40) rfl)) (hw _ (List.mem_of_getElem? (i := 3) rfl)) (by decide) (by decide)) q183a q183c (g := (mkF m 141 #[.val (.int p0), .val (.int p1), .val (.int p2), .val (.int p3), .val (.int p4), .val (.int p5), .val (.int x6), .val (.int x7), .val (.int x8), .val (.int x9), .val (.int (2 : Int32)), .val (.int x11), .val (.int x12), .val (.ref b181), .unset] [(.int x6), (.ref b181)])) rfl (by rw [hml]; rfl) (Steps.refl _) (argsL := [(.int x6)]) (rest := []) (lenOf pd_4 rfl) rfl (by show 2 * 0 + _ ≤ _; exact Nat.le_of_eq rfl) (hb hby at_141) (fun _ _ => ⟨rfl, rfl, (by decide : 3 + 0 ≤ _), (by decide : 163 + 0 ≤ _)⟩)
      dsimp only [Pt.U, Pt.locs, Pt.cells, Pt.slots] at X183 l183 y183 z183 st183 hQ183
      subst l183 y183 z183
      obtain ⟨rfl, N183q, hQ183⟩ := hQ183
      have N183 := Fr.app N182 N183q
      obtain ⟨zz183, K183, Fa183, Fb183, Fc183, Va183, Vb183⟩ := hQ183
      have Fb184 := ((((Keep.refl h0 []).ext E181).trans K182 (allS (Or.inr sz_b181) all0)).trans K183 (allS (Or.inr sz_b181) (allS (Or.inr sz_t182) (allS (Or.inr sz_nb182) all0))))
      have hI183 := own_inv_add hI0 (p := x6) (own_nn h6) (by omega) rfl
      obtain ⟨y183, hy183⟩ : ∃ z, z = own_addY (fun _ => (-1 : Int32)) ([] : List Int32).length x6 := ⟨_, rfl⟩
      obtain ⟨ks183, hks183⟩ : ∃ z, z = own_addL ([] : List Int32) x6 := ⟨_, rfl⟩
      rw [own_len_eq hI0 (own_nn h6) (by omega), ← hks183] at Fc183
      rw [← hy183] at hI183 Va183
      rw [← hks183] at hI183
      have hl183 : ks183.length ≤ 1 := by rw [hks183]; exact Nat.le_trans (own_addL_len _ _) (by omega)
      refine Rch.via (T' := T183) (g' := (mkF m 144 #[.val (.int p0), .val (.int p1), .val (.int p2), .val (.int p3), .val (.int p4), .val (.int p5), .val (.int x6), .val (.int x7), .val (.int x8), .val (.int x9), .val (.int (2 : Int32)), .val (.int x11), .val (.int x12), .val (.ref b181), .unset] [(.int (own_addV (fun _ => (-1 : Int32)) ([] : List Int32).length x6))])) st183 ?_
      refine Rch.of (T' := T183) (g' := (mkF m 145 #[.val (.int p0), .val (.int p1), .val (.int p2), .val (.int p3), .val (.int p4), .val (.int p5), .val (.int x6), .val (.int x7), .val (.int x8), .val (.int x9), .val (.int (2 : Int32)), .val (.int x11), .val (.int x12), .val (.ref b181), .unset] [])) (fun _ kt => XS.pop X183.here hx rfl (hb hby at_144) rfl rfl kt) ?_
      refine Rch.of (T' := T183) (g' := (mkF m 147 #[.val (.int p0), .val (.int p1), .val (.int p2), .val (.int p3), .val (.int p4), .val (.int p5), .val (.int x6), .val (.int x7), .val (.int x8), .val (.int x9), .val (.int (2 : Int32)), .val (.int x11), .val (.int x12), .val (.ref b181), .unset] [(.int (2 : Int32))])) (fun _ kt => XS.iload X183.here hx rfl (hb hby at_145) rfl  kt) ?_
      refine Rch.of (T' := T183) (g' := (mkF m 148 #[.val (.int p0), .val (.int p1), .val (.int p2), .val (.int p3), .val (.int p4), .val (.int p5), .val (.int x6), .val (.int x7), .val (.int x8), .val (.int x9), .val (.int (2 : Int32)), .val (.int x11), .val (.int x12), .val (.ref b181), .unset] [(.int (1 : Int32)), (.int (2 : Int32))])) (fun _ kt => XS.iconst X183.here hx rfl (hb hby at_147) kt) ?_
      refine Rch.of (T' := T183) (g' := (mkF m 151 #[.val (.int p0), .val (.int p1), .val (.int p2), .val (.int p3), .val (.int p4), .val (.int p5), .val (.int x6), .val (.int x7), .val (.int x8), .val (.int x9), .val (.int (2 : Int32)), .val (.int x11), .val (.int x12), .val (.ref b181), .unset] [])) (fun _ kt => XS.icmpNo X183.here hx rfl (hb hby at_148) rfl (tlt ((by decide) : (1 : Int32) < (2 : Int32))).2.2.2 kt) ?_
      refine Rch.of (T' := T183) (g' := (mkF m 153 #[.val (.int p0), .val (.int p1), .val (.int p2), .val (.int p3), .val (.int p4), .val (.int p5), .val (.int x6), .val (.int x7), .val (.int x8), .val (.int x9), .val (.int (2 : Int32)), .val (.int x11), .val (.int x12), .val (.ref b181), .unset] [(.ref b181)])) (fun _ kt => XS.aload X183.here hx rfl (hb hby at_151) rfl rfl kt) ?_
      refine Rch.of (T' := T183) (g' := (mkF m 155 #[.val (.int p0), .val (.int p1), .val (.int p2), .val (.int p3), .val (.int p4), .val (.int p5), .val (.int x6), .val (.int x7), .val (.int x8), .val (.int x9), .val (.int (2 : Int32)), .val (.int x11), .val (.int x12), .val (.ref b181), .unset] [(.int x7), (.ref b181)])) (fun _ kt => XS.iload X183.here hx rfl (hb hby at_153) rfl  kt) ?_
      obtain ⟨cq185, kq185, q185a, q185b, q185c⟩ := isOf hZ rfl (Ex182.keep K183)
      obtain ⟨_, _, ⟨T185, L185, k185, n185⟩, -, X185, ⟨Lc185, hQ185, l185, y185, z185⟩, st185⟩ := X183.virtualBack hx (y := (⟨"com/example/ampliar/ampliar/service/TermNumbering", "add", "(I)I"⟩ : MethodName)) (z := (⟨"com/example/ampliar/ampliar/service/TermNumbering", "add", "(I)I"⟩ : MethodName)) hown (mvT hZ (hw _ (List.mem_of_getElem? (i := 36) rfl))) (mvT hZ (hw _ (List.mem_of_getElem? (i := 37) rfl))) (notFace_of_selects (args := #[]) (mvT hZ (hw _ (List.mem_of_getElem? (i := 39) rfl)))) (mvT hZ (hw _ (List.mem_of_getElem? (i := 39) rfl))) (mvT hZ (hw _ (List.mem_of_getElem? (i := 38) rfl))) (by decide) (backOf (W := 0) (rm8 l Z a0 hw [] b181 x7 t182 nb182 ks183.length y183 zz183 T183.heap n0 (Nat.le_trans (Nat.le_trans (Nat.le_trans Z0 E181.1) K182.1) K183.1) (Ex182.keep K183) Fa183 Fb183 Fc183 Va183 Vb183 ge_b181 ge_t182 ge_nb182 ne_b181_t182 ne_b181_nb182 ne182 (by omega) (own_inv_ok hI183 (by omega) _)) hZ (hw _ (List.mem_of_getElem? (i := 40) rfl)) (hw _ (List.mem_of_getElem? (i := 3) rfl)) (by decide) (by decide)) q185a q185c (g := (mkF m 155 #[.val (.int p0), .val (.int p1), .val (.int p2), .val (.int p3), .val (.int p4), .val (.int p5), .val (.int x6), .val (.int x7), .val (.int x8), .val (.int x9), .val (.int (2 : Int32)), .val (.int x11), .val (.int x12), .val (.ref b181), .unset] [(.int x7), (.ref b181)])) rfl (by rw [hml]; rfl) (Steps.refl _) (argsL := [(.int x7)]) (rest := []) (lenOf pd_4 rfl) rfl (by show 2 * 0 + _ ≤ _; exact Nat.le_of_eq rfl) (hb hby at_155) (fun _ _ => ⟨rfl, rfl, (by decide : 3 + 0 ≤ _), (by decide : 163 + 0 ≤ _)⟩)
      dsimp only [Pt.U, Pt.locs, Pt.cells, Pt.slots] at X185 l185 y185 z185 st185 hQ185
      subst l185 y185 z185
      obtain ⟨rfl, N185q, hQ185⟩ := hQ185
      have N185 := Fr.app N183 N185q
      obtain ⟨zz185, K185, Fa185, Fb185, Fc185, Va185, Vb185⟩ := hQ185
      have hI185 := own_inv_add hI183 (p := x7) (own_nn h7) (by omega) rfl
      obtain ⟨y185, hy185⟩ : ∃ z, z = own_addY y183 ks183.length x7 := ⟨_, rfl⟩
      obtain ⟨ks185, hks185⟩ : ∃ z, z = own_addL ks183 x7 := ⟨_, rfl⟩
      rw [own_len_eq hI183 (own_nn h7) (by omega), ← hks185] at Fc185
      rw [← hy185] at hI185 Va185
      rw [← hks185] at hI185
      have hl185 : ks185.length ≤ 2 := by rw [hks185]; exact Nat.le_trans (own_addL_len _ _) (by omega)
      refine Rch.via (T' := T185) (g' := (mkF m 158 #[.val (.int p0), .val (.int p1), .val (.int p2), .val (.int p3), .val (.int p4), .val (.int p5), .val (.int x6), .val (.int x7), .val (.int x8), .val (.int x9), .val (.int (2 : Int32)), .val (.int x11), .val (.int x12), .val (.ref b181), .unset] [(.int (own_addV y183 ks183.length x7))])) st185 ?_
      refine Rch.of (T' := T185) (g' := (mkF m 159 #[.val (.int p0), .val (.int p1), .val (.int p2), .val (.int p3), .val (.int p4), .val (.int p5), .val (.int x6), .val (.int x7), .val (.int x8), .val (.int x9), .val (.int (2 : Int32)), .val (.int x11), .val (.int x12), .val (.ref b181), .unset] [])) (fun _ kt => XS.pop X185.here hx rfl (hb hby at_158) rfl rfl kt) ?_
      refine Rch.of (T' := T185) (g' := (mkF m 161 #[.val (.int p0), .val (.int p1), .val (.int p2), .val (.int p3), .val (.int p4), .val (.int p5), .val (.int x6), .val (.int x7), .val (.int x8), .val (.int x9), .val (.int (2 : Int32)), .val (.int x11), .val (.int x12), .val (.ref b181), .unset] [(.int (2 : Int32))])) (fun _ kt => XS.iload X185.here hx rfl (hb hby at_159) rfl  kt) ?_
      refine Rch.of (T' := T185) (g' := (mkF m 162 #[.val (.int p0), .val (.int p1), .val (.int p2), .val (.int p3), .val (.int p4), .val (.int p5), .val (.int x6), .val (.int x7), .val (.int x8), .val (.int x9), .val (.int (2 : Int32)), .val (.int x11), .val (.int x12), .val (.ref b181), .unset] [(.int (2 : Int32)), (.int (2 : Int32))])) (fun _ kt => XS.iconst X185.here hx rfl (hb hby at_161) kt) ?_
      refine Rch.of (T' := T185) (g' := (mkF m 173 #[.val (.int p0), .val (.int p1), .val (.int p2), .val (.int p3), .val (.int p4), .val (.int p5), .val (.int x6), .val (.int x7), .val (.int x8), .val (.int x9), .val (.int (2 : Int32)), .val (.int x11), .val (.int x12), .val (.ref b181), .unset] [])) (fun _ kt => XS.icmpYes X185.here hx rfl (pc0 := 162) (pc' := 173) rfl (hb hby at_162) rfl (flt ((by decide) : ¬ ((2 : Int32) < (2 : Int32)))).2.2.2 (by decide) (by decide) kt) ?_
      refine Rch.of (T' := T185) (g' := (mkF m 175 #[.val (.int p0), .val (.int p1), .val (.int p2), .val (.int p3), .val (.int p4), .val (.int p5), .val (.int x6), .val (.int x7), .val (.int x8), .val (.int x9), .val (.int (2 : Int32)), .val (.int x11), .val (.int x12), .val (.ref b181), .unset] [(.int (2 : Int32))])) (fun _ kt => XS.iload X185.here hx rfl (hb hby at_173) rfl  kt) ?_
      refine Rch.of (T' := T185) (g' := (mkF m 176 #[.val (.int p0), .val (.int p1), .val (.int p2), .val (.int p3), .val (.int p4), .val (.int p5), .val (.int x6), .val (.int x7), .val (.int x8), .val (.int x9), .val (.int (2 : Int32)), .val (.int x11), .val (.int x12), .val (.ref b181), .unset] [(.int (3 : Int32)), (.int (2 : Int32))])) (fun _ kt => XS.iconst X185.here hx rfl (hb hby at_175) kt) ?_
      refine Rch.of (T' := T185) (g' := (mkF m 187 #[.val (.int p0), .val (.int p1), .val (.int p2), .val (.int p3), .val (.int p4), .val (.int p5), .val (.int x6), .val (.int x7), .val (.int x8), .val (.int x9), .val (.int (2 : Int32)), .val (.int x11), .val (.int x12), .val (.ref b181), .unset] [])) (fun _ kt => XS.icmpYes X185.here hx rfl (pc0 := 176) (pc' := 187) rfl (hb hby at_176) rfl (flt ((by decide) : ¬ ((3 : Int32) < (2 : Int32)))).2.2.2 (by decide) (by decide) kt) ?_
      refine Rch.of (T' := T185) (g' := (mkF m 189 #[.val (.int p0), .val (.int p1), .val (.int p2), .val (.int p3), .val (.int p4), .val (.int p5), .val (.int x6), .val (.int x7), .val (.int x8), .val (.int x9), .val (.int (2 : Int32)), .val (.int x11), .val (.int x12), .val (.ref b181), .unset] [(.int (2 : Int32))])) (fun _ kt => XS.iload X185.here hx rfl (hb hby at_187) rfl  kt) ?_
      refine Rch.of (T' := T185) (g' := (mkF m 191 #[.val (.int p0), .val (.int p1), .val (.int p2), .val (.int p3), .val (.int p4), .val (.int p5), .val (.int x6), .val (.int x7), .val (.int x8), .val (.int x9), .val (.int (2 : Int32)), .val (.int x11), .val (.int x12), .val (.ref b181), .unset] [(.int x6), (.int (2 : Int32))])) (fun _ kt => XS.iload X185.here hx rfl (hb hby at_189) rfl  kt) ?_
      refine Rch.of (T' := T185) (g' := (mkF m 193 #[.val (.int p0), .val (.int p1), .val (.int p2), .val (.int p3), .val (.int p4), .val (.int p5), .val (.int x6), .val (.int x7), .val (.int x8), .val (.int x9), .val (.int (2 : Int32)), .val (.int x11), .val (.int x12), .val (.ref b181), .unset] [(.int x7), (.int x6), (.int (2 : Int32))])) (fun _ kt => XS.iload X185.here hx rfl (hb hby at_191) rfl  kt) ?_
      refine Rch.of (T' := T185) (g' := (mkF m 195 #[.val (.int p0), .val (.int p1), .val (.int p2), .val (.int p3), .val (.int p4), .val (.int p5), .val (.int x6), .val (.int x7), .val (.int x8), .val (.int x9), .val (.int (2 : Int32)), .val (.int x11), .val (.int x12), .val (.ref b181), .unset] [(.int x8), (.int x7), (.int x6), (.int (2 : Int32))])) (fun _ kt => XS.iload X185.here hx rfl (hb hby at_193) rfl  kt) ?_
      refine Rch.of (T' := T185) (g' := (mkF m 197 #[.val (.int p0), .val (.int p1), .val (.int p2), .val (.int p3), .val (.int p4), .val (.int p5), .val (.int x6), .val (.int x7), .val (.int x8), .val (.int x9), .val (.int (2 : Int32)), .val (.int x11), .val (.int x12), .val (.ref b181), .unset] [(.int x9), (.int x8), (.int x7), (.int x6), (.int (2 : Int32))])) (fun _ kt => XS.iload X185.here hx rfl (hb hby at_195) rfl  kt) ?_
      refine Rch.of (T' := T185) (g' := (mkF m 199 #[.val (.int p0), .val (.int p1), .val (.int p2), .val (.int p3), .val (.int p4), .val (.int p5), .val (.int x6), .val (.int x7), .val (.int x8), .val (.int x9), .val (.int (2 : Int32)), .val (.int x11), .val (.int x12), .val (.ref b181), .unset] [(.int x12), (.int x9), (.int x8), (.int x7), (.int x6), (.int (2 : Int32))])) (fun _ kt => XS.iload X185.here hx rfl (hb hby at_197) rfl  kt) ?_
      obtain ⟨_, _, ⟨T186, L186, k186, n186⟩, -, X186, ⟨Lc186, hQ186, l186, y186, z186⟩, st186⟩ := Jvm.LawKit.callS X185 hx (y := (⟨"com/example/ampliar/ampliar/service/TermNumberingFindPinLaw", "expected", "(IIIIII)I"⟩ : MethodName)) hown (mvT hZ (hw _ (List.mem_of_getElem? (i := 22) rfl))) (mvT hZ (hw _ (List.mem_of_getElem? (i := 23) rfl))) (mvT hZ (hw _ (List.mem_of_getElem? (i := 24) rfl))) (mvT hZ (hw _ (List.mem_of_getElem? (i := 25) rfl))) (by decide) (backOf (W := 0) (rm5 l Z a0 hw [] (2 : Int32) x6 x7 x8 x9 x12 T185.heap n0 (Nat.le_trans (Nat.le_trans (Nat.le_trans (Nat.le_trans Z0 E181.1) K182.1) K183.1) K185.1) ) hZ (hw _ (List.mem_of_getElem? (i := 25) rfl)) (hw _ (List.mem_of_getElem? (i := 24) rfl)) (by decide) (by decide)) (g := (mkF m 199 #[.val (.int p0), .val (.int p1), .val (.int p2), .val (.int p3), .val (.int p4), .val (.int p5), .val (.int x6), .val (.int x7), .val (.int x8), .val (.int x9), .val (.int (2 : Int32)), .val (.int x11), .val (.int x12), .val (.ref b181), .unset] [(.int x12), (.int x9), (.int x8), (.int x7), (.int x6), (.int (2 : Int32))])) rfl (by rw [hml]; rfl) (argsL := [(.int (2 : Int32)), (.int x6), (.int x7), (.int x8), (.int x9), (.int x12)]) (rest := []) (lenOf pd_3 rfl) rfl (by show 2 * 0 + _ ≤ _; exact Nat.le_of_eq rfl) (hb hby at_199) (fun _ _ => ⟨rfl, rfl, (by decide : 3 + 0 ≤ _), (by decide : 163 + 0 ≤ _)⟩)
      dsimp only [Pt.U, Pt.locs, Pt.cells, Pt.slots] at X186 l186 y186 z186 st186 hQ186
      subst l186 y186 z186
      obtain ⟨rfl, N186q, hQ186⟩ := hQ186
      have N186 := Fr.app N185 N186q
      refine Rch.of (T' := T186) (g' := (mkF m 202 #[.val (.int p0), .val (.int p1), .val (.int p2), .val (.int p3), .val (.int p4), .val (.int p5), .val (.int x6), .val (.int x7), .val (.int x8), .val (.int x9), .val (.int (2 : Int32)), .val (.int x11), .val (.int x12), .val (.ref b181), .unset] [(.int (own_exp (2 : Int32) x6 x7 x8 x9 x12))])) st186 ?_
      refine Rch.of (T' := T186) (g' := (mkF m 204 #[.val (.int p0), .val (.int p1), .val (.int p2), .val (.int p3), .val (.int p4), .val (.int p5), .val (.int x6), .val (.int x7), .val (.int x8), .val (.int x9), .val (.int (2 : Int32)), .val (.int x11), .val (.int x12), .val (.ref b181), .val (.int (own_exp (2 : Int32) x6 x7 x8 x9 x12))] [])) (fun _ kt => XS.istore X186.here hx rfl (hb hby at_202) rfl (l' := #[.val (.int p0), .val (.int p1), .val (.int p2), .val (.int p3), .val (.int p4), .val (.int p5), .val (.int x6), .val (.int x7), .val (.int x8), .val (.int x9), .val (.int (2 : Int32)), .val (.int x11), .val (.int x12), .val (.ref b181), .val (.int (own_exp (2 : Int32) x6 x7 x8 x9 x12))]) rfl kt) ?_
      refine Rch.of (T' := T186) (g' := (mkF m 206 #[.val (.int p0), .val (.int p1), .val (.int p2), .val (.int p3), .val (.int p4), .val (.int p5), .val (.int x6), .val (.int x7), .val (.int x8), .val (.int x9), .val (.int (2 : Int32)), .val (.int x11), .val (.int x12), .val (.ref b181), .val (.int (own_exp (2 : Int32) x6 x7 x8 x9 x12))] [(.ref b181)])) (fun _ kt => XS.aload X186.here hx rfl (hb hby at_204) rfl rfl kt) ?_
      refine Rch.of (T' := T186) (g' := (mkF m 208 #[.val (.int p0), .val (.int p1), .val (.int p2), .val (.int p3), .val (.int p4), .val (.int p5), .val (.int x6), .val (.int x7), .val (.int x8), .val (.int x9), .val (.int (2 : Int32)), .val (.int x11), .val (.int x12), .val (.ref b181), .val (.int (own_exp (2 : Int32) x6 x7 x8 x9 x12))] [(.int x12), (.ref b181)])) (fun _ kt => XS.iload X186.here hx rfl (hb hby at_206) rfl  kt) ?_
      obtain ⟨cq187, kq187, q187a, q187b, q187c⟩ := isOf hZ hQ186 ((Ex182.keep K183).keep K185)
      obtain ⟨_, _, ⟨T187, L187, k187, n187⟩, -, X187, ⟨Lc187, hQ187, l187, y187, z187⟩, st187⟩ := X186.virtualBack hx (y := (⟨"com/example/ampliar/ampliar/service/TermNumbering", "find", "(I)I"⟩ : MethodName)) (z := (⟨"com/example/ampliar/ampliar/service/TermNumbering", "find", "(I)I"⟩ : MethodName)) hown (mvT hZ (hw _ (List.mem_of_getElem? (i := 26) rfl))) (mvT hZ (hw _ (List.mem_of_getElem? (i := 27) rfl))) (notFace_of_selects (args := #[]) (mvT hZ (hw _ (List.mem_of_getElem? (i := 29) rfl)))) (mvT hZ (hw _ (List.mem_of_getElem? (i := 29) rfl))) (mvT hZ (hw _ (List.mem_of_getElem? (i := 28) rfl))) (by decide) (backOf (W := 0) (rm6 l Z a0 hw [] b181 x12 t182 y185 T185.heap n0 (Nat.le_trans (Nat.le_trans (Nat.le_trans (Nat.le_trans Z0 E181.1) K182.1) K183.1) K185.1) ((Ex182.keep K183).keep K185) Fa185 Va185 (own_inv_ok hI185 (by omega) _)) hZ (hw _ (List.mem_of_getElem? (i := 30) rfl)) (hw _ (List.mem_of_getElem? (i := 3) rfl)) (by decide) (by decide)) q187a q187c (g := (mkF m 208 #[.val (.int p0), .val (.int p1), .val (.int p2), .val (.int p3), .val (.int p4), .val (.int p5), .val (.int x6), .val (.int x7), .val (.int x8), .val (.int x9), .val (.int (2 : Int32)), .val (.int x11), .val (.int x12), .val (.ref b181), .val (.int (own_exp (2 : Int32) x6 x7 x8 x9 x12))] [(.int x12), (.ref b181)])) rfl (by rw [hml]; rfl) (Steps.refl _) (argsL := [(.int x12)]) (rest := []) (lenOf pd_4 rfl) rfl (by show 2 * 0 + _ ≤ _; exact Nat.le_of_eq rfl) (hb hby at_208) (fun _ _ => ⟨rfl, hQ186, (by decide : 3 + 0 ≤ _), (by decide : 163 + 0 ≤ _)⟩)
      dsimp only [Pt.U, Pt.locs, Pt.cells, Pt.slots] at X187 l187 y187 z187 st187 hQ187
      subst l187 y187 z187
      obtain ⟨rfl, N187q, hQ187⟩ := hQ187
      have N187 := Fr.app N186 N187q
      refine Rch.via (T' := T187) (g' := (mkF m 211 #[.val (.int p0), .val (.int p1), .val (.int p2), .val (.int p3), .val (.int p4), .val (.int p5), .val (.int x6), .val (.int x7), .val (.int x8), .val (.int x9), .val (.int (2 : Int32)), .val (.int x11), .val (.int x12), .val (.ref b181), .val (.int (own_exp (2 : Int32) x6 x7 x8 x9 x12))] [(.int (own_find y185 x12))])) st187 ?_
      refine Rch.of (T' := T187) (g' := (mkF m 213 #[.val (.int p0), .val (.int p1), .val (.int p2), .val (.int p3), .val (.int p4), .val (.int p5), .val (.int x6), .val (.int x7), .val (.int x8), .val (.int x9), .val (.int (2 : Int32)), .val (.int x11), .val (.int x12), .val (.ref b181), .val (.int (own_exp (2 : Int32) x6 x7 x8 x9 x12))] [(.int (own_exp (2 : Int32) x6 x7 x8 x9 x12)), (.int (own_find y185 x12))])) (fun _ kt => XS.iload X187.here hx rfl (hb hby at_211) rfl  kt) ?_
      have hfin : (own_find y185 x12) = (own_exp (2 : Int32) x6 x7 x8 x9 x12) := by
        rw [own_find_eq hI185 (by omega), hks185, hks183]
        exact own_join2 _ _ _ _ _
      refine Rch.of (T' := T187) (g' := (mkF m 216 #[.val (.int p0), .val (.int p1), .val (.int p2), .val (.int p3), .val (.int p4), .val (.int p5), .val (.int x6), .val (.int x7), .val (.int x8), .val (.int x9), .val (.int (2 : Int32)), .val (.int x11), .val (.int x12), .val (.ref b181), .val (.int (own_exp (2 : Int32) x6 x7 x8 x9 x12))] [])) (fun _ kt => XS.icmpNo X187.here hx rfl (hb hby at_213) rfl (teq hfin).2 kt) ?_
      refine Rch.of (T' := T187) (g' := (mkF m 217 #[.val (.int p0), .val (.int p1), .val (.int p2), .val (.int p3), .val (.int p4), .val (.int p5), .val (.int x6), .val (.int x7), .val (.int x8), .val (.int x9), .val (.int (2 : Int32)), .val (.int x11), .val (.int x12), .val (.ref b181), .val (.int (own_exp (2 : Int32) x6 x7 x8 x9 x12))] [(.int (1 : Int32))])) (fun _ kt => XS.iconst X187.here hx rfl (hb hby at_216) kt) ?_
      refine Rch.of (T' := T187) (g' := (mkF m 221 #[.val (.int p0), .val (.int p1), .val (.int p2), .val (.int p3), .val (.int p4), .val (.int p5), .val (.int x6), .val (.int x7), .val (.int x8), .val (.int x9), .val (.int (2 : Int32)), .val (.int x11), .val (.int x12), .val (.ref b181), .val (.int (own_exp (2 : Int32) x6 x7 x8 x9 x12))] [(.int (1 : Int32))])) (fun _ kt => XS.goto X187.here hx rfl (pc0 := 217) (pc' := 221) rfl (hb hby at_217) (by decide) (by decide) kt) ?_
      exact Rch.retN X187 hx (t := .boolean) hret (by simp) hlk (hb hby at_221) (fun U hU hF => hK _ U _ _ _ (by show Q_rm0 Z p0 p1 p2 p3 p4 p5 h0 n0 _ U.heap _; rw [hU, hQ187]; exact ⟨rfl, N187, trivial⟩) hF (by decide) (by decide))
    · skip
      obtain ⟨T188, h188, X188, e188, E188, A188, D188, -, st188⟩ := newO X0 hx hZ hown (hw _ (List.mem_of_getElem? (i := 1) rfl)) (hw _ (List.mem_of_getElem? (i := 2) rfl)) (hw _ (List.mem_of_getElem? (i := 3) rfl)) e0 (g := (mkF m 123 #[.val (.int p0), .val (.int p1), .val (.int p2), .val (.int p3), .val (.int p4), .val (.int p5), .val (.int x6), .val (.int x7), .val (.int x8), .val (.int x9), .val (.int (3 : Int32)), .val (.int x11), .val (.int x12), .unset, .unset] [])) rfl (hb hby at_123) (by decide) (by decide)
      obtain ⟨b188, g188⟩ : ∃ zz_, zz_ = h0.size := ⟨_, rfl⟩
      have ge_b188 : n0 ≤ b188 := Nat.le_trans Z0 (Nat.le_of_eq g188.symm)
      have sz_b188 : h0.size ≤ b188 := Nat.le_trans (Keep.refl h0 []).1 (Nat.le_of_eq g188.symm)
      rw [← g188] at A188 D188 st188
      have F188_table : Fld Z h188 b188 "com/example/ampliar/ampliar/service/TermNumbering" "table" "[I" .null := D188 (Or.inl (hw _ (List.mem_of_getElem? (i := 19) rfl))) (ty := (.array .int)) (by decide)
      have F188_numbered : Fld Z h188 b188 "com/example/ampliar/ampliar/service/TermNumbering" "numbered" "[I" .null := D188 (Or.inl (hw _ (List.mem_of_getElem? (i := 21) rfl))) (ty := (.array .int)) (by decide)
      have F188_size : Fld Z h188 b188 "com/example/ampliar/ampliar/service/TermNumbering" "size" "I" (.int (0 : Int32)) := D188 (Or.inl (hw _ (List.mem_of_getElem? (i := 42) rfl))) (ty := .int) (by decide)
      refine Rch.of (T' := T188) (g' := (mkF m 126 #[.val (.int p0), .val (.int p1), .val (.int p2), .val (.int p3), .val (.int p4), .val (.int p5), .val (.int x6), .val (.int x7), .val (.int x8), .val (.int x9), .val (.int (3 : Int32)), .val (.int x11), .val (.int x12), .unset, .unset] [(.ref b188)])) st188 ?_
      refine Rch.of (T' := T188) (g' := (mkF m 127 #[.val (.int p0), .val (.int p1), .val (.int p2), .val (.int p3), .val (.int p4), .val (.int p5), .val (.int x6), .val (.int x7), .val (.int x8), .val (.int x9), .val (.int (3 : Int32)), .val (.int x11), .val (.int x12), .unset, .unset] [(.ref b188), (.ref b188)])) (fun _ kt => XS.dup X188.here hx rfl (hb hby at_126) rfl rfl kt) ?_
      obtain ⟨_, _, ⟨T189, L189, k189, n189⟩, -, X189, ⟨Lc189, hQ189, l189, y189, z189⟩, st189⟩ := X188.specialBack hx (y := (⟨"com/example/ampliar/ampliar/service/TermNumbering", "<init>", "()V"⟩ : MethodName)) rfl hown (mvT hZ (hw _ (List.mem_of_getElem? (i := 4) rfl))) (mvT hZ (hw _ (List.mem_of_getElem? (i := 5) rfl))) (mvT hZ (hw _ (List.mem_of_getElem? (i := 6) rfl))) (by decide) (backOf (W := 1) (rm1 l Z a0 hw [] b188 .null .null h188 n0 (Nat.le_trans Z0 E188.1) A188 F188_table F188_numbered F188_size ge_b188) hZ (hw _ (List.mem_of_getElem? (i := 6) rfl)) (hw _ (List.mem_of_getElem? (i := 3) rfl)) (by decide) (by decide)) (g := (mkF m 127 #[.val (.int p0), .val (.int p1), .val (.int p2), .val (.int p3), .val (.int p4), .val (.int p5), .val (.int x6), .val (.int x7), .val (.int x8), .val (.int x9), .val (.int (3 : Int32)), .val (.int x11), .val (.int x12), .unset, .unset] [(.ref b188), (.ref b188)])) rfl (by rw [hml]; rfl) (Steps.refl _) (a := b188) (argsL := []) (rest := [(.ref b188)]) (lenOf pd_0 rfl) rfl (by show 2 * 0 + _ ≤ _; exact Nat.le_of_eq rfl) (hb hby at_127) (fun _ _ => ⟨rfl, e188, (by decide : 1 + 2 ≤ _), (by decide : 3 + 160 ≤ _)⟩)
      dsimp only [Pt.U, Pt.locs, Pt.cells, Pt.slots] at X189 l189 y189 z189 st189 hQ189
      subst l189 y189 z189
      obtain ⟨rfl, N189q, hQ189⟩ := hQ189
      have N189 := Fr.app N0 N189q
      obtain ⟨t189, nb189, zt189, zb189, ne189, K189, Ex189, Fa189, Fb189, Fc189, Va189, Vb189⟩ := hQ189
      have ne_b188_t189 : b188 ≠ t189 := Nat.ne_of_lt (Nat.lt_of_lt_of_le A188.lt zt189)
      have ne_b188_nb189 : b188 ≠ nb189 := Nat.ne_of_lt (Nat.lt_of_lt_of_le A188.lt zb189)
      have ge_t189 : n0 ≤ t189 := Nat.le_trans (Nat.le_trans Z0 E188.1) zt189
      have sz_t189 : h0.size ≤ t189 := Nat.le_trans ((Keep.refl h0 []).ext E188).1 zt189
      have ge_nb189 : n0 ≤ nb189 := Nat.le_trans (Nat.le_trans Z0 E188.1) zb189
      have sz_nb189 : h0.size ≤ nb189 := Nat.le_trans ((Keep.refl h0 []).ext E188).1 zb189
      refine Rch.via (T' := T189) (g' := (mkF m 130 #[.val (.int p0), .val (.int p1), .val (.int p2), .val (.int p3), .val (.int p4), .val (.int p5), .val (.int x6), .val (.int x7), .val (.int x8), .val (.int x9), .val (.int (3 : Int32)), .val (.int x11), .val (.int x12), .unset, .unset] [(.ref b188)])) st189 ?_
      have hI0 : own_Inv (fun _ => (-1 : Int32)) [] := own_inv0
      have hl0 : ([] : List Int32).length ≤ 0 := Nat.le_refl 0
      refine Rch.of (T' := T189) (g' := (mkF m 132 #[.val (.int p0), .val (.int p1), .val (.int p2), .val (.int p3), .val (.int p4), .val (.int p5), .val (.int x6), .val (.int x7), .val (.int x8), .val (.int x9), .val (.int (3 : Int32)), .val (.int x11), .val (.int x12), .val (.ref b188), .unset] [])) (fun _ kt => XS.astore X189.here hx rfl (hb hby at_130) rfl rfl (l' := #[.val (.int p0), .val (.int p1), .val (.int p2), .val (.int p3), .val (.int p4), .val (.int p5), .val (.int x6), .val (.int x7), .val (.int x8), .val (.int x9), .val (.int (3 : Int32)), .val (.int x11), .val (.int x12), .val (.ref b188), .unset]) rfl kt) ?_
      refine Rch.of (T' := T189) (g' := (mkF m 134 #[.val (.int p0), .val (.int p1), .val (.int p2), .val (.int p3), .val (.int p4), .val (.int p5), .val (.int x6), .val (.int x7), .val (.int x8), .val (.int x9), .val (.int (3 : Int32)), .val (.int x11), .val (.int x12), .val (.ref b188), .unset] [(.int (3 : Int32))])) (fun _ kt => XS.iload X189.here hx rfl (hb hby at_132) rfl  kt) ?_
      refine Rch.of (T' := T189) (g' := (mkF m 137 #[.val (.int p0), .val (.int p1), .val (.int p2), .val (.int p3), .val (.int p4), .val (.int p5), .val (.int x6), .val (.int x7), .val (.int x8), .val (.int x9), .val (.int (3 : Int32)), .val (.int x11), .val (.int x12), .val (.ref b188), .unset] [])) (fun _ kt => XS.ifNo X189.here hx rfl (hb hby at_134) rfl ((if0 _ _).trans (tlt ((by decide) : (0 : Int32) < (3 : Int32))).2.2.2) kt) ?_
      refine Rch.of (T' := T189) (g' := (mkF m 139 #[.val (.int p0), .val (.int p1), .val (.int p2), .val (.int p3), .val (.int p4), .val (.int p5), .val (.int x6), .val (.int x7), .val (.int x8), .val (.int x9), .val (.int (3 : Int32)), .val (.int x11), .val (.int x12), .val (.ref b188), .unset] [(.ref b188)])) (fun _ kt => XS.aload X189.here hx rfl (hb hby at_137) rfl rfl kt) ?_
      refine Rch.of (T' := T189) (g' := (mkF m 141 #[.val (.int p0), .val (.int p1), .val (.int p2), .val (.int p3), .val (.int p4), .val (.int p5), .val (.int x6), .val (.int x7), .val (.int x8), .val (.int x9), .val (.int (3 : Int32)), .val (.int x11), .val (.int x12), .val (.ref b188), .unset] [(.int x6), (.ref b188)])) (fun _ kt => XS.iload X189.here hx rfl (hb hby at_139) rfl  kt) ?_
      obtain ⟨cq190, kq190, q190a, q190b, q190c⟩ := isOf hZ rfl Ex189
      obtain ⟨_, _, ⟨T190, L190, k190, n190⟩, -, X190, ⟨Lc190, hQ190, l190, y190, z190⟩, st190⟩ := X189.virtualBack hx (y := (⟨"com/example/ampliar/ampliar/service/TermNumbering", "add", "(I)I"⟩ : MethodName)) (z := (⟨"com/example/ampliar/ampliar/service/TermNumbering", "add", "(I)I"⟩ : MethodName)) hown (mvT hZ (hw _ (List.mem_of_getElem? (i := 36) rfl))) (mvT hZ (hw _ (List.mem_of_getElem? (i := 37) rfl))) (notFace_of_selects (args := #[]) (mvT hZ (hw _ (List.mem_of_getElem? (i := 39) rfl)))) (mvT hZ (hw _ (List.mem_of_getElem? (i := 39) rfl))) (mvT hZ (hw _ (List.mem_of_getElem? (i := 38) rfl))) (by decide) (backOf (W := 0) (rm8 l Z a0 hw [] b188 x6 t189 nb189 ([] : List Int32).length (fun _ => (-1 : Int32)) (fun _ => (0 : Int32)) T189.heap n0 (Nat.le_trans (Nat.le_trans Z0 E188.1) K189.1) Ex189 Fa189 Fb189 Fc189 Va189 Vb189 ge_b188 ge_t189 ge_nb189 ne_b188_t189 ne_b188_nb189 ne189 (by omega) (own_inv_ok hI0 (by omega) _)) hZ (hw _ (List.mem_of_getElem? (i := 40) rfl)) (hw _ (List.mem_of_getElem? (i := 3) rfl)) (by decide) (by decide)) q190a q190c (g := (mkF m 141 #[.val (.int p0), .val (.int p1), .val (.int p2), .val (.int p3), .val (.int p4), .val (.int p5), .val (.int x6), .val (.int x7), .val (.int x8), .val (.int x9), .val (.int (3 : Int32)), .val (.int x11), .val (.int x12), .val (.ref b188), .unset] [(.int x6), (.ref b188)])) rfl (by rw [hml]; rfl) (Steps.refl _) (argsL := [(.int x6)]) (rest := []) (lenOf pd_4 rfl) rfl (by show 2 * 0 + _ ≤ _; exact Nat.le_of_eq rfl) (hb hby at_141) (fun _ _ => ⟨rfl, rfl, (by decide : 3 + 0 ≤ _), (by decide : 163 + 0 ≤ _)⟩)
      dsimp only [Pt.U, Pt.locs, Pt.cells, Pt.slots] at X190 l190 y190 z190 st190 hQ190
      subst l190 y190 z190
      obtain ⟨rfl, N190q, hQ190⟩ := hQ190
      have N190 := Fr.app N189 N190q
      obtain ⟨zz190, K190, Fa190, Fb190, Fc190, Va190, Vb190⟩ := hQ190
      have Fb191 := ((((Keep.refl h0 []).ext E188).trans K189 (allS (Or.inr sz_b188) all0)).trans K190 (allS (Or.inr sz_b188) (allS (Or.inr sz_t189) (allS (Or.inr sz_nb189) all0))))
      have hI190 := own_inv_add hI0 (p := x6) (own_nn h6) (by omega) rfl
      obtain ⟨y190, hy190⟩ : ∃ z, z = own_addY (fun _ => (-1 : Int32)) ([] : List Int32).length x6 := ⟨_, rfl⟩
      obtain ⟨ks190, hks190⟩ : ∃ z, z = own_addL ([] : List Int32) x6 := ⟨_, rfl⟩
      rw [own_len_eq hI0 (own_nn h6) (by omega), ← hks190] at Fc190
      rw [← hy190] at hI190 Va190
      rw [← hks190] at hI190
      have hl190 : ks190.length ≤ 1 := by rw [hks190]; exact Nat.le_trans (own_addL_len _ _) (by omega)
      refine Rch.via (T' := T190) (g' := (mkF m 144 #[.val (.int p0), .val (.int p1), .val (.int p2), .val (.int p3), .val (.int p4), .val (.int p5), .val (.int x6), .val (.int x7), .val (.int x8), .val (.int x9), .val (.int (3 : Int32)), .val (.int x11), .val (.int x12), .val (.ref b188), .unset] [(.int (own_addV (fun _ => (-1 : Int32)) ([] : List Int32).length x6))])) st190 ?_
      refine Rch.of (T' := T190) (g' := (mkF m 145 #[.val (.int p0), .val (.int p1), .val (.int p2), .val (.int p3), .val (.int p4), .val (.int p5), .val (.int x6), .val (.int x7), .val (.int x8), .val (.int x9), .val (.int (3 : Int32)), .val (.int x11), .val (.int x12), .val (.ref b188), .unset] [])) (fun _ kt => XS.pop X190.here hx rfl (hb hby at_144) rfl rfl kt) ?_
      refine Rch.of (T' := T190) (g' := (mkF m 147 #[.val (.int p0), .val (.int p1), .val (.int p2), .val (.int p3), .val (.int p4), .val (.int p5), .val (.int x6), .val (.int x7), .val (.int x8), .val (.int x9), .val (.int (3 : Int32)), .val (.int x11), .val (.int x12), .val (.ref b188), .unset] [(.int (3 : Int32))])) (fun _ kt => XS.iload X190.here hx rfl (hb hby at_145) rfl  kt) ?_
      refine Rch.of (T' := T190) (g' := (mkF m 148 #[.val (.int p0), .val (.int p1), .val (.int p2), .val (.int p3), .val (.int p4), .val (.int p5), .val (.int x6), .val (.int x7), .val (.int x8), .val (.int x9), .val (.int (3 : Int32)), .val (.int x11), .val (.int x12), .val (.ref b188), .unset] [(.int (1 : Int32)), (.int (3 : Int32))])) (fun _ kt => XS.iconst X190.here hx rfl (hb hby at_147) kt) ?_
      refine Rch.of (T' := T190) (g' := (mkF m 151 #[.val (.int p0), .val (.int p1), .val (.int p2), .val (.int p3), .val (.int p4), .val (.int p5), .val (.int x6), .val (.int x7), .val (.int x8), .val (.int x9), .val (.int (3 : Int32)), .val (.int x11), .val (.int x12), .val (.ref b188), .unset] [])) (fun _ kt => XS.icmpNo X190.here hx rfl (hb hby at_148) rfl (tlt ((by decide) : (1 : Int32) < (3 : Int32))).2.2.2 kt) ?_
      refine Rch.of (T' := T190) (g' := (mkF m 153 #[.val (.int p0), .val (.int p1), .val (.int p2), .val (.int p3), .val (.int p4), .val (.int p5), .val (.int x6), .val (.int x7), .val (.int x8), .val (.int x9), .val (.int (3 : Int32)), .val (.int x11), .val (.int x12), .val (.ref b188), .unset] [(.ref b188)])) (fun _ kt => XS.aload X190.here hx rfl (hb hby at_151) rfl rfl kt) ?_
      refine Rch.of (T' := T190) (g' := (mkF m 155 #[.val (.int p0), .val (.int p1), .val (.int p2), .val (.int p3), .val (.int p4), .val (.int p5), .val (.int x6), .val (.int x7), .val (.int x8), .val (.int x9), .val (.int (3 : Int32)), .val (.int x11), .val (.int x12), .val (.ref b188), .unset] [(.int x7), (.ref b188)])) (fun _ kt => XS.iload X190.here hx rfl (hb hby at_153) rfl  kt) ?_
      obtain ⟨cq192, kq192, q192a, q192b, q192c⟩ := isOf hZ rfl (Ex189.keep K190)
      obtain ⟨_, _, ⟨T192, L192, k192, n192⟩, -, X192, ⟨Lc192, hQ192, l192, y192, z192⟩, st192⟩ := X190.virtualBack hx (y := (⟨"com/example/ampliar/ampliar/service/TermNumbering", "add", "(I)I"⟩ : MethodName)) (z := (⟨"com/example/ampliar/ampliar/service/TermNumbering", "add", "(I)I"⟩ : MethodName)) hown (mvT hZ (hw _ (List.mem_of_getElem? (i := 36) rfl))) (mvT hZ (hw _ (List.mem_of_getElem? (i := 37) rfl))) (notFace_of_selects (args := #[]) (mvT hZ (hw _ (List.mem_of_getElem? (i := 39) rfl)))) (mvT hZ (hw _ (List.mem_of_getElem? (i := 39) rfl))) (mvT hZ (hw _ (List.mem_of_getElem? (i := 38) rfl))) (by decide) (backOf (W := 0) (rm8 l Z a0 hw [] b188 x7 t189 nb189 ks190.length y190 zz190 T190.heap n0 (Nat.le_trans (Nat.le_trans (Nat.le_trans Z0 E188.1) K189.1) K190.1) (Ex189.keep K190) Fa190 Fb190 Fc190 Va190 Vb190 ge_b188 ge_t189 ge_nb189 ne_b188_t189 ne_b188_nb189 ne189 (by omega) (own_inv_ok hI190 (by omega) _)) hZ (hw _ (List.mem_of_getElem? (i := 40) rfl)) (hw _ (List.mem_of_getElem? (i := 3) rfl)) (by decide) (by decide)) q192a q192c (g := (mkF m 155 #[.val (.int p0), .val (.int p1), .val (.int p2), .val (.int p3), .val (.int p4), .val (.int p5), .val (.int x6), .val (.int x7), .val (.int x8), .val (.int x9), .val (.int (3 : Int32)), .val (.int x11), .val (.int x12), .val (.ref b188), .unset] [(.int x7), (.ref b188)])) rfl (by rw [hml]; rfl) (Steps.refl _) (argsL := [(.int x7)]) (rest := []) (lenOf pd_4 rfl) rfl (by show 2 * 0 + _ ≤ _; exact Nat.le_of_eq rfl) (hb hby at_155) (fun _ _ => ⟨rfl, rfl, (by decide : 3 + 0 ≤ _), (by decide : 163 + 0 ≤ _)⟩)
      dsimp only [Pt.U, Pt.locs, Pt.cells, Pt.slots] at X192 l192 y192 z192 st192 hQ192
      subst l192 y192 z192
      obtain ⟨rfl, N192q, hQ192⟩ := hQ192
      have N192 := Fr.app N190 N192q
      obtain ⟨zz192, K192, Fa192, Fb192, Fc192, Va192, Vb192⟩ := hQ192
      have hI192 := own_inv_add hI190 (p := x7) (own_nn h7) (by omega) rfl
      obtain ⟨y192, hy192⟩ : ∃ z, z = own_addY y190 ks190.length x7 := ⟨_, rfl⟩
      obtain ⟨ks192, hks192⟩ : ∃ z, z = own_addL ks190 x7 := ⟨_, rfl⟩
      rw [own_len_eq hI190 (own_nn h7) (by omega), ← hks192] at Fc192
      rw [← hy192] at hI192 Va192
      rw [← hks192] at hI192
      have hl192 : ks192.length ≤ 2 := by rw [hks192]; exact Nat.le_trans (own_addL_len _ _) (by omega)
      refine Rch.via (T' := T192) (g' := (mkF m 158 #[.val (.int p0), .val (.int p1), .val (.int p2), .val (.int p3), .val (.int p4), .val (.int p5), .val (.int x6), .val (.int x7), .val (.int x8), .val (.int x9), .val (.int (3 : Int32)), .val (.int x11), .val (.int x12), .val (.ref b188), .unset] [(.int (own_addV y190 ks190.length x7))])) st192 ?_
      refine Rch.of (T' := T192) (g' := (mkF m 159 #[.val (.int p0), .val (.int p1), .val (.int p2), .val (.int p3), .val (.int p4), .val (.int p5), .val (.int x6), .val (.int x7), .val (.int x8), .val (.int x9), .val (.int (3 : Int32)), .val (.int x11), .val (.int x12), .val (.ref b188), .unset] [])) (fun _ kt => XS.pop X192.here hx rfl (hb hby at_158) rfl rfl kt) ?_
      refine Rch.of (T' := T192) (g' := (mkF m 161 #[.val (.int p0), .val (.int p1), .val (.int p2), .val (.int p3), .val (.int p4), .val (.int p5), .val (.int x6), .val (.int x7), .val (.int x8), .val (.int x9), .val (.int (3 : Int32)), .val (.int x11), .val (.int x12), .val (.ref b188), .unset] [(.int (3 : Int32))])) (fun _ kt => XS.iload X192.here hx rfl (hb hby at_159) rfl  kt) ?_
      refine Rch.of (T' := T192) (g' := (mkF m 162 #[.val (.int p0), .val (.int p1), .val (.int p2), .val (.int p3), .val (.int p4), .val (.int p5), .val (.int x6), .val (.int x7), .val (.int x8), .val (.int x9), .val (.int (3 : Int32)), .val (.int x11), .val (.int x12), .val (.ref b188), .unset] [(.int (2 : Int32)), (.int (3 : Int32))])) (fun _ kt => XS.iconst X192.here hx rfl (hb hby at_161) kt) ?_
      refine Rch.of (T' := T192) (g' := (mkF m 165 #[.val (.int p0), .val (.int p1), .val (.int p2), .val (.int p3), .val (.int p4), .val (.int p5), .val (.int x6), .val (.int x7), .val (.int x8), .val (.int x9), .val (.int (3 : Int32)), .val (.int x11), .val (.int x12), .val (.ref b188), .unset] [])) (fun _ kt => XS.icmpNo X192.here hx rfl (hb hby at_162) rfl (tlt ((by decide) : (2 : Int32) < (3 : Int32))).2.2.2 kt) ?_
      refine Rch.of (T' := T192) (g' := (mkF m 167 #[.val (.int p0), .val (.int p1), .val (.int p2), .val (.int p3), .val (.int p4), .val (.int p5), .val (.int x6), .val (.int x7), .val (.int x8), .val (.int x9), .val (.int (3 : Int32)), .val (.int x11), .val (.int x12), .val (.ref b188), .unset] [(.ref b188)])) (fun _ kt => XS.aload X192.here hx rfl (hb hby at_165) rfl rfl kt) ?_
      refine Rch.of (T' := T192) (g' := (mkF m 169 #[.val (.int p0), .val (.int p1), .val (.int p2), .val (.int p3), .val (.int p4), .val (.int p5), .val (.int x6), .val (.int x7), .val (.int x8), .val (.int x9), .val (.int (3 : Int32)), .val (.int x11), .val (.int x12), .val (.ref b188), .unset] [(.int x8), (.ref b188)])) (fun _ kt => XS.iload X192.here hx rfl (hb hby at_167) rfl  kt) ?_
      obtain ⟨cq193, kq193, q193a, q193b, q193c⟩ := isOf hZ rfl ((Ex189.keep K190).keep K192)
      obtain ⟨_, _, ⟨T193, L193, k193, n193⟩, -, X193, ⟨Lc193, hQ193, l193, y193, z193⟩, st193⟩ := X192.virtualBack hx (y := (⟨"com/example/ampliar/ampliar/service/TermNumbering", "add", "(I)I"⟩ : MethodName)) (z := (⟨"com/example/ampliar/ampliar/service/TermNumbering", "add", "(I)I"⟩ : MethodName)) hown (mvT hZ (hw _ (List.mem_of_getElem? (i := 36) rfl))) (mvT hZ (hw _ (List.mem_of_getElem? (i := 37) rfl))) (notFace_of_selects (args := #[]) (mvT hZ (hw _ (List.mem_of_getElem? (i := 39) rfl)))) (mvT hZ (hw _ (List.mem_of_getElem? (i := 39) rfl))) (mvT hZ (hw _ (List.mem_of_getElem? (i := 38) rfl))) (by decide) (backOf (W := 0) (rm8 l Z a0 hw [] b188 x8 t189 nb189 ks192.length y192 zz192 T192.heap n0 (Nat.le_trans (Nat.le_trans (Nat.le_trans (Nat.le_trans Z0 E188.1) K189.1) K190.1) K192.1) ((Ex189.keep K190).keep K192) Fa192 Fb192 Fc192 Va192 Vb192 ge_b188 ge_t189 ge_nb189 ne_b188_t189 ne_b188_nb189 ne189 (by omega) (own_inv_ok hI192 (by omega) _)) hZ (hw _ (List.mem_of_getElem? (i := 40) rfl)) (hw _ (List.mem_of_getElem? (i := 3) rfl)) (by decide) (by decide)) q193a q193c (g := (mkF m 169 #[.val (.int p0), .val (.int p1), .val (.int p2), .val (.int p3), .val (.int p4), .val (.int p5), .val (.int x6), .val (.int x7), .val (.int x8), .val (.int x9), .val (.int (3 : Int32)), .val (.int x11), .val (.int x12), .val (.ref b188), .unset] [(.int x8), (.ref b188)])) rfl (by rw [hml]; rfl) (Steps.refl _) (argsL := [(.int x8)]) (rest := []) (lenOf pd_4 rfl) rfl (by show 2 * 0 + _ ≤ _; exact Nat.le_of_eq rfl) (hb hby at_169) (fun _ _ => ⟨rfl, rfl, (by decide : 3 + 0 ≤ _), (by decide : 163 + 0 ≤ _)⟩)
      dsimp only [Pt.U, Pt.locs, Pt.cells, Pt.slots] at X193 l193 y193 z193 st193 hQ193
      subst l193 y193 z193
      obtain ⟨rfl, N193q, hQ193⟩ := hQ193
      have N193 := Fr.app N192 N193q
      obtain ⟨zz193, K193, Fa193, Fb193, Fc193, Va193, Vb193⟩ := hQ193
      have Fb194 := ((Fb191.trans K192 (allS (Or.inr sz_b188) (allS (Or.inr sz_t189) (allS (Or.inr sz_nb189) all0)))).trans K193 (allS (Or.inr sz_b188) (allS (Or.inr sz_t189) (allS (Or.inr sz_nb189) all0))))
      have hI193 := own_inv_add hI192 (p := x8) (own_nn h8) (by omega) rfl
      obtain ⟨y193, hy193⟩ : ∃ z, z = own_addY y192 ks192.length x8 := ⟨_, rfl⟩
      obtain ⟨ks193, hks193⟩ : ∃ z, z = own_addL ks192 x8 := ⟨_, rfl⟩
      rw [own_len_eq hI192 (own_nn h8) (by omega), ← hks193] at Fc193
      rw [← hy193] at hI193 Va193
      rw [← hks193] at hI193
      have hl193 : ks193.length ≤ 3 := by rw [hks193]; exact Nat.le_trans (own_addL_len _ _) (by omega)
      refine Rch.via (T' := T193) (g' := (mkF m 172 #[.val (.int p0), .val (.int p1), .val (.int p2), .val (.int p3), .val (.int p4), .val (.int p5), .val (.int x6), .val (.int x7), .val (.int x8), .val (.int x9), .val (.int (3 : Int32)), .val (.int x11), .val (.int x12), .val (.ref b188), .unset] [(.int (own_addV y192 ks192.length x8))])) st193 ?_
      refine Rch.of (T' := T193) (g' := (mkF m 173 #[.val (.int p0), .val (.int p1), .val (.int p2), .val (.int p3), .val (.int p4), .val (.int p5), .val (.int x6), .val (.int x7), .val (.int x8), .val (.int x9), .val (.int (3 : Int32)), .val (.int x11), .val (.int x12), .val (.ref b188), .unset] [])) (fun _ kt => XS.pop X193.here hx rfl (hb hby at_172) rfl rfl kt) ?_
      refine Rch.of (T' := T193) (g' := (mkF m 175 #[.val (.int p0), .val (.int p1), .val (.int p2), .val (.int p3), .val (.int p4), .val (.int p5), .val (.int x6), .val (.int x7), .val (.int x8), .val (.int x9), .val (.int (3 : Int32)), .val (.int x11), .val (.int x12), .val (.ref b188), .unset] [(.int (3 : Int32))])) (fun _ kt => XS.iload X193.here hx rfl (hb hby at_173) rfl  kt) ?_
      refine Rch.of (T' := T193) (g' := (mkF m 176 #[.val (.int p0), .val (.int p1), .val (.int p2), .val (.int p3), .val (.int p4), .val (.int p5), .val (.int x6), .val (.int x7), .val (.int x8), .val (.int x9), .val (.int (3 : Int32)), .val (.int x11), .val (.int x12), .val (.ref b188), .unset] [(.int (3 : Int32)), (.int (3 : Int32))])) (fun _ kt => XS.iconst X193.here hx rfl (hb hby at_175) kt) ?_
      refine Rch.of (T' := T193) (g' := (mkF m 187 #[.val (.int p0), .val (.int p1), .val (.int p2), .val (.int p3), .val (.int p4), .val (.int p5), .val (.int x6), .val (.int x7), .val (.int x8), .val (.int x9), .val (.int (3 : Int32)), .val (.int x11), .val (.int x12), .val (.ref b188), .unset] [])) (fun _ kt => XS.icmpYes X193.here hx rfl (pc0 := 176) (pc' := 187) rfl (hb hby at_176) rfl (flt ((by decide) : ¬ ((3 : Int32) < (3 : Int32)))).2.2.2 (by decide) (by decide) kt) ?_
      refine Rch.of (T' := T193) (g' := (mkF m 189 #[.val (.int p0), .val (.int p1), .val (.int p2), .val (.int p3), .val (.int p4), .val (.int p5), .val (.int x6), .val (.int x7), .val (.int x8), .val (.int x9), .val (.int (3 : Int32)), .val (.int x11), .val (.int x12), .val (.ref b188), .unset] [(.int (3 : Int32))])) (fun _ kt => XS.iload X193.here hx rfl (hb hby at_187) rfl  kt) ?_
      refine Rch.of (T' := T193) (g' := (mkF m 191 #[.val (.int p0), .val (.int p1), .val (.int p2), .val (.int p3), .val (.int p4), .val (.int p5), .val (.int x6), .val (.int x7), .val (.int x8), .val (.int x9), .val (.int (3 : Int32)), .val (.int x11), .val (.int x12), .val (.ref b188), .unset] [(.int x6), (.int (3 : Int32))])) (fun _ kt => XS.iload X193.here hx rfl (hb hby at_189) rfl  kt) ?_
      refine Rch.of (T' := T193) (g' := (mkF m 193 #[.val (.int p0), .val (.int p1), .val (.int p2), .val (.int p3), .val (.int p4), .val (.int p5), .val (.int x6), .val (.int x7), .val (.int x8), .val (.int x9), .val (.int (3 : Int32)), .val (.int x11), .val (.int x12), .val (.ref b188), .unset] [(.int x7), (.int x6), (.int (3 : Int32))])) (fun _ kt => XS.iload X193.here hx rfl (hb hby at_191) rfl  kt) ?_
      refine Rch.of (T' := T193) (g' := (mkF m 195 #[.val (.int p0), .val (.int p1), .val (.int p2), .val (.int p3), .val (.int p4), .val (.int p5), .val (.int x6), .val (.int x7), .val (.int x8), .val (.int x9), .val (.int (3 : Int32)), .val (.int x11), .val (.int x12), .val (.ref b188), .unset] [(.int x8), (.int x7), (.int x6), (.int (3 : Int32))])) (fun _ kt => XS.iload X193.here hx rfl (hb hby at_193) rfl  kt) ?_
      refine Rch.of (T' := T193) (g' := (mkF m 197 #[.val (.int p0), .val (.int p1), .val (.int p2), .val (.int p3), .val (.int p4), .val (.int p5), .val (.int x6), .val (.int x7), .val (.int x8), .val (.int x9), .val (.int (3 : Int32)), .val (.int x11), .val (.int x12), .val (.ref b188), .unset] [(.int x9), (.int x8), (.int x7), (.int x6), (.int (3 : Int32))])) (fun _ kt => XS.iload X193.here hx rfl (hb hby at_195) rfl  kt) ?_
      refine Rch.of (T' := T193) (g' := (mkF m 199 #[.val (.int p0), .val (.int p1), .val (.int p2), .val (.int p3), .val (.int p4), .val (.int p5), .val (.int x6), .val (.int x7), .val (.int x8), .val (.int x9), .val (.int (3 : Int32)), .val (.int x11), .val (.int x12), .val (.ref b188), .unset] [(.int x12), (.int x9), (.int x8), (.int x7), (.int x6), (.int (3 : Int32))])) (fun _ kt => XS.iload X193.here hx rfl (hb hby at_197) rfl  kt) ?_
      obtain ⟨_, _, ⟨T195, L195, k195, n195⟩, -, X195, ⟨Lc195, hQ195, l195, y195, z195⟩, st195⟩ := Jvm.LawKit.callS X193 hx (y := (⟨"com/example/ampliar/ampliar/service/TermNumberingFindPinLaw", "expected", "(IIIIII)I"⟩ : MethodName)) hown (mvT hZ (hw _ (List.mem_of_getElem? (i := 22) rfl))) (mvT hZ (hw _ (List.mem_of_getElem? (i := 23) rfl))) (mvT hZ (hw _ (List.mem_of_getElem? (i := 24) rfl))) (mvT hZ (hw _ (List.mem_of_getElem? (i := 25) rfl))) (by decide) (backOf (W := 0) (rm5 l Z a0 hw [] (3 : Int32) x6 x7 x8 x9 x12 T193.heap n0 (Nat.le_trans (Nat.le_trans (Nat.le_trans (Nat.le_trans (Nat.le_trans Z0 E188.1) K189.1) K190.1) K192.1) K193.1) ) hZ (hw _ (List.mem_of_getElem? (i := 25) rfl)) (hw _ (List.mem_of_getElem? (i := 24) rfl)) (by decide) (by decide)) (g := (mkF m 199 #[.val (.int p0), .val (.int p1), .val (.int p2), .val (.int p3), .val (.int p4), .val (.int p5), .val (.int x6), .val (.int x7), .val (.int x8), .val (.int x9), .val (.int (3 : Int32)), .val (.int x11), .val (.int x12), .val (.ref b188), .unset] [(.int x12), (.int x9), (.int x8), (.int x7), (.int x6), (.int (3 : Int32))])) rfl (by rw [hml]; rfl) (argsL := [(.int (3 : Int32)), (.int x6), (.int x7), (.int x8), (.int x9), (.int x12)]) (rest := []) (lenOf pd_3 rfl) rfl (by show 2 * 0 + _ ≤ _; exact Nat.le_of_eq rfl) (hb hby at_199) (fun _ _ => ⟨rfl, rfl, (by decide : 3 + 0 ≤ _), (by decide : 163 + 0 ≤ _)⟩)
      dsimp only [Pt.U, Pt.locs, Pt.cells, Pt.slots] at X195 l195 y195 z195 st195 hQ195
      subst l195 y195 z195
      obtain ⟨rfl, N195q, hQ195⟩ := hQ195
      have N195 := Fr.app N193 N195q
      refine Rch.of (T' := T195) (g' := (mkF m 202 #[.val (.int p0), .val (.int p1), .val (.int p2), .val (.int p3), .val (.int p4), .val (.int p5), .val (.int x6), .val (.int x7), .val (.int x8), .val (.int x9), .val (.int (3 : Int32)), .val (.int x11), .val (.int x12), .val (.ref b188), .unset] [(.int (own_exp (3 : Int32) x6 x7 x8 x9 x12))])) st195 ?_
      refine Rch.of (T' := T195) (g' := (mkF m 204 #[.val (.int p0), .val (.int p1), .val (.int p2), .val (.int p3), .val (.int p4), .val (.int p5), .val (.int x6), .val (.int x7), .val (.int x8), .val (.int x9), .val (.int (3 : Int32)), .val (.int x11), .val (.int x12), .val (.ref b188), .val (.int (own_exp (3 : Int32) x6 x7 x8 x9 x12))] [])) (fun _ kt => XS.istore X195.here hx rfl (hb hby at_202) rfl (l' := #[.val (.int p0), .val (.int p1), .val (.int p2), .val (.int p3), .val (.int p4), .val (.int p5), .val (.int x6), .val (.int x7), .val (.int x8), .val (.int x9), .val (.int (3 : Int32)), .val (.int x11), .val (.int x12), .val (.ref b188), .val (.int (own_exp (3 : Int32) x6 x7 x8 x9 x12))]) rfl kt) ?_
      refine Rch.of (T' := T195) (g' := (mkF m 206 #[.val (.int p0), .val (.int p1), .val (.int p2), .val (.int p3), .val (.int p4), .val (.int p5), .val (.int x6), .val (.int x7), .val (.int x8), .val (.int x9), .val (.int (3 : Int32)), .val (.int x11), .val (.int x12), .val (.ref b188), .val (.int (own_exp (3 : Int32) x6 x7 x8 x9 x12))] [(.ref b188)])) (fun _ kt => XS.aload X195.here hx rfl (hb hby at_204) rfl rfl kt) ?_
      refine Rch.of (T' := T195) (g' := (mkF m 208 #[.val (.int p0), .val (.int p1), .val (.int p2), .val (.int p3), .val (.int p4), .val (.int p5), .val (.int x6), .val (.int x7), .val (.int x8), .val (.int x9), .val (.int (3 : Int32)), .val (.int x11), .val (.int x12), .val (.ref b188), .val (.int (own_exp (3 : Int32) x6 x7 x8 x9 x12))] [(.int x12), (.ref b188)])) (fun _ kt => XS.iload X195.here hx rfl (hb hby at_206) rfl  kt) ?_
      obtain ⟨cq196, kq196, q196a, q196b, q196c⟩ := isOf hZ hQ195 (((Ex189.keep K190).keep K192).keep K193)
      obtain ⟨_, _, ⟨T196, L196, k196, n196⟩, -, X196, ⟨Lc196, hQ196, l196, y196, z196⟩, st196⟩ := X195.virtualBack hx (y := (⟨"com/example/ampliar/ampliar/service/TermNumbering", "find", "(I)I"⟩ : MethodName)) (z := (⟨"com/example/ampliar/ampliar/service/TermNumbering", "find", "(I)I"⟩ : MethodName)) hown (mvT hZ (hw _ (List.mem_of_getElem? (i := 26) rfl))) (mvT hZ (hw _ (List.mem_of_getElem? (i := 27) rfl))) (notFace_of_selects (args := #[]) (mvT hZ (hw _ (List.mem_of_getElem? (i := 29) rfl)))) (mvT hZ (hw _ (List.mem_of_getElem? (i := 29) rfl))) (mvT hZ (hw _ (List.mem_of_getElem? (i := 28) rfl))) (by decide) (backOf (W := 0) (rm6 l Z a0 hw [] b188 x12 t189 y193 T193.heap n0 (Nat.le_trans (Nat.le_trans (Nat.le_trans (Nat.le_trans (Nat.le_trans Z0 E188.1) K189.1) K190.1) K192.1) K193.1) (((Ex189.keep K190).keep K192).keep K193) Fa193 Va193 (own_inv_ok hI193 (by omega) _)) hZ (hw _ (List.mem_of_getElem? (i := 30) rfl)) (hw _ (List.mem_of_getElem? (i := 3) rfl)) (by decide) (by decide)) q196a q196c (g := (mkF m 208 #[.val (.int p0), .val (.int p1), .val (.int p2), .val (.int p3), .val (.int p4), .val (.int p5), .val (.int x6), .val (.int x7), .val (.int x8), .val (.int x9), .val (.int (3 : Int32)), .val (.int x11), .val (.int x12), .val (.ref b188), .val (.int (own_exp (3 : Int32) x6 x7 x8 x9 x12))] [(.int x12), (.ref b188)])) rfl (by rw [hml]; rfl) (Steps.refl _) (argsL := [(.int x12)]) (rest := []) (lenOf pd_4 rfl) rfl (by show 2 * 0 + _ ≤ _; exact Nat.le_of_eq rfl) (hb hby at_208) (fun _ _ => ⟨rfl, hQ195, (by decide : 3 + 0 ≤ _), (by decide : 163 + 0 ≤ _)⟩)
      dsimp only [Pt.U, Pt.locs, Pt.cells, Pt.slots] at X196 l196 y196 z196 st196 hQ196
      subst l196 y196 z196
      obtain ⟨rfl, N196q, hQ196⟩ := hQ196
      have N196 := Fr.app N195 N196q
      refine Rch.via (T' := T196) (g' := (mkF m 211 #[.val (.int p0), .val (.int p1), .val (.int p2), .val (.int p3), .val (.int p4), .val (.int p5), .val (.int x6), .val (.int x7), .val (.int x8), .val (.int x9), .val (.int (3 : Int32)), .val (.int x11), .val (.int x12), .val (.ref b188), .val (.int (own_exp (3 : Int32) x6 x7 x8 x9 x12))] [(.int (own_find y193 x12))])) st196 ?_
      refine Rch.of (T' := T196) (g' := (mkF m 213 #[.val (.int p0), .val (.int p1), .val (.int p2), .val (.int p3), .val (.int p4), .val (.int p5), .val (.int x6), .val (.int x7), .val (.int x8), .val (.int x9), .val (.int (3 : Int32)), .val (.int x11), .val (.int x12), .val (.ref b188), .val (.int (own_exp (3 : Int32) x6 x7 x8 x9 x12))] [(.int (own_exp (3 : Int32) x6 x7 x8 x9 x12)), (.int (own_find y193 x12))])) (fun _ kt => XS.iload X196.here hx rfl (hb hby at_211) rfl  kt) ?_
      have hfin : (own_find y193 x12) = (own_exp (3 : Int32) x6 x7 x8 x9 x12) := by
        rw [own_find_eq hI193 (by omega), hks193, hks192, hks190]
        exact own_join3 _ _ _ _ _
      refine Rch.of (T' := T196) (g' := (mkF m 216 #[.val (.int p0), .val (.int p1), .val (.int p2), .val (.int p3), .val (.int p4), .val (.int p5), .val (.int x6), .val (.int x7), .val (.int x8), .val (.int x9), .val (.int (3 : Int32)), .val (.int x11), .val (.int x12), .val (.ref b188), .val (.int (own_exp (3 : Int32) x6 x7 x8 x9 x12))] [])) (fun _ kt => XS.icmpNo X196.here hx rfl (hb hby at_213) rfl (teq hfin).2 kt) ?_
      refine Rch.of (T' := T196) (g' := (mkF m 217 #[.val (.int p0), .val (.int p1), .val (.int p2), .val (.int p3), .val (.int p4), .val (.int p5), .val (.int x6), .val (.int x7), .val (.int x8), .val (.int x9), .val (.int (3 : Int32)), .val (.int x11), .val (.int x12), .val (.ref b188), .val (.int (own_exp (3 : Int32) x6 x7 x8 x9 x12))] [(.int (1 : Int32))])) (fun _ kt => XS.iconst X196.here hx rfl (hb hby at_216) kt) ?_
      refine Rch.of (T' := T196) (g' := (mkF m 221 #[.val (.int p0), .val (.int p1), .val (.int p2), .val (.int p3), .val (.int p4), .val (.int p5), .val (.int x6), .val (.int x7), .val (.int x8), .val (.int x9), .val (.int (3 : Int32)), .val (.int x11), .val (.int x12), .val (.ref b188), .val (.int (own_exp (3 : Int32) x6 x7 x8 x9 x12))] [(.int (1 : Int32))])) (fun _ kt => XS.goto X196.here hx rfl (pc0 := 217) (pc' := 221) rfl (hb hby at_217) (by decide) (by decide) kt) ?_
      exact Rch.retN X196 hx (t := .boolean) hret (by simp) hlk (hb hby at_221) (fun U hU hF => hK _ U _ _ _ (by show Q_rm0 Z p0 p1 p2 p3 p4 p5 h0 n0 _ U.heap _; rw [hU, hQ196]; exact ⟨rfl, N196, trivial⟩) hF (by decide) (by decide))
    · skip
      obtain ⟨T197, h197, X197, e197, E197, A197, D197, -, st197⟩ := newO X0 hx hZ hown (hw _ (List.mem_of_getElem? (i := 1) rfl)) (hw _ (List.mem_of_getElem? (i := 2) rfl)) (hw _ (List.mem_of_getElem? (i := 3) rfl)) e0 (g := (mkF m 123 #[.val (.int p0), .val (.int p1), .val (.int p2), .val (.int p3), .val (.int p4), .val (.int p5), .val (.int x6), .val (.int x7), .val (.int x8), .val (.int x9), .val (.int (4 : Int32)), .val (.int x11), .val (.int x12), .unset, .unset] [])) rfl (hb hby at_123) (by decide) (by decide)
      obtain ⟨b197, g197⟩ : ∃ zz_, zz_ = h0.size := ⟨_, rfl⟩
      have ge_b197 : n0 ≤ b197 := Nat.le_trans Z0 (Nat.le_of_eq g197.symm)
      have sz_b197 : h0.size ≤ b197 := Nat.le_trans (Keep.refl h0 []).1 (Nat.le_of_eq g197.symm)
      rw [← g197] at A197 D197 st197
      have F197_table : Fld Z h197 b197 "com/example/ampliar/ampliar/service/TermNumbering" "table" "[I" .null := D197 (Or.inl (hw _ (List.mem_of_getElem? (i := 19) rfl))) (ty := (.array .int)) (by decide)
      have F197_numbered : Fld Z h197 b197 "com/example/ampliar/ampliar/service/TermNumbering" "numbered" "[I" .null := D197 (Or.inl (hw _ (List.mem_of_getElem? (i := 21) rfl))) (ty := (.array .int)) (by decide)
      have F197_size : Fld Z h197 b197 "com/example/ampliar/ampliar/service/TermNumbering" "size" "I" (.int (0 : Int32)) := D197 (Or.inl (hw _ (List.mem_of_getElem? (i := 42) rfl))) (ty := .int) (by decide)
      refine Rch.of (T' := T197) (g' := (mkF m 126 #[.val (.int p0), .val (.int p1), .val (.int p2), .val (.int p3), .val (.int p4), .val (.int p5), .val (.int x6), .val (.int x7), .val (.int x8), .val (.int x9), .val (.int (4 : Int32)), .val (.int x11), .val (.int x12), .unset, .unset] [(.ref b197)])) st197 ?_
      refine Rch.of (T' := T197) (g' := (mkF m 127 #[.val (.int p0), .val (.int p1), .val (.int p2), .val (.int p3), .val (.int p4), .val (.int p5), .val (.int x6), .val (.int x7), .val (.int x8), .val (.int x9), .val (.int (4 : Int32)), .val (.int x11), .val (.int x12), .unset, .unset] [(.ref b197), (.ref b197)])) (fun _ kt => XS.dup X197.here hx rfl (hb hby at_126) rfl rfl kt) ?_
      obtain ⟨_, _, ⟨T198, L198, k198, n198⟩, -, X198, ⟨Lc198, hQ198, l198, y198, z198⟩, st198⟩ := X197.specialBack hx (y := (⟨"com/example/ampliar/ampliar/service/TermNumbering", "<init>", "()V"⟩ : MethodName)) rfl hown (mvT hZ (hw _ (List.mem_of_getElem? (i := 4) rfl))) (mvT hZ (hw _ (List.mem_of_getElem? (i := 5) rfl))) (mvT hZ (hw _ (List.mem_of_getElem? (i := 6) rfl))) (by decide) (backOf (W := 1) (rm1 l Z a0 hw [] b197 .null .null h197 n0 (Nat.le_trans Z0 E197.1) A197 F197_table F197_numbered F197_size ge_b197) hZ (hw _ (List.mem_of_getElem? (i := 6) rfl)) (hw _ (List.mem_of_getElem? (i := 3) rfl)) (by decide) (by decide)) (g := (mkF m 127 #[.val (.int p0), .val (.int p1), .val (.int p2), .val (.int p3), .val (.int p4), .val (.int p5), .val (.int x6), .val (.int x7), .val (.int x8), .val (.int x9), .val (.int (4 : Int32)), .val (.int x11), .val (.int x12), .unset, .unset] [(.ref b197), (.ref b197)])) rfl (by rw [hml]; rfl) (Steps.refl _) (a := b197) (argsL := []) (rest := [(.ref b197)]) (lenOf pd_0 rfl) rfl (by show 2 * 0 + _ ≤ _; exact Nat.le_of_eq rfl) (hb hby at_127) (fun _ _ => ⟨rfl, e197, (by decide : 1 + 2 ≤ _), (by decide : 3 + 160 ≤ _)⟩)
      dsimp only [Pt.U, Pt.locs, Pt.cells, Pt.slots] at X198 l198 y198 z198 st198 hQ198
      subst l198 y198 z198
      obtain ⟨rfl, N198q, hQ198⟩ := hQ198
      have N198 := Fr.app N0 N198q
      obtain ⟨t198, nb198, zt198, zb198, ne198, K198, Ex198, Fa198, Fb198, Fc198, Va198, Vb198⟩ := hQ198
      have ne_b197_t198 : b197 ≠ t198 := Nat.ne_of_lt (Nat.lt_of_lt_of_le A197.lt zt198)
      have ne_b197_nb198 : b197 ≠ nb198 := Nat.ne_of_lt (Nat.lt_of_lt_of_le A197.lt zb198)
      have ge_t198 : n0 ≤ t198 := Nat.le_trans (Nat.le_trans Z0 E197.1) zt198
      have sz_t198 : h0.size ≤ t198 := Nat.le_trans ((Keep.refl h0 []).ext E197).1 zt198
      have ge_nb198 : n0 ≤ nb198 := Nat.le_trans (Nat.le_trans Z0 E197.1) zb198
      have sz_nb198 : h0.size ≤ nb198 := Nat.le_trans ((Keep.refl h0 []).ext E197).1 zb198
      refine Rch.via (T' := T198) (g' := (mkF m 130 #[.val (.int p0), .val (.int p1), .val (.int p2), .val (.int p3), .val (.int p4), .val (.int p5), .val (.int x6), .val (.int x7), .val (.int x8), .val (.int x9), .val (.int (4 : Int32)), .val (.int x11), .val (.int x12), .unset, .unset] [(.ref b197)])) st198 ?_
      have hI0 : own_Inv (fun _ => (-1 : Int32)) [] := own_inv0
      have hl0 : ([] : List Int32).length ≤ 0 := Nat.le_refl 0
      refine Rch.of (T' := T198) (g' := (mkF m 132 #[.val (.int p0), .val (.int p1), .val (.int p2), .val (.int p3), .val (.int p4), .val (.int p5), .val (.int x6), .val (.int x7), .val (.int x8), .val (.int x9), .val (.int (4 : Int32)), .val (.int x11), .val (.int x12), .val (.ref b197), .unset] [])) (fun _ kt => XS.astore X198.here hx rfl (hb hby at_130) rfl rfl (l' := #[.val (.int p0), .val (.int p1), .val (.int p2), .val (.int p3), .val (.int p4), .val (.int p5), .val (.int x6), .val (.int x7), .val (.int x8), .val (.int x9), .val (.int (4 : Int32)), .val (.int x11), .val (.int x12), .val (.ref b197), .unset]) rfl kt) ?_
      refine Rch.of (T' := T198) (g' := (mkF m 134 #[.val (.int p0), .val (.int p1), .val (.int p2), .val (.int p3), .val (.int p4), .val (.int p5), .val (.int x6), .val (.int x7), .val (.int x8), .val (.int x9), .val (.int (4 : Int32)), .val (.int x11), .val (.int x12), .val (.ref b197), .unset] [(.int (4 : Int32))])) (fun _ kt => XS.iload X198.here hx rfl (hb hby at_132) rfl  kt) ?_
      refine Rch.of (T' := T198) (g' := (mkF m 137 #[.val (.int p0), .val (.int p1), .val (.int p2), .val (.int p3), .val (.int p4), .val (.int p5), .val (.int x6), .val (.int x7), .val (.int x8), .val (.int x9), .val (.int (4 : Int32)), .val (.int x11), .val (.int x12), .val (.ref b197), .unset] [])) (fun _ kt => XS.ifNo X198.here hx rfl (hb hby at_134) rfl ((if0 _ _).trans (tlt ((by decide) : (0 : Int32) < (4 : Int32))).2.2.2) kt) ?_
      refine Rch.of (T' := T198) (g' := (mkF m 139 #[.val (.int p0), .val (.int p1), .val (.int p2), .val (.int p3), .val (.int p4), .val (.int p5), .val (.int x6), .val (.int x7), .val (.int x8), .val (.int x9), .val (.int (4 : Int32)), .val (.int x11), .val (.int x12), .val (.ref b197), .unset] [(.ref b197)])) (fun _ kt => XS.aload X198.here hx rfl (hb hby at_137) rfl rfl kt) ?_
      refine Rch.of (T' := T198) (g' := (mkF m 141 #[.val (.int p0), .val (.int p1), .val (.int p2), .val (.int p3), .val (.int p4), .val (.int p5), .val (.int x6), .val (.int x7), .val (.int x8), .val (.int x9), .val (.int (4 : Int32)), .val (.int x11), .val (.int x12), .val (.ref b197), .unset] [(.int x6), (.ref b197)])) (fun _ kt => XS.iload X198.here hx rfl (hb hby at_139) rfl  kt) ?_
      obtain ⟨cq199, kq199, q199a, q199b, q199c⟩ := isOf hZ rfl Ex198
      obtain ⟨_, _, ⟨T199, L199, k199, n199⟩, -, X199, ⟨Lc199, hQ199, l199, y199, z199⟩, st199⟩ := X198.virtualBack hx (y := (⟨"com/example/ampliar/ampliar/service/TermNumbering", "add", "(I)I"⟩ : MethodName)) (z := (⟨"com/example/ampliar/ampliar/service/TermNumbering", "add", "(I)I"⟩ : MethodName)) hown (mvT hZ (hw _ (List.mem_of_getElem? (i := 36) rfl))) (mvT hZ (hw _ (List.mem_of_getElem? (i := 37) rfl))) (notFace_of_selects (args := #[]) (mvT hZ (hw _ (List.mem_of_getElem? (i := 39) rfl)))) (mvT hZ (hw _ (List.mem_of_getElem? (i := 39) rfl))) (mvT hZ (hw _ (List.mem_of_getElem? (i := 38) rfl))) (by decide) (backOf (W := 0) (rm8 l Z a0 hw [] b197 x6 t198 nb198 ([] : List Int32).length (fun _ => (-1 : Int32)) (fun _ => (0 : Int32)) T198.heap n0 (Nat.le_trans (Nat.le_trans Z0 E197.1) K198.1) Ex198 Fa198 Fb198 Fc198 Va198 Vb198 ge_b197 ge_t198 ge_nb198 ne_b197_t198 ne_b197_nb198 ne198 (by omega) (own_inv_ok hI0 (by omega) _)) hZ (hw _ (List.mem_of_getElem? (i := 40) rfl)) (hw _ (List.mem_of_getElem? (i := 3) rfl)) (by decide) (by decide)) q199a q199c (g := (mkF m 141 #[.val (.int p0), .val (.int p1), .val (.int p2), .val (.int p3), .val (.int p4), .val (.int p5), .val (.int x6), .val (.int x7), .val (.int x8), .val (.int x9), .val (.int (4 : Int32)), .val (.int x11), .val (.int x12), .val (.ref b197), .unset] [(.int x6), (.ref b197)])) rfl (by rw [hml]; rfl) (Steps.refl _) (argsL := [(.int x6)]) (rest := []) (lenOf pd_4 rfl) rfl (by show 2 * 0 + _ ≤ _; exact Nat.le_of_eq rfl) (hb hby at_141) (fun _ _ => ⟨rfl, rfl, (by decide : 3 + 0 ≤ _), (by decide : 163 + 0 ≤ _)⟩)
      dsimp only [Pt.U, Pt.locs, Pt.cells, Pt.slots] at X199 l199 y199 z199 st199 hQ199
      subst l199 y199 z199
      obtain ⟨rfl, N199q, hQ199⟩ := hQ199
      have N199 := Fr.app N198 N199q
      obtain ⟨zz199, K199, Fa199, Fb199, Fc199, Va199, Vb199⟩ := hQ199
      have Fb200 := ((((Keep.refl h0 []).ext E197).trans K198 (allS (Or.inr sz_b197) all0)).trans K199 (allS (Or.inr sz_b197) (allS (Or.inr sz_t198) (allS (Or.inr sz_nb198) all0))))
      have hI199 := own_inv_add hI0 (p := x6) (own_nn h6) (by omega) rfl
      obtain ⟨y199, hy199⟩ : ∃ z, z = own_addY (fun _ => (-1 : Int32)) ([] : List Int32).length x6 := ⟨_, rfl⟩
      obtain ⟨ks199, hks199⟩ : ∃ z, z = own_addL ([] : List Int32) x6 := ⟨_, rfl⟩
      rw [own_len_eq hI0 (own_nn h6) (by omega), ← hks199] at Fc199
      rw [← hy199] at hI199 Va199
      rw [← hks199] at hI199
      have hl199 : ks199.length ≤ 1 := by rw [hks199]; exact Nat.le_trans (own_addL_len _ _) (by omega)
      refine Rch.via (T' := T199) (g' := (mkF m 144 #[.val (.int p0), .val (.int p1), .val (.int p2), .val (.int p3), .val (.int p4), .val (.int p5), .val (.int x6), .val (.int x7), .val (.int x8), .val (.int x9), .val (.int (4 : Int32)), .val (.int x11), .val (.int x12), .val (.ref b197), .unset] [(.int (own_addV (fun _ => (-1 : Int32)) ([] : List Int32).length x6))])) st199 ?_
      refine Rch.of (T' := T199) (g' := (mkF m 145 #[.val (.int p0), .val (.int p1), .val (.int p2), .val (.int p3), .val (.int p4), .val (.int p5), .val (.int x6), .val (.int x7), .val (.int x8), .val (.int x9), .val (.int (4 : Int32)), .val (.int x11), .val (.int x12), .val (.ref b197), .unset] [])) (fun _ kt => XS.pop X199.here hx rfl (hb hby at_144) rfl rfl kt) ?_
      refine Rch.of (T' := T199) (g' := (mkF m 147 #[.val (.int p0), .val (.int p1), .val (.int p2), .val (.int p3), .val (.int p4), .val (.int p5), .val (.int x6), .val (.int x7), .val (.int x8), .val (.int x9), .val (.int (4 : Int32)), .val (.int x11), .val (.int x12), .val (.ref b197), .unset] [(.int (4 : Int32))])) (fun _ kt => XS.iload X199.here hx rfl (hb hby at_145) rfl  kt) ?_
      refine Rch.of (T' := T199) (g' := (mkF m 148 #[.val (.int p0), .val (.int p1), .val (.int p2), .val (.int p3), .val (.int p4), .val (.int p5), .val (.int x6), .val (.int x7), .val (.int x8), .val (.int x9), .val (.int (4 : Int32)), .val (.int x11), .val (.int x12), .val (.ref b197), .unset] [(.int (1 : Int32)), (.int (4 : Int32))])) (fun _ kt => XS.iconst X199.here hx rfl (hb hby at_147) kt) ?_
      refine Rch.of (T' := T199) (g' := (mkF m 151 #[.val (.int p0), .val (.int p1), .val (.int p2), .val (.int p3), .val (.int p4), .val (.int p5), .val (.int x6), .val (.int x7), .val (.int x8), .val (.int x9), .val (.int (4 : Int32)), .val (.int x11), .val (.int x12), .val (.ref b197), .unset] [])) (fun _ kt => XS.icmpNo X199.here hx rfl (hb hby at_148) rfl (tlt ((by decide) : (1 : Int32) < (4 : Int32))).2.2.2 kt) ?_
      refine Rch.of (T' := T199) (g' := (mkF m 153 #[.val (.int p0), .val (.int p1), .val (.int p2), .val (.int p3), .val (.int p4), .val (.int p5), .val (.int x6), .val (.int x7), .val (.int x8), .val (.int x9), .val (.int (4 : Int32)), .val (.int x11), .val (.int x12), .val (.ref b197), .unset] [(.ref b197)])) (fun _ kt => XS.aload X199.here hx rfl (hb hby at_151) rfl rfl kt) ?_
      refine Rch.of (T' := T199) (g' := (mkF m 155 #[.val (.int p0), .val (.int p1), .val (.int p2), .val (.int p3), .val (.int p4), .val (.int p5), .val (.int x6), .val (.int x7), .val (.int x8), .val (.int x9), .val (.int (4 : Int32)), .val (.int x11), .val (.int x12), .val (.ref b197), .unset] [(.int x7), (.ref b197)])) (fun _ kt => XS.iload X199.here hx rfl (hb hby at_153) rfl  kt) ?_
      obtain ⟨cq201, kq201, q201a, q201b, q201c⟩ := isOf hZ rfl (Ex198.keep K199)
      obtain ⟨_, _, ⟨T201, L201, k201, n201⟩, -, X201, ⟨Lc201, hQ201, l201, y201, z201⟩, st201⟩ := X199.virtualBack hx (y := (⟨"com/example/ampliar/ampliar/service/TermNumbering", "add", "(I)I"⟩ : MethodName)) (z := (⟨"com/example/ampliar/ampliar/service/TermNumbering", "add", "(I)I"⟩ : MethodName)) hown (mvT hZ (hw _ (List.mem_of_getElem? (i := 36) rfl))) (mvT hZ (hw _ (List.mem_of_getElem? (i := 37) rfl))) (notFace_of_selects (args := #[]) (mvT hZ (hw _ (List.mem_of_getElem? (i := 39) rfl)))) (mvT hZ (hw _ (List.mem_of_getElem? (i := 39) rfl))) (mvT hZ (hw _ (List.mem_of_getElem? (i := 38) rfl))) (by decide) (backOf (W := 0) (rm8 l Z a0 hw [] b197 x7 t198 nb198 ks199.length y199 zz199 T199.heap n0 (Nat.le_trans (Nat.le_trans (Nat.le_trans Z0 E197.1) K198.1) K199.1) (Ex198.keep K199) Fa199 Fb199 Fc199 Va199 Vb199 ge_b197 ge_t198 ge_nb198 ne_b197_t198 ne_b197_nb198 ne198 (by omega) (own_inv_ok hI199 (by omega) _)) hZ (hw _ (List.mem_of_getElem? (i := 40) rfl)) (hw _ (List.mem_of_getElem? (i := 3) rfl)) (by decide) (by decide)) q201a q201c (g := (mkF m 155 #[.val (.int p0), .val (.int p1), .val (.int p2), .val (.int p3), .val (.int p4), .val (.int p5), .val (.int x6), .val (.int x7), .val (.int x8), .val (.int x9), .val (.int (4 : Int32)), .val (.int x11), .val (.int x12), .val (.ref b197), .unset] [(.int x7), (.ref b197)])) rfl (by rw [hml]; rfl) (Steps.refl _) (argsL := [(.int x7)]) (rest := []) (lenOf pd_4 rfl) rfl (by show 2 * 0 + _ ≤ _; exact Nat.le_of_eq rfl) (hb hby at_155) (fun _ _ => ⟨rfl, rfl, (by decide : 3 + 0 ≤ _), (by decide : 163 + 0 ≤ _)⟩)
      dsimp only [Pt.U, Pt.locs, Pt.cells, Pt.slots] at X201 l201 y201 z201 st201 hQ201
      subst l201 y201 z201
      obtain ⟨rfl, N201q, hQ201⟩ := hQ201
      have N201 := Fr.app N199 N201q
      obtain ⟨zz201, K201, Fa201, Fb201, Fc201, Va201, Vb201⟩ := hQ201
      have hI201 := own_inv_add hI199 (p := x7) (own_nn h7) (by omega) rfl
      obtain ⟨y201, hy201⟩ : ∃ z, z = own_addY y199 ks199.length x7 := ⟨_, rfl⟩
      obtain ⟨ks201, hks201⟩ : ∃ z, z = own_addL ks199 x7 := ⟨_, rfl⟩
      rw [own_len_eq hI199 (own_nn h7) (by omega), ← hks201] at Fc201
      rw [← hy201] at hI201 Va201
      rw [← hks201] at hI201
      have hl201 : ks201.length ≤ 2 := by rw [hks201]; exact Nat.le_trans (own_addL_len _ _) (by omega)
      refine Rch.via (T' := T201) (g' := (mkF m 158 #[.val (.int p0), .val (.int p1), .val (.int p2), .val (.int p3), .val (.int p4), .val (.int p5), .val (.int x6), .val (.int x7), .val (.int x8), .val (.int x9), .val (.int (4 : Int32)), .val (.int x11), .val (.int x12), .val (.ref b197), .unset] [(.int (own_addV y199 ks199.length x7))])) st201 ?_
      refine Rch.of (T' := T201) (g' := (mkF m 159 #[.val (.int p0), .val (.int p1), .val (.int p2), .val (.int p3), .val (.int p4), .val (.int p5), .val (.int x6), .val (.int x7), .val (.int x8), .val (.int x9), .val (.int (4 : Int32)), .val (.int x11), .val (.int x12), .val (.ref b197), .unset] [])) (fun _ kt => XS.pop X201.here hx rfl (hb hby at_158) rfl rfl kt) ?_
      refine Rch.of (T' := T201) (g' := (mkF m 161 #[.val (.int p0), .val (.int p1), .val (.int p2), .val (.int p3), .val (.int p4), .val (.int p5), .val (.int x6), .val (.int x7), .val (.int x8), .val (.int x9), .val (.int (4 : Int32)), .val (.int x11), .val (.int x12), .val (.ref b197), .unset] [(.int (4 : Int32))])) (fun _ kt => XS.iload X201.here hx rfl (hb hby at_159) rfl  kt) ?_
      refine Rch.of (T' := T201) (g' := (mkF m 162 #[.val (.int p0), .val (.int p1), .val (.int p2), .val (.int p3), .val (.int p4), .val (.int p5), .val (.int x6), .val (.int x7), .val (.int x8), .val (.int x9), .val (.int (4 : Int32)), .val (.int x11), .val (.int x12), .val (.ref b197), .unset] [(.int (2 : Int32)), (.int (4 : Int32))])) (fun _ kt => XS.iconst X201.here hx rfl (hb hby at_161) kt) ?_
      refine Rch.of (T' := T201) (g' := (mkF m 165 #[.val (.int p0), .val (.int p1), .val (.int p2), .val (.int p3), .val (.int p4), .val (.int p5), .val (.int x6), .val (.int x7), .val (.int x8), .val (.int x9), .val (.int (4 : Int32)), .val (.int x11), .val (.int x12), .val (.ref b197), .unset] [])) (fun _ kt => XS.icmpNo X201.here hx rfl (hb hby at_162) rfl (tlt ((by decide) : (2 : Int32) < (4 : Int32))).2.2.2 kt) ?_
      refine Rch.of (T' := T201) (g' := (mkF m 167 #[.val (.int p0), .val (.int p1), .val (.int p2), .val (.int p3), .val (.int p4), .val (.int p5), .val (.int x6), .val (.int x7), .val (.int x8), .val (.int x9), .val (.int (4 : Int32)), .val (.int x11), .val (.int x12), .val (.ref b197), .unset] [(.ref b197)])) (fun _ kt => XS.aload X201.here hx rfl (hb hby at_165) rfl rfl kt) ?_
      refine Rch.of (T' := T201) (g' := (mkF m 169 #[.val (.int p0), .val (.int p1), .val (.int p2), .val (.int p3), .val (.int p4), .val (.int p5), .val (.int x6), .val (.int x7), .val (.int x8), .val (.int x9), .val (.int (4 : Int32)), .val (.int x11), .val (.int x12), .val (.ref b197), .unset] [(.int x8), (.ref b197)])) (fun _ kt => XS.iload X201.here hx rfl (hb hby at_167) rfl  kt) ?_
      obtain ⟨cq202, kq202, q202a, q202b, q202c⟩ := isOf hZ rfl ((Ex198.keep K199).keep K201)
      obtain ⟨_, _, ⟨T202, L202, k202, n202⟩, -, X202, ⟨Lc202, hQ202, l202, y202, z202⟩, st202⟩ := X201.virtualBack hx (y := (⟨"com/example/ampliar/ampliar/service/TermNumbering", "add", "(I)I"⟩ : MethodName)) (z := (⟨"com/example/ampliar/ampliar/service/TermNumbering", "add", "(I)I"⟩ : MethodName)) hown (mvT hZ (hw _ (List.mem_of_getElem? (i := 36) rfl))) (mvT hZ (hw _ (List.mem_of_getElem? (i := 37) rfl))) (notFace_of_selects (args := #[]) (mvT hZ (hw _ (List.mem_of_getElem? (i := 39) rfl)))) (mvT hZ (hw _ (List.mem_of_getElem? (i := 39) rfl))) (mvT hZ (hw _ (List.mem_of_getElem? (i := 38) rfl))) (by decide) (backOf (W := 0) (rm8 l Z a0 hw [] b197 x8 t198 nb198 ks201.length y201 zz201 T201.heap n0 (Nat.le_trans (Nat.le_trans (Nat.le_trans (Nat.le_trans Z0 E197.1) K198.1) K199.1) K201.1) ((Ex198.keep K199).keep K201) Fa201 Fb201 Fc201 Va201 Vb201 ge_b197 ge_t198 ge_nb198 ne_b197_t198 ne_b197_nb198 ne198 (by omega) (own_inv_ok hI201 (by omega) _)) hZ (hw _ (List.mem_of_getElem? (i := 40) rfl)) (hw _ (List.mem_of_getElem? (i := 3) rfl)) (by decide) (by decide)) q202a q202c (g := (mkF m 169 #[.val (.int p0), .val (.int p1), .val (.int p2), .val (.int p3), .val (.int p4), .val (.int p5), .val (.int x6), .val (.int x7), .val (.int x8), .val (.int x9), .val (.int (4 : Int32)), .val (.int x11), .val (.int x12), .val (.ref b197), .unset] [(.int x8), (.ref b197)])) rfl (by rw [hml]; rfl) (Steps.refl _) (argsL := [(.int x8)]) (rest := []) (lenOf pd_4 rfl) rfl (by show 2 * 0 + _ ≤ _; exact Nat.le_of_eq rfl) (hb hby at_169) (fun _ _ => ⟨rfl, rfl, (by decide : 3 + 0 ≤ _), (by decide : 163 + 0 ≤ _)⟩)
      dsimp only [Pt.U, Pt.locs, Pt.cells, Pt.slots] at X202 l202 y202 z202 st202 hQ202
      subst l202 y202 z202
      obtain ⟨rfl, N202q, hQ202⟩ := hQ202
      have N202 := Fr.app N201 N202q
      obtain ⟨zz202, K202, Fa202, Fb202, Fc202, Va202, Vb202⟩ := hQ202
      have Fb203 := ((Fb200.trans K201 (allS (Or.inr sz_b197) (allS (Or.inr sz_t198) (allS (Or.inr sz_nb198) all0)))).trans K202 (allS (Or.inr sz_b197) (allS (Or.inr sz_t198) (allS (Or.inr sz_nb198) all0))))
      have hI202 := own_inv_add hI201 (p := x8) (own_nn h8) (by omega) rfl
      obtain ⟨y202, hy202⟩ : ∃ z, z = own_addY y201 ks201.length x8 := ⟨_, rfl⟩
      obtain ⟨ks202, hks202⟩ : ∃ z, z = own_addL ks201 x8 := ⟨_, rfl⟩
      rw [own_len_eq hI201 (own_nn h8) (by omega), ← hks202] at Fc202
      rw [← hy202] at hI202 Va202
      rw [← hks202] at hI202
      have hl202 : ks202.length ≤ 3 := by rw [hks202]; exact Nat.le_trans (own_addL_len _ _) (by omega)
      refine Rch.via (T' := T202) (g' := (mkF m 172 #[.val (.int p0), .val (.int p1), .val (.int p2), .val (.int p3), .val (.int p4), .val (.int p5), .val (.int x6), .val (.int x7), .val (.int x8), .val (.int x9), .val (.int (4 : Int32)), .val (.int x11), .val (.int x12), .val (.ref b197), .unset] [(.int (own_addV y201 ks201.length x8))])) st202 ?_
      refine Rch.of (T' := T202) (g' := (mkF m 173 #[.val (.int p0), .val (.int p1), .val (.int p2), .val (.int p3), .val (.int p4), .val (.int p5), .val (.int x6), .val (.int x7), .val (.int x8), .val (.int x9), .val (.int (4 : Int32)), .val (.int x11), .val (.int x12), .val (.ref b197), .unset] [])) (fun _ kt => XS.pop X202.here hx rfl (hb hby at_172) rfl rfl kt) ?_
      refine Rch.of (T' := T202) (g' := (mkF m 175 #[.val (.int p0), .val (.int p1), .val (.int p2), .val (.int p3), .val (.int p4), .val (.int p5), .val (.int x6), .val (.int x7), .val (.int x8), .val (.int x9), .val (.int (4 : Int32)), .val (.int x11), .val (.int x12), .val (.ref b197), .unset] [(.int (4 : Int32))])) (fun _ kt => XS.iload X202.here hx rfl (hb hby at_173) rfl  kt) ?_
      refine Rch.of (T' := T202) (g' := (mkF m 176 #[.val (.int p0), .val (.int p1), .val (.int p2), .val (.int p3), .val (.int p4), .val (.int p5), .val (.int x6), .val (.int x7), .val (.int x8), .val (.int x9), .val (.int (4 : Int32)), .val (.int x11), .val (.int x12), .val (.ref b197), .unset] [(.int (3 : Int32)), (.int (4 : Int32))])) (fun _ kt => XS.iconst X202.here hx rfl (hb hby at_175) kt) ?_
      refine Rch.of (T' := T202) (g' := (mkF m 179 #[.val (.int p0), .val (.int p1), .val (.int p2), .val (.int p3), .val (.int p4), .val (.int p5), .val (.int x6), .val (.int x7), .val (.int x8), .val (.int x9), .val (.int (4 : Int32)), .val (.int x11), .val (.int x12), .val (.ref b197), .unset] [])) (fun _ kt => XS.icmpNo X202.here hx rfl (hb hby at_176) rfl (tlt ((by decide) : (3 : Int32) < (4 : Int32))).2.2.2 kt) ?_
      refine Rch.of (T' := T202) (g' := (mkF m 181 #[.val (.int p0), .val (.int p1), .val (.int p2), .val (.int p3), .val (.int p4), .val (.int p5), .val (.int x6), .val (.int x7), .val (.int x8), .val (.int x9), .val (.int (4 : Int32)), .val (.int x11), .val (.int x12), .val (.ref b197), .unset] [(.ref b197)])) (fun _ kt => XS.aload X202.here hx rfl (hb hby at_179) rfl rfl kt) ?_
      refine Rch.of (T' := T202) (g' := (mkF m 183 #[.val (.int p0), .val (.int p1), .val (.int p2), .val (.int p3), .val (.int p4), .val (.int p5), .val (.int x6), .val (.int x7), .val (.int x8), .val (.int x9), .val (.int (4 : Int32)), .val (.int x11), .val (.int x12), .val (.ref b197), .unset] [(.int x9), (.ref b197)])) (fun _ kt => XS.iload X202.here hx rfl (hb hby at_181) rfl  kt) ?_
      obtain ⟨cq204, kq204, q204a, q204b, q204c⟩ := isOf hZ rfl (((Ex198.keep K199).keep K201).keep K202)
      obtain ⟨_, _, ⟨T204, L204, k204, n204⟩, -, X204, ⟨Lc204, hQ204, l204, y204, z204⟩, st204⟩ := X202.virtualBack hx (y := (⟨"com/example/ampliar/ampliar/service/TermNumbering", "add", "(I)I"⟩ : MethodName)) (z := (⟨"com/example/ampliar/ampliar/service/TermNumbering", "add", "(I)I"⟩ : MethodName)) hown (mvT hZ (hw _ (List.mem_of_getElem? (i := 36) rfl))) (mvT hZ (hw _ (List.mem_of_getElem? (i := 37) rfl))) (notFace_of_selects (args := #[]) (mvT hZ (hw _ (List.mem_of_getElem? (i := 39) rfl)))) (mvT hZ (hw _ (List.mem_of_getElem? (i := 39) rfl))) (mvT hZ (hw _ (List.mem_of_getElem? (i := 38) rfl))) (by decide) (backOf (W := 0) (rm8 l Z a0 hw [] b197 x9 t198 nb198 ks202.length y202 zz202 T202.heap n0 (Nat.le_trans (Nat.le_trans (Nat.le_trans (Nat.le_trans (Nat.le_trans Z0 E197.1) K198.1) K199.1) K201.1) K202.1) (((Ex198.keep K199).keep K201).keep K202) Fa202 Fb202 Fc202 Va202 Vb202 ge_b197 ge_t198 ge_nb198 ne_b197_t198 ne_b197_nb198 ne198 (by omega) (own_inv_ok hI202 (by omega) _)) hZ (hw _ (List.mem_of_getElem? (i := 40) rfl)) (hw _ (List.mem_of_getElem? (i := 3) rfl)) (by decide) (by decide)) q204a q204c (g := (mkF m 183 #[.val (.int p0), .val (.int p1), .val (.int p2), .val (.int p3), .val (.int p4), .val (.int p5), .val (.int x6), .val (.int x7), .val (.int x8), .val (.int x9), .val (.int (4 : Int32)), .val (.int x11), .val (.int x12), .val (.ref b197), .unset] [(.int x9), (.ref b197)])) rfl (by rw [hml]; rfl) (Steps.refl _) (argsL := [(.int x9)]) (rest := []) (lenOf pd_4 rfl) rfl (by show 2 * 0 + _ ≤ _; exact Nat.le_of_eq rfl) (hb hby at_183) (fun _ _ => ⟨rfl, rfl, (by decide : 3 + 0 ≤ _), (by decide : 163 + 0 ≤ _)⟩)
      dsimp only [Pt.U, Pt.locs, Pt.cells, Pt.slots] at X204 l204 y204 z204 st204 hQ204
      subst l204 y204 z204
      obtain ⟨rfl, N204q, hQ204⟩ := hQ204
      have N204 := Fr.app N202 N204q
      obtain ⟨zz204, K204, Fa204, Fb204, Fc204, Va204, Vb204⟩ := hQ204
      have hI204 := own_inv_add hI202 (p := x9) (own_nn h9) (by omega) rfl
      obtain ⟨y204, hy204⟩ : ∃ z, z = own_addY y202 ks202.length x9 := ⟨_, rfl⟩
      obtain ⟨ks204, hks204⟩ : ∃ z, z = own_addL ks202 x9 := ⟨_, rfl⟩
      rw [own_len_eq hI202 (own_nn h9) (by omega), ← hks204] at Fc204
      rw [← hy204] at hI204 Va204
      rw [← hks204] at hI204
      have hl204 : ks204.length ≤ 4 := by rw [hks204]; exact Nat.le_trans (own_addL_len _ _) (by omega)
      refine Rch.via (T' := T204) (g' := (mkF m 186 #[.val (.int p0), .val (.int p1), .val (.int p2), .val (.int p3), .val (.int p4), .val (.int p5), .val (.int x6), .val (.int x7), .val (.int x8), .val (.int x9), .val (.int (4 : Int32)), .val (.int x11), .val (.int x12), .val (.ref b197), .unset] [(.int (own_addV y202 ks202.length x9))])) st204 ?_
      refine Rch.of (T' := T204) (g' := (mkF m 187 #[.val (.int p0), .val (.int p1), .val (.int p2), .val (.int p3), .val (.int p4), .val (.int p5), .val (.int x6), .val (.int x7), .val (.int x8), .val (.int x9), .val (.int (4 : Int32)), .val (.int x11), .val (.int x12), .val (.ref b197), .unset] [])) (fun _ kt => XS.pop X204.here hx rfl (hb hby at_186) rfl rfl kt) ?_
      refine Rch.of (T' := T204) (g' := (mkF m 189 #[.val (.int p0), .val (.int p1), .val (.int p2), .val (.int p3), .val (.int p4), .val (.int p5), .val (.int x6), .val (.int x7), .val (.int x8), .val (.int x9), .val (.int (4 : Int32)), .val (.int x11), .val (.int x12), .val (.ref b197), .unset] [(.int (4 : Int32))])) (fun _ kt => XS.iload X204.here hx rfl (hb hby at_187) rfl  kt) ?_
      refine Rch.of (T' := T204) (g' := (mkF m 191 #[.val (.int p0), .val (.int p1), .val (.int p2), .val (.int p3), .val (.int p4), .val (.int p5), .val (.int x6), .val (.int x7), .val (.int x8), .val (.int x9), .val (.int (4 : Int32)), .val (.int x11), .val (.int x12), .val (.ref b197), .unset] [(.int x6), (.int (4 : Int32))])) (fun _ kt => XS.iload X204.here hx rfl (hb hby at_189) rfl  kt) ?_
      refine Rch.of (T' := T204) (g' := (mkF m 193 #[.val (.int p0), .val (.int p1), .val (.int p2), .val (.int p3), .val (.int p4), .val (.int p5), .val (.int x6), .val (.int x7), .val (.int x8), .val (.int x9), .val (.int (4 : Int32)), .val (.int x11), .val (.int x12), .val (.ref b197), .unset] [(.int x7), (.int x6), (.int (4 : Int32))])) (fun _ kt => XS.iload X204.here hx rfl (hb hby at_191) rfl  kt) ?_
      refine Rch.of (T' := T204) (g' := (mkF m 195 #[.val (.int p0), .val (.int p1), .val (.int p2), .val (.int p3), .val (.int p4), .val (.int p5), .val (.int x6), .val (.int x7), .val (.int x8), .val (.int x9), .val (.int (4 : Int32)), .val (.int x11), .val (.int x12), .val (.ref b197), .unset] [(.int x8), (.int x7), (.int x6), (.int (4 : Int32))])) (fun _ kt => XS.iload X204.here hx rfl (hb hby at_193) rfl  kt) ?_
      refine Rch.of (T' := T204) (g' := (mkF m 197 #[.val (.int p0), .val (.int p1), .val (.int p2), .val (.int p3), .val (.int p4), .val (.int p5), .val (.int x6), .val (.int x7), .val (.int x8), .val (.int x9), .val (.int (4 : Int32)), .val (.int x11), .val (.int x12), .val (.ref b197), .unset] [(.int x9), (.int x8), (.int x7), (.int x6), (.int (4 : Int32))])) (fun _ kt => XS.iload X204.here hx rfl (hb hby at_195) rfl  kt) ?_
      refine Rch.of (T' := T204) (g' := (mkF m 199 #[.val (.int p0), .val (.int p1), .val (.int p2), .val (.int p3), .val (.int p4), .val (.int p5), .val (.int x6), .val (.int x7), .val (.int x8), .val (.int x9), .val (.int (4 : Int32)), .val (.int x11), .val (.int x12), .val (.ref b197), .unset] [(.int x12), (.int x9), (.int x8), (.int x7), (.int x6), (.int (4 : Int32))])) (fun _ kt => XS.iload X204.here hx rfl (hb hby at_197) rfl  kt) ?_
      obtain ⟨_, _, ⟨T205, L205, k205, n205⟩, -, X205, ⟨Lc205, hQ205, l205, y205, z205⟩, st205⟩ := Jvm.LawKit.callS X204 hx (y := (⟨"com/example/ampliar/ampliar/service/TermNumberingFindPinLaw", "expected", "(IIIIII)I"⟩ : MethodName)) hown (mvT hZ (hw _ (List.mem_of_getElem? (i := 22) rfl))) (mvT hZ (hw _ (List.mem_of_getElem? (i := 23) rfl))) (mvT hZ (hw _ (List.mem_of_getElem? (i := 24) rfl))) (mvT hZ (hw _ (List.mem_of_getElem? (i := 25) rfl))) (by decide) (backOf (W := 0) (rm5 l Z a0 hw [] (4 : Int32) x6 x7 x8 x9 x12 T204.heap n0 (Nat.le_trans (Nat.le_trans (Nat.le_trans (Nat.le_trans (Nat.le_trans (Nat.le_trans Z0 E197.1) K198.1) K199.1) K201.1) K202.1) K204.1) ) hZ (hw _ (List.mem_of_getElem? (i := 25) rfl)) (hw _ (List.mem_of_getElem? (i := 24) rfl)) (by decide) (by decide)) (g := (mkF m 199 #[.val (.int p0), .val (.int p1), .val (.int p2), .val (.int p3), .val (.int p4), .val (.int p5), .val (.int x6), .val (.int x7), .val (.int x8), .val (.int x9), .val (.int (4 : Int32)), .val (.int x11), .val (.int x12), .val (.ref b197), .unset] [(.int x12), (.int x9), (.int x8), (.int x7), (.int x6), (.int (4 : Int32))])) rfl (by rw [hml]; rfl) (argsL := [(.int (4 : Int32)), (.int x6), (.int x7), (.int x8), (.int x9), (.int x12)]) (rest := []) (lenOf pd_3 rfl) rfl (by show 2 * 0 + _ ≤ _; exact Nat.le_of_eq rfl) (hb hby at_199) (fun _ _ => ⟨rfl, rfl, (by decide : 3 + 0 ≤ _), (by decide : 163 + 0 ≤ _)⟩)
      dsimp only [Pt.U, Pt.locs, Pt.cells, Pt.slots] at X205 l205 y205 z205 st205 hQ205
      subst l205 y205 z205
      obtain ⟨rfl, N205q, hQ205⟩ := hQ205
      have N205 := Fr.app N204 N205q
      refine Rch.of (T' := T205) (g' := (mkF m 202 #[.val (.int p0), .val (.int p1), .val (.int p2), .val (.int p3), .val (.int p4), .val (.int p5), .val (.int x6), .val (.int x7), .val (.int x8), .val (.int x9), .val (.int (4 : Int32)), .val (.int x11), .val (.int x12), .val (.ref b197), .unset] [(.int (own_exp (4 : Int32) x6 x7 x8 x9 x12))])) st205 ?_
      refine Rch.of (T' := T205) (g' := (mkF m 204 #[.val (.int p0), .val (.int p1), .val (.int p2), .val (.int p3), .val (.int p4), .val (.int p5), .val (.int x6), .val (.int x7), .val (.int x8), .val (.int x9), .val (.int (4 : Int32)), .val (.int x11), .val (.int x12), .val (.ref b197), .val (.int (own_exp (4 : Int32) x6 x7 x8 x9 x12))] [])) (fun _ kt => XS.istore X205.here hx rfl (hb hby at_202) rfl (l' := #[.val (.int p0), .val (.int p1), .val (.int p2), .val (.int p3), .val (.int p4), .val (.int p5), .val (.int x6), .val (.int x7), .val (.int x8), .val (.int x9), .val (.int (4 : Int32)), .val (.int x11), .val (.int x12), .val (.ref b197), .val (.int (own_exp (4 : Int32) x6 x7 x8 x9 x12))]) rfl kt) ?_
      refine Rch.of (T' := T205) (g' := (mkF m 206 #[.val (.int p0), .val (.int p1), .val (.int p2), .val (.int p3), .val (.int p4), .val (.int p5), .val (.int x6), .val (.int x7), .val (.int x8), .val (.int x9), .val (.int (4 : Int32)), .val (.int x11), .val (.int x12), .val (.ref b197), .val (.int (own_exp (4 : Int32) x6 x7 x8 x9 x12))] [(.ref b197)])) (fun _ kt => XS.aload X205.here hx rfl (hb hby at_204) rfl rfl kt) ?_
      refine Rch.of (T' := T205) (g' := (mkF m 208 #[.val (.int p0), .val (.int p1), .val (.int p2), .val (.int p3), .val (.int p4), .val (.int p5), .val (.int x6), .val (.int x7), .val (.int x8), .val (.int x9), .val (.int (4 : Int32)), .val (.int x11), .val (.int x12), .val (.ref b197), .val (.int (own_exp (4 : Int32) x6 x7 x8 x9 x12))] [(.int x12), (.ref b197)])) (fun _ kt => XS.iload X205.here hx rfl (hb hby at_206) rfl  kt) ?_
      obtain ⟨cq206, kq206, q206a, q206b, q206c⟩ := isOf hZ hQ205 ((((Ex198.keep K199).keep K201).keep K202).keep K204)
      obtain ⟨_, _, ⟨T206, L206, k206, n206⟩, -, X206, ⟨Lc206, hQ206, l206, y206, z206⟩, st206⟩ := X205.virtualBack hx (y := (⟨"com/example/ampliar/ampliar/service/TermNumbering", "find", "(I)I"⟩ : MethodName)) (z := (⟨"com/example/ampliar/ampliar/service/TermNumbering", "find", "(I)I"⟩ : MethodName)) hown (mvT hZ (hw _ (List.mem_of_getElem? (i := 26) rfl))) (mvT hZ (hw _ (List.mem_of_getElem? (i := 27) rfl))) (notFace_of_selects (args := #[]) (mvT hZ (hw _ (List.mem_of_getElem? (i := 29) rfl)))) (mvT hZ (hw _ (List.mem_of_getElem? (i := 29) rfl))) (mvT hZ (hw _ (List.mem_of_getElem? (i := 28) rfl))) (by decide) (backOf (W := 0) (rm6 l Z a0 hw [] b197 x12 t198 y204 T204.heap n0 (Nat.le_trans (Nat.le_trans (Nat.le_trans (Nat.le_trans (Nat.le_trans (Nat.le_trans Z0 E197.1) K198.1) K199.1) K201.1) K202.1) K204.1) ((((Ex198.keep K199).keep K201).keep K202).keep K204) Fa204 Va204 (own_inv_ok hI204 (by omega) _)) hZ (hw _ (List.mem_of_getElem? (i := 30) rfl)) (hw _ (List.mem_of_getElem? (i := 3) rfl)) (by decide) (by decide)) q206a q206c (g := (mkF m 208 #[.val (.int p0), .val (.int p1), .val (.int p2), .val (.int p3), .val (.int p4), .val (.int p5), .val (.int x6), .val (.int x7), .val (.int x8), .val (.int x9), .val (.int (4 : Int32)), .val (.int x11), .val (.int x12), .val (.ref b197), .val (.int (own_exp (4 : Int32) x6 x7 x8 x9 x12))] [(.int x12), (.ref b197)])) rfl (by rw [hml]; rfl) (Steps.refl _) (argsL := [(.int x12)]) (rest := []) (lenOf pd_4 rfl) rfl (by show 2 * 0 + _ ≤ _; exact Nat.le_of_eq rfl) (hb hby at_208) (fun _ _ => ⟨rfl, hQ205, (by decide : 3 + 0 ≤ _), (by decide : 163 + 0 ≤ _)⟩)
      dsimp only [Pt.U, Pt.locs, Pt.cells, Pt.slots] at X206 l206 y206 z206 st206 hQ206
      subst l206 y206 z206
      obtain ⟨rfl, N206q, hQ206⟩ := hQ206
      have N206 := Fr.app N205 N206q
      refine Rch.via (T' := T206) (g' := (mkF m 211 #[.val (.int p0), .val (.int p1), .val (.int p2), .val (.int p3), .val (.int p4), .val (.int p5), .val (.int x6), .val (.int x7), .val (.int x8), .val (.int x9), .val (.int (4 : Int32)), .val (.int x11), .val (.int x12), .val (.ref b197), .val (.int (own_exp (4 : Int32) x6 x7 x8 x9 x12))] [(.int (own_find y204 x12))])) st206 ?_
      refine Rch.of (T' := T206) (g' := (mkF m 213 #[.val (.int p0), .val (.int p1), .val (.int p2), .val (.int p3), .val (.int p4), .val (.int p5), .val (.int x6), .val (.int x7), .val (.int x8), .val (.int x9), .val (.int (4 : Int32)), .val (.int x11), .val (.int x12), .val (.ref b197), .val (.int (own_exp (4 : Int32) x6 x7 x8 x9 x12))] [(.int (own_exp (4 : Int32) x6 x7 x8 x9 x12)), (.int (own_find y204 x12))])) (fun _ kt => XS.iload X206.here hx rfl (hb hby at_211) rfl  kt) ?_
      have hfin : (own_find y204 x12) = (own_exp (4 : Int32) x6 x7 x8 x9 x12) := by
        rw [own_find_eq hI204 (by omega), hks204, hks202, hks201, hks199]
        exact own_join4 _ _ _ _ _
      refine Rch.of (T' := T206) (g' := (mkF m 216 #[.val (.int p0), .val (.int p1), .val (.int p2), .val (.int p3), .val (.int p4), .val (.int p5), .val (.int x6), .val (.int x7), .val (.int x8), .val (.int x9), .val (.int (4 : Int32)), .val (.int x11), .val (.int x12), .val (.ref b197), .val (.int (own_exp (4 : Int32) x6 x7 x8 x9 x12))] [])) (fun _ kt => XS.icmpNo X206.here hx rfl (hb hby at_213) rfl (teq hfin).2 kt) ?_
      refine Rch.of (T' := T206) (g' := (mkF m 217 #[.val (.int p0), .val (.int p1), .val (.int p2), .val (.int p3), .val (.int p4), .val (.int p5), .val (.int x6), .val (.int x7), .val (.int x8), .val (.int x9), .val (.int (4 : Int32)), .val (.int x11), .val (.int x12), .val (.ref b197), .val (.int (own_exp (4 : Int32) x6 x7 x8 x9 x12))] [(.int (1 : Int32))])) (fun _ kt => XS.iconst X206.here hx rfl (hb hby at_216) kt) ?_
      refine Rch.of (T' := T206) (g' := (mkF m 221 #[.val (.int p0), .val (.int p1), .val (.int p2), .val (.int p3), .val (.int p4), .val (.int p5), .val (.int x6), .val (.int x7), .val (.int x8), .val (.int x9), .val (.int (4 : Int32)), .val (.int x11), .val (.int x12), .val (.ref b197), .val (.int (own_exp (4 : Int32) x6 x7 x8 x9 x12))] [(.int (1 : Int32))])) (fun _ kt => XS.goto X206.here hx rfl (pc0 := 217) (pc' := 221) rfl (hb hby at_217) (by decide) (by decide) kt) ?_
      exact Rch.retN X206 hx (t := .boolean) hret (by simp) hlk (hb hby at_221) (fun U hU hF => hK _ U _ _ _ (by show Q_rm0 Z p0 p1 p2 p3 p4 p5 h0 n0 _ U.heap _; rw [hU, hQ206]; exact ⟨rfl, N206, trivial⟩) hF (by decide) (by decide))
  refine Rch.of (T' := T0) (g' := (mkF m 1 #[.val (.int p0), .val (.int p1), .val (.int p2), .val (.int p3), .val (.int p4), .val (.int p5), .unset, .unset, .unset, .unset, .unset, .unset, .unset, .unset, .unset] [(.int p0)])) (fun _ kt => XS.iloadN X0.here hx rfl (hb hby at_0) rfl  kt) ?_
  refine Rch.of (T' := T0) (g' := (mkF m 3 #[.val (.int p0), .val (.int p1), .val (.int p2), .val (.int p3), .val (.int p4), .val (.int p5), .unset, .unset, .unset, .unset, .unset, .unset, .unset, .unset, .unset] [(.int (2147483647 : Int32)), (.int p0)])) (X0.ldcInt hx hown (mvT hZ (hw _ (List.mem_of_getElem? (i := 0) rfl))) (g := (mkF m 1 #[.val (.int p0), .val (.int p1), .val (.int p2), .val (.int p3), .val (.int p4), .val (.int p5), .unset, .unset, .unset, .unset, .unset, .unset, .unset, .unset, .unset] [(.int p0)])) rfl (hb hby at_1)) ?_
  refine Rch.of (T' := T0) (g' := (mkF m 4 #[.val (.int p0), .val (.int p1), .val (.int p2), .val (.int p3), .val (.int p4), .val (.int p5), .unset, .unset, .unset, .unset, .unset, .unset, .unset, .unset, .unset] [(.int (p0 &&& (2147483647 : Int32)))])) (fun _ kt => XS.iand X0.here hx rfl (hb hby at_3) rfl kt) ?_
  refine Rch.of (T' := T0) (g' := (mkF m 6 #[.val (.int p0), .val (.int p1), .val (.int p2), .val (.int p3), .val (.int p4), .val (.int p5), .val (.int (p0 &&& (2147483647 : Int32))), .unset, .unset, .unset, .unset, .unset, .unset, .unset, .unset] [])) (fun _ kt => XS.istore X0.here hx rfl (hb hby at_4) rfl (l' := #[.val (.int p0), .val (.int p1), .val (.int p2), .val (.int p3), .val (.int p4), .val (.int p5), .val (.int (p0 &&& (2147483647 : Int32))), .unset, .unset, .unset, .unset, .unset, .unset, .unset, .unset]) rfl kt) ?_
  refine Rch.of (T' := T0) (g' := (mkF m 7 #[.val (.int p0), .val (.int p1), .val (.int p2), .val (.int p3), .val (.int p4), .val (.int p5), .val (.int (p0 &&& (2147483647 : Int32))), .unset, .unset, .unset, .unset, .unset, .unset, .unset, .unset] [(.int p1)])) (fun _ kt => XS.iloadN X0.here hx rfl (hb hby at_6) rfl  kt) ?_
  refine Rch.of (T' := T0) (g' := (mkF m 9 #[.val (.int p0), .val (.int p1), .val (.int p2), .val (.int p3), .val (.int p4), .val (.int p5), .val (.int (p0 &&& (2147483647 : Int32))), .unset, .unset, .unset, .unset, .unset, .unset, .unset, .unset] [(.int (2147483647 : Int32)), (.int p1)])) (X0.ldcInt hx hown (mvT hZ (hw _ (List.mem_of_getElem? (i := 0) rfl))) (g := (mkF m 7 #[.val (.int p0), .val (.int p1), .val (.int p2), .val (.int p3), .val (.int p4), .val (.int p5), .val (.int (p0 &&& (2147483647 : Int32))), .unset, .unset, .unset, .unset, .unset, .unset, .unset, .unset] [(.int p1)])) rfl (hb hby at_7)) ?_
  refine Rch.of (T' := T0) (g' := (mkF m 10 #[.val (.int p0), .val (.int p1), .val (.int p2), .val (.int p3), .val (.int p4), .val (.int p5), .val (.int (p0 &&& (2147483647 : Int32))), .unset, .unset, .unset, .unset, .unset, .unset, .unset, .unset] [(.int (p1 &&& (2147483647 : Int32)))])) (fun _ kt => XS.iand X0.here hx rfl (hb hby at_9) rfl kt) ?_
  refine Rch.of (T' := T0) (g' := (mkF m 12 #[.val (.int p0), .val (.int p1), .val (.int p2), .val (.int p3), .val (.int p4), .val (.int p5), .val (.int (p0 &&& (2147483647 : Int32))), .val (.int (p1 &&& (2147483647 : Int32))), .unset, .unset, .unset, .unset, .unset, .unset, .unset] [])) (fun _ kt => XS.istore X0.here hx rfl (hb hby at_10) rfl (l' := #[.val (.int p0), .val (.int p1), .val (.int p2), .val (.int p3), .val (.int p4), .val (.int p5), .val (.int (p0 &&& (2147483647 : Int32))), .val (.int (p1 &&& (2147483647 : Int32))), .unset, .unset, .unset, .unset, .unset, .unset, .unset]) rfl kt) ?_
  refine Rch.of (T' := T0) (g' := (mkF m 13 #[.val (.int p0), .val (.int p1), .val (.int p2), .val (.int p3), .val (.int p4), .val (.int p5), .val (.int (p0 &&& (2147483647 : Int32))), .val (.int (p1 &&& (2147483647 : Int32))), .unset, .unset, .unset, .unset, .unset, .unset, .unset] [(.int p2)])) (fun _ kt => XS.iloadN X0.here hx rfl (hb hby at_12) rfl  kt) ?_
  refine Rch.of (T' := T0) (g' := (mkF m 15 #[.val (.int p0), .val (.int p1), .val (.int p2), .val (.int p3), .val (.int p4), .val (.int p5), .val (.int (p0 &&& (2147483647 : Int32))), .val (.int (p1 &&& (2147483647 : Int32))), .unset, .unset, .unset, .unset, .unset, .unset, .unset] [(.int (2147483647 : Int32)), (.int p2)])) (X0.ldcInt hx hown (mvT hZ (hw _ (List.mem_of_getElem? (i := 0) rfl))) (g := (mkF m 13 #[.val (.int p0), .val (.int p1), .val (.int p2), .val (.int p3), .val (.int p4), .val (.int p5), .val (.int (p0 &&& (2147483647 : Int32))), .val (.int (p1 &&& (2147483647 : Int32))), .unset, .unset, .unset, .unset, .unset, .unset, .unset] [(.int p2)])) rfl (hb hby at_13)) ?_
  refine Rch.of (T' := T0) (g' := (mkF m 16 #[.val (.int p0), .val (.int p1), .val (.int p2), .val (.int p3), .val (.int p4), .val (.int p5), .val (.int (p0 &&& (2147483647 : Int32))), .val (.int (p1 &&& (2147483647 : Int32))), .unset, .unset, .unset, .unset, .unset, .unset, .unset] [(.int (p2 &&& (2147483647 : Int32)))])) (fun _ kt => XS.iand X0.here hx rfl (hb hby at_15) rfl kt) ?_
  refine Rch.of (T' := T0) (g' := (mkF m 18 #[.val (.int p0), .val (.int p1), .val (.int p2), .val (.int p3), .val (.int p4), .val (.int p5), .val (.int (p0 &&& (2147483647 : Int32))), .val (.int (p1 &&& (2147483647 : Int32))), .val (.int (p2 &&& (2147483647 : Int32))), .unset, .unset, .unset, .unset, .unset, .unset] [])) (fun _ kt => XS.istore X0.here hx rfl (hb hby at_16) rfl (l' := #[.val (.int p0), .val (.int p1), .val (.int p2), .val (.int p3), .val (.int p4), .val (.int p5), .val (.int (p0 &&& (2147483647 : Int32))), .val (.int (p1 &&& (2147483647 : Int32))), .val (.int (p2 &&& (2147483647 : Int32))), .unset, .unset, .unset, .unset, .unset, .unset]) rfl kt) ?_
  refine Rch.of (T' := T0) (g' := (mkF m 19 #[.val (.int p0), .val (.int p1), .val (.int p2), .val (.int p3), .val (.int p4), .val (.int p5), .val (.int (p0 &&& (2147483647 : Int32))), .val (.int (p1 &&& (2147483647 : Int32))), .val (.int (p2 &&& (2147483647 : Int32))), .unset, .unset, .unset, .unset, .unset, .unset] [(.int p3)])) (fun _ kt => XS.iloadN X0.here hx rfl (hb hby at_18) rfl  kt) ?_
  refine Rch.of (T' := T0) (g' := (mkF m 21 #[.val (.int p0), .val (.int p1), .val (.int p2), .val (.int p3), .val (.int p4), .val (.int p5), .val (.int (p0 &&& (2147483647 : Int32))), .val (.int (p1 &&& (2147483647 : Int32))), .val (.int (p2 &&& (2147483647 : Int32))), .unset, .unset, .unset, .unset, .unset, .unset] [(.int (2147483647 : Int32)), (.int p3)])) (X0.ldcInt hx hown (mvT hZ (hw _ (List.mem_of_getElem? (i := 0) rfl))) (g := (mkF m 19 #[.val (.int p0), .val (.int p1), .val (.int p2), .val (.int p3), .val (.int p4), .val (.int p5), .val (.int (p0 &&& (2147483647 : Int32))), .val (.int (p1 &&& (2147483647 : Int32))), .val (.int (p2 &&& (2147483647 : Int32))), .unset, .unset, .unset, .unset, .unset, .unset] [(.int p3)])) rfl (hb hby at_19)) ?_
  refine Rch.of (T' := T0) (g' := (mkF m 22 #[.val (.int p0), .val (.int p1), .val (.int p2), .val (.int p3), .val (.int p4), .val (.int p5), .val (.int (p0 &&& (2147483647 : Int32))), .val (.int (p1 &&& (2147483647 : Int32))), .val (.int (p2 &&& (2147483647 : Int32))), .unset, .unset, .unset, .unset, .unset, .unset] [(.int (p3 &&& (2147483647 : Int32)))])) (fun _ kt => XS.iand X0.here hx rfl (hb hby at_21) rfl kt) ?_
  refine Rch.of (T' := T0) (g' := (mkF m 24 #[.val (.int p0), .val (.int p1), .val (.int p2), .val (.int p3), .val (.int p4), .val (.int p5), .val (.int (p0 &&& (2147483647 : Int32))), .val (.int (p1 &&& (2147483647 : Int32))), .val (.int (p2 &&& (2147483647 : Int32))), .val (.int (p3 &&& (2147483647 : Int32))), .unset, .unset, .unset, .unset, .unset] [])) (fun _ kt => XS.istore X0.here hx rfl (hb hby at_22) rfl (l' := #[.val (.int p0), .val (.int p1), .val (.int p2), .val (.int p3), .val (.int p4), .val (.int p5), .val (.int (p0 &&& (2147483647 : Int32))), .val (.int (p1 &&& (2147483647 : Int32))), .val (.int (p2 &&& (2147483647 : Int32))), .val (.int (p3 &&& (2147483647 : Int32))), .unset, .unset, .unset, .unset, .unset]) rfl kt) ?_
  refine Rch.of (T' := T0) (g' := (mkF m 26 #[.val (.int p0), .val (.int p1), .val (.int p2), .val (.int p3), .val (.int p4), .val (.int p5), .val (.int (p0 &&& (2147483647 : Int32))), .val (.int (p1 &&& (2147483647 : Int32))), .val (.int (p2 &&& (2147483647 : Int32))), .val (.int (p3 &&& (2147483647 : Int32))), .unset, .unset, .unset, .unset, .unset] [(.int p4)])) (fun _ kt => XS.iload X0.here hx rfl (hb hby at_24) rfl  kt) ?_
  refine Rch.of (T' := T0) (g' := (mkF m 27 #[.val (.int p0), .val (.int p1), .val (.int p2), .val (.int p3), .val (.int p4), .val (.int p5), .val (.int (p0 &&& (2147483647 : Int32))), .val (.int (p1 &&& (2147483647 : Int32))), .val (.int (p2 &&& (2147483647 : Int32))), .val (.int (p3 &&& (2147483647 : Int32))), .unset, .unset, .unset, .unset, .unset] [(.int (3 : Int32)), (.int p4)])) (fun _ kt => XS.iconst X0.here hx rfl (hb hby at_26) kt) ?_
  refine Rch.of (T' := T0) (g' := (mkF m 28 #[.val (.int p0), .val (.int p1), .val (.int p2), .val (.int p3), .val (.int p4), .val (.int p5), .val (.int (p0 &&& (2147483647 : Int32))), .val (.int (p1 &&& (2147483647 : Int32))), .val (.int (p2 &&& (2147483647 : Int32))), .val (.int (p3 &&& (2147483647 : Int32))), .unset, .unset, .unset, .unset, .unset] [(.int ((p4.toUInt32 >>> ((3 : Int32) &&& 31).toUInt32).toInt32))])) (fun _ kt => XS.iushr X0.here hx rfl (hb hby at_27) rfl kt) ?_
  refine Rch.of (T' := T0) (g' := (mkF m 29 #[.val (.int p0), .val (.int p1), .val (.int p2), .val (.int p3), .val (.int p4), .val (.int p5), .val (.int (p0 &&& (2147483647 : Int32))), .val (.int (p1 &&& (2147483647 : Int32))), .val (.int (p2 &&& (2147483647 : Int32))), .val (.int (p3 &&& (2147483647 : Int32))), .unset, .unset, .unset, .unset, .unset] [(.int (1 : Int32)), (.int ((p4.toUInt32 >>> ((3 : Int32) &&& 31).toUInt32).toInt32))])) (fun _ kt => XS.iconst X0.here hx rfl (hb hby at_28) kt) ?_
  refine Rch.of (T' := T0) (g' := (mkF m 30 #[.val (.int p0), .val (.int p1), .val (.int p2), .val (.int p3), .val (.int p4), .val (.int p5), .val (.int (p0 &&& (2147483647 : Int32))), .val (.int (p1 &&& (2147483647 : Int32))), .val (.int (p2 &&& (2147483647 : Int32))), .val (.int (p3 &&& (2147483647 : Int32))), .unset, .unset, .unset, .unset, .unset] [(.int (((p4.toUInt32 >>> ((3 : Int32) &&& 31).toUInt32).toInt32) &&& (1 : Int32)))])) (fun _ kt => XS.iand X0.here hx rfl (hb hby at_29) rfl kt) ?_
  by_cases c207 : (((p4.toUInt32 >>> ((3 : Int32) &&& 31).toUInt32).toInt32) &&& (1 : Int32)) = (0 : Int32)
  · skip
    refine Rch.of (T' := T0) (g' := (mkF m 37 #[.val (.int p0), .val (.int p1), .val (.int p2), .val (.int p3), .val (.int p4), .val (.int p5), .val (.int (p0 &&& (2147483647 : Int32))), .val (.int (p1 &&& (2147483647 : Int32))), .val (.int (p2 &&& (2147483647 : Int32))), .val (.int (p3 &&& (2147483647 : Int32))), .unset, .unset, .unset, .unset, .unset] [])) (fun _ kt => XS.ifYes X0.here hx rfl (pc0 := 30) (pc' := 37) rfl (hb hby at_30) rfl ((if0 _ _).trans (teq c207).1) (by decide) (by decide) kt) ?_
    refine Rch.of (T' := T0) (g' := (mkF m 39 #[.val (.int p0), .val (.int p1), .val (.int p2), .val (.int p3), .val (.int p4), .val (.int p5), .val (.int (p0 &&& (2147483647 : Int32))), .val (.int (p1 &&& (2147483647 : Int32))), .val (.int (p2 &&& (2147483647 : Int32))), .val (.int (p3 &&& (2147483647 : Int32))), .unset, .unset, .unset, .unset, .unset] [(.int p4)])) (fun _ kt => XS.iload X0.here hx rfl (hb hby at_37) rfl  kt) ?_
    refine Rch.of (T' := T0) (g' := (mkF m 40 #[.val (.int p0), .val (.int p1), .val (.int p2), .val (.int p3), .val (.int p4), .val (.int p5), .val (.int (p0 &&& (2147483647 : Int32))), .val (.int (p1 &&& (2147483647 : Int32))), .val (.int (p2 &&& (2147483647 : Int32))), .val (.int (p3 &&& (2147483647 : Int32))), .unset, .unset, .unset, .unset, .unset] [(.int (4 : Int32)), (.int p4)])) (fun _ kt => XS.iconst X0.here hx rfl (hb hby at_39) kt) ?_
    refine Rch.of (T' := T0) (g' := (mkF m 41 #[.val (.int p0), .val (.int p1), .val (.int p2), .val (.int p3), .val (.int p4), .val (.int p5), .val (.int (p0 &&& (2147483647 : Int32))), .val (.int (p1 &&& (2147483647 : Int32))), .val (.int (p2 &&& (2147483647 : Int32))), .val (.int (p3 &&& (2147483647 : Int32))), .unset, .unset, .unset, .unset, .unset] [(.int ((p4.toUInt32 >>> ((4 : Int32) &&& 31).toUInt32).toInt32))])) (fun _ kt => XS.iushr X0.here hx rfl (hb hby at_40) rfl kt) ?_
    refine Rch.of (T' := T0) (g' := (mkF m 42 #[.val (.int p0), .val (.int p1), .val (.int p2), .val (.int p3), .val (.int p4), .val (.int p5), .val (.int (p0 &&& (2147483647 : Int32))), .val (.int (p1 &&& (2147483647 : Int32))), .val (.int (p2 &&& (2147483647 : Int32))), .val (.int (p3 &&& (2147483647 : Int32))), .unset, .unset, .unset, .unset, .unset] [(.int (1 : Int32)), (.int ((p4.toUInt32 >>> ((4 : Int32) &&& 31).toUInt32).toInt32))])) (fun _ kt => XS.iconst X0.here hx rfl (hb hby at_41) kt) ?_
    refine Rch.of (T' := T0) (g' := (mkF m 43 #[.val (.int p0), .val (.int p1), .val (.int p2), .val (.int p3), .val (.int p4), .val (.int p5), .val (.int (p0 &&& (2147483647 : Int32))), .val (.int (p1 &&& (2147483647 : Int32))), .val (.int (p2 &&& (2147483647 : Int32))), .val (.int (p3 &&& (2147483647 : Int32))), .unset, .unset, .unset, .unset, .unset] [(.int (((p4.toUInt32 >>> ((4 : Int32) &&& 31).toUInt32).toInt32) &&& (1 : Int32)))])) (fun _ kt => XS.iand X0.here hx rfl (hb hby at_42) rfl kt) ?_
    by_cases c208 : (((p4.toUInt32 >>> ((4 : Int32) &&& 31).toUInt32).toInt32) &&& (1 : Int32)) = (0 : Int32)
    · skip
      refine Rch.of (T' := T0) (g' := (mkF m 50 #[.val (.int p0), .val (.int p1), .val (.int p2), .val (.int p3), .val (.int p4), .val (.int p5), .val (.int (p0 &&& (2147483647 : Int32))), .val (.int (p1 &&& (2147483647 : Int32))), .val (.int (p2 &&& (2147483647 : Int32))), .val (.int (p3 &&& (2147483647 : Int32))), .unset, .unset, .unset, .unset, .unset] [])) (fun _ kt => XS.ifYes X0.here hx rfl (pc0 := 43) (pc' := 50) rfl (hb hby at_43) rfl ((if0 _ _).trans (teq c208).1) (by decide) (by decide) kt) ?_
      refine Rch.of (T' := T0) (g' := (mkF m 52 #[.val (.int p0), .val (.int p1), .val (.int p2), .val (.int p3), .val (.int p4), .val (.int p5), .val (.int (p0 &&& (2147483647 : Int32))), .val (.int (p1 &&& (2147483647 : Int32))), .val (.int (p2 &&& (2147483647 : Int32))), .val (.int (p3 &&& (2147483647 : Int32))), .unset, .unset, .unset, .unset, .unset] [(.int p4)])) (fun _ kt => XS.iload X0.here hx rfl (hb hby at_50) rfl  kt) ?_
      refine Rch.of (T' := T0) (g' := (mkF m 54 #[.val (.int p0), .val (.int p1), .val (.int p2), .val (.int p3), .val (.int p4), .val (.int p5), .val (.int (p0 &&& (2147483647 : Int32))), .val (.int (p1 &&& (2147483647 : Int32))), .val (.int (p2 &&& (2147483647 : Int32))), .val (.int (p3 &&& (2147483647 : Int32))), .unset, .unset, .unset, .unset, .unset] [(.int (7 : Int32)), (.int p4)])) (fun _ kt => XS.bipush X0.here hx rfl (hb hby at_52) kt) ?_
      refine Rch.of (T' := T0) (g' := (mkF m 55 #[.val (.int p0), .val (.int p1), .val (.int p2), .val (.int p3), .val (.int p4), .val (.int p5), .val (.int (p0 &&& (2147483647 : Int32))), .val (.int (p1 &&& (2147483647 : Int32))), .val (.int (p2 &&& (2147483647 : Int32))), .val (.int (p3 &&& (2147483647 : Int32))), .unset, .unset, .unset, .unset, .unset] [(.int (p4 &&& (7 : Int32)))])) (fun _ kt => XS.iand X0.here hx rfl (hb hby at_54) rfl kt) ?_
      refine Rch.of (T' := T0) (g' := (mkF m 56 #[.val (.int p0), .val (.int p1), .val (.int p2), .val (.int p3), .val (.int p4), .val (.int p5), .val (.int (p0 &&& (2147483647 : Int32))), .val (.int (p1 &&& (2147483647 : Int32))), .val (.int (p2 &&& (2147483647 : Int32))), .val (.int (p3 &&& (2147483647 : Int32))), .unset, .unset, .unset, .unset, .unset] [(.int (5 : Int32)), (.int (p4 &&& (7 : Int32)))])) (fun _ kt => XS.iconst X0.here hx rfl (hb hby at_55) kt) ?_
      refine Rch.of (T' := T0) (g' := (mkF m 57 #[.val (.int p0), .val (.int p1), .val (.int p2), .val (.int p3), .val (.int p4), .val (.int p5), .val (.int (p0 &&& (2147483647 : Int32))), .val (.int (p1 &&& (2147483647 : Int32))), .val (.int (p2 &&& (2147483647 : Int32))), .val (.int (p3 &&& (2147483647 : Int32))), .unset, .unset, .unset, .unset, .unset] [(.int ((p4 &&& (7 : Int32)) % (5 : Int32)))])) (fun _ kt => iremM X0 hx rfl (hb hby at_56) rfl (by decide) kt) ?_
      refine Rch.of (T' := T0) (g' := (mkF m 59 #[.val (.int p0), .val (.int p1), .val (.int p2), .val (.int p3), .val (.int p4), .val (.int p5), .val (.int (p0 &&& (2147483647 : Int32))), .val (.int (p1 &&& (2147483647 : Int32))), .val (.int (p2 &&& (2147483647 : Int32))), .val (.int (p3 &&& (2147483647 : Int32))), .val (.int ((p4 &&& (7 : Int32)) % (5 : Int32))), .unset, .unset, .unset, .unset] [])) (fun _ kt => XS.istore X0.here hx rfl (hb hby at_57) rfl (l' := #[.val (.int p0), .val (.int p1), .val (.int p2), .val (.int p3), .val (.int p4), .val (.int p5), .val (.int (p0 &&& (2147483647 : Int32))), .val (.int (p1 &&& (2147483647 : Int32))), .val (.int (p2 &&& (2147483647 : Int32))), .val (.int (p3 &&& (2147483647 : Int32))), .val (.int ((p4 &&& (7 : Int32)) % (5 : Int32))), .unset, .unset, .unset, .unset]) rfl kt) ?_
      refine Rch.of (T' := T0) (g' := (mkF m 61 #[.val (.int p0), .val (.int p1), .val (.int p2), .val (.int p3), .val (.int p4), .val (.int p5), .val (.int (p0 &&& (2147483647 : Int32))), .val (.int (p1 &&& (2147483647 : Int32))), .val (.int (p2 &&& (2147483647 : Int32))), .val (.int (p3 &&& (2147483647 : Int32))), .val (.int ((p4 &&& (7 : Int32)) % (5 : Int32))), .unset, .unset, .unset, .unset] [(.int p4)])) (fun _ kt => XS.iload X0.here hx rfl (hb hby at_59) rfl  kt) ?_
      refine Rch.of (T' := T0) (g' := (mkF m 62 #[.val (.int p0), .val (.int p1), .val (.int p2), .val (.int p3), .val (.int p4), .val (.int p5), .val (.int (p0 &&& (2147483647 : Int32))), .val (.int (p1 &&& (2147483647 : Int32))), .val (.int (p2 &&& (2147483647 : Int32))), .val (.int (p3 &&& (2147483647 : Int32))), .val (.int ((p4 &&& (7 : Int32)) % (5 : Int32))), .unset, .unset, .unset, .unset] [(.int (5 : Int32)), (.int p4)])) (fun _ kt => XS.iconst X0.here hx rfl (hb hby at_61) kt) ?_
      refine Rch.of (T' := T0) (g' := (mkF m 63 #[.val (.int p0), .val (.int p1), .val (.int p2), .val (.int p3), .val (.int p4), .val (.int p5), .val (.int (p0 &&& (2147483647 : Int32))), .val (.int (p1 &&& (2147483647 : Int32))), .val (.int (p2 &&& (2147483647 : Int32))), .val (.int (p3 &&& (2147483647 : Int32))), .val (.int ((p4 &&& (7 : Int32)) % (5 : Int32))), .unset, .unset, .unset, .unset] [(.int ((p4.toUInt32 >>> ((5 : Int32) &&& 31).toUInt32).toInt32))])) (fun _ kt => XS.iushr X0.here hx rfl (hb hby at_62) rfl kt) ?_
      refine Rch.of (T' := T0) (g' := (mkF m 65 #[.val (.int p0), .val (.int p1), .val (.int p2), .val (.int p3), .val (.int p4), .val (.int p5), .val (.int (p0 &&& (2147483647 : Int32))), .val (.int (p1 &&& (2147483647 : Int32))), .val (.int (p2 &&& (2147483647 : Int32))), .val (.int (p3 &&& (2147483647 : Int32))), .val (.int ((p4 &&& (7 : Int32)) % (5 : Int32))), .unset, .unset, .unset, .unset] [(.int (7 : Int32)), (.int ((p4.toUInt32 >>> ((5 : Int32) &&& 31).toUInt32).toInt32))])) (fun _ kt => XS.bipush X0.here hx rfl (hb hby at_63) kt) ?_
      refine Rch.of (T' := T0) (g' := (mkF m 66 #[.val (.int p0), .val (.int p1), .val (.int p2), .val (.int p3), .val (.int p4), .val (.int p5), .val (.int (p0 &&& (2147483647 : Int32))), .val (.int (p1 &&& (2147483647 : Int32))), .val (.int (p2 &&& (2147483647 : Int32))), .val (.int (p3 &&& (2147483647 : Int32))), .val (.int ((p4 &&& (7 : Int32)) % (5 : Int32))), .unset, .unset, .unset, .unset] [(.int (((p4.toUInt32 >>> ((5 : Int32) &&& 31).toUInt32).toInt32) &&& (7 : Int32)))])) (fun _ kt => XS.iand X0.here hx rfl (hb hby at_65) rfl kt) ?_
      refine Rch.of (T' := T0) (g' := (mkF m 68 #[.val (.int p0), .val (.int p1), .val (.int p2), .val (.int p3), .val (.int p4), .val (.int p5), .val (.int (p0 &&& (2147483647 : Int32))), .val (.int (p1 &&& (2147483647 : Int32))), .val (.int (p2 &&& (2147483647 : Int32))), .val (.int (p3 &&& (2147483647 : Int32))), .val (.int ((p4 &&& (7 : Int32)) % (5 : Int32))), .val (.int (((p4.toUInt32 >>> ((5 : Int32) &&& 31).toUInt32).toInt32) &&& (7 : Int32))), .unset, .unset, .unset] [])) (fun _ kt => XS.istore X0.here hx rfl (hb hby at_66) rfl (l' := #[.val (.int p0), .val (.int p1), .val (.int p2), .val (.int p3), .val (.int p4), .val (.int p5), .val (.int (p0 &&& (2147483647 : Int32))), .val (.int (p1 &&& (2147483647 : Int32))), .val (.int (p2 &&& (2147483647 : Int32))), .val (.int (p3 &&& (2147483647 : Int32))), .val (.int ((p4 &&& (7 : Int32)) % (5 : Int32))), .val (.int (((p4.toUInt32 >>> ((5 : Int32) &&& 31).toUInt32).toInt32) &&& (7 : Int32))), .unset, .unset, .unset]) rfl kt) ?_
      refine Rch.of (T' := T0) (g' := (mkF m 70 #[.val (.int p0), .val (.int p1), .val (.int p2), .val (.int p3), .val (.int p4), .val (.int p5), .val (.int (p0 &&& (2147483647 : Int32))), .val (.int (p1 &&& (2147483647 : Int32))), .val (.int (p2 &&& (2147483647 : Int32))), .val (.int (p3 &&& (2147483647 : Int32))), .val (.int ((p4 &&& (7 : Int32)) % (5 : Int32))), .val (.int (((p4.toUInt32 >>> ((5 : Int32) &&& 31).toUInt32).toInt32) &&& (7 : Int32))), .unset, .unset, .unset] [(.int (((p4.toUInt32 >>> ((5 : Int32) &&& 31).toUInt32).toInt32) &&& (7 : Int32)))])) (fun _ kt => XS.iload X0.here hx rfl (hb hby at_68) rfl  kt) ?_
      by_cases c209 : (((p4.toUInt32 >>> ((5 : Int32) &&& 31).toUInt32).toInt32) &&& (7 : Int32)) = (0 : Int32)
      · skip
        refine Rch.of (T' := T0) (g' := (mkF m 73 #[.val (.int p0), .val (.int p1), .val (.int p2), .val (.int p3), .val (.int p4), .val (.int p5), .val (.int (p0 &&& (2147483647 : Int32))), .val (.int (p1 &&& (2147483647 : Int32))), .val (.int (p2 &&& (2147483647 : Int32))), .val (.int (p3 &&& (2147483647 : Int32))), .val (.int ((p4 &&& (7 : Int32)) % (5 : Int32))), .val (.int (((p4.toUInt32 >>> ((5 : Int32) &&& 31).toUInt32).toInt32) &&& (7 : Int32))), .unset, .unset, .unset] [])) (fun _ kt => XS.ifNo X0.here hx rfl (hb hby at_70) rfl ((if0 _ _).trans (teq c209).2) kt) ?_
        refine Rch.of (T' := T0) (g' := (mkF m 75 #[.val (.int p0), .val (.int p1), .val (.int p2), .val (.int p3), .val (.int p4), .val (.int p5), .val (.int (p0 &&& (2147483647 : Int32))), .val (.int (p1 &&& (2147483647 : Int32))), .val (.int (p2 &&& (2147483647 : Int32))), .val (.int (p3 &&& (2147483647 : Int32))), .val (.int ((p4 &&& (7 : Int32)) % (5 : Int32))), .val (.int (((p4.toUInt32 >>> ((5 : Int32) &&& 31).toUInt32).toInt32) &&& (7 : Int32))), .unset, .unset, .unset] [(.int (p0 &&& (2147483647 : Int32)))])) (fun _ kt => XS.iload X0.here hx rfl (hb hby at_73) rfl  kt) ?_
        refine Rch.of (T' := T0) (g' := (mkF m 77 #[.val (.int p0), .val (.int p1), .val (.int p2), .val (.int p3), .val (.int p4), .val (.int p5), .val (.int (p0 &&& (2147483647 : Int32))), .val (.int (p1 &&& (2147483647 : Int32))), .val (.int (p2 &&& (2147483647 : Int32))), .val (.int (p3 &&& (2147483647 : Int32))), .val (.int ((p4 &&& (7 : Int32)) % (5 : Int32))), .val (.int (((p4.toUInt32 >>> ((5 : Int32) &&& 31).toUInt32).toInt32) &&& (7 : Int32))), .val (.int (p0 &&& (2147483647 : Int32))), .unset, .unset] [])) (fun _ kt => XS.istore X0.here hx rfl (hb hby at_75) rfl (l' := #[.val (.int p0), .val (.int p1), .val (.int p2), .val (.int p3), .val (.int p4), .val (.int p5), .val (.int (p0 &&& (2147483647 : Int32))), .val (.int (p1 &&& (2147483647 : Int32))), .val (.int (p2 &&& (2147483647 : Int32))), .val (.int (p3 &&& (2147483647 : Int32))), .val (.int ((p4 &&& (7 : Int32)) % (5 : Int32))), .val (.int (((p4.toUInt32 >>> ((5 : Int32) &&& 31).toUInt32).toInt32) &&& (7 : Int32))), .val (.int (p0 &&& (2147483647 : Int32))), .unset, .unset]) rfl kt) ?_
        refine Rch.of (T' := T0) (g' := (mkF m 123 #[.val (.int p0), .val (.int p1), .val (.int p2), .val (.int p3), .val (.int p4), .val (.int p5), .val (.int (p0 &&& (2147483647 : Int32))), .val (.int (p1 &&& (2147483647 : Int32))), .val (.int (p2 &&& (2147483647 : Int32))), .val (.int (p3 &&& (2147483647 : Int32))), .val (.int ((p4 &&& (7 : Int32)) % (5 : Int32))), .val (.int (((p4.toUInt32 >>> ((5 : Int32) &&& 31).toUInt32).toInt32) &&& (7 : Int32))), .val (.int (p0 &&& (2147483647 : Int32))), .unset, .unset] [])) (fun _ kt => XS.goto X0.here hx rfl (pc0 := 77) (pc' := 123) rfl (hb hby at_77) (by decide) (by decide) kt) ?_
        exact J123 _ _ _ _ _ _ _ (own_msk _) (own_msk _) (own_msk _) (own_msk _) (own_five _)
      · skip
        refine Rch.of (T' := T0) (g' := (mkF m 80 #[.val (.int p0), .val (.int p1), .val (.int p2), .val (.int p3), .val (.int p4), .val (.int p5), .val (.int (p0 &&& (2147483647 : Int32))), .val (.int (p1 &&& (2147483647 : Int32))), .val (.int (p2 &&& (2147483647 : Int32))), .val (.int (p3 &&& (2147483647 : Int32))), .val (.int ((p4 &&& (7 : Int32)) % (5 : Int32))), .val (.int (((p4.toUInt32 >>> ((5 : Int32) &&& 31).toUInt32).toInt32) &&& (7 : Int32))), .unset, .unset, .unset] [])) (fun _ kt => XS.ifYes X0.here hx rfl (pc0 := 70) (pc' := 80) rfl (hb hby at_70) rfl ((if0 _ _).trans (feq c209).2) (by decide) (by decide) kt) ?_
        refine Rch.of (T' := T0) (g' := (mkF m 82 #[.val (.int p0), .val (.int p1), .val (.int p2), .val (.int p3), .val (.int p4), .val (.int p5), .val (.int (p0 &&& (2147483647 : Int32))), .val (.int (p1 &&& (2147483647 : Int32))), .val (.int (p2 &&& (2147483647 : Int32))), .val (.int (p3 &&& (2147483647 : Int32))), .val (.int ((p4 &&& (7 : Int32)) % (5 : Int32))), .val (.int (((p4.toUInt32 >>> ((5 : Int32) &&& 31).toUInt32).toInt32) &&& (7 : Int32))), .unset, .unset, .unset] [(.int (((p4.toUInt32 >>> ((5 : Int32) &&& 31).toUInt32).toInt32) &&& (7 : Int32)))])) (fun _ kt => XS.iload X0.here hx rfl (hb hby at_80) rfl  kt) ?_
        refine Rch.of (T' := T0) (g' := (mkF m 83 #[.val (.int p0), .val (.int p1), .val (.int p2), .val (.int p3), .val (.int p4), .val (.int p5), .val (.int (p0 &&& (2147483647 : Int32))), .val (.int (p1 &&& (2147483647 : Int32))), .val (.int (p2 &&& (2147483647 : Int32))), .val (.int (p3 &&& (2147483647 : Int32))), .val (.int ((p4 &&& (7 : Int32)) % (5 : Int32))), .val (.int (((p4.toUInt32 >>> ((5 : Int32) &&& 31).toUInt32).toInt32) &&& (7 : Int32))), .unset, .unset, .unset] [(.int (1 : Int32)), (.int (((p4.toUInt32 >>> ((5 : Int32) &&& 31).toUInt32).toInt32) &&& (7 : Int32)))])) (fun _ kt => XS.iconst X0.here hx rfl (hb hby at_82) kt) ?_
        by_cases c210 : (((p4.toUInt32 >>> ((5 : Int32) &&& 31).toUInt32).toInt32) &&& (7 : Int32)) = (1 : Int32)
        · skip
          refine Rch.of (T' := T0) (g' := (mkF m 86 #[.val (.int p0), .val (.int p1), .val (.int p2), .val (.int p3), .val (.int p4), .val (.int p5), .val (.int (p0 &&& (2147483647 : Int32))), .val (.int (p1 &&& (2147483647 : Int32))), .val (.int (p2 &&& (2147483647 : Int32))), .val (.int (p3 &&& (2147483647 : Int32))), .val (.int ((p4 &&& (7 : Int32)) % (5 : Int32))), .val (.int (((p4.toUInt32 >>> ((5 : Int32) &&& 31).toUInt32).toInt32) &&& (7 : Int32))), .unset, .unset, .unset] [])) (fun _ kt => XS.icmpNo X0.here hx rfl (hb hby at_83) rfl (teq c210).2 kt) ?_
          refine Rch.of (T' := T0) (g' := (mkF m 88 #[.val (.int p0), .val (.int p1), .val (.int p2), .val (.int p3), .val (.int p4), .val (.int p5), .val (.int (p0 &&& (2147483647 : Int32))), .val (.int (p1 &&& (2147483647 : Int32))), .val (.int (p2 &&& (2147483647 : Int32))), .val (.int (p3 &&& (2147483647 : Int32))), .val (.int ((p4 &&& (7 : Int32)) % (5 : Int32))), .val (.int (((p4.toUInt32 >>> ((5 : Int32) &&& 31).toUInt32).toInt32) &&& (7 : Int32))), .unset, .unset, .unset] [(.int (p1 &&& (2147483647 : Int32)))])) (fun _ kt => XS.iload X0.here hx rfl (hb hby at_86) rfl  kt) ?_
          refine Rch.of (T' := T0) (g' := (mkF m 90 #[.val (.int p0), .val (.int p1), .val (.int p2), .val (.int p3), .val (.int p4), .val (.int p5), .val (.int (p0 &&& (2147483647 : Int32))), .val (.int (p1 &&& (2147483647 : Int32))), .val (.int (p2 &&& (2147483647 : Int32))), .val (.int (p3 &&& (2147483647 : Int32))), .val (.int ((p4 &&& (7 : Int32)) % (5 : Int32))), .val (.int (((p4.toUInt32 >>> ((5 : Int32) &&& 31).toUInt32).toInt32) &&& (7 : Int32))), .val (.int (p1 &&& (2147483647 : Int32))), .unset, .unset] [])) (fun _ kt => XS.istore X0.here hx rfl (hb hby at_88) rfl (l' := #[.val (.int p0), .val (.int p1), .val (.int p2), .val (.int p3), .val (.int p4), .val (.int p5), .val (.int (p0 &&& (2147483647 : Int32))), .val (.int (p1 &&& (2147483647 : Int32))), .val (.int (p2 &&& (2147483647 : Int32))), .val (.int (p3 &&& (2147483647 : Int32))), .val (.int ((p4 &&& (7 : Int32)) % (5 : Int32))), .val (.int (((p4.toUInt32 >>> ((5 : Int32) &&& 31).toUInt32).toInt32) &&& (7 : Int32))), .val (.int (p1 &&& (2147483647 : Int32))), .unset, .unset]) rfl kt) ?_
          refine Rch.of (T' := T0) (g' := (mkF m 123 #[.val (.int p0), .val (.int p1), .val (.int p2), .val (.int p3), .val (.int p4), .val (.int p5), .val (.int (p0 &&& (2147483647 : Int32))), .val (.int (p1 &&& (2147483647 : Int32))), .val (.int (p2 &&& (2147483647 : Int32))), .val (.int (p3 &&& (2147483647 : Int32))), .val (.int ((p4 &&& (7 : Int32)) % (5 : Int32))), .val (.int (((p4.toUInt32 >>> ((5 : Int32) &&& 31).toUInt32).toInt32) &&& (7 : Int32))), .val (.int (p1 &&& (2147483647 : Int32))), .unset, .unset] [])) (fun _ kt => XS.goto X0.here hx rfl (pc0 := 90) (pc' := 123) rfl (hb hby at_90) (by decide) (by decide) kt) ?_
          exact J123 _ _ _ _ _ _ _ (own_msk _) (own_msk _) (own_msk _) (own_msk _) (own_five _)
        · skip
          refine Rch.of (T' := T0) (g' := (mkF m 93 #[.val (.int p0), .val (.int p1), .val (.int p2), .val (.int p3), .val (.int p4), .val (.int p5), .val (.int (p0 &&& (2147483647 : Int32))), .val (.int (p1 &&& (2147483647 : Int32))), .val (.int (p2 &&& (2147483647 : Int32))), .val (.int (p3 &&& (2147483647 : Int32))), .val (.int ((p4 &&& (7 : Int32)) % (5 : Int32))), .val (.int (((p4.toUInt32 >>> ((5 : Int32) &&& 31).toUInt32).toInt32) &&& (7 : Int32))), .unset, .unset, .unset] [])) (fun _ kt => XS.icmpYes X0.here hx rfl (pc0 := 83) (pc' := 93) rfl (hb hby at_83) rfl (feq c210).2 (by decide) (by decide) kt) ?_
          refine Rch.of (T' := T0) (g' := (mkF m 95 #[.val (.int p0), .val (.int p1), .val (.int p2), .val (.int p3), .val (.int p4), .val (.int p5), .val (.int (p0 &&& (2147483647 : Int32))), .val (.int (p1 &&& (2147483647 : Int32))), .val (.int (p2 &&& (2147483647 : Int32))), .val (.int (p3 &&& (2147483647 : Int32))), .val (.int ((p4 &&& (7 : Int32)) % (5 : Int32))), .val (.int (((p4.toUInt32 >>> ((5 : Int32) &&& 31).toUInt32).toInt32) &&& (7 : Int32))), .unset, .unset, .unset] [(.int (((p4.toUInt32 >>> ((5 : Int32) &&& 31).toUInt32).toInt32) &&& (7 : Int32)))])) (fun _ kt => XS.iload X0.here hx rfl (hb hby at_93) rfl  kt) ?_
          refine Rch.of (T' := T0) (g' := (mkF m 96 #[.val (.int p0), .val (.int p1), .val (.int p2), .val (.int p3), .val (.int p4), .val (.int p5), .val (.int (p0 &&& (2147483647 : Int32))), .val (.int (p1 &&& (2147483647 : Int32))), .val (.int (p2 &&& (2147483647 : Int32))), .val (.int (p3 &&& (2147483647 : Int32))), .val (.int ((p4 &&& (7 : Int32)) % (5 : Int32))), .val (.int (((p4.toUInt32 >>> ((5 : Int32) &&& 31).toUInt32).toInt32) &&& (7 : Int32))), .unset, .unset, .unset] [(.int (2 : Int32)), (.int (((p4.toUInt32 >>> ((5 : Int32) &&& 31).toUInt32).toInt32) &&& (7 : Int32)))])) (fun _ kt => XS.iconst X0.here hx rfl (hb hby at_95) kt) ?_
          by_cases c211 : (((p4.toUInt32 >>> ((5 : Int32) &&& 31).toUInt32).toInt32) &&& (7 : Int32)) = (2 : Int32)
          · skip
            refine Rch.of (T' := T0) (g' := (mkF m 99 #[.val (.int p0), .val (.int p1), .val (.int p2), .val (.int p3), .val (.int p4), .val (.int p5), .val (.int (p0 &&& (2147483647 : Int32))), .val (.int (p1 &&& (2147483647 : Int32))), .val (.int (p2 &&& (2147483647 : Int32))), .val (.int (p3 &&& (2147483647 : Int32))), .val (.int ((p4 &&& (7 : Int32)) % (5 : Int32))), .val (.int (((p4.toUInt32 >>> ((5 : Int32) &&& 31).toUInt32).toInt32) &&& (7 : Int32))), .unset, .unset, .unset] [])) (fun _ kt => XS.icmpNo X0.here hx rfl (hb hby at_96) rfl (teq c211).2 kt) ?_
            refine Rch.of (T' := T0) (g' := (mkF m 101 #[.val (.int p0), .val (.int p1), .val (.int p2), .val (.int p3), .val (.int p4), .val (.int p5), .val (.int (p0 &&& (2147483647 : Int32))), .val (.int (p1 &&& (2147483647 : Int32))), .val (.int (p2 &&& (2147483647 : Int32))), .val (.int (p3 &&& (2147483647 : Int32))), .val (.int ((p4 &&& (7 : Int32)) % (5 : Int32))), .val (.int (((p4.toUInt32 >>> ((5 : Int32) &&& 31).toUInt32).toInt32) &&& (7 : Int32))), .unset, .unset, .unset] [(.int (p2 &&& (2147483647 : Int32)))])) (fun _ kt => XS.iload X0.here hx rfl (hb hby at_99) rfl  kt) ?_
            refine Rch.of (T' := T0) (g' := (mkF m 103 #[.val (.int p0), .val (.int p1), .val (.int p2), .val (.int p3), .val (.int p4), .val (.int p5), .val (.int (p0 &&& (2147483647 : Int32))), .val (.int (p1 &&& (2147483647 : Int32))), .val (.int (p2 &&& (2147483647 : Int32))), .val (.int (p3 &&& (2147483647 : Int32))), .val (.int ((p4 &&& (7 : Int32)) % (5 : Int32))), .val (.int (((p4.toUInt32 >>> ((5 : Int32) &&& 31).toUInt32).toInt32) &&& (7 : Int32))), .val (.int (p2 &&& (2147483647 : Int32))), .unset, .unset] [])) (fun _ kt => XS.istore X0.here hx rfl (hb hby at_101) rfl (l' := #[.val (.int p0), .val (.int p1), .val (.int p2), .val (.int p3), .val (.int p4), .val (.int p5), .val (.int (p0 &&& (2147483647 : Int32))), .val (.int (p1 &&& (2147483647 : Int32))), .val (.int (p2 &&& (2147483647 : Int32))), .val (.int (p3 &&& (2147483647 : Int32))), .val (.int ((p4 &&& (7 : Int32)) % (5 : Int32))), .val (.int (((p4.toUInt32 >>> ((5 : Int32) &&& 31).toUInt32).toInt32) &&& (7 : Int32))), .val (.int (p2 &&& (2147483647 : Int32))), .unset, .unset]) rfl kt) ?_
            refine Rch.of (T' := T0) (g' := (mkF m 123 #[.val (.int p0), .val (.int p1), .val (.int p2), .val (.int p3), .val (.int p4), .val (.int p5), .val (.int (p0 &&& (2147483647 : Int32))), .val (.int (p1 &&& (2147483647 : Int32))), .val (.int (p2 &&& (2147483647 : Int32))), .val (.int (p3 &&& (2147483647 : Int32))), .val (.int ((p4 &&& (7 : Int32)) % (5 : Int32))), .val (.int (((p4.toUInt32 >>> ((5 : Int32) &&& 31).toUInt32).toInt32) &&& (7 : Int32))), .val (.int (p2 &&& (2147483647 : Int32))), .unset, .unset] [])) (fun _ kt => XS.goto X0.here hx rfl (pc0 := 103) (pc' := 123) rfl (hb hby at_103) (by decide) (by decide) kt) ?_
            exact J123 _ _ _ _ _ _ _ (own_msk _) (own_msk _) (own_msk _) (own_msk _) (own_five _)
          · skip
            refine Rch.of (T' := T0) (g' := (mkF m 106 #[.val (.int p0), .val (.int p1), .val (.int p2), .val (.int p3), .val (.int p4), .val (.int p5), .val (.int (p0 &&& (2147483647 : Int32))), .val (.int (p1 &&& (2147483647 : Int32))), .val (.int (p2 &&& (2147483647 : Int32))), .val (.int (p3 &&& (2147483647 : Int32))), .val (.int ((p4 &&& (7 : Int32)) % (5 : Int32))), .val (.int (((p4.toUInt32 >>> ((5 : Int32) &&& 31).toUInt32).toInt32) &&& (7 : Int32))), .unset, .unset, .unset] [])) (fun _ kt => XS.icmpYes X0.here hx rfl (pc0 := 96) (pc' := 106) rfl (hb hby at_96) rfl (feq c211).2 (by decide) (by decide) kt) ?_
            refine Rch.of (T' := T0) (g' := (mkF m 108 #[.val (.int p0), .val (.int p1), .val (.int p2), .val (.int p3), .val (.int p4), .val (.int p5), .val (.int (p0 &&& (2147483647 : Int32))), .val (.int (p1 &&& (2147483647 : Int32))), .val (.int (p2 &&& (2147483647 : Int32))), .val (.int (p3 &&& (2147483647 : Int32))), .val (.int ((p4 &&& (7 : Int32)) % (5 : Int32))), .val (.int (((p4.toUInt32 >>> ((5 : Int32) &&& 31).toUInt32).toInt32) &&& (7 : Int32))), .unset, .unset, .unset] [(.int (((p4.toUInt32 >>> ((5 : Int32) &&& 31).toUInt32).toInt32) &&& (7 : Int32)))])) (fun _ kt => XS.iload X0.here hx rfl (hb hby at_106) rfl  kt) ?_
            refine Rch.of (T' := T0) (g' := (mkF m 109 #[.val (.int p0), .val (.int p1), .val (.int p2), .val (.int p3), .val (.int p4), .val (.int p5), .val (.int (p0 &&& (2147483647 : Int32))), .val (.int (p1 &&& (2147483647 : Int32))), .val (.int (p2 &&& (2147483647 : Int32))), .val (.int (p3 &&& (2147483647 : Int32))), .val (.int ((p4 &&& (7 : Int32)) % (5 : Int32))), .val (.int (((p4.toUInt32 >>> ((5 : Int32) &&& 31).toUInt32).toInt32) &&& (7 : Int32))), .unset, .unset, .unset] [(.int (3 : Int32)), (.int (((p4.toUInt32 >>> ((5 : Int32) &&& 31).toUInt32).toInt32) &&& (7 : Int32)))])) (fun _ kt => XS.iconst X0.here hx rfl (hb hby at_108) kt) ?_
            by_cases c212 : (((p4.toUInt32 >>> ((5 : Int32) &&& 31).toUInt32).toInt32) &&& (7 : Int32)) = (3 : Int32)
            · skip
              refine Rch.of (T' := T0) (g' := (mkF m 112 #[.val (.int p0), .val (.int p1), .val (.int p2), .val (.int p3), .val (.int p4), .val (.int p5), .val (.int (p0 &&& (2147483647 : Int32))), .val (.int (p1 &&& (2147483647 : Int32))), .val (.int (p2 &&& (2147483647 : Int32))), .val (.int (p3 &&& (2147483647 : Int32))), .val (.int ((p4 &&& (7 : Int32)) % (5 : Int32))), .val (.int (((p4.toUInt32 >>> ((5 : Int32) &&& 31).toUInt32).toInt32) &&& (7 : Int32))), .unset, .unset, .unset] [])) (fun _ kt => XS.icmpNo X0.here hx rfl (hb hby at_109) rfl (teq c212).2 kt) ?_
              refine Rch.of (T' := T0) (g' := (mkF m 114 #[.val (.int p0), .val (.int p1), .val (.int p2), .val (.int p3), .val (.int p4), .val (.int p5), .val (.int (p0 &&& (2147483647 : Int32))), .val (.int (p1 &&& (2147483647 : Int32))), .val (.int (p2 &&& (2147483647 : Int32))), .val (.int (p3 &&& (2147483647 : Int32))), .val (.int ((p4 &&& (7 : Int32)) % (5 : Int32))), .val (.int (((p4.toUInt32 >>> ((5 : Int32) &&& 31).toUInt32).toInt32) &&& (7 : Int32))), .unset, .unset, .unset] [(.int (p3 &&& (2147483647 : Int32)))])) (fun _ kt => XS.iload X0.here hx rfl (hb hby at_112) rfl  kt) ?_
              refine Rch.of (T' := T0) (g' := (mkF m 116 #[.val (.int p0), .val (.int p1), .val (.int p2), .val (.int p3), .val (.int p4), .val (.int p5), .val (.int (p0 &&& (2147483647 : Int32))), .val (.int (p1 &&& (2147483647 : Int32))), .val (.int (p2 &&& (2147483647 : Int32))), .val (.int (p3 &&& (2147483647 : Int32))), .val (.int ((p4 &&& (7 : Int32)) % (5 : Int32))), .val (.int (((p4.toUInt32 >>> ((5 : Int32) &&& 31).toUInt32).toInt32) &&& (7 : Int32))), .val (.int (p3 &&& (2147483647 : Int32))), .unset, .unset] [])) (fun _ kt => XS.istore X0.here hx rfl (hb hby at_114) rfl (l' := #[.val (.int p0), .val (.int p1), .val (.int p2), .val (.int p3), .val (.int p4), .val (.int p5), .val (.int (p0 &&& (2147483647 : Int32))), .val (.int (p1 &&& (2147483647 : Int32))), .val (.int (p2 &&& (2147483647 : Int32))), .val (.int (p3 &&& (2147483647 : Int32))), .val (.int ((p4 &&& (7 : Int32)) % (5 : Int32))), .val (.int (((p4.toUInt32 >>> ((5 : Int32) &&& 31).toUInt32).toInt32) &&& (7 : Int32))), .val (.int (p3 &&& (2147483647 : Int32))), .unset, .unset]) rfl kt) ?_
              refine Rch.of (T' := T0) (g' := (mkF m 123 #[.val (.int p0), .val (.int p1), .val (.int p2), .val (.int p3), .val (.int p4), .val (.int p5), .val (.int (p0 &&& (2147483647 : Int32))), .val (.int (p1 &&& (2147483647 : Int32))), .val (.int (p2 &&& (2147483647 : Int32))), .val (.int (p3 &&& (2147483647 : Int32))), .val (.int ((p4 &&& (7 : Int32)) % (5 : Int32))), .val (.int (((p4.toUInt32 >>> ((5 : Int32) &&& 31).toUInt32).toInt32) &&& (7 : Int32))), .val (.int (p3 &&& (2147483647 : Int32))), .unset, .unset] [])) (fun _ kt => XS.goto X0.here hx rfl (pc0 := 116) (pc' := 123) rfl (hb hby at_116) (by decide) (by decide) kt) ?_
              exact J123 _ _ _ _ _ _ _ (own_msk _) (own_msk _) (own_msk _) (own_msk _) (own_five _)
            · skip
              refine Rch.of (T' := T0) (g' := (mkF m 119 #[.val (.int p0), .val (.int p1), .val (.int p2), .val (.int p3), .val (.int p4), .val (.int p5), .val (.int (p0 &&& (2147483647 : Int32))), .val (.int (p1 &&& (2147483647 : Int32))), .val (.int (p2 &&& (2147483647 : Int32))), .val (.int (p3 &&& (2147483647 : Int32))), .val (.int ((p4 &&& (7 : Int32)) % (5 : Int32))), .val (.int (((p4.toUInt32 >>> ((5 : Int32) &&& 31).toUInt32).toInt32) &&& (7 : Int32))), .unset, .unset, .unset] [])) (fun _ kt => XS.icmpYes X0.here hx rfl (pc0 := 109) (pc' := 119) rfl (hb hby at_109) rfl (feq c212).2 (by decide) (by decide) kt) ?_
              refine Rch.of (T' := T0) (g' := (mkF m 121 #[.val (.int p0), .val (.int p1), .val (.int p2), .val (.int p3), .val (.int p4), .val (.int p5), .val (.int (p0 &&& (2147483647 : Int32))), .val (.int (p1 &&& (2147483647 : Int32))), .val (.int (p2 &&& (2147483647 : Int32))), .val (.int (p3 &&& (2147483647 : Int32))), .val (.int ((p4 &&& (7 : Int32)) % (5 : Int32))), .val (.int (((p4.toUInt32 >>> ((5 : Int32) &&& 31).toUInt32).toInt32) &&& (7 : Int32))), .unset, .unset, .unset] [(.int p5)])) (fun _ kt => XS.iload X0.here hx rfl (hb hby at_119) rfl  kt) ?_
              refine Rch.of (T' := T0) (g' := (mkF m 123 #[.val (.int p0), .val (.int p1), .val (.int p2), .val (.int p3), .val (.int p4), .val (.int p5), .val (.int (p0 &&& (2147483647 : Int32))), .val (.int (p1 &&& (2147483647 : Int32))), .val (.int (p2 &&& (2147483647 : Int32))), .val (.int (p3 &&& (2147483647 : Int32))), .val (.int ((p4 &&& (7 : Int32)) % (5 : Int32))), .val (.int (((p4.toUInt32 >>> ((5 : Int32) &&& 31).toUInt32).toInt32) &&& (7 : Int32))), .val (.int p5), .unset, .unset] [])) (fun _ kt => XS.istore X0.here hx rfl (hb hby at_121) rfl (l' := #[.val (.int p0), .val (.int p1), .val (.int p2), .val (.int p3), .val (.int p4), .val (.int p5), .val (.int (p0 &&& (2147483647 : Int32))), .val (.int (p1 &&& (2147483647 : Int32))), .val (.int (p2 &&& (2147483647 : Int32))), .val (.int (p3 &&& (2147483647 : Int32))), .val (.int ((p4 &&& (7 : Int32)) % (5 : Int32))), .val (.int (((p4.toUInt32 >>> ((5 : Int32) &&& 31).toUInt32).toInt32) &&& (7 : Int32))), .val (.int p5), .unset, .unset]) rfl kt) ?_
              exact J123 _ _ _ _ _ _ _ (own_msk _) (own_msk _) (own_msk _) (own_msk _) (own_five _)
    · skip
      refine Rch.of (T' := T0) (g' := (mkF m 46 #[.val (.int p0), .val (.int p1), .val (.int p2), .val (.int p3), .val (.int p4), .val (.int p5), .val (.int (p0 &&& (2147483647 : Int32))), .val (.int (p1 &&& (2147483647 : Int32))), .val (.int (p2 &&& (2147483647 : Int32))), .val (.int (p3 &&& (2147483647 : Int32))), .unset, .unset, .unset, .unset, .unset] [])) (fun _ kt => XS.ifNo X0.here hx rfl (hb hby at_43) rfl ((if0 _ _).trans (feq c208).1) kt) ?_
      refine Rch.of (T' := T0) (g' := (mkF m 48 #[.val (.int p0), .val (.int p1), .val (.int p2), .val (.int p3), .val (.int p4), .val (.int p5), .val (.int (p0 &&& (2147483647 : Int32))), .val (.int (p1 &&& (2147483647 : Int32))), .val (.int (p2 &&& (2147483647 : Int32))), .val (.int (p3 &&& (2147483647 : Int32))), .unset, .unset, .unset, .unset, .unset] [(.int (p1 &&& (2147483647 : Int32)))])) (fun _ kt => XS.iload X0.here hx rfl (hb hby at_46) rfl  kt) ?_
      refine Rch.of (T' := T0) (g' := (mkF m 50 #[.val (.int p0), .val (.int p1), .val (.int p2), .val (.int p3), .val (.int p4), .val (.int p5), .val (.int (p0 &&& (2147483647 : Int32))), .val (.int (p1 &&& (2147483647 : Int32))), .val (.int (p2 &&& (2147483647 : Int32))), .val (.int (p1 &&& (2147483647 : Int32))), .unset, .unset, .unset, .unset, .unset] [])) (fun _ kt => XS.istore X0.here hx rfl (hb hby at_48) rfl (l' := #[.val (.int p0), .val (.int p1), .val (.int p2), .val (.int p3), .val (.int p4), .val (.int p5), .val (.int (p0 &&& (2147483647 : Int32))), .val (.int (p1 &&& (2147483647 : Int32))), .val (.int (p2 &&& (2147483647 : Int32))), .val (.int (p1 &&& (2147483647 : Int32))), .unset, .unset, .unset, .unset, .unset]) rfl kt) ?_
      refine Rch.of (T' := T0) (g' := (mkF m 52 #[.val (.int p0), .val (.int p1), .val (.int p2), .val (.int p3), .val (.int p4), .val (.int p5), .val (.int (p0 &&& (2147483647 : Int32))), .val (.int (p1 &&& (2147483647 : Int32))), .val (.int (p2 &&& (2147483647 : Int32))), .val (.int (p1 &&& (2147483647 : Int32))), .unset, .unset, .unset, .unset, .unset] [(.int p4)])) (fun _ kt => XS.iload X0.here hx rfl (hb hby at_50) rfl  kt) ?_
      refine Rch.of (T' := T0) (g' := (mkF m 54 #[.val (.int p0), .val (.int p1), .val (.int p2), .val (.int p3), .val (.int p4), .val (.int p5), .val (.int (p0 &&& (2147483647 : Int32))), .val (.int (p1 &&& (2147483647 : Int32))), .val (.int (p2 &&& (2147483647 : Int32))), .val (.int (p1 &&& (2147483647 : Int32))), .unset, .unset, .unset, .unset, .unset] [(.int (7 : Int32)), (.int p4)])) (fun _ kt => XS.bipush X0.here hx rfl (hb hby at_52) kt) ?_
      refine Rch.of (T' := T0) (g' := (mkF m 55 #[.val (.int p0), .val (.int p1), .val (.int p2), .val (.int p3), .val (.int p4), .val (.int p5), .val (.int (p0 &&& (2147483647 : Int32))), .val (.int (p1 &&& (2147483647 : Int32))), .val (.int (p2 &&& (2147483647 : Int32))), .val (.int (p1 &&& (2147483647 : Int32))), .unset, .unset, .unset, .unset, .unset] [(.int (p4 &&& (7 : Int32)))])) (fun _ kt => XS.iand X0.here hx rfl (hb hby at_54) rfl kt) ?_
      refine Rch.of (T' := T0) (g' := (mkF m 56 #[.val (.int p0), .val (.int p1), .val (.int p2), .val (.int p3), .val (.int p4), .val (.int p5), .val (.int (p0 &&& (2147483647 : Int32))), .val (.int (p1 &&& (2147483647 : Int32))), .val (.int (p2 &&& (2147483647 : Int32))), .val (.int (p1 &&& (2147483647 : Int32))), .unset, .unset, .unset, .unset, .unset] [(.int (5 : Int32)), (.int (p4 &&& (7 : Int32)))])) (fun _ kt => XS.iconst X0.here hx rfl (hb hby at_55) kt) ?_
      refine Rch.of (T' := T0) (g' := (mkF m 57 #[.val (.int p0), .val (.int p1), .val (.int p2), .val (.int p3), .val (.int p4), .val (.int p5), .val (.int (p0 &&& (2147483647 : Int32))), .val (.int (p1 &&& (2147483647 : Int32))), .val (.int (p2 &&& (2147483647 : Int32))), .val (.int (p1 &&& (2147483647 : Int32))), .unset, .unset, .unset, .unset, .unset] [(.int ((p4 &&& (7 : Int32)) % (5 : Int32)))])) (fun _ kt => iremM X0 hx rfl (hb hby at_56) rfl (by decide) kt) ?_
      refine Rch.of (T' := T0) (g' := (mkF m 59 #[.val (.int p0), .val (.int p1), .val (.int p2), .val (.int p3), .val (.int p4), .val (.int p5), .val (.int (p0 &&& (2147483647 : Int32))), .val (.int (p1 &&& (2147483647 : Int32))), .val (.int (p2 &&& (2147483647 : Int32))), .val (.int (p1 &&& (2147483647 : Int32))), .val (.int ((p4 &&& (7 : Int32)) % (5 : Int32))), .unset, .unset, .unset, .unset] [])) (fun _ kt => XS.istore X0.here hx rfl (hb hby at_57) rfl (l' := #[.val (.int p0), .val (.int p1), .val (.int p2), .val (.int p3), .val (.int p4), .val (.int p5), .val (.int (p0 &&& (2147483647 : Int32))), .val (.int (p1 &&& (2147483647 : Int32))), .val (.int (p2 &&& (2147483647 : Int32))), .val (.int (p1 &&& (2147483647 : Int32))), .val (.int ((p4 &&& (7 : Int32)) % (5 : Int32))), .unset, .unset, .unset, .unset]) rfl kt) ?_
      refine Rch.of (T' := T0) (g' := (mkF m 61 #[.val (.int p0), .val (.int p1), .val (.int p2), .val (.int p3), .val (.int p4), .val (.int p5), .val (.int (p0 &&& (2147483647 : Int32))), .val (.int (p1 &&& (2147483647 : Int32))), .val (.int (p2 &&& (2147483647 : Int32))), .val (.int (p1 &&& (2147483647 : Int32))), .val (.int ((p4 &&& (7 : Int32)) % (5 : Int32))), .unset, .unset, .unset, .unset] [(.int p4)])) (fun _ kt => XS.iload X0.here hx rfl (hb hby at_59) rfl  kt) ?_
      refine Rch.of (T' := T0) (g' := (mkF m 62 #[.val (.int p0), .val (.int p1), .val (.int p2), .val (.int p3), .val (.int p4), .val (.int p5), .val (.int (p0 &&& (2147483647 : Int32))), .val (.int (p1 &&& (2147483647 : Int32))), .val (.int (p2 &&& (2147483647 : Int32))), .val (.int (p1 &&& (2147483647 : Int32))), .val (.int ((p4 &&& (7 : Int32)) % (5 : Int32))), .unset, .unset, .unset, .unset] [(.int (5 : Int32)), (.int p4)])) (fun _ kt => XS.iconst X0.here hx rfl (hb hby at_61) kt) ?_
      refine Rch.of (T' := T0) (g' := (mkF m 63 #[.val (.int p0), .val (.int p1), .val (.int p2), .val (.int p3), .val (.int p4), .val (.int p5), .val (.int (p0 &&& (2147483647 : Int32))), .val (.int (p1 &&& (2147483647 : Int32))), .val (.int (p2 &&& (2147483647 : Int32))), .val (.int (p1 &&& (2147483647 : Int32))), .val (.int ((p4 &&& (7 : Int32)) % (5 : Int32))), .unset, .unset, .unset, .unset] [(.int ((p4.toUInt32 >>> ((5 : Int32) &&& 31).toUInt32).toInt32))])) (fun _ kt => XS.iushr X0.here hx rfl (hb hby at_62) rfl kt) ?_
      refine Rch.of (T' := T0) (g' := (mkF m 65 #[.val (.int p0), .val (.int p1), .val (.int p2), .val (.int p3), .val (.int p4), .val (.int p5), .val (.int (p0 &&& (2147483647 : Int32))), .val (.int (p1 &&& (2147483647 : Int32))), .val (.int (p2 &&& (2147483647 : Int32))), .val (.int (p1 &&& (2147483647 : Int32))), .val (.int ((p4 &&& (7 : Int32)) % (5 : Int32))), .unset, .unset, .unset, .unset] [(.int (7 : Int32)), (.int ((p4.toUInt32 >>> ((5 : Int32) &&& 31).toUInt32).toInt32))])) (fun _ kt => XS.bipush X0.here hx rfl (hb hby at_63) kt) ?_
      refine Rch.of (T' := T0) (g' := (mkF m 66 #[.val (.int p0), .val (.int p1), .val (.int p2), .val (.int p3), .val (.int p4), .val (.int p5), .val (.int (p0 &&& (2147483647 : Int32))), .val (.int (p1 &&& (2147483647 : Int32))), .val (.int (p2 &&& (2147483647 : Int32))), .val (.int (p1 &&& (2147483647 : Int32))), .val (.int ((p4 &&& (7 : Int32)) % (5 : Int32))), .unset, .unset, .unset, .unset] [(.int (((p4.toUInt32 >>> ((5 : Int32) &&& 31).toUInt32).toInt32) &&& (7 : Int32)))])) (fun _ kt => XS.iand X0.here hx rfl (hb hby at_65) rfl kt) ?_
      refine Rch.of (T' := T0) (g' := (mkF m 68 #[.val (.int p0), .val (.int p1), .val (.int p2), .val (.int p3), .val (.int p4), .val (.int p5), .val (.int (p0 &&& (2147483647 : Int32))), .val (.int (p1 &&& (2147483647 : Int32))), .val (.int (p2 &&& (2147483647 : Int32))), .val (.int (p1 &&& (2147483647 : Int32))), .val (.int ((p4 &&& (7 : Int32)) % (5 : Int32))), .val (.int (((p4.toUInt32 >>> ((5 : Int32) &&& 31).toUInt32).toInt32) &&& (7 : Int32))), .unset, .unset, .unset] [])) (fun _ kt => XS.istore X0.here hx rfl (hb hby at_66) rfl (l' := #[.val (.int p0), .val (.int p1), .val (.int p2), .val (.int p3), .val (.int p4), .val (.int p5), .val (.int (p0 &&& (2147483647 : Int32))), .val (.int (p1 &&& (2147483647 : Int32))), .val (.int (p2 &&& (2147483647 : Int32))), .val (.int (p1 &&& (2147483647 : Int32))), .val (.int ((p4 &&& (7 : Int32)) % (5 : Int32))), .val (.int (((p4.toUInt32 >>> ((5 : Int32) &&& 31).toUInt32).toInt32) &&& (7 : Int32))), .unset, .unset, .unset]) rfl kt) ?_
      refine Rch.of (T' := T0) (g' := (mkF m 70 #[.val (.int p0), .val (.int p1), .val (.int p2), .val (.int p3), .val (.int p4), .val (.int p5), .val (.int (p0 &&& (2147483647 : Int32))), .val (.int (p1 &&& (2147483647 : Int32))), .val (.int (p2 &&& (2147483647 : Int32))), .val (.int (p1 &&& (2147483647 : Int32))), .val (.int ((p4 &&& (7 : Int32)) % (5 : Int32))), .val (.int (((p4.toUInt32 >>> ((5 : Int32) &&& 31).toUInt32).toInt32) &&& (7 : Int32))), .unset, .unset, .unset] [(.int (((p4.toUInt32 >>> ((5 : Int32) &&& 31).toUInt32).toInt32) &&& (7 : Int32)))])) (fun _ kt => XS.iload X0.here hx rfl (hb hby at_68) rfl  kt) ?_
      by_cases c213 : (((p4.toUInt32 >>> ((5 : Int32) &&& 31).toUInt32).toInt32) &&& (7 : Int32)) = (0 : Int32)
      · skip
        refine Rch.of (T' := T0) (g' := (mkF m 73 #[.val (.int p0), .val (.int p1), .val (.int p2), .val (.int p3), .val (.int p4), .val (.int p5), .val (.int (p0 &&& (2147483647 : Int32))), .val (.int (p1 &&& (2147483647 : Int32))), .val (.int (p2 &&& (2147483647 : Int32))), .val (.int (p1 &&& (2147483647 : Int32))), .val (.int ((p4 &&& (7 : Int32)) % (5 : Int32))), .val (.int (((p4.toUInt32 >>> ((5 : Int32) &&& 31).toUInt32).toInt32) &&& (7 : Int32))), .unset, .unset, .unset] [])) (fun _ kt => XS.ifNo X0.here hx rfl (hb hby at_70) rfl ((if0 _ _).trans (teq c213).2) kt) ?_
        refine Rch.of (T' := T0) (g' := (mkF m 75 #[.val (.int p0), .val (.int p1), .val (.int p2), .val (.int p3), .val (.int p4), .val (.int p5), .val (.int (p0 &&& (2147483647 : Int32))), .val (.int (p1 &&& (2147483647 : Int32))), .val (.int (p2 &&& (2147483647 : Int32))), .val (.int (p1 &&& (2147483647 : Int32))), .val (.int ((p4 &&& (7 : Int32)) % (5 : Int32))), .val (.int (((p4.toUInt32 >>> ((5 : Int32) &&& 31).toUInt32).toInt32) &&& (7 : Int32))), .unset, .unset, .unset] [(.int (p0 &&& (2147483647 : Int32)))])) (fun _ kt => XS.iload X0.here hx rfl (hb hby at_73) rfl  kt) ?_
        refine Rch.of (T' := T0) (g' := (mkF m 77 #[.val (.int p0), .val (.int p1), .val (.int p2), .val (.int p3), .val (.int p4), .val (.int p5), .val (.int (p0 &&& (2147483647 : Int32))), .val (.int (p1 &&& (2147483647 : Int32))), .val (.int (p2 &&& (2147483647 : Int32))), .val (.int (p1 &&& (2147483647 : Int32))), .val (.int ((p4 &&& (7 : Int32)) % (5 : Int32))), .val (.int (((p4.toUInt32 >>> ((5 : Int32) &&& 31).toUInt32).toInt32) &&& (7 : Int32))), .val (.int (p0 &&& (2147483647 : Int32))), .unset, .unset] [])) (fun _ kt => XS.istore X0.here hx rfl (hb hby at_75) rfl (l' := #[.val (.int p0), .val (.int p1), .val (.int p2), .val (.int p3), .val (.int p4), .val (.int p5), .val (.int (p0 &&& (2147483647 : Int32))), .val (.int (p1 &&& (2147483647 : Int32))), .val (.int (p2 &&& (2147483647 : Int32))), .val (.int (p1 &&& (2147483647 : Int32))), .val (.int ((p4 &&& (7 : Int32)) % (5 : Int32))), .val (.int (((p4.toUInt32 >>> ((5 : Int32) &&& 31).toUInt32).toInt32) &&& (7 : Int32))), .val (.int (p0 &&& (2147483647 : Int32))), .unset, .unset]) rfl kt) ?_
        refine Rch.of (T' := T0) (g' := (mkF m 123 #[.val (.int p0), .val (.int p1), .val (.int p2), .val (.int p3), .val (.int p4), .val (.int p5), .val (.int (p0 &&& (2147483647 : Int32))), .val (.int (p1 &&& (2147483647 : Int32))), .val (.int (p2 &&& (2147483647 : Int32))), .val (.int (p1 &&& (2147483647 : Int32))), .val (.int ((p4 &&& (7 : Int32)) % (5 : Int32))), .val (.int (((p4.toUInt32 >>> ((5 : Int32) &&& 31).toUInt32).toInt32) &&& (7 : Int32))), .val (.int (p0 &&& (2147483647 : Int32))), .unset, .unset] [])) (fun _ kt => XS.goto X0.here hx rfl (pc0 := 77) (pc' := 123) rfl (hb hby at_77) (by decide) (by decide) kt) ?_
        exact J123 _ _ _ _ _ _ _ (own_msk _) (own_msk _) (own_msk _) (own_msk _) (own_five _)
      · skip
        refine Rch.of (T' := T0) (g' := (mkF m 80 #[.val (.int p0), .val (.int p1), .val (.int p2), .val (.int p3), .val (.int p4), .val (.int p5), .val (.int (p0 &&& (2147483647 : Int32))), .val (.int (p1 &&& (2147483647 : Int32))), .val (.int (p2 &&& (2147483647 : Int32))), .val (.int (p1 &&& (2147483647 : Int32))), .val (.int ((p4 &&& (7 : Int32)) % (5 : Int32))), .val (.int (((p4.toUInt32 >>> ((5 : Int32) &&& 31).toUInt32).toInt32) &&& (7 : Int32))), .unset, .unset, .unset] [])) (fun _ kt => XS.ifYes X0.here hx rfl (pc0 := 70) (pc' := 80) rfl (hb hby at_70) rfl ((if0 _ _).trans (feq c213).2) (by decide) (by decide) kt) ?_
        refine Rch.of (T' := T0) (g' := (mkF m 82 #[.val (.int p0), .val (.int p1), .val (.int p2), .val (.int p3), .val (.int p4), .val (.int p5), .val (.int (p0 &&& (2147483647 : Int32))), .val (.int (p1 &&& (2147483647 : Int32))), .val (.int (p2 &&& (2147483647 : Int32))), .val (.int (p1 &&& (2147483647 : Int32))), .val (.int ((p4 &&& (7 : Int32)) % (5 : Int32))), .val (.int (((p4.toUInt32 >>> ((5 : Int32) &&& 31).toUInt32).toInt32) &&& (7 : Int32))), .unset, .unset, .unset] [(.int (((p4.toUInt32 >>> ((5 : Int32) &&& 31).toUInt32).toInt32) &&& (7 : Int32)))])) (fun _ kt => XS.iload X0.here hx rfl (hb hby at_80) rfl  kt) ?_
        refine Rch.of (T' := T0) (g' := (mkF m 83 #[.val (.int p0), .val (.int p1), .val (.int p2), .val (.int p3), .val (.int p4), .val (.int p5), .val (.int (p0 &&& (2147483647 : Int32))), .val (.int (p1 &&& (2147483647 : Int32))), .val (.int (p2 &&& (2147483647 : Int32))), .val (.int (p1 &&& (2147483647 : Int32))), .val (.int ((p4 &&& (7 : Int32)) % (5 : Int32))), .val (.int (((p4.toUInt32 >>> ((5 : Int32) &&& 31).toUInt32).toInt32) &&& (7 : Int32))), .unset, .unset, .unset] [(.int (1 : Int32)), (.int (((p4.toUInt32 >>> ((5 : Int32) &&& 31).toUInt32).toInt32) &&& (7 : Int32)))])) (fun _ kt => XS.iconst X0.here hx rfl (hb hby at_82) kt) ?_
        by_cases c214 : (((p4.toUInt32 >>> ((5 : Int32) &&& 31).toUInt32).toInt32) &&& (7 : Int32)) = (1 : Int32)
        · skip
          refine Rch.of (T' := T0) (g' := (mkF m 86 #[.val (.int p0), .val (.int p1), .val (.int p2), .val (.int p3), .val (.int p4), .val (.int p5), .val (.int (p0 &&& (2147483647 : Int32))), .val (.int (p1 &&& (2147483647 : Int32))), .val (.int (p2 &&& (2147483647 : Int32))), .val (.int (p1 &&& (2147483647 : Int32))), .val (.int ((p4 &&& (7 : Int32)) % (5 : Int32))), .val (.int (((p4.toUInt32 >>> ((5 : Int32) &&& 31).toUInt32).toInt32) &&& (7 : Int32))), .unset, .unset, .unset] [])) (fun _ kt => XS.icmpNo X0.here hx rfl (hb hby at_83) rfl (teq c214).2 kt) ?_
          refine Rch.of (T' := T0) (g' := (mkF m 88 #[.val (.int p0), .val (.int p1), .val (.int p2), .val (.int p3), .val (.int p4), .val (.int p5), .val (.int (p0 &&& (2147483647 : Int32))), .val (.int (p1 &&& (2147483647 : Int32))), .val (.int (p2 &&& (2147483647 : Int32))), .val (.int (p1 &&& (2147483647 : Int32))), .val (.int ((p4 &&& (7 : Int32)) % (5 : Int32))), .val (.int (((p4.toUInt32 >>> ((5 : Int32) &&& 31).toUInt32).toInt32) &&& (7 : Int32))), .unset, .unset, .unset] [(.int (p1 &&& (2147483647 : Int32)))])) (fun _ kt => XS.iload X0.here hx rfl (hb hby at_86) rfl  kt) ?_
          refine Rch.of (T' := T0) (g' := (mkF m 90 #[.val (.int p0), .val (.int p1), .val (.int p2), .val (.int p3), .val (.int p4), .val (.int p5), .val (.int (p0 &&& (2147483647 : Int32))), .val (.int (p1 &&& (2147483647 : Int32))), .val (.int (p2 &&& (2147483647 : Int32))), .val (.int (p1 &&& (2147483647 : Int32))), .val (.int ((p4 &&& (7 : Int32)) % (5 : Int32))), .val (.int (((p4.toUInt32 >>> ((5 : Int32) &&& 31).toUInt32).toInt32) &&& (7 : Int32))), .val (.int (p1 &&& (2147483647 : Int32))), .unset, .unset] [])) (fun _ kt => XS.istore X0.here hx rfl (hb hby at_88) rfl (l' := #[.val (.int p0), .val (.int p1), .val (.int p2), .val (.int p3), .val (.int p4), .val (.int p5), .val (.int (p0 &&& (2147483647 : Int32))), .val (.int (p1 &&& (2147483647 : Int32))), .val (.int (p2 &&& (2147483647 : Int32))), .val (.int (p1 &&& (2147483647 : Int32))), .val (.int ((p4 &&& (7 : Int32)) % (5 : Int32))), .val (.int (((p4.toUInt32 >>> ((5 : Int32) &&& 31).toUInt32).toInt32) &&& (7 : Int32))), .val (.int (p1 &&& (2147483647 : Int32))), .unset, .unset]) rfl kt) ?_
          refine Rch.of (T' := T0) (g' := (mkF m 123 #[.val (.int p0), .val (.int p1), .val (.int p2), .val (.int p3), .val (.int p4), .val (.int p5), .val (.int (p0 &&& (2147483647 : Int32))), .val (.int (p1 &&& (2147483647 : Int32))), .val (.int (p2 &&& (2147483647 : Int32))), .val (.int (p1 &&& (2147483647 : Int32))), .val (.int ((p4 &&& (7 : Int32)) % (5 : Int32))), .val (.int (((p4.toUInt32 >>> ((5 : Int32) &&& 31).toUInt32).toInt32) &&& (7 : Int32))), .val (.int (p1 &&& (2147483647 : Int32))), .unset, .unset] [])) (fun _ kt => XS.goto X0.here hx rfl (pc0 := 90) (pc' := 123) rfl (hb hby at_90) (by decide) (by decide) kt) ?_
          exact J123 _ _ _ _ _ _ _ (own_msk _) (own_msk _) (own_msk _) (own_msk _) (own_five _)
        · skip
          refine Rch.of (T' := T0) (g' := (mkF m 93 #[.val (.int p0), .val (.int p1), .val (.int p2), .val (.int p3), .val (.int p4), .val (.int p5), .val (.int (p0 &&& (2147483647 : Int32))), .val (.int (p1 &&& (2147483647 : Int32))), .val (.int (p2 &&& (2147483647 : Int32))), .val (.int (p1 &&& (2147483647 : Int32))), .val (.int ((p4 &&& (7 : Int32)) % (5 : Int32))), .val (.int (((p4.toUInt32 >>> ((5 : Int32) &&& 31).toUInt32).toInt32) &&& (7 : Int32))), .unset, .unset, .unset] [])) (fun _ kt => XS.icmpYes X0.here hx rfl (pc0 := 83) (pc' := 93) rfl (hb hby at_83) rfl (feq c214).2 (by decide) (by decide) kt) ?_
          refine Rch.of (T' := T0) (g' := (mkF m 95 #[.val (.int p0), .val (.int p1), .val (.int p2), .val (.int p3), .val (.int p4), .val (.int p5), .val (.int (p0 &&& (2147483647 : Int32))), .val (.int (p1 &&& (2147483647 : Int32))), .val (.int (p2 &&& (2147483647 : Int32))), .val (.int (p1 &&& (2147483647 : Int32))), .val (.int ((p4 &&& (7 : Int32)) % (5 : Int32))), .val (.int (((p4.toUInt32 >>> ((5 : Int32) &&& 31).toUInt32).toInt32) &&& (7 : Int32))), .unset, .unset, .unset] [(.int (((p4.toUInt32 >>> ((5 : Int32) &&& 31).toUInt32).toInt32) &&& (7 : Int32)))])) (fun _ kt => XS.iload X0.here hx rfl (hb hby at_93) rfl  kt) ?_
          refine Rch.of (T' := T0) (g' := (mkF m 96 #[.val (.int p0), .val (.int p1), .val (.int p2), .val (.int p3), .val (.int p4), .val (.int p5), .val (.int (p0 &&& (2147483647 : Int32))), .val (.int (p1 &&& (2147483647 : Int32))), .val (.int (p2 &&& (2147483647 : Int32))), .val (.int (p1 &&& (2147483647 : Int32))), .val (.int ((p4 &&& (7 : Int32)) % (5 : Int32))), .val (.int (((p4.toUInt32 >>> ((5 : Int32) &&& 31).toUInt32).toInt32) &&& (7 : Int32))), .unset, .unset, .unset] [(.int (2 : Int32)), (.int (((p4.toUInt32 >>> ((5 : Int32) &&& 31).toUInt32).toInt32) &&& (7 : Int32)))])) (fun _ kt => XS.iconst X0.here hx rfl (hb hby at_95) kt) ?_
          by_cases c215 : (((p4.toUInt32 >>> ((5 : Int32) &&& 31).toUInt32).toInt32) &&& (7 : Int32)) = (2 : Int32)
          · skip
            refine Rch.of (T' := T0) (g' := (mkF m 99 #[.val (.int p0), .val (.int p1), .val (.int p2), .val (.int p3), .val (.int p4), .val (.int p5), .val (.int (p0 &&& (2147483647 : Int32))), .val (.int (p1 &&& (2147483647 : Int32))), .val (.int (p2 &&& (2147483647 : Int32))), .val (.int (p1 &&& (2147483647 : Int32))), .val (.int ((p4 &&& (7 : Int32)) % (5 : Int32))), .val (.int (((p4.toUInt32 >>> ((5 : Int32) &&& 31).toUInt32).toInt32) &&& (7 : Int32))), .unset, .unset, .unset] [])) (fun _ kt => XS.icmpNo X0.here hx rfl (hb hby at_96) rfl (teq c215).2 kt) ?_
            refine Rch.of (T' := T0) (g' := (mkF m 101 #[.val (.int p0), .val (.int p1), .val (.int p2), .val (.int p3), .val (.int p4), .val (.int p5), .val (.int (p0 &&& (2147483647 : Int32))), .val (.int (p1 &&& (2147483647 : Int32))), .val (.int (p2 &&& (2147483647 : Int32))), .val (.int (p1 &&& (2147483647 : Int32))), .val (.int ((p4 &&& (7 : Int32)) % (5 : Int32))), .val (.int (((p4.toUInt32 >>> ((5 : Int32) &&& 31).toUInt32).toInt32) &&& (7 : Int32))), .unset, .unset, .unset] [(.int (p2 &&& (2147483647 : Int32)))])) (fun _ kt => XS.iload X0.here hx rfl (hb hby at_99) rfl  kt) ?_
            refine Rch.of (T' := T0) (g' := (mkF m 103 #[.val (.int p0), .val (.int p1), .val (.int p2), .val (.int p3), .val (.int p4), .val (.int p5), .val (.int (p0 &&& (2147483647 : Int32))), .val (.int (p1 &&& (2147483647 : Int32))), .val (.int (p2 &&& (2147483647 : Int32))), .val (.int (p1 &&& (2147483647 : Int32))), .val (.int ((p4 &&& (7 : Int32)) % (5 : Int32))), .val (.int (((p4.toUInt32 >>> ((5 : Int32) &&& 31).toUInt32).toInt32) &&& (7 : Int32))), .val (.int (p2 &&& (2147483647 : Int32))), .unset, .unset] [])) (fun _ kt => XS.istore X0.here hx rfl (hb hby at_101) rfl (l' := #[.val (.int p0), .val (.int p1), .val (.int p2), .val (.int p3), .val (.int p4), .val (.int p5), .val (.int (p0 &&& (2147483647 : Int32))), .val (.int (p1 &&& (2147483647 : Int32))), .val (.int (p2 &&& (2147483647 : Int32))), .val (.int (p1 &&& (2147483647 : Int32))), .val (.int ((p4 &&& (7 : Int32)) % (5 : Int32))), .val (.int (((p4.toUInt32 >>> ((5 : Int32) &&& 31).toUInt32).toInt32) &&& (7 : Int32))), .val (.int (p2 &&& (2147483647 : Int32))), .unset, .unset]) rfl kt) ?_
            refine Rch.of (T' := T0) (g' := (mkF m 123 #[.val (.int p0), .val (.int p1), .val (.int p2), .val (.int p3), .val (.int p4), .val (.int p5), .val (.int (p0 &&& (2147483647 : Int32))), .val (.int (p1 &&& (2147483647 : Int32))), .val (.int (p2 &&& (2147483647 : Int32))), .val (.int (p1 &&& (2147483647 : Int32))), .val (.int ((p4 &&& (7 : Int32)) % (5 : Int32))), .val (.int (((p4.toUInt32 >>> ((5 : Int32) &&& 31).toUInt32).toInt32) &&& (7 : Int32))), .val (.int (p2 &&& (2147483647 : Int32))), .unset, .unset] [])) (fun _ kt => XS.goto X0.here hx rfl (pc0 := 103) (pc' := 123) rfl (hb hby at_103) (by decide) (by decide) kt) ?_
            exact J123 _ _ _ _ _ _ _ (own_msk _) (own_msk _) (own_msk _) (own_msk _) (own_five _)
          · skip
            refine Rch.of (T' := T0) (g' := (mkF m 106 #[.val (.int p0), .val (.int p1), .val (.int p2), .val (.int p3), .val (.int p4), .val (.int p5), .val (.int (p0 &&& (2147483647 : Int32))), .val (.int (p1 &&& (2147483647 : Int32))), .val (.int (p2 &&& (2147483647 : Int32))), .val (.int (p1 &&& (2147483647 : Int32))), .val (.int ((p4 &&& (7 : Int32)) % (5 : Int32))), .val (.int (((p4.toUInt32 >>> ((5 : Int32) &&& 31).toUInt32).toInt32) &&& (7 : Int32))), .unset, .unset, .unset] [])) (fun _ kt => XS.icmpYes X0.here hx rfl (pc0 := 96) (pc' := 106) rfl (hb hby at_96) rfl (feq c215).2 (by decide) (by decide) kt) ?_
            refine Rch.of (T' := T0) (g' := (mkF m 108 #[.val (.int p0), .val (.int p1), .val (.int p2), .val (.int p3), .val (.int p4), .val (.int p5), .val (.int (p0 &&& (2147483647 : Int32))), .val (.int (p1 &&& (2147483647 : Int32))), .val (.int (p2 &&& (2147483647 : Int32))), .val (.int (p1 &&& (2147483647 : Int32))), .val (.int ((p4 &&& (7 : Int32)) % (5 : Int32))), .val (.int (((p4.toUInt32 >>> ((5 : Int32) &&& 31).toUInt32).toInt32) &&& (7 : Int32))), .unset, .unset, .unset] [(.int (((p4.toUInt32 >>> ((5 : Int32) &&& 31).toUInt32).toInt32) &&& (7 : Int32)))])) (fun _ kt => XS.iload X0.here hx rfl (hb hby at_106) rfl  kt) ?_
            refine Rch.of (T' := T0) (g' := (mkF m 109 #[.val (.int p0), .val (.int p1), .val (.int p2), .val (.int p3), .val (.int p4), .val (.int p5), .val (.int (p0 &&& (2147483647 : Int32))), .val (.int (p1 &&& (2147483647 : Int32))), .val (.int (p2 &&& (2147483647 : Int32))), .val (.int (p1 &&& (2147483647 : Int32))), .val (.int ((p4 &&& (7 : Int32)) % (5 : Int32))), .val (.int (((p4.toUInt32 >>> ((5 : Int32) &&& 31).toUInt32).toInt32) &&& (7 : Int32))), .unset, .unset, .unset] [(.int (3 : Int32)), (.int (((p4.toUInt32 >>> ((5 : Int32) &&& 31).toUInt32).toInt32) &&& (7 : Int32)))])) (fun _ kt => XS.iconst X0.here hx rfl (hb hby at_108) kt) ?_
            by_cases c216 : (((p4.toUInt32 >>> ((5 : Int32) &&& 31).toUInt32).toInt32) &&& (7 : Int32)) = (3 : Int32)
            · skip
              refine Rch.of (T' := T0) (g' := (mkF m 112 #[.val (.int p0), .val (.int p1), .val (.int p2), .val (.int p3), .val (.int p4), .val (.int p5), .val (.int (p0 &&& (2147483647 : Int32))), .val (.int (p1 &&& (2147483647 : Int32))), .val (.int (p2 &&& (2147483647 : Int32))), .val (.int (p1 &&& (2147483647 : Int32))), .val (.int ((p4 &&& (7 : Int32)) % (5 : Int32))), .val (.int (((p4.toUInt32 >>> ((5 : Int32) &&& 31).toUInt32).toInt32) &&& (7 : Int32))), .unset, .unset, .unset] [])) (fun _ kt => XS.icmpNo X0.here hx rfl (hb hby at_109) rfl (teq c216).2 kt) ?_
              refine Rch.of (T' := T0) (g' := (mkF m 114 #[.val (.int p0), .val (.int p1), .val (.int p2), .val (.int p3), .val (.int p4), .val (.int p5), .val (.int (p0 &&& (2147483647 : Int32))), .val (.int (p1 &&& (2147483647 : Int32))), .val (.int (p2 &&& (2147483647 : Int32))), .val (.int (p1 &&& (2147483647 : Int32))), .val (.int ((p4 &&& (7 : Int32)) % (5 : Int32))), .val (.int (((p4.toUInt32 >>> ((5 : Int32) &&& 31).toUInt32).toInt32) &&& (7 : Int32))), .unset, .unset, .unset] [(.int (p1 &&& (2147483647 : Int32)))])) (fun _ kt => XS.iload X0.here hx rfl (hb hby at_112) rfl  kt) ?_
              refine Rch.of (T' := T0) (g' := (mkF m 116 #[.val (.int p0), .val (.int p1), .val (.int p2), .val (.int p3), .val (.int p4), .val (.int p5), .val (.int (p0 &&& (2147483647 : Int32))), .val (.int (p1 &&& (2147483647 : Int32))), .val (.int (p2 &&& (2147483647 : Int32))), .val (.int (p1 &&& (2147483647 : Int32))), .val (.int ((p4 &&& (7 : Int32)) % (5 : Int32))), .val (.int (((p4.toUInt32 >>> ((5 : Int32) &&& 31).toUInt32).toInt32) &&& (7 : Int32))), .val (.int (p1 &&& (2147483647 : Int32))), .unset, .unset] [])) (fun _ kt => XS.istore X0.here hx rfl (hb hby at_114) rfl (l' := #[.val (.int p0), .val (.int p1), .val (.int p2), .val (.int p3), .val (.int p4), .val (.int p5), .val (.int (p0 &&& (2147483647 : Int32))), .val (.int (p1 &&& (2147483647 : Int32))), .val (.int (p2 &&& (2147483647 : Int32))), .val (.int (p1 &&& (2147483647 : Int32))), .val (.int ((p4 &&& (7 : Int32)) % (5 : Int32))), .val (.int (((p4.toUInt32 >>> ((5 : Int32) &&& 31).toUInt32).toInt32) &&& (7 : Int32))), .val (.int (p1 &&& (2147483647 : Int32))), .unset, .unset]) rfl kt) ?_
              refine Rch.of (T' := T0) (g' := (mkF m 123 #[.val (.int p0), .val (.int p1), .val (.int p2), .val (.int p3), .val (.int p4), .val (.int p5), .val (.int (p0 &&& (2147483647 : Int32))), .val (.int (p1 &&& (2147483647 : Int32))), .val (.int (p2 &&& (2147483647 : Int32))), .val (.int (p1 &&& (2147483647 : Int32))), .val (.int ((p4 &&& (7 : Int32)) % (5 : Int32))), .val (.int (((p4.toUInt32 >>> ((5 : Int32) &&& 31).toUInt32).toInt32) &&& (7 : Int32))), .val (.int (p1 &&& (2147483647 : Int32))), .unset, .unset] [])) (fun _ kt => XS.goto X0.here hx rfl (pc0 := 116) (pc' := 123) rfl (hb hby at_116) (by decide) (by decide) kt) ?_
              exact J123 _ _ _ _ _ _ _ (own_msk _) (own_msk _) (own_msk _) (own_msk _) (own_five _)
            · skip
              refine Rch.of (T' := T0) (g' := (mkF m 119 #[.val (.int p0), .val (.int p1), .val (.int p2), .val (.int p3), .val (.int p4), .val (.int p5), .val (.int (p0 &&& (2147483647 : Int32))), .val (.int (p1 &&& (2147483647 : Int32))), .val (.int (p2 &&& (2147483647 : Int32))), .val (.int (p1 &&& (2147483647 : Int32))), .val (.int ((p4 &&& (7 : Int32)) % (5 : Int32))), .val (.int (((p4.toUInt32 >>> ((5 : Int32) &&& 31).toUInt32).toInt32) &&& (7 : Int32))), .unset, .unset, .unset] [])) (fun _ kt => XS.icmpYes X0.here hx rfl (pc0 := 109) (pc' := 119) rfl (hb hby at_109) rfl (feq c216).2 (by decide) (by decide) kt) ?_
              refine Rch.of (T' := T0) (g' := (mkF m 121 #[.val (.int p0), .val (.int p1), .val (.int p2), .val (.int p3), .val (.int p4), .val (.int p5), .val (.int (p0 &&& (2147483647 : Int32))), .val (.int (p1 &&& (2147483647 : Int32))), .val (.int (p2 &&& (2147483647 : Int32))), .val (.int (p1 &&& (2147483647 : Int32))), .val (.int ((p4 &&& (7 : Int32)) % (5 : Int32))), .val (.int (((p4.toUInt32 >>> ((5 : Int32) &&& 31).toUInt32).toInt32) &&& (7 : Int32))), .unset, .unset, .unset] [(.int p5)])) (fun _ kt => XS.iload X0.here hx rfl (hb hby at_119) rfl  kt) ?_
              refine Rch.of (T' := T0) (g' := (mkF m 123 #[.val (.int p0), .val (.int p1), .val (.int p2), .val (.int p3), .val (.int p4), .val (.int p5), .val (.int (p0 &&& (2147483647 : Int32))), .val (.int (p1 &&& (2147483647 : Int32))), .val (.int (p2 &&& (2147483647 : Int32))), .val (.int (p1 &&& (2147483647 : Int32))), .val (.int ((p4 &&& (7 : Int32)) % (5 : Int32))), .val (.int (((p4.toUInt32 >>> ((5 : Int32) &&& 31).toUInt32).toInt32) &&& (7 : Int32))), .val (.int p5), .unset, .unset] [])) (fun _ kt => XS.istore X0.here hx rfl (hb hby at_121) rfl (l' := #[.val (.int p0), .val (.int p1), .val (.int p2), .val (.int p3), .val (.int p4), .val (.int p5), .val (.int (p0 &&& (2147483647 : Int32))), .val (.int (p1 &&& (2147483647 : Int32))), .val (.int (p2 &&& (2147483647 : Int32))), .val (.int (p1 &&& (2147483647 : Int32))), .val (.int ((p4 &&& (7 : Int32)) % (5 : Int32))), .val (.int (((p4.toUInt32 >>> ((5 : Int32) &&& 31).toUInt32).toInt32) &&& (7 : Int32))), .val (.int p5), .unset, .unset]) rfl kt) ?_
              exact J123 _ _ _ _ _ _ _ (own_msk _) (own_msk _) (own_msk _) (own_msk _) (own_five _)
  · skip
    refine Rch.of (T' := T0) (g' := (mkF m 33 #[.val (.int p0), .val (.int p1), .val (.int p2), .val (.int p3), .val (.int p4), .val (.int p5), .val (.int (p0 &&& (2147483647 : Int32))), .val (.int (p1 &&& (2147483647 : Int32))), .val (.int (p2 &&& (2147483647 : Int32))), .val (.int (p3 &&& (2147483647 : Int32))), .unset, .unset, .unset, .unset, .unset] [])) (fun _ kt => XS.ifNo X0.here hx rfl (hb hby at_30) rfl ((if0 _ _).trans (feq c207).1) kt) ?_
    refine Rch.of (T' := T0) (g' := (mkF m 35 #[.val (.int p0), .val (.int p1), .val (.int p2), .val (.int p3), .val (.int p4), .val (.int p5), .val (.int (p0 &&& (2147483647 : Int32))), .val (.int (p1 &&& (2147483647 : Int32))), .val (.int (p2 &&& (2147483647 : Int32))), .val (.int (p3 &&& (2147483647 : Int32))), .unset, .unset, .unset, .unset, .unset] [(.int (p0 &&& (2147483647 : Int32)))])) (fun _ kt => XS.iload X0.here hx rfl (hb hby at_33) rfl  kt) ?_
    refine Rch.of (T' := T0) (g' := (mkF m 37 #[.val (.int p0), .val (.int p1), .val (.int p2), .val (.int p3), .val (.int p4), .val (.int p5), .val (.int (p0 &&& (2147483647 : Int32))), .val (.int (p0 &&& (2147483647 : Int32))), .val (.int (p2 &&& (2147483647 : Int32))), .val (.int (p3 &&& (2147483647 : Int32))), .unset, .unset, .unset, .unset, .unset] [])) (fun _ kt => XS.istore X0.here hx rfl (hb hby at_35) rfl (l' := #[.val (.int p0), .val (.int p1), .val (.int p2), .val (.int p3), .val (.int p4), .val (.int p5), .val (.int (p0 &&& (2147483647 : Int32))), .val (.int (p0 &&& (2147483647 : Int32))), .val (.int (p2 &&& (2147483647 : Int32))), .val (.int (p3 &&& (2147483647 : Int32))), .unset, .unset, .unset, .unset, .unset]) rfl kt) ?_
    refine Rch.of (T' := T0) (g' := (mkF m 39 #[.val (.int p0), .val (.int p1), .val (.int p2), .val (.int p3), .val (.int p4), .val (.int p5), .val (.int (p0 &&& (2147483647 : Int32))), .val (.int (p0 &&& (2147483647 : Int32))), .val (.int (p2 &&& (2147483647 : Int32))), .val (.int (p3 &&& (2147483647 : Int32))), .unset, .unset, .unset, .unset, .unset] [(.int p4)])) (fun _ kt => XS.iload X0.here hx rfl (hb hby at_37) rfl  kt) ?_
    refine Rch.of (T' := T0) (g' := (mkF m 40 #[.val (.int p0), .val (.int p1), .val (.int p2), .val (.int p3), .val (.int p4), .val (.int p5), .val (.int (p0 &&& (2147483647 : Int32))), .val (.int (p0 &&& (2147483647 : Int32))), .val (.int (p2 &&& (2147483647 : Int32))), .val (.int (p3 &&& (2147483647 : Int32))), .unset, .unset, .unset, .unset, .unset] [(.int (4 : Int32)), (.int p4)])) (fun _ kt => XS.iconst X0.here hx rfl (hb hby at_39) kt) ?_
    refine Rch.of (T' := T0) (g' := (mkF m 41 #[.val (.int p0), .val (.int p1), .val (.int p2), .val (.int p3), .val (.int p4), .val (.int p5), .val (.int (p0 &&& (2147483647 : Int32))), .val (.int (p0 &&& (2147483647 : Int32))), .val (.int (p2 &&& (2147483647 : Int32))), .val (.int (p3 &&& (2147483647 : Int32))), .unset, .unset, .unset, .unset, .unset] [(.int ((p4.toUInt32 >>> ((4 : Int32) &&& 31).toUInt32).toInt32))])) (fun _ kt => XS.iushr X0.here hx rfl (hb hby at_40) rfl kt) ?_
    refine Rch.of (T' := T0) (g' := (mkF m 42 #[.val (.int p0), .val (.int p1), .val (.int p2), .val (.int p3), .val (.int p4), .val (.int p5), .val (.int (p0 &&& (2147483647 : Int32))), .val (.int (p0 &&& (2147483647 : Int32))), .val (.int (p2 &&& (2147483647 : Int32))), .val (.int (p3 &&& (2147483647 : Int32))), .unset, .unset, .unset, .unset, .unset] [(.int (1 : Int32)), (.int ((p4.toUInt32 >>> ((4 : Int32) &&& 31).toUInt32).toInt32))])) (fun _ kt => XS.iconst X0.here hx rfl (hb hby at_41) kt) ?_
    refine Rch.of (T' := T0) (g' := (mkF m 43 #[.val (.int p0), .val (.int p1), .val (.int p2), .val (.int p3), .val (.int p4), .val (.int p5), .val (.int (p0 &&& (2147483647 : Int32))), .val (.int (p0 &&& (2147483647 : Int32))), .val (.int (p2 &&& (2147483647 : Int32))), .val (.int (p3 &&& (2147483647 : Int32))), .unset, .unset, .unset, .unset, .unset] [(.int (((p4.toUInt32 >>> ((4 : Int32) &&& 31).toUInt32).toInt32) &&& (1 : Int32)))])) (fun _ kt => XS.iand X0.here hx rfl (hb hby at_42) rfl kt) ?_
    by_cases c217 : (((p4.toUInt32 >>> ((4 : Int32) &&& 31).toUInt32).toInt32) &&& (1 : Int32)) = (0 : Int32)
    · skip
      refine Rch.of (T' := T0) (g' := (mkF m 50 #[.val (.int p0), .val (.int p1), .val (.int p2), .val (.int p3), .val (.int p4), .val (.int p5), .val (.int (p0 &&& (2147483647 : Int32))), .val (.int (p0 &&& (2147483647 : Int32))), .val (.int (p2 &&& (2147483647 : Int32))), .val (.int (p3 &&& (2147483647 : Int32))), .unset, .unset, .unset, .unset, .unset] [])) (fun _ kt => XS.ifYes X0.here hx rfl (pc0 := 43) (pc' := 50) rfl (hb hby at_43) rfl ((if0 _ _).trans (teq c217).1) (by decide) (by decide) kt) ?_
      refine Rch.of (T' := T0) (g' := (mkF m 52 #[.val (.int p0), .val (.int p1), .val (.int p2), .val (.int p3), .val (.int p4), .val (.int p5), .val (.int (p0 &&& (2147483647 : Int32))), .val (.int (p0 &&& (2147483647 : Int32))), .val (.int (p2 &&& (2147483647 : Int32))), .val (.int (p3 &&& (2147483647 : Int32))), .unset, .unset, .unset, .unset, .unset] [(.int p4)])) (fun _ kt => XS.iload X0.here hx rfl (hb hby at_50) rfl  kt) ?_
      refine Rch.of (T' := T0) (g' := (mkF m 54 #[.val (.int p0), .val (.int p1), .val (.int p2), .val (.int p3), .val (.int p4), .val (.int p5), .val (.int (p0 &&& (2147483647 : Int32))), .val (.int (p0 &&& (2147483647 : Int32))), .val (.int (p2 &&& (2147483647 : Int32))), .val (.int (p3 &&& (2147483647 : Int32))), .unset, .unset, .unset, .unset, .unset] [(.int (7 : Int32)), (.int p4)])) (fun _ kt => XS.bipush X0.here hx rfl (hb hby at_52) kt) ?_
      refine Rch.of (T' := T0) (g' := (mkF m 55 #[.val (.int p0), .val (.int p1), .val (.int p2), .val (.int p3), .val (.int p4), .val (.int p5), .val (.int (p0 &&& (2147483647 : Int32))), .val (.int (p0 &&& (2147483647 : Int32))), .val (.int (p2 &&& (2147483647 : Int32))), .val (.int (p3 &&& (2147483647 : Int32))), .unset, .unset, .unset, .unset, .unset] [(.int (p4 &&& (7 : Int32)))])) (fun _ kt => XS.iand X0.here hx rfl (hb hby at_54) rfl kt) ?_
      refine Rch.of (T' := T0) (g' := (mkF m 56 #[.val (.int p0), .val (.int p1), .val (.int p2), .val (.int p3), .val (.int p4), .val (.int p5), .val (.int (p0 &&& (2147483647 : Int32))), .val (.int (p0 &&& (2147483647 : Int32))), .val (.int (p2 &&& (2147483647 : Int32))), .val (.int (p3 &&& (2147483647 : Int32))), .unset, .unset, .unset, .unset, .unset] [(.int (5 : Int32)), (.int (p4 &&& (7 : Int32)))])) (fun _ kt => XS.iconst X0.here hx rfl (hb hby at_55) kt) ?_
      refine Rch.of (T' := T0) (g' := (mkF m 57 #[.val (.int p0), .val (.int p1), .val (.int p2), .val (.int p3), .val (.int p4), .val (.int p5), .val (.int (p0 &&& (2147483647 : Int32))), .val (.int (p0 &&& (2147483647 : Int32))), .val (.int (p2 &&& (2147483647 : Int32))), .val (.int (p3 &&& (2147483647 : Int32))), .unset, .unset, .unset, .unset, .unset] [(.int ((p4 &&& (7 : Int32)) % (5 : Int32)))])) (fun _ kt => iremM X0 hx rfl (hb hby at_56) rfl (by decide) kt) ?_
      refine Rch.of (T' := T0) (g' := (mkF m 59 #[.val (.int p0), .val (.int p1), .val (.int p2), .val (.int p3), .val (.int p4), .val (.int p5), .val (.int (p0 &&& (2147483647 : Int32))), .val (.int (p0 &&& (2147483647 : Int32))), .val (.int (p2 &&& (2147483647 : Int32))), .val (.int (p3 &&& (2147483647 : Int32))), .val (.int ((p4 &&& (7 : Int32)) % (5 : Int32))), .unset, .unset, .unset, .unset] [])) (fun _ kt => XS.istore X0.here hx rfl (hb hby at_57) rfl (l' := #[.val (.int p0), .val (.int p1), .val (.int p2), .val (.int p3), .val (.int p4), .val (.int p5), .val (.int (p0 &&& (2147483647 : Int32))), .val (.int (p0 &&& (2147483647 : Int32))), .val (.int (p2 &&& (2147483647 : Int32))), .val (.int (p3 &&& (2147483647 : Int32))), .val (.int ((p4 &&& (7 : Int32)) % (5 : Int32))), .unset, .unset, .unset, .unset]) rfl kt) ?_
      refine Rch.of (T' := T0) (g' := (mkF m 61 #[.val (.int p0), .val (.int p1), .val (.int p2), .val (.int p3), .val (.int p4), .val (.int p5), .val (.int (p0 &&& (2147483647 : Int32))), .val (.int (p0 &&& (2147483647 : Int32))), .val (.int (p2 &&& (2147483647 : Int32))), .val (.int (p3 &&& (2147483647 : Int32))), .val (.int ((p4 &&& (7 : Int32)) % (5 : Int32))), .unset, .unset, .unset, .unset] [(.int p4)])) (fun _ kt => XS.iload X0.here hx rfl (hb hby at_59) rfl  kt) ?_
      refine Rch.of (T' := T0) (g' := (mkF m 62 #[.val (.int p0), .val (.int p1), .val (.int p2), .val (.int p3), .val (.int p4), .val (.int p5), .val (.int (p0 &&& (2147483647 : Int32))), .val (.int (p0 &&& (2147483647 : Int32))), .val (.int (p2 &&& (2147483647 : Int32))), .val (.int (p3 &&& (2147483647 : Int32))), .val (.int ((p4 &&& (7 : Int32)) % (5 : Int32))), .unset, .unset, .unset, .unset] [(.int (5 : Int32)), (.int p4)])) (fun _ kt => XS.iconst X0.here hx rfl (hb hby at_61) kt) ?_
      refine Rch.of (T' := T0) (g' := (mkF m 63 #[.val (.int p0), .val (.int p1), .val (.int p2), .val (.int p3), .val (.int p4), .val (.int p5), .val (.int (p0 &&& (2147483647 : Int32))), .val (.int (p0 &&& (2147483647 : Int32))), .val (.int (p2 &&& (2147483647 : Int32))), .val (.int (p3 &&& (2147483647 : Int32))), .val (.int ((p4 &&& (7 : Int32)) % (5 : Int32))), .unset, .unset, .unset, .unset] [(.int ((p4.toUInt32 >>> ((5 : Int32) &&& 31).toUInt32).toInt32))])) (fun _ kt => XS.iushr X0.here hx rfl (hb hby at_62) rfl kt) ?_
      refine Rch.of (T' := T0) (g' := (mkF m 65 #[.val (.int p0), .val (.int p1), .val (.int p2), .val (.int p3), .val (.int p4), .val (.int p5), .val (.int (p0 &&& (2147483647 : Int32))), .val (.int (p0 &&& (2147483647 : Int32))), .val (.int (p2 &&& (2147483647 : Int32))), .val (.int (p3 &&& (2147483647 : Int32))), .val (.int ((p4 &&& (7 : Int32)) % (5 : Int32))), .unset, .unset, .unset, .unset] [(.int (7 : Int32)), (.int ((p4.toUInt32 >>> ((5 : Int32) &&& 31).toUInt32).toInt32))])) (fun _ kt => XS.bipush X0.here hx rfl (hb hby at_63) kt) ?_
      refine Rch.of (T' := T0) (g' := (mkF m 66 #[.val (.int p0), .val (.int p1), .val (.int p2), .val (.int p3), .val (.int p4), .val (.int p5), .val (.int (p0 &&& (2147483647 : Int32))), .val (.int (p0 &&& (2147483647 : Int32))), .val (.int (p2 &&& (2147483647 : Int32))), .val (.int (p3 &&& (2147483647 : Int32))), .val (.int ((p4 &&& (7 : Int32)) % (5 : Int32))), .unset, .unset, .unset, .unset] [(.int (((p4.toUInt32 >>> ((5 : Int32) &&& 31).toUInt32).toInt32) &&& (7 : Int32)))])) (fun _ kt => XS.iand X0.here hx rfl (hb hby at_65) rfl kt) ?_
      refine Rch.of (T' := T0) (g' := (mkF m 68 #[.val (.int p0), .val (.int p1), .val (.int p2), .val (.int p3), .val (.int p4), .val (.int p5), .val (.int (p0 &&& (2147483647 : Int32))), .val (.int (p0 &&& (2147483647 : Int32))), .val (.int (p2 &&& (2147483647 : Int32))), .val (.int (p3 &&& (2147483647 : Int32))), .val (.int ((p4 &&& (7 : Int32)) % (5 : Int32))), .val (.int (((p4.toUInt32 >>> ((5 : Int32) &&& 31).toUInt32).toInt32) &&& (7 : Int32))), .unset, .unset, .unset] [])) (fun _ kt => XS.istore X0.here hx rfl (hb hby at_66) rfl (l' := #[.val (.int p0), .val (.int p1), .val (.int p2), .val (.int p3), .val (.int p4), .val (.int p5), .val (.int (p0 &&& (2147483647 : Int32))), .val (.int (p0 &&& (2147483647 : Int32))), .val (.int (p2 &&& (2147483647 : Int32))), .val (.int (p3 &&& (2147483647 : Int32))), .val (.int ((p4 &&& (7 : Int32)) % (5 : Int32))), .val (.int (((p4.toUInt32 >>> ((5 : Int32) &&& 31).toUInt32).toInt32) &&& (7 : Int32))), .unset, .unset, .unset]) rfl kt) ?_
      refine Rch.of (T' := T0) (g' := (mkF m 70 #[.val (.int p0), .val (.int p1), .val (.int p2), .val (.int p3), .val (.int p4), .val (.int p5), .val (.int (p0 &&& (2147483647 : Int32))), .val (.int (p0 &&& (2147483647 : Int32))), .val (.int (p2 &&& (2147483647 : Int32))), .val (.int (p3 &&& (2147483647 : Int32))), .val (.int ((p4 &&& (7 : Int32)) % (5 : Int32))), .val (.int (((p4.toUInt32 >>> ((5 : Int32) &&& 31).toUInt32).toInt32) &&& (7 : Int32))), .unset, .unset, .unset] [(.int (((p4.toUInt32 >>> ((5 : Int32) &&& 31).toUInt32).toInt32) &&& (7 : Int32)))])) (fun _ kt => XS.iload X0.here hx rfl (hb hby at_68) rfl  kt) ?_
      by_cases c218 : (((p4.toUInt32 >>> ((5 : Int32) &&& 31).toUInt32).toInt32) &&& (7 : Int32)) = (0 : Int32)
      · skip
        refine Rch.of (T' := T0) (g' := (mkF m 73 #[.val (.int p0), .val (.int p1), .val (.int p2), .val (.int p3), .val (.int p4), .val (.int p5), .val (.int (p0 &&& (2147483647 : Int32))), .val (.int (p0 &&& (2147483647 : Int32))), .val (.int (p2 &&& (2147483647 : Int32))), .val (.int (p3 &&& (2147483647 : Int32))), .val (.int ((p4 &&& (7 : Int32)) % (5 : Int32))), .val (.int (((p4.toUInt32 >>> ((5 : Int32) &&& 31).toUInt32).toInt32) &&& (7 : Int32))), .unset, .unset, .unset] [])) (fun _ kt => XS.ifNo X0.here hx rfl (hb hby at_70) rfl ((if0 _ _).trans (teq c218).2) kt) ?_
        refine Rch.of (T' := T0) (g' := (mkF m 75 #[.val (.int p0), .val (.int p1), .val (.int p2), .val (.int p3), .val (.int p4), .val (.int p5), .val (.int (p0 &&& (2147483647 : Int32))), .val (.int (p0 &&& (2147483647 : Int32))), .val (.int (p2 &&& (2147483647 : Int32))), .val (.int (p3 &&& (2147483647 : Int32))), .val (.int ((p4 &&& (7 : Int32)) % (5 : Int32))), .val (.int (((p4.toUInt32 >>> ((5 : Int32) &&& 31).toUInt32).toInt32) &&& (7 : Int32))), .unset, .unset, .unset] [(.int (p0 &&& (2147483647 : Int32)))])) (fun _ kt => XS.iload X0.here hx rfl (hb hby at_73) rfl  kt) ?_
        refine Rch.of (T' := T0) (g' := (mkF m 77 #[.val (.int p0), .val (.int p1), .val (.int p2), .val (.int p3), .val (.int p4), .val (.int p5), .val (.int (p0 &&& (2147483647 : Int32))), .val (.int (p0 &&& (2147483647 : Int32))), .val (.int (p2 &&& (2147483647 : Int32))), .val (.int (p3 &&& (2147483647 : Int32))), .val (.int ((p4 &&& (7 : Int32)) % (5 : Int32))), .val (.int (((p4.toUInt32 >>> ((5 : Int32) &&& 31).toUInt32).toInt32) &&& (7 : Int32))), .val (.int (p0 &&& (2147483647 : Int32))), .unset, .unset] [])) (fun _ kt => XS.istore X0.here hx rfl (hb hby at_75) rfl (l' := #[.val (.int p0), .val (.int p1), .val (.int p2), .val (.int p3), .val (.int p4), .val (.int p5), .val (.int (p0 &&& (2147483647 : Int32))), .val (.int (p0 &&& (2147483647 : Int32))), .val (.int (p2 &&& (2147483647 : Int32))), .val (.int (p3 &&& (2147483647 : Int32))), .val (.int ((p4 &&& (7 : Int32)) % (5 : Int32))), .val (.int (((p4.toUInt32 >>> ((5 : Int32) &&& 31).toUInt32).toInt32) &&& (7 : Int32))), .val (.int (p0 &&& (2147483647 : Int32))), .unset, .unset]) rfl kt) ?_
        refine Rch.of (T' := T0) (g' := (mkF m 123 #[.val (.int p0), .val (.int p1), .val (.int p2), .val (.int p3), .val (.int p4), .val (.int p5), .val (.int (p0 &&& (2147483647 : Int32))), .val (.int (p0 &&& (2147483647 : Int32))), .val (.int (p2 &&& (2147483647 : Int32))), .val (.int (p3 &&& (2147483647 : Int32))), .val (.int ((p4 &&& (7 : Int32)) % (5 : Int32))), .val (.int (((p4.toUInt32 >>> ((5 : Int32) &&& 31).toUInt32).toInt32) &&& (7 : Int32))), .val (.int (p0 &&& (2147483647 : Int32))), .unset, .unset] [])) (fun _ kt => XS.goto X0.here hx rfl (pc0 := 77) (pc' := 123) rfl (hb hby at_77) (by decide) (by decide) kt) ?_
        exact J123 _ _ _ _ _ _ _ (own_msk _) (own_msk _) (own_msk _) (own_msk _) (own_five _)
      · skip
        refine Rch.of (T' := T0) (g' := (mkF m 80 #[.val (.int p0), .val (.int p1), .val (.int p2), .val (.int p3), .val (.int p4), .val (.int p5), .val (.int (p0 &&& (2147483647 : Int32))), .val (.int (p0 &&& (2147483647 : Int32))), .val (.int (p2 &&& (2147483647 : Int32))), .val (.int (p3 &&& (2147483647 : Int32))), .val (.int ((p4 &&& (7 : Int32)) % (5 : Int32))), .val (.int (((p4.toUInt32 >>> ((5 : Int32) &&& 31).toUInt32).toInt32) &&& (7 : Int32))), .unset, .unset, .unset] [])) (fun _ kt => XS.ifYes X0.here hx rfl (pc0 := 70) (pc' := 80) rfl (hb hby at_70) rfl ((if0 _ _).trans (feq c218).2) (by decide) (by decide) kt) ?_
        refine Rch.of (T' := T0) (g' := (mkF m 82 #[.val (.int p0), .val (.int p1), .val (.int p2), .val (.int p3), .val (.int p4), .val (.int p5), .val (.int (p0 &&& (2147483647 : Int32))), .val (.int (p0 &&& (2147483647 : Int32))), .val (.int (p2 &&& (2147483647 : Int32))), .val (.int (p3 &&& (2147483647 : Int32))), .val (.int ((p4 &&& (7 : Int32)) % (5 : Int32))), .val (.int (((p4.toUInt32 >>> ((5 : Int32) &&& 31).toUInt32).toInt32) &&& (7 : Int32))), .unset, .unset, .unset] [(.int (((p4.toUInt32 >>> ((5 : Int32) &&& 31).toUInt32).toInt32) &&& (7 : Int32)))])) (fun _ kt => XS.iload X0.here hx rfl (hb hby at_80) rfl  kt) ?_
        refine Rch.of (T' := T0) (g' := (mkF m 83 #[.val (.int p0), .val (.int p1), .val (.int p2), .val (.int p3), .val (.int p4), .val (.int p5), .val (.int (p0 &&& (2147483647 : Int32))), .val (.int (p0 &&& (2147483647 : Int32))), .val (.int (p2 &&& (2147483647 : Int32))), .val (.int (p3 &&& (2147483647 : Int32))), .val (.int ((p4 &&& (7 : Int32)) % (5 : Int32))), .val (.int (((p4.toUInt32 >>> ((5 : Int32) &&& 31).toUInt32).toInt32) &&& (7 : Int32))), .unset, .unset, .unset] [(.int (1 : Int32)), (.int (((p4.toUInt32 >>> ((5 : Int32) &&& 31).toUInt32).toInt32) &&& (7 : Int32)))])) (fun _ kt => XS.iconst X0.here hx rfl (hb hby at_82) kt) ?_
        by_cases c219 : (((p4.toUInt32 >>> ((5 : Int32) &&& 31).toUInt32).toInt32) &&& (7 : Int32)) = (1 : Int32)
        · skip
          refine Rch.of (T' := T0) (g' := (mkF m 86 #[.val (.int p0), .val (.int p1), .val (.int p2), .val (.int p3), .val (.int p4), .val (.int p5), .val (.int (p0 &&& (2147483647 : Int32))), .val (.int (p0 &&& (2147483647 : Int32))), .val (.int (p2 &&& (2147483647 : Int32))), .val (.int (p3 &&& (2147483647 : Int32))), .val (.int ((p4 &&& (7 : Int32)) % (5 : Int32))), .val (.int (((p4.toUInt32 >>> ((5 : Int32) &&& 31).toUInt32).toInt32) &&& (7 : Int32))), .unset, .unset, .unset] [])) (fun _ kt => XS.icmpNo X0.here hx rfl (hb hby at_83) rfl (teq c219).2 kt) ?_
          refine Rch.of (T' := T0) (g' := (mkF m 88 #[.val (.int p0), .val (.int p1), .val (.int p2), .val (.int p3), .val (.int p4), .val (.int p5), .val (.int (p0 &&& (2147483647 : Int32))), .val (.int (p0 &&& (2147483647 : Int32))), .val (.int (p2 &&& (2147483647 : Int32))), .val (.int (p3 &&& (2147483647 : Int32))), .val (.int ((p4 &&& (7 : Int32)) % (5 : Int32))), .val (.int (((p4.toUInt32 >>> ((5 : Int32) &&& 31).toUInt32).toInt32) &&& (7 : Int32))), .unset, .unset, .unset] [(.int (p0 &&& (2147483647 : Int32)))])) (fun _ kt => XS.iload X0.here hx rfl (hb hby at_86) rfl  kt) ?_
          refine Rch.of (T' := T0) (g' := (mkF m 90 #[.val (.int p0), .val (.int p1), .val (.int p2), .val (.int p3), .val (.int p4), .val (.int p5), .val (.int (p0 &&& (2147483647 : Int32))), .val (.int (p0 &&& (2147483647 : Int32))), .val (.int (p2 &&& (2147483647 : Int32))), .val (.int (p3 &&& (2147483647 : Int32))), .val (.int ((p4 &&& (7 : Int32)) % (5 : Int32))), .val (.int (((p4.toUInt32 >>> ((5 : Int32) &&& 31).toUInt32).toInt32) &&& (7 : Int32))), .val (.int (p0 &&& (2147483647 : Int32))), .unset, .unset] [])) (fun _ kt => XS.istore X0.here hx rfl (hb hby at_88) rfl (l' := #[.val (.int p0), .val (.int p1), .val (.int p2), .val (.int p3), .val (.int p4), .val (.int p5), .val (.int (p0 &&& (2147483647 : Int32))), .val (.int (p0 &&& (2147483647 : Int32))), .val (.int (p2 &&& (2147483647 : Int32))), .val (.int (p3 &&& (2147483647 : Int32))), .val (.int ((p4 &&& (7 : Int32)) % (5 : Int32))), .val (.int (((p4.toUInt32 >>> ((5 : Int32) &&& 31).toUInt32).toInt32) &&& (7 : Int32))), .val (.int (p0 &&& (2147483647 : Int32))), .unset, .unset]) rfl kt) ?_
          refine Rch.of (T' := T0) (g' := (mkF m 123 #[.val (.int p0), .val (.int p1), .val (.int p2), .val (.int p3), .val (.int p4), .val (.int p5), .val (.int (p0 &&& (2147483647 : Int32))), .val (.int (p0 &&& (2147483647 : Int32))), .val (.int (p2 &&& (2147483647 : Int32))), .val (.int (p3 &&& (2147483647 : Int32))), .val (.int ((p4 &&& (7 : Int32)) % (5 : Int32))), .val (.int (((p4.toUInt32 >>> ((5 : Int32) &&& 31).toUInt32).toInt32) &&& (7 : Int32))), .val (.int (p0 &&& (2147483647 : Int32))), .unset, .unset] [])) (fun _ kt => XS.goto X0.here hx rfl (pc0 := 90) (pc' := 123) rfl (hb hby at_90) (by decide) (by decide) kt) ?_
          exact J123 _ _ _ _ _ _ _ (own_msk _) (own_msk _) (own_msk _) (own_msk _) (own_five _)
        · skip
          refine Rch.of (T' := T0) (g' := (mkF m 93 #[.val (.int p0), .val (.int p1), .val (.int p2), .val (.int p3), .val (.int p4), .val (.int p5), .val (.int (p0 &&& (2147483647 : Int32))), .val (.int (p0 &&& (2147483647 : Int32))), .val (.int (p2 &&& (2147483647 : Int32))), .val (.int (p3 &&& (2147483647 : Int32))), .val (.int ((p4 &&& (7 : Int32)) % (5 : Int32))), .val (.int (((p4.toUInt32 >>> ((5 : Int32) &&& 31).toUInt32).toInt32) &&& (7 : Int32))), .unset, .unset, .unset] [])) (fun _ kt => XS.icmpYes X0.here hx rfl (pc0 := 83) (pc' := 93) rfl (hb hby at_83) rfl (feq c219).2 (by decide) (by decide) kt) ?_
          refine Rch.of (T' := T0) (g' := (mkF m 95 #[.val (.int p0), .val (.int p1), .val (.int p2), .val (.int p3), .val (.int p4), .val (.int p5), .val (.int (p0 &&& (2147483647 : Int32))), .val (.int (p0 &&& (2147483647 : Int32))), .val (.int (p2 &&& (2147483647 : Int32))), .val (.int (p3 &&& (2147483647 : Int32))), .val (.int ((p4 &&& (7 : Int32)) % (5 : Int32))), .val (.int (((p4.toUInt32 >>> ((5 : Int32) &&& 31).toUInt32).toInt32) &&& (7 : Int32))), .unset, .unset, .unset] [(.int (((p4.toUInt32 >>> ((5 : Int32) &&& 31).toUInt32).toInt32) &&& (7 : Int32)))])) (fun _ kt => XS.iload X0.here hx rfl (hb hby at_93) rfl  kt) ?_
          refine Rch.of (T' := T0) (g' := (mkF m 96 #[.val (.int p0), .val (.int p1), .val (.int p2), .val (.int p3), .val (.int p4), .val (.int p5), .val (.int (p0 &&& (2147483647 : Int32))), .val (.int (p0 &&& (2147483647 : Int32))), .val (.int (p2 &&& (2147483647 : Int32))), .val (.int (p3 &&& (2147483647 : Int32))), .val (.int ((p4 &&& (7 : Int32)) % (5 : Int32))), .val (.int (((p4.toUInt32 >>> ((5 : Int32) &&& 31).toUInt32).toInt32) &&& (7 : Int32))), .unset, .unset, .unset] [(.int (2 : Int32)), (.int (((p4.toUInt32 >>> ((5 : Int32) &&& 31).toUInt32).toInt32) &&& (7 : Int32)))])) (fun _ kt => XS.iconst X0.here hx rfl (hb hby at_95) kt) ?_
          by_cases c220 : (((p4.toUInt32 >>> ((5 : Int32) &&& 31).toUInt32).toInt32) &&& (7 : Int32)) = (2 : Int32)
          · skip
            refine Rch.of (T' := T0) (g' := (mkF m 99 #[.val (.int p0), .val (.int p1), .val (.int p2), .val (.int p3), .val (.int p4), .val (.int p5), .val (.int (p0 &&& (2147483647 : Int32))), .val (.int (p0 &&& (2147483647 : Int32))), .val (.int (p2 &&& (2147483647 : Int32))), .val (.int (p3 &&& (2147483647 : Int32))), .val (.int ((p4 &&& (7 : Int32)) % (5 : Int32))), .val (.int (((p4.toUInt32 >>> ((5 : Int32) &&& 31).toUInt32).toInt32) &&& (7 : Int32))), .unset, .unset, .unset] [])) (fun _ kt => XS.icmpNo X0.here hx rfl (hb hby at_96) rfl (teq c220).2 kt) ?_
            refine Rch.of (T' := T0) (g' := (mkF m 101 #[.val (.int p0), .val (.int p1), .val (.int p2), .val (.int p3), .val (.int p4), .val (.int p5), .val (.int (p0 &&& (2147483647 : Int32))), .val (.int (p0 &&& (2147483647 : Int32))), .val (.int (p2 &&& (2147483647 : Int32))), .val (.int (p3 &&& (2147483647 : Int32))), .val (.int ((p4 &&& (7 : Int32)) % (5 : Int32))), .val (.int (((p4.toUInt32 >>> ((5 : Int32) &&& 31).toUInt32).toInt32) &&& (7 : Int32))), .unset, .unset, .unset] [(.int (p2 &&& (2147483647 : Int32)))])) (fun _ kt => XS.iload X0.here hx rfl (hb hby at_99) rfl  kt) ?_
            refine Rch.of (T' := T0) (g' := (mkF m 103 #[.val (.int p0), .val (.int p1), .val (.int p2), .val (.int p3), .val (.int p4), .val (.int p5), .val (.int (p0 &&& (2147483647 : Int32))), .val (.int (p0 &&& (2147483647 : Int32))), .val (.int (p2 &&& (2147483647 : Int32))), .val (.int (p3 &&& (2147483647 : Int32))), .val (.int ((p4 &&& (7 : Int32)) % (5 : Int32))), .val (.int (((p4.toUInt32 >>> ((5 : Int32) &&& 31).toUInt32).toInt32) &&& (7 : Int32))), .val (.int (p2 &&& (2147483647 : Int32))), .unset, .unset] [])) (fun _ kt => XS.istore X0.here hx rfl (hb hby at_101) rfl (l' := #[.val (.int p0), .val (.int p1), .val (.int p2), .val (.int p3), .val (.int p4), .val (.int p5), .val (.int (p0 &&& (2147483647 : Int32))), .val (.int (p0 &&& (2147483647 : Int32))), .val (.int (p2 &&& (2147483647 : Int32))), .val (.int (p3 &&& (2147483647 : Int32))), .val (.int ((p4 &&& (7 : Int32)) % (5 : Int32))), .val (.int (((p4.toUInt32 >>> ((5 : Int32) &&& 31).toUInt32).toInt32) &&& (7 : Int32))), .val (.int (p2 &&& (2147483647 : Int32))), .unset, .unset]) rfl kt) ?_
            refine Rch.of (T' := T0) (g' := (mkF m 123 #[.val (.int p0), .val (.int p1), .val (.int p2), .val (.int p3), .val (.int p4), .val (.int p5), .val (.int (p0 &&& (2147483647 : Int32))), .val (.int (p0 &&& (2147483647 : Int32))), .val (.int (p2 &&& (2147483647 : Int32))), .val (.int (p3 &&& (2147483647 : Int32))), .val (.int ((p4 &&& (7 : Int32)) % (5 : Int32))), .val (.int (((p4.toUInt32 >>> ((5 : Int32) &&& 31).toUInt32).toInt32) &&& (7 : Int32))), .val (.int (p2 &&& (2147483647 : Int32))), .unset, .unset] [])) (fun _ kt => XS.goto X0.here hx rfl (pc0 := 103) (pc' := 123) rfl (hb hby at_103) (by decide) (by decide) kt) ?_
            exact J123 _ _ _ _ _ _ _ (own_msk _) (own_msk _) (own_msk _) (own_msk _) (own_five _)
          · skip
            refine Rch.of (T' := T0) (g' := (mkF m 106 #[.val (.int p0), .val (.int p1), .val (.int p2), .val (.int p3), .val (.int p4), .val (.int p5), .val (.int (p0 &&& (2147483647 : Int32))), .val (.int (p0 &&& (2147483647 : Int32))), .val (.int (p2 &&& (2147483647 : Int32))), .val (.int (p3 &&& (2147483647 : Int32))), .val (.int ((p4 &&& (7 : Int32)) % (5 : Int32))), .val (.int (((p4.toUInt32 >>> ((5 : Int32) &&& 31).toUInt32).toInt32) &&& (7 : Int32))), .unset, .unset, .unset] [])) (fun _ kt => XS.icmpYes X0.here hx rfl (pc0 := 96) (pc' := 106) rfl (hb hby at_96) rfl (feq c220).2 (by decide) (by decide) kt) ?_
            refine Rch.of (T' := T0) (g' := (mkF m 108 #[.val (.int p0), .val (.int p1), .val (.int p2), .val (.int p3), .val (.int p4), .val (.int p5), .val (.int (p0 &&& (2147483647 : Int32))), .val (.int (p0 &&& (2147483647 : Int32))), .val (.int (p2 &&& (2147483647 : Int32))), .val (.int (p3 &&& (2147483647 : Int32))), .val (.int ((p4 &&& (7 : Int32)) % (5 : Int32))), .val (.int (((p4.toUInt32 >>> ((5 : Int32) &&& 31).toUInt32).toInt32) &&& (7 : Int32))), .unset, .unset, .unset] [(.int (((p4.toUInt32 >>> ((5 : Int32) &&& 31).toUInt32).toInt32) &&& (7 : Int32)))])) (fun _ kt => XS.iload X0.here hx rfl (hb hby at_106) rfl  kt) ?_
            refine Rch.of (T' := T0) (g' := (mkF m 109 #[.val (.int p0), .val (.int p1), .val (.int p2), .val (.int p3), .val (.int p4), .val (.int p5), .val (.int (p0 &&& (2147483647 : Int32))), .val (.int (p0 &&& (2147483647 : Int32))), .val (.int (p2 &&& (2147483647 : Int32))), .val (.int (p3 &&& (2147483647 : Int32))), .val (.int ((p4 &&& (7 : Int32)) % (5 : Int32))), .val (.int (((p4.toUInt32 >>> ((5 : Int32) &&& 31).toUInt32).toInt32) &&& (7 : Int32))), .unset, .unset, .unset] [(.int (3 : Int32)), (.int (((p4.toUInt32 >>> ((5 : Int32) &&& 31).toUInt32).toInt32) &&& (7 : Int32)))])) (fun _ kt => XS.iconst X0.here hx rfl (hb hby at_108) kt) ?_
            by_cases c221 : (((p4.toUInt32 >>> ((5 : Int32) &&& 31).toUInt32).toInt32) &&& (7 : Int32)) = (3 : Int32)
            · skip
              refine Rch.of (T' := T0) (g' := (mkF m 112 #[.val (.int p0), .val (.int p1), .val (.int p2), .val (.int p3), .val (.int p4), .val (.int p5), .val (.int (p0 &&& (2147483647 : Int32))), .val (.int (p0 &&& (2147483647 : Int32))), .val (.int (p2 &&& (2147483647 : Int32))), .val (.int (p3 &&& (2147483647 : Int32))), .val (.int ((p4 &&& (7 : Int32)) % (5 : Int32))), .val (.int (((p4.toUInt32 >>> ((5 : Int32) &&& 31).toUInt32).toInt32) &&& (7 : Int32))), .unset, .unset, .unset] [])) (fun _ kt => XS.icmpNo X0.here hx rfl (hb hby at_109) rfl (teq c221).2 kt) ?_
              refine Rch.of (T' := T0) (g' := (mkF m 114 #[.val (.int p0), .val (.int p1), .val (.int p2), .val (.int p3), .val (.int p4), .val (.int p5), .val (.int (p0 &&& (2147483647 : Int32))), .val (.int (p0 &&& (2147483647 : Int32))), .val (.int (p2 &&& (2147483647 : Int32))), .val (.int (p3 &&& (2147483647 : Int32))), .val (.int ((p4 &&& (7 : Int32)) % (5 : Int32))), .val (.int (((p4.toUInt32 >>> ((5 : Int32) &&& 31).toUInt32).toInt32) &&& (7 : Int32))), .unset, .unset, .unset] [(.int (p3 &&& (2147483647 : Int32)))])) (fun _ kt => XS.iload X0.here hx rfl (hb hby at_112) rfl  kt) ?_
              refine Rch.of (T' := T0) (g' := (mkF m 116 #[.val (.int p0), .val (.int p1), .val (.int p2), .val (.int p3), .val (.int p4), .val (.int p5), .val (.int (p0 &&& (2147483647 : Int32))), .val (.int (p0 &&& (2147483647 : Int32))), .val (.int (p2 &&& (2147483647 : Int32))), .val (.int (p3 &&& (2147483647 : Int32))), .val (.int ((p4 &&& (7 : Int32)) % (5 : Int32))), .val (.int (((p4.toUInt32 >>> ((5 : Int32) &&& 31).toUInt32).toInt32) &&& (7 : Int32))), .val (.int (p3 &&& (2147483647 : Int32))), .unset, .unset] [])) (fun _ kt => XS.istore X0.here hx rfl (hb hby at_114) rfl (l' := #[.val (.int p0), .val (.int p1), .val (.int p2), .val (.int p3), .val (.int p4), .val (.int p5), .val (.int (p0 &&& (2147483647 : Int32))), .val (.int (p0 &&& (2147483647 : Int32))), .val (.int (p2 &&& (2147483647 : Int32))), .val (.int (p3 &&& (2147483647 : Int32))), .val (.int ((p4 &&& (7 : Int32)) % (5 : Int32))), .val (.int (((p4.toUInt32 >>> ((5 : Int32) &&& 31).toUInt32).toInt32) &&& (7 : Int32))), .val (.int (p3 &&& (2147483647 : Int32))), .unset, .unset]) rfl kt) ?_
              refine Rch.of (T' := T0) (g' := (mkF m 123 #[.val (.int p0), .val (.int p1), .val (.int p2), .val (.int p3), .val (.int p4), .val (.int p5), .val (.int (p0 &&& (2147483647 : Int32))), .val (.int (p0 &&& (2147483647 : Int32))), .val (.int (p2 &&& (2147483647 : Int32))), .val (.int (p3 &&& (2147483647 : Int32))), .val (.int ((p4 &&& (7 : Int32)) % (5 : Int32))), .val (.int (((p4.toUInt32 >>> ((5 : Int32) &&& 31).toUInt32).toInt32) &&& (7 : Int32))), .val (.int (p3 &&& (2147483647 : Int32))), .unset, .unset] [])) (fun _ kt => XS.goto X0.here hx rfl (pc0 := 116) (pc' := 123) rfl (hb hby at_116) (by decide) (by decide) kt) ?_
              exact J123 _ _ _ _ _ _ _ (own_msk _) (own_msk _) (own_msk _) (own_msk _) (own_five _)
            · skip
              refine Rch.of (T' := T0) (g' := (mkF m 119 #[.val (.int p0), .val (.int p1), .val (.int p2), .val (.int p3), .val (.int p4), .val (.int p5), .val (.int (p0 &&& (2147483647 : Int32))), .val (.int (p0 &&& (2147483647 : Int32))), .val (.int (p2 &&& (2147483647 : Int32))), .val (.int (p3 &&& (2147483647 : Int32))), .val (.int ((p4 &&& (7 : Int32)) % (5 : Int32))), .val (.int (((p4.toUInt32 >>> ((5 : Int32) &&& 31).toUInt32).toInt32) &&& (7 : Int32))), .unset, .unset, .unset] [])) (fun _ kt => XS.icmpYes X0.here hx rfl (pc0 := 109) (pc' := 119) rfl (hb hby at_109) rfl (feq c221).2 (by decide) (by decide) kt) ?_
              refine Rch.of (T' := T0) (g' := (mkF m 121 #[.val (.int p0), .val (.int p1), .val (.int p2), .val (.int p3), .val (.int p4), .val (.int p5), .val (.int (p0 &&& (2147483647 : Int32))), .val (.int (p0 &&& (2147483647 : Int32))), .val (.int (p2 &&& (2147483647 : Int32))), .val (.int (p3 &&& (2147483647 : Int32))), .val (.int ((p4 &&& (7 : Int32)) % (5 : Int32))), .val (.int (((p4.toUInt32 >>> ((5 : Int32) &&& 31).toUInt32).toInt32) &&& (7 : Int32))), .unset, .unset, .unset] [(.int p5)])) (fun _ kt => XS.iload X0.here hx rfl (hb hby at_119) rfl  kt) ?_
              refine Rch.of (T' := T0) (g' := (mkF m 123 #[.val (.int p0), .val (.int p1), .val (.int p2), .val (.int p3), .val (.int p4), .val (.int p5), .val (.int (p0 &&& (2147483647 : Int32))), .val (.int (p0 &&& (2147483647 : Int32))), .val (.int (p2 &&& (2147483647 : Int32))), .val (.int (p3 &&& (2147483647 : Int32))), .val (.int ((p4 &&& (7 : Int32)) % (5 : Int32))), .val (.int (((p4.toUInt32 >>> ((5 : Int32) &&& 31).toUInt32).toInt32) &&& (7 : Int32))), .val (.int p5), .unset, .unset] [])) (fun _ kt => XS.istore X0.here hx rfl (hb hby at_121) rfl (l' := #[.val (.int p0), .val (.int p1), .val (.int p2), .val (.int p3), .val (.int p4), .val (.int p5), .val (.int (p0 &&& (2147483647 : Int32))), .val (.int (p0 &&& (2147483647 : Int32))), .val (.int (p2 &&& (2147483647 : Int32))), .val (.int (p3 &&& (2147483647 : Int32))), .val (.int ((p4 &&& (7 : Int32)) % (5 : Int32))), .val (.int (((p4.toUInt32 >>> ((5 : Int32) &&& 31).toUInt32).toInt32) &&& (7 : Int32))), .val (.int p5), .unset, .unset]) rfl kt) ?_
              exact J123 _ _ _ _ _ _ _ (own_msk _) (own_msk _) (own_msk _) (own_msk _) (own_five _)
    · skip
      refine Rch.of (T' := T0) (g' := (mkF m 46 #[.val (.int p0), .val (.int p1), .val (.int p2), .val (.int p3), .val (.int p4), .val (.int p5), .val (.int (p0 &&& (2147483647 : Int32))), .val (.int (p0 &&& (2147483647 : Int32))), .val (.int (p2 &&& (2147483647 : Int32))), .val (.int (p3 &&& (2147483647 : Int32))), .unset, .unset, .unset, .unset, .unset] [])) (fun _ kt => XS.ifNo X0.here hx rfl (hb hby at_43) rfl ((if0 _ _).trans (feq c217).1) kt) ?_
      refine Rch.of (T' := T0) (g' := (mkF m 48 #[.val (.int p0), .val (.int p1), .val (.int p2), .val (.int p3), .val (.int p4), .val (.int p5), .val (.int (p0 &&& (2147483647 : Int32))), .val (.int (p0 &&& (2147483647 : Int32))), .val (.int (p2 &&& (2147483647 : Int32))), .val (.int (p3 &&& (2147483647 : Int32))), .unset, .unset, .unset, .unset, .unset] [(.int (p0 &&& (2147483647 : Int32)))])) (fun _ kt => XS.iload X0.here hx rfl (hb hby at_46) rfl  kt) ?_
      refine Rch.of (T' := T0) (g' := (mkF m 50 #[.val (.int p0), .val (.int p1), .val (.int p2), .val (.int p3), .val (.int p4), .val (.int p5), .val (.int (p0 &&& (2147483647 : Int32))), .val (.int (p0 &&& (2147483647 : Int32))), .val (.int (p2 &&& (2147483647 : Int32))), .val (.int (p0 &&& (2147483647 : Int32))), .unset, .unset, .unset, .unset, .unset] [])) (fun _ kt => XS.istore X0.here hx rfl (hb hby at_48) rfl (l' := #[.val (.int p0), .val (.int p1), .val (.int p2), .val (.int p3), .val (.int p4), .val (.int p5), .val (.int (p0 &&& (2147483647 : Int32))), .val (.int (p0 &&& (2147483647 : Int32))), .val (.int (p2 &&& (2147483647 : Int32))), .val (.int (p0 &&& (2147483647 : Int32))), .unset, .unset, .unset, .unset, .unset]) rfl kt) ?_
      refine Rch.of (T' := T0) (g' := (mkF m 52 #[.val (.int p0), .val (.int p1), .val (.int p2), .val (.int p3), .val (.int p4), .val (.int p5), .val (.int (p0 &&& (2147483647 : Int32))), .val (.int (p0 &&& (2147483647 : Int32))), .val (.int (p2 &&& (2147483647 : Int32))), .val (.int (p0 &&& (2147483647 : Int32))), .unset, .unset, .unset, .unset, .unset] [(.int p4)])) (fun _ kt => XS.iload X0.here hx rfl (hb hby at_50) rfl  kt) ?_
      refine Rch.of (T' := T0) (g' := (mkF m 54 #[.val (.int p0), .val (.int p1), .val (.int p2), .val (.int p3), .val (.int p4), .val (.int p5), .val (.int (p0 &&& (2147483647 : Int32))), .val (.int (p0 &&& (2147483647 : Int32))), .val (.int (p2 &&& (2147483647 : Int32))), .val (.int (p0 &&& (2147483647 : Int32))), .unset, .unset, .unset, .unset, .unset] [(.int (7 : Int32)), (.int p4)])) (fun _ kt => XS.bipush X0.here hx rfl (hb hby at_52) kt) ?_
      refine Rch.of (T' := T0) (g' := (mkF m 55 #[.val (.int p0), .val (.int p1), .val (.int p2), .val (.int p3), .val (.int p4), .val (.int p5), .val (.int (p0 &&& (2147483647 : Int32))), .val (.int (p0 &&& (2147483647 : Int32))), .val (.int (p2 &&& (2147483647 : Int32))), .val (.int (p0 &&& (2147483647 : Int32))), .unset, .unset, .unset, .unset, .unset] [(.int (p4 &&& (7 : Int32)))])) (fun _ kt => XS.iand X0.here hx rfl (hb hby at_54) rfl kt) ?_
      refine Rch.of (T' := T0) (g' := (mkF m 56 #[.val (.int p0), .val (.int p1), .val (.int p2), .val (.int p3), .val (.int p4), .val (.int p5), .val (.int (p0 &&& (2147483647 : Int32))), .val (.int (p0 &&& (2147483647 : Int32))), .val (.int (p2 &&& (2147483647 : Int32))), .val (.int (p0 &&& (2147483647 : Int32))), .unset, .unset, .unset, .unset, .unset] [(.int (5 : Int32)), (.int (p4 &&& (7 : Int32)))])) (fun _ kt => XS.iconst X0.here hx rfl (hb hby at_55) kt) ?_
      refine Rch.of (T' := T0) (g' := (mkF m 57 #[.val (.int p0), .val (.int p1), .val (.int p2), .val (.int p3), .val (.int p4), .val (.int p5), .val (.int (p0 &&& (2147483647 : Int32))), .val (.int (p0 &&& (2147483647 : Int32))), .val (.int (p2 &&& (2147483647 : Int32))), .val (.int (p0 &&& (2147483647 : Int32))), .unset, .unset, .unset, .unset, .unset] [(.int ((p4 &&& (7 : Int32)) % (5 : Int32)))])) (fun _ kt => iremM X0 hx rfl (hb hby at_56) rfl (by decide) kt) ?_
      refine Rch.of (T' := T0) (g' := (mkF m 59 #[.val (.int p0), .val (.int p1), .val (.int p2), .val (.int p3), .val (.int p4), .val (.int p5), .val (.int (p0 &&& (2147483647 : Int32))), .val (.int (p0 &&& (2147483647 : Int32))), .val (.int (p2 &&& (2147483647 : Int32))), .val (.int (p0 &&& (2147483647 : Int32))), .val (.int ((p4 &&& (7 : Int32)) % (5 : Int32))), .unset, .unset, .unset, .unset] [])) (fun _ kt => XS.istore X0.here hx rfl (hb hby at_57) rfl (l' := #[.val (.int p0), .val (.int p1), .val (.int p2), .val (.int p3), .val (.int p4), .val (.int p5), .val (.int (p0 &&& (2147483647 : Int32))), .val (.int (p0 &&& (2147483647 : Int32))), .val (.int (p2 &&& (2147483647 : Int32))), .val (.int (p0 &&& (2147483647 : Int32))), .val (.int ((p4 &&& (7 : Int32)) % (5 : Int32))), .unset, .unset, .unset, .unset]) rfl kt) ?_
      refine Rch.of (T' := T0) (g' := (mkF m 61 #[.val (.int p0), .val (.int p1), .val (.int p2), .val (.int p3), .val (.int p4), .val (.int p5), .val (.int (p0 &&& (2147483647 : Int32))), .val (.int (p0 &&& (2147483647 : Int32))), .val (.int (p2 &&& (2147483647 : Int32))), .val (.int (p0 &&& (2147483647 : Int32))), .val (.int ((p4 &&& (7 : Int32)) % (5 : Int32))), .unset, .unset, .unset, .unset] [(.int p4)])) (fun _ kt => XS.iload X0.here hx rfl (hb hby at_59) rfl  kt) ?_
      refine Rch.of (T' := T0) (g' := (mkF m 62 #[.val (.int p0), .val (.int p1), .val (.int p2), .val (.int p3), .val (.int p4), .val (.int p5), .val (.int (p0 &&& (2147483647 : Int32))), .val (.int (p0 &&& (2147483647 : Int32))), .val (.int (p2 &&& (2147483647 : Int32))), .val (.int (p0 &&& (2147483647 : Int32))), .val (.int ((p4 &&& (7 : Int32)) % (5 : Int32))), .unset, .unset, .unset, .unset] [(.int (5 : Int32)), (.int p4)])) (fun _ kt => XS.iconst X0.here hx rfl (hb hby at_61) kt) ?_
      refine Rch.of (T' := T0) (g' := (mkF m 63 #[.val (.int p0), .val (.int p1), .val (.int p2), .val (.int p3), .val (.int p4), .val (.int p5), .val (.int (p0 &&& (2147483647 : Int32))), .val (.int (p0 &&& (2147483647 : Int32))), .val (.int (p2 &&& (2147483647 : Int32))), .val (.int (p0 &&& (2147483647 : Int32))), .val (.int ((p4 &&& (7 : Int32)) % (5 : Int32))), .unset, .unset, .unset, .unset] [(.int ((p4.toUInt32 >>> ((5 : Int32) &&& 31).toUInt32).toInt32))])) (fun _ kt => XS.iushr X0.here hx rfl (hb hby at_62) rfl kt) ?_
      refine Rch.of (T' := T0) (g' := (mkF m 65 #[.val (.int p0), .val (.int p1), .val (.int p2), .val (.int p3), .val (.int p4), .val (.int p5), .val (.int (p0 &&& (2147483647 : Int32))), .val (.int (p0 &&& (2147483647 : Int32))), .val (.int (p2 &&& (2147483647 : Int32))), .val (.int (p0 &&& (2147483647 : Int32))), .val (.int ((p4 &&& (7 : Int32)) % (5 : Int32))), .unset, .unset, .unset, .unset] [(.int (7 : Int32)), (.int ((p4.toUInt32 >>> ((5 : Int32) &&& 31).toUInt32).toInt32))])) (fun _ kt => XS.bipush X0.here hx rfl (hb hby at_63) kt) ?_
      refine Rch.of (T' := T0) (g' := (mkF m 66 #[.val (.int p0), .val (.int p1), .val (.int p2), .val (.int p3), .val (.int p4), .val (.int p5), .val (.int (p0 &&& (2147483647 : Int32))), .val (.int (p0 &&& (2147483647 : Int32))), .val (.int (p2 &&& (2147483647 : Int32))), .val (.int (p0 &&& (2147483647 : Int32))), .val (.int ((p4 &&& (7 : Int32)) % (5 : Int32))), .unset, .unset, .unset, .unset] [(.int (((p4.toUInt32 >>> ((5 : Int32) &&& 31).toUInt32).toInt32) &&& (7 : Int32)))])) (fun _ kt => XS.iand X0.here hx rfl (hb hby at_65) rfl kt) ?_
      refine Rch.of (T' := T0) (g' := (mkF m 68 #[.val (.int p0), .val (.int p1), .val (.int p2), .val (.int p3), .val (.int p4), .val (.int p5), .val (.int (p0 &&& (2147483647 : Int32))), .val (.int (p0 &&& (2147483647 : Int32))), .val (.int (p2 &&& (2147483647 : Int32))), .val (.int (p0 &&& (2147483647 : Int32))), .val (.int ((p4 &&& (7 : Int32)) % (5 : Int32))), .val (.int (((p4.toUInt32 >>> ((5 : Int32) &&& 31).toUInt32).toInt32) &&& (7 : Int32))), .unset, .unset, .unset] [])) (fun _ kt => XS.istore X0.here hx rfl (hb hby at_66) rfl (l' := #[.val (.int p0), .val (.int p1), .val (.int p2), .val (.int p3), .val (.int p4), .val (.int p5), .val (.int (p0 &&& (2147483647 : Int32))), .val (.int (p0 &&& (2147483647 : Int32))), .val (.int (p2 &&& (2147483647 : Int32))), .val (.int (p0 &&& (2147483647 : Int32))), .val (.int ((p4 &&& (7 : Int32)) % (5 : Int32))), .val (.int (((p4.toUInt32 >>> ((5 : Int32) &&& 31).toUInt32).toInt32) &&& (7 : Int32))), .unset, .unset, .unset]) rfl kt) ?_
      refine Rch.of (T' := T0) (g' := (mkF m 70 #[.val (.int p0), .val (.int p1), .val (.int p2), .val (.int p3), .val (.int p4), .val (.int p5), .val (.int (p0 &&& (2147483647 : Int32))), .val (.int (p0 &&& (2147483647 : Int32))), .val (.int (p2 &&& (2147483647 : Int32))), .val (.int (p0 &&& (2147483647 : Int32))), .val (.int ((p4 &&& (7 : Int32)) % (5 : Int32))), .val (.int (((p4.toUInt32 >>> ((5 : Int32) &&& 31).toUInt32).toInt32) &&& (7 : Int32))), .unset, .unset, .unset] [(.int (((p4.toUInt32 >>> ((5 : Int32) &&& 31).toUInt32).toInt32) &&& (7 : Int32)))])) (fun _ kt => XS.iload X0.here hx rfl (hb hby at_68) rfl  kt) ?_
      by_cases c222 : (((p4.toUInt32 >>> ((5 : Int32) &&& 31).toUInt32).toInt32) &&& (7 : Int32)) = (0 : Int32)
      · skip
        refine Rch.of (T' := T0) (g' := (mkF m 73 #[.val (.int p0), .val (.int p1), .val (.int p2), .val (.int p3), .val (.int p4), .val (.int p5), .val (.int (p0 &&& (2147483647 : Int32))), .val (.int (p0 &&& (2147483647 : Int32))), .val (.int (p2 &&& (2147483647 : Int32))), .val (.int (p0 &&& (2147483647 : Int32))), .val (.int ((p4 &&& (7 : Int32)) % (5 : Int32))), .val (.int (((p4.toUInt32 >>> ((5 : Int32) &&& 31).toUInt32).toInt32) &&& (7 : Int32))), .unset, .unset, .unset] [])) (fun _ kt => XS.ifNo X0.here hx rfl (hb hby at_70) rfl ((if0 _ _).trans (teq c222).2) kt) ?_
        refine Rch.of (T' := T0) (g' := (mkF m 75 #[.val (.int p0), .val (.int p1), .val (.int p2), .val (.int p3), .val (.int p4), .val (.int p5), .val (.int (p0 &&& (2147483647 : Int32))), .val (.int (p0 &&& (2147483647 : Int32))), .val (.int (p2 &&& (2147483647 : Int32))), .val (.int (p0 &&& (2147483647 : Int32))), .val (.int ((p4 &&& (7 : Int32)) % (5 : Int32))), .val (.int (((p4.toUInt32 >>> ((5 : Int32) &&& 31).toUInt32).toInt32) &&& (7 : Int32))), .unset, .unset, .unset] [(.int (p0 &&& (2147483647 : Int32)))])) (fun _ kt => XS.iload X0.here hx rfl (hb hby at_73) rfl  kt) ?_
        refine Rch.of (T' := T0) (g' := (mkF m 77 #[.val (.int p0), .val (.int p1), .val (.int p2), .val (.int p3), .val (.int p4), .val (.int p5), .val (.int (p0 &&& (2147483647 : Int32))), .val (.int (p0 &&& (2147483647 : Int32))), .val (.int (p2 &&& (2147483647 : Int32))), .val (.int (p0 &&& (2147483647 : Int32))), .val (.int ((p4 &&& (7 : Int32)) % (5 : Int32))), .val (.int (((p4.toUInt32 >>> ((5 : Int32) &&& 31).toUInt32).toInt32) &&& (7 : Int32))), .val (.int (p0 &&& (2147483647 : Int32))), .unset, .unset] [])) (fun _ kt => XS.istore X0.here hx rfl (hb hby at_75) rfl (l' := #[.val (.int p0), .val (.int p1), .val (.int p2), .val (.int p3), .val (.int p4), .val (.int p5), .val (.int (p0 &&& (2147483647 : Int32))), .val (.int (p0 &&& (2147483647 : Int32))), .val (.int (p2 &&& (2147483647 : Int32))), .val (.int (p0 &&& (2147483647 : Int32))), .val (.int ((p4 &&& (7 : Int32)) % (5 : Int32))), .val (.int (((p4.toUInt32 >>> ((5 : Int32) &&& 31).toUInt32).toInt32) &&& (7 : Int32))), .val (.int (p0 &&& (2147483647 : Int32))), .unset, .unset]) rfl kt) ?_
        refine Rch.of (T' := T0) (g' := (mkF m 123 #[.val (.int p0), .val (.int p1), .val (.int p2), .val (.int p3), .val (.int p4), .val (.int p5), .val (.int (p0 &&& (2147483647 : Int32))), .val (.int (p0 &&& (2147483647 : Int32))), .val (.int (p2 &&& (2147483647 : Int32))), .val (.int (p0 &&& (2147483647 : Int32))), .val (.int ((p4 &&& (7 : Int32)) % (5 : Int32))), .val (.int (((p4.toUInt32 >>> ((5 : Int32) &&& 31).toUInt32).toInt32) &&& (7 : Int32))), .val (.int (p0 &&& (2147483647 : Int32))), .unset, .unset] [])) (fun _ kt => XS.goto X0.here hx rfl (pc0 := 77) (pc' := 123) rfl (hb hby at_77) (by decide) (by decide) kt) ?_
        exact J123 _ _ _ _ _ _ _ (own_msk _) (own_msk _) (own_msk _) (own_msk _) (own_five _)
      · skip
        refine Rch.of (T' := T0) (g' := (mkF m 80 #[.val (.int p0), .val (.int p1), .val (.int p2), .val (.int p3), .val (.int p4), .val (.int p5), .val (.int (p0 &&& (2147483647 : Int32))), .val (.int (p0 &&& (2147483647 : Int32))), .val (.int (p2 &&& (2147483647 : Int32))), .val (.int (p0 &&& (2147483647 : Int32))), .val (.int ((p4 &&& (7 : Int32)) % (5 : Int32))), .val (.int (((p4.toUInt32 >>> ((5 : Int32) &&& 31).toUInt32).toInt32) &&& (7 : Int32))), .unset, .unset, .unset] [])) (fun _ kt => XS.ifYes X0.here hx rfl (pc0 := 70) (pc' := 80) rfl (hb hby at_70) rfl ((if0 _ _).trans (feq c222).2) (by decide) (by decide) kt) ?_
        refine Rch.of (T' := T0) (g' := (mkF m 82 #[.val (.int p0), .val (.int p1), .val (.int p2), .val (.int p3), .val (.int p4), .val (.int p5), .val (.int (p0 &&& (2147483647 : Int32))), .val (.int (p0 &&& (2147483647 : Int32))), .val (.int (p2 &&& (2147483647 : Int32))), .val (.int (p0 &&& (2147483647 : Int32))), .val (.int ((p4 &&& (7 : Int32)) % (5 : Int32))), .val (.int (((p4.toUInt32 >>> ((5 : Int32) &&& 31).toUInt32).toInt32) &&& (7 : Int32))), .unset, .unset, .unset] [(.int (((p4.toUInt32 >>> ((5 : Int32) &&& 31).toUInt32).toInt32) &&& (7 : Int32)))])) (fun _ kt => XS.iload X0.here hx rfl (hb hby at_80) rfl  kt) ?_
        refine Rch.of (T' := T0) (g' := (mkF m 83 #[.val (.int p0), .val (.int p1), .val (.int p2), .val (.int p3), .val (.int p4), .val (.int p5), .val (.int (p0 &&& (2147483647 : Int32))), .val (.int (p0 &&& (2147483647 : Int32))), .val (.int (p2 &&& (2147483647 : Int32))), .val (.int (p0 &&& (2147483647 : Int32))), .val (.int ((p4 &&& (7 : Int32)) % (5 : Int32))), .val (.int (((p4.toUInt32 >>> ((5 : Int32) &&& 31).toUInt32).toInt32) &&& (7 : Int32))), .unset, .unset, .unset] [(.int (1 : Int32)), (.int (((p4.toUInt32 >>> ((5 : Int32) &&& 31).toUInt32).toInt32) &&& (7 : Int32)))])) (fun _ kt => XS.iconst X0.here hx rfl (hb hby at_82) kt) ?_
        by_cases c223 : (((p4.toUInt32 >>> ((5 : Int32) &&& 31).toUInt32).toInt32) &&& (7 : Int32)) = (1 : Int32)
        · skip
          refine Rch.of (T' := T0) (g' := (mkF m 86 #[.val (.int p0), .val (.int p1), .val (.int p2), .val (.int p3), .val (.int p4), .val (.int p5), .val (.int (p0 &&& (2147483647 : Int32))), .val (.int (p0 &&& (2147483647 : Int32))), .val (.int (p2 &&& (2147483647 : Int32))), .val (.int (p0 &&& (2147483647 : Int32))), .val (.int ((p4 &&& (7 : Int32)) % (5 : Int32))), .val (.int (((p4.toUInt32 >>> ((5 : Int32) &&& 31).toUInt32).toInt32) &&& (7 : Int32))), .unset, .unset, .unset] [])) (fun _ kt => XS.icmpNo X0.here hx rfl (hb hby at_83) rfl (teq c223).2 kt) ?_
          refine Rch.of (T' := T0) (g' := (mkF m 88 #[.val (.int p0), .val (.int p1), .val (.int p2), .val (.int p3), .val (.int p4), .val (.int p5), .val (.int (p0 &&& (2147483647 : Int32))), .val (.int (p0 &&& (2147483647 : Int32))), .val (.int (p2 &&& (2147483647 : Int32))), .val (.int (p0 &&& (2147483647 : Int32))), .val (.int ((p4 &&& (7 : Int32)) % (5 : Int32))), .val (.int (((p4.toUInt32 >>> ((5 : Int32) &&& 31).toUInt32).toInt32) &&& (7 : Int32))), .unset, .unset, .unset] [(.int (p0 &&& (2147483647 : Int32)))])) (fun _ kt => XS.iload X0.here hx rfl (hb hby at_86) rfl  kt) ?_
          refine Rch.of (T' := T0) (g' := (mkF m 90 #[.val (.int p0), .val (.int p1), .val (.int p2), .val (.int p3), .val (.int p4), .val (.int p5), .val (.int (p0 &&& (2147483647 : Int32))), .val (.int (p0 &&& (2147483647 : Int32))), .val (.int (p2 &&& (2147483647 : Int32))), .val (.int (p0 &&& (2147483647 : Int32))), .val (.int ((p4 &&& (7 : Int32)) % (5 : Int32))), .val (.int (((p4.toUInt32 >>> ((5 : Int32) &&& 31).toUInt32).toInt32) &&& (7 : Int32))), .val (.int (p0 &&& (2147483647 : Int32))), .unset, .unset] [])) (fun _ kt => XS.istore X0.here hx rfl (hb hby at_88) rfl (l' := #[.val (.int p0), .val (.int p1), .val (.int p2), .val (.int p3), .val (.int p4), .val (.int p5), .val (.int (p0 &&& (2147483647 : Int32))), .val (.int (p0 &&& (2147483647 : Int32))), .val (.int (p2 &&& (2147483647 : Int32))), .val (.int (p0 &&& (2147483647 : Int32))), .val (.int ((p4 &&& (7 : Int32)) % (5 : Int32))), .val (.int (((p4.toUInt32 >>> ((5 : Int32) &&& 31).toUInt32).toInt32) &&& (7 : Int32))), .val (.int (p0 &&& (2147483647 : Int32))), .unset, .unset]) rfl kt) ?_
          refine Rch.of (T' := T0) (g' := (mkF m 123 #[.val (.int p0), .val (.int p1), .val (.int p2), .val (.int p3), .val (.int p4), .val (.int p5), .val (.int (p0 &&& (2147483647 : Int32))), .val (.int (p0 &&& (2147483647 : Int32))), .val (.int (p2 &&& (2147483647 : Int32))), .val (.int (p0 &&& (2147483647 : Int32))), .val (.int ((p4 &&& (7 : Int32)) % (5 : Int32))), .val (.int (((p4.toUInt32 >>> ((5 : Int32) &&& 31).toUInt32).toInt32) &&& (7 : Int32))), .val (.int (p0 &&& (2147483647 : Int32))), .unset, .unset] [])) (fun _ kt => XS.goto X0.here hx rfl (pc0 := 90) (pc' := 123) rfl (hb hby at_90) (by decide) (by decide) kt) ?_
          exact J123 _ _ _ _ _ _ _ (own_msk _) (own_msk _) (own_msk _) (own_msk _) (own_five _)
        · skip
          refine Rch.of (T' := T0) (g' := (mkF m 93 #[.val (.int p0), .val (.int p1), .val (.int p2), .val (.int p3), .val (.int p4), .val (.int p5), .val (.int (p0 &&& (2147483647 : Int32))), .val (.int (p0 &&& (2147483647 : Int32))), .val (.int (p2 &&& (2147483647 : Int32))), .val (.int (p0 &&& (2147483647 : Int32))), .val (.int ((p4 &&& (7 : Int32)) % (5 : Int32))), .val (.int (((p4.toUInt32 >>> ((5 : Int32) &&& 31).toUInt32).toInt32) &&& (7 : Int32))), .unset, .unset, .unset] [])) (fun _ kt => XS.icmpYes X0.here hx rfl (pc0 := 83) (pc' := 93) rfl (hb hby at_83) rfl (feq c223).2 (by decide) (by decide) kt) ?_
          refine Rch.of (T' := T0) (g' := (mkF m 95 #[.val (.int p0), .val (.int p1), .val (.int p2), .val (.int p3), .val (.int p4), .val (.int p5), .val (.int (p0 &&& (2147483647 : Int32))), .val (.int (p0 &&& (2147483647 : Int32))), .val (.int (p2 &&& (2147483647 : Int32))), .val (.int (p0 &&& (2147483647 : Int32))), .val (.int ((p4 &&& (7 : Int32)) % (5 : Int32))), .val (.int (((p4.toUInt32 >>> ((5 : Int32) &&& 31).toUInt32).toInt32) &&& (7 : Int32))), .unset, .unset, .unset] [(.int (((p4.toUInt32 >>> ((5 : Int32) &&& 31).toUInt32).toInt32) &&& (7 : Int32)))])) (fun _ kt => XS.iload X0.here hx rfl (hb hby at_93) rfl  kt) ?_
          refine Rch.of (T' := T0) (g' := (mkF m 96 #[.val (.int p0), .val (.int p1), .val (.int p2), .val (.int p3), .val (.int p4), .val (.int p5), .val (.int (p0 &&& (2147483647 : Int32))), .val (.int (p0 &&& (2147483647 : Int32))), .val (.int (p2 &&& (2147483647 : Int32))), .val (.int (p0 &&& (2147483647 : Int32))), .val (.int ((p4 &&& (7 : Int32)) % (5 : Int32))), .val (.int (((p4.toUInt32 >>> ((5 : Int32) &&& 31).toUInt32).toInt32) &&& (7 : Int32))), .unset, .unset, .unset] [(.int (2 : Int32)), (.int (((p4.toUInt32 >>> ((5 : Int32) &&& 31).toUInt32).toInt32) &&& (7 : Int32)))])) (fun _ kt => XS.iconst X0.here hx rfl (hb hby at_95) kt) ?_
          by_cases c224 : (((p4.toUInt32 >>> ((5 : Int32) &&& 31).toUInt32).toInt32) &&& (7 : Int32)) = (2 : Int32)
          · skip
            refine Rch.of (T' := T0) (g' := (mkF m 99 #[.val (.int p0), .val (.int p1), .val (.int p2), .val (.int p3), .val (.int p4), .val (.int p5), .val (.int (p0 &&& (2147483647 : Int32))), .val (.int (p0 &&& (2147483647 : Int32))), .val (.int (p2 &&& (2147483647 : Int32))), .val (.int (p0 &&& (2147483647 : Int32))), .val (.int ((p4 &&& (7 : Int32)) % (5 : Int32))), .val (.int (((p4.toUInt32 >>> ((5 : Int32) &&& 31).toUInt32).toInt32) &&& (7 : Int32))), .unset, .unset, .unset] [])) (fun _ kt => XS.icmpNo X0.here hx rfl (hb hby at_96) rfl (teq c224).2 kt) ?_
            refine Rch.of (T' := T0) (g' := (mkF m 101 #[.val (.int p0), .val (.int p1), .val (.int p2), .val (.int p3), .val (.int p4), .val (.int p5), .val (.int (p0 &&& (2147483647 : Int32))), .val (.int (p0 &&& (2147483647 : Int32))), .val (.int (p2 &&& (2147483647 : Int32))), .val (.int (p0 &&& (2147483647 : Int32))), .val (.int ((p4 &&& (7 : Int32)) % (5 : Int32))), .val (.int (((p4.toUInt32 >>> ((5 : Int32) &&& 31).toUInt32).toInt32) &&& (7 : Int32))), .unset, .unset, .unset] [(.int (p2 &&& (2147483647 : Int32)))])) (fun _ kt => XS.iload X0.here hx rfl (hb hby at_99) rfl  kt) ?_
            refine Rch.of (T' := T0) (g' := (mkF m 103 #[.val (.int p0), .val (.int p1), .val (.int p2), .val (.int p3), .val (.int p4), .val (.int p5), .val (.int (p0 &&& (2147483647 : Int32))), .val (.int (p0 &&& (2147483647 : Int32))), .val (.int (p2 &&& (2147483647 : Int32))), .val (.int (p0 &&& (2147483647 : Int32))), .val (.int ((p4 &&& (7 : Int32)) % (5 : Int32))), .val (.int (((p4.toUInt32 >>> ((5 : Int32) &&& 31).toUInt32).toInt32) &&& (7 : Int32))), .val (.int (p2 &&& (2147483647 : Int32))), .unset, .unset] [])) (fun _ kt => XS.istore X0.here hx rfl (hb hby at_101) rfl (l' := #[.val (.int p0), .val (.int p1), .val (.int p2), .val (.int p3), .val (.int p4), .val (.int p5), .val (.int (p0 &&& (2147483647 : Int32))), .val (.int (p0 &&& (2147483647 : Int32))), .val (.int (p2 &&& (2147483647 : Int32))), .val (.int (p0 &&& (2147483647 : Int32))), .val (.int ((p4 &&& (7 : Int32)) % (5 : Int32))), .val (.int (((p4.toUInt32 >>> ((5 : Int32) &&& 31).toUInt32).toInt32) &&& (7 : Int32))), .val (.int (p2 &&& (2147483647 : Int32))), .unset, .unset]) rfl kt) ?_
            refine Rch.of (T' := T0) (g' := (mkF m 123 #[.val (.int p0), .val (.int p1), .val (.int p2), .val (.int p3), .val (.int p4), .val (.int p5), .val (.int (p0 &&& (2147483647 : Int32))), .val (.int (p0 &&& (2147483647 : Int32))), .val (.int (p2 &&& (2147483647 : Int32))), .val (.int (p0 &&& (2147483647 : Int32))), .val (.int ((p4 &&& (7 : Int32)) % (5 : Int32))), .val (.int (((p4.toUInt32 >>> ((5 : Int32) &&& 31).toUInt32).toInt32) &&& (7 : Int32))), .val (.int (p2 &&& (2147483647 : Int32))), .unset, .unset] [])) (fun _ kt => XS.goto X0.here hx rfl (pc0 := 103) (pc' := 123) rfl (hb hby at_103) (by decide) (by decide) kt) ?_
            exact J123 _ _ _ _ _ _ _ (own_msk _) (own_msk _) (own_msk _) (own_msk _) (own_five _)
          · skip
            refine Rch.of (T' := T0) (g' := (mkF m 106 #[.val (.int p0), .val (.int p1), .val (.int p2), .val (.int p3), .val (.int p4), .val (.int p5), .val (.int (p0 &&& (2147483647 : Int32))), .val (.int (p0 &&& (2147483647 : Int32))), .val (.int (p2 &&& (2147483647 : Int32))), .val (.int (p0 &&& (2147483647 : Int32))), .val (.int ((p4 &&& (7 : Int32)) % (5 : Int32))), .val (.int (((p4.toUInt32 >>> ((5 : Int32) &&& 31).toUInt32).toInt32) &&& (7 : Int32))), .unset, .unset, .unset] [])) (fun _ kt => XS.icmpYes X0.here hx rfl (pc0 := 96) (pc' := 106) rfl (hb hby at_96) rfl (feq c224).2 (by decide) (by decide) kt) ?_
            refine Rch.of (T' := T0) (g' := (mkF m 108 #[.val (.int p0), .val (.int p1), .val (.int p2), .val (.int p3), .val (.int p4), .val (.int p5), .val (.int (p0 &&& (2147483647 : Int32))), .val (.int (p0 &&& (2147483647 : Int32))), .val (.int (p2 &&& (2147483647 : Int32))), .val (.int (p0 &&& (2147483647 : Int32))), .val (.int ((p4 &&& (7 : Int32)) % (5 : Int32))), .val (.int (((p4.toUInt32 >>> ((5 : Int32) &&& 31).toUInt32).toInt32) &&& (7 : Int32))), .unset, .unset, .unset] [(.int (((p4.toUInt32 >>> ((5 : Int32) &&& 31).toUInt32).toInt32) &&& (7 : Int32)))])) (fun _ kt => XS.iload X0.here hx rfl (hb hby at_106) rfl  kt) ?_
            refine Rch.of (T' := T0) (g' := (mkF m 109 #[.val (.int p0), .val (.int p1), .val (.int p2), .val (.int p3), .val (.int p4), .val (.int p5), .val (.int (p0 &&& (2147483647 : Int32))), .val (.int (p0 &&& (2147483647 : Int32))), .val (.int (p2 &&& (2147483647 : Int32))), .val (.int (p0 &&& (2147483647 : Int32))), .val (.int ((p4 &&& (7 : Int32)) % (5 : Int32))), .val (.int (((p4.toUInt32 >>> ((5 : Int32) &&& 31).toUInt32).toInt32) &&& (7 : Int32))), .unset, .unset, .unset] [(.int (3 : Int32)), (.int (((p4.toUInt32 >>> ((5 : Int32) &&& 31).toUInt32).toInt32) &&& (7 : Int32)))])) (fun _ kt => XS.iconst X0.here hx rfl (hb hby at_108) kt) ?_
            by_cases c225 : (((p4.toUInt32 >>> ((5 : Int32) &&& 31).toUInt32).toInt32) &&& (7 : Int32)) = (3 : Int32)
            · skip
              refine Rch.of (T' := T0) (g' := (mkF m 112 #[.val (.int p0), .val (.int p1), .val (.int p2), .val (.int p3), .val (.int p4), .val (.int p5), .val (.int (p0 &&& (2147483647 : Int32))), .val (.int (p0 &&& (2147483647 : Int32))), .val (.int (p2 &&& (2147483647 : Int32))), .val (.int (p0 &&& (2147483647 : Int32))), .val (.int ((p4 &&& (7 : Int32)) % (5 : Int32))), .val (.int (((p4.toUInt32 >>> ((5 : Int32) &&& 31).toUInt32).toInt32) &&& (7 : Int32))), .unset, .unset, .unset] [])) (fun _ kt => XS.icmpNo X0.here hx rfl (hb hby at_109) rfl (teq c225).2 kt) ?_
              refine Rch.of (T' := T0) (g' := (mkF m 114 #[.val (.int p0), .val (.int p1), .val (.int p2), .val (.int p3), .val (.int p4), .val (.int p5), .val (.int (p0 &&& (2147483647 : Int32))), .val (.int (p0 &&& (2147483647 : Int32))), .val (.int (p2 &&& (2147483647 : Int32))), .val (.int (p0 &&& (2147483647 : Int32))), .val (.int ((p4 &&& (7 : Int32)) % (5 : Int32))), .val (.int (((p4.toUInt32 >>> ((5 : Int32) &&& 31).toUInt32).toInt32) &&& (7 : Int32))), .unset, .unset, .unset] [(.int (p0 &&& (2147483647 : Int32)))])) (fun _ kt => XS.iload X0.here hx rfl (hb hby at_112) rfl  kt) ?_
              refine Rch.of (T' := T0) (g' := (mkF m 116 #[.val (.int p0), .val (.int p1), .val (.int p2), .val (.int p3), .val (.int p4), .val (.int p5), .val (.int (p0 &&& (2147483647 : Int32))), .val (.int (p0 &&& (2147483647 : Int32))), .val (.int (p2 &&& (2147483647 : Int32))), .val (.int (p0 &&& (2147483647 : Int32))), .val (.int ((p4 &&& (7 : Int32)) % (5 : Int32))), .val (.int (((p4.toUInt32 >>> ((5 : Int32) &&& 31).toUInt32).toInt32) &&& (7 : Int32))), .val (.int (p0 &&& (2147483647 : Int32))), .unset, .unset] [])) (fun _ kt => XS.istore X0.here hx rfl (hb hby at_114) rfl (l' := #[.val (.int p0), .val (.int p1), .val (.int p2), .val (.int p3), .val (.int p4), .val (.int p5), .val (.int (p0 &&& (2147483647 : Int32))), .val (.int (p0 &&& (2147483647 : Int32))), .val (.int (p2 &&& (2147483647 : Int32))), .val (.int (p0 &&& (2147483647 : Int32))), .val (.int ((p4 &&& (7 : Int32)) % (5 : Int32))), .val (.int (((p4.toUInt32 >>> ((5 : Int32) &&& 31).toUInt32).toInt32) &&& (7 : Int32))), .val (.int (p0 &&& (2147483647 : Int32))), .unset, .unset]) rfl kt) ?_
              refine Rch.of (T' := T0) (g' := (mkF m 123 #[.val (.int p0), .val (.int p1), .val (.int p2), .val (.int p3), .val (.int p4), .val (.int p5), .val (.int (p0 &&& (2147483647 : Int32))), .val (.int (p0 &&& (2147483647 : Int32))), .val (.int (p2 &&& (2147483647 : Int32))), .val (.int (p0 &&& (2147483647 : Int32))), .val (.int ((p4 &&& (7 : Int32)) % (5 : Int32))), .val (.int (((p4.toUInt32 >>> ((5 : Int32) &&& 31).toUInt32).toInt32) &&& (7 : Int32))), .val (.int (p0 &&& (2147483647 : Int32))), .unset, .unset] [])) (fun _ kt => XS.goto X0.here hx rfl (pc0 := 116) (pc' := 123) rfl (hb hby at_116) (by decide) (by decide) kt) ?_
              exact J123 _ _ _ _ _ _ _ (own_msk _) (own_msk _) (own_msk _) (own_msk _) (own_five _)
            · skip
              refine Rch.of (T' := T0) (g' := (mkF m 119 #[.val (.int p0), .val (.int p1), .val (.int p2), .val (.int p3), .val (.int p4), .val (.int p5), .val (.int (p0 &&& (2147483647 : Int32))), .val (.int (p0 &&& (2147483647 : Int32))), .val (.int (p2 &&& (2147483647 : Int32))), .val (.int (p0 &&& (2147483647 : Int32))), .val (.int ((p4 &&& (7 : Int32)) % (5 : Int32))), .val (.int (((p4.toUInt32 >>> ((5 : Int32) &&& 31).toUInt32).toInt32) &&& (7 : Int32))), .unset, .unset, .unset] [])) (fun _ kt => XS.icmpYes X0.here hx rfl (pc0 := 109) (pc' := 119) rfl (hb hby at_109) rfl (feq c225).2 (by decide) (by decide) kt) ?_
              refine Rch.of (T' := T0) (g' := (mkF m 121 #[.val (.int p0), .val (.int p1), .val (.int p2), .val (.int p3), .val (.int p4), .val (.int p5), .val (.int (p0 &&& (2147483647 : Int32))), .val (.int (p0 &&& (2147483647 : Int32))), .val (.int (p2 &&& (2147483647 : Int32))), .val (.int (p0 &&& (2147483647 : Int32))), .val (.int ((p4 &&& (7 : Int32)) % (5 : Int32))), .val (.int (((p4.toUInt32 >>> ((5 : Int32) &&& 31).toUInt32).toInt32) &&& (7 : Int32))), .unset, .unset, .unset] [(.int p5)])) (fun _ kt => XS.iload X0.here hx rfl (hb hby at_119) rfl  kt) ?_
              refine Rch.of (T' := T0) (g' := (mkF m 123 #[.val (.int p0), .val (.int p1), .val (.int p2), .val (.int p3), .val (.int p4), .val (.int p5), .val (.int (p0 &&& (2147483647 : Int32))), .val (.int (p0 &&& (2147483647 : Int32))), .val (.int (p2 &&& (2147483647 : Int32))), .val (.int (p0 &&& (2147483647 : Int32))), .val (.int ((p4 &&& (7 : Int32)) % (5 : Int32))), .val (.int (((p4.toUInt32 >>> ((5 : Int32) &&& 31).toUInt32).toInt32) &&& (7 : Int32))), .val (.int p5), .unset, .unset] [])) (fun _ kt => XS.istore X0.here hx rfl (hb hby at_121) rfl (l' := #[.val (.int p0), .val (.int p1), .val (.int p2), .val (.int p3), .val (.int p4), .val (.int p5), .val (.int (p0 &&& (2147483647 : Int32))), .val (.int (p0 &&& (2147483647 : Int32))), .val (.int (p2 &&& (2147483647 : Int32))), .val (.int (p0 &&& (2147483647 : Int32))), .val (.int ((p4 &&& (7 : Int32)) % (5 : Int32))), .val (.int (((p4.toUInt32 >>> ((5 : Int32) &&& 31).toUInt32).toInt32) &&& (7 : Int32))), .val (.int p5), .unset, .unset]) rfl kt) ?_
              exact J123 _ _ _ _ _ _ _ (own_msk _) (own_msk _) (own_msk _) (own_msk _) (own_five _)
set_option maxRecDepth 65536 in
set_option maxHeartbeats 40000000 in
theorem comes_1 {Post : Tables → Env → Array Value → State → Outcome → State → Prop} (hpost : ∀ tb e args s v u, (limb_1_1.after args s (.returned v) u = true ∧ limb_1_2.after args s (.returned v) u = true ∧ True) → FrameEnd s (.returned v) u (Jvm.fieldLocs frame_1_writes args s ++ Jvm.arrayLocs frame_1_arrays args s ++ Jvm.staticLocs frame_1_statics s) 16 448 → Post tb e args s (.returned v) u) :
    ArmFor flags0 classFile x code maxLocals ret World_1 tables_1 room_1 Calls_1 rest_1 Pre_1 Post := by
  intro l hfl _ _ p e ha hc hk s m args below hf hA hF happ hP
  obtain ⟨hcalls, hrest, hpre⟩ := hP
  obtain ⟨-, -, -, hnamed, -, -, -, hat⟩ := (Spec.applies_iff hf).mp happ
  obtain ⟨hg, hn⟩ := and_e (Cond.before_iff.mp (show (Jvm.Cond.and given_1 narrow_1).before args s = true from hpre))
  obtain ⟨g0, hg0⟩ := and_e hg
  obtain ⟨ga0, hg1⟩ := and_e hg0
  obtain ⟨ga1, hg2⟩ := and_e hg1
  obtain ⟨ga2, hg3⟩ := and_e hg2
  obtain ⟨ga3, hg4⟩ := and_e hg3
  obtain ⟨ga4, hg5⟩ := and_e hg4
  obtain ⟨w0, w1, w2, w3, w4, w5, rfl⟩ : ∃ w0 w1 w2 w3 w4 w5 : Value, args = #[w0, w1, w2, w3, w4, w5] := by
    have hs : args.size = 6 := by simpa [Cond.value, given_1] using g0
    obtain ⟨L⟩ := args
    match L, hs with
    | [w0, w1, w2, w3, w4, w5], _ => exact ⟨w0, w1, w2, w3, w4, w5, rfl⟩
  have hw := fun d (hd : d ∈ tables_1) => atoms_spec (ws := Jvm.Cond.code x code maxLocals ret :: tables_1) hat d (List.mem_cons_of_mem _ hd)
  obtain ⟨i0, ei0⟩ := is_v ga0
  obtain rfl : w0 = (.int i0) := Option.some.inj ei0
  obtain ⟨i1, ei1⟩ := is_v ga1
  obtain rfl : w1 = (.int i1) := Option.some.inj ei1
  obtain ⟨i2, ei2⟩ := is_v ga2
  obtain rfl : w2 = (.int i2) := Option.some.inj ei2
  obtain ⟨i3, ei3⟩ := is_v ga3
  obtain rfl : w3 = (.int i3) := Option.some.inj ei3
  obtain ⟨i4, ei4⟩ := is_v ga4
  obtain rfl : w4 = (.int i4) := Option.some.inj ei4
  obtain ⟨i5, ei5⟩ := is_v hg5
  obtain rfl : w5 = (.int i5) := Option.some.inj ei5
  have hfit : Fit s := fun {y c} hc i hi => by
    obtain ⟨ha, rfl⟩ := Array.getElem?_eq_some_iff.mp hc
    have q := List.all_eq_true.mp ((Array.all_eq_true_iff_forall_mem.mp hF) _ (Array.getElem_mem ha)) i (List.mem_range.mpr hi)
    simpa [Array.getElem?_eq_getElem hi] using q
  obtain ⟨n, o, h1, h2, h3, _, L, rfl, ⟨rfl, N, -⟩, hq⟩ := rm0 l s _ hw tables_1 i0 i1 i2 i3 i4 i5  s.heap s.heap.size (Nat.le_refl _)  p e ha hc hk s m _ below hf ((Spec.applies_iff_loose hf).mp happ).1 ⟨rfl, State.Warmed39.refl s, rfl⟩ trivial
  refine ⟨n, _, h1, h2, h3, hpost _ _ _ _ _ _ ⟨Cond.after_iff.mpr rfl, Cond.after_iff.mpr (eq_i res_at (Term.int_eval (1)) rfl), trivial⟩ ⟨hq.1, hq.2.1, (hq.2.2.sift fun y hy => Or.inr (N y hy)).mono (by decide) (by decide)⟩⟩
theorem main_1_1 : Claimed_1_1 := comes_1 fun _ _ _ _ _ _ h hF => ⟨h.1, hF⟩
theorem main_1_2 : Claimed_1_2 := comes_1 fun _ _ _ _ _ _ h hF => ⟨h.2.1, hF⟩
end Jvm.Pilot.@@N@@
namespace Jvm.Pilot.@@N@@
open Jvm Jvm.ClassFile Sem Op Lib Jvm.Free Jvm.Stand Jvm.Pilot.@@N@@.Jvm.D
/-! MADE BY PROGRAM (witnessworld.py) out of the Statement's table words and the real class files: 10 classes; the members and pool entries that the words name. The judged class is class 1, her method 1. -/
namespace start1
open Jvm.ClassFile
def u (s : String) : CpInfo := .utf8 (stringToUtf16 s)
/-- a pool by its gaps: so many unusable entries, then the entry; so many at the end -/
def gap : Nat → List CpInfo → List CpInfo
  | 0, r => r
  | n + 1, r => .unusable :: gap n r
def poolList (es : List (Nat × CpInfo)) (last : Nat) : List CpInfo := es.foldr (fun e r => gap e.1 (e.2 :: r)) (gap last [])
def pool (es : List (Nat × CpInfo)) (last : Nat) : Array CpInfo := ⟨poolList es last⟩
def fileOf (pool : Array CpInfo) (this : Nat) (attrs : Array Attribute := #[]) (ms : Array MethodInfo := #[]) (fl : Nat := 33) (sup : Nat := 0) (ifs : Array Nat := #[]) (fds : Array FieldInfo := #[]) : ClassFile where
  minorVersion := 0
  majorVersion := 65
  constantPool := pool
  accessFlags := fl
  thisClass := this
  superClass := sup
  interfaces := ifs
  fields := fds
  methods := ms
  attributes := attrs
def plain (name : String) (sup : Option ClassId) : Class where
  name := name
  kind := .ordinary
  loader := none
  accessFlags := 33
  super := sup
  interfaces := #[]
  cf := none
  fields := #[]
  methods := #[]
  instanceTypes := #[]
  staticTypes := #[]
  resolved := #[]
  callSites := []
  init := .initialized
  statics := none
  mirror := none

def pool0 : Array CpInfo := pool [(5, u "<init>"), (0, u "()V"), (1, .class_ 10), (1, u "java/lang/Object")] 113

def k0c0 : Code := { maxStack := 0, maxLocals := 1, code := object_method_1_code, exceptionTable := #[], attributes := #[] }
def k0m0 : Method := { name := "<init>", desc := "()V", sig := { parameters := [], returnType := none }, accessFlags := 1, code := some k0c0 }
/-- java/lang/Object -/
def k0 : Class := { plain "java/lang/Object" none with
  accessFlags := 33
  interfaces := #[]
  cf := some (fileOf pool0 8 #[] #[{ accessFlags := 1, nameIndex := 5, descriptorIndex := 6, attributes := #[] }] 33 0 #[] #[])
  fields := #[]
  methods := #[k0m0]
  instanceTypes := #[]
  staticTypes := #[]
  resolved := Array.replicate 124 none
  statics := none }

def pool1 : Array CpInfo := pool [(2, .class_ 4), (0, .nameAndType 5 6), (0, u "java/lang/Object"), (0, u "<init>"), (0, u "()V"), (0, .integer 2147483647), (0, .class_ 9), (0, u "com/example/ampliar/ampliar/service/TermNumbering"), (0, .methodref 8 3), (0, .methodref 8 12), (0, .nameAndType 13 14), (0, u "add"), (0, u "(I)I"), (0, .methodref 16 17), (0, .class_ 18), (0, .nameAndType 19 20), (0, u "com/example/ampliar/ampliar/service/TermNumberingFindPinLaw"), (0, u "expected"), (0, u "(IIIIII)I"), (0, .methodref 8 22), (0, .nameAndType 23 14), (0, u "find"), (2, u "law"), (0, u "(IIIIII)Z")] 3

def k1m0 : Method := { name := "<init>", desc := "()V", sig := { parameters := [], returnType := none }, accessFlags := 2, code := none }
def k1c1 : Code := { maxStack := 6, maxLocals := 15, code := code, exceptionTable := #[], attributes := #[] }
def k1m1 : Method := { name := "law", desc := "(IIIIII)Z", sig := { parameters := [.int, .int, .int, .int, .int, .int], returnType := some .boolean }, accessFlags := 9, code := some k1c1 }
def k1c2 : Code := { maxStack := 2, maxLocals := 8, code := method_3_code, exceptionTable := #[], attributes := #[] }
def k1m2 : Method := { name := "expected", desc := "(IIIIII)I", sig := { parameters := [.int, .int, .int, .int, .int, .int], returnType := some .int }, accessFlags := 10, code := some k1c2 }
/-- com/example/ampliar/ampliar/service/TermNumberingFindPinLaw -/
def k1 : Class := { plain "com/example/ampliar/ampliar/service/TermNumberingFindPinLaw" (some 0) with
  accessFlags := 49
  interfaces := #[]
  cf := some (fileOf pool1 16 #[] #[{ accessFlags := 2, nameIndex := 5, descriptorIndex := 6, attributes := #[] }, { accessFlags := 9, nameIndex := 26, descriptorIndex := 27, attributes := #[] }, { accessFlags := 10, nameIndex := 19, descriptorIndex := 20, attributes := #[] }] 49 2 #[] #[])
  fields := #[]
  methods := #[k1m0, k1m1, k1m2]
  instanceTypes := #[]
  staticTypes := #[]
  resolved := Array.replicate 31 none
  statics := none }

def pool2 : Array CpInfo := pool [(1, .methodref 2 3), (0, .class_ 4), (0, .nameAndType 5 6), (0, u "java/lang/Object"), (0, u "<init>"), (0, u "()V"), (0, .methodref 8 9), (0, .class_ 10), (0, .nameAndType 11 12), (0, u "com/example/ampliar/ampliar/service/TermNumbering"), (0, u "emptyTable"), (0, u "(I)[I"), (0, .fieldref 8 14), (0, .nameAndType 15 16), (0, u "table"), (0, u "[I"), (0, .fieldref 8 18), (0, .nameAndType 19 16), (0, u "numbered"), (0, .methodref 8 21), (0, .nameAndType 22 23), (0, u "slot"), (0, u "(I)I"), (0, .fieldref 8 25), (0, .nameAndType 26 27), (0, u "size"), (0, u "I"), (1, .class_ 31), (1, u "java/util/Arrays"), (5, .integer 2654435769), (0, .methodref 29 39), (0, .nameAndType 40 41), (0, u "fill"), (0, u "([II)V"), (0, u "EMPTY"), (4, u "add"), (1, u "find")] 5

def k2c0 : Code := { maxStack := 2, maxLocals := 1, code := prog_120_method_1_code, exceptionTable := #[], attributes := #[] }
def k2m0 : Method := { name := "<init>", desc := "()V", sig := { parameters := [], returnType := none }, accessFlags := 0, code := some k2c0 }
def k2c1 : Code := { maxStack := 4, maxLocals := 3, code := prog_120_method_2_code, exceptionTable := #[], attributes := #[] }
def k2m1 : Method := { name := "add", desc := "(I)I", sig := { parameters := [.int], returnType := some .int }, accessFlags := 0, code := some k2c1 }
def k2c2 : Code := { maxStack := 3, maxLocals := 3, code := prog_120_method_3_code, exceptionTable := #[], attributes := #[] }
def k2m2 : Method := { name := "find", desc := "(I)I", sig := { parameters := [.int], returnType := some .int }, accessFlags := 0, code := some k2c2 }
def k2c3 : Code := { maxStack := 3, maxLocals := 5, code := prog_120_method_6_code, exceptionTable := #[], attributes := #[] }
def k2m3 : Method := { name := "slot", desc := "(I)I", sig := { parameters := [.int], returnType := some .int }, accessFlags := 2, code := some k2c3 }
def k2c4 : Code := { maxStack := 2, maxLocals := 2, code := prog_120_method_8_code, exceptionTable := #[], attributes := #[] }
def k2m4 : Method := { name := "emptyTable", desc := "(I)[I", sig := { parameters := [.int], returnType := some (.array .int) }, accessFlags := 10, code := some k2c4 }
/-- com/example/ampliar/ampliar/service/TermNumbering -/
def k2 : Class := { plain "com/example/ampliar/ampliar/service/TermNumbering" (some 0) with
  accessFlags := 48
  interfaces := #[]
  cf := some (fileOf pool2 8 #[] #[{ accessFlags := 0, nameIndex := 5, descriptorIndex := 6, attributes := #[] }, { accessFlags := 0, nameIndex := 47, descriptorIndex := 23, attributes := #[] }, { accessFlags := 0, nameIndex := 49, descriptorIndex := 23, attributes := #[] }, { accessFlags := 2, nameIndex := 22, descriptorIndex := 23, attributes := #[] }, { accessFlags := 10, nameIndex := 11, descriptorIndex := 12, attributes := #[] }] 48 2 #[] #[{ accessFlags := 26, nameIndex := 42, descriptorIndex := 27, attributes := #[] }, { accessFlags := 2, nameIndex := 15, descriptorIndex := 16, attributes := #[] }, { accessFlags := 2, nameIndex := 19, descriptorIndex := 16, attributes := #[] }, { accessFlags := 2, nameIndex := 26, descriptorIndex := 27, attributes := #[] }])
  fields := #[{ name := "EMPTY", type := .int, accessFlags := 26, slot := 0, constantValue := 0 }, { name := "table", type := (.array .int), accessFlags := 2, slot := 0, constantValue := 0 }, { name := "numbered", type := (.array .int), accessFlags := 2, slot := 1, constantValue := 0 }, { name := "size", type := .int, accessFlags := 2, slot := 2, constantValue := 0 }]
  methods := #[k2m0, k2m1, k2m2, k2m3, k2m4]
  instanceTypes := #[(.array .int), (.array .int), .int]
  staticTypes := #[.int]
  resolved := Array.replicate 55 none
  statics := none }

def pool3 : Array CpInfo := pool [(2, .class_ 4), (1, u "java/lang/Object"), (0, u "<init>"), (0, u "()V"), (7, .class_ 16), (1, u "java/util/Arrays"), (57, .class_ 76), (1, u "java/util/Arrays$NaturalOrder"), (36, .class_ 115), (1, u "java/util/Arrays$LegacyMergeSort"), (1, u "Z"), (257, .class_ 376), (0, u "java/util/Arrays$ArrayList"), (68, u "$assertionsDisabled"), (269, u "MIN_ARRAY_SORT_GRAN"), (0, u "I"), (2, u "INSERTIONSORT_THRESHOLD"), (120, u "fill"), (4, u "([II)V"), (129, .class_ 976), (0, u "java/util/Arrays$ArrayItr")] 52

def k3m0 : Method := { name := "<init>", desc := "()V", sig := { parameters := [], returnType := none }, accessFlags := 2, code := none }
def k3c1 : Code := { maxStack := 3, maxLocals := 4, code := jdk_65_method_103_code, exceptionTable := #[], attributes := #[] }
def k3m1 : Method := { name := "fill", desc := "([II)V", sig := { parameters := [(.array .int), .int], returnType := none }, accessFlags := 9, code := some k3c1 }
/-- java/util/Arrays -/
def k3 : Class := { plain "java/util/Arrays" (some 0) with
  accessFlags := 49
  interfaces := #[]
  cf := some (fileOf pool3 14 #[.nestMembers #[975, 375, 113, 74]] #[{ accessFlags := 2, nameIndex := 5, descriptorIndex := 6, attributes := #[] }, { accessFlags := 9, nameIndex := 840, descriptorIndex := 845, attributes := #[] }] 49 2 #[] #[{ accessFlags := 26, nameIndex := 715, descriptorIndex := 716, attributes := #[] }, { accessFlags := 26, nameIndex := 719, descriptorIndex := 716, attributes := #[] }, { accessFlags := 4120, nameIndex := 445, descriptorIndex := 117, attributes := #[] }])
  fields := #[{ name := "MIN_ARRAY_SORT_GRAN", type := .int, accessFlags := 26, slot := 0, constantValue := 0 }, { name := "INSERTIONSORT_THRESHOLD", type := .int, accessFlags := 26, slot := 1, constantValue := 0 }, { name := "$assertionsDisabled", type := .boolean, accessFlags := 4120, slot := 2, constantValue := 0 }]
  methods := #[k3m0, k3m1]
  instanceTypes := #[]
  staticTypes := #[.int, .int, .boolean]
  resolved := Array.replicate 1029 none
  statics := none }

def pool4 : Array CpInfo := pool [(1, u "java/lang/Cloneable"), (0, .class_ 1), (0, u "java/lang/Object"), (0, .class_ 3)] 3

/-- java/lang/Cloneable -/
def k4 : Class := { plain "java/lang/Cloneable" (some 0) with
  accessFlags := 1537
  interfaces := #[]
  cf := some (fileOf pool4 2 #[] #[] 1537 4 #[] #[])
  fields := #[]
  methods := #[]
  instanceTypes := #[]
  staticTypes := #[]
  resolved := Array.replicate 8 none
  statics := none }

def pool5 : Array CpInfo := pool [(1, u "java/io/Serializable"), (0, .class_ 1), (0, u "java/lang/Object"), (0, .class_ 3)] 3

/-- java/io/Serializable -/
def k5 : Class := { plain "java/io/Serializable" (some 0) with
  accessFlags := 1537
  interfaces := #[]
  cf := some (fileOf pool5 2 #[] #[] 1537 4 #[] #[])
  fields := #[]
  methods := #[]
  instanceTypes := #[]
  staticTypes := #[]
  resolved := Array.replicate 8 none
  statics := none }

/-- the primitive byte -/
def k6 : Class := { plain "byte" none with kind := .primitive 'B', accessFlags := 0x411 }
/-- [B -/
def k7 : Class := { plain "[B" (some 0) with kind := .array 6 .byte, interfaces := #[4, 5], accessFlags := 1041 }

/-- the primitive int -/
def k8 : Class := { plain "int" none with kind := .primitive 'I', accessFlags := 0x411 }
/-- [I -/
def k9 : Class := { plain "[I" (some 0) with kind := .array 8 .int, interfaces := #[4, 5], accessFlags := 1041 }

def heap : Heap := #[]
def classes : Array Class := #[k0, k1, k2, k3, k4, k5, k6, k7, k8, k9]
def interned : List (Array UInt16 × Addr) := []
def slotsUsed : Nat := 0
def theMethod : MethodId := ⟨1, 1⟩
def args0 : Array Value := #[.int 1, .int 2, .int 3, .int 4, .int 5, .int 6]
def aboutOver (below : List Frame) : State where
  vm := { classes := classes, interned := interned.toArray }
  heap := heap
  slotsUsed := slotsUsed
  threads := #[{ frames := .invoking theMethod args0 :: below }]
def below0 : List Frame := [.native { method := ⟨0, 0⟩, args := #[] }]
def about1 : State := aboutOver below0
def p0 : Program := .bare "" "" ""
def e0 : Env := launch0.env 0 0 0
theorem w_frames : about1.frames = Frame.invoking theMethod args0 :: below0 := rfl
set_option maxRecDepth 65536 in
theorem w_args : argsFit about1.vm theMethod args0 = true := by decide +kernel
set_option maxRecDepth 65536 in
theorem w_heap : heapFits about1 = true := by decide +kernel
set_option maxRecDepth 65536 in
theorem w_runnable : about1.curStatus? = some .runnable := by decide +kernel
set_option maxRecDepth 65536 in
theorem w_alone : about1.alone = true := by decide +kernel
set_option maxRecDepth 65536 in
theorem w_named : about1.methodNamed? x = some theMethod := by decide +kernel
set_option maxRecDepth 65536 in
theorem w_hears : about1.hears theMethod below0 = true := by decide +kernel
set_option maxRecDepth 65536 in
theorem w_ripe : about1.ripe theMethod args0 below0 = true := by decide +kernel
theorem w_running : about1.status = .running := rfl
set_option maxRecDepth 65536 in
theorem w_room : about1.hasRoom e0.platform room_1 = true :=
  launch0.hasRoom_least _ room_1 (by decide +kernel) (by decide +kernel) (by decide +kernel) (by decide +kernel) (by decide +kernel) (by decide +kernel)
theorem allAtoms_all (ts : List Jvm.Cond) (a : Array Jvm.Value) (st : Jvm.State) : (allAtoms ts).before a st = ts.all (fun c => c.before a st) := by
  induction ts with
  | nil => rfl
  | cons c t ih =>
    show (Jvm.Cond.and c (allAtoms t)).before a st = _
    rw [Jvm.Cond.before_and, ih, List.all_cons]
def words1 : List Jvm.Cond := Jvm.Cond.code x code maxLocals ret :: tables_1
/-- a 'code' word, met by the world's own term for the bytes: nothing is compared byte by byte -/
theorem code_word {y : MethodName} {bytes : ByteArray} {mx : Nat} {rt : Option FieldType} {a : Array Value} {s : State} {m : MethodId} {meth : Method} {c : Code} (h1 : s.methodNamed? y = some m) (h2 : s.vm.method? m = some meth) (h3 : meth.code = some c) (h4 : c.code = bytes)
    (h5 : (c.maxLocals == mx && c.exceptionTable.isEmpty && decide (c.maxStack ≤ mostOperands) && decide (meth.sig.returnType = rt) && !meth.locks && decide (parseMethodDescriptor y.desc = some meth.sig)) = true) : (Jvm.Cond.code y bytes mx rt).before a s = true := by
  simp only [Bool.and_eq_true, beq_iff_eq, Bool.not_eq_true', decide_eq_true_eq] at h5
  obtain ⟨⟨⟨⟨⟨g1, g2⟩, g3⟩, g4⟩, g5⟩, g6⟩ := h5
  simp [Cond.before, Cond.holds, Cond.value, h1, h2, h3, h4, g1, g2, g3, g4, g5, g6]
def isCode : Jvm.Cond → Bool
  | .code _ _ _ _ => true
  | _ => false
theorem all_split {L : List Jvm.Cond} {P : Jvm.Cond → Bool} (h1 : L.all (fun c => isCode c || P c) = true) (h2 : ∀ c ∈ L.filter isCode, P c = true) : L.all P = true := by
  refine List.all_eq_true.mpr fun c hc => ?_
  have h := List.all_eq_true.mp h1 c hc
  rcases Bool.eq_false_or_eq_true (isCode c) with hi | hi
  · exact h2 c (List.mem_filter.mpr ⟨hc, hi⟩)
  · simpa [hi] using h
set_option maxRecDepth 65536 in
theorem w_c0 : (Jvm.Cond.code x code maxLocals ret).before args0 about1 = true := code_word (m := ⟨1, 1⟩) (meth := k1m1) (c := k1c1) (by decide +kernel) rfl rfl rfl (by decide +kernel)
set_option maxRecDepth 65536 in
theorem w_c1 : (Jvm.Cond.code ({ cls := "com/example/ampliar/ampliar/service/TermNumbering", name := "<init>", desc := "()V" } : Jvm.MethodName) prog_120_method_1_code (1 : Nat) (Option.none : Option Jvm.ClassFile.FieldType)).before args0 about1 = true := code_word (m := ⟨2, 0⟩) (meth := k2m0) (c := k2c0) (by decide +kernel) rfl rfl rfl (by decide +kernel)
set_option maxRecDepth 65536 in
theorem w_c2 : (Jvm.Cond.code ({ cls := "java/lang/Object", name := "<init>", desc := "()V" } : Jvm.MethodName) object_method_1_code (1 : Nat) (Option.none : Option Jvm.ClassFile.FieldType)).before args0 about1 = true := code_word (m := ⟨0, 0⟩) (meth := k0m0) (c := k0c0) (by decide +kernel) rfl rfl rfl (by decide +kernel)
set_option maxRecDepth 65536 in
theorem w_c3 : (Jvm.Cond.code ({ cls := "com/example/ampliar/ampliar/service/TermNumbering", name := "emptyTable", desc := "(I)[I" } : Jvm.MethodName) prog_120_method_8_code (2 : Nat) (Option.some (Jvm.ClassFile.FieldType.array Jvm.ClassFile.FieldType.int))).before args0 about1 = true := code_word (m := ⟨2, 4⟩) (meth := k2m4) (c := k2c4) (by decide +kernel) rfl rfl rfl (by decide +kernel)
set_option maxRecDepth 65536 in
theorem w_c4 : (Jvm.Cond.code ({ cls := "java/util/Arrays", name := "fill", desc := "([II)V" } : Jvm.MethodName) jdk_65_method_103_code (4 : Nat) (Option.none : Option Jvm.ClassFile.FieldType)).before args0 about1 = true := code_word (m := ⟨3, 1⟩) (meth := k3m1) (c := k3c1) (by decide +kernel) rfl rfl rfl (by decide +kernel)
set_option maxRecDepth 65536 in
theorem w_c5 : (Jvm.Cond.code ({ cls := "com/example/ampliar/ampliar/service/TermNumberingFindPinLaw", name := "expected", desc := "(IIIIII)I" } : Jvm.MethodName) method_3_code (8 : Nat) (Option.some Jvm.ClassFile.FieldType.int)).before args0 about1 = true := code_word (m := ⟨1, 2⟩) (meth := k1m2) (c := k1c2) (by decide +kernel) rfl rfl rfl (by decide +kernel)
set_option maxRecDepth 65536 in
theorem w_c6 : (Jvm.Cond.code ({ cls := "com/example/ampliar/ampliar/service/TermNumbering", name := "find", desc := "(I)I" } : Jvm.MethodName) prog_120_method_3_code (3 : Nat) (Option.some Jvm.ClassFile.FieldType.int)).before args0 about1 = true := code_word (m := ⟨2, 2⟩) (meth := k2m2) (c := k2c2) (by decide +kernel) rfl rfl rfl (by decide +kernel)
set_option maxRecDepth 65536 in
theorem w_c7 : (Jvm.Cond.code ({ cls := "com/example/ampliar/ampliar/service/TermNumbering", name := "slot", desc := "(I)I" } : Jvm.MethodName) prog_120_method_6_code (5 : Nat) (Option.some Jvm.ClassFile.FieldType.int)).before args0 about1 = true := code_word (m := ⟨2, 3⟩) (meth := k2m3) (c := k2c3) (by decide +kernel) rfl rfl rfl (by decide +kernel)
set_option maxRecDepth 65536 in
theorem w_c8 : (Jvm.Cond.code ({ cls := "com/example/ampliar/ampliar/service/TermNumbering", name := "add", desc := "(I)I" } : Jvm.MethodName) prog_120_method_2_code (3 : Nat) (Option.some Jvm.ClassFile.FieldType.int)).before args0 about1 = true := code_word (m := ⟨2, 1⟩) (meth := k2m1) (c := k2c1) (by decide +kernel) rfl rfl rfl (by decide +kernel)
def codes1 : List Jvm.Cond := [Jvm.Cond.code x code maxLocals ret, Jvm.Cond.code ({ cls := "com/example/ampliar/ampliar/service/TermNumbering", name := "<init>", desc := "()V" } : Jvm.MethodName) prog_120_method_1_code (1 : Nat) (Option.none : Option Jvm.ClassFile.FieldType), Jvm.Cond.code ({ cls := "java/lang/Object", name := "<init>", desc := "()V" } : Jvm.MethodName) object_method_1_code (1 : Nat) (Option.none : Option Jvm.ClassFile.FieldType), Jvm.Cond.code ({ cls := "com/example/ampliar/ampliar/service/TermNumbering", name := "emptyTable", desc := "(I)[I" } : Jvm.MethodName) prog_120_method_8_code (2 : Nat) (Option.some (Jvm.ClassFile.FieldType.array Jvm.ClassFile.FieldType.int)), Jvm.Cond.code ({ cls := "java/util/Arrays", name := "fill", desc := "([II)V" } : Jvm.MethodName) jdk_65_method_103_code (4 : Nat) (Option.none : Option Jvm.ClassFile.FieldType), Jvm.Cond.code ({ cls := "com/example/ampliar/ampliar/service/TermNumberingFindPinLaw", name := "expected", desc := "(IIIIII)I" } : Jvm.MethodName) method_3_code (8 : Nat) (Option.some Jvm.ClassFile.FieldType.int), Jvm.Cond.code ({ cls := "com/example/ampliar/ampliar/service/TermNumbering", name := "find", desc := "(I)I" } : Jvm.MethodName) prog_120_method_3_code (3 : Nat) (Option.some Jvm.ClassFile.FieldType.int), Jvm.Cond.code ({ cls := "com/example/ampliar/ampliar/service/TermNumbering", name := "slot", desc := "(I)I" } : Jvm.MethodName) prog_120_method_6_code (5 : Nat) (Option.some Jvm.ClassFile.FieldType.int), Jvm.Cond.code ({ cls := "com/example/ampliar/ampliar/service/TermNumbering", name := "add", desc := "(I)I" } : Jvm.MethodName) prog_120_method_2_code (3 : Nat) (Option.some Jvm.ClassFile.FieldType.int)]
set_option maxRecDepth 65536 in
theorem codes_eq : words1.filter isCode = codes1 := rfl
theorem w_codes : ∀ c ∈ words1.filter isCode, c.before args0 about1 = true := by
  rw [codes_eq]
  intro c hc
  simp only [codes1, List.mem_cons, List.not_mem_nil, or_false] at hc
  rcases hc with rfl | rfl | rfl | rfl | rfl | rfl | rfl | rfl | rfl
  · exact w_c0
  · exact w_c1
  · exact w_c2
  · exact w_c3
  · exact w_c4
  · exact w_c5
  · exact w_c6
  · exact w_c7
  · exact w_c8
set_option maxRecDepth 65536 in
theorem w_t1 : (words1.take 24).all (fun c => isCode c || c.before args0 about1) = true := by decide +kernel
set_option maxRecDepth 65536 in
theorem w_t2 : (words1.drop 24).all (fun c => isCode c || c.before args0 about1) = true := by decide +kernel
theorem w_tables : (allAtoms (Jvm.Cond.code x code maxLocals ret :: tables_1)).before args0 about1 = true := by
  rw [allAtoms_all]
  show words1.all (fun c => c.before args0 about1) = true
  refine all_split ?_ w_codes
  rw [← List.take_append_drop 24 words1, List.all_append, w_t1, w_t2]
  rfl
set_option maxRecDepth 65536 in
theorem w_case : (Jvm.Cond.and given_1 narrow_1).before args0 about1 = true := by decide +kernel
theorem w_applies : (headSpec (Jvm.Cond.code x code maxLocals ret :: tables_1) room_1).applies x e0.platform about1 = true :=
  (Spec.applies_iff w_frames).mpr ⟨w_running, w_runnable, w_alone, w_named, w_hears, w_ripe, w_room, w_tables⟩
theorem atStart : AtStart classFile x code maxLocals ret World_1 tables_1 room_1 Calls_1 rest_1 Pre_1 launch0 p0 e0 about1 theMethod args0 below0 :=
  ⟨lists_1, trivial, launch0.admits_env _ _ _, launch0.least_env, fairChoices_fair.cas, fairChoices_fair.clock, w_frames, w_args, w_heap, w_applies, trivial, trivial, w_case⟩
end start1
theorem witness_1 : WitnessClaimed_1 := ⟨start1.p0, start1.e0, start1.about1, start1.theMethod, start1.args0, start1.below0, start1.atStart⟩
end Jvm.Pilot.@@N@@
